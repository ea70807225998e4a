import PyProof.Rows.All
import Wide.All
import OpenK.AllK
import Wide.FinOn
import Lean
import PySem.Challenge.RW_wf0007_01
open PySem PySem.Spec PySem.Calls PySem.W PyProof.Rows
set_option Elab.async false
set_option compiler.extract_closed false
namespace Mine
set_option maxRecDepth 100000
section
open Sem (wp)
/-- codes that look into a bytearray which another holds -/
noncomputable def badIds : List String := ["bytearray.__contains__", "bytearray.__mod__", "bytearray.__rmod__", "_struct.pack_into.held", "bytearray.find.held"] ++ Builtin.Bytes.decodersThatHold
noncomputable def badCode : Code → Bool
  | .builtin id _ => badIds.contains id
  | _ => false
noncomputable def CleanB (Γ : PySem.Ctx) : Prop := ∀ x ∈ Γ.below, badCode x.1 = false
noncomputable def CleanC (Γ : PySem.Ctx) : Prop := badCode Γ.code = false ∧ CleanB Γ
noncomputable def wpCln {α : Type} (M : Model) (A : Around) (t : Sem α) (Q : α → Shared → Prop) (E : Value → Shared → Prop) (s : Shared) : Prop :=
  ∀ Γ p, Γ.In A → CleanC Γ → wp M Γ t (fun a _ s' => Q a s') (fun e _ s' => E e s') p s
noncomputable def codeCln (M : Model) (A : Around) (c : Code) (R : Result → Shared → Prop) (s : Shared) : Prop :=
  ∀ Γ p, Γ.code = c → Γ.Below A → CleanB Γ → wpCode M Γ R p s
variable {α β : Type} {M : Model} {A : Around} {E : Value → Shared → Prop} {s : Shared}
theorem cln_of {t : Sem α} {Q : α → Shared → Prop} (h : wpAny M A t Q E s) : wpCln M A t Q E s := fun Γ p hΓ _ => h Γ p hΓ
theorem cln_mono {t : Sem α} {Q Q' : α → Shared → Prop} {E' : Value → Shared → Prop} (h : wpCln M A t Q E s) (hQ : ∀ a s, Q a s → Q' a s) (hE : ∀ e s, E e s → E' e s) : wpCln M A t Q' E' s :=
  fun Γ p hΓ hc => Sem.wp_mono M Γ t (fun a _ s => hQ a s) (fun e _ s => hE e s) p s (h Γ p hΓ hc)
theorem cln_bind {m : Sem α} {f : α → Sem β} {Q : β → Shared → Prop} (h : wpCln M A m (fun a s' => wpCln M A (f a) Q E s') E s) : wpCln M A (m >>= f) Q E s := fun Γ p hΓ hc => by
  rw [Sem.wp_bind']
  exact Sem.wp_mono M Γ m (fun a p' s' h' => h' Γ p' hΓ hc) (fun _ _ _ h' => h') p s (h Γ p hΓ hc)
theorem cln_then {m : Sem α} {f : α → Sem β} {Q : β → Shared → Prop} (h : wpAny M A m (fun a s' => wpCln M A (f a) Q E s') E s) : wpCln M A (m >>= f) Q E s := cln_bind (cln_of h)
theorem cln_pure {a : α} {Q : α → Shared → Prop} (h : Q a s) : wpCln M A (pure a) Q E s := fun _ _ _ _ => h
theorem cln_holding {vs : List Value} {m : Sem α} {Q : α → Shared → Prop} (h : wpCln M A m Q E s) : wpCln M A (holding vs m) Q E s := fun Γ p hΓ hc => by rw [Sem.wp_holding]; exact h Γ p hΓ hc
theorem cln_onRaise {m : Sem α} {k : Value → Sem Unit} {Q : α → Shared → Prop} (h : wpCln M A m Q (fun _ _ => False) s) : wpCln M A (m.onRaise k) Q E s := fun Γ p hΓ hc => by
  rw [Sem.wp_onRaise]
  exact Sem.wp_mono M Γ m (fun _ _ _ h' => h') (fun _ _ _ h' => h'.elim) p s (h Γ p hΓ hc)
theorem cln_standAt {pos : Pos} {Q : Unit → Shared → Prop} (h : Q () s) : wpCln M A (standAt pos) Q E s := fun _ _ _ _ => h
theorem clean_enter {Γ : PySem.Ctx} {c : Code} {h : Option Value} {p : Pos} (hc : CleanC Γ) : CleanB (Γ.enter c h p) := fun x hx => by
  rcases List.mem_cons.mp hx with rfl | hx
  · exact hc.1
  · exact hc.2 x hx
theorem cln_runValue {c : Code} {Q : Value → Shared → Prop}
    (hc : codeCln M A c (fun r s' => match r with | .ok (.ret v) => Q v s' | .ok _ => False | .error e => E e s') s) : wpCln M A (runValue c) Q E s :=
  fun Γ p hΓ hcl => by rw [Sem.wp_runValue]; exact hc _ p rfl (hΓ.enter c none p (by intro x; cases x)) (clean_enter hcl)
theorem cln_call {f : Value} {pos : List Value} {kw : List (Str × Value)} {Q : Value → Shared → Prop}
    (hc : codeCln M A (.call f ⟨pos, kw⟩) (fun r s' => match r with | .ok (.ret v) => Q v s' | .ok _ => False | .error e => E e s') s) : wpCln M A (call f pos kw) Q E s := cln_runValue hc
theorem cln_run {c : Code} {Q : Flow → Shared → Prop}
    (hc : codeCln M A c (fun r s' => match r with | .ok f => Q f s' | .error e => E e s') s) : wpCln M A (run c none) Q E s :=
  fun Γ p hΓ hcl => by
    rw [Sem.wp_run]
    refine hc _ p rfl ?_ (clean_enter hcl)
    exact hΓ.enter c none p (by intro x; cases x)
theorem codeCln_mono {c : Code} {R R' : Result → Shared → Prop} (h : codeCln M A c R s) (hR : ∀ r s, R r s → R' r s) : codeCln M A c R' s :=
  fun Γ p hc hΓ hb => wpCode_mono hR (h Γ p hc hΓ hb)
theorem codeCln_of_tree {c : Code} {R : Result → Shared → Prop} (hb : badCode c = false)
    (h : wpCln M (A.under c) (M.den c) (fun fin s' => match fin with | .done f => R (.ok f) s' | .again c' => c'.quiet = true ∧ codeCln M A c' R s') (fun e s' => R (.error e) s') s) : codeCln M A c R s :=
  fun Γ p hc hΓ hcl => by
    rw [wpCode_iff_wp, hc]
    refine Sem.wp_mono M Γ _ (fun fin p' s' h' => ?_) (fun _ _ _ h' => h') p s (h Γ p (hc ▸ hΓ.in) ⟨hc ▸ hb, hcl⟩)
    cases fin with
    | done f => exact h'
    | again c' => exact ⟨h'.1, h'.2 (Γ.goto c') p' rfl (hΓ.goto c') hcl⟩
/-- the stack under a clean context shows no such code -/
theorem cln_stackAny {f : Code × Pos → Bool} {Q : Bool → Shared → Prop} (hf : ∀ c p, badCode c = false → f (c, p) = false) (h : Q false s) : wpCln M A (do return (← stack).any f) Q E s := fun Γ p _ hc => by
  show Q (((Γ.code, p) :: Γ.below).any f) s
  have e : ((Γ.code, p) :: Γ.below).any f = false := by
    rw [List.any_eq_false]
    intro x hx
    rcases List.mem_cons.mp hx with rfl | hx
    · rw [hf _ _ hc.1]; exact Bool.false_ne_true
    · rw [show x = (x.1, x.2) from rfl, hf _ _ (hc.2 x hx)]; exact Bool.false_ne_true
  rw [e]; exact h
end
noncomputable def Go (Q : Flow → Shared → Prop) : Flow → Shared → Prop := Q
structure Then (M : Model) (A : Around) (rest : List Stmt) (env : Env) (Q : Flow → Shared → Prop) (E : Value → Shared → Prop) (Q' : Flow → Shared → Prop) : Prop where
  next : ∀ s, wpAny M A (execs rest env) Q E s → Go Q' .next s
  other : ∀ f s, f ≠ .next → Q f s → Go Q' f s
theorem execs_go {M : Model} {A : Around} {st : Stmt} {rest : List Stmt} {env : Env} {Q : Flow → Shared → Prop} {E : Value → Shared → Prop} {s : Shared}
    (h : ∀ Q', Then M A rest env Q E Q' → wpAny M A (exec st env) (Go Q') E s) : wpAny M A (execs (st :: rest) env) Q E s :=
  wpAny_execs_cons (h (fun f s' => match f with | .next => wpAny M A (execs rest env) Q E s' | f => Q f s')
    ⟨fun _ h => h, fun f s' hf h => by cases f <;> first | exact absurd rfl hf | exact h⟩)
theorem execs_last {M : Model} {A : Around} {st : Stmt} {env : Env} {Q : Flow → Shared → Prop} {E : Value → Shared → Prop} {s : Shared}
    (h : wpAny M A (exec st env) Q E s) : wpAny M A (execs [st] env) Q E s :=
  wpAny_execs_cons (wpAny_mono h (fun f s' h => by cases f <;> first | exact wpAny_execs_nil h | exact h) fun _ _ h => h)
theorem execs_goT {M : Model} {A : Around} {st : Stmt} {rest : List Stmt} {env : Env} {Q : Flow → Shared → Prop} {E : Value → Shared → Prop} {hp : Heap} {g : Array GenState} {d : Drawn} {t : Nat} {o : OsState}
    (h : ∀ tk Q', Then M A rest env Q E Q' → wpAny M A (exec st env) (Go Q') E ⟨hp, g, d, tk, o⟩) : wpAny M A (execs (st :: rest) env) Q E ⟨hp, g, d, t, o⟩ :=
  execs_go (h t)
theorem execs_lastT {M : Model} {A : Around} {st : Stmt} {env : Env} {Q : Flow → Shared → Prop} {E : Value → Shared → Prop} {hp : Heap} {g : Array GenState} {d : Drawn} {t : Nat} {o : OsState}
    (h : ∀ tk, wpAny M A (exec st env) Q E ⟨hp, g, d, tk, o⟩) : wpAny M A (execs [st] env) Q E ⟨hp, g, d, t, o⟩ :=
  execs_last (h t)
/-- a name's value is laid over a map -/
@[reducible] noncomputable def stM (x : Str) (v : Value) (m : Str → Option Value) : Str → Option Value := fun z => if z = x then some v else m z
theorem storeM_L {M : Model} {A : Around} {E : Value → Shared → Prop} {s : Shared} {h₀ : Heap} {L a : Addr} {m : Str → Option Value} {cn : Str} {cs : Scope} {ccd : Value} {cl : List (Str × Addr)} {x : Str} {v : Value} {Q : Unit → Shared → Prop} {news : List (Addr × Obj)}
    (F : Fr h₀ L s.heap m) (N : News h₀ L s.heap news) (h : ∀ h', Fr h₀ L h' (stM x v m) → News h₀ L h' news → Q () { s with heap := h', toks := s.toks + 1 })
    (hk : cs.kind = .function) (hx : (envX cn cs L a ccd cl).kindOf x = some .local) : wpAny M A (storeName (envX cn cs L a ccd cl) x v) Q E s :=
  storeX_L F N h hk hx
section
theorem led_tail {x : Addr × Obj} {r : List (Addr × Obj)} {a : Addr} (l : ∀ p ∈ x :: r, p.1 < a) : ∀ p ∈ r, p.1 < a := fun p hp => l p (.tail _ hp)
theorem led_head {x : Addr × Obj} {r : List (Addr × Obj)} {a : Addr} (l : ∀ p ∈ x :: r, p.1 < a) : @LT.lt Nat instLTNat x.1 a := l x (.head _)
end
theorem room_of {a b c d l : Nat} (h : @LT.lt Nat instLTNat (a + d) l) (e : b + c ≤ d) : @LT.lt Nat instLTNat (a + b + c) l := by omega
noncomputable abbrev lexEs (h1 h2 h3 h4 : Int) (t1 t2 t3 t4 : Tok) (vl vi vw vp : Value) : List DictEntry :=
  [⟨h1, .str "lineno" t1, vl⟩, ⟨h2, .str "instream" t2, vi⟩, ⟨h3, .str "whitespace" t3, vw⟩, ⟨h4, .str "pushback" t4, vp⟩]
noncomputable abbrev stmEs (h1 h2 h3 h4 h5 : Int) (t1 t2 t3 t4 t5 : Tok) (vl vi vw vp vr : Value) : List DictEntry :=
  [⟨h1, .str "lineno" t1, vl⟩, ⟨h2, .str "instream" t2, vi⟩, ⟨h3, .str "whitespace" t3, vw⟩, ⟨h4, .str "pushback" t4, vp⟩, ⟨h5, .str "read" t5, vr⟩]

section
theorem clean_caller : CleanC ⟨.builtin "claim.caller" {}, none, none, [], none⟩ := ⟨by decide +kernel, fun _ h => nomatch h⟩
/-- a run from the claim's caller ends as a clean context says -/
theorem ends_cln {prog : Program} {w : World} {t : Sem Fin} {s : Shared} {R : Result → Shared → Prop} (hreg : s.asleep)
    (h : wpCln (model prog w) callerA t (fun fin s' => ∃ f, fin = .done f ∧ (R (.ok f) s' ∧ leftWithCleanup s'.gens = false)) (fun e s' => R (.error e) s' ∧ leftWithCleanup s'.gens = false) s) :
    ∃ n r s' s'', runN (denote table) prog w n s ⟨t, .builtin "claim.caller" {}, default, []⟩ = .halted (outcomeOf r) s' ∧
      schedN (denote table) prog w n (.single s ⟨t, .builtin "claim.caller" {}, default, []⟩) = .halted (outcomeOf r) s' ∧ s'.forget = s''.forget ∧ R r s'' := by
  have h0 : Sem.wp (model prog w) ⟨.builtin "claim.caller" {}, none, none, [], none⟩ t
      (Sem.finPost (model prog w) ⟨.builtin "claim.caller" {}, none, none, [], none⟩ fun r s' => R r s' ∧ leftWithCleanup s'.gens = false)
      (fun e _ s' => R (.error e) s' ∧ leftWithCleanup s'.gens = false) default s :=
    Sem.wp_mono _ _ t (fun fin p' s' h' => by obtain ⟨f, rfl, hf⟩ := h'; exact hf) (fun _ _ _ h' => h') default s (h _ default caller_in clean_caller)
  obtain ⟨n, r, s₁, s₂, hs, hn, hfo, hR⟩ := wp_halts_full (M := model prog w) (R := R) hreg h0
  exact ⟨n, r, s₂, s₁, hn, hs, hfo, hR⟩

theorem callFrom_cln {c : ClaimW} {tree : List Value → Sem Fin} {w : World} {s : Shared} {free : Addr → Prop} {gens : Prop} {kept : Heap → Prop} (hz : s.asleep) (hgens : s.gens = #[])
    (hspec : ∀ args, c.pre args = true → WData.layableAll args = true →
      ∀ ord : List DictEntry → List DictEntry, (∀ l, (ord l).Perm l) →
      ∃ vs s₁, layAllW c.records (classAt s.heap) w.params ord args s = some (vs, s₁) ∧
        wpCln (model c.prog w) callerA (tree vs) (fun fin s' => ∃ f, fin = .done f ∧ (c.Ends s args vs s₁ (.ok f) s' ∧ s'.os = s.os ∧ AllBare s'.gens ∧ kept s'.heap))
          (fun e s' => c.Ends s args vs s₁ (.error e) s' ∧ s'.os = s.os ∧ AllBare s'.gens ∧ kept s'.heap) s₁) :
    c.CallFrom (fun vs => ⟨tree vs, .builtin "claim.caller" {}, default, []⟩) w free gens kept s := by
  intro args hpre hlay ord hord
  obtain ⟨vs, s₁, hlaid, hcode⟩ := hspec args hpre hlay ord hord
  have hal := layAllW_rest _ _ _ hlaid
  obtain ⟨k, r, s', s'', hrun, hsched, hfo, hcase, hos, hkp⟩ := ends_cln (prog := c.prog) (w := w) (t := tree vs) (s := s₁)
    (R := fun r s' => c.Ends s args vs s₁ r s' ∧ s'.os = s.os ∧ kept s'.heap) (Shared.asleep_of_life hal.2.2.2 hz)
    (cln_mono hcode (fun fin s' h' => by
      obtain ⟨f, e, h1, h2, h3, h4⟩ := h'
      exact ⟨f, e, ⟨h1, h2, h4⟩, leftWithCleanup_false_of_bare h3⟩) (fun e s' h' => by
      obtain ⟨h1, h2, h3, h4⟩ := h'
      exact ⟨⟨h1, h2, h4⟩, leftWithCleanup_false_of_bare h3⟩))
  obtain ⟨eh, _, _, eo, _⟩ := Shared.forget_eq hfo
  have hcase := hcase.congr eh
  rw [← eh] at hkp
  rw [← eo] at hos
  have hlife : s'.heap.life = s.heap.life := (runN_life _ _ _ hrun).trans hal.2.2.2
  refine ⟨vs, s₁, hlaid, k, _, s', hsched, ?_, (fun _ i x hx => by rw [hgens] at hx; simp at hx), hkp, by rw [hlife], Shared.rest_eq hos⟩
  rcases hcase with ⟨v, rfl, d1, d2, d3, d4, d5⟩ | ⟨e, ob, cls, rfl, d1, d2, d3, d4, d5⟩
  · exact .inl ⟨v, rfl, d1, d2, d3, fun b o y _ => d4 b o y, d5⟩
  · exact .inr ⟨e, ob, cls, rfl, d1, d2, d3, d4, fun b o y _ => d5 b o y⟩

/-- what is asked of the law's call: as WalkO, but from a clean context -/
noncomputable abbrev WalkC (q : Program) (loose : List Str) (XP : (Str → Option Value) → Heap → Prop) (YP : World → Heap → Prop) (r : RowW) (d : DefRec) (kwd : List (Str × PySem.Expr)) : Prop :=
  ∀ (w : World) (s₀ s₁ : Shared) (mg mb : Str → Option Value), Ground q loose r.records XP w s₀ mg mb s₁.heap → YP w s₁.heap → ∀ (a : Addr) (o : Obj) (pm cd doc dV kV : Value), s₁.heap.get? a = some o →
    o.data = .func { docDef d.name d.params d.body d.scope pm cd doc with defaults := dV, kwdefaults := kV } → s₁.heap.CodeRec cd d.name → Dflts mg s₁.heap d.params kwd dV kV → mg d.name = some (.ref a) → s₁.gens = #[] →
    ∀ (args : List WData) (vals : List Value) (as : List Addr), r.claim.pre args = true → WData.layableAll args = true → ReadsAllW r.records (classAt s₀.heap) s₁.heap vals args as → WellAll w.params s₁.heap vals args → (∀ a ∈ as, (a == sysModules) = false) →
      wpCln (model r.prog w) callerA (PySem.call (.ref a) vals) (fun v s' => GoodWG r.claim (classAt s₀.heap) (ExcName.means s₀.heap) args s₁ (.ok (.ret v)) s')
        (fun e s' => GoodWG r.claim (classAt s₀.heap) (ExcName.means s₀.heap) args s₁ (.error e) s') s₁

theorem and_left {A B C : Prop} (h : A ∧ B → C) (a : A) : B → C := fun b => h ⟨a, b⟩
/-- the head, its premise asked of clean contexts alone, the top's run asked beside it -/
theorem PySem.W.holds_open {r : OpenRow} {q : Program} {loose : List Str} {Xt : Shared → Bool} {XP : (Str → Option Value) → Heap → Prop} {α : Type} {Yf : Shared → α} {Ya : World → α} {YP : World → Heap → Prop} {d : DefRec} {kwd : List (Str × PySem.Expr)} {N : Nat}
    (left0 : ∀ _w : World, (true : Bool) = true) (hY : ∀ w s, Yf s = Ya w → YP w s.heap) (hYk : ∀ w h h', YP w h → (∀ b o, h.get? b = some o → h'.get? b = some o) → YP w h')
    (hX : ∀ s, Xt s = true → XP (s.heap.nsMap mainGlobals) s.heap) (hXk : ∀ mg h h', XP mg h → (∀ b o, h.get? b = some o → h'.get? b = some o) → XP mg h')
    (hdef : defOf q r.name = some (d, kwd)) (hp : r.prog.theDef r.name = some (d.params, d.body, d.scope)) (hk : kwWritten? d.params.kwonlyargs d.params.kw_defaults = some kwd) (hRf : ∀ s, Xt s = true → RecFacts r.records s.heap) (hwr : (!r.writes || r.records.isEmpty) = true)
    (k1 : r.wellSaid = true) (ok : (chainsOk q && opensWell r.prog && (frees r.toRowW && r.within.isEmpty)) = true) (hb : r.prog.bare) (hw : r.toRowW.promised)
    (call : LeftO r.prog q loose Xt Yf Ya N ∧ WalkC q loose XP YP r.toRowW d kwd) : r.Holds := by
  obtain ⟨left, call⟩ := call
  clear left0
  refine ⟨k1, hw, ?_⟩
  obtain ⟨ok, k5⟩ := Bool.and_eq_true_iff.mp ok
  obtain ⟨hch, o1⟩ := Bool.and_eq_true_iff.mp ok
  obtain ⟨k5, k6⟩ := Bool.and_eq_true_iff.mp k5
  obtain ⟨hsame, hu, ha, hap, hm⟩ := frees_parts k5
  refine ⟨⟨hb, o1, by show r.makers.map _ = []; rw [hm]; rfl⟩, hw.witness, fun w => ⟨(left.behind hX hch w).1, fun s' hs' => ?_⟩⟩
  obtain ⟨s₀, hf, hg0, s, hT, hz, hgens, hg, G00, y⟩ := (left.behind (XP := fun mg h => XP mg h ∧ RecFacts r.records h) (fun s hs => ⟨hX s hs, hRf s hs⟩) hch w).2 s' hs'
  have G0 : Ground q loose [] XP w s (s.heap.nsMap mainGlobals) (s.heap.nsMap builtinsNs) s.heap := ⟨G00.T, G00.B, G00.D, G00.TE, G00.TD, G00.W, G00.X.1, G00.cls, G00.has, G00.apart, G00.once, G00.K⟩
  have RF := G00.X.2
  have hT' := hT
  refine ⟨s₀, hf, hg0, s, hT, fun n hn => ?_, RF.1, RF.2.1, ?_⟩
  · obtain rfl : n = r.name := by split at hn <;> simp_all
    exact pinned_of_view hg G0 hdef hp hk
  have hgens : s.gens = #[] := Array.eq_empty_of_size_eq_zero (beq_iff_eq.mp hgens)
  have G : Ground q loose r.records XP w s _ _ s.heap := RF.ground G0
  refine callFrom_cln (c := r.toRowW.claim) (tree := fun vs => do match ← nsGet mainNs r.name with
      | some f => do ret (← PySem.call f vs)
      | none => unsupported "claim.caller:no-such-global") hz hgens fun args hpre hlay ord hord => ?_
  obtain ⟨⟨vs, s₁⟩, hlaid⟩ := Option.isSome_iff_exists.mp (layAllW_isSome (P := w.params) (ord := ord) G.has args r.args s (pre_splitW hpre).1)
  have keeps := layAllW_keeps _ _ _ hlaid
  have hal := layAllW_rest _ _ _ hlaid
  obtain ⟨as, hrd, hin, hold⟩ := reads_layAllW hord _ _ _ hlaid hlay s₁.heap (fun _ _ e => e)
  have L : Laid r.records w s s₁ args vs as := ⟨⟨ord, hord, hlaid⟩, hrd, hin, hold, keeps, hal.1.trans hgens, hal.2.2.1⟩
  have G₁ := G.keeps hXk keeps
  obtain ⟨a, o, pm, cd, doc, dV, kV, h1, h2, h3, h4, h5⟩ := G₁.fn hdef
  have h := call w s s₁ _ _ G₁ (hYk _ _ _ (hY w s y) keeps) a o pm cd doc dV kV h2 h3 h4 h5 (defOf_name hdef ▸ h1) L.gens args vs as hpre hlay L.reads L.well (L.low G.low)
  have hi := ident_freeW hu ha hap
  have hwi : r.claim.within = [] := List.isEmpty_iff.mp k6
  have kept : ∀ res s', GoodWG r.toRowW.claim (classAt s.heap) (ExcName.means s.heap) args s₁ res s' →
      r.toRowW.claim.Ends s args vs s₁ res s' ∧ s'.os = s.os ∧ AllBare s'.gens ∧ (r.writes = true → namesKept r.toRowW.claim.prog r.keeps s.heap s'.heap ∧ ∀ x ∈ r.toRowW.claim.records, ∀ a, classAt s.heap x.1 = some a → recordClass s'.heap a x.1 (x.2.map (·.1)) = true) :=
    fun res s' g => have z := g.laid (c := r.toRowW.claim) hsame hwi hi L; ⟨z.1, z.2.1, z.2.2, fun q => ⟨namesKept_of hT' hg r.keeps keeps g.2.1.old, noTable hwr q⟩⟩
  refine ⟨vs, s₁, hlaid, ?_⟩
  refine cln_then (wpAny_nsGet G₁.T.g ?_)
  rw [h1]
  refine cln_bind (cln_mono h (fun v s' g => cln_pure ⟨_, rfl, kept _ _ g⟩) fun e s' g => kept _ _ g)
end
set_option maxHeartbeats 0 in
open_top hd for PySem.Challenge.rw_wf0007_01
example (P : Params) : PySem.Challenge.rw_wf0007_01 = PySem.Challenge.rw_wf0007_01 ∧ hd.heap_39 P = hd.heap_39 P := by
  k_fill
  w_top off
  exact ⟨rfl, rfl⟩
local macro_rules
  | `(tactic| k_dat $t $ss:str*) => do
    let cs := ss.toList.map fun s => s.getString.toList
    let (f, g) := match t with
      | `(($f $xs*)) => (f, xs.raw.map fun x => (⟨x⟩ : Lean.Term))
      | _ => (t, #[])
    let tab ← `(tactic| (k_asm; k_mem; k_updF; k_ne; (with_reducible assumption); assumption; exact rfl; rfl; decide; (with_unfolding_all rfl); k_is; walk_at "arith"; lcg_sub; walk_at "?"))
    let acts ← `(tactic| ((try dsimp only at l); (try dsimp only [List.cons_append, List.nil_append] at l); (try dsimp only [lexEs] at l); ((have e := led_head l); (try dsimp only at e); clear l); ((first | (have e := led_head l; (try dsimp only at e)) | k_search l); clear l); k_state_short l "P"; (k_state_short l "P"; clear l); (try dsimp only [List.nil_append, List.cons_append]); (try dsimp only); (try k_sweep); intro l; intro _; k_whole; skip))
    let by' ← `(by skip)
    let hole ← `(?_)
    let nth (s : Lean.Syntax) (i : Nat) : Lean.TSyntax `tactic := ⟨s[1][0][0][2 * i]⟩
    let tac (x : Char) : Lean.TSyntax `tactic := match "FmunaArRdwize".toList.idxOf? x with
      | some i => nth tab i
      | none => ⟨(nth tab 13).raw.setArg 1 (Lean.Syntax.mkStrLit (String.singleton x))⟩
    let act (i : Nat) (l : Lean.Ident) : Lean.TSyntax `tactic := ⟨(nth acts i).raw.rewriteBottomUp fun s => if s.isIdent && s.getId.eraseMacroScopes == `l then l.raw else s⟩
    let mut g := g
    let mut q : Array (Lean.TSyntax `tactic) := #[]
    let mut late := false
    for x in cs.headD [] do
      if x = '!' then continue
      if x = '^' then late := true else
        if late then
          let n := Lean.mkIdent (.mkSimple s!"z{q.size}")
          g := g.push (← `(?$n:ident))
          q := q.push (← `(tactic| case $n:ident => $(tac x):tactic))
        else g := g.push (if x = '_' then hole else ⟨by'.raw.rewriteBottomUp fun s => if s.getKind == ``Lean.Parser.Tactic.skip then (tac x).raw else s⟩)
        late := false
    q := q.push (nth acts (if (cs.headD []).headD 'a' = '!' then 13 else 12))
    let mut p : Array (Lean.TSyntax `tactic) := #[← `(tactic| k_here), ← `(tactic| k_dflt (refine' $f $g*; $q;*))]
    let mut e : Array (Lean.TSyntax `tactic) := #[]
    for x in cs.tail.headD [] do
      let l := Lean.mkIdent (← Lean.Macro.addMacroScope (.mkSimple s!"l{p.size}"))
      match "NALhxPQBDS".toList.idxOf? x with
      | some i =>
        if i < 7 then p := p.push (act 10 l)
        e := e.push (act i l)
      | none => p := p.push (nth acts 11)
    p := p ++ e
    `(tactic| ($p;*))
local macro_rules | `(tactic| k_state_short $l "P") => `(tactic| ((try have e1 := led_head $l); (try have e2 := led_head (led_tail $l)); (try have e3 := led_head (led_tail (led_tail $l))); (try have e4 := led_head (led_tail (led_tail (led_tail $l)))); (try dsimp only at e1); (try dsimp only at e2); (try dsimp only at e3); (try dsimp only at e4); (try have l2 := led_tail $l); (try have l3 := led_tail (led_tail $l)); (try have l4 := led_tail (led_tail (led_tail $l))); (try have l5 := led_tail (led_tail (led_tail (led_tail $l))))))
local macro_rules | `(tactic| walk_at "H") => `(tactic| exact ⟨by k_asm, by k_asm, by k_asm, by k_asm, by k_asm, by first | exact rfl | assumption, by assumption, by k_room, by k_units⟩)
local macro_rules | `(tactic| walk_at "k") => `(tactic| first | exact (rfl : _ = (0:Int)) | exact (rfl : _ = (1:Int)) | exact (rfl : _ = (2:Int)) | exact (rfl : _ = (3:Int)) | exact (rfl : _ = (4:Int)) | exact (rfl : _ = (5:Int)) | exact (rfl : _ = (6:Int)) | exact (rfl : _ = (8:Int)) | exact (rfl : _ = (9:Int)) | exact (rfl : _ = (16:Int)))
local macro_rules | `(tactic| walk_at "v") => `(tactic| (intro o9; (try dsimp only); k_updF))
local macro_rules | `(tactic| walk_at "g") => `(tactic| exact News.get (by k_asm) (by k_mem))
local macro_rules | `(tactic| walk_at "b") => `(tactic| exact Nat.le_of_ble_eq_true rfl)
local macro_rules | `(tactic| walk_at "y") => `(tactic| (intro _; rfl))
local macro_rules | `(tactic| k_room) => `(tactic| first | walk_at "arith" | (simp only [depth_in1, depth_deeper]; first | with_reducible exact room_of (by assumption) (by decide) | omega) | ((try dsimp only [Around.deeper, ktrTop]); first | with_reducible exact room_of (by assumption) (by decide) | omega) | ktr_room)
local macro_rules | `(tactic| k_units) => `(tactic| first | walk_at "arith" | ((try dsimp only [Around.deeper, ktrTop]); first | with_reducible exact room_of (by assumption) (by decide) | omega) | ktr_units)
local macro_rules | `(tactic| k_updF) => `(tactic| assumption)
local macro_rules | `(tactic| walk_at "α") => `(tactic| k_inst)
local macro_rules | `(tactic| walk_at "β") => `(tactic| with_reducible show wpAny _ _ (getMethod (Value.ref _) (PySem.Str.ofString "read") _) _ _ _)
local macro_rules | `(tactic| walk_at "getMethod ref") => `(tactic| (walk_at "β"; k_dat kmu_own "FFαii_" ""))
local macro_rules | `(tactic| walk_at "ite") => `(tactic| (k_here; first | refine ite_pos (by with_reducible assumption) ?_ | refine ite_neg (ne_true_of_eq_false (by with_reducible assumption)) ?_))
local macro_rules | `(tactic| walk_at "execs cons") => `(tactic| ((try dsimp only); (first | (with_reducible refine execs_lastT ?_; intro tk') | with_reducible refine execs_last ?_ | (with_reducible refine execs_goT ?_; intro tk' q' hq') | (with_reducible refine execs_go ?_; intro q' hq'))))
local macro_rules | `(tactic| walk_at "Go") => `(tactic| (first | with_reducible refine Then.next (by assumption) _ ?_ | (with_reducible refine Then.other (by assumption) _ _ (fun h => nomatch h) ?_; (try dsimp only))))
local macro_rules | `(tactic| walk_at "lt") => `(tactic| first | (with_reducible assumption) | (with_reducible refine Nat.lt_trans ?_ (by assumption); walk_at "lt") | (with_reducible refine Nat.succ_le_of_lt ?_; walk_at "lt"))
local macro_rules | `(tactic| walk_at "ltne") => `(tactic| first | with_reducible exact Nat.ne_of_lt (by walk_at "lt") | k_ne)
local macro_rules | `(tactic| k_ne) => `(tactic| first | (with_reducible assumption) | with_reducible exact Nat.ne_of_gt (by walk_at "lt") | with_reducible exact Nat.ne_of_lt (by walk_at "lt") | (refine neN ?_; (try dsimp only); omega))
local macro_rules | `(tactic| walk_at "storeName") => `(tactic| k_dat storeM_L "FF_RR" "___S")
local macro_rules | `(tactic| walk_at "arith") => `(tactic| first | with_reducible assumption | with_reducible exact Int.natCast_nonneg _ | with_reducible exact Nat.le_trans (by assumption) (by decide) | with_reducible exact Nat.lt_of_le_of_lt (by assumption) (by decide) | with_reducible exact Nat.lt_of_lt_of_le (by assumption) (by decide) | (with_reducible refine Nat.lt_of_le_of_lt (Nat.add_le_add_left ?_ _) (by assumption); decide) | with_reducible exact Nat.lt_of_le_of_lt (Nat.le_add_right _ _) (by assumption) | decide | omega)
section
theorem updF_upd {d : Addr} {o : Obj} {l : List (Addr × Obj)} {g : Obj → List (Addr × Obj)} (h : UpdF d o l g) : ∀ o', Upd d o o' l (g o') := by
  induction h with
  | head h => exact fun _ => .head h
  | tail h _ ih => exact fun o' => .tail h (ih o')
theorem updF_mem {d : Addr} {o : Obj} {l : List (Addr × Obj)} {g : Obj → List (Addr × Obj)} (h : UpdF d o l g) : (d, o) ∈ l := by
  induction h with
  | head _ => exact .head _
  | tail _ _ ih => exact .tail _ ih
theorem updF_new {d : Addr} {o : Obj} {l : List (Addr × Obj)} {g : Obj → List (Addr × Obj)} (h : UpdF d o l g) : ∀ o', (d, o') ∈ g o' := by
  induction h with
  | head _ => exact fun _ => .head _
  | tail _ _ ih => exact fun o' => .tail _ (ih o')
theorem updF_old {d : Addr} {o : Obj} {a : Addr} {ob : Obj} {l : List (Addr × Obj)} {g : Obj → List (Addr × Obj)} (h : UpdF d o l g) (hm : (a, ob) ∈ l) (hn : a ≠ d) : ∀ o', (a, ob) ∈ g o' := by
  induction h with
  | head h =>
    rcases List.mem_cons.mp hm with e | hm
    · cases e; exact absurd rfl hn
    · exact fun _ => .tail _ hm
  | tail h _ ih =>
    rcases List.mem_cons.mp hm with e | hm
    · cases e; exact fun _ => .head _
    · exact fun o' => .tail _ (ih hm o')
end
section
variable {prog : Program} {w : World} {A : Around} {E : Value → Shared → Prop} {s : Shared} {h₀ : Heap} {L l : Addr} {news : List (Addr × Obj)} {its : Array Value} {n : Nat}
theorem truthy_led {Q : Bool → Shared → Prop} (N : News h₀ L s.heap news) (hm : (l, listOf its n) ∈ news) {b : Bool} (hb : (!its.isEmpty) = b) (hz : its.size ≤ 16777216)
    (h : Q b { s with toks := s.toks + 1 + 1 }) : wpAny (model prog w) A (truthy (.ref l)) Q E s :=
  wpAny_truthy_list ⟨_, (N _ hm).1, rfl, _, rfl⟩ (by omega) (by rw [hb]; exact h)
end
/-- what every contract is told of the place of the call -/
structure Here (w : World) (tp : Program) (lo : List Str) (mean : ExcName → Option Value) (mg mb : Str → Option Value) (dp un : Nat) (outer : List Env) (cs : Scope) (A₀ : Around) (base h₀ : Heap) (L : Addr) (m : Str → Option Value) (news : List (Addr × Obj)) (s : Shared) (d u : Nat) : Prop where
  B : Below A₀ base outer h₀
  F : Fr h₀ L s.heap m
  X : (hd.heap_39 w.params).In h₀
  N : News h₀ L s.heap news
  T : Top tp lo mean mg mb h₀
  K : cs.kind = .function
  C : CodeHd base 97 93
  D : dp + d < recursionLimit
  U : un + u < cLine

/-- the inner def of the lexer's maker -/
noncomputable def pieceDef : Stmt := match (PySem.Challenge.pw_wf0007_01.main.body.getD 10 (.Pass ⟨0, 0, 0, 0⟩) : Stmt) with
  | .FunctionDef _ _ b _ _ _ _ _ _ _ => b.getD 2 (.Pass ⟨0, 0, 0, 0⟩)
  | _ => .Pass ⟨0, 0, 0, 0⟩
noncomputable def dName : Stmt → Str
  | .FunctionDef n _ _ _ _ _ _ _ _ _ => n
  | _ => ""
noncomputable def dParams : Stmt → Arguments
  | .FunctionDef _ a _ _ _ _ _ _ _ _ => a
  | _ => ⟨[], [], none, [], [], none, []⟩
noncomputable def dBody : Stmt → List Stmt
  | .FunctionDef _ _ b _ _ _ _ _ _ _ => b
  | _ => []
noncomputable def dScope : Stmt → Scope
  | .FunctionDef _ _ _ _ _ _ s _ _ _ => s
  | _ => { kind := .function, names := [], isGenerator := false, isCoroutine := false, more := [] }
theorem piece_of {G : Prop} (f : Str → Arguments → List Stmt → Scope → Prop) {n : Str} {a : Arguments} {b : List Stmt} {d : List PySem.Expr} {r : Option PySem.Expr} {tp : List TypeParam} {sc : Scope} {ts : Option Scope} {bn : Str} {p : Pos}
    (e : pieceDef = .FunctionDef n a b d r tp sc ts bn p) (h : f n a b sc → G) : f (dName pieceDef) (dParams pieceDef) (dBody pieceDef) (dScope pieceDef) → G := by
  rw [e]; exact h
local macro_rules | `(tactic| k_upd) => `(tactic| first | assumption | exact updF_upd (by assumption) _)
local macro_rules | `(tactic| k_mem) => `(tactic| first | (with_reducible assumption) | (with_reducible exact List.mem_cons_self) | (with_reducible refine' List.mem_cons_of_mem _ ?_; k_mem) | exact updF_new (by with_reducible assumption) _ | exact updF_old (by with_reducible assumption) (by k_mem) (by k_ne) _)
local macro_rules | `(tactic| walk_at "γ") => `(tactic| first | rfl | (simp; done))
local macro_rules | `(tactic| walk_at "δ") => `(tactic| first | decide | (simp; omega))
local macro_rules | `(tactic| walk_at "truthy ref") => `(tactic| first | (k_dat (truthy_led (b := true)) "Fmγδ_" "") | (k_dat (truthy_led (b := false)) "Fmγδ_" ""))
local macro_rules | `(tactic| walk_at "ε") => `(tactic| simpa using kpa_last _ _)
local macro_rules | `(tactic| walk_at "ζ") => `(tactic| k_upd)
local macro_rules | `(tactic| walk_at "η") => `(tactic| (rw [sizeLine_eq]; simp; omega))
local macro_rules | `(tactic| walk_at "θ") => `(tactic| with_reducible show wpAny _ _ (call (Value.builtin _) [Value.ref _]) _ _ _)
local macro_rules | `(tactic| walk_at "call builtin:list.pop") => `(tactic| (walk_at "θ"; k_dat kl_pop "!FF^εζη_" "___"))
set_option maxHeartbeats 8000000 in
theorem piece_spec {w : World} {tp : Program} {lo : List Str} {mean : ExcName → Option Value} {mg mb : Str → Option Value}
    {dp un : Nat} {gd : Option (List Code)} {cn : Str} {cs : Scope} {a : Addr} {ccd : Value} {cl : List (Str × Addr)} {outer : List Env} {A₀ : Around} {base h₀ : Heap} {L : Addr} {m : Str → Option Value} {news : List (Addr × Obj)} {s : Shared}
    {fo ce sg c' : Addr} {qual : Str} {doc pm ctv : Value} {oc oce : Obj} {vs : Array Value} {t : Tok} {p : List Value} {c : Str} {tc ti : Tok} {i : Int} {k : Nat} {g : Obj → List (Addr × Obj)}
    {Q E : Value → Shared → Prop}
    (H : Here w tp lo mean mg mb dp un outer cs A₀ base h₀ L m news s 4 40)
    (hf0 : (fo, fnMade (dName pieceDef) qual (dParams pieceDef) (dBody pieceDef) (dScope pieceDef) [("signs", ce)] doc pm c' ctv) ∈ news)
    (hc : (c', oc) ∈ news) (hoc : oc.data = .fields vs) (hvs : vs[1]? = some (.str qual t))
    (hce : (ce, oce) ∈ news) (hcd : oce.data = .cell (some (.ref sg)))
    (hU : UpdF sg (listOf (p ++ [Value.str c tc]).toArray k) news g) (hz : p.length ≤ 1000)
    (hret : ∀ h' tk', Fr h₀ L h' m → News h₀ L h' (g (listOf p.toArray (k + 1))) → Q (.str c tc) { s with heap := h', toks := tk' }) :
    wpAny (model (RowW.prog (OpenRow.toRowW (OpenLaw.row PySem.Challenge.rw_wf0007_01))) w) (ktrTop dp un gd cn cs L a ccd cl outer) (call (.ref fo) [.int i ti]) Q E s := by
  refine' piece_of (fun n a b sc => (fo, fnMade n qual a b sc [("signs", ce)] doc pm c' ctv) ∈ news) ?e (fun hf => ?_) hf0
  case e => with_unfolding_all exact rfl
  clear hf0
  have hs := updF_mem hU
  obtain ⟨B, F, X, N, T, hk, hC, hd, hu⟩ := H
  refine wpAny_call ?_
  k_dflt (refine' code_nest ?k1 ?k2 ?k3 ?k4 ?k5 ?kA ?kF ?kK ?k6 ?k7 ?k8 ?k9 ?kB ?_ ?c2 ?c3 ?c4 ?c5; (case kA => exact rfl); (case kF => exact rfl); (case kK => assumption); (case k1 => k_asm); (case k2 => k_asm); (case k3 => k_asm); (case k4 => k_asm); (case k5 => k_asm); (case k6 => k_mem); (case k7 => exact codeRec_news (by k_asm) (by k_mem) (by assumption) (by assumption)); (case k8 => k_room); (case k9 => exact BindsTo.of_eq rfl); (case c5 => decide); (case kB => exact locs rfl); (case c2 => exact rfl); (case c3 => exact rfl); (case c4 => exact rfl); k_whole; intro g' L' h' FG' F' N' B' X' T'; (try dsimp only); (try k_lift B'); (try k_fold))
  k_steps
  all_goals exact hret _ _ (by assumption) (by assumption)

set_option maxHeartbeats 8000000 in
theorem piece0_spec {w : World} {tp : Program} {lo : List Str} {mean : ExcName → Option Value} {mg mb : Str → Option Value}
    {dp un : Nat} {gd : Option (List Code)} {cn : Str} {cs : Scope} {a : Addr} {ccd : Value} {cl : List (Str × Addr)} {outer : List Env} {A₀ : Around} {base h₀ : Heap} {L : Addr} {m : Str → Option Value} {news : List (Addr × Obj)} {s : Shared}
    {fo ce sg c' : Addr} {qual : Str} {doc pm ctv : Value} {oc oce : Obj} {vs : Array Value} {t : Tok} {ti : Tok} {i : Int} {k : Nat}
    {Q E : Value → Shared → Prop}
    (H : Here w tp lo mean mg mb dp un outer cs A₀ base h₀ L m news s 4 40)
    (hf0 : (fo, fnMade (dName pieceDef) qual (dParams pieceDef) (dBody pieceDef) (dScope pieceDef) [("signs", ce)] doc pm c' ctv) ∈ news)
    (hc : (c', oc) ∈ news) (hoc : oc.data = .fields vs) (hvs : vs[1]? = some (.str qual t))
    (hce : (ce, oce) ∈ news) (hcd : oce.data = .cell (some (.ref sg)))
    (hs : (sg, listOf ([] : List Value).toArray k) ∈ news)
    (hret : ∀ tk h' tk', Fr h₀ L h' m → News h₀ L h' news → Q (.str "" tk) { s with heap := h', toks := tk' }) :
    wpAny (model (RowW.prog (OpenRow.toRowW (OpenLaw.row PySem.Challenge.rw_wf0007_01))) w) (ktrTop dp un gd cn cs L a ccd cl outer) (call (.ref fo) [.int i ti]) Q E s := by
  refine' piece_of (fun n a b sc => (fo, fnMade n qual a b sc [("signs", ce)] doc pm c' ctv) ∈ news) ?e (fun hf => ?_) hf0
  case e => with_unfolding_all exact rfl
  clear hf0
  obtain ⟨B, F, X, N, T, hk, hC, hd, hu⟩ := H
  refine wpAny_call ?_
  k_dflt (refine' code_nest ?k1 ?k2 ?k3 ?k4 ?k5 ?kA ?kF ?kK ?k6 ?k7 ?k8 ?k9 ?kB ?_ ?c2 ?c3 ?c4 ?c5; (case kA => exact rfl); (case kF => exact rfl); (case kK => assumption); (case k1 => k_asm); (case k2 => k_asm); (case k3 => k_asm); (case k4 => k_asm); (case k5 => k_asm); (case k6 => k_mem); (case k7 => exact codeRec_news (by k_asm) (by k_mem) (by assumption) (by assumption)); (case k8 => k_room); (case k9 => exact BindsTo.of_eq rfl); (case c5 => decide); (case kB => exact locs rfl); (case c2 => exact rfl); (case c3 => exact rfl); (case c4 => exact rfl); k_whole; intro g' L' h' FG' F' N' B' X' T'; (try dsimp only); (try k_lift B'); (try k_fold))
  k_steps
  all_goals exact hret _ _ _ (by assumption) (by assumption)
local macro_rules | `(tactic| walk_at "ι") => `(tactic| first | walk_at "arith" | (simp; omega))
local macro_rules | `(tactic| walk_at "κ") => `(tactic| with_reducible show wpAny _ _ (call (Value.ref _) [Value.int _ _]) _ _ _)
local macro_rules | `(tactic| walk_at "call ref") => `(tactic| (walk_at "κ"; (first | (k_dat piece_spec "HmmAAmAuι_" "___NDS") | (k_dat piece0_spec "HmmAAmAm_" "_____DS"))))
set_option maxHeartbeats 8000000 in
theorem rc_spec {w : World} {tp : Program} {lo : List Str} {mean : ExcName → Option Value} {mg mb : Str → Option Value}
    {dp un : Nat} {gd : Option (List Code)} {cn : Str} {cs : Scope} {a : Addr} {ccd : Value} {cl : List (Str × Addr)} {outer : List Env} {A₀ : Around} {base h₀ : Heap} {L : Addr} {m : Str → Option Value} {news : List (Addr × Obj)} {s : Shared}
    {x dx st dst : Addr} {sl sl' : Array (Option Value)} {h1 h2 h3 h4 : Int} {t1 t2 t3 t4 : Tok} {vl vw vp : Value} {n : Nat}
    {g1 g2 g3 g4 g5 : Int} {u1 u2 u3 u4 u5 : Tok} {yl yi yw yp : Value} {n' : Nat}
    {fo ce sg c' : Addr} {qual : Str} {doc pm ctv : Value} {oc oce : Obj} {vs : Array Value} {t : Tok} {p : List Value} {c : Str} {tc : Tok} {k : Nat} {g : Obj → List (Addr × Obj)}
    {R : Result → Shared → Prop}
    (H : Here w tp lo mean mg mb dp un outer cs A₀ base h₀ L m news s 8 80)
    (hx : (x, (⟨.ref 52, some dx, .plain, sl⟩ : Obj)) ∈ news) (hdx : (dx, dictOf (lexEs h1 h2 h3 h4 t1 t2 t3 t4 vl (.ref st) vw vp) n) ∈ news)
    (hst : (st, (⟨.ref 52, some dst, .plain, sl'⟩ : Obj)) ∈ news) (hdst : (dst, dictOf (stmEs g1 g2 g3 g4 g5 u1 u2 u3 u4 u5 yl yi yw yp (.ref fo)) n') ∈ news)
    (hf0 : (fo, fnMade (dName pieceDef) qual (dParams pieceDef) (dBody pieceDef) (dScope pieceDef) [("signs", ce)] doc pm c' ctv) ∈ news)
    (hc : (c', oc) ∈ news) (hoc : oc.data = .fields vs) (hvs : vs[1]? = some (.str qual t))
    (hce : (ce, oce) ∈ news) (hcd : oce.data = .cell (some (.ref sg)))
    (hU : UpdF sg (listOf (p ++ [Value.str c tc]).toArray k) news g) (hz : p.length ≤ 1000)
    (hcn : (c == ("\n" : Str)) = false)
    (hret : ∀ h' tk', Fr h₀ L h' m → News h₀ L h' (g (listOf p.toArray (k + 1))) → R (.ok (.ret (.str c tc))) { s with heap := h', toks := tk' }) :
    codeAny (model (RowW.prog (OpenRow.toRowW (OpenLaw.row PySem.Challenge.rw_wf0007_01))) w) (ktrTop dp un gd cn cs L a ccd cl outer) (.call (.ref 35) ⟨[.ref x], []⟩) R s := by
  obtain ⟨B, F, X, N, T, hk, hC, hd, hu⟩ := H
  k_dflt cell_enter
  k_steps
  all_goals exact hret _ _ (by assumption) (by assumption)

set_option maxHeartbeats 8000000 in
theorem rcn_spec {w : World} {tp : Program} {lo : List Str} {mean : ExcName → Option Value} {mg mb : Str → Option Value}
    {dp un : Nat} {gd : Option (List Code)} {cn : Str} {cs : Scope} {a : Addr} {ccd : Value} {cl : List (Str × Addr)} {outer : List Env} {A₀ : Around} {base h₀ : Heap} {L : Addr} {m : Str → Option Value} {news : List (Addr × Obj)} {s : Shared}
    {x dx st dst : Addr} {sl sl' : Array (Option Value)} {h1 h2 h3 h4 : Int} {t1 t2 t3 t4 : Tok} {l : Int} {tl : Tok} {vw vp : Value}
    {g1 g2 g3 g4 g5 : Int} {u1 u2 u3 u4 u5 : Tok} {yl yi yw yp : Value} {n' : Nat}
    {fo ce sg c' : Addr} {qual : Str} {doc pm ctv : Value} {oc oce : Obj} {vs : Array Value} {t : Tok} {p : List Value} {tc : Tok} {k : Nat} {g gg : Obj → List (Addr × Obj)}
    {R : Result → Shared → Prop}
    (H : Here w tp lo mean mg mb dp un outer cs A₀ base h₀ L m news s 8 80)
    (hx : (x, (⟨.ref 52, some dx, .plain, sl⟩ : Obj)) ∈ news) (hdx : (dx, dictOf (lexEs h1 h2 h3 h4 t1 t2 t3 t4 (.int l tl) (.ref st) vw vp) 4) ∈ news)
    (hst : (st, (⟨.ref 52, some dst, .plain, sl'⟩ : Obj)) ∈ news) (hdst : (dst, dictOf (stmEs g1 g2 g3 g4 g5 u1 u2 u3 u4 u5 yl yi yw yp (.ref fo)) n') ∈ news)
    (hf0 : (fo, fnMade (dName pieceDef) qual (dParams pieceDef) (dBody pieceDef) (dScope pieceDef) [("signs", ce)] doc pm c' ctv) ∈ news)
    (hc : (c', oc) ∈ news) (hoc : oc.data = .fields vs) (hvs : vs[1]? = some (.str qual t))
    (hce : (ce, oce) ∈ news) (hcd : oce.data = .cell (some (.ref sg)))
    (hU : UpdF sg (listOf (p ++ [Value.str "\n" tc]).toArray k) news g) (hz : p.length ≤ 1000)
    (hV : UpdF dx (dictOf (lexEs h1 h2 h3 h4 t1 t2 t3 t4 (.int l tl) (.ref st) vw vp) 4) (g (listOf p.toArray (k + 1))) gg)
    (hxs : x ≠ sg) (hds : dx ≠ sg)
    (hret : ∀ tl' h' tk', Fr h₀ L h' m → News h₀ L h' (gg (dictOf (lexEs h1 h2 h3 h4 t1 t2 t3 t4 (.int (l + 1) tl') (.ref st) vw vp) 4)) → R (.ok (.ret (.str "\n" tc))) { s with heap := h', toks := tk' }) :
    codeAny (model (RowW.prog (OpenRow.toRowW (OpenLaw.row PySem.Challenge.rw_wf0007_01))) w) (ktrTop dp un gd cn cs L a ccd cl outer) (.call (.ref 35) ⟨[.ref x], []⟩) R s := by
  obtain ⟨B, F, X, N, T, hk, hC, hd, hu⟩ := H
  k_dflt cell_enter
  k_steps
  all_goals exact hret _ _ _ (by assumption) (by assumption)

set_option maxHeartbeats 8000000 in
theorem rc0_spec {w : World} {tp : Program} {lo : List Str} {mean : ExcName → Option Value} {mg mb : Str → Option Value}
    {dp un : Nat} {gd : Option (List Code)} {cn : Str} {cs : Scope} {a : Addr} {ccd : Value} {cl : List (Str × Addr)} {outer : List Env} {A₀ : Around} {base h₀ : Heap} {L : Addr} {m : Str → Option Value} {news : List (Addr × Obj)} {s : Shared}
    {x dx st dst : Addr} {sl sl' : Array (Option Value)} {h1 h2 h3 h4 : Int} {t1 t2 t3 t4 : Tok} {vl vw vp : Value} {n : Nat}
    {g1 g2 g3 g4 g5 : Int} {u1 u2 u3 u4 u5 : Tok} {yl yi yw yp : Value} {n' : Nat}
    {fo ce sg c' : Addr} {qual : Str} {doc pm ctv : Value} {oc oce : Obj} {vs : Array Value} {t : Tok} {k : Nat}
    {R : Result → Shared → Prop}
    (H : Here w tp lo mean mg mb dp un outer cs A₀ base h₀ L m news s 8 80)
    (hx : (x, (⟨.ref 52, some dx, .plain, sl⟩ : Obj)) ∈ news) (hdx : (dx, dictOf (lexEs h1 h2 h3 h4 t1 t2 t3 t4 vl (.ref st) vw vp) n) ∈ news)
    (hst : (st, (⟨.ref 52, some dst, .plain, sl'⟩ : Obj)) ∈ news) (hdst : (dst, dictOf (stmEs g1 g2 g3 g4 g5 u1 u2 u3 u4 u5 yl yi yw yp (.ref fo)) n') ∈ news)
    (hf0 : (fo, fnMade (dName pieceDef) qual (dParams pieceDef) (dBody pieceDef) (dScope pieceDef) [("signs", ce)] doc pm c' ctv) ∈ news)
    (hc : (c', oc) ∈ news) (hoc : oc.data = .fields vs) (hvs : vs[1]? = some (.str qual t))
    (hce : (ce, oce) ∈ news) (hcd : oce.data = .cell (some (.ref sg)))
    (hs : (sg, listOf ([] : List Value).toArray k) ∈ news)
    (hret : ∀ tk h' tk', Fr h₀ L h' m → News h₀ L h' news → R (.ok (.ret (.str "" tk))) { s with heap := h', toks := tk' }) :
    codeAny (model (RowW.prog (OpenRow.toRowW (OpenLaw.row PySem.Challenge.rw_wf0007_01))) w) (ktrTop dp un gd cn cs L a ccd cl outer) (.call (.ref 35) ⟨[.ref x], []⟩) R s := by
  obtain ⟨B, F, X, N, T, hk, hC, hd, hu⟩ := H
  k_dflt cell_enter
  k_steps
  all_goals exact hret _ _ _ (by assumption) (by assumption)
noncomputable def Bin (w : World) (tp : Program) (lo : List Str) (mean : ExcName → Option Value) (mg mb : Str → Option Value) (f : Addr) (x y r : Int) : Prop :=
  ∀ {dp un : Nat} {gd : Option (List Code)} {cn : Str} {cs : Scope} {a : Addr} {ccd : Value} {cl : List (Str × Addr)} {outer : List Env} {A₀ : Around} {base h₀ : Heap} {L : Addr} {m : Str → Option Value} {news : List (Addr × Obj)} {s : Shared} {tx ty : Tok}
    {Q E : Value → Shared → Prop}, Here w tp lo mean mg mb dp un outer cs A₀ base h₀ L m news s 4 40 →
    (∀ t h' tk', Fr h₀ L h' m → News h₀ L h' news → Q (.int r t) { s with heap := h', toks := tk' }) →
    wpAny (model (RowW.prog (OpenRow.toRowW (OpenLaw.row PySem.Challenge.rw_wf0007_01))) w) (ktrTop dp un gd cn cs L a ccd cl outer) (call (.ref f) [.int x tx, .int y ty]) Q E s

section
variable {w : World} {tp : Program} {lo : List Str} {mean : ExcName → Option Value} {mg mb : Str → Option Value} {x y : Int}
set_option maxHeartbeats 8000000 in
theorem add_spec : Bin w tp lo mean mg mb 63 x y (x + y) := by
  intro dp un gd cn cs a ccd cl outer A₀ base h₀ L m news s tx ty Q E H hret
  obtain ⟨B, F, X, N, T, hk, hC, hd, hu⟩ := H
  refine wpAny_call ?_
  k_dflt cell_enter
  k_steps
  all_goals exact hret _ _ _ (by assumption) (by assumption)
local macro_rules | `(tactic| mul_fits) => `(tactic| assumption)
set_option maxHeartbeats 8000000 in
theorem mul_spec (hm : IntMulOk x y) : Bin w tp lo mean mg mb 77 x y (x * y) := by
  intro dp un gd cn cs a ccd cl outer A₀ base h₀ L m news s tx ty Q E H hret
  obtain ⟨B, F, X, N, T, hk, hC, hd, hu⟩ := H
  refine wpAny_call ?_
  k_dflt cell_enter
  k_steps
  all_goals exact hret _ _ _ (by assumption) (by assumption)
local macro_rules | `(tactic| walk_at "binaryOp FloorDiv int int") => `(tactic| (with_reducible refine floordiv_int (by assumption) ?_ (Or.inl (by assumption))))
set_option maxHeartbeats 8000000 in
theorem floordiv_spec0 (hy : y ≠ 0) (hp : Builtin.divisionGoesByPylong x y = false) : Bin w tp lo mean mg mb 70 x y (x.fdiv y) := by
  intro dp un gd cn cs a ccd cl outer A₀ base h₀ L m news s tx ty Q E H hret
  obtain ⟨B, F, X, N, T, hk, hC, hd, hu⟩ := H
  refine wpAny_call ?_
  k_dflt cell_enter
  k_steps
  all_goals exact hret _ _ _ (by assumption) (by assumption)
local macro_rules | `(tactic| walk_at "inplaceOp Pow int int") => `(tactic| (with_reducible refine ipow_int_small (by assumption) (by assumption) (by assumption) ?_))
set_option maxHeartbeats 8000000 in
theorem ipow_spec0 (hn : 0 ≤ y) (hn2 : y ≤ 1000000) (ha : x.natAbs < 2 ^ 64) : Bin w tp lo mean mg mb 84 x y (x ^ y.toNat) := by
  intro dp un gd cn cs a ccd cl outer A₀ base h₀ L m news s tx ty Q E H hret
  obtain ⟨B, F, X, N, T, hk, hC, hd, hu⟩ := H
  refine wpAny_call ?_
  k_dflt cell_enter
  k_steps
  all_goals exact hret _ _ _ (by assumption) (by assumption)
end
set_option maxHeartbeats 8000000 in
theorem push_spec {w : World} {tp : Program} {lo : List Str} {mean : ExcName → Option Value} {mg mb : Str → Option Value}
    {dp un : Nat} {gd : Option (List Code)} {cn : Str} {cs : Scope} {a : Addr} {ccd : Value} {cl : List (Str × Addr)} {outer : List Env} {A₀ : Around} {base h₀ : Heap} {L : Addr} {m : Str → Option Value} {news : List (Addr × Obj)} {s : Shared}
    {x dx pb : Addr} {sl : Array (Option Value)} {h1 h2 h3 h4 : Int} {t1 t2 t3 t4 : Tok} {vl vi vw : Value} {n k : Nat} {its : Array Value} {v : Value} {g : Obj → List (Addr × Obj)}
    {Q E : Value → Shared → Prop}
    (H : Here w tp lo mean mg mb dp un outer cs A₀ base h₀ L m news s 4 40)
    (hx : (x, (⟨.ref 52, some dx, .plain, sl⟩ : Obj)) ∈ news) (hdx : (dx, dictOf (lexEs h1 h2 h3 h4 t1 t2 t3 t4 vl vi vw (.ref pb)) n) ∈ news)
    (hU : UpdF pb (listOf its k) news g) (hz : its.size ≤ 1000)
    (hret : ∀ h' tk', Fr h₀ L h' m → News h₀ L h' (g (listOf (its.push v) (k + 1))) → Q .none { s with heap := h', toks := tk' }) :
    wpAny (model (RowW.prog (OpenRow.toRowW (OpenLaw.row PySem.Challenge.rw_wf0007_01))) w) (ktrTop dp un gd cn cs L a ccd cl outer) (call (.ref 49) [.ref x, v]) Q E s := by
  have hp := updF_mem hU
  obtain ⟨B, F, X, N, T, hk, hC, hd, hu⟩ := H
  refine wpAny_call ?_
  k_dflt cell_enter
  k_steps
  all_goals exact hret _ _ (by assumption) (by assumption)
local macro_rules | `(tactic| walk_at "λ") => `(tactic| first | rfl | assumption)
local macro_rules | `(tactic| walk_at "μ") => `(tactic| with_reducible show wpAny _ _ (call (Value.builtin _) [Value.ref _, Value.int _ _]) _ _ _)
local macro_rules | `(tactic| walk_at "call builtin:list.pop") => `(tactic| (walk_at "μ"; k_dat (kl_popAt (p := [])) "!FF^R^λ^Rζη_" "___"))
theorem idx0 (v : Value) (r : List Value) : seqIndex? 0 (v :: r).toArray.size = some 0 := by
  unfold seqIndex?
  simp
set_option maxHeartbeats 8000000 in
theorem pull_spec {w : World} {tp : Program} {lo : List Str} {mean : ExcName → Option Value} {mg mb : Str → Option Value}
    {dp un : Nat} {gd : Option (List Code)} {cn : Str} {cs : Scope} {a : Addr} {ccd : Value} {cl : List (Str × Addr)} {outer : List Env} {A₀ : Around} {base h₀ : Heap} {L : Addr} {m : Str → Option Value} {news : List (Addr × Obj)} {s : Shared}
    {x dx pb : Addr} {sl : Array (Option Value)} {h1 h2 h3 h4 : Int} {t1 t2 t3 t4 : Tok} {vl vi vw : Value} {n k : Nat} {v : Value} {r : List Value} {g : Obj → List (Addr × Obj)}
    {Q E : Value → Shared → Prop}
    (H : Here w tp lo mean mg mb dp un outer cs A₀ base h₀ L m news s 4 40)
    (hx : (x, (⟨.ref 52, some dx, .plain, sl⟩ : Obj)) ∈ news) (hdx : (dx, dictOf (lexEs h1 h2 h3 h4 t1 t2 t3 t4 vl vi vw (.ref pb)) n) ∈ news)
    (hU : UpdF pb (listOf (v :: r).toArray k) news g) (hz : r.length ≤ 1000)
    (hret : ∀ h' tk', Fr h₀ L h' m → News h₀ L h' (g (listOf r.toArray (k + 1))) → Q v { s with heap := h', toks := tk' }) :
    wpAny (model (RowW.prog (OpenRow.toRowW (OpenLaw.row PySem.Challenge.rw_wf0007_01))) w) (ktrTop dp un gd cn cs L a ccd cl outer) (call (.ref 42) [.ref x]) Q E s := by
  have hp := updF_mem hU
  have hi := idx0 v r
  obtain ⟨B, F, X, N, T, hk, hC, hd, hu⟩ := H
  refine wpAny_call ?_
  k_dflt cell_enter
  k_steps
  all_goals exact hret _ _ (by assumption) (by assumption)
section
theorem slot_cit_next : Slot "callable_iterator" "__next__" "callable_iterator.__next__" :=
  .of (owner := "callable_iterator") (n := "__next__") (by rw [typeLookup_type, builtinLookup_eq_fast]; kernel_rfl) (by decide +kernel) (by decide +kernel) (by decide +kernel)
    (by first | exact .inl (by decide +kernel) | exact .inr (by decide +kernel)) (by rw [isSubtype_type]; kernel_rfl)
theorem slot_cit_iter : Slot "callable_iterator" "__iter__" "callable_iterator.__iter__" :=
  .of (owner := "callable_iterator") (n := "__iter__") (by rw [typeLookup_type, builtinLookup_eq_fast]; kernel_rfl) (by decide +kernel) (by decide +kernel) (by decide +kernel)
    (by first | exact .inl (by decide +kernel) | exact .inr (by decide +kernel)) (by rw [isSubtype_type]; kernel_rfl)
theorem entry_cit_next : entryFor table "callable_iterator.__next__" = some Builtin.«callable_iterator.__next__» := entryFor_of_fast (by kernel_rfl)
theorem entry_cit_iter : entryFor table "callable_iterator.__iter__" = some Builtin.«dict_keyiterator.__iter__» :=
  entryFor_alias (id' := "dict_keyiterator.__iter__") (by kernel_rfl) rfl (by decide +kernel) (by kernel_rfl)
theorem args_cit_next (a : Value) : argsOk "callable_iterator.__next__" ⟨[a], []⟩ := by unfold argsOk; kernel_rfl
theorem args_cit_iter (a : Value) : argsOk "callable_iterator.__iter__" ⟨[a], []⟩ := by unfold argsOk; kernel_rfl
theorem method_call_slot : typeLookup (.type "method") "__call__" = pure (some (.builtin "method.__call__")) := by rw [typeLookup_type, builtinLookup_eq_fast]; kernel_rfl
theorem plain_iter : plainId "iter" = true := by decide +kernel
theorem kind_iter : builtinKind "iter" = none := by decide +kernel
theorem entry_iter : entryFor table "iter" = some Builtin.«iter» := entryFor_of_fast (by kernel_rfl)

noncomputable abbrev citObj (f : Value) (b : Bool) : Obj := { cls := .type "callable_iterator", data := .fields #[f, .str "" 0, .bool b] }
noncomputable abbrev citObj' (f : Value) (t : Tok) : Obj := { cls := .type "callable_iterator", data := .fields #[f, .str "" t, .bool false] }

theorem callBorrowed_eq (f : Value) (pos : List Value) : callBorrowed f pos = (call f pos).keep [borrowed] := by
  unfold callBorrowed call runValue run
  show Sem.call _ _ _ _ _ = Sem.call _ _ _ _ _
  congr 1
  funext r
  cases r with
  | ok f => cases f <;> rfl
  | error e => rfl
variable {M : Model} {A : Around} {E : Value → Shared → Prop} {s : Shared} {h₀ : Heap} {L : Addr} {m : Str → Option Value} {news : List (Addr × Obj)}
theorem wpAny_borrows {q : Addr} {f : Addr} {self : Value} {of : Obj} {fd : FuncData} {Q : Bool → Shared → Prop} (hq : s.heap.get? q = some (methodObj (.ref f) self)) (hf : s.heap.get? f = some of) (hd : of.data = .func fd)
    (h : Q true s) : wpAny M A (borrowsExactly (.ref q)) Q E s := by
  unfold borrowsExactly
  refine wpAny_bind (wpAny_load hq ?_)
  dsimp only [methodObj]
  rw [if_pos (by decide)]
  show wpAny M A (do match (← load f).data with | .func _ => pure true | _ => pure false) Q E s
  refine wpAny_bind (wpAny_load hf ?_)
  rw [hd]
  exact wpAny_pure h
theorem wpAny_outOfSlot {q : Addr} {f : Addr} {self : Value} {of : Obj} {fd : FuncData} {Q : Value → Shared → Prop} (hq : s.heap.get? q = some (methodObj (.ref f) self)) (hf : s.heap.get? f = some of) (hd : of.data = .func fd)
    (h : wpAny M A (call (.ref q) []) Q E s) : wpAny M A (callOutOfASlot (.ref q)) Q E s := by
  unfold callOutOfASlot
  refine wpAny_bind (wpAny_borrows hq hf hd ?_)
  simp only [if_true]
  rw [callBorrowed_eq]
  exact wpAny_keep h
end
section
variable {prog : Program} {w : World} {A : Around} {E : Value → Shared → Prop} {s : Shared} {h₀ : Heap} {L : Addr} {m : Str → Option Value} {news : List (Addr × Obj)}
/-- the next sign that the method hands on -/
theorem cit_next {it q f : Addr} {self : Value} {of : Obj} {fd : FuncData} {t : Tok} {Q : Option Value → Shared → Prop}
    (hi : s.heap.get? it = some (citObj' (.ref q) t)) (hq : s.heap.get? q = some (methodObj (.ref f) self)) (hf : s.heap.get? f = some of) (hd : of.data = .func fd)
    (h : codeAny (model prog w) A.in1 (.call (.ref f) ⟨[self], []⟩) (fun r s' => ∃ c tc, r = .ok (.ret (.str c tc)) ∧ (c == ("" : Str)) = false ∧ s'.heap.get? it = some (citObj' (.ref q) t) ∧ Q (some (.str c tc)) s') s) :
    wpAny (model prog w) A (pyNext (.ref it)) Q E s := by
  have hT : s.TypeIs (.ref it) "callable_iterator" := ⟨_, hi, rfl⟩
  unfold pyNext
  refine wpAny_bind (wpAny_attempt (wpAny_callSpecial?_slot (name := Str.ofString "__next__") hT slot_cit_next
    (wpAny_call_entry slot_cit_next hT entry_cit_next ?_ (args_cit_next _))))
  show wpAny _ _ (field (.ref it) 2 >>= _) _ _ s
  refine wpAny_bind (wpAny_field hi rfl (x := .bool false) rfl ?_)
  show wpAny _ _ (if (Value.bool false == Value.bool true) = true then _ else _) _ _ s
  rw [if_neg (by decide)]
  show wpAny _ _ (field (.ref it) 0 >>= _) _ _ s
  refine wpAny_bind (wpAny_field hi rfl (x := .ref q) rfl ?_)
  refine wpAny_bind (wpAny_attempt (wpAny_outOfSlot hq hf hd ?_))
  refine wpAny_call (method_call hq (codeAny_mono h fun r s' hr => ?_))
  obtain ⟨c, tc, rfl, hc, hi', hQ⟩ := hr
  dsimp only
  refine wpAny_bind (wpAny_field hi' rfl (x := .bool false) rfl ?_)
  show wpAny _ _ (if (Value.bool false == Value.bool true) = true then _ else _) _ _ s'
  rw [if_neg (by decide)]
  show wpAny _ _ (field (.ref it) 1 >>= _) _ _ s'
  refine wpAny_bind (wpAny_field hi' rfl (x := .str "" t) rfl ?_)
  refine wpAny_bind (wpAny_holding (wpAny_eqBool_str ?_))
  have e : decide (("" : Str) = c) = false := by
    rw [decide_eq_false_iff_not]
    intro q
    subst q
    exact absurd hc (by decide)
  rw [e]
  simp only [Bool.not_false, if_true]
  exact wpAny_pure ⟨_, rfl, wpAny_pure hQ⟩
/-- the end of the stream -/
theorem cit_end {it q f : Addr} {self : Value} {of : Obj} {fd : FuncData} {t : Tok} {Q : Option Value → Shared → Prop} (hh : A.handled = none)
    (hi : s.heap.get? it = some (citObj' (.ref q) t)) (hq : s.heap.get? q = some (methodObj (.ref f) self)) (hf : s.heap.get? f = some of) (hd : of.data = .func fd)
    (h : codeAny (model prog w) A.in1 (.call (.ref f) ⟨[self], []⟩) (fun r s' => ∃ tc, r = .ok (.ret (.str "" tc)) ∧ s'.heap.get? it = some (citObj' (.ref q) t) ∧ s'.heap.get? q = some (methodObj (.ref f) self) ∧ s'.heap.get? f = some of ∧
      ∀ h', Heap.ExtBut it s'.heap h' → Q none { s' with heap := h' }) s) :
    wpAny (model prog w) A (pyNext (.ref it)) Q E s := by
  have hT : s.TypeIs (.ref it) "callable_iterator" := ⟨_, hi, rfl⟩
  unfold pyNext
  refine wpAny_bind (wpAny_attempt (wpAny_callSpecial?_slot (name := Str.ofString "__next__") hT slot_cit_next
    (wpAny_call_entry slot_cit_next hT entry_cit_next ?_ (args_cit_next _))))
  show wpAny _ _ (field (.ref it) 2 >>= _) _ _ s
  refine wpAny_bind (wpAny_field hi rfl (x := .bool false) rfl ?_)
  show wpAny _ _ (if (Value.bool false == Value.bool true) = true then _ else _) _ _ s
  rw [if_neg (by decide)]
  show wpAny _ _ (field (.ref it) 0 >>= _) _ _ s
  refine wpAny_bind (wpAny_field hi rfl (x := .ref q) rfl ?_)
  refine wpAny_bind (wpAny_attempt (wpAny_outOfSlot hq hf hd ?_))
  refine wpAny_call (method_call hq (codeAny_mono h fun r s' hr => ?_))
  obtain ⟨tc, rfl, hi', hq', hf', hQ⟩ := hr
  dsimp only
  refine wpAny_bind (wpAny_field hi' rfl (x := .bool false) rfl ?_)
  show wpAny _ _ (if (Value.bool false == Value.bool true) = true then _ else _) _ _ s'
  rw [if_neg (by decide)]
  show wpAny _ _ (field (.ref it) 1 >>= _) _ _ s'
  refine wpAny_bind (wpAny_field hi' rfl (x := .str "" t) rfl ?_)
  refine wpAny_bind (wpAny_holding (wpAny_eqBool_str ?_))
  rw [show decide (("" : Str) = "") = true from by decide]
  simp only [Bool.not_true, Bool.false_eq_true, if_false]
  refine wpAny_bind (wpAny_rule ?_)
  refine wpAny_bind ?_
  show wpAny _ _ (field (.ref it) 0 >>= _) _ _ _
  refine wpAny_bind (wpAny_field hi' rfl (x := .ref q) rfl ?_)
  refine wpAny_bind ?_
  unfold slotLetsGo
  refine wpAny_bind (wpAny_borrows hq' hf' hd ?_)
  simp only [if_true]
  refine wpAny_pure ?_
  refine wpAny_bind (wpAny_setField hi' rfl (by simp) ?_)
  have e1 := Heap.get?_update_self (Obj.mapFields (·.setIfInBounds 0 Value.none)) hi' rfl
  refine wpAny_bind (wpAny_setField e1 rfl (by simp) ?_)
  have e2 := Heap.get?_update_self (Obj.mapFields (·.setIfInBounds 1 Value.none)) e1 rfl
  refine wpAny_setField e2 rfl (by simp) ?_
  show wpAny _ _ (newExc (.type "StopIteration") [] >>= _) _ _ _
  refine wpAny_bind ?_
  simp only [newExc, newTuple]
  refine wpAny_bind (wpAny_newObj_type ?_ (by size_fits))
  refine wpAny_bind (m := firstArgMember _ _) (wpAny_of_eq (a := Value.none) (by first | rfl | (simp only [firstArgMember]; rfl)) ?_)
  refine wpAny_newObj_type ?_ (by size_fits)
  simp only [raiseNew]
  refine wpAny_bind (wpAny_handled ?_)
  rw [show A.in1.handled = none from hh]
  refine wpAny_bind (wpAny_pure (wpAny_throw ?_))
  refine wpAny_bind (wpAny_isInstance (T := "StopIteration") (b := true) ⟨_, Heap.get?_push_size _ rfl, rfl⟩ isSubtype_stop ?_)
  refine wpAny_pure (hQ _ ?_)
  exact (((((Heap.SameBut.update ..).extBut.trans (Heap.SameBut.update ..).extBut).trans (Heap.SameBut.update ..).extBut).push _).push _)
theorem cit_iter {it : Addr} {f : Value} {t : Tok} {Q : Value → Shared → Prop} (hi : s.heap.get? it = some (citObj' f t)) (h : Q (.ref it) s) : wpAny (model prog w) A (pyIter (.ref it)) Q E s := by
  have hT : s.TypeIs (.ref it) "callable_iterator" := ⟨_, hi, rfl⟩
  refine wpAny_pyIter_slot hT slot_cit_iter (wpAny_call_entry slot_cit_iter hT entry_cit_iter ?_ (args_cit_iter _))
  show wpAny _ _ (do ret (Value.ref it)) _ _ s
  exact wpAny_pure ⟨_, rfl, "callable_iterator", _, hT, slot_cit_next.lookup, h⟩
theorem iter_two {q : Addr} {fv self : Value} {t : Tok} {Q : Value → Shared → Prop} (F : Fr h₀ L s.heap m) (N : News h₀ L s.heap news) (hq : (q, methodObj fv self) ∈ news)
    (h : ∀ it h', Fr h₀ L h' m → News h₀ L h' ((it, citObj' (.ref q) t) :: news) → (∀ p ∈ news, p.1 < it) → Q (.ref it) { s with heap := h' }) :
    wpAny (model prog w) A (call (.builtin "iter") [.ref q, .str "" t]) Q E s := by
  have hT : s.TypeIs (.ref q) "method" := ⟨_, (N _ hq).1, rfl⟩
  refine call_function_entry kind_iter plain_iter entry_iter (by first | rfl | (unfold argsOk; kernel_rfl)) ?_
  unfold Builtin.«iter»
  refine wpAny_bind (wpAny_of_eq (a := [Value.ref q, Value.str "" t]) (by first | rfl | (simp [someArgs]; done)) ?_)
  dsimp only
  refine wpAny_bind (wpAny_specialOf hT method_call_slot ?_)
  simp only [Option.isNone_some, Bool.false_eq_true, if_false]
  refine wpAny_bind (wpAny_rule ?_)
  refine wpAny_bind (wpAny_newObj_type (wpAny_pure ⟨_, rfl, h s.heap.objs.size _ (F.push _) (N.push F _) fun p hp => Heap.lt_size (N p hp).1⟩) (by size_fits))
end

/-- a for over what pyNext hands on, at most so many turns; no else -/
noncomputable def ForW (prog : Program) (w : World) (A : Around) (nm : Str) (body : List Stmt) (env : Env) (Q : Flow → Shared → Prop) (E : Value → Shared → Prop) (it : Value) : Nat → Shared → Prop
  | 0, _ => False
  | n + 1, s => wpAny (model prog w) A (pyNext it) (fun r s₁ => match r with
      | none => Q .next s₁
      | some v => wpAny (model prog w) A (storeName env nm v) (fun _ s₂ => wpAny (model prog w) A (execs body env) (fun f s₃ => match f with
          | .next => ForW prog w A nm body env Q E it n s₃
          | .cont => ForW prog w A nm body env Q E it n s₃
          | .brk => Q .next s₃
          | .ret v => Q (.ret v) s₃) E s₂) E s₁) E s
section
variable {prog : Program} {w : World} {A : Around} {E : Value → Shared → Prop} {s : Shared} {env : Env} {nm : Str} {iter : PySem.Expr} {body : List Stmt} {Q : Flow → Shared → Prop} {it : Value} {n : Nat}
theorem forW_step (h : wpAny (model prog w) A (pyNext it) (fun r s₁ => match r with
      | none => Q .next s₁
      | some v => wpAny (model prog w) A (storeName env nm v) (fun _ s₂ => wpAny (model prog w) A (execs body env) (fun f s₃ => match f with
          | .next => ForW prog w A nm body env Q E it n s₃
          | .cont => ForW prog w A nm body env Q E it n s₃
          | .brk => Q .next s₃
          | .ret v => Q (.ret v) s₃) E s₂) E s₁) E s) : ForW prog w A nm body env Q E it (n + 1) s := h
theorem for_W {np pos : Pos} {m : Str → Option Value} {h₀ : Heap} (n : Nat) (_F : Fr h₀ env.locals s.heap m)
    (h : ∀ E', wpAny (model prog w) A (eval iter env) (fun x s₁ => wpAny (model prog w) A (pyIter x) (fun it s₂ => ForW prog w A nm body env Q E' it n s₂) E s₁) E s)
    (hs : ∀ x, foldedSetIterable iter env x = pure x := by intro _; rfl) :
    wpAny (model prog w) A (exec (.For (.Name nm np) iter body [] pos) env) Q E s := by
  refine wpAny_For (wpAny_mono (h (notedBy (model prog w) A env fun e s' => cameBackBy (model prog w) A env E e s')) (fun x s₁ h₁ => wpAny_mono h₁ (fun it s₂ h₂ => ?_) fun _ _ x => x) fun _ _ x => x) hs
  refine codeAny_forLoop (fun n s => ForW prog w A nm body env Q (notedBy (model prog w) A env fun e s' => cameBackBy (model prog w) A env E e s') it n s) (fun k s' hk => ?_) n h₂
  cases k with
  | zero => exact hk.elim
  | succ k =>
    refine wpAny_mono hk (fun r s₁ h₁ => ?_) fun _ _ x => x
    cases r with
    | none => exact wpAny_execs_nil h₁
    | some v =>
      refine wpAny_mono (wpAny_assign_Name h₁) (fun _ s₂ h₂ => wpAny_mono h₂ (fun f s₃ h₃ => ?_) fun _ _ x => x) fun _ _ x => x
      cases f with
      | next => exact ⟨k, Nat.lt_succ_self _, h₃⟩
      | cont => exact ⟨k, Nat.lt_succ_self _, h₃⟩
      | brk => exact h₃
      | ret v => exact h₃
end
section
theorem updF_again {d : Addr} {o : Obj} {l : List (Addr × Obj)} {g : Obj → List (Addr × Obj)} (h : UpdF d o l g) : ∀ o', UpdF d o' (g o') g := by
  induction h with
  | head h => exact fun _ => .head h
  | tail h _ ih => exact fun o' => .tail h (ih o')
theorem lt_of_led {a b : Addr} {o : Obj} {news : List (Addr × Obj)} (l : ∀ p ∈ news, p.1 < a) (h : (b, o) ∈ news) : b < a := l _ h
theorem size_app {x y : Str} {n k : Nat} (hx : x.length ≤ n) (hy : y.length ≤ k) : (x ++ y).length ≤ n + k := by
  rw [Str.length_append]; omega
local macro_rules | `(tactic| k_updF) => `(tactic| first | assumption | exact updF_again (by assumption) _ | (refine' UpdF.tail ?a ?b; (case a => k_ne); (case b => k_updF)))
local macro_rules | `(tactic| k_ne) => `(tactic| first | assumption | exact Nat.ne_of_gt (lt_of_led (by assumption) (by k_mem)))
local macro_rules | `(tactic| walk_at "exec For Name Name") => `(tactic| k_dat (for_W 7) "!F_y" "_")
local macro_rules | `(tactic| walk_at "pyIter ref") => `(tactic| k_dat cit_iter "g_" "")
local macro_rules | `(tactic| walk_at "ForW") => `(tactic| (refine forW_step ?_))
local macro_rules | `(tactic| walk_at "call builtin:iter") => `(tactic| k_dat iter_two "FFm_" "_____S")
local macro_rules | `(tactic| walk_at "inplaceOp Add str str") => `(tactic| ((with_reducible refine PyProof.Rows.iadd_str ?_ (hsz := ?hsz)); (case hsz => ((rw [sizeLine_eq]); (try simp only [Str.length_append]); omega)); intro t9 tk9))
local macro_rules | `(tactic| walk_at "ν") => `(tactic| exact (Frag.In.keeps (by k_asm) (Fr.keep (by k_asm))) _ _ (by k_is))
local macro_rules | `(tactic| walk_at "ξ") => `(tactic| first | omega | (simp; omega))
local macro_rules | `(tactic| walk_at "ο") => `(tactic| (refine' ⟨_, _, rfl, ?e, News.get (by k_asm) (by k_mem), ?_⟩; (case e => decide); (try dsimp only)))
local macro_rules | `(tactic| walk_at "pyNext ref") => `(tactic| (k_dat cit_next "!ggνr_" ""; k_dat rcn_spec "HmmmmmmAAmAuξuAA_" "____NS"; walk_at "ο"))
local macro_rules | `(tactic| walk_at "π") => `(tactic| first | assumption | decide)
local macro_rules | `(tactic| walk_at "ρ") => `(tactic| (refine' ⟨_, _, rfl, ?e, News.get (by k_asm) (by k_mem), ?_⟩; (case e => first | assumption | decide); (try dsimp only)))
local macro_rules | `(tactic| walk_at "pyNext ref") => `(tactic| (k_dat cit_next "!ggνr_" ""; k_dat rc_spec "HmmmmmmAAmAuξπ_" "___NS"; walk_at "ρ"))

set_option maxHeartbeats 8000000 in
theorem w0a {w : World} {tp : Program} {lo : List Str} {mean : ExcName → Option Value} {mg mb : Str → Option Value}
    {dp un : Nat} {gd : Option (List Code)} {cn : Str} {cs : Scope} {a : Addr} {ccd : Value} {cl : List (Str × Addr)} {outer : List Env} {A₀ : Around} {base h₀ : Heap} {L : Addr} {m : Str → Option Value} {news : List (Addr × Obj)} {s : Shared}
    {x dx st dst pb : Addr} {sl sl' : Array (Option Value)} {h1 h2 h3 h4 : Int} {t1 t2 t3 t4 tw : Tok} {l : Int} {tl : Tok} {kp : Nat}
    {g1 g2 g3 g4 g5 : Int} {u1 u2 u3 u4 u5 : Tok} {yl yi yw yp : Value} {n' : Nat}
    {fo ce sg c' : Addr} {qual : Str} {doc pm ctv : Value} {oc oce : Obj} {vs : Array Value} {t : Tok} {p : List Value} {c d : Str} {tc td ta tb te : Tok} {k : Nat} {g gg : Obj → List (Addr × Obj)}
    {Q E : Value → Shared → Prop}
    (H : Here w tp lo mean mg mb dp un outer cs A₀ base h₀ L m news s 20 200)
    (hx : (x, (⟨.ref 52, some dx, .plain, sl⟩ : Obj)) ∈ news) (hdx : (dx, dictOf (lexEs h1 h2 h3 h4 t1 t2 t3 t4 (.int l tl) (.ref st) (.str "\n\t\r " tw) (.ref pb)) 4) ∈ news)
    (hpb : (pb, listOf ([] : List Value).toArray kp) ∈ news)
    (hst : (st, (⟨.ref 52, some dst, .plain, sl'⟩ : Obj)) ∈ news) (hdst : (dst, dictOf (stmEs g1 g2 g3 g4 g5 u1 u2 u3 u4 u5 yl yi yw yp (.ref fo)) n') ∈ news)
    (hf0 : (fo, fnMade (dName pieceDef) qual (dParams pieceDef) (dBody pieceDef) (dScope pieceDef) [("signs", ce)] doc pm c' ctv) ∈ news)
    (hc : (c', oc) ∈ news) (hoc : oc.data = .fields vs) (hvs : vs[1]? = some (.str qual t))
    (hce : (ce, oce) ∈ news) (hcd : oce.data = .cell (some (.ref sg)))
    (hU : UpdF sg (listOf (((p ++ [Value.str " " te]) ++ [Value.str c tc])).toArray k) news g) (hz : p.length ≤ 100)
    (hn1 : x ≠ sg) (hn2 : dx ≠ sg) (hn3 : st ≠ sg) (hn4 : dst ≠ sg) (hn5 : fo ≠ sg) (hn6 : c' ≠ sg) (hn7 : ce ≠ sg) (hn8 : x ≠ dx) (hn9 : st ≠ dx) (hn10 : dst ≠ dx)
    (hc1 : (c == ("\n" : Str)) = false) (hc2 : (c == ("\"" : Str)) = false) (hc3 : (c == ("\\" : Str)) = false) (hc4 : (c == ("" : Str)) = false) (hc5 : (!(Builtin.Str.occurrences ("\n\t\r " : Str) c 0 (Str.length ("\n\t\r " : Str)) 1).isEmpty) = false) (hcl : c.length = 1)
    (hret : ∀ h' tk' tr, Fr h₀ L h' m → News h₀ L h' (g (listOf p.toArray (k + 1 + 1))) → Q (.str (("" : Str) ++ c) tr) { s with heap := h', toks := tk' }) :
    wpAny (model (RowW.prog (OpenRow.toRowW (OpenLaw.row PySem.Challenge.rw_wf0007_01))) w) (ktrTop dp un gd cn cs L a ccd cl outer) (call (.ref 42) [.ref x]) Q E s := by
  have hs := updF_mem hU
  have he5 : (!(Builtin.Str.occurrences ("\n\t\r " : Str) (" " : Str) 0 (Str.length ("\n\t\r " : Str)) 1).isEmpty) = true := by decide +kernel
  have he0 : Str.length ("" : Str) = 0 := by decide +kernel
  obtain ⟨B, F, X, N, T, hk, hC, hd, hu⟩ := H
  refine wpAny_call ?_
  k_dflt cell_enter
  k_steps
  all_goals exact hret _ _ _ (by assumption) (cb_drop (by assumption) (fun q hq => .tail _ (.tail _ hq)))

set_option maxHeartbeats 8000000 in
theorem w0b {w : World} {tp : Program} {lo : List Str} {mean : ExcName → Option Value} {mg mb : Str → Option Value}
    {dp un : Nat} {gd : Option (List Code)} {cn : Str} {cs : Scope} {a : Addr} {ccd : Value} {cl : List (Str × Addr)} {outer : List Env} {A₀ : Around} {base h₀ : Heap} {L : Addr} {m : Str → Option Value} {news : List (Addr × Obj)} {s : Shared}
    {x dx st dst pb : Addr} {sl sl' : Array (Option Value)} {h1 h2 h3 h4 : Int} {t1 t2 t3 t4 tw : Tok} {l : Int} {tl : Tok} {kp : Nat}
    {g1 g2 g3 g4 g5 : Int} {u1 u2 u3 u4 u5 : Tok} {yl yi yw yp : Value} {n' : Nat}
    {fo ce sg c' : Addr} {qual : Str} {doc pm ctv : Value} {oc oce : Obj} {vs : Array Value} {t : Tok} {p : List Value} {c d : Str} {tc td ta tb te : Tok} {k : Nat} {g gg : Obj → List (Addr × Obj)}
    {Q E : Value → Shared → Prop}
    (H : Here w tp lo mean mg mb dp un outer cs A₀ base h₀ L m news s 20 200)
    (hx : (x, (⟨.ref 52, some dx, .plain, sl⟩ : Obj)) ∈ news) (hdx : (dx, dictOf (lexEs h1 h2 h3 h4 t1 t2 t3 t4 (.int l tl) (.ref st) (.str "\n\t\r " tw) (.ref pb)) 4) ∈ news)
    (hpb : (pb, listOf ([] : List Value).toArray kp) ∈ news)
    (hst : (st, (⟨.ref 52, some dst, .plain, sl'⟩ : Obj)) ∈ news) (hdst : (dst, dictOf (stmEs g1 g2 g3 g4 g5 u1 u2 u3 u4 u5 yl yi yw yp (.ref fo)) n') ∈ news)
    (hf0 : (fo, fnMade (dName pieceDef) qual (dParams pieceDef) (dBody pieceDef) (dScope pieceDef) [("signs", ce)] doc pm c' ctv) ∈ news)
    (hc : (c', oc) ∈ news) (hoc : oc.data = .fields vs) (hvs : vs[1]? = some (.str qual t))
    (hce : (ce, oce) ∈ news) (hcd : oce.data = .cell (some (.ref sg)))
    (hU : UpdF sg (listOf ((((p ++ [Value.str " " te]) ++ [Value.str d td]) ++ [Value.str c tc])).toArray k) news g) (hz : p.length ≤ 100)
    (hn1 : x ≠ sg) (hn2 : dx ≠ sg) (hn3 : st ≠ sg) (hn4 : dst ≠ sg) (hn5 : fo ≠ sg) (hn6 : c' ≠ sg) (hn7 : ce ≠ sg) (hn8 : x ≠ dx) (hn9 : st ≠ dx) (hn10 : dst ≠ dx)
    (hc1 : (c == ("\n" : Str)) = false) (hc2 : (c == ("\"" : Str)) = false) (hc3 : (c == ("\\" : Str)) = false) (hc4 : (c == ("" : Str)) = false) (hc5 : (!(Builtin.Str.occurrences ("\n\t\r " : Str) c 0 (Str.length ("\n\t\r " : Str)) 1).isEmpty) = false) (hcl : c.length = 1)
    (hd1 : (d == ("\n" : Str)) = false) (hd2 : (d == ("\"" : Str)) = false) (hd3 : (d == ("\\" : Str)) = false) (hd4 : (d == ("" : Str)) = false) (hd5 : (!(Builtin.Str.occurrences ("\n\t\r " : Str) d 0 (Str.length ("\n\t\r " : Str)) 1).isEmpty) = false) (hdl : d.length = 1)
    (hret : ∀ h' tk' tr, Fr h₀ L h' m → News h₀ L h' (g (listOf p.toArray (k + 1 + 1 + 1))) → Q (.str (("" : Str) ++ c ++ d) tr) { s with heap := h', toks := tk' }) :
    wpAny (model (RowW.prog (OpenRow.toRowW (OpenLaw.row PySem.Challenge.rw_wf0007_01))) w) (ktrTop dp un gd cn cs L a ccd cl outer) (call (.ref 42) [.ref x]) Q E s := by
  have hs := updF_mem hU
  have he5 : (!(Builtin.Str.occurrences ("\n\t\r " : Str) (" " : Str) 0 (Str.length ("\n\t\r " : Str)) 1).isEmpty) = true := by decide +kernel
  have he0 : Str.length ("" : Str) = 0 := by decide +kernel
  obtain ⟨B, F, X, N, T, hk, hC, hd, hu⟩ := H
  refine wpAny_call ?_
  k_dflt cell_enter
  k_steps
  all_goals exact hret _ _ _ (by assumption) (cb_drop (by assumption) (fun q hq => .tail _ (.tail _ hq)))

set_option maxHeartbeats 8000000 in
theorem w1a {w : World} {tp : Program} {lo : List Str} {mean : ExcName → Option Value} {mg mb : Str → Option Value}
    {dp un : Nat} {gd : Option (List Code)} {cn : Str} {cs : Scope} {a : Addr} {ccd : Value} {cl : List (Str × Addr)} {outer : List Env} {A₀ : Around} {base h₀ : Heap} {L : Addr} {m : Str → Option Value} {news : List (Addr × Obj)} {s : Shared}
    {x dx st dst pb : Addr} {sl sl' : Array (Option Value)} {h1 h2 h3 h4 : Int} {t1 t2 t3 t4 tw : Tok} {l : Int} {tl : Tok} {kp : Nat}
    {g1 g2 g3 g4 g5 : Int} {u1 u2 u3 u4 u5 : Tok} {yl yi yw yp : Value} {n' : Nat}
    {fo ce sg c' : Addr} {qual : Str} {doc pm ctv : Value} {oc oce : Obj} {vs : Array Value} {t : Tok} {p : List Value} {c d : Str} {tc td ta tb te : Tok} {k : Nat} {g gg : Obj → List (Addr × Obj)}
    {Q E : Value → Shared → Prop}
    (H : Here w tp lo mean mg mb dp un outer cs A₀ base h₀ L m news s 20 200)
    (hx : (x, (⟨.ref 52, some dx, .plain, sl⟩ : Obj)) ∈ news) (hdx : (dx, dictOf (lexEs h1 h2 h3 h4 t1 t2 t3 t4 (.int l tl) (.ref st) (.str "\n\t\r " tw) (.ref pb)) 4) ∈ news)
    (hpb : (pb, listOf ([] : List Value).toArray kp) ∈ news)
    (hst : (st, (⟨.ref 52, some dst, .plain, sl'⟩ : Obj)) ∈ news) (hdst : (dst, dictOf (stmEs g1 g2 g3 g4 g5 u1 u2 u3 u4 u5 yl yi yw yp (.ref fo)) n') ∈ news)
    (hf0 : (fo, fnMade (dName pieceDef) qual (dParams pieceDef) (dBody pieceDef) (dScope pieceDef) [("signs", ce)] doc pm c' ctv) ∈ news)
    (hc : (c', oc) ∈ news) (hoc : oc.data = .fields vs) (hvs : vs[1]? = some (.str qual t))
    (hce : (ce, oce) ∈ news) (hcd : oce.data = .cell (some (.ref sg)))
    (hU : UpdF sg (listOf ((((p ++ [Value.str "\"" te]) ++ [Value.str c tc]) ++ [Value.str "\"" ta])).toArray k) news g) (hz : p.length ≤ 100)
    (hn1 : x ≠ sg) (hn2 : dx ≠ sg) (hn3 : st ≠ sg) (hn4 : dst ≠ sg) (hn5 : fo ≠ sg) (hn6 : c' ≠ sg) (hn7 : ce ≠ sg) (hn8 : x ≠ dx) (hn9 : st ≠ dx) (hn10 : dst ≠ dx)
    (hc1 : (c == ("\n" : Str)) = false) (hc2 : (c == ("\"" : Str)) = false) (hc3 : (c == ("\\" : Str)) = false) (hc4 : (c == ("" : Str)) = false) (hc5 : (!(Builtin.Str.occurrences ("\n\t\r " : Str) c 0 (Str.length ("\n\t\r " : Str)) 1).isEmpty) = false) (hcl : c.length = 1)
    (hret : ∀ h' tk' tr, Fr h₀ L h' m → News h₀ L h' (g (listOf p.toArray (k + 1 + 1 + 1))) → Q (.str (("" : Str) ++ c) tr) { s with heap := h', toks := tk' }) :
    wpAny (model (RowW.prog (OpenRow.toRowW (OpenLaw.row PySem.Challenge.rw_wf0007_01))) w) (ktrTop dp un gd cn cs L a ccd cl outer) (call (.ref 42) [.ref x]) Q E s := by
  have hs := updF_mem hU
  have he5 : (!(Builtin.Str.occurrences ("\n\t\r " : Str) ("\"" : Str) 0 (Str.length ("\n\t\r " : Str)) 1).isEmpty) = false := by decide +kernel
  have he0 : Str.length ("" : Str) = 0 := by decide +kernel
  obtain ⟨B, F, X, N, T, hk, hC, hd, hu⟩ := H
  refine wpAny_call ?_
  k_dflt cell_enter
  k_steps
  all_goals exact hret _ _ _ (by assumption) (cb_drop (by assumption) (fun q hq => .tail _ (.tail _ hq)))

set_option maxHeartbeats 8000000 in
theorem w1b {w : World} {tp : Program} {lo : List Str} {mean : ExcName → Option Value} {mg mb : Str → Option Value}
    {dp un : Nat} {gd : Option (List Code)} {cn : Str} {cs : Scope} {a : Addr} {ccd : Value} {cl : List (Str × Addr)} {outer : List Env} {A₀ : Around} {base h₀ : Heap} {L : Addr} {m : Str → Option Value} {news : List (Addr × Obj)} {s : Shared}
    {x dx st dst pb : Addr} {sl sl' : Array (Option Value)} {h1 h2 h3 h4 : Int} {t1 t2 t3 t4 tw : Tok} {l : Int} {tl : Tok} {kp : Nat}
    {g1 g2 g3 g4 g5 : Int} {u1 u2 u3 u4 u5 : Tok} {yl yi yw yp : Value} {n' : Nat}
    {fo ce sg c' : Addr} {qual : Str} {doc pm ctv : Value} {oc oce : Obj} {vs : Array Value} {t : Tok} {p : List Value} {c d : Str} {tc td ta tb te : Tok} {k : Nat} {g gg : Obj → List (Addr × Obj)}
    {Q E : Value → Shared → Prop}
    (H : Here w tp lo mean mg mb dp un outer cs A₀ base h₀ L m news s 20 200)
    (hx : (x, (⟨.ref 52, some dx, .plain, sl⟩ : Obj)) ∈ news) (hdx : (dx, dictOf (lexEs h1 h2 h3 h4 t1 t2 t3 t4 (.int l tl) (.ref st) (.str "\n\t\r " tw) (.ref pb)) 4) ∈ news)
    (hpb : (pb, listOf ([] : List Value).toArray kp) ∈ news)
    (hst : (st, (⟨.ref 52, some dst, .plain, sl'⟩ : Obj)) ∈ news) (hdst : (dst, dictOf (stmEs g1 g2 g3 g4 g5 u1 u2 u3 u4 u5 yl yi yw yp (.ref fo)) n') ∈ news)
    (hf0 : (fo, fnMade (dName pieceDef) qual (dParams pieceDef) (dBody pieceDef) (dScope pieceDef) [("signs", ce)] doc pm c' ctv) ∈ news)
    (hc : (c', oc) ∈ news) (hoc : oc.data = .fields vs) (hvs : vs[1]? = some (.str qual t))
    (hce : (ce, oce) ∈ news) (hcd : oce.data = .cell (some (.ref sg)))
    (hU : UpdF sg (listOf (((((p ++ [Value.str "\"" te]) ++ [Value.str d td]) ++ [Value.str c tc]) ++ [Value.str "\"" ta])).toArray k) news g) (hz : p.length ≤ 100)
    (hn1 : x ≠ sg) (hn2 : dx ≠ sg) (hn3 : st ≠ sg) (hn4 : dst ≠ sg) (hn5 : fo ≠ sg) (hn6 : c' ≠ sg) (hn7 : ce ≠ sg) (hn8 : x ≠ dx) (hn9 : st ≠ dx) (hn10 : dst ≠ dx)
    (hc1 : (c == ("\n" : Str)) = false) (hc2 : (c == ("\"" : Str)) = false) (hc3 : (c == ("\\" : Str)) = false) (hc4 : (c == ("" : Str)) = false) (hc5 : (!(Builtin.Str.occurrences ("\n\t\r " : Str) c 0 (Str.length ("\n\t\r " : Str)) 1).isEmpty) = false) (hcl : c.length = 1)
    (hd1 : (d == ("\n" : Str)) = false) (hd2 : (d == ("\"" : Str)) = false) (hd3 : (d == ("\\" : Str)) = false) (hd4 : (d == ("" : Str)) = false) (hd5 : (!(Builtin.Str.occurrences ("\n\t\r " : Str) d 0 (Str.length ("\n\t\r " : Str)) 1).isEmpty) = false) (hdl : d.length = 1)
    (hret : ∀ h' tk' tr, Fr h₀ L h' m → News h₀ L h' (g (listOf p.toArray (k + 1 + 1 + 1 + 1))) → Q (.str (("" : Str) ++ c ++ d) tr) { s with heap := h', toks := tk' }) :
    wpAny (model (RowW.prog (OpenRow.toRowW (OpenLaw.row PySem.Challenge.rw_wf0007_01))) w) (ktrTop dp un gd cn cs L a ccd cl outer) (call (.ref 42) [.ref x]) Q E s := by
  have hs := updF_mem hU
  have he5 : (!(Builtin.Str.occurrences ("\n\t\r " : Str) ("\"" : Str) 0 (Str.length ("\n\t\r " : Str)) 1).isEmpty) = false := by decide +kernel
  have he0 : Str.length ("" : Str) = 0 := by decide +kernel
  obtain ⟨B, F, X, N, T, hk, hC, hd, hu⟩ := H
  refine wpAny_call ?_
  k_dflt cell_enter
  k_steps
  all_goals exact hret _ _ _ (by assumption) (cb_drop (by assumption) (fun q hq => .tail _ (.tail _ hq)))

set_option maxHeartbeats 8000000 in
theorem w2a {w : World} {tp : Program} {lo : List Str} {mean : ExcName → Option Value} {mg mb : Str → Option Value}
    {dp un : Nat} {gd : Option (List Code)} {cn : Str} {cs : Scope} {a : Addr} {ccd : Value} {cl : List (Str × Addr)} {outer : List Env} {A₀ : Around} {base h₀ : Heap} {L : Addr} {m : Str → Option Value} {news : List (Addr × Obj)} {s : Shared}
    {x dx st dst pb : Addr} {sl sl' : Array (Option Value)} {h1 h2 h3 h4 : Int} {t1 t2 t3 t4 tw : Tok} {l : Int} {tl : Tok} {kp : Nat}
    {g1 g2 g3 g4 g5 : Int} {u1 u2 u3 u4 u5 : Tok} {yl yi yw yp : Value} {n' : Nat}
    {fo ce sg c' : Addr} {qual : Str} {doc pm ctv : Value} {oc oce : Obj} {vs : Array Value} {t : Tok} {p : List Value} {c d : Str} {tc td ta tb te : Tok} {k : Nat} {g gg : Obj → List (Addr × Obj)}
    {Q E : Value → Shared → Prop}
    (H : Here w tp lo mean mg mb dp un outer cs A₀ base h₀ L m news s 20 200)
    (hx : (x, (⟨.ref 52, some dx, .plain, sl⟩ : Obj)) ∈ news) (hdx : (dx, dictOf (lexEs h1 h2 h3 h4 t1 t2 t3 t4 (.int l tl) (.ref st) (.str "\n\t\r " tw) (.ref pb)) 4) ∈ news)
    (hpb : (pb, listOf ([] : List Value).toArray kp) ∈ news)
    (hst : (st, (⟨.ref 52, some dst, .plain, sl'⟩ : Obj)) ∈ news) (hdst : (dst, dictOf (stmEs g1 g2 g3 g4 g5 u1 u2 u3 u4 u5 yl yi yw yp (.ref fo)) n') ∈ news)
    (hf0 : (fo, fnMade (dName pieceDef) qual (dParams pieceDef) (dBody pieceDef) (dScope pieceDef) [("signs", ce)] doc pm c' ctv) ∈ news)
    (hc : (c', oc) ∈ news) (hoc : oc.data = .fields vs) (hvs : vs[1]? = some (.str qual t))
    (hce : (ce, oce) ∈ news) (hcd : oce.data = .cell (some (.ref sg)))
    (hU : UpdF sg (listOf ((((p ++ [Value.str "\n" te]) ++ [Value.str c tc]) ++ [Value.str "\\" ta])).toArray k) news g) (hz : p.length ≤ 100)
    (hn1 : x ≠ sg) (hn2 : dx ≠ sg) (hn3 : st ≠ sg) (hn4 : dst ≠ sg) (hn5 : fo ≠ sg) (hn6 : c' ≠ sg) (hn7 : ce ≠ sg) (hn8 : x ≠ dx) (hn9 : st ≠ dx) (hn10 : dst ≠ dx)
    (hV : UpdF dx (dictOf (lexEs h1 h2 h3 h4 t1 t2 t3 t4 (.int l tl) (.ref st) (.str "\n\t\r " tw) (.ref pb)) 4) (g (listOf p.toArray (k + 1 + 1 + 1))) gg)
    (hc1 : (c == ("\n" : Str)) = false) (hc2 : (c == ("\"" : Str)) = false) (hc3 : (c == ("\\" : Str)) = false) (hc4 : (c == ("" : Str)) = false) (hc5 : (!(Builtin.Str.occurrences ("\n\t\r " : Str) c 0 (Str.length ("\n\t\r " : Str)) 1).isEmpty) = false) (hcl : c.length = 1)
    (hret : ∀ h' tk' tr tl', Fr h₀ L h' m → News h₀ L h' (gg (dictOf (lexEs h1 h2 h3 h4 t1 t2 t3 t4 (.int (l + 1) tl') (.ref st) (.str "\n\t\r " tw) (.ref pb)) 4)) → Q (.str (("" : Str) ++ c) tr) { s with heap := h', toks := tk' }) :
    wpAny (model (RowW.prog (OpenRow.toRowW (OpenLaw.row PySem.Challenge.rw_wf0007_01))) w) (ktrTop dp un gd cn cs L a ccd cl outer) (call (.ref 42) [.ref x]) Q E s := by
  have hs := updF_mem hU
  have he5 : (!(Builtin.Str.occurrences ("\n\t\r " : Str) ("\n" : Str) 0 (Str.length ("\n\t\r " : Str)) 1).isEmpty) = true := by decide +kernel
  have he6 : (!(Builtin.Str.occurrences ("\n\t\r " : Str) ("\\" : Str) 0 (Str.length ("\n\t\r " : Str)) 1).isEmpty) = false := by decide +kernel
  have he0 : Str.length ("" : Str) = 0 := by decide +kernel
  obtain ⟨B, F, X, N, T, hk, hC, hd, hu⟩ := H
  refine wpAny_call ?_
  k_dflt cell_enter
  k_steps
  all_goals exact hret _ _ _ _ (by assumption) (cb_drop (by assumption) (fun q hq => .tail _ (.tail _ hq)))

set_option maxHeartbeats 8000000 in
theorem w2b {w : World} {tp : Program} {lo : List Str} {mean : ExcName → Option Value} {mg mb : Str → Option Value}
    {dp un : Nat} {gd : Option (List Code)} {cn : Str} {cs : Scope} {a : Addr} {ccd : Value} {cl : List (Str × Addr)} {outer : List Env} {A₀ : Around} {base h₀ : Heap} {L : Addr} {m : Str → Option Value} {news : List (Addr × Obj)} {s : Shared}
    {x dx st dst pb : Addr} {sl sl' : Array (Option Value)} {h1 h2 h3 h4 : Int} {t1 t2 t3 t4 tw : Tok} {l : Int} {tl : Tok} {kp : Nat}
    {g1 g2 g3 g4 g5 : Int} {u1 u2 u3 u4 u5 : Tok} {yl yi yw yp : Value} {n' : Nat}
    {fo ce sg c' : Addr} {qual : Str} {doc pm ctv : Value} {oc oce : Obj} {vs : Array Value} {t : Tok} {p : List Value} {c d : Str} {tc td ta tb te : Tok} {k : Nat} {g gg : Obj → List (Addr × Obj)}
    {Q E : Value → Shared → Prop}
    (H : Here w tp lo mean mg mb dp un outer cs A₀ base h₀ L m news s 20 200)
    (hx : (x, (⟨.ref 52, some dx, .plain, sl⟩ : Obj)) ∈ news) (hdx : (dx, dictOf (lexEs h1 h2 h3 h4 t1 t2 t3 t4 (.int l tl) (.ref st) (.str "\n\t\r " tw) (.ref pb)) 4) ∈ news)
    (hpb : (pb, listOf ([] : List Value).toArray kp) ∈ news)
    (hst : (st, (⟨.ref 52, some dst, .plain, sl'⟩ : Obj)) ∈ news) (hdst : (dst, dictOf (stmEs g1 g2 g3 g4 g5 u1 u2 u3 u4 u5 yl yi yw yp (.ref fo)) n') ∈ news)
    (hf0 : (fo, fnMade (dName pieceDef) qual (dParams pieceDef) (dBody pieceDef) (dScope pieceDef) [("signs", ce)] doc pm c' ctv) ∈ news)
    (hc : (c', oc) ∈ news) (hoc : oc.data = .fields vs) (hvs : vs[1]? = some (.str qual t))
    (hce : (ce, oce) ∈ news) (hcd : oce.data = .cell (some (.ref sg)))
    (hU : UpdF sg (listOf ((((((p ++ [Value.str "\n" te]) ++ [Value.str d td]) ++ [Value.str "\\" tb]) ++ [Value.str c tc]) ++ [Value.str "\\" ta])).toArray k) news g) (hz : p.length ≤ 100)
    (hn1 : x ≠ sg) (hn2 : dx ≠ sg) (hn3 : st ≠ sg) (hn4 : dst ≠ sg) (hn5 : fo ≠ sg) (hn6 : c' ≠ sg) (hn7 : ce ≠ sg) (hn8 : x ≠ dx) (hn9 : st ≠ dx) (hn10 : dst ≠ dx)
    (hV : UpdF dx (dictOf (lexEs h1 h2 h3 h4 t1 t2 t3 t4 (.int l tl) (.ref st) (.str "\n\t\r " tw) (.ref pb)) 4) (g (listOf p.toArray (k + 1 + 1 + 1 + 1 + 1))) gg)
    (hc1 : (c == ("\n" : Str)) = false) (hc2 : (c == ("\"" : Str)) = false) (hc3 : (c == ("\\" : Str)) = false) (hc4 : (c == ("" : Str)) = false) (hc5 : (!(Builtin.Str.occurrences ("\n\t\r " : Str) c 0 (Str.length ("\n\t\r " : Str)) 1).isEmpty) = false) (hcl : c.length = 1)
    (hd1 : (d == ("\n" : Str)) = false) (hd2 : (d == ("\"" : Str)) = false) (hd3 : (d == ("\\" : Str)) = false) (hd4 : (d == ("" : Str)) = false) (hd5 : (!(Builtin.Str.occurrences ("\n\t\r " : Str) d 0 (Str.length ("\n\t\r " : Str)) 1).isEmpty) = false) (hdl : d.length = 1)
    (hret : ∀ h' tk' tr tl', Fr h₀ L h' m → News h₀ L h' (gg (dictOf (lexEs h1 h2 h3 h4 t1 t2 t3 t4 (.int (l + 1) tl') (.ref st) (.str "\n\t\r " tw) (.ref pb)) 4)) → Q (.str (("" : Str) ++ c ++ d) tr) { s with heap := h', toks := tk' }) :
    wpAny (model (RowW.prog (OpenRow.toRowW (OpenLaw.row PySem.Challenge.rw_wf0007_01))) w) (ktrTop dp un gd cn cs L a ccd cl outer) (call (.ref 42) [.ref x]) Q E s := by
  have hs := updF_mem hU
  have he5 : (!(Builtin.Str.occurrences ("\n\t\r " : Str) ("\n" : Str) 0 (Str.length ("\n\t\r " : Str)) 1).isEmpty) = true := by decide +kernel
  have he6 : (!(Builtin.Str.occurrences ("\n\t\r " : Str) ("\\" : Str) 0 (Str.length ("\n\t\r " : Str)) 1).isEmpty) = false := by decide +kernel
  have he0 : Str.length ("" : Str) = 0 := by decide +kernel
  obtain ⟨B, F, X, N, T, hk, hC, hd, hu⟩ := H
  refine wpAny_call ?_
  k_dflt cell_enter
  k_steps
  all_goals exact hret _ _ _ _ (by assumption) (cb_drop (by assumption) (fun q hq => .tail _ (.tail _ hq)))

end
section
theorem fr_extBut {h₀ h h' : Heap} {L it : Addr} {m : Str → Option Value} (F : Fr h₀ L h m) (hi : h₀.get? it = none) (hne : it ≠ L) (hx : Heap.ExtBut it h h') : Fr h₀ L h' m :=
  ⟨F.ns.extBut hx (Ne.symm hne), fun b o e => hx b o (fun q => by rw [q, hi] at e; cases e) (F.keep b o e), F.above⟩
theorem cit_end_K {prog : Program} {w : World} {A : Around} {E : Value → Shared → Prop} {s : Shared} {h₀ : Heap} {L : Addr} {m : Str → Option Value} {news : List (Addr × Obj)} {it q f : Addr} {self : Value} {of : Obj} {fd : FuncData} {t : Tok} {Q : Option Value → Shared → Prop}
    (hh : A.handled = none) (F : Fr h₀ L s.heap m) (N : News h₀ L s.heap ((it, citObj' (.ref q) t) :: (q, methodObj (.ref f) self) :: news)) (hl : ∀ p ∈ (q, methodObj (.ref f) self) :: news, p.1 < it)
    (hf : h₀.get? f = some of) (hd : of.data = .func fd)
    (h : codeAny (model prog w) A.in1 (.call (.ref f) ⟨[self], []⟩) (fun r s' => ∃ tc h' tk', r = .ok (.ret (.str "" tc)) ∧ s' = { s with heap := h', toks := tk' } ∧ Fr h₀ L h' m ∧ News h₀ L h' ((it, citObj' (.ref q) t) :: (q, methodObj (.ref f) self) :: news)) s)
    (hQ : ∀ h' tk', Fr h₀ L h' m → News h₀ L h' ((q, methodObj (.ref f) self) :: news) → Q none { s with heap := h', toks := tk' }) :
    wpAny (model prog w) A (pyNext (.ref it)) Q E s := by
  refine cit_end hh (News.get N (.head _)) (News.get N (.tail _ (.head _))) (F.keep _ _ hf) hd (codeAny_mono h ?_)
  rintro r s' ⟨tc, h', tk', rfl, rfl, F', N'⟩
  refine ⟨tc, rfl, News.get N' (.head _), News.get N' (.tail _ (.head _)), F'.keep _ _ hf, fun h'' hx => hQ h'' tk' ?_ ?_⟩
  · exact fr_extBut F' (News.fresh N' (.head _)) (N' _ (.head _)).2.1 hx
  · intro p hp
    have hp' := N' p (.tail _ hp)
    exact ⟨hx _ _ (Nat.ne_of_lt (hl p hp)) hp'.1, hp'.2⟩
local macro_rules | `(tactic| walk_at "exec For Name Name") => `(tactic| k_dat (for_W 7) "!F_y" "_")
local macro_rules | `(tactic| walk_at "pyIter ref") => `(tactic| k_dat cit_iter "g_" "")
local macro_rules | `(tactic| walk_at "ForW") => `(tactic| (refine forW_step ?_))
local macro_rules | `(tactic| walk_at "call builtin:iter") => `(tactic| k_dat iter_two "FFm_" "_____S")
local macro_rules | `(tactic| walk_at "σ") => `(tactic| exact (show Frag.In _ _ by k_asm) _ _ (by k_is))
local macro_rules | `(tactic| walk_at "τ") => `(tactic| intro tk0 h' tk' F' N'; exact ⟨_, _, _, rfl, rfl, F', N'⟩)
local macro_rules | `(tactic| walk_at "υ") => `(tactic| (intro h' tk' F' N'; (try k_sweep); (try dsimp only)))
local macro_rules | `(tactic| walk_at "pyNext ref") => `(tactic| (k_dat cit_end_K "!rFFAσr__" ""; (k_dat rc0_spec "!HmmmmmmAAmAm_" ""; walk_at "τ"); walk_at "υ"))
set_option maxHeartbeats 8000000 in
theorem end_spec {w : World} {tp : Program} {lo : List Str} {mean : ExcName → Option Value} {mg mb : Str → Option Value}
    {dp un : Nat} {gd : Option (List Code)} {cn : Str} {cs : Scope} {a : Addr} {ccd : Value} {cl : List (Str × Addr)} {outer : List Env} {A₀ : Around} {base h₀ : Heap} {L : Addr} {m : Str → Option Value} {news : List (Addr × Obj)} {s : Shared}
    {x dx st dst pb : Addr} {sl sl' : Array (Option Value)} {h1 h2 h3 h4 : Int} {t1 t2 t3 t4 tw : Tok} {vl : Value} {n kp : Nat}
    {g1 g2 g3 g4 g5 : Int} {u1 u2 u3 u4 u5 : Tok} {yl yi yw yp : Value} {n' : Nat}
    {fo ce sg c' : Addr} {qual : Str} {doc pm ctv : Value} {oc oce : Obj} {vs : Array Value} {t : Tok} {k : Nat}
    {Q E : Value → Shared → Prop}
    (H : Here w tp lo mean mg mb dp un outer cs A₀ base h₀ L m news s 20 200)
    (hx : (x, (⟨.ref 52, some dx, .plain, sl⟩ : Obj)) ∈ news) (hdx : (dx, dictOf (lexEs h1 h2 h3 h4 t1 t2 t3 t4 vl (.ref st) (.str "\n\t\r " tw) (.ref pb)) n) ∈ news)
    (hpb : (pb, listOf ([] : List Value).toArray kp) ∈ news)
    (hst : (st, (⟨.ref 52, some dst, .plain, sl'⟩ : Obj)) ∈ news) (hdst : (dst, dictOf (stmEs g1 g2 g3 g4 g5 u1 u2 u3 u4 u5 yl yi yw yp (.ref fo)) n') ∈ news)
    (hf0 : (fo, fnMade (dName pieceDef) qual (dParams pieceDef) (dBody pieceDef) (dScope pieceDef) [("signs", ce)] doc pm c' ctv) ∈ news)
    (hc : (c', oc) ∈ news) (hoc : oc.data = .fields vs) (hvs : vs[1]? = some (.str qual t))
    (hce : (ce, oce) ∈ news) (hcd : oce.data = .cell (some (.ref sg)))
    (hs : (sg, listOf ([] : List Value).toArray k) ∈ news)
    (hret : ∀ h' tk' tr, Fr h₀ L h' m → News h₀ L h' news → Q (.str "" tr) { s with heap := h', toks := tk' }) :
    wpAny (model (RowW.prog (OpenRow.toRowW (OpenLaw.row PySem.Challenge.rw_wf0007_01))) w) (ktrTop dp un gd cn cs L a ccd cl outer) (call (.ref 42) [.ref x]) Q E s := by
  obtain ⟨B, F, X, N, T, hk, hC, hd, hu⟩ := H
  refine wpAny_call ?_
  k_dflt cell_enter
  k_steps
  all_goals exact hret _ _ _ (by assumption) (cb_drop (by assumption) (fun q hq => .tail _ hq))
end
section
theorem ba_mro : mroOf (.type "bytearray") = pure [.type "bytearray", .type "object"] := by rw [mroOf_type]; kernel_rfl
theorem ba_lookup_new : typeLookup (.type "bytearray") "__new__" = pure (some (.builtin "bytearray.__new__")) := by rw [typeLookup_type, builtinLookup_eq_fast]; kernel_rfl
theorem ba_slot_init : Slot "bytearray" "__init__" "bytearray.__init__" :=
  .of (owner := "bytearray") (n := "__init__") (by rw [typeLookup_type, builtinLookup_eq_fast]; kernel_rfl) (by decide +kernel) (by decide +kernel) (by decide +kernel)
    (by first | exact .inl (by decide +kernel) | exact .inr (by decide +kernel)) (by rw [isSubtype_type]; kernel_rfl)
theorem ba_called : TypeCalled "bytearray" "bytearray.__new__" "bytearray.__init__" :=
  ⟨by decide +kernel, by decide +kernel, ⟨_, _, ba_mro⟩, madeBy_type ba_mro ba_lookup_new (by decide +kernel), by decide +kernel, by rw [isSubtype_type]; kernel_rfl, ba_slot_init⟩
theorem ba_typeCall (a : Value) : checkTypeCall "bytearray" ⟨[a], []⟩ = pure () := by kernel_rfl
theorem ba_newCall (a : Value) : checkBuiltinCall "bytearray.__new__" ⟨[.type "bytearray", a], []⟩ = pure () := by kernel_rfl
theorem ba_entry_new : entryFor table "bytearray.__new__" = some Builtin.«list.__new__» :=
  entryFor_alias (id' := "list.__new__") (by kernel_rfl) rfl (by decide +kernel) (by first | kernel_rfl | exact (by kernel_rfl))
theorem ba_plain_new : plainId "bytearray.__new__" = true := by decide +kernel
theorem ba_plain_init : plainId "bytearray.__init__" = true := by decide +kernel
theorem ba_entry_init : entryFor table "bytearray.__init__" = some Builtin.«bytearray.__init__» := by first | exact entryFor_of_fast (by kernel_rfl) | exact entryFor_of_tree (by kernel_rfl)
set_option maxRecDepth 1000000 in
set_option maxHeartbeats 4000000 in
theorem ba_owner : ("bytearray.__new__".splitOn ".__new__").headD "" = "bytearray" := by simp +decide [String.splitOn, String.splitOnAux]
theorem ba_sub : isSubtype (.type "bytearray") (.type "bytearray") = pure true := by rw [isSubtype_type]; kernel_rfl
theorem ba_args_init (o a : Value) : argsOk "bytearray.__init__" ⟨[o, a], []⟩ := by first | rfl | (unfold argsOk; kernel_rfl)
theorem ba_bind (v : Value) : Builtin.Bytes.bindOptional "bytearray.__init__" "bytearray" ["source", "encoding", "errors"] [v] [] = pure [some v, none, none] := by kernel_rfl
theorem ba_release : typeLookup (.type "bytearray") "__release_buffer__" = pure (some (.builtin "bytearray.__release_buffer__")) := by rw [typeLookup_type, builtinLookup_eq_fast]; kernel_rfl
theorem ba_int_index : typeLookup (.type "int") "__index__" = pure (some (.builtin "int.__index__")) := by rw [typeLookup_type, builtinLookup_eq_fast]; kernel_rfl
variable {prog : Program} {w : World} {A : Around} {E : Value → Shared → Prop} {s : Shared}
noncomputable abbrev barr (b : Array UInt8) : Obj := { cls := .type "bytearray", data := .bytearray b }
theorem ba_new (a : Value) {Q₁ : Value → Shared → Prop}
    (h : Q₁ (.ref s.heap.objs.size) { s with heap := s.heap.push (barr #[]) }) :
    codeAny (model prog w) A (.call (.builtin "bytearray.__new__") ⟨[.type "bytearray", a], []⟩) (wants Q₁ E) s := by
  refine codeAny_of_tree ?_
  show wpAny _ A.in1 (do checkBuiltinCall "bytearray.__new__" ⟨[.type "bytearray", a], []⟩; again (.builtin "bytearray.__new__" ⟨[.type "bytearray", a], []⟩)) _ _ s
  refine wpAny_bind (wpAny_of_eq (ba_newCall a) (wpAny_pure ⟨plainId_quiet ba_plain_new _, codeAny_builtin_stack ba_entry_new rfl fun p st => ?_⟩))
  rw [Around.under_plainId ba_plain_new _]
  have hsub := ba_sub
  have hown := ba_owner
  obtain ⟨hp, g, d, tk, os⟩ := s
  simp only [hown]
  wp_walk
  exact h
end
section
variable {prog : Program} {w : World} {A : Around} {E : Value → Shared → Prop} {s : Shared}
theorem cln_if_false {α : Type} {M : Model} {c : Bool} {a b : Sem α} {Q : α → Shared → Prop} (hc : c = false) (h : wpCln M A b Q E s) : wpCln M A (if c = true then a else b) Q E s := by
  subst hc; exact h
theorem cln_if_true {α : Type} {M : Model} {c : Bool} {a b : Sem α} {Q : α → Shared → Prop} (hc : c = true) (h : wpCln M A a Q E s) : wpCln M A (if c = true then a else b) Q E s := by
  subst hc; exact h
theorem cln_if_not {α : Type} {M : Model} {c : Prop} [Decidable c] {a b : Sem α} {Q : α → Shared → Prop} (hc : ¬ c) (h : wpCln M A b Q E s) : wpCln M A (if c then a else b) Q E s := by
  rw [if_neg hc]; exact h
theorem cln_if_yes {α : Type} {M : Model} {c : Prop} [Decidable c] {a b : Sem α} {Q : α → Shared → Prop} (hc : c) (h : wpCln M A a Q E s) : wpCln M A (if c then a else b) Q E s := by
  rw [if_pos hc]; exact h
theorem ba_ends : "bytearray.__release_buffer__".endsWith ("." ++ "__release_buffer__") = true := by decide +kernel
theorem ba_drop : "bytearray.__release_buffer__".dropRight ("__release_buffer__".length + 1) = "bytearray" := by decide +kernel
theorem ba_own {b : Addr} {x : Array UInt8} {Q : Bool → Shared → Prop} (hb : s.heap.get? b = some (barr x)) (h : Q false s) : wpAny (model prog w) A (Builtin.Bytes.ownRelease (.ref b)) Q E s := by
  have hT : s.TypeIs (.ref b) "bytearray" := ⟨_, hb, rfl⟩
  unfold Builtin.Bytes.ownRelease Builtin.Bytes.slotIsOwn
  refine wpAny_bind (wpAny_bind (wpAny_specialOf hT ba_release ?_))
  dsimp only
  rw [ba_ends, ba_drop]
  refine wpAny_isInstance hT ba_sub ?_
  exact wpAny_pure h
theorem ba_write {b : Addr} {x : Array UInt8} {f : Array UInt8 → Array UInt8} {Q : Unit → Shared → Prop} (hb : s.heap.get? b = some (barr x)) (hz : (f x).size ≤ sizeLine)
    (h : ∀ h', h'.get? b = some (barr (f x)) → Heap.SameBut b s.heap h' → Q () { s with heap := h' }) : wpAny (model prog w) A (Builtin.Bytes.write (.ref b) f) Q E s := by
  show wpAny _ _ (updateBytearray b f) _ _ _
  unfold updateBytearray
  refine wpAny_bind (wpAny_load hb ?_)
  show wpAny _ _ (update b (Obj.mapBytearray f) >>= fun _ => lookBehind b) _ _ _
  refine wpAny_bind (wpAny_update hb ?_)
  have h2 : (s.heap.update b (Obj.mapBytearray f)).get? b = some (barr (f x)) := Heap.get?_update_self (Obj.mapBytearray f) hb rfl
  refine wpAny_lookBehind h2 ?_ (h _ h2 (Heap.SameBut.update ..))
  show (if (f x).size > sizeLine then some "bytearray:memory" else none) = none
  rw [if_neg (Nat.not_lt.mpr hz)]
theorem ba_exported {b : Addr} {Q : Bool → Shared → Prop} (h : Q false s) : wpCln (model prog w) A (Builtin.Bytes.exported (.ref b)) Q E s := by
  refine cln_stackAny (fun c p hc => ?_) h
  cases c with
  | builtin id args =>
    have hc' : badIds.contains id = false := hc
    have hd : Builtin.Bytes.decodersThatHold.contains id = false := by
      rw [Bool.eq_false_iff]
      intro q
      rw [Bool.eq_false_iff] at hc'
      exact hc' (List.contains_iff_mem.mpr (List.mem_append_right _ (List.contains_iff_mem.mp q)))
    have n1 : id ≠ "bytearray.__contains__" := fun e => absurd (e ▸ hc') (by decide +kernel)
    have n2 : id ≠ "bytearray.__mod__" := fun e => absurd (e ▸ hc') (by decide +kernel)
    have n3 : id ≠ "bytearray.__rmod__" := fun e => absurd (e ▸ hc') (by decide +kernel)
    have n4 : id ≠ "_struct.pack_into.held" := fun e => absurd (e ▸ hc') (by decide +kernel)
    have n5 : id ≠ "bytearray.find.held" := fun e => absurd (e ▸ hc') (by decide +kernel)
    obtain ⟨pos, kw⟩ := args
    delta Builtin.Bytes.exported.match_1
    with_unfolding_all refine (dif_neg n1).trans ?_
    with_unfolding_all refine (dif_neg n2).trans ?_
    with_unfolding_all refine (dif_neg n3).trans ?_
    with_unfolding_all refine (dif_neg n4).trans ?_
    with_unfolding_all refine (dif_neg n5).trans ?_
    cases pos with
    | nil => rfl
    | cons v r =>
      show (_ && Builtin.Bytes.decodersThatHold.contains id) = false
      rw [hd]
      exact Bool.and_false _
  | _ => rfl
theorem ba_init {b : Addr} {n : Int} {t : Tok} {Q : Fin → Shared → Prop} (hb : s.heap.get? b = some (barr #[])) (hn : 0 < n) (hn2 : n ≤ 1000)
    (hQ : ∀ h', h'.get? b = some (barr (Array.replicate n.toNat 0)) → Heap.SameBut b s.heap h' → Q (.done (.ret .none)) { s with heap := h' }) :
    wpCln (model prog w) A (Builtin.«bytearray.__init__» ⟨[.ref b, .int n t], []⟩) Q E s := by
  unfold Builtin.«bytearray.__init__»
  refine cln_then (ba_own hb ?_)
  refine cln_if_false rfl ?_
  refine cln_then (wpAny_of_eq (ba_bind _) ?_)
  dsimp only
  refine cln_then (wpAny_of_eq (a := ()) rfl ?_)
  refine cln_then (wpAny_of_eq (a := ()) rfl ?_)
  refine cln_bind ?_
  unfold orM
  refine cln_bind (ba_exported ?_)
  show wpCln _ _ (do return decide ((← Builtin.Bytes.exportsOf (Value.ref b)) > 0)) _ _ _
  refine cln_then ?_
  unfold Builtin.Bytes.exportsOf
  refine wpAny_bind (wpAny_load hb ?_)
  refine wpAny_pure (cln_pure ?_)
  refine cln_if_false (by decide) ?_
  refine cln_then (ba_write (f := fun _ => #[]) hb (Nat.zero_le _) fun h' hb' hs' => ?_)
  refine cln_then (wpAny_of_eq (a := none) rfl ?_)
  simp only [Option.isSome_none, Bool.false_eq_true, if_false]
  refine cln_then (wpAny_pure ?_)
  refine cln_then (wpAny_specialOf (typeIs_int _ _ _) ba_int_index ?_)
  refine cln_if_true rfl ?_
  refine cln_then (wpAny_attempt (wpAny_of_eq (rfl : asIndex (.int n t) = pure n) ?_))
  dsimp only
  refine cln_if_false (by unfold Builtin.Bytes.fitsIndex; simp; omega) ?_
  refine cln_if_not (by omega) ?_
  refine cln_if_false (by simp; omega) ?_
  refine cln_if_false (by unfold Builtin.Bytes.tooLong; rw [sizeLine_eq]; simp; omega) ?_
  refine cln_then (wpAny_rule ?_)
  refine cln_if_yes (by omega) ?_
  refine cln_then (ba_write (f := fun _ => Array.replicate n.toNat 0) hb' (by rw [sizeLine_eq]; simp; omega) fun h'' hb'' hs'' => ?_)
  exact cln_pure (hQ h'' hb'' (hs'.trans hs''))
end
section
variable {prog : Program} {w : World} {A : Around} {E : Value → Shared → Prop} {s : Shared}
theorem codeCln_builtin {id : String} {args : Args} {b : Builtin} {R : Result → Shared → Prop} (hbad : badIds.contains id = false) (hb : entryFor table id = some b)
    (h : wpCln (model prog w) (A.under (.builtin id args)) (b args)
      (fun fin s' => match fin with | .done f => R (.ok f) s' | .again c' => c'.quiet = true ∧ codeCln (model prog w) A c' R s') (fun e s' => R (.error e) s') s) :
    codeCln (model prog w) A (.builtin id args) R s := by
  refine codeCln_of_tree hbad ?_
  show wpCln _ _ (match entryFor table id with | some b => b args | none => unsupported ((withoutEnding? id "#data").getD id)) _ _ s
  rw [hb]; exact h
theorem ba_init_call {b : Addr} {n : Int} {t : Tok} {R : Result → Shared → Prop} (hb : s.heap.get? b = some (barr #[])) (hn : 0 < n) (hn2 : n ≤ 1000)
    (hQ : ∀ h', h'.get? b = some (barr (Array.replicate n.toNat 0)) → Heap.SameBut b s.heap h' → R (.ok (.ret .none)) { s with heap := h' }) :
    codeCln (model prog w) A (.call (.builtin "bytearray.__init__") ⟨[.ref b, .int n t], []⟩) R s := by
  have hT : s.TypeIs (.ref b) "bytearray" := ⟨_, hb, rfl⟩
  refine codeCln_of_tree rfl ?_
  show wpCln _ A.in1 (do checkBuiltinCall "bytearray.__init__" ⟨[.ref b, .int n t], []⟩; again (.builtin "bytearray.__init__" ⟨[.ref b, .int n t], []⟩)) _ _ s
  refine cln_then (ba_slot_init.check _ _ _ _ _ _ _ _ hT (ba_args_init _ _) (cln_pure ⟨plainId_quiet ba_plain_init _, codeCln_builtin (by decide +kernel) ba_entry_init ?_⟩))
  exact ba_init hb hn hn2 hQ
theorem ba_call {n : Int} {t : Tok} {Q : Value → Shared → Prop} (hn : 0 < n) (hn2 : n ≤ 1000)
    (hQ : ∀ h', h'.get? s.heap.objs.size = some (barr (Array.replicate n.toNat 0)) → (∀ b o, s.heap.get? b = some o → h'.get? b = some o) → Q (.ref s.heap.objs.size) { s with heap := h' }) :
    wpCln (model prog w) A (call (.type "bytearray") [.int n t]) Q E s := by
  have ft := ba_called
  obtain ⟨c, tl, hmro⟩ := ft.mro
  refine cln_call (codeCln_of_tree rfl ?_)
  show wpCln _ _ (callAny (.type "bytearray") _) _ _ _
  refine cln_pure ⟨Code.quiet_builtin _ (by decide +kernel), codeCln_builtin (by decide +kernel) F.entry_type_call ?_⟩
  rw [Around.under_plain (weight_type_call_type "bytearray" [.int n t] []) rfl]
  unfold Builtin.«type.__call__»
  (try dsimp only)
  refine cln_if_false ft.notType ?_
  (try dsimp only)
  refine cln_if_false ft.canCreate ?_
  refine cln_then (wpAny_of_eq (ba_typeCall _) ?_)
  refine cln_then (wpAny_of_eq hmro ?_)
  refine cln_if_false rfl ?_
  refine cln_then (wpAny_of_eq ft.made ?_)
  (try dsimp only)
  refine cln_then (wpAny_pure ?_)
  refine cln_then (wpAny_holding (wpAny_call (ba_new _ ?_)))
  have hb := Heap.get?_push_size s.heap (o := barr #[]) rfl
  have hT : ({ s with heap := s.heap.push (barr #[]) } : Shared).TypeIs (.ref s.heap.objs.size) "bytearray" := ⟨_, hb, rfl⟩
  refine cln_then (wpAny_isInstance hT ba_sub ?_)
  refine cln_if_false rfl ?_
  refine cln_bind (cln_holding ?_)
  simp only [callSpecial?]
  refine cln_then (wpAny_specialOf hT ba_slot_init.lookup ?_)
  simp only [ba_slot_init.bind]
  refine cln_holding (cln_then (wpAny_pure (cln_bind (cln_call (ba_init_call hb hn hn2 fun h' hb' hs' => cln_pure ?_)))))
  dsimp only
  refine cln_if_false (by decide) ?_
  exact cln_pure (hQ h' hb' fun b o e => (hs'.2 b (Nat.ne_of_lt (Heap.lt_size e))).trans (Heap.get?_push_of_some _ e))
end
section
variable {prog : Program} {w : World} {A : Around} {E : Value → Shared → Prop} {s : Shared} {h₀ : Heap} {L : Addr} {m : Str → Option Value} {news : List (Addr × Obj)}
theorem ba_slot_set : Slot "bytearray" "__setitem__" "bytearray.__setitem__" :=
  .of (owner := "bytearray") (n := "__setitem__") (by rw [typeLookup_type, builtinLookup_eq_fast]; kernel_rfl) (by decide +kernel) (by decide +kernel) (by decide +kernel)
    (by first | exact .inl (by decide +kernel) | exact .inr (by decide +kernel)) (by rw [isSubtype_type]; kernel_rfl)
theorem ba_entry_set : entryFor table "bytearray.__setitem__" = some Builtin.«bytearray.__setitem__» := by first | exact entryFor_of_fast (by kernel_rfl) | exact entryFor_of_tree (by kernel_rfl)
theorem ba_args_set (a b c : Value) : argsOk "bytearray.__setitem__" ⟨[a, b, c], []⟩ := by first | rfl | (unfold argsOk; kernel_rfl)
theorem ba_no_bytes : typeLookup (.type "bytearray") "__bytes__" = pure none := by rw [typeLookup_type, builtinLookup_eq_fast]; kernel_rfl
theorem ba_no_index : typeLookup (.type "bytearray") "__index__" = pure none := by rw [typeLookup_type, builtinLookup_eq_fast]; kernel_rfl
theorem ba_buffer : typeLookup (.type "bytearray") "__buffer__" = pure (some (.builtin "bytearray.__buffer__")) := by rw [typeLookup_type, builtinLookup_eq_fast]; kernel_rfl
theorem ba_bends : "bytearray.__buffer__".endsWith ("." ++ "__buffer__") = true := by decide +kernel
theorem ba_bdrop : "bytearray.__buffer__".dropRight ("__buffer__".length + 1) = "bytearray" := by decide +kernel
theorem ba_payload {M : Model} {b : Addr} {x : Array UInt8} {Q : Array UInt8 → Shared → Prop} (hb : s.heap.get? b = some (barr x)) (h : Q x s) : wpAny M A (Builtin.Bytes.payload (.ref b)) Q E s := by
  unfold Builtin.Bytes.payload Builtin.Bytes.payload?
  exact wpAny_bind (wpAny_bind (wpAny_load hb (wpAny_pure (wpAny_pure h))))
theorem ba_set {b : Addr} {x : Array UInt8} {k : Int} {t u : Tok} {v : UInt8} {Q : Unit → Shared → Prop} (hb : s.heap.get? b = some (barr x)) (h0 : 0 ≤ k) (h1 : k < x.size) (hz : x.size ≤ 1000)
    (hQ : ∀ h', h'.get? b = some (barr (x.setIfInBounds k.toNat v)) → Heap.SameBut b s.heap h' → Q () { s with heap := h' }) :
    wpAny (model prog w) A (setItem (.ref b) (.int k t) (.int (v.toNat : Int) u)) Q E s := by
  have hT : s.TypeIs (.ref b) "bytearray" := ⟨_, hb, rfl⟩
  unfold setItem
  try with_reducible refine wpAny_holding ?_
  first | refine wpAny_bind (wpAny_pure ?_) | skip
  refine wpAny_bind (wpAny_sequenceKey hT (by decide) ?_)
  refine wpAny_bind (wpAny_callSpecial?_slot (name := Str.ofString "__setitem__") hT ba_slot_set
    (wpAny_call_entry ba_slot_set hT ba_entry_set ?_ (ba_args_set _ _ _)))
  unfold Builtin.«bytearray.__setitem__»
  refine bm_if_false rfl ?_
  (try dsimp only)
  refine wpAny_bind ?_
  unfold Builtin.Bytes.subscript?
  refine wpAny_bind (wpAny_specialOf (typeIs_int _ _ _) ba_int_index ?_)
  refine bm_if_false rfl ?_
  refine wpAny_bind (wpAny_of_eq (rfl : asIndex (.int k t) = pure k) ?_)
  refine bm_if_false (by unfold Builtin.Bytes.fitsIndex; simp; omega) ?_
  refine wpAny_pure ?_
  (try dsimp only)
  refine wpAny_bind ?_
  unfold Builtin.Bytes.byteValue
  refine wpAny_bind (wpAny_of_eq (rfl : asIndex (.int (v.toNat : Int) u) = pure (v.toNat : Int)) ?_)
  have hv : v.toNat < 256 := v.toNat_lt
  refine bm_if_false (by simp; omega) ?_
  refine wpAny_pure ?_
  refine wpAny_bind (ba_payload hb ?_)
  have hk : seqIndex? k x.size = some k.toNat := by
    unfold seqIndex?
    simp; omega
  rw [hk]
  (try dsimp only)
  have hv2 : ((v.toNat : Int)).toNat.toUInt8 = v := by simp
  rw [hv2]
  refine wpAny_bind (ba_write (f := (·.setIfInBounds k.toNat v)) hb (by rw [sizeLine_eq]; simp; omega) fun h' hb' hs' => ?_)
  exact wpAny_pure ⟨_, rfl, wpAny_pure (hQ h' hb' hs')⟩
theorem ba_bytes_new {b : Addr} {x : Array UInt8} {Q : Value → Shared → Prop} (hb : s.heap.get? b = some (barr x)) (hz : x.size ≤ 1000)
    (hQ : ∀ t k, Q (.bytes x t) { s with toks := k }) :
    codeAny (model prog w) A (.call (.builtin "bytes.__new__") ⟨[.type "bytes", .ref b], []⟩) (wants Q E) s := by
  refine codeAny_of_tree ?_
  show wpAny _ A.in1 (do checkBuiltinCall "bytes.__new__" ⟨[.type "bytes", .ref b], []⟩; again (.builtin "bytes.__new__" ⟨[.type "bytes", .ref b], []⟩)) _ _ s
  refine wpAny_bind (wpAny_of_eq (F.bm_newCall _) (wpAny_pure ⟨plainId_quiet F.bm_plain _, codeAny_builtin F.bm_entry ?_⟩))
  rw [Around.under_plainId F.bm_plain _]
  have hT : s.TypeIs (.ref b) "bytearray" := ⟨_, hb, rfl⟩
  unfold Builtin.«bytes.__new__»
  refine wpAny_bind (wpAny_of_eq (a := true) rfl ?_)
  refine bm_if_false rfl ?_
  refine wpAny_bind (wpAny_of_eq F.bm_sub ?_)
  refine bm_if_false rfl ?_
  refine wpAny_bind (wpAny_of_eq (F.bm_bind _) ?_)
  refine wpAny_bind (wpAny_of_eq (a := ()) rfl ?_)
  refine wpAny_bind (wpAny_of_eq (a := ()) rfl ?_)
  refine bm_if_false rfl ?_
  refine wpAny_bind (wpAny_specialOf hT ba_no_bytes ?_)
  refine wpAny_bind (wpAny_bind ?_)
  show wpAny _ _ (load b >>= _) _ _ _
  refine wpAny_bind (wpAny_load hb ?_)
  refine wpAny_pure (wpAny_pure ?_)
  refine bm_if_false rfl ?_
  refine wpAny_bind (wpAny_specialOf hT ba_no_index ?_)
  refine bm_if_true rfl ?_
  first
    | show wpAny _ _ (Builtin.Bytes.buffer? "bytes.__new__" (.ref b) true >>= _) _ _ _
    | (refine wpAny_bind ?_; show wpAny _ _ (Builtin.Bytes.buffer? "bytes.__new__" (.ref b) true >>= _) _ _ _)
  refine wpAny_bind ?_
  unfold Builtin.Bytes.buffer?
  refine wpAny_bind (wpAny_specialOf hT ba_buffer ?_)
  (try dsimp only)
  refine wpAny_bind ?_
  unfold Builtin.Bytes.slotIsOwn
  refine wpAny_bind (wpAny_specialOf hT ba_buffer ?_)
  (try dsimp only)
  rw [ba_bends, ba_bdrop]
  refine wpAny_isInstance hT ba_sub ?_
  refine bm_if_false rfl ?_
  refine wpAny_bind (wpAny_specialOf hT ba_buffer ?_)
  (try dsimp only)
  refine wpAny_bind (ba_own hb ?_)
  refine bm_if_false rfl ?_
  refine wpAny_bind (ba_payload hb ?_)
  refine wpAny_pure ?_
  (try dsimp only)
  refine wpAny_bind (wpAny_rule ?_)
  refine wpAny_bind (wpAny_mkBytes ?_ (by rw [sizeLine_eq]; omega))
  show wpAny _ _ (if (Value.type "bytes" == Value.type "bytes") = true then _ else _) _ _ _
  refine bm_if_true (by decide) ?_
  first
    | exact wpAny_pure (hQ _ _)
    | exact wpAny_bind (wpAny_pure (wpAny_pure (hQ _ _)))
theorem ba_bytes {b : Addr} {x : Array UInt8} {Q : Value → Shared → Prop} (hb : s.heap.get? b = some (barr x)) (hz : x.size ≤ 1000)
    (hQ : ∀ t k, Q (.bytes x t) { s with toks := k }) : wpAny (model prog w) A (call (.type "bytes") [.ref b]) Q E s := by
  refine callType_codes (Q₁ := fun obj s₁ => s₁.TypeIs obj "bytes" ∧ Q obj s₁) F.bm_called (F.bm_typeCall _) F.entry_object_init
    (ba_bytes_new hb hz fun t k => ⟨PySem.W.typeIs_bytes _ _ _, hQ t k⟩) fun obj s₁ h₁ => ?_
  exact ⟨h₁.1, F.args_object_init_2 obj _, object_init_meets F.bm_called.init.lookup F.bm_called.made (by decide) prog w A.in1 _ s₁ ⟨h₁.1, rfl, h₁.2⟩⟩
-- upon the ledger
theorem ba_setK {b : Addr} {x : Array UInt8} {k : Int} {t u : Tok} {v : UInt8} {g : Obj → List (Addr × Obj)} {Q : Unit → Shared → Prop} (F : Fr h₀ L s.heap m) (N : News h₀ L s.heap news) (U : UpdF b (barr x) news g) (h0 : 0 ≤ k) (h1 : k < x.size) (hz : x.size ≤ 1000)
    (h : ∀ h', Fr h₀ L h' m → News h₀ L h' (g (barr (x.setIfInBounds k.toNat v))) → Q () { s with heap := h' }) : wpAny (model prog w) A (setItem (.ref b) (.int k t) (.int (v.toNat : Int) u)) Q E s := by
  have hb := News.get N (updF_mem U)
  obtain ⟨pre, post, rfl, hg, a, c⟩ := U.split
  have z := N (b, barr x) (List.mem_append.mpr (.inr (.head _)))
  refine ba_set hb h0 h1 hz fun h' hb' hs => h h' (F.change hs z.2.1 z.2.2) ?_
  rw [hg]
  exact news_set N a c hs hb'
theorem ba_bytesK {b : Addr} {x : Array UInt8} {Q : Value → Shared → Prop} (F : Fr h₀ L s.heap m) (N : News h₀ L s.heap news) (hb : (b, barr x) ∈ news) (hz : x.size ≤ 1000)
    (h : ∀ t k, Fr h₀ L s.heap m → News h₀ L s.heap news → Q (.bytes x t) { s with toks := k }) : wpAny (model prog w) A (call (.type "bytes") [.ref b]) Q E s :=
  ba_bytes (News.get N hb) hz fun t k => h t k F N
theorem ba_callK {n : Int} {t : Tok} {Q : Value → Shared → Prop} (F : Fr h₀ L s.heap m) (N : News h₀ L s.heap news) (hn : 0 < n) (hn2 : n ≤ 1000)
    (h : ∀ b h', Fr h₀ L h' m → News h₀ L h' ((b, barr (Array.replicate n.toNat 0)) :: news) → (∀ p ∈ news, p.1 < b) → Q (.ref b) { s with heap := h' }) :
    wpCln (model prog w) A (call (.type "bytearray") [.int n t]) Q E s := by
  refine ba_call hn hn2 fun h' hb hk => h s.heap.objs.size h' ?_ ?_ fun p hp => Heap.lt_size (N p hp).1
  · exact F.keeps hk
  · intro p hp
    rcases List.mem_cons.mp hp with rfl | hp
    · exact ⟨hb, Nat.ne_of_gt F.ns.lt, Heap.get?_none_of_le (Nat.le_trans F.above (Nat.le_of_lt F.ns.lt))⟩
    · exact ⟨hk _ _ (N p hp).1, (N p hp).2⟩
end
section
variable {prog : Program} {w : World} {A A₀ : Around} {E : Value → Shared → Prop} {s : Shared} {R : Result → Shared → Prop}
theorem codeCln_call_function {a : Addr} {args : Args} {o : Obj} {fd : FuncData} {body : List Stmt} (hroom : A.depth < recursionLimit)
    (ho : s.heap.get? a = some o) (hd' : o.data = .func fd) (hco : fd.scope.isCoroutine = false) (hgen : fd.scope.isGenerator = false) (hbody : fd.body = .stmts body) (hcd : s.heap.CodeRec fd.code fd.qualname)
    (h : wpAny (model prog w) A.in1 (bindArgs fd args) (fun binds s₁ =>
      wpAny (model prog w) A.in1 (newFunctionEnv fd.scope fd.globals fd.closure binds (fd.qualname ++ ".<locals>.") (some a) fd.code none fd.builtins)
        (fun env s₂ => s₂.heap.NoLimit ∧ codeCln (model prog w) A (.func body env) R s₂) (fun e s' => R (.error e) s') s₁) (fun e s' => R (.error e) s') s) :
    codeCln (model prog w) A (.call (.ref a) args) R s := by
  refine codeCln_of_tree rfl (cln_of ?_)
  show wpAny _ A.in1 (callAny (.ref a) args) _ _ s
  simp only [callAny]
  refine wpAny_bind (wpAny_load ho ?_)
  obtain ⟨c, oc, vs, tq, hc, hoc, hdc, hq⟩ := hcd
  simp only [hd', callFunction, hco, hgen, hbody, hc]
  rw [hc] at h
  refine wpAny_bind (m := field (.ref c) 1) (wpAny_field hoc hdc hq (wpAny_bind (wpAny_pure ?_)))
  exact wpAny_bind (wpAny_mono h (fun binds s₁ h₁ => wpAny_bind (wpAny_mono h₁ (fun env s₂ h₂ => wpAny_bind (wpAny_enterFrame h₂.1 hroom
    (wpAny_pure (And.intro rfl h₂.2)))) fun _ _ h' => h')) fun _ _ h' => h')
theorem codeCln_of {M : Model} {c : Code} (h : codeAny M A c R s) : codeCln M A c R s := fun Γ p hc hΓ _ => h Γ p hc hΓ
theorem codeCln_func {body : List Stmt} {env : Env}
    (h : wpCln (model prog w) (A.deeper env) (execs body env) (fun f s' => R (.ok (.ret (match f with | .ret v => v | _ => .none))) s') (fun _ _ => False) s) :
    codeCln (model prog w) A (.func body env) R s := by
  refine codeCln_of_tree rfl ?_
  show wpCln _ (A.deeper env) (do point; match ← (execs body env).onRaise (leaving env) with | .ret v => ret v | _ => ret .none) _ _ s
  refine cln_then (wpAny_point (cln_bind (cln_mono (E := fun _ _ => False) (cln_onRaise (cln_mono h (fun f s' h' => ?_) fun _ _ x => x)) (fun _ _ x => x) fun _ _ x => x.elim)))
  cases f <;> exact cln_pure h'
end
section
variable {prog : Program} {w : World} {A₀ A : Around} {s : Shared} {base h₀ : Heap} {outer : List Env} {L : Addr} {m mg mb : Str → Option Value} {env : Env} {news : List (Addr × Obj)} {K : Frag} {tp : Program} {lo : List Str} {mean : ExcName → Option Value}
  {R : Result → Shared → Prop} {name qual : Str} {params : Arguments} {body : List Stmt} {scope : Scope} {dV kV doc pm cdv ct oc : Value} {an od : Option Addr} {osl : Array (Option Value)} {f : Addr} {args : Args} {binds : List (Str × Value)}
/-- a def of the top is entered, in a clean context -/
theorem codeCln_def (B : Below A₀ base outer h₀) (F : Fr h₀ L s.heap m) (X₀ : K.In h₀) (N : News h₀ L s.heap news) (T : Top tp lo mean mg mb h₀) (hA : A.frames = some (env :: outer)) (hf : env.frame = some L) (hke : env.scope.kind = .function)
    (ho : K.lookup f = some ⟨oc, od, .func (fnOf name qual params body scope dV kV doc pm an cdv ct), osl⟩) (hcd : codeIn K cdv qual = true) (hroom : A.depth < recursionLimit)
    (hbind : BindsTo s (fnOf name qual params body scope dV kV doc pm an cdv ct) args binds) (hloc : ∀ y ∈ binds, scope.names.lookup y.1 = some .local)
    (h : ∀ g L' h₁, Fr h₀ L g m → Fr g L' h₁ (fun y => binds.reverse.lookup y) → News g L' h₁ news → Below A base (env :: outer) g → K.In g → Top tp lo mean mg mb g → (∀ p ∈ news, p.1 < L') →
      wpCln (model prog w) (A.deeper (envOf qual scope L' f cdv)) (execs body (envOf qual scope L' f cdv))
        (fun fl s' => LeaveK h₀ L m g R (match fl with | .ret v => v | _ => .none) s') (fun _ _ => False)
        { s with heap := h₁, toks := s.toks + binds.length })
    (hco : scope.isCoroutine = false) (hgen : scope.isGenerator = false) (hk : scope.kind = .function)
    (hcell : ∀ x ∈ scope.names, x.2 ≠ .cell) : codeCln (model prog w) A (.call (.ref f) args) R s := by
  obtain ⟨FG, BG, st, lv⟩ := groundX (R := R) B F N hA hf hke
  have hlim : s.heap.NoLimit := T.nolimit.keeps F.keep
  refine codeCln_call_function hroom ((X₀.keeps F.keep) _ _ ho) rfl hco hgen rfl (codeRec_of (X₀.keeps F.keep) hcd) (hbind _ _ _ _ ?_)
  refine wpAny_newFunctionEnv hcell hloc (fun h₁ hns hsb => ⟨hlim.fresh _ hsb, codeCln_func ?_⟩) hk
  have hk₁ : ∀ b o, s.heap.get? b = some o → h₁.get? b = some o := fun b o e => hsb.extBut b o (Nat.ne_of_lt (Heap.lt_size e)) (Heap.get?_push_of_some _ e)
  refine cln_mono (h _ s.heap.objs.size h₁ FG ⟨hns, fun b o e => hk₁ b o (of_hideAll _ e), Nat.le_of_eq (hideAll_size _ _)⟩
    (fun p hp => ⟨hk₁ _ _ (N p hp).1, Nat.ne_of_lt (Heap.lt_size (N p hp).1), hideAll_none _ (List.mem_map_of_mem hp)⟩) BG (X₀.keeps st) (T.keeps st) (fun p hp => Heap.lt_size (N p hp).1)) (fun fl s' hl => ?_) fun _ _ x => x
  exact lv _ _ hl
end
section
variable {prog : Program} {w : World} {A : Around} {R : Result → Shared → Prop} {s : Shared} {name : Str} {params : Arguments} {body : List Stmt} {scope : Scope} {pm cd doc : Value} {a : Addr} {o : Obj} {args : List Value} {binds : List (Str × Value)}
/-- the law's own def is entered, in a clean context -/
theorem codeCln_law (hroom : A.depth < recursionLimit) (ho : s.heap.get? a = some o) (hdata : o.data = .func (Calls.docDef name params body scope pm cd doc)) (hlim : s.heap.NoLimit) (hcd : s.heap.CodeRec cd name)
    (hbind : bindArgs (Calls.docDef name params body scope pm cd doc) ⟨args, []⟩ = pure binds)
    (hkind : ∀ x ∈ binds, scope.names.lookup x.1 = some .local ∨ (scope.names.lookup x.1 = some .cell ∧ ((cellsFrom (s.heap.objs.size + 1) scope.names []).lookup x.1).isSome = true))
    (hnd : ((cellsFrom 0 scope.names []).map (·.1)).Nodup)
    (h : ∀ h₁ tk cells, Fr s.heap s.heap.objs.size h₁ (bindL (envOfC name scope s.heap.objs.size a cd).kindOf binds fun _ => none) → News s.heap s.heap.objs.size h₁ cells →
      CellsAre (bindC (envOfC name scope s.heap.objs.size a cd).kindOf binds fun _ => none) (cellsFrom (s.heap.objs.size + 1) scope.names []) cells →
      wpCln (model prog w) (A.deeper (envOfC name scope s.heap.objs.size a cd)) (execs body (envOfC name scope s.heap.objs.size a cd))
        (fun f s' => R (.ok (.ret (match f with | .ret v => v | _ => .none))) s') (fun _ _ => False)
        { s with heap := h₁, toks := tk })
    (hco : scope.isCoroutine = false := by rfl) (hgen : scope.isGenerator = false := by rfl) (hk : scope.kind = .function := by rfl) :
    codeCln (model prog w) A (.call (.ref a) ⟨args, []⟩) R s := by
  refine codeCln_call_function hroom ho hdata hco hgen rfl hcd ?_
  rw [hbind]
  refine wpAny_pure (wpAny_newFunctionEnv_cells hk hkind fun env' he s' x => ?_)
  subst he
  refine ⟨hlim.keeps x.toInCall.keep, codeCln_func ?_⟩
  obtain ⟨h₁, tk, rfl, _⟩ := x.done
  obtain ⟨cells, NC, Y⟩ := Cl.news (h₀ := s.heap) (Nat.le_refl _) fun n c hm => ⟨x.cell n c (lookup_of_mem_nodup (cellsFrom_names scope.names 0 (s.heap.objs.size + 1) [] [] rfl ▸ hnd) hm), x.above n c hm⟩
  exact h h₁ tk cells ⟨x.toInCall.ns, x.toInCall.keep, x.toInCall.fresh⟩ NC Y
end
section
variable {M : Model} {A : Around} {E : Value → Shared → Prop} {s : Shared} {env : Env}
theorem wp_execs_app {b : List Stmt} {Q : Flow → Shared → Prop} {Γ : PySem.Ctx} (hΓ : Γ.In A) (hc : CleanC Γ) : ∀ (a : List Stmt) (p : Pos) (s : Shared),
    Sem.wp M Γ (execs a env) (fun f _ s' => match f with | .next => wpCln M A (execs b env) Q E s' | f => Q f s') (fun e _ s' => E e s') p s →
    Sem.wp M Γ (execs (a ++ b) env) (fun f _ s' => Q f s') (fun e _ s' => E e s') p s
  | [], p, s, h => h Γ p hΓ hc
  | st :: r, p, s, h => by
    rw [List.cons_append, execs_cons, Sem.wp_bind']
    rw [execs_cons, Sem.wp_bind'] at h
    refine Sem.wp_mono M Γ _ (fun f p' s' h' => ?_) (fun _ _ _ h' => h') _ _ h
    cases f <;> first | exact wp_execs_app hΓ hc r p' s' h' | exact h'
theorem cln_execs_app {a b : List Stmt} {Q : Flow → Shared → Prop}
    (h : wpAny M A (execs a env) (fun f s' => match f with | .next => wpCln M A (execs b env) Q E s' | f => Q f s') E s) : wpCln M A (execs (a ++ b) env) Q E s :=
  fun Γ p hΓ hc => wp_execs_app hΓ hc a p s (h Γ p hΓ)
theorem cln_execs_cons {st : Stmt} {rest : List Stmt} {Q : Flow → Shared → Prop}
    (h : wpCln M A (exec st env) (fun f s' => match f with | .next => wpCln M A (execs rest env) Q E s' | f => Q f s') E s) : wpCln M A (execs (st :: rest) env) Q E s := fun Γ p hΓ hc => by
  rw [execs_cons, Sem.wp_bind']
  refine Sem.wp_mono M Γ _ (fun f p' s' h' => ?_) (fun _ _ _ h' => h') _ _ (h Γ p hΓ hc)
  cases f <;> first | exact h' Γ p' hΓ hc | exact h'
theorem cln_Assign_Name {x : Str} {px pos : Pos} {value : PySem.Expr} {Q : Flow → Shared → Prop}
    (h : wpCln M A (eval value env) (fun v s₁ => wpAny M A (storeName env x v) (fun _ s₂ => Q .next s₂) E s₁) E s)
    (hs : swapsWith value (some (.Name x px)) pos.line env = pure false := by rfl) : wpCln M A (exec (.Assign [.Name x px] value pos) env) Q E s := by
  rw [exec_Assign_Name env x px value pos hs]
  refine cln_then (wpAny_standAt (cln_bind (cln_mono h (fun v s₁ h₁ => cln_then (wpAny_standAt (cln_then (wpAny_bindName (wpAny_mono h₁ (fun _ s₂ h₂ => cln_pure h₂) fun _ _ e => e))))) fun _ _ e => e)))
theorem cln_keep {α : Type} {vs : List Value} {m : Sem α} {Q : α → Shared → Prop} (h : wpCln M A m Q E s) : wpCln M A (m.keep vs) Q E s := fun Γ p hΓ hc => by rw [Sem.wp_keep]; exact h Γ p hΓ hc
/-- a call by name, its callee a def or a type, its arguments plain -/
theorem cln_Call {fx : PySem.Expr} {args : List PySem.Expr} {pos : Pos} {P : Value → Heap → Prop} {Q : Value → Shared → Prop} (hx : ∀ v n p, fx ≠ .Attribute v n p)
    (hplain : (backTo pos (starEach args env)).any (·.1) = false)
    (hk : ∀ f h, P f h → ∃ k, (k = Keeper.frame ∨ k = Keeper.machine ∨ k = Keeper.boundFrame) ∧ Looks M h (keeperOf f) k)
    (h : wpAny M A (eval fx env) (fun f s₁ => wpAny M A (evalArgs f true (backTo pos (starEach args env)) []) (fun a s₂ => P f s₂.heap ∧ wpCln M A (call f ([] ++ a.pos) a.kw) Q E s₂) E s₁) E s) :
    wpCln M A (eval (.Call fx args [] pos) env) Q E s := by
  have e : eval (.Call fx args [] pos) env = (eval fx env >>= fun f => callWith pos f [] (backTo pos (starEach args env)) []) := by
    cases fx <;> first | rfl | exact absurd rfl (hx _ _ _)
  rw [e]
  refine cln_then (wpAny_mono h (fun f s₁ h₁ => ?_) fun _ _ e => e)
  unfold callWith
  refine cln_then (wpAny_holding (wpAny_mono h₁ (fun a s₂ h₂ => cln_then (wpAny_standAt ?_)) fun _ _ e => e))
  obtain ⟨k, hk', L⟩ := hk _ _ h₂.1
  simp only [hplain, List.any_nil, Bool.or_false]
  have hcall := h₂.2
  refine cln_then (L.here ?_)
  have tail : ∀ {t : Sem Value}, wpCln M A t Q E s₂ → wpCln M A (t >>= fun r => holding [r] point >>= fun _ => pure r) Q E s₂ :=
    fun ht => cln_bind (cln_mono ht (fun r s₂ hr => cln_then (wpAny_holding (wpAny_point (cln_pure hr)))) fun _ _ x => x)
  have marked (mk : Value) : wpCln M A (callMarked mk f ([] ++ a.pos) a.kw) Q E s₂ := by unfold callMarked; exact cln_keep hcall
  rcases hk' with rfl | rfl | rfl <;> (try dsimp only) <;> first | exact tail hcall | (split <;> first | exact tail hcall | exact tail (marked _))
/-- the same, its arguments named -/
theorem cln_CallS {fx : PySem.Expr} {e : PySem.Expr} {rest : List PySem.Expr} {pos : Pos} {P : Value → Heap → Prop} {Q : Value → Shared → Prop} (hx : ∀ v n p, fx ≠ .Attribute v n p)
    (hk : ∀ f h, P f h → ∃ k, (k = Keeper.frame ∨ k = Keeper.machine ∨ k = Keeper.boundFrame) ∧ Looks M h (keeperOf f) k)
    (h : wpAny M A (eval fx env) (fun f s₁ => wpAny M A (spliced (backTo pos (starEach (e :: rest) env))) (fun vs s₂ => P f s₂.heap ∧ wpCln M A (call f vs) Q E s₂) E s₁) E s)
    (he : starEach (e :: rest) env = (false, eval e env) :: starEach rest env := by rfl) (hplain : (backTo pos (starEach rest env)).any (·.1) = false := by rfl) :
    wpCln M A (eval (.Call fx (e :: rest) [] pos) env) Q E s := by
  refine cln_Call (P := P) hx ?_ hk (wpAny_mono h (fun f s₁ h₁ => ?_) fun _ _ x => x)
  · rw [he]; show (false || (backTo pos (starEach rest env)).any (·.1)) = false; rw [hplain]; rfl
  · rw [he] at h₁ ⊢
    exact evalArgs_plain h₁
end
section
/-- a for over what pyNext hands on, its turns in clean contexts; no else -/
noncomputable def ForC (prog : Program) (w : World) (A : Around) (nm : Str) (body : List Stmt) (env : Env) (Q : Flow → Shared → Prop) (it : Value) : Nat → Shared → Prop
  | 0, _ => False
  | n + 1, s => wpAny (model prog w) A (pyNext it) (fun r s₁ => match r with
      | none => Q .next s₁
      | some v => wpAny (model prog w) A (storeName env nm v) (fun _ s₂ => wpCln (model prog w) A (execs body env) (fun f s₃ => match f with
          | .next => ForC prog w A nm body env Q it n s₃
          | .cont => ForC prog w A nm body env Q it n s₃
          | .brk => Q .next s₃
          | .ret v => Q (.ret v) s₃) (fun _ _ => False) s₂) (fun _ _ => False) s₁) (fun _ _ => False) s
variable {prog : Program} {w : World} {A : Around} {E : Value → Shared → Prop} {s : Shared} {env : Env} {nm : Str} {iter : PySem.Expr} {body : List Stmt} {Q : Flow → Shared → Prop} {it : Value} {n : Nat} {R : Result → Shared → Prop}
theorem forC_code {np : Pos} (hR : ∀ f s', Q f s' → R (.ok f) s') : ∀ (n : Nat) (s : Shared), ForC prog w A nm body env Q it n s → codeCln (model prog w) A (.forLoop (.Name nm np) it body [] env) R s
  | 0, _, h => h.elim
  | n + 1, s, h => by
    refine codeCln_of_tree rfl ?_
    show wpCln _ _ ((forTurn (.Name nm np) it body [] env).onRaise (fun x => do noteFrame x env; theTreesLotGoes x)) _ _ s
    refine cln_mono (E := fun _ _ => False) (cln_onRaise ?_) (fun _ _ x => x) fun _ _ x => x.elim
    simp only [forTurn]
    refine cln_then (wpAny_standAt (cln_then (wpAny_onRaise (wpAny_mono h (fun r s₁ h₁ => ?_) fun _ _ x => x.elim))))
    cases r with
    | none => exact cln_pure ⟨rfl, codeCln_of (codeAny_block (wpAny_execs_nil (hR _ _ h₁)))⟩
    | some v =>
      refine cln_then (wpAny_of_eq (show letOwnedTupleGo (.Name nm np) it v = pure () from rfl) ?_)
      refine cln_then (wpAny_assign_Name (wpAny_mono h₁ (fun _ s₂ h₂ => cln_bind (cln_mono h₂ (fun f s₃ h₃ => ?_) fun _ _ x => x.elim)) fun _ _ x => x.elim))
      cases f with
      | next => exact cln_pure ⟨rfl, forC_code hR n s₃ h₃⟩
      | cont => exact cln_pure ⟨rfl, forC_code hR n s₃ h₃⟩
      | brk => exact cln_pure (hR _ _ h₃)
      | ret v => exact cln_pure (hR _ _ h₃)
theorem for_C {np pos : Pos} (n : Nat)
    (h : wpAny (model prog w) A (eval iter env) (fun x s₁ => wpAny (model prog w) A (pyIter x) (fun it s₂ => ForC prog w A nm body env Q it n s₂) (fun _ _ => False) s₁) (fun _ _ => False) s)
    (hs : ∀ x, foldedSetIterable iter env x = pure x := by intro _; rfl) :
    wpCln (model prog w) A (exec (.For (.Name nm np) iter body [] pos) env) Q E s := by
  rw [exec_For]
  refine cln_then (wpAny_standAt (cln_then (wpAny_mono h (fun x s₁ h₁ => cln_then (wpAny_of_eq (hs x) (cln_then (wpAny_standAt (cln_then (wpAny_holding (wpAny_mono h₁ (fun it s₂ h₂ => ?_) fun _ _ x => x.elim))))))) fun _ _ x => x.elim)))
  unfold runOwn
  refine cln_mono (E := fun _ _ => False) (cln_onRaise (cln_run (forC_code (fun f s' hf => ?_) n s₂ h₂))) (fun _ _ x => x) fun _ _ x => x.elim
  exact hf
end
section
theorem off_cons {x : Addr × Obj} {r : List (Addr × Obj)} {a : Addr} (h : x.1 ≠ a) (l : ∀ p ∈ r, p.1 ≠ a) : ∀ p ∈ x :: r, p.1 ≠ a := List.forall_mem_cons.mpr ⟨h, l⟩
theorem off_led {r : List (Addr × Obj)} {a : Addr} (l : ∀ p ∈ r, p.1 < a) : ∀ p ∈ r, p.1 ≠ a := fun p hp => Nat.ne_of_lt (l p hp)
end
section
open PyProof.Rows.LCg
/-- a list block's turns, over what pyNext hands on, at most so many -/
noncomputable def CompW (prog : Program) (w : World) (A : Around) (elt tgt : PySem.Expr) (cenv : Env) (acc it : Value) (Fin : Shared → Prop) (E' : Value → Shared → Prop) : Nat → Shared → Prop
  | 0, _ => False
  | n + 1, s => wpAny (model prog w) A (pyNext it) (fun r s₁ => match r with
      | none => Fin s₁
      | some v => wpAny (model prog w) A (letOwnedTupleGo tgt it v) (fun _ s₀ => wpAny (model prog w) A (assign tgt cenv v) (fun _ s₂ =>
          wpAny (model prog w) A (eval elt cenv) (fun x s₄ => wpAny (model prog w) A (call (.builtin "list.append") [acc, x]) (fun _ s₅ => CompW prog w A elt tgt cenv acc it Fin E' n s₅) E' s₄) E' s₂) E' s₀) E' s₁) E' s
variable {prog : Program} {w : World} {A : Around} {E E' : Value → Shared → Prop} {s : Shared} {h₀ : Heap} {L : Addr} {m : Str → Option Value} {news : List (Addr × Obj)} {env : Env} {elt tgt iter : PySem.Expr} {scope : Scope} {cl : List (Str × Addr)} {pos : Pos}
theorem compW_code {cenv : Env} {acc it : Value} {Fin : Shared → Prop} {R : Result → Shared → Prop} (n : Nat) (hR : ∀ s', Fin s' → R (.ok .next) s') (h : ∀ E', CompW prog w A elt tgt cenv acc it Fin E' n s) :
    codeAny (model prog w) A (.compLoop (.ListComp elt [⟨tgt, iter, [], 0⟩] scope pos) 0 it acc cenv) R s := by
  refine kcp_loop (fun k s' => CompW prog w A elt tgt cenv acc it Fin (notedBy (model prog w) A cenv fun e s' => R (.error e) s') k s') (fun k s' hk => ?_) n (h _)
  cases k with
  | zero => exact hk.elim
  | succ k =>
    refine wpAny_mono hk (fun r s₁ h₁ => ?_) fun _ _ x => x
    cases r with
    | none => exact hR _ h₁
    | some v =>
      exact wpAny_mono h₁ (fun _ s₂ h₂ => wpAny_mono h₂ (fun _ s₃ h₃ => wpAny_mono h₃ (fun x s₄ h₄ => wpAny_mono h₄ (fun _ s₅ h₅ => ⟨k, Nat.lt_succ_self _, h₅⟩) fun _ _ x => x) fun _ _ x => x) fun _ _ x => x) fun _ _ x => x
/-- the block's list and its names are made -/
noncomputable def MakeC (prog : Program) (w : World) (A : Around) (E : Value → Shared → Prop) (env : Env) (elt tgt iter : PySem.Expr) (scope : Scope) (cl : List (Str × Addr)) (pos : Pos) (use : Option (Value → Sem Unit)) (Q : Value → Shared → Prop) (it : Value) (s₂ : Shared) : Prop :=
  wpAny (model prog w) A (newList []) (fun acc s₃ => wpAny (model prog w) A (newFunctionEnv scope env.globals cl [] env.qual none .none (some env)) (fun cenv s₄ =>
    codeAny (model prog w) A (.compStart (.ListComp elt [⟨tgt, iter, [], 0⟩] scope pos) 0 it acc { cenv with scope := relabel scope env }) (compPost (model prog w) A E use Q acc cenv.locals) s₄) E s₃) E s₂
noncomputable def EndC (prog : Program) (w : World) (A : Around) (E : Value → Shared → Prop) (use : Option (Value → Sem Unit)) (Q : Value → Shared → Prop) (acc : Value) (C : Addr) (s' : Shared) : Prop := compPost (model prog w) A E use Q acc C (.ok .next) s'
theorem comp_eval {Q : Value → Shared → Prop} (_F : Fr h₀ L s.heap m) (hclos : closureFor scope env = pure cl) (hkind : scope.kind = .function) (hnames : ∀ y ∈ scope.names, y.2 = .local → scope.names.lookup y.1 = some .local)
    (h : wpAny (model prog w) A (eval iter env) (fun x s₁ => wpAny (model prog w) A (pyIter x) (fun it s₂ => MakeC prog w A E env elt tgt iter scope cl pos none Q it s₂) E s₁) E s)
    (hs : ∀ x, foldedSetIterable iter env x = pure x := by intro _; rfl) :
    wpAny (model prog w) A (eval (.ListComp elt [⟨tgt, iter, [], 0⟩] scope pos) env) Q E s := by
  rw [eval_ListComp]
  exact wpAny_comprehension_free (use := none) rfl hs hclos hkind hnames h
theorem comp_assign {y : Str} {py spos : Pos} {Q : Flow → Shared → Prop} (_F : Fr h₀ L s.heap m) (hsw : swapsWith (.ListComp elt [⟨tgt, iter, [], 0⟩] scope pos) (some (.Name y py)) spos.line env = pure true)
    (hclos : closureFor scope env = pure cl) (hkind : scope.kind = .function) (hnames : ∀ y ∈ scope.names, y.2 = .local → scope.names.lookup y.1 = some .local)
    (h : wpAny (model prog w) A (eval iter env) (fun x s₁ => wpAny (model prog w) A (pyIter x) (fun it s₂ => MakeC prog w A E env elt tgt iter scope cl pos (some (assign (.Name y py) env)) (fun _ s' => Q .next s') it s₂) E s₁) E s)
    (hs : ∀ x, foldedSetIterable iter env x = pure x := by intro _; rfl) :
    wpAny (model prog w) A (exec (.Assign [.Name y py] (.ListComp elt [⟨tgt, iter, [], 0⟩] scope pos) spos) env) Q E s := by
  rw [exec_Assign_Name_used _ _ _ _ hsw]
  refine wpAny_bind (wpAny_standAt (wpAny_bind ?_))
  show wpAny _ A (do let _ ← comprehension (.ListComp elt [⟨tgt, iter, [], 0⟩] scope pos) scope env _ (newList []) false (eval iter env) (some (assign (.Name y py) env))) _ _ s
  exact wpAny_bind (wpAny_mono (wpAny_comprehension_free (use := some (assign (.Name y py) env)) (Q := fun _ s' => Q .next s') rfl hs hclos hkind hnames h) (fun _ s' hq => wpAny_pure (wpAny_pure hq)) fun _ _ e => e)
theorem makeC_W {use : Option (Value → Sem Unit)} {Q : Value → Shared → Prop} {it : Value} (n : Nat) (F : Fr h₀ L s.heap m) (N : News h₀ L s.heap news)
    (hself : ∀ (E' : Value → Shared → Prop) (R : Value → Shared → Prop) s', (∀ b o, s.heap.get? b = some o → s'.heap.get? b = some o) → R it s' → wpAny (model prog w) A (pyIter it) R E' s')
    (hcell : ∀ y ∈ scope.names, y.2 ≠ .cell) (hkind : scope.kind = .function)
    (h : ∀ C D oC h' tk' E', Fr h₀ L h' m → News h₀ L h' ((C, oC) :: (D, listOf ([] : List Value).toArray 0) :: news) → NsObj oC (fun _ => none) → (∀ p ∈ news, p.1 < D) → (∀ p ∈ (D, listOf ([] : List Value).toArray 0) :: news, p.1 < C) →
      CompW prog w A elt tgt (compEnvC scope cl C env) (.ref D) it (EndC prog w A E use Q (.ref D) C) E' n { s with heap := h', toks := tk' }) :
    MakeC prog w A E env elt tgt iter scope cl pos use Q it s := by
  refine wpAny_newObj_type (wpAny_newFunctionEnv hcell (by intro y hy; simp at hy) (fun h₁ hns hsb => ?_) hkind)
  have key := Heap.get?_push_size s.heap (o := listOf ([] : List Value).toArray 0) rfl
  have hz : (s.heap.push (listOf ([] : List Value).toArray 0)).objs.size = s.heap.objs.size + 1 := Heap.size_push ..
  have up : ∀ b o, s.heap.get? b = some o → h₁.get? b = some o := fun b o e =>
    hsb.extBut b o (Nat.ne_of_lt (by rw [show (Shared.heap { s with heap := s.heap.push _ }).objs.size = _ from hz]; exact Nat.lt_succ_of_lt (Heap.lt_size e))) (Heap.get?_push_of_some _ (Heap.get?_push_of_some _ e))
  have upD : h₁.get? s.heap.objs.size = some (listOf ([] : List Value).toArray 0) :=
    hsb.extBut _ _ (Nat.ne_of_lt (by rw [show (Shared.heap { s with heap := s.heap.push _ }).objs.size = _ from hz]; omega)) (Heap.get?_push_of_some _ key)
  obtain ⟨oC, hC, hCo⟩ := ns_obj hns
  have none_of : ∀ a, s.heap.objs.size ≤ a → h₀.get? a = none := fun a ha => Heap.get?_none_of_le (Nat.le_trans F.above (Nat.le_of_lt (Nat.lt_of_lt_of_le F.ns.lt ha)))
  have hLlt : L < s.heap.objs.size := F.ns.lt
  have F' : Fr h₀ L h₁ m := F.keeps up
  have N' : News h₀ L h₁ ((s.heap.objs.size + 1, oC) :: (s.heap.objs.size, listOf ([] : List Value).toArray 0) :: news) := fun p hp => by
    rcases List.mem_cons.mp hp with rfl | hp
    · exact ⟨hz ▸ hC, Nat.ne_of_gt (Nat.lt_succ_of_lt hLlt), none_of _ (Nat.le_succ _)⟩
    · rcases List.mem_cons.mp hp with rfl | hp
      · exact ⟨upD, Nat.ne_of_gt hLlt, none_of _ (Nat.le_refl _)⟩
      · exact ⟨up _ _ (N p hp).1, (N p hp).2⟩
  have l0 : ∀ p ∈ news, p.1 < s.heap.objs.size := fun p hp => Heap.lt_size (N p hp).1
  have G := fun tk' E' => h (s.heap.objs.size + 1) s.heap.objs.size oC h₁ tk' E' F' N' hCo l0 (fun p hp => by
    rcases List.mem_cons.mp hp with rfl | hp
    · exact Nat.lt_succ_self _
    · exact Nat.lt_succ_of_lt (l0 p hp))
  have loop : ∀ tk' (cenv : Env), cenv = compEnvC scope cl (s.heap.objs.size + 1) env → ∀ C, C = s.heap.objs.size + 1 → codeAny (model prog w) A (.compLoop (.ListComp elt [⟨tgt, iter, [], 0⟩] scope pos) 0 it (.ref s.heap.objs.size) cenv)
      (compPost (model prog w) A E use Q (.ref s.heap.objs.size) C) { s with heap := h₁, toks := tk' } := by
    rintro tk' _ rfl _ rfl
    exact compW_code n (fun _ x => x) (G tk')
  refine codeAny_compStart_list ?_ (hself _ _ _ up ?_) <;> exact loop _ _ (by rw [← hz]; rfl) _ hz

inductive DelF (d : Addr) : List (Addr × Obj) → List (Addr × Obj) → Prop
  | head {o r} : (∀ p ∈ r, p.1 ≠ d) → DelF d ((d, o) :: r) r
  | tail {p r r'} : p.1 ≠ d → DelF d r r' → DelF d (p :: r) (p :: r')
theorem DelF.sub {d : Addr} {l l' : List (Addr × Obj)} (x : DelF d l l') : ∀ p ∈ l', p ∈ l ∧ p.1 ≠ d := by
  induction x with
  | head h => exact fun p hp => ⟨.tail _ hp, h p hp⟩
  | tail h _ ih =>
    intro p hp
    rcases List.mem_cons.mp hp with rfl | hp
    · exact ⟨.head _, h⟩
    · exact ⟨.tail _ (ih p hp).1, (ih p hp).2⟩
theorem endC_none {Q : Value → Shared → Prop} {C : Addr} {oC : Obj} {m₂ : Str → Option Value} {acc : Value} {news' : List (Addr × Obj)} (F : Fr h₀ L s.heap m) (N : News h₀ L s.heap news) (hC : (C, oC) ∈ news) (hoC : NsObj oC m₂) (D : DelF C news news')
    (h : ∀ h', Fr h₀ L h' m → News h₀ L h' news' → Q acc { s with heap := h' }) : EndC prog w A E none Q acc C s := by
  have z := N _ hC
  refine ⟨m₂, hoC.ns z.1, fun h' hs => h h' (F.change hs z.2.1 z.2.2) fun p hp => ?_⟩
  have d := D.sub p hp
  exact ⟨hs.extBut _ _ d.2 (N p d.1).1, (N p d.1).2⟩
theorem endC_use {y : Str} {py : Pos} {Q : Value → Shared → Prop} {C : Addr} {oC : Obj} {m₂ : Str → Option Value} {acc : Value} {news' : List (Addr × Obj)} (F : Fr h₀ env.locals s.heap m) (N : News h₀ env.locals s.heap news) (hC : (C, oC) ∈ news) (hoC : NsObj oC m₂) (D : DelF C news news')
    (hy : env.kindOf y = some .local) (hp : (env.scope.kind == .class || (env.scope.kind == .module && env.locals != env.globals)) = false)
    (h : ∀ h' tk', Fr h₀ env.locals h' (stM y acc m) → News h₀ env.locals h' news' → Q .none { s with heap := h', toks := tk' }) : EndC prog w A E (some (assign (.Name y py) env)) Q acc C s := by
  have z := N _ hC
  show wpAny _ A (assign (.Name y py) env acc) _ _ _
  refine wpAny_assign_Name (wpAny_storeName_local hy F.ns (fun h₂ hn₂ hs₂ => ?_) hp)
  have hL₀ : h₀.get? env.locals = none := Heap.get?_none_of_le F.above
  have F₂ : Fr h₀ env.locals h₂ (stM y acc m) := ⟨hn₂, fun b o e => hs₂.extBut b o (fun q => by rw [q, hL₀] at e; cases e) (F.keep b o e), F.above⟩
  have N₂ : News h₀ env.locals h₂ news := fun p hp => ⟨hs₂.extBut _ _ (N p hp).2.1 (N p hp).1, (N p hp).2⟩
  refine ⟨m₂, hoC.ns (N₂ _ hC).1, fun h' hs => h h' _ (F₂.change hs z.2.1 z.2.2) fun p hp => ?_⟩
  have d := D.sub p hp
  exact ⟨hs.extBut _ _ d.2 (N₂ p d.1).1, (N₂ p d.1).2⟩
theorem storeC {C : Addr} {oC : Obj} {m₂ : Str → Option Value} {x : Str} {v : Value} {g : Obj → List (Addr × Obj)} {Q : Unit → Shared → Prop} (F : Fr h₀ L s.heap m) (N : News h₀ L s.heap news) (U : UpdF C oC news g) (hoC : NsObj oC m₂)
    (hx : scope.names.lookup x = some .local) (hk : scope.kind = .function)
    (h : ∀ oC' h' tk', Fr h₀ L h' m → News h₀ L h' (g oC') → NsObj oC' (stM x v m₂) → Q () { s with heap := h', toks := tk' }) :
    wpAny (model prog w) A (storeName (compEnvC scope cl C env) x v) Q E s := by
  have hC := News.get N (updF_mem U)
  obtain ⟨pre, post, rfl, hg, a, c⟩ := U.split
  have z := N (C, oC) (List.mem_append.mpr (.inr (.head _)))
  refine wpAny_storeName_local (lookup_relabel_local hx) (hoC.ns hC) (fun h' hn hs => ?_) (by simp [compEnvC, relabel, hk])
  obtain ⟨oC', e', ho'⟩ := ns_obj hn
  refine h oC' h' _ (F.change hs z.2.1 z.2.2) ?_ ho'
  rw [hg]
  exact news_set N a c hs e'

/-- an enumerate, its list's iterator -/
noncomputable abbrev enumObj (it : Addr) (i : Int) (old : Value) : Obj := { cls := .type "enumerate", dict := none, data := .fields #[.none, .bool false, .ref it, rawInt i, .none, old], slots := #[] }
noncomputable def LitO (o : Obj) (l : Addr) (i : Nat) : Prop := o.cls = .type "list_iterator" ∧ o.data = .fields #[.ref l, .int i 0]
theorem none_above (F : Fr h₀ L s.heap m) : ∀ a, s.heap.objs.size ≤ a → h₀.get? a = none := fun a ha => Heap.get?_none_of_le (Nat.le_trans F.above (Nat.le_of_lt (Nat.lt_of_lt_of_le F.ns.lt ha)))
theorem enum_call {l : Addr} {items : Array Value} {k : Nat} {Q : Value → Shared → Prop} (F : Fr h₀ L s.heap m) (N : News h₀ L s.heap news) (hl : (l, listOf items k) ∈ news)
    (h : ∀ it e oi h', Fr h₀ L h' m → News h₀ L h' ((e, enumObj it ((0 : Nat) : Int) .none) :: (it, oi) :: news) → LitO oi l 0 → (∀ p ∈ news, p.1 < it) → (∀ p ∈ (it, oi) :: news, p.1 < e) → Q (.ref e) { s with heap := h' }) :
    wpAny (model prog w) A (call (.type "enumerate") [.ref l]) Q E s := by
  have hl' : s.heap.IsList l items := ⟨_, (N _ hl).1, rfl, _, rfl⟩
  have none_of := none_above F
  have hLlt : L < s.heap.objs.size := F.ns.lt
  refine call_enumerate_list hl' fun h' he hi hsz hk => ?_
  obtain ⟨oi, ho, hc, hd⟩ := hi
  have l0 : ∀ p ∈ news, p.1 < s.heap.objs.size := fun p hp => Heap.lt_size (N p hp).1
  refine h s.heap.objs.size (s.heap.objs.size + 1) oi h' (F.keeps hk) (fun p hp => ?_) ⟨hc, hd⟩ l0 (fun p hp => ?_)
  · rcases List.mem_cons.mp hp with rfl | hp
    · exact ⟨he, Nat.ne_of_gt (Nat.lt_succ_of_lt hLlt), none_of _ (Nat.le_succ _)⟩
    · rcases List.mem_cons.mp hp with rfl | hp
      · exact ⟨ho, Nat.ne_of_gt hLlt, none_of _ (Nat.le_refl _)⟩
      · exact ⟨hk _ _ (N p hp).1, (N p hp).2⟩
  · rcases List.mem_cons.mp hp with rfl | hp
    · exact Nat.lt_succ_self _
    · exact Nat.lt_succ_of_lt (l0 p hp)
theorem UpdF.mem_new {d : Addr} {o o' : Obj} {l : List (Addr × Obj)} {g : Obj → List (Addr × Obj)} (U : UpdF d o l g) : ∀ p ∈ g o', p = (d, o') ∨ (p ∈ l ∧ p.1 ≠ d) := by
  obtain ⟨pre, post, rfl, hg, a, c⟩ := U.split
  rw [hg]
  intro p hp
  rcases List.mem_append.mp hp with hp | hp
  · exact .inr ⟨List.mem_append.mpr (.inl hp), a p hp⟩
  · rcases List.mem_cons.mp hp with rfl | hp
    · exact .inl rfl
    · exact .inr ⟨List.mem_append.mpr (.inr (.tail _ hp)), c p hp⟩
theorem compW_enum {e it l C : Addr} {i : Nat} {items : Array Value} {k n : Nat} {old x : Value} {oi oC : Obj} {m₂ : Str → Option Value} {a b : Str} {pa pb tp : Pos} {kk : Nat} {g1 g2 : Obj → List (Addr × Obj)} {g3 : Obj → Obj → List (Addr × Obj)} {acc : Value} {Fin : Shared → Prop}
    (hh : A.handled = none) (F : Fr h₀ L s.heap m) (N : News h₀ L s.heap news) (Ue : UpdF e (enumObj it (i : Int) old) news g1) (Ui : UpdF it oi (g1 (enumObj it ((i + 1 : Nat) : Int) x)) g2) (UC : ∀ o, UpdF C oC (g2 o) (g3 o))
    (hoi : LitO oi l i) (hl : (l, listOf items k) ∈ news) (hx : items[i]? = some x) (hne : e ≠ it) (hne2 : e ≠ C) (hne3 : it ≠ C) (hli : l ≠ it) (hoC : NsObj oC m₂) (ha : scope.names.lookup a = some .local) (hb : scope.names.lookup b = some .local) (hk : scope.kind = .function)
    (h : ∀ oi' oC' t h' tk', Fr h₀ L h' m → News h₀ L h' (g3 oi' oC') → LitO oi' l (i + 1) → NsObj oC' (stM b x (stM a (.int i t) m₂)) →
      wpAny (model prog w) A (eval elt (compEnvC scope cl C env)) (fun y s₄ => wpAny (model prog w) A (call (.builtin "list.append") [acc, y]) (fun _ s₅ => CompW prog w A elt (.Tuple [.Name a pa, .Name b pb] kk tp) (compEnvC scope cl C env) acc (.ref e) Fin E' n s₅) E' s₄) E' { s with heap := h', toks := tk' }) :
    CompW prog w A elt (.Tuple [.Name a pa, .Name b pb] kk tp) (compEnvC scope cl C env) acc (.ref e) Fin E' (n + 1) s := by
  have me := updF_mem Ue
  have ze := N _ me
  have mi : (it, oi) ∈ news := by
    rcases UpdF.mem_new Ue _ (updF_mem Ui) with q | q
    · exact absurd (congrArg Prod.fst q).symm hne
    · exact q.1
  have mC : (C, oC) ∈ news := by
    rcases UpdF.mem_new Ui (o' := oi) _ (updF_mem (UC oi)) with q | q
    · exact absurd (congrArg Prod.fst q).symm hne3
    · rcases UpdF.mem_new Ue _ q.1 with q | q
      · exact absurd (congrArg Prod.fst q).symm hne2
      · exact q.1
  have zi := N _ mi
  have zC := N _ mC
  have hl' : s.heap.IsList l items := ⟨_, (N _ hl).1, rfl, _, rfl⟩
  have hT : ∀ b', b' < s.heap.objs.size → b' ≠ s.heap.objs.size := fun _ h => Nat.ne_of_lt h
  refine wpAny_pyNext_enum_item ze.1 ⟨oi, zi.1, hoi⟩ hl' hx hne fun h1 e1 i1 t1 _ k1 => ?_
  refine wpAny_letOwnedTupleGo_enum e1 fun h2 e2 s2 => ?_
  have e1' : h2.get? s.heap.objs.size = some { cls := .type "tuple", data := .seq #[.int i s.toks, x] } := (s2.2 _ (Ne.symm (hT _ (Heap.lt_size ze.1)))).trans t1
  obtain ⟨oi', j1, j2, j3⟩ := i1
  have j1' : h2.get? it = some oi' := (s2.2 _ (Ne.symm hne)).trans j1
  have k2 : ∀ b' o', b' ≠ e → b' ≠ it → s.heap.get? b' = some o' → h2.get? b' = some o' := fun b' o' q1 q2 q => (s2.2 _ q1).trans (k1 _ _ q1 q2 q)
  have C2 : h2.get? C = some oC := k2 _ _ (Ne.symm hne2) (Ne.symm hne3) zC.1
  refine kcp_assign hh ⟨_, e1', rfl, _, rfl⟩ (lookup_relabel_local ha) (lookup_relabel_local hb) (by simp [compEnvC, relabel, hk]) (hoC.ns C2) fun h3 tk n3 k3 => ?_
  obtain ⟨oC', c1, c2⟩ := ns_obj n3
  have k4 : ∀ b' o', b' ≠ e → b' ≠ it → b' ≠ C → s.heap.get? b' = some o' → h3.get? b' = some o' := fun b' o' q1 q2 q3 q => k3 _ _ q3 (k2 _ _ q1 q2 q)
  have F3 : Fr h₀ L h3 m := by
    refine ⟨F.ns.at' fun o q => k4 _ _ (Ne.symm ze.2.1) (Ne.symm zi.2.1) (Ne.symm zC.2.1) q, fun b' o q => k4 _ _ (fun r => ?_) (fun r => ?_) (fun r => ?_) (F.keep b' o q), F.above⟩
    · rw [r, ze.2.2] at q; cases q
    · rw [r, zi.2.2] at q; cases q
    · rw [r, zC.2.2] at q; cases q
  refine h oi' oC' _ h3 _ F3 (fun p hp => ?_) ⟨j2, j3⟩ c2
  rcases UpdF.mem_new (UC oi') _ hp with rfl | ⟨hp, q3⟩
  · exact ⟨c1, zC.2⟩
  · rcases UpdF.mem_new Ui _ hp with rfl | ⟨hp, q2⟩
    · exact ⟨k3 _ _ hne3 j1', zi.2⟩
    · rcases UpdF.mem_new Ue _ hp with rfl | ⟨hp, q1⟩
      · exact ⟨k3 _ _ hne2 e2, ze.2⟩
      · exact ⟨k4 _ _ q1 q2 q3 (N p hp).1, (N p hp).2⟩
/-- the turns left, behind a predicate variable -/
noncomputable def GoC (K : Shared → Prop) : Shared → Prop := K
structure ViaC (P K : Shared → Prop) : Prop where
  go : ∀ s, P s → GoC K s
theorem compW_enumK {e it l C : Addr} {i : Nat} {items : Array Value} {k n : Nat} {old x : Value} {oi oC : Obj} {m₂ : Str → Option Value} {a b : Str} {pa pb tp : Pos} {kk : Nat} {g1 g2 : Obj → List (Addr × Obj)} {g3 : Obj → Obj → List (Addr × Obj)} {acc : Value} {Fin : Shared → Prop}
    (hh : A.handled = none) (F : Fr h₀ L s.heap m) (N : News h₀ L s.heap news) (Ue : UpdF e (enumObj it (i : Int) old) news g1) (Ui : UpdF it oi (g1 (enumObj it ((i + 1 : Nat) : Int) x)) g2) (UC : ∀ o, UpdF C oC (g2 o) (g3 o))
    (hoi : LitO oi l i) (hl : (l, listOf items k) ∈ news) (hx : items[i]? = some x) (hne : e ≠ it) (hne2 : e ≠ C) (hne3 : it ≠ C) (hli : l ≠ it) (hoC : NsObj oC m₂) (ha : scope.names.lookup a = some .local) (hb : scope.names.lookup b = some .local) (hk : scope.kind = .function)
    (h : ∀ oi' oC' t h' tk' K, ViaC (CompW prog w A elt (.Tuple [.Name a pa, .Name b pb] kk tp) (compEnvC scope cl C env) acc (.ref e) Fin E' n) K → Fr h₀ L h' m → News h₀ L h' (g3 oi' oC') → LitO oi' l (i + 1) → NsObj oC' (stM b x (stM a (.int i t) m₂)) →
      wpAny (model prog w) A (eval elt (compEnvC scope cl C env)) (fun y s₄ => wpAny (model prog w) A (call (.builtin "list.append") [acc, y]) (fun _ s₅ => GoC K s₅) E' s₄) E' { s with heap := h', toks := tk' }) :
    CompW prog w A elt (.Tuple [.Name a pa, .Name b pb] kk tp) (compEnvC scope cl C env) acc (.ref e) Fin E' (n + 1) s :=
  compW_enum hh F N Ue Ui UC hoi hl hx hne hne2 hne3 hli hoC ha hb hk fun oi' oC' t h' tk' q1 q2 q3 q4 => h oi' oC' t h' tk' _ ⟨fun _ x => x⟩ q1 q2 q3 q4
theorem compW_enum_end {e it l : Addr} {i : Nat} {items : Array Value} {k n : Nat} {old : Value} {oi : Obj} {news' : List (Addr × Obj)} {cenv : Env} {acc : Value} {Fin : Shared → Prop}
    (hh : A.handled = none) (F : Fr h₀ L s.heap m) (N : News h₀ L s.heap news) (he : (e, enumObj it (i : Int) old) ∈ news) (hi : (it, oi) ∈ news) (D : DelF it news news')
    (hoi : LitO oi l i) (hl : (l, listOf items k) ∈ news) (hx : items[i]? = none)
    (h : ∀ h', Fr h₀ L h' m → News h₀ L h' news' → Fin { s with heap := h' }) : CompW prog w A elt tgt cenv acc (.ref e) Fin E' (n + 1) s := by
  have zi := N _ hi
  refine wpAny_pyNext_enum_end hh (N _ he).1 ⟨oi, zi.1, hoi⟩ ⟨_, (N _ hl).1, rfl, _, rfl⟩ hx fun h' hx' => h h' (fr_extBut F zi.2.2 zi.2.1 hx') fun p hp => ?_
  have d := D.sub p hp
  exact ⟨hx' _ _ d.2 (N p d.1).1, (N p d.1).2⟩
/-- a text's signs -/
noncomputable abbrev stritObj (x : Str) (t : Tok) (i : Nat) : Obj := { cls := .type "str_ascii_iterator", data := .fields #[.str x t, .int i 0] }
noncomputable def StrO (o : Obj) (x : Str) (t : Tok) (i : Nat) : Prop := o.cls = .type "str_ascii_iterator" ∧ o.data = .fields #[.str x t, .int i 0]
theorem strit_iter {x : Str} {t : Tok} {Q : Value → Shared → Prop} (F : Fr h₀ L s.heap m) (N : News h₀ L s.heap news) (ha : x.cps.all (· < 128) = true)
    (h : ∀ it o h', Fr h₀ L h' m → News h₀ L h' ((it, o) :: news) → StrO o x t 0 → (∀ p ∈ news, p.1 < it) → Q (.ref it) { s with heap := h' }) :
    wpAny (model prog w) A (pyIter (.str x t)) Q E s :=
  wpAny_pyIter_ascii ha (h s.heap.objs.size _ _ (F.push _) (N.push F _) ⟨rfl, rfl⟩ fun p hp => Heap.lt_size (N p hp).1)
theorem compW_str {it C : Addr} {i c n : Nat} {x : Str} {t : Tok} {oi oC : Obj} {m₂ : Str → Option Value} {a : Str} {pa : Pos} {g1 : Obj → List (Addr × Obj)} {g2 : Obj → Obj → List (Addr × Obj)} {acc : Value} {Fin : Shared → Prop}
    (F : Fr h₀ L s.heap m) (N : News h₀ L s.heap news) (Ui : UpdF it oi news g1) (UC : ∀ o, UpdF C oC (g1 o) (g2 o)) (hoi : StrO oi x t i) (hx : x.cps[i]? = some c) (hne : it ≠ C) (hoC : NsObj oC m₂) (ha : scope.names.lookup a = some .local) (hk : scope.kind = .function)
    (h : ∀ oi' oC' t' h' tk', Fr h₀ L h' m → News h₀ L h' (g2 oi' oC') → StrO oi' x t (i + 1) → NsObj oC' (stM a (.str ⟨#[c]⟩ t') m₂) →
      wpAny (model prog w) A (eval elt (compEnvC scope cl C env)) (fun y s₄ => wpAny (model prog w) A (call (.builtin "list.append") [acc, y]) (fun _ s₅ => CompW prog w A elt (.Name a pa) (compEnvC scope cl C env) acc (.ref it) Fin E' n s₅) E' s₄) E' { s with heap := h', toks := tk' }) :
    CompW prog w A elt (.Name a pa) (compEnvC scope cl C env) acc (.ref it) Fin E' (n + 1) s := by
  have mi := updF_mem Ui
  have zi := N _ mi
  have mC : (C, oC) ∈ news := by
    rcases UpdF.mem_new Ui (o' := oi) _ (updF_mem (UC oi)) with q | q
    · exact absurd (congrArg Prod.fst q).symm hne
    · exact q.1
  have zC := N _ mC
  refine wpAny_pyNext_ascii_item ⟨oi, zi.1, hoi⟩ hx fun h1 i1 s1 => ?_
  obtain ⟨oi', j1, j2⟩ := i1
  refine wpAny_of_eq (a := ()) rfl ?_
  have C1 : h1.get? C = some oC := (s1.2 _ (Ne.symm hne)).trans zC.1
  refine wpAny_assign_Name (wpAny_storeName_local (lookup_relabel_local ha) (hoC.ns C1) (fun h2 n2 s2 => ?_) (by simp [compEnvC, relabel, hk]))
  obtain ⟨oC', c1, c2⟩ := ns_obj n2
  refine h oi' oC' _ h2 _ ((F.change s1 zi.2.1 zi.2.2).change s2 zC.2.1 zC.2.2) (fun p hp => ?_) j2 c2
  rcases UpdF.mem_new (UC oi') _ hp with rfl | ⟨hp, q2⟩
  · exact ⟨c1, zC.2⟩
  · rcases UpdF.mem_new Ui _ hp with rfl | ⟨hp, q1⟩
    · exact ⟨(s2.2 _ hne).trans j1, zi.2⟩
    · exact ⟨(s2.2 _ q2).trans ((s1.2 _ q1).trans (N p hp).1), (N p hp).2⟩
theorem compW_strK {it C : Addr} {i c n : Nat} {x : Str} {t : Tok} {oi oC : Obj} {m₂ : Str → Option Value} {a : Str} {pa : Pos} {g1 : Obj → List (Addr × Obj)} {g2 : Obj → Obj → List (Addr × Obj)} {acc : Value} {Fin : Shared → Prop}
    (F : Fr h₀ L s.heap m) (N : News h₀ L s.heap news) (Ui : UpdF it oi news g1) (UC : ∀ o, UpdF C oC (g1 o) (g2 o)) (hoi : StrO oi x t i) (hx : x.cps[i]? = some c) (hne : it ≠ C) (hoC : NsObj oC m₂) (ha : scope.names.lookup a = some .local) (hk : scope.kind = .function)
    (h : ∀ oi' oC' t' h' tk' K, ViaC (CompW prog w A elt (.Name a pa) (compEnvC scope cl C env) acc (.ref it) Fin E' n) K → Fr h₀ L h' m → News h₀ L h' (g2 oi' oC') → StrO oi' x t (i + 1) → NsObj oC' (stM a (.str ⟨#[c]⟩ t') m₂) →
      wpAny (model prog w) A (eval elt (compEnvC scope cl C env)) (fun y s₄ => wpAny (model prog w) A (call (.builtin "list.append") [acc, y]) (fun _ s₅ => GoC K s₅) E' s₄) E' { s with heap := h', toks := tk' }) :
    CompW prog w A elt (.Name a pa) (compEnvC scope cl C env) acc (.ref it) Fin E' (n + 1) s :=
  compW_str F N Ui UC hoi hx hne hoC ha hk fun oi' oC' t' h' tk' q1 q2 q3 q4 => h oi' oC' t' h' tk' _ ⟨fun _ x => x⟩ q1 q2 q3 q4
theorem compW_str_end {it : Addr} {i n : Nat} {x : Str} {t : Tok} {oi : Obj} {news' : List (Addr × Obj)} {cenv : Env} {acc : Value} {Fin : Shared → Prop}
    (hh : A.handled = none) (F : Fr h₀ L s.heap m) (N : News h₀ L s.heap news) (hi : (it, oi) ∈ news) (D : DelF it news news') (hoi : StrO oi x t i) (hx : x.cps[i]? = none)
    (h : ∀ h', Fr h₀ L h' m → News h₀ L h' news' → Fin { s with heap := h' }) : CompW prog w A elt tgt cenv acc (.ref it) Fin E' (n + 1) s := by
  have zi := N _ hi
  refine wpAny_pyNext_ascii_end hh ⟨oi, zi.1, hoi⟩ hx fun h' hx' => h h' (fr_extBut F zi.2.2 zi.2.1 hx') fun p hp => ?_
  have d := D.sub p hp
  exact ⟨hx' _ _ d.2 (N p d.1).1, (N p d.1).2⟩
end
local macro_rules | `(tactic| walk_at "GoC") => `(tactic| with_reducible refine ViaC.go (by assumption) _ ?_)
section
/-- a range's iterator, on the ledger -/
noncomputable abbrev ritObj (x left step : Int) : Obj := { cls := .type "range_iterator", data := .fields #[rawInt x, rawInt left, rawInt step] }
noncomputable abbrev rngObj (a b c : Int) (t u v : Tok) : Obj := { cls := .type "range", data := .fields #[.int a t, .int b u, .int c v] }
variable {prog : Program} {w : World} {A : Around} {E : Value → Shared → Prop} {s : Shared} {h₀ : Heap} {L : Addr} {m : Str → Option Value} {news : List (Addr × Obj)}
theorem rng_iter {r : Addr} {a b c : Int} {t u v : Tok} {Q : Value → Shared → Prop} (F : Fr h₀ L s.heap m) (N : News h₀ L s.heap news) (hr : IsRange s.heap r a b c t u v) {b' : Int} (hb : b = b') (hsmall : Builtin.Range.small a b' c = true) {n : Int} (hn : Builtin.Range.rangeSize a b' c = n)
    (h : ∀ it h', Fr h₀ L h' m → News h₀ L h' ((it, ritObj a n c) :: news) → (∀ p ∈ news, p.1 < it) → Q (.ref it) { s with heap := h' }) :
    wpAny (model prog w) A (pyIter (.ref r)) Q E s := by
  subst hb
  subst hn
  exact wpAny_pyIter_range hr hsmall (h s.heap.objs.size _ (F.push _) (N.push F _) fun p hp => Heap.lt_size (N p hp).1)
theorem rng_next {it : Addr} {x left step : Int} {g : Obj → List (Addr × Obj)} {Q : Option Value → Shared → Prop} (F : Fr h₀ L s.heap m) (N : News h₀ L s.heap news) (U : UpdF it (ritObj x left step) news g) (hleft : 0 < left)
    {x' left' : Int} (hx : x + step = x') (hl : left - 1 = left')
    (h : ∀ h' t tk', Fr h₀ L h' m → News h₀ L h' (g (ritObj x' left' step)) → Q (some (.int x t)) { s with heap := h', toks := tk' }) :
    wpAny (model prog w) A (pyNext (.ref it)) Q E s := by
  subst hx hl
  have hb := News.get N (updF_mem U)
  obtain ⟨pre, post, rfl, hg, a, c⟩ := U.split
  have z := N (it, ritObj x left step) (List.mem_append.mpr (.inr (.head _)))
  refine wpAny_pyNext_range_item hb hleft fun h' hit hs => h h' _ _ (F.change hs z.2.1 z.2.2) ?_
  rw [hg]
  exact news_set N a c hs hit
theorem rng_end {it : Addr} {x left step : Int} {Q : Option Value → Shared → Prop} (hh : A.handled = none) (F : Fr h₀ L s.heap m) (N : News h₀ L s.heap ((it, ritObj x left step) :: news)) (hl : ∀ p ∈ news, p.1 ≠ it) (hleft : left ≤ 0)
    (h : ∀ h', Fr h₀ L h' m → News h₀ L h' news → Q none { s with heap := h' }) :
    wpAny (model prog w) A (pyNext (.ref it)) Q E s := by
  refine wpAny_pyNext_range_end hh (News.get N (.head _)) hleft fun h' hx => h h' ?_ ?_
  · exact fr_extBut F (News.fresh N (.head _)) (N _ (.head _)).2.1 hx
  · intro p hp
    have hp' := N p (.tail _ hp)
    exact ⟨hx _ _ (hl p hp) hp'.1, hp'.2⟩
theorem looks_type {M : Model} {h : Heap} {T : String} : ∃ k, (k = Keeper.frame ∨ k = Keeper.machine ∨ k = Keeper.boundFrame) ∧ Looks M h (keeperOf (.type T)) k := ⟨_, .inr (.inl rfl), Looks.of_pure rfl⟩
local macro_rules | `(tactic| walk_at "exec For Name Call cons nil") => `(tactic| k_dat (for_W 7) "!F_y" "_")
local macro_rules | `(tactic| k_all) => `(tactic| first | exact off_led (by assumption) | (refine off_cons (by walk_at "ltne") ?_; k_all))
local macro_rules | `(tactic| walk_at "pyIter ref") => `(tactic| k_dat rng_iter "FFakdk_" "____PS")
local macro_rules | `(tactic| walk_at "φ") => `(tactic| k_all)
local macro_rules | `(tactic| walk_at "pyNext ref") => `(tactic| first | (k_dat rng_next "FFudkk_" "____NS") | (k_dat rng_end "rFFφd_" "___S"))
local macro_rules | `(tactic| walk_at "χ") => `(tactic| (show 4 ≤ _; decide))
local macro_rules | `(tactic| walk_at "ψ") => `(tactic| (show _ < ((4 : Nat) : Int); decide))
local macro_rules | `(tactic| walk_at "getItem bytes int") => `(tactic| k_dat getItem_bytes "χdψ_" "")
local macro_rules | `(tactic| walk_at "ω") => `(tactic| exact (show _ < ((4 : Nat) : Int) by decide))
local macro_rules | `(tactic| walk_at "а") => `(tactic| exact (show 4 ≤ 1000 by decide))
local macro_rules | `(tactic| walk_at "setItem ref int") => `(tactic| k_dat ba_setK "FFudωа_" "__NS")
local macro_rules | `(tactic| walk_at "call type:bytes") => `(tactic| k_dat ba_bytesK "FFmа_" "____S")
local macro_rules | `(tactic| walk_at "ForW") => `(tactic| (refine forW_step ?_))
set_option maxHeartbeats 8000000 in
theorem swap1_spec {w : World} {tp : Program} {lo : List Str} {mean : ExcName → Option Value} {mg mb : Str → Option Value}
    {dp un : Nat} {gd : Option (List Code)} {cn : Str} {cs : Scope} {a : Addr} {ccd : Value} {cl : List (Str × Addr)} {outer : List Env} {A₀ : Around} {base h₀ : Heap} {L : Addr} {m : Str → Option Value} {news : List (Addr × Obj)} {s : Shared}
    {b0 b1 b2 b3 : UInt8} {t tw : Tok}
    {Q E : Value → Shared → Prop}
    (H : Here w tp lo mean mg mb dp un outer cs A₀ base h₀ L m news s 8 80)
    (hret : ∀ h' tk' tr, Fr h₀ L h' m → News h₀ L h' news → Q (.bytes #[b0, b1, b2, b3] tr) { s with heap := h', toks := tk' }) :
    wpCln (model (RowW.prog (OpenRow.toRowW (OpenLaw.row PySem.Challenge.rw_wf0007_01))) w) (ktrTop dp un gd cn cs L a ccd cl outer) (call (.ref 91) [.bytes #[b0, b1, b2, b3] t, .int 1 tw]) Q E s := by
  obtain ⟨B, F, X, N, T, hk, hC, hd, hu⟩ := H
  refine cln_call ?_
  (refine' codeCln_def ?k1 ?k2 ?k3 ?k4 ?k5 ?kA ?kF ?kK ?k6 ?k7 ?k8 ?k9 ?kB ?_ ?c2 ?c3 ?c4 ?c5; (case kA => exact rfl); (case kF => exact rfl); (case kK => assumption); (case k1 => k_asm); (case k2 => k_asm); (case k3 => k_asm); (case k4 => k_asm); (case k5 => k_asm); (case k6 => k_is); (case k7 => k_is); (case k8 => k_room); (case k9 => exact BindsTo.of_eq rfl); (case c5 => decide); (case kB => exact locs rfl); (case c2 => exact rfl); (case c3 => exact rfl); (case c4 => exact rfl); k_whole; intro g' L' h' FG' F' N' B' X' T' l0; (try dsimp only); (try k_lift B'); (try k_fold))
  refine cln_execs_cons (cln_Assign_Name (cln_CallS (P := fun f _ => f = .type "bytearray") (by intro v n p e; cases e) (by rintro f h rfl; exact looks_type) ?_))
  k_steps
  · trivial
  refine ba_callK (n := 4) (by k_asm) (by k_asm) (by decide) (by decide) fun b h' F' N' l1 => ?_
  (try dsimp only)
  k_steps
  refine cln_of ?_
  k_steps
  all_goals exact hret _ _ _ (by assumption) (cb_drop (by assumption) (fun q hq => .tail _ hq))
set_option maxHeartbeats 8000000 in
theorem swap2_spec {w : World} {tp : Program} {lo : List Str} {mean : ExcName → Option Value} {mg mb : Str → Option Value}
    {dp un : Nat} {gd : Option (List Code)} {cn : Str} {cs : Scope} {a : Addr} {ccd : Value} {cl : List (Str × Addr)} {outer : List Env} {A₀ : Around} {base h₀ : Heap} {L : Addr} {m : Str → Option Value} {news : List (Addr × Obj)} {s : Shared}
    {b0 b1 b2 b3 : UInt8} {t tw : Tok}
    {Q E : Value → Shared → Prop}
    (H : Here w tp lo mean mg mb dp un outer cs A₀ base h₀ L m news s 8 80)
    (hret : ∀ h' tk' tr, Fr h₀ L h' m → News h₀ L h' news → Q (.bytes #[b1, b0, b3, b2] tr) { s with heap := h', toks := tk' }) :
    wpCln (model (RowW.prog (OpenRow.toRowW (OpenLaw.row PySem.Challenge.rw_wf0007_01))) w) (ktrTop dp un gd cn cs L a ccd cl outer) (call (.ref 91) [.bytes #[b0, b1, b2, b3] t, .int 2 tw]) Q E s := by
  obtain ⟨B, F, X, N, T, hk, hC, hd, hu⟩ := H
  refine cln_call ?_
  (refine' codeCln_def ?k1 ?k2 ?k3 ?k4 ?k5 ?kA ?kF ?kK ?k6 ?k7 ?k8 ?k9 ?kB ?_ ?c2 ?c3 ?c4 ?c5; (case kA => exact rfl); (case kF => exact rfl); (case kK => assumption); (case k1 => k_asm); (case k2 => k_asm); (case k3 => k_asm); (case k4 => k_asm); (case k5 => k_asm); (case k6 => k_is); (case k7 => k_is); (case k8 => k_room); (case k9 => exact BindsTo.of_eq rfl); (case c5 => decide); (case kB => exact locs rfl); (case c2 => exact rfl); (case c3 => exact rfl); (case c4 => exact rfl); k_whole; intro g' L' h' FG' F' N' B' X' T' l0; (try dsimp only); (try k_lift B'); (try k_fold))
  refine cln_execs_cons (cln_Assign_Name (cln_CallS (P := fun f _ => f = .type "bytearray") (by intro v n p e; cases e) (by rintro f h rfl; exact looks_type) ?_))
  k_steps
  · trivial
  refine ba_callK (n := 4) (by k_asm) (by k_asm) (by decide) (by decide) fun b h' F' N' l1 => ?_
  (try dsimp only)
  k_steps
  refine cln_of ?_
  k_steps
  all_goals exact hret _ _ _ (by assumption) (cb_drop (by assumption) (fun q hq => .tail _ hq))
set_option maxHeartbeats 8000000 in
theorem swap4_spec {w : World} {tp : Program} {lo : List Str} {mean : ExcName → Option Value} {mg mb : Str → Option Value}
    {dp un : Nat} {gd : Option (List Code)} {cn : Str} {cs : Scope} {a : Addr} {ccd : Value} {cl : List (Str × Addr)} {outer : List Env} {A₀ : Around} {base h₀ : Heap} {L : Addr} {m : Str → Option Value} {news : List (Addr × Obj)} {s : Shared}
    {b0 b1 b2 b3 : UInt8} {t tw : Tok}
    {Q E : Value → Shared → Prop}
    (H : Here w tp lo mean mg mb dp un outer cs A₀ base h₀ L m news s 8 80)
    (hret : ∀ h' tk' tr, Fr h₀ L h' m → News h₀ L h' news → Q (.bytes #[b3, b2, b1, b0] tr) { s with heap := h', toks := tk' }) :
    wpCln (model (RowW.prog (OpenRow.toRowW (OpenLaw.row PySem.Challenge.rw_wf0007_01))) w) (ktrTop dp un gd cn cs L a ccd cl outer) (call (.ref 91) [.bytes #[b0, b1, b2, b3] t, .int 4 tw]) Q E s := by
  obtain ⟨B, F, X, N, T, hk, hC, hd, hu⟩ := H
  refine cln_call ?_
  (refine' codeCln_def ?k1 ?k2 ?k3 ?k4 ?k5 ?kA ?kF ?kK ?k6 ?k7 ?k8 ?k9 ?kB ?_ ?c2 ?c3 ?c4 ?c5; (case kA => exact rfl); (case kF => exact rfl); (case kK => assumption); (case k1 => k_asm); (case k2 => k_asm); (case k3 => k_asm); (case k4 => k_asm); (case k5 => k_asm); (case k6 => k_is); (case k7 => k_is); (case k8 => k_room); (case k9 => exact BindsTo.of_eq rfl); (case c5 => decide); (case kB => exact locs rfl); (case c2 => exact rfl); (case c3 => exact rfl); (case c4 => exact rfl); k_whole; intro g' L' h' FG' F' N' B' X' T' l0; (try dsimp only); (try k_lift B'); (try k_fold))
  refine cln_execs_cons (cln_Assign_Name (cln_CallS (P := fun f _ => f = .type "bytearray") (by intro v n p e; cases e) (by rintro f h rfl; exact looks_type) ?_))
  k_steps
  · trivial
  refine ba_callK (n := 4) (by k_asm) (by k_asm) (by decide) (by decide) fun b h' F' N' l1 => ?_
  (try dsimp only)
  k_steps
  refine cln_of ?_
  k_steps
  all_goals exact hret _ _ _ (by assumption) (cb_drop (by assumption) (fun q hq => .tail _ hq))
end
local macro_rules | `(tactic| walk_at "pyIter ref") => `(tactic| k_dat rng_iter "FFakdk_" "____PS")
section
/-- a for whose target is a pair, over what pyNext hands on -/
noncomputable def ForT (prog : Program) (w : World) (A : Around) (tgt : PySem.Expr) (body : List Stmt) (env : Env) (Q : Flow → Shared → Prop) (E : Value → Shared → Prop) (it : Value) : Nat → Shared → Prop
  | 0, _ => False
  | n + 1, s => wpAny (model prog w) A (pyNext it) (fun r s₁ => match r with
      | none => Q .next s₁
      | some v => wpAny (model prog w) A (letOwnedTupleGo tgt it v) (fun _ s₀ => wpAny (model prog w) A (assign tgt env v) (fun _ s₂ => wpAny (model prog w) A (execs body env) (fun f s₃ => match f with
          | .next => ForT prog w A tgt body env Q E it n s₃
          | .cont => ForT prog w A tgt body env Q E it n s₃
          | .brk => Q .next s₃
          | .ret v => Q (.ret v) s₃) E s₂) E s₀) E s₁) E s
variable {prog : Program} {w : World} {A : Around} {E : Value → Shared → Prop} {s : Shared} {env : Env} {tgt iter : PySem.Expr} {body : List Stmt} {Q : Flow → Shared → Prop} {it : Value} {n : Nat} {h₀ : Heap} {L : Addr} {m : Str → Option Value} {news : List (Addr × Obj)}
theorem for_T {pos : Pos} (n : Nat) (_F : Fr h₀ env.locals s.heap m)
    (h : ∀ E', wpAny (model prog w) A (eval iter env) (fun x s₁ => wpAny (model prog w) A (pyIter x) (fun it s₂ => ForT prog w A tgt body env Q E' it n s₂) E s₁) E s)
    (hs : ∀ x, foldedSetIterable iter env x = pure x := by intro _; rfl) :
    wpAny (model prog w) A (exec (.For tgt iter body [] pos) env) Q E s := by
  refine wpAny_For (wpAny_mono (h (notedBy (model prog w) A env fun e s' => cameBackBy (model prog w) A env E e s')) (fun x s₁ h₁ => wpAny_mono h₁ (fun it s₂ h₂ => ?_) fun _ _ x => x) fun _ _ x => x) hs
  refine codeAny_loop' rfl (fun n s => ForT prog w A tgt body env Q (notedBy (model prog w) A env fun e s' => cameBackBy (model prog w) A env E e s') it n s) (fun k s' hk => ?_) n h₂
  show wpAny _ _ ((forTurn tgt it body [] env).onRaise (fun x => do noteFrame x env; theTreesLotGoes x)) _ _ s'
  refine wpAny_noted ?_
  simp only [forTurn]
  cases k with
  | zero => exact hk.elim
  | succ k =>
    refine wpAny_bind (wpAny_standAt (wpAny_bind (wpAny_onRaise (wpAny_mono hk (fun r s₁ h₁ => ?_) fun _ _ x => wpAny_standAt x))))
    cases r with
    | none => exact wpAny_pure (.inr ⟨rfl, codeAny_block (wpAny_execs_nil h₁)⟩)
    | some v =>
      refine wpAny_bind (wpAny_mono h₁ (fun _ s₀ h₀' => wpAny_bind (wpAny_mono h₀' (fun _ s₂ h₂ => wpAny_bind (wpAny_mono h₂ (fun f s₃ h₃ => ?_) fun _ _ x => x)) fun _ _ x => x)) fun _ _ x => x)
      cases f with
      | next => exact wpAny_pure (.inl ⟨rfl, k, Nat.lt_succ_self _, h₃⟩)
      | cont => exact wpAny_pure (.inl ⟨rfl, k, Nat.lt_succ_self _, h₃⟩)
      | brk => exact wpAny_pure h₃
      | ret v => exact wpAny_pure h₃
noncomputable abbrev zipO (TI TO : Addr) : Obj := { cls := .type "zip", dict := none, data := .fields #[.none, .bool false, .bool false, .ref TI, .ref TO], slots := #[] }
noncomputable abbrev pairO (a b : Value) : Obj := { cls := .type "tuple", data := .seq #[a, b] }
/-- the zip's five, nearest first -/
noncomputable abbrev zip5 (z TI TO i1 i2 : Addr) (a b : Value) (o1 o2 : Obj) (news : List (Addr × Obj)) : List (Addr × Obj) := (z, zipO TI TO) :: (TO, pairO a b) :: (TI, pairO (.ref i1) (.ref i2)) :: (i2, o2) :: (i1, o1) :: news
structure ZipOff (z TI TO i1 i2 : Addr) (news : List (Addr × Obj)) : Prop where
  a : TO < z
  b : TI < TO
  c : i2 < TI
  d : i1 < i2
  e : ∀ p ∈ news, p.1 < i1
theorem zip_call {l1 l2 : Addr} {xs ys : Array Value} {k1 k2 : Nat} {Q : Value → Shared → Prop} (F : Fr h₀ L s.heap m) (N : News h₀ L s.heap news) (hl1 : (l1, listOf xs k1) ∈ news) (hl2 : (l2, listOf ys k2) ∈ news)
    (h : ∀ z TI TO i1 i2 o1 o2 h', Fr h₀ L h' m → News h₀ L h' (zip5 z TI TO i1 i2 .none .none o1 o2 news) → ZipOff z TI TO i1 i2 news → LitO o1 l1 0 → LitO o2 l2 0 → Q (.ref z) { s with heap := h' }) :
    wpAny (model prog w) A (call (.type "zip") [.ref l1, .ref l2]) Q E s := by
  have none_of := none_above F
  have hLlt : L < s.heap.objs.size := F.ns.lt
  refine call_zip_2 ⟨_, (N _ hl1).1, rfl, _, rfl⟩ ⟨_, (N _ hl2).1, rfl, _, rfl⟩ fun h' hz hTI hTO hi1 hi2 _ hk => ?_
  obtain ⟨o1, p1, q1⟩ := hi1
  obtain ⟨o2, p2, q2⟩ := hi2
  refine h _ _ _ _ _ o1 o2 h' (F.keeps hk) (fun p hp => ?_) ⟨Nat.lt_succ_self _, Nat.lt_succ_self _, Nat.lt_succ_self _, Nat.lt_succ_self _, fun p hp => Heap.lt_size (N p hp).1⟩ q1 q2
  have off : ∀ j, s.heap.objs.size + j ≠ L ∧ h₀.get? (s.heap.objs.size + j) = none := fun j => ⟨Nat.ne_of_gt (Nat.lt_of_lt_of_le hLlt (Nat.le_add_right _ _)), none_of _ (Nat.le_add_right _ _)⟩
  rcases List.mem_cons.mp hp with rfl | hp
  · exact ⟨hz, off 4⟩
  rcases List.mem_cons.mp hp with rfl | hp
  · exact ⟨hTO, off 3⟩
  rcases List.mem_cons.mp hp with rfl | hp
  · exact ⟨hTI, off 2⟩
  rcases List.mem_cons.mp hp with rfl | hp
  · exact ⟨p2, off 1⟩
  rcases List.mem_cons.mp hp with rfl | hp
  · exact ⟨p1, off 0⟩
  · exact ⟨hk _ _ (N p hp).1, (N p hp).2⟩
theorem zip_apart {z TI TO i1 i2 l1 l2 : Addr} {o1 o2 : Obj} (Z : ZipOff z TI TO i1 i2 news) (h1 : (l1, o1) ∈ news) (h2 : (l2, o2) ∈ news) : ZipApart z TI TO i1 i2 l1 l2 := by
  obtain ⟨a, b, c, d, e⟩ := Z
  have e1 : l1 < i1 := e _ h1
  have e2 : l2 < i1 := e _ h2
  have a' : @LT.lt Nat instLTNat TO z := a
  have b' : @LT.lt Nat instLTNat TI TO := b
  have c' : @LT.lt Nat instLTNat i2 TI := c
  have d' : @LT.lt Nat instLTNat i1 i2 := d
  have e1' : @LT.lt Nat instLTNat l1 i1 := e1
  have e2' : @LT.lt Nat instLTNat l2 i1 := e2
  have t1 := Nat.lt_trans d' c'
  have t2 := Nat.lt_trans t1 b'
  have t3 := Nat.lt_trans t2 a'
  have t4 := Nat.lt_trans c' b'
  have t5 := Nat.lt_trans t4 a'
  have t6 := Nat.lt_trans b' a'
  have u1 := Nat.lt_trans e1' d'
  have u2 := Nat.lt_trans e1' t1
  have u3 := Nat.lt_trans e1' t2
  have u4 := Nat.lt_trans e1' t3
  have v1 := Nat.lt_trans e2' d'
  have v2 := Nat.lt_trans e2' t1
  have v3 := Nat.lt_trans e2' t2
  have v4 := Nat.lt_trans e2' t3
  constructor <;> first | exact Nat.ne_of_lt (by assumption) | exact Nat.ne_of_gt (by assumption)
theorem zip_off {z TI TO i1 i2 : Addr} (Z : ZipOff z TI TO i1 i2 news) {p : Addr × Obj} (hp : p ∈ news) : (p.1 ≠ z ∧ p.1 ≠ TO) ∧ p.1 ≠ i1 ∧ p.1 ≠ i2 :=
  have a' : @LT.lt Nat instLTNat TO z := Z.a
  have b' : @LT.lt Nat instLTNat TI TO := Z.b
  have c' : @LT.lt Nat instLTNat i2 TI := Z.c
  have d' : @LT.lt Nat instLTNat i1 i2 := Z.d
  have e1 : @LT.lt Nat instLTNat p.1 i1 := Z.e p hp
  have e2 := Nat.lt_trans e1 d'
  have e3 := Nat.lt_trans (Nat.lt_trans e2 c') b'
  ⟨⟨Nat.ne_of_lt (Nat.lt_trans e3 a'), Nat.ne_of_lt e3⟩, Nat.ne_of_lt e1, Nat.ne_of_lt e2⟩
/-- a turn's end -/
noncomputable def TurnPost (h₀ : Heap) (L : Addr) (s : Shared) (news' : List (Addr × Obj)) (St : (Str → Option Value) → Prop) (f : Flow) (s₃ : Shared) : Prop :=
  ∃ h'' tk'' m'', f = .next ∧ s₃ = { s with heap := h'', toks := tk'' } ∧ Fr h₀ L h'' m'' ∧ News h₀ L h'' news' ∧ St m''
theorem TurnPost.intro {h' : Heap} {tk' : Nat} {St : (Str → Option Value) → Prop} (F : Fr h₀ L h' m) (N : News h₀ L h' news) (h : St m) : TurnPost h₀ L s news St .next { s with heap := h', toks := tk' } := ⟨h', tk', m, rfl, rfl, F, N, h⟩
theorem forT_zip {z TI TO i1 i2 l1 l2 : Addr} {xs ys : Array Value} {k1 k2 : Nat} {a b : Str} {pa pb tp : Pos} {kk : Nat} (hh : A.handled = none) (Z : ZipOff z TI TO i1 i2 news) (hl1 : (l1, listOf xs k1) ∈ news) (hl2 : (l2, listOf ys k2) ∈ news) (hn : ys.size = xs.size)
    (ha : env.kindOf a = some .local) (hb : env.kindOf b = some .local) (hp : (env.scope.kind == .class || (env.scope.kind == .module && env.locals != env.globals)) = false)
    (St : Nat → (Str → Option Value) → Prop)
    (turn : ∀ (i : Nat) x y m' h' tk' news', xs[i]? = some x → ys[i]? = some y → St i m' → Fr h₀ env.locals h' (stM b y (stM a x m')) → News h₀ env.locals h' news' →
      wpAny (model prog w) A (execs body env) (TurnPost h₀ env.locals s news' (St (i + 1))) E { s with heap := h', toks := tk' })
    (fin : ∀ m' h' tk', St xs.size m' → Fr h₀ env.locals h' m' → News h₀ env.locals h' news → Q .next { s with heap := h', toks := tk' }) :
    ∀ (j i : Nat), i + j = xs.size → ∀ m' h' tk' u v o1 o2, St i m' → Fr h₀ env.locals h' m' → News h₀ env.locals h' (zip5 z TI TO i1 i2 u v o1 o2 news) → LitO o1 l1 i → LitO o2 l2 i →
      ForT prog w A (.Tuple [.Name a pa, .Name b pb] kk tp) body env Q E (.ref z) (j + 1) { s with heap := h', toks := tk' } := by
  have D := zip_apart Z hl1 hl2
  have off := fun p hp => zip_off Z (p := p) hp
  clear Z
  intro j
  induction j with
  | zero =>
    intro i hi m' h' tk' u v o1 o2 hS F N q1 q2
    have z0 := N (z, zipO TI TO) (.head _)
    have zO := N (TO, pairO u v) (.tail _ (.head _))
    have zI := N (TI, pairO (.ref i1) (.ref i2)) (.tail _ (.tail _ (.head _)))
    have y2 := N (i2, o2) (.tail _ (.tail _ (.tail _ (.head _))))
    have y1 := N (i1, o1) (.tail _ (.tail _ (.tail _ (.tail _ (.head _)))))
    have ml1 := N (l1, listOf xs k1) (.tail _ (.tail _ (.tail _ (.tail _ (.tail _ hl1)))))
    have ml2 := N (l2, listOf ys k2) (.tail _ (.tail _ (.tail _ (.tail _ (.tail _ hl2)))))
    obtain rfl : i = xs.size := hi
    refine wpAny_pyNext_zip_end hh D z0.1 zI.1 zO.1 ⟨o1, y1.1, q1⟩ ⟨o2, y2.1, q2⟩ ⟨_, ml1.1, rfl, _, rfl⟩ ⟨_, ml2.1, rfl, _, rfl⟩ (.inl (by simp)) fun h1 k => ?_
    have F1 : Fr h₀ env.locals h1 m' := by
      refine ⟨F.ns.at' fun o q => k _ _ (Ne.symm z0.2.1) (Ne.symm zO.2.1) (Ne.symm y1.2.1) (Ne.symm y2.2.1) q, fun c o q => k _ _ (fun r => ?_) (fun r => ?_) (fun r => ?_) (fun r => ?_) (F.keep c o q), F.above⟩
      · rw [r, z0.2.2] at q; cases q
      · rw [r, zO.2.2] at q; cases q
      · rw [r, y1.2.2] at q; cases q
      · rw [r, y2.2.2] at q; cases q
    refine fin m' h1 _ hS F1 fun p hp => ?_
    have np := N p (.tail _ (.tail _ (.tail _ (.tail _ (.tail _ hp)))))
    have of := off p hp
    exact ⟨k _ _ of.1.1 of.1.2 of.2.1 of.2.2 np.1, np.2⟩
  | succ j ih =>
    intro i hi m' h' tk' u v o1 o2 hS F N q1 q2
    have z0 := N (z, zipO TI TO) (.head _)
    have zO := N (TO, pairO u v) (.tail _ (.head _))
    have zI := N (TI, pairO (.ref i1) (.ref i2)) (.tail _ (.tail _ (.head _)))
    have y2 := N (i2, o2) (.tail _ (.tail _ (.tail _ (.head _))))
    have y1 := N (i1, o1) (.tail _ (.tail _ (.tail _ (.tail _ (.head _)))))
    have ml1 := N (l1, listOf xs k1) (.tail _ (.tail _ (.tail _ (.tail _ (.tail _ hl1)))))
    have ml2 := N (l2, listOf ys k2) (.tail _ (.tail _ (.tail _ (.tail _ (.tail _ hl2)))))
    have hx : xs[i]? = some xs[i] := Array.getElem?_eq_getElem (by omega)
    have hy : ys[i]? = some ys[i] := Array.getElem?_eq_getElem (by omega)
    refine wpAny_pyNext_zip_item D z0.1 zI.1 zO.1 ⟨o1, y1.1, q1⟩ ⟨o2, y2.1, q2⟩ ⟨_, ml1.1, rfl, _, rfl⟩ ⟨_, ml2.1, rfl, _, rfl⟩ hx hy fun h1 e1 e2 e3 e4 e5 _ k => ?_
    refine wpAny_letOwnedTupleGo_zip e1 fun h2 e6 s2 => ?_
    obtain ⟨o1', p1, p1'⟩ := e3
    obtain ⟨o2', p2, p2'⟩ := e4
    have zlt : @LT.lt Nat instLTNat z h'.objs.size := Heap.lt_size z0.1
    have e5' : h2.get? h'.objs.size = some (pairO xs[i] ys[i]) := (s2.2 _ (Nat.ne_of_gt zlt)).trans e5
    have g2 : ∀ c o, c ≠ z → c ≠ TO → c ≠ i1 → c ≠ i2 → h'.get? c = some o → h2.get? c = some o := fun c o r1 r2 r3 r4 q => (s2.2 _ r1).trans (k c o r1 r2 r3 r4 q)
    have F2 : Fr h₀ env.locals h2 m' := by
      refine ⟨F.ns.at' fun o q => g2 _ _ (Ne.symm z0.2.1) (Ne.symm zO.2.1) (Ne.symm y1.2.1) (Ne.symm y2.2.1) q, fun c o q => g2 _ _ (fun r => ?_) (fun r => ?_) (fun r => ?_) (fun r => ?_) (F.keep c o q), F.above⟩
      · rw [r, z0.2.2] at q; cases q
      · rw [r, zO.2.2] at q; cases q
      · rw [r, y1.2.2] at q; cases q
      · rw [r, y2.2.2] at q; cases q
    have N2 : News h₀ env.locals h2 (zip5 z TI TO i1 i2 xs[i] ys[i] o1' o2' news) := fun p hp => by
      rcases List.mem_cons.mp hp with rfl | hp
      · exact ⟨e6, z0.2⟩
      rcases List.mem_cons.mp hp with rfl | hp
      · exact ⟨(s2.2 _ D.TOz).trans e2, zO.2⟩
      rcases List.mem_cons.mp hp with rfl | hp
      · exact ⟨g2 _ _ D.TIz D.TITO D.TIi1 D.TIi2 zI.1, zI.2⟩
      rcases List.mem_cons.mp hp with rfl | hp
      · exact ⟨(s2.2 _ D.i2z).trans p2, y2.2⟩
      rcases List.mem_cons.mp hp with rfl | hp
      · exact ⟨(s2.2 _ D.i1z).trans p1, y1.2⟩
      · have np := N p (.tail _ (.tail _ (.tail _ (.tail _ (.tail _ hp)))))
        have of := off p hp
        exact ⟨g2 _ _ of.1.1 of.1.2 of.2.1 of.2.2 np.1, np.2⟩
    refine kcp_assign hh ⟨_, e5', rfl, _, rfl⟩ ha hb hp F2.ns fun h3 tk3 n3 k3 => ?_
    have L0 : h₀.get? env.locals = none := Heap.get?_none_of_le F2.above
    have F3 : Fr h₀ env.locals h3 (stM b ys[i] (stM a xs[i] m')) := ⟨n3, fun c o q => k3 _ _ (fun r => by rw [r, L0] at q; cases q) (F2.keep c o q), F2.above⟩
    have N3 : News h₀ env.locals h3 (zip5 z TI TO i1 i2 xs[i] ys[i] o1' o2' news) := fun p hp => ⟨k3 _ _ (N2 p hp).2.1 (N2 p hp).1, (N2 p hp).2⟩
    refine wpAny_mono (turn i _ _ m' h3 _ _ hx hy hS F3 N3) (fun f s₃ hf => ?_) fun _ _ x => x
    obtain ⟨h4, tk4, m4, rfl, rfl, F4, N4, S4⟩ := hf
    exact ih (i + 1) (by omega) m4 h4 tk4 _ _ o1' o2' S4 F4 N4 p1' p2'
end
section
noncomputable def Sign (a : Nat) : Prop := a = 45 ∨ (48 ≤ a ∧ a ≤ 57)
noncomputable def Word (cs : List Nat) : Prop := (∃ a, cs = [a] ∧ Sign a) ∨ ∃ a b, cs = [a, b] ∧ Sign a ∧ Sign b
noncomputable def wl (cs : List Nat) (k : Int) : List Nat := if k.fmod 3 = 0 then cs ++ [32] else if k.fmod 3 = 1 then 34 :: cs ++ [34] else (cs.flatMap fun c => [92, c]) ++ [10]
noncomputable def flat (css : List (List Nat × Int)) : List Nat := css.flatMap fun p => wl p.1 p.2
theorem Sign.lt {a : Nat} (h : Sign a) : a < 128 := by rcases h with rfl | ⟨_, h⟩ <;> omega
theorem flat_take_succ {css : List (List Nat × Int)} {i : Nat} {p : List Nat × Int} (h : css[i]? = some p) : flat (css.take (i + 1)) = flat (css.take i) ++ wl p.1 p.2 := by
  unfold flat
  rw [List.take_add_one, h, List.flatMap_append]
  simp
theorem app_cps (x y : Str) : (x ++ y).cps.toList = x.cps.toList ++ y.cps.toList := Array.toList_append
theorem len_cps (x : Str) : x.length = x.cps.toList.length := by simp [Str.length]
theorem w_sp {T : Str} {l : List Nat} {k : Int} (h : k.fmod 3 = 0) : (T ++ ((⟨l.toArray⟩ : Str) ++ (" " : Str))).cps.toList = T.cps.toList ++ wl l k := by
  rw [app_cps, app_cps, wl, if_pos h]; rfl
theorem w_qu {T : Str} {l : List Nat} {k : Int} (h0 : k.fmod 3 ≠ 0) (h : k.fmod 3 = 1) : (T ++ ((("\"" : Str) ++ (⟨l.toArray⟩ : Str)) ++ ("\"" : Str))).cps.toList = T.cps.toList ++ wl l k := by
  rw [app_cps, app_cps, app_cps, wl, if_neg h0, if_pos h]; rfl
theorem w_es1 {T : Str} {a : Nat} {k : Int} (h0 : k.fmod 3 ≠ 0) (h : k.fmod 3 ≠ 1) : (T ++ ((⟨#[92, a]⟩ : Str) ++ ("\n" : Str))).cps.toList = T.cps.toList ++ wl [a] k := by
  rw [app_cps, app_cps, wl, if_neg h0, if_neg h]; rfl
theorem w_es2 {T : Str} {a b : Nat} {k : Int} (h0 : k.fmod 3 ≠ 0) (h : k.fmod 3 ≠ 1) : (T ++ ((⟨#[92, a, 92, b]⟩ : Str) ++ ("\n" : Str))).cps.toList = T.cps.toList ++ wl [a, b] k := by
  rw [app_cps, app_cps, wl, if_neg h0, if_neg h]; rfl
theorem wl_len {cs : List Nat} {k : Int} (h : Word cs) : (wl cs k).length ≤ 6 := by
  rcases h with ⟨a, rfl, _⟩ | ⟨a, b, rfl, _⟩ <;> (unfold wl; split <;> (try split) <;> simp)
theorem stM_id' {m : Str → Option Value} {y : Str} {v : Value} (e : m y = some v) : stM y v m = m := by
  funext z
  by_cases h1 : z = y
  · subst h1; simp [stM, e]
  · simp [stM, h1]
theorem fr_text {h₀ h : Heap} {L : Addr} {m : Str → Option Value} {x y v : Value} (F : Fr h₀ L h (stM ("manner" : Str) y (stM ("word" : Str) x m))) (e : m ("text" : Str) = some v) :
    Fr h₀ L h (stM ("manner" : Str) y (stM ("word" : Str) x (stM ("text" : Str) v m))) := by
  rwa [stM_id' e]
theorem fr_text1 {h₀ h : Heap} {L : Addr} {m : Str → Option Value} {v : Value} (F : Fr h₀ L h m) (e : m ("text" : Str) = some v) : Fr h₀ L h (stM ("text" : Str) v m) := by
  rwa [stM_id' e]
local macro_rules | `(tactic| walk_at "exec For Tuple Call cons nil") => `(tactic| k_dat (for_T 6) "!F_y" "_")
local macro_rules | `(tactic| walk_at "call type:zip") => `(tactic| k_dat zip_call "FFAA_" "_____________S")
local macro_rules | `(tactic| walk_at "pyIter ref") => `(tactic| k_dat wpAny_pyIter_zip "g_" "")
local macro_rules | `(tactic| k_all) => `(tactic| first | exact off_led (by assumption) | (refine off_cons (by walk_at "ltne") ?_; k_all))
local macro_rules | `(tactic| lcg_sub) => `(tactic| first | (refine' DelF.head ?a; (case a => k_all)) | (refine' DelF.tail ?a ?b; (case a => k_ne); (case b => lcg_sub)))
local macro_rules | `(tactic| walk_at "eval ListComp") => `(tactic| k_dat comp_eval "FwRd_y" "")
local macro_rules | `(tactic| walk_at "π") => `(tactic| first | assumption | decide)
local macro_rules | `(tactic| walk_at "pyIter str") => `(tactic| k_dat strit_iter "FFπ_" "______PS")
local macro_rules | `(tactic| walk_at "б") => `(tactic| intro E9 R9 s9 k9 r9; exact wpAny_pyIter_striter_ascii ⟨_, k9 _ _ (News.get (by k_asm) (by k_mem)), by assumption⟩ r9)
local macro_rules | `(tactic| walk_at "MakeC") => `(tactic| k_dat (makeC_W 7) "FFбdR_" "_________PPS")
local macro_rules | `(tactic| walk_at "CompW") => `(tactic| first | (k_dat compW_strK "FFuvArnArr_" "________N__S") | (k_dat compW_str_end "rFFmeAr_" "___S"))
theorem strs1 {x : Str} {t : Tok} : StrsAre (#[].push (Value.str x t)).toList [x] := .cons _ _ .nil
theorem strs2 {x y : Str} {t u : Tok} : StrsAre ((#[].push (Value.str x t)).push (Value.str y u)).toList [x, y] := .cons _ _ (.cons _ _ .nil)
theorem join_W {D : Addr} {items : Array Value} {ys : List Str} {x : Str} {t : Tok} {k : Nat} {prog : Program} {w : World} {A : Around} {E : Value → Shared → Prop} {s : Shared} {h₀ : Heap} {L : Addr} {m : Str → Option Value} {news : List (Addr × Obj)} {Q : Value → Shared → Prop}
    (F : Fr h₀ L s.heap m) (N : News h₀ L s.heap news) (hl : (D, listOf items k) ∈ news) (hi : StrsAre items.toList ys) (hok : (ys.map (·.length)).sum + ys.length * x.length ≤ 16777216) {z : Str} (hz : Txt.join x ys = z)
    (h : ∀ t' k, Q (.str z t') { s with toks := k }) : wpAny (model prog w) A (call (.builtin "str.join") [.str x t, .ref D]) Q E s := by
  subst hz
  exact join_list ⟨_, (N _ hl).1, rfl, _, rfl⟩ hi hok h
theorem esc1 {a : Nat} : Txt.join ("" : Str) [("\\" : Str) ++ (⟨#[a]⟩ : Str)] = ⟨#[92, a]⟩ := rfl
theorem esc2 {a b : Nat} : Txt.join ("" : Str) [("\\" : Str) ++ (⟨#[a]⟩ : Str), ("\\" : Str) ++ (⟨#[b]⟩ : Str)] = ⟨#[92, a, 92, b]⟩ := rfl
theorem fits100 {a b : Nat} (ha : a ≤ 100) (hb : b ≤ 100) : a + b ≤ sizeLine := by rw [sizeLine_eq]; omega
theorem len_100 {n i k : Nat} (h : n ≤ 6 * i) (hi : i < k) (hk : k = 5) : n ≤ 100 := by omega
theorem len_next {T T' : Str} {l : List Nat} {i : Nat} (h : T'.cps.toList = T.cps.toList ++ l) (hl : l.length ≤ 6) (e3 : T.length ≤ 6 * i) : T'.length ≤ 6 * (i + 1) := by
  have q1 := len_cps T'
  have q2 := len_cps T
  rw [h, List.length_append] at q1
  omega
theorem len_mk {l : List Nat} : Str.length ⟨l.toArray⟩ = l.length := by simp [Str.length]
local macro_rules | `(tactic| walk_at "в") => `(tactic| first | exact strs1 | exact strs2)
local macro_rules | `(tactic| walk_at "г") => `(tactic| first | exact esc1 | exact esc2)
local macro_rules | `(tactic| walk_at "call builtin:str.join") => `(tactic| k_dat join_W "FFmвbг_" "__")
local macro_rules | `(tactic| walk_at "inplaceOp Add str str") => `(tactic| ((with_reducible refine PyProof.Rows.iadd_str ?_ (hsz := ?hsz)); (case hsz => exact fits100 (by with_reducible assumption) (Nat.le_of_ble_eq_true rfl)); intro t9 tk9))
local macro_rules | `(tactic| walk_at "д") => `(tactic| with_reducible show wpAny _ _ (eval (PySem.Expr.Name _ _) (compEnvC _ _ _ _)) _ _ _)
local macro_rules | `(tactic| walk_at "eval Name") => `(tactic| (walk_at "д"; k_dat LCgL.ld_own "FmAr_" ""))
local macro_rules | `(tactic| walk_at "EndC") => `(tactic| k_dat endC_none "FFmAe_" "___S")
set_option maxHeartbeats 4000000 in
theorem written_spec {w : World} {tp : Program} {lo : List Str} {mean : ExcName → Option Value} {mg mb : Str → Option Value}
    {dp un : Nat} {gd : Option (List Code)} {cn : Str} {cs : Scope} {a : Addr} {ccd : Value} {cl : List (Str × Addr)} {outer : List Env} {A₀ : Around} {base h₀ : Heap} {L : Addr} {m : Str → Option Value} {news : List (Addr × Obj)} {s : Shared}
    {wds mns : Addr} {n1 n2 : Nat} {xs ys : Array Value} {css : List (List Nat × Int)}
    {Q E : Value → Shared → Prop}
    (H : Here w tp lo mean mg mb dp un outer cs A₀ base h₀ L m news s 8 80)
    (hw : (wds, listOf xs n1) ∈ news) (hm : (mns, listOf ys n2) ∈ news) (hx1 : xs.size = 5) (hy1 : ys.size = 5) (hc1 : css.length = 5)
    (hxs : ∀ (i : Nat) p, css[i]? = some p → Word p.1 ∧ ∃ t u, xs[i]? = some (.str ⟨p.1.toArray⟩ t) ∧ ys[i]? = some (.int p.2 u))
    (hret : ∀ h' tk' tr T, T.cps.toList = flat css → Fr h₀ L h' m → News h₀ L h' news → Q (.str T tr) { s with heap := h', toks := tk' }) :
    wpAny (model (RowW.prog (OpenRow.toRowW (OpenLaw.row PySem.Challenge.rw_wf0007_01))) w) (ktrTop dp un gd cn cs L a ccd cl outer) (call (.ref 103) [.ref wds, .ref mns]) Q E s := by
  obtain ⟨B, F, X, N, T, hk, hC, hd, hu⟩ := H
  refine wpAny_call ?_
  k_dflt cell_enter
  k_steps
  refine forT_zip (xs := xs) (ys := ys) rfl (by assumption) hw hm (hy1.trans hx1.symm) rfl rfl rfl (fun i m' => ∃ T t, m' ("text" : Str) = some (.str T t) ∧ T.cps.toList = flat (css.take i) ∧ T.length ≤ 6 * i) ?turn ?fin 5 0 hx1.symm _ _ _ _ _ _ _ ⟨("" : Str), _, rfl, rfl, by decide⟩ (by assumption) (by assumption) (by assumption) (by assumption)
  case fin =>
    rintro m' h' tk' ⟨T, t, e1, e2, e3⟩ F2 N2
    have F3 := fr_text1 F2 e1
    clear F2
    rw [hx1, List.take_of_length_le (Nat.le_of_eq hc1)] at e2
    dsimp only
    k_steps
    all_goals exact hret _ _ _ T e2 (by assumption) (by assumption)
  case turn =>
    rintro i x y m' h' tk' news' hx hy ⟨T, t, e1, e2, e3⟩ F2 N2
    have F3 := fr_text F2 e1
    clear F2
    have hi : i < css.length := hc1.symm ▸ hx1 ▸ (Array.getElem?_eq_some_iff.mp hx).1
    obtain ⟨hW, tx, ty, x1, y1⟩ := hxs i css[i] (List.getElem?_eq_getElem hi)
    rw [x1] at hx
    rw [y1] at hy
    obtain rfl := Option.some.inj hx
    obtain rfl := Option.some.inj hy
    have ef := flat_take_succ (List.getElem?_eq_getElem hi)
    generalize css[i] = pr at *
    obtain ⟨cs', k'⟩ := pr
    have hT6 := len_100 e3 hi hc1
    dsimp only at *
    have hfin : ∀ T' t', T'.cps.toList = T.cps.toList ++ wl cs' k' → ∃ T'' t'', some (Value.str T' t') = some (.str T'' t'') ∧ T''.cps.toList = flat (css.take (i + 1)) ∧ T''.length ≤ 6 * (i + 1) :=
      fun T' t' h1 => ⟨T', t', rfl, by rw [h1, ef, e2], len_next h1 (wl_len (k := k') hW) e3⟩
    clear ef hx hy x1 y1 hxs
    rcases hW with ⟨a, rfl, ha⟩ | ⟨a, b, rfl, ha, hb⟩
    · have hall : (List.toArray [a]).all (· < 128) = true := by simp [ha.lt]
      k_steps
      all_goals first
        | exact TurnPost.intro (by assumption) (by assumption) (hfin _ _ (by first | exact w_sp (by assumption) | exact w_qu (by assumption) (by assumption) | exact w_es1 (by assumption) (by assumption) | exact w_es2 (by assumption) (by assumption)))
        | exact TurnPost.intro (by assumption) (cb_drop (by assumption) (fun q hq => .tail _ hq)) (hfin _ _ (by first | exact w_es1 (by assumption) (by assumption) | exact w_es2 (by assumption) (by assumption)))
    · have hall : (List.toArray [a, b]).all (· < 128) = true := by simp [ha.lt, hb.lt]
      k_steps
      all_goals first
        | exact TurnPost.intro (by assumption) (by assumption) (hfin _ _ (by first | exact w_sp (by assumption) | exact w_qu (by assumption) (by assumption) | exact w_es1 (by assumption) (by assumption) | exact w_es2 (by assumption) (by assumption)))
        | exact TurnPost.intro (by assumption) (cb_drop (by assumption) (fun q hq => .tail _ hq)) (hfin _ _ (by first | exact w_es1 (by assumption) (by assumption) | exact w_es2 (by assumption) (by assumption)))
end
section
variable {prog : Program} {w : World} {A : Around} {E : Value → Shared → Prop} {s : Shared} {env : Env} {body : List Stmt} {Q : Flow → Shared → Prop} {h₀ : Heap} {L : Addr} {m : Str → Option Value} {news : List (Addr × Obj)} {nm : Str}
noncomputable def TupO (o : Obj) (l : Addr) (i : Nat) : Prop := o.cls = .type "tuple_iterator" ∧ o.data = .fields #[.ref l, .int i 0]
noncomputable def BytO (o : Obj) (b : Array UInt8) (t : Tok) (i : Nat) : Prop := o.cls = .type "bytes_iterator" ∧ o.data = .fields #[.bytes b t, .int i 0]
theorem news_upd {it : Addr} {oi oi' : Obj} {g : Obj → List (Addr × Obj)} {h h' : Heap} (N : News h₀ L h news) (U : UpdF it oi news g) (hs : Heap.SameBut it h h') (e : h'.get? it = some oi') : News h₀ L h' (g oi') := by
  have z := N _ (updF_mem U)
  intro p hp
  rcases UpdF.mem_new U _ hp with rfl | ⟨hp, q⟩
  · exact ⟨e, z.2⟩
  · exact ⟨(hs.2 _ q).trans (N p hp).1, (N p hp).2⟩
theorem news_ext {it : Addr} {oi : Obj} {news' : List (Addr × Obj)} {h h' : Heap} (N : News h₀ L h news) (_hi : (it, oi) ∈ news) (D : DelF it news news') (hs : Heap.ExtBut it h h') : News h₀ L h' news' := by
  intro p hp
  have d := D.sub p hp
  exact ⟨hs _ _ d.2 (N p d.1).1, (N p d.1).2⟩
theorem tup_iter {t : Addr} {items : Array Value} {Q : Value → Shared → Prop} (F : Fr h₀ L s.heap m) (N : News h₀ L s.heap news) (ht : s.heap.IsTuple t items)
    (h : ∀ it o h', Fr h₀ L h' m → News h₀ L h' ((it, o) :: news) → h'.IsTuple t items → TupO o t 0 → (∀ p ∈ news, p.1 < it) → t < it → Q (.ref it) { s with heap := h' }) :
    wpAny (model prog w) A (pyIter (.ref t)) Q E s :=
  wpAny_pyIter_tuple ht (h s.heap.objs.size _ _ (F.push _) (N.push F _) (ht.push _) ⟨rfl, rfl⟩ (fun p hp => Heap.lt_size (N p hp).1) (by obtain ⟨_, e, _⟩ := ht; exact Heap.lt_size e))
theorem tup_next {it t : Addr} {i : Nat} {items : Array Value} {x : Value} {o : Obj} {g : Obj → List (Addr × Obj)} {Q : Option Value → Shared → Prop} (F : Fr h₀ L s.heap m) (N : News h₀ L s.heap news) (U : UpdF it o news g) (ho : TupO o t i) (ht : s.heap.IsTuple t items) (hlt : t < it) (hx : items[i]? = some x)
    (h : ∀ o' h', Fr h₀ L h' m → News h₀ L h' (g o') → h'.IsTuple t items → TupO o' t (i + 1) → Q (some x) { s with heap := h' }) :
    wpAny (model prog w) A (pyNext (.ref it)) Q E s := by
  have z := N _ (updF_mem U)
  refine wpAny_pyNext_tuple_item ⟨o, z.1, ho⟩ ht hx fun h' hi hs => ?_
  obtain ⟨o', e, ho'⟩ := hi
  exact h o' h' (F.change hs z.2.1 z.2.2) (news_upd N U hs e) (ht.extBut hs.extBut (Nat.ne_of_lt hlt)) ho'
theorem tup_end {it t : Addr} {i : Nat} {items : Array Value} {o : Obj} {news' : List (Addr × Obj)} {Q : Option Value → Shared → Prop} (hh : A.handled = none) (F : Fr h₀ L s.heap m) (N : News h₀ L s.heap news) (hi : (it, o) ∈ news) (D : DelF it news news') (ho : TupO o t i) (ht : s.heap.IsTuple t items) (hx : items[i]? = none)
    (h : ∀ h', Fr h₀ L h' m → News h₀ L h' news' → Q none { s with heap := h' }) :
    wpAny (model prog w) A (pyNext (.ref it)) Q E s := by
  have z := N _ hi
  exact wpAny_pyNext_tuple_end hh ⟨o, z.1, ho⟩ ht hx fun h' hs => h h' (fr_extBut F z.2.2 z.2.1 hs) (news_ext N hi D hs)
theorem byt_iter {b : Array UInt8} {t : Tok} {Q : Value → Shared → Prop} (F : Fr h₀ L s.heap m) (N : News h₀ L s.heap news)
    (h : ∀ it o h', Fr h₀ L h' m → News h₀ L h' ((it, o) :: news) → BytO o b t 0 → (∀ p ∈ news, p.1 < it) → Q (.ref it) { s with heap := h' }) :
    wpAny (model prog w) A (pyIter (.bytes b t)) Q E s :=
  KBw.pyIter_bytes (h s.heap.objs.size _ _ (F.push _) (N.push F _) ⟨rfl, rfl⟩ (fun p hp => Heap.lt_size (N p hp).1))
theorem byt_next {it : Addr} {b : Array UInt8} {t : Tok} {i : Nat} {c : UInt8} {o : Obj} {g : Obj → List (Addr × Obj)} {Q : Option Value → Shared → Prop} (F : Fr h₀ L s.heap m) (N : News h₀ L s.heap news) (U : UpdF it o news g) (ho : BytO o b t i) (hx : b[i]? = some c)
    (h : ∀ o' h' tk' t', Fr h₀ L h' m → News h₀ L h' (g o') → BytO o' b t (i + 1) → Q (some (.int (c.toNat : Int) t')) { s with heap := h', toks := tk' }) :
    wpAny (model prog w) A (pyNext (.ref it)) Q E s := by
  have z := N _ (updF_mem U)
  refine KBw.next_item ⟨o, z.1, ho⟩ hx fun h' hi hs => ?_
  obtain ⟨o', e, ho'⟩ := hi
  exact h o' h' _ _ (F.change hs z.2.1 z.2.2) (news_upd N U hs e) ho'
theorem byt_end {it : Addr} {b : Array UInt8} {t : Tok} {i : Nat} {o : Obj} {news' : List (Addr × Obj)} {Q : Option Value → Shared → Prop} (hh : A.handled = none) (F : Fr h₀ L s.heap m) (N : News h₀ L s.heap news) (hi : (it, o) ∈ news) (D : DelF it news news') (ho : BytO o b t i) (hx : b[i]? = none)
    (h : ∀ h', Fr h₀ L h' m → News h₀ L h' news' → Q none { s with heap := h' }) :
    wpAny (model prog w) A (pyNext (.ref it)) Q E s := by
  have z := N _ hi
  exact KBw.next_end hh ⟨o, z.1, ho⟩ hx fun h' hs => h h' (fr_extBut F z.2.2 z.2.1 hs) (news_ext N hi D hs)
/-- a turn's end, its ledger one of a family -/
noncomputable def TurnAt {σ : Type} (h₀ : Heap) (L : Addr) (s : Shared) (Lg : σ → List (Addr × Obj)) (St : σ → (Str → Option Value) → Prop) (f : Flow) (s₃ : Shared) : Prop :=
  ∃ h'' tk'' m'' st, f = .next ∧ s₃ = { s with heap := h'', toks := tk'' } ∧ Fr h₀ L h'' m'' ∧ News h₀ L h'' (Lg st) ∧ St st m''
theorem TurnAt.intro {σ : Type} {h' : Heap} {tk' : Nat} {Lg : σ → List (Addr × Obj)} {St : σ → (Str → Option Value) → Prop} (st : σ) (F : Fr h₀ L h' m) (N : News h₀ L h' (Lg st)) (h : St st m) : TurnAt h₀ L s Lg St .next { s with heap := h', toks := tk' } := ⟨h', tk', m, st, rfl, rfl, F, N, h⟩
/-- a for whose turns keep to a family of ledgers, over any iterator -/
theorem forW_iter {σ : Type} {it : Addr} {n : Nat} {Lg : σ → List (Addr × Obj)} (O : Nat → Obj → Prop) (P : Nat → Value → Prop) (hnm : env.kindOf nm = some .local) (hp : (env.scope.kind == .class || (env.scope.kind == .module && env.locals != env.globals)) = false)
    (item : ∀ (i : Nat) (oi : Obj) (m' : Str → Option Value) (st : σ) (s' : Shared) (Q' : Option Value → Shared → Prop), i < n → O i oi → Fr h₀ env.locals s'.heap m' → News h₀ env.locals s'.heap ((it, oi) :: Lg st) → (∀ p ∈ Lg st, p.1 ≠ it) →
      (∀ v o' h' tk', P i v → O (i + 1) o' → Fr h₀ env.locals h' m' → News h₀ env.locals h' ((it, o') :: Lg st) → Q' (some v) { s' with heap := h', toks := tk' }) → wpAny (model prog w) A (pyNext (.ref it)) Q' E s')
    (done : ∀ (oi : Obj) (m' : Str → Option Value) (st : σ) (s' : Shared) (Q' : Option Value → Shared → Prop), O n oi → Fr h₀ env.locals s'.heap m' → News h₀ env.locals s'.heap ((it, oi) :: Lg st) → (∀ p ∈ Lg st, p.1 ≠ it) →
      (∀ h', Fr h₀ env.locals h' m' → News h₀ env.locals h' (Lg st) → Q' none { s' with heap := h' }) → wpAny (model prog w) A (pyNext (.ref it)) Q' E s')
    (off : ∀ st, ∀ p ∈ Lg st, p.1 ≠ it) (St : Nat → σ → (Str → Option Value) → Prop)
    (turn : ∀ (i : Nat) st m' h' tk' v oi, i < n → P i v → St i st m' → Fr h₀ env.locals h' (stM nm v m') → News h₀ env.locals h' ((it, oi) :: Lg st) → (∀ p ∈ Lg st, p.1 ≠ it) →
      wpAny (model prog w) A (execs body env) (TurnAt h₀ env.locals s (fun st => (it, oi) :: Lg st) (St (i + 1))) E { s with heap := h', toks := tk' })
    (fin : ∀ st m' h' tk', St n st m' → Fr h₀ env.locals h' m' → News h₀ env.locals h' (Lg st) → Q .next { s with heap := h', toks := tk' }) :
    ∀ (j i : Nat), i + j = n → ∀ st m' h' tk' oi, O i oi → St i st m' → Fr h₀ env.locals h' m' → News h₀ env.locals h' ((it, oi) :: Lg st) →
      ForW prog w A nm body env Q E (.ref it) (j + 1) { s with heap := h', toks := tk' } := by
  intro j
  induction j with
  | zero =>
    intro i hi st m' h' tk' oi hO hS F N
    obtain rfl : i = n := hi
    refine forW_step ?_
    refine done oi m' st _ _ hO F N (off st) fun h1 F1 N1 => ?_
    exact fin st m' h1 _ hS F1 N1
  | succ j ih =>
    intro i hi st m' h' tk' oi hO hS F N
    refine forW_step ?_
    refine item i oi m' st _ _ (by omega) hO F N (off st) fun v o' h1 tk1 hP hO' F1 N1 => ?_
    refine wpAny_storeName_local hnm F1.ns (fun h2 n2 s2 => ?_) hp
    have L0 : h₀.get? env.locals = none := Heap.get?_none_of_le F1.above
    have F2 : Fr h₀ env.locals h2 (stM nm v m') := ⟨n2, fun c o q => s2.extBut _ _ (fun r => by rw [r, L0] at q; cases q) (F1.keep c o q), F1.above⟩
    have N2 : News h₀ env.locals h2 ((it, o') :: Lg st) := fun p hp => ⟨s2.extBut _ _ (N1 p hp).2.1 (N1 p hp).1, (N1 p hp).2⟩
    refine wpAny_mono (turn i st m' h2 _ v o' (by omega) hP hS F2 N2 (off st)) (fun f s₃ hf => ?_) fun _ _ x => x
    obtain ⟨h3, tk3, m3, st3, rfl, rfl, F3, N3, S3⟩ := hf
    exact ih (i + 1) (by omega) st3 m3 h3 tk3 o' hO' S3 F3 N3
theorem forW_le {it : Value} : ∀ (a b : Nat) (s : Shared), a ≤ b → ForW prog w A nm body env Q E it a s → ForW prog w A nm body env Q E it b s
  | 0, _, _, _, h => h.elim
  | a + 1, 0, _, h, _ => absurd h (by omega)
  | a + 1, b + 1, s, h, x => by
    refine wpAny_mono x (fun r s₁ h₁ => ?_) fun _ _ e => e
    cases r with
    | none => exact h₁
    | some v =>
      refine wpAny_mono h₁ (fun _ s₂ h₂ => wpAny_mono h₂ (fun f s₃ h₃ => ?_) fun _ _ e => e) fun _ _ e => e
      cases f with
      | next => exact forW_le a b s₃ (by omega) h₃
      | cont => exact forW_le a b s₃ (by omega) h₃
      | brk => exact h₃
      | ret v => exact h₃
section
variable {σ : Type} {it : Addr} {n : Nat} {Lg : σ → List (Addr × Obj)}
theorem forW_range {fuel : Nat} (hfu : n + 1 ≤ fuel) (hh : A.handled = none) (hnm : env.kindOf nm = some .local) (hp : (env.scope.kind == .class || (env.scope.kind == .module && env.locals != env.globals)) = false) (off : ∀ st, ∀ p ∈ Lg st, p.1 ≠ it) (St : Nat → σ → (Str → Option Value) → Prop)
    (turn : ∀ (i : Nat) st m' h' tk' v oi, i < n → (∃ t, v = .int (i : Int) t) → St i st m' → Fr h₀ env.locals h' (stM nm v m') → News h₀ env.locals h' ((it, oi) :: Lg st) → (∀ p ∈ Lg st, p.1 ≠ it) →
      wpAny (model prog w) A (execs body env) (TurnAt h₀ env.locals s (fun st => (it, oi) :: Lg st) (St (i + 1))) E { s with heap := h', toks := tk' })
    (fin : ∀ st m' h' tk', St n st m' → Fr h₀ env.locals h' m' → News h₀ env.locals h' (Lg st) → Q .next { s with heap := h', toks := tk' })
    {st : σ} {m' : Str → Option Value} {h' : Heap} {tk' : Nat} (h0 : St 0 st m') (F : Fr h₀ env.locals h' m') (N : News h₀ env.locals h' ((it, ritObj ((0 : Nat) : Int) (n : Int) 1) :: Lg st)) :
    ForW prog w A nm body env Q E (.ref it) fuel { s with heap := h', toks := tk' } :=
  forW_le _ _ _ hfu <| forW_iter (fun i o => o = ritObj (i : Int) ((n : Int) - i) 1) (fun i v => ∃ t, v = .int (i : Int) t) hnm hp
    (fun i oi m' st s' Q' hi hO F N off h => by
      subst hO
      exact rng_next F N (UpdF.head off) (by omega) (x' := ((i + 1 : Nat) : Int)) (by omega) (left' := (n : Int) - ((i + 1 : Nat) : Int)) (by omega) fun h1 t tk1 F1 N1 => h _ _ h1 tk1 ⟨t, rfl⟩ rfl F1 N1)
    (fun oi m' st s' Q' hO F N off h => by
      subst hO
      exact rng_end hh F N off (by omega) h)
    off St turn fin n 0 (by omega) st m' h' tk' _ (by simp) h0 F N
theorem forW_bytes {fuel : Nat} {b : Array UInt8} {t : Tok} (hfu : n + 1 ≤ fuel) (hn : b.size = n) (hh : A.handled = none) (hnm : env.kindOf nm = some .local) (hp : (env.scope.kind == .class || (env.scope.kind == .module && env.locals != env.globals)) = false) (off : ∀ st, ∀ p ∈ Lg st, p.1 ≠ it) (St : Nat → σ → (Str → Option Value) → Prop)
    (turn : ∀ (i : Nat) st m' h' tk' v oi, i < n → (∃ c t', b[i]? = some c ∧ v = .int (c.toNat : Int) t') → St i st m' → Fr h₀ env.locals h' (stM nm v m') → News h₀ env.locals h' ((it, oi) :: Lg st) → (∀ p ∈ Lg st, p.1 ≠ it) →
      wpAny (model prog w) A (execs body env) (TurnAt h₀ env.locals s (fun st => (it, oi) :: Lg st) (St (i + 1))) E { s with heap := h', toks := tk' })
    (fin : ∀ st m' h' tk', St n st m' → Fr h₀ env.locals h' m' → News h₀ env.locals h' (Lg st) → Q .next { s with heap := h', toks := tk' })
    {st : σ} {m' : Str → Option Value} {h' : Heap} {tk' : Nat} {oi : Obj} (hO : BytO oi b t 0) (h0 : St 0 st m') (F : Fr h₀ env.locals h' m') (N : News h₀ env.locals h' ((it, oi) :: Lg st)) :
    ForW prog w A nm body env Q E (.ref it) fuel { s with heap := h', toks := tk' } :=
  forW_le _ _ _ hfu <| forW_iter (fun i o => BytO o b t i) (fun i v => ∃ c t', b[i]? = some c ∧ v = .int (c.toNat : Int) t') hnm hp
    (fun i oi m' st s' Q' hi hO F N off h =>
      byt_next F N (UpdF.head off) hO (Array.getElem?_eq_getElem (by omega)) fun o' h1 tk1 t1 F1 N1 hO' => h _ _ h1 tk1 ⟨_, t1, Array.getElem?_eq_getElem (by omega), rfl⟩ hO' F1 N1)
    (fun oi m' st s' Q' hO F N off h => byt_end hh F N (.head _) (DelF.head off) hO (Array.getElem?_eq_none (by omega)) h)
    off St turn fin n 0 (by omega) st m' h' tk' oi hO h0 F N
theorem forW_tuple {fuel : Nat} {D : Addr} {items : Array Value} {oD : Obj} (hfu : n + 1 ≤ fuel) (hn : items.size = n) (hD : ∀ st, (D, oD) ∈ Lg st) (hc : oD.cls = .type "tuple") (hd : ∃ k, oD.data = .seq items k) (hlt : D < it)
    (hh : A.handled = none) (hnm : env.kindOf nm = some .local) (hp : (env.scope.kind == .class || (env.scope.kind == .module && env.locals != env.globals)) = false) (off : ∀ st, ∀ p ∈ Lg st, p.1 ≠ it) (St : Nat → σ → (Str → Option Value) → Prop)
    (turn : ∀ (i : Nat) st m' h' tk' v oi, i < n → items[i]? = some v → St i st m' → Fr h₀ env.locals h' (stM nm v m') → News h₀ env.locals h' ((it, oi) :: Lg st) → (∀ p ∈ Lg st, p.1 ≠ it) →
      wpAny (model prog w) A (execs body env) (TurnAt h₀ env.locals s (fun st => (it, oi) :: Lg st) (St (i + 1))) E { s with heap := h', toks := tk' })
    (fin : ∀ st m' h' tk', St n st m' → Fr h₀ env.locals h' m' → News h₀ env.locals h' (Lg st) → Q .next { s with heap := h', toks := tk' })
    {st : σ} {m' : Str → Option Value} {h' : Heap} {tk' : Nat} {oi : Obj} (hO : TupO oi D 0) (h0 : St 0 st m') (F : Fr h₀ env.locals h' m') (N : News h₀ env.locals h' ((it, oi) :: Lg st)) :
    ForW prog w A nm body env Q E (.ref it) fuel { s with heap := h', toks := tk' } :=
  forW_le _ _ _ hfu <| forW_iter (fun i o => TupO o D i) (fun i v => items[i]? = some v) hnm hp
    (fun i oi m' st s' Q' hi hO F N off h => by
      have ht : s'.heap.IsTuple D items := ⟨_, (N _ (.tail _ (hD st))).1, hc, hd⟩
      exact tup_next F N (UpdF.head off) hO ht hlt (Array.getElem?_eq_getElem (by omega)) fun o' h1 F1 N1 _ hO' => h _ _ h1 s'.toks (Array.getElem?_eq_getElem (by omega)) hO' F1 N1)
    (fun oi m' st s' Q' hO F N off h => by
      have ht : s'.heap.IsTuple D items := ⟨_, (N _ (.tail _ (hD st))).1, hc, hd⟩
      exact tup_end hh F N (.head _) (DelF.head off) hO ht (Array.getElem?_eq_none (by omega)) h)
    off St turn fin n 0 (by omega) st m' h' tk' oi hO h0 F N
end
/-- one more name is known by its value -/
theorem stM_id {m : Str → Option Value} {y : Str} {v : Value} (e : m y = some v) : stM y v m = m := by
  funext z
  by_cases h1 : z = y
  · subst h1; simp [stM, e]
  · simp [stM, h1]
theorem fr_set {h : Heap} {y : Str} {v : Value} (F : Fr h₀ L h m) (e : m y = some v) : Fr h₀ L h (stM y v m) := by
  rwa [stM_id e]
end
section
/-- the two lines, the list that is read and the list of what was told, as whole numbers -/
structure PS where
  near : List Int
  line : List Int
  under : List Int
  told : List Int
noncomputable def hasUp (n p : Nat) : Bool := decide (0 < p / n) && decide (0 < p % n)
noncomputable def inside (n p : Nat) : Bool := decide (p / n < n - 1) && decide (p % n < n - 1)
noncomputable def freshOf (n : Nat) (wt : Int) (p : Nat) (near : List Int) (cell u : Int) : Int := ((near.getD (p - n - 1) 0 * cell) + wt * (near.getD (p - n) 0 * near.getD (p - 1) 0)).fdiv u
noncomputable def stepP (n : Nat) (wt : Int) (p : Nat) (s : PS) : PS :=
  if hasUp n p = true then ⟨s.near ++ [s.line.headD 0], s.line.tail ++ [freshOf n wt p s.near (s.line.headD 0) (s.under.headD 0)], s.under.tail ++ (if inside n p = true then [s.line.headD 0] else []), s.told ++ [freshOf n wt p s.near (s.line.headD 0) (s.under.headD 0)]⟩
  else ⟨s.near ++ [s.line.headD 0], s.line.tail, s.under, s.told⟩
noncomputable def runP (n : Nat) (wt : Int) (s : PS) : Nat → PS
  | 0 => { s with near := [] }
  | p + 1 => stepP n wt p (runP n wt s p)
noncomputable def levP (wt : Int) (s : PS) : Nat → PS
  | 0 => s
  | i + 1 => runP (4 - i) wt (levP wt s i) ((4 - i) * (4 - i))
noncomputable def Small (x : Int) : Prop := x.natAbs < 2 ^ 300
/-- what a turn asks of the numbers that it meets -/
structure OkP (n p : Nat) (s : PS) : Prop where
  near : s.near.length = p
  line : s.line ≠ []
  l1 : s.line.length ≤ 100
  l2 : s.under.length ≤ 100
  l3 : s.told.length ≤ 100
  up : hasUp n p = true → s.under ≠ [] ∧ s.under.headD 0 ≠ 0 ∧ Small (s.under.headD 0) ∧ Small (s.line.headD 0) ∧ ∀ x ∈ s.near, Small x
theorem bits_lt {x : Int} {n : Nat} (h : x.natAbs < 2 ^ n) : Builtin.Int.intBits x ≤ n := by
  unfold Builtin.Int.intBits
  split
  · exact Nat.zero_le _
  · rename_i h0
    have h1 : x.natAbs ≠ 0 := by
      intro q
      apply h0
      rw [Int.natAbs_eq_zero.mp q]
      rfl
    have := (Nat.log2_lt h1).mpr h
    omega
theorem bits_small {x : Int} (h0 : -(2 ^ 60) < x) (h1 : x < 2 ^ 60) : Builtin.Int.intBits x ≤ 64 := bits_lt (by omega)
theorem Small.bits {x : Int} (h : Small x) : Builtin.Int.intBits x ≤ 300 := bits_lt h
theorem Small.mul {x y : Int} (h : Small x) (h' : Small y) : IntMulOk x y := IntMulOk.of_le h.bits h'.bits (by decide)
theorem Small.pylong {x y : Int} (h : Small y) : Builtin.divisionGoesByPylong x y = false := by
  refine PyProof.noPylong_of_log2 ?_
  by_cases h0 : y.natAbs = 0
  · rw [h0]; decide
  · have := (Nat.log2_lt h0).mpr h
    omega
theorem getD_mem {l : List Int} {i : Nat} (h : i < l.length) : l.getD i 0 ∈ l := by
  rw [List.getD_eq_getElem?_getD, List.getElem?_eq_getElem h]
  exact List.getElem_mem h
theorem ints_getD {vs : List Value} {l : List Int} (I : IntsAre vs l) {i : Nat} (h : i < l.length) : ∃ t, vs[i]? = some (.int (l.getD i 0) t) := by
  induction I generalizing i with
  | nil => simp at h
  | cons n t _ ih =>
    cases i with
    | zero => exact ⟨t, rfl⟩
    | succ i => simpa using ih (i := i) (by simpa using h)
theorem ints_head {vs : List Value} {l : List Int} (I : IntsAre vs l) (h : l ≠ []) : ∃ t vs', vs = .int (l.headD 0) t :: vs' ∧ IntsAre vs' l.tail := by
  cases I with
  | nil => exact absurd rfl h
  | cons n t I => exact ⟨t, _, rfl, I⟩
theorem ints_length {vs : List Value} {l : List Int} (I : IntsAre vs l) : vs.length = l.length := I.length
theorem small_at {l : List Int} {i : Nat} (h : ∀ x ∈ l, Small x) (hi : i < l.length) : Small (l.getD i 0) := h _ (getD_mem hi)
theorem small_mul {x y : Int} (h : Small x) (h' : Small y) : IntMulOk x y := h.mul h'
variable {prog : Program} {w : World} {A : Around} {E : Value → Shared → Prop} {s : Shared} {h₀ : Heap} {L : Addr} {m : Str → Option Value} {news : List (Addr × Obj)}
theorem append_list {D : Addr} {vs : List Value} {k : Nat} {v : Value} {g : Obj → List (Addr × Obj)} {Q : Value → Shared → Prop} (F : Fr h₀ L s.heap m) (N : News h₀ L s.heap news) (U : UpdF D (listOf vs.toArray k) news g) (hz : vs.length ≤ 1000)
    (h : ∀ h', Fr h₀ L h' m → News h₀ L h' (g (listOf (vs ++ [v]).toArray (k + 1))) → Q .none { s with heap := h' }) : wpAny (model prog w) A (call (.builtin "list.append") [.ref D, v]) Q E s :=
  append_K F N (updF_upd U _) (fun h' F' N' => h h' F' (by simpa using N')) (hsz := by rw [sizeLine_eq]; simp; omega)
theorem get_push {a : Addr} {vs : List Value} {l : List Int} {c : Value} {e : Nat} {k : Int} {t : Tok} {Q : Value → Shared → Prop} (_F : Fr h₀ L s.heap m) (N : News h₀ L s.heap news) (hl : (a, listOf (vs ++ [c]).toArray e) ∈ news) (I : IntsAre vs l) (h0 : 0 ≤ k) (h1 : k.toNat < l.length) (h2 : l.length ≤ 1000)
    (h : ∀ t', Q (.int (l.getD k.toNat 0) t') s) : wpAny (model prog w) A (getItem (.ref a) (.int k t)) Q E s := by
  obtain ⟨t', e1⟩ := ints_getD I h1
  have hlen := ints_length I
  refine wpAny_getItem_list ⟨_, (N _ hl).1, rfl, _, rfl⟩ h0 (by omega) ?_ (h t')
  rw [List.getElem?_toArray, List.getElem?_append_left (by omega)]
  exact e1
end
/-- what is expected ahead of place p of a table of n rows: numbers M, fresh ones F, divisors U, what was told T -/
noncomputable def cntP (n : Nat) : Nat → Nat
  | 0 => 0
  | p + 1 => cntP n p + (if hasUp n p = true then 1 else 0)
noncomputable def insP (n : Nat) (M : List Int) : Nat → List Int
  | 0 => []
  | p + 1 => insP n M p ++ (if hasUp n p = true ∧ inside n p = true then [M.getD p 0] else [])
noncomputable def expP (n : Nat) (M F U T : List Int) (p : Nat) : PS :=
  ⟨M.take p, M.drop p ++ F.take (cntP n p), U.drop (cntP n p) ++ insP n M p, T ++ F.take (cntP n p)⟩
theorem runP_exp {n : Nat} {wt : Int} {M F U T : List Int} (N : List Int) (hU : U.length = F.length)
    (hmono : ∀ p, p < M.length → hasUp n p = true → cntP n p < F.length)
    (hf : ∀ p, p < M.length → hasUp n p = true → freshOf n wt p (M.take p) (M.getD p 0) (U.getD (cntP n p) 0) = F.getD (cntP n p) 0) :
    ∀ p, p ≤ M.length → runP n wt ⟨N, M, U, T⟩ p = expP n M F U T p := by
  intro p
  induction p with
  | zero => intro _; simp [runP, expP, cntP, insP]
  | succ p ih =>
    intro hp
    have ih := ih (by omega)
    show stepP n wt p (runP n wt ⟨N, M, U, T⟩ p) = _
    rw [ih]
    have hd : (expP n M F U T p).line.headD 0 = M.getD p 0 := by
      simp only [expP]
      rw [List.drop_eq_getElem_cons (by omega)]
      simp [List.getD_eq_getElem?_getD, List.getElem?_eq_getElem (show p < M.length by omega)]
    have htl : (expP n M F U T p).line.tail = M.drop (p + 1) ++ F.take (cntP n p) := by
      simp only [expP]
      rw [List.drop_eq_getElem_cons (by omega)]
      rfl
    have hM : M.take (p + 1) = M.take p ++ [M.getD p 0] := by
      rw [List.take_add_one, List.getElem?_eq_getElem (show p < M.length by omega), List.getD_eq_getElem?_getD, List.getElem?_eq_getElem (show p < M.length by omega)]
      rfl
    unfold stepP
    rw [hd, htl]
    by_cases hup : hasUp n p = true
    · rw [if_pos hup]
      have hc := hmono p (by omega) hup
      have e := hf p (by omega) hup
      have hu : (expP n M F U T p).under.headD 0 = U.getD (cntP n p) 0 := by
        simp only [expP]
        rw [List.drop_eq_getElem_cons (by omega)]
        simp [List.getD_eq_getElem?_getD, List.getElem?_eq_getElem (show cntP n p < U.length by omega)]
      have hut : (expP n M F U T p).under.tail = U.drop (cntP n p + 1) ++ insP n M p := by
        simp only [expP]
        rw [List.drop_eq_getElem_cons (by omega)]
        rfl
      have hF1 : F.take (cntP n p + 1) = F.take (cntP n p) ++ [F.getD (cntP n p) 0] := by
        rw [List.take_add_one, List.getElem?_eq_getElem hc, List.getD_eq_getElem?_getD, List.getElem?_eq_getElem hc]
        rfl
      rw [hu, hut]
      have en : (expP n M F U T p).near = M.take p := rfl
      have et : (expP n M F U T p).told = T ++ F.take (cntP n p) := rfl
      rw [en, et, e]
      simp only [expP, cntP, insP, hup, hM, hF1, true_and, List.append_assoc, if_true]
    · rw [if_neg hup]
      simp only [expP, cntP, insP, hup, hM, if_false, Bool.false_eq_true, false_and, Nat.add_zero, List.append_nil]

section
variable (x : Nat → Int) (w : Int) (a s : Nat)
noncomputable def Mv (r c : Nat) : Int := x r ^ (a + s * c)
noncomputable def Dv (i j : Nat) : Int := x j ^ s + w * x i ^ s
noncomputable def P2v (r c : Nat) : Int := Mv x a s r c * Mv x a s (r + 1) c * Dv x w s r (r + 1)
noncomputable def P3v (r c : Nat) : Int := Mv x a s r c * Mv x a s (r + 1) c * Mv x a s (r + 2) c * (Dv x w s r (r + 1) * Dv x w s r (r + 2) * Dv x w s (r + 1) (r + 2))
noncomputable def P4v (c : Nat) : Int := Mv x a s 0 c * Mv x a s 1 c * Mv x a s 2 c * Mv x a s 3 c * (Dv x w s 0 1 * Dv x w s 0 2 * Dv x w s 1 2 * Dv x w s 0 3 * Dv x w s 1 3 * Dv x w s 2 3)
variable {x w a s}
theorem Mv_succ (r c : Nat) : Mv x a s r (c + 1) = Mv x a s r c * x r ^ s := by
  unfold Mv
  rw [← Int.pow_add, Nat.mul_add, Nat.mul_one, Nat.add_assoc]
theorem h2v (r c : Nat) : Mv x a s r c * Mv x a s (r + 1) (c + 1) + w * (Mv x a s r (c + 1) * Mv x a s (r + 1) c) = P2v x w a s r c := by
  unfold P2v Dv
  simp only [Mv_succ]
  generalize Mv x a s r c = A
  generalize Mv x a s (r + 1) c = B
  generalize x r ^ s = u
  generalize x (r + 1) ^ s = v
  grind
theorem h3v (r c : Nat) : P2v x w a s r c * P2v x w a s (r + 1) (c + 1) + w * (P2v x w a s r (c + 1) * P2v x w a s (r + 1) c) = P3v x w a s r c * Mv x a s (r + 1) (c + 1) := by
  unfold P3v P2v Dv
  simp only [Mv_succ]
  rw [show r + 1 + 1 = r + 2 from rfl]
  generalize Mv x a s r c = A
  generalize Mv x a s (r + 1) c = B
  generalize Mv x a s (r + 2) c = C
  generalize x r ^ s = u
  generalize x (r + 1) ^ s = v
  generalize x (r + 2) ^ s = t
  grind
theorem h4v (c : Nat) : P3v x w a s 0 c * P3v x w a s 1 (c + 1) + w * (P3v x w a s 0 (c + 1) * P3v x w a s 1 c) = P4v x w a s c * P2v x w a s 1 (c + 1) := by
  unfold P4v P3v P2v Dv
  simp only [Mv_succ, Nat.reduceAdd]
  generalize Mv x a s 0 c = A
  generalize Mv x a s 1 c = B
  generalize Mv x a s 2 c = C
  generalize Mv x a s 3 c = D
  generalize x 0 ^ s = u
  generalize x 1 ^ s = v
  generalize x 2 ^ s = t
  generalize x 3 ^ s = z
  grind
end

theorem insP_len (n : Nat) (M : List Int) : ∀ p, (insP n M p).length ≤ p
  | 0 => Nat.le_refl _
  | p + 1 => by
    have := insP_len n M p
    simp only [insP, List.length_append]
    split <;> simp <;> omega
theorem insP_mem {n : Nat} {M : List Int} : ∀ p, p ≤ M.length → ∀ x ∈ insP n M p, x ∈ M
  | 0, _ => fun x hx => by cases hx
  | p + 1, hp => fun x hx => by
    simp only [insP] at hx
    rcases List.mem_append.mp hx with hx | hx
    · exact insP_mem p (by omega) x hx
    · split at hx
      · rw [List.mem_singleton.mp hx, List.getD_eq_getElem?_getD, List.getElem?_eq_getElem (by omega)]
        exact List.getElem_mem _
      · cases hx
theorem okP_exp {n p : Nat} {M F U T : List Int} (hp : p < M.length) (h1 : M.length ≤ 16) (h2 : F.length ≤ 16) (hU : U.length = F.length) (h3 : T.length ≤ 16)
    (hmono : hasUp n p = true → cntP n p < F.length) (hM : ∀ x ∈ M, Small x) (hUs : ∀ x ∈ U, x ≠ 0 ∧ Small x) : OkP n p (expP n M F U T p) := by
  have hl : M.getD p 0 ∈ M := by
    rw [List.getD_eq_getElem?_getD, List.getElem?_eq_getElem hp]
    exact List.getElem_mem _
  have hd : (expP n M F U T p).line = M.getD p 0 :: (M.drop (p + 1) ++ F.take (cntP n p)) := by
    simp only [expP]
    rw [List.drop_eq_getElem_cons hp, List.getD_eq_getElem?_getD, List.getElem?_eq_getElem hp]
    rfl
  have hi := insP_len n M p
  refine ⟨?_, ?_, ?_, ?_, ?_, fun hup => ?_⟩
  · simp [expP]; omega
  · rw [hd]; simp
  · simp [expP]; omega
  · simp [expP]; omega
  · simp [expP]; omega
  · have hc := hmono hup
    have hu : (expP n M F U T p).under = U.getD (cntP n p) 0 :: (U.drop (cntP n p + 1) ++ insP n M p) := by
      simp only [expP]
      have hcu : cntP n p < U.length := by omega
      rw [List.drop_eq_getElem_cons hcu, List.getD_eq_getElem?_getD, List.getElem?_eq_getElem hcu]
      rfl
    have hm : U.getD (cntP n p) 0 ∈ U := by
      rw [List.getD_eq_getElem?_getD, List.getElem?_eq_getElem (by omega)]
      exact List.getElem_mem _
    rw [hu, hd]
    refine ⟨by simp, (hUs _ hm).1, (hUs _ hm).2, hM _ hl, fun x hx => hM x (List.mem_of_mem_take hx)⟩

section
theorem sm_mul {x y : Int} {a b : Nat} (h : x.natAbs ≤ 2 ^ a) (h' : y.natAbs ≤ 2 ^ b) : (x * y).natAbs ≤ 2 ^ (a + b) := by
  rw [Int.natAbs_mul, Nat.pow_add]
  exact Nat.mul_le_mul h h'
theorem sm_pow {x : Int} {a : Nat} (h : x.natAbs ≤ 2 ^ a) (n : Nat) : (x ^ n).natAbs ≤ 2 ^ (a * n) := by
  rw [Int.natAbs_pow, Nat.pow_mul]
  exact Nat.pow_le_pow_left h n
theorem sm_of {x : Int} {a : Nat} (h : x.natAbs ≤ 2 ^ a) (ha : a < 300) : Small x := by
  show _ < _
  exact Nat.lt_of_le_of_lt h (Nat.pow_lt_pow_right (by decide) ha)
/-- the four numbers as the law draws them -/
structure Draw (x : Nat → Int) (w : Int) (a s : Nat) : Prop where
  lo : ∀ i, i < 4 → 1 ≤ x i
  hi : ∀ i, i < 4 → x i ≤ 32
  ne : ∀ i j, i < 4 → j < 4 → i ≠ j → x i ≠ x j
  w1 : -1 ≤ w
  w2 : w ≤ 4
  a2 : a ≤ 2
  s1 : 1 ≤ s
  s2 : s ≤ 2
variable {x : Nat → Int} {w : Int} {a s : Nat}
theorem Draw.mv (D : Draw x w a s) {r c : Nat} (hr : r < 4) (hc : c < 4) : (Mv x a s r c).natAbs ≤ 2 ^ 40 := by
  have h1 := D.lo r hr
  have h2 := D.hi r hr
  have h3 := D.a2
  have h4 := D.s2
  unfold Mv
  refine Nat.le_trans (sm_pow (a := 5) (by omega) _) (Nat.pow_le_pow_right (by decide) ?_)
  have : s * c ≤ 2 * 3 := Nat.mul_le_mul h4 (by omega)
  omega
theorem Draw.mv0 (D : Draw x w a s) {r : Nat} (c : Nat) (hr : r < 4) : Mv x a s r c ≠ 0 := by
  have h1 := D.lo r hr
  unfold Mv
  exact Int.ne_of_gt (Int.pow_pos (by omega))
theorem Draw.dv (D : Draw x w a s) {i j : Nat} (hi : i < 4) (hj : j < 4) : (Dv x w s i j).natAbs ≤ 2 ^ 13 := by
  have h1 := D.lo i hi
  have h2 := D.hi i hi
  have h3 := D.lo j hj
  have h4 := D.hi j hj
  have h5 := D.w1
  have h6 := D.w2
  have h7 := D.s2
  have e1 : (x i ^ s).natAbs ≤ 2 ^ 10 := Nat.le_trans (sm_pow (a := 5) (by omega) _) (Nat.pow_le_pow_right (by decide) (by omega))
  have e2 : (x j ^ s).natAbs ≤ 2 ^ 10 := Nat.le_trans (sm_pow (a := 5) (by omega) _) (Nat.pow_le_pow_right (by decide) (by omega))
  have e3 := sm_mul (x := w) (a := 2) (by omega) e1
  unfold Dv
  have := Int.natAbs_add_le (x j ^ s) (w * x i ^ s)
  omega
theorem Draw.dv0 (D : Draw x w a s) {i j : Nat} (hi : i < 4) (hj : j < 4) (hij : i ≠ j) : Dv x w s i j ≠ 0 := by
  have h1 := D.lo i hi
  have h3 := D.lo j hj
  have h5 := D.w1
  have h6 := D.w2
  have hne := D.ne i j hi hj hij
  have hs : s = 1 ∨ s = 2 := by have := D.s1; have := D.s2; omega
  have p1 : 0 < x i ^ s := Int.pow_pos (by omega)
  have p2 : 0 < x j ^ s := Int.pow_pos (by omega)
  have hpe : x i ^ s ≠ x j ^ s := by
    rcases hs with rfl | rfl
    · simpa only [Int.pow_succ, Int.pow_zero, Int.one_mul] using hne
    · intro q
      rw [Int.pow_succ, Int.pow_succ, Int.pow_succ, Int.pow_succ] at q
      simp only [Int.pow_zero, Int.one_mul] at q
      have : (x i - x j) * (x i + x j) = 0 := by grind
      rcases Int.mul_eq_zero.mp this with h | h <;> omega
  unfold Dv
  by_cases hw : w = -1
  · subst hw; omega
  · have : 0 ≤ w * x i ^ s := Int.mul_nonneg (by omega) (by omega)
    omega
theorem Draw.p2 (D : Draw x w a s) {r c : Nat} (hr : r < 3) (hc : c < 4) : (P2v x w a s r c).natAbs ≤ 2 ^ 93 := by
  have := sm_mul (sm_mul (D.mv (r := r) (c := c) (by omega) (by omega)) (D.mv (r := r + 1) (c := c) (by omega) (by omega))) (D.dv (i := r) (j := r + 1) (by omega) (by omega))
  exact this
theorem Draw.p20 (D : Draw x w a s) {r : Nat} (c : Nat) (hr : r < 3) : P2v x w a s r c ≠ 0 := by
  unfold P2v
  exact Int.mul_ne_zero (Int.mul_ne_zero (D.mv0 c (by omega)) (D.mv0 c (by omega))) (D.dv0 (by omega) (by omega) (by omega))
theorem Draw.p3 (D : Draw x w a s) {r c : Nat} (hr : r < 2) (hc : c < 4) : (P3v x w a s r c).natAbs ≤ 2 ^ 159 := by
  have := sm_mul (sm_mul (sm_mul (D.mv (r := r) (c := c) (by omega) (by omega)) (D.mv (r := r + 1) (c := c) (by omega) (by omega))) (D.mv (r := r + 2) (c := c) (by omega) (by omega)))
    (sm_mul (sm_mul (D.dv (i := r) (j := r + 1) (by omega) (by omega)) (D.dv (i := r) (j := r + 2) (by omega) (by omega))) (D.dv (i := r + 1) (j := r + 2) (by omega) (by omega)))
  exact this
/-- the tables -/
noncomputable def M4 (x : Nat → Int) (a s : Nat) : List Int := [Mv x a s 0 0, Mv x a s 0 1, Mv x a s 0 2, Mv x a s 0 3, Mv x a s 1 0, Mv x a s 1 1, Mv x a s 1 2, Mv x a s 1 3, Mv x a s 2 0, Mv x a s 2 1, Mv x a s 2 2, Mv x a s 2 3, Mv x a s 3 0, Mv x a s 3 1, Mv x a s 3 2, Mv x a s 3 3]
noncomputable def F4 (x : Nat → Int) (w : Int) (a s : Nat) : List Int := [P2v x w a s 0 0, P2v x w a s 0 1, P2v x w a s 0 2, P2v x w a s 1 0, P2v x w a s 1 1, P2v x w a s 1 2, P2v x w a s 2 0, P2v x w a s 2 1, P2v x w a s 2 2]
noncomputable def F3 (x : Nat → Int) (w : Int) (a s : Nat) : List Int := [P3v x w a s 0 0, P3v x w a s 0 1, P3v x w a s 1 0, P3v x w a s 1 1]
noncomputable def U3 (x : Nat → Int) (a s : Nat) : List Int := [Mv x a s 1 1, Mv x a s 1 2, Mv x a s 2 1, Mv x a s 2 2]
theorem Draw.q2 (r c : Nat) : Int.fdiv (Mv x a s r c * Mv x a s (r + 1) (c + 1) + w * (Mv x a s r (c + 1) * Mv x a s (r + 1) c)) 1 = P2v x w a s r c := by
  rw [h2v, Int.fdiv_one]
theorem Draw.q3 (D : Draw x w a s) (r c : Nat) (hr : r < 3) : Int.fdiv (P2v x w a s r c * P2v x w a s (r + 1) (c + 1) + w * (P2v x w a s r (c + 1) * P2v x w a s (r + 1) c)) (Mv x a s (r + 1) (c + 1)) = P3v x w a s r c := by
  rw [h3v]
  exact Int.mul_fdiv_cancel _ (D.mv0 _ (by omega))
theorem Draw.q4 (D : Draw x w a s) (c : Nat) : Int.fdiv (P3v x w a s 0 c * P3v x w a s 1 (c + 1) + w * (P3v x w a s 0 (c + 1) * P3v x w a s 1 c)) (P2v x w a s 1 (c + 1)) = P4v x w a s c := by
  rw [h4v]
  exact Int.mul_fdiv_cancel _ (D.p20 _ (by omega))
theorem mono4 {p : Nat} (hp : p < 16) (h : hasUp 4 p = true) : cntP 4 p < 9 := by
  rcases p with _|_|_|_|_|_|_|_|_|_|_|_|_|_|_|_|p <;> first | omega | (revert h; decide)
theorem mono3 {p : Nat} (hp : p < 9) (h : hasUp 3 p = true) : cntP 3 p < 4 := by
  rcases p with _|_|_|_|_|_|_|_|_|p <;> first | omega | (revert h; decide)
theorem mono2 {p : Nat} (hp : p < 4) (h : hasUp 2 p = true) : cntP 2 p < 1 := by
  rcases p with _|_|_|_|p <;> first | omega | (revert h; decide)
theorem Draw.run4 (_D : Draw x w a s) {p : Nat} (hp : p ≤ 16) : runP 4 w ⟨[], M4 x a s, List.replicate 9 1, []⟩ p = expP 4 (M4 x a s) (F4 x w a s) (List.replicate 9 1) [] p := by
  refine runP_exp (M := M4 x a s) (F := F4 x w a s) (U := List.replicate 9 1) [] rfl (fun p hp h => mono4 hp h) (fun p hp h => ?_) p hp
  rcases p with _|_|_|_|_|_|_|_|_|_|_|_|_|_|_|_|p
  · exact absurd h Bool.false_ne_true
  · exact absurd h Bool.false_ne_true
  · exact absurd h Bool.false_ne_true
  · exact absurd h Bool.false_ne_true
  · exact absurd h Bool.false_ne_true
  · exact Draw.q2 0 0
  · exact Draw.q2 0 1
  · exact Draw.q2 0 2
  · exact absurd h Bool.false_ne_true
  · exact Draw.q2 1 0
  · exact Draw.q2 1 1
  · exact Draw.q2 1 2
  · exact absurd h Bool.false_ne_true
  · exact Draw.q2 2 0
  · exact Draw.q2 2 1
  · exact Draw.q2 2 2
  · exact absurd hp (by simp [M4])
theorem Draw.run3 (D : Draw x w a s) {N : List Int} {p : Nat} (hp : p ≤ 9) : runP 3 w ⟨N, F4 x w a s, U3 x a s, F4 x w a s⟩ p = expP 3 (F4 x w a s) (F3 x w a s) (U3 x a s) (F4 x w a s) p := by
  refine runP_exp (M := F4 x w a s) (F := F3 x w a s) (U := U3 x a s) N rfl (fun p hp h => mono3 hp h) (fun p hp h => ?_) p hp
  rcases p with _|_|_|_|_|_|_|_|_|p
  · exact absurd h Bool.false_ne_true
  · exact absurd h Bool.false_ne_true
  · exact absurd h Bool.false_ne_true
  · exact absurd h Bool.false_ne_true
  · exact D.q3 0 0 (by decide)
  · exact D.q3 0 1 (by decide)
  · exact absurd h Bool.false_ne_true
  · exact D.q3 1 0 (by decide)
  · exact D.q3 1 1 (by decide)
  · exact absurd hp (by simp [F4])
theorem Draw.run2 (D : Draw x w a s) {N : List Int} {p : Nat} (hp : p ≤ 4) : runP 2 w ⟨N, F3 x w a s, [P2v x w a s 1 1], F4 x w a s ++ F3 x w a s⟩ p = expP 2 (F3 x w a s) [P4v x w a s 0] [P2v x w a s 1 1] (F4 x w a s ++ F3 x w a s) p := by
  refine runP_exp (M := F3 x w a s) (F := [P4v x w a s 0]) (U := [P2v x w a s 1 1]) N rfl (fun p hp h => mono2 hp h) (fun p hp h => ?_) p hp
  rcases p with _|_|_|_|p
  · exact absurd h Bool.false_ne_true
  · exact absurd h Bool.false_ne_true
  · exact absurd h Bool.false_ne_true
  · exact D.q4 0
  · exact absurd hp (by simp [F3])
/-- the three levels -/
theorem Draw.lev1 (D : Draw x w a s) : levP w ⟨[], M4 x a s, List.replicate 9 1, []⟩ 1 = ⟨M4 x a s, F4 x w a s, U3 x a s, F4 x w a s⟩ := by
  show runP 4 w _ 16 = _
  rw [show levP w ⟨[], M4 x a s, List.replicate 9 1, []⟩ 0 = ⟨[], M4 x a s, List.replicate 9 1, []⟩ from rfl, D.run4 (by decide)]
  rfl
theorem Draw.lev2 (D : Draw x w a s) : levP w ⟨[], M4 x a s, List.replicate 9 1, []⟩ 2 = ⟨F4 x w a s, F3 x w a s, [P2v x w a s 1 1], F4 x w a s ++ F3 x w a s⟩ := by
  show runP 3 w (levP w _ 1) 9 = _
  rw [D.lev1, D.run3 (by decide)]
  rfl
theorem Draw.lev3 (D : Draw x w a s) : levP w ⟨[], M4 x a s, List.replicate 9 1, []⟩ 3 = ⟨F3 x w a s, [P4v x w a s 0], [], F4 x w a s ++ F3 x w a s ++ [P4v x w a s 0]⟩ := by
  show runP 2 w (levP w _ 2) 4 = _
  rw [D.lev2, D.run2 (by decide)]
  rfl
theorem forall_mem_of {P : Int → Prop} {l : List Int} (h : ∀ i, i < l.length → P (l.getD i 0)) : ∀ y ∈ l, P y := by
  intro y hy
  obtain ⟨i, hi, rfl⟩ := List.mem_iff_getElem.mp hy
  have := h i hi
  rwa [List.getD_eq_getElem?_getD, List.getElem?_eq_getElem hi] at this
theorem Draw.sM (D : Draw x w a s) : ∀ y ∈ M4 x a s, Small y := by
  simp only [M4, List.forall_mem_cons]
  refine ⟨?_, ?_, ?_, ?_, ?_, ?_, ?_, ?_, ?_, ?_, ?_, ?_, ?_, ?_, ?_, ?_, fun y hy => by cases hy⟩ <;> exact sm_of (D.mv (by decide) (by decide)) (by decide)
theorem Draw.sF4 (D : Draw x w a s) : ∀ y ∈ F4 x w a s, Small y := by
  simp only [F4, List.forall_mem_cons]
  refine ⟨?_, ?_, ?_, ?_, ?_, ?_, ?_, ?_, ?_, fun y hy => by cases hy⟩ <;> exact sm_of (D.p2 (by decide) (by decide)) (by decide)
theorem Draw.sF3 (D : Draw x w a s) : ∀ y ∈ F3 x w a s, Small y := by
  simp only [F3, List.forall_mem_cons]
  refine ⟨?_, ?_, ?_, ?_, fun y hy => by cases hy⟩ <;> exact sm_of (D.p3 (by decide) (by decide)) (by decide)
theorem Draw.sU3 (D : Draw x w a s) : ∀ y ∈ U3 x a s, y ≠ 0 ∧ Small y := by
  simp only [U3, List.forall_mem_cons]
  refine ⟨?_, ?_, ?_, ?_, fun y hy => by cases hy⟩ <;> exact ⟨D.mv0 _ (by decide), sm_of (D.mv (by decide) (by decide)) (by decide)⟩
theorem Draw.ok (D : Draw x w a s) : ∀ i, i < 3 → ∀ p, p < (4 - i) * (4 - i) → OkP (4 - i) p (runP (4 - i) w (levP w ⟨[], M4 x a s, List.replicate 9 1, []⟩ i) p) := by
  intro i hi p hp
  rcases i with _ | _ | _ | i
  · show OkP 4 p (runP 4 w ⟨[], M4 x a s, List.replicate 9 1, []⟩ p)
    have hp : p < 16 := hp
    rw [D.run4 (by omega)]
    refine okP_exp hp (Nat.le_of_ble_eq_true rfl) (Nat.le_of_ble_eq_true rfl) rfl (Nat.le_of_ble_eq_true rfl) (fun h => mono4 hp h) D.sM ?_
    intro y hy
    rw [(List.mem_replicate.mp hy).2]
    exact ⟨by decide, sm_of (a := 0) (by decide) (by decide)⟩
  · have hp : p < 9 := hp
    show OkP 3 p (runP 3 w (levP w ⟨[], M4 x a s, List.replicate 9 1, []⟩ 1) p)
    rw [D.lev1, D.run3 (by omega)]
    exact okP_exp hp (Nat.le_of_ble_eq_true rfl) (Nat.le_of_ble_eq_true rfl) rfl (Nat.le_of_ble_eq_true rfl) (fun h => mono3 hp h) D.sF4 D.sU3
  · have hp : p < 4 := hp
    show OkP 2 p (runP 2 w (levP w ⟨[], M4 x a s, List.replicate 9 1, []⟩ 2) p)
    rw [D.lev2, D.run2 (by omega)]
    refine okP_exp hp (Nat.le_of_ble_eq_true rfl) (Nat.le_of_ble_eq_true rfl) rfl (Nat.le_of_ble_eq_true rfl) (fun h => mono2 hp h) D.sF3 ?_
    intro y hy
    rw [List.mem_singleton.mp hy]
    exact ⟨D.p20 _ (by decide), sm_of (D.p2 (by decide) (by decide)) (by decide)⟩
  · omega
end
section
/-- the products, as the law's own loops make them -/
noncomputable def earP (f : Nat → Int) (w : Int) (s l : Nat) (N : Int) : Nat → Int
  | 0 => N
  | k + 1 => earP f w s l N k * (f l ^ s + w * f k ^ s)
noncomputable def latP (f : Nat → Int) (w : Int) (a s c : Nat) : Nat → Int
  | 0 => 1
  | l + 1 => earP f w s l (latP f w a s c l * f l ^ (a + s * c)) l
noncomputable def colP (x : Nat → Int) (w : Int) (a s n h m : Nat) : List Int := (List.range m).map fun c => latP (fun i => x (h + i)) w a s c n
noncomputable def headP (x : Nat → Int) (w : Int) (a s n m : Nat) : List Int := (List.range m).flatMap fun h => colP x w a s n h (5 - n)
noncomputable def sizeP (x : Nat → Int) (w : Int) (a s : Nat) (i : Nat) : List Int := (List.range i).flatMap fun j => headP x w a s (j + 2) (5 - (j + 2))
theorem colP_succ (x : Nat → Int) (w : Int) (a s n h m : Nat) : colP x w a s n h (m + 1) = colP x w a s n h m ++ [latP (fun i => x (h + i)) w a s m n] := by simp [colP, List.range_succ]
theorem headP_succ (x : Nat → Int) (w : Int) (a s n m : Nat) : headP x w a s n (m + 1) = headP x w a s n m ++ colP x w a s n m (5 - n) := by simp [headP, List.range_succ]
theorem sizeP_succ (x : Nat → Int) (w : Int) (a s i : Nat) : sizeP x w a s (i + 1) = sizeP x w a s i ++ headP x w a s (i + 2) (5 - (i + 2)) := by simp [sizeP, List.range_succ]
variable {x : Nat → Int} {w : Int} {a s : Nat}
theorem lat2 (r c : Nat) : latP (fun i => x (r + i)) w a s c 2 = P2v x w a s r c := by
  simp only [latP, earP, P2v, Mv, Dv, Nat.add_zero]
  grind
theorem lat3 (r c : Nat) : latP (fun i => x (r + i)) w a s c 3 = P3v x w a s r c := by
  simp only [latP, earP, P3v, Mv, Dv, Nat.add_zero]
  generalize x r ^ (a + s * c) = A
  generalize x (r + 1) ^ (a + s * c) = B
  generalize x (r + 2) ^ (a + s * c) = C
  generalize x r ^ s = u
  generalize x (r + 1) ^ s = v
  generalize x (r + 2) ^ s = t
  grind
theorem lat4 (c : Nat) : latP (fun i => x (0 + i)) w a s c 4 = P4v x w a s c := by
  simp only [latP, earP, P4v, Mv, Dv, Nat.add_zero, Nat.zero_add]
  generalize x 0 ^ (a + s * c) = A
  generalize x 1 ^ (a + s * c) = B
  generalize x 2 ^ (a + s * c) = C
  generalize x 3 ^ (a + s * c) = D
  generalize x 0 ^ s = u
  generalize x 1 ^ s = v
  generalize x 2 ^ s = t
  generalize x 3 ^ s = z
  have e1 : (1 : Int) * A * B * (v + w * u) * C * (t + w * u) * (t + w * v) * D * (z + w * u) * (z + w * v) * (z + w * t) = A * B * C * D * ((v + w * u) * (t + w * u) * (t + w * v) * (z + w * u) * (z + w * v) * (z + w * t)) := by
    generalize v + w * u = d1
    generalize t + w * u = d2
    generalize t + w * v = d3
    generalize z + w * u = d4
    generalize z + w * v = d5
    generalize z + w * t = d6
    rw [Int.one_mul]
    simp only [Int.mul_assoc, Int.mul_left_comm, Int.mul_comm]
  exact e1
theorem sizeP_eq : sizeP x w a s 3 = F4 x w a s ++ F3 x w a s ++ [P4v x w a s 0] := by
  have e : sizeP x w a s 3 = [latP (fun i => x (0 + i)) w a s 0 2, latP (fun i => x (0 + i)) w a s 1 2, latP (fun i => x (0 + i)) w a s 2 2, latP (fun i => x (1 + i)) w a s 0 2, latP (fun i => x (1 + i)) w a s 1 2, latP (fun i => x (1 + i)) w a s 2 2,
      latP (fun i => x (2 + i)) w a s 0 2, latP (fun i => x (2 + i)) w a s 1 2, latP (fun i => x (2 + i)) w a s 2 2, latP (fun i => x (0 + i)) w a s 0 3, latP (fun i => x (0 + i)) w a s 1 3, latP (fun i => x (1 + i)) w a s 0 3, latP (fun i => x (1 + i)) w a s 1 3, latP (fun i => x (0 + i)) w a s 0 4] := rfl
  rw [e]
  simp only [lat2, lat3, lat4]
  rfl
end
section
variable {x : Nat → Int} {w : Int} {a s : Nat}
theorem colP_len (n h m : Nat) : (colP x w a s n h m).length = m := by simp [colP]
theorem headP_len {n : Nat} (hn : 5 - n ≤ 3) : ∀ m, (headP x w a s n m).length ≤ 3 * m
  | 0 => Nat.le_refl _
  | m + 1 => by
    rw [headP_succ, List.length_append, colP_len]
    have := headP_len hn m
    omega
theorem sizeP_len : ∀ i, (sizeP x w a s i).length ≤ 9 * i
  | 0 => Nat.le_refl _
  | i + 1 => by
    rw [sizeP_succ, List.length_append]
    have h1 := sizeP_len i
    have h2 := headP_len (x := x) (w := w) (a := a) (s := s) (n := i + 2) (by omega) (5 - (i + 2))
    omega
noncomputable def Ebd : Nat → Nat
  | 0 => 0
  | l + 1 => Ebd l + 40 + 13 * l
theorem Draw.ear (D : Draw x w a s) {h l : Nat} {N : Int} {b : Nat} (hl : h + l < 4) (hN : N.natAbs ≤ 2 ^ b) : ∀ k, k ≤ l → (earP (fun i => x (h + i)) w s l N k).natAbs ≤ 2 ^ (b + 13 * k)
  | 0, _ => hN
  | k + 1, hk => by
    have := sm_mul (D.ear hl hN k (by omega)) (D.dv (i := h + k) (j := h + l) (by omega) hl)
    exact this
theorem Draw.lat (D : Draw x w a s) {h c : Nat} (hc : c < 4) : ∀ l, h + l ≤ 4 → (latP (fun i => x (h + i)) w a s c l).natAbs ≤ 2 ^ (Ebd l)
  | 0, _ => by show (1 : Int).natAbs ≤ 2 ^ 0; decide
  | l + 1, hl => D.ear (by omega) (sm_mul (D.lat hc l (by omega)) (D.mv (r := h + l) (c := c) (by omega) hc)) l (Nat.le_refl _)
theorem ebd_lt {l k : Nat} (hl : l < 4) (hk : k ≤ l) : Ebd l + 40 + 13 * k < 300 := by
  have : l = 0 ∨ l = 1 ∨ l = 2 ∨ l = 3 := by omega
  rcases this with rfl | rfl | rfl | rfl <;> simp only [Ebd] <;> omega
end
section
/-- the names that the whole of _law_melted keeps -/
structure MNames (m : Str → Option Value) (x y : Addr) (rv wv sv pv : Value) : Prop where
  line : m ("line" : Str) = some (.ref x)
  under : m ("under" : Str) = some (.ref y)
  row : m ("row" : Str) = some rv
  weight : m ("weight" : Str) = some wv
  start : m ("start" : Str) = some sv
  step : m ("step" : Str) = some pv
theorem fr_names {h₀ h : Heap} {L : Addr} {m : Str → Option Value} {x y : Addr} {rv wv sv pv : Value} (F : Fr h₀ L h m) (K : MNames m x y rv wv sv pv) :
    Fr h₀ L h (stM ("line" : Str) (.ref x) (stM ("under" : Str) (.ref y) (stM ("row" : Str) rv (stM ("weight" : Str) wv (stM ("start" : Str) sv (stM ("step" : Str) pv m)))))) :=
  fr_set (fr_set (fr_set (fr_set (fr_set (fr_set F K.step) K.start) K.weight) K.row) K.under) K.line
/-- what all of it leans on: the two lexers -/
structure Lines (G : Obj → Obj → List (Addr × Obj)) (x dx p1 y dy p2 : Addr) : Prop where
  u1 : ∀ o1 o2, UpdF p1 o1 (G o1 o2) (fun o' => G o' o2)
  u2 : ∀ o1 o2, UpdF p2 o2 (G o1 o2) (fun o' => G o1 o')
  x1 : ∃ sl, ∀ o1 o2, (x, (⟨.ref 52, some dx, .plain, sl⟩ : Obj)) ∈ G o1 o2
  x2 : ∃ h1 h2 h3 h4 t1 t2 t3 t4 vl vi vw n, ∀ o1 o2, (dx, dictOf (lexEs h1 h2 h3 h4 t1 t2 t3 t4 vl vi vw (.ref p1)) n) ∈ G o1 o2
  y1 : ∃ sl, ∀ o1 o2, (y, (⟨.ref 52, some dy, .plain, sl⟩ : Obj)) ∈ G o1 o2
  y2 : ∃ h1 h2 h3 h4 t1 t2 t3 t4 vl vi vw n, ∀ o1 o2, (dy, dictOf (lexEs h1 h2 h3 h4 t1 t2 t3 t4 vl vi vw (.ref p2)) n) ∈ G o1 o2
theorem Lines.addr {G : Obj → Obj → List (Addr × Obj)} {x dx p1 y dy p2 : Addr} (J : Lines G x dx p1 y dy p2) {o1 o2 : Obj} {a : Addr} (l : ∀ p ∈ G o1 o2, p.1 < a) (o1' o2' : Obj) : ∀ p ∈ G o1' o2', p.1 < a := by
  have l1 : ∀ p ∈ G o1' o2, p.1 < a := fun p hp => by
    rcases UpdF.mem_new (J.u1 o1 o2) p hp with rfl | ⟨hp, _⟩
    · exact (l (p1, o1) (updF_mem (J.u1 o1 o2)) : p1 < a)
    · exact l p hp
  intro p hp
  rcases UpdF.mem_new (J.u2 o1' o2) p hp with rfl | ⟨hp, _⟩
  · exact (l1 (p2, o2) (updF_mem (J.u2 o1' o2)) : p2 < a)
  · exact l1 p hp
/-- the powers, row by row -/
noncomputable def pw (b : Array UInt8) (st sp : Int) (r c : Nat) : Int := (((b[r]?).getD 0).toNat : Int) ^ (st + sp * (c : Int)).toNat
noncomputable def pwRow (b : Array UInt8) (st sp : Int) (r n : Nat) : List Int := (List.range n).map fun c => pw b st sp r c
theorem pwRow_succ (b : Array UInt8) (st sp : Int) (r n : Nat) : pwRow b st sp r (n + 1) = pwRow b st sp r n ++ [pw b st sp r n] := by simp [pwRow, List.range_succ]
noncomputable def pwAll (b : Array UInt8) (st sp : Int) (n : Nat) : List Int := (List.range n).flatMap fun r => pwRow b st sp r 4
theorem mem_all {P : Obj → Obj → List (Addr × Obj)} {p : Addr × Obj} (h : ∀ o1 o2, p ∈ P o1 o2) (o1 o2 : Obj) : p ∈ P o1 o2 := h o1 o2
theorem upd1_all {P : Obj → Obj → List (Addr × Obj)} {d : Addr} (h : ∀ o1 o2, UpdF d o1 (P o1 o2) (fun o' => P o' o2)) (o1 o2 : Obj) : UpdF d o1 (P o1 o2) (fun o' => P o' o2) := h o1 o2
theorem upd2_all {P : Obj → Obj → List (Addr × Obj)} {d : Addr} (h : ∀ o1 o2, UpdF d o2 (P o1 o2) (fun o' => P o1 o')) (o1 o2 : Obj) : UpdF d o2 (P o1 o2) (fun o' => P o1 o') := h o1 o2
theorem pwAll_succ (b : Array UInt8) (st sp : Int) (n : Nat) : pwAll b st sp (n + 1) = pwAll b st sp n ++ pwRow b st sp n 4 := by simp [pwAll, List.range_succ]
set_option maxHeartbeats 1000000 in
theorem push_list {w : World} {tp : Program} {lo : List Str} {mean : ExcName → Option Value} {mg mb : Str → Option Value}
    {dp un : Nat} {gd : Option (List Code)} {cn : Str} {cs : Scope} {a : Addr} {ccd : Value} {cl : List (Str × Addr)} {outer : List Env} {A₀ : Around} {base h₀ : Heap} {L : Addr} {m : Str → Option Value} {news : List (Addr × Obj)} {s : Shared}
    {x dx pb : Addr} {sl : Array (Option Value)} {h1 h2 h3 h4 : Int} {t1 t2 t3 t4 : Tok} {vl vi vw : Value} {n k : Nat} {vs : List Value} {v : Value} {g : Obj → List (Addr × Obj)}
    {Q E : Value → Shared → Prop}
    (H : Here w tp lo mean mg mb dp un outer cs A₀ base h₀ L m news s 4 40)
    (hx : (x, (⟨.ref 52, some dx, .plain, sl⟩ : Obj)) ∈ news) (hdx : (dx, dictOf (lexEs h1 h2 h3 h4 t1 t2 t3 t4 vl vi vw (.ref pb)) n) ∈ news)
    (hU : UpdF pb (listOf vs.toArray k) news g) (hz : vs.length ≤ 1000)
    (hret : ∀ h' tk', Fr h₀ L h' m → News h₀ L h' (g (listOf (vs ++ [v]).toArray (k + 1))) → Q .none { s with heap := h', toks := tk' }) :
    wpAny (model (RowW.prog (OpenRow.toRowW (OpenLaw.row PySem.Challenge.rw_wf0007_01))) w) (ktrTop dp un gd cn cs L a ccd cl outer) (call (.ref 49) [.ref x, v]) Q E s :=
  push_spec H hx hdx hU (by simpa using hz) (by simpa using hret)
/-- the four lists, as they lie in the ledger -/
structure QS where
  a : List Value
  b : List Value
  t : List Value
  n : List Value
  ka : Nat
  kb : Nat
  kt : Nat
  kn : Nat
structure Rel (q : QS) (s : PS) : Prop where
  a : IntsAre q.a s.line
  b : IntsAre q.b s.under
  t : IntsAre q.t s.told
  n : IntsAre q.n s.near
noncomputable abbrev Lg1 (G : Obj → Obj → List (Addr × Obj)) (D T : Addr) (oD : Obj) (q : QS) : List (Addr × Obj) := (D, oD) :: (T, listOf q.t.toArray q.kt) :: G (listOf q.a.toArray q.ka) (listOf q.b.toArray q.kb)
noncomputable abbrev Lg2 (G : Obj → Obj → List (Addr × Obj)) (D T : Addr) (oD : Obj) (NA it : Addr) (oi : Obj) (q : QS) : List (Addr × Obj) := (NA, listOf q.n.toArray q.kn) :: (it, oi) :: Lg1 G D T oD q
theorem Lg1.lt {G : Obj → Obj → List (Addr × Obj)} {x dx p1 y dy p2 D T a : Addr} {oD : Obj} (J : Lines G x dx p1 y dy p2) {q : QS} (l : ∀ p ∈ Lg1 G D T oD q, p.1 < a) (q' : QS) : ∀ p ∈ Lg1 G D T oD q', p.1 < a := by
  intro p hp
  rcases List.mem_cons.mp hp with rfl | hp
  · exact l (D, oD) (.head _)
  rcases List.mem_cons.mp hp with rfl | hp
  · exact (l (T, _) (.tail _ (.head _)) : T < a)
  · exact J.addr (fun p hp => l p (.tail _ (.tail _ hp))) _ _ p hp
theorem Lg2.lt {G : Obj → Obj → List (Addr × Obj)} {x dx p1 y dy p2 D T a NA it : Addr} {oD oi : Obj} (J : Lines G x dx p1 y dy p2) {q : QS} (l : ∀ p ∈ Lg2 G D T oD NA it oi q, p.1 < a) (q' : QS) : ∀ p ∈ Lg2 G D T oD NA it oi q', p.1 < a := by
  intro p hp
  rcases List.mem_cons.mp hp with rfl | hp
  · exact (l (NA, _) (.head _) : NA < a)
  rcases List.mem_cons.mp hp with rfl | hp
  · exact l (it, oi) (.tail _ (.head _))
  · exact Lg1.lt J (fun p hp => l p (.tail _ (.tail _ hp))) _ p hp
theorem allLt_mem {d : Nat} {l : List (Addr × Obj)} (h : AllLt d l) : ∀ p ∈ l, p.1 < d := by
  induction l with
  | nil => intro p hp; cases hp
  | cons x r ih =>
    intro p hp
    cases hp with
    | head => exact h.1
    | tail _ hp => exact ih h.2 p hp
/-- the lists of the two lexers lie below -/
structure Ap (G : Obj → Obj → List (Addr × Obj)) (p1 p2 T D : Addr) : Prop where
  a : @LT.lt Nat instLTNat p1 T
  b : @LT.lt Nat instLTNat p2 T
  c : @LT.lt Nat instLTNat T D
  g : ∀ o1 o2, ∀ p ∈ G o1 o2, p.1 < T
theorem ap_mk {G : Obj → Obj → List (Addr × Obj)} {x dx p1 y dy p2 T D : Addr} (J : Lines G x dx p1 y dy p2) {o1 o2 : Obj} (l : ∀ p ∈ G o1 o2, p.1 < T) (h : @LT.lt Nat instLTNat T D) : Ap G p1 p2 T D :=
  ⟨l (p1, _) (updF_mem (J.u1 _ _)), l (p2, _) (updF_mem (J.u2 _ _)), h, J.addr l⟩
theorem off_all {P : Obj → Obj → List (Addr × Obj)} {d : Addr} (h : ∀ o1 o2, ∀ p ∈ P o1 o2, p.1 < d) (o1 o2 : Obj) : ∀ p ∈ P o1 o2, p.1 ≠ d := fun p hp => Nat.ne_of_lt (h o1 o2 p hp)
theorem lt_all {P : Obj → Obj → List (Addr × Obj)} {d e : Addr} (h : ∀ o1 o2, ∀ p ∈ P o1 o2, p.1 < d) (l : @LT.lt Nat instLTNat d e) : ∀ o1 o2, ∀ p ∈ P o1 o2, p.1 < e := fun o1 o2 p hp => Nat.lt_trans (h o1 o2 p hp) l
section
variable {prog : Program} {w : World} {A : Around} {E : Value → Shared → Prop} {s : Shared} {env : Env} {body : List Stmt} {Q : Flow → Shared → Prop} {h₀ : Heap} {nm : Str} {it : Addr} {n fuel : Nat} {G : Obj → Obj → List (Addr × Obj)} {x dx p1 y dy p2 : Addr}
set_option maxHeartbeats 2000000 in
theorem forW_size {D T : Addr} {items : Array Value} {oD : Obj} (J : Lines G x dx p1 y dy p2) (hfu : n + 1 ≤ fuel) (hn : items.size = n) (hc : oD.cls = .type "tuple") (hd : ∃ k, oD.data = .seq items k)
    (hh : A.handled = none) (hnm : env.kindOf nm = some .local) (hp : (env.scope.kind == .class || (env.scope.kind == .module && env.locals != env.globals)) = false) (St : Addr → Nat → QS → (Str → Option Value) → Prop)
    (turn : ∀ (i : Nat) st m' h' tk' v oi, i < n → items[i]? = some v → St T i st m' → Fr h₀ env.locals h' (stM nm v m') → News h₀ env.locals h' ((it, oi) :: Lg1 G D T oD st) → (∀ p ∈ Lg1 G D T oD st, p.1 < it) → Ap G p1 p2 T D →
      wpAny (model prog w) A (execs body env) (TurnAt h₀ env.locals s (fun st => (it, oi) :: Lg1 G D T oD st) (St T (i + 1))) E { s with heap := h', toks := tk' })
    (fin : ∀ st m' h' tk', St T n st m' → Fr h₀ env.locals h' m' → News h₀ env.locals h' (Lg1 G D T oD st) → Q .next { s with heap := h', toks := tk' })
    {m' : Str → Option Value} {h' : Heap} {tk' : Nat} {oi : Obj} (hO : TupO oi D 0) (st : QS) (h0 : St T 0 st m') (F : Fr h₀ env.locals h' m') (N : News h₀ env.locals h' ((it, oi) :: Lg1 G D T oD st)) (l : ∀ p ∈ Lg1 G D T oD st, p.1 < it) (hap : Ap G p1 p2 T D) :
    ForW prog w A nm body env Q E (.ref it) fuel { s with heap := h', toks := tk' } :=
  forW_tuple (Lg := Lg1 G D T oD) hfu hn (fun _ => .head _) hc hd (l (D, oD) (.head _)) hh hnm hp (fun q p hp => Nat.ne_of_lt (Lg1.lt J l q p hp)) (St T)
    (fun i st m' h' tk' v oi a b c d e f => turn i st m' h' tk' v oi a b c d e (Lg1.lt J l st) hap) fin hO h0 F N
set_option maxHeartbeats 2000000 in
theorem forW_place {D T NA it3 : Addr} {oD oi3 : Obj} (J : Lines G x dx p1 y dy p2) (hfu : n + 1 ≤ fuel)
    (hh : A.handled = none) (hnm : env.kindOf nm = some .local) (hp : (env.scope.kind == .class || (env.scope.kind == .module && env.locals != env.globals)) = false) (St : Addr → Addr → Nat → QS → (Str → Option Value) → Prop)
    (turn : ∀ (i : Nat) st m' h' tk' v oi, i < n → (∃ t, v = .int (i : Int) t) → St T NA i st m' → Fr h₀ env.locals h' (stM nm v m') → News h₀ env.locals h' ((it, oi) :: Lg2 G D T oD NA it3 oi3 st) → (∀ p ∈ Lg2 G D T oD NA it3 oi3 st, p.1 < it) →
      wpAny (model prog w) A (execs body env) (TurnAt h₀ env.locals s (fun st => (it, oi) :: Lg2 G D T oD NA it3 oi3 st) (St T NA (i + 1))) E { s with heap := h', toks := tk' })
    (fin : ∀ st m' h' tk', St T NA n st m' → Fr h₀ env.locals h' m' → News h₀ env.locals h' (Lg2 G D T oD NA it3 oi3 st) → Q .next { s with heap := h', toks := tk' })
    {m' : Str → Option Value} {h' : Heap} {tk' : Nat} (st : QS) (h0 : St T NA 0 st m') (F : Fr h₀ env.locals h' m') (N : News h₀ env.locals h' ((it, ritObj ((0 : Nat) : Int) (n : Int) 1) :: Lg2 G D T oD NA it3 oi3 st)) (l : ∀ p ∈ Lg2 G D T oD NA it3 oi3 st, p.1 < it) :
    ForW prog w A nm body env Q E (.ref it) fuel { s with heap := h', toks := tk' } :=
  forW_range (Lg := Lg2 G D T oD NA it3 oi3) hfu hh hnm hp (fun q p hp => Nat.ne_of_lt (Lg2.lt J l q p hp)) (St T NA)
    (fun i st m' h' tk' v oi a b c d e f => turn i st m' h' tk' v oi a b c d e (Lg2.lt J l st)) fin h0 F N
end
end
noncomputable def Stop (P : Prop) : Prop := P
theorem stop_here {P : Prop} (h : Stop P) : P := h
/-- a mark: stop at the next If -/
noncomputable def StopIf : Prop := True
section
local macro_rules | `(tactic| k_mem) => `(tactic| first | (with_reducible exact mem_all (by assumption) _ _) | (with_reducible exact List.mem_cons_self) | (with_reducible refine' List.mem_cons_of_mem _ ?_; k_mem))
local macro_rules | `(tactic| k_updF) => `(tactic| first | exact upd1_all (by assumption) _ _ | exact upd2_all (by assumption) _ _ | (refine' UpdF.head ?a; (case a => k_all)) | (refine' UpdF.tail ?a ?b; (case a => k_ne); (case b => k_updF)))
local macro_rules | `(tactic| walk_at "е") => `(tactic| first | walk_at "arith" | (simp; done) | (simp; omega))
local macro_rules | `(tactic| walk_at "ж") => `(tactic| k_dflt (show wpAny _ _ (call (Value.ref 49) _) _ _ _))
local macro_rules | `(tactic| walk_at "call ref") => `(tactic| (walk_at "ж"; k_dat push_list "Hmmuе_" "___NS"))
local macro_rules | `(tactic| walk_at "з") => `(tactic| first | with_reducible assumption | exact IntMulOk.of_left (by with_reducible assumption) | exact small_mul (by first | with_reducible assumption | exact small_at (by with_reducible assumption) (by walk_at "arith")) (by first | with_reducible assumption | exact small_at (by with_reducible assumption) (by walk_at "arith")))
local macro_rules | `(tactic| walk_at "и") => `(tactic| first | with_reducible assumption | exact Small.pylong (by with_reducible assumption))
local macro_rules | `(tactic| walk_at "й") => `(tactic| with_reducible show wpAny _ _ (call (Value.ref _) [Value.int _ _, Value.int _ _]) _ _ _)
local macro_rules | `(tactic| walk_at "call ref") => `(tactic| (walk_at "й"; (first | (k_dat add_spec "H_" "_____S") | (k_dat mul_spec "зH_" "_____S") | (k_dat ipow_spec0 "aиAH_" "_____S") | (k_dat floordiv_spec0 "aиH_" "_____S"))))
local macro_rules | `(tactic| walk_at "к") => `(tactic| k_dflt (show wpAny _ _ (call (Value.ref 42) _) _ _ _))
local macro_rules | `(tactic| walk_at "call ref") => `(tactic| (walk_at "к"; k_dat pull_spec "Hmmuе_" "___NS"))
local macro_rules | `(tactic| walk_at "getItem ref int") => `(tactic| k_dat get_push "FFmazzz_" "_")
local macro_rules | `(tactic| k_all) => `(tactic| first | exact off_all (by with_reducible assumption) _ _ | exact off_led (by with_reducible assumption) | (refine off_cons (by walk_at "ltne") ?_; k_all))
local macro_rules | `(tactic| walk_at "exec For Name Name cons nil") => `(tactic| k_dat (for_W 18) "!F_y" "_")
local macro_rules | `(tactic| walk_at "exec For Name Call cons nil") => `(tactic| k_dat (for_W 18) "!F_y" "_")
local macro_rules | `(tactic| walk_at "exec For Name Tuple cons nil") => `(tactic| k_dat (for_W 18) "!F_y" "_")
local macro_rules | `(tactic| walk_at "pyIter bytes") => `(tactic| k_dat byt_iter "FF_" "______PS")
local macro_rules | `(tactic| mul_fits) => `(tactic| assumption)
local macro_rules | `(tactic| walk_at "л") => `(tactic| exact ⟨_, News.get (by k_asm) (by k_mem), rfl, _, rfl⟩)
local macro_rules | `(tactic| walk_at "pyIter ref") => `(tactic| k_dat tup_iter "FFл_" "_______P_S")
local macro_rules | `(tactic| walk_at "pyIter ref") => `(tactic| k_dat rng_iter "FFaaaa_" "____PS")
local macro_rules | `(tactic| walk_at "м") => `(tactic| with_reducible show wpAny _ _ (call (Value.builtin _) [Value.ref _, _]) _ _ _)
local macro_rules | `(tactic| walk_at "call builtin:list.append") => `(tactic| (walk_at "м"; k_dat append_list "FFuz_" "__NS"))
local macro_rules | `(tactic| walk_at "exec If") => `(tactic| ((with_reducible rename StopIf => zs'); clear zs'; refine stop_here ?_))
section

noncomputable def forBody : Stmt → List Stmt
  | .For _ _ b _ _ => b
  | _ => []
noncomputable def meltDef : Stmt := PySem.Challenge.pw_wf0007_01.main.body.getD 12 (.Pass ⟨0, 0, 0, 0⟩)
noncomputable def mBody : List Stmt := forBody ((forBody ((dBody meltDef).getD 3 (.Pass ⟨0, 0, 0, 0⟩))).getD 1 (.Pass ⟨0, 0, 0, 0⟩))
theorem melt_of (P : List Stmt → Scope → Prop) {s1 s2 s3 s4 : Stmt} {nm : Str} {ar : Arguments} {b : List Stmt} {ds : List PySem.Expr} {r : Option PySem.Expr} {tp : List TypeParam} {sc : Scope} {ts : Option Scope} {bn : Str} {p : Pos}
    (e1 : mBody = s1 :: s2 :: s3 :: s4 :: []) (e2 : meltDef = .FunctionDef nm ar b ds r tp sc ts bn p) (h : P [s1, s2, s3, s4] sc) : P mBody (dScope meltDef) := by rw [e1, e2]; exact h
theorem fdiv_nat (p n : Nat) : Int.fdiv (p : Int) (n : Int) = ((p / n : Nat) : Int) := by rw [Int.fdiv_eq_ediv_of_nonneg _ (Int.natCast_nonneg n)]; rfl
theorem fmod_nat (p n : Nat) : Int.fmod (p : Int) (n : Int) = ((p % n : Nat) : Int) := by rw [Int.fmod_eq_emod_of_nonneg _ (Int.natCast_nonneg n)]; rfl
theorem getD_app {l : List Int} {c k : Int} {i : Nat} (h : k = (i : Int)) (hi : i < l.length) : (l ++ [c]).getD k.toNat 0 = l.getD i 0 := by
  subst h
  rw [Int.toNat_natCast, List.getD_eq_getElem?_getD, List.getD_eq_getElem?_getD, List.getElem?_append_left hi]
theorem tail_le {l : List Int} (h : l.length ≤ 100) : l.tail.length ≤ 100 := by rw [List.length_tail]; omega
section
variable {n p : Nat} {wt : Int}
theorem up_le (h1 : 0 < p / n) (h2 : 0 < p % n) : n + 1 ≤ p := by
  have e := Nat.div_add_mod p n
  have e' : n * 1 ≤ n * (p / n) := Nat.mul_le_mul_left n h1
  omega
theorem fd_up (h : 0 < p / n) : decide (0 < Int.fdiv (p : Int) (n : Int)) = true := by rw [fdiv_nat]; exact decide_eq_true (by omega)
theorem fm_up (h : 0 < p % n) : decide (0 < Int.fmod (p : Int) (n : Int)) = true := by rw [fmod_nat]; exact decide_eq_true (by omega)
theorem fd_no (h : ¬ 0 < p / n) : decide (0 < Int.fdiv (p : Int) (n : Int)) = false := by rw [fdiv_nat]; exact decide_eq_false (by omega)
theorem fm_no (h : ¬ 0 < p % n) : decide (0 < Int.fmod (p : Int) (n : Int)) = false := by rw [fmod_nat]; exact decide_eq_false (by omega)
theorem fd_in (hn : 2 ≤ n) (h : p / n < n - 1) : decide (Int.fdiv (p : Int) (n : Int) < (n : Int) - 1) = true := by rw [fdiv_nat]; exact decide_eq_true (by omega)
theorem fm_in (hn : 2 ≤ n) (h : p % n < n - 1) : decide (Int.fmod (p : Int) (n : Int) < (n : Int) - 1) = true := by rw [fmod_nat]; exact decide_eq_true (by omega)
theorem fd_out (hn : 2 ≤ n) (h : ¬ p / n < n - 1) : decide (Int.fdiv (p : Int) (n : Int) < (n : Int) - 1) = false := by rw [fdiv_nat]; exact decide_eq_false (by omega)
theorem fm_out (hn : 2 ≤ n) (h : ¬ p % n < n - 1) : decide (Int.fmod (p : Int) (n : Int) < (n : Int) - 1) = false := by rw [fmod_nat]; exact decide_eq_false (by omega)
theorem wt_bits (h1 : -1 ≤ wt) (h2 : wt ≤ 4) : Builtin.Int.intBits wt ≤ 64 := bits_small (by omega) (by omega)
theorem pk1 (h : n + 1 ≤ p) : (p : Int) - (n : Int) - 1 = ((p - n - 1 : Nat) : Int) := by omega
theorem pk2 (h : n + 1 ≤ p) : (p : Int) - (n : Int) = ((p - n : Nat) : Int) := by omega
theorem pk3 (h : n + 1 ≤ p) : (p : Int) - 1 = ((p - 1 : Nat) : Int) := by omega
theorem pk_lt (h : n + 1 ≤ p) (h2 : 2 ≤ n) : p - n - 1 < p ∧ p - n < p ∧ p - 1 < p := by omega
theorem rd_of {k : Int} {l : List Int} {c : Int} {i : Nat} (e : k = (i : Int)) (h : i < p) (hl : l.length = p) (h16 : p < 16) : (0 ≤ k ∧ k < ((l.length + 1 : Nat) : Int)) ∧ k < 2 ^ 63 ∧ k.toNat < (l ++ [c]).length := by
  rw [List.length_append, List.length_singleton]
  omega
theorem fresh_eq {l : List Int} {c u : Int} (h : n + 1 ≤ p) (h2 : 2 ≤ n) (hl : l.length = p) :
    Int.fdiv ((l ++ [c]).getD ((p : Int) - (n : Int) - 1).toNat 0 * c + wt * ((l ++ [c]).getD ((p : Int) - (n : Int)).toNat 0 * (l ++ [c]).getD ((p : Int) - 1).toNat 0)) u = freshOf n wt p l c u := by
  have k := pk_lt h h2
  unfold freshOf
  rw [getD_app (pk1 h) (hl ▸ k.1), getD_app (pk2 h) (hl ▸ k.2.1), getD_app (pk3 h) (hl ▸ k.2.2)]
end
/-- what holds ahead of a place's turn -/
noncomputable def MSt (x y : Addr) (rv wv sv pv nv : Value) (n : Nat) (wt : Int) (S0 : PS) (T NA : Addr) (p : Nat) (q : QS) (m' : Str → Option Value) : Prop :=
  MNames m' x y rv wv sv pv ∧ m' ("told" : Str) = some (.ref T) ∧ m' ("near" : Str) = some (.ref NA) ∧ m' ("size" : Str) = some nv ∧ Rel q (runP n wt S0 p)
set_option maxHeartbeats 8000000 in
theorem melt_turn {w : World} {tp : Program} {lo : List Str} {mean : ExcName → Option Value} {mg mb : Str → Option Value}
    {dp un : Nat} {gd : Option (List Code)} {cn : Str} {cs : Scope} {a : Addr} {ccd : Value} {cl : List (Str × Addr)} {outer : List Env} {base g : Heap} {L L' : Addr} {s : Shared}
    {G : Obj → Obj → List (Addr × Obj)} {x dx p1 y dy p2 D T NA it3 it : Addr} {oD oi3 oi5 : Obj} {rv sv pv : Value} {tw tz t5 : Tok} {wt : Int} {n p : Nat} {S0 : PS} {q1 : QS} {m5 : Str → Option Value} {h5 : Heap} {tk5 : Nat} {E : Value → Shared → Prop}
    (B' : Below (ktrTop dp un gd cn cs L a ccd cl outer) base (envX cn cs L a ccd cl :: outer) g) (X' : (Mine.hd.heap_39 w.params).In g) (T' : Top tp lo mean mg mb g) (hk : cs.kind = .function) (hC : CodeHd base 97 93) (hd : dp + 8 < recursionLimit) (hu : un + 80 < cLine)
    (J : Lines G x dx p1 y dy p2) (hap : Ap G p1 p2 T D) (hn2 : 2 ≤ n) (hn4 : n ≤ 4) (hwt : -1 ≤ wt) (hwt2 : wt ≤ 4) (hp : p < n * n) (ok : OkP n p (runP n wt S0 p))
    (hS : MSt x y rv (.int wt tw) sv pv (.int (n : Int) tz) n wt S0 T NA p q1 m5)
    (F8 : Fr g L' h5 (stM ("place" : Str) (.int (p : Int) t5) m5)) (N8 : News g L' h5 ((it, oi5) :: Lg2 G D T oD NA it3 oi3 q1)) (l8 : ∀ p ∈ Lg2 G D T oD NA it3 oi3 q1, p.1 < it) (l6 : ∀ p ∈ Lg1 G D T oD q1, p.1 < it3) (l3 : it3 < NA) :
    wpAny (model (RowW.prog (OpenRow.toRowW (OpenLaw.row PySem.Challenge.rw_wf0007_01))) w) ((ktrTop dp un gd cn cs L a ccd cl outer).deeper (envOf ("_law_melted" : Str) (dScope meltDef) L' 110 (.ref 109)))
      (execs mBody (envOf ("_law_melted" : Str) (dScope meltDef) L' 110 (.ref 109)))
      (TurnAt g L' s (fun st => (it, oi5) :: Lg2 G D T oD NA it3 oi3 st) (MSt x y rv (.int wt tw) sv pv (.int (n : Int) tz) n wt S0 T NA (p + 1))) E { s with heap := h5, toks := tk5 } := by
  refine' melt_of (fun b sc => wpAny (model (RowW.prog (OpenRow.toRowW (OpenLaw.row PySem.Challenge.rw_wf0007_01))) w) ((ktrTop dp un gd cn cs L a ccd cl outer).deeper (envOf ("_law_melted" : Str) sc L' 110 (.ref 109)))
      (execs b (envOf ("_law_melted" : Str) sc L' 110 (.ref 109))) _ E _) ?ze1 ?ze2 ?_
  case ze1 => with_unfolding_all exact rfl
  case ze2 => with_unfolding_all exact rfl
  obtain ⟨sl1, hx1⟩ := J.x1
  obtain ⟨g1, g2, g3, g4, r1, r2, r3, r4, vl, vi, vw, n1, hx2⟩ := J.x2
  obtain ⟨sl2, hy1⟩ := J.y1
  obtain ⟨g1', g2', g3', g4', r1', r2', r3', r4', vl', vi', vw', n1', hy2⟩ := J.y2
  have hu1 := J.u1
  have hu2 := J.u2
  obtain ⟨ap1, ap2, ap3, ap4⟩ := hap
  have l6a := led_head l6
  have l6b := led_head (led_tail l6)
  have l3' : @LT.lt Nat instLTNat it3 NA := l3
  have l8a := led_head l8
  have l8b := led_head (led_tail l8)
  have l8c := led_head (led_tail (led_tail l8))
  have l8d := led_head (led_tail (led_tail (led_tail l8)))
  dsimp only at l6a l6b l8a l8b l8c l8d
  have ap5 := lt_all ap4 ap3
  have ap6 := lt_all ap4 l6b
  have ap7 := lt_all ap6 l3'
  obtain ⟨K5, htold5, hnear5, hsize5, R5⟩ := hS
  have F9 := fr_names (fr_set (fr_set (fr_set F8 (y := ("told" : Str)) htold5) (y := ("near" : Str)) hnear5) (y := ("size" : Str)) hsize5) ⟨K5.line, K5.under, K5.row, K5.weight, K5.start, K5.step⟩
  clear F8
  obtain ⟨qa, qb, qt, qn, ka, kb, kt, kn⟩ := q1
  unfold MSt
  have estep : runP n wt S0 (p + 1) = stepP n wt p (runP n wt S0 p) := rfl
  rw [estep]
  clear estep
  generalize runP n wt S0 p = S1 at *
  obtain ⟨Ra, Rb, Rt, Rn⟩ := R5
  dsimp only at *
  obtain ⟨tc, qa', rfl, Ra'⟩ := ints_head Ra ok.line
  have hla := ints_length Ra'
  have hlb := ints_length Rb
  have hlt' := ints_length Rt
  have hln := ints_length Rn
  have hl0 := ok.l1
  have hl0' := tail_le hl0
  have hl1 := ok.l2
  have hl2 := ok.l3
  have hl3 := ok.near
  have hpn : p < 16 := Nat.lt_of_lt_of_le hp (Nat.mul_le_mul hn4 hn4)
  have hsf : StopIf := trivial
  k_steps
  unfold Stop
  by_cases hup : hasUp n p = true
  · have hup' : 0 < p / n ∧ 0 < p % n := by simpa [hasUp] using hup
    obtain ⟨h1, h2⟩ := hup'
    have hnp := up_le h1 h2
    have d1 := fd_up h1
    have d2 := fm_up h2
    obtain ⟨hne, hu0, hus, hcs, hns⟩ := ok.up hup
    obtain ⟨tu, qb', rfl, Rb'⟩ := ints_head Rb hne
    have hlb' := ints_length Rb'
    have hl1' := tail_le hl1
    have hw64 := wt_bits hwt hwt2
    have hl4 : S1.line.tail.length ≤ 100 := hl0'
    have hnx : ∀ x ∈ S1.near ++ [S1.line.headD 0], Small x := fun x hx => by
      rcases List.mem_append.mp hx with hx | hx
      · exact hns x hx
      · rw [List.mem_singleton.mp hx]; exact hcs
    have ef := fresh_eq (wt := wt) (c := S1.line.headD 0) (u := S1.under.headD 0) hnp hn2 hl3
    have pl := pk_lt hnp hn2
    have ra := rd_of (c := S1.line.headD 0) (pk1 hnp) pl.1 hl3 hpn
    have rb := rd_of (c := S1.line.headD 0) (pk2 hnp) pl.2.1 hl3 hpn
    have rc := rd_of (c := S1.line.headD 0) (pk3 hnp) pl.2.2 hl3 hpn
    obtain ⟨⟨ra1, ra2⟩, ra3, ra4⟩ := ra
    obtain ⟨⟨rb1, rb2⟩, rb3, rb4⟩ := rb
    obtain ⟨⟨rc1, rc2⟩, rc3, rc4⟩ := rc
    clear pl
    walk1
    have hsf : StopIf := trivial
    k_steps
    unfold Stop
    by_cases hin : inside n p = true
    · have hin' : p / n < n - 1 ∧ p % n < n - 1 := by simpa [inside] using hin
      obtain ⟨i1, i2⟩ := hin'
      have d3 := fd_in hn2 i1
      have d4 := fm_in hn2 i2
      k_steps
      rename News _ _ _ _ => N9
      refine TurnAt.intro (st := ⟨_, _, _, _, _, _, _, _⟩) (F := by assumption) (cb_drop N9 (fun q hq => .tail _ hq)) ⟨⟨rfl, rfl, rfl, rfl, rfl, rfl⟩, rfl, rfl, rfl, ?_⟩
      rw [stepP, if_pos hup, if_pos hin, ← ef]
      exact ⟨intsAre_append Ra' (.cons _ _ .nil), intsAre_append Rb' (.cons _ _ .nil), intsAre_append Rt (.cons _ _ .nil), intsAre_append Rn (.cons _ _ .nil)⟩
    · by_cases i1 : p / n < n - 1
      · have i2 : ¬ p % n < n - 1 := fun i2 => hin (by simp [inside, i1, i2])
        have d3 := fd_in hn2 i1
        have d4 := fm_out hn2 i2
        k_steps
        rename News _ _ _ _ => N9
        refine TurnAt.intro (st := ⟨_, _, _, _, _, _, _, _⟩) (F := by assumption) (cb_drop N9 (fun q hq => .tail _ hq)) ⟨⟨rfl, rfl, rfl, rfl, rfl, rfl⟩, rfl, rfl, rfl, ?_⟩
        rw [stepP, if_pos hup, if_neg hin, List.append_nil, ← ef]
        exact ⟨intsAre_append Ra' (.cons _ _ .nil), Rb', intsAre_append Rt (.cons _ _ .nil), intsAre_append Rn (.cons _ _ .nil)⟩
      · have d3 := fd_out hn2 i1
        k_steps
        rename News _ _ _ _ => N9
        refine TurnAt.intro (st := ⟨_, _, _, _, _, _, _, _⟩) (F := by assumption) (cb_drop N9 (fun q hq => .tail _ hq)) ⟨⟨rfl, rfl, rfl, rfl, rfl, rfl⟩, rfl, rfl, rfl, ?_⟩
        rw [stepP, if_pos hup, if_neg hin, List.append_nil, ← ef]
        exact ⟨intsAre_append Ra' (.cons _ _ .nil), Rb', intsAre_append Rt (.cons _ _ .nil), intsAre_append Rn (.cons _ _ .nil)⟩
  · by_cases h1 : 0 < p / n
    · have h2 : ¬ 0 < p % n := fun h2 => hup (by simp [hasUp, h1, h2])
      have d1 := fd_up h1
      have d2 := fm_no h2
      k_steps
      all_goals exact TurnAt.intro (st := ⟨qa', qb, qt, qn ++ [.int (S1.line.headD 0) tc], ka + 1, kb, kt, kn + 1⟩) (F := by assumption) (cb_drop (by assumption) (fun q hq => .tail _ hq)) ⟨⟨rfl, rfl, rfl, rfl, rfl, rfl⟩, rfl, rfl, rfl, by rw [stepP, if_neg hup]; exact ⟨Ra', Rb, Rt, intsAre_append Rn (.cons _ _ .nil)⟩⟩
    · have d1 := fd_no h1
      k_steps
      all_goals exact TurnAt.intro (st := ⟨qa', qb, qt, qn ++ [.int (S1.line.headD 0) tc], ka + 1, kb, kt, kn + 1⟩) (F := by assumption) (cb_drop (by assumption) (fun q hq => .tail _ hq)) ⟨⟨rfl, rfl, rfl, rfl, rfl, rfl⟩, rfl, rfl, rfl, by rw [stepP, if_neg hup]; exact ⟨Ra', Rb, Rt, intsAre_append Rn (.cons _ _ .nil)⟩⟩
end
section
theorem pow_in {st sp : Int} {j : Nat} (hst : 0 ≤ st) (hst2 : st ≤ 2) (hsp : 0 ≤ sp) (hsp2 : sp ≤ 2) (hj : j < 4) : IntMulOk sp (j : Int) ∧ 0 ≤ st + sp * (j : Int) ∧ st + sp * (j : Int) ≤ 1000000 := by
  refine ⟨IntMulOk.of_le (m := 64) (n := 64) (bits_small (by omega) (by omega)) (bits_small (by omega) (by omega)) (by decide), ?_⟩
  have hj0 : 0 ≤ sp * (j : Int) := Int.mul_nonneg hsp (by omega)
  have hj1 : sp * (j : Int) ≤ 2 * 3 := Int.mul_le_mul hsp2 (by omega) (by omega) (by omega)
  omega
theorem octet64 (c : UInt8) : ((c.toNat : Int)).natAbs < 2 ^ 64 := by have := c.toNat_lt; simp; omega
theorem row_len {i j k : Nat} (h : k = 4 * i + j) (hi : i < 4) (hj : j < 4) : k ≤ 100 := by omega
theorem nine_len {j k : Nat} (h : k = j) (hj : j < 9) : k ≤ 100 := by omega
theorem len_app1 {l : List Value} {v : Value} {k : Nat} (h : l.length = k) : (l ++ [v]).length = k + 1 := by rw [List.length_append, h]; rfl
theorem size_two {i : Nat} (h : i < 3) : 2 ≤ 4 - i := by omega
theorem sq_small {n : Nat} (h2 : 2 ≤ n) (h4 : n ≤ 4) : Builtin.Range.small 0 ((n * n : Nat) : Int) 1 = true := by
  have : n = 2 ∨ n = 3 ∨ n = 4 := by omega
  rcases this with rfl | rfl | rfl <;> decide
theorem sq_size {n : Nat} (h2 : 2 ≤ n) (h4 : n ≤ 4) : Builtin.Range.rangeSize 0 ((n * n : Nat) : Int) 1 = ((n * n : Nat) : Int) := by
  have : n = 2 ∨ n = 3 ∨ n = 4 := by omega
  rcases this with rfl | rfl | rfl <;> decide
theorem sq_fits {n : Nat} (h4 : n ≤ 4) : IntMulOk (n : Int) (n : Int) := IntMulOk.of_left (bits_small (by omega) (by omega))
set_option maxHeartbeats 4000000 in
theorem melted_spec {w : World} {tp : Program} {lo : List Str} {mean : ExcName → Option Value} {mg mb : Str → Option Value}
    {dp un : Nat} {gd : Option (List Code)} {cn : Str} {cs : Scope} {a : Addr} {ccd : Value} {cl : List (Str × Addr)} {outer : List Env} {A₀ : Around} {base h₀ : Heap} {L : Addr} {m : Str → Option Value} {s : Shared}
    {G : Obj → Obj → List (Addr × Obj)} {x dx p1 y dy p2 : Addr} {k1 k2 : Nat} {b0 b1 b2 b3 : UInt8} {tb tw ts tp' : Tok} {wt st sp z : Int} {nr tl : List Int}
    {Q E : Value → Shared → Prop}
    (H : Here w tp lo mean mg mb dp un outer cs A₀ base h₀ L m (G (listOf #[] k1) (listOf #[] k2)) s 8 80)
    (J : Lines G x dx p1 y dy p2) (hst : 0 ≤ st) (hst2 : st ≤ 2) (hsp : 0 ≤ sp) (hsp2 : sp ≤ 2) (hwt : -1 ≤ wt) (hwt2 : wt ≤ 4)
    (hok : ∀ i, i < 3 → ∀ p, p < (4 - i) * (4 - i) → OkP (4 - i) p (runP (4 - i) wt (levP wt ⟨[], pwAll #[b0, b1, b2, b3] st sp 4, List.replicate 9 1, []⟩ i) p))
    (hlev : levP wt ⟨[], pwAll #[b0, b1, b2, b3] st sp 4, List.replicate 9 1, []⟩ 3 = ⟨nr, [z], [], tl⟩) (htl : tl.length ≤ 100)
    (hret : ∀ h' tk' R k1' k2' k vs, IntsAre vs (tl ++ [z]) → Fr h₀ L h' m → News h₀ L h' ((R, listOf vs.toArray k) :: G (listOf #[] k1') (listOf #[] k2')) → (∀ p ∈ G (listOf #[] k1') (listOf #[] k2'), p.1 < R) → Q (.ref R) { s with heap := h', toks := tk' }) :
    wpAny (model (RowW.prog (OpenRow.toRowW (OpenLaw.row PySem.Challenge.rw_wf0007_01))) w) (ktrTop dp un gd cn cs L a ccd cl outer) (call (.ref 110) [.ref x, .ref y, .bytes #[b0, b1, b2, b3] tb, .int wt tw, .int st ts, .int sp tp']) Q E s := by
  obtain ⟨B, F, X, N, T, hk, hC, hd, hu⟩ := H
  obtain ⟨sl1, hx1⟩ := J.x1
  obtain ⟨g1, g2, g3, g4, r1, r2, r3, r4, vl, vi, vw, n1, hx2⟩ := J.x2
  obtain ⟨sl2, hy1⟩ := J.y1
  obtain ⟨g1', g2', g3', g4', r1', r2', r3', r4', vl', vi', vw', n1', hy2⟩ := J.y2
  have hu1 := J.u1
  have hu2 := J.u2
  refine wpAny_call ?_
  k_dflt cell_enter
  k_steps
  rename Addr => it0
  have hp1 : @LT.lt Nat instLTNat p1 it0 := (by assumption : ∀ p ∈ G (listOf #[] k1) (listOf #[] k2), p.1 < it0) (p1, _) (updF_mem (J.u1 _ _))
  have hp2 : @LT.lt Nat instLTNat p2 it0 := (by assumption : ∀ p ∈ G (listOf #[] k1) (listOf #[] k2), p.1 < it0) (p2, _) (updF_mem (J.u2 _ _))
  have hA : ∀ {it : Addr}, (∀ p ∈ G (listOf #[] k1) (listOf #[] k2), p.1 < it) → ∀ q : List Value × Nat, ∀ p ∈ (fun q : List Value × Nat => G (listOf q.1.toArray q.2) (listOf #[] k2)) q, p.1 ≠ it := fun l q p hp => Nat.ne_of_lt (J.addr l _ _ p hp)
  refine forW_bytes (σ := List Value × Nat) (Lg := fun q => G (listOf q.1.toArray q.2) (listOf #[] k2)) (n := 4) (st := ([], k1)) (by decide) rfl rfl rfl rfl (hA (by assumption))
    (fun i q m' => MNames m' x y (.bytes #[b0, b1, b2, b3] tb) (.int wt tw) (.int st ts) (.int sp tp') ∧ IntsAre q.1 (pwAll #[b0, b1, b2, b3] st sp i) ∧ q.1.length = 4 * i) ?turn ?fin (by assumption) ⟨⟨rfl, rfl, rfl, rfl, rfl, rfl⟩, .nil, rfl⟩ (by assumption) (by assumption)
  case turn =>
    rintro i ⟨vs, k⟩ m' h' tk' v oi hi ⟨c, t', hc, rfl⟩ ⟨K, I, hlen⟩ F2 N2 off2
    have F3 := fr_names F2 ⟨K.line, K.under, K.row, K.weight, K.start, K.step⟩
    clear F2
    dsimp only at *
    k_steps
    rename Addr => it1
    refine forW_range (σ := List Value × Nat) (Lg := fun q => (it0, oi) :: G (listOf q.1.toArray q.2) (listOf #[] k2)) (n := 4) (st := (vs, k)) (by decide) rfl rfl rfl (fun q => off_cons (by k_ne) (fun p hp => Nat.ne_of_lt (J.addr (o1 := listOf vs.toArray k) (o2 := listOf #[] k2) (by assumption) _ _ p hp)))
      (fun j q m' => MNames m' x y (.bytes #[b0, b1, b2, b3] tb) (.int wt tw) (.int st ts) (.int sp tp') ∧ m' ("number" : Str) = some (.int (c.toNat : Int) t') ∧ IntsAre q.1 (pwAll #[b0, b1, b2, b3] st sp i ++ pwRow #[b0, b1, b2, b3] st sp i j) ∧ q.1.length = 4 * i + j) ?turn2 ?fin2 ⟨⟨rfl, rfl, rfl, rfl, rfl, rfl⟩, rfl, by simpa [pwRow] using I, by simpa using hlen⟩ (by assumption) (by assumption)
    case turn2 =>
      rintro j ⟨vs2, kk⟩ m2 h2 tk2 v oi2 hj ⟨t2, rfl⟩ ⟨K2, hnum, I2, hlen2⟩ F4 N4 off4
      have F5 := fr_names (fr_set F4 (y := ("number" : Str)) (v := .int (c.toNat : Int) t') hnum) ⟨K2.line, K2.under, K2.row, K2.weight, K2.start, K2.step⟩
      clear F4
      dsimp only at *
      have hmq := pow_in hst hst2 hsp hsp2 hj
      have hm1 := hmq.1
      have hq0 := hmq.2.1
      have hq1 := hmq.2.2
      clear hmq
      have hq2 := octet64 c
      have hlen3 := row_len hlen2 hi hj
      have hpw : pw #[b0, b1, b2, b3] st sp i j = (c.toNat : Int) ^ (st + sp * (j : Int)).toNat := by unfold pw; rw [hc]; rfl
      k_steps
      all_goals (refine TurnAt.intro (st := (vs2 ++ [_], kk + 1)) (F := by assumption) (by assumption) ⟨⟨rfl, rfl, rfl, rfl, rfl, rfl⟩, rfl, ?_, ?_⟩)
      · show IntsAre (vs2 ++ [_]) _
        rw [pwRow_succ, ← List.append_assoc, hpw]
        exact intsAre_append I2 (.cons _ _ .nil)
      · exact len_app1 hlen2
    case fin2 =>
      rintro ⟨vs2, kk⟩ m2 h2 tk2 ⟨K2, hnum, I2, hlen2⟩ F4 N4
      dsimp only at *
      k_steps
      all_goals exact TurnAt.intro (st := (vs2, kk)) (by assumption) (by assumption) ⟨K2, by rw [pwAll_succ]; exact I2, hlen2⟩
  case fin =>
    rintro ⟨vs, k⟩ m1 h1 tk1 ⟨K, I, hlen⟩ F2 N2
    have F3 := fr_names F2 ⟨K.line, K.under, K.row, K.weight, K.start, K.step⟩
    clear F2
    dsimp only at *
    k_steps
    rename Addr => it2
    refine forW_range (σ := List Value × Nat) (Lg := fun q => G (listOf vs.toArray k) (listOf q.1.toArray q.2)) (n := 9) (st := ([], k2)) (by decide) rfl rfl rfl (fun q p hp => Nat.ne_of_lt (J.addr (o1 := listOf vs.toArray k) (o2 := listOf #[] k2) (by assumption) _ _ p hp))
      (fun j q m' => MNames m' x y (.bytes #[b0, b1, b2, b3] tb) (.int wt tw) (.int st ts) (.int sp tp') ∧ IntsAre q.1 (List.replicate j 1) ∧ q.1.length = j) ?turn3 ?fin3 ⟨⟨rfl, rfl, rfl, rfl, rfl, rfl⟩, .nil, rfl⟩ (by assumption) (by assumption)
    case turn3 =>
      rintro j ⟨us, kk⟩ m2 h2 tk2 v oi2 hj ⟨t2, rfl⟩ ⟨K2, I2, hlen2⟩ F4 N4 off4
      have hp1 : @LT.lt Nat instLTNat p1 it2 := (by assumption : ∀ p ∈ G (listOf vs.toArray k) (listOf #[] k2), p.1 < it2) (p1, _) (updF_mem (J.u1 _ _))
      have hp2 : @LT.lt Nat instLTNat p2 it2 := (by assumption : ∀ p ∈ G (listOf vs.toArray k) (listOf #[] k2), p.1 < it2) (p2, _) (updF_mem (J.u2 _ _))
      have F5 := fr_names F4 ⟨K2.line, K2.under, K2.row, K2.weight, K2.start, K2.step⟩
      clear F4
      dsimp only at *
      have hlen3 := nine_len hlen2 hj
      k_steps
      all_goals (refine TurnAt.intro (st := (us ++ [_], kk + 1)) (F := by assumption) (by assumption) ⟨⟨rfl, rfl, rfl, rfl, rfl, rfl⟩, ?_, ?_⟩)
      · show IntsAre (us ++ [_]) _
        rw [List.replicate_succ']
        exact intsAre_append I2 (.cons _ _ .nil)
      · exact len_app1 hlen2
    case fin3 =>
      rintro ⟨us, k2'⟩ m2 h2 tk2 ⟨K2, I2, hlen2⟩ F4 N4
      have F5 := fr_names F4 ⟨K2.line, K2.under, K2.row, K2.weight, K2.start, K2.step⟩
      clear F4
      dsimp only at *
      k_steps
      rename (_ : Nat) < (_ : Nat) ∧ AllLt _ (G (listOf vs.toArray k) (listOf us.toArray k2')) => hTD
      have hap0 := ap_mk J (o1 := listOf vs.toArray k) (o2 := listOf us.toArray k2') (by assumption) hTD.1
      refine forW_size (n := 3) J (by decide) rfl rfl ⟨_, rfl⟩ rfl rfl rfl
        (fun T i q m' => MNames m' x y (.bytes #[b0, b1, b2, b3] tb) (.int wt tw) (.int st ts) (.int sp tp') ∧ m' ("told" : Str) = some (.ref T) ∧ IntsAre q.a (levP wt ⟨[], pwAll #[b0, b1, b2, b3] st sp 4, List.replicate 9 1, []⟩ i).line ∧ IntsAre q.b (levP wt ⟨[], pwAll #[b0, b1, b2, b3] st sp 4, List.replicate 9 1, []⟩ i).under ∧ IntsAre q.t (levP wt ⟨[], pwAll #[b0, b1, b2, b3] st sp 4, List.replicate 9 1, []⟩ i).told)
        ?turn4 ?fin4 (by assumption) ⟨vs, us, [], [], k, k2', 0, 0⟩ ⟨⟨rfl, rfl, rfl, rfl, rfl, rfl⟩, rfl, I, I2, .nil⟩ (by assumption) (by assumption) (by assumption) hap0
      case turn4 =>
        rintro i q m3 h3 tk3 v oi3 hi hv ⟨K3, htold, Ia, Ib, It⟩ F6 N6 l6 hap
        have l6a := led_head l6
        have l6b := led_head (led_tail l6)
        dsimp only at l6a l6b
        have F7 := fr_names (fr_set F6 (y := ("told" : Str)) htold) ⟨K3.line, K3.under, K3.row, K3.weight, K3.start, K3.step⟩
        clear F6
        have hsz : ∃ tz, v = .int ((4 - i : Nat) : Int) tz := by
          rcases i with _ | _ | _ | i
          · exact ⟨_, (Option.some.inj hv).symm⟩
          · exact ⟨_, (Option.some.inj hv).symm⟩
          · exact ⟨_, (Option.some.inj hv).symm⟩
          · exact absurd hi (Nat.not_lt_of_le (Nat.le_add_left 3 i))
        obtain ⟨tz, rfl⟩ := hsz
        have hok1 := hok i hi
        have hn2 := size_two hi
        have hn4 : 4 - i ≤ 4 := Nat.sub_le 4 i
        have elev : levP wt ⟨[], pwAll #[b0, b1, b2, b3] st sp 4, List.replicate 9 1, []⟩ (i + 1) = runP (4 - i) wt (levP wt ⟨[], pwAll #[b0, b1, b2, b3] st sp 4, List.replicate 9 1, []⟩ i) ((4 - i) * (4 - i)) := rfl
        rw [elev]
        clear elev hv
        generalize levP wt ⟨[], pwAll #[b0, b1, b2, b3] st sp 4, List.replicate 9 1, []⟩ i = S0 at *
        generalize hn : 4 - i = n at *
        have hb9 : (n : Int) * (n : Int) = ((n * n : Nat) : Int) := by rw [Int.natCast_mul]
        have hs9 := sq_small hn2 hn4
        have hr9 := sq_size hn2 hn4
        have hm9 := sq_fits hn4
        dsimp only at *
        k_steps
        refine forW_place (n := n * n) J (Nat.le_trans (Nat.succ_le_succ (Nat.mul_le_mul hn4 hn4)) (by decide)) rfl rfl rfl
          (fun T NA => MSt x y (.bytes #[b0, b1, b2, b3] tb) (.int wt tw) (.int st ts) (.int sp tp') (.int (n : Int) tz) n wt S0 T NA)
          ?turn5 ?fin5 ⟨q.a, q.b, q.t, [], q.ka, q.kb, q.kt, 0⟩ ⟨⟨rfl, rfl, rfl, rfl, rfl, rfl⟩, rfl, rfl, rfl, ⟨Ia, Ib, It, .nil⟩⟩ (by assumption) (by assumption) (by assumption)
        case turn5 =>
          rintro p q1 m5 h5 tk5 v oi5 hp ⟨t5, rfl⟩ hS F8 N8 l8
          with_unfolding_all exact melt_turn (by assumption) (by assumption) (by assumption) hk hC hd hu J hap hn2 hn4 hwt hwt2 hp (hok1 p hp) hS F8 N8 l8 (Lg1.lt J l6 q1) (by assumption : @LT.lt Nat instLTNat _ _ ∧ @LT.lt Nat instLTNat _ _ ∧ @LT.lt Nat instLTNat _ _ ∧ AllLt _ (G (listOf q.a.toArray q.ka) (listOf q.b.toArray q.kb))).1
        case fin5 =>
          rintro q2 m5 h5 tk5 ⟨K5, htold5, hnear5, hsize5, R5⟩ F8 N8
          dsimp only
          k_steps
          all_goals exact TurnAt.intro (st := q2) F8 (cb_drop N8 (fun q hq => .tail _ hq)) ⟨K5, htold5, R5.a, R5.b, R5.t⟩
      case fin4 =>
        rintro q m3 h3 tk3 ⟨K3, htold, Ia, Ib, It⟩ F6 N6
        have F7 := fr_names (fr_set F6 (y := ("told" : Str)) htold) ⟨K3.line, K3.under, K3.row, K3.weight, K3.start, K3.step⟩
        clear F6
        rw [hlev] at Ia Ib It
        dsimp only at Ia Ib It
        obtain ⟨qa, qb, qt, qn, ka, kb, kt, kn⟩ := q
        dsimp only at *
        obtain ⟨tc, qa', rfl, Ra'⟩ := ints_head Ia (List.cons_ne_nil _ _)
        cases Ra'
        cases Ib
        have hlt : qt.length ≤ 100 := by rw [ints_length It]; exact htl
        obtain ⟨ap1, ap2, ap3, ap4⟩ := hap0
        have ap5 := lt_all ap4 ap3
        dsimp only [List.headD, Lg1] at *
        k_steps
        rename IntsAre _ (tl ++ [z]) => hJ
        rename _ ∧ _ ∧ _ ∧ AllLt _ (G _ _) => hAl
        exact hret _ _ _ _ _ _ _ hJ (by assumption) (cb_drop (by assumption) (fun q hq => by
          rcases List.mem_cons.mp hq with rfl | hq
          · exact .head _
          · exact .tail _ (.tail _ (.tail _ (.tail _ hq))))) (allLt_mem hAl.2.2.2)
end
section

theorem led_st {D T a : Addr} {oD : Obj} {o o' : Obj} {news : List (Addr × Obj)} (l : ∀ p ∈ (D, oD) :: (T, o) :: news, p.1 < a) : ∀ p ∈ (D, oD) :: (T, o') :: news, p.1 < a := by
  intro p hp
  rcases List.mem_cons.mp hp with rfl | hp
  · exact l (D, oD) (.head _)
  rcases List.mem_cons.mp hp with rfl | hp
  · exact (l (T, o) (.tail _ (.head _)) : T < a)
  · exact l p (.tail _ (.tail _ hp))
local macro_rules | `(tactic| walk_at "н") => `(tactic| kmk_list)
local macro_rules | `(tactic| walk_at "о") => `(tactic| kmk_part)
local macro_rules | `(tactic| walk_at "п") => `(tactic| first | exact kmk_from_neg (by with_reducible assumption) (by decide) | exact kmk_run (by with_reducible assumption) (by omega) (by omega))
local macro_rules | `(tactic| walk_at "р") => `(tactic| kmk_pure)
local macro_rules | `(tactic| walk_at "с") => `(tactic| exact kmk_sz (by with_reducible assumption) (by rw [sizeLine_eq]; first | omega | (simp; done)))
local macro_rules | `(tactic| walk_at "subscriptTail Name Slice ref ref") => `(tactic| k_dat kmk_slice_ints "FFнооaпr_wрс" "_____P___S")
local macro_rules | `(tactic| walk_at "binaryOp Pow int int") => `(tactic| k_dat (pow_int_small (by with_reducible assumption) (by with_reducible assumption) (by with_reducible assumption)) "!_" "")
theorem exp_nat {st sp : Int} (hst : 0 ≤ st) (hsp : 0 ≤ sp) (c : Nat) : (st + sp * (c : Int)).toNat = st.toNat + sp.toNat * c := by
  obtain ⟨a, rfl⟩ := Int.eq_ofNat_of_zero_le hst
  obtain ⟨b, rfl⟩ := Int.eq_ofNat_of_zero_le hsp
  rw [← Int.natCast_mul, ← Int.natCast_add, Int.toNat_natCast, Int.toNat_natCast, Int.toNat_natCast]
/-- what all of _law_products keeps -/
structure PN (m : Str → Option Value) (R0 T : Addr) (wv sv pv : Value) : Prop where
  row : m ("row" : Str) = some (.ref R0)
  weight : m ("weight" : Str) = some wv
  start : m ("start" : Str) = some sv
  step : m ("step" : Str) = some pv
  told : m ("told" : Str) = some (.ref T)
theorem fr_pn {h₀ h : Heap} {L : Addr} {m : Str → Option Value} {R0 T : Addr} {wv sv pv : Value} (F : Fr h₀ L h m) (K : PN m R0 T wv sv pv) :
    Fr h₀ L h (stM ("row" : Str) (.ref R0) (stM ("weight" : Str) wv (stM ("start" : Str) sv (stM ("step" : Str) pv (stM ("told" : Str) (.ref T) m))))) :=
  fr_set (fr_set (fr_set (fr_set (fr_set F K.told) K.step) K.start) K.weight) K.row
/-- some rows, from one row on -/
noncomputable def prt (x : Nat → Int) (h n : Nat) : List Int := (List.range n).map fun i => x (h + i)
theorem prt_of {x : Nat → Int} {h n : Nat} (hn : 2 ≤ n) (hn4 : n ≤ 4) (hh : h < 5 - n) : List.take (min (Int.toNat ((h : Int) + (n : Int))) (List.length [x 0, x 1, x 2, x 3]) - Int.toNat (h : Int)) (List.drop (Int.toNat (h : Int)) [x 0, x 1, x 2, x 3]) = prt x h n := by
  rcases n with _ | _ | _ | _ | _ | n
  · exact absurd hn (by decide)
  · exact absurd hn (by decide)
  · rcases h with _ | _ | _ | h
    · rfl
    · rfl
    · rfl
    · exact absurd hh (Nat.not_lt_of_le (Nat.le_add_left 3 h))
  · rcases h with _ | _ | h
    · rfl
    · rfl
    · exact absurd hh (Nat.not_lt_of_le (Nat.le_add_left 2 h))
  · rcases h with _ | h
    · rfl
    · exact absurd hh (Nat.not_lt_of_le (Nat.le_add_left 1 h))
  · exact absurd hn4 (Nat.not_le_of_lt (Nat.le_add_left 5 n))
theorem prt_len {x : Nat → Int} {h n : Nat} : (prt x h n).length = n := by simp [prt]
theorem prt_get {x : Nat → Int} {h n i : Nat} (hi : i < n) : (prt x h n).getD i 0 = x (h + i) := by
  rw [List.getD_eq_getElem?_getD]
  simp [prt, hi]
section
variable {x : Nat → Int} {wt st sp : Int} {n h c l e i : Nat}
theorem oA (n4 : n ≤ 4) : 5 - (n : Int) = ((5 - n : Nat) : Int) := by omega
theorem oE (n4 : n ≤ 4) : Builtin.Range.small 0 (n : Int) 1 = true := by
  have : n = 0 ∨ n = 1 ∨ n = 2 ∨ n = 3 ∨ n = 4 := by omega
  rcases this with rfl | rfl | rfl | rfl | rfl <;> decide
theorem oF (n4 : n ≤ 4) : Builtin.Range.rangeSize 0 (n : Int) 1 = (n : Int) := by
  have : n = 0 ∨ n = 1 ∨ n = 2 ∨ n = 3 ∨ n = 4 := by omega
  rcases this with rfl | rfl | rfl | rfl | rfl <;> decide
theorem oD (n2 : 2 ≤ n) : 5 - n ≤ 3 := by omega
theorem oG (n4 : n ≤ 4) : n + 1 ≤ 18 := by omega
theorem oI (hh : h < 5 - n) (hl : l < n) : h + l < 4 := by omega
theorem oJ (n2 : 2 ≤ n) (hc : c < 5 - n) : c < 4 := by omega
theorem oM (n2 : 2 ≤ n) (Dr : Draw x wt st.toNat sp.toNat) (hsp : 0 ≤ sp) (hc : c < 5 - n) : IntMulOk sp (c : Int) := by
  have := Dr.s2
  exact IntMulOk.of_le (m := 64) (n := 64) (bits_small (by omega) (by omega)) (bits_small (by omega) (by omega)) (by decide)
theorem oN (n2 : 2 ≤ n) (Dr : Draw x wt st.toNat sp.toNat) (hst : 0 ≤ st) (hsp : 0 ≤ sp) (hc : c < 5 - n) : (0 ≤ st + sp * (c : Int) ∧ st + sp * (c : Int) ≤ 1000000) ∧ sp ≤ 1000000 := by
  have a2 := Dr.a2
  have s2 := Dr.s2
  have hj1 : sp * (c : Int) ≤ 2 * 3 := Int.mul_le_mul (by omega) (by omega) (by omega) (by omega)
  have hj0 : 0 ≤ sp * (c : Int) := Int.mul_nonneg hsp (by omega)
  omega
theorem oP {y : Int} (h1 : 1 ≤ y) (h2 : y ≤ 32) : y.natAbs < 2 ^ 64 := by omega
theorem oQ {k : Nat} (h1 : 1 ≤ x k) (h2 : x k ≤ 32) {y : Int} (e : x k = y) : y.natAbs < 2 ^ 64 := e ▸ oP h1 h2
theorem oR {a s : Nat} (Dr : Draw x wt a s) (n2 : 2 ≤ n) (hh : h < 5 - n) (hc : c < 5 - n) (hl : l < n) : (latP (fun i => x (h + i)) wt a s c l * Mv x a s (h + l) c).natAbs ≤ 2 ^ (Ebd l + 40) :=
  sm_mul (Dr.lat (h := h) (c := c) (oJ n2 hc) l (Nat.le_of_lt (oI hh hl))) (Dr.mv (r := h + l) (c := c) (oI hh hl) (oJ n2 hc))
theorem oS {a s : Nat} (Dr : Draw x wt a s) (n2 : 2 ≤ n) (n4 : n ≤ 4) (hh : h < 5 - n) (hc : c < 5 - n) (hl : l < n) : IntMulOk (latP (fun i => x (h + i)) wt a s c l) (Mv x a s (h + l) c) :=
  small_mul (sm_of (Dr.lat (oJ n2 hc) l (Nat.le_of_lt (oI hh hl))) (Nat.lt_of_le_of_lt (by omega) (ebd_lt (l := l) (k := l) (by omega) (Nat.le_refl _)))) (sm_of (Dr.mv (r := h + l) (c := c) (oI hh hl) (oJ n2 hc)) (by decide))
theorem oT {a s : Nat} (Dr : Draw x wt a s) {y : Int} : IntMulOk wt y := IntMulOk.of_left (bits_small (by have := Dr.w1; have := Dr.w2; omega) (by have := Dr.w1; have := Dr.w2; omega))
theorem oU {a s : Nat} (Dr : Draw x wt a s) {NN : Int} (hN : NN.natAbs ≤ 2 ^ (Ebd l + 40)) (n4 : n ≤ 4) (hh : h < 5 - n) (hl : l < n) (he : e < l) : IntMulOk (earP (fun i => x (h + i)) wt s l NN e) (Dv x wt s (h + e) (h + l)) :=
  small_mul (sm_of (Dr.ear (oI hh hl) hN e (Nat.le_of_lt he)) (ebd_lt (by omega) (Nat.le_of_lt he))) (sm_of (Dr.dv (oI hh (Nat.lt_trans he hl)) (oI hh hl)) (by decide))
theorem oV {a s : Nat} {q : List Value} (I : IntsAre q (sizeP x wt a s i ++ headP x wt a s n h ++ colP x wt a s n h c)) (hi : i < 3) (hh : h < 5 - n) (hc : c < 5 - n) (n2 : 2 ≤ n) : q.length ≤ 100 := by
  rw [ints_length I, List.length_append, List.length_append, colP_len]
  have e1 := sizeP_len (x := x) (w := wt) (a := a) (s := s) i
  have e2 := headP_len (x := x) (w := wt) (a := a) (s := s) (n := n) (oD n2) h
  omega
theorem oW (hl : l < n) : l < (prt x h n).length := by rw [prt_len]; exact hl
theorem oX (n4 : n ≤ 4) : (prt x h n).length ≤ 4 := by rw [prt_len]; exact n4
end
set_option maxHeartbeats 4000000 in
theorem products_spec {w : World} {tp : Program} {lo : List Str} {mean : ExcName → Option Value} {mg mb : Str → Option Value}
    {dp un : Nat} {gd : Option (List Code)} {cn : Str} {cs : Scope} {a : Addr} {ccd : Value} {cl : List (Str × Addr)} {outer : List Env} {A₀ : Around} {base h₀ : Heap} {L : Addr} {m : Str → Option Value} {news : List (Addr × Obj)} {s : Shared}
    {R0 : Addr} {vs0 : List Value} {k0 : Nat} {x : Nat → Int} {tw ts tp' : Tok} {wt st sp : Int}
    {Q E : Value → Shared → Prop}
    (H : Here w tp lo mean mg mb dp un outer cs A₀ base h₀ L m news s 8 80)
    (hR : (R0, listOf vs0.toArray k0) ∈ news) (hI : IntsAre vs0 [x 0, x 1, x 2, x 3]) (hst : 0 ≤ st) (hsp : 0 ≤ sp) (Dr : Draw x wt st.toNat sp.toNat)
    (hret : ∀ h' tk' R k vs, IntsAre vs (F4 x wt st.toNat sp.toNat ++ F3 x wt st.toNat sp.toNat ++ [P4v x wt st.toNat sp.toNat 0] ++ [P4v x wt st.toNat sp.toNat 0]) → Fr h₀ L h' m → News h₀ L h' ((R, listOf vs.toArray k) :: news) → (∀ p ∈ news, p.1 < R) → Q (.ref R) { s with heap := h', toks := tk' }) :
    wpAny (model (RowW.prog (OpenRow.toRowW (OpenLaw.row PySem.Challenge.rw_wf0007_01))) w) (ktrTop dp un gd cn cs L a ccd cl outer) (call (.ref 117) [.ref R0, .int wt tw, .int st ts, .int sp tp']) Q E s := by
  obtain ⟨B, F, X, N, T, hk, hC, hd, hu⟩ := H
  refine wpAny_call ?_
  k_dflt cell_enter
  k_steps
  rename_i TT _ lT _ _ _ _ _ DD _ hTD it0 oi0 _ F0 N0 hTup S0 l0 _ e1 e2 l2 l3
  refine forW_tuple (σ := List Value × Nat) (D := DD) (Lg := fun q => (DD, _) :: (TT, listOf q.1.toArray q.2) :: news) (n := 3) (st := ([], 0)) (by decide) rfl (fun _ => .head _) rfl ⟨_, rfl⟩ e1 rfl rfl rfl (fun q => off_led (led_st l0))
    (fun i q m' => PN m' R0 TT (.int wt tw) (.int st ts) (.int sp tp') ∧ IntsAre q.1 (sizeP x wt st.toNat sp.toNat i)) ?turn1 ?fin1 S0 ⟨⟨rfl, rfl, rfl, rfl, rfl⟩, .nil⟩ F0 N0
  case turn1 =>
    rintro i ⟨q, kq⟩ m1 h1 tk1 v oi1 hi hv ⟨K1, I1⟩ F1 N1 off1
    have hsz : ∃ n tz, v = .int ((n : Nat) : Int) tz ∧ n = i + 2 := by
      rcases i with _ | _ | _ | i
      · exact ⟨2, _, (Option.some.inj hv).symm, rfl⟩
      · exact ⟨3, _, (Option.some.inj hv).symm, rfl⟩
      · exact ⟨4, _, (Option.some.inj hv).symm, rfl⟩
      · omega
    obtain ⟨n, tz, rfl, hn⟩ := hsz
    have F2 := fr_pn F1 ⟨K1.row, K1.weight, K1.start, K1.step, K1.told⟩
    clear F1 hv
    have n2 : 2 ≤ n := hn ▸ Nat.le_add_left 2 i
    have nle : n ≤ 4 := hn ▸ Nat.succ_le_succ (Nat.succ_le_of_lt hi)
    have n5 : 5 - n ≤ 4 := Nat.le_succ_of_le (oD n2)
    have hb9 := oA nle
    have hs9 := oE n5
    have hr9 := oF n5
    dsimp only at *
    k_steps
    rename_i it1 _ F3 N3 l3 e3 e4 e5 l4 l5 l6
    refine forW_range (σ := List Value × Nat) (Lg := fun q => (it0, oi1) :: (DD, _) :: (TT, listOf q.1.toArray q.2) :: news) (n := 5 - n) (st := (q, kq)) (oG n5) rfl rfl rfl (fun q => off_cons (by k_ne) (off_led (led_st l4)))
      (fun h q m' => (PN m' R0 TT (.int wt tw) (.int st ts) (.int sp tp') ∧ m' ("size" : Str) = some (.int (n : Int) tz)) ∧ IntsAre q.1 (sizeP x wt st.toNat sp.toNat i ++ headP x wt st.toNat sp.toNat n h)) ?turn2 ?fin2 ⟨⟨⟨rfl, rfl, rfl, rfl, rfl⟩, rfl⟩, by simpa [headP] using I1⟩ F3 N3
    case turn2 =>
      rintro h ⟨q2, kq2⟩ m2 h2 tk2 v oi2 hh ⟨th, rfl⟩ ⟨⟨K2, z2⟩, I2⟩ F4 N4 off4
      have F5 := fr_pn (fr_set F4 (y := ("size" : Str)) (v := .int (n : Int) tz) z2) ⟨K2.row, K2.weight, K2.start, K2.step, K2.told⟩
      clear F4
      dsimp only at *
      k_steps
      rename_i PP wp _ _ _ lP hIp _ _ _ _ _ _ _ _ _ _ _ _ _ _ _ _ _ _ _ _ it2 _ F6 N6 lQ d1 d2 d3 d4 lR lS lT' lU
      rw [prt_of n2 nle hh] at hIp
      refine forW_range (σ := List Value × Nat) (Lg := fun q => (PP, listOf wp.toArray 0) :: (it1, oi2) :: (it0, oi1) :: (DD, _) :: (TT, listOf q.1.toArray q.2) :: news) (n := 5 - n) (st := (q2, kq2)) (oG n5) rfl rfl rfl (fun q => off_cons (by k_ne) (off_cons (by k_ne) (off_cons (by k_ne) (off_led (led_st lT')))))
        (fun c q m' => (PN m' R0 TT (.int wt tw) (.int st ts) (.int sp tp') ∧ m' ("size" : Str) = some (.int (n : Int) tz) ∧ m' ("head" : Str) = some (.int (h : Int) th) ∧ m' ("part" : Str) = some (.ref PP)) ∧ IntsAre q.1 (sizeP x wt st.toNat sp.toNat i ++ headP x wt st.toNat sp.toNat n h ++ colP x wt st.toNat sp.toNat n h c)) ?turn3 ?fin3 ⟨⟨⟨rfl, rfl, rfl, rfl, rfl⟩, rfl, rfl, rfl⟩, by simpa [colP] using I2⟩ F6 N6
      case turn3 =>
        rintro c ⟨q3, kq3⟩ m3 h3 tk3 v oi3 hc ⟨tc, rfl⟩ ⟨⟨K3, z3, y3, x3⟩, I3⟩ F7 N7 off7
        have F8 := fr_pn (fr_set (fr_set (fr_set F7 (y := ("size" : Str)) (v := .int (n : Int) tz) z3) (y := ("head" : Str)) (v := .int (h : Int) th) y3) (y := ("part" : Str)) (v := .ref PP) x3) ⟨K3.row, K3.weight, K3.start, K3.step, K3.told⟩
        clear F7
        have hb8 : (n : Int) = (n : Int) := rfl
        have hs8 := oE nle
        have hr8 := oF nle
        dsimp only at *
        k_steps
        rename_i it3 _ F9 N9 l9 _ _ _ _ _ _ _ _
        refine forW_range (σ := Unit) (Lg := fun _ => (it2, oi3) :: (PP, listOf wp.toArray 0) :: (it1, oi2) :: (it0, oi1) :: (DD, _) :: (TT, listOf q3.toArray kq3) :: news) (n := n) (st := ()) (oG nle) rfl rfl rfl (fun _ => off_led l9)
          (fun l _ m' => (PN m' R0 TT (.int wt tw) (.int st ts) (.int sp tp') ∧ m' ("size" : Str) = some (.int (n : Int) tz) ∧ m' ("head" : Str) = some (.int (h : Int) th) ∧ m' ("part" : Str) = some (.ref PP) ∧ m' ("column" : Str) = some (.int (c : Int) tc)) ∧ ∃ t, m' ("number" : Str) = some (.int (latP (fun i => x (h + i)) wt st.toNat sp.toNat c l) t)) ?turn4 ?fin4 ⟨⟨⟨rfl, rfl, rfl, rfl, rfl⟩, rfl, rfl, rfl, rfl⟩, _, rfl⟩ F9 N9
        case turn4 =>
          rintro l ⟨⟩ m4 h4 tk4 v oi4 hl ⟨tl, rfl⟩ ⟨⟨K4, z4, y4, x4, w4⟩, tn, n4⟩ F10 N10 off10
          have F11 := fr_pn (fr_set (fr_set (fr_set (fr_set (fr_set F10 (y := ("size" : Str)) (v := .int (n : Int) tz) z4) (y := ("head" : Str)) (v := .int (h : Int) th) y4) (y := ("part" : Str)) (v := .ref PP) x4) (y := ("column" : Str)) (v := .int (c : Int) tc) w4) (y := ("number" : Str)) (v := .int (latP (fun i => x (h + i)) wt st.toNat sp.toNat c l) tn) n4) ⟨K4.row, K4.weight, K4.start, K4.step, K4.told⟩
          clear F10 hb8 hs8 hr8 hb9 hs9 hr9
          have hlp : l < (prt x h n).length := oW hl
          have hln : (prt x h n).length ≤ 4 := oX nle
          have hm1 := oM n2 Dr hsp hc
          have hxl : x (h + l) = (prt x h n).getD (l : Int).toNat 0 := (prt_get hl).symm
          have he := exp_nat hst hsp c
          have hN := oR Dr n2 hh hc hl
          have pm1 : IntMulOk (latP (fun i => x (h + i)) wt st.toNat sp.toNat c l) ((prt x h n).getD (l : Int).toNat 0 ^ (st + sp * (c : Int)).toNat) := by
            rw [← hxl, he]
            exact oS Dr n2 nle hh hc hl
          have eN : latP (fun i => x (h + i)) wt st.toNat sp.toNat c l * (prt x h n).getD (l : Int).toNat 0 ^ (st + sp * (c : Int)).toNat = latP (fun i => x (h + i)) wt st.toNat sp.toNat c l * Mv x st.toNat sp.toNat (h + l) c := by
            rw [← hxl, he]; rfl
          generalize hNN : latP (fun i => x (h + i)) wt st.toNat sp.toNat c l * Mv x st.toNat sp.toNat (h + l) c = NN at *
          have pq2 : ((prt x h n).getD (l : Int).toNat 0).natAbs < 2 ^ 64 := oQ (Dr.lo (h + l) (oI hh hl)) (Dr.hi (h + l) (oI hh hl)) hxl
          have pqs := oN n2 Dr hst hsp hc
          have pq0 := pqs.1.1
          have pq1 := pqs.1.2
          have psp := pqs.2
          clear pqs
          have l4 : l ≤ 4 := Nat.le_trans (Nat.le_of_lt hl) nle
          have hb7 : (l : Int) = (l : Int) := rfl
          have hs7 := oE l4
          have hr7 := oF l4
          dsimp only at *
          k_steps
          rename_i it4 _ F12 N12 l12 _ _ _ _ _ _ _ _
          refine forW_range (σ := Unit) (Lg := fun _ => (it3, oi4) :: (it2, oi3) :: (PP, listOf wp.toArray 0) :: (it1, oi2) :: (it0, oi1) :: (DD, _) :: (TT, listOf q3.toArray kq3) :: news) (n := l) (st := ()) (oG l4) rfl rfl rfl (fun _ => off_led l12)
            (fun e _ m' => (PN m' R0 TT (.int wt tw) (.int st ts) (.int sp tp') ∧ m' ("size" : Str) = some (.int (n : Int) tz) ∧ m' ("head" : Str) = some (.int (h : Int) th) ∧ m' ("part" : Str) = some (.ref PP) ∧ m' ("column" : Str) = some (.int (c : Int) tc) ∧ m' ("late" : Str) = some (.int (l : Int) tl)) ∧ ∃ t, m' ("number" : Str) = some (.int (earP (fun i => x (h + i)) wt sp.toNat l NN e) t)) ?turn5 ?fin5 ⟨⟨⟨rfl, rfl, rfl, rfl, rfl⟩, rfl, rfl, rfl, rfl, rfl⟩, _, congrArg (fun z => some (Value.int z _)) eN⟩ F12 N12
          case turn5 =>
            rintro e ⟨⟩ m5 h5 tk5 v oi5 hel ⟨te, rfl⟩ ⟨⟨K5, z5, y5, x5, w5, v5⟩, tn5, n5⟩ F13 N13 off13
            have F14 := fr_pn (fr_set (fr_set (fr_set (fr_set (fr_set (fr_set F13 (y := ("size" : Str)) (v := .int (n : Int) tz) z5) (y := ("head" : Str)) (v := .int (h : Int) th) y5) (y := ("part" : Str)) (v := .ref PP) x5) (y := ("column" : Str)) (v := .int (c : Int) tc) w5) (y := ("late" : Str)) (v := .int (l : Int) tl) v5) (y := ("number" : Str)) (v := .int (earP (fun i => x (h + i)) wt sp.toNat l NN e) tn5) n5) ⟨K5.row, K5.weight, K5.start, K5.step, K5.told⟩
            clear F13 hb7 hs7 hr7 pm1 eN pq0 pq1 hm1
            have hel2 := Nat.lt_trans hel hl
            have hxe : x (h + e) = (prt x h n).getD (e : Int).toNat 0 := (prt_get hel2).symm
            have hlp2 : e < (prt x h n).length := oW hel2
            have pq3 : ((prt x h n).getD (e : Int).toNat 0).natAbs < 2 ^ 64 := oQ (Dr.lo (h + e) (oI hh hel2)) (Dr.hi (h + e) (oI hh hel2)) hxe
            have pm2 : IntMulOk wt ((prt x h n).getD (e : Int).toNat 0 ^ sp.toNat) := oT Dr
            have eD : (prt x h n).getD (l : Int).toNat 0 ^ sp.toNat + wt * (prt x h n).getD (e : Int).toNat 0 ^ sp.toNat = Dv x wt sp.toNat (h + e) (h + l) := by
              rw [← hxl, ← hxe]; rfl
            have pm3 : IntMulOk (earP (fun i => x (h + i)) wt sp.toNat l NN e) ((prt x h n).getD (l : Int).toNat 0 ^ sp.toNat + wt * (prt x h n).getD (e : Int).toNat 0 ^ sp.toNat) := by
              rw [eD]
              exact oU Dr hN nle hh hl hel
            dsimp only at *
            k_steps
            all_goals exact TurnAt.intro (st := ()) (F := by assumption) (by assumption) ⟨⟨⟨rfl, rfl, rfl, rfl, rfl⟩, rfl, rfl, rfl, rfl, rfl⟩, _, congrArg (fun z => some (Value.int (earP (fun i => x (h + i)) wt sp.toNat l NN e * z) _)) (eD.trans rfl)⟩
          case fin5 =>
            rintro ⟨⟩ m5 h5 tk5 ⟨⟨K5, z5, y5, x5, w5, v5⟩, tn5, n5⟩ F13 N13
            dsimp only at *
            k_steps
            all_goals exact TurnAt.intro (st := ()) F13 N13 ⟨⟨K5, z5, y5, x5, w5⟩, tn5, by rw [n5, ← hNN]; rfl⟩
        case fin4 =>
          rintro ⟨⟩ m4 h4 tk4 ⟨⟨K4, z4, y4, x4, w4⟩, tn, n4⟩ F10 N10
          have F11 := fr_pn (fr_set (fr_set (fr_set (fr_set F10 (y := ("size" : Str)) (v := .int (n : Int) tz) z4) (y := ("head" : Str)) (v := .int (h : Int) th) y4) (y := ("part" : Str)) (v := .ref PP) x4) (y := ("number" : Str)) (v := .int (latP (fun i => x (h + i)) wt st.toNat sp.toNat c n) tn) n4) ⟨K4.row, K4.weight, K4.start, K4.step, K4.told⟩
          clear F10
          have hq3 := oV I3 hi hh hc n2
          dsimp only at *
          k_steps
          all_goals exact TurnAt.intro (st := (q3 ++ [_], kq3 + 1)) (F := by assumption) (by assumption) ⟨⟨⟨rfl, rfl, rfl, rfl, rfl⟩, rfl, rfl, rfl⟩, by rw [colP_succ, ← List.append_assoc]; exact intsAre_append I3 (.cons _ _ .nil)⟩
      case fin3 =>
        rintro ⟨q3, kq3⟩ m3 h3 tk3 ⟨⟨K3, z3, y3, x3⟩, I3⟩ F7 N7
        dsimp only at *
        k_steps
        all_goals exact TurnAt.intro (st := (q3, kq3)) F7 (cb_drop N7 (fun q hq => .tail _ hq)) ⟨⟨K3, z3⟩, by rw [headP_succ, ← List.append_assoc]; exact I3⟩
    case fin2 =>
      rintro ⟨q2, kq2⟩ m2 h2 tk2 ⟨⟨K2, z2⟩, I2⟩ F4 N4
      dsimp only at *
      k_steps
      all_goals exact TurnAt.intro (st := (q2, kq2)) F4 N4 ⟨K2, by rw [sizeP_succ, ← hn]; exact I2⟩
  case fin1 =>
    rintro ⟨q, kq⟩ m1 h1 tk1 ⟨K1, I1⟩ F1 N1
    have F2 := fr_pn F1 ⟨K1.row, K1.weight, K1.start, K1.step, K1.told⟩
    clear F1
    rw [sizeP_eq] at I1
    have hl14 : (F4 x wt st.toNat sp.toNat ++ F3 x wt st.toNat sp.toNat ++ [P4v x wt st.toNat sp.toNat 0]).length = 14 := rfl
    have hdr : (F4 x wt st.toNat sp.toNat ++ F3 x wt st.toNat sp.toNat ++ [P4v x wt st.toNat sp.toNat 0]).drop 13 = [P4v x wt st.toNat sp.toNat 0] := rfl
    generalize F4 x wt st.toNat sp.toNat ++ F3 x wt st.toNat sp.toNat ++ [P4v x wt st.toNat sp.toNat 0] = tl at *
    dsimp only at *
    k_steps
    rename IntsAre _ (tl ++ _) => hJ
    rename _ ∧ _ ∧ _ ∧ AllLt _ news => hAl
    have e : tl.drop (tl.length - (- -1 : Int).toNat) = [P4v x wt st.toNat sp.toNat 0] := by rw [hl14]; exact hdr
    rw [e] at hJ
    exact hret _ _ _ _ _ hJ (by assumption) (cb_drop (by assumption) (fun q hq => by
      rcases List.mem_cons.mp hq with rfl | hq
      · exact .head _
      · exact .tail _ (.tail _ (.tail _ (.tail _ hq))))) (allLt_mem hAl.2.2.2)
end
end
noncomputable def lawDef : Stmt := PySem.Challenge.pw_wf0007_01.main.body.getD 14 (.Pass ⟨0, 0, 0, 0⟩)
theorem law_of (P : List Stmt → Scope → Prop) {nm : Str} {ar : Arguments} {b : List Stmt} {ds : List PySem.Expr} {r : Option PySem.Expr} {tp : List TypeParam} {sc : Scope} {ts : Option Scope} {bn : Str} {p : Pos}
    (e : lawDef = .FunctionDef nm ar b ds r tp sc ts bn p) (h : P b sc) : P (dBody lawDef) (dScope lawDef) := by rw [e]; exact h
noncomputable abbrev lawCl (c1 c2 c3 c4 : Addr) : List (Str × Addr) := [(("width" : Str), c4), (("line" : Str), c3), (("row" : Str), c2), (("cells" : Str), c1)]
section
open PyProof.Rows.LCg
variable {prog : Program} {w : World} {A : Around} {E E' : Value → Shared → Prop} {s : Shared} {h₀ : Heap} {L : Addr} {m : Str → Option Value} {news : List (Addr × Obj)} {env : Env} {elt tgt iter : PySem.Expr} {scope : Scope} {cl : List (Str × Addr)} {pos : Pos}
theorem off_low {r : List (Addr × Obj)} {a b : Addr} (l : ∀ p ∈ r, p.1 < b) (h : @LT.lt Nat instLTNat b a) : ∀ p ∈ r, p.1 ≠ a := fun p hp => Nat.ne_of_lt (Nat.lt_trans (l p hp) h)
theorem arr_get {l : List Value} {i : Nat} {x : Value} (h : l[i]? = some x) : l.toArray[i]? = some x := by rw [List.getElem?_toArray]; exact h
theorem arr_none {l : List Value} {i : Nat} (h : l[i]? = none) : l.toArray[i]? = none := by rw [List.getElem?_toArray]; exact h
theorem lit_iter {l : Addr} {items : Array Value} {k : Nat} {Q : Value → Shared → Prop} (F : Fr h₀ L s.heap m) (N : News h₀ L s.heap news) (hl : (l, listOf items k) ∈ news)
    (h : ∀ it o h', Fr h₀ L h' m → News h₀ L h' ((it, o) :: news) → LitO o l 0 → (∀ p ∈ news, p.1 < it) → Q (.ref it) { s with heap := h' }) :
    wpAny (model prog w) A (pyIter (.ref l)) Q E s :=
  wpAny_pyIter_list ⟨_, (N _ hl).1, rfl, _, rfl⟩ (h s.heap.objs.size _ _ (F.push _) (N.push F _) ⟨rfl, rfl⟩ fun p hp => Heap.lt_size (N p hp).1)
theorem lit_self {it l : Addr} {i : Nat} {oi : Obj} {Q : Value → Shared → Prop} (S : LitO oi l i) (h : s.heap.get? it = some oi) (hQ : Q (.ref it) s) : wpAny (model prog w) A (pyIter (.ref it)) Q E s :=
  wpAny_pyIter_listiter ⟨oi, h, S⟩ hQ
theorem lit_next {it l : Addr} {i : Nat} {items : Array Value} {k : Nat} {x : Value} {oi : Obj} {g : Obj → List (Addr × Obj)} {Q : Option Value → Shared → Prop} (F : Fr h₀ L s.heap m) (N : News h₀ L s.heap news) (U : UpdF it oi news g) (hoi : LitO oi l i) (hl : (l, listOf items k) ∈ news) (hx : items[i]? = some x)
    (h : ∀ o' h', Fr h₀ L h' m → News h₀ L h' (g o') → LitO o' l (i + 1) → Q (some x) { s with heap := h' }) : wpAny (model prog w) A (pyNext (.ref it)) Q E s := by
  have z := N _ (updF_mem U)
  refine wpAny_pyNext_list_item ⟨oi, z.1, hoi⟩ ⟨_, (N _ hl).1, rfl, _, rfl⟩ hx fun h' hi hs => ?_
  obtain ⟨o', e, ho'⟩ := hi
  exact h o' h' (F.change hs z.2.1 z.2.2) (news_upd N U hs e) ho'
theorem lit_end {it l : Addr} {i : Nat} {items : Array Value} {k : Nat} {oi : Obj} {news' : List (Addr × Obj)} {Q : Option Value → Shared → Prop} (hh : A.handled = none) (F : Fr h₀ L s.heap m) (N : News h₀ L s.heap news) (hi : (it, oi) ∈ news) (D : DelF it news news') (hoi : LitO oi l i) (hl : (l, listOf items k) ∈ news) (hx : items[i]? = none)
    (h : ∀ h', Fr h₀ L h' m → News h₀ L h' news' → Q none { s with heap := h' }) : wpAny (model prog w) A (pyNext (.ref it)) Q E s := by
  have z := N _ hi
  exact wpAny_pyNext_list_end hh ⟨oi, z.1, hoi⟩ ⟨_, (N _ hl).1, rfl, _, rfl⟩ hx fun h' hs => h h' (fr_extBut F z.2.2 z.2.1 hs) (news_ext N hi D hs)
/-- a list block's turn, its target one name -/
theorem compW_step {cenv : Env} {acc it : Value} {Fin : Shared → Prop} {a : Str} {pa : Pos} {n : Nat}
    (h : wpAny (model prog w) A (pyNext it) (fun r s₁ => match r with
      | none => Fin s₁
      | some v => wpAny (model prog w) A (storeName cenv a v) (fun _ s₂ => wpAny (model prog w) A (eval elt cenv) (fun x s₄ => wpAny (model prog w) A (call (.builtin "list.append") [acc, x]) (fun _ s₅ => CompW prog w A elt (.Name a pa) cenv acc it Fin E' n s₅) E' s₄) E' s₂) E' s₁) E' s) :
    CompW prog w A elt (.Name a pa) cenv acc it Fin E' (n + 1) s := by
  refine wpAny_mono h (fun r s₁ h₁ => ?_) fun _ _ x => x
  cases r with
  | none => exact h₁
  | some v => exact wpAny_of_eq (a := ()) rfl (wpAny_assign_Name h₁)
theorem compW_stepK {cenv : Env} {acc it : Value} {Fin : Shared → Prop} {a : Str} {pa : Pos} {n : Nat}
    (h : ∀ K F2, ViaC (CompW prog w A elt (.Name a pa) cenv acc it Fin E' n) K → ViaC Fin F2 → wpAny (model prog w) A (pyNext it) (fun r s₁ => match r with
      | none => GoC F2 s₁
      | some v => wpAny (model prog w) A (storeName cenv a v) (fun _ s₂ => wpAny (model prog w) A (eval elt cenv) (fun x s₄ => wpAny (model prog w) A (call (.builtin "list.append") [acc, x]) (fun _ s₅ => GoC K s₅) E' s₄) E' s₂) E' s₁) E' s) :
    CompW prog w A elt (.Name a pa) cenv acc it Fin E' (n + 1) s := compW_step (h _ _ ⟨fun _ x => x⟩ ⟨fun _ x => x⟩)
theorem endC_cell {cn : Str} {cs : Scope} {a : Addr} {ccd : Value} {cl' : List (Str × Addr)} {y : Str} {py : Pos} {Q : Value → Shared → Prop} {C c : Addr} {oC o : Obj} {m₂ : Str → Option Value} {acc : Value} {news' g : Obj → List (Addr × Obj)} {v₀ : Option Value} (F : Fr h₀ L s.heap m) (N : News h₀ L s.heap news) (hC : (C, oC) ∈ news) (hoC : NsObj oC m₂)
    (hne : C ≠ c) (D : ∀ o', DelF C (g o') (news' o')) (hc : cl'.lookup y = some c) (U : UpdF c o news g) (hd : o.data = .cell v₀) (hk : cs.kind = .function) (hx : (envX cn cs L a ccd cl').kindOf y = some .cell)
    (h : ∀ h' o' tk', Fr h₀ L h' m → News h₀ L h' (news' o') → o'.data = .cell (some acc) → Q .none { s with heap := h', toks := tk' }) : EndC prog w A E (some (assign (.Name y py) (envX cn cs L a ccd cl'))) Q acc C s := by
  have z := N _ hC
  show wpAny _ A (assign (.Name y py) _ acc) _ _ _
  refine wpAny_assign_Name (storeX_C F N hc U hd (fun h₂ o' F₂ N₂ hd' => ?_) hk hx)
  have mC : (C, oC) ∈ g o' := by
    obtain ⟨pre, post, rfl, hg, a, b⟩ := U.split
    rw [hg]
    rcases List.mem_append.mp hC with q | q
    · exact List.mem_append.mpr (.inl q)
    · rcases List.mem_cons.mp q with q | q
      · exact absurd (congrArg Prod.fst q) hne
      · exact List.mem_append.mpr (.inr (.tail _ q))
  refine ⟨m₂, hoC.ns (N₂ _ mC).1, fun h' hs => h h' o' _ (F₂.change hs z.2.1 z.2.2) (fun p hp => ?_) hd'⟩
  have d := (D o').sub p hp
  exact ⟨hs.extBut _ _ d.2 (N₂ p d.1).1, (N₂ p d.1).2⟩
theorem ints_of_mem {vs : List Value} {ns : List Int} (I : IntsAre vs ns) : ∀ v ∈ vs, ∃ n t, v = .int n t := by
  induction I with
  | nil => intro v hv; cases hv
  | cons n t _ ih =>
    intro v hv
    rcases List.mem_cons.mp hv with rfl | hv
    · exact ⟨n, t, rfl⟩
    · exact ih v hv
theorem ints_of_all : ∀ {vs : List Value}, (∀ v ∈ vs, ∃ n t, v = .int n t) → ∃ ns, IntsAre vs ns
  | [], _ => ⟨[], .nil⟩
  | v :: r, h => by
    obtain ⟨n, t, rfl⟩ := h v (.head _)
    obtain ⟨ns, I⟩ := ints_of_all (vs := r) fun v hv => h v (.tail _ hv)
    exact ⟨n :: ns, .cons n t I⟩
/-- whatever a slice of ints picks, it is ints -/
theorem pick_ints {vs : List Value} {ns : List Int} (I : IntsAre vs ns) (lo hi st : Option Int) : ∃ ms, IntsAre (slicePick vs.toArray lo hi st).toList ms := by
  refine ints_of_all fun v hv => ints_of_mem I v ?_
  unfold slicePick at hv
  rw [List.toList_toArray] at hv
  obtain ⟨i, _, hi⟩ := List.mem_filterMap.mp hv
  rw [List.getElem?_toArray] at hi
  exact List.mem_of_getElem? hi
theorem ld_cellC {C c : Addr} {x : Str} {px : Pos} {v : Value} {o : Obj} {Q : Value → Shared → Prop} (N : News h₀ L s.heap news) (hc : cl.lookup x = some c) (hm : (c, o) ∈ news) (hd : o.data = .cell (some v)) (h : Q v s)
    (hk : (compEnvC scope cl C env).scope.kind = .function) (hl : (compEnvC scope cl C env).kindOf x = some .cell) (hdb : (x == ("__debug__" : Str)) = false) :
    wpAny (model prog w) A (eval (.Name x px) (compEnvC scope cl C env)) Q E s := wpAny_Name (wpAny_loadName_cell hk hl hc ⟨o, N.get hm, hd⟩ h) hdb
theorem ld_freeC {C c : Addr} {x : Str} {px : Pos} {v : Value} {o : Obj} {Q : Value → Shared → Prop} (N : News h₀ L s.heap news) (hc : cl.lookup x = some c) (hm : (c, o) ∈ news) (hd : o.data = .cell (some v)) (h : Q v s)
    (hk : (compEnvC scope cl C env).scope.kind = .function) (hl : (compEnvC scope cl C env).kindOf x = some .free) (hdb : (x == ("__debug__" : Str)) = false) (hn : (x == ("__classdict__" : Str)) = false) :
    wpAny (model prog w) A (eval (.Name x px) (compEnvC scope cl C env)) Q E s := wpAny_Name (wpAny_loadName_free hk hl hc ⟨o, N.get hm, hd⟩ h hn) hdb
theorem slice3_ints {l : Addr} {vs : List Value} {ns : List Int} {n : Nat} {vl vu vk : Value} {lo hi st : Option Int} {value slice : PySem.Expr} {ops : List Value} {Q : Value → Shared → Prop} (F : Fr h₀ L s.heap m) (N : News h₀ L s.heap news) (hl : (l, listOf vs.toArray n) ∈ news) (I : IntsAre vs ns) (hz : vs.length ≤ 1000) (pl : IsPart vl lo) (pu : IsPart vu hi) (pk : IsPart vk st) (h0 : st ≠ some 0)
    (h : ∀ D ws ms h', Fr h₀ L h' m → News h₀ L h' ((D, listOf (List.toArray ws) 0) :: news) → (∀ p ∈ news, p.1 < D) → IntsAre ws ms → Q (.ref D) { s with heap := h' })
    (hs : subscripted slice false (.ref l) (.ref s.heap.objs.size) = operate ops (getItem (.ref l) (.ref s.heap.objs.size))) (ht : ∀ r, letTemporaryGo value (.ref l) r = pure ()) :
    wpAny (model prog w) A (subscriptTail value slice (.ref l) (.ref s.heap.objs.size)) Q E { s with heap := s.heap.push { cls := .type "slice", data := .fields #[vl, vu, vk] } } := by
  obtain ⟨ms, J⟩ := pick_ints I lo hi st
  exact kmk_slice3_lit F N ⟨_, (N _ hl).1, rfl, _, rfl⟩ pl pu pk h0 rfl (fun D h' F' N' l1 => h D _ ms h' F' N' l1 J) hs ht (by rw [sizeLine_eq]; simp; omega)
end
section
noncomputable def signB (a : Nat) : Bool := a == 45 || (decide (48 ≤ a) && decide (a ≤ 57))
noncomputable def wordB : List Nat → Bool
  | [a] => signB a
  | [a, b] => signB a && signB b
  | _ => false
theorem sign_of {a : Nat} (h : signB a = true) : Sign a := by
  simp only [signB, Bool.or_eq_true, beq_iff_eq, Bool.and_eq_true, decide_eq_true_eq] at h
  exact h
theorem word_of_B {cs : List Nat} (h : wordB cs = true) : Word cs := by
  match cs, h with
  | [a], h => exact .inl ⟨a, rfl, sign_of h⟩
  | [a, b], h =>
    simp only [wordB, Bool.and_eq_true] at h
    exact .inr ⟨a, b, rfl, sign_of h.1, sign_of h.2⟩
theorem words_34 : ∀ k : Nat, k < 34 → wordB (Str.ofString (toString ((k : Int) - 1))).cps.toList = true ∧ PySem.intText? (Str.ofString (toString ((k : Int) - 1))) = some ((k : Int) - 1) := by decide +kernel
theorem word_of {n : Int} (h0 : -1 ≤ n) (h1 : n ≤ 32) : ∃ cs, Word cs ∧ Str.ofString (toString n) = ⟨cs.toArray⟩ ∧ PySem.intText? ⟨cs.toArray⟩ = some n := by
  obtain ⟨k, hk⟩ := Int.eq_ofNat_of_zero_le (a := n + 1) (by omega)
  have e : n = (k : Int) - 1 := by omega
  subst e
  obtain ⟨h2, h3⟩ := words_34 k (by omega)
  refine ⟨_, word_of_B h2, ?_, ?_⟩
  · rw [Array.toArray_toList]
  · rw [Array.toArray_toList]; exact h3
theorem str_as {prog : Program} {w : World} {A : Around} {E : Value → Shared → Prop} {s : Shared} {a : Int} {t : Tok} {x : Str} {Q : Value → Shared → Prop} (ha : a.natAbs ≤ 100) (e : Str.ofString (toString a) = x) (h : ∀ t k, Q (.str x t) { s with toks := k }) :
    wpAny (model prog w) A (call (.type "str") [.int a t]) Q E s := by
  subst e
  refine PySem.P.str_of_int ?_ (h _ _)
  by_cases h0 : a.natAbs = 0
  · rw [h0]; decide
  · exact (Nat.log2_lt h0).mpr (Nat.lt_of_le_of_lt ha (Nat.lt_of_lt_of_le (by decide : 100 < 2 ^ 7) (Nat.pow_le_pow_right (by decide) (by decide))))
end
section
inductive SignsAre : List Value → List Nat → Prop
  | nil : SignsAre [] []
  | cons {vs : List Value} {cs : List Nat} (c : Nat) (t : Tok) : SignsAre vs cs → SignsAre (.str ⟨#[c]⟩ t :: vs) (c :: cs)
theorem SignsAre.length {vs : List Value} {cs : List Nat} (h : SignsAre vs cs) : vs.length = cs.length := by
  induction h with
  | nil => rfl
  | cons c t _ ih => simp [ih]
theorem SignsAre.app {vs : List Value} {cs ds : List Nat} (h : SignsAre vs (cs ++ ds)) : ∃ us ws, vs = us ++ ws ∧ SignsAre us cs ∧ SignsAre ws ds := by
  induction cs generalizing vs with
  | nil => exact ⟨[], vs, rfl, .nil, h⟩
  | cons c cs ih =>
    cases h with
    | cons c t h =>
      obtain ⟨us, ws, rfl, h1, h2⟩ := ih h
      exact ⟨_ :: us, ws, rfl, .cons c t h1, h2⟩
theorem SignsAre.nil_of {vs : List Value} (h : SignsAre vs []) : vs = [] := by cases h; rfl
theorem SignsAre.one {vs : List Value} {c : Nat} {cs : List Nat} (h : SignsAre vs (c :: cs)) : ∃ t ws, vs = .str ⟨#[c]⟩ t :: ws ∧ SignsAre ws cs := by
  cases h with
  | cons c t h => exact ⟨t, _, rfl, h⟩
theorem signs_of {vs : List Value} {cs : List Nat} (hl : vs.length = cs.length) (h : ∀ (i : Nat) (c : Nat), cs[i]? = some c → ∃ t, vs[i]? = some (.str ⟨#[c]⟩ t)) : SignsAre vs cs := by
  induction cs generalizing vs with
  | nil =>
    obtain rfl : vs = [] := List.eq_nil_of_length_eq_zero hl
    exact .nil
  | cons c cs ih =>
    cases vs with
    | nil => cases hl
    | cons v vs =>
      obtain ⟨t, e⟩ := h 0 c rfl
      obtain rfl : v = .str ⟨#[c]⟩ t := Option.some.inj e
      refine .cons c t (ih (by simpa using hl) fun i c' hc => ?_)
      exact h (i + 1) c' hc
theorem list_strK {prog : Program} {w : World} {A : Around} {E : Value → Shared → Prop} {s : Shared} {h₀ : Heap} {L : Addr} {m : Str → Option Value} {news : List (Addr × Obj)} {x : Str} {t : Tok} {Q : Value → Shared → Prop} (hh : A.handled = none) (F : Fr h₀ L s.heap m) (N : News h₀ L s.heap news) (hz : x.cps.size ≤ 1000)
    (h : ∀ D vs k h' tk, Fr h₀ L h' m → News h₀ L h' ((D, listOf (List.toArray vs) k) :: news) → (∀ p ∈ news, p.1 < D) → SignsAre vs x.cps.toList → vs.length ≤ 1000 → Q (.ref D) { s with heap := h', toks := tk }) :
    wpAny (model prog w) A (call (.type "list") [.str x t]) Q E s := by
  refine call_list_str hh x t (fun h' tk acc' c' hk hD hI => ?_) (by rw [sizeLine_eq]; omega)
  refine h s.heap.objs.size acc'.toList c' h' tk (F.keeps hk) ?_ (fun p hp => Heap.lt_size (N p hp).1) ?_ (by have := hI.1; simp; omega)
  · intro p hp
    rcases List.mem_cons.mp hp with rfl | hp
    · exact ⟨hD, Nat.ne_of_gt F.ns.lt, Heap.get?_none_of_le (Nat.le_trans F.above (Nat.le_of_lt F.ns.lt))⟩
    · exact ⟨hk _ _ (N p hp).1, (N p hp).2⟩
  · refine signs_of (by simpa using hI.1) fun i c hc => ?_
    have hi : i < acc'.size := by
      rw [hI.1]
      have := (List.getElem?_eq_some_iff.mp hc).1
      simpa using this
    obtain ⟨c', u, e1, e2⟩ := hI.2 i acc'[i] (Array.getElem?_eq_getElem hi)
    rw [Array.getElem?_toList] at hc
    rw [hc] at e1
    cases e1
    exact ⟨u, by rw [Array.getElem?_toList, Array.getElem?_eq_getElem hi, e2]⟩
end
section
set_option maxHeartbeats 1600000 in
theorem new_spec {w : World} {tp : Program} {lo : List Str} {mean : ExcName → Option Value} {mg mb : Str → Option Value}
    {dp un : Nat} {gd : Option (List Code)} {cn : Str} {cs : Scope} {a : Addr} {ccd : Value} {cl : List (Str × Addr)} {outer : List Env} {A₀ : Around} {base h₀ : Heap} {L : Addr} {m : Str → Option Value} {news : List (Addr × Obj)} {s : Shared}
    {v : Value} {Q E : Value → Shared → Prop}
    (H : Here w tp lo mean mg mb dp un outer cs A₀ base h₀ L m news s 16 200)
    (hret : ∀ x dx pb t1 t2 t3 t4 tl tw h' tk', Fr h₀ L h' m → News h₀ L h' ((pb, listOf ([] : List Value).toArray 0) :: (x, instObj 52 dx) :: (dx, dictOf (lexEs (PyData.keyHash w.params "lineno") (PyData.keyHash w.params "instream") (PyData.keyHash w.params "whitespace") (PyData.keyHash w.params "pushback") t1 t2 t3 t4 (.int 1 tl) v (.str "\n\t\r " tw) (.ref pb)) 4) :: news) →
      (∀ p ∈ news, p.1 < dx) → @LT.lt Nat instLTNat dx x → @LT.lt Nat instLTNat x pb → Q (.ref x) { s with heap := h', toks := tk' }) :
    wpAny (model (RowW.prog (OpenRow.toRowW (OpenLaw.row PySem.Challenge.rw_wf0007_01))) w) (ktrTop dp un gd cn cs L a ccd cl outer) (call (.ref 52) [v]) Q E s := by
  obtain ⟨B, F, X, N, T, hk, hC, hd, hu⟩ := H
  (refine' call_cls ?k1 ?k2 ?k3 ?k4 ?k5 ?k6 ?_; (case k1 => k_asm); (case k2 => k_asm); (case k3 => k_asm); (case k4 => k_is); (case k5 => k_is); (case k6 => k_is); k_whole; intro x' d' h' F' N' l1 l2; (try k_lt2 l2))
  k_dflt cell_enter
  k_steps
  all_goals exact hret _ _ _ _ _ _ _ _ _ _ _ (by assumption) (by assumption) l1 l2 (by omega)
end
section
noncomputable def lexerDef : Stmt := PySem.Challenge.pw_wf0007_01.main.body.getD 10 (.Pass ⟨0, 0, 0, 0⟩)
noncomputable def lexQual : Str := qualnameIn (envOfC "_law_lexer" (dScope lexerDef) 0 98 (.ref 97)) "_law_piece" "_law_piece"
theorem nw_cons {h₀ h : Heap} {L : Addr} {src l : List (Addr × Obj)} {a : Addr × Obj} (N : News h₀ L h src) (m : a ∈ src) (h2 : News h₀ L h l) : News h₀ L h (a :: l) := fun p hp => by
  rcases List.mem_cons.mp hp with rfl | hp
  · exact N _ m
  · exact h2 p hp
theorem off_lowF {g : Obj → List (Addr × Obj)} {a b : Addr} (l : ∀ o', ∀ p ∈ g o', p.1 < b) (h : @LT.lt Nat instLTNat b a) (o' : Obj) : ∀ p ∈ g o', p.1 ≠ a := fun p hp => Nat.ne_of_lt (Nat.lt_trans (l o' p hp) h)
theorem low_updF {d : Addr} {o : Obj} {l : List (Addr × Obj)} {g : Obj → List (Addr × Obj)} {b : Addr} (U : UpdF d o l g) (h : ∀ p ∈ l, p.1 < b) : ∀ o', ∀ p ∈ g o', p.1 < b := fun o' p hp => by
  rcases UpdF.mem_new U p hp with rfl | ⟨hp, _⟩
  · exact (h (d, o) (updF_mem U) : d < b)
  · exact h p hp
local macro_rules | `(tactic| k_all) => `(tactic| first | exact off_low (by with_reducible assumption) (by first | walk_at "lt" | omega) | exact off_lowF (by with_reducible assumption) (by first | walk_at "lt" | omega) _ | (refine off_cons (by walk_at "ltne") ?_; k_all))
local macro_rules | `(tactic| walk_at "т") => `(tactic| first | with_reducible assumption | decide)
local macro_rules | `(tactic| walk_at "call type:list") => `(tactic| k_dat list_strK "rFFт_" "_______h__DS")
local macro_rules | `(tactic| walk_at "н") => `(tactic| kmk_list)
local macro_rules | `(tactic| walk_at "у") => `(tactic| exact IsPart.int _ _)
local macro_rules | `(tactic| walk_at "р") => `(tactic| kmk_pure)
local macro_rules | `(tactic| walk_at "ф") => `(tactic| (rw [sizeLine_eq, List.size_toArray]; omega))
local macro_rules | `(tactic| walk_at "subscriptTail Name Slice ref ref") => `(tactic| k_dat krv_lit "FFнуr_wрф" "____hDS")
local macro_rules | `(tactic| walk_at "х") => `(tactic| k_dflt (show wpAny _ _ (call (Value.ref 52) _) _ _ _))
local macro_rules | `(tactic| walk_at "call ref") => `(tactic| (walk_at "х"; k_dat new_spec "H_" "____________Lh__DS"))
local macro_rules | `(tactic| walk_at "callWith ref") => `(tactic| k_dat callWith_K "Fi_" "")
set_option maxHeartbeats 1600000 in
theorem lexer_first {w : World} {tp : Program} {lo : List Str} {mean : ExcName → Option Value} {mg mb : Str → Option Value}
    {dp un : Nat} {gd : Option (List Code)} {cn : Str} {cs : Scope} {a : Addr} {ccd : Value} {cl : List (Str × Addr)} {outer : List Env} {A₀ : Around} {base h₀ : Heap} {L : Addr} {m : Str → Option Value} {news : List (Addr × Obj)} {s : Shared}
    {X9 : Str} {tx : Tok} {g : Obj → List (Addr × Obj)} {Q E : Value → Shared → Prop}
    (H : Here w tp lo mean mg mb dp un outer cs A₀ base h₀ L m news s 24 300) (hz : X9.cps.size ≤ 1000) (hU : UpdF 93 (tabObj #[]) news g)
    (hret : ∀ x dx pb fo st dst sg ce c' oc cvs tc oce vs t1 t2 t3 t4 tl tw u1 u2 u3 u4 u5 yl yi yw yp doc pm ctv h' tk', Fr h₀ L h' m → News h₀ L h' ((pb, listOf ([] : List Value).toArray 0) :: (x, instObj 52 dx) :: (dx, dictOf (lexEs (PyData.keyHash w.params "lineno") (PyData.keyHash w.params "instream") (PyData.keyHash w.params "whitespace") (PyData.keyHash w.params "pushback") t1 t2 t3 t4 (.int 1 tl) (.ref st) (.str "\n\t\r " tw) (.ref pb)) 4) ::
        (fo, fnMade (dName pieceDef) lexQual (dParams pieceDef) (dBody pieceDef) (dScope pieceDef) [("signs", ce)] doc pm c' ctv) :: (c', oc) :: (st, instObj 52 dst) ::
        (dst, dictOf (stmEs (PyData.keyHash w.params "lineno") (PyData.keyHash w.params "instream") (PyData.keyHash w.params "whitespace") (PyData.keyHash w.params "pushback") (PyData.keyHash w.params "read") u1 u2 u3 u4 u5 yl yi yw yp (.ref fo)) 5) :: (sg, listOf vs.reverse.toArray 0) :: (ce, oce) :: g (tabObj (#[] ++ #[rawInt ((67 : Nat) : Int), rawInt ((4 : Nat) : Int), .ref c']))) → oc.data = .fields cvs → cvs[1]? = some (.str lexQual tc) →
      SignsAre vs X9.cps.toList → oce.data = .cell (some (.ref sg)) → (∀ p ∈ news, p.1 < ce) → @LT.lt Nat instLTNat ce sg → @LT.lt Nat instLTNat sg dst → @LT.lt Nat instLTNat dst st → @LT.lt Nat instLTNat st c' → @LT.lt Nat instLTNat c' fo → @LT.lt Nat instLTNat fo dx → @LT.lt Nat instLTNat dx x → @LT.lt Nat instLTNat x pb → Q (.ref x) { s with heap := h', toks := tk' }) :
    wpAny (model (RowW.prog (OpenRow.toRowW (OpenLaw.row PySem.Challenge.rw_wf0007_01))) w) (ktrTop dp un gd cn cs L a ccd cl outer) (call (.ref 98) [.str X9 tx]) Q E s := by
  obtain ⟨B, F, X, N, T, hk, hC, hd, hu⟩ := H
  refine wpAny_call ?_
  (refine' code_defC ?k1 ?k2 ?k3 ?k4 ?k5 ?kA ?kF ?kK ?k6 ?k7 ?k8 ?k9 ?kB ?kD ?_ ?c2 ?c3 ?c4; (case kA => exact rfl); (case kF => exact rfl); (case kK => assumption); (case k1 => k_asm); (case k2 => k_asm); (case k3 => k_asm); (case k4 => k_asm); (case k5 => k_asm); (case k6 => k_is); (case k7 => k_is); (case k8 => k_room); (case k9 => exact BindsTo.of_eq rfl); (case kB => exact rfl); (case kD => decide +kernel); (case c2 => exact rfl); (case c3 => exact rfl); (case c4 => exact rfl); k_whole; intro g' L' h' tk' cells' FG' F' N' Y' B' X' T' l1; k_cells Y'; (try simp only [List.cons_append, List.nil_append] at N'); (try dsimp only); (try k_lift B'); (try k_fold))
  have h93 : @LT.lt Nat instLTNat 93 L' := l1 (93, _) (updF_mem hU)
  have hgl := low_updF hU l1
  k_steps
  rename Obj.data _ = Data.cell (some _) => dce
  rename Obj.data _ = Data.fields _ => dco
  rename _ = some (Value.str _ _) => dcv
  rename SignsAre _ _ => hSg
  rename News h₀ L _ _ => N9
  rename Fr h₀ L _ m => F9
  with_unfolding_all refine' hret _ _ _ _ _ _ _ _ _ _ _ _ _ _ _ _ _ _ _ _ _ _ _ _ _ _ _ _ _ _ _ _ _ _ ?F ?N dco dcv hSg dce ?l ?a ?b ?c ?d ?e ?f ?g ?hh
  case F => exact F9
  case N =>
    with_unfolding_all refine' nw_cons N9 (List.Mem.head _) ?_
    with_unfolding_all refine' nw_cons N9 (List.Mem.tail _ (List.Mem.head _)) ?_
    with_unfolding_all refine' nw_cons N9 (List.Mem.tail _ (List.Mem.tail _ (List.Mem.head _))) ?_
    with_unfolding_all refine' nw_cons N9 (List.Mem.tail _ (List.Mem.tail _ (List.Mem.tail _ (List.Mem.head _)))) ?_
    with_unfolding_all refine' nw_cons N9 (List.Mem.tail _ (List.Mem.tail _ (List.Mem.tail _ (List.Mem.tail _ (List.Mem.head _))))) ?_
    with_unfolding_all refine' nw_cons N9 (List.Mem.tail _ (List.Mem.tail _ (List.Mem.tail _ (List.Mem.tail _ (List.Mem.tail _ (List.Mem.tail _ (List.Mem.head _))))))) ?_
    with_unfolding_all refine' nw_cons N9 (List.Mem.tail _ (List.Mem.tail _ (List.Mem.tail _ (List.Mem.tail _ (List.Mem.tail _ (List.Mem.tail _ (List.Mem.tail _ (List.Mem.head _)))))))) ?_
    with_unfolding_all refine' nw_cons N9 (List.Mem.tail _ (List.Mem.tail _ (List.Mem.tail _ (List.Mem.tail _ (List.Mem.tail _ (List.Mem.tail _ (List.Mem.tail _ (List.Mem.tail _ (List.Mem.head _))))))))) ?_
    with_unfolding_all refine' nw_cons N9 (List.Mem.tail _ (List.Mem.tail _ (List.Mem.tail _ (List.Mem.tail _ (List.Mem.tail _ (List.Mem.tail _ (List.Mem.tail _ (List.Mem.tail _ (List.Mem.tail _ (List.Mem.tail _ (List.Mem.head _))))))))))) ?_
    exact fun p hp => N9 p (List.Mem.tail _ (List.Mem.tail _ (List.Mem.tail _ (List.Mem.tail _ (List.Mem.tail _ (List.Mem.tail _ (List.Mem.tail _ (List.Mem.tail _ (List.Mem.tail _ (List.Mem.tail _ (List.Mem.tail _ hp)))))))))))
  case l => exact fun p hp => Nat.lt_succ_of_lt (l1 p hp)
  all_goals omega
end
section
local macro_rules | `(tactic| k_all) => `(tactic| first | exact off_low (by with_reducible assumption) (by first | walk_at "lt" | omega) | exact off_lowF (by with_reducible assumption) (by first | walk_at "lt" | omega) _ | (refine off_cons (by walk_at "ltne") ?_; k_all))
local macro_rules | `(tactic| walk_at "т") => `(tactic| first | with_reducible assumption | decide)
local macro_rules | `(tactic| walk_at "call type:list") => `(tactic| k_dat list_strK "rFFт_" "_______h__DS")
local macro_rules | `(tactic| walk_at "н") => `(tactic| kmk_list)
local macro_rules | `(tactic| walk_at "у") => `(tactic| exact IsPart.int _ _)
local macro_rules | `(tactic| walk_at "р") => `(tactic| kmk_pure)
local macro_rules | `(tactic| walk_at "ф") => `(tactic| (rw [sizeLine_eq, List.size_toArray]; omega))
local macro_rules | `(tactic| walk_at "subscriptTail Name Slice ref ref") => `(tactic| k_dat krv_lit "FFнуr_wрф" "____hDS")
local macro_rules | `(tactic| walk_at "х") => `(tactic| k_dflt (show wpAny _ _ (call (Value.ref 52) _) _ _ _))
local macro_rules | `(tactic| walk_at "call ref") => `(tactic| (walk_at "х"; k_dat new_spec "H_" "____________Lh__DS"))
local macro_rules | `(tactic| walk_at "callWith ref") => `(tactic| k_dat callWith_K "Fi_" "")
local macro_rules | `(tactic| walk_at "zq") => `(tactic| fail "zq")
set_option maxHeartbeats 1600000 in
theorem lexer_hit {w : World} {tp : Program} {lo : List Str} {mean : ExcName → Option Value} {mg mb : Str → Option Value}
    {dp un : Nat} {gd : Option (List Code)} {cn : Str} {cs : Scope} {a : Addr} {ccd : Value} {cl : List (Str × Addr)} {outer : List Env} {A₀ : Around} {base h₀ : Heap} {L : Addr} {m : Str → Option Value} {news : List (Addr × Obj)} {s : Shared}
    {X9 : Str} {tx : Tok} {c' : Addr} {Q E : Value → Shared → Prop}
    (H : Here w tp lo mean mg mb dp un outer cs A₀ base h₀ L m news s 24 300) (hz : X9.cps.size ≤ 1000) (hM : (93, tabObj (#[] ++ #[rawInt ((67 : Nat) : Int), rawInt ((4 : Nat) : Int), .ref c'])) ∈ news)
    (hret : ∀ x dx pb fo st dst sg ce oce vs t1 t2 t3 t4 tl tw u1 u2 u3 u4 u5 yl yi yw yp doc pm ctv h' tk', Fr h₀ L h' m → News h₀ L h' ((pb, listOf ([] : List Value).toArray 0) :: (x, instObj 52 dx) :: (dx, dictOf (lexEs (PyData.keyHash w.params "lineno") (PyData.keyHash w.params "instream") (PyData.keyHash w.params "whitespace") (PyData.keyHash w.params "pushback") t1 t2 t3 t4 (.int 1 tl) (.ref st) (.str "\n\t\r " tw) (.ref pb)) 4) ::
        (fo, fnMade (dName pieceDef) lexQual (dParams pieceDef) (dBody pieceDef) (dScope pieceDef) [("signs", ce)] doc pm c' ctv) :: (st, instObj 52 dst) ::
        (dst, dictOf (stmEs (PyData.keyHash w.params "lineno") (PyData.keyHash w.params "instream") (PyData.keyHash w.params "whitespace") (PyData.keyHash w.params "pushback") (PyData.keyHash w.params "read") u1 u2 u3 u4 u5 yl yi yw yp (.ref fo)) 5) :: (sg, listOf vs.reverse.toArray 0) :: (ce, oce) :: news) →
      SignsAre vs X9.cps.toList → oce.data = .cell (some (.ref sg)) → (∀ p ∈ news, p.1 < ce) → @LT.lt Nat instLTNat ce sg → @LT.lt Nat instLTNat sg dst → @LT.lt Nat instLTNat dst st → @LT.lt Nat instLTNat st fo → @LT.lt Nat instLTNat fo dx → @LT.lt Nat instLTNat dx x → @LT.lt Nat instLTNat x pb → Q (.ref x) { s with heap := h', toks := tk' }) :
    wpAny (model (RowW.prog (OpenRow.toRowW (OpenLaw.row PySem.Challenge.rw_wf0007_01))) w) (ktrTop dp un gd cn cs L a ccd cl outer) (call (.ref 98) [.str X9 tx]) Q E s := by
  obtain ⟨B, F, X, N, T, hk, hC, hd, hu⟩ := H
  refine wpAny_call ?_
  (refine' code_defC ?k1 ?k2 ?k3 ?k4 ?k5 ?kA ?kF ?kK ?k6 ?k7 ?k8 ?k9 ?kB ?kD ?_ ?c2 ?c3 ?c4; (case kA => exact rfl); (case kF => exact rfl); (case kK => assumption); (case k1 => k_asm); (case k2 => k_asm); (case k3 => k_asm); (case k4 => k_asm); (case k5 => k_asm); (case k6 => k_is); (case k7 => k_is); (case k8 => k_room); (case k9 => exact BindsTo.of_eq rfl); (case kB => exact rfl); (case kD => decide +kernel); (case c2 => exact rfl); (case c3 => exact rfl); (case c4 => exact rfl); k_whole; intro g' L' h' tk' cells' FG' F' N' Y' B' X' T' l1; k_cells Y'; (try simp only [List.cons_append, List.nil_append] at N'); (try dsimp only); (try k_lift B'); (try k_fold))
  have h93 : @LT.lt Nat instLTNat 93 L' := l1 (93, _) hM
  k_steps
  rename Obj.data _ = Data.cell (some _) => dce
  rename SignsAre _ _ => hSg
  rename News h₀ L _ _ => N9
  rename Fr h₀ L _ m => F9
  with_unfolding_all refine' hret _ _ _ _ _ _ _ _ _ _ _ _ _ _ _ _ _ _ _ _ _ _ _ _ _ _ _ _ _ _ ?F ?N hSg dce ?l ?a ?b ?c ?d ?f ?g ?hh
  case F => exact F9
  case N =>
    with_unfolding_all refine' nw_cons N9 (List.Mem.head _) ?_
    with_unfolding_all refine' nw_cons N9 (List.Mem.tail _ (List.Mem.head _)) ?_
    with_unfolding_all refine' nw_cons N9 (List.Mem.tail _ (List.Mem.tail _ (List.Mem.head _))) ?_
    with_unfolding_all refine' nw_cons N9 (List.Mem.tail _ (List.Mem.tail _ (List.Mem.tail _ (List.Mem.head _)))) ?_
    with_unfolding_all refine' nw_cons N9 (List.Mem.tail _ (List.Mem.tail _ (List.Mem.tail _ (List.Mem.tail _ (List.Mem.tail _ (List.Mem.head _)))))) ?_
    with_unfolding_all refine' nw_cons N9 (List.Mem.tail _ (List.Mem.tail _ (List.Mem.tail _ (List.Mem.tail _ (List.Mem.tail _ (List.Mem.tail _ (List.Mem.head _))))))) ?_
    with_unfolding_all refine' nw_cons N9 (List.Mem.tail _ (List.Mem.tail _ (List.Mem.tail _ (List.Mem.tail _ (List.Mem.tail _ (List.Mem.tail _ (List.Mem.tail _ (List.Mem.head _)))))))) ?_
    with_unfolding_all refine' nw_cons N9 (List.Mem.tail _ (List.Mem.tail _ (List.Mem.tail _ (List.Mem.tail _ (List.Mem.tail _ (List.Mem.tail _ (List.Mem.tail _ (List.Mem.tail _ (List.Mem.tail _ (List.Mem.head _)))))))))) ?_
    exact fun p hp => N9 p (List.Mem.tail _ (List.Mem.tail _ (List.Mem.tail _ (List.Mem.tail _ (List.Mem.tail _ (List.Mem.tail _ (List.Mem.tail _ (List.Mem.tail _ (List.Mem.tail _ (List.Mem.tail _ hp))))))))))
  case l => exact fun p hp => Nat.lt_succ_of_lt (l1 p hp)
  all_goals omega
end
section
noncomputable def signL : List Nat := [45, 48, 49, 50, 51, 52, 53, 54, 55, 56, 57]
theorem sign_mem {a : Nat} (h : Sign a) : a ∈ signL := by
  have all : ∀ a, a < 58 → (a = 45 ∨ (48 ≤ a ∧ a ≤ 57)) → a ∈ signL := by decide +kernel
  refine all a ?_ h
  rcases h with rfl | h
  · decide
  · exact Nat.lt_succ_of_le h.2
theorem sign_facts : ∀ a ∈ signL, ((⟨#[a]⟩ : Str) == ("\n" : Str)) = false ∧ ((⟨#[a]⟩ : Str) == ("\"" : Str)) = false ∧ ((⟨#[a]⟩ : Str) == ("\\" : Str)) = false ∧ ((⟨#[a]⟩ : Str) == ("" : Str)) = false ∧ (!(Builtin.Str.occurrences ("\n\t\r " : Str) (⟨#[a]⟩ : Str) 0 (Str.length ("\n\t\r " : Str)) 1).isEmpty) = false ∧ (⟨#[a]⟩ : Str).length = 1 := by decide +kernel
theorem updF_same {d : Addr} {o : Obj} : ∀ {l : List (Addr × Obj)} {g : Obj → List (Addr × Obj)}, UpdF d o l g → g o = l
  | _, _, .head _ => rfl
  | _, _, .tail _ r => congrArg _ (updF_same r)
theorem ofS32 : (" " : Str) = ⟨#[32]⟩ := by decide +kernel
theorem ofS34 : ("\"" : Str) = ⟨#[34]⟩ := by decide +kernel
theorem ofS10 : ("\n" : Str) = ⟨#[10]⟩ := by decide +kernel
theorem ofS92 : ("\\" : Str) = ⟨#[92]⟩ := by decide +kernel
noncomputable def nlOf (k : Int) : Int := if k.fmod 3 = 0 then 0 else if k.fmod 3 = 1 then 0 else 1
theorem rev_split {vs us ws : List Value} (h : vs.reverse = us ++ ws) : vs = ws.reverse ++ us.reverse := by
  rw [← List.reverse_append, ← h, List.reverse_reverse]
set_option maxHeartbeats 1000000 in
/-- a word is read, whatever the manner in which it is written -/
theorem tok_spec {w : World} {tp : Program} {lo : List Str} {mean : ExcName → Option Value} {mg mb : Str → Option Value}
    {dp un : Nat} {gd : Option (List Code)} {cn : Str} {cs : Scope} {a : Addr} {ccd : Value} {cl : List (Str × Addr)} {outer : List Env} {A₀ : Around} {base h₀ : Heap} {L : Addr} {m : Str → Option Value} {news : List (Addr × Obj)} {s : Shared}
    {x dx st dst pb : Addr} {sl sl' : Array (Option Value)} {h1 h2 h3 h4 : Int} {t1 t2 t3 t4 tw : Tok} {l : Int} {tl : Tok} {kp : Nat}
    {g1 g2 g3 g4 g5 : Int} {u1 u2 u3 u4 u5 : Tok} {yl yi yw yp : Value} {n' : Nat}
    {fo ce sg c' : Addr} {qual : Str} {doc pm ctv : Value} {oc oce : Obj} {cvs : Array Value} {t : Tok} {vs : List Value} {k : Nat} {g : Obj → List (Addr × Obj)} {gg : Obj → Obj → List (Addr × Obj)}
    {ws rest : List Nat} {mn : Int} {Q E : Value → Shared → Prop}
    (H : Here w tp lo mean mg mb dp un outer cs A₀ base h₀ L m news s 20 200)
    (hx : (x, (⟨.ref 52, some dx, .plain, sl⟩ : Obj)) ∈ news) (hdx : (dx, dictOf (lexEs h1 h2 h3 h4 t1 t2 t3 t4 (.int l tl) (.ref st) (.str "\n\t\r " tw) (.ref pb)) 4) ∈ news)
    (hpb : (pb, listOf ([] : List Value).toArray kp) ∈ news)
    (hst : (st, (⟨.ref 52, some dst, .plain, sl'⟩ : Obj)) ∈ news) (hdst : (dst, dictOf (stmEs g1 g2 g3 g4 g5 u1 u2 u3 u4 u5 yl yi yw yp (.ref fo)) n') ∈ news)
    (hf0 : (fo, fnMade (dName pieceDef) qual (dParams pieceDef) (dBody pieceDef) (dScope pieceDef) [("signs", ce)] doc pm c' ctv) ∈ news)
    (hc : (c', oc) ∈ news) (hoc : oc.data = .fields cvs) (hvs : cvs[1]? = some (.str qual t))
    (hce : (ce, oce) ∈ news) (hcd : oce.data = .cell (some (.ref sg)))
    (hU : UpdF sg (listOf vs.toArray k) news g) (hz : vs.length ≤ 100)
    (hV : ∀ o, UpdF dx (dictOf (lexEs h1 h2 h3 h4 t1 t2 t3 t4 (.int l tl) (.ref st) (.str "\n\t\r " tw) (.ref pb)) 4) (g o) (gg o))
    (hn1 : x ≠ sg) (hn2 : dx ≠ sg) (hn3 : st ≠ sg) (hn4 : dst ≠ sg) (hn5 : fo ≠ sg) (hn6 : c' ≠ sg) (hn7 : ce ≠ sg) (hn8 : x ≠ dx) (hn9 : st ≠ dx) (hn10 : dst ≠ dx)
    (hw : Word ws) (hs : SignsAre vs.reverse (wl ws mn ++ rest))
    (hret : ∀ p k' tl' h' tk' tr, SignsAre p.reverse rest → p.length ≤ vs.length → Fr h₀ L h' m → News h₀ L h' (gg (listOf (List.toArray p) k') (dictOf (lexEs h1 h2 h3 h4 t1 t2 t3 t4 (.int (l + nlOf mn) tl') (.ref st) (.str "\n\t\r " tw) (.ref pb)) 4)) → Q (.str ⟨ws.toArray⟩ tr) { s with heap := h', toks := tk' }) :
    wpAny (model (RowW.prog (OpenRow.toRowW (OpenLaw.row PySem.Challenge.rw_wf0007_01))) w) (ktrTop dp un gd cn cs L a ccd cl outer) (call (.ref 42) [.ref x]) Q E s := by
  obtain ⟨us, ps, e1, S1, S2⟩ := hs.app
  have ev := rev_split e1
  have hpl : ps.reverse.length ≤ vs.length := by rw [ev, List.length_append]; omega
  have S2' : SignsAre ps.reverse.reverse rest := by rw [List.reverse_reverse]; exact S2
  generalize ps.reverse = p at *
  have hpz : p.length ≤ 100 := by omega
  rcases hw with ⟨c, rfl, hc0⟩ | ⟨c, d, rfl, hc0, hd0⟩
  · obtain ⟨q1, q2, q3, q4, q5, q6⟩ := sign_facts c (sign_mem hc0)
    unfold wl at S1
    split at S1
    · rename_i m0
      obtain ⟨a1, r1, rfl, Z1⟩ := SignsAre.one S1
      obtain ⟨a2, r2, rfl, Z2⟩ := SignsAre.one Z1
      obtain rfl := SignsAre.nil_of Z2
      subst ev
      refine w0a H hx hdx hpb hst hdst hf0 hc hoc hvs hce hcd (p := p) (gg := g) (d := "") (td := 0) (ta := 0) (tb := 0) (te := a2) (c := ⟨#[c]⟩) (tc := a1) (by simpa [ofS32, ofS34, ofS10, ofS92] using hU) hpz hn1 hn2 hn3 hn4 hn5 hn6 hn7 hn8 hn9 hn10 q1 q2 q3 q4 q5 q6 fun h' tk' tr F N => ?_
      have e0 : nlOf mn = 0 := by unfold nlOf; rw [if_pos m0]
      rw [← updF_same (hV _)] at N
      exact hret p _ tl h' tk' tr S2' hpl F (by rw [e0, Int.add_zero]; exact N)
    · split at S1
      · rename_i m0 m1
        obtain ⟨a1, r1, rfl, Z1⟩ := SignsAre.one S1
        obtain ⟨a2, r2, rfl, Z2⟩ := SignsAre.one Z1
        obtain ⟨a3, r3, rfl, Z3⟩ := SignsAre.one Z2
        obtain rfl := SignsAre.nil_of Z3
        subst ev
        refine w1a H hx hdx hpb hst hdst hf0 hc hoc hvs hce hcd (p := p) (gg := g) (d := "") (td := 0) (tb := 0) (te := a3) (c := ⟨#[c]⟩) (tc := a2) (ta := a1) (by simpa [ofS32, ofS34, ofS10, ofS92] using hU) hpz hn1 hn2 hn3 hn4 hn5 hn6 hn7 hn8 hn9 hn10 q1 q2 q3 q4 q5 q6 fun h' tk' tr F N => ?_
        have e0 : nlOf mn = 0 := by unfold nlOf; rw [if_neg m0, if_pos m1]
        rw [← updF_same (hV _)] at N
        exact hret p _ tl h' tk' tr S2' hpl F (by rw [e0, Int.add_zero]; exact N)
      · rename_i m0 m1
        obtain ⟨a1, r1, rfl, Z1⟩ := SignsAre.one S1
        obtain ⟨a2, r2, rfl, Z2⟩ := SignsAre.one Z1
        obtain ⟨a3, r3, rfl, Z3⟩ := SignsAre.one Z2
        obtain rfl := SignsAre.nil_of Z3
        subst ev
        refine w2a H hx hdx hpb hst hdst hf0 hc hoc hvs hce hcd (p := p) (d := "") (td := 0) (tb := 0) (te := a3) (c := ⟨#[c]⟩) (tc := a2) (ta := a1) (by simpa [ofS32, ofS34, ofS10, ofS92] using hU) hpz hn1 hn2 hn3 hn4 hn5 hn6 hn7 hn8 hn9 hn10 (hV _) q1 q2 q3 q4 q5 q6 fun h' tk' tr tl' F N => ?_
        have e0 : nlOf mn = 1 := by unfold nlOf; rw [if_neg m0, if_neg m1]
        exact hret p _ tl' h' tk' tr S2' hpl F (by rw [e0]; exact N)
  · obtain ⟨q1, q2, q3, q4, q5, q6⟩ := sign_facts c (sign_mem hc0)
    obtain ⟨p1, p2, p3, p4, p5, p6⟩ := sign_facts d (sign_mem hd0)
    unfold wl at S1
    split at S1
    · rename_i m0
      obtain ⟨a1, r1, rfl, Z1⟩ := SignsAre.one S1
      obtain ⟨a2, r2, rfl, Z2⟩ := SignsAre.one Z1
      obtain ⟨a3, r3, rfl, Z3⟩ := SignsAre.one Z2
      obtain rfl := SignsAre.nil_of Z3
      subst ev
      refine w0b H hx hdx hpb hst hdst hf0 hc hoc hvs hce hcd (p := p) (gg := g) (ta := 0) (tb := 0) (te := a3) (c := ⟨#[c]⟩) (tc := a1) (d := ⟨#[d]⟩) (td := a2) (by simpa [ofS32, ofS34, ofS10, ofS92] using hU) hpz hn1 hn2 hn3 hn4 hn5 hn6 hn7 hn8 hn9 hn10 q1 q2 q3 q4 q5 q6 p1 p2 p3 p4 p5 p6 fun h' tk' tr F N => ?_
      have e0 : nlOf mn = 0 := by unfold nlOf; rw [if_pos m0]
      rw [← updF_same (hV _)] at N
      exact hret p _ tl h' tk' tr S2' hpl F (by rw [e0, Int.add_zero]; exact N)
    · split at S1
      · rename_i m0 m1
        obtain ⟨a1, r1, rfl, Z1⟩ := SignsAre.one S1
        obtain ⟨a2, r2, rfl, Z2⟩ := SignsAre.one Z1
        obtain ⟨a3, r3, rfl, Z3⟩ := SignsAre.one Z2
        obtain ⟨a4, r4, rfl, Z4⟩ := SignsAre.one Z3
        obtain rfl := SignsAre.nil_of Z4
        subst ev
        refine w1b H hx hdx hpb hst hdst hf0 hc hoc hvs hce hcd (p := p) (gg := g) (tb := 0) (te := a4) (c := ⟨#[c]⟩) (tc := a2) (d := ⟨#[d]⟩) (td := a3) (ta := a1) (by simpa [ofS32, ofS34, ofS10, ofS92] using hU) hpz hn1 hn2 hn3 hn4 hn5 hn6 hn7 hn8 hn9 hn10 q1 q2 q3 q4 q5 q6 p1 p2 p3 p4 p5 p6 fun h' tk' tr F N => ?_
        have e0 : nlOf mn = 0 := by unfold nlOf; rw [if_neg m0, if_pos m1]
        rw [← updF_same (hV _)] at N
        exact hret p _ tl h' tk' tr S2' hpl F (by rw [e0, Int.add_zero]; exact N)
      · rename_i m0 m1
        obtain ⟨a1, r1, rfl, Z1⟩ := SignsAre.one S1
        obtain ⟨a2, r2, rfl, Z2⟩ := SignsAre.one Z1
        obtain ⟨a3, r3, rfl, Z3⟩ := SignsAre.one Z2
        obtain ⟨a4, r4, rfl, Z4⟩ := SignsAre.one Z3
        obtain ⟨a5, r5, rfl, Z5⟩ := SignsAre.one Z4
        obtain rfl := SignsAre.nil_of Z5
        subst ev
        refine w2b H hx hdx hpb hst hdst hf0 hc hoc hvs hce hcd (p := p)  (te := a5) (c := ⟨#[c]⟩) (tc := a2) (d := ⟨#[d]⟩) (td := a4) (ta := a1) (tb := a3) (by simpa [ofS32, ofS34, ofS10, ofS92] using hU) hpz hn1 hn2 hn3 hn4 hn5 hn6 hn7 hn8 hn9 hn10 (hV _) q1 q2 q3 q4 q5 q6 p1 p2 p3 p4 p5 p6 fun h' tk' tr tl' F N => ?_
        have e0 : nlOf mn = 1 := by unfold nlOf; rw [if_neg m0, if_neg m1]
        exact hret p _ tl' h' tk' tr S2' hpl F (by rw [e0]; exact N)
end
section
theorem cnt_app (c : Nat) (l r : List Nat) : cnt c (l ++ r) = cnt c l + cnt c r := by
  induction l with
  | nil => rw [List.nil_append, cnt_nil, Int.zero_add]
  | cons a l ih => rw [List.cons_append, cnt_cons, cnt_cons, ih, Int.add_assoc]
theorem Sign.ne10 {a : Nat} (h : Sign a) : a ≠ 10 := by rcases h with rfl | ⟨h, _⟩ <;> omega
theorem cnt_wl {cs : List Nat} {k : Int} (h : Word cs) : cnt 10 (wl cs k) = nlOf k := by
  rcases h with ⟨a, rfl, ha⟩ | ⟨a, b, rfl, ha, hb⟩
  · have := ha.ne10
    unfold wl nlOf
    split
    · simp [cnt_cons, cnt_nil, this]
    · split <;> simp [cnt_cons, cnt_nil, this]
  · have := ha.ne10
    have := hb.ne10
    unfold wl nlOf
    split
    · simp [cnt_cons, cnt_nil, *]
    · split <;> simp [cnt_cons, cnt_nil, *]
theorem word_ok {cs : List Nat} (h : Word cs) : PyData.strOk ⟨cs.toArray⟩ = true := by
  rcases h with ⟨a, rfl, ha⟩ | ⟨a, b, rfl, ha, hb⟩
  · have := ha.lt
    simp [PyData.strOk]; omega
  · have := ha.lt
    have := hb.lt
    simp [PyData.strOk]; omega
theorem flat_cnt {TX : Str} {cs0 cs1 cs2 cs3 cs4 : List Nat} {m0 m1 m2 m3 m4 : Int} (h : TX.cps.toList = flat [(cs0, m0), (cs1, m1), (cs2, m2), (cs3, m3), (cs4, m4)])
    (w0 : Word cs0) (w1 : Word cs1) (w2 : Word cs2) (w3 : Word cs3) (w4 : Word cs4) : 1 + nlOf m0 + nlOf m1 + nlOf m2 + nlOf m3 + nlOf m4 = 1 + Txt.count TX ("\n" : Str) := by
  rw [ofS10, count_cnt, h]
  simp only [flat, List.flatMap_cons, List.flatMap_nil, List.append_nil, cnt_app, cnt_wl w0, cnt_wl w1, cnt_wl w2, cnt_wl w3, cnt_wl w4]
  omega
theorem flat_signs {TX : Str} {vs : List Value} {cs0 cs1 cs2 cs3 cs4 : List Nat} {m0 m1 m2 m3 m4 : Int} (h : TX.cps.toList = flat [(cs0, m0), (cs1, m1), (cs2, m2), (cs3, m3), (cs4, m4)]) (S : SignsAre vs TX.cps.toList) :
    SignsAre vs.reverse.reverse (wl cs0 m0 ++ (wl cs1 m1 ++ (wl cs2 m2 ++ (wl cs3 m3 ++ (wl cs4 m4 ++ []))))) := by
  rw [List.reverse_reverse]
  rw [h] at S
  exact S
theorem flat_len {cs0 cs1 cs2 cs3 cs4 : List Nat} {m0 m1 m2 m3 m4 : Int} (w0 : Word cs0) (w1 : Word cs1) (w2 : Word cs2) (w3 : Word cs3) (w4 : Word cs4) : (flat [(cs0, m0), (cs1, m1), (cs2, m2), (cs3, m3), (cs4, m4)]).length ≤ 30 := by
  have h0 := wl_len (k := m0) w0
  have h1 := wl_len (k := m1) w1
  have h2 := wl_len (k := m2) w2
  have h3 := wl_len (k := m3) w3
  have h4 := wl_len (k := m4) w4
  simp only [flat, List.flatMap_cons, List.flatMap_nil, List.append_nil, List.length_append]
  omega
end
section
set_option genInjectivity false in
set_option genSizeOfSpec false in
/-- all letters of the two lexers -/
structure LexD where
  (x dx st dst pb fo ce sg c' y dy st2 dst2 pb2 fo2 ce2 sg2 WD RW c1 c2 c3 c4 : Addr)
  (h1 h2 h3 h4 h5 : Int)
  (t1 t2 t3 t4 tw u1 u2 u3 u4 u5 tq r1 r2 r3 r4 rl rw v1 v2 v3 v4 v5 : Tok)
  (yl yi yw yp doc pm ctv zl zi zw zp doc2 pm2 ctv2 : Value)
  (oc oce oce2 oWD oRW o1 o2 o3 tab : Obj)
  (cvs : Array Value)
noncomputable abbrev LexD.lexD (K : LexD) (l : Int) (tl : Tok) : Obj := dictOf (lexEs K.h1 K.h2 K.h3 K.h4 K.t1 K.t2 K.t3 K.t4 (.int l tl) (.ref K.st) (.str "\n\t\r " K.tw) (.ref K.pb)) 4
noncomputable abbrev LexD.rest (K : LexD) (oW : Obj) : List (Addr × Obj) := (K.WD, K.oWD) :: (K.RW, K.oRW) :: (K.c4, oW) :: (K.c3, K.o3) :: (K.c2, K.o2) :: (K.c1, K.o1) :: (93, K.tab) :: []
noncomputable abbrev LexD.under (K : LexD) (oQ : Obj) (l : List (Addr × Obj)) : List (Addr × Obj) :=
  (K.pb2, oQ) :: (K.y, instObj 52 K.dy) :: (K.dy, dictOf (lexEs K.h1 K.h2 K.h3 K.h4 K.r1 K.r2 K.r3 K.r4 (.int 1 K.rl) (.ref K.st2) (.str "\n\t\r " K.rw) (.ref K.pb2)) 4) ::
  (K.fo2, fnMade (dName pieceDef) lexQual (dParams pieceDef) (dBody pieceDef) (dScope pieceDef) [("signs", K.ce2)] K.doc2 K.pm2 K.c' K.ctv2) :: (K.st2, instObj 52 K.dst2) ::
  (K.dst2, dictOf (stmEs K.h1 K.h2 K.h3 K.h4 K.h5 K.v1 K.v2 K.v3 K.v4 K.v5 K.zl K.zi K.zw K.zp (.ref K.fo2)) 5) :: (K.sg2, listOf ([] : List Value).toArray 0) :: (K.ce2, K.oce2) :: l
noncomputable abbrev LexD.line (K : LexD) (oS oD oP : Obj) (l : List (Addr × Obj)) : List (Addr × Obj) :=
  (K.pb, oP) :: (K.x, instObj 52 K.dx) :: (K.dx, oD) ::
  (K.fo, fnMade (dName pieceDef) lexQual (dParams pieceDef) (dBody pieceDef) (dScope pieceDef) [("signs", K.ce)] K.doc K.pm K.c' K.ctv) :: (K.c', K.oc) :: (K.st, instObj 52 K.dst) ::
  (K.dst, dictOf (stmEs K.h1 K.h2 K.h3 K.h4 K.h5 K.u1 K.u2 K.u3 K.u4 K.u5 K.yl K.yi K.yw K.yp (.ref K.fo)) 5) :: (K.sg, oS) :: (K.ce, K.oce) :: l
noncomputable def LexD.B (K : LexD) (oS oD oP oQ oW : Obj) : List (Addr × Obj) := K.under oQ (K.line oS oD oP (K.rest oW))
/-- how they lie -/
structure LexD.Ord (K : LexD) : Prop where
  a1 : @LT.lt Nat instLTNat 93 K.c1
  a2 : @LT.lt Nat instLTNat K.c1 K.c2
  a3 : @LT.lt Nat instLTNat K.c2 K.c3
  a4 : @LT.lt Nat instLTNat K.c3 K.c4
  a5 : @LT.lt Nat instLTNat K.c4 K.RW
  a6 : @LT.lt Nat instLTNat K.RW K.WD
  b1 : @LT.lt Nat instLTNat K.WD K.ce
  b2 : @LT.lt Nat instLTNat K.ce K.sg
  b3 : @LT.lt Nat instLTNat K.sg K.dst
  b4 : @LT.lt Nat instLTNat K.dst K.st
  b5 : @LT.lt Nat instLTNat K.st K.c'
  b6 : @LT.lt Nat instLTNat K.c' K.fo
  b7 : @LT.lt Nat instLTNat K.fo K.dx
  b8 : @LT.lt Nat instLTNat K.dx K.x
  b9 : @LT.lt Nat instLTNat K.x K.pb
  d1 : @LT.lt Nat instLTNat K.pb K.ce2
  d2 : @LT.lt Nat instLTNat K.ce2 K.sg2
  d3 : @LT.lt Nat instLTNat K.sg2 K.dst2
  d4 : @LT.lt Nat instLTNat K.dst2 K.st2
  d5 : @LT.lt Nat instLTNat K.st2 K.fo2
  d6 : @LT.lt Nat instLTNat K.fo2 K.dy
  d7 : @LT.lt Nat instLTNat K.dy K.y
  d8 : @LT.lt Nat instLTNat K.y K.pb2
/-- an ordered ledger -/
noncomputable def Desc : Nat → List (Addr × Obj) → Prop
  | _, [] => True
  | a, p :: r => @LT.lt Nat instLTNat p.1 a ∧ Desc p.1 r
theorem Desc.lt {l : List (Addr × Obj)} : ∀ {a : Nat}, Desc a l → ∀ p ∈ l, @LT.lt Nat instLTNat p.1 a := by
  induction l with
  | nil => intro a _ p hp; cases hp
  | cons q r ih =>
    intro a h p hp
    rcases List.mem_cons.mp hp with rfl | hp
    · exact h.1
    · exact Nat.lt_trans (ih h.2 p hp) h.1
inductive PosOf (d : Addr) (o : Obj) : List (Addr × Obj) → (Obj → List (Addr × Obj)) → Prop
  | head {r} : PosOf d o ((d, o) :: r) (fun o' => (d, o') :: r)
  | tail {p r g} : PosOf d o r g → PosOf d o (p :: r) (fun o' => p :: g o')
theorem PosOf.mem {d : Addr} {o : Obj} {l : List (Addr × Obj)} {g : Obj → List (Addr × Obj)} (h : PosOf d o l g) : (d, o) ∈ l := by
  induction h with
  | head => exact .head _
  | tail _ ih => exact .tail _ ih
theorem PosOf.upd {d : Addr} {o : Obj} {l : List (Addr × Obj)} {g : Obj → List (Addr × Obj)} {a : Nat} (h : PosOf d o l g) : Desc a l → UpdF d o l g := by
  induction h generalizing a with
  | head => exact fun D => .head fun p hp => Nat.ne_of_lt (Desc.lt D.2 p hp)
  | tail h ih => exact fun D => .tail (Nat.ne_of_gt (Desc.lt D.2 _ h.mem)) (ih D.2)
theorem LexD.Ord.desc {K : LexD} (O : K.Ord) (oS oD oP oQ oW : Obj) : Desc (K.pb2 + 1) (K.B oS oD oP oQ oW) := by
  obtain ⟨a1, a2, a3, a4, a5, a6, b1, b2, b3, b4, b5, b6, b7, b8, b9, d1, d2, d3, d4, d5, d6, d7, d8⟩ := O
  exact ⟨Nat.lt_succ_self _, d8, d7, d6, d5, d4, d3, d2, d1, b9, b8, b7, b6, b5, b4, b3, b2, b1, a6, a5, a4, a3, a2, a1, True.intro⟩
variable {K : LexD}
theorem LexD.Ord.uQ (O : K.Ord) (oS oD oP oQ oW : Obj) : UpdF K.pb2 oQ (K.B oS oD oP oQ oW) (fun o => K.B oS oD oP o oW) := PosOf.upd (.head) (O.desc oS oD oP oQ oW)
theorem LexD.Ord.uP (O : K.Ord) (oS oD oP oQ oW : Obj) : UpdF K.pb oP (K.B oS oD oP oQ oW) (fun o => K.B oS oD o oQ oW) := PosOf.upd (.tail (.tail (.tail (.tail (.tail (.tail (.tail (.tail .head)))))))) (O.desc oS oD oP oQ oW)
theorem LexD.Ord.uD (O : K.Ord) (oS oD oP oQ oW : Obj) : UpdF K.dx oD (K.B oS oD oP oQ oW) (fun o => K.B oS o oP oQ oW) := PosOf.upd (.tail (.tail (.tail (.tail (.tail (.tail (.tail (.tail (.tail (.tail .head)))))))))) (O.desc oS oD oP oQ oW)
theorem LexD.Ord.uS (O : K.Ord) (oS oD oP oQ oW : Obj) : UpdF K.sg oS (K.B oS oD oP oQ oW) (fun o => K.B o oD oP oQ oW) := PosOf.upd (.tail (.tail (.tail (.tail (.tail (.tail (.tail (.tail (.tail (.tail (.tail (.tail (.tail (.tail (.tail .head))))))))))))))) (O.desc oS oD oP oQ oW)
theorem LexD.Ord.uW (O : K.Ord) (oS oD oP oQ oW : Obj) : UpdF K.c4 oW (K.B oS oD oP oQ oW) (fun o => K.B oS oD oP oQ o) := PosOf.upd (.tail (.tail (.tail (.tail (.tail (.tail (.tail (.tail (.tail (.tail (.tail (.tail (.tail (.tail (.tail (.tail (.tail (.tail (.tail .head))))))))))))))))))) (O.desc oS oD oP oQ oW)
theorem LexD.Ord.low (O : K.Ord) (oS oD oP oQ oW : Obj) : ∀ p ∈ K.B oS oD oP oQ oW, p.1 < K.pb2 + 1 := Desc.lt (O.desc oS oD oP oQ oW)
/-- what stands in it -/
structure LexD.Has (K : LexD) (P : Obj → Obj → Obj → Obj → Obj → List (Addr × Obj)) : Prop where
  mx : ∀ a b c d e, (K.x, (⟨.ref 52, some K.dx, .plain, #[]⟩ : Obj)) ∈ P a b c d e
  mst : ∀ a b c d e, (K.st, (⟨.ref 52, some K.dst, .plain, #[]⟩ : Obj)) ∈ P a b c d e
  mdst : ∀ a b c d e, (K.dst, dictOf (stmEs K.h1 K.h2 K.h3 K.h4 K.h5 K.u1 K.u2 K.u3 K.u4 K.u5 K.yl K.yi K.yw K.yp (.ref K.fo)) 5) ∈ P a b c d e
  mfo : ∀ a b c d e, (K.fo, fnMade (dName pieceDef) lexQual (dParams pieceDef) (dBody pieceDef) (dScope pieceDef) [("signs", K.ce)] K.doc K.pm K.c' K.ctv) ∈ P a b c d e
  mc : ∀ a b c d e, (K.c', K.oc) ∈ P a b c d e
  mce : ∀ a b c d e, (K.ce, K.oce) ∈ P a b c d e
  my : ∀ a b c d e, (K.y, (⟨.ref 52, some K.dy, .plain, #[]⟩ : Obj)) ∈ P a b c d e
  mdy : ∀ a b c d e, (K.dy, dictOf (lexEs K.h1 K.h2 K.h3 K.h4 K.r1 K.r2 K.r3 K.r4 (.int 1 K.rl) (.ref K.st2) (.str "\n\t\r " K.rw) (.ref K.pb2)) 4) ∈ P a b c d e
  mst2 : ∀ a b c d e, (K.st2, (⟨.ref 52, some K.dst2, .plain, #[]⟩ : Obj)) ∈ P a b c d e
  mdst2 : ∀ a b c d e, (K.dst2, dictOf (stmEs K.h1 K.h2 K.h3 K.h4 K.h5 K.v1 K.v2 K.v3 K.v4 K.v5 K.zl K.zi K.zw K.zp (.ref K.fo2)) 5) ∈ P a b c d e
  mfo2 : ∀ a b c d e, (K.fo2, fnMade (dName pieceDef) lexQual (dParams pieceDef) (dBody pieceDef) (dScope pieceDef) [("signs", K.ce2)] K.doc2 K.pm2 K.c' K.ctv2) ∈ P a b c d e
  msg2 : ∀ a b c d e, (K.sg2, listOf ([] : List Value).toArray 0) ∈ P a b c d e
  mce2 : ∀ a b c d e, (K.ce2, K.oce2) ∈ P a b c d e
  mWD : ∀ a b c d e, (K.WD, K.oWD) ∈ P a b c d e
  mRW : ∀ a b c d e, (K.RW, K.oRW) ∈ P a b c d e
  m3 : ∀ a b c d e, (K.c3, K.o3) ∈ P a b c d e
  m2 : ∀ a b c d e, (K.c2, K.o2) ∈ P a b c d e
  mT : ∀ a b c d e, (93, K.tab) ∈ P a b c d e
theorem LexD.has (K : LexD) : K.Has K.B where
  mx := fun _ _ _ _ _ => List.mem_of_getElem? (i := 9) rfl
  mst := fun _ _ _ _ _ => List.mem_of_getElem? (i := 13) rfl
  mdst := fun _ _ _ _ _ => List.mem_of_getElem? (i := 14) rfl
  mfo := fun _ _ _ _ _ => List.mem_of_getElem? (i := 11) rfl
  mc := fun _ _ _ _ _ => List.mem_of_getElem? (i := 12) rfl
  mce := fun _ _ _ _ _ => List.mem_of_getElem? (i := 16) rfl
  my := fun _ _ _ _ _ => List.mem_of_getElem? (i := 1) rfl
  mdy := fun _ _ _ _ _ => List.mem_of_getElem? (i := 2) rfl
  mst2 := fun _ _ _ _ _ => List.mem_of_getElem? (i := 4) rfl
  mdst2 := fun _ _ _ _ _ => List.mem_of_getElem? (i := 5) rfl
  mfo2 := fun _ _ _ _ _ => List.mem_of_getElem? (i := 3) rfl
  msg2 := fun _ _ _ _ _ => List.mem_of_getElem? (i := 6) rfl
  mce2 := fun _ _ _ _ _ => List.mem_of_getElem? (i := 7) rfl
  mWD := fun _ _ _ _ _ => List.mem_of_getElem? (i := 17) rfl
  mRW := fun _ _ _ _ _ => List.mem_of_getElem? (i := 18) rfl
  m3 := fun _ _ _ _ _ => List.mem_of_getElem? (i := 20) rfl
  m2 := fun _ _ _ _ _ => List.mem_of_getElem? (i := 21) rfl
  mT := fun _ _ _ _ _ => List.mem_of_getElem? (i := 23) rfl
theorem mem5 {P : Obj → Obj → Obj → Obj → Obj → List (Addr × Obj)} {p : Addr × Obj} (h : ∀ a b c d e, p ∈ P a b c d e) (a b c d e : Obj) : p ∈ P a b c d e := h a b c d e
theorem upd51 {P : Obj → Obj → Obj → Obj → Obj → List (Addr × Obj)} {q : Addr} (h : ∀ a b c d e, UpdF q a (P a b c d e) (fun o => P o b c d e)) (a b c d e : Obj) : UpdF q a (P a b c d e) (fun o => P o b c d e) := h a b c d e
theorem upd52 {P : Obj → Obj → Obj → Obj → Obj → List (Addr × Obj)} {q : Addr} (h : ∀ a b c d e, UpdF q b (P a b c d e) (fun o => P a o c d e)) (a b c d e : Obj) : UpdF q b (P a b c d e) (fun o => P a o c d e) := h a b c d e
theorem upd53 {P : Obj → Obj → Obj → Obj → Obj → List (Addr × Obj)} {q : Addr} (h : ∀ a b c d e, UpdF q c (P a b c d e) (fun o => P a b o d e)) (a b c d e : Obj) : UpdF q c (P a b c d e) (fun o => P a b o d e) := h a b c d e
theorem upd54 {P : Obj → Obj → Obj → Obj → Obj → List (Addr × Obj)} {q : Addr} (h : ∀ a b c d e, UpdF q d (P a b c d e) (fun o => P a b c o e)) (a b c d e : Obj) : UpdF q d (P a b c d e) (fun o => P a b c o e) := h a b c d e
theorem upd55 {P : Obj → Obj → Obj → Obj → Obj → List (Addr × Obj)} {q : Addr} (h : ∀ a b c d e, UpdF q e (P a b c d e) (fun o => P a b c d o)) (a b c d e : Obj) : UpdF q e (P a b c d e) (fun o => P a b c d o) := h a b c d e
theorem mem51 {P : Obj → Obj → Obj → Obj → Obj → List (Addr × Obj)} {q : Addr} (h : ∀ a b c d e, UpdF q a (P a b c d e) (fun o => P o b c d e)) (a b c d e : Obj) : (q, a) ∈ P a b c d e := updF_mem (h a b c d e)
theorem mem52 {P : Obj → Obj → Obj → Obj → Obj → List (Addr × Obj)} {q : Addr} (h : ∀ a b c d e, UpdF q b (P a b c d e) (fun o => P a o c d e)) (a b c d e : Obj) : (q, b) ∈ P a b c d e := updF_mem (h a b c d e)
theorem mem53 {P : Obj → Obj → Obj → Obj → Obj → List (Addr × Obj)} {q : Addr} (h : ∀ a b c d e, UpdF q c (P a b c d e) (fun o => P a b o d e)) (a b c d e : Obj) : (q, c) ∈ P a b c d e := updF_mem (h a b c d e)
theorem mem54 {P : Obj → Obj → Obj → Obj → Obj → List (Addr × Obj)} {q : Addr} (h : ∀ a b c d e, UpdF q d (P a b c d e) (fun o => P a b c o e)) (a b c d e : Obj) : (q, d) ∈ P a b c d e := updF_mem (h a b c d e)
theorem mem55 {P : Obj → Obj → Obj → Obj → Obj → List (Addr × Obj)} {q : Addr} (h : ∀ a b c d e, UpdF q e (P a b c d e) (fun o => P a b c d o)) (a b c d e : Obj) : (q, e) ∈ P a b c d e := updF_mem (h a b c d e)
theorem off5 {P : Obj → Obj → Obj → Obj → Obj → List (Addr × Obj)} {q r : Addr} (h : ∀ a b c d e, ∀ p ∈ P a b c d e, p.1 < r) (l : @LE.le Nat instLENat r q) (a b c d e : Obj) : ∀ p ∈ P a b c d e, p.1 ≠ q := fun p hp => Nat.ne_of_lt (Nat.lt_of_lt_of_le (h a b c d e p hp) l)
theorem low5 {P : Obj → Obj → Obj → Obj → Obj → List (Addr × Obj)} {q : Addr} {it : Addr} (h : ∀ a b c d e, UpdF q d (P a b c d e) (fun o => P a b c o e)) {a b c d e : Obj} (l : ∀ p ∈ P a b c d e, p.1 < it) : @LT.lt Nat instLTNat q it := l (q, d) (updF_mem (h a b c d e))
/-- what the rest of the law leans on -/
structure LexD.Std (K : LexD) (P : Obj → Obj → Obj → Obj → Obj → List (Addr × Obj)) : Prop where
  ord : K.Ord
  has : K.Has P
  uS : ∀ a b c d e, UpdF K.sg a (P a b c d e) (fun o => P o b c d e)
  uD : ∀ a b c d e, UpdF K.dx b (P a b c d e) (fun o => P a o c d e)
  uP : ∀ a b c d e, UpdF K.pb c (P a b c d e) (fun o => P a b o d e)
  uQ : ∀ a b c d e, UpdF K.pb2 d (P a b c d e) (fun o => P a b c o e)
  uW : ∀ a b c d e, UpdF K.c4 e (P a b c d e) (fun o => P a b c d o)
  low : ∀ a b c d e, ∀ p ∈ P a b c d e, p.1 < K.pb2 + 1
  g1 : K.oc.data = .fields K.cvs
  g2 : K.cvs[1]? = some (.str lexQual K.tq)
  g3 : K.oce.data = .cell (some (.ref K.sg))
  g4 : K.oce2.data = .cell (some (.ref K.sg2))
  g5 : K.o3.data = .cell (some (.ref K.x))
  g6 : K.o2.data = .cell (some (.ref K.RW))
theorem LexD.std {K : LexD} (O : K.Ord) (g1 : K.oc.data = .fields K.cvs) (g2 : K.cvs[1]? = some (.str lexQual K.tq)) (g3 : K.oce.data = .cell (some (.ref K.sg))) (g4 : K.oce2.data = .cell (some (.ref K.sg2))) (g5 : K.o3.data = .cell (some (.ref K.x))) (g6 : K.o2.data = .cell (some (.ref K.RW))) : K.Std K.B :=
  ⟨O, K.has, O.uS, O.uD, O.uP, O.uQ, O.uW, O.low, g1, g2, g3, g4, g5, g6⟩
/-- the last object of a ledger -/
noncomputable def TopIs (P : Obj → Obj → Obj → Obj → Obj → List (Addr × Obj)) (q : Addr) (oq : Obj) : Prop := ∀ a b c d e, (q, oq) ∈ P a b c d e
theorem lowT {P : Obj → Obj → Obj → Obj → Obj → List (Addr × Obj)} {q : Addr} {oq : Obj} {it : Addr} (h : TopIs P q oq) {a b c d e : Obj} (l : ∀ p ∈ P a b c d e, p.1 < it) : @LT.lt Nat instLTNat q it := l (q, oq) (h a b c d e)
/-- the same, with the numbers and the loop's own objects -/
structure LexD.Std2 (K : LexD) (P : Obj → Obj → Obj → Obj → Obj → List (Addr × Obj)) (NU q : Addr) (ln oq : Obj) : Prop where
  ord : K.Ord
  has : K.Has P
  uS : ∀ a b c d e, UpdF K.sg a (P a b c d e) (fun o => P o b c d e)
  uD : ∀ a b c d e, UpdF K.dx b (P a b c d e) (fun o => P a o c d e)
  uP : ∀ a b c d e, UpdF K.pb c (P a b c d e) (fun o => P a b o d e)
  uQ : ∀ a b c d e, UpdF K.pb2 d (P a b c d e) (fun o => P a b c o e)
  uW : ∀ a b c d e, UpdF K.c4 e (P a b c d e) (fun o => P a b c d o)
  low : ∀ a b c d e, ∀ p ∈ P a b c d e, p.1 < q + 1
  top : TopIs P q oq
  pb2 : @LT.lt Nat instLTNat K.pb2 q
  mNU : ∀ a b c d e, (NU, ln) ∈ P a b c d e
  g1 : K.oc.data = .fields K.cvs
  g2 : K.cvs[1]? = some (.str lexQual K.tq)
  g3 : K.oce.data = .cell (some (.ref K.sg))
  g4 : K.oce2.data = .cell (some (.ref K.sg2))
  g5 : K.o3.data = .cell (some (.ref K.x))
  g6 : K.o2.data = .cell (some (.ref K.RW))
noncomputable abbrev LexD.P2 (P : Obj → Obj → Obj → Obj → Obj → List (Addr × Obj)) (it : Addr) (oi : Obj) (TP : Addr) (ot : Obj) (NU : Addr) (ln : Obj) : Obj → Obj → Obj → Obj → Obj → List (Addr × Obj) := fun a b c d e => (it, oi) :: (TP, ot) :: (NU, ln) :: P a b c d e
theorem LexD.Std.two {K : LexD} {P : Obj → Obj → Obj → Obj → Obj → List (Addr × Obj)} (S : K.Std P) {it TP NU : Addr} {oi ot ln : Obj} (h1 : @LT.lt Nat instLTNat K.pb2 NU) (h2 : @LT.lt Nat instLTNat NU TP) (h3 : @LT.lt Nat instLTNat TP it) : K.Std2 (LexD.P2 P it oi TP ot NU ln) NU it ln oi := by
  obtain ⟨O, hs, uS, uD, uP, uQ, uW, low, g1, g2, g3, g4, g5, g6⟩ := S
  have O' := O
  obtain ⟨a1, a2, a3, a4, a5, a6, b1, b2, b3, b4, b5, b6, b7, b8, b9, d1, d2, d3, d4, d5, d6, d7, d8⟩ := O'
  obtain ⟨mx, mst, mdst, mfo, mc, mce, my, mdy, mst2, mdst2, mfo2, msg2, mce2, mWD, mRW, m3, m2, mT⟩ := hs
  have tl : ∀ {p : Addr × Obj}, (∀ a b c d e, p ∈ P a b c d e) → ∀ a b c d e, p ∈ LexD.P2 P it oi TP ot NU ln a b c d e := fun h a b c d e => .tail _ (.tail _ (.tail _ (h a b c d e)))
  have nq : ∀ {q : Addr}, @LE.le Nat instLENat q K.pb2 → it ≠ q ∧ TP ≠ q ∧ NU ≠ q := fun h =>
    have e1 := Nat.lt_of_le_of_lt h h1
    have e2 := Nat.lt_trans e1 h2
    ⟨Nat.ne_of_gt (Nat.lt_trans e2 h3), Nat.ne_of_gt e2, Nat.ne_of_gt e1⟩
  have l1 : @LE.le Nat instLENat K.pb K.pb2 := Nat.le_of_lt (Nat.lt_trans d1 (Nat.lt_trans d2 (Nat.lt_trans d3 (Nat.lt_trans d4 (Nat.lt_trans d5 (Nat.lt_trans d6 (Nat.lt_trans d7 d8)))))))
  have l2 : @LE.le Nat instLENat K.dx K.pb2 := Nat.le_trans (Nat.le_of_lt (Nat.lt_trans b8 b9)) l1
  have l3 : @LE.le Nat instLENat K.sg K.pb2 := Nat.le_trans (Nat.le_of_lt (Nat.lt_trans b3 (Nat.lt_trans b4 (Nat.lt_trans b5 (Nat.lt_trans b6 b7))))) l2
  have l4 : @LE.le Nat instLENat K.c4 K.pb2 := Nat.le_trans (Nat.le_of_lt (Nat.lt_trans a5 (Nat.lt_trans a6 (Nat.lt_trans b1 b2)))) l3
  refine ⟨O, ⟨tl mx, tl mst, tl mdst, tl mfo, tl mc, tl mce, tl my, tl mdy, tl mst2, tl mdst2, tl mfo2, tl msg2, tl mce2, tl mWD, tl mRW, tl m3, tl m2, tl mT⟩, ?_, ?_, ?_, ?_, ?_, ?_, fun _ _ _ _ _ => .head _, Nat.lt_trans h1 (Nat.lt_trans h2 h3), fun _ _ _ _ _ => .tail _ (.tail _ (.head _)), g1, g2, g3, g4, g5, g6⟩
  · intro a b c d e
    have n := nq (q := K.sg) l3
    exact .tail n.1 (.tail n.2.1 (.tail n.2.2 (uS a b c d e)))
  · intro a b c d e
    have n := nq (q := K.dx) l2
    exact .tail n.1 (.tail n.2.1 (.tail n.2.2 (uD a b c d e)))
  · intro a b c d e
    have n := nq (q := K.pb) l1
    exact .tail n.1 (.tail n.2.1 (.tail n.2.2 (uP a b c d e)))
  · intro a b c d e
    have n := nq (q := K.pb2) (Nat.le_refl _)
    exact .tail n.1 (.tail n.2.1 (.tail n.2.2 (uQ a b c d e)))
  · intro a b c d e
    have n := nq (q := K.c4) l4
    exact .tail n.1 (.tail n.2.1 (.tail n.2.2 (uW a b c d e)))
  · intro a b c d e p hp
    rcases List.mem_cons.mp hp with rfl | hp
    · exact Nat.lt_succ_self _
    rcases List.mem_cons.mp hp with rfl | hp
    · exact Nat.lt_succ_of_lt h3
    rcases List.mem_cons.mp hp with rfl | hp
    · exact Nat.lt_succ_of_lt (Nat.lt_trans h2 h3)
    · have := low a b c d e p hp
      exact Nat.lt_of_lt_of_le this (Nat.succ_le_succ (Nat.le_of_lt (Nat.lt_trans h1 (Nat.lt_trans h2 h3))))
end
local macro_rules | `(tactic| k_search $l) => `(tactic| first | (have e := lowT (by with_reducible assumption) $l; (try dsimp only at e)) | (have e := low5 (by with_reducible assumption) $l; (try dsimp only at e)))
local macro_rules | `(tactic| ktf_call $t) => `(tactic| with_reducible exact $t (by assumption) _ _ _ _ _)
section
variable {prog : Program} {w : World} {A : Around} {E : Value → Shared → Prop} {s : Shared}
theorem by_len : typeLookup (.type "bytes") "__len__" = pure (some (.builtin "bytes.__len__")) := by rw [typeLookup_type, builtinLookup_eq_fast]; kernel_rfl
theorem by_extend {R : Result → Shared → Prop} (hh : A.handled = none) (b : Array UInt8) (t : Tok) (S : Addr) (res : Value) (c₀ : Nat) (hS : s.heap.get? S = some { cls := .type "list", data := .seq #[] c₀ })
    (hR : ∀ h' tk acc' c', (∀ b o, b ≠ S → s.heap.get? b = some o → h'.get? b = some o) → h'.get? S = some { cls := .type "list", dict := none, data := .seq acc' c', slots := #[] } →
      ItemsOf (fun i v => ∃ c u, b[i]? = some c ∧ v = .int (c.toNat : Int) u) acc' b.size → R (.ok (.ret res)) { s with heap := h', toks := tk }) (hn : b.size ≤ 1000) :
    wpAny (model prog w) A.in1 (Builtin.List.listExtendWith (.ref S) (.bytes b t) res)
      (fun fin s' => match fin with | .done f => R (.ok f) s' | .again c' => c'.quiet = true ∧ codeAny (model prog w) A c' R s') (fun e s' => R (.error e) s') s := by
  have hne : S ≠ s.heap.objs.size := Nat.ne_of_lt (Heap.lt_size hS)
  have hnm : S ∉ [s.heap.objs.size] := fun hm => hne (List.mem_singleton.mp hm)
  unfold Builtin.List.listExtendWith
  refine wpAny_bind (wpAny_typeOf (T := "bytes") (v := .bytes b t) rfl ?_)
  have h1 : Builtin.List.listSameRef (.ref S) (.bytes b t) = false := rfl
  have h2 : (Value.type "bytes" == Value.type "list") = false := by decide
  have h3 : (Value.type "bytes" == Value.type "tuple") = false := by decide
  simp only [h1, h2, h3, Bool.or_false, Bool.false_eq_true, if_false]
  refine wpAny_bind (KBw.pyIter_bytes ?_)
  refine wpAny_bind (wpAny_holding ?_)
  unfold Builtin.List.listLengthHint
  refine wpAny_bind (wpAny_specialOf (T := "bytes") (v := .bytes b t) rfl by_len ?_)
  wp_delta
  refine wpAny_bind (wpAny_isInstance (T := "bytes") (v := .bytes b t) (b := true) rfl (by rw [isSubtype_type]; kernel_rfl) ?_)
  show wpAny _ _ (typeOf (Value.bytes b t) >>= _) _ _ _
  refine wpAny_bind (wpAny_typeOf (T := "bytes") (v := .bytes b t) rfl ?_)
  refine wpAny_pure ?_
  rw [if_neg (by decide)]
  refine wpAny_pure ⟨plainId_quiet F.plain_extend_loop _, codeAny_extend_loopS (KBw.walks (A := A.in1) hh s.heap.objs.size b t).toS (by rw [sizeLine_eq]; omega) _ hnm _ b.size 0 _ _ _ rfl (Nat.zero_le _) ⟨_, Heap.get?_push_size _ rfl, rfl, rfl⟩ (Heap.get?_push_of_some _ hS) (ItemsOf.nil _) fun s' acc' c' hm hS' hacc => ?_⟩
  rw [Moved.eq_with hm]
  refine hR s'.heap s'.toks acc' c' (fun b ob hb e => hm.heap b ob (fun hmem => ?_) (Heap.get?_push_of_some _ e)) hS' hacc
  rcases List.mem_cons.mp hmem with e' | hmem
  · exact hb e'
  · exact absurd (Heap.lt_size e) (by rw [List.mem_singleton.mp hmem]; exact Nat.lt_irrefl _)
theorem by_init {R : Result → Shared → Prop} (hh : A.handled = none) (b : Array UInt8) (t : Tok) (S : Addr) (hS : s.heap.get? S = some { cls := .type "list", data := .seq #[] })
    (hR : ∀ h' tk acc' c', (∀ b o, b ≠ S → s.heap.get? b = some o → h'.get? b = some o) → h'.get? S = some { cls := .type "list", dict := none, data := .seq acc' c', slots := #[] } →
      ItemsOf (fun i v => ∃ c u, b[i]? = some c ∧ v = .int (c.toNat : Int) u) acc' b.size → R (.ok (.ret .none)) { s with heap := h', toks := tk }) (hn : b.size ≤ 1000) :
    wpAny (model prog w) A.in1 (Builtin.«list.__init__» ⟨[.ref S, .bytes b t], []⟩)
      (fun fin s' => match fin with | .done f => R (.ok f) s' | .again c' => c'.quiet = true ∧ codeAny (model prog w) A c' R s') (fun e s' => R (.error e) s') s := by
  show wpAny _ _ (do let old ← Builtin.List.listItems (.ref S); Builtin.List.listUpdate (.ref S) (fun _ => #[]); letGo old.toList.reverse; Builtin.List.listExtendWith (.ref S) (.bytes b t) .none) _ _ s
  refine wpAny_bind ?_
  unfold Builtin.List.listItems
  refine wpAny_bind (wpAny_seqItems hS rfl (wpAny_pure ?_))
  show wpAny _ _ (updateSeq S (fun _ => #[]) >>= fun _ => letGo (#[] : Array Value).toList.reverse >>= fun _ => Builtin.List.listExtendWith (.ref S) (.bytes b t) .none) _ _ s
  refine wpAny_bind (wpAny_updateSeq hS rfl ?_)
  have hU := Heap.get?_update_self (Obj.mapSeq (fun _ => (#[] : Array Value))) hS rfl
  have oth : ∀ b o, b ≠ S → s.heap.get? b = some o → (s.heap.update S (Obj.mapSeq (fun _ => (#[] : Array Value)))).get? b = some o :=
    fun b o hb e => (Heap.get?_update_other _ _ (Ne.symm hb)).trans e
  refine wpAny_bind (wpAny_letGo ?_)
  exact by_extend hh b t S .none _ hU (fun h' tk acc' c' hk hS' hacc => hR h' tk acc' c' (fun b o hb e => hk b o hb (oth b o hb e)) hS' hacc) hn
theorem by_list {Q : Value → Shared → Prop} (hh : A.handled = none) (b : Array UInt8) (t : Tok) (hn : b.size ≤ 1000)
    (hQ : ∀ h' tk acc' c', (∀ b o, s.heap.get? b = some o → h'.get? b = some o) →
      h'.get? s.heap.objs.size = some { cls := .type "list", dict := none, data := .seq acc' c', slots := #[] } → ItemsOf (fun i v => ∃ c u, b[i]? = some c ∧ v = .int (c.toNat : Int) u) acc' b.size → Q (.ref s.heap.objs.size) { s with heap := h', toks := tk }) :
    wpAny (model prog w) A (call (.type "list") [.bytes b t]) Q E s := by
  refine callType_codes (Q₁ := fun obj s₁ => obj = .ref s.heap.objs.size ∧ s₁ = { s with heap := s.heap.push { cls := .type "list", data := .seq #[] } }) F.called_list (F.typeCall_list_1 _) F.entry_list_init
    (code_list_new _ ⟨rfl, rfl⟩) fun obj s₁ h₁ => ?_
  obtain ⟨rfl, rfl⟩ := h₁
  have hS : (s.heap.push { cls := .type "list", data := .seq #[] }).get? s.heap.objs.size = some { cls := .type "list", data := .seq #[] } := Heap.get?_push_size _ rfl
  refine ⟨⟨_, hS, rfl⟩, F.args_list_init_2 _ _, by_init (A := A.in1) hh b t _ hS (fun h' tk acc' c' hk hS' hacc => ?_) hn⟩
  exact ⟨rfl, hQ h' tk acc' c' (fun b o e => hk b o (Nat.ne_of_lt (Heap.lt_size e)) (Heap.get?_push_of_some _ e)) hS' hacc⟩
theorem by_listK {h₀ : Heap} {L : Addr} {m : Str → Option Value} {news : List (Addr × Obj)} {c0 c1 c2 c3 : UInt8} {t : Tok} {Q : Value → Shared → Prop} (hh : A.handled = none) (F : Fr h₀ L s.heap m) (N : News h₀ L s.heap news)
    (h : ∀ D q0 q1 q2 q3 k h' tk, Fr h₀ L h' m → News h₀ L h' ((D, listOf [Value.int (c0.toNat : Int) q0, Value.int (c1.toNat : Int) q1, Value.int (c2.toNat : Int) q2, Value.int (c3.toNat : Int) q3].toArray k) :: news) → (∀ p ∈ news, p.1 < D) → Q (.ref D) { s with heap := h', toks := tk }) :
    wpAny (model prog w) A (call (.type "list") [.bytes #[c0, c1, c2, c3] t]) Q E s := by
  refine by_list hh _ t (Nat.le_of_ble_eq_true rfl) fun h' tk acc' k hk hD hI => ?_
  obtain ⟨hz, hI⟩ := hI
  have g : ∀ (i : Nat) (c : UInt8), #[c0, c1, c2, c3][i]? = some c → ∃ u, acc'[i]? = some (.int (c.toNat : Int) u) := fun i c hc => by
    have hi : i < acc'.size := by rw [hz]; exact (Array.getElem?_eq_some_iff.mp hc).1
    obtain ⟨c', u, e1, e2⟩ := hI i acc'[i] (Array.getElem?_eq_getElem hi)
    rw [hc] at e1
    cases e1
    exact ⟨u, by rw [Array.getElem?_eq_getElem hi, e2]⟩
  obtain ⟨q0, e0⟩ := g 0 c0 rfl
  obtain ⟨q1, e1⟩ := g 1 c1 rfl
  obtain ⟨q2, e2⟩ := g 2 c2 rfl
  obtain ⟨q3, e3⟩ := g 3 c3 rfl
  have ha : acc' = [Value.int (c0.toNat : Int) q0, Value.int (c1.toNat : Int) q1, Value.int (c2.toNat : Int) q2, Value.int (c3.toNat : Int) q3].toArray := by
    apply Array.ext_getElem?
    intro i
    rcases i with _ | _ | _ | _ | i
    · exact e0
    · exact e1
    · exact e2
    · exact e3
    · rw [Array.getElem?_eq_none (by rw [hz]; simp), Array.getElem?_eq_none (by simp)]
  subst ha
  refine h s.heap.objs.size q0 q1 q2 q3 k h' tk (F.keeps hk) ?_ (fun p hp => Heap.lt_size (N p hp).1)
  intro p hp
  rcases List.mem_cons.mp hp with rfl | hp
  · exact ⟨hD, Nat.ne_of_gt F.ns.lt, Heap.get?_none_of_le (Nat.le_trans F.above (Nat.le_of_lt F.ns.lt))⟩
  · exact ⟨hk _ _ (N p hp).1, (N p hp).2⟩
end
section
local macro_rules | `(tactic| walk_at "exec Assign cons ListComp") => `(tactic| k_dat comp_assign "FwwRd_y" "")
local macro_rules | `(tactic| walk_at "ц") => `(tactic| with_reducible show wpAny _ _ (exec (Stmt.Assign _ (PySem.Expr.ListComp _ _ _ _) _) _) _ _ _)
local macro_rules | `(tactic| walk_at "exec Assign") => `(tactic| (walk_at "ц"; k_dat comp_assign "FwwRd_y" ""))
local macro_rules | `(tactic| walk_at "eval ListComp") => `(tactic| k_dat comp_eval "FwRd_y" "")
local macro_rules | `(tactic| walk_at "call type:enumerate") => `(tactic| k_dat enum_call "FFm_" "_______hhDS")
local macro_rules | `(tactic| walk_at "pyIter ref") => `(tactic| k_dat wpAny_pyIter_enum "g_" "")
local macro_rules | `(tactic| walk_at "ч") => `(tactic| intro E9 R9 s9 k9 r9; exact wpAny_pyIter_enum (k9 _ _ (News.get (by k_asm) (by k_mem))) r9)
local macro_rules | `(tactic| walk_at "MakeC") => `(tactic| k_dat (makeC_W 7) "FFчdR_" "_________hhDS")
local macro_rules | `(tactic| k_all) => `(tactic| first | exact off_low (by with_reducible assumption) (by first | walk_at "lt" | omega) | (refine off_cons (by walk_at "ltne") ?_; k_all))
local macro_rules | `(tactic| lcg_sub) => `(tactic| first | (refine' DelF.head ?a; (case a => k_all)) | (refine' DelF.tail ?a ?b; (case a => k_ne); (case b => lcg_sub)))
local macro_rules | `(tactic| walk_at "д") => `(tactic| with_reducible show wpAny _ _ (eval (PySem.Expr.Name _ _) (compEnvC _ _ _ _)) _ _ _)
local macro_rules | `(tactic| walk_at "eval Name") => `(tactic| (walk_at "д"; (first | (k_dat LCgL.ld_own "Fmar_" "") | (k_dat ld_cellC "FrmF_rrd" "") | (k_dat ld_freeC "FrmF_rrdd" ""))))
local macro_rules | `(tactic| walk_at "о") => `(tactic| kmk_part)
local macro_rules | `(tactic| walk_at "р") => `(tactic| kmk_pure)
local macro_rules | `(tactic| walk_at "subscriptTail Name Slice ref ref") => `(tactic| k_dat slice3_ints "FFmazоооd_wр" "______h_DS")
local macro_rules | `(tactic| walk_at "EndC") => `(tactic| first | (k_dat endC_use "FFmaerr_" "____DS") | (k_dat endC_none "FFmae_" "___DS"))
local macro_rules | `(tactic| walk_at "е") => `(tactic| first | walk_at "arith" | (simp; done) | (simp; omega))
local macro_rules | `(tactic| walk_at "м") => `(tactic| with_reducible show wpAny _ _ (call (Value.builtin _) [Value.ref _, _]) _ _ _)
local macro_rules | `(tactic| walk_at "call builtin:list.append") => `(tactic| (walk_at "м"; k_dat append_list "FFuе_" "__ADS"))
local macro_rules | `(tactic| walk_at "ш") => `(tactic| with_reducible show wpAny _ _ (storeName (compEnvC _ _ _ _) _ _) _ _ _)
local macro_rules | `(tactic| walk_at "storeName") => `(tactic| first | (walk_at "ш"; k_dat storeC "FFuarr_" "____N_DS") | (k_dat storeX_C "FFRuF_RR" "___N_DS") | (k_dat storeM_L "FF_RR" "___DS"))
local macro_rules | `(tactic| walk_at "CompW") => `(tactic| k_dat compW_stepK "!_" "____")
local macro_rules | `(tactic| walk_at "щ") => `(tactic| ((try dsimp only); k_updF))
local macro_rules | `(tactic| walk_at "ъ") => `(tactic| exact arr_get rfl)
local macro_rules | `(tactic| walk_at "ы") => `(tactic| exact arr_none rfl)
local macro_rules | `(tactic| walk_at "CompW") => `(tactic| first | (k_dat compW_enumK "rFFuщvamъnnnnarrr_" "________N__DS") | (k_dat compW_enum_end "rFFmmeamы_" "___DS"))
local macro_rules | `(tactic| walk_at "newList") => `(tactic| k_dat newList_K "FF_" "____QDS")
section
set_option maxHeartbeats 1600000 in
theorem law_draws {w : World} {tp : Program} {lo : List Str} {mean : ExcName → Option Value} {mg mb : Str → Option Value}
    {dp un : Nat} {gd : Option (List Code)} {a : Addr} {ccd : Value} {outer : List Env} {A₀ : Around} {base h₀ : Heap} {L : Addr} {m : Str → Option Value} {s : Shared}
    {c1 c2 c3 c4 DC : Addr} {o1 o2 o3 o4 : Obj} {ys : List Value} {ns : List Int} {kc : Nat} {news : List (Addr × Obj)}
    {Q : Flow → Shared → Prop} {E : Value → Shared → Prop}
    (H : Here w tp lo mean mg mb dp un outer (dScope lawDef) A₀ base h₀ L m ((DC, listOf ys.toArray kc) :: (c4, o4) :: (c3, o3) :: (c2, o2) :: (c1, o1) :: news) s 40 400)
    (hI : IntsAre ys ns) (hlen : ys.length ≤ 12) (d1 : o1.data = .cell (some (.ref DC)))
    (hfin : ∀ h' tk' DR d0 d1 d2 d3 d4 d5 t0 t1 t2 t3 t4 t5 k, Fr h₀ L h' (stM ("draws" : Str) (.ref DR) m) → News h₀ L h' ((DR, listOf [Value.int d0 t0, Value.int d1 t1, Value.int d2 t2, Value.int d3 t3, Value.int d4 t4, Value.int d5 t5].toArray k) :: (c4, o4) :: (c3, o3) :: (c2, o2) :: (c1, o1) :: news) → @LT.lt Nat instLTNat c4 DR → Q .next { s with heap := h', toks := tk' })
    (hn0 : ∀ p ∈ news, p.1 < c1) (hn1 : @LT.lt Nat instLTNat c1 c2) (hn2 : @LT.lt Nat instLTNat c2 c3) (hn3 : @LT.lt Nat instLTNat c3 c4) :
    wpAny (model (RowW.prog (OpenRow.toRowW (OpenLaw.row PySem.Challenge.rw_wf0007_01))) w) (ktrTop dp un gd ("law" : Str) (dScope lawDef) L a ccd (lawCl c1 c2 c3 c4) outer)
      (execs (((dBody lawDef).drop 1).take 1) (envX ("law" : Str) (dScope lawDef) L a ccd (lawCl c1 c2 c3 c4))) Q E s := by
  revert H
  refine' law_of (fun b sc => Here w tp lo mean mg mb dp un outer sc A₀ base h₀ L m ((DC, listOf ys.toArray kc) :: (c4, o4) :: (c3, o3) :: (c2, o2) :: (c1, o1) :: news) s 40 400 → wpAny (model (RowW.prog (OpenRow.toRowW (OpenLaw.row PySem.Challenge.rw_wf0007_01))) w) (ktrTop dp un gd ("law" : Str) sc L a ccd (lawCl c1 c2 c3 c4) outer)
      (execs ((b.drop 1).take 1) (envX ("law" : Str) sc L a ccd (lawCl c1 c2 c3 c4))) Q E s) ?ze1 ?_
  case ze1 => with_unfolding_all exact rfl
  rintro ⟨B, F, X, N, T, hk, hC, hd, hu⟩
  simp only [List.drop, List.take]
  k_steps
  all_goals exact hfin _ _ _ _ _ _ _ _ _ _ _ _ _ _ _ _ (by assumption) (cb_drop (by assumption) (fun q hq => by
    rcases List.mem_cons.mp hq with rfl | hq
    · exact .tail _ (.tail _ (.tail _ (.tail _ (.tail _ (.tail _ (.head _))))))
    · exact .tail _ (.tail _ (.tail _ (.tail _ (.tail _ (.tail _ (.tail _ (.tail _ (.tail _ (.tail _ hq))))))))))) (by omega)
end
section

local macro_rules | `(tactic| walk_at "exec Assign cons ListComp") => `(tactic| k_dat wpAny_Assign_Name "_w" "")
local macro_rules | `(tactic| walk_at "exec Assign") => `(tactic| (walk_at "ц"; k_dat wpAny_Assign_Name "_w" ""))
theorem q41 (q : Int) : 4 * q + ((0 : Nat) : Int) + 1 = 4 * q + 1 := by omega
theorem q42 (q : Int) : 4 * q + ((0 + 1 : Nat) : Int) + 1 = 4 * q + 2 := by omega
theorem q43 (q : Int) : 4 * q + ((0 + 1 + 1 : Nat) : Int) + 1 = 4 * q + 3 := by omega
theorem q44 (q : Int) : 4 * q + ((0 + 1 + 1 + 1 : Nat) : Int) + 1 = 4 * q + 4 := by omega
theorem fm8 (e : Int) : 0 ≤ e.fmod 8 ∧ e.fmod 8 ≤ 7 := ⟨Int.fmod_nonneg_of_pos e (by decide), Int.le_of_lt_add_one (Int.fmod_lt_of_pos e (b := 8) (by decide))⟩
theorem fm6 (e : Int) : -1 ≤ e.fmod 6 - 1 ∧ e.fmod 6 - 1 ≤ 4 := by
  have a := Int.fmod_nonneg_of_pos e (b := 6) (by decide)
  have b := Int.fmod_lt_of_pos e (b := 6) (by decide)
  omega
theorem fm3 (e : Int) : 0 ≤ e.fmod 3 ∧ e.fmod 3 ≤ 2 := ⟨Int.fmod_nonneg_of_pos e (by decide), Int.le_of_lt_add_one (Int.fmod_lt_of_pos e (b := 3) (by decide))⟩
theorem fm2 (e : Int) : 1 ≤ 1 + e.fmod 2 ∧ 1 + e.fmod 2 ≤ 2 := by
  have a := Int.fmod_nonneg_of_pos e (b := 2) (by decide)
  have b := Int.fmod_lt_of_pos e (b := 2) (by decide)
  omega
set_option maxHeartbeats 1600000 in
theorem law_row {w : World} {tp : Program} {lo : List Str} {mean : ExcName → Option Value} {mg mb : Str → Option Value}
    {dp un : Nat} {gd : Option (List Code)} {a : Addr} {ccd : Value} {outer : List Env} {A₀ : Around} {base h₀ : Heap} {L : Addr} {m : Str → Option Value} {s : Shared}
    {c1 c2 c3 c4 DR : Addr} {o1 o2 o3 o4 : Obj} {e0 e1 e2 e3 e4 e5 : Int} {t0 t1 t2 t3 t4 t5 : Tok} {kc : Nat} {news : List (Addr × Obj)}
    {Q : Flow → Shared → Prop} {E : Value → Shared → Prop}
    (H : Here w tp lo mean mg mb dp un outer (dScope lawDef) A₀ base h₀ L (stM ("draws" : Str) (.ref DR) m) ((DR, listOf [Value.int e0 t0, Value.int e1 t1, Value.int e2 t2, Value.int e3 t3, Value.int e4 t4, Value.int e5 t5].toArray kc) :: (c4, o4) :: (c3, o3) :: (c2, o2) :: (c1, o1) :: news) s 40 400)
    (d2 : o2.data = .cell none)
    (hfin : ∀ h' tk' RW o2' r0 r1 r2 r3 q0 q1 q2 q3 wt st sp u0 u1 u2 u3 tw ts tp' k, r0 = 4 * q0 + 1 → r1 = 4 * q1 + 2 → r2 = 4 * q2 + 3 → r3 = 4 * q3 + 4 → (0 ≤ q0 ∧ q0 ≤ 7) → (0 ≤ q1 ∧ q1 ≤ 7) → (0 ≤ q2 ∧ q2 ≤ 7) → (0 ≤ q3 ∧ q3 ≤ 7) → (-1 ≤ wt ∧ wt ≤ 4) → (0 ≤ st ∧ st ≤ 2) → (1 ≤ sp ∧ sp ≤ 2) →
      Fr h₀ L h' (stM ("weight" : Str) (.int wt tw) (stM ("start" : Str) (.int st ts) (stM ("step" : Str) (.int sp tp') (stM ("draws" : Str) (.ref DR) m)))) →
      News h₀ L h' ((RW, listOf [Value.int r0 u0, Value.int r1 u1, Value.int r2 u2, Value.int r3 u3].toArray k) :: (DR, listOf [Value.int e0 t0, Value.int e1 t1, Value.int e2 t2, Value.int e3 t3, Value.int e4 t4, Value.int e5 t5].toArray kc) :: (c4, o4) :: (c3, o3) :: (c2, o2') :: (c1, o1) :: news) →
      o2'.data = .cell (some (.ref RW)) → @LT.lt Nat instLTNat DR RW → Q .next { s with heap := h', toks := tk' })
    (hn0 : ∀ p ∈ news, p.1 < c1) (hn1 : @LT.lt Nat instLTNat c1 c2) (hn2 : @LT.lt Nat instLTNat c2 c3) (hn3 : @LT.lt Nat instLTNat c3 c4) (hn4 : @LT.lt Nat instLTNat c4 DR) :
    wpAny (model (RowW.prog (OpenRow.toRowW (OpenLaw.row PySem.Challenge.rw_wf0007_01))) w) (ktrTop dp un gd ("law" : Str) (dScope lawDef) L a ccd (lawCl c1 c2 c3 c4) outer)
      (execs (((dBody lawDef).drop 2).take 2) (envX ("law" : Str) (dScope lawDef) L a ccd (lawCl c1 c2 c3 c4))) Q E s := by
  revert H
  refine' law_of (fun b sc => Here w tp lo mean mg mb dp un outer sc A₀ base h₀ L (stM ("draws" : Str) (.ref DR) m) ((DR, listOf [Value.int e0 t0, Value.int e1 t1, Value.int e2 t2, Value.int e3 t3, Value.int e4 t4, Value.int e5 t5].toArray kc) :: (c4, o4) :: (c3, o3) :: (c2, o2) :: (c1, o1) :: news) s 40 400 → wpAny (model (RowW.prog (OpenRow.toRowW (OpenLaw.row PySem.Challenge.rw_wf0007_01))) w) (ktrTop dp un gd ("law" : Str) sc L a ccd (lawCl c1 c2 c3 c4) outer)
      (execs ((b.drop 2).take 2) (envX ("law" : Str) sc L a ccd (lawCl c1 c2 c3 c4))) Q E s) ?ze1 ?_
  case ze1 => with_unfolding_all exact rfl
  rintro ⟨B, F, X, N, T, hk, hC, hd, hu⟩
  simp only [List.drop, List.take]
  k_steps
  rename Obj.data _ = Data.cell (some _) => dR
  exact hfin _ _ _ _ (4 * e0.fmod 8 + ((0 : Nat) : Int) + 1) (4 * e1.fmod 8 + ((0 + 1 : Nat) : Int) + 1) (4 * e2.fmod 8 + ((0 + 1 + 1 : Nat) : Int) + 1) (4 * e3.fmod 8 + ((0 + 1 + 1 + 1 : Nat) : Int) + 1) (e0.fmod 8) (e1.fmod 8) (e2.fmod 8) (e3.fmod 8) (e4.fmod 6 - 1) (e5.fmod 3) (1 + (e5.fdiv 3).fmod 2) _ _ _ _ _ _ _ _ (q41 _) (q42 _) (q43 _) (q44 _) (fm8 _) (fm8 _) (fm8 _) (fm8 _) (fm6 _) (fm3 _) (fm2 _) (by assumption) (cb_drop (by assumption) (fun q hq => by
    rcases List.mem_cons.mp hq with rfl | hq
    · exact .tail _ (.head _)
    · exact .tail _ (.tail _ (.tail _ (.tail _ hq))))) dR (by omega)
end
section
local macro_rules | `(tactic| walk_at "pyIter ref") => `(tactic| k_dat lit_iter "FFm_" "______hDS")
local macro_rules | `(tactic| walk_at "ь") => `(tactic| intro E9 R9 s9 k9 r9; exact lit_self (by with_reducible assumption) (k9 _ _ (News.get (by k_asm) (by k_mem))) r9)
local macro_rules | `(tactic| walk_at "MakeC") => `(tactic| k_dat (makeC_W 7) "FFьdR_" "_________hhDS")
local macro_rules | `(tactic| walk_at "pyNext ref") => `(tactic| first | (k_dat lit_next "FFuamъ_" "___N_DS") | (k_dat lit_end "rFFmeamы_" "___DS"))
local macro_rules | `(tactic| walk_at "CompW") => `(tactic| k_dat compW_stepK "!_" "____")
local macro_rules | `(tactic| walk_at "э") => `(tactic| k_meth)
local macro_rules | `(tactic| walk_at "ю") => `(tactic| k_in)
local macro_rules | `(tactic| walk_at "callWith ref") => `(tactic| first | (k_dat callWith_M0 "эi_" "B") | (k_dat callWith_K "Fi_" "") | (k_dat callWith_K0 "юi_" "") | (k_dat callWith_M "FFmi_" ""))
section

local macro_rules | `(tactic| walk_at "я") => `(tactic| omega)
local macro_rules | `(tactic| walk_at "call type:str") => `(tactic| k_dat str_as "яa_" "__DS")
set_option maxHeartbeats 1600000 in
theorem law_words {w : World} {tp : Program} {lo : List Str} {mean : ExcName → Option Value} {mg mb : Str → Option Value}
    {dp un : Nat} {gd : Option (List Code)} {a : Addr} {ccd : Value} {outer : List Env} {A₀ : Around} {base h₀ : Heap} {L : Addr} {m : Str → Option Value} {s : Shared}
    {c1 c2 c3 c4 DR RW : Addr} {o1 o2 o3 o4 oR : Obj} {r0 r1 r2 r3 wt st sp : Int} {u0 u1 u2 u3 tw ts tp' : Tok} {kc : Nat} {news : List (Addr × Obj)}
    {Q : Flow → Shared → Prop} {E : Value → Shared → Prop}
    (H : Here w tp lo mean mg mb dp un outer (dScope lawDef) A₀ base h₀ L (stM ("weight" : Str) (.int wt tw) (stM ("start" : Str) (.int st ts) (stM ("step" : Str) (.int sp tp') (stM ("draws" : Str) (.ref DR) m)))) ((RW, listOf [Value.int r0 u0, Value.int r1 u1, Value.int r2 u2, Value.int r3 u3].toArray kc) :: (DR, oR) :: (c4, o4) :: (c3, o3) :: (c2, o2) :: (c1, o1) :: news) s 40 400)
    {x0 x1 x2 x3 x4 : Str} (b0 : 0 ≤ r0 ∧ r0 ≤ 40) (b1 : 0 ≤ r1 ∧ r1 ≤ 40) (b2 : 0 ≤ r2 ∧ r2 ≤ 40) (b3 : 0 ≤ r3 ∧ r3 ≤ 40) (b4 : -1 ≤ wt ∧ wt ≤ 4) (y0 : Str.ofString (toString r0) = x0) (y1 : Str.ofString (toString r1) = x1) (y2 : Str.ofString (toString r2) = x2) (y3 : Str.ofString (toString r3) = x3) (y4 : Str.ofString (toString wt) = x4)
    (hfin : ∀ h' tk' WD v0 v1 v2 v3 v4 k, Fr h₀ L h' (stM ("words" : Str) (.ref WD) (stM ("weight" : Str) (.int wt tw) (stM ("start" : Str) (.int st ts) (stM ("step" : Str) (.int sp tp') (stM ("draws" : Str) (.ref DR) m))))) →
      News h₀ L h' ((WD, listOf [Value.str x0 v0, Value.str x1 v1, Value.str x2 v2, Value.str x3 v3, Value.str x4 v4].toArray k) :: (RW, listOf [Value.int r0 u0, Value.int r1 u1, Value.int r2 u2, Value.int r3 u3].toArray kc) :: (DR, oR) :: (c4, o4) :: (c3, o3) :: (c2, o2) :: (c1, o1) :: news) →
      @LT.lt Nat instLTNat RW WD → Q .next { s with heap := h', toks := tk' })
    (d2 : o2.data = .cell (some (.ref RW)))
    (hn0 : ∀ p ∈ news, p.1 < c1) (hn1 : @LT.lt Nat instLTNat c1 c2) (hn2 : @LT.lt Nat instLTNat c2 c3) (hn3 : @LT.lt Nat instLTNat c3 c4) (hn4 : @LT.lt Nat instLTNat c4 DR) (hn5 : @LT.lt Nat instLTNat DR RW) :
    wpAny (model (RowW.prog (OpenRow.toRowW (OpenLaw.row PySem.Challenge.rw_wf0007_01))) w) (ktrTop dp un gd ("law" : Str) (dScope lawDef) L a ccd (lawCl c1 c2 c3 c4) outer)
      (execs (((dBody lawDef).drop 4).take 1) (envX ("law" : Str) (dScope lawDef) L a ccd (lawCl c1 c2 c3 c4))) Q E s := by
  revert H
  refine' law_of (fun b sc => Here w tp lo mean mg mb dp un outer sc A₀ base h₀ L (stM ("weight" : Str) (.int wt tw) (stM ("start" : Str) (.int st ts) (stM ("step" : Str) (.int sp tp') (stM ("draws" : Str) (.ref DR) m)))) ((RW, listOf [Value.int r0 u0, Value.int r1 u1, Value.int r2 u2, Value.int r3 u3].toArray kc) :: (DR, oR) :: (c4, o4) :: (c3, o3) :: (c2, o2) :: (c1, o1) :: news) s 40 400 → wpAny (model (RowW.prog (OpenRow.toRowW (OpenLaw.row PySem.Challenge.rw_wf0007_01))) w) (ktrTop dp un gd ("law" : Str) sc L a ccd (lawCl c1 c2 c3 c4) outer)
      (execs ((b.drop 4).take 1) (envX ("law" : Str) sc L a ccd (lawCl c1 c2 c3 c4))) Q E s) ?ze1 ?_
  case ze1 => with_unfolding_all exact rfl
  rintro ⟨B, F, X, N, T, hk, hC, hd, hu⟩
  simp only [List.drop, List.take]
  k_steps
  all_goals exact hfin _ _ _ _ _ _ _ _ _ (by assumption) (cb_drop (by assumption) (fun q hq => by
    rcases List.mem_cons.mp hq with rfl | hq
    · exact .head _
    · exact .tail _ (.tail _ (.tail _ hq)))) (by omega)
end
section

local macro_rules | `(tactic| walk_at "call ref") => `(tactic| (k_here; (k_dflt (show wpAny _ _ (call (Value.ref 103) [Value.ref _, Value.ref _]) _ _ _)); (refine stop_here ?_)))
set_option maxHeartbeats 1600000 in
theorem law_text {w : World} {tp : Program} {lo : List Str} {mean : ExcName → Option Value} {mg mb : Str → Option Value}
    {dp un : Nat} {gd : Option (List Code)} {a : Addr} {ccd : Value} {outer : List Env} {A₀ : Around} {base h₀ : Heap} {L : Addr} {m : Str → Option Value} {s : Shared}
    {c1 c2 c3 c4 DR RW WD : Addr} {o1 o2 o3 o4 oW : Obj} {e0 e1 e2 e3 e4 e5 : Int} {t0 t1 t2 t3 t4 t5 v0 v1 v2 v3 v4 : Tok} {cs0 cs1 cs2 cs3 cs4 : List Nat} {wt st sp : Int} {tw ts tp' : Tok} {kc kw : Nat} {news : List (Addr × Obj)}
    {Q : Flow → Shared → Prop} {E : Value → Shared → Prop}
    (H : Here w tp lo mean mg mb dp un outer (dScope lawDef) A₀ base h₀ L (stM ("words" : Str) (.ref WD) (stM ("weight" : Str) (.int wt tw) (stM ("start" : Str) (.int st ts) (stM ("step" : Str) (.int sp tp') (stM ("draws" : Str) (.ref DR) m))))) ((WD, listOf [Value.str ⟨cs0.toArray⟩ v0, Value.str ⟨cs1.toArray⟩ v1, Value.str ⟨cs2.toArray⟩ v2, Value.str ⟨cs3.toArray⟩ v3, Value.str ⟨cs4.toArray⟩ v4].toArray kw) :: (RW, oW) :: (DR, listOf [Value.int e0 t0, Value.int e1 t1, Value.int e2 t2, Value.int e3 t3, Value.int e4 t4, Value.int e5 t5].toArray kc) :: (c4, o4) :: (c3, o3) :: (c2, o2) :: (c1, o1) :: news) s 40 400)
    (w0 : Word cs0) (w1 : Word cs1) (w2 : Word cs2) (w3 : Word cs3) (w4 : Word cs4)
    (hfin : ∀ h' tk' TX tx, TX.cps.toList = flat [(cs0, e0.fdiv 48), (cs1, e1.fdiv 48), (cs2, e2.fdiv 48), (cs3, e3.fdiv 48), (cs4, e4.fdiv 48)] → Fr h₀ L h' (stM ("text" : Str) (.str TX tx) (stM ("words" : Str) (.ref WD) (stM ("weight" : Str) (.int wt tw) (stM ("start" : Str) (.int st ts) (stM ("step" : Str) (.int sp tp') (stM ("draws" : Str) (.ref DR) m)))))) →
      News h₀ L h' ((WD, listOf [Value.str ⟨cs0.toArray⟩ v0, Value.str ⟨cs1.toArray⟩ v1, Value.str ⟨cs2.toArray⟩ v2, Value.str ⟨cs3.toArray⟩ v3, Value.str ⟨cs4.toArray⟩ v4].toArray kw) :: (RW, oW) :: (c4, o4) :: (c3, o3) :: (c2, o2) :: (c1, o1) :: news) →
      Q .next { s with heap := h', toks := tk' })
    (hn0 : ∀ p ∈ news, p.1 < c1) (hn1 : @LT.lt Nat instLTNat c1 c2) (hn2 : @LT.lt Nat instLTNat c2 c3) (hn3 : @LT.lt Nat instLTNat c3 c4) (hn4 : @LT.lt Nat instLTNat c4 DR) (hn5 : @LT.lt Nat instLTNat DR RW) (hn6 : @LT.lt Nat instLTNat RW WD) :
    wpAny (model (RowW.prog (OpenRow.toRowW (OpenLaw.row PySem.Challenge.rw_wf0007_01))) w) (ktrTop dp un gd ("law" : Str) (dScope lawDef) L a ccd (lawCl c1 c2 c3 c4) outer)
      (execs (((dBody lawDef).drop 5).take 1) (envX ("law" : Str) (dScope lawDef) L a ccd (lawCl c1 c2 c3 c4))) Q E s := by
  revert H
  refine' law_of (fun b sc => Here w tp lo mean mg mb dp un outer sc A₀ base h₀ L (stM ("words" : Str) (.ref WD) (stM ("weight" : Str) (.int wt tw) (stM ("start" : Str) (.int st ts) (stM ("step" : Str) (.int sp tp') (stM ("draws" : Str) (.ref DR) m))))) ((WD, listOf [Value.str ⟨cs0.toArray⟩ v0, Value.str ⟨cs1.toArray⟩ v1, Value.str ⟨cs2.toArray⟩ v2, Value.str ⟨cs3.toArray⟩ v3, Value.str ⟨cs4.toArray⟩ v4].toArray kw) :: (RW, oW) :: (DR, listOf [Value.int e0 t0, Value.int e1 t1, Value.int e2 t2, Value.int e3 t3, Value.int e4 t4, Value.int e5 t5].toArray kc) :: (c4, o4) :: (c3, o3) :: (c2, o2) :: (c1, o1) :: news) s 40 400 → wpAny (model (RowW.prog (OpenRow.toRowW (OpenLaw.row PySem.Challenge.rw_wf0007_01))) w) (ktrTop dp un gd ("law" : Str) sc L a ccd (lawCl c1 c2 c3 c4) outer)
      (execs ((b.drop 5).take 1) (envX ("law" : Str) sc L a ccd (lawCl c1 c2 c3 c4))) Q E s) ?ze1 ?_
  case ze1 => with_unfolding_all exact rfl
  rintro ⟨B, F, X, N, T, hk, hC, hd, hu⟩
  simp only [List.drop, List.take]
  k_steps
  unfold Stop
  refine' written_spec (css := [(cs0, e0.fdiv 48), (cs1, e1.fdiv 48), (cs2, e2.fdiv 48), (cs3, e3.fdiv 48), (cs4, e4.fdiv 48)]) ?H ?a ?b ?x ?y ?c ?d ?_
  case H => exact ⟨by k_asm, by k_asm, by k_asm, by k_asm, by k_asm, by first | exact rfl | assumption, by assumption, by k_room, by k_units⟩
  case a => k_mem
  case b => k_mem
  case x => rfl
  case y => rfl
  case c => rfl
  case d =>
    intro i p hp
    rcases i with _ | _ | _ | _ | _ | i
    · obtain rfl := Option.some.inj hp; exact ⟨w0, _, _, rfl, rfl⟩
    · obtain rfl := Option.some.inj hp; exact ⟨w1, _, _, rfl, rfl⟩
    · obtain rfl := Option.some.inj hp; exact ⟨w2, _, _, rfl, rfl⟩
    · obtain rfl := Option.some.inj hp; exact ⟨w3, _, _, rfl, rfl⟩
    · obtain rfl := Option.some.inj hp; exact ⟨w4, _, _, rfl, rfl⟩
    · cases hp
  intro h' tk' tr TX hTX F' N'
  dsimp only
  k_steps
  all_goals exact hfin _ _ TX _ hTX (by assumption) (cb_drop (by assumption) (fun q hq => by
    rcases List.mem_cons.mp hq with rfl | hq
    · exact .tail _ (.tail _ (.head _))
    rcases List.mem_cons.mp hq with rfl | hq
    · exact .tail _ (.tail _ (.tail _ (.head _)))
    · exact .tail _ (.tail _ (.tail _ (.tail _ (.tail _ hq))))))
end
section

local macro_rules | `(tactic| walk_at "call ref") => `(tactic| (k_here; (k_dflt (show wpAny _ _ (call (Value.ref 98) [_]) _ _ _)); refine stop_here ?_))
local macro_rules | `(tactic| walk_at "callWith ref") => `(tactic| k_dat callWith_K "Fi_" "")
set_option maxHeartbeats 1600000 in
theorem law_lexers {w : World} {tp : Program} {lo : List Str} {mean : ExcName → Option Value} {mg mb : Str → Option Value}
    {dp un : Nat} {gd : Option (List Code)} {a : Addr} {ccd : Value} {outer : List Env} {A₀ : Around} {base h₀ : Heap} {L : Addr} {m : Str → Option Value} {s : Shared}
    {c1 c2 c3 c4 DR RW WD : Addr} {o1 o2 o3 o4 oW oD : Obj} {TX : Str} {tx : Tok} {wt st sp : Int} {tw ts tp' : Tok}
    {Q : Flow → Shared → Prop} {E : Value → Shared → Prop}
    (H : Here w tp lo mean mg mb dp un outer (dScope lawDef) A₀ base h₀ L (stM ("text" : Str) (.str TX tx) (stM ("words" : Str) (.ref WD) (stM ("weight" : Str) (.int wt tw) (stM ("start" : Str) (.int st ts) (stM ("step" : Str) (.int sp tp') (stM ("draws" : Str) (.ref DR) m)))))) ((WD, oD) :: (RW, oW) :: (c4, o4) :: (c3, o3) :: (c2, o2) :: (c1, o1) :: (93, tabObj #[]) :: []) s 40 400)
    (hTX : TX.cps.size ≤ 1000) (d3 : o3.data = .cell none)
    (hfin : ∀ (K : LexD) h' tk' vs tl, K.Ord → K.oc.data = .fields K.cvs → K.cvs[1]? = some (.str lexQual K.tq) → K.oce.data = .cell (some (.ref K.sg)) → K.oce2.data = .cell (some (.ref K.sg2)) →
      K.c1 = c1 → K.c2 = c2 → K.c3 = c3 → K.c4 = c4 → K.WD = WD → K.RW = RW → K.oWD = oD → K.oRW = oW → K.o2 = o2 → K.o3.data = .cell (some (.ref K.x)) → (∃ ps, K.tab = tabObj ps) → SignsAre vs TX.cps.toList →
      Fr h₀ L h' (stM ("under" : Str) (.ref K.y) (stM ("text" : Str) (.str TX tx) (stM ("words" : Str) (.ref WD) (stM ("weight" : Str) (.int wt tw) (stM ("start" : Str) (.int st ts) (stM ("step" : Str) (.int sp tp') (stM ("draws" : Str) (.ref DR) m))))))) → News h₀ L h' (K.B (listOf vs.reverse.toArray 0) (K.lexD 1 tl) (listOf ([] : List Value).toArray 0) (listOf ([] : List Value).toArray 0) o4) → Q .next { s with heap := h', toks := tk' })
    (hn0 : @LT.lt Nat instLTNat 93 c1) (hn1 : @LT.lt Nat instLTNat c1 c2) (hn2 : @LT.lt Nat instLTNat c2 c3) (hn3 : @LT.lt Nat instLTNat c3 c4) (hn4 : @LT.lt Nat instLTNat c4 RW) (hn6 : @LT.lt Nat instLTNat RW WD) :
    wpAny (model (RowW.prog (OpenRow.toRowW (OpenLaw.row PySem.Challenge.rw_wf0007_01))) w) (ktrTop dp un gd ("law" : Str) (dScope lawDef) L a ccd (lawCl c1 c2 c3 c4) outer)
      (execs (((dBody lawDef).drop 6).take 1) (envX ("law" : Str) (dScope lawDef) L a ccd (lawCl c1 c2 c3 c4))) Q E s := by
  revert H
  refine' law_of (fun b sc => Here w tp lo mean mg mb dp un outer sc A₀ base h₀ L (stM ("text" : Str) (.str TX tx) (stM ("words" : Str) (.ref WD) (stM ("weight" : Str) (.int wt tw) (stM ("start" : Str) (.int st ts) (stM ("step" : Str) (.int sp tp') (stM ("draws" : Str) (.ref DR) m)))))) ((WD, oD) :: (RW, oW) :: (c4, o4) :: (c3, o3) :: (c2, o2) :: (c1, o1) :: (93, tabObj #[]) :: []) s 40 400 → wpAny (model (RowW.prog (OpenRow.toRowW (OpenLaw.row PySem.Challenge.rw_wf0007_01))) w) (ktrTop dp un gd ("law" : Str) sc L a ccd (lawCl c1 c2 c3 c4) outer)
      (execs ((b.drop 6).take 1) (envX ("law" : Str) sc L a ccd (lawCl c1 c2 c3 c4))) Q E s) ?ze1 ?_
  case ze1 => with_unfolding_all exact rfl
  rintro ⟨B, F, X, N, T, hk, hC, hd, hu⟩
  simp only [List.drop, List.take]
  k_steps
  unfold Stop
  refine' lexer_first ?H ?z ?U ?_
  case H => exact ⟨by k_asm, by k_asm, by k_asm, by k_asm, by k_asm, by first | exact rfl | assumption, by assumption, by k_room, by k_units⟩
  case z => with_reducible assumption
  case U => k_updF
  intro x dx pb fo st1 dst sg ce c' oc cvs tc oce vs t1 t2 t3 t4 tl tw1 u1 u2 u3 u4 u5 yl yi yw yp doc pm ctv h1 tk1 F1 N1 dco dcv Sg dce l1 e1 e2 e3 e4 e5 e6 e7 e8
  have l2 := led_head l1
  (try dsimp only at l2)
  clear l1
  (try dsimp only)
  (try dsimp only at N1)
  k_steps
  unfold Stop
  refine' lexer_hit ?H ?z ?M ?_
  case H => exact ⟨by k_asm, by k_asm, by k_asm, by k_asm, by k_asm, by first | exact rfl | assumption, by assumption, by k_room, by k_units⟩
  case z => decide
  case M => k_mem
  intro y dy pb2 fo2 st2 dst2 sg2 ce2 oce2 vs2 r1 r2 r3 r4 rl rw1 v1 v2 v3 v4 v5 zl zi zw zp doc2 pm2 ctv2 h2 tk2 F2 N2 Sg2 dce2 l3 f2 f3 f4 f5 f7 f8 f9
  have l4 := led_head l3
  (try dsimp only at l4)
  clear l3
  obtain rfl := SignsAre.nil_of Sg2
  (try dsimp only)
  k_steps
  rename Obj.data _ = Data.cell (some (Value.ref x)) => do3
  rename News h₀ L _ _ => N9
  exact hfin { x := x, dx := dx, st := st1, dst := dst, pb := pb, fo := fo, ce := ce, sg := sg, c' := c', y := y, dy := dy, st2 := st2, dst2 := dst2, pb2 := pb2, fo2 := fo2, ce2 := ce2, sg2 := sg2, WD := WD, RW := RW, c1 := c1, c2 := c2, c3 := c3, c4 := c4, h1 := PyData.keyHash w.params "lineno", h2 := PyData.keyHash w.params "instream", h3 := PyData.keyHash w.params "whitespace", h4 := PyData.keyHash w.params "pushback", h5 := PyData.keyHash w.params "read", t1 := t1, t2 := t2, t3 := t3, t4 := t4, tw := tw1, u1 := u1, u2 := u2, u3 := u3, u4 := u4, u5 := u5, tq := tc, r1 := r1, r2 := r2, r3 := r3, r4 := r4, rl := rl, rw := rw1, v1 := v1, v2 := v2, v3 := v3, v4 := v4, v5 := v5, yl := yl, yi := yi, yw := yw, yp := yp, doc := doc, pm := pm, ctv := ctv, zl := zl, zi := zi, zw := zw, zp := zp, doc2 := doc2, pm2 := pm2, ctv2 := ctv2, oc := oc, oce := oce, oce2 := oce2, oWD := oD, oRW := oW, o1 := o1, o2 := o2, o3 := _, tab := tabObj (#[] ++ #[rawInt ((67 : Nat) : Int), rawInt ((4 : Nat) : Int), .ref c']), cvs := cvs }
    _ _ vs tl ⟨hn0, hn1, hn2, hn3, hn4, hn6, by omega, e1, e2, e3, e4, e5, e6, e7, e8, by omega, f2, f3, f4, f5, f7, f8, f9⟩ dco dcv dce dce2 rfl rfl rfl rfl rfl rfl rfl rfl rfl do3 ⟨_, rfl⟩ Sg (by assumption) (cb_drop N9 (fun q hq => .tail _ hq))
end
end
section
local macro_rules | `(tactic| walk_at "pyIter ref") => `(tactic| k_dat lit_iter "FFm_" "______xDS")
local macro_rules | `(tactic| walk_at "ь") => `(tactic| intro E9 R9 s9 k9 r9; exact lit_self (by with_reducible assumption) (k9 _ _ (News.get (by k_asm) (by k_mem))) r9)
local macro_rules | `(tactic| walk_at "MakeC") => `(tactic| k_dat (makeC_W 7) "FFьdR_" "_________xhDS")
local macro_rules | `(tactic| walk_at "pyNext ref") => `(tactic| first | (k_dat lit_next "FFuamъ_" "___N_DS") | (k_dat lit_end "rFFmeamы_" "___DS"))
local macro_rules | `(tactic| walk_at "CompW") => `(tactic| k_dat compW_stepK "!_" "____")
local macro_rules | `(tactic| walk_at "э") => `(tactic| k_meth)
local macro_rules | `(tactic| walk_at "ю") => `(tactic| k_in)
local macro_rules | `(tactic| walk_at "callWith ref") => `(tactic| first | (k_dat callWith_M0 "эi_" "B") | (k_dat callWith_K "Fi_" "") | (k_dat callWith_K0 "юi_" "") | (k_dat callWith_M "FFmi_" ""))
section
local macro_rules | `(tactic| k_mem) => `(tactic| first | ktf_call mem5 | ktf_call mem52 | ktf_call mem53 | ktf_call mem51 | ktf_call mem54 | ktf_call mem55 | (with_reducible exact List.mem_cons_self) | (with_reducible refine' List.mem_cons_of_mem _ ?_; k_mem))
local macro_rules | `(tactic| k_updF) => `(tactic| first | ktf_call upd51 | ktf_call upd52 | ktf_call upd53 | ktf_call upd54 | ktf_call upd55 | (refine' UpdF.head ?a; (case a => k_all)) | (refine' UpdF.tail ?a ?b; (case a => k_ne); (case b => k_updF)))
local macro_rules | `(tactic| k_all) => `(tactic| first | exact off5 (by with_reducible assumption) (by first | walk_at "lt" | omega) _ _ _ _ _ | (refine off_cons (by walk_at "ltne") ?_; k_all))
section
local macro_rules | `(tactic| walk_at "к") => `(tactic| k_dflt (show wpAny _ _ (call (Value.ref 42) _) _ _ _))
local macro_rules | `(tactic| walk_at "call ref") => `(tactic| (walk_at "к"; k_dat tok_spec "Hmmmmmmmaamau^zvnnnnnnnnnn^aa_" "_________NDS"))

local macro_rules | `(tactic| walk_at "zq") => `(tactic| fail "zq")
set_option maxHeartbeats 1600000 in
theorem law_read {w : World} {tp : Program} {lo : List Str} {mean : ExcName → Option Value} {mg mb : Str → Option Value}
    {dp un : Nat} {gd : Option (List Code)} {a : Addr} {ccd : Value} {outer : List Env} {A₀ : Around} {base h₀ : Heap} {L : Addr} {m : Str → Option Value} {s : Shared}
    {K : LexD} {P : Obj → Obj → Obj → Obj → Obj → List (Addr × Obj)} {vs : List Value} {k kw : Nat} {tl : Tok} {oW : Obj} {TX : Str} {tx : Tok} {wt st sp : Int} {tw ts tp' : Tok} {cs0 cs1 cs2 cs3 cs4 : List Nat} {m0 m1 m2 m3 m4 : Int} {v0 v1 v2 v3 v4 : Tok}
    {Q : Flow → Shared → Prop} {E : Value → Shared → Prop}
    (H : Here w tp lo mean mg mb dp un outer (dScope lawDef) A₀ base h₀ L (stM ("under" : Str) (.ref K.y) (stM ("text" : Str) (.str TX tx) (stM ("words" : Str) (.ref K.WD) (stM ("weight" : Str) (.int wt tw) (stM ("start" : Str) (.int st ts) (stM ("step" : Str) (.int sp tp') m)))))) (P (listOf vs.toArray k) (K.lexD 1 tl) (listOf ([] : List Value).toArray 0) (listOf ([] : List Value).toArray 0) oW) s 40 400)
    (S : K.Std P) (hWD : K.oWD = listOf [Value.str ⟨cs0.toArray⟩ v0, Value.str ⟨cs1.toArray⟩ v1, Value.str ⟨cs2.toArray⟩ v2, Value.str ⟨cs3.toArray⟩ v3, Value.str ⟨cs4.toArray⟩ v4].toArray kw)
    (w0 : Word cs0) (w1 : Word cs1) (w2 : Word cs2) (w3 : Word cs3) (w4 : Word cs4) (hsg : SignsAre vs.reverse (wl cs0 m0 ++ (wl cs1 m1 ++ (wl cs2 m2 ++ (wl cs3 m3 ++ (wl cs4 m4 ++ [])))))) (hz : vs.length ≤ 100)
    (hfin : ∀ h' tk' RD y0 y1 y2 y3 y4 kr k' tl', Fr h₀ L h' (stM ("read" : Str) (.ref RD) (stM ("under" : Str) (.ref K.y) (stM ("text" : Str) (.str TX tx) (stM ("words" : Str) (.ref K.WD) (stM ("weight" : Str) (.int wt tw) (stM ("start" : Str) (.int st ts) (stM ("step" : Str) (.int sp tp') m))))))) →
      News h₀ L h' ((RD, listOf [Value.str ⟨cs0.toArray⟩ y0, Value.str ⟨cs1.toArray⟩ y1, Value.str ⟨cs2.toArray⟩ y2, Value.str ⟨cs3.toArray⟩ y3, Value.str ⟨cs4.toArray⟩ y4].toArray kr) :: P (listOf ([] : List Value).toArray k') (K.lexD (1 + nlOf m0 + nlOf m1 + nlOf m2 + nlOf m3 + nlOf m4) tl') (listOf ([] : List Value).toArray 0) (listOf ([] : List Value).toArray 0) oW) →
      @LT.lt Nat instLTNat K.pb2 RD → Q .next { s with heap := h', toks := tk' }) :
    wpAny (model (RowW.prog (OpenRow.toRowW (OpenLaw.row PySem.Challenge.rw_wf0007_01))) w) (ktrTop dp un gd ("law" : Str) (dScope lawDef) L a ccd (lawCl K.c1 K.c2 K.c3 K.c4) outer)
      (execs (((dBody lawDef).drop 7).take 1) (envX ("law" : Str) (dScope lawDef) L a ccd (lawCl K.c1 K.c2 K.c3 K.c4))) Q E s := by
  revert H
  refine' law_of (fun b sc => Here w tp lo mean mg mb dp un outer sc A₀ base h₀ L (stM ("under" : Str) (.ref K.y) (stM ("text" : Str) (.str TX tx) (stM ("words" : Str) (.ref K.WD) (stM ("weight" : Str) (.int wt tw) (stM ("start" : Str) (.int st ts) (stM ("step" : Str) (.int sp tp') m)))))) (P (listOf vs.toArray k) (K.lexD 1 tl) (listOf ([] : List Value).toArray 0) (listOf ([] : List Value).toArray 0) oW) s 40 400 → wpAny (model (RowW.prog (OpenRow.toRowW (OpenLaw.row PySem.Challenge.rw_wf0007_01))) w) (ktrTop dp un gd ("law" : Str) sc L a ccd (lawCl K.c1 K.c2 K.c3 K.c4) outer)
      (execs ((b.drop 7).take 1) (envX ("law" : Str) sc L a ccd (lawCl K.c1 K.c2 K.c3 K.c4))) Q E s) ?ze1 ?_
  case ze1 => with_unfolding_all exact rfl
  rintro ⟨B, F, X, N, T, hk, hC, hd, hu⟩
  obtain ⟨O, hs, uS, uD, uP, uQ, uW, low, g1, g2, g3, g4, g5, g6⟩ := S
  obtain ⟨a1, a2, a3, a4, a5, a6, b1, b2, b3, b4, b5, b6, b7, b8, b9, d1, d2, d3, d4, d5, d6, d7, d8⟩ := O
  obtain ⟨mx, mst, mdst, mfo, mc, mce, my, mdy, mst2, mdst2, mfo2, msg2, mce2, mWD, mRW, m3', m2', mT⟩ := hs
  rw [hWD] at mWD
  simp only [List.drop, List.take]
  k_steps
  rename SignsAre _ [] => hS9
  have e9 := SignsAre.nil_of hS9
  rw [List.reverse_eq_nil_iff] at e9
  subst e9
  exact hfin _ _ _ _ _ _ _ _ _ _ _ (by assumption) (by assumption) (by omega)
end
section
local macro_rules | `(tactic| walk_at "к") => `(tactic| k_dflt (show wpAny _ _ (call (Value.ref 42) _) _ _ _))
local macro_rules | `(tactic| walk_at "call ref") => `(tactic| (walk_at "к"; k_dat end_spec "Hmmmmmmmaamam_" "_____DS"))

theorem st_canLayAll0 : ∀ ss : List Str, (∀ x ∈ ss, PyData.strOk x = true) → PyData.canLayAll0 (ss.map PyData.str) = true
  | [], _ => rfl
  | a :: r, h => by simp [PyData.canLayAll0, PyData.canLay0, st_canLayAll0 r fun x hx => h x (.tail _ hx), h a (.head _)]
theorem st_depthAll : ∀ ss : List Str, PyData.depthAll (ss.map PyData.str) = 0
  | [] => rfl
  | _ :: r => by simp [PyData.depthAll, PyData.depth, st_depthAll r]
theorem st_shaped (ss : List Str) (h : ∀ x ∈ ss, PyData.strOk x = true) : SeqAt.shaped (.list (ss.map PyData.str)) = true := by
  simp [SeqAt.shaped, PyData.canLay0, PyData.depth, st_canLayAll0 ss h, st_depthAll]
theorem st_sameAll : ∀ ss : List Str, PySem.Spec.sameAll (ss.map PyData.str) (ss.map PyData.str) = true
  | [] => by simp [PySem.Spec.sameAll]
  | a :: r => by simp [PySem.Spec.sameAll, PySem.Spec.same, st_sameAll r]
theorem st_carried {vs : List Value} {ss : List Str} (h : StrsAre vs ss) : CarriedAll vs (ss.map PyData.str) := by
  induction h with
  | nil => exact .nil
  | cons _ t _ ih => exact .cons (.str _ t) ih
theorem ne_strs {prog : Program} {w : World} {A : Around} {E : Value → Shared → Prop} {s : Shared} {h₀ : Heap} {L : Addr} {news : List (Addr × Obj)} {a b : Addr} {xs ys : List Value} {n k : Nat} {ss : List Str} {Q : Value → Shared → Prop} (N : News h₀ L s.heap news) (ha : (a, listOf xs.toArray n) ∈ news) (hb : (b, listOf ys.toArray k) ∈ news) (hi : StrsAre xs ss) (hj : StrsAre ys ss) (hok : ∀ x ∈ ss, PyData.strOk x = true) (hu : A.units + 64 < cLine) (h : Q (.bool false) s) :
    wpAny (model prog w) A (compareOp .NotEq (.ref a) (.ref b)) Q E s :=
  ne_dataH_same (reads_newData ⟨_, (N _ ha).1, rfl, _, rfl⟩ (st_carried hi)) (reads_newData ⟨_, (N _ hb).1, rfl, _, rfl⟩ (st_carried hj)) (st_shaped _ hok) (st_shaped _ hok) hu (SeqAt.noMix_of_shape (.list .str) rfl _ _ (list_map_has fun _ => rfl) (list_map_has fun _ => rfl)) (by
    have e : PySem.Spec.same (.list (ss.map PyData.str)) (.list (ss.map PyData.str)) = true := by simp only [PySem.Spec.same]; exact st_sameAll ss
    rw [e]; exact h)
local macro_rules | `(tactic| walk_at "А") => `(tactic| exact .cons _ _ (.cons _ _ (.cons _ _ (.cons _ _ (.cons _ _ .nil)))))
local macro_rules | `(tactic| walk_at "Б") => `(tactic| k_units)
local macro_rules | `(tactic| walk_at "compareOp NotEq ref ref") => `(tactic| k_dat ne_strs "FmmААaБ_" "")
set_option maxHeartbeats 800000 in
theorem law_test {w : World} {tp : Program} {lo : List Str} {mean : ExcName → Option Value} {mg mb : Str → Option Value}
    {dp un : Nat} {gd : Option (List Code)} {a : Addr} {ccd : Value} {outer : List Env} {A₀ : Around} {base h₀ : Heap} {L : Addr} {m : Str → Option Value} {s : Shared}
    {K : LexD} {P : Obj → Obj → Obj → Obj → Obj → List (Addr × Obj)} {k kw kr : Nat} {ll : Int} {tl : Tok} {oW : Obj} {RD : Addr} {TX : Str} {tx : Tok} {wt st sp : Int} {tw ts tp' : Tok} {cs0 cs1 cs2 cs3 cs4 : List Nat} {v0 v1 v2 v3 v4 y0 y1 y2 y3 y4 : Tok}
    {Q : Flow → Shared → Prop} {E : Value → Shared → Prop}
    (H : Here w tp lo mean mg mb dp un outer (dScope lawDef) A₀ base h₀ L (stM ("read" : Str) (.ref RD) (stM ("under" : Str) (.ref K.y) (stM ("text" : Str) (.str TX tx) (stM ("words" : Str) (.ref K.WD) (stM ("weight" : Str) (.int wt tw) (stM ("start" : Str) (.int st ts) (stM ("step" : Str) (.int sp tp') m))))))) ((RD, listOf [Value.str ⟨cs0.toArray⟩ y0, Value.str ⟨cs1.toArray⟩ y1, Value.str ⟨cs2.toArray⟩ y2, Value.str ⟨cs3.toArray⟩ y3, Value.str ⟨cs4.toArray⟩ y4].toArray kr) :: P (listOf ([] : List Value).toArray k) (K.lexD ll tl) (listOf ([] : List Value).toArray 0) (listOf ([] : List Value).toArray 0) oW) s 40 400)
    (S : K.Std P) (hWD : K.oWD = listOf [Value.str ⟨cs0.toArray⟩ v0, Value.str ⟨cs1.toArray⟩ v1, Value.str ⟨cs2.toArray⟩ v2, Value.str ⟨cs3.toArray⟩ v3, Value.str ⟨cs4.toArray⟩ v4].toArray kw)
    (hcnt : ll = 1 + Txt.count TX ("\n" : Str)) (hok : ∀ x ∈ [(⟨cs0.toArray⟩ : Str), ⟨cs1.toArray⟩, ⟨cs2.toArray⟩, ⟨cs3.toArray⟩, ⟨cs4.toArray⟩], PyData.strOk x = true)
    (hfin : ∀ h' tk', Fr h₀ L h' (stM ("read" : Str) (.ref RD) (stM ("under" : Str) (.ref K.y) (stM ("text" : Str) (.str TX tx) (stM ("words" : Str) (.ref K.WD) (stM ("weight" : Str) (.int wt tw) (stM ("start" : Str) (.int st ts) (stM ("step" : Str) (.int sp tp') m))))))) → News h₀ L h' ((RD, listOf [Value.str ⟨cs0.toArray⟩ y0, Value.str ⟨cs1.toArray⟩ y1, Value.str ⟨cs2.toArray⟩ y2, Value.str ⟨cs3.toArray⟩ y3, Value.str ⟨cs4.toArray⟩ y4].toArray kr) :: P (listOf ([] : List Value).toArray k) (K.lexD ll tl) (listOf ([] : List Value).toArray 0) (listOf ([] : List Value).toArray 0) oW) → Q .next { s with heap := h', toks := tk' })
    (hRD : @LT.lt Nat instLTNat K.pb2 RD) :
    wpAny (model (RowW.prog (OpenRow.toRowW (OpenLaw.row PySem.Challenge.rw_wf0007_01))) w) (ktrTop dp un gd ("law" : Str) (dScope lawDef) L a ccd (lawCl K.c1 K.c2 K.c3 K.c4) outer)
      (execs (((dBody lawDef).drop 8).take 1) (envX ("law" : Str) (dScope lawDef) L a ccd (lawCl K.c1 K.c2 K.c3 K.c4))) Q E s := by
  revert H
  refine' law_of (fun b sc => Here w tp lo mean mg mb dp un outer sc A₀ base h₀ L (stM ("read" : Str) (.ref RD) (stM ("under" : Str) (.ref K.y) (stM ("text" : Str) (.str TX tx) (stM ("words" : Str) (.ref K.WD) (stM ("weight" : Str) (.int wt tw) (stM ("start" : Str) (.int st ts) (stM ("step" : Str) (.int sp tp') m))))))) ((RD, listOf [Value.str ⟨cs0.toArray⟩ y0, Value.str ⟨cs1.toArray⟩ y1, Value.str ⟨cs2.toArray⟩ y2, Value.str ⟨cs3.toArray⟩ y3, Value.str ⟨cs4.toArray⟩ y4].toArray kr) :: P (listOf ([] : List Value).toArray k) (K.lexD ll tl) (listOf ([] : List Value).toArray 0) (listOf ([] : List Value).toArray 0) oW) s 40 400 → wpAny (model (RowW.prog (OpenRow.toRowW (OpenLaw.row PySem.Challenge.rw_wf0007_01))) w) (ktrTop dp un gd ("law" : Str) sc L a ccd (lawCl K.c1 K.c2 K.c3 K.c4) outer)
      (execs ((b.drop 8).take 1) (envX ("law" : Str) sc L a ccd (lawCl K.c1 K.c2 K.c3 K.c4))) Q E s) ?ze1 ?_
  case ze1 => with_unfolding_all exact rfl
  rintro ⟨B, F, X, N, T, hk, hC, hd, hu⟩
  obtain ⟨O, hs, uS, uD, uP, uQ, uW, low, g1, g2, g3, g4, g5, g6⟩ := S
  obtain ⟨a1, a2, a3, a4, a5, a6, b1, b2, b3, b4, b5, b6, b7, b8, b9, d1, d2, d3, d4, d5, d6, d7, d8⟩ := O
  obtain ⟨mx, mst, mdst, mfo, mc, mce, my, mdy, mst2, mdst2, mfo2, msg2, mce2, mWD, mRW, m3', m2', mT⟩ := hs
  rw [hWD] at mWD
  simp only [List.drop, List.take]
  k_steps
  · rename ll ≠ _ => hne
    exact absurd hcnt hne
  · (try dsimp only)
    exact hfin _ _ (by assumption) (by assumption)
end
section

theorem int_as {prog : Program} {w : World} {A : Around} {E : Value → Shared → Prop} {s : Shared} {cs : List Nat} {t : Tok} {n : Int} {Q : Value → Shared → Prop} (hn : PySem.intText? ⟨cs.toArray⟩ = some n) (hw : Word cs) (h : ∀ t k, Q (.int n t) { s with toks := k }) :
    wpAny (model prog w) A (call (.type "int") [.str ⟨cs.toArray⟩ t]) Q E s := by
  refine KIN.call_text hn ?_ (h _ _)
  rcases hw with ⟨a, rfl, _⟩ | ⟨a, b, rfl, _⟩ <;> (simp [Str.length])
local macro_rules | `(tactic| walk_at "call type:int") => `(tactic| k_dat int_as "aa_" "__DS")
set_option maxHeartbeats 1600000 in
theorem law_numbers {w : World} {tp : Program} {lo : List Str} {mean : ExcName → Option Value} {mg mb : Str → Option Value}
    {dp un : Nat} {gd : Option (List Code)} {a : Addr} {ccd : Value} {outer : List Env} {A₀ : Around} {base h₀ : Heap} {L : Addr} {m : Str → Option Value} {s : Shared}
    {K : LexD} {P : Obj → Obj → Obj → Obj → Obj → List (Addr × Obj)} {kr : Nat} {oS oD oP oQ oW : Obj} {RD : Addr} {TX : Str} {tx : Tok} {wt st sp : Int} {tw ts tp' : Tok} {cs0 cs1 cs2 cs3 cs4 : List Nat} {y0 y1 y2 y3 y4 : Tok} {n0 n1 n2 n3 n4 : Int}
    {Q : Flow → Shared → Prop} {E : Value → Shared → Prop}
    (H : Here w tp lo mean mg mb dp un outer (dScope lawDef) A₀ base h₀ L (stM ("read" : Str) (.ref RD) (stM ("under" : Str) (.ref K.y) (stM ("text" : Str) (.str TX tx) (stM ("words" : Str) (.ref K.WD) (stM ("weight" : Str) (.int wt tw) (stM ("start" : Str) (.int st ts) (stM ("step" : Str) (.int sp tp') m))))))) ((RD, listOf [Value.str ⟨cs0.toArray⟩ y0, Value.str ⟨cs1.toArray⟩ y1, Value.str ⟨cs2.toArray⟩ y2, Value.str ⟨cs3.toArray⟩ y3, Value.str ⟨cs4.toArray⟩ y4].toArray kr) :: P oS oD oP oQ oW) s 40 400)
    (S : K.Std P) (hRD : @LT.lt Nat instLTNat K.pb2 RD)
    (w0 : Word cs0) (w1 : Word cs1) (w2 : Word cs2) (w3 : Word cs3) (w4 : Word cs4) (i0 : PySem.intText? ⟨cs0.toArray⟩ = some n0) (i1 : PySem.intText? ⟨cs1.toArray⟩ = some n1) (i2 : PySem.intText? ⟨cs2.toArray⟩ = some n2) (i3 : PySem.intText? ⟨cs3.toArray⟩ = some n3) (i4 : PySem.intText? ⟨cs4.toArray⟩ = some n4)
    (hfin : ∀ h' tk' NU u0 u1 u2 u3 u4 kn, Fr h₀ L h' (stM ("numbers" : Str) (.ref NU) (stM ("read" : Str) (.ref RD) (stM ("under" : Str) (.ref K.y) (stM ("text" : Str) (.str TX tx) (stM ("words" : Str) (.ref K.WD) (stM ("weight" : Str) (.int wt tw) (stM ("start" : Str) (.int st ts) (stM ("step" : Str) (.int sp tp') m)))))))) → News h₀ L h' ((NU, listOf [Value.int n0 u0, Value.int n1 u1, Value.int n2 u2, Value.int n3 u3, Value.int n4 u4].toArray kn) :: P oS oD oP oQ oW) → @LT.lt Nat instLTNat K.pb2 NU → Q .next { s with heap := h', toks := tk' }) :
    wpAny (model (RowW.prog (OpenRow.toRowW (OpenLaw.row PySem.Challenge.rw_wf0007_01))) w) (ktrTop dp un gd ("law" : Str) (dScope lawDef) L a ccd (lawCl K.c1 K.c2 K.c3 K.c4) outer)
      (execs (((dBody lawDef).drop 9).take 1) (envX ("law" : Str) (dScope lawDef) L a ccd (lawCl K.c1 K.c2 K.c3 K.c4))) Q E s := by
  revert H
  refine' law_of (fun b sc => Here w tp lo mean mg mb dp un outer sc A₀ base h₀ L (stM ("read" : Str) (.ref RD) (stM ("under" : Str) (.ref K.y) (stM ("text" : Str) (.str TX tx) (stM ("words" : Str) (.ref K.WD) (stM ("weight" : Str) (.int wt tw) (stM ("start" : Str) (.int st ts) (stM ("step" : Str) (.int sp tp') m))))))) ((RD, listOf [Value.str ⟨cs0.toArray⟩ y0, Value.str ⟨cs1.toArray⟩ y1, Value.str ⟨cs2.toArray⟩ y2, Value.str ⟨cs3.toArray⟩ y3, Value.str ⟨cs4.toArray⟩ y4].toArray kr) :: P oS oD oP oQ oW) s 40 400 → wpAny (model (RowW.prog (OpenRow.toRowW (OpenLaw.row PySem.Challenge.rw_wf0007_01))) w) (ktrTop dp un gd ("law" : Str) sc L a ccd (lawCl K.c1 K.c2 K.c3 K.c4) outer)
      (execs ((b.drop 9).take 1) (envX ("law" : Str) sc L a ccd (lawCl K.c1 K.c2 K.c3 K.c4))) Q E s) ?ze1 ?_
  case ze1 => with_unfolding_all exact rfl
  rintro ⟨B, F, X, N, T, hk, hC, hd, hu⟩
  obtain ⟨O, hs, uS, uD, uP, uQ, uW, low, g1, g2, g3, g4, g5, g6⟩ := S
  simp only [List.drop, List.take]
  k_steps
  all_goals exact hfin _ _ _ _ _ _ _ _ _ (by assumption) (cb_drop (by assumption) (fun q hq => by
    rcases List.mem_cons.mp hq with rfl | hq
    · exact .head _
    · exact .tail _ (.tail _ hq))) (by omega)
end
section

noncomputable def turnBody : List Stmt := forBody ((dBody lawDef).getD 10 (.Pass ⟨0, 0, 0, 0⟩))
theorem turn_of (P : List Stmt → Scope → Prop) {s1 s2 s3 s4 : Stmt} {nm : Str} {ar : Arguments} {b : List Stmt} {ds : List PySem.Expr} {r : Option PySem.Expr} {tp : List TypeParam} {sc : Scope} {ts : Option Scope} {bn : Str} {p : Pos}
    (e1 : turnBody = s1 :: s2 :: s3 :: s4 :: []) (e2 : lawDef = .FunctionDef nm ar b ds r tp sc ts bn p) (h : P [s1, s2, s3, s4] sc) : P turnBody (dScope lawDef) := by rw [e1, e2]; exact h
/-- the names that the turns keep -/
structure TN (m : Str → Option Value) (y NU : Addr) (wv sv pv : Value) : Prop where
  numbers : m ("numbers" : Str) = some (.ref NU)
  under : m ("under" : Str) = some (.ref y)
  weight : m ("weight" : Str) = some wv
  start : m ("start" : Str) = some sv
  step : m ("step" : Str) = some pv
theorem fr_tn {h₀ h : Heap} {L : Addr} {m : Str → Option Value} {y NU : Addr} {wv sv pv : Value} (F : Fr h₀ L h m) (K : TN m y NU wv sv pv) :
    Fr h₀ L h (stM ("numbers" : Str) (.ref NU) (stM ("under" : Str) (.ref y) (stM ("weight" : Str) wv (stM ("start" : Str) sv (stM ("step" : Str) pv m))))) :=
  fr_set (fr_set (fr_set (fr_set (fr_set F K.step) K.start) K.weight) K.under) K.numbers
/-- the values of four octets -/
noncomputable def ov (c0 c1 c2 c3 : UInt8) (r : Nat) : Int := (((#[c0, c1, c2, c3][r]?).getD 0).toNat : Int)
theorem pwAll_eq {c0 c1 c2 c3 : UInt8} {st sp : Int} (hst : 0 ≤ st) (hsp : 0 ≤ sp) : pwAll #[c0, c1, c2, c3] st sp 4 = M4 (ov c0 c1 c2 c3) st.toNat sp.toNat := by
  have e : ∀ r c, pw #[c0, c1, c2, c3] st sp r c = Mv (ov c0 c1 c2 c3) st.toNat sp.toNat r c := fun r c => by
    unfold pw Mv
    rw [exp_nat hst hsp]
    rfl
  have e2 : pwAll #[c0, c1, c2, c3] st sp 4 = [pw #[c0, c1, c2, c3] st sp 0 0, pw #[c0, c1, c2, c3] st sp 0 1, pw #[c0, c1, c2, c3] st sp 0 2, pw #[c0, c1, c2, c3] st sp 0 3, pw #[c0, c1, c2, c3] st sp 1 0, pw #[c0, c1, c2, c3] st sp 1 1, pw #[c0, c1, c2, c3] st sp 1 2, pw #[c0, c1, c2, c3] st sp 1 3, pw #[c0, c1, c2, c3] st sp 2 0, pw #[c0, c1, c2, c3] st sp 2 1, pw #[c0, c1, c2, c3] st sp 2 2, pw #[c0, c1, c2, c3] st sp 2 3, pw #[c0, c1, c2, c3] st sp 3 0, pw #[c0, c1, c2, c3] st sp 3 1, pw #[c0, c1, c2, c3] st sp 3 2, pw #[c0, c1, c2, c3] st sp 3 3] := rfl
  rw [e2]
  simp only [e]
  rfl
theorem item_here {prog : Program} {w : World} {A : Around} {E : Value → Shared → Prop} {s : Shared} {h₀ : Heap} {L : Addr} {news : List (Addr × Obj)} {value slice : PySem.Expr} {l : Addr} {vs : List Value} {n : Nat} {i : Int} {u : Tok} {v : Value} {Q : Value → Shared → Prop} (N : News h₀ L s.heap news) (hl : (l, listOf vs.toArray n) ∈ news)
    (h0 : 0 ≤ i) (h1 : i < 2 ^ 63) (hx : vs[i.toNat]? = some v) (h : Q v s) (hs : subscripted slice false (.ref l) (.int i u) = operate [.ref l, .int i u] (getItem (.ref l) (.int i u))) :
    wpAny (model prog w) A (subscriptTail value slice (.ref l) (.int i u)) Q E s := by
  have hl' : s.heap.IsList l vs.toArray := ⟨_, (N _ hl).1, rfl, _, rfl⟩
  exact tail_any hl'.typeIs slot_list_getitem.lookup (wpAny_getItem_list hl' h0 h1 (by rw [List.getElem?_toArray]; exact hx) h) hs
local macro_rules | `(tactic| walk_at "subscriptTail Name Constant ref int") => `(tactic| k_dat item_here "Fmddr_w" "DS")
local macro_rules | `(tactic| walk_at "call type:list") => `(tactic| k_dat by_listK "rFF_" "__________hDS")
local macro_rules | `(tactic| walk_at "call ref") => `(tactic| (k_here; (first | (k_dflt (show wpAny _ _ (call (Value.ref 110) _) _ _ _)) | (k_dflt (show wpAny _ _ (call (Value.ref 117) _) _ _ _))); refine stop_here ?_))
theorem ne_ints {prog : Program} {w : World} {A : Around} {E : Value → Shared → Prop} {s : Shared} {h₀ : Heap} {L : Addr} {news : List (Addr × Obj)} {a b : Addr} {xs ys : List Value} {n k : Nat} {ns : List Int} {Q : Value → Shared → Prop} (N : News h₀ L s.heap news) (ha : (a, listOf xs.toArray n) ∈ news) (hb : (b, listOf ys.toArray k) ∈ news) (hi : IntsAre xs ns) (hj : IntsAre ys ns) (hu : A.units + 64 < cLine) (h : Q (.bool false) s) :
    wpAny (model prog w) A (compareOp .NotEq (.ref a) (.ref b)) Q E s :=
  ke_ne_ints ⟨_, (N _ ha).1, rfl, _, rfl⟩ ⟨_, (N _ hb).1, rfl, _, rfl⟩ hi hj hu (by rw [decide_eq_true rfl]; exact h)
local macro_rules | `(tactic| walk_at "В") => `(tactic| first | with_reducible assumption | exact .cons _ _ (.cons _ _ (.cons _ _ (.cons _ _ .nil))))
local macro_rules | `(tactic| walk_at "Б") => `(tactic| k_units)
local macro_rules | `(tactic| walk_at "compareOp NotEq ref ref") => `(tactic| k_dat ne_ints "FmmВВБ_" "")
set_option maxHeartbeats 1600000 in
theorem law_meet {w : World} {tp : Program} {lo : List Str} {mean : ExcName → Option Value} {mg mb : Str → Option Value}
    {dp un : Nat} {gd : Option (List Code)} {a : Addr} {ccd : Value} {outer : List Env} {A₀ : Around} {base h₀ : Heap} {L : Addr} {m : Str → Option Value} {s : Shared}
    {K : LexD} {P : Obj → Obj → Obj → Obj → Obj → List (Addr × Obj)} {k1 k2 kn kl : Nat} {oS oW : Obj} {ll : Int} {tl : Tok} {NU PL q : Addr} {oq : Obj} {wt st sp : Int} {tw ts tp' tb : Tok} {c0 c1 c2 c3 : UInt8} {u0 u1 u2 u3 u4 q0 q1 q2 q3 : Tok} {n0 n1 n2 n3 : Int}
    {Q : Flow → Shared → Prop} {E : Value → Shared → Prop}
    (H : Here w tp lo mean mg mb dp un outer (dScope lawDef) A₀ base h₀ L m ((PL, listOf [Value.int (c0.toNat : Int) q0, Value.int (c1.toNat : Int) q1, Value.int (c2.toNat : Int) q2, Value.int (c3.toNat : Int) q3].toArray kl) :: P oS (K.lexD ll tl) (listOf ([] : List Value).toArray k1) (listOf ([] : List Value).toArray k2) oW) s 40 400)
    (S : K.Std2 P NU q (listOf [Value.int n0 u0, Value.int n1 u1, Value.int n2 u2, Value.int n3 u3, Value.int wt u4].toArray kn) oq) (hPL : @LT.lt Nat instLTNat q PL) (hT : TN m K.y NU (.int wt tw) (.int st ts) (.int sp tp')) (ht : m ("turned" : Str) = some (.bytes #[c0, c1, c2, c3] tb)) (hp : m ("placed" : Str) = some (.ref PL))
    (D : Draw (ov c0 c1 c2 c3) wt st.toNat sp.toNat) (hst : 0 ≤ st) (hsp : 0 ≤ sp)
    (hfin : ∀ m' h' tk' k1' k2', TN m' K.y NU (.int wt tw) (.int st ts) (.int sp tp') → Fr h₀ L h' m' → News h₀ L h' (P oS (K.lexD ll tl) (listOf ([] : List Value).toArray k1') (listOf ([] : List Value).toArray k2') oW) → Q .next { s with heap := h', toks := tk' }) :
    wpAny (model (RowW.prog (OpenRow.toRowW (OpenLaw.row PySem.Challenge.rw_wf0007_01))) w) (ktrTop dp un gd ("law" : Str) (dScope lawDef) L a ccd (lawCl K.c1 K.c2 K.c3 K.c4) outer)
      (execs (turnBody.drop 2) (envX ("law" : Str) (dScope lawDef) L a ccd (lawCl K.c1 K.c2 K.c3 K.c4))) Q E s := by
  revert H
  refine' turn_of (fun b sc => Here w tp lo mean mg mb dp un outer sc A₀ base h₀ L m ((PL, listOf [Value.int (c0.toNat : Int) q0, Value.int (c1.toNat : Int) q1, Value.int (c2.toNat : Int) q2, Value.int (c3.toNat : Int) q3].toArray kl) :: P oS (K.lexD ll tl) (listOf ([] : List Value).toArray k1) (listOf ([] : List Value).toArray k2) oW) s 40 400 → wpAny (model (RowW.prog (OpenRow.toRowW (OpenLaw.row PySem.Challenge.rw_wf0007_01))) w) (ktrTop dp un gd ("law" : Str) sc L a ccd (lawCl K.c1 K.c2 K.c3 K.c4) outer)
      (execs (b.drop 2) (envX ("law" : Str) sc L a ccd (lawCl K.c1 K.c2 K.c3 K.c4))) Q E s) ?ze1 ?ze2 ?_
  case ze1 => with_unfolding_all exact rfl
  case ze2 => with_unfolding_all exact rfl
  rintro ⟨B, F, X, N, T, hk, hC, hd, hu⟩
  obtain ⟨O, hs, uS, uD, uP, uQ, uW, low, top, hq, mNU, g1, g2, g3, g4, g5, g6⟩ := S
  obtain ⟨a1, a2, a3, a4, a5, a6, b1, b2, b3, b4, b5, b6, b7, b8, b9, d1, d2, d3, d4, d5, d6, d7, d8⟩ := O
  obtain ⟨mx, mst, mdst, mfo, mc, mce, my, mdy, mst2, mdst2, mfo2, msg2, mce2, mWD, mRW, m3', m2', mT⟩ := hs
  have F1 := fr_tn (fr_set (fr_set F (y := ("placed" : Str)) hp) (y := ("turned" : Str)) ht) ⟨hT.numbers, hT.under, hT.weight, hT.start, hT.step⟩
  clear F
  simp only [List.drop]
  k_steps
  unfold Stop
  rename News h₀ L _ _ => N8
  have N9 : News h₀ L _ ((PL, listOf [Value.int (c0.toNat : Int) q0, Value.int (c1.toNat : Int) q1, Value.int (c2.toNat : Int) q2, Value.int (c3.toNat : Int) q3].toArray kl) :: P oS (K.lexD ll tl) (listOf ([] : List Value).toArray k1) (listOf ([] : List Value).toArray k2) oW) := cb_drop N8 (fun q hq => .tail _ hq)
  clear N8
  have J : Lines (fun o1 o2 => (PL, listOf [Value.int (c0.toNat : Int) q0, Value.int (c1.toNat : Int) q1, Value.int (c2.toNat : Int) q2, Value.int (c3.toNat : Int) q3].toArray kl) :: P oS (K.lexD ll tl) o1 o2 oW) K.x K.dx K.pb K.y K.dy K.pb2 := by
    refine ⟨fun o1 o2 => UpdF.tail (by k_ne) (uP _ _ _ _ _), fun o1 o2 => UpdF.tail (by k_ne) (uQ _ _ _ _ _), ⟨_, fun o1 o2 => .tail _ (mx _ _ _ _ _)⟩, ⟨K.h1, K.h2, K.h3, K.h4, K.t1, K.t2, K.t3, K.t4, .int ll tl, .ref K.st, .str "\n\t\r " K.tw, 4, fun o1 o2 => .tail _ (updF_mem (uD _ _ _ _ _))⟩, ⟨_, fun o1 o2 => .tail _ (my _ _ _ _ _)⟩, ⟨K.h1, K.h2, K.h3, K.h4, K.r1, K.r2, K.r3, K.r4, .int 1 K.rl, .ref K.st2, .str "\n\t\r " K.rw, 4, fun o1 o2 => .tail _ (mdy _ _ _ _ _)⟩⟩
  have eM := pwAll_eq (c0 := c0) (c1 := c1) (c2 := c2) (c3 := c3) hst hsp
  refine' melted_spec (G := fun o1 o2 => (PL, listOf [Value.int (c0.toNat : Int) q0, Value.int (c1.toNat : Int) q1, Value.int (c2.toNat : Int) q2, Value.int (c3.toNat : Int) q3].toArray kl) :: P oS (K.lexD ll tl) o1 o2 oW) (wt := wt) (nr := F3 (ov c0 c1 c2 c3) wt st.toNat sp.toNat) (z := P4v (ov c0 c1 c2 c3) wt st.toNat sp.toNat 0) (tl := F4 (ov c0 c1 c2 c3) wt st.toNat sp.toNat ++ F3 (ov c0 c1 c2 c3) wt st.toNat sp.toNat ++ [P4v (ov c0 c1 c2 c3) wt st.toNat sp.toNat 0]) ?H J hst ?b hsp ?d D.w1 D.w2 ?ok ?lev ?tl ?_
  case H => exact ⟨by k_asm, by k_asm, by k_asm, N9, by k_asm, by first | exact rfl | assumption, by assumption, by k_room, by k_units⟩
  case b => have := D.a2; omega
  case d => have := D.s2; omega
  case ok => rw [eM]; exact D.ok
  case lev => rw [eM]; exact D.lev3
  case tl => exact Nat.le_of_ble_eq_true rfl
  intro h' tk' R k1' k2' kk vv hI F2 N2 l2
  have l3 := led_head l2
  (try dsimp only at l3)
  clear l2 N9
  (try dsimp only at N2)
  (try dsimp only)
  k_steps
  unfold Stop
  refine' products_spec (x := ov c0 c1 c2 c3) ?H ?R ?I hst hsp D ?_
  case H => exact ⟨by k_asm, by k_asm, by k_asm, by k_asm, by k_asm, by first | exact rfl | assumption, by assumption, by k_room, by k_units⟩
  case R => exact .tail _ (.head _)
  case I => exact .cons _ _ (.cons _ _ (.cons _ _ (.cons _ _ .nil)))
  intro h'' tk'' R2 kk2 vv2 hI2 F3' N3 l4
  have l5 := led_head l4
  (try dsimp only at l5)
  clear l4
  (try dsimp only)
  k_steps
  all_goals exact hfin _ _ _ _ _ ⟨rfl, rfl, rfl, rfl, rfl⟩ (by assumption) (cb_drop (by assumption) (fun q hq => .tail _ (.tail _ (.tail _ hq))))
end
section

theorem turn_of2 (P : Stmt → Stmt → List Stmt → Scope → Prop) {s1 s2 : Stmt} {r1 : List Stmt} {nm : Str} {ar : Arguments} {b : List Stmt} {ds : List PySem.Expr} {r : Option PySem.Expr} {tp : List TypeParam} {sc : Scope} {ts : Option Scope} {bn : Str} {p : Pos}
    (e1 : turnBody = s1 :: s2 :: r1) (e2 : lawDef = .FunctionDef nm ar b ds r tp sc ts bn p) (h : P s1 s2 (turnBody.drop 2) sc) : ∃ s1 s2, turnBody = s1 :: s2 :: turnBody.drop 2 ∧ P s1 s2 (turnBody.drop 2) (dScope lawDef) :=
  ⟨s1, s2, by rw [e1]; rfl, by rw [e2]; exact h⟩
theorem any_cons_stop {M : Model} {A : Around} {E : Value → Shared → Prop} {s : Shared} {env : Env} {st : Stmt} {rest : List Stmt} {Q : Flow → Shared → Prop}
    (h : wpAny M A (exec st env) (fun f s' => match f with | .next => Stop (wpAny M A (execs rest env) Q E s') | f => Q f s') E s) : wpAny M A (execs (st :: rest) env) Q E s := fun Γ p hΓ => by
  rw [execs_cons, Sem.wp_bind']
  refine Sem.wp_mono M Γ _ (fun f p' s' h' => ?_) (fun _ _ _ h' => h') _ _ (h Γ p hΓ)
  cases f <;> first | exact h' Γ p' hΓ | exact h'
theorem bytes4K {prog : Program} {w : World} {A : Around} {E : Value → Shared → Prop} {s : Shared} {h₀ : Heap} {L : Addr} {m : Str → Option Value} {news : List (Addr × Obj)} {l : Addr} {b0 b1 b2 b3 : UInt8} {v0 v1 v2 v3 : Tok} {k : Nat} {Q : Value → Shared → Prop} (F : Fr h₀ L s.heap m) (N : News h₀ L s.heap news)
    (hl : (l, listOf [Value.int (b0.toNat : Int) v0, Value.int (b1.toNat : Int) v1, Value.int (b2.toNat : Int) v2, Value.int (b3.toNat : Int) v3].toArray k) ∈ news) (hh : A.handled = none)
    (h : ∀ h' t k, Fr h₀ L h' m → News h₀ L h' news → Q (.bytes #[b0, b1, b2, b3] t) { s with heap := h', toks := k }) : wpAny (model prog w) A (call (.type "bytes") [.ref l]) Q E s := by
  have hb : ∀ b : UInt8, 0 ≤ (b.toNat : Int) ∧ (b.toNat : Int) < 256 := fun b => ⟨by omega, by have := b.toNat_lt; omega⟩
  have hc : ∀ b : UInt8, ((b.toNat : Int)).toNat.toUInt8 = b := fun b => by simp
  refine bytes_K F N ⟨_, (N _ hl).1, rfl, _, rfl⟩ (.cons _ _ (.cons _ _ (.cons _ _ (.cons _ _ .nil)))) (fun n hn => ?_) (by rw [sizeLine_eq]; simp) hh fun h' t k F' N' _ => ?_
  · rcases List.mem_cons.mp hn with rfl | hn
    · exact hb _
    rcases List.mem_cons.mp hn with rfl | hn
    · exact hb _
    rcases List.mem_cons.mp hn with rfl | hn
    · exact hb _
    rcases List.mem_cons.mp hn with rfl | hn
    · exact hb _
    · cases hn
  · have := h h' t k F' N'
    simp only [List.map_cons, List.map_nil, hc]
    exact this
theorem rng_endD {prog : Program} {w : World} {A : Around} {E : Value → Shared → Prop} {s : Shared} {h₀ : Heap} {L : Addr} {m : Str → Option Value} {news news' : List (Addr × Obj)} {it : Addr} {x left step : Int} {Q : Option Value → Shared → Prop} (hh : A.handled = none) (F : Fr h₀ L s.heap m) (N : News h₀ L s.heap news) (hi : (it, ritObj x left step) ∈ news) (D : DelF it news news') (hleft : left ≤ 0)
    (h : ∀ h', Fr h₀ L h' m → News h₀ L h' news' → Q none { s with heap := h' }) : wpAny (model prog w) A (pyNext (.ref it)) Q E s := by
  have z := N _ hi
  exact wpAny_pyNext_range_end hh z.1 hleft fun h' hx => h h' (fr_extBut F z.2.2 z.2.1 hx) (news_ext N hi D hx)
local macro_rules | `(tactic| walk_at "subscriptTail Name BinOp ref int") => `(tactic| k_dat item_here "Fmddr_w" "DS")
local macro_rules | `(tactic| walk_at "pyIter ref") => `(tactic| k_dat rng_iter "FFakdk_" "____hDS")
local macro_rules | `(tactic| walk_at "Г") => `(tactic| intro E9 R9 s9 k9 r9; exact wpAny_pyIter_rangeiter (k9 _ _ (News.get (by k_asm) (by k_mem))) r9)
local macro_rules | `(tactic| walk_at "MakeC") => `(tactic| k_dat (makeC_W 7) "FFГdR_" "_________xhDS")
local macro_rules | `(tactic| walk_at "pyNext ref") => `(tactic| first | (k_dat rng_next "FFudkk_" "____NDS") | (k_dat rng_endD "rFFmed_" "___DS"))
local macro_rules | `(tactic| walk_at "Д") => `(tactic| exact News.isList (by k_asm) (by k_mem))
local macro_rules | `(tactic| walk_at "Е") => `(tactic| first | exact rfl | kl_lit)
local macro_rules | `(tactic| walk_at "subscriptTail Name Slice ref ref") => `(tactic| k_dat kmk_slice_lit "FFДооЕ_wрb" "____xDS")
local macro_rules | `(tactic| walk_at "call type:bytes") => `(tactic| k_dat bytes4K "FFmr_" "_____DS")
set_option maxHeartbeats 1600000 in
theorem law_t1 {w : World} {tp : Program} {lo : List Str} {mean : ExcName → Option Value} {mg mb : Str → Option Value}
    {dp un : Nat} {gd : Option (List Code)} {a : Addr} {ccd : Value} {outer : List Env} {A₀ : Around} {base h₀ : Heap} {L : Addr} {m : Str → Option Value} {s : Shared}
    {K : LexD} {P : Obj → Obj → Obj → Obj → Obj → List (Addr × Obj)} {k1 k2 kn kR : Nat} {oS oW : Obj} {ll : Int} {tl : Tok} {NU q : Addr} {oq : Obj} {wt st sp : Int} {tw ts tp' tW : Tok} {b0 b1 b2 b3 : UInt8} {u0 u1 u2 u3 u4 z0 z1 z2 z3 : Tok}
    {Q : Flow → Shared → Prop} {E : Value → Shared → Prop}
    (H : Here w tp lo mean mg mb dp un outer (dScope lawDef) A₀ base h₀ L m (P oS (K.lexD ll tl) (listOf ([] : List Value).toArray k1) (listOf ([] : List Value).toArray k2) oW) s 40 400)
    (S : K.Std2 P NU q (listOf [Value.int (b0.toNat : Int) u0, Value.int (b1.toNat : Int) u1, Value.int (b2.toNat : Int) u2, Value.int (b3.toNat : Int) u3, Value.int wt u4].toArray kn) oq) (hT : TN m K.y NU (.int wt tw) (.int st ts) (.int sp tp')) (hW : oW.data = .cell (some (.int 1 tW)))
    (hRW : K.oRW = listOf [Value.int (b0.toNat : Int) z0, Value.int (b1.toNat : Int) z1, Value.int (b2.toNat : Int) z2, Value.int (b3.toNat : Int) z3].toArray kR)
    (D : Draw (ov b0 b1 b2 b3) wt st.toNat sp.toNat) (hst : 0 ≤ st) (hsp : 0 ≤ sp)
    (hfin : ∀ m' h' tk' k1' k2', TN m' K.y NU (.int wt tw) (.int st ts) (.int sp tp') → Fr h₀ L h' m' → News h₀ L h' (P oS (K.lexD ll tl) (listOf ([] : List Value).toArray k1') (listOf ([] : List Value).toArray k2') oW) → Q .next { s with heap := h', toks := tk' }) :
    wpCln (model (RowW.prog (OpenRow.toRowW (OpenLaw.row PySem.Challenge.rw_wf0007_01))) w) (ktrTop dp un gd ("law" : Str) (dScope lawDef) L a ccd (lawCl K.c1 K.c2 K.c3 K.c4) outer)
      (execs turnBody (envX ("law" : Str) (dScope lawDef) L a ccd (lawCl K.c1 K.c2 K.c3 K.c4))) Q E s := by
  revert H
  have hz := turn_of2 (fun s1 s2 rest sc => Here w tp lo mean mg mb dp un outer sc A₀ base h₀ L m (P oS (K.lexD ll tl) (listOf ([] : List Value).toArray k1) (listOf ([] : List Value).toArray k2) oW) s 40 400 → wpCln (model (RowW.prog (OpenRow.toRowW (OpenLaw.row PySem.Challenge.rw_wf0007_01))) w) (ktrTop dp un gd ("law" : Str) sc L a ccd (lawCl K.c1 K.c2 K.c3 K.c4) outer)
      (execs (s1 :: s2 :: rest) (envX ("law" : Str) sc L a ccd (lawCl K.c1 K.c2 K.c3 K.c4))) Q E s) (by with_unfolding_all exact rfl) (by with_unfolding_all exact rfl) ?_
  · obtain ⟨s1, s2, e, hz⟩ := hz
    rw [e]
    exact hz
  rintro ⟨B, F, X, N, T, hk, hC, hd, hu⟩
  have S' := S
  obtain ⟨O, hs, uS, uD, uP, uQ, uW, low, top, hq, mNU, g1, g2, g3, g4, g5, g6⟩ := S
  obtain ⟨mx, mst, mdst, mfo, mc, mce, my, mdy, mst2, mdst2, mfo2, msg2, mce2, mWD, mRW, m3', m2', mT⟩ := hs
  rw [hRW] at mRW
  have F1 := fr_tn F hT
  clear F
  refine cln_execs_cons (cln_Assign_Name (cln_CallS (P := fun f h => f = .ref 91 ∧ (Mine.hd.heap_39 w.params).In h) (by intro v n p e; cases e) (by
    rintro f h ⟨rfl, X9⟩
    obtain ⟨k, hk, lk⟩ := looks_keep (f := .ref 91) (by k_is) X9
    exact ⟨k, hk.elim .inl fun q => .inr (.inl q), lk⟩) ?_))
  k_steps
  · trivial
  · exact Frag.In.keeps X (Fr.keep (by k_asm))
  refine swap1_spec ⟨by k_asm, by k_asm, by k_asm, by k_asm, by k_asm, by first | exact rfl | assumption, by assumption, by k_room, by k_units⟩ fun h' tk' tr F2 N2 => ?_
  (try dsimp only)
  k_steps
  refine cln_of (any_cons_stop ?_)
  k_steps
  unfold Stop
  rename News _ _ _ _ => N9
  rename Fr _ _ _ _ => F9
  have N8 := nw_cons N9 (List.Mem.head _) (fun p hp => N9 p (.tail _ (.tail _ hp)))
  with_unfolding_all exact law_meet ⟨by k_asm, F9, X, N8, by k_asm, by first | exact rfl | assumption, by assumption, hd, hu⟩ S' (by omega) ⟨rfl, rfl, rfl, rfl, rfl⟩ rfl rfl D hst hsp hfin
set_option maxHeartbeats 1600000 in
theorem law_t2 {w : World} {tp : Program} {lo : List Str} {mean : ExcName → Option Value} {mg mb : Str → Option Value}
    {dp un : Nat} {gd : Option (List Code)} {a : Addr} {ccd : Value} {outer : List Env} {A₀ : Around} {base h₀ : Heap} {L : Addr} {m : Str → Option Value} {s : Shared}
    {K : LexD} {P : Obj → Obj → Obj → Obj → Obj → List (Addr × Obj)} {k1 k2 kn kR : Nat} {oS oW : Obj} {ll : Int} {tl : Tok} {NU q : Addr} {oq : Obj} {wt st sp : Int} {tw ts tp' tW : Tok} {b0 b1 b2 b3 : UInt8} {u0 u1 u2 u3 u4 z0 z1 z2 z3 : Tok}
    {Q : Flow → Shared → Prop} {E : Value → Shared → Prop}
    (H : Here w tp lo mean mg mb dp un outer (dScope lawDef) A₀ base h₀ L m (P oS (K.lexD ll tl) (listOf ([] : List Value).toArray k1) (listOf ([] : List Value).toArray k2) oW) s 40 400)
    (S : K.Std2 P NU q (listOf [Value.int (b0.toNat : Int) u0, Value.int (b1.toNat : Int) u1, Value.int (b2.toNat : Int) u2, Value.int (b3.toNat : Int) u3, Value.int wt u4].toArray kn) oq) (hT : TN m K.y NU (.int wt tw) (.int st ts) (.int sp tp')) (hW : oW.data = .cell (some (.int 2 tW)))
    (hRW : K.oRW = listOf [Value.int (b0.toNat : Int) z0, Value.int (b1.toNat : Int) z1, Value.int (b2.toNat : Int) z2, Value.int (b3.toNat : Int) z3].toArray kR)
    (D : Draw (ov b1 b0 b3 b2) wt st.toNat sp.toNat) (hst : 0 ≤ st) (hsp : 0 ≤ sp)
    (hfin : ∀ m' h' tk' k1' k2', TN m' K.y NU (.int wt tw) (.int st ts) (.int sp tp') → Fr h₀ L h' m' → News h₀ L h' (P oS (K.lexD ll tl) (listOf ([] : List Value).toArray k1') (listOf ([] : List Value).toArray k2') oW) → Q .next { s with heap := h', toks := tk' }) :
    wpCln (model (RowW.prog (OpenRow.toRowW (OpenLaw.row PySem.Challenge.rw_wf0007_01))) w) (ktrTop dp un gd ("law" : Str) (dScope lawDef) L a ccd (lawCl K.c1 K.c2 K.c3 K.c4) outer)
      (execs turnBody (envX ("law" : Str) (dScope lawDef) L a ccd (lawCl K.c1 K.c2 K.c3 K.c4))) Q E s := by
  revert H
  have hz := turn_of2 (fun s1 s2 rest sc => Here w tp lo mean mg mb dp un outer sc A₀ base h₀ L m (P oS (K.lexD ll tl) (listOf ([] : List Value).toArray k1) (listOf ([] : List Value).toArray k2) oW) s 40 400 → wpCln (model (RowW.prog (OpenRow.toRowW (OpenLaw.row PySem.Challenge.rw_wf0007_01))) w) (ktrTop dp un gd ("law" : Str) sc L a ccd (lawCl K.c1 K.c2 K.c3 K.c4) outer)
      (execs (s1 :: s2 :: rest) (envX ("law" : Str) sc L a ccd (lawCl K.c1 K.c2 K.c3 K.c4))) Q E s) (by with_unfolding_all exact rfl) (by with_unfolding_all exact rfl) ?_
  · obtain ⟨s1, s2, e, hz⟩ := hz
    rw [e]
    exact hz
  rintro ⟨B, F, X, N, T, hk, hC, hd, hu⟩
  have S' := S
  obtain ⟨O, hs, uS, uD, uP, uQ, uW, low, top, hq, mNU, g1, g2, g3, g4, g5, g6⟩ := S
  obtain ⟨mx, mst, mdst, mfo, mc, mce, my, mdy, mst2, mdst2, mfo2, msg2, mce2, mWD, mRW, m3', m2', mT⟩ := hs
  rw [hRW] at mRW
  have F1 := fr_tn F hT
  clear F
  refine cln_execs_cons (cln_Assign_Name (cln_CallS (P := fun f h => f = .ref 91 ∧ (Mine.hd.heap_39 w.params).In h) (by intro v n p e; cases e) (by
    rintro f h ⟨rfl, X9⟩
    obtain ⟨k, hk, lk⟩ := looks_keep (f := .ref 91) (by k_is) X9
    exact ⟨k, hk.elim .inl fun q => .inr (.inl q), lk⟩) ?_))
  k_steps
  · trivial
  · exact Frag.In.keeps X (Fr.keep (by k_asm))
  refine swap2_spec ⟨by k_asm, by k_asm, by k_asm, by k_asm, by k_asm, by first | exact rfl | assumption, by assumption, by k_room, by k_units⟩ fun h' tk' tr F2 N2 => ?_
  (try dsimp only)
  k_steps
  refine cln_of (any_cons_stop ?_)
  k_steps
  unfold Stop
  rename News _ _ _ _ => N9
  rename Fr _ _ _ _ => F9
  have N8 := nw_cons N9 (List.Mem.head _) (fun p hp => N9 p (.tail _ (.tail _ hp)))
  with_unfolding_all exact law_meet ⟨by k_asm, F9, X, N8, by k_asm, by first | exact rfl | assumption, by assumption, hd, hu⟩ S' (by omega) ⟨rfl, rfl, rfl, rfl, rfl⟩ rfl rfl D hst hsp hfin
set_option maxHeartbeats 1600000 in
theorem law_t4 {w : World} {tp : Program} {lo : List Str} {mean : ExcName → Option Value} {mg mb : Str → Option Value}
    {dp un : Nat} {gd : Option (List Code)} {a : Addr} {ccd : Value} {outer : List Env} {A₀ : Around} {base h₀ : Heap} {L : Addr} {m : Str → Option Value} {s : Shared}
    {K : LexD} {P : Obj → Obj → Obj → Obj → Obj → List (Addr × Obj)} {k1 k2 kn kR : Nat} {oS oW : Obj} {ll : Int} {tl : Tok} {NU q : Addr} {oq : Obj} {wt st sp : Int} {tw ts tp' tW : Tok} {b0 b1 b2 b3 : UInt8} {u0 u1 u2 u3 u4 z0 z1 z2 z3 : Tok}
    {Q : Flow → Shared → Prop} {E : Value → Shared → Prop}
    (H : Here w tp lo mean mg mb dp un outer (dScope lawDef) A₀ base h₀ L m (P oS (K.lexD ll tl) (listOf ([] : List Value).toArray k1) (listOf ([] : List Value).toArray k2) oW) s 40 400)
    (S : K.Std2 P NU q (listOf [Value.int (b0.toNat : Int) u0, Value.int (b1.toNat : Int) u1, Value.int (b2.toNat : Int) u2, Value.int (b3.toNat : Int) u3, Value.int wt u4].toArray kn) oq) (hT : TN m K.y NU (.int wt tw) (.int st ts) (.int sp tp')) (hW : oW.data = .cell (some (.int 4 tW)))
    (hRW : K.oRW = listOf [Value.int (b0.toNat : Int) z0, Value.int (b1.toNat : Int) z1, Value.int (b2.toNat : Int) z2, Value.int (b3.toNat : Int) z3].toArray kR)
    (D : Draw (ov b3 b2 b1 b0) wt st.toNat sp.toNat) (hst : 0 ≤ st) (hsp : 0 ≤ sp)
    (hfin : ∀ m' h' tk' k1' k2', TN m' K.y NU (.int wt tw) (.int st ts) (.int sp tp') → Fr h₀ L h' m' → News h₀ L h' (P oS (K.lexD ll tl) (listOf ([] : List Value).toArray k1') (listOf ([] : List Value).toArray k2') oW) → Q .next { s with heap := h', toks := tk' }) :
    wpCln (model (RowW.prog (OpenRow.toRowW (OpenLaw.row PySem.Challenge.rw_wf0007_01))) w) (ktrTop dp un gd ("law" : Str) (dScope lawDef) L a ccd (lawCl K.c1 K.c2 K.c3 K.c4) outer)
      (execs turnBody (envX ("law" : Str) (dScope lawDef) L a ccd (lawCl K.c1 K.c2 K.c3 K.c4))) Q E s := by
  revert H
  have hz := turn_of2 (fun s1 s2 rest sc => Here w tp lo mean mg mb dp un outer sc A₀ base h₀ L m (P oS (K.lexD ll tl) (listOf ([] : List Value).toArray k1) (listOf ([] : List Value).toArray k2) oW) s 40 400 → wpCln (model (RowW.prog (OpenRow.toRowW (OpenLaw.row PySem.Challenge.rw_wf0007_01))) w) (ktrTop dp un gd ("law" : Str) sc L a ccd (lawCl K.c1 K.c2 K.c3 K.c4) outer)
      (execs (s1 :: s2 :: rest) (envX ("law" : Str) sc L a ccd (lawCl K.c1 K.c2 K.c3 K.c4))) Q E s) (by with_unfolding_all exact rfl) (by with_unfolding_all exact rfl) ?_
  · obtain ⟨s1, s2, e, hz⟩ := hz
    rw [e]
    exact hz
  rintro ⟨B, F, X, N, T, hk, hC, hd, hu⟩
  have S' := S
  obtain ⟨O, hs, uS, uD, uP, uQ, uW, low, top, hq, mNU, g1, g2, g3, g4, g5, g6⟩ := S
  obtain ⟨mx, mst, mdst, mfo, mc, mce, my, mdy, mst2, mdst2, mfo2, msg2, mce2, mWD, mRW, m3', m2', mT⟩ := hs
  rw [hRW] at mRW
  have F1 := fr_tn F hT
  clear F
  refine cln_execs_cons (cln_Assign_Name (cln_CallS (P := fun f h => f = .ref 91 ∧ (Mine.hd.heap_39 w.params).In h) (by intro v n p e; cases e) (by
    rintro f h ⟨rfl, X9⟩
    obtain ⟨k, hk, lk⟩ := looks_keep (f := .ref 91) (by k_is) X9
    exact ⟨k, hk.elim .inl fun q => .inr (.inl q), lk⟩) ?_))
  k_steps
  · trivial
  · exact Frag.In.keeps X (Fr.keep (by k_asm))
  refine swap4_spec ⟨by k_asm, by k_asm, by k_asm, by k_asm, by k_asm, by first | exact rfl | assumption, by assumption, by k_room, by k_units⟩ fun h' tk' tr F2 N2 => ?_
  (try dsimp only)
  k_steps
  refine cln_of (any_cons_stop ?_)
  k_steps
  unfold Stop
  rename News _ _ _ _ => N9
  rename Fr _ _ _ _ => F9
  have N8 := nw_cons N9 (List.Mem.head _) (fun p hp => N9 p (.tail _ (.tail _ hp)))
  with_unfolding_all exact law_meet ⟨by k_asm, F9, X, N8, by k_asm, by first | exact rfl | assumption, by assumption, hd, hu⟩ S' (by omega) ⟨rfl, rfl, rfl, rfl, rfl⟩ rfl rfl D hst hsp hfin
end
section
local macro_rules | `(tactic| walk_at "к") => `(tactic| k_dflt (show wpAny _ _ (call (Value.ref 42) _) _ _ _))
local macro_rules | `(tactic| walk_at "call ref") => `(tactic| (walk_at "к"; k_dat end_spec "Hmmmmmmmaamam_" "_____DS"))

theorem forC_step {prog : Program} {w : World} {A : Around} {nm : Str} {body : List Stmt} {env : Env} {Q : Flow → Shared → Prop} {it : Value} {n : Nat} {s : Shared}
    (h : wpAny (model prog w) A (pyNext it) (fun r s₁ => match r with
      | none => Q .next s₁
      | some v => wpAny (model prog w) A (storeName env nm v) (fun _ s₂ => wpCln (model prog w) A (execs body env) (fun f s₃ => match f with
          | .next => ForC prog w A nm body env Q it n s₃
          | .cont => ForC prog w A nm body env Q it n s₃
          | .brk => Q .next s₃
          | .ret v => Q (.ret v) s₃) (fun _ _ => False) s₂) (fun _ _ => False) s₁) (fun _ _ => False) s) : ForC prog w A nm body env Q it (n + 1) s := h
theorem loop_off {P : Obj → Obj → Obj → Obj → Obj → List (Addr × Obj)} {it TP NU q : Addr} {ot ln a b c d e : Obj} (low : ∀ a b c d e, ∀ p ∈ P a b c d e, p.1 < q + 1) (h1 : @LT.lt Nat instLTNat q NU) (h2 : @LT.lt Nat instLTNat NU TP) (h3 : @LT.lt Nat instLTNat TP it) : ∀ p ∈ (TP, ot) :: (NU, ln) :: P a b c d e, p.1 ≠ it :=
  off_cons (Nat.ne_of_lt h3) (off_cons (Nat.ne_of_lt (Nat.lt_trans h2 h3)) (off5 low (Nat.succ_le_of_lt (Nat.lt_trans h1 (Nat.lt_trans h2 h3))) _ _ _ _ _))
theorem law_split (P : Stmt → Stmt → Scope → Prop) {x1 x2 x3 x4 x5 x6 x7 x8 x9 x10 s1 s2 : Stmt} {nm : Str} {ar : Arguments} {ds : List PySem.Expr} {r : Option PySem.Expr} {tp : List TypeParam} {sc : Scope} {ts : Option Scope} {bn : Str} {p : Pos}
    (e : lawDef = .FunctionDef nm ar [x1, x2, x3, x4, x5, x6, x7, x8, x9, x10, s1, s2] ds r tp sc ts bn p) (h : P s1 s2 sc) : ∃ s1 s2, (dBody lawDef).drop 10 = [s1, s2] ∧ P s1 s2 (dScope lawDef) := ⟨s1, s2, by rw [e]; rfl, by rw [e]; exact h⟩
local macro_rules | `(tactic| walk_at "pyIter ref") => `(tactic| (refine stop_here ?_))
set_option maxHeartbeats 1600000 in
theorem law_loop {w : World} {tp : Program} {lo : List Str} {mean : ExcName → Option Value} {mg mb : Str → Option Value}
    {dp un : Nat} {gd : Option (List Code)} {a : Addr} {ccd : Value} {outer : List Env} {A₀ : Around} {base h₀ : Heap} {L : Addr} {m : Str → Option Value} {s : Shared}
    {K : LexD} {P : Obj → Obj → Obj → Obj → Obj → List (Addr × Obj)} {k1 k2 kn kR kS : Nat} {oW : Obj} {v₀ : Option Value} {ll : Int} {tl : Tok} {NU : Addr} {wt st sp : Int} {tw ts tp' : Tok} {b0 b1 b2 b3 : UInt8} {u0 u1 u2 u3 u4 z0 z1 z2 z3 : Tok}
    {Q : Flow → Shared → Prop}
    (H : Here w tp lo mean mg mb dp un outer (dScope lawDef) A₀ base h₀ L m ((NU, listOf [Value.int (b0.toNat : Int) u0, Value.int (b1.toNat : Int) u1, Value.int (b2.toNat : Int) u2, Value.int (b3.toNat : Int) u3, Value.int wt u4].toArray kn) :: P (listOf ([] : List Value).toArray kS) (K.lexD ll tl) (listOf ([] : List Value).toArray k1) (listOf ([] : List Value).toArray k2) oW) s 40 400)
    (S : K.Std P) (hNU : @LT.lt Nat instLTNat K.pb2 NU) (hT : TN m K.y NU (.int wt tw) (.int st ts) (.int sp tp')) (hW : oW.data = .cell v₀)
    (hRW : K.oRW = listOf [Value.int (b0.toNat : Int) z0, Value.int (b1.toNat : Int) z1, Value.int (b2.toNat : Int) z2, Value.int (b3.toNat : Int) z3].toArray kR)
    (D1 : Draw (ov b0 b1 b2 b3) wt st.toNat sp.toNat) (D2 : Draw (ov b1 b0 b3 b2) wt st.toNat sp.toNat) (D4 : Draw (ov b3 b2 b1 b0) wt st.toNat sp.toNat) (hst : 0 ≤ st) (hsp : 0 ≤ sp)
    (hfin : ∀ m' h' tk', Fr h₀ L h' m' → News h₀ L h' [(93, K.tab)] → Q (.ret (.bool true)) { s with heap := h', toks := tk' }) :
    wpCln (model (RowW.prog (OpenRow.toRowW (OpenLaw.row PySem.Challenge.rw_wf0007_01))) w) (ktrTop dp un gd ("law" : Str) (dScope lawDef) L a ccd (lawCl K.c1 K.c2 K.c3 K.c4) outer)
      (execs ((dBody lawDef).drop 10) (envX ("law" : Str) (dScope lawDef) L a ccd (lawCl K.c1 K.c2 K.c3 K.c4))) Q (fun _ _ => False) s := by
  revert H
  have hz := law_split (fun s1 s2 sc => Here w tp lo mean mg mb dp un outer sc A₀ base h₀ L m ((NU, listOf [Value.int (b0.toNat : Int) u0, Value.int (b1.toNat : Int) u1, Value.int (b2.toNat : Int) u2, Value.int (b3.toNat : Int) u3, Value.int wt u4].toArray kn) :: P (listOf ([] : List Value).toArray kS) (K.lexD ll tl) (listOf ([] : List Value).toArray k1) (listOf ([] : List Value).toArray k2) oW) s 40 400 → wpCln (model (RowW.prog (OpenRow.toRowW (OpenLaw.row PySem.Challenge.rw_wf0007_01))) w) (ktrTop dp un gd ("law" : Str) sc L a ccd (lawCl K.c1 K.c2 K.c3 K.c4) outer)
      (execs [s1, s2] (envX ("law" : Str) sc L a ccd (lawCl K.c1 K.c2 K.c3 K.c4))) Q (fun _ _ => False) s) (by with_unfolding_all exact rfl) ?_
  · obtain ⟨s1, s2, e, hz⟩ := hz
    rw [e]
    exact hz
  rintro ⟨B, F, X, N, T, hk, hC, hd, hu⟩
  have S' := S
  obtain ⟨O, hs, uS, uD, uP, uQ, uW, low, g1, g2, g3, g4, g5, g6⟩ := S
  obtain ⟨mx, mst, mdst, mfo, mc, mce, my, mdy, mst2, mdst2, mfo2, msg2, mce2, mWD, mRW, m3', m2', mT⟩ := hs
  refine cln_execs_cons (for_C 4 ?_)
  k_steps
  unfold Stop
  rename_i TP _ _ N1 hTP
  refine tup_iter (by k_asm) N1 ⟨_, News.get N1 (.head _), rfl, _, rfl⟩ fun it oi h1 F2 N2 ht2 hO l2 l3 => ?_
  clear l2
  (try dsimp only)
  refine forC_step ?_
  refine tup_next F2 N2 (UpdF.head (loop_off low hNU hTP.1 l3)) hO ⟨_, News.get N2 (.tail _ (.head _)), rfl, _, rfl⟩ l3 (arr_get rfl) fun o1 ha1 Fa1 Na1 hta1 hO1 => ?_
  (try dsimp only)
  refine storeX_C (c := K.c4) Fa1 Na1 rfl ((S'.two hNU hTP.1 l3).uW _ _ _ _ _) hW (fun hb1 oW1 Fb1 Nb1 hW1 => ?_) rfl rfl
  with_unfolding_all refine law_t1 (E := fun _ _ => False) ⟨by k_asm, Fb1, X, Nb1, by k_asm, by first | exact rfl | assumption, by assumption, hd, hu⟩ (S'.two hNU hTP.1 l3) hT hW1 hRW D1 hst hsp fun m1 hc1 tk1 k11 k21 hT1 Fc1 Nc1 => ?_
  (try dsimp only)
  refine forC_step ?_
  refine tup_next Fc1 Nc1 (UpdF.head (loop_off low hNU hTP.1 l3)) hO1 ⟨_, News.get Nc1 (.tail _ (.head _)), rfl, _, rfl⟩ l3 (arr_get rfl) fun o2 ha2 Fa2 Na2 hta2 hO2 => ?_
  (try dsimp only)
  refine storeX_C (c := K.c4) Fa2 Na2 rfl ((S'.two hNU hTP.1 l3).uW _ _ _ _ _) hW1 (fun hb2 oW2 Fb2 Nb2 hW2 => ?_) rfl rfl
  with_unfolding_all refine law_t2 (E := fun _ _ => False) ⟨by k_asm, Fb2, X, Nb2, by k_asm, by first | exact rfl | assumption, by assumption, hd, hu⟩ (S'.two hNU hTP.1 l3) hT1 hW2 hRW D2 hst hsp fun m2 hc2 tk2 k12 k22 hT2 Fc2 Nc2 => ?_
  (try dsimp only)
  refine forC_step ?_
  refine tup_next Fc2 Nc2 (UpdF.head (loop_off low hNU hTP.1 l3)) hO2 ⟨_, News.get Nc2 (.tail _ (.head _)), rfl, _, rfl⟩ l3 (arr_get rfl) fun o3 ha3 Fa3 Na3 hta3 hO3 => ?_
  (try dsimp only)
  refine storeX_C (c := K.c4) Fa3 Na3 rfl ((S'.two hNU hTP.1 l3).uW _ _ _ _ _) hW2 (fun hb3 oW3 Fb3 Nb3 hW3 => ?_) rfl rfl
  with_unfolding_all refine law_t4 (E := fun _ _ => False) ⟨by k_asm, Fb3, X, Nb3, by k_asm, by first | exact rfl | assumption, by assumption, hd, hu⟩ (S'.two hNU hTP.1 l3) hT2 hW3 hRW D4 hst hsp fun m3 hc3 tk3 k13 k23 hT3 Fc3 Nc3 => ?_
  (try dsimp only)
  refine forC_step ?_
  refine tup_end rfl Fc3 Nc3 (.head _) (DelF.head (loop_off low hNU hTP.1 l3)) hO3 ⟨_, News.get Nc3 (.tail _ (.head _)), rfl, _, rfl⟩ (arr_none rfl) fun h9 F9 N9 => ?_
  (try dsimp only)
  have F8 := fr_tn F9 hT3
  clear F9
  refine cln_of ?_
  have hTP1 := hTP.1
  k_steps
  rename News _ _ _ _ => NZ
  exact hfin _ _ _ (by assumption) (nw_cons NZ (by k_mem) (fun p hp => nomatch hp))
end
end
end
end
section
theorem cln_piece {M : Model} {A : Around} {E : Value → Shared → Prop} {s : Shared} {env : Env} {l : List Stmt} {Q : Flow → Shared → Prop} (k n j : Nat) (e : k + n = j)
    (h : wpAny M A (execs ((l.drop k).take n) env) (fun f s' => match f with | .next => wpCln M A (execs (l.drop j) env) Q E s' | f => Q f s') E s) : wpCln M A (execs (l.drop k) env) Q E s := by
  subst e
  have h' := cln_execs_app (b := (l.drop k).drop n) (by rw [List.drop_drop]; exact h)
  rwa [List.take_append_drop] at h'
theorem draw_of {c0 c1 c2 c3 : UInt8} {w : Int} {a s : Nat} (l0 : 1 ≤ (c0.toNat : Int) ∧ (c0.toNat : Int) ≤ 32) (l1 : 1 ≤ (c1.toNat : Int) ∧ (c1.toNat : Int) ≤ 32) (l2 : 1 ≤ (c2.toNat : Int) ∧ (c2.toNat : Int) ≤ 32) (l3 : 1 ≤ (c3.toNat : Int) ∧ (c3.toNat : Int) ≤ 32)
    (n01 : (c0.toNat : Int) ≠ c1.toNat) (n02 : (c0.toNat : Int) ≠ c2.toNat) (n03 : (c0.toNat : Int) ≠ c3.toNat) (n12 : (c1.toNat : Int) ≠ c2.toNat) (n13 : (c1.toNat : Int) ≠ c3.toNat) (n23 : (c2.toNat : Int) ≠ c3.toNat)
    (w1 : -1 ≤ w) (w2 : w ≤ 4) (ha : a ≤ 2) (s1 : 1 ≤ s) (s2 : s ≤ 2) : Draw (ov c0 c1 c2 c3) w a s where
  lo := fun i hi => by
    rcases i with _ | _ | _ | _ | i
    · exact l0.1
    · exact l1.1
    · exact l2.1
    · exact l3.1
    · omega
  hi := fun i hi => by
    rcases i with _ | _ | _ | _ | i
    · exact l0.2
    · exact l1.2
    · exact l2.2
    · exact l3.2
    · omega
  ne := fun i j hi hj hij => by
    rcases i with _ | _ | _ | _ | i <;> rcases j with _ | _ | _ | _ | j <;> first | exact absurd rfl hij | omega | assumption | exact n01 | exact n02 | exact n03 | exact n12 | exact n13 | exact n23 | exact n01.symm | exact n02.symm | exact n03.symm | exact n12.symm | exact n13.symm | exact n23.symm
  w1 := w1
  w2 := w2
  a2 := ha
  s1 := s1
  s2 := s2
theorem octet_of {r : Int} (h0 : 0 ≤ r) (h1 : r < 256) : ∃ b : UInt8, r = (b.toNat : Int) := by
  obtain ⟨n, rfl⟩ := Int.eq_ofNat_of_zero_le h0
  refine ⟨n.toUInt8, ?_⟩
  have e : n.toUInt8.toNat = n % 256 := rfl
  rw [e, Nat.mod_eq_of_lt (by omega)]
theorem oct_of {r q k : Int} (h : r = 4 * q + k) (hq : 0 ≤ q ∧ q ≤ 7) (hk : 1 ≤ k ∧ k ≤ 4) : ∃ b : UInt8, r = (b.toNat : Int) ∧ (1 ≤ (b.toNat : Int) ∧ (b.toNat : Int) ≤ 32) := by
  obtain ⟨b, rfl⟩ := octet_of (r := r) (by omega) (by omega)
  exact ⟨b, rfl, by omega⟩
theorem in40 {x : Int} (g : 1 ≤ x ∧ x ≤ 32) : 0 ≤ x ∧ x ≤ 40 := by omega
theorem ne4 {x y q r k l : Int} (h : x = 4 * q + k) (h' : y = 4 * r + l) (d : (k - l) % 4 ≠ 0) : x ≠ y := by omega
theorem draw_in {st sp : Int} (hst : 0 ≤ st ∧ st ≤ 2) (hsp : 1 ≤ sp ∧ sp ≤ 2) : st.toNat ≤ 2 ∧ 1 ≤ sp.toNat ∧ sp.toNat ≤ 2 ∧ 0 ≤ sp := by omega
set_option maxHeartbeats 1600000 in
theorem law_rest {w : World} {tp : Program} {lo : List Str} {mean : ExcName → Option Value} {mg mb : Str → Option Value}
    {dp un : Nat} {gd : Option (List Code)} {a : Addr} {ccd : Value} {outer : List Env} {A₀ : Around} {base h₀ : Heap} {L : Addr} {m : Str → Option Value} {s : Shared}
    {c1 c2 c3 c4 DC : Addr} {o1 o2 o3 o4 : Obj} {ys : List Value} {ns : List Int} {kc : Nat}
    {Q : Flow → Shared → Prop}
    (B : Below A₀ base outer h₀) (F : Fr h₀ L s.heap m) (X : (Mine.hd.heap_39 w.params).In h₀) (T : Top tp lo mean mg mb h₀) (hC : CodeHd base 97 93) (hd : dp + 40 < recursionLimit) (hu : un + 400 < cLine)
    (N : News h₀ L s.heap ((DC, listOf ys.toArray kc) :: (c4, o4) :: (c3, o3) :: (c2, o2) :: (c1, o1) :: (93, tabObj #[]) :: []))
    (hI : IntsAre ys ns) (hlen : ys.length ≤ 12) (d1 : o1.data = .cell (some (.ref DC))) (d2 : o2.data = .cell none) (d3 : o3.data = .cell none) (d4 : o4.data = .cell none)
    (hn0 : @LT.lt Nat instLTNat 93 c1) (hn1 : @LT.lt Nat instLTNat c1 c2) (hn2 : @LT.lt Nat instLTNat c2 c3) (hn3 : @LT.lt Nat instLTNat c3 c4)
    (hfin : ∀ m' h' tk' ps, Fr h₀ L h' m' → News h₀ L h' [(93, tabObj ps)] → Q (.ret (.bool true)) { s with heap := h', toks := tk' }) :
    wpCln (model (RowW.prog (OpenRow.toRowW (OpenLaw.row PySem.Challenge.rw_wf0007_01))) w) (ktrTop dp un gd ("law" : Str) (dScope lawDef) L a ccd (lawCl c1 c2 c3 c4) outer)
      (execs ((dBody lawDef).drop 1) (envX ("law" : Str) (dScope lawDef) L a ccd (lawCl c1 c2 c3 c4))) Q (fun _ _ => False) s := by
  have hk : (dScope lawDef).kind = .function := by with_unfolding_all rfl
  have h93 : ∀ p ∈ [((93 : Addr), tabObj #[])], p.1 < c1 := fun p hp => by
    rw [List.mem_singleton.mp hp]; exact hn0
  refine cln_piece 1 1 2 rfl (law_draws ⟨B, F, X, N, T, hk, hC, hd, hu⟩ hI hlen d1 (fun h1 tk1 DR e0 e1 e2 e3 e4 e5 t0 t1 t2 t3 t4 t5 kd F1 N1 l1 => ?_) h93 hn1 hn2 hn3)
  refine cln_piece 2 2 4 rfl (law_row ⟨B, F1, X, N1, T, hk, hC, hd, hu⟩ d2 (fun h2 tk2 RW o2' r0 r1 r2 r3 q0 q1 q2 q3 wt st sp u0 u1 u2 u3 tw ts tp' kR hr0 hr1 hr2 hr3 b0 b1 b2 b3 hwt hst hsp F2 N2 d2' l2 => ?_) h93 hn1 hn2 hn3 l1)
  obtain ⟨x0, rfl, j0⟩ := oct_of hr0 b0 (by decide)
  obtain ⟨x1, rfl, j1⟩ := oct_of hr1 b1 (by decide)
  obtain ⟨x2, rfl, j2⟩ := oct_of hr2 b2 (by decide)
  obtain ⟨x3, rfl, j3⟩ := oct_of hr3 b3 (by decide)
  obtain ⟨cs0, w0, y0, i0⟩ := word_of (n := (x0.toNat : Int)) (Int.le_trans (by decide) j0.1) j0.2
  obtain ⟨cs1, w1, y1, i1⟩ := word_of (n := (x1.toNat : Int)) (Int.le_trans (by decide) j1.1) j1.2
  obtain ⟨cs2, w2, y2, i2⟩ := word_of (n := (x2.toNat : Int)) (Int.le_trans (by decide) j2.1) j2.2
  obtain ⟨cs3, w3, y3, i3⟩ := word_of (n := (x3.toNat : Int)) (Int.le_trans (by decide) j3.1) j3.2
  obtain ⟨cs4, w4, y4, i4⟩ := word_of (n := wt) hwt.1 (Int.le_trans hwt.2 (by decide))
  refine cln_piece 4 1 5 rfl (law_words ⟨B, F2, X, N2, T, hk, hC, hd, hu⟩ (in40 j0) (in40 j1) (in40 j2) (in40 j3) (by omega) y0 y1 y2 y3 y4 (fun h3 tk3 WD v0 v1 v2 v3 v4 kw F3 N3 l3 => ?_) d2' h93 hn1 hn2 hn3 l1 l2)
  refine cln_piece 5 1 6 rfl (law_text ⟨B, F3, X, N3, T, hk, hC, hd, hu⟩ w0 w1 w2 w3 w4 (fun h4 tk4 TX tx hTX F4 N4 => ?_) h93 hn1 hn2 hn3 l1 l2 l3)
  have hTl : TX.cps.size ≤ 30 := by
    have := flat_len (m0 := e0.fdiv 48) (m1 := e1.fdiv 48) (m2 := e2.fdiv 48) (m3 := e3.fdiv 48) (m4 := e4.fdiv 48) w0 w1 w2 w3 w4
    rw [← hTX] at this
    simpa using this
  refine cln_piece 6 1 7 rfl (law_lexers ⟨B, F4, X, N4, T, hk, hC, hd, hu⟩ (Nat.le_trans hTl (by decide)) d3 (fun K h5 tk5 vs tl O g1 g2 g3 g4 k1 k2 k3 k4 kWD kRW kOW kOR ko2 g5 ⟨ps, htab⟩ Sg F5 N5 => ?_) hn0 hn1 hn2 hn3 (Nat.lt_trans l1 l2) l3)
  subst k1 k2 k3 k4 kWD kRW
  have S : K.Std K.B := LexD.std O g1 g2 g3 g4 g5 (by rw [ko2]; exact d2')
  generalize LexD.B K = P at *
  have hvl : vs.reverse.length ≤ 100 := by
    rw [List.length_reverse, Sg.length]
    exact Nat.le_trans hTl (by decide)
  refine cln_piece 7 1 8 rfl (law_read ⟨B, F5, X, N5, T, hk, hC, hd, hu⟩ S kOW w0 w1 w2 w3 w4 (flat_signs hTX Sg) hvl (fun h6 tk6 RD z0 z1 z2 z3 z4 kr k' tl' F6 N6 l6 => ?_))
  refine cln_piece 8 1 9 rfl (law_test ⟨B, F6, X, N6, T, hk, hC, hd, hu⟩ S kOW (flat_cnt hTX w0 w1 w2 w3 w4) (fun x hx => ?_) (fun h7 tk7 F7 N7 => ?_) l6)
  · rcases List.mem_cons.mp hx with rfl | hx
    · exact word_ok w0
    rcases List.mem_cons.mp hx with rfl | hx
    · exact word_ok w1
    rcases List.mem_cons.mp hx with rfl | hx
    · exact word_ok w2
    rcases List.mem_cons.mp hx with rfl | hx
    · exact word_ok w3
    rcases List.mem_cons.mp hx with rfl | hx
    · exact word_ok w4
    · cases hx
  refine cln_piece 9 1 10 rfl (law_numbers ⟨B, F7, X, N7, T, hk, hC, hd, hu⟩ S l6 w0 w1 w2 w3 w4 i0 i1 i2 i3 i4 (fun h8 tk8 NU f0 f1 f2 f3 f4 kn F8 N8 l8 => ?_))
  have ds := draw_in hst hsp
  have dr : ∀ {a b c d : UInt8}, 1 ≤ (a.toNat : Int) ∧ (a.toNat : Int) ≤ 32 → 1 ≤ (b.toNat : Int) ∧ (b.toNat : Int) ≤ 32 → 1 ≤ (c.toNat : Int) ∧ (c.toNat : Int) ≤ 32 → 1 ≤ (d.toNat : Int) ∧ (d.toNat : Int) ≤ 32 → (a.toNat : Int) ≠ b.toNat → (a.toNat : Int) ≠ c.toNat → (a.toNat : Int) ≠ d.toNat → (b.toNat : Int) ≠ c.toNat → (b.toNat : Int) ≠ d.toNat → (c.toNat : Int) ≠ d.toNat → Draw (ov a b c d) wt st.toNat sp.toNat :=
    fun h1 h2 h3 h4 h5 h6 h7 h8 h9 h10 => draw_of h1 h2 h3 h4 h5 h6 h7 h8 h9 h10 hwt.1 hwt.2 ds.1 ds.2.1 ds.2.2.1
  have n01 := ne4 hr0 hr1 (by decide)
  have n02 := ne4 hr0 hr2 (by decide)
  have n03 := ne4 hr0 hr3 (by decide)
  have n12 := ne4 hr1 hr2 (by decide)
  have n13 := ne4 hr1 hr3 (by decide)
  have n23 := ne4 hr2 hr3 (by decide)
  refine law_loop ⟨B, F8, X, N8, T, hk, hC, hd, hu⟩ S l8 ⟨rfl, rfl, rfl, rfl, rfl⟩ d4 kOR (dr j0 j1 j2 j3 n01 n02 n03 n12 n13 n23) (dr j1 j0 j3 j2 n01.symm n13 n12 n03 n02 n23.symm) (dr j3 j2 j1 j0 n23.symm n13.symm n03.symm n12.symm n02.symm n01.symm) hst.1 ds.2.2.2 (fun m' h9 tk9 F9 N9 => ?_)
  rw [htab] at N9
  exact hfin m' h9 tk9 ps F9 N9
end
section
theorem enter_cln {M : Model} {A : Around} {s : Shared} {f : Value} {pos : List Value} {kw : List (Str × Value)} {c : ClaimW} {cl : Str → Option Addr} {mean : ExcName → Option Value} {args : List WData} {s₁ : Shared}
    (h : codeCln M A (.call f ⟨pos, kw⟩) (fun r s' => (∃ v, r = .ok (.ret v)) ∧ GoodWG c cl mean args s₁ r s') s) : wpCln M A (PySem.call f pos kw) (fun v s' => GoodWG c cl mean args s₁ (.ok (.ret v)) s') (fun e s' => GoodWG c cl mean args s₁ (.error e) s') s :=
  cln_call (codeCln_mono h fun res s' g => by obtain ⟨⟨v, rfl⟩, g⟩ := g; exact g)
theorem cln_split {M : Model} {A : Around} {E : Value → Shared → Prop} {s : Shared} {env : Env} {l a b : List Stmt} {Q : Flow → Shared → Prop} (n : Nat) (ha : l.take n = a) (hb : l.drop n = b)
    (h : wpAny M A (execs a env) (fun f s' => match f with | .next => wpCln M A (execs b env) Q E s' | f => Q f s') E s) : wpCln M A (execs l env) Q E s := by
  subst ha; subst hb
  have e := cln_execs_app h
  rwa [List.take_append_drop] at e
theorem good_grown {cw : ClaimW} {cl : Str → Option Addr} {mean : ExcName → Option Value} {args : List WData} {s₁ s' : Shared} {L c P : Addr} {m : Str → Option Value} {ps : Array Value} {b : Bool} (hT : TabsAt [(c, P)] s₁.heap) (F : Fr (ghostOf s₁.heap [(c, P)]) L s'.heap m)
    (hP : s'.heap.get? P = some (tabObj ps)) (hos : s'.os = s₁.os) (hg : s'.gens = #[]) (hn : ∀ cls, cw.raises args cls = false) (hp : cw.post args (.bool b) args = true) : GoodWG cw cl mean args s₁ (.ok (.ret (.bool b))) s' := by
  have h0 := hT (c, P) (.head _)
  have keep : ∀ x o, x ≠ P → s₁.heap.get? x = some o → s'.heap.get? x = some o := fun x o hx e => F.keep x o (ghost_ne e fun q => hx (List.mem_singleton.mp q))
  refine ⟨.inl ⟨_, _, [], rfl, hn, .bool b, hp, unshared_nil⟩, ⟨fun x o e => ?_, fun x o e => ?_⟩, hos, .of_eq hg⟩
  · rcases Classical.em (x = P) with hx | hx
    · subst hx
      cases h0.2.symm.trans e
      exact .inr (.inl ⟨(h0.1.tab h0.2).isCodeTable, rfl, #[], ps, rfl, hP.trans (congrArg (fun z => some (tabObj z)) (Array.empty_append).symm)⟩)
    · exact .inl (keep x o hx e)
  · rcases Classical.em (x = P) with hx | hx
    · subst hx
      exact ⟨_, hP⟩
    · exact ⟨o, keep x o hx e⟩
theorem law_enter {w : World} {tp : Program} {lo : List Str} {mean : ExcName → Option Value} {mg mb : Str → Option Value}
    {a : Addr} {ccd : Value} {h₀ : Heap} {L : Addr} {m : Str → Option Value} {s : Shared}
    {D E : Addr} {o1 o2 o3 o4 oE : Obj} {ys : List Value} {ns : List Int} {kc : Nat} {Q : Flow → Shared → Prop}
    (B : Below callerA h₀ [] h₀) (F : Fr h₀ L s.heap m) (X : (Mine.hd.heap_39 w.params).In h₀) (T : Top tp lo mean mg mb h₀) (hC : CodeHd h₀ 97 93)
    (N : News h₀ L s.heap ((D, listOf ys.toArray kc) :: (E, oE) :: (L + 1 + 1 + 1 + 1, o4) :: (L + 1 + 1 + 1, o3) :: (L + 1 + 1, o2) :: (L + 1, o1) :: (93, tabObj #[]) :: []))
    (hI : IntsAre ys ns) (hlen : ys.length ≤ 12) (d1 : o1.data = .cell (some (.ref D))) (d2 : o2.data = .cell none) (d3 : o3.data = .cell none) (d4 : o4.data = .cell none) (h93 : @LT.lt Nat instLTNat 93 L)
    (hfin : ∀ m' h' tk' ps, Fr h₀ L h' m' → News h₀ L h' [(93, tabObj ps)] → Q (.ret (.bool true)) { s with heap := h', toks := tk' }) :
    wpCln (model (RowW.prog (OpenRow.toRowW (OpenLaw.row PySem.Challenge.rw_wf0007_01))) w) (Around.deeper callerA (envOfC ("law" : Str) (dScope lawDef) L a ccd))
      (execs ((dBody lawDef).drop 1) (envOfC ("law" : Str) (dScope lawDef) L a ccd)) Q (fun _ _ => False) s := by
  have ec : cellsFrom (L + 1) (dScope lawDef).names [] = lawCl (L + 1) (L + 1 + 1) (L + 1 + 1 + 1) (L + 1 + 1 + 1 + 1) := by with_unfolding_all rfl
  have ee : envOfC ("law" : Str) (dScope lawDef) L a ccd = envX ("law" : Str) (dScope lawDef) L a ccd (lawCl (L + 1) (L + 1 + 1) (L + 1 + 1 + 1) (L + 1 + 1 + 1 + 1)) := by unfold envOfC; rw [ec]
  rw [ee]
  exact law_rest B F X T hC (by decide +kernel) (by decide +kernel)
    (cb_drop N fun q hq => by
      rcases List.mem_cons.mp hq with rfl | hq
      · exact .head _
      · exact .tail _ (.tail _ hq)) hI hlen d1 d2 d3 d4 (Nat.lt_succ_of_lt h93) (Nat.lt_succ_self _) (Nat.lt_succ_self _) (Nat.lt_succ_self _) hfin
/-- what the head asks of the top's run -/
noncomputable def LeftOf {A B C : Prop} (_ : A ∧ B → C) : Prop := A
set_option maxHeartbeats 16000000 in
theorem left_ok : LeftOf hd := fun w => by kernel_rfl
set_option maxHeartbeats 16000000 in
theorem main : PySem.Challenge.rw_wf0007_01.Holds := by
  refine and_left hd left_ok ?_
  k_fill
  intro w s₀ s₁ mg mb G Y fa o pm cd doc dV kV ho hd hcd hD hmg hg args vals as hpre hlay hrd hwl hlo
  have KX := km_in_of Y
  km_tabs Y
  have X := (Ground.X G).1
  have V := (Ground.X G).2
  refine Ground.open G ?_
  intro T B D TE TW
  try (refine guard_noD D (by decide +kernel) ?_; clear D)
  km_lay T hmg ho hd cd
  clear hmg
  wrow_args hpre hlay hrd hwl hlo
  all_goals refine enter_cln ?_
  w_top on
  have he := Dflts.none hD rfl; subst he; have he := Dflts.noKw hD; subst he
  refine codeCln_law (by decide) ho (fd_plain hd) (Top.nolimit T) hcd rfl (kinds_of (by kinds_ok)) (by decide) fun h₁ tk₁ cells F N0 X0 => ?_
  cells_open X0
  clear hd
  kn_ghosts F T
  k_drop
  refine cln_split 1 rfl rfl ?_
  dsimp only [DefRec.body, List.take_succ_cons, List.take_zero, List.drop_succ_cons, List.drop_zero]
  k_steps
  all_goals (show wpCln _ _ _ _ _ _)
  all_goals refine' cln_mono ((law_enter ?B ?F ?X ?T ?C ?N ?I ?len ?d1 ?d2 ?d3 ?d4 ?l ?fin)) (fun _ _ h => h) (fun _ _ h => h)
  case B => k_asm
  case F => k_asm
  case X => k_asm
  case T => k_asm
  case C => first | assumption | k_asm
  case N => with_unfolding_all assumption
  case I => assumption
  case d1 => assumption
  case d2 => with_unfolding_all assumption
  case d3 => with_unfolding_all assumption
  case d4 => with_unfolding_all assumption
  case l => assumption
  case len =>
    rename _ = List.length (List.map (fun k' => Int.fmod k' _) _) => hl
    rw [hl, List.length_map, List.length_take]
    exact Nat.min_le_left _ _
  case fin =>
    intro m' h' tk' ps F9 N9
    refine ⟨⟨_, rfl⟩, good_grown hT9 F9 (N9 _ (.head _)).1 rfl hg (raisesW_false ?_) ?_⟩
    · wrow_none_raised
    · refine postW_of (by wrow_shape) (by wtm_val) (by w_fin)
end
end Mine
set_option maxRecDepth 100000 in
theorem PySem.Challenge.cw_wf0007_01_holds : PySem.Challenge.rw_wf0007_01.Holds :=
  Mine.main
