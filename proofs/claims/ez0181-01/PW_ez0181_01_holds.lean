import PyProof.Rows.All
import Wide.All
import OpenK.AllK
import Wide.FinOn
import PySem.Challenge.RW_ez0181_01
set_option Elab.async false
set_option maxRecDepth 100000
set_option linter.unusedVariables false
-- AzNa
namespace Az
open PySem PySem.W PyProof.Rows PySem.Calls PySem.Spec
section
/-! ## steps under a stack without the collector's clean-up -/
def NoFinC (c : Code) : Prop := ∀ a, c ≠ .builtin "lifetime.gc.finalise" a
def Clean (Γ : PySem.Ctx) : Prop := NoFinC Γ.code ∧ ∀ q ∈ Γ.below, NoFinC q.1

def wpN {α : Type} (M : Model) (A : Around) (t : Sem α) (Q : α → Shared → Prop) (E : Value → Shared → Prop) (s : Shared) : Prop :=
  ∀ Γ p, Γ.In A → Clean Γ → Sem.wp M Γ t (fun a _ s' => Q a s') (fun e _ s' => E e s') p s
def codeN (M : Model) (A : Around) (c : Code) (R : Result → Shared → Prop) (s : Shared) : Prop :=
  ∀ Γ p, Γ.code = c → Γ.Below A → Clean Γ → wpCode M Γ R p s

section
variable {α β : Type} {M : Model} {A : Around} {E : Value → Shared → Prop} {s : Shared}
theorem wpN_of {t : Sem α} {Q : α → Shared → Prop} (h : wpAny M A t Q E s) : wpN M A t Q E s := fun Γ p hΓ _ => h Γ p hΓ
theorem codeN_of {c : Code} {R : Result → Shared → Prop} (h : codeAny M A c R s) : codeN M A c R s := fun Γ p hc hΓ _ => h Γ p hc hΓ
theorem wpN_mono {t : Sem α} {Q Q' : α → Shared → Prop} {E' : Value → Shared → Prop} (h : wpN M A t Q E s)
    (hQ : ∀ a s, Q a s → Q' a s) (hE : ∀ e s, E e s → E' e s) : wpN M A t Q' E' s :=
  fun Γ p hΓ hN => Sem.wp_mono M Γ t (fun a _ s => hQ a s) (fun e _ s => hE e s) p s (h Γ p hΓ hN)
theorem wpN_pure {a : α} {Q : α → Shared → Prop} (h : Q a s) : wpN M A (pure a) Q E s := wpN_of (wpAny_pure h)
theorem wpN_bind {m : Sem α} {f : α → Sem β} {Q : β → Shared → Prop} (h : wpN M A m (fun a s' => wpN M A (f a) Q E s') E s) :
    wpN M A (m >>= f) Q E s := fun Γ p hΓ hN => by
  rw [Sem.wp_bind']
  exact Sem.wp_mono M Γ m (fun a p' s' h' => h' Γ p' hΓ hN) (fun _ _ _ h' => h') p s (h Γ p hΓ hN)
theorem wpN_tryCatch {m : Sem α} {k : Value → Sem α} {Q : α → Shared → Prop} (h : wpN M A m Q (fun e s' => wpN M A (k e) Q E s') s) :
    wpN M A (tryCatch m k) Q E s := fun Γ p hΓ hN => by
  rw [Sem.wp_tryCatch']
  exact Sem.wp_mono M Γ m (fun _ _ _ h' => h') (fun e p' s' h' => h' Γ p' hΓ hN) p s (h Γ p hΓ hN)
theorem wpN_onRaise {m : Sem α} {k : Value → Sem Unit} {Q : α → Shared → Prop}
    (h : wpN M A m Q (fun e s' => wpN M A (k e) (fun _ s'' => E e s'') E s') s) : wpN M A (m.onRaise k) Q E s := fun Γ p hΓ hN => by
  rw [Sem.wp_onRaise]
  exact Sem.wp_mono M Γ m (fun _ _ _ h' => h') (fun e p' s' h' => h' Γ p' hΓ hN) p s (h Γ p hΓ hN)
theorem wpN_attempt {m : Sem α} {Q : Except Value α → Shared → Prop} (h : wpN M A m (fun a => Q (.ok a)) (fun e => Q (.error e)) s) :
    wpN M A m.attempt Q E s := fun Γ p hΓ hN => by rw [Sem.wp_attempt]; exact h Γ p hΓ hN
theorem wpN_holding {vs : List Value} {m : Sem α} {Q : α → Shared → Prop} (h : wpN M A m Q E s) : wpN M A (holding vs m) Q E s :=
  fun Γ p hΓ hN => by rw [Sem.wp_holding]; exact h Γ p hΓ hN
theorem wpN_keep {vs : List Value} {m : Sem α} {Q : α → Shared → Prop} (h : wpN M A m Q E s) : wpN M A (m.keep vs) Q E s :=
  fun Γ p hΓ hN => by rw [Sem.wp_keep]; exact h Γ p hΓ hN
theorem Clean.enter {Γ : PySem.Ctx} (h : Clean Γ) {c : Code} {hd : Option Value} {p : Pos} (hc : NoFinC c) : Clean (Γ.enter c hd p) :=
  ⟨hc, fun _ hq => (List.mem_cons.mp hq).elim (fun e => e ▸ h.1) (h.2 _)⟩
theorem wpN_runValue {c : Code} {Q : Value → Shared → Prop} (hn : NoFinC c)
    (hc : codeN M A c (fun r s' => match r with | .ok (.ret v) => Q v s' | .ok _ => False | .error e => E e s') s) :
    wpN M A (runValue c) Q E s := fun Γ p hΓ hN => by rw [Sem.wp_runValue]; exact hc _ p rfl (hΓ.enter c none p (by intro x; cases x)) (hN.enter hn)
theorem wpN_call {f : Value} {pos : List Value} {kw : List (Str × Value)} {Q : Value → Shared → Prop}
    (hc : codeN M A (.call f ⟨pos, kw⟩) (fun r s' => match r with | .ok (.ret v) => Q v s' | .ok _ => False | .error e => E e s') s) :
    wpN M A (call f pos kw) Q E s := wpN_runValue (fun _ e => by cases e) hc
theorem codeN_mono {c : Code} {R R' : Result → Shared → Prop} (h : codeN M A c R s) (hR : ∀ r s, R r s → R' r s) : codeN M A c R' s :=
  fun Γ p hc hΓ hN => wpCode_mono hR (h Γ p hc hΓ hN)
theorem codeN_of_tree {c : Code} {R : Result → Shared → Prop}
    (h : wpN M (A.under c) (M.den c) (fun fin s' => match fin with | .done f => R (.ok f) s' | .again c' => c'.quiet = true ∧ NoFinC c' ∧ codeN M A c' R s')
      (fun e s' => R (.error e) s') s) : codeN M A c R s := fun Γ p hc hΓ hN => by
  rw [wpCode_iff_wp, hc]
  refine Sem.wp_mono M Γ _ (fun fin p' s' h' => ?_) (fun _ _ _ h' => h') p s (h Γ p (hc ▸ hΓ.in) hN)
  cases fin with
  | done f => exact h'
  | again c' => exact ⟨h'.1, h'.2.2 (Γ.goto c') p' rfl (hΓ.goto c') ⟨h'.2.1, hN.2⟩⟩
theorem wpN_at {t : Sem α} {r : α} {f : α → Sem β} {Q : β → Shared → Prop} (L : Looks M s.heap t r) (h : wpN M A (f r) Q E s) : wpN M A (t >>= f) Q E s :=
  wpN_bind (wpN_mono (wpN_of (L A (fun v s' => v = r ∧ s' = s) (fun _ _ => False) s (fun _ _ e => e) ⟨rfl, rfl⟩)) (fun a s' ⟨e1, e2⟩ => by subst e1; subst e2; exact h) fun _ _ e => e.elim)
end

section
variable {prog : Program} {w : World} {A : Around} {E : Value → Shared → Prop} {s : Shared} {R : Result → Shared → Prop}
theorem codeN_func {body env}
    (h : wpN (model prog w) (A.deeper env) (execs body env) (fun f s' => R (.ok (.ret (match f with | .ret v => v | _ => .none))) s') (fun _ _ => False) s) :
    codeN (model prog w) A (.func body env) R s := by
  refine codeN_of_tree ?_
  show wpN _ (A.deeper env) (do point; match ← (execs body env).onRaise (leaving env) with | .ret v => ret v | _ => ret .none) _ _ s
  refine wpN_bind (wpN_mono (wpN_of (wpAny_point (Q := fun _ s' => s' = s) (E := fun _ _ => False) rfl)) (fun _ s' e => ?_) fun _ _ e => e.elim)
  subst e
  refine wpN_bind (wpN_onRaise (wpN_mono h (fun f s' h' => ?_) fun _ _ h' => h'.elim))
  cases f <;> exact wpN_pure h'
theorem codeN_call_function {a : Addr} {args : Args} {o : Obj} {fd : FuncData} {body : List Stmt} (hroom : A.depth < recursionLimit)
    (ho : s.heap.get? a = some o)
    (hd' : o.data = .func fd) (hco : fd.scope.isCoroutine = false) (hgen : fd.scope.isGenerator = false) (hbody : fd.body = .stmts body) (hcd : s.heap.CodeRec fd.code fd.qualname)
    (h : wpAny (model prog w) A.in1 (bindArgs fd args) (fun binds s₁ =>
      wpAny (model prog w) A.in1 (newFunctionEnv fd.scope fd.globals fd.closure binds (fd.qualname ++ ".<locals>.") (some a) fd.code none fd.builtins)
        (fun env s₂ => s₂.heap.NoLimit ∧ codeN (model prog w) A (.func body env) R s₂) (fun _ _ => False) s₁) (fun _ _ => False) s) :
    codeN (model prog w) A (.call (.ref a) args) R s := by
  refine codeN_of_tree ?_
  show wpN _ A.in1 (callAny (.ref a) args) _ _ s
  refine wpN_of ?_
  simp only [callAny]
  refine wpAny_bind (wpAny_load ho ?_)
  obtain ⟨c, oc, vs, tq, hc, hoc, hdc, hq⟩ := hcd
  simp only [hd', callFunction, hco, hgen, hbody, hc]
  rw [hc] at h
  refine wpAny_bind (m := field (.ref c) 1) (wpAny_field hoc hdc hq (wpAny_bind (wpAny_pure ?_)))
  exact wpAny_bind (wpAny_mono h (fun binds s₁ h₁ => wpAny_bind (wpAny_mono h₁ (fun env s₂ h₂ => wpAny_bind (wpAny_enterFrame h₂.1 hroom
    (wpAny_pure (And.intro rfl (And.intro (fun _ e => by cases e) h₂.2))))) fun _ _ h' => h'.elim)) fun _ _ h' => h'.elim)
end
end
-- AzHd
section
abbrev callerC : PySem.Ctx := ⟨.builtin "claim.caller" {}, none, none, [], none⟩
theorem clean_caller : Clean callerC := ⟨fun a e => by injection e with e1 _; exact absurd e1 (by decide), fun q hq => nomatch hq⟩
theorem done_of_wpN {M : Model} {t : Sem Fin} {R : Result → Shared → Prop} {s : Shared} (h : wpN M callerA t (fun fin s' => ∃ f, fin = .done f ∧ R (.ok f) s') (fun e s' => R (.error e) s') s) (p : Pos) :
    Sem.wp M callerC t (Sem.finPost M callerC R) (fun e _ s' => R (.error e) s') p s :=
  Sem.wp_mono M callerC t (fun fin p' s' ⟨f, e, hf⟩ => by subst e; exact hf) (fun _ _ _ h' => h') p s (h callerC p caller_in clean_caller)
section
variable {r : OpenRow} {q : Program} {loose : List Str}
/-- what the claim's caller does -/
abbrev treeOf (r : OpenRow) (vs : List Value) : Sem Fin := do
  match ← nsGet mainNs r.toRowW.name with
  | some f => do ret (← PySem.call f vs)
  | none => unsupported "claim.caller:no-such-global"
/-- the head, for a call that is shown under the caller's own stack alone -/
theorem holds_clean {Xt : Shared → Bool} {XP : (Str → Option Value) → Heap → Prop} {α : Type} {Yf : Shared → α} {Ya : World → α} {YP : World → Heap → Prop} {d : DefRec} {kwd : List (Str × PySem.Expr)} {N : Nat}
    (left : LeftO r.prog q loose Xt Yf Ya N) (hY : ∀ w s, Yf s = Ya w → YP w s.heap) (hYk : ∀ w h h', YP w h → (∀ b o, h.get? b = some o → h'.get? b = some o) → YP w h')
    (hX : ∀ s, Xt s = true → XP (s.heap.nsMap mainGlobals) s.heap) (hXk : ∀ mg h h', XP mg h → (∀ b o, h.get? b = some o → h'.get? b = some o) → XP mg h')
    (hdef : defOf q r.name = some (d, kwd)) (hp : r.prog.theDef r.name = some (d.params, d.body, d.scope)) (hk : kwWritten? d.params.kwonlyargs d.params.kw_defaults = some kwd) (hRf : ∀ s, Xt s = true → RecFacts r.records s.heap) (hwr : (!r.writes || r.records.isEmpty) = true)
    (k1 : r.wellSaid = true) (ok : (chainsOk q && opensWell r.prog && (frees r.toRowW && r.within.isEmpty)) = true) (hb : r.prog.bare) (hw : r.toRowW.promised)
    (call : ∀ (w : World) (s₀ s₁ : Shared) (mg mb : Str → Option Value), Ground q loose r.records XP w s₀ mg mb s₁.heap → YP w s₁.heap → ∀ (args : List WData) (vs : List Value) (as : List Addr),
      r.claim.pre args = true → WData.layableAll args = true → Laid r.records w s₀ s₁ args vs as → sysModules < s₀.heap.objs.size → ∀ f, mg r.name = some f →
        codeN (model r.prog w) callerA (.call f ⟨vs, []⟩) (fun res s' => ∃ v, res = .ok (.ret v) ∧ GoodWG r.claim (classAt s₀.heap) (ExcName.means s₀.heap) args s₁ res s') s₁) : r.Holds := by
  obtain ⟨ok, k5⟩ := Bool.and_eq_true_iff.mp ok
  obtain ⟨hch, o1⟩ := Bool.and_eq_true_iff.mp ok
  obtain ⟨k5, k6⟩ := Bool.and_eq_true_iff.mp k5
  obtain ⟨hsame, hu, ha, hap, hm⟩ := frees_parts k5
  have hi := ident_freeW hu ha hap
  have hwi : r.claim.within = [] := List.isEmpty_iff.mp k6
  refine ⟨k1, hw, ⟨hb, o1, by show r.toRowW.makers.map _ = []; rw [hm]; rfl⟩, hw.witness, fun w => ?_⟩
  have beh := left.behind (XP := fun mg h => XP mg h ∧ RecFacts r.records h) (fun s hs => ⟨hX s hs, hRf s hs⟩) hch w
  refine ⟨beh.1, fun s' hs' => ?_⟩
  obtain ⟨s₀, hf, hg0, s, hT, hz, hgens, hg, GX, y⟩ := beh.2 s' hs'
  have G0 : Ground q loose [] XP w s (s.heap.nsMap mainGlobals) (s.heap.nsMap builtinsNs) s.heap := ⟨GX.T, GX.B, GX.D, GX.TE, GX.TD, GX.W, GX.X.1, GX.cls, GX.has, GX.apart, GX.once, GX.K⟩
  have RF := GX.X.2
  have G : Ground q loose r.records XP w s _ _ s.heap := RF.ground G0
  have hgs : s.gens = #[] := Array.eq_empty_of_size_eq_zero (beq_iff_eq.mp hgens)
  refine ⟨s₀, hf, hg0, s, hT, fun n hn => ?_, RF.1, RF.2.1, fun args hpre hlay ord hord => ?_⟩
  · obtain rfl : n = r.name := by split at hn <;> simp_all
    exact pinned_of_view hg G0 hdef hp hk
  obtain ⟨⟨vs, s₁⟩, hlaid⟩ := Option.isSome_iff_exists.mp (layAllW_isSome (P := w.params) (ord := ord) G.has args r.args s (pre_splitW hpre).1)
  have keeps := layAllW_keeps _ _ _ hlaid
  have hal := layAllW_rest _ _ _ hlaid
  obtain ⟨as, hrd, hin, hold⟩ := reads_layAllW hord _ _ _ hlaid hlay s₁.heap (fun _ _ e => e)
  have L : Laid r.records w s s₁ args vs as := ⟨⟨ord, hord, hlaid⟩, hrd, hin, hold, keeps, hal.1.trans hgs, hal.2.2.1⟩
  have G₁ := G.keeps hXk keeps
  obtain ⟨a, o, pm, cd, doc, dV, kV, g1, _⟩ := G₁.fn hdef
  have hk1 := call w s s₁ _ _ G₁ (hYk _ _ _ (hY w s y) keeps) args vs as hpre hlay L G.low (.ref a) g1
  have run : wpN (model r.prog w) callerA (treeOf r vs) (fun fin s' => ∃ f, fin = .done f ∧ ((r.claim.Ends s args vs s₁ (.ok f) s' ∧ s'.os = s.os ∧ (r.writes = true → namesKept r.prog r.keeps s.heap s'.heap ∧ ∀ x ∈ r.records, ∀ a, classAt s.heap x.1 = some a → recordClass s'.heap a x.1 (x.2.map (·.1)) = true)) ∧ leftWithCleanup s'.gens = false)) (fun _ _ => False) s₁ := by
    refine wpN_bind (wpN_of (wpAny_nsGet G₁.T.g ?_))
    rw [g1]
    refine wpN_bind (wpN_mono (wpN_call (E := fun _ _ => False) (codeN_mono hk1 fun res s' ⟨v, e, g⟩ => ?_)) (fun v s' g => wpN_pure g) fun _ _ e => e)
    subst e
    have z := g.laid (c := r.claim) hsame hwi hi L
    exact ⟨_, rfl, ⟨z.1, z.2.1, fun q => ⟨namesKept_of hT hg _ keeps g.2.1.old, noTable hwr q⟩⟩, leftWithCleanup_false_of_bare z.2.2⟩
  obtain ⟨n, res, s₃, s₂, e1, e2, e3, hR⟩ := wp_halts_full (M := model r.prog w) (Shared.asleep_of_life hal.2.2.2 hz) (done_of_wpN (R := fun res s' => (r.claim.Ends s args vs s₁ res s' ∧ s'.os = s.os ∧ (r.writes = true → namesKept r.prog r.keeps s.heap s'.heap ∧ ∀ x ∈ r.records, ∀ a, classAt s.heap x.1 = some a → recordClass s'.heap a x.1 (x.2.map (·.1)) = true)) ∧ leftWithCleanup s'.gens = false) (wpN_mono run (fun _ _ h => h) fun _ _ h => h.elim) default)
  obtain ⟨eh, _, _, eo, _⟩ := Shared.forget_eq e3
  obtain ⟨hends, hos, hkp⟩ := hR
  have hcase := hends.congr eh
  have hlife : s₂.heap.life = s.heap.life := (runN_life _ _ _ e2).trans hal.2.2.2
  refine ⟨vs, s₁, hlaid, n, _, s₂, e1, ?_, (fun _ i x hx => by rw [hgs] at hx; simp at hx), (by rw [eh]; exact hkp), by rw [hlife], Shared.rest_eq (eo.trans hos)⟩
  rcases hcase with ⟨v, rfl, d1, d2, d3, d4, d5⟩ | ⟨e, ob, cls, rfl, d1, d2, d3, d4, d5⟩
  · exact .inl ⟨v, rfl, d1, d2, d3, fun b o y _ => d4 b o y, d5⟩
  · exact .inr ⟨e, ob, cls, rfl, d1, d2, d3, d4, fun b o y _ => d5 b o y⟩
end
end
-- HD
end Az
section
open PySem PySem.W PyProof.Rows
namespace Mine
-- the head for a call that is shown under the caller's own stack: Az.holds_clean in the place of PySem.W.holds_open
local macro_rules | `(tactic| refine PySem.W.holds_open $xs*) => `(tactic| refine Az.holds_clean $xs*)
set_option maxRecDepth 100000 in
set_option maxHeartbeats 8000000 in
open_top hd for PySem.Challenge.rw_ez0181_01
end Mine
end
-- AzBase
namespace Az
open PySem PySem.W PyProof.Rows PySem.Calls PySem.Spec
section
abbrev Pg : Program := PySem.Challenge.pw_ez0181_01

/-- a value without its token -/
inductive AV where
  | none | bool (b : Bool) | int (i : Int) | str (s : Str) | ref (a : Addr) | oth (v : Value)

def er : Value → AV
  | .none => .none
  | .bool b => .bool b
  | .int i _ => .int i
  | .str s _ => .str s
  | .ref a => .ref a
  | v => .oth v

theorem er_none {v : Value} (h : er v = .none) : v = .none := by cases v <;> simp_all [er]
theorem er_bool {v : Value} {b : Bool} (h : er v = .bool b) : v = .bool b := by cases v <;> simp_all [er]
theorem er_int {v : Value} {i : Int} (h : er v = .int i) : ∃ t, v = .int i t := by cases v <;> simp_all [er]
theorem er_str {v : Value} {i : Str} (h : er v = .str i) : ∃ t, v = .str i t := by cases v <;> simp_all [er]
theorem er_ref {v : Value} {a : Addr} (h : er v = .ref a) : v = .ref a := by cases v <;> simp_all [er]
theorem er_type {v : Value} {n : String} (h : er v = .oth (.type n)) : v = .type n := by cases v <;> simp_all [er]
theorem er_builtin {v : Value} {n : String} (h : er v = .oth (.builtin n)) : v = .builtin n := by cases v <;> simp_all [er]

/-- what an object holds, without tokens and epochs -/
inductive AO where
  | list (vs : List AV)
  | tup (vs : List AV)
  | idict (kvs : List (Int × AV)) (ep : Nat)
  | sdict (kvs : List (Str × AV)) (ep : Nat) (handed : Bool)
  | set (xs : List Int) (ep : Nat)
  | inst (C d : Addr)
  | nview (C d : Addr) (v : AV)
  | cell (v : Option AV)
  | ob (n : String) (fs : Array Value)
  | raw (o : Obj)

/-- small ints, rising -/
def Small (xs : List Int) : Prop := xs.Pairwise (· < ·) ∧ ∀ i ∈ xs, 0 ≤ i ∧ i < 7
structure SetTab (bt : Bool) (xs : List Int) (t : SetTable) : Prop where
  place : t.place = (xs.map Int.toNat).toArray
  dummies : t.dummies = #[]
  led : t.led = !bt
  plain : t.plain = true
  mask : t.mask = 7 ∨ t.mask = 15 ∨ t.mask = 31

def OR (w : World) : AO → Obj → Prop
  | .list vs, o => ∃ xs n, o = { cls := .type "list", data := .seq xs n } ∧ xs.toList.map er = vs
  | .tup vs, o => ∃ xs n, o = { cls := .type "tuple", data := .seq xs n } ∧ xs.toList.map er = vs
  | .idict kvs n, o => ∃ es kvs', o.ExactDict ∧ o.data = .dict es n ∧ KeysOf (intKind Pg w) es ∧ Pairs (intKind Pg w) es.toList kvs' ∧ (kvs'.map (·.1)).Nodup ∧ kvs'.map (fun p => (p.1, er p.2)) = kvs
  | .sdict kvs n hd, o => ∃ es kvs', o = { cls := .type "dict", data := .dict es n, slots := if hd then #[none] else #[] } ∧ KeysOf (strKind Pg w) es ∧ Pairs (strKind Pg w) es.toList kvs' ∧ (kvs'.map (·.1)).Nodup ∧ kvs'.map (fun p => (p.1, er p.2)) = kvs
  | .set xs n, o => ∃ es t, o = { cls := .type "set", data := .set es n t } ∧ es.toList.map (fun e => (e.1, er e.2)) = xs.map (fun i => (i, AV.int i)) ∧ Small xs ∧ SetTab (w.params.followText "set-order") xs t
  | .inst C d, o => o = { cls := .ref C, dict := some d, data := .plain }
  | .nview C d v, o => ∃ x, o = { cls := .ref C, dict := some d, data := .plain, slots := #[some x] } ∧ er x = v
  | .cell v, o => ∃ x : Option Value, o.data = .cell x ∧ x.map er = v
  | .ob n fs, o => o.cls = .type n ∧ o.data = .fields fs
  | .raw o', o => o = o' ∧ o'.isFreed = false

theorem OR.alive {w : World} {ao : AO} {o : Obj} (h : OR w ao o) : o.isFreed = false := by
  cases ao with
  | list vs => obtain ⟨_, _, rfl, _⟩ := h; rfl
  | tup vs => obtain ⟨_, _, rfl, _⟩ := h; rfl
  | idict vs n =>
    obtain ⟨_, _, _, hd, _⟩ := h
    obtain ⟨c, d, dt, sl⟩ := o
    simp only at hd; subst hd; rfl
  | sdict vs n b => obtain ⟨_, _, rfl, _⟩ := h; rfl
  | set vs n => obtain ⟨_, _, rfl, _⟩ := h; rfl
  | inst C d => cases h; rfl
  | nview C d v => obtain ⟨_, rfl, _⟩ := h; rfl
  | cell v =>
    obtain ⟨x, hd, _⟩ := h
    obtain ⟨c, d, dt, sl⟩ := o
    simp only at hd; subst hd; rfl
  | ob n fs =>
    obtain ⟨_, hd⟩ := h
    obtain ⟨c, d, dt, sl⟩ := o
    simp only at hd; subst hd; rfl
  | raw o' => obtain ⟨rfl, h⟩ := h; exact h

abbrev Loc := Str → Option AV

structure AS where
  loc : Loc
  hp : Addr → Option AO
  gs : Array GenState

def setHp (hp : Addr → Option AO) (a : Addr) (ao : AO) : Addr → Option AO := fun b => if b = a then some ao else hp b
/-- a new object, or a new content of an old one -/
def AS.put (σ : AS) (a : Addr) (ao : AO) : AS := { σ with hp := setHp σ.hp a ao }
/-- forget an object -/
def AS.drop (σ : AS) (a : Addr) : AS := { σ with hp := fun b => if b = a then none else σ.hp b }
def AS.bind (σ : AS) (x : Str) (v : AV) : AS := { σ with loc := fun y => if y = x then some v else σ.loc y }
/-- an address that is not in use -/
def Fresh (σ : AS) (a : Addr) : Prop := ∀ b ao, σ.hp b = some ao → b ≠ a
@[simp] theorem setHp_same {hp : Addr → Option AO} {a : Addr} {ao : AO} : setHp hp a ao a = some ao := if_pos rfl
theorem setHp_ne {hp : Addr → Option AO} {a b : Addr} {ao : AO} (h : b ≠ a) : setHp hp a ao b = hp b := if_neg h
theorem put_same {σ : AS} {a : Addr} {ao : AO} : (σ.put a ao).hp a = some ao := if_pos rfl
theorem put_ne {σ : AS} {a b : Addr} {ao ao' : AO} (h : b ≠ a) (e : σ.hp b = some ao') : (σ.put a ao).hp b = some ao' := (if_neg h).trans e
theorem put_new {σ : AS} {a b : Addr} {ao ao' : AO} (h : Fresh σ a) (e : σ.hp b = some ao') : (σ.put a ao).hp b = some ao' := put_ne (h b ao' e) e
theorem drop_ne {σ : AS} {a b : Addr} {ao' : AO} (h : b ≠ a) (e : σ.hp b = some ao') : (σ.drop a).hp b = some ao' := (if_neg h).trans e

structure Cx where
  w : World
  h₀ : Heap
  os : OsState
  mg : Str → Option Value
  mb : Str → Option Value
  p : Program
  loose : List Str

structure Cx.Ok (C : Cx) : Prop where
  kx : (Mine.hd.heap_39 C.w.params).In C.h₀
  top : TopRead C.p C.loose C.mg C.mb C.h₀

/-- where we stand -/
structure X where
  C : Cx
  fs : List (Addr × Loc)
  L : Addr
  A : Around

structure Rel (C : Cx) (fs : List (Addr × Loc)) (L : Addr) (σ : AS) (s : Shared) : Prop where
  ok : C.Ok
  base : ∀ a o, C.h₀.get? a = some o → s.heap.get? a = some o
  obj : ∀ a ao, σ.hp a = some ao → C.h₀.objs.size ≤ a ∧ a ≠ L ∧ a ∉ fs.map (·.1) ∧ ∃ o, s.heap.get? a = some o ∧ OR C.w ao o
  loc : ∃ m, s.heap.Ns L m ∧ ∀ x, (m x).map er = σ.loc x
  frs : ∀ p ∈ fs, ∃ m, s.heap.Ns p.1 m ∧ ∀ x, (m x).map er = p.2 x
  nd : (L :: fs.map (·.1)).Nodup
  new : ∀ a ∈ L :: fs.map (·.1), C.h₀.objs.size ≤ a
  gens : s.gens = σ.gs
  os : s.os = C.os ∧ AllBare s.gens

def Run (x : X) {α : Type} (t : Sem α) (Q : α → AS → Prop) (σ : AS) : Prop :=
  ∀ s, Rel x.C x.fs x.L σ s → wpAny (model Pg x.C.w) x.A t (fun v s' => ∃ σ', Rel x.C x.fs x.L σ' s' ∧ Q v σ') (fun _ _ => False) s
def RunV (x : X) (t : Sem Value) (Q : AV → AS → Prop) (σ : AS) : Prop := Run x t (fun v σ' => Q (er v) σ') σ
def RunC (x : X) (c : Code) (R : Result → AS → Prop) (σ : AS) : Prop :=
  ∀ s, Rel x.C x.fs x.L σ s → codeAny (model Pg x.C.w) x.A c (fun r s' => ∃ σ', Rel x.C x.fs x.L σ' s' ∧ R r σ') s

section
variable {C : Cx} {fs : List (Addr × Loc)} {L : Addr} {σ : AS} {s : Shared}
theorem Rel.get (R : Rel C fs L σ s) {a : Addr} {ao : AO} (h : σ.hp a = some ao) : ∃ o, s.heap.get? a = some o ∧ OR C.w ao o := (R.obj a ao h).2.2.2
theorem Rel.low (R : Rel C fs L σ s) : ∀ b ∈ L :: fs.map (·.1), b < s.heap.objs.size := fun b hb => by
  rcases List.mem_cons.mp hb with rfl | hb
  · obtain ⟨m, hm, _⟩ := R.loc; exact hm.lt
  · obtain ⟨p, hp, rfl⟩ := List.mem_map.mp hb
    obtain ⟨m, hm, _⟩ := R.frs p hp; exact hm.lt
theorem none_of_le {h : Heap} {a : Addr} (q : h.objs.size ≤ a) : h.get? a = none := by
  cases e : h.get? a with
  | none => rfl
  | some o' => exact absurd (Heap.lt_size e) (Nat.not_lt.mpr q)
theorem Rel.high (R : Rel C fs L σ s) : ∀ b, s.heap.objs.size ≤ b → C.h₀.objs.size ≤ b := fun b hb =>
  Nat.le_trans (R.new L (.head _)) (Nat.le_of_lt (Nat.lt_of_lt_of_le (R.low L (.head _)) hb))
theorem Rel.notMods (R : Rel C fs L σ s) {a : Addr} {ao : AO} (h : σ.hp a = some ao) : (a == sysModules) = false := by
  have h1 := (R.obj a ao h).1
  have h2 := R.ok.top.g.lt
  have h3 : sysModules < mainGlobals := by decide
  have : a ≠ sysModules := fun e => by rw [e] at h1; exact absurd (Nat.lt_of_lt_of_le (Nat.lt_trans h3 h2) h1) (Nat.lt_irrefl _)
  simpa using this
theorem Rel.fresh (R : Rel C fs L σ s) {a : Addr} (h : s.heap.objs.size ≤ a) : Fresh σ a := fun b ao e q => by
  obtain ⟨o, ho, _⟩ := R.get e
  have := Heap.lt_size ho
  rw [q] at this
  exact absurd this (Nat.not_lt.mpr h)
theorem Rel.toks (R : Rel C fs L σ s) (tk : Nat) : Rel C fs L σ { s with toks := tk } := ⟨R.ok, R.base, R.obj, R.loc, R.frs, R.nd, R.new, R.gens, R.os⟩
theorem Rel.drawn (R : Rel C fs L σ s) (tk : Nat) (d : Drawn) : Rel C fs L σ { s with toks := tk, drawn := d } := ⟨R.ok, R.base, R.obj, R.loc, R.frs, R.nd, R.new, R.gens, R.os⟩

theorem Rel.push (R : Rel C fs L σ s) {ao : AO} {o : Obj} (h : OR C.w ao o) (tk : Nat) :
    Rel C fs L (σ.put s.heap.objs.size ao) { s with heap := s.heap.push o, toks := tk } := by
  have hf := h.alive
  refine ⟨R.ok, fun a o' e => Heap.get?_push_of_some _ (R.base a o' e), fun a ao' e => ?_, ?_, fun p hp => ?_, R.nd, R.new, R.gens, R.os⟩
  · by_cases ha : a = s.heap.objs.size
    · subst ha
      have : ao = ao' := by simpa [AS.put, setHp] using e
      subst this
      refine ⟨R.high _ (Nat.le_refl _), fun q => absurd (R.low L (.head _)) (q ▸ Nat.lt_irrefl _), fun q => absurd (R.low _ (.tail _ q)) (Nat.lt_irrefl _), o, Heap.get?_push_size _ hf, h⟩
    · have e' : σ.hp a = some ao' := by simpa [AS.put, setHp, ha] using e
      obtain ⟨h1, h2, h3, o', h5, h6⟩ := R.obj a ao' e'
      exact ⟨h1, h2, h3, o', Heap.get?_push_of_some _ h5, h6⟩
  · obtain ⟨m, hm, hx⟩ := R.loc; exact ⟨m, hm.push _, hx⟩
  · obtain ⟨m, hm, hx⟩ := R.frs p hp; exact ⟨m, hm.push _, hx⟩

theorem Rel.upd (R : Rel C fs L σ s) {a : Addr} {ao₀ ao : AO} {o : Obj} {h' : Heap} (ha : σ.hp a = some ao₀) (hs : Heap.ExtBut a s.heap h') (ho : h'.get? a = some o) (h : OR C.w ao o) (tk : Nat) :
    Rel C fs L (σ.put a ao) { s with heap := h', toks := tk } := by
  obtain ⟨a1, a2, a3, _⟩ := R.obj a ao₀ ha
  refine ⟨R.ok, fun b o' e => ?_, fun b ao' e => ?_, ?_, fun p hp => ?_, R.nd, R.new, R.gens, R.os⟩
  · refine hs b o' (fun q => ?_) (R.base b o' e)
    rw [q, none_of_le a1] at e; cases e
  · by_cases hb : b = a
    · subst hb
      have : ao = ao' := by simpa [AS.put, setHp] using e
      subst this
      exact ⟨a1, a2, a3, o, ho, h⟩
    · have e' : σ.hp b = some ao' := by simpa [AS.put, setHp, hb] using e
      obtain ⟨h1, h2, h3, o', h5, h6⟩ := R.obj b ao' e'
      exact ⟨h1, h2, h3, o', hs b o' hb h5, h6⟩
  · obtain ⟨m, hm, hx⟩ := R.loc; exact ⟨m, hm.at' fun o e => hs L o (Ne.symm a2) e, hx⟩
  · obtain ⟨m, hm, hx⟩ := R.frs p hp
    exact ⟨m, hm.at' fun o e => hs _ o (fun q => a3 (q ▸ List.mem_map_of_mem hp)) e, hx⟩

theorem Rel.forget (R : Rel C fs L σ s) {a : Addr} {ao₀ : AO} {h' : Heap} (ha : σ.hp a = some ao₀) (hs : Heap.ExtBut a s.heap h') (tk : Nat) :
    Rel C fs L (σ.drop a) { s with heap := h', toks := tk } := by
  obtain ⟨a1, a2, a3, _⟩ := R.obj a ao₀ ha
  refine ⟨R.ok, fun b o' e => ?_, fun b ao' e => ?_, ?_, fun p hp => ?_, R.nd, R.new, R.gens, R.os⟩
  · refine hs b o' (fun q => ?_) (R.base b o' e)
    rw [q, none_of_le a1] at e; cases e
  · by_cases hb : b = a
    · subst hb
      have : (none : Option AO) = some ao' := by simpa [AS.drop] using e
      cases this
    · have e' : σ.hp b = some ao' := by simpa [AS.drop, hb] using e
      obtain ⟨h1, h2, h3, o', h5, h6⟩ := R.obj b ao' e'
      exact ⟨h1, h2, h3, o', hs b o' hb h5, h6⟩
  · obtain ⟨m, hm, hx⟩ := R.loc; exact ⟨m, hm.at' fun o e => hs L o (Ne.symm a2) e, hx⟩
  · obtain ⟨m, hm, hx⟩ := R.frs p hp
    exact ⟨m, hm.at' fun o e => hs _ o (fun q => a3 (q ▸ List.mem_map_of_mem hp)) e, hx⟩

/-- the heap has only grown -/
theorem Rel.grown (R : Rel C fs L σ s) {h' : Heap} (hs : ∀ b o, s.heap.get? b = some o → h'.get? b = some o) (tk : Nat) : Rel C fs L σ { s with heap := h', toks := tk } := by
  refine ⟨R.ok, fun b o' e => hs b o' (R.base b o' e), fun b ao' e => ?_, ?_, fun p hp => ?_, R.nd, R.new, R.gens, R.os⟩
  · obtain ⟨h1, h2, h3, o', h5, h6⟩ := R.obj b ao' e
    exact ⟨h1, h2, h3, o', hs b o' h5, h6⟩
  · obtain ⟨m, hm, hx⟩ := R.loc; exact ⟨m, hm.keeps hs, hx⟩
  · obtain ⟨m, hm, hx⟩ := R.frs p hp; exact ⟨m, hm.keeps hs, hx⟩

/-- the heap has only grown, and a new object lies at its old end -/
theorem Rel.pushK (R : Rel C fs L σ s) {ao : AO} {o : Obj} {h' : Heap} (hs : ∀ b o, s.heap.get? b = some o → h'.get? b = some o) (ho : h'.get? s.heap.objs.size = some o) (h : OR C.w ao o) (tk : Nat) :
    Rel C fs L (σ.put s.heap.objs.size ao) { s with heap := h', toks := tk } := by
  have R' := R.grown hs tk
  refine ⟨R.ok, R'.base, fun a ao' e => ?_, R'.loc, R'.frs, R.nd, R.new, R.gens, R.os⟩
  by_cases ha : a = s.heap.objs.size
  · subst ha
    have : ao = ao' := by simpa [AS.put, setHp] using e
    subst this
    exact ⟨R.high _ (Nat.le_refl _), fun q => absurd (R.low L (.head _)) (q ▸ Nat.lt_irrefl _), fun q => absurd (R.low _ (.tail _ q)) (Nat.lt_irrefl _), o, ho, h⟩
  · have e' : σ.hp a = some ao' := by simpa [AS.put, setHp, ha] using e
    exact R'.obj a ao' e'

theorem Rel.bind (R : Rel C fs L σ s) {x : Str} {v : Value} {h' : Heap} {m : Str → Option Value} (hs : Heap.SameBut L s.heap h') (hx : ∀ y, (m y).map er = σ.loc y) (hn : h'.Ns L (fun y => if y = x then some v else m y)) (tk : Nat) :
    Rel C fs L (σ.bind x (er v)) { s with heap := h', toks := tk } := by
  have nL := R.new L (.head _)
  refine ⟨R.ok, fun b o' e => ?_, fun b ao' e => ?_, ?_, fun p hp => ?_, R.nd, R.new, R.gens, R.os⟩
  · refine (hs.2 b fun q => ?_).trans (R.base b o' e)
    rw [q, none_of_le nL] at e; cases e
  · obtain ⟨h1, h2, h3, o', h5, h6⟩ := R.obj b ao' e
    exact ⟨h1, h2, h3, o', (hs.2 b h2).trans h5, h6⟩
  · refine ⟨_, hn, fun y => ?_⟩
    show Option.map er (if y = x then some v else m y) = if y = x then some (er v) else σ.loc y
    split
    · rfl
    · exact hx y
  · obtain ⟨m, hm, hx⟩ := R.frs p hp
    have hne : p.1 ≠ L := fun q => (List.nodup_cons.mp R.nd).1 (q ▸ List.mem_map_of_mem hp)
    exact ⟨m, hm.sameBut hs hne, hx⟩
end

section
variable {x : X} {α β : Type} {σ : AS}
theorem run_pure {a : α} {Q : α → AS → Prop} (h : Q a σ) : Run x (pure a) Q σ := fun _ R => wpAny_pure ⟨σ, R, h⟩
theorem run_mono {t : Sem α} {Q Q' : α → AS → Prop} (h : Run x t Q σ) (hQ : ∀ a σ', Q a σ' → Q' a σ') : Run x t Q' σ :=
  fun s R => wpAny_mono (h s R) (fun _ _ ⟨σ', R', q⟩ => ⟨σ', R', hQ _ _ q⟩) fun _ _ e => e
theorem run_bind {t : Sem α} {f : α → Sem β} {Q : β → AS → Prop} (h : Run x t (fun a σ' => Run x (f a) Q σ') σ) : Run x (t >>= f) Q σ :=
  fun s R => wpAny_bind (wpAny_mono (h s R) (fun _ _ ⟨_, R', q⟩ => q _ R') fun _ _ e => e)
theorem run_hold {vs : List Value} {t : Sem α} {Q : α → AS → Prop} (h : Run x t Q σ) : Run x (holding vs t) Q σ := fun s R => wpAny_holding (h s R)
theorem run_onRaise {t : Sem α} {k : Value → Sem Unit} {Q : α → AS → Prop} (h : Run x t Q σ) : Run x (t.onRaise k) Q σ :=
  fun s R => wpAny_onRaise (wpAny_mono (h s R) (fun _ _ q => q) fun _ _ e => e.elim)
theorem run_tryCatch {t : Sem α} {k : Value → Sem α} {Q : α → AS → Prop} (h : Run x t Q σ) : Run x (tryCatch t k) Q σ :=
  fun s R => wpAny_tryCatch (wpAny_mono (h s R) (fun _ _ q => q) fun _ _ e => e.elim)
theorem run_attempt {t : Sem α} {Q : Except Value α → AS → Prop} (h : Run x t (fun a σ' => Q (.ok a) σ') σ) : Run x t.attempt Q σ :=
  fun s R => wpAny_attempt (wpAny_mono (h s R) (fun _ _ q => q) fun _ _ e => e.elim)
theorem run_standAt {p : Pos} {Q : Unit → AS → Prop} (h : Q () σ) : Run x (standAt p) Q σ := fun _ R => wpAny_standAt ⟨σ, R, h⟩
theorem run_point {Q : Unit → AS → Prop} (h : Q () σ) : Run x point Q σ := fun _ R => wpAny_point ⟨σ, R, h⟩
theorem run_rule {tag : String} {Q : Unit → AS → Prop} (h : Q () σ) : Run x (rule tag) Q σ := fun _ R => wpAny_rule ⟨σ, R, h⟩
theorem run_ask {Q : Setting → AS → Prop} (h : Q ⟨Pg, x.C.w.params⟩ σ) : Run x ask Q σ := fun _ R => wpAny_askSetting ⟨σ, R, h⟩
theorem run_mkInt {i : Int} {Q : Value → AS → Prop} (h : ∀ t, Q (.int i t) σ) : Run x (mkInt i) Q σ := fun _ R => wpAny_mkInt ⟨σ, R.toks _, h _⟩
theorem run_ite {c : Prop} [Decidable c] {a b : Sem α} {Q : α → AS → Prop} (h : if c then Run x a Q σ else Run x b Q σ) : Run x (if c then a else b) Q σ := by
  split <;> simp_all
theorem run_alloc {o : Obj} {ao : AO} {Q : Addr → AS → Prop} (ho : OR x.C.w ao o) (h : ∀ a, Fresh σ a → Q a (σ.put a ao)) : Run x (alloc o) Q σ :=
  fun s R => wpAny_alloc ⟨_, R.push ho s.toks, h _ (R.fresh (Nat.le_refl _))⟩
theorem runV_of {t : Sem Value} {Q : AV → AS → Prop} (h : Run x t (fun v σ' => Q (er v) σ') σ) : RunV x t Q σ := h
theorem runV_bind {t : Sem Value} {f : Value → Sem β} {Q : β → AS → Prop} (h : RunV x t (fun a σ' => ∀ v, er v = a → Run x (f v) Q σ') σ) : Run x (t >>= f) Q σ :=
  run_bind (run_mono h fun v _ q => q v rfl)
theorem runV_mono {t : Sem Value} {Q Q' : AV → AS → Prop} (h : RunV x t Q σ) (hQ : ∀ a σ', Q a σ' → Q' a σ') : RunV x t Q' σ := run_mono h fun _ _ q => hQ _ _ q
theorem runV_hold {vs : List Value} {t : Sem Value} {Q : AV → AS → Prop} (h : RunV x t Q σ) : RunV x (holding vs t) Q σ := run_hold h
end
end
-- AzNode
section
section
variable {x : X} {α β : Type} {σ : AS} {env : Env}

/-- a compare that gives a bool -/
def Cmp (x : X) (op : CmpOp) (a b : Value) (Q : Bool → AS → Prop) (σ : AS) : Prop := Run x (compareOp op a b) (fun v σ' => ∃ c, v = .bool c ∧ Q c σ') σ

theorem run_operate {vs : List Value} {t : Sem Value} {Q : Value → AS → Prop} (h : Run x t Q σ) : Run x (operate vs t) Q σ := fun s R Γ p hΓ => by
  rw [Sem.wp_operate]; exact h s R Γ p hΓ
theorem run_release {vs ks : List Value} {Q : Unit → AS → Prop} (h : Q () σ) : Run x (release vs ks) Q σ := fun s R Γ p _ => by
  rw [Sem.wp_release]; exact ⟨σ, R, h⟩

theorem n_const_int {i : Int} {k : Nat} {pos : Pos} {Q : AV → AS → Prop} (h : Q (.int i) σ) : RunV x (eval (.Constant (.int i) k pos) env) Q σ := run_mkInt fun _ => h
theorem n_const_none {k : Nat} {pos : Pos} {Q : AV → AS → Prop} (h : Q .none σ) : RunV x (eval (.Constant .none k pos) env) Q σ := run_pure h
theorem n_const_bool {b : Bool} {k : Nat} {pos : Pos} {Q : AV → AS → Prop} (h : Q (.bool b) σ) : RunV x (eval (.Constant (.bool b) k pos) env) Q σ := run_pure h
theorem n_const_str {s : Str} {k : Nat} {pos : Pos} {Q : AV → AS → Prop} (h : Q (.str s) σ) : RunV x (eval (.Constant (.str s) k pos) env) Q σ :=
  fun _ R => wpAny_mkText ⟨σ, R.toks _, h⟩

theorem n_local {n : Str} {pos : Pos} {v : AV} {Q : AV → AS → Prop} (hv : σ.loc n = some v) (h : Q v σ) (hL : env.locals = x.L := by rfl) (hk : env.scope.kind = .function := by rfl)
    (hl : env.kindOf n = some .local := by rfl) (hd : (n == ("__debug__" : Str)) = false := by decide) : RunV x (eval (.Name n pos) env) Q σ := by
  intro s R
  obtain ⟨m, hm, hx⟩ := R.loc
  have := hx n
  rw [hv] at this
  cases hmn : m n with
  | none => rw [hmn] at this; cases this
  | some u =>
    rw [hmn] at this
    have hu : er u = v := Option.some.inj this
    exact wpAny_Name (wpAny_loadName_local hk hl (hL ▸ hm) hmn ⟨σ, R, by subst hu; exact h⟩) hd

theorem load_local {n : Str} {v : AV} {Q : AV → AS → Prop} (hv : σ.loc n = some v) (h : Q v σ) (hL : env.locals = x.L := by rfl) (hk : env.scope.kind = .function := by rfl)
    (hl : env.kindOf n = some .local := by rfl) : RunV x (loadName env n) Q σ := by
  intro s R
  obtain ⟨m, hm, hx⟩ := R.loc
  have := hx n
  rw [hv] at this
  cases hmn : m n with
  | none => rw [hmn] at this; cases this
  | some u =>
    rw [hmn] at this
    have hu : er u = v := Option.some.inj this
    exact wpAny_loadName_local hk hl (hL ▸ hm) hmn ⟨σ, R, by subst hu; exact h⟩

theorem n_glob {n : Str} {pos : Pos} {v : Value} {Q : AV → AS → Prop} (e : nsIn (Mine.hd.heap_39 x.C.w.params) mainGlobals n = some (some v)) (h : Q (er v) σ) (hg : env.globals = mainGlobals := by rfl) (hk : env.scope.kind = .function := by rfl)
    (hl : env.kindOf n = some .globalImplicit := by rfl) (hd : (n == ("__debug__" : Str)) = false := by decide) : RunV x (eval (.Name n pos) env) Q σ := by
  intro s R
  exact Name_function_global hk hl (loadGlobal_global (hg ▸ R.ok.top.g.keeps R.base) (mg_of R.ok.kx R.ok.top.g e) ⟨σ, R, h⟩) hd

theorem n_built {n : Str} {pos : Pos} {v : Value} {Q : AV → AS → Prop} (e : nsIn (Mine.hd.heap_39 x.C.w.params) mainGlobals n = some none) (hv : bootBuiltins n = some v) (h : Q (er v) σ) (hn : n ≠ "__name__" := by decide) (hg : env.globals = mainGlobals := by rfl)
    (hb : env.builtins = builtinsNs := by rfl) (hk : env.scope.kind = .function := by rfl)
    (hl : env.kindOf n = some .globalImplicit := by rfl) (hd : (n == ("__debug__" : Str)) = false := by decide) : RunV x (eval (.Name n pos) env) Q σ := by
  intro s R
  exact Name_function_global hk hl (loadGlobal_builtin (hg ▸ R.ok.top.g.keeps R.base) (mg_none_of R.ok.kx R.ok.top.g e) (hb ▸ R.ok.top.b.keeps R.base) ((R.ok.top.builtins n hn).trans hv) ⟨σ, R, h⟩) hd

theorem cell_get {c : Addr} {v : AV} {C : Cx} {fs : List (Addr × Loc)} {L : Addr} {s : Shared} (R : Rel C fs L σ s) (h : σ.hp c = some (.cell (some v))) : ∃ u, s.heap.IsCell c (some u) ∧ er u = v := by
  obtain ⟨o, ho, y, hd, hy⟩ := R.get h
  cases y with
  | none => cases hy
  | some u => exact ⟨u, ⟨o, ho, hd⟩, Option.some.inj hy⟩

theorem n_cell {n : Str} {pos : Pos} {c : Addr} {v : AV} {Q : AV → AS → Prop} (hc : env.cells.lookup n = some c) (hv : σ.hp c = some (.cell (some v))) (h : Q v σ) (hk : env.scope.kind = .function := by rfl)
    (hl : env.kindOf n = some .cell := by rfl) (hd : (n == ("__debug__" : Str)) = false := by decide) : RunV x (eval (.Name n pos) env) Q σ := by
  intro s R
  obtain ⟨u, hu, rfl⟩ := cell_get R hv
  exact wpAny_Name (wpAny_loadName_cell hk hl hc hu ⟨σ, R, h⟩) hd
theorem n_free {n : Str} {pos : Pos} {c : Addr} {v : AV} {Q : AV → AS → Prop} (hc : env.cells.lookup n = some c) (hv : σ.hp c = some (.cell (some v))) (h : Q v σ) (hk : env.scope.kind = .function := by rfl)
    (hl : env.kindOf n = some .free := by rfl) (hd : (n == ("__debug__" : Str)) = false := by decide) (hn : (n == ("__classdict__" : Str)) = false := by decide) : RunV x (eval (.Name n pos) env) Q σ := by
  intro s R
  obtain ⟨u, hu, rfl⟩ := cell_get R hv
  exact wpAny_Name (wpAny_loadName_free hk hl hc hu ⟨σ, R, h⟩ hn) hd

theorem store_local {n : Str} {v : Value} {Q : Unit → AS → Prop} (h : Q () (σ.bind n (er v))) (hL : env.locals = x.L := by rfl) (hk : env.scope.kind = .function := by rfl)
    (hl : env.kindOf n = some .local := by rfl) : Run x (storeName env n v) Q σ := by
  intro s R
  obtain ⟨m, hm, hx⟩ := R.loc
  refine wpAny_storeName_local hl (hL ▸ hm) (fun h' hn hs => ?_) (by rw [hk]; rfl)
  rw [hL] at hn hs
  exact ⟨_, R.bind hs hx hn _, h⟩
theorem store_cell {n : Str} {c : Addr} {v : Value} {v₀ : Option AV} {Q : Unit → AS → Prop} (hc : env.cells.lookup n = some c) (hv : σ.hp c = some (.cell v₀)) (h : Q () (σ.put c (.cell (some (er v))))) (hk : env.scope.kind = .function := by rfl)
    (hl : env.kindOf n = some .cell := by rfl) : Run x (storeName env n v) Q σ := by
  intro s R
  obtain ⟨o, ho, y, hd, hy⟩ := R.get hv
  refine wpAny_storeName_cell hk hl hc ⟨o, ho, hd⟩ fun h' hc' hs => ?_
  obtain ⟨o', ho', hd'⟩ := hc'
  exact ⟨_, R.upd (ao := .cell (some (er v))) hv hs.extBut ho' ⟨some v, hd', rfl⟩ s.toks, h⟩
theorem run_bindName {n : Str} {v : Value} {Q : Unit → AS → Prop} (h : Run x (storeName env n v) Q σ) : Run x (bindName env n v) Q σ := fun s R => wpAny_bindName (h s R)

theorem n_binop {l r : Expr} {op : Operator} {pos : Pos} {Q : AV → AS → Prop} (h : RunV x (eval l env) (fun a σ₁ => ∀ va, er va = a → RunV x (eval r env) (fun b σ₂ => ∀ vb, er vb = b → RunV x (binaryOp op va vb) Q σ₂) σ₁) σ) :
    RunV x (eval (.BinOp l op r pos) env) Q σ := by
  show Run x (eval (.BinOp l op r pos) env) _ σ
  rw [eval_BinOp]
  exact runV_bind (runV_mono h fun a σ₁ h₁ v hv => runV_bind (runV_hold (runV_mono (h₁ v hv) fun b σ₂ h₂ u hu => run_bind (run_standAt (run_operate (h₂ u hu))))))

theorem n_cmp1 {l r : Expr} {op : CmpOp} {pos : Pos} {Q : AV → AS → Prop} (h : RunV x (eval l env) (fun a σ₁ => ∀ va, er va = a → RunV x (eval r env) (fun b σ₂ => ∀ vb, er vb = b → Cmp x op va vb (fun c σ₃ => Q (.bool c) σ₃) σ₂) σ₁) σ)
    (hm : behindInMarks op r = false := by with_unfolding_all rfl) : RunV x (eval (.Compare l [op] [r] pos) env) Q σ := by
  show Run x (eval (.Compare l [op] [r] pos) env) _ σ
  rw [eval_Compare1, markedBehindIn_of_false hm]
  refine runV_bind (runV_mono h fun a σ₁ h₁ v hv => runV_bind (runV_hold (runV_mono (h₁ v hv) fun b σ₂ h₂ u hu => run_bind (run_standAt (run_operate (run_mono (h₂ u hu) fun w σ₃ h₃ => ?_))))))
  obtain ⟨c, rfl, hc⟩ := h₃
  exact hc
theorem run_truthy_bool {b : Bool} {Q : Bool → AS → Prop} (h : Q b σ) : Run x (truthy (.bool b)) Q σ := run_pure h
theorem t_cmp1 {l r : Expr} {op : CmpOp} {pos : Pos} {whole : Sem Value} {Q : Bool → AS → Prop} (h : RunV x (eval l env) (fun a σ₁ => ∀ va, er va = a → RunV x (eval r env) (fun b σ₂ => ∀ vb, er vb = b → Cmp x op va vb Q σ₂) σ₁) σ)
    (hm : behindInMarks op r = false := by with_unfolding_all rfl) : Run x (isTrue (.Compare l [op] [r] pos) env whole) Q σ := by
  rw [isTrue_Compare1, markedBehindIn_of_false hm]
  refine runV_bind (runV_mono h fun a σ₁ h₁ v hv => runV_bind (runV_hold (runV_mono (h₁ v hv) fun b σ₂ h₂ u hu => run_bind (run_standAt (run_bind (run_operate (run_mono (h₂ u hu) fun w σ₃ h₃ => ?_)))))))
  obtain ⟨c, rfl, hc⟩ := h₃
  exact run_hold (run_truthy_bool hc)
theorem t_bool {op : BoolOp} {es : List Expr} {pos : Pos} {whole : Sem Value} {Q : Bool → AS → Prop} (h : Run x (allTrue op es env) Q σ) : Run x (isTrue (.BoolOp op es pos) env whole) Q σ := h
theorem t_and_nil {Q : Bool → AS → Prop} (h : Q true σ) : Run x (allTrue .And [] env) Q σ := run_pure h
theorem t_or_nil {Q : Bool → AS → Prop} (h : Q false σ) : Run x (allTrue .Or [] env) Q σ := run_pure h
theorem t_and {e : Expr} {es : List Expr} {Q : Bool → AS → Prop} (h : Run x (isTrue e env (eval e env)) (fun b σ' => (b = true → Run x (allTrue .And es env) Q σ') ∧ (b = false → Q false σ')) σ) : Run x (allTrue .And (e :: es) env) Q σ := by
  show Run x (isTrue e env (eval e env) >>= _) Q σ
  refine run_bind (run_mono h fun b σ' h' => ?_)
  cases b with
  | true => exact h'.1 rfl
  | false => exact run_pure (h'.2 rfl)
theorem t_or {e : Expr} {es : List Expr} {Q : Bool → AS → Prop} (h : Run x (isTrue e env (eval e env)) (fun b σ' => (b = true → Q true σ') ∧ (b = false → Run x (allTrue .Or es env) Q σ')) σ) : Run x (allTrue .Or (e :: es) env) Q σ := by
  show Run x (isTrue e env (eval e env) >>= _) Q σ
  refine run_bind (run_mono h fun b σ' h' => ?_)
  cases b with
  | true => exact run_pure (h'.1 rfl)
  | false => exact h'.2 rfl
theorem t_not {e : Expr} {pos : Pos} {whole : Sem Value} {Q : Bool → AS → Prop} (h : Run x (isTrue e env (eval e env)) (fun b σ' => Q (!b) σ') σ) : Run x (isTrue (.UnaryOp .Not e pos) env whole) Q σ :=
  run_bind (run_mono h fun _ _ h' => run_pure h')
theorem t_name {n : Str} {p : Pos} {Q : Bool → AS → Prop} (h : RunV x (eval (.Name n p) env) (fun a σ' => ∀ v, er v = a → Run x (truthy v) Q σ') σ) : Run x (isTrue (.Name n p) env (eval (.Name n p) env)) Q σ :=
  runV_bind (runV_mono h fun _ _ h' v hv => run_bind (run_standAt (run_hold (h' v hv))))
theorem t_call {f : Expr} {as : List Expr} {ks : List Keyword} {p : Pos} {Q : Bool → AS → Prop} (h : RunV x (eval (.Call f as ks p) env) (fun a σ' => ∀ v, er v = a → Run x (truthy v) Q σ') σ) : Run x (isTrue (.Call f as ks p) env (eval (.Call f as ks p) env)) Q σ :=
  runV_bind (runV_mono h fun _ _ h' v hv => run_bind (run_standAt (run_hold (h' v hv))))

theorem n_or2 {a b : Expr} {pos : Pos} {Q : AV → AS → Prop} (h : RunV x (eval a env) (fun u σ₁ => ∀ v, er v = u → Run x (truthy v) (fun t σ₂ => (t = true → Q u σ₂) ∧ (t = false → RunV x (eval b env) Q σ₂)) σ₁) σ) : RunV x (eval (.BoolOp .Or [a, b] pos) env) Q σ := by
  show Run x (boolOp pos .Or [eval a env, eval b env]) _ σ
  refine runV_bind (runV_mono h fun u σ₁ h₁ v hv => run_bind (run_standAt (run_bind (run_hold (run_mono (h₁ v hv) fun t σ₂ h₂ => ?_)))))
  cases t with
  | true => exact run_pure (hv ▸ h₂.1 rfl)
  | false => exact h₂.2 rfl

theorem n_attr {e : Expr} {attr : Str} {pos : Pos} {Q : AV → AS → Prop} (h : RunV x (eval e env) (fun a σ₁ => ∀ v, er v = a → RunV x (getAttr v attr true) Q σ₁) σ) (hb : attributeBase e attr env (eval e env) = eval e env := by rfl)
    (hn : ∀ o r, letTemporaryGo e o r = pure () := by intro _ _; rfl) : RunV x (eval (.Attribute e attr pos) env) Q σ := by
  show Run x (do let o ← attributeBase e attr env (eval e env); standAt pos.atName; let r ← holding [o] (getAttr o attr true); letTemporaryGo e o r; pure r) _ σ
  rw [hb]
  refine runV_bind (runV_mono h fun a σ₁ h₁ v hv => run_bind (run_standAt (run_bind (run_hold (run_mono (h₁ v hv) fun r σ₂ h₂ => ?_)))))
  rw [hn]
  exact run_bind (run_pure (run_pure h₂))

theorem s_nil {Q : Flow → AS → Prop} (h : Q .next σ) : Run x (execs [] env) Q σ := run_pure h
theorem s_cons {st : Stmt} {rest : List Stmt} {Q : Flow → AS → Prop} (h : Run x (exec st env) (fun f σ' => match f with | .next => Run x (execs rest env) Q σ' | f => Q f σ') σ) : Run x (execs (st :: rest) env) Q σ := by
  rw [execs_cons]
  refine run_bind (run_mono h fun f σ' h' => ?_)
  cases f <;> first | exact h' | exact run_pure h'
theorem s_if {test : Expr} {body orelse : List Stmt} {pos : Pos} {Q : Flow → AS → Prop} (h : Run x (isTrue test env (eval test env)) (fun b σ' => (b = true → Run x (execs body env) Q σ') ∧ (b = false → Run x (execs orelse env) Q σ')) σ) :
    Run x (exec (.If test body orelse pos) env) Q σ := by
  rw [exec_If]
  refine run_bind (run_standAt (run_bind (run_mono h fun b σ' h' => ?_)))
  cases b with
  | true => exact h'.1 rfl
  | false => exact h'.2 rfl
theorem s_ret {e : Expr} {pos : Pos} {Q : Flow → AS → Prop} (h : RunV x (eval e env) (fun a σ' => ∀ v, er v = a → Q (.ret v) σ') σ) : Run x (exec (.Return (some e) pos) env) Q σ := by
  rw [exec_Return_some]
  exact run_bind (run_standAt (runV_bind (runV_mono h fun _ _ h' v hv => run_pure (h' v hv))))
theorem s_assign {n : Str} {p pos : Pos} {e : Expr} {Q : Flow → AS → Prop} (h : RunV x (eval e env) (fun a σ' => ∀ v, er v = a → Run x (storeName env n v) (fun _ σ'' => Q .next σ'') σ') σ)
    (hs : swapsWith e (some (.Name n p)) pos.line env = pure false := by rfl) : Run x (exec (.Assign [.Name n p] e pos) env) Q σ := by
  rw [exec_Assign_Name _ _ _ _ _ hs]
  exact run_bind (run_standAt (runV_bind (runV_mono h fun _ _ h' v hv => run_bind (run_standAt (run_bind (run_bindName (run_mono (h' v hv) fun _ _ h'' => run_pure h'')))))))
end
end
-- AzCall
section
section
variable {x : X} {α β : Type} {σ : AS} {env : Env}

theorem a_nil {pos : Pos} {Q : List Value → AS → Prop} (h : Q [] σ) : Run x (spliced (backTo pos (starEach [] env))) Q σ := run_pure h
theorem a_cons {pos : Pos} {e : Expr} {rest : List Expr} {Q : List Value → AS → Prop}
    (h : RunV x (eval e env) (fun a σ₁ => ∀ v, er v = a → Run x (spliced (backTo pos (starEach rest env))) (fun vs σ₂ => Q (v :: vs) σ₂) σ₁) σ)
    (he : starEach (e :: rest) env = (false, eval e env) :: starEach rest env := by rfl) : Run x (spliced (backTo pos (starEach (e :: rest) env))) Q σ := by
  rw [he]
  intro s R
  refine spliced_cons (wpAny_mono (h s R) (fun v s₁ ⟨σ₁, R₁, h₁⟩ => ?_) fun _ _ e => e)
  exact h₁ v rfl s₁ R₁

def KeepOK (f : Value) : Prop := ∀ (w : World) (h : Heap), (Mine.hd.heap_39 w.params).In h → ∃ k, (k = Keeper.frame ∨ k = Keeper.machine ∨ k = Keeper.boundFrame) ∧ Looks (model Pg w) h (keeperOf f) k
theorem keep_builtin (id : String) : KeepOK (.builtin id) := fun _ _ _ => ⟨.machine, .inr (.inl rfl), Looks.of_pure rfl⟩
theorem keep_type (n : String) : KeepOK (.type n) := fun _ _ _ => ⟨.machine, .inr (.inl rfl), Looks.of_pure rfl⟩
theorem keep_K {f : Value} (h : ∀ w : World, keepIn (Mine.hd.heap_39 w.params) f = true) : KeepOK f := fun w hh X => keeps_K (h w) hh X

theorem run_callWith1 {pos : Pos} {f : Value} {first : List Value} {e : Expr} {rest : List Expr} {Q : AV → AS → Prop} (hk : KeepOK f)
    (h : Run x (spliced (backTo pos (starEach (e :: rest) env))) (fun vs σ' => RunV x (call f (first ++ vs)) Q σ') σ)
    (he : starEach (e :: rest) env = (false, eval e env) :: starEach rest env := by rfl) (hplain : (backTo pos (starEach rest env)).any (·.1) = false := by rfl) :
    RunV x (callWith pos f first (backTo pos (starEach (e :: rest) env)) []) Q σ := by
  intro s R
  refine callWith_of (P := fun h => (Mine.hd.heap_39 x.C.w.params).In h) (by rw [he]; show ((false || (backTo pos (starEach rest env)).any (·.1)) || false) = false; rw [hplain]; rfl) (fun hh X => hk _ _ X) ?_
  have h' := h s R
  rw [he] at h' ⊢
  exact evalArgs_plain (wpAny_mono h' (fun vs s₁ ⟨σ₁, R₁, h₁⟩ => ⟨R₁.ok.kx.keeps R₁.base, h₁ s₁ R₁⟩) fun _ _ e => e)
theorem run_callWith0 {pos : Pos} {f : Value} {first : List Value} {Q : AV → AS → Prop} (hk : KeepOK f)
    (h : RunV x (call f (first ++ [])) Q σ) : RunV x (callWith pos f first (backTo pos (starEach [] env)) []) Q σ := by
  intro s R
  exact callWith_of (P := fun h => (Mine.hd.heap_39 x.C.w.params).In h) rfl (fun hh X => hk _ _ X) (evalArgs_nil3 ⟨R.ok.kx.keeps R.base, h s R⟩)

theorem n_call1 {n : Str} {p pos : Pos} {e : Expr} {rest : List Expr} {Q : AV → AS → Prop}
    (h : RunV x (eval (.Name n p) env) (fun a σ₁ => ∀ f, er f = a → KeepOK f ∧ Run x (spliced (backTo pos (starEach (e :: rest) env))) (fun vs σ' => RunV x (call f vs) Q σ') σ₁) σ)
    (he : starEach (e :: rest) env = (false, eval e env) :: starEach rest env := by rfl) (hplain : (backTo pos (starEach rest env)).any (·.1) = false := by rfl) :
    RunV x (eval (.Call (.Name n p) (e :: rest) [] pos) env) Q σ := by
  show Run x (do callWith pos (← eval (.Name n p) env) [] (backTo pos (starEach (e :: rest) env)) (backToKw pos (keywordEach [] env))) _ σ
  exact runV_bind (runV_mono h fun a σ₁ h₁ f hf => run_callWith1 (h₁ f hf).1 (h₁ f hf).2 he hplain)
theorem n_call0 {n : Str} {p pos : Pos} {Q : AV → AS → Prop}
    (h : RunV x (eval (.Name n p) env) (fun a σ₁ => ∀ f, er f = a → KeepOK f ∧ RunV x (call f []) Q σ₁) σ) :
    RunV x (eval (.Call (.Name n p) [] [] pos) env) Q σ := by
  show Run x (do callWith pos (← eval (.Name n p) env) [] (backTo pos (starEach [] env)) (backToKw pos (keywordEach [] env))) _ σ
  exact runV_bind (runV_mono h fun a σ₁ h₁ f hf => run_callWith0 (h₁ f hf).1 (h₁ f hf).2)

theorem n_meth {o : Expr} {name : Str} {apos pos : Pos} {args : List Expr} {pl : Sem Bool} {Q : AV → AS → Prop}
    (h : RunV x (eval o env) (fun a σ₁ => ∀ ov, er ov = a → Run x (getMethod ov name pl) (fun fx σ₂ => RunV x (callWith pos fx.1 fx.2 (backTo pos (starEach args env)) []) Q σ₂) σ₁) σ)
    (he : eval (.Call (.Attribute o name apos) args [] pos) env = (do
      let ov ← eval o env
      standAt apos.atName
      let (f, first) ← holding [ov] (getMethod ov name pl)
      callWith pos f first (backTo pos (starEach args env)) []) := by rfl) :
    RunV x (eval (.Call (.Attribute o name apos) args [] pos) env) Q σ := by
  show Run x (eval (.Call (.Attribute o name apos) args [] pos) env) _ σ
  rw [he]
  exact runV_bind (runV_mono h fun a σ₁ h₁ ov hov => run_bind (run_standAt (run_bind (run_hold (run_mono (h₁ ov hov) fun fx σ₂ h₂ => h₂)))))

/-! ## a def of the text's -/
def layHp : List (Str × Addr) → (Str → Option Value) → (Addr → Option AO) → Addr → Option AO
  | [], _, hp => hp
  | (n, c) :: r, cm, hp => setHp (layHp r cm hp) c (.cell ((cm n).map er))
def enterC (fd : FuncData) (f : Addr) (binds : List (Str × Value)) (L' : Addr) (σ : AS) : AS where
  loc := fun y => (bindL (callEnvC fd L' f).kindOf binds (fun _ => none) y).map er
  hp := layHp (cellsFrom (L' + 1) fd.scope.names []) (bindC (callEnvC fd L' f).kindOf binds fun _ => none) σ.hp
  gs := σ.gs
def retOf : Flow → Value
  | .ret v => v
  | _ => .none

theorem layHp_get {cm : Str → Option Value} {hp : Addr → Option AO} {b : Addr} {ao : AO} : ∀ {cs : List (Str × Addr)}, layHp cs cm hp b = some ao → (∃ n, (n, b) ∈ cs ∧ ao = .cell ((cm n).map er)) ∨ (hp b = some ao)
  | [], h => .inr h
  | (n, c) :: r, h => by
    unfold layHp setHp at h
    by_cases hb : b = c
    · rw [if_pos hb] at h
      exact .inl ⟨n, by rw [hb]; exact .head _, (Option.some.inj h).symm⟩
    · rw [if_neg hb] at h
      rcases layHp_get h with ⟨n', h1, h2⟩ | h1
      · exact .inl ⟨n', .tail _ h1, h2⟩
      · exact .inr h1
theorem lookup_of_mem {α : Type} : ∀ {l : List (Str × α)} {n : Str} {c : α}, (l.map (·.1)).Nodup → (n, c) ∈ l → l.lookup n = some c
  | (k, v) :: r, n, c, hn, h => by
    rw [List.map_cons, List.nodup_cons] at hn
    rw [List.lookup_cons]
    rcases List.mem_cons.mp h with e | h
    · cases e; simp
    · have : n ≠ k := fun e => hn.1 (e ▸ List.mem_map_of_mem (f := (·.1)) h)
      rw [beq_eq_false_iff_ne.mpr this]
      exact lookup_of_mem hn.2 h

theorem Rel.enter {C : Cx} {fs : List (Addr × Loc)} {L : Addr} {s s' : Shared} {fd : FuncData} {f : Addr} {binds : List (Str × Value)} (R : Rel C fs L σ s)
    (hnd : ((cellsFrom (s.heap.objs.size + 1) fd.scope.names []).map (·.1)).Nodup)
    (I : InCallC s s.heap.objs.size (bindL (callEnvC fd s.heap.objs.size f).kindOf binds fun _ => none) (cellsFrom (s.heap.objs.size + 1) fd.scope.names []) (bindC (callEnvC fd s.heap.objs.size f).kindOf binds fun _ => none) s') :
    Rel C ((L, σ.loc) :: fs) s.heap.objs.size (enterC fd f binds s.heap.objs.size σ) s' := by
  obtain ⟨h', tk, rfl, hk⟩ := I.done
  refine ⟨R.ok, fun a o e => hk a o (R.base a o e), fun a ao e => ?_, ⟨_, I.toInCall.ns, fun _ => rfl⟩, fun p hp => ?_, ?_, fun a ha => ?_, R.gens, R.os⟩
  · rcases layHp_get e with ⟨n, hm, rfl⟩ | e
    · have hc := I.cell n a (lookup_of_mem hnd hm)
      have ha := I.above n a hm
      obtain ⟨o, ho, hd⟩ := hc
      refine ⟨R.high a (Nat.le_of_lt ha), Nat.ne_of_gt ha, fun q => ?_, o, ho, _, hd, rfl⟩
      have : a ∈ L :: fs.map (·.1) := q
      exact absurd (Nat.lt_trans (R.low a this) ha) (Nat.lt_irrefl _)
    · obtain ⟨h1, h2, h3, o, h5, h6⟩ := R.obj a ao e
      have hl := Heap.lt_size h5
      refine ⟨h1, Nat.ne_of_lt hl, fun q => ?_, o, hk a o h5, h6⟩
      rcases List.mem_cons.mp q with q | q
      · exact h2 q
      · exact h3 q
  · rcases List.mem_cons.mp hp with rfl | hp
    · obtain ⟨m, hm, hx⟩ := R.loc; exact ⟨m, hm.keeps hk, hx⟩
    · obtain ⟨m, hm, hx⟩ := R.frs p hp; exact ⟨m, hm.keeps hk, hx⟩
  · refine List.nodup_cons.mpr ⟨fun q => ?_, R.nd⟩
    exact absurd (R.low _ q) (Nat.lt_irrefl _)
  · rcases List.mem_cons.mp ha with rfl | ha
    · exact R.high _ (Nat.le_refl _)
    · exact R.new a ha

theorem Rel.leave {C : Cx} {fs : List (Addr × Loc)} {L L' : Addr} {loc : Loc} {s : Shared} (R : Rel C ((L, loc) :: fs) L' σ s) : Rel C fs L { σ with loc := loc } s := by
  obtain ⟨m, hm, hx⟩ := R.frs _ (.head _)
  refine ⟨R.ok, R.base, fun a ao e => ?_, ⟨m, hm, hx⟩, fun p hp => R.frs p (.tail _ hp), (List.nodup_cons.mp R.nd).2, fun a ha => R.new a (.tail _ ha), R.gens, R.os⟩
  obtain ⟨h1, h2, h3, h5⟩ := R.obj a ao e
  exact ⟨h1, fun q => h3 (by rw [q]; exact .head _), fun q => h3 (.tail _ q), h5⟩

theorem runC_callfn {C : Cx} {fs : List (Addr × Loc)} {L : Addr} {A : Around} {f : Addr} {oc : Value} {od : Option Addr} {osl : Array (Option Value)} {fd : FuncData} {body : List Stmt} {vals : List Value} {kw : List (Str × Value)} {Q : AV → AS → Prop}
    (hA : A.depth < recursionLimit) (ho : (Mine.hd.heap_39 C.w.params).lookup f = some ⟨oc, od, .func fd, osl⟩) (hcode : codeIn (Mine.hd.heap_39 C.w.params) fd.code fd.qualname = true)
    (h : Run ⟨C, fs, L, A.in1⟩ (bindArgs fd ⟨vals, kw⟩) (fun binds σ₁ =>
      (∀ n, ∀ b ∈ binds, fd.scope.names.lookup b.1 = some .local ∨ (fd.scope.names.lookup b.1 = some .cell ∧ ((cellsFrom n fd.scope.names []).lookup b.1).isSome = true)) ∧
      ∀ L', (∀ c, L' ≤ c → Fresh σ₁ c) →
        Run ⟨C, (L, σ₁.loc) :: fs, L', A.deeper (callEnvC fd L' f)⟩ (execs body (callEnvC fd L' f)) (fun fl σ₂ => Q (er (retOf fl)) { σ₂ with loc := σ₁.loc }) (enterC fd f binds L' σ₁)) σ)
    (hbody : fd.body = .stmts body := by rfl) (hclo : fd.closure = [] := by rfl)
    (hnd : ∀ n, ((cellsFrom n fd.scope.names []).map (·.1)).Nodup := by intro n; simp [cellsFrom]) (hco : fd.scope.isCoroutine = false := by rfl) (hgen : fd.scope.isGenerator = false := by rfl) (hk : fd.scope.kind = .function := by rfl) :
    RunC ⟨C, fs, L, A⟩ (.call (.ref f) ⟨vals, kw⟩) (fun r σ' => ∃ v, r = .ok (.ret v) ∧ Q (er v) σ') σ := by
  intro s R
  have X := R.ok.kx.keeps R.base
  refine codeAny_call_function hA (X _ _ ho) rfl hco hgen hbody (codeRec_of X hcode) ?_
  refine wpAny_mono (h s R) (fun binds s₁ ⟨σ₁, R₁, hb, h₁⟩ => ?_) fun _ _ e => e.elim
  rw [hclo]
  refine wpAny_newFunctionEnv_cells hk (hb _) fun env he s' I => ?_
  subst he
  have R' := Rel.enter (f := f) R₁ (hnd _) I
  refine ⟨(R.ok.top.nolimit.keeps R₁.base).keeps I.toInCall.keep, codeAny_func ?_⟩
  refine wpAny_mono (h₁ _ (fun c hc => R₁.fresh hc) s' R') (fun fl s₂ ⟨σ₂, R₂, q⟩ => ?_) fun _ _ e => e.elim
  cases fl <;> exact ⟨_, R₂.leave, _, rfl, q⟩
theorem runV_ofC {f : Value} {vals : List Value} {kw : List (Str × Value)} {Q : AV → AS → Prop} (h : RunC x (.call f ⟨vals, kw⟩) (fun r σ' => ∃ v, r = .ok (.ret v) ∧ Q (er v) σ') σ) : RunV x (call f vals kw) Q σ := fun s R =>
  wpAny_call (codeAny_mono (h s R) fun r s' ⟨σ', R', v, e, q⟩ => by subst e; exact ⟨σ', R', q⟩)
theorem run_callfn {C : Cx} {fs : List (Addr × Loc)} {L : Addr} {A : Around} {f : Addr} {oc : Value} {od : Option Addr} {osl : Array (Option Value)} {fd : FuncData} {body : List Stmt} {vals : List Value} {kw : List (Str × Value)} {Q : AV → AS → Prop}
    (hA : A.depth < recursionLimit) (ho : (Mine.hd.heap_39 C.w.params).lookup f = some ⟨oc, od, .func fd, osl⟩) (hcode : codeIn (Mine.hd.heap_39 C.w.params) fd.code fd.qualname = true)
    (h : Run ⟨C, fs, L, A.in1⟩ (bindArgs fd ⟨vals, kw⟩) (fun binds σ₁ =>
      (∀ n, ∀ b ∈ binds, fd.scope.names.lookup b.1 = some .local ∨ (fd.scope.names.lookup b.1 = some .cell ∧ ((cellsFrom n fd.scope.names []).lookup b.1).isSome = true)) ∧
      ∀ L', (∀ c, L' ≤ c → Fresh σ₁ c) →
        Run ⟨C, (L, σ₁.loc) :: fs, L', A.deeper (callEnvC fd L' f)⟩ (execs body (callEnvC fd L' f)) (fun fl σ₂ => Q (er (retOf fl)) { σ₂ with loc := σ₁.loc }) (enterC fd f binds L' σ₁)) σ)
    (hbody : fd.body = .stmts body := by rfl) (hclo : fd.closure = [] := by rfl)
    (hnd : ∀ n, ((cellsFrom n fd.scope.names []).map (·.1)).Nodup := by intro n; simp [cellsFrom]) (hco : fd.scope.isCoroutine = false := by rfl) (hgen : fd.scope.isGenerator = false := by rfl) (hk : fd.scope.kind = .function := by rfl) :
    RunV ⟨C, fs, L, A⟩ (call (.ref f) vals kw) Q σ :=
  runV_ofC (runC_callfn hA ho hcode h hbody hclo hnd hco hgen hk)
end
end
-- AzLoop
section
section
variable {x : X} {α β : Type} {σ : AS} {env : Env}

theorem run_to {α : Type} {t : Sem α} {Q : α → AS → Prop} {E : Value → Shared → Prop} {Q' : α → Shared → Prop} {s : Shared} (h : Run x t Q σ) (R : Rel x.C x.fs x.L σ s)
    (hQ : ∀ v σ' s', Rel x.C x.fs x.L σ' s' → Q v σ' → Q' v s') : wpAny (model Pg x.C.w) x.A t Q' E s :=
  wpAny_mono (h s R) (fun v s' ⟨σ', R', q⟩ => hQ v σ' s' R' q) fun _ _ e => e.elim

/-- one turn of a for -/
def ForTurn (x : X) (target : Expr) (it : Value) (body orelse : List Stmt) (env : Env) (Q : Flow → AS → Prop) (I : Nat → AS → Prop) (n : Nat) (σ : AS) : Prop :=
  Run x (pyNext it) (fun r σ₁ => match r with
    | none => Run x (execs orelse env) Q σ₁
    | some v => Run x (letOwnedTupleGo target it v) (fun _ σ₂ => Run x (assign target env v) (fun _ σ₃ => Run x (execs body env) (fun f σ₄ => match f with
        | .next | .cont => ∃ m, m < n ∧ I m σ₄
        | .brk => Q .next σ₄
        | .ret v => Q (.ret v) σ₄) σ₃) σ₂) σ₁) σ

theorem s_for {target iter : Expr} {body orelse : List Stmt} {pos : Pos} {Q : Flow → AS → Prop}
    (h : RunV x (eval iter env) (fun a σ₁ => ∀ v, er v = a → RunV x (pyIter v) (fun b σ₂ => ∀ it, er it = b → ∃ (I : Nat → AS → Prop) (n : Nat), I n σ₂ ∧ ∀ n σ, I n σ → ForTurn x target it body orelse env Q I n σ) σ₁) σ)
    (hs : ∀ y, foldedSetIterable iter env y = pure y := by intro _; rfl) : Run x (exec (.For target iter body orelse pos) env) Q σ := by
  intro s R
  refine wpAny_For ?_ hs
  refine run_to h R fun v σ₁ s₁ R₁ h₁ => run_to (h₁ v rfl) R₁ fun it σ₂ s₂ R₂ h₂ => ?_
  obtain ⟨I, n, h0, turn⟩ := h₂ it rfl
  refine codeAny_forLoop_any (I := fun n s => ∃ σ, Rel x.C x.fs x.L σ s ∧ I n σ) ?_ n ⟨σ₂, R₂, h0⟩
  rintro n s ⟨σ, R, hI⟩
  refine run_to (turn n σ hI) R fun r σ₃ s₃ R₃ h₃ => ?_
  cases r with
  | none => exact run_to h₃ R₃ fun f σ₄ s₄ R₄ h₄ => ⟨σ₄, R₄, h₄⟩
  | some v =>
    refine run_to h₃ R₃ fun _ σ₄ s₄ R₄ h₄ => run_to h₄ R₄ fun _ σ₅ s₅ R₅ h₅ => run_to h₅ R₅ fun f σ₆ s₆ R₆ h₆ => ?_
    cases f with
    | next => obtain ⟨m, hm, hi⟩ := h₆; exact ⟨m, hm, σ₆, R₆, hi⟩
    | cont => obtain ⟨m, hm, hi⟩ := h₆; exact ⟨m, hm, σ₆, R₆, hi⟩
    | brk => exact ⟨σ₆, R₆, h₆⟩
    | ret v => exact ⟨σ₆, R₆, h₆⟩

theorem lot_name {n : Str} {p : Pos} {it v : Value} {Q : Unit → AS → Prop} (h : Q () σ) : Run x (letOwnedTupleGo (.Name n p) it v) Q σ := run_pure h
theorem asg_name {n : Str} {p : Pos} {v : Value} {Q : Unit → AS → Prop} (h : Run x (storeName env n v) Q σ) : Run x (assign (.Name n p) env v) Q σ := by
  rw [PySem.assign_Name]
  exact run_bind (run_standAt (run_bindName h))

/-! ## lists -/
theorem list_at {C : Cx} {fs : List (Addr × Loc)} {L : Addr} {s : Shared} (R : Rel C fs L σ s) {l : Addr} {vs : List AV} (h : σ.hp l = some (.list vs)) :
    ∃ xs n, s.heap.get? l = some { cls := .type "list", data := .seq xs n } ∧ xs.toList.map er = vs ∧ s.heap.IsList l xs := by
  obtain ⟨o, ho, xs, n, rfl, hx⟩ := R.get h
  exact ⟨xs, n, ho, hx, _, ho, rfl, n, rfl⟩
theorem ob_at {C : Cx} {fs : List (Addr × Loc)} {L : Addr} {s : Shared} (R : Rel C fs L σ s) {l : Addr} {n : String} {vs : Array Value} (h : σ.hp l = some (.ob n vs)) :
    ∃ o, s.heap.get? l = some o ∧ o.cls = .type n ∧ o.data = .fields vs := R.get h

abbrev LIter (l : Addr) (i : Nat) : AO := .ob "list_iterator" #[.ref l, .int i 0]
theorem iter_list {l : Addr} {vs : List AV} {Q : AV → AS → Prop} (hl : σ.hp l = some (.list vs)) (h : ∀ I, Fresh σ I → Q (.ref I) (σ.put I (LIter l 0))) : RunV x (pyIter (.ref l)) Q σ := by
  intro s R
  obtain ⟨xs, n, ho, hx, hL⟩ := list_at R hl
  exact wpAny_pyIter_list hL ⟨_, R.push (ao := LIter l 0) ⟨rfl, rfl⟩ s.toks, h _ (R.fresh (Nat.le_refl _))⟩
theorem next_list {I l : Addr} {i : Nat} {vs : List AV} {Q : Option Value → AS → Prop} (hh : x.A.handled = none) (hI : σ.hp I = some (LIter l i)) (hl : σ.hp l = some (.list vs))
    (hn : i < vs.length → ∀ v, some (er v) = vs[i]? → Q (some v) (σ.put I (LIter l (i + 1)))) (he : vs.length ≤ i → Q none (σ.drop I)) : Run x (pyNext (.ref I)) Q σ := by
  intro s R
  obtain ⟨xs, n, ho, hx, hL⟩ := list_at R hl
  have hit : s.heap.IsListIter I l i := by obtain ⟨o, h1, h2, h3⟩ := ob_at R hI; exact ⟨o, h1, h2, h3⟩
  have hlen : xs.size = vs.length := by rw [← hx]; simp
  by_cases hi : i < vs.length
  · have hi' : i < xs.size := hlen ▸ hi
    refine wpAny_pyNext_list_item hit hL (x := xs[i]) (by simp [hi']) fun h' hit' hs => ?_
    obtain ⟨o, h1, h2, h3⟩ := hit'
    refine ⟨_, R.upd (ao := LIter l (i + 1)) hI hs.extBut h1 ⟨h2, h3⟩ s.toks, hn hi _ ?_⟩
    rw [← hx]
    simp [hi']
  · refine wpAny_pyNext_list_end hh hit hL (by simp [hlen]; omega) fun h' hs => ?_
    exact ⟨_, R.forget hI hs s.toks, he (Nat.not_lt.mp hi)⟩

/-! ## comprehensions -/
theorem cellsFrom_app : ∀ (names : List (Str × NameKind)) (n : Nat) (acc : List (Str × Addr)), cellsFrom n names acc = cellsFrom n names [] ++ acc
  | [], _, _ => rfl
  | (name, kind) :: r, n, acc => by
    unfold cellsFrom
    split
    · rw [cellsFrom_app r (n + 1) ((name, n) :: acc), cellsFrom_app r (n + 1) [(name, n)], List.append_assoc]; rfl
    · exact cellsFrom_app r n acc

def compE (scope : Scope) (cl : List (Str × Addr)) (L' : Addr) (env : Env) : Env :=
  { scope := relabel scope env, locals := L', globals := env.globals, cells := cellsFrom (L' + 1) scope.names cl, qual := env.qual, func := none, code := env.code, frame := env.frame, builtins := env.builtins }
def enterComp (scope : Scope) (L' : Addr) (σ : AS) : AS where
  loc := fun _ => none
  hp := layHp (cellsFrom (L' + 1) scope.names []) (fun _ => none) σ.hp
  gs := σ.gs

theorem wpAny_compEnv {M : Model} {A : Around} {E : Value → Shared → Prop} {s : Shared} {scope : Scope} {cl : List (Str × Addr)} {globals : Addr} {qual : Str} {Q : Env → Shared → Prop}
    (h : Q { scope, locals := s.heap.objs.size, globals, cells := cellsFrom (s.heap.objs.size + 1) scope.names cl, qual, func := none, code := env.code, frame := env.frame, builtins := env.builtins }
      { s with heap := pushCells (s.heap.push { cls := .type "dict", data := .dict #[] }) scope.names }) :
    wpAny M A (newFunctionEnv scope globals cl [] qual none .none (some env)) Q E s := by
  simp only [newFunctionEnv, Option.isSome_some, if_true]
  refine wpAny_bind (wpAny_alloc ?_)
  refine wpAny_bind (wpAny_layCells _ (fun name kind cells => by cases hkc : kind == NameKind.cell <;> simp [hkc]) _ _ _ _ ?_)
  rw [show ({ s with heap := s.heap.push { cls := .type "dict", data := .dict #[] } } : Shared).heap.objs.size = s.heap.objs.size + 1 from Heap.size_push ..]
  exact wpAny_bind (wpAny_pure (wpAny_pure h))

theorem Rel.enterComp {C : Cx} {fs : List (Addr × Loc)} {L : Addr} {s : Shared} {scope : Scope} (R : Rel C fs L σ s) (hnd : ((cellsFrom (s.heap.objs.size + 1) scope.names []).map (·.1)).Nodup) :
    Rel C ((L, σ.loc) :: fs) s.heap.objs.size (enterComp scope s.heap.objs.size σ) { s with heap := pushCells (s.heap.push { cls := .type "dict", data := .dict #[] }) scope.names } := by
  have hk : ∀ b o, s.heap.get? b = some o → (pushCells (s.heap.push { cls := .type "dict", data := .dict #[] }) scope.names).get? b = some o := fun b o e => pushCells_keeps _ _ b o (Heap.get?_push_of_some _ e)
  have ok := cellsFrom_ok scope.names (s.heap.push { cls := .type "dict", data := .dict #[] }) (s.heap.objs.size + 1) [] ⟨fun _ _ hm => (nomatch hm), List.Pairwise.nil⟩ (by rw [Heap.size_push]; exact Nat.le_refl _)
  rw [Heap.size_push] at ok
  refine ⟨R.ok, fun a o e => hk a o (R.base a o e), fun a ao e => ?_, ⟨_, (Heap.Ns.new s.heap (.type "dict")).keeps (pushCells_keeps _ _), fun _ => rfl⟩, fun p hp => ?_, ?_, fun a ha => ?_, R.gens, R.os⟩
  · rcases layHp_get e with ⟨n, hm, rfl⟩ | e
    · obtain ⟨⟨o, ho, hd⟩, ha⟩ := ok.empty n a hm
      refine ⟨R.high a (Nat.le_of_lt ha), Nat.ne_of_gt ha, fun q => ?_, o, ho, _, hd, rfl⟩
      have : a ∈ L :: fs.map (·.1) := q
      exact absurd (Nat.lt_trans (R.low a this) ha) (Nat.lt_irrefl _)
    · obtain ⟨h1, h2, h3, o, h5, h6⟩ := R.obj a ao e
      have hl := Heap.lt_size h5
      refine ⟨h1, Nat.ne_of_lt hl, fun q => ?_, o, hk a o h5, h6⟩
      rcases List.mem_cons.mp q with q | q
      · exact h2 q
      · exact h3 q
  · rcases List.mem_cons.mp hp with rfl | hp
    · obtain ⟨m, hm, hx⟩ := R.loc; exact ⟨m, hm.keeps hk, hx⟩
    · obtain ⟨m, hm, hx⟩ := R.frs p hp; exact ⟨m, hm.keeps hk, hx⟩
  · refine List.nodup_cons.mpr ⟨fun q => ?_, R.nd⟩
    exact absurd (R.low _ q) (Nat.lt_irrefl _)
  · rcases List.mem_cons.mp ha with rfl | ha
    · exact R.high _ (Nat.le_refl _)
    · exact R.new a ha

theorem Rel.leaveBut {C : Cx} {fs : List (Addr × Loc)} {L L' : Addr} {loc : Loc} {s : Shared} {h' : Heap} (R : Rel C ((L, loc) :: fs) L' σ s) (hs : Heap.SameBut L' s.heap h') (tk : Nat) : Rel C fs L { σ with loc := loc } { s with heap := h', toks := tk } := by
  obtain ⟨m, hm, hx⟩ := R.frs _ (.head _)
  have off : ∀ a ∈ (L, loc).1 :: fs.map (·.1), a ≠ L' := fun a ha q => (List.nodup_cons.mp R.nd).1 (q ▸ ha)
  refine ⟨R.ok, fun b o e => (hs.2 b fun q => ?_).trans (R.base b o e), fun a ao e => ?_, ⟨m, hm.sameBut hs (off _ (.head _)), hx⟩, fun p hp => ?_, (List.nodup_cons.mp R.nd).2, fun a ha => R.new a (.tail _ ha), R.gens, R.os⟩
  · rw [q, none_of_le (R.new L' (.head _))] at e; cases e
  · obtain ⟨h1, h2, h3, o, h5, h6⟩ := R.obj a ao e
    exact ⟨h1, fun q => h3 (by rw [q]; exact .head _), fun q => h3 (.tail _ q), o, (hs.2 a h2).trans h5, h6⟩
  · obtain ⟨m, hm, hx⟩ := R.frs p (.tail _ hp); exact ⟨m, hm.sameBut hs (off _ (.tail _ (List.mem_map_of_mem hp))), hx⟩
theorem Rel.swap {C : Cx} {fs : List (Addr × Loc)} {L L' : Addr} {loc : Loc} {s : Shared} (R : Rel C ((L, loc) :: fs) L' σ s) : Rel C ((L', σ.loc) :: fs) L { σ with loc := loc } s := by
  obtain ⟨m, hm, hx⟩ := R.frs _ (.head _)
  have hnd := R.nd
  have hnd' : (L :: L' :: fs.map (·.1)).Nodup := by
    have := List.nodup_cons.mp hnd
    have h2 := List.nodup_cons.mp this.2
    refine List.nodup_cons.mpr ⟨fun q => ?_, List.nodup_cons.mpr ⟨fun q => this.1 (.tail _ q), h2.2⟩⟩
    rcases List.mem_cons.mp q with q | q
    · exact this.1 (by rw [← q]; exact .head _)
    · exact h2.1 q
  refine ⟨R.ok, R.base, fun a ao e => ?_, ⟨m, hm, hx⟩, fun p hp => ?_, hnd', fun a ha => ?_, R.gens, R.os⟩
  · obtain ⟨h1, h2, h3, h5⟩ := R.obj a ao e
    refine ⟨h1, fun q => h3 (by rw [q]; exact .head _), fun q => ?_, h5⟩
    rcases List.mem_cons.mp q with q | q
    · exact h2 q
    · exact h3 (.tail _ q)
  · rcases List.mem_cons.mp hp with rfl | hp
    · exact R.loc
    · exact R.frs p (.tail _ hp)
  · rcases List.mem_cons.mp ha with rfl | ha
    · exact R.new _ (.tail _ (.head _))
    · rcases List.mem_cons.mp ha with rfl | ha
      · exact R.new _ (.head _)
      · exact R.new _ (.tail _ (.tail _ ha))

/-- the loop of a comprehension, from its accumulator and iterator on -/
def CompRun (x : X) (e : Expr) (scope : Scope) (cl : List (Str × Addr)) (env : Env) (it acc : Value) (P : AS → Prop) (σ : AS) : Prop :=
  ∀ L', (∀ c, L' ≤ c → Fresh σ c) → RunC ⟨x.C, (x.L, σ.loc) :: x.fs, L', x.A⟩ (.compStart e 0 it acc (compE scope cl L' env)) (fun r σ' => r = .ok .next ∧ P { σ' with loc := σ.loc }) (enterComp scope L' σ)

theorem run_comp {e : Expr} {scope : Scope} {pos : Pos} {newAcc first : Sem Value} {g : Comprehension} {gs : List Comprehension} {cl : List (Str × Addr)} {Q : AV → AS → Prop}
    (hclos : closureFor scope env = pure cl)
    (h : RunV x first (fun a σ₁ => ∀ v, er v = a → RunV x (pyIter v) (fun b σ₂ => ∀ it, er it = b → RunV x newAcc (fun c σ₃ => ∀ acc, er acc = c → CompRun x e scope cl env it acc (fun σ₄ => Q c σ₄) σ₃) σ₂) σ₁) σ)
    (hcl : clausesOf e = g :: gs := by rfl) (hs : ∀ y, foldedSetIterable g.iter env y = pure y := by intro _; rfl) (hkind : scope.kind = .function := by rfl) (hnames : ∀ y ∈ scope.names, y.2 = .local → scope.names.lookup y.1 = some .local := by decide)
    (hnd : ∀ n, ((cellsFrom n scope.names []).map (·.1)).Nodup := by intro n; simp [cellsFrom]) :
    RunV x (comprehension e scope env pos newAcc false first none) Q σ := by
  intro s R
  refine wpAny_comprehension_free (cl := cl) hcl hs hclos hkind hnames ?_
  refine run_to h R fun v σ₁ s₁ R₁ h₁ => run_to (h₁ v rfl) R₁ fun it σ₂ s₂ R₂ h₂ => run_to (h₂ it rfl) R₂ fun acc σ₃ s₃ R₃ h₃ => ?_
  refine wpAny_compEnv ?_
  have R₄ := R₃.enterComp (hnd _)
  refine codeAny_mono (h₃ acc rfl _ (fun c hc => R₃.fresh hc) _ R₄) fun r s₅ ⟨σ₅, R₅, hr, hP⟩ => ?_
  subst hr
  obtain ⟨m, hm, _⟩ := R₅.loc
  exact ⟨m, hm, fun h' hs' => ⟨_, R₅.leaveBut hs' s₅.toks, hP⟩⟩

/-- n = [..] where the store is exchanged -/
theorem s_assign_comp {n : Str} {p pos cpos : Pos} {elt : Expr} {scope : Scope} {g : Comprehension} {gs : List Comprehension} {cl : List (Str × Addr)} {Q : Flow → AS → Prop}
    (hclos : closureFor scope env = pure cl)
    (h : RunV x (eval g.iter env) (fun a σ₁ => ∀ v, er v = a → RunV x (pyIter v) (fun b σ₂ => ∀ it, er it = b → RunV x (newList []) (fun c σ₃ => ∀ acc, er acc = c →
      CompRun x (.ListComp elt (g :: gs) scope cpos) scope cl env it acc (fun σ₄ => Q .next (σ₄.bind n c)) σ₃) σ₂) σ₁) σ)
    (hsw : swapsWith (.ListComp elt (g :: gs) scope cpos) (some (.Name n p)) pos.line env = pure true := by rfl)
    (hasync : firstAsync (g :: gs) = false := by rfl) (hiter : firstIter (g :: gs) env = eval g.iter env := by rfl)
    (hs : ∀ y, foldedSetIterable g.iter env y = pure y := by intro _; rfl) (hkind : scope.kind = .function := by rfl) (hnames : ∀ y ∈ scope.names, y.2 = .local → scope.names.lookup y.1 = some .local := by decide)
    (hnd : ∀ n, ((cellsFrom n scope.names []).map (·.1)).Nodup := by intro n; simp [cellsFrom])
    (hL : env.locals = x.L := by rfl) (hk : env.scope.kind = .function := by rfl) (hl : env.kindOf n = some .local := by rfl) :
    Run x (exec (.Assign [.Name n p] (.ListComp elt (g :: gs) scope cpos) pos) env) Q σ := by
  intro s R
  have e : exec (.Assign [.Name n p] (.ListComp elt (g :: gs) scope cpos) pos) env = (do
    standAt pos
    if ← swapsWith (.ListComp elt (g :: gs) scope cpos) (some (.Name n p)) pos.line env then do
      evalThenUse (.ListComp elt (g :: gs) scope cpos) env fun v => assignAll v ((assignEach [.Name n p] env).map (·.2))
      pure .next
    else do
      let v ← eval (.ListComp elt (g :: gs) scope cpos) env
      assignStores env v (← swappedStores [.Name n p] (.ListComp elt (g :: gs) scope cpos) env) ((assignEach [.Name n p] env).map (·.2))) := rfl
  have e2 : evalThenUse (.ListComp elt (g :: gs) scope cpos) env (fun v => assignAll v ((assignEach [.Name n p] env).map (·.2))) = (do
    let _ ← comprehension (.ListComp elt (g :: gs) scope cpos) scope env (firstIterPos (g :: gs) cpos) (newList []) (firstAsync (g :: gs)) (firstIter (g :: gs) env) (some fun v => assignAll v ((assignEach [.Name n p] env).map (·.2)))) := rfl
  rw [e, hsw, e2, hasync, hiter]
  refine wpAny_bind (wpAny_standAt (wpAny_bind (wpAny_pure ?_)))
  simp only [if_true]
  refine wpAny_bind (wpAny_bind (wpAny_comprehension_free (cl := cl) rfl hs hclos hkind hnames ?_))
  refine run_to h R fun v σ₁ s₁ R₁ h₁ => run_to (h₁ v rfl) R₁ fun it σ₂ s₂ R₂ h₂ => run_to (h₂ it rfl) R₂ fun acc σ₃ s₃ R₃ h₃ => ?_
  refine wpAny_compEnv ?_
  have R₄ := R₃.enterComp (hnd _)
  refine codeAny_mono (h₃ acc rfl _ (fun c hc => R₃.fresh hc) _ R₄) fun r s₅ ⟨σ₅, R₅, hr, hP⟩ => ?_
  subst hr
  show wpAny _ _ (assign (.Name n p) env acc) _ _ _
  have R₆ := R₅.swap
  have hrun : Run ⟨x.C, (s₃.heap.objs.size, σ₅.loc) :: x.fs, x.L, x.A⟩ (assign (.Name n p) env acc) (fun _ σ' => σ' = ({ σ₅ with loc := σ₃.loc } : AS).bind n (er acc)) { σ₅ with loc := σ₃.loc } :=
    asg_name (store_local rfl hL hk hl)
  refine wpAny_mono (hrun _ R₆) (fun _ s₇ ⟨σ₇, R₇, h₇⟩ => ?_) fun _ _ e => e.elim
  subst h₇
  have R₈ := R₇.swap
  obtain ⟨m, hm, _⟩ := R₈.loc
  exact ⟨m, hm, fun h' hs' => wpAny_pure (wpAny_pure ⟨_, R₈.leaveBut hs' s₇.toks, hP⟩)⟩

theorem c_start {e : Expr} {d : Nat} {it acc : Value} {R : Result → AS → Prop} {target iter : Expr} {ifs : List Expr}
    (hg : (clausesOf e)[d]? = some ⟨target, iter, ifs, 0⟩) (hiter : ∀ Q : AV → AS → Prop, Q (er it) σ → RunV x (pyIter it) Q σ)
    (h : ∀ it', er it' = er it → RunC x (.compLoop e d it' acc env) R σ)
    (hf : (Code.compStart e d it acc env).isFrame = false) (hw : (Code.compStart e d it acc env).weight = 0) (hu : (Code.compStart e d it acc env).cUnits = 0)
    (hq : ∀ it', (Code.compLoop e d it' acc env).quiet = true := by intro _; rfl) : RunC x (.compStart e d it acc env) R σ := by
  intro s R₀
  refine codeAny_of_tree ?_
  rw [Around.under_of_weight hw hu]
  show wpAny _ _ (if (Code.compStart e d it acc env).isFrame then (compStart e d it acc env).onRaise (leaving env) else (compStart e d it acc env).onRaise (fun x => do noteFrame x env; standAt theWindowsPlace)) _ _ s
  rw [hf]
  simp only [Bool.false_eq_true, if_false]
  refine wpAny_onRaise ?_
  unfold compStart
  rw [hg]
  simp only [Option.elim_some, bne_self_eq_false, Bool.false_eq_true, if_false]
  refine wpAny_bind (wpAny_askSetting (wpAny_ite ?_))
  split
  · exact wpAny_bind (wpAny_pure (wpAny_pure ⟨hq it, h it rfl s R₀⟩))
  · refine wpAny_bind (wpAny_rule (wpAny_bind (wpAny_standAt (wpAny_bind ?_))))
    refine run_to (hiter (fun a σ' => a = er it ∧ σ' = σ) ⟨rfl, rfl⟩) R₀ fun v σ' s' R' ⟨hv, hσ⟩ => ?_
    subst hσ
    exact wpAny_pure ⟨hq v, h v hv s' R'⟩

theorem c_loop {e : Expr} {d : Nat} {it acc : Value} {P : AS → Prop} (I : Nat → AS → Prop)
    (turn : ∀ n σ, I n σ → Run x (compTurn e d it acc env) (fun fin σ' => (fin = .done .next ∧ P σ') ∨ (fin = .again (.compLoop e d it acc env) ∧ ∃ m, m < n ∧ I m σ')) σ) (n : Nat) (h : I n σ)
    (hf : (Code.compLoop e d it acc env).isFrame = false) (hw : (Code.compLoop e d it acc env).weight = 0) (hu : (Code.compLoop e d it acc env).cUnits = 0)
    (hq : (Code.compLoop e d it acc env).quiet = true := by rfl) : RunC x (.compLoop e d it acc env) (fun r σ' => r = .ok .next ∧ P σ') σ := by
  intro s R₀
  refine codeAny_loop hq (fun n s => ∃ σ, Rel x.C x.fs x.L σ s ∧ I n σ) ?_ n ⟨σ, R₀, h⟩
  rintro n s ⟨σ, R, hI⟩
  rw [Around.under_of_weight hw hu]
  show wpAny _ _ (if (Code.compLoop e d it acc env).isFrame then (compTurn e d it acc env).onRaise (leaving env) else (compTurn e d it acc env).onRaise (fun x => do noteFrame x env; theTreesLotGoes x)) _ _ s
  rw [hf]
  simp only [Bool.false_eq_true, if_false]
  refine wpAny_onRaise (run_to (turn n σ hI) R fun fin σ' s' R' h' => ?_)
  rcases h' with ⟨rfl, hP⟩ | ⟨rfl, m, hm, hi⟩
  · exact ⟨σ', R', rfl, hP⟩
  · exact ⟨rfl, m, hm, σ', R', hi⟩

def Tests (x : X) (ifs : List Expr) (env : Env) (Q : Bool → AS → Prop) (σ : AS) : Prop :=
  Run x (forIn ifs true fun c r => if r = true then do let ok ← isTrue c env (eval c env); pure (ForInStep.yield ok) else pure (ForInStep.yield r)) Q σ
theorem tests_nil {Q : Bool → AS → Prop} (h : Q true σ) : Tests x [] env Q σ := run_pure h
theorem tests_one {c : Expr} {Q : Bool → AS → Prop} (h : Run x (isTrue c env (eval c env)) Q σ) : Tests x [c] env Q σ := fun s R => wpAny_tests_one (h s R)

/-- a turn of a list comprehension's last clause -/
theorem turn_list1 {elt target iter : Expr} {ifs : List Expr} {scope : Scope} {pos : Pos} {it acc : Value} {P : AS → Prop} {n : Nat} {I : Nat → AS → Prop}
    (h : Run x (pyNext it) (fun r σ₁ => match r with
      | none => P σ₁
      | some v => Run x (letOwnedTupleGo target it v) (fun _ σ₂ => Run x (assign target env v) (fun _ σ₃ => Tests x ifs env (fun ok σ₄ =>
          (ok = true → RunV x (eval elt env) (fun a σ₅ => ∀ u, er u = a → RunV x (call (.builtin "list.append") [acc, u]) (fun _ σ₆ => ∃ m, m < n ∧ I m σ₆) σ₅) σ₄) ∧ (ok = false → ∃ m, m < n ∧ I m σ₄)) σ₃) σ₂) σ₁) σ) :
    Run x (compTurn (.ListComp elt [⟨target, iter, ifs, 0⟩] scope pos) 0 it acc env) (fun fin σ' => (fin = .done .next ∧ P σ') ∨ (fin = .again (.compLoop (.ListComp elt [⟨target, iter, ifs, 0⟩] scope pos) 0 it acc env) ∧ ∃ m, m < n ∧ I m σ')) σ := by
  rw [compTurn_list]
  refine run_bind (run_standAt (run_bind (run_mono h fun r σ₁ h₁ => ?_)))
  cases r with
  | none => exact run_pure (.inl ⟨rfl, h₁⟩)
  | some v =>
    refine run_bind (run_mono h₁ fun _ σ₂ h₂ => run_bind (run_mono h₂ fun _ σ₃ h₃ => run_bind (run_mono h₃ fun ok σ₄ h₄ => ?_)))
    cases ok with
    | false => exact run_pure (.inr ⟨rfl, h₄.2 rfl⟩)
    | true => exact run_bind (runV_bind (runV_mono (h₄.1 rfl) fun a σ₅ h₅ u hu => run_bind (run_mono (h₅ u hu) fun _ σ₆ h₆ => run_pure (run_pure (.inr ⟨rfl, h₆⟩)))))
end
end
-- AzOps
section
def aget {K : Type} [DecidableEq K] (kvs : List (K × AV)) (k : K) : Option AV := (kvs.find? fun kv => kv.1 = k).map (·.2)
def aput {K : Type} [DecidableEq K] (kvs : List (K × AV)) (k : K) (v : AV) : List (K × AV) :=
  if kvs.any (fun kv => kv.1 = k) then kvs.map (fun kv => if kv.1 = k then (kv.1, v) else kv) else kvs ++ [(k, v)]
theorem aget_er {K : Type} [DecidableEq K] (kvs : List (K × Value)) (k : K) : aget (kvs.map fun p => (p.1, er p.2)) k = (valueAt kvs k).map er := by
  induction kvs with
  | nil => rfl
  | cons p r ih =>
    unfold aget valueAt at *
    rw [List.map_cons, List.find?_cons, List.find?_cons]
    by_cases h : p.1 = k <;> simp_all
theorem aput_er {K : Type} [DecidableEq K] (kvs : List (K × Value)) (k : K) (v : Value) : aput (kvs.map fun p => (p.1, er p.2)) k (er v) = (stored kvs k v).map fun p => (p.1, er p.2) := by
  unfold aput stored
  rw [List.any_map]
  by_cases h : (kvs.any fun kv => decide (kv.1 = k)) = true
  · rw [if_pos h, if_pos (by simpa using h), List.map_map, List.map_map]
    refine List.map_congr_left fun p _ => ?_
    show (if p.1 = k then (p.1, er v) else (p.1, er p.2)) = (fun p => (p.1, er p.2)) (if p.1 = k then (p.1, v) else p)
    split <;> rfl
  · rw [if_neg h, if_neg (by simpa using h), List.map_append]; rfl

section
variable {x : X} {α β : Type} {σ : AS} {env : Env}

theorem idict_at {C : Cx} {fs : List (Addr × Loc)} {L : Addr} {s : Shared} (R : Rel C fs L σ s) {d : Addr} {kvs : List (Int × AV)} {ep : Nat} (h : σ.hp d = some (.idict kvs ep)) :
    ∃ kvs', s.heap.DictAt (intKind Pg C.w) d kvs' ep ∧ kvs'.map (fun p => (p.1, er p.2)) = kvs := by
  obtain ⟨o, ho, es, kvs', h1, h2, h3, h4, h5, h6⟩ := R.get h
  exact ⟨kvs', ⟨o, es, ho, h1, h2, h3, h4, h5⟩, h6⟩
theorem idict_or {C : Cx} {h : Heap} {d : Addr} {kvs' : List (Int × Value)} {ep : Nat} (x : h.DictAt (intKind Pg C.w) d kvs' ep) : ∃ o, h.get? d = some o ∧ OR C.w (.idict (kvs'.map fun p => (p.1, er p.2)) ep) o := by
  obtain ⟨o, es, ho, h1, h2, h3, h4, h5⟩ := x
  exact ⟨o, ho, es, kvs', h1, h2, h3, h4, h5, rfl⟩

theorem in_idict {d : Addr} {kvs : List (Int × AV)} {ep : Nat} {k : Int} {t : Tok} {Q : Bool → AS → Prop} (hd : σ.hp d = some (.idict kvs ep)) (h : Q (aget kvs k).isSome σ) : Cmp x .In (.int k t) (.ref d) Q σ := by
  intro s R
  obtain ⟨kvs', hm, rfl⟩ := idict_at R hd
  refine wpAny_in_of (knd := intKind Pg x.C.w) (intKind_is _ _ k t) (R.notMods hd) hm.dictOf.mapOf ⟨σ, R.toks _, _, rfl, ?_⟩
  rw [aget_er] at h; simpa using h
theorem notin_idict {d : Addr} {kvs : List (Int × AV)} {ep : Nat} {k : Int} {t : Tok} {Q : Bool → AS → Prop} (hd : σ.hp d = some (.idict kvs ep)) (h : Q (!(aget kvs k).isSome) σ) : Cmp x .NotIn (.int k t) (.ref d) Q σ := by
  intro s R
  obtain ⟨kvs', hm, rfl⟩ := idict_at R hd
  refine wpAny_notIn_of (knd := intKind Pg x.C.w) (intKind_is _ _ k t) (R.notMods hd) hm.dictOf.mapOf ⟨σ, R.toks _, _, rfl, ?_⟩
  rw [aget_er] at h; simpa using h
theorem item_idict {d : Addr} {kvs : List (Int × AV)} {ep : Nat} {k : Int} {t : Tok} {v : AV} {Q : AV → AS → Prop} (hd : σ.hp d = some (.idict kvs ep)) (hv : aget kvs k = some v) (h : Q v σ) : RunV x (getItem (.ref d) (.int k t)) Q σ := by
  intro s R
  obtain ⟨kvs', hm, rfl⟩ := idict_at R hd
  rw [aget_er] at hv
  cases e : valueAt kvs' k with
  | none => rw [e] at hv; cases hv
  | some u =>
    rw [e] at hv
    have : er u = v := Option.some.inj hv
    subst this
    exact wpAny_getItem_of (knd := intKind Pg x.C.w) (intKind_is _ _ k t) hm.dictOf.mapOf e ⟨σ, R.toks _, h⟩
theorem store_idict {d : Addr} {kvs : List (Int × AV)} {ep : Nat} {k : Int} {t : Tok} {v : Value} {Q : Unit → AS → Prop} (hd : σ.hp d = some (.idict kvs ep)) (hz : kvs.length ≤ sizeLine) (h : ∀ ep', Q () (σ.put d (.idict (aput kvs k (er v)) ep'))) :
    Run x (setItem (.ref d) (.int k t) v) Q σ := by
  intro s R
  obtain ⟨kvs', hm, rfl⟩ := idict_at R hd
  refine wpAny_setItem_pairs (knd := intKind Pg x.C.w) (intKind_is _ _ k t) hm.dictOf (fun h' hm' hs => ?_) (by simpa using hz)
  obtain ⟨ep', hm''⟩ := hm'.dictAt
  obtain ⟨o, ho, hor⟩ := idict_or hm''
  rw [← aput_er] at hor
  exact ⟨_, R.upd hd hs.extBut ho hor _, h ep'⟩

abbrev KIter (d : Addr) (i n ep : Nat) : AO := .ob "dict_keyiterator" #[.ref d, .int i 0, .int n 0, .int ep 0]
theorem iter_idict {d : Addr} {kvs : List (Int × AV)} {ep : Nat} {Q : AV → AS → Prop} (hd : σ.hp d = some (.idict kvs ep)) (h : ∀ I, Fresh σ I → Q (.ref I) (σ.put I (KIter d 0 kvs.length ep))) : RunV x (pyIter (.ref d)) Q σ := by
  intro s R
  obtain ⟨kvs', hm, rfl⟩ := idict_at R hd
  refine wpAny_pyIter_dict (R.notMods hd) hm ⟨_, R.push (ao := KIter d 0 kvs'.length ep) ⟨rfl, rfl⟩ s.toks, ?_⟩
  have := h _ (R.fresh (Nat.le_refl _))
  rw [List.length_map] at this
  exact this
theorem next_idict {I d : Addr} {i ep : Nat} {kvs : List (Int × AV)} {Q : Option Value → AS → Prop} (hh : x.A.handled = none) (hI : σ.hp I = some (KIter d i kvs.length ep)) (hd : σ.hp d = some (.idict kvs ep))
    (hn : ∀ k a, kvs[i]? = some (k, a) → ∀ t, Q (some (.int k t)) (σ.put I (KIter d (i + 1) kvs.length ep))) (he : kvs.length ≤ i → Q none (σ.drop I)) : Run x (pyNext (.ref I)) Q σ := by
  intro s R
  obtain ⟨kvs', hm, rfl⟩ := idict_at R hd
  rw [List.length_map] at hI
  have hit : s.heap.IsKeyIter I d i kvs'.length ep := by obtain ⟨o, h1, h2, h3⟩ := ob_at R hI; exact ⟨o, h1, h2, h3⟩
  cases e : kvs'[i]? with
  | some kv =>
    obtain ⟨k, v⟩ := kv
    refine wpAny_pyNext_dict_item hit hm e fun key h' hkey hit' hs => ?_
    obtain ⟨o, h1, h2, h3⟩ := hit'
    obtain ⟨t, rfl⟩ := Value.isInt_shape hkey
    refine ⟨_, R.upd (ao := KIter d (i + 1) kvs'.length ep) hI hs.extBut h1 ⟨h2, h3⟩ s.toks, ?_⟩
    have := hn k (er v) (by simp [e]) t
    rw [List.length_map] at this
    exact this
  | none =>
    refine wpAny_pyNext_dict_end hh hit hm e fun h' hs => ?_
    exact ⟨_, R.forget hI hs s.toks, he (by simpa using e)⟩

theorem new_list {vs : List Value} {Q : AV → AS → Prop} (hz : vs.length ≤ sizeLine) (h : ∀ l, Fresh σ l → Q (.ref l) (σ.put l (.list (vs.map er)))) : RunV x (newList vs) Q σ := by
  intro s R
  exact wpAny_newObj_type ⟨_, R.push (ao := .list (vs.map er)) ⟨_, 0, rfl, by simp⟩ s.toks, h _ (R.fresh (Nat.le_refl _))⟩ (by show vs.toArray.size ≤ sizeLine; simpa using hz)
theorem new_tuple {vs : List Value} {Q : AV → AS → Prop} (hz : vs.length ≤ sizeLine) (h : ∀ l, Fresh σ l → Q (.ref l) (σ.put l (.tup (vs.map er)))) : RunV x (newTuple vs) Q σ := by
  intro s R
  exact wpAny_newObj_type ⟨_, R.push (ao := .tup (vs.map er)) ⟨_, 0, rfl, by simp⟩ s.toks, h _ (R.fresh (Nat.le_refl _))⟩ (by show vs.toArray.size ≤ sizeLine; simpa using hz)
theorem new_idict {Q : AV → AS → Prop} (h : ∀ l, Fresh σ l → Q (.ref l) (σ.put l (.idict [] 0))) : RunV x newDict Q σ := by
  intro s R
  refine wpAny_newObj_type ⟨_, R.push (ao := .idict [] 0) ?_ s.toks, h _ (R.fresh (Nat.le_refl _))⟩ (by size_fits)
  exact ⟨#[], [], ⟨rfl, rfl, rfl⟩, rfl, fun _ h => by simp at h, .nil, List.nodup_nil, rfl⟩
theorem append_list {l : Addr} {vs : List AV} {u : Value} {Q : AV → AS → Prop} (hl : σ.hp l = some (.list vs)) (hz : vs.length ≤ sizeLine) (h : Q .none (σ.put l (.list (vs ++ [er u])))) : RunV x (call (.builtin "list.append") [.ref l, u]) Q σ := by
  intro s R
  obtain ⟨xs, n, ho, hx, hL⟩ := list_at R hl
  refine wpAny_list_append_plain (hsz := by rw [← hx] at hz; simpa using hz) ⟨n, ho⟩ fun h' hl' hs => ?_
  obtain ⟨n', ho'⟩ := hl'
  exact ⟨_, R.upd (ao := .list (vs ++ [er u])) hl hs.extBut ho' ⟨_, n', rfl, by rw [← hx]; simp⟩ s.toks, h⟩

theorem list_of_idict {d : Addr} {kvs : List (Int × AV)} {ep : Nat} {Q : AV → AS → Prop} (hh : x.A.handled = none) (hd : σ.hp d = some (.idict kvs ep)) (hz : kvs.length ≤ sizeLine)
    (h : ∀ l, Fresh σ l → Q (.ref l) (σ.put l (.list (kvs.map fun p => .int p.1)))) : RunV x (call (.type "list") [.ref d]) Q σ := by
  intro s R
  obtain ⟨kvs', hm, rfl⟩ := idict_at R hd
  refine kdl_call (kdl_dict (knd := intKind Pg x.C.w) (R.notMods hd)) hh hm (by simpa using hz) fun h' tk acc' c' hk hS hacc => ?_
  refine ⟨_, R.pushK (ao := .list (acc'.toList.map er)) hk hS ⟨_, c', rfl, rfl⟩ tk, ?_⟩
  have e : acc'.toList.map er = kvs'.map fun p => AV.int p.1 := by
    apply List.ext_getElem?
    intro i
    rw [List.getElem?_map, List.getElem?_map]
    by_cases hi : i < kvs'.length
    · have hi' : i < acc'.size := by rw [hacc.1]; exact hi
      obtain ⟨k, y, h1, h2⟩ := hacc.2 i acc'[i] (by simp [hi'])
      obtain ⟨t, h3⟩ := Value.isInt_shape h2
      rw [h1]
      have : acc'.toList[i]? = some acc'[i] := by simp [hi']
      rw [this, h3]; rfl
    · have hi' : ¬ i < acc'.toList.length := by rw [Array.length_toList, hacc.1]; exact hi
      rw [List.getElem?_eq_none (Nat.not_lt.mp hi), List.getElem?_eq_none (Nat.not_lt.mp hi')]; rfl
  have := h _ (R.fresh (Nat.le_refl _))
  rw [e]
  simp only [List.map_map, Function.comp_def] at this
  exact this

theorem set_idict {d : Addr} {kvs : List (Int × AV)} {ep : Nat} {k : Int} {t : Tok} {v : Value} {Q : Unit → AS → Prop} (hd : σ.hp d = some (.idict kvs ep)) (hz : kvs.length ≤ sizeLine) (h : ∀ ep', Q () (σ.put d (.idict (aput kvs k (er v)) ep'))) :
    Run x (dictSet d (.int k t) v) Q σ := by
  intro s R
  obtain ⟨kvs', hm, rfl⟩ := idict_at R hd
  refine wpAny_dictSet_pairs (knd := intKind Pg x.C.w) (intKind_is _ _ k t) hm.dictOf (fun h' hm' hs => ?_) (by simpa using hz)
  obtain ⟨ep', hm''⟩ := hm'.dictAt
  obtain ⟨o, ho, hor⟩ := idict_or hm''
  rw [← aput_er] at hor
  exact ⟨_, R.upd hd hs.extBut ho hor _, h ep'⟩

theorem turn_dict1 {ke ve target iter : Expr} {scope : Scope} {pos : Pos} {it : Value} {d : Addr} {P : AS → Prop} {n : Nat} {I : Nat → AS → Prop}
    (h : Run x (pyNext it) (fun r σ₁ => match r with
      | none => P σ₁
      | some v => Run x (letOwnedTupleGo target it v) (fun _ σ₂ => Run x (assign target env v) (fun _ σ₃ => RunV x (eval ke env) (fun a σ₄ => ∀ k, er k = a → RunV x (eval ve env) (fun b σ₅ => ∀ u, er u = b →
          Run x (dictSet d k u) (fun _ σ₆ => ∃ m, m < n ∧ I m σ₆) σ₅) σ₄) σ₃) σ₂) σ₁) σ) :
    Run x (compTurn (.DictComp ke ve [⟨target, iter, [], 0⟩] scope pos) 0 it (.ref d) env) (fun fin σ' => (fin = .done .next ∧ P σ') ∨ (fin = .again (.compLoop (.DictComp ke ve [⟨target, iter, [], 0⟩] scope pos) 0 it (.ref d) env) ∧ ∃ m, m < n ∧ I m σ')) σ := by
  have e : compTurn (.DictComp ke ve [⟨target, iter, [], 0⟩] scope pos) 0 it (.ref d) env = (do
      standAt iter.pos
      match ← pyNext it with
      | none => pure (.done .next)
      | some v => do
        letOwnedTupleGo target it v
        assign target env v
        (do let kv ← eval ke env
            let vv ← holding [kv] (eval ve env)
            standAt { ke.pos with endLine := ve.pos.endLine, endCol := ve.pos.endCol }
            holding [kv, vv] (dictSet d kv vv))
        again (.compLoop (.DictComp ke ve [⟨target, iter, [], 0⟩] scope pos) 0 it (.ref d) env)) := rfl
  rw [e]
  refine run_bind (run_standAt (run_bind (run_mono h fun r σ₁ h₁ => ?_)))
  cases r with
  | none => exact run_pure (.inl ⟨rfl, h₁⟩)
  | some v =>
    refine run_bind (run_mono h₁ fun _ σ₂ h₂ => run_bind (run_mono h₂ fun _ σ₃ h₃ => run_bind (runV_bind (runV_mono h₃ fun a σ₄ h₄ k hk => runV_bind (runV_hold (runV_mono (h₄ k hk) fun b σ₅ h₅ u hu => ?_))))))
    exact run_bind (run_standAt (run_hold (run_mono (h₅ u hu) fun _ σ₆ h₆ => run_pure (.inr ⟨rfl, h₆⟩))))

theorem s_assign_compD {n : Str} {p pos cpos : Pos} {ke ve : Expr} {scope : Scope} {g : Comprehension} {gs : List Comprehension} {cl : List (Str × Addr)} {Q : Flow → AS → Prop}
    (hclos : closureFor scope env = pure cl)
    (h : RunV x (eval g.iter env) (fun a σ₁ => ∀ v, er v = a → RunV x (pyIter v) (fun b σ₂ => ∀ it, er it = b → RunV x newDict (fun c σ₃ => ∀ acc, er acc = c →
      CompRun x (.DictComp ke ve (g :: gs) scope cpos) scope cl env it acc (fun σ₄ => Q .next (σ₄.bind n c)) σ₃) σ₂) σ₁) σ)
    (hsw : swapsWith (.DictComp ke ve (g :: gs) scope cpos) (some (.Name n p)) pos.line env = pure true := by rfl)
    (hasync : firstAsync (g :: gs) = false := by rfl) (hiter : firstIter (g :: gs) env = eval g.iter env := by rfl)
    (hs : ∀ y, foldedSetIterable g.iter env y = pure y := by intro _; rfl) (hkind : scope.kind = .function := by rfl) (hnames : ∀ y ∈ scope.names, y.2 = .local → scope.names.lookup y.1 = some .local := by decide)
    (hnd : ∀ n, ((cellsFrom n scope.names []).map (·.1)).Nodup := by intro n; simp [cellsFrom])
    (hL : env.locals = x.L := by rfl) (hk : env.scope.kind = .function := by rfl) (hl : env.kindOf n = some .local := by rfl) :
    Run x (exec (.Assign [.Name n p] (.DictComp ke ve (g :: gs) scope cpos) pos) env) Q σ := by
  intro s R
  have e : exec (.Assign [.Name n p] (.DictComp ke ve (g :: gs) scope cpos) pos) env = (do
    standAt pos
    if ← swapsWith (.DictComp ke ve (g :: gs) scope cpos) (some (.Name n p)) pos.line env then do
      evalThenUse (.DictComp ke ve (g :: gs) scope cpos) env fun v => assignAll v ((assignEach [.Name n p] env).map (·.2))
      pure .next
    else do
      let v ← eval (.DictComp ke ve (g :: gs) scope cpos) env
      assignStores env v (← swappedStores [.Name n p] (.DictComp ke ve (g :: gs) scope cpos) env) ((assignEach [.Name n p] env).map (·.2))) := rfl
  have e2 : evalThenUse (.DictComp ke ve (g :: gs) scope cpos) env (fun v => assignAll v ((assignEach [.Name n p] env).map (·.2))) = (do
    let _ ← comprehension (.DictComp ke ve (g :: gs) scope cpos) scope env (firstIterPos (g :: gs) cpos) newDict (firstAsync (g :: gs)) (firstIter (g :: gs) env) (some fun v => assignAll v ((assignEach [.Name n p] env).map (·.2)))) := rfl
  rw [e, hsw, e2, hasync, hiter]
  refine wpAny_bind (wpAny_standAt (wpAny_bind (wpAny_pure ?_)))
  simp only [if_true]
  refine wpAny_bind (wpAny_bind (wpAny_comprehension_free (cl := cl) rfl hs hclos hkind hnames ?_))
  refine run_to h R fun v σ₁ s₁ R₁ h₁ => run_to (h₁ v rfl) R₁ fun it σ₂ s₂ R₂ h₂ => run_to (h₂ it rfl) R₂ fun acc σ₃ s₃ R₃ h₃ => ?_
  refine wpAny_compEnv ?_
  have R₄ := R₃.enterComp (hnd _)
  refine codeAny_mono (h₃ acc rfl _ (fun c hc => R₃.fresh hc) _ R₄) fun r s₅ ⟨σ₅, R₅, hr, hP⟩ => ?_
  subst hr
  show wpAny _ _ (assign (.Name n p) env acc) _ _ _
  have R₆ := R₅.swap
  have hrun : Run ⟨x.C, (s₃.heap.objs.size, σ₅.loc) :: x.fs, x.L, x.A⟩ (assign (.Name n p) env acc) (fun _ σ' => σ' = ({ σ₅ with loc := σ₃.loc } : AS).bind n (er acc)) { σ₅ with loc := σ₃.loc } :=
    asg_name (store_local rfl hL hk hl)
  refine wpAny_mono (hrun _ R₆) (fun _ s₇ ⟨σ₇, R₇, h₇⟩ => ?_) fun _ _ e => e.elim
  subst h₇
  have R₈ := R₇.swap
  obtain ⟨m, hm, _⟩ := R₈.loc
  exact ⟨m, hm, fun h' hs' => wpAny_pure (wpAny_pure ⟨_, R₈.leaveBut hs' s₇.toks, hP⟩)⟩

theorem iter_listiter {I l : Addr} {i : Nat} {Q : AV → AS → Prop} (hI : σ.hp I = some (LIter l i)) (h : Q (.ref I) σ) : RunV x (pyIter (.ref I)) Q σ := by
  intro s R
  obtain ⟨o, h1, h2, h3⟩ := ob_at R hI
  exact wpAny_pyIter_listiter ⟨o, h1, h2, h3⟩ ⟨σ, R, h⟩
theorem iter_keyiter {I d : Addr} {i n ep : Nat} {Q : AV → AS → Prop} (hI : σ.hp I = some (KIter d i n ep)) (h : Q (.ref I) σ) : RunV x (pyIter (.ref I)) Q σ := by
  intro s R
  obtain ⟨o, h1, h2, h3⟩ := ob_at R hI
  exact wpAny_pyIter_keyiter ⟨o, h1, h2, h3⟩ ⟨σ, R, h⟩

/-! ## more statements -/
theorem s_expr {e : Expr} {pos : Pos} {Q : Flow → AS → Prop} (h : RunV x (eval e env) (fun a σ' => ∀ v, er v = a → Run x (dropValue e pos v) Q σ') σ) (hi : interactive env = false := by rfl) (hs : swapsWith e none pos.line env = pure false := by rfl) :
    Run x (exec (.Expr e pos) env) Q σ := by
  rw [exec_Expr _ _ _ hi hs]
  exact run_bind (run_standAt (runV_bind (runV_mono h fun _ _ h' v hv => h' v hv)))
theorem drop_none {e : Expr} {pos : Pos} {Q : Flow → AS → Prop} (h : Q .next σ) : Run x (dropValue e pos .none) Q σ := by
  rw [dropValue_plain (fun _ q => by cases q)]; exact run_pure h

theorem s_setitem {o i e : Expr} {p pos : Pos} {Q : Flow → AS → Prop}
    (h : RunV x (eval e env) (fun a σ₁ => ∀ v, er v = a → RunV x (eval o env) (fun b σ₂ => ∀ ov, er ov = b → RunV x (eval i env) (fun c σ₃ => ∀ iv, er iv = c → Run x (setItem ov iv v) (fun _ σ₄ => Q .next σ₄) σ₃) σ₂) σ₁) σ)
    (hsw : swapsWith e (some (.Subscript o i p)) pos.line env = pure false := by rfl) (hst : swappedStores [.Subscript o i p] e env = pure none := by rfl) : Run x (exec (.Assign [.Subscript o i p] e pos) env) Q σ := by
  have e1 : exec (.Assign [.Subscript o i p] e pos) env = (do
    standAt pos
    if ← swapsWith e (some (.Subscript o i p)) pos.line env then do
      evalThenUse e env fun v => assignAll v ((assignEach [.Subscript o i p] env).map (·.2))
      pure .next
    else do
      let v ← eval e env
      assignStores env v (← swappedStores [.Subscript o i p] e env) ((assignEach [.Subscript o i p] env).map (·.2))) := rfl
  rw [e1, hsw]
  refine run_bind (run_standAt (run_bind (run_pure ?_)))
  simp only [Bool.false_eq_true, if_false]
  refine runV_bind (runV_mono h fun a σ₁ h₁ v hv => ?_)
  rw [hst]
  refine run_bind (run_pure ?_)
  show Run x (do assign (.Subscript o i p) env v; pure Flow.next) _ _
  refine run_bind ?_
  show Run x (do
    let ov ← holding [v] (eval o env)
    let iv ← holding [v, ov] (eval i env)
    standAt p
    holding [v, ov, iv] (setItem ov iv v)
    release (match i with | .Slice _ _ none _ => [iv, v, ov] | _ => [v, ov, iv]) []) _ _
  refine runV_bind (runV_hold (runV_mono (h₁ v hv) fun b σ₂ h₂ ov hov => runV_bind (runV_hold (runV_mono (h₂ ov hov) fun c σ₃ h₃ iv hiv => ?_))))
  exact run_bind (run_standAt (run_bind (run_hold (run_mono (h₃ iv hiv) fun _ σ₄ h₄ => run_release (run_pure h₄)))))
end
end
-- AzMeth
section
section
variable {x : X} {α β : Type} {σ : AS} {env : Env}

theorem type_list {C : Cx} {fs : List (Addr × Loc)} {L : Addr} {s : Shared} (R : Rel C fs L σ s) {l : Addr} {vs : List AV} (h : σ.hp l = some (.list vs)) : s.TypeIs (.ref l) "list" := by
  obtain ⟨xs, n, ho, _⟩ := list_at R h; exact ⟨_, ho, rfl⟩
theorem type_idict {C : Cx} {fs : List (Addr × Loc)} {L : Addr} {s : Shared} (R : Rel C fs L σ s) {l : Addr} {vs : List (Int × AV)} {ep : Nat} (h : σ.hp l = some (.idict vs ep)) : s.TypeIs (.ref l) "dict" := by
  obtain ⟨kvs', hm, _⟩ := idict_at R h; exact hm.dictOf.mapOf.typeIs
theorem type_tup {C : Cx} {fs : List (Addr × Loc)} {L : Addr} {s : Shared} (R : Rel C fs L σ s) {l : Addr} {vs : List AV} (h : σ.hp l = some (.tup vs)) : s.TypeIs (.ref l) "tuple" := by
  obtain ⟨o, ho, xs, n, rfl, hx⟩ := R.get h; exact ⟨_, ho, rfl⟩
theorem type_set {C : Cx} {fs : List (Addr × Loc)} {L : Addr} {s : Shared} (R : Rel C fs L σ s) {l : Addr} {vs : List Int} {ep : Nat} (h : σ.hp l = some (.set vs ep)) : s.TypeIs (.ref l) "set" := by
  obtain ⟨o, ho, es, t, rfl, hx⟩ := R.get h; exact ⟨_, ho, rfl⟩

theorem n_sub {value slice : Expr} {pos : Pos} {Q : AV → AS → Prop} (h : RunV x (eval value env) (fun a σ₁ => ∀ o, er o = a → RunV x (eval slice env) (fun b σ₂ => ∀ i, er i = b → RunV x (subscriptTail value slice o i) Q σ₂) σ₁) σ) :
    RunV x (eval (.Subscript value slice pos) env) Q σ := by
  show Run x (eval (.Subscript value slice pos) env) _ σ
  rw [eval_Subscript]
  exact runV_bind (runV_mono h fun a σ₁ h₁ o ho => runV_bind (runV_hold (runV_mono (h₁ o ho) fun b σ₂ h₂ i hi => run_bind (run_standAt (h₂ i hi)))))

theorem sub_list {value slice : Expr} {l : Addr} {vs : List AV} {i : Value} {Q : AV → AS → Prop} {ops : List Value} (hl : σ.hp l = some (.list vs)) (h : RunV x (getItem (.ref l) i) Q σ)
    (hs : subscripted slice false (.ref l) i = operate ops (getItem (.ref l) i)) : RunV x (subscriptTail value slice (.ref l) i) Q σ :=
  fun s R => PyProof.Rows.tail_any (type_list R hl) F.slot_list_getitem.lookup (h s R) hs
theorem sub_tup {value slice : Expr} {l : Addr} {vs : List AV} {i : Value} {Q : AV → AS → Prop} {ops : List Value} (hl : σ.hp l = some (.tup vs)) (h : RunV x (getItem (.ref l) i) Q σ)
    (hs : subscripted slice false (.ref l) i = operate ops (getItem (.ref l) i)) : RunV x (subscriptTail value slice (.ref l) i) Q σ :=
  fun s R => PyProof.Rows.tail_any (type_tup R hl) F.slot_tuple_getitem.lookup (h s R) hs
theorem sub_idict {value slice : Expr} {l : Addr} {kvs : List (Int × AV)} {ep : Nat} {k : Int} {t : Tok} {v : AV} {Q : AV → AS → Prop} {ops : List Value} (hl : σ.hp l = some (.idict kvs ep)) (hv : aget kvs k = some v) (h : Q v σ)
    (hs : subscripted slice false (.ref l) (.int k t) = operate ops (getItem (.ref l) (.int k t)) := by rfl) : RunV x (subscriptTail value slice (.ref l) (.int k t)) Q σ :=
  fun s R => PyProof.Rows.tail_any (type_idict R hl) F.slot_dict_getitem.lookup (item_idict hl hv h s R) hs

/-- a built-in method of a built-in type -/
theorem meth_of {a : Addr} {T : String} {name : Str} {id : String} {pl : Sem Bool} {Q : Value × List Value → AS → Prop} (pa : PlainAttrs T) (slot : Slot T name id) (hty : typeOf (.builtin id) = pure (.type "method_descriptor"))
    (hT : ∀ s, Rel x.C x.fs x.L σ s → ∃ o, s.heap.get? a = some o ∧ o.cls = .type T ∧ o.dict = none) (h : Q (.builtin id, [.ref a]) σ) : Run x (getMethod (.ref a) name pl) Q σ := fun s R => by
  obtain ⟨o, h1, h2, h3⟩ := hT s R
  exact getMethod_builtin ⟨o, h1, h2⟩ pa slot hty (fun b e => by cases e; exact ⟨o, h1, h3⟩) ⟨σ, R, h⟩
theorem bare_list {l : Addr} {vs : List AV} (h : σ.hp l = some (.list vs)) : ∀ s, Rel x.C x.fs x.L σ s → ∃ o, s.heap.get? l = some o ∧ o.cls = .type "list" ∧ o.dict = none := fun s R => by
  obtain ⟨xs, n, ho, _⟩ := list_at R h; exact ⟨_, ho, rfl, rfl⟩
theorem bare_set {l : Addr} {vs : List Int} {ep : Nat} (h : σ.hp l = some (.set vs ep)) : ∀ s, Rel x.C x.fs x.L σ s → ∃ o, s.heap.get? l = some o ∧ o.cls = .type "set" ∧ o.dict = none := fun s R => by
  obtain ⟨o, ho, es, t, rfl, hx⟩ := R.get h; exact ⟨_, ho, rfl, rfl⟩
theorem bare_idict {l : Addr} {vs : List (Int × AV)} {ep : Nat} (h : σ.hp l = some (.idict vs ep)) : ∀ s, Rel x.C x.fs x.L σ s → ∃ o, s.heap.get? l = some o ∧ o.cls = .type "dict" ∧ o.dict = none := fun s R => by
  obtain ⟨o, ho, es, kvs', h1, _⟩ := R.get h; exact ⟨o, ho, h1.1, h1.2.1⟩
theorem meth_append {l : Addr} {vs : List AV} {pl : Sem Bool} {Q : Value × List Value → AS → Prop} (hl : σ.hp l = some (.list vs)) (h : Q (.builtin "list.append", [.ref l]) σ) : Run x (getMethod (.ref l) "append" pl) Q σ :=
  fun s R => by
    obtain ⟨xs, n, ho, _⟩ := list_at R hl
    exact getMethod_list_append ho rfl rfl ⟨σ, R, h⟩

/-- a method's call with one argument -/
theorem n_meth1 {o e : Expr} {name : Str} {apos pos : Pos} {Q : AV → AS → Prop} {pl : Sem Bool}
    (h : RunV x (eval o env) (fun a σ₁ => ∀ ov, er ov = a → Run x (getMethod ov name pl) (fun fx σ₂ => KeepOK fx.1 ∧ RunV x (eval e env) (fun b σ₃ => ∀ v, er v = b → RunV x (call fx.1 (fx.2 ++ [v])) Q σ₃) σ₂) σ₁) σ)
    (he : eval (.Call (.Attribute o name apos) [e] [] pos) env = (do
      let ov ← eval o env
      standAt apos.atName
      let (f, first) ← holding [ov] (getMethod ov name pl)
      callWith pos f first (backTo pos (starEach [e] env)) []) := by rfl) (he1 : starEach [e] env = (false, eval e env) :: starEach [] env := by rfl) :
    RunV x (eval (.Call (.Attribute o name apos) [e] [] pos) env) Q σ := by
  refine n_meth (pl := pl) (runV_mono h fun a σ₁ h₁ ov hov => run_mono (h₁ ov hov) fun fx σ₂ ⟨hk, h₂⟩ => ?_) he
  exact run_callWith1 hk (a_cons (runV_mono h₂ fun b σ₃ h₃ v hv => a_nil (h₃ v hv)) he1) he1
end
end
-- AzTac
/-- other names for the places -/
def AS.at (σ : AS) (l : Loc) : AS := { σ with loc := l }
section
variable {σ σ' : AS} {a b : Addr} {ao ao' : AO}
theorem bind_hp {n : Str} {v : AV} (h : σ.hp a = some ao) : (σ.bind n v).hp a = some ao := h
theorem loc_same {n : Str} {v : AV} : (σ.bind n v).loc n = some v := if_pos rfl
theorem loc_ne {n m : Str} {v u : AV} (h : m ≠ n) (e : σ.loc m = some u) : (σ.bind n v).loc m = some u := (if_neg h).trans e
theorem put_loc {n : Str} {v : AV} (e : σ.loc n = some v) : (σ.put a ao).loc n = some v := e
theorem er_i {i : Int} {t : Tok} : er (.int i t) = .int i := rfl
theorem er_r {a : Addr} : er (.ref a) = .ref a := rfl
theorem er_b {b : Bool} : er (.bool b) = .bool b := rfl
theorem er_s {s : Str} {t : Tok} : er (.str s t) = .str s := rfl
theorem er_n : er .none = .none := rfl
theorem store_local' {x : X} {env : Env} {n : Str} {v : Value} {w : AV} {Q : Unit → AS → Prop} (e : er v = w) (h : Q () (σ.bind n w)) (hL : env.locals = x.L := by rfl) (hk : env.scope.kind = .function := by rfl)
    (hl : env.kindOf n = some .local := by rfl) : Run x (storeName env n v) Q σ := store_local (by rw [e]; exact h) hL hk hl
theorem store_cell' {x : X} {env : Env} {n : Str} {c : Addr} {v : Value} {w : AV} {v₀ : Option AV} {Q : Unit → AS → Prop} (e : er v = w) (hc : env.cells.lookup n = some c) (hv : σ.hp c = some (.cell v₀)) (h : Q () (σ.put c (.cell (some w)))) (hk : env.scope.kind = .function := by rfl)
    (hl : env.kindOf n = some .cell := by rfl) : Run x (storeName env n v) Q σ := store_cell hc hv (by rw [e]; exact h) hk hl
theorem drop_loc {n : Str} {v : AV} (e : σ.loc n = some v) : (σ.drop a).loc n = some v := e
theorem fresh_ne (h : Fresh σ a) (e : σ.hp b = some ao) : b ≠ a := h b ao e
theorem ne_kind (e1 : σ.hp a = some ao) (e2 : σ.hp b = some ao') (h : ao ≠ ao') : a ≠ b := fun q => by
  subst q; rw [e1] at e2; exact h (Option.some.inj e2)

/-- what was there is there -/
structure Ext (σ σ' : AS) : Prop where
  hp : ∀ a ao, σ.hp a = some ao → σ'.hp a = some ao
  gs : σ'.gs = σ.gs
theorem Ext.refl : Ext σ σ := ⟨fun _ _ h => h, rfl⟩
theorem Ext.trans {σ'' : AS} (h : Ext σ σ') (h' : Ext σ' σ'') : Ext σ σ'' := ⟨fun a ao e => h'.hp a ao (h.hp a ao e), h'.gs.trans h.gs⟩
theorem Ext.put (h : Ext σ σ') (hf : Fresh σ a) : Ext σ (σ'.put a ao) := ⟨fun b ao' e => put_ne (hf b ao' e) (h.hp b ao' e), h.gs⟩
theorem Ext.drop (h : Ext σ σ') (hf : Fresh σ a) : Ext σ (σ'.drop a) := ⟨fun b ao' e => drop_ne (hf b ao' e) (h.hp b ao' e), h.gs⟩
theorem Ext.bind {n : Str} {v : AV} (h : Ext σ σ') : Ext σ (σ'.bind n v) := ⟨h.hp, h.gs⟩
theorem Ext.loc {l : Loc} (h : Ext σ σ') : Ext σ (σ'.at l) := ⟨h.hp, h.gs⟩
theorem loc_hp {l : Loc} (h : σ.hp a = some ao) : (σ.at l).hp a = some ao := h
theorem at_loc {l : Loc} {n : Str} {v : AV} (h : l n = some v) : (σ.at l).loc n = some v := h
theorem fits {n : Nat} (h : n < 1000) : n ≤ sizeLine := Nat.le_trans (Nat.le_of_lt h) (by decide)
theorem Ext.fresh (h : Ext σ σ') (hf : Fresh σ' a) : Fresh σ a := fun b ao e => hf b ao (h.hp b ao e)
theorem Fresh.bind {n : Str} {v : AV} (hf : Fresh (σ.bind n v) a) : Fresh σ a := hf
theorem Fresh.put (hf : Fresh (σ.put b ao) a) (hb : Fresh σ b) : Fresh σ a := fun c ao' e => hf c ao' (put_new hb e)
theorem Fresh.loc {l : Loc} (hf : Fresh σ a) : Fresh { σ with loc := l } a := hf
end

structure Deep (A : Around) (k : Nat) : Prop where
  d : A.depth + k < 1000
  h : A.handled = none
theorem Deep.in1 {A : Around} {k : Nat} (h : Deep A k) : Deep A.in1 k := ⟨h.d, h.h⟩
theorem Deep.deeper {A : Around} {k : Nat} {env : Env} (h : Deep A (k + 1)) : Deep (A.deeper env) k := ⟨by have := h.d; simp only [Around.deeper]; omega, h.h⟩
theorem Deep.lt {A : Around} {k : Nat} (h : Deep A k) : A.depth < recursionLimit := Nat.lt_of_le_of_lt (Nat.le_add_right _ _) h.d
theorem Deep.less {A : Around} {k j : Nat} (h : Deep A k) (hj : j ≤ k) : Deep A j := ⟨by have := h.d; omega, h.h⟩
abbrev avs (q : List Int) : List AV := q.map .int

theorem boot_list : bootBuiltins "list" = some (.type "list") := by kernel_rfl!
theorem boot_set : bootBuiltins "set" = some (.type "set") := by kernel_rfl!
theorem boot_range : bootBuiltins "range" = some (.type "range") := by kernel_rfl!
theorem boot_enumerate : bootBuiltins "enumerate" = some (.type "enumerate") := by kernel_rfl!
theorem boot_len : bootBuiltins "len" = some (.builtin "len") := by kernel_rfl!
theorem boot_sorted : bootBuiltins "sorted" = some (.builtin "sorted") := by kernel_rfl!
theorem boot_iter : bootBuiltins "iter" = some (.builtin "iter") := by kernel_rfl!
local macro_rules | `(tactic| walk_at "boot") => `(tactic| with_reducible first
  | exact boot_list | exact boot_set | exact boot_range | exact boot_enumerate | exact boot_len | exact boot_sorted | exact boot_iter)
local macro_rules | `(tactic| walk_at "hp") => `(tactic| first
  | with_reducible assumption
  | with_reducible apply put_same
  | focus ((with_reducible apply bind_hp); walk_at "hp")
  | focus ((with_reducible apply loc_hp); walk_at "hp")
  | focus ((with_reducible apply put_new); (with_reducible assumption); walk_at "hp")
  | focus ((with_reducible apply put_ne); (walk_at "ne"); walk_at "hp")
  | focus ((with_reducible apply drop_ne); (walk_at "ne"); walk_at "hp")
  | focus ((with_reducible apply Ext.hp); (with_reducible assumption); walk_at "hp")
  | assumption)
local macro_rules | `(tactic| walk_at "er") => `(tactic| first
  | with_reducible apply er_i | with_reducible apply er_r | with_reducible apply er_b | with_reducible apply er_s | with_reducible apply er_n | with_reducible assumption | rfl)
local macro_rules | `(tactic| walk_at "ext") => `(tactic| first
  | with_reducible assumption
  | with_reducible apply Ext.refl
  | focus ((with_reducible apply Ext.put); rotate_left; (walk_at "fresh"); walk_at "ext")
  | focus ((with_reducible apply Ext.drop); rotate_left; (walk_at "fresh"); walk_at "ext")
  | focus ((with_reducible apply Ext.bind); walk_at "ext")
  | focus ((with_reducible apply Ext.loc); walk_at "ext")
  | focus ((with_reducible refine Ext.trans ?_ (by assumption)); walk_at "ext"))
local macro_rules | `(tactic| walk_at "fresh") => `(tactic| first
  | with_reducible assumption
  | focus ((with_reducible refine Ext.fresh (σ' := ?_) ?_ ?_); rotate_right; (with_reducible assumption); walk_at "ext")
  | focus ((with_reducible refine Ext.fresh (σ' := ?_) ?_ ?_); rotate_right; ((with_reducible refine Fresh.put (b := ?_) (ao := ?_) ?_ ?_); rotate_left; rotate_left; (with_reducible assumption); with_reducible assumption); walk_at "ext"))
local macro_rules | `(tactic| walk_at "ne") => `(tactic| first
  | with_reducible assumption
  | focus ((with_reducible apply Ne.symm); with_reducible assumption)
  | focus ((with_reducible apply fresh_ne); (with_reducible assumption); walk_at "hp")
  | focus ((with_reducible apply Ne.symm); (with_reducible apply fresh_ne); (with_reducible assumption); walk_at "hp")
  | focus ((with_reducible apply ne_kind); (with_reducible assumption); (with_reducible assumption); intro h; cases h; done)
  | focus ((with_reducible apply ne_kind); (with_reducible assumption); (with_reducible assumption); intro h; injection h with h1; exact absurd h1 (by decide)))
local macro_rules | `(tactic| walk_at "loc") => `(tactic| first
  | with_reducible assumption
  | with_reducible apply loc_same
  | focus ((with_reducible apply loc_ne); (decide); walk_at "loc")
  | focus ((with_reducible apply put_loc); walk_at "loc")
  | focus ((with_reducible apply drop_loc); walk_at "loc")
  | focus ((with_reducible apply at_loc); walk_at "loc"))
local macro_rules | `(tactic| walk_at "ev") => `(tactic| (intro v hv; first
  | (cases er_ref hv)
  | (obtain ⟨t, h⟩ := er_int hv; subst h)
  | (cases er_none hv)
  | (cases er_bool hv)
  | (obtain ⟨t, h⟩ := er_str hv; subst h)
  | (cases er_type hv)
  | (cases er_builtin hv)))
local macro_rules | `(tactic| walk_at "keep") => `(tactic| first
  | exact keep_builtin _ | exact keep_type _ | exact keep_K fun w => by k_is)
/-- one step by the node's own rule -/
local macro_rules | `(tactic| walk_at "st") => `(tactic| first
  | ((with_reducible show Run _ (execs (_ :: _) _) _ _); refine s_cons ?_)
  | ((with_reducible show Run _ (execs [] _) _ _); refine s_nil ?_)
  | ((with_reducible show Run _ (exec (.If _ _ _ _) _) _ _); refine s_if ?_)
  | ((with_reducible show Run _ (exec (.Return (some _) _) _) _ _); refine s_ret ?_)
  | ((with_reducible show Run _ (exec (.Assign [.Name _ _] _ _) _) _ _); refine s_assign ?_)
  | ((with_reducible show Run _ (exec (.Assign [.Subscript _ _ _] _ _) _) _ _); refine s_setitem ?_)
  | ((with_reducible show Run _ (exec (.Expr _ _) _) _ _); refine s_expr ?_)
  | ((with_reducible show RunV _ (eval (.Constant (.int _) _ _) _) _ _); refine n_const_int ?_; walk_at "ev")
  | ((with_reducible show RunV _ (eval (.Constant .none _ _) _) _ _); refine n_const_none ?_; walk_at "ev")
  | ((with_reducible show RunV _ (eval (.Constant (.bool _) _ _) _) _ _); refine n_const_bool ?_; walk_at "ev")
  | ((with_reducible show RunV _ (eval (.Constant (.str _) _ _) _) _ _); refine n_const_str ?_; walk_at "ev")
  | ((with_reducible show RunV _ (eval (.Name _ _) _) _ _); first
      | (refine n_local (by walk_at "loc") ?_; walk_at "ev")
      | (refine n_cell rfl (by walk_at "hp") ?_; walk_at "ev")
      | (refine n_free rfl (by walk_at "hp") ?_; walk_at "ev")
      | (refine n_built (by k_is) (by walk_at "boot") ?_; walk_at "ev")
      | (refine n_glob (by k_is) ?_; walk_at "ev"))
  | ((with_reducible show RunV _ (eval (.Subscript _ _ _) _) _ _); refine n_sub ?_)
  | ((with_reducible show RunV _ (eval (.Compare _ [_] [_] _) _) _ _); refine n_cmp1 ?_)
  | ((with_reducible show RunV _ (eval (.BinOp _ _ _ _) _) _ _); refine n_binop ?_)
  | ((with_reducible show Run _ (isTrue (.UnaryOp .Not _ _) _ _) _ _); refine t_not ?_)
  | ((with_reducible show Run _ (isTrue (.BoolOp _ _ _) _ _) _ _); refine t_bool ?_)
  | ((with_reducible show Run _ (isTrue (.Compare _ [_] [_] _) _ _) _ _); refine t_cmp1 ?_)
  | ((with_reducible show Run _ (isTrue (.Name _ _) _ _) _ _); refine t_name ?_)
  | ((with_reducible show Run _ (isTrue (.Call _ _ _ _) _ _) _ _); refine t_call ?_)
  | ((with_reducible show Run _ (allTrue .And (_ :: _) _) _ _); refine t_and ?_)
  | ((with_reducible show Run _ (allTrue .Or (_ :: _) _) _ _); refine t_or ?_)
  | ((with_reducible show Run _ (allTrue .And [] _) _ _); refine t_and_nil ?_)
  | ((with_reducible show Run _ (allTrue .Or [] _) _ _); refine t_or_nil ?_)
  | ((with_reducible show Run _ (storeName _ _ _) _ _); first | refine store_local' (by walk_at "er") ?_ | refine store_cell' (by walk_at "er") rfl (by walk_at "hp") ?_)
  | ((with_reducible show Run _ (assign (.Name _ _) _ _) _ _); refine asg_name ?_)
  | ((with_reducible show Run _ (letOwnedTupleGo (.Name _ _) _ _) _ _); refine lot_name ?_))

theorem cellsFrom_some : ∀ {names : List (Str × NameKind)} {k : Str} {n : Nat} {acc : List (Str × Addr)}, names.lookup k = some .cell → ((cellsFrom n names acc).lookup k).isSome = true ∨ (acc.lookup k).isSome = true
  | [], _, _, _, h => by cases h
  | (m, kd) :: r, k, n, acc, h => by
    unfold cellsFrom
    rw [List.lookup_cons] at h
    have keep : ∀ (names : List (Str × NameKind)) (n : Nat) (acc : List (Str × Addr)), (acc.lookup k).isSome = true → ((cellsFrom n names acc).lookup k).isSome = true := by
      intro names
      induction names with
      | nil => intro n acc h; exact h
      | cons p r ih =>
        intro n acc h
        obtain ⟨m, kd⟩ := p
        unfold cellsFrom
        split
        · refine ih _ _ ?_
          rw [List.lookup_cons]
          split
          · rfl
          · exact h
        · exact ih _ _ h
    by_cases hk : (k == m) = true
    · rw [hk] at h
      have : kd = .cell := by simpa using h
      subst this
      refine .inl ?_
      rw [if_pos (by decide)]
      refine keep _ _ _ ?_
      rw [List.lookup_cons, hk]; rfl
    · have hk' : (k == m) = false := by simpa using hk
      rw [hk'] at h
      split
      · rcases cellsFrom_some (n := n + 1) (acc := (m, n) :: acc) h with e | e
        · exact .inl e
        · rw [List.lookup_cons, hk'] at e; exact .inr e
      · exact cellsFrom_some h

theorem cellsFrom_ge : ∀ {names : List (Str × NameKind)} {n : Nat} {acc : List (Str × Addr)} {k : Str} {c : Addr}, (k, c) ∈ cellsFrom n names acc → n ≤ c ∨ (k, c) ∈ acc
  | [], _, _, _, _, h => .inr h
  | (m, kd) :: r, n, acc, k, c, h => by
    unfold cellsFrom at h
    split at h
    · rcases cellsFrom_ge h with e | e
      · exact .inl (by omega)
      · rcases List.mem_cons.mp e with e | e
        · cases e; exact .inl (Nat.le_refl _)
        · exact .inr e
    · exact cellsFrom_ge h
theorem layHp_old {cm : Str → Option Value} {hp : Addr → Option AO} {b : Addr} {ao : AO} : ∀ {cs : List (Str × Addr)}, (∀ n c, (n, c) ∈ cs → b ≠ c) → hp b = some ao → layHp cs cm hp b = some ao
  | [], _, h => h
  | (n, c) :: r, hn, h => by
    unfold layHp setHp
    rw [if_neg (hn n c (.head _))]
    exact layHp_old (fun n c hm => hn n c (.tail _ hm)) h
theorem ext_enter {fd : FuncData} {f : Addr} {binds : List (Str × Value)} {L' : Addr} {σ : AS} (hf : ∀ c, L' ≤ c → Fresh σ c) : Ext σ (enterC fd f binds L' σ) :=
  ⟨fun b ao e => layHp_old (fun n c hm => by
    rcases cellsFrom_ge hm with h | h
    · exact hf c (Nat.le_of_succ_le h) b ao e
    · cases h) e, rfl⟩
theorem ext_enterComp {scope : Scope} {L' : Addr} {σ : AS} (hf : ∀ c, L' ≤ c → Fresh σ c) : Ext σ (enterComp scope L' σ) :=
  ⟨fun b ao e => layHp_old (fun n c hm => by
    rcases cellsFrom_ge hm with h | h
    · exact hf c (Nat.le_of_succ_le h) b ao e
    · cases h) e, rfl⟩

/-- an iterator is its own iter -/
def IterSelf (σ : AS) (I : Addr) : Prop := ∀ (x' : X) (σ₁ : AS) (Q : AV → AS → Prop), Ext σ σ₁ → Q (.ref I) σ₁ → RunV x' (pyIter (.ref I)) Q σ₁
theorem self_list {σ : AS} {I l : Addr} {i : Nat} (h : σ.hp I = some (LIter l i)) : IterSelf σ I := fun _ _ _ e q => iter_listiter (e.hp _ _ h) q
theorem self_idict {σ : AS} {I d : Addr} {i n ep : Nat} (h : σ.hp I = some (KIter d i n ep)) : IterSelf σ I := fun _ _ _ e q => iter_keyiter (e.hp _ _ h) q
theorem comp_go {x : X} {e : Expr} {scope : Scope} {cl : List (Str × Addr)} {env : Env} {I : Addr} {acc : Value} {P : AS → Prop} {σ : AS} {target iter : Expr} {ifs : List Expr} (hI : IterSelf σ I)
    (LF : Addr → AS → Prop) (hLF : ∀ L', (∀ c, L' ≤ c → Fresh σ c) → LF L' (enterComp scope L' σ))
    (h : ∀ L' σ₁, (∀ c, L' ≤ c → Fresh σ c) → Ext σ σ₁ → LF L' σ₁ → ∃ (J : Nat → AS → Prop) (n : Nat), J n σ₁ ∧ ∀ n σ₂, J n σ₂ →
      Run ⟨x.C, (x.L, σ.loc) :: x.fs, L', x.A⟩ (compTurn e 0 (.ref I) acc (compE scope cl L' env)) (fun fin σ' => (fin = .done .next ∧ P (σ'.at σ.loc)) ∨ (fin = .again (.compLoop e 0 (.ref I) acc (compE scope cl L' env)) ∧ ∃ m, m < n ∧ J m σ')) σ₂)
    (hg : (clausesOf e)[0]? = some ⟨target, iter, ifs, 0⟩ := by rfl) 
    (hf : ∀ L', (Code.compStart e 0 (.ref I) acc (compE scope cl L' env)).isFrame = false ∧ (Code.compLoop e 0 (.ref I) acc (compE scope cl L' env)).isFrame = false := by intro _; exact ⟨rfl, rfl⟩)
    (hw : ∀ L', (Code.compStart e 0 (.ref I) acc (compE scope cl L' env)).weight = 0 ∧ (Code.compLoop e 0 (.ref I) acc (compE scope cl L' env)).weight = 0 := by intro _; exact ⟨rfl, rfl⟩)
    (hu : ∀ L', (Code.compStart e 0 (.ref I) acc (compE scope cl L' env)).cUnits = 0 ∧ (Code.compLoop e 0 (.ref I) acc (compE scope cl L' env)).cUnits = 0 := by intro _; exact ⟨rfl, rfl⟩)
    (hq : ∀ L' it', (Code.compLoop e 0 it' acc (compE scope cl L' env)).quiet = true := by intro _ _; rfl) : CompRun x e scope cl env (.ref I) acc P σ := by
  intro L' hL
  obtain ⟨J, n, h0, turn⟩ := h L' _ hL (ext_enterComp hL) (hLF L' hL)
  refine c_start hg (fun Q q => hI _ _ _ (ext_enterComp hL) q) (fun it hit => ?_) (hf _).1 (hw _).1 (hu _).1 (hq L')
  cases er_ref hit
  exact c_loop J turn n h0 (hf _).2 (hw _).2 (hu _).2 (hq _ _)
theorem comp_goN {x : X} {e : Expr} {scope : Scope} {cl : List (Str × Addr)} {env : Env} {I : Addr} {acc : Value} {P : AS → Prop} {σ : AS} {target iter : Expr} {ifs : List Expr} (hI : IterSelf σ I)
    (h : ∀ L' σ₁, (∀ c, L' ≤ c → Fresh σ c) → Ext σ σ₁ → ∃ (J : Nat → AS → Prop) (n : Nat), J n σ₁ ∧ ∀ n σ₂, J n σ₂ →
      Run ⟨x.C, (x.L, σ.loc) :: x.fs, L', x.A⟩ (compTurn e 0 (.ref I) acc (compE scope cl L' env)) (fun fin σ' => (fin = .done .next ∧ P (σ'.at σ.loc)) ∨ (fin = .again (.compLoop e 0 (.ref I) acc (compE scope cl L' env)) ∧ ∃ m, m < n ∧ J m σ')) σ₂)
    (hg : (clausesOf e)[0]? = some ⟨target, iter, ifs, 0⟩ := by rfl) 
    (hf : ∀ L', (Code.compStart e 0 (.ref I) acc (compE scope cl L' env)).isFrame = false ∧ (Code.compLoop e 0 (.ref I) acc (compE scope cl L' env)).isFrame = false := by intro _; exact ⟨rfl, rfl⟩)
    (hw : ∀ L', (Code.compStart e 0 (.ref I) acc (compE scope cl L' env)).weight = 0 ∧ (Code.compLoop e 0 (.ref I) acc (compE scope cl L' env)).weight = 0 := by intro _; exact ⟨rfl, rfl⟩)
    (hu : ∀ L', (Code.compStart e 0 (.ref I) acc (compE scope cl L' env)).cUnits = 0 ∧ (Code.compLoop e 0 (.ref I) acc (compE scope cl L' env)).cUnits = 0 := by intro _; exact ⟨rfl, rfl⟩)
    (hq : ∀ L' it', (Code.compLoop e 0 it' acc (compE scope cl L' env)).quiet = true := by intro _ _; rfl) : CompRun x e scope cl env (.ref I) acc P σ :=
  comp_go hI (fun _ _ => True) (fun _ _ => trivial) (fun L' σ₁ h1 h2 _ => h L' σ₁ h1 h2) hg hf hw hu hq

/-- a call of a def whose arguments are plain -/
theorem run_callpl {C : Cx} {fs : List (Addr × Loc)} {L : Addr} {A : Around} {σ : AS} {f : Addr} {oc : Value} {od : Option Addr} {osl : Array (Option Value)} {fd : FuncData} {body : List Stmt} {vals : List Value} {Q : AV → AS → Prop} {k : Nat} (names : List Str) (binds : List (Str × Value))
    (hA : Deep A (k + 1)) (ho : (Mine.hd.heap_39 C.w.params).lookup f = some ⟨oc, od, .func fd, osl⟩) (hcode : codeIn (Mine.hd.heap_39 C.w.params) fd.code fd.qualname = true)
    (hb : bindArgs fd ⟨vals, []⟩ = pure binds) (hn : ∀ b ∈ names, fd.scope.names.lookup b = some .local ∨ fd.scope.names.lookup b = some .cell)
    (LF : Addr → AS → Prop) (hLF : ∀ L', (∀ c, L' ≤ c → Fresh σ c) → LF L' (enterC fd f binds L' σ))
    (h : ∀ L' A' σ₁, (∀ c, L' ≤ c → Fresh σ c) → Deep A' k → Ext σ σ₁ → LF L' σ₁ →
        Run ⟨C, (L, σ.loc) :: fs, L', A'⟩ (execs body (callEnvC fd L' f)) (fun fl σ₂ => Q (er (retOf fl)) (σ₂.at σ.loc)) σ₁)
    (hnm : binds.map (·.1) = names := by rfl) (hbody : fd.body = .stmts body := by rfl) (hclo : fd.closure = [] := by rfl)
    (hnd : ∀ n, ((cellsFrom n fd.scope.names []).map (·.1)).Nodup := by intro n; simp [cellsFrom]) (hco : fd.scope.isCoroutine = false := by rfl) (hgen : fd.scope.isGenerator = false := by rfl) (hk : fd.scope.kind = .function := by rfl) :
    RunV ⟨C, fs, L, A⟩ (call (.ref f) vals []) Q σ := by
  refine run_callfn hA.lt ho hcode ?_ hbody hclo hnd hco hgen hk
  rw [hb]
  refine run_pure ⟨fun n b hm => ?_, fun L' hf => h L' _ _ hf hA.deeper (ext_enter hf) (hLF L' hf)⟩
  rcases hn b.1 (hnm ▸ List.mem_map_of_mem hm) with e | e
  · exact .inl e
  · refine .inr ⟨e, ?_⟩
    rcases cellsFrom_some (n := n) (acc := []) e with e' | e'
    · exact e'
    · cases e'
/-- a call of a def, by its code -/
theorem runC_callkw {C : Cx} {fs : List (Addr × Loc)} {L : Addr} {A : Around} {σ : AS} {f : Addr} {oc : Value} {od : Option Addr} {osl : Array (Option Value)} {fd : FuncData} {body : List Stmt} {vals : List Value} {kw : List (Str × Value)} {Q : AV → AS → Prop} {k : Nat} (names : List Str)
    (hA : Deep A (k + 1)) (ho : (Mine.hd.heap_39 C.w.params).lookup f = some ⟨oc, od, .func fd, osl⟩) (hcode : codeIn (Mine.hd.heap_39 C.w.params) fd.code fd.qualname = true)
    (hn : ∀ b ∈ names, fd.scope.names.lookup b = some .local ∨ fd.scope.names.lookup b = some .cell)
    (h : Run ⟨C, fs, L, A.in1⟩ (bindArgs fd ⟨vals, kw⟩) (fun binds σ₁ => binds.map (·.1) = names ∧ ∃ LF : Addr → AS → Prop, (∀ L', (∀ c, L' ≤ c → Fresh σ₁ c) → LF L' (enterC fd f binds L' σ₁)) ∧
      ∀ L' A' σ₂, (∀ c, L' ≤ c → Fresh σ₁ c) → Deep A' k → Ext σ₁ σ₂ → LF L' σ₂ →
        Run ⟨C, (L, σ₁.loc) :: fs, L', A'⟩ (execs body (callEnvC fd L' f)) (fun fl σ₃ => Q (er (retOf fl)) (σ₃.at σ₁.loc)) σ₂) σ)
    (hbody : fd.body = .stmts body := by rfl) (hclo : fd.closure = [] := by rfl)
    (hnd : ∀ n, ((cellsFrom n fd.scope.names []).map (·.1)).Nodup := by intro n; simp [cellsFrom]) (hco : fd.scope.isCoroutine = false := by rfl) (hgen : fd.scope.isGenerator = false := by rfl) (hk : fd.scope.kind = .function := by rfl) :
    RunC ⟨C, fs, L, A⟩ (.call (.ref f) ⟨vals, kw⟩) (fun r σ' => ∃ v, r = .ok (.ret v) ∧ Q (er v) σ') σ := by
  refine runC_callfn hA.lt ho hcode (run_mono h fun binds σ₁ ⟨hnm, LF, hLF, h₁⟩ => ⟨fun n b hm => ?_, fun L' hf => h₁ L' _ _ hf hA.deeper (ext_enter hf) (hLF L' hf)⟩) hbody hclo hnd hco hgen hk
  rcases hn b.1 (hnm ▸ List.mem_map_of_mem hm) with e | e
  · exact .inl e
  · refine .inr ⟨e, ?_⟩
    rcases cellsFrom_some (n := n) (acc := []) e with e' | e'
    · exact e'
    · cases e'
theorem s_then {x : X} {σ : AS} {env : Env} {st : Stmt} {rest : List Stmt} {Q : Flow → AS → Prop} (M : AS → Prop) (h : Run x (exec st env) (fun f σ' => f = .next ∧ M σ') σ) (h2 : ∀ σ', M σ' → Run x (execs rest env) Q σ') : Run x (execs (st :: rest) env) Q σ :=
  s_cons (run_mono h fun f σ' ⟨e, m⟩ => by subst e; exact h2 σ' m)
theorem nodup_sub {q ns : List Int} : q.Nodup → (∀ n ∈ q, n ∈ ns) → q.length ≤ ns.length := by
  induction q generalizing ns with
  | nil => intro _ _; exact Nat.zero_le _
  | cons a r ih =>
    intro hn hs
    rw [List.nodup_cons] at hn
    have h1 := ih (ns := ns.erase a) hn.2 fun n hm => (List.mem_erase_of_ne fun e => hn.1 (by rw [← e]; exact hm)).mpr (hs n (.tail _ hm))
    have h2 := List.length_erase_of_mem (hs a (.head _))
    have h3 : 0 < ns.length := List.length_pos_of_mem (hs a (.head _))
    rw [List.length_cons]; omega
/-- keys with one value -/
def keysOf (q : List Int) : List (Int × AV) := q.map fun k => (k, .bool true)
theorem aget_keysOf {q : List Int} {k : Int} : (aget (keysOf q) k).isSome = decide (k ∈ q) := by
  unfold aget keysOf
  induction q with
  | nil => rfl
  | cons a r ih =>
    rw [List.map_cons, List.find?_cons]
    by_cases h : a = k
    · simp [h]
    · rw [decide_eq_false h]
      simp only [ih]
      have : k ≠ a := fun e => h e.symm
      simp [this]
theorem aput_keysOf {q : List Int} {k : Int} (h : k ∉ q) : aput (keysOf q) k (.bool true) = keysOf (q ++ [k]) := by
  unfold aput
  have : ((keysOf q).any fun kv => decide (kv.1 = k)) = false := by
    rw [List.any_eq_false]
    intro p hp
    obtain ⟨n, hn, rfl⟩ := List.mem_map.mp hp
    have : n ≠ k := fun e => h (e ▸ hn)
    simpa using this
  rw [this, if_neg Bool.false_ne_true]
  unfold keysOf
  rw [List.map_append]; rfl
-- AzSet
section
/-! ## small sets of small ints -/
def subsOf : List Int → List (List Int)
  | [] => [[]]
  | a :: r => subsOf r ++ (subsOf r).map (a :: ·)
def upTo : List Int := [0, 1, 2, 3, 4, 5, 6]
theorem mem_subsOf : ∀ {L xs : List Int}, L.Pairwise (· < ·) → xs.Pairwise (· < ·) → (∀ i ∈ xs, i ∈ L) → xs ∈ subsOf L
  | [], xs, _, _, h => by
    cases xs with
    | nil => exact .head _
    | cons b r => exact absurd (h b (.head _)) (by simp)
  | a :: L, [], hL, _, _ => List.mem_append_left _ (mem_subsOf (List.pairwise_cons.mp hL).2 .nil (by simp))
  | a :: L, b :: r, hL, hx, h => by
    have hL' := List.pairwise_cons.mp hL
    have hx' := List.pairwise_cons.mp hx
    by_cases hb : b = a
    · subst hb
      refine List.mem_append_right _ (List.mem_map.mpr ⟨r, mem_subsOf hL'.2 hx'.2 (fun i hi => ?_), rfl⟩)
      rcases List.mem_cons.mp (h i (.tail _ hi)) with e | e
      · have := hx'.1 i hi; omega
      · exact e
    · refine List.mem_append_left _ (mem_subsOf hL'.2 hx (fun i hi => ?_))
      rcases List.mem_cons.mp (h i hi) with e | e
      · have hbL : b ∈ L := by
          rcases List.mem_cons.mp (h b (.head _)) with e | e
          · exact absurd e hb
          · exact e
        have h1 := hL'.1 b hbL
        rcases List.mem_cons.mp hi with e' | e'
        · exact absurd (e'.symm.trans e) hb
        · have := hx'.1 i e'; omega
      · exact e
theorem Small.mem {xs : List Int} (h : Small xs) : xs ∈ subsOf upTo :=
  mem_subsOf (by decide) h.1 fun i hi => by
    have := h.2 i hi
    have : i = 0 ∨ i = 1 ∨ i = 2 ∨ i = 3 ∨ i = 4 ∨ i = 5 ∨ i = 6 := by omega
    rcases this with h | h | h | h | h | h | h <;> subst h <;> decide
def tabOf (m : Nat) (xs : List Int) : SetTable := { mask := m, place := (xs.map Int.toNat).toArray, dummies := #[], finger := 0, led := false, moves := 0, plain := false }
def smallB (xs : List Int) : Bool := decide (xs.Pairwise (· < ·)) && xs.all fun i => decide (0 ≤ i ∧ i < 7)
theorem smallB_iff {xs : List Int} (h : smallB xs = true) : Small xs := by
  unfold smallB at h
  rw [Bool.and_eq_true, decide_eq_true_eq, List.all_eq_true] at h
  exact ⟨h.1, fun i hi => of_decide_eq_true (h.2 i hi)⟩
def freeB : Bool := (subsOf upTo).all fun xs => [7, 15, 31].all fun m => upTo.all fun i => xs.contains i ||
  ((tabOf m xs).freeSlot i == some (i.toNat, false) && smallB (xs.take (SetTable.below (xs.map Int.toNat).toArray i.toNat) ++ i :: xs.drop (SetTable.below (xs.map Int.toNat).toArray i.toNat)) && decide (SetTable.below (xs.map Int.toNat).toArray i.toNat ≤ xs.length))
theorem freeB_true : freeB = true := by decide +kernel
def laidB : Bool := (subsOf upTo).all fun xs => decide (xs.length ≤ 7) && [7, 15, 31].all fun m =>
  (SetTable.laid m 0 0 false false xs.toArray == some (tabOf m xs, Array.range xs.length))
theorem laidB_true : laidB = true := by decide +kernel
theorem Small.len {xs : List Int} (h : Small xs) : xs.length ≤ 7 := by
  have := (List.all_eq_true.mp laidB_true) xs h.mem
  exact of_decide_eq_true (Bool.and_eq_true _ _ ▸ this).1

theorem slot_congr {t t' : SetTable} (h2 : t.place = t'.place) (h3 : t.dummies = t'.dummies) (j : Nat) : t.slot j = t'.slot j := by
  unfold SetTable.slot; rw [h2, h3]
theorem go_congr {t t' : SetTable} (h1 : t.mask = t'.mask) (h2 : t.place = t'.place) (h3 : t.dummies = t'.dummies) (f : Nat → Int) (h : Int) : ∀ (n : Nat) (p : SetTable.Probe), SetTable.probe.go t f h n p = SetTable.probe.go t' f h n p
  | 0, _ => rfl
  | n + 1, p => by
    have ha : ∀ p, t.advance p = t'.advance p := fun p => by unfold SetTable.advance; rw [h1]
    unfold SetTable.probe.go
    rw [slot_congr h2 h3]
    cases t'.slot p.j with
    | empty => rfl
    | dummy => simp only [ha]; exact go_congr h1 h2 h3 f h n _
    | live i => simp only [ha]; split <;> first | rfl | exact go_congr h1 h2 h3 f h n _
theorem freeSlot_congr {t t' : SetTable} (h1 : t.mask = t'.mask) (h2 : t.place = t'.place) (h3 : t.dummies = t'.dummies) (i : Int) : t.freeSlot i = t'.freeSlot i := by
  unfold SetTable.freeSlot SetTable.probe SetTable.probeStart
  rw [h1, go_congr h1 h2 h3]
theorem laid_any {m f mv : Nat} {l p : Bool} {hs : Array Int} {t : SetTable} {order : Array Nat} (h : SetTable.laid m 0 0 false false hs = some (t, order)) :
    SetTable.laid m f mv l p hs = some ({ t with finger := f, moves := mv, led := l, plain := p }, order) := by
  unfold SetTable.laid at h ⊢
  cases e : SetTable.layClean m hs with
  | none => rw [e] at h; cases h
  | some owner =>
    rw [e] at h
    simp only [Option.bind_eq_bind, Option.bind_some, Option.pure_def, Option.some.injEq, Prod.mk.injEq] at h ⊢
    obtain ⟨h1, h2⟩ := h
    subst h1
    exact ⟨rfl, h2⟩
theorem insertAt_list {α : Type} (xs : Array α) (p : Nat) (y : α) (hp : p ≤ xs.size) : (SetTable.insertAt xs p y).toList = xs.toList.take p ++ y :: xs.toList.drop p := by
  unfold SetTable.insertAt
  simp [Array.toList_extract]
  exact List.take_of_length_le (by simp)
theorem SetTab.like {bt : Bool} {xs : List Int} {t : SetTable} (h : SetTab bt xs t) : (tabOf t.mask xs).mask = t.mask ∧ (tabOf t.mask xs).place = t.place ∧ (tabOf t.mask xs).dummies = t.dummies := ⟨rfl, h.place.symm, h.dummies.symm⟩
theorem SetTab.mask3 {bt : Bool} {xs : List Int} {t : SetTable} (h : SetTab bt xs t) : t.mask ∈ [7, 15, 31] := by
  rcases h.mask with h | h | h
  · rw [h]; decide
  · rw [h]; decide
  · rw [h]; decide

/-- xs with i in it -/
theorem free_fact {bt : Bool} {xs : List Int} {t : SetTable} {i : Int} (hx : Small xs) (h : SetTab bt xs t) (hi : 0 ≤ i ∧ i < 7) (hn : i ∉ xs) :
    t.freeSlot i = some (i.toNat, false) ∧ SetTable.below t.place i.toNat ≤ xs.length ∧ Small (xs.take (SetTable.below t.place i.toNat) ++ i :: xs.drop (SetTable.below t.place i.toNat)) := by
  have h1 := List.all_eq_true.mp freeB_true xs hx.mem
  have h2 := List.all_eq_true.mp h1 t.mask h.mask3
  have hu : i ∈ upTo := by
    have : i = 0 ∨ i = 1 ∨ i = 2 ∨ i = 3 ∨ i = 4 ∨ i = 5 ∨ i = 6 := by omega
    rcases this with h | h | h | h | h | h | h <;> subst h <;> decide
  have h3 := List.all_eq_true.mp h2 i hu
  have hc : xs.contains i = false := by simpa using hn
  rw [hc, Bool.false_or, Bool.and_eq_true, Bool.and_eq_true] at h3
  obtain ⟨⟨h4, h5⟩, h6⟩ := h3
  rw [← freeSlot_congr h.like.1 h.like.2.1 h.like.2.2, h.place]
  exact ⟨by simpa using h4, of_decide_eq_true h6, smallB_iff h5⟩
theorem laid_fact {xs : List Int} {m f mv : Nat} {l p : Bool} (hx : Small xs) (hm : m ∈ [7, 15, 31]) :
    SetTable.laid m f mv l p xs.toArray = some ({ tabOf m xs with finger := f, moves := mv, led := l, plain := p }, Array.range xs.length) := by
  have h1 := List.all_eq_true.mp laidB_true xs hx.mem
  rw [Bool.and_eq_true] at h1
  have h2 := List.all_eq_true.mp h1.2 m hm
  exact laid_any (by simpa using h2)
theorem SetTab.of_laid {bt : Bool} {xs : List Int} {m f mv : Nat} (hm : m ∈ [7, 15, 31]) : SetTab bt xs { tabOf m xs with finger := f, moves := mv, led := !bt, plain := true } := by
  refine ⟨rfl, rfl, rfl, rfl, ?_⟩
  show m = 7 ∨ m = 15 ∨ m = 31
  simpa using hm
theorem SetTab.fits {bt : Bool} {xs : List Int} {t : SetTable} (hx : Small xs) (h : SetTab bt xs t) : t.fits xs.length = true := by
  have h7 := hx.len
  unfold SetTable.fits SetTable.fill
  rw [h.place, h.dummies]
  have : xs.length ≤ t.mask := by rcases h.mask with h | h | h <;> omega
  simp [this]
/-- the entries of a set -/
def Ents (es : Array (Int × Value)) (xs : List Int) : Prop := es.toList.map (fun e => (e.1, er e.2)) = xs.map (fun i => (i, AV.int i))
theorem Ents.size {es : Array (Int × Value)} {xs : List Int} (h : Ents es xs) : es.size = xs.length := by
  have := congrArg List.length h; simpa using this
theorem Ents.hashes {es : Array (Int × Value)} {xs : List Int} (h : Ents es xs) : es.map (·.1) = xs.toArray := by
  apply Array.toList_inj.mp
  have := congrArg (List.map Prod.fst) h
  simpa [List.map_map, Function.comp_def] using this
theorem Ents.mem {es : Array (Int × Value)} {xs : List Int} (h : Ents es xs) : ∀ e ∈ es.toList, ∃ i t, i ∈ xs ∧ e = (i, .int i t) := fun e he => by
  have : (e.1, er e.2) ∈ xs.map (fun i => (i, AV.int i)) := h ▸ List.mem_map_of_mem (f := fun e : Int × Value => (e.1, er e.2)) he
  obtain ⟨i, hi, e1⟩ := List.mem_map.mp this
  have e2 := congrArg Prod.fst e1
  have e3 := congrArg Prod.snd e1
  obtain ⟨t, ht⟩ := er_int e3.symm
  exact ⟨i, t, hi, by cases e; simp_all⟩
theorem Ents.of_mem {es : Array (Int × Value)} {xs : List Int} (h : Ents es xs) {i : Int} (hi : i ∈ xs) : ∃ t, (i, Value.int i t) ∈ es.toList := by
  have : (i, AV.int i) ∈ es.toList.map (fun e => (e.1, er e.2)) := h ▸ List.mem_map_of_mem (f := fun i => (i, AV.int i)) hi
  obtain ⟨e, he, e1⟩ := List.mem_map.mp this
  have e2 := congrArg Prod.fst e1
  have e3 := congrArg Prod.snd e1
  obtain ⟨t, ht⟩ := er_int e3
  exact ⟨t, by cases e; simp_all⟩
theorem hash_small {w : World} {i : Int} (hi : 0 ≤ i ∧ i < 7) : (intKind Pg w).hash i = i := by
  have : i = 0 ∨ i = 1 ∨ i = 2 ∨ i = 3 ∨ i = 4 ∨ i = 5 ∨ i = 6 := by omega
  rcases this with h | h | h | h | h | h | h <;> subst h <;> rfl
theorem Ents.elems {w : World} {es : Array (Int × Value)} {xs : List Int} (h : Ents es xs) (hx : Small xs) : ElemsOf (intKind Pg w) es.toList := fun e he => by
  obtain ⟨i, t, hi, rfl⟩ := h.mem e he
  exact ⟨⟨i, intKind_is _ _ _ _, (hash_small (hx.2 i hi)).symm⟩, rfl⟩
theorem Ents.is_mem {w : World} {es : Array (Int × Value)} {xs : List Int} (h : Ents es xs) (k : Int) : (∃ e ∈ es.toList, (intKind Pg w).is k e.2 = true) ↔ k ∈ xs := by
  constructor
  · rintro ⟨e, he, hk⟩
    obtain ⟨i, t, hi, rfl⟩ := h.mem e he
    have := (intKind Pg w).inj _ _ _ hk (intKind_is Pg w i t)
    rw [this]; exact hi
  · intro hk
    obtain ⟨t, ht⟩ := h.of_mem hk
    exact ⟨_, ht, intKind_is _ _ _ _⟩
theorem Ents.order {es : Array (Int × Value)} {xs : List Int} (h : Ents es xs) : (Array.range xs.length).filterMap (es[·]?) = es := by
  rw [← h.size]
  apply Array.toList_inj.mp
  rw [Array.toList_filterMap, Array.toList_range]
  apply List.ext_getElem?
  have : ∀ n, n ≤ es.size → (List.range n).filterMap (es[·]?) = es.toList.take n := by
    intro n
    induction n with
    | zero => intro _; simp
    | succ n ih =>
      intro hn
      rw [List.range_succ, List.filterMap_append, ih (by omega), List.take_add_one]
      have : n < es.size := hn
      simp [this]
  intro i
  rw [this _ (Nat.le_refl _), List.take_of_length_le (by simp)]

section
variable {x : X} {α β : Type} {σ : AS} {env : Env}
abbrev X.bt (x : X) : Bool := x.C.w.params.followText "set-order"
theorem set_at {C : Cx} {fs : List (Addr × Loc)} {L : Addr} {s : Shared} (R : Rel C fs L σ s) {a : Addr} {xs : List Int} {ep : Nat} (h : σ.hp a = some (.set xs ep)) :
    ∃ es t, s.heap.get? a = some { cls := .type "set", data := .set es ep t } ∧ Ents es xs ∧ Small xs ∧ SetTab (C.w.params.followText "set-order") xs t := by
  obtain ⟨o, ho, es, t, rfl, h1, h2, h3⟩ := R.get h
  exact ⟨es, t, ho, h1, h2, h3⟩
theorem Rel.setOf {C : Cx} {fs : List (Addr × Loc)} {L : Addr} {s : Shared} (R : Rel C fs L σ s) {a : Addr} {xs : List Int} {ep : Nat} (h : σ.hp a = some (.set xs ep)) : s.heap.SetOf (intKind Pg C.w) a (fun k => decide (k ∈ xs)) xs.length := by
  obtain ⟨es, t, ho, h1, h2, h3⟩ := set_at R h
  refine ⟨_, es, ep, t, ho, ⟨rfl, rfl, rfl⟩, rfl, h1.elems h2, fun k => ?_, ?_, ?_, h1.size⟩
  · rw [decide_eq_true_eq]; exact (h1.is_mem k).symm
  · rw [h1.size]; have := h2.len; unfold scanBound; omega
  · rw [h1.size]; exact h3.fits h2
theorem run_setState {a : Addr} {xs : List Int} {ep : Nat} {Q : Array (Int × Value) × Nat × SetTable → AS → Prop} (hs : σ.hp a = some (.set xs ep)) (h : ∀ es t, Ents es xs → Small xs → SetTab x.bt xs t → Q (es, ep, t) σ) : Run x (setState a) Q σ := by
  intro s R
  obtain ⟨es, t, ho, h1, h2, h3⟩ := set_at R hs
  exact wpAny_setState_of ho rfl (by rw [h1.size]; exact h3.fits h2) ⟨σ, R, h es t h1 h2 h3⟩
theorem run_setEpoch {a : Addr} {xs : List Int} {ep : Nat} {Q : Nat → AS → Prop} (hs : σ.hp a = some (.set xs ep)) (h : Q ep σ) : Run x (setEpoch a) Q σ := by
  unfold setEpoch
  exact run_bind (run_setState hs fun _ _ _ _ _ => run_pure h)
theorem run_setEntries {a : Addr} {xs : List Int} {ep : Nat} {Q : Array (Int × Value) → AS → Prop} (hs : σ.hp a = some (.set xs ep)) (h : ∀ es, Ents es xs → Small xs → Q es σ) : Run x (setEntries a) Q σ := by
  unfold setEntries
  exact run_bind (run_setState hs fun es t h1 h2 h3 => run_pure (h es h1 h2))
theorem run_storeSet {a : Addr} {xs xs' : List Int} {ep : Nat} {es' : Array (Int × Value)} {t' : SetTable} {Q : Unit → AS → Prop} (hs : σ.hp a = some (.set xs ep)) (h1 : Ents es' xs') (h2 : Small xs') (h3 : SetTab x.bt xs' t')
    (h : Q () (σ.put a (.set xs' (ep + 1)))) : Run x (storeSet a es' t') Q σ := by
  intro s R
  obtain ⟨es, t, ho, _, _, _⟩ := set_at R hs
  refine wpAny_storeSet_of ho rfl ?_ (by rw [h1.size]; have := h2.len; exact fits (by omega))
  have hg := Heap.get?_update_self (Obj.putSet es' t') ho (by rw [putSet_of es' t' rfl]; rfl)
  rw [putSet_of es' t' rfl] at hg
  exact ⟨_, R.upd (ao := .set xs' (ep + 1)) hs (Heap.SameBut.update s.heap a (Obj.putSet es' t')).extBut hg ⟨es', t', rfl, h1, h2, h3⟩ s.toks, h⟩
theorem run_setScan {a : Addr} {xs xs₀ : List Int} {ep : Nat} {es : Array (Int × Value)} {i : Int} {tk : Tok} {adding : Bool} {Q : ScanMet → AS → Prop} (hs : σ.hp a = some (.set xs₀ ep)) (he : Ents es xs) (hx : Small xs) (hi : 0 ≤ i ∧ i < 7)
    (hin : i ∈ xs → ∀ j, Q (.found j) σ) (hout : i ∉ xs → Q .absent σ) : Run x (setScan a (.int i tk) i adding es) Q σ := by
  intro s R
  obtain ⟨es₀, t, ho, h1, h2, h3⟩ := set_at R hs
  have hh := hash_small (w := x.C.w) hi
  show wpAny _ _ (setScanFrom a (.int i tk) i adding es.toList 0) _ _ s
  have key := wpAny_setScanFrom_of (prog := Pg) (w := x.C.w) (A := x.A) (E := fun _ _ => False) (s := s) (knd := intKind Pg x.C.w) (k := i) (x := .int i tk) (adding := adding) (intKind_is _ _ _ _) ho rfl (by rw [h1.size]; exact h3.fits h2) es.toList 0
    (Q := fun v s' => ∃ σ', Rel x.C x.fs x.L σ' s' ∧ Q v σ') (he.elems hx)
  rw [hh] at key
  refine key ?_
  cases hr : es.toList.findIdx? (fun e => (intKind Pg x.C.w).is i e.2) with
  | none =>
    refine ⟨σ, R, hout fun hi => ?_⟩
    obtain ⟨e, hm, hk⟩ := (he.is_mem (w := x.C.w) i).mpr hi
    have := List.findIdx?_eq_none_iff.mp hr e hm
    rw [hk] at this; cases this
  | some j =>
    obtain ⟨hj, hp, _⟩ := List.findIdx?_eq_some_iff_getElem.mp hr
    exact ⟨σ, R, hin ((he.is_mem (w := x.C.w) i).mp ⟨_, List.getElem_mem hj, hp⟩) _⟩
theorem run_setFind {a : Addr} {xs : List Int} {ep : Nat} {i : Int} {tk : Tok} {Q : Option Nat → AS → Prop} (hs : σ.hp a = some (.set xs ep)) (hi : 0 ≤ i ∧ i < 7) (h : ∀ r : Option Nat, r.isSome = decide (i ∈ xs) → Q r σ) : Run x (setFind a (.int i tk) i) Q σ := by
  intro s R
  have key := wpAny_setFind_of (prog := Pg) (w := x.C.w) (A := x.A) (E := fun _ _ => False) (s := s) (knd := intKind Pg x.C.w) (k := i) (x := .int i tk) (Q := fun v s' => ∃ σ', Rel x.C x.fs x.L σ' s' ∧ Q v σ') (intKind_is _ _ _ _) rfl (R.setOf hs)
  rw [hash_small hi] at key
  exact key fun r hr => ⟨σ, R, h r hr⟩
theorem in_set {a : Addr} {xs : List Int} {ep : Nat} {i : Int} {tk : Tok} {Q : Bool → AS → Prop} (hs : σ.hp a = some (.set xs ep)) (h : Q (decide (i ∈ xs)) σ) : Cmp x .In (.int i tk) (.ref a) Q σ := by
  intro s R
  exact wpAny_inSet_of (knd := intKind Pg x.C.w) (intKind_is _ _ _ _) rfl (R.setOf hs) ⟨σ, R.toks _, _, rfl, h⟩
theorem notin_set {a : Addr} {xs : List Int} {ep : Nat} {i : Int} {tk : Tok} {Q : Bool → AS → Prop} (hs : σ.hp a = some (.set xs ep)) (h : Q (!decide (i ∈ xs)) σ) : Cmp x .NotIn (.int i tk) (.ref a) Q σ := by
  intro s R
  exact wpAny_notInSet_of (knd := intKind Pg x.C.w) (intKind_is _ _ _ _) rfl (R.setOf hs) ⟨σ, R.toks _, _, rfl, h⟩
theorem new_set {Q : AV → AS → Prop} (h : ∀ a, Fresh σ a → Q (.ref a) (σ.put a (.set [] 0))) : RunV x (newSet (.type "set")) Q σ := by
  unfold newSet setsByText
  refine run_bind (run_bind (run_ask (run_pure ?_)))
  show Run x (newObj _ _) _ σ
  simp only [newObj]
  refine run_bind (run_alloc (ao := .set [] 0) ⟨#[], _, rfl, rfl, ⟨.nil, by simp⟩, ⟨rfl, rfl, rfl, rfl,   .inl rfl⟩⟩ fun a ha => run_pure (h a ha))
end
end
-- AzSetB
section
section
variable {x : X} {α β : Type} {σ : AS} {env : Env}
theorem put_id {a : Addr} {ao : AO} (h : σ.hp a = some ao) : σ.put a ao = σ := by
  obtain ⟨l, hp, g⟩ := σ
  simp only [AS.put, AS.mk.injEq, and_true, true_and]
  funext b
  unfold setHp
  split
  · rename_i e; rw [e]; exact h.symm
  · rfl
theorem put_put {a : Addr} {ao ao' : AO} : (σ.put a ao).put a ao' = σ.put a ao' := by
  obtain ⟨l, hp, g⟩ := σ
  simp only [AS.put, AS.mk.injEq, and_true, true_and]
  funext b
  unfold setHp
  split <;> rfl
theorem Ents.scan {es : Array (Int × Value)} {xs : List Int} (h : Ents es xs) (hx : Small xs) {i : Int} {tk : Tok} : byScan (.int i tk) es = true := by
  unfold byScan
  have h1 : es.size < scanBound := by rw [h.size]; have := hx.len; unfold scanBound; omega
  have h2 : es.all (fun e => e.2.scannable) = true := by
    rw [← Array.all_toList, List.all_eq_true]
    intro e he
    obtain ⟨i, t, _, rfl⟩ := h.mem e he
    rfl
  rw [h2]
  simp [h1, Value.scannable]
theorem relay_fact {bt : Bool} {xs : List Int} {es : Array (Int × Value)} {t : SetTable} {m : Nat} (he : Ents es xs) (hx : Small xs) (ht : t.led = !bt ∧ t.plain = true) (hm : m ∈ [7, 15, 31]) {wanted : Nat} (hw : SetTable.sizeAbove wanted - 1 = m) :
    ∃ t', t.relaid (es.map (·.1)) wanted = some (t', Array.range xs.length) ∧ SetTab bt xs t' := by
  unfold SetTable.relaid
  rw [hw, he.hashes, laid_fact hx hm, ht.1, ht.2]
  exact ⟨_, rfl, SetTab.of_laid hm⟩
theorem relayAll_fact {bt : Bool} {xs : List Int} {es : Array (Int × Value)} {t : SetTable} {m : Nat} (he : Ents es xs) (hx : Small xs) (ht : t.led = !bt ∧ t.plain = true) (hm : m ∈ [7, 15, 31]) {wanted : Nat} (hw : SetTable.sizeAbove wanted - 1 = m) :
    ∃ t', relayAll t es wanted = (es, t', false) ∧ SetTab bt xs t' := by
  obtain ⟨t', h1, h2⟩ := relay_fact he hx ht hm hw
  refine ⟨t', ?_, h2⟩
  unfold relayAll
  rw [h1]
  simp only [he.order]
  have h3 : coversAll (Array.range xs.length) es.size = true := by
    unfold coversAll
    rw [he.size, Array.toList_range]
    exact List.isPerm_iff.mpr (List.Perm.refl _)
  rw [h3, he.size, h2.fits hx]; rfl
theorem insert_mem {xs : List Int} {p : Nat} {i j : Int} : j ∈ xs.take p ++ i :: xs.drop p ↔ j ∈ xs ∨ j = i := by
  have : j ∈ xs ↔ j ∈ xs.take p ∨ j ∈ xs.drop p := by
    rw [← List.mem_append, List.take_append_drop]
  rw [this]
  simp only [List.mem_append, List.mem_cons]
  constructor
  · rintro (h | h | h)
    · exact .inl (.inl h)
    · exact .inr h
    · exact .inl (.inr h)
  · rintro ((h | h) | h)
    · exact .inl h
    · exact .inr (.inr h)
    · exact .inr (.inl h)

theorem run_addH {a : Addr} {xs : List Int} {ep : Nat} {i : Int} {tk : Tok} {Q : Bool → AS → Prop} (hs : σ.hp a = some (.set xs ep)) (hi : 0 ≤ i ∧ i < 7)
    (h : ∀ xs' ep', Small xs' → (∀ j, j ∈ xs' ↔ j ∈ xs ∨ j = i) → Q (!decide (i ∈ xs)) (σ.put a (.set xs' ep'))) : Run x (setAddHashed a (.int i tk) i) Q σ := by
  unfold setAddHashed setAddHashedIn
  refine run_hold (run_bind (run_setState hs fun es t h1 h2 h3 => ?_))
  dsimp only
  rw [h1.scan h2]
  simp only [if_true]
  refine run_bind ?_
  unfold setAddByScan
  refine run_bind (run_rule (run_bind (run_setScan hs h1 h2 hi (fun hin j => ?_) fun hout => ?_)))
  · refine run_pure (run_pure ?_)
    have := h xs ep h2 fun j => ⟨.inl, fun q => q.elim id fun e => e ▸ hin⟩
    rw [put_id hs, decide_eq_true hin] at this
    exact this
  · obtain ⟨hf, hp, hsm⟩ := free_fact h2 h3 hi hout
    have hlen := hsm.len
    rw [List.length_append, List.length_cons, List.length_take, List.length_drop] at hlen
    have hlen' : xs.length + 1 ≤ 7 := by omega
    generalize hpp : SetTable.below t.place i.toNat = p at hp hsm
    have hput : t.put i.toNat = ({ t with place := SetTable.insertAt t.place p i.toNat }, p) := by
      unfold SetTable.put
      rw [hpp, h3.dummies]; rfl
    have hxl : (xs.take p ++ i :: xs.drop p).length = xs.length + 1 := by
      rw [List.length_append, List.length_cons, List.length_take, List.length_drop]; omega
    have hes : Ents (SetTable.insertAt es p (i, .int i tk)) (xs.take p ++ i :: xs.drop p) := by
      unfold Ents
      rw [insertAt_list _ _ _ (by rw [h1.size]; exact hp), List.map_append, List.map_cons, List.map_take, List.map_drop, h1, List.map_append, List.map_cons, List.map_take, List.map_drop]
      rfl
    have hpl : (SetTable.insertAt t.place p i.toNat) = ((xs.take p ++ i :: xs.drop p).map Int.toNat).toArray := by
      apply Array.toList_inj.mp
      rw [insertAt_list _ _ _ (by rw [h3.place]; simpa using hp), h3.place, List.map_append, List.map_cons, List.map_take, List.map_drop]
    have hfill : ({ t with place := SetTable.insertAt t.place p i.toNat } : SetTable).fill = xs.length + 1 := by
      show (SetTable.insertAt t.place p i.toNat).size + t.dummies.size = _
      rw [hpl, h3.dummies]
      simp only [List.size_toArray, List.length_map, hxl]; rfl
    have hfit : ({ t with place := SetTable.insertAt t.place p i.toNat } : SetTable).fits (SetTable.insertAt es p (i, .int i tk)).size = true := by
      unfold SetTable.fits
      rw [hfill, hes.size, hxl]
      show ((SetTable.insertAt t.place p i.toNat).size == xs.length + 1 && decide (xs.length + 1 ≤ t.mask)) = true
      rw [hpl]
      have : xs.length + 1 ≤ t.mask := by rcases h3.mask with h | h | h <;> omega
      simp only [List.size_toArray, List.length_map, hxl, this]
      simp
    have hlay : layNew t es i (.int i tk) = (SetTable.insertAt es p (i, .int i tk), { t with place := SetTable.insertAt t.place p i.toNat }, false, false) := by
      unfold layNew
      rw [hf]
      simp only [hput]
      unfold SetTable.orStandIn
      rw [hfit]; rfl
    dsimp only
    rw [hlay]
    dsimp only
    refine run_bind (run_pure ?_)
    rw [h3.plain]
    simp only [if_true]
    show Run x (pure true >>= _) _ σ
    refine run_bind (run_pure ?_)
    simp only [if_true, Bool.not_false, Bool.true_and]
    have hQ : ∀ e, Q true (σ.put a (.set (xs.take p ++ i :: xs.drop p) e)) := fun e => by
      have := h _ e hsm fun j => insert_mem
      rw [decide_eq_false hout] at this
      exact this
    have hT : SetTab x.bt (xs.take p ++ i :: xs.drop p) { t with place := SetTable.insertAt t.place p i.toNat, plain := true } := ⟨hpl, h3.dummies, h3.led, rfl, h3.mask⟩
    refine run_bind (run_storeSet hs hes hsm hT ?_)
    split
    · rename_i htf
      obtain ⟨t₂, h5, h6⟩ := relayAll_fact (wanted := SetTable.grown (SetTable.insertAt es p (i, .int i tk)).size) (m := 31) hes hsm ⟨hT.led, hT.plain⟩ (by decide) (by
        rw [hes.size, hxl]
        have hge : 4 ≤ xs.length := by
          have h7 : ({ t with place := SetTable.insertAt t.place p i.toNat, plain := true } : SetTable).fill * 5 ≥ t.mask * 3 := of_decide_eq_true htf
          have h8 : ({ t with place := SetTable.insertAt t.place p i.toNat, plain := true } : SetTable).fill = xs.length + 1 := hfill
          rw [h8] at h7
          rcases h3.mask with hm | hm | hm <;> rw [hm] at h7 <;> omega
        have : xs.length = 4 ∨ xs.length = 5 ∨ xs.length = 6 := by omega
        rcases this with e | e | e <;> rw [e] <;> rfl)
      rw [h5]
      dsimp only
      refine run_bind (run_pure (run_bind (run_storeSet put_same hes hsm h6 ?_)))
      rw [put_put]
      exact run_pure (run_pure (hQ _))
    · exact run_pure (run_pure (hQ _))
end
end
-- AzSetC
section
theorem cons_eraseIdx {α : Type} : ∀ {l : List α} {i : Nat} (h : i < l.length), (l[i] :: l.eraseIdx i).Perm l
  | a :: r, 0, _ => List.Perm.refl _
  | a :: r, i + 1, h => by
    rw [List.eraseIdx_cons_succ, List.getElem_cons_succ]
    exact (List.Perm.swap _ _ _).trans ((cons_eraseIdx (Nat.lt_of_succ_lt_succ h)).cons a)
theorem pick_go {α : Type} (next : Nat → Nat) : ∀ (n k : Nat) (l : List α) (out : Array α), l.length ≤ n → (pickOrder.go next n k l out).toList.Perm (out.toList ++ l)
  | 0, k, l, out, h => by
    have : l = [] := List.length_eq_zero_iff.mp (Nat.le_zero.mp h)
    subst this
    unfold pickOrder.go
    simp
  | n + 1, k, l, out, h => by
    unfold pickOrder.go
    split
    · rename_i x hx
      have hlt : next k % l.length < l.length := by
        rcases Nat.lt_or_ge (next k % l.length) l.length with q | q
        · exact q
        · rw [List.getElem?_eq_none q] at hx; cases hx
      have hx' : l[next k % l.length] = x := by rw [List.getElem?_eq_getElem hlt] at hx; exact Option.some.inj hx
      refine (pick_go next n (k + 1) _ _ ?_).trans ?_
      · rw [List.length_eraseIdx]; split <;> omega
      · rw [Array.toList_push, List.append_assoc]
        refine List.Perm.append_left _ ?_
        rw [← hx']
        exact cons_eraseIdx hlt
    · rename_i hx
      have : l = [] := by
        cases l with
        | nil => rfl
        | cons a r =>
          have : next k % (a :: r).length < (a :: r).length := Nat.mod_lt _ (by simp)
          rw [List.getElem?_eq_getElem this] at hx; cases hx
      subst this
      simp
theorem pick_perm {α : Type} (next : Nat → Nat) (xs : Array α) : (pickOrder next xs).toList.Perm xs.toList := by
  have := pick_go next xs.size 0 xs.toList #[] (by simp)
  simpa [pickOrder] using this
theorem Ents.perm {es es' : Array (Int × Value)} {xs : List Int} (h : Ents es xs) (p : es'.toList.Perm es.toList) : ∃ zs, zs.Perm xs ∧ Ents es' zs := by
  refine ⟨es'.toList.map (·.1), ?_, ?_⟩
  · have h1 := p.map (·.1)
    have h2 : es.toList.map (·.1) = xs := by
      have := h.hashes
      have := congrArg Array.toList this
      simpa using this
    rw [h2] at h1; exact h1
  · unfold Ents
    rw [List.map_map]
    refine List.map_congr_left fun e he => ?_
    obtain ⟨i, t, _, rfl⟩ := h.mem e (p.mem_iff.mp he)
    rfl
section
variable {x : X} {α β : Type} {σ : AS} {env : Env}
theorem run_setWalk {a : Addr} {xs : List Int} {ep : Nat} {Q : Array (Int × Value) → AS → Prop} (hs : σ.hp a = some (.set xs ep)) (h : ∀ es zs, Small xs → zs.Perm xs → Ents es zs → Q es σ) : Run x (setWalk a) Q σ := by
  unfold setWalk setsByText
  refine run_bind (run_setState hs fun es t h1 h2 h3 => ?_)
  dsimp only
  refine run_bind (run_bind (run_ask (run_pure ?_)))
  show Run x (if x.bt = true then _ else _) _ σ
  cases hb : x.bt with
  | true =>
    simp only [if_true]
    obtain ⟨zs, hz, he⟩ := h1.perm (pick_perm (x.C.w.params.setOrder a ep) es)
    exact run_bind (run_ask (run_pure (h _ zs h2 hz he)))
  | false =>
    have hd : (!t.plain && decide (es.size > 1)) = false := by rw [h3.plain]; rfl
    have hl : (!t.led && decide (es.size > 1)) = false := by rw [h3.led, hb]; rfl
    rw [if_neg Bool.false_ne_true]
    show Run x (if (!t.plain && decide (es.size > 1)) = true then (do let r ← drawOrder es.size es.toList; pure r.toArray) else (do (if (!t.led && decide (es.size > 1)) = true then unsupported "set:maker-not-led" else pure ()); pure es)) _ σ
    rw [hd, hl, if_neg Bool.false_ne_true, if_neg Bool.false_ne_true]
    exact run_bind (run_pure (run_pure (h es xs h2 (List.Perm.refl _) h1)))
theorem run_setWalkUnseen {a : Addr} {xs : List Int} {ep : Nat} {others : List Addr} {f : Option Addr} {Q : Array (Int × Value) → AS → Prop} (hs : σ.hp a = some (.set xs ep)) (h : ∀ es zs, Small xs → zs.Perm xs → Ents es zs → Q es σ) : Run x (setWalkUnseen a others f) Q σ := by
  unfold setWalkUnseen setsByText
  refine run_bind (run_setState hs fun es t h1 h2 h3 => ?_)
  dsimp only
  refine run_bind (run_bind (run_ask (run_pure ?_)))
  have : (x.bt || (t.led && t.plain) || decide (es.size ≤ 1)) = true := by rw [h3.led, h3.plain]; cases x.bt <;> rfl
  show Run x (if (x.bt || (t.led && t.plain) || decide (es.size ≤ 1)) = true then _ else _) _ σ
  rw [this]
  simp only [if_true]
  exact run_setWalk hs h

theorem run_forIn {l : List α} {f : α → PUnit → Sem (ForInStep PUnit)} {Q : PUnit → AS → Prop} (J : List α → AS → Prop) (h0 : J l σ)
    (hstep : ∀ a r σ, J (a :: r) σ → Run x (f a ⟨⟩) (fun st σ' => st = .yield ⟨⟩ ∧ J r σ') σ) (hend : ∀ σ, J [] σ → Q ⟨⟩ σ) : Run x (forIn l PUnit.unit f) Q σ := by
  induction l generalizing σ with
  | nil => exact run_pure (hend _ h0)
  | cons a r ih =>
    rw [List.forIn_cons]
    refine run_bind (run_mono (hstep a r σ h0) fun st σ' ⟨e, hj⟩ => ?_)
    subst e
    exact ih hj
theorem run_relay {a : Addr} {xs : List Int} {ep wanted : Nat} {Q : Unit → AS → Prop} (hs : σ.hp a = some (.set xs ep)) (hw : SetTable.sizeAbove wanted - 1 ∈ [7, 15, 31]) (hz : SetTable.sizeAbove wanted ≤ 32) (h : Q () (σ.put a (.set xs (ep + 1)))) : Run x (setRelay a wanted) Q σ := by
  unfold setRelay
  refine run_bind (run_setState hs fun es t h1 h2 h3 => ?_)
  dsimp only
  rw [if_neg (Nat.not_lt.mpr (fits (by omega)))]
  obtain ⟨t', h4, h5⟩ := relay_fact (t := t) h1 h2 ⟨h3.led, h3.plain⟩ hw rfl
  rw [h4]
  refine run_bind (Q := _) (f := _) ?_
  show Run x (if (((Array.range xs.length).filterMap (es[·]?)).size != es.size) = true then unsupported "internal:set-table-lost-an-element" >>= fun _ => pure ((Array.range xs.length).filterMap (es[·]?), t') else pure ((Array.range xs.length).filterMap (es[·]?), t')) _ σ
  rw [h1.order, bne_self_eq_false, if_neg Bool.false_ne_true]
  exact run_pure (run_storeSet hs h1 h2 h5 h)
theorem above_fact : ∀ n, n < 29 → (SetTable.sizeAbove n - 1 ∈ [7, 15, 31] ∧ SetTable.sizeAbove n ≤ 32) := by decide +kernel
theorem run_roomFor {a : Addr} {xs : List Int} {ep more : Nat} {Q : Unit → AS → Prop} (hs : σ.hp a = some (.set xs ep)) (hm : more ≤ 7) (h : ∀ ep', Q () (σ.put a (.set xs ep'))) : Run x (setRoomFor a more) Q σ := by
  unfold setRoomFor
  refine run_bind (run_setState hs fun es t h1 h2 h3 => ?_)
  dsimp only
  unfold SetTable.roomFor
  split
  · rename_i wanted hw
    split at hw
    · cases hw
      have hp : t.place.size = xs.length := by rw [h3.place]; simp
      have := h2.len
      have hf := above_fact ((t.place.size + more) * 2) (by rw [hp]; omega)
      exact run_relay hs hf.1 hf.2 (h _)
    · cases hw
  · have := h ep
    rw [put_id hs] at this
    exact run_pure this

theorem run_small {a : Addr} {xs : List Int} {ep : Nat} {t : Sem α} {Q : α → AS → Prop} (hs : σ.hp a = some (.set xs ep)) (h : Small xs → Run x t Q σ) : Run x t Q σ := fun s R => by
  obtain ⟨_, _, _, _, h2, _⟩ := set_at R hs
  exact h h2 s R
theorem run_setMerge {s o : Addr} {xs ys : List Int} {eps epo : Nat} {each : Sem Unit} {Q : Unit → AS → Prop} (hne : s ≠ o) (hs : σ.hp s = some (.set xs eps)) (ho : σ.hp o = some (.set ys epo))
    (heach : ∀ σ' (Q' : Unit → AS → Prop), σ'.hp o = some (.set ys epo) → Q' () σ' → Run x each Q' σ')
    (h : ∀ xs' ep', Small xs' → (∀ j, j ∈ xs' ↔ j ∈ xs ∨ j ∈ ys) → Q () (σ.put s (.set xs' ep'))) : Run x (setMerge s o each) Q σ := by
  unfold setMerge
  rw [if_neg (by simpa using hne)]
  refine run_bind (run_setState ho fun eo to h1 h2 h3 => ?_)
  dsimp only
  refine run_small hs fun hx => ?_
  by_cases hemp : eo.isEmpty = true
  · rw [if_pos hemp]
    have hy : ys = [] := by
      have := h1.size
      rw [Array.isEmpty_iff_size_eq_zero.mp hemp] at this
      exact List.length_eq_zero_iff.mp this.symm
    have := h xs eps hx fun j => by simp [hy]
    rw [put_id hs] at this
    exact run_pure this
  · rw [if_neg hemp]
    refine run_bind (run_roomFor hs (by rw [h1.size]; exact h2.len) fun ep' => ?_)
    have ho' : (σ.put s (.set xs ep')).hp o = some (.set ys epo) := put_ne hne.symm ho
    refine run_bind (run_setState put_same fun es ts g1 g2 g3 => ?_)
    dsimp only
    by_cases hf : ts.fill = 0
    · have hxs : xs = [] := by
        unfold SetTable.fill at hf
        rw [g3.place] at hf
        simp only [List.size_toArray, List.length_map] at hf
        exact List.length_eq_zero_iff.mp (by omega)
      have hled : (ts.led && to.led) = !x.bt := by rw [g3.led, h3.led]; cases x.bt <;> rfl
      have hpl : (ts.plain && to.plain) = true := by rw [g3.plain, h3.plain]; rfl
      have hQ : ∀ e, Q () ((σ.put s (.set xs ep')).put s (.set ys e)) := fun e => by
        rw [put_put]; exact h ys e h2 fun j => by simp [hxs]
      have hroad : ts.road to = .slotForSlot ∨ ts.road to = .clean := by
        unfold SetTable.road
        rw [hf]
        simp only [bne_self_eq_false, Bool.false_eq_true, if_false]
        split
        · exact .inl rfl
        · exact .inr rfl
      rcases hroad with e | e
      · rw [e]
        dsimp only
        rw [hled, hpl]
        exact run_storeSet put_same h1 h2 ⟨h3.place, h3.dummies, rfl, rfl, h3.mask⟩ (hQ _)
      · rw [e]
        dsimp only
        rw [hled, hpl, h1.hashes, laid_fact h2 g3.mask3]
        refine run_bind (Q := _) (f := _) ?_
        show Run x (if (((Array.range ys.length).filterMap (eo[·]?)).size != eo.size) = true then unsupported "internal:set-table-lost-an-element" >>= fun _ => pure ((Array.range ys.length).filterMap (eo[·]?), _) else pure ((Array.range ys.length).filterMap (eo[·]?), _)) _ _
        rw [h1.order, bne_self_eq_false, if_neg Bool.false_ne_true]
        exact run_pure (run_storeSet put_same h1 h2 (SetTab.of_laid g3.mask3) (hQ _))
    · have hroad : ts.road to = .oneByOne := by
        unfold SetTable.road
        have : (ts.fill != 0) = true := by simpa using hf
        rw [this]; rfl
      rw [hroad]
      dsimp only
      refine run_bind (run_setWalkUnseen ho' fun es' zs _ hz he' => ?_)
      refine run_bind ?_
      rw [← Array.forIn_toList]
      refine run_forIn (fun l σ' => ∃ (us ws : List Int) (e : Nat), l.map (fun e : Int × Value => (e.1, er e.2)) = us.map (fun i => (i, AV.int i)) ∧ (∀ j ∈ us, 0 ≤ j ∧ j < 7) ∧ Small ws ∧ (∀ j, (j ∈ ws ∨ j ∈ us) ↔ j ∈ xs ∨ j ∈ ys) ∧ σ' = σ.put s (.set ws e)) ?_ ?_ ?_
      · exact ⟨zs, xs, ep', he', fun j hj => h2.2 j (hz.mem_iff.mp hj), hx, fun j => by rw [hz.mem_iff], rfl⟩
      · rintro e r σ₁ ⟨us, ws, ep₁, hm, hu, hw, hj, rfl⟩
        cases us with
        | nil => cases hm
        | cons i us =>
          rw [List.map_cons, List.map_cons, List.cons.injEq] at hm
          obtain ⟨hm1, hm2⟩ := hm
          obtain ⟨e1, e2⟩ := e
          have h11 : e1 = i := congrArg Prod.fst hm1
          obtain ⟨tk, rfl⟩ := er_int (congrArg Prod.snd hm1)
          subst h11
          dsimp only
          refine run_bind (run_hold (run_addH put_same (hu _ (.head _)) fun ws' ep₂ hw' hj' => ?_))
          rw [put_put]
          refine run_bind (heach _ _ (put_ne hne.symm ho) ?_)
          refine run_bind (run_setState (put_ne hne.symm ho) fun _ _ _ _ _ => ?_)
          dsimp only
          rw [bne_self_eq_false, if_neg Bool.false_ne_true]
          refine run_pure ⟨rfl, us, ws', ep₂, hm2, fun j hj => hu j (.tail _ hj), hw', fun j => ?_, rfl⟩
          rw [hj', ← hj, List.mem_cons, or_assoc]
      · rintro σ₁ ⟨us, ws, ep₁, hm, hu, hw, hj, rfl⟩
        have : us = [] := by simpa using hm.symm
        subst this
        exact run_pure (h ws ep₁ hw fun j => by rw [← hj]; simp)
end
end
-- AzSetD
section
/-- the same but for the C stack -/
def Sim (A A' : Around) : Prop := A'.depth = A.depth ∧ A'.handled = A.handled
theorem Deep.sim {A A' : Around} {k : Nat} (h : Deep A k) (e : Sim A A') : Deep A' k := ⟨by rw [e.1]; exact h.d, e.2.trans h.h⟩
abbrev X.with (x : X) (A' : Around) : X := { x with A := A' }
section
variable {x : X} {α β : Type} {σ : AS} {env : Env}
theorem code_newset {w : World} {A : Around} {E : Value → Shared → Prop} {s : Shared} (v : Value) {Q₁ : Value → Shared → Prop}
    (h : Q₁ (.ref s.heap.objs.size) { s with heap := s.heap.push { cls := .type "set", dict := none, data := .set #[] 0 (.fresh 0 0 (!w.params.followText "set-order")) } }) :
    codeAny (model Pg w) A (.call (.builtin "set.__new__") ⟨[.type "set", v], []⟩) (wants Q₁ E) s := by
  refine codeAny_of_tree ?_
  show wpAny _ A.in1 (do checkBuiltinCall "set.__new__" ⟨[.type "set", v], []⟩; again (.builtin "set.__new__" ⟨[.type "set", v], []⟩)) _ _ s
  refine wpAny_bind (wpAny_of_eq (F.newCall_set_1 v) (wpAny_pure ⟨plainId_quiet F.plain_set_new _, codeAny_builtin F.entry_set_new ?_⟩))
  rw [Around.under_plainId F.plain_set_new _]
  unfold Builtin.«set.__new__» Builtin.Frozenset.newClass
  have hsub := sub_set_self
  obtain ⟨hp, g, d, tk, os⟩ := s
  dsimp only
  wp_walk
  refine wpAny_askSetting (wpAny_pure ?_)
  dsimp only
  simp only [newObj]
  refine wpAny_bind (wpAny_alloc (wpAny_pure ?_))
  exact wpAny_pure h
set_option maxHeartbeats 3200000 in
theorem run_call_set {v : Value} {Q : AV → AS → Prop} (h : ∀ a A', Fresh σ a → Sim x.A A' → Run (x.with A') (Builtin.Frozenset.updateFrom "set.__init__" a v) (fun _ σ' => Q (.ref a) σ') (σ.put a (.set [] 0))) :
    RunV x (call (.type "set") [v]) Q σ := by
  intro s R
  obtain ⟨c, tl, hmro⟩ := F.called_set.mro
  have hmade := F.called_set.made
  have hsub := F.called_set.sub
  refine wpAny_call (codeAny_of_tree ?_)
  show wpAny _ _ (callAny (.type "set") _) _ _ _
  refine wpAny_pure ⟨Code.quiet_builtin _ (by decide +kernel), codeAny_builtin F.entry_type_call ?_⟩
  rw [Around.under_plain (weight_type_call_type "set" [v] []) rfl]
  have h1 := F.called_set.notType
  have h2 := F.called_set.canCreate
  have hct := F.typeCall_set_1 v
  repeat (any_goals (first | assumption | wp_step))
  refine codeAny_mono (code_newset v (E := fun _ _ => False) (Q₁ := fun obj s₁ => obj = .ref s.heap.objs.size ∧ s₁ = { s with heap := s.heap.push { cls := .type "set", dict := none, data := .set #[] 0 (.fresh 0 0 (!x.C.w.params.followText "set-order")) } }) ⟨rfl, rfl⟩) fun r s₁ hr => ?_
  cases r with
  | error e => exact hr
  | ok fl =>
    cases fl with
    | ret obj =>
      obtain ⟨rfl, rfl⟩ := hr
      have hS : (s.heap.push { cls := .type "set", dict := none, data := .set #[] 0 (.fresh 0 0 (!x.C.w.params.followText "set-order")) }).get? s.heap.objs.size = some { cls := .type "set", dict := none, data := .set #[] 0 (.fresh 0 0 (!x.C.w.params.followText "set-order")) } := Heap.get?_push_size _ rfl
      have hT : Shared.TypeIs { s with heap := s.heap.push { cls := .type "set", dict := none, data := .set #[] 0 (.fresh 0 0 (!x.C.w.params.followText "set-order")) } } (.ref s.heap.objs.size) "set" := ⟨_, hS, rfl⟩
      have hli := F.called_set.init.lookup
      have hbi := F.called_set.init.bind (.ref s.heap.objs.size)
      repeat (any_goals (first | assumption | wp_step))
      refine codeAny_mono (codeAny_call_builtin (R := wants (fun r s₂ => r = .none ∧ ∃ σ', Rel x.C x.fs x.L σ' s₂ ∧ Q (.ref s.heap.objs.size) σ') (fun _ _ => False)) F.called_set.init.plain F.entry_set_init (check_set_init_1 hT ?_)) fun r₂ s₂ hr₂ => ?_
      · unfold Builtin.«set.__init__» noKeywords
        generalize hPI : Builtin.Frozenset.updateFrom = PI
        wp_walk
        subst hPI
        have R' := R.push (ao := .set [] 0) (o := { cls := .type "set", dict := none, data := .set #[] 0 (.fresh 0 0 (!x.C.w.params.followText "set-order")) }) ⟨#[], _, rfl, rfl, ⟨.nil, by simp⟩, ⟨rfl, rfl, rfl, rfl, .inl rfl⟩⟩ s.toks
        refine wpAny_mono (h _ x.A.in1.in1 (R.fresh (Nat.le_refl _)) ⟨rfl, rfl⟩ _ R') (fun _ s' ⟨σ', R₂, hq⟩ => ?_) fun _ _ e => e.elim
        exact wpAny_pure ⟨rfl, σ', R₂, hq⟩
      · cases r₂ with
        | error e => exact hr₂
        | ok fl₂ =>
          cases fl₂ with
          | ret r =>
            obtain ⟨rfl, σ', R', hq⟩ := hr₂
            repeat (any_goals (first | assumption | wp_step))
            exact ⟨σ', R', hq⟩
          | _ => exact hr₂.elim
    | _ => exact hr.elim

theorem runV_any {t : Sem Value} {Q : AV → AS → Prop} (h : Run x t (fun v σ' => Q (er v) σ') σ) : RunV x t Q σ := h
theorem set_sub : isSubtype (.type "dict") (.type "set") = pure false := by rw [isSubtype_type]; kernel_rfl
theorem frz_sub : isSubtype (.type "dict") (.type "frozenset") = pure false := by rw [isSubtype_type]; kernel_rfl
theorem run_isInstance {v : Value} {T T' : String} {b : Bool} {Q : Bool → AS → Prop} (hT : ∀ s, Rel x.C x.fs x.L σ s → s.TypeIs v T) (hs : isSubtype (.type T) (.type T') = pure b) (h : Q b σ) : Run x (isInstance v (.type T')) Q σ :=
  fun s R => wpAny_isInstance (hT s R) hs ⟨σ, R, h⟩
theorem run_anySet_no {v : Value} {T : String} {Q : Bool → AS → Prop} (hT : ∀ s, Rel x.C x.fs x.L σ s → s.TypeIs v T) (h1 : isSubtype (.type T) (.type "set") = pure false) (h2 : isSubtype (.type T) (.type "frozenset") = pure false) (h : Q false σ) : Run x (Builtin.Frozenset.isAnySet v) Q σ := by
  unfold Builtin.Frozenset.isAnySet
  exact run_bind (run_isInstance hT h1 (run_isInstance hT h2 h))
theorem run_anySet_yes {a : Addr} {xs : List Int} {ep : Nat} {Q : Bool → AS → Prop} (hs : σ.hp a = some (.set xs ep)) (h : Q true σ) : Run x (Builtin.Frozenset.isAnySet (.ref a)) Q σ := by
  unfold Builtin.Frozenset.isAnySet
  exact run_bind (run_isInstance (fun s R => type_set R hs) sub_set_self (run_pure h))
/-- a set out of a set -/
theorem upd_set {id : String} {s o : Addr} {xs ys : List Int} {eps epo : Nat} {Q : Unit → AS → Prop} (hne : s ≠ o) (hs : σ.hp s = some (.set xs eps)) (ho : σ.hp o = some (.set ys epo))
    (h : ∀ xs' ep', Small xs' → (∀ j, j ∈ xs' ↔ j ∈ xs ∨ j ∈ ys) → Q () (σ.put s (.set xs' ep'))) : Run x (Builtin.Frozenset.updateFrom id s (.ref o)) Q σ := by
  unfold Builtin.Frozenset.updateFrom
  refine run_bind (run_anySet_yes ho ?_)
  simp only [if_true]
  unfold Builtin.Frozenset.merge Builtin.Frozenset.addrOf
  refine run_bind (run_pure (run_bind (run_setEpoch ho (run_setMerge hne hs ho (fun σ' Q' ho' hq => ?_) h))))
  unfold Builtin.Frozenset.unchanged
  refine run_bind (run_setEpoch ho' ?_)
  rw [bne_self_eq_false, if_neg Bool.false_ne_true]
  exact run_pure hq
end
end
-- AzSetE
section
section
variable {x : X} {α β : Type} {σ : AS} {env : Env}
/-- set.update.loop -/
theorem run_updLoop {s I : Addr} {P : AS → Prop} (J : Nat → AS → Prop)
    (turn : ∀ n σ, J n σ → ∀ A', Sim x.A A' → Run (x.with A') (pyNext (.ref I)) (fun r σ₁ => match r with
      | none => P σ₁
      | some v => ∃ i t, v = .int i t ∧ (0 ≤ i ∧ i < 7) ∧ ∃ xs ep, σ₁.hp s = some (.set xs ep) ∧ ∀ xs' ep', Small xs' → (∀ j, j ∈ xs' ↔ j ∈ xs ∨ j = i) → ∃ m, m < n ∧ J m (σ₁.put s (.set xs' ep'))) σ) :
    ∀ n σ, J n σ → RunC x (.builtin "set.update.loop" ⟨[.ref s, .ref I], []⟩) (fun r σ' => r = .ok (.ret .none) ∧ P σ') σ := by
  intro n
  induction n using Nat.strongRecOn with
  | ind n ih =>
    intro σ hJ s₀ R
    refine codeAny_builtin PyProof.Rows.F.entry_set_update_loop ?_
    rw [Around.under_plainId PyProof.Rows.F.plain_set_update_loop _]
    show wpAny _ x.A.in1 (pyNext (.ref I) >>= _) _ _ s₀
    refine wpAny_bind (run_to (turn n σ hJ x.A.in1 ⟨rfl, rfl⟩) R fun r σ₁ s₁ R₁ h₁ => ?_)
    cases r with
    | none => exact wpAny_pure ⟨σ₁, R₁, rfl, h₁⟩
    | some v =>
      obtain ⟨i, t, rfl, hi, xs, ep, hs, hn⟩ := h₁
      show wpAny _ x.A.in1 (holding [Value.int i t] (setAdd s (.int i t)) >>= _) _ _ s₁
      refine wpAny_bind (wpAny_holding ?_)
      unfold setAdd
      refine wpAny_holding (wpAny_bind ((intKind Pg x.C.w).pyHash (k := i) (intKind_is _ _ _ _) ?_))
      rw [hash_small hi]
      refine run_to (run_addH (x := x.with x.A.in1) (Q := fun _ σ' => ∃ m, m < n ∧ J m σ') hs hi fun xs' ep' h1 h2 => hn xs' ep' h1 h2) (R₁.toks _) fun _ σ₂ s₂ R₂ ⟨m, hm, hJ₂⟩ => ?_
      exact wpAny_pure ⟨plainId_quiet PyProof.Rows.F.plain_set_update_loop _, ih m hm σ₂ hJ₂ s₂ R₂⟩
theorem run_runValue {c : Code} {Q : AV → AS → Prop} (h : RunC x c (fun r σ' => ∃ v, r = .ok (.ret v) ∧ Q (er v) σ') σ) : RunV x (runValue c) Q σ := fun s R => by
  refine wpAny_runValue (codeAny_mono (h s R) fun r s' ⟨σ', R', v, e, q⟩ => ?_)
  subst e
  exact ⟨σ', R', q⟩
/-- a set out of what an iterator gives -/
theorem upd_iter {id : String} {s : Addr} {v : Value} {Q : Unit → AS → Prop} (hn : Run x (Builtin.Frozenset.isAnySet v) (fun b σ' => b = false ∧ σ' = σ) σ) (hty : Run x (typeOf v) (fun t σ' => (t == .type "dict") = false ∧ σ' = σ) σ)
    (h : RunV x (pyIter v) (fun a σ₁ => ∃ I, a = .ref I ∧ ∃ (J : Nat → AS → Prop) (n : Nat), J n σ₁ ∧ ∀ n σ, J n σ → ∀ A', Sim x.A A' → Run (x.with A') (pyNext (.ref I)) (fun r σ₁ => match r with
      | none => Q () σ₁
      | some v => ∃ i t, v = .int i t ∧ (0 ≤ i ∧ i < 7) ∧ ∃ xs ep, σ₁.hp s = some (.set xs ep) ∧ ∀ xs' ep', Small xs' → (∀ j, j ∈ xs' ↔ j ∈ xs ∨ j = i) → ∃ m, m < n ∧ J m (σ₁.put s (.set xs' ep'))) σ) σ) :
    Run x (Builtin.Frozenset.updateFrom id s v) Q σ := by
  unfold Builtin.Frozenset.updateFrom
  refine run_bind (run_mono hn fun b σ' ⟨e1, e2⟩ => ?_)
  subst e1; subst e2
  rw [if_neg Bool.false_ne_true]
  refine run_bind (run_mono hty fun t σ' ⟨e1, e2⟩ => ?_)
  subst e2
  rw [e1, if_neg Bool.false_ne_true]
  refine runV_bind (runV_mono h fun a σ₁ ⟨I, e, J, n, h0, turn⟩ it hit => ?_)
  subst e
  cases er_ref hit
  refine runV_bind (run_runValue ?_)
  intro s₀ R
  refine codeAny_mono (run_updLoop J turn n σ₁ h0 s₀ R) fun r s' ⟨σ', R', e, q⟩ => ⟨σ', R', .none, e, fun _ _ => run_pure q⟩

/-- all but one object is as it was -/
structure ExtB (s : Addr) (σ σ' : AS) : Prop where
  hp : ∀ a ao, a ≠ s → σ.hp a = some ao → σ'.hp a = some ao
  gs : σ'.gs = σ.gs
  loc : σ'.loc = σ.loc
theorem ExtB.refl {s : Addr} : ExtB s σ σ := ⟨fun _ _ _ h => h, rfl, rfl⟩
theorem ExtB.put {s a : Addr} {ao : AO} {σ' : AS} (h : ExtB s σ σ') (hf : Fresh σ a) : ExtB s σ (σ'.put a ao) := ⟨fun b ao' hb e => put_ne (hf b ao' e) (h.hp b ao' hb e), h.gs, h.loc⟩
theorem ExtB.drop {s a : Addr} {σ' : AS} (h : ExtB s σ σ') (hf : Fresh σ a) : ExtB s σ (σ'.drop a) := ⟨fun b ao' hb e => drop_ne (hf b ao' e) (h.hp b ao' hb e), h.gs, h.loc⟩
theorem ExtB.self {s : Addr} {ao : AO} {σ' : AS} (h : ExtB s σ σ') : ExtB s σ (σ'.put s ao) := ⟨fun b ao' hb e => put_ne hb (h.hp b ao' hb e), h.gs, h.loc⟩
theorem ExtB.ext {s : Addr} {ao : AO} {σ' : AS} (h : ExtB s (σ.put s ao) σ') (hf : Fresh σ s) : Ext σ σ' := ⟨fun b ao' e => h.hp b ao' (hf b ao' e) (put_ne (hf b ao' e) e), h.gs⟩
theorem anySet_list {l : Addr} {vs : List AV} (hl : σ.hp l = some (.list vs)) : Run x (Builtin.Frozenset.isAnySet (.ref l)) (fun b σ' => b = false ∧ σ' = σ) σ :=
  run_anySet_no (fun s R => type_list R hl) F.sub_list_set F.sub_list_frozenset ⟨rfl, rfl⟩
theorem anySet_dict {l : Addr} {vs : List (Int × AV)} {ep : Nat} (hl : σ.hp l = some (.idict vs ep)) : Run x (Builtin.Frozenset.isAnySet (.ref l)) (fun b σ' => b = false ∧ σ' = σ) σ :=
  run_anySet_no (fun s R => type_idict R hl) set_sub frz_sub ⟨rfl, rfl⟩
theorem run_typeOf {v : Value} {T : String} {Q : Value → AS → Prop} (hT : ∀ s, Rel x.C x.fs x.L σ s → s.TypeIs v T) (h : Q (.type T) σ) : Run x (typeOf v) Q σ := fun s R => wpAny_typeOf (hT s R) ⟨σ, R, h⟩

theorem upd_list {id : String} {s l : Addr} {xs ns : List Int} {ep : Nat} {Q : Unit → AS → Prop} (hh : x.A.handled = none) (hs : σ.hp s = some (.set xs ep)) (hl : σ.hp l = some (.list (avs ns))) (hns : ∀ i ∈ ns, 0 ≤ i ∧ i < 7)
    (h : ∀ σ' xs' ep', ExtB s σ σ' → σ'.hp s = some (.set xs' ep') → Small xs' → (∀ j, j ∈ xs' ↔ j ∈ xs ∨ j ∈ ns) → Q () σ') : Run x (Builtin.Frozenset.updateFrom id s (.ref l)) Q σ := by
  refine run_small hs fun hx => ?_
  refine upd_iter (anySet_list hl) (run_typeOf (fun s R => type_list R hl) ⟨by rfl, rfl⟩) (iter_list hl fun I hI => ⟨I, rfl, fun n σ' => n ≤ ns.length ∧ ExtB s σ σ' ∧ σ'.hp I = some (LIter l (ns.length - n)) ∧
    ∃ xs' ep', σ'.hp s = some (.set xs' ep') ∧ Small xs' ∧ ∀ j, j ∈ xs' ↔ j ∈ xs ∨ j ∈ ns.take (ns.length - n), ns.length, ?_, ?_⟩)
  · exact ⟨Nat.le_refl _, ExtB.refl.put hI, by rw [Nat.sub_self]; exact put_same, xs, ep, put_new hI hs, hx, fun j => by simp⟩
  · rintro n σ' ⟨hn, hE, hI', xs', ep', hs', hx', hj⟩ A' hA'
    have hls : l ≠ s := fun e => by rw [e, hs] at hl; cases hl
    have hIs : I ≠ s := fun e => hI _ _ hs e.symm
    refine next_list (hA'.2.trans hh) hI' (hE.hp _ _ hls hl) (fun hlt u hu => ?_) (fun hge => ?_)
    · have hlt' : ns.length - n < ns.length := by simpa using hlt
      obtain ⟨t, rfl⟩ := er_int (v := u) (i := ns[ns.length - n]) (by simpa [hlt'] using hu)
      refine ⟨_, t, rfl, hns _ (List.getElem_mem hlt'), xs', ep', put_ne hIs.symm hs', fun xs₂ ep₂ h1 h2 => ⟨n - 1, by omega, by omega, (hE.put hI).self, ?_, xs₂, ep₂, put_same, h1, fun j => ?_⟩⟩
      · rw [show ns.length - (n - 1) = ns.length - n + 1 by omega]
        exact put_ne hIs put_same
      · rw [h2, hj, show ns.length - (n - 1) = ns.length - n + 1 by omega, List.take_add_one, List.getElem?_eq_getElem hlt']
        simp only [Option.toList_some, List.mem_append, List.mem_singleton, or_assoc]
    · have hge' : ns.length ≤ ns.length - n := by simpa using hge
      refine h _ xs' ep' (hE.drop hI) (drop_ne hIs.symm hs') hx' fun j => ?_
      rw [hj, List.take_of_length_le hge']
theorem set_list {l : Addr} {ns : List Int} {Q : AV → AS → Prop} (hh : x.A.handled = none) (hl : σ.hp l = some (.list (avs ns))) (hns : ∀ i ∈ ns, 0 ≤ i ∧ i < 7)
    (h : ∀ a σ' xs' ep', Ext σ σ' → σ'.loc = σ.loc → Fresh σ a → σ'.hp a = some (.set xs' ep') → Small xs' → (∀ j, j ∈ xs' ↔ j ∈ ns) → Q (.ref a) σ') : RunV x (call (.type "set") [.ref l]) Q σ := by
  refine run_call_set fun a A' ha hA' => upd_list (x := x.with A') (hA'.2.trans hh) put_same (put_new ha hl) hns fun σ' xs' ep' hE hs' hx' hj => ?_
  exact h a σ' xs' ep' (hE.ext ha) hE.loc ha hs' hx' fun j => by rw [hj]; simp
end
end
-- AzSetF
section
section
variable {x : X} {α β : Type} {σ : AS} {env : Env}
theorem upd_keys {id : String} {s d : Addr} {v : Value} {xs ns : List Int} {kvs : List (Int × AV)} {ep epd : Nat} {Q : Unit → AS → Prop} (hh : x.A.handled = none) (hs : σ.hp s = some (.set xs ep)) (hd : σ.hp d = some (.idict kvs epd)) (hk : kvs.map (·.1) = ns) (hns : ∀ i ∈ ns, 0 ≤ i ∧ i < 7)
    (hn : Run x (Builtin.Frozenset.isAnySet v) (fun b σ' => b = false ∧ σ' = σ) σ) (hty : Run x (typeOf v) (fun t σ' => (t == .type "dict") = false ∧ σ' = σ) σ)
    (hit : RunV x (pyIter v) (fun a σ₁ => ∃ I, a = .ref I ∧ Fresh σ I ∧ ExtB I σ σ₁ ∧ σ₁.hp I = some (KIter d 0 kvs.length epd)) σ)
    (h : ∀ σ' xs' ep', ExtB s σ σ' → σ'.hp s = some (.set xs' ep') → Small xs' → (∀ j, j ∈ xs' ↔ j ∈ xs ∨ j ∈ ns) → Q () σ') : Run x (Builtin.Frozenset.updateFrom id s v) Q σ := by
  refine run_small hs fun hx => ?_
  have hlen : kvs.length = ns.length := by rw [← hk]; simp
  refine upd_iter hn hty (runV_mono hit fun a σ₁ ⟨I, e, hI, hE₁, hI₁⟩ => ⟨I, e, fun n σ' => n ≤ ns.length ∧ ExtB s σ σ' ∧ σ'.hp I = some (KIter d (ns.length - n) kvs.length epd) ∧
    ∃ xs' ep', σ'.hp s = some (.set xs' ep') ∧ Small xs' ∧ ∀ j, j ∈ xs' ↔ j ∈ xs ∨ j ∈ ns.take (ns.length - n), ns.length, ?_, ?_⟩)
  · refine ⟨Nat.le_refl _, ⟨fun b ao hb e => hE₁.hp b ao (hI b ao e) e, hE₁.gs, hE₁.loc⟩, by rw [Nat.sub_self]; exact hI₁, xs, ep, hE₁.hp _ _ (hI _ _ hs) hs, hx, fun j => by simp⟩
  · rintro n σ' ⟨hn, hE, hI', xs', ep', hs', hx', hj⟩ A' hA'
    have hls : d ≠ s := fun e => by rw [e, hs] at hd; cases hd
    have hIs : I ≠ s := fun e => hI _ _ hs e.symm
    refine next_idict (hA'.2.trans hh) hI' (hE.hp _ _ hls hd) (fun k av hkv t => ?_) (fun hge => ?_)
    · have hkn : ns[ns.length - n]? = some k := by rw [← hk] at *; rw [List.getElem?_map, hkv]; rfl
      have hlt' : ns.length - n < ns.length := by
        rcases Nat.lt_or_ge (ns.length - n) ns.length with h | h
        · exact h
        · rw [List.getElem?_eq_none h] at hkn; cases hkn
      refine ⟨_, t, rfl, hns _ (List.mem_of_getElem? hkn), xs', ep', put_ne hIs.symm hs', fun xs₂ ep₂ h1 h2 => ⟨n - 1, by omega, by omega, (hE.put hI).self, ?_, xs₂, ep₂, put_same, h1, fun j => ?_⟩⟩
      · rw [show ns.length - (n - 1) = ns.length - n + 1 by omega]
        exact put_ne hIs put_same
      · rw [h2, hj, show ns.length - (n - 1) = ns.length - n + 1 by omega, List.take_add_one, hkn]
        simp only [Option.toList_some, List.mem_append, List.mem_singleton, or_assoc]
    · have hge' : ns.length ≤ ns.length - n := by omega
      refine h _ xs' ep' (hE.drop hI) (drop_ne hIs.symm hs') hx' fun j => ?_
      rw [hj, List.take_of_length_le hge']

/-- the entries of an int dict -/
def DEnts (es : Array DictEntry) (kvs : List (Int × AV)) : Prop := ∀ (i : Nat) (k : Int) (a : AV), kvs[i]? = some (k, a) → ∃ (e : DictEntry) (t : Tok), es[i]? = some e ∧ e.key = .int k t ∧ e.hash = hashInt k ∧ er e.val = a
theorem pairs_at {w : World} {kvs : List (Int × Value)} {l : List DictEntry} (h : Pairs (intKind Pg w) l kvs) : l.length = kvs.length ∧ ∀ (i : Nat) k a, kvs[i]? = some (k, a) → ∃ (e : DictEntry) (t : Tok), l[i]? = some e ∧ e.key = .int k t ∧ e.val = a := by
  induction h with
  | nil => exact ⟨rfl, fun i k a h => by simp at h⟩
  | cons h1 h2 _ ih =>
    refine ⟨by simp [ih.1], fun i k a h => ?_⟩
    cases i with
    | zero =>
      rw [List.getElem?_cons_zero] at h
      cases h
      obtain ⟨t, ht⟩ := Value.isInt_shape h1
      exact ⟨_, t, rfl, ht, h2⟩
    | succ i => exact ih.2 i k a (by simpa using h)
theorem dents_at {C : Cx} {fs : List (Addr × Loc)} {L : Addr} {s : Shared} (R : Rel C fs L σ s) {d : Addr} {kvs : List (Int × AV)} {ep : Nat} (h : σ.hp d = some (.idict kvs ep)) :
    ∃ o es, s.heap.get? d = some o ∧ o.data = .dict es ep ∧ es.size = kvs.length ∧ DEnts es kvs := by
  obtain ⟨o, ho, es, kvs', h1, h2, h3, h4, h5, h6⟩ := R.get h
  obtain ⟨p1, p2⟩ := pairs_at h4
  refine ⟨o, es, ho, h2, by rw [← h6]; simpa using p1, fun i k a hi => ?_⟩
  rw [← h6, List.getElem?_map] at hi
  cases e : kvs'[i]? with
  | none => rw [e] at hi; cases hi
  | some kv =>
    rw [e] at hi
    obtain ⟨k', v⟩ := kv
    cases hi
    obtain ⟨en, t, q1, q2, q3⟩ := p2 i _ _ e
    have q1' : es[i]? = some en := by rw [← Array.getElem?_toList]; exact q1
    refine ⟨en, t, q1', q2, ?_, by rw [q3]⟩
    obtain ⟨k₂, hk₂, hh⟩ := h3 en (Array.mem_of_getElem? q1')
    rw [q2] at hk₂
    rw [hh, (intKind Pg C.w).inj _ _ _ hk₂ (intKind_is Pg C.w _ t)]
    rfl
theorem run_dictEpoch {d : Addr} {kvs : List (Int × AV)} {ep : Nat} {Q : Nat → AS → Prop} (hd : σ.hp d = some (.idict kvs ep)) (h : Q ep σ) : Run x (dictEpoch d) Q σ := fun s R => by
  obtain ⟨o, es, h1, h2, h3, h4⟩ := dents_at R hd
  exact wpAny_dictEpoch h1 h2 ⟨σ, R, h⟩
theorem run_dictEntries {d : Addr} {kvs : List (Int × AV)} {ep : Nat} {Q : Array DictEntry → AS → Prop} (hd : σ.hp d = some (.idict kvs ep)) (h : ∀ es, es.size = kvs.length → DEnts es kvs → Q es σ) : Run x (dictEntries d) Q σ := fun s R => by
  obtain ⟨o, es, h1, h2, h3, h4⟩ := dents_at R hd
  exact wpAny_dictEntries h1 h2 ⟨σ, R, h es h3 h4⟩
theorem run_notMods {d : Addr} {ao : AO} {t : Sem α} {Q : α → AS → Prop} (hd : σ.hp d = some ao) (h : (d == sysModules) = false → Run x t Q σ) : Run x t Q σ := fun s R => h (R.notMods hd) s R
theorem upd_dict {id : String} {s d : Addr} {xs ns : List Int} {kvs : List (Int × AV)} {ep epd : Nat} {Q : Unit → AS → Prop} (hs : σ.hp s = some (.set xs ep)) (hd : σ.hp d = some (.idict kvs epd)) (hk : kvs.map (·.1) = ns) (hns : ∀ i ∈ ns, 0 ≤ i ∧ i < 7) (hl : ns.length ≤ 7)
    (h : ∀ xs' ep', Small xs' → (∀ j, j ∈ xs' ↔ j ∈ xs ∨ j ∈ ns) → Q () (σ.put s (.set xs' ep'))) : Run x (Builtin.Frozenset.updateFrom id s (.ref d)) Q σ := by
  refine run_small hs fun hx => run_notMods hd fun hm => ?_
  have hds : d ≠ s := fun e => by rw [e, hs] at hd; cases hd
  have hlen : kvs.length = ns.length := by rw [← hk]; simp
  have hd' : ∀ xs' ep', (σ.put s (.set xs' ep')).hp d = some (.idict kvs epd) := fun xs' ep' => put_ne hds hd
  unfold Builtin.Frozenset.updateFrom
  refine run_bind (run_mono (anySet_dict hd) fun b σ' ⟨e1, e2⟩ => ?_)
  subst e1; rw [e2]; clear e2
  rw [if_neg Bool.false_ne_true]
  refine run_bind (run_typeOf (fun s R => type_idict R hd) ?_)
  rw [if_pos (by rfl)]
  unfold Builtin.Frozenset.addrOf
  refine run_bind (run_rule (run_bind (run_pure ?_)))
  dsimp only
  rw [hm, if_neg Bool.false_ne_true]
  refine run_bind (run_dictEpoch hd (run_bind (run_dictEntries hd fun es₀ hs₀ _ => run_bind (run_roomFor hs (by rw [hs₀, hlen]; exact hl) fun ep₁ => run_bind (run_dictEntries (hd' _ _) fun es₁ hs₁ _ => run_bind ?_)))))
  rw [Std.Legacy.Range.forIn_eq_forIn_range']
  refine run_forIn (fun l σ' => ∃ (n : Nat) (xs' : List Int) (ep' : Nat), l = List.range' n (ns.length - n) ∧ n ≤ ns.length ∧ Small xs' ∧ (∀ j, j ∈ xs' ↔ j ∈ xs ∨ j ∈ ns.take n) ∧ σ' = σ.put s (.set xs' ep')) ?_ ?_ ?_
  · refine ⟨0, xs, ep₁, ?_, Nat.zero_le _, hx, fun j => by simp, rfl⟩
    rw [hs₁, hlen]; simp
  · rintro i r σ₁ ⟨n, xs', ep', hl', hn, hx', hj, rfl⟩
    have hnl : n < ns.length := by
      rcases Nat.lt_or_ge n ns.length with h | h
      · exact h
      · rw [show ns.length - n = 0 by omega] at hl'; cases hl'
    rw [show ns.length - n = (ns.length - (n + 1)) + 1 by omega, List.range'_succ, List.cons.injEq] at hl'
    obtain ⟨rfl, rfl⟩ := hl'
    refine run_bind (run_dictEntries (hd' _ _) fun es he hde => ?_)
    have hk' : kvs[i]? = some (ns[i], (kvs[i]'(by omega)).2) := by
      rw [List.getElem?_eq_getElem (by omega)]
      congr 1
      refine Prod.ext ?_ rfl
      have : (kvs.map (·.1))[i]? = ns[i]? := by rw [hk]
      rw [List.getElem?_map, List.getElem?_eq_getElem (by omega), List.getElem?_eq_getElem hnl] at this
      exact Option.some.inj this
    obtain ⟨e, t, h1, h2, h3, h4⟩ := hde i _ _ hk'
    rw [h1]
    dsimp only
    rw [h2, h3]
    have hin := hns ns[i] (List.getElem_mem hnl)
    have hh : hashInt ns[i] = ns[i] := hash_small (w := x.C.w) hin
    rw [hh]
    refine run_bind (run_hold (run_addH put_same hin fun xs₂ ep₂ hw' hj' => ?_))
    rw [put_put]
    refine run_bind (run_dictEpoch (hd' _ _) ?_)
    rw [bne_self_eq_false, if_neg Bool.false_ne_true]
    refine run_pure ⟨rfl, i + 1, xs₂, ep₂, rfl, hnl, hw', fun j => ?_, rfl⟩
    rw [hj', hj, List.take_add_one, List.getElem?_eq_getElem hnl]
    simp only [Option.toList_some, List.mem_append, List.mem_singleton, or_assoc]
  · rintro σ₁ ⟨n, xs', ep', hl', hn, hx', hj, rfl⟩
    have : n = ns.length := by
      rcases Nat.lt_or_ge n ns.length with h | h
      · rw [show ns.length - n = (ns.length - (n + 1)) + 1 by omega, List.range'_succ] at hl'; cases hl'
      · omega
    subst this
    exact run_pure (h xs' ep' hx' fun j => by rw [hj, List.take_length])
theorem set_dict {d : Addr} {ns : List Int} {kvs : List (Int × AV)} {epd : Nat} {Q : AV → AS → Prop} (hd : σ.hp d = some (.idict kvs epd)) (hk : kvs.map (·.1) = ns) (hns : ∀ i ∈ ns, 0 ≤ i ∧ i < 7) (hl : ns.length ≤ 7)
    (h : ∀ a xs' ep', Fresh σ a → Small xs' → (∀ j, j ∈ xs' ↔ j ∈ ns) → Q (.ref a) (σ.put a (.set xs' ep'))) : RunV x (call (.type "set") [.ref d]) Q σ := by
  refine run_call_set fun a A' ha hA' => upd_dict (x := x.with A') put_same (put_new ha hd) hk hns hl fun xs' ep' hx' hj => ?_
  rw [put_put]
  exact h a xs' ep' ha hx' fun j => by rw [hj]; simp
end
end
-- AzSetG
section
theorem entry_union : entryFor table "set.union" = some Builtin.«frozenset.union» := entryFor_alias (id' := "frozenset.union") (by kernel_rfl) rfl (by decide +kernel) (by kernel_rfl)
theorem entry_setsub : entryFor table "set.__sub__" = some Builtin.«frozenset.__sub__» := entryFor_alias (id' := "frozenset.__sub__") (by kernel_rfl) rfl (by decide +kernel) (by kernel_rfl)
theorem entry_setlen : entryFor table "set.__len__" = some Builtin.«frozenset.__len__» := entryFor_alias (id' := "frozenset.__len__") (by kernel_rfl) rfl (by decide +kernel) (by kernel_rfl)
theorem entry_setiter : entryFor table "set.__iter__" = some Builtin.«frozenset.__iter__» := entryFor_alias (id' := "frozenset.__iter__") (by kernel_rfl) rfl (by decide +kernel) (by kernel_rfl)
section
variable {x : X} {α β : Type} {σ : AS} {env : Env}
theorem run_entry {T : String} {name : Str} {id : String} {b : Builtin} {self : Value} {rest : List Value} {Q : AV → AS → Prop} (h : Slot T name id) (hT : ∀ s, Rel x.C x.fs x.L σ s → s.TypeIs self T) (hb : entryFor table id = some b)
    (hc : Run (x.with x.A.in1) (b ⟨self :: rest, []⟩) (fun fin σ' => ∃ v, fin = .done (.ret v) ∧ Q (er v) σ') σ) (ha : argsOk id ⟨self :: rest, []⟩) : RunV x (call (.builtin id) (self :: rest)) Q σ := by
  intro s R
  refine wpAny_call_entry h (hT s R) hb (run_to hc R fun fin σ' s' R' ⟨v, e, q⟩ => ⟨v, e, σ', R', q⟩) ha
theorem run_ret {v : Value} {Q : AV → AS → Prop} (h : Q (er v) σ) : Run x (ret v) (fun fin σ' => ∃ u, fin = .done (.ret u) ∧ Q (er u) σ') σ := run_pure ⟨v, rfl, h⟩
theorem run_baseOf {s : Addr} {xs : List Int} {ep : Nat} {Q : Value → AS → Prop} (hs : σ.hp s = some (.set xs ep)) (h : Q (.type "set") σ) : Run x (Builtin.Frozenset.baseOf s) Q σ := by
  unfold Builtin.Frozenset.baseOf
  exact run_bind (run_isInstance (fun s R => type_set R hs) sub_set_self (run_pure h))
theorem run_copyOf {s : Addr} {xs : List Int} {ep : Nat} {Q : AV → AS → Prop} (hs : σ.hp s = some (.set xs ep)) (h : ∀ a xs' ep', Fresh σ a → Small xs' → (∀ j, j ∈ xs' ↔ j ∈ xs) → Q (.ref a) (σ.put a (.set xs' ep'))) : RunV x (Builtin.Frozenset.copyOf s) Q σ := by
  unfold Builtin.Frozenset.copyOf
  refine run_bind (run_baseOf hs (runV_bind (new_set fun a ha => ?_)))
  intro v hv
  cases er_ref hv
  unfold Builtin.Frozenset.addrOf
  refine run_bind (run_pure (run_bind (run_setMerge (fun e => ha _ _ hs e.symm) put_same (put_new ha hs) (fun σ' Q' _ q => run_pure q) fun xs' ep' h1 h2 => ?_)))
  rw [put_put]
  exact run_pure (h a xs' ep' ha h1 fun j => by rw [h2]; simp)
/-- s.union(o) -/
theorem call_union {s : Addr} {o : Value} {xs ys : List Int} {ep : Nat} {Q : AV → AS → Prop} (hs : σ.hp s = some (.set xs ep)) (hne : (o != .ref s) = true)
    (hu : ∀ a σ' xs' ep' A' (Q' : Unit → AS → Prop), Fresh σ a → Sim x.A A' → σ' = σ.put a (.set xs' ep') → (∀ σ₂ xs₂ ep₂, ExtB a σ' σ₂ → σ₂.hp a = some (.set xs₂ ep₂) → Small xs₂ → (∀ j, j ∈ xs₂ ↔ j ∈ xs' ∨ j ∈ ys) → Q' () σ₂) → Run (x.with A') (Builtin.Frozenset.updateFrom "frozenset.union" a o) Q' σ')
    (h : ∀ a σ' xs' ep', Ext σ σ' → σ'.loc = σ.loc → Fresh σ a → σ'.hp a = some (.set xs' ep') → Small xs' → (∀ j, j ∈ xs' ↔ j ∈ xs ∨ j ∈ ys) → Q (.ref a) σ') : RunV x (call (.builtin "set.union") [.ref s, o]) Q σ := by
  refine run_entry F.slot_set_union (fun s R => type_set R hs) entry_union ?_ (F.args_set_union_2 _ _)
  unfold Builtin.«frozenset.union» Builtin.Frozenset.manyOthers Builtin.Frozenset.addrOf
  simp only [List.isEmpty_nil, Bool.not_true, Bool.false_eq_true, if_false, bind_assoc]
  refine run_bind (run_pure ?_)
  try dsimp only
  refine run_bind (run_pure ?_)
  try dsimp only
  refine runV_bind (run_copyOf hs fun a xs' ep' ha h1 h2 => ?_)
  intro v hv
  cases er_ref hv
  refine run_bind (run_hold ?_)
  show Run _ (forIn [o] PUnit.unit _ >>= _) _ _
  refine run_bind (run_forIn (fun l σ' => (l = [o] ∧ σ' = σ.put a (.set xs' ep')) ∨ (l = [] ∧ ∃ xs₂ ep₂, ExtB a (σ.put a (.set xs' ep')) σ' ∧ σ'.hp a = some (.set xs₂ ep₂) ∧ Small xs₂ ∧ ∀ j, j ∈ xs₂ ↔ j ∈ xs ∨ j ∈ ys)) (.inl ⟨rfl, rfl⟩) ?_ ?_)
  · rintro y r σ₁ (⟨e, rfl⟩ | ⟨e, _⟩)
    · cases e
      rw [if_pos hne]
      refine run_bind (run_pure (run_bind (hu a _ xs' ep' _ _ ha ⟨rfl, rfl⟩ rfl fun σ₂ xs₂ ep₂ hE g1 g2 g3 => ?_)))
      exact run_pure ⟨rfl, .inr ⟨rfl, xs₂, ep₂, hE, g1, g2, fun j => by rw [g3, h2]⟩⟩
    · cases e
  · rintro σ₁ (⟨e, _⟩ | ⟨_, xs₂, ep₂, hE, g1, g2, g3⟩)
    · cases e
    · exact run_pure (run_ret (h a σ₁ xs₂ ep₂ (hE.ext ha) hE.loc ha g1 g2 g3))
theorem union_list {s l : Addr} {xs ys : List Int} {ep : Nat} {Q : AV → AS → Prop} (hh : x.A.handled = none) (hs : σ.hp s = some (.set xs ep)) (hl : σ.hp l = some (.list (avs ys))) (hys : ∀ i ∈ ys, 0 ≤ i ∧ i < 7)
    (h : ∀ a σ' xs' ep', Ext σ σ' → σ'.loc = σ.loc → Fresh σ a → σ'.hp a = some (.set xs' ep') → Small xs' → (∀ j, j ∈ xs' ↔ j ∈ xs ∨ j ∈ ys) → Q (.ref a) σ') : RunV x (call (.builtin "set.union") [.ref s, .ref l]) Q σ := by
  have hne : l ≠ s := fun e => by rw [e, hs] at hl; cases hl
  refine call_union hs (by simpa using hne) (fun a σ' xs' ep' A' Q' ha hA e hq => ?_) h
  subst e
  exact upd_list (x := x.with A') (hA.2.trans hh) put_same (put_new ha hl) hys hq
theorem union_set {s o : Addr} {xs ys : List Int} {ep epo : Nat} {Q : AV → AS → Prop} (hs : σ.hp s = some (.set xs ep)) (ho : σ.hp o = some (.set ys epo)) (hne : o ≠ s)
    (h : ∀ a σ' xs' ep', Ext σ σ' → σ'.loc = σ.loc → Fresh σ a → σ'.hp a = some (.set xs' ep') → Small xs' → (∀ j, j ∈ xs' ↔ j ∈ xs ∨ j ∈ ys) → Q (.ref a) σ') : RunV x (call (.builtin "set.union") [.ref s, .ref o]) Q σ := by
  refine call_union hs (by simpa using hne) (fun a σ' xs' ep' A' Q' ha hA e hq => ?_) h
  subst e
  exact upd_set (x := x.with A') (fun e => ha _ _ ho e.symm) put_same (put_new ha ho) fun xs₂ ep₂ h1 h2 => hq _ xs₂ ep₂ ExtB.refl.self put_same h1 h2
/-- s.update(o) -/
theorem call_update {s o : Addr} {xs ys : List Int} {ep epo : Nat} {Q : AV → AS → Prop} (hs : σ.hp s = some (.set xs ep)) (ho : σ.hp o = some (.set ys epo)) (hne : o ≠ s)
    (h : ∀ xs' ep', Small xs' → (∀ j, j ∈ xs' ↔ j ∈ xs ∨ j ∈ ys) → Q .none (σ.put s (.set xs' ep'))) : RunV x (call (.builtin "set.update") [.ref s, .ref o]) Q σ := by
  refine run_entry F.slot_set_update (fun s R => type_set R hs) F.entry_set_update ?_ (F.args_set_update_2 _ _)
  unfold Builtin.«set.update» Builtin.Frozenset.manyOthers Builtin.Frozenset.addrOf
  simp only [List.isEmpty_nil, Bool.not_true, Bool.false_eq_true, if_false, bind_assoc]
  refine run_bind (run_pure ?_)
  try dsimp only
  refine run_bind (run_pure ?_)
  try dsimp only
  refine run_bind (run_forIn (fun l σ' => (l = [Value.ref o] ∧ σ' = σ) ∨ (l = [] ∧ Q .none σ')) (.inl ⟨rfl, rfl⟩) ?_ ?_)
  · rintro y r σ₁ (⟨e, rfl⟩ | ⟨e, _⟩)
    · cases e
      exact run_bind (upd_set hne.symm hs ho fun xs' ep' h1 h2 => run_pure ⟨rfl, .inr ⟨rfl, h xs' ep' h1 h2⟩⟩)
    · cases e
  · rintro σ₁ (⟨e, _⟩ | ⟨_, q⟩)
    · cases e
    · exact run_ret q
end
end
-- AzExt
section
section
variable {x : X} {α β : Type} {σ : AS} {env : Env}
theorem run_seqUpd {l : Addr} {vs vs' : List AV} {f : Array Value → Array Value} {Q : Unit → AS → Prop} (hl : σ.hp l = some (.list vs)) (hf : ∀ xs : Array Value, xs.toList.map er = vs → (f xs).toList.map er = vs' ∧ (f xs).size < 1000) (hz : vs.length < 1000)
    (h : Q () (σ.put l (.list vs'))) : Run x (Builtin.List.listUpdate (.ref l) f) Q σ := by
  intro s R
  obtain ⟨xs, n, ho, hx, hL⟩ := list_at R hl
  obtain ⟨h1, h2⟩ := hf xs hx
  have hsz : xs.size < 1000 := by have := congrArg List.length hx; simp at this; omega
  refine listUpdate_at ho rfl ?_ (fits hsz) (Nat.le_trans (fits h2) (Nat.le_succ _))
  have hg := get?_update_seq ho f
  exact ⟨_, R.upd (ao := .list vs') hl (Heap.SameBut.update s.heap l (Obj.mapSeq f)).extBut hg ⟨_, _, rfl, h1⟩ s.toks, h⟩
theorem run_push {l : Addr} {vs : List AV} {v : Value} {Q : Unit → AS → Prop} (hl : σ.hp l = some (.list vs)) (hz : vs.length < 900) (h : Q () (σ.put l (.list (vs ++ [er v])))) : Run x (Builtin.List.listUpdate (.ref l) (·.push v)) Q σ :=
  run_seqUpd hl (fun xs hx => ⟨by simp [hx], by have := congrArg List.length hx; simp at this; simp; omega⟩) (by omega) h
theorem run_touch {l : Addr} {vs : List AV} {Q : Unit → AS → Prop} (hl : σ.hp l = some (.list vs)) (hz : vs.length < 900) (h : Q () (σ.put l (.list vs))) : Run x (Builtin.List.listTouch (.ref l)) Q σ := by
  unfold Builtin.List.listTouch
  refine run_bind (run_push hl hz (run_seqUpd put_same (vs' := vs) (fun xs hx => ?_) (by simp; omega) (by rw [put_put]; exact h)))
  constructor
  · rw [Array.toList_pop, List.map_dropLast, hx]
    simp
  · have := congrArg List.length hx
    simp at this
    simp
    omega
theorem run_listItems {l : Addr} {vs : List AV} {Q : Array Value → AS → Prop} (hl : σ.hp l = some (.list vs)) (h : ∀ xs : Array Value, xs.toList.map er = vs → Q xs σ) : Run x (Builtin.List.listItems (.ref l)) Q σ := by
  intro s R
  obtain ⟨xs, n, ho, hx, hL⟩ := list_at R hl
  exact listItems_at ho rfl ⟨σ, R, h xs hx⟩

theorem entry_extloop : entryFor table "list.extend.loop" = some Builtin.«list.extend.loop» := entryFor_of_tree (by kernel_rfl)
theorem plain_extloop : plainId "list.extend.loop" = true := by decide +kernel
/-- list.extend.loop -/
theorem run_extLoop {l I : Addr} {res : Value} {P : AS → Prop} (J : Nat → AS → Prop)
    (turn : ∀ n σ, J n σ → ∀ A', Sim x.A A' → Run (x.with A') (pyNext (.ref I)) (fun r σ₁ => match r with
      | none => P σ₁
      | some v => ∃ vs, σ₁.hp l = some (.list vs) ∧ vs.length < 900 ∧ ∃ m, m < n ∧ J m (σ₁.put l (.list (vs ++ [er v])))) σ) :
    ∀ n σ, J n σ → RunC x (.builtin "list.extend.loop" ⟨[.ref l, .ref I, res], []⟩) (fun r σ' => r = .ok (.ret res) ∧ P σ') σ := by
  intro n
  induction n using Nat.strongRecOn with
  | ind n ih =>
    intro σ hJ s₀ R
    refine codeAny_builtin entry_extloop ?_
    rw [Around.under_plainId plain_extloop _]
    show wpAny _ x.A.in1 (pyNext (.ref I) >>= _) _ _ s₀
    refine wpAny_bind (run_to (turn n σ hJ x.A.in1 ⟨rfl, rfl⟩) R fun r σ₁ s₁ R₁ h₁ => ?_)
    cases r with
    | none => exact wpAny_pure ⟨σ₁, R₁, rfl, h₁⟩
    | some v =>
      obtain ⟨vs, hl, hz, m, hm, hj⟩ := h₁
      refine wpAny_bind (run_to (run_push (x := x.with x.A.in1) (Q := fun _ σ' => J m σ') hl hz hj) R₁ fun _ σ₂ s₂ R₂ hJ₂ => ?_)
      exact wpAny_pure ⟨plainId_quiet plain_extloop _, ih m hm σ₂ hJ₂ s₂ R₂⟩

/-- how a source of items is walked -/
def Source (x : X) (v : Value) (l : Addr) (P : AS → Prop) (σ : AS) : Prop :=
  ∃ T, (T != .type "list" && T != .type "tuple") = true ∧ Run x (typeOf v) (fun t σ' => t = T ∧ σ' = σ) σ ∧ RunV x (pyIter v) (fun a σ₁ => ∃ I, a = .ref I ∧
    Run x (Builtin.List.listLengthHint v) (fun _ σ₂ => ∃ vs, σ₂.hp l = some (.list vs) ∧ vs.length < 900 ∧ ∃ (J : Nat → AS → Prop) (n : Nat), J n (σ₂.put l (.list vs)) ∧
      ∀ n σ, J n σ → ∀ A', Sim x.A A' → Run (x.with A') (pyNext (.ref I)) (fun r σ₁ => match r with
        | none => P σ₁
        | some v => ∃ vs, σ₁.hp l = some (.list vs) ∧ vs.length < 900 ∧ ∃ m, m < n ∧ J m (σ₁.put l (.list (vs ++ [er v])))) σ) σ₁) σ
theorem run_extendWith {l : Addr} {v res : Value} {P : AS → Prop} {R : Fin → AS → Prop} (hne : Builtin.List.listSameRef (.ref l) v = false) (h : Source x v l P σ)
    (hR : ∀ c σ', c.quiet = true → (∀ A', Sim x.A A' → RunC (x.with A') c (fun r σ₂ => r = .ok (.ret res) ∧ P σ₂) σ') → R (.again c) σ') : Run x (Builtin.List.listExtendWith (.ref l) v res) R σ := by
  obtain ⟨T, hT, h1, h2⟩ := h
  unfold Builtin.List.listExtendWith
  refine run_bind (run_mono h1 fun t σ' ⟨e1, e2⟩ => ?_)
  rw [e1, e2, hne]
  rw [Bool.and_eq_true, bne_iff_ne, bne_iff_ne] at hT
  have g1 : (T == .type "list") = false := by rw [beq_eq_false_iff_ne]; exact hT.1
  have g2 : (T == .type "tuple") = false := by rw [beq_eq_false_iff_ne]; exact hT.2
  rw [g1, g2]
  simp only [Bool.or_self, Bool.false_eq_true, if_false]
  refine runV_bind (runV_mono h2 fun a σ₁ ⟨I, e, h3⟩ it hit => ?_)
  subst e
  cases er_ref hit
  refine run_bind (run_hold (run_mono h3 fun b σ₂ ⟨vs, hl, hz, J, n, hJ, turn⟩ => ?_))
  have hend : R (.again (.builtin "list.extend.loop" ⟨[.ref l, .ref I, res], []⟩)) (σ₂.put l (.list vs)) :=
    hR _ _ (plainId_quiet plain_extloop _) fun A' hA' => run_extLoop (x := x.with A') J (fun n σ hj A'' hA'' => turn n σ hj A'' ⟨hA''.1.trans hA'.1, hA''.2.trans hA'.2⟩) n _ hJ
  split
  · exact run_bind (run_rule (run_bind (run_touch hl hz (run_pure hend))))
  · rw [put_id hl] at hend
    exact run_pure hend
end
end
-- AzSetH
section
def belowB : Bool := (subsOf upTo).all fun xs => (List.range (xs.length + 1)).all fun i => SetTable.below (xs.map Int.toNat).toArray (if i = 0 then 0 else (xs.getD (i - 1) 0).toNat + 1) == i
theorem belowB_true : belowB = true := by decide +kernel
section
variable {x : X} {α β : Type} {σ : AS} {env : Env}
/-- the order in which a set is walked -/
def ordOf (w : World) (s : Addr) (ep : Nat) (xs : List Int) : List Int := if w.params.followText "set-order" = true then (pickOrder (w.params.setOrder s ep) xs.toArray).toList else xs
theorem ordOf_perm {w : World} {s : Addr} {ep : Nat} {xs : List Int} : (ordOf w s ep xs).Perm xs := by
  unfold ordOf
  split
  · exact pick_perm _ _
  · exact List.Perm.refl _
def slotOf (w : World) (xs : List Int) (i : Nat) : Nat := if w.params.followText "set-order" = true then 0 else if i = 0 then 0 else (xs.getD (i - 1) 0).toNat + 1
abbrev SIter (w : World) (s : Addr) (xs : List Int) (i ep : Nat) : AO := .ob "set_iterator" #[.int (slotOf w xs i) 0, .int i 0, .ref s, .int xs.length 0, .int ep 0]
theorem map_eraseIdx {α β : Type} (f : α → β) : ∀ (l : List α) (i : Nat), (l.map f).eraseIdx i = (l.eraseIdx i).map f
  | [], _ => rfl
  | _ :: _, 0 => rfl
  | a :: r, i + 1 => by
    rw [List.map_cons, List.eraseIdx_cons_succ, List.eraseIdx_cons_succ, List.map_cons, map_eraseIdx f r i]
theorem pick_map {α β : Type} (f : α → β) (next : Nat → Nat) : ∀ (n k : Nat) (l : List α) (out : Array α), pickOrder.go next n k (l.map f) (out.map f) = (pickOrder.go next n k l out).map f
  | 0, _, _, _ => rfl
  | n + 1, k, l, out => by
    unfold pickOrder.go
    rw [List.length_map, List.getElem?_map]
    cases l[next k % l.length]? with
    | none => rfl
    | some x =>
      show pickOrder.go next n (k + 1) ((l.map f).eraseIdx _) ((out.map f).push (f x)) = _
      rw [map_eraseIdx, ← Array.map_push]
      exact pick_map f next n (k + 1) _ _
theorem pickOrder_map {α β : Type} (f : α → β) (next : Nat → Nat) (xs : Array α) : pickOrder next (xs.map f) = (pickOrder next xs).map f := by
  unfold pickOrder
  rw [Array.size_map, Array.toList_map]
  exact (by simpa using pick_map f next xs.size 0 xs.toList #[])
theorem Ents.walk {w : World} {s : Addr} {ep : Nat} {es : Array (Int × Value)} {xs : List Int} (h : Ents es xs) (hb : w.params.followText "set-order" = true) : Ents (pickOrder (w.params.setOrder s ep) es) (ordOf w s ep xs) := by
  unfold Ents ordOf
  rw [if_pos hb]
  have e1 : es.map (fun e => (e.1, er e.2)) = (xs.toArray.map fun i => (i, AV.int i)) := by
    apply Array.toList_inj.mp
    rw [Array.toList_map, Array.toList_map]
    exact h
  have := congrArg (pickOrder (w.params.setOrder s ep)) e1
  rw [pickOrder_map, pickOrder_map] at this
  have := congrArg Array.toList this
  rwa [Array.toList_map, Array.toList_map] at this
theorem run_setNext {a : Addr} {xs : List Int} {ep slot given : Nat} {Q : Option (Value × Nat) → AS → Prop} (hs : σ.hp a = some (.set xs ep)) (i : Nat) (hi : i ≤ xs.length) (hg : given = i) (hsl : slot = slotOf x.C.w xs i)
    (hn : i < xs.length → ∀ t, ∀ k, (ordOf x.C.w a ep xs)[i]? = some k → Q (some (.int k t, slotOf x.C.w xs (i + 1))) σ) (he : xs.length = i → Q none σ) : Run x (setNext a slot given ep) Q σ := by
  have hlen : (ordOf x.C.w a ep xs).length = xs.length := ordOf_perm.length_eq
  unfold setNext setsByText
  refine run_bind (run_setState hs fun es t h1 h2 h3 => ?_)
  dsimp only
  refine run_bind (run_bind (run_ask (run_pure ?_)))
  show Run x (if x.bt = true then _ else _) _ σ
  cases hb : x.bt with
  | true =>
    have hb' : x.C.w.params.followText "set-order" = true := hb
    rw [if_pos rfl, bne_self_eq_false, if_neg Bool.false_ne_true]
    unfold setWalk setsByText
    refine run_bind (Q := _) (f := _) (run_bind (run_setState hs fun es₂ t₂ g1 g2 g3 => ?_))
    dsimp only
    refine run_bind (run_bind (run_ask (run_pure ?_)))
    show Run x (if x.bt = true then _ else _) _ σ
    rw [hb, if_pos rfl]
    refine run_bind (run_ask (run_pure ?_))
    have hw := g1.walk (s := a) (ep := ep) hb'
    have hsl' : slot = 0 := by rw [hsl]; unfold slotOf; rw [if_pos hb']
    by_cases hlt : i < xs.length
    · have hlt' : i < (ordOf x.C.w a ep xs).length := by rw [hlen]; exact hlt
      have hsz := hw.size
      have e1 : ((pickOrder (x.C.w.params.setOrder a ep) es₂).toList.map fun e => (e.1, er e.2))[i]? = some ((ordOf x.C.w a ep xs)[i], .int (ordOf x.C.w a ep xs)[i]) := by
        rw [hw, List.getElem?_map, List.getElem?_eq_getElem hlt']; rfl
      rw [List.getElem?_map, Array.getElem?_toList] at e1
      cases e2 : (pickOrder (x.C.w.params.setOrder a ep) es₂)[i]? with
      | none => rw [e2] at e1; cases e1
      | some e =>
        rw [e2] at e1
        obtain ⟨e1, v⟩ := e
        simp only [Option.map_some, Option.some.injEq, Prod.mk.injEq] at e1
        obtain ⟨t', rfl⟩ := er_int e1.2
        have := hn hlt t' _ (List.getElem?_eq_getElem hlt')
        rw [hg, e2]
        refine run_pure ?_
        have hz : slotOf x.C.w xs (i + 1) = 0 := by unfold slotOf; rw [if_pos hb']
        rw [hz] at this
        rw [hsl']
        exact this
    · have hge : (pickOrder (x.C.w.params.setOrder a ep) es₂).size ≤ i := by rw [hw.size, hlen]; omega
      rw [hg, Array.getElem?_eq_none hge]
      exact run_pure (he (by omega))
  | false =>
    have hb' : x.C.w.params.followText "set-order" = false := hb
    rw [if_neg Bool.false_ne_true]
    have hd : (!t.plain && decide (es.size > 1)) = false := by rw [h3.plain]; rfl
    have hl : (!t.led && !es.isEmpty) = false := by rw [h3.led, hb]; rfl
    show Run x (if (!t.plain && decide (es.size > 1)) = true then (unsupported "set_iterator.__next__:the-table-is-plain-no-more" >>= fun _ => _) else ((if (!t.led && !es.isEmpty) = true then unsupported "set:maker-not-led" else pure ()) >>= fun _ => pure (match es[SetTable.below t.place slot]?, t.place[SetTable.below t.place slot]? with
      | some (_, x), some j => some (x, j + 1)
      | _, _ => none))) _ σ
    rw [hd, hl, if_neg Bool.false_ne_true, if_neg Bool.false_ne_true]
    refine run_bind (run_pure ?_)
    have hbel : SetTable.below t.place slot = i := by
      have q1 := List.all_eq_true.mp belowB_true xs h2.mem
      have q2 := List.all_eq_true.mp q1 i (List.mem_range.mpr (by omega))
      rw [h3.place, hsl]
      unfold slotOf
      rw [if_neg (by rw [hb']; exact Bool.false_ne_true)]
      exact eq_of_beq q2
    rw [hbel]
    have hord : ordOf x.C.w a ep xs = xs := by unfold ordOf; rw [if_neg (by rw [hb']; exact Bool.false_ne_true)]
    by_cases hlt : i < xs.length
    · have e1 : (es.toList.map fun e => (e.1, er e.2))[i]? = some (xs[i], .int xs[i]) := by
        rw [h1, List.getElem?_map, List.getElem?_eq_getElem hlt]; rfl
      rw [List.getElem?_map, Array.getElem?_toList] at e1
      have e3 : t.place[i]? = some xs[i].toNat := by rw [h3.place]; simp [hlt]
      cases e2 : es[i]? with
      | none => rw [e2] at e1; cases e1
      | some e =>
        rw [e2] at e1
        obtain ⟨e1, v⟩ := e
        simp only [Option.map_some, Option.some.injEq, Prod.mk.injEq] at e1
        obtain ⟨t', rfl⟩ := er_int e1.2
        rw [e3]
        have := hn hlt t' xs[i] (by rw [hord, List.getElem?_eq_getElem hlt])
        have hz : slotOf x.C.w xs (i + 1) = xs[i].toNat + 1 := by
          unfold slotOf
          rw [if_neg (by rw [hb']; exact Bool.false_ne_true), if_neg (by omega)]
          simp [hlt]
        rw [hz] at this
        exact run_pure this
    · have hge : es.size ≤ i := by rw [h1.size]; omega
      rw [Array.getElem?_eq_none hge]
      exact run_pure (he (by omega))
end
end
-- AzSetI
section
theorem slot_setiter_next : Slot "set_iterator" "__next__" "set_iterator.__next__" :=
  .of (owner := "set_iterator") (n := "__next__") (by rw [typeLookup_type, builtinLookup_eq_fast]; kernel_rfl) (by decide +kernel) (by decide +kernel) (by decide +kernel)
    (by first | exact .inl (by decide +kernel) | exact .inr (by decide +kernel)) (by rw [isSubtype_type]; kernel_rfl)
theorem entry_setiter_next : entryFor table "set_iterator.__next__" = some Builtin.«set_iterator.__next__» := entryFor_of_tree (by kernel_rfl)
theorem args_setiter_next (a : Value) : argsOk "set_iterator.__next__" ⟨[a], []⟩ := by
  unfold argsOk; kernel_rfl
theorem setiter_self : Slot "set_iterator" "__iter__" "set_iterator.__iter__" :=
  .of (owner := "set_iterator") (n := "__iter__") (by rw [typeLookup_type, builtinLookup_eq_fast]; kernel_rfl) (by decide +kernel) (by decide +kernel) (by decide +kernel)
    (by first | exact .inl (by decide +kernel) | exact .inr (by decide +kernel)) (by rw [isSubtype_type]; kernel_rfl)
end
-- AzSetJ
section
section
variable {x : X} {α β : Type} {σ : AS} {env : Env}
theorem siter_at {C : Cx} {fs : List (Addr × Loc)} {L : Addr} {s : Shared} (R : Rel C fs L σ s) {I a : Addr} {xs : List Int} {i ep : Nat} (h : σ.hp I = some (SIter C.w a xs i ep)) :
    ∃ o, s.heap.get? I = some o ∧ o.cls = .type "set_iterator" ∧ o.data = .fields #[.int (slotOf C.w xs i) 0, .int i 0, .ref a, .int xs.length 0, .int ep 0] := ob_at R h
theorem run_setField {n : String} {I : Addr} {fs : Array Value} {i : Nat} {v : Value} {Q : Unit → AS → Prop} (hI : σ.hp I = some (.ob n fs)) (hi : i < fs.size) (h : Q () (σ.put I (.ob n (fs.setIfInBounds i v)))) : Run x (setField (.ref I) i v) Q σ := by
  intro s R
  obtain ⟨o, h1, h2, h3⟩ := ob_at R hI
  refine wpAny_setField h1 h3 hi ?_
  have hg := Heap.get?_update_self (Obj.mapFields (·.setIfInBounds i v)) h1 (Obj.isFreed_of_fields (Obj.data_mapFields h3 _))
  exact ⟨_, R.upd (ao := .ob n (fs.setIfInBounds i v)) hI (Heap.SameBut.update s.heap I _).extBut hg ⟨(Obj.cls_mapFields ..).trans h2, Obj.data_mapFields h3 _⟩ s.toks, h⟩
theorem run_fieldsOf {n : String} {I : Addr} {fs : Array Value} {Q : Array Value → AS → Prop} (hI : σ.hp I = some (.ob n fs)) (h : Q fs σ) : Run x (fieldsOf (.ref I)) Q σ := by
  intro s R
  obtain ⟨o, h1, h2, h3⟩ := ob_at R hI
  exact wpAny_fieldsOf h1 h3 ⟨σ, R, h⟩
theorem next_set {I a : Addr} {xs : List Int} {i ep : Nat} {Q : Option Value → AS → Prop} (hh : x.A.handled = none) (hI : σ.hp I = some (SIter x.C.w a xs i ep)) (hs : σ.hp a = some (.set xs ep)) (hle : i ≤ xs.length)
    (hn : ∀ k t, (ordOf x.C.w a ep xs)[i]? = some k → Q (some (.int k t)) (σ.put I (SIter x.C.w a xs (i + 1) ep))) (he : xs.length = i → Q none (σ.drop I)) : Run x (pyNext (.ref I)) Q σ := by
  intro s R
  obtain ⟨o, h1, h2, h3⟩ := siter_at R hI
  have hT : s.TypeIs (.ref I) "set_iterator" := ⟨o, h1, h2⟩
  have hlen : (ordOf x.C.w a ep xs).length = xs.length := ordOf_perm.length_eq
  unfold pyNext
  refine wpAny_bind (wpAny_attempt (wpAny_callSpecial?_slot (name := Str.ofString "__next__") hT slot_setiter_next
    (wpAny_call_entry slot_setiter_next hT entry_setiter_next ?_ (args_setiter_next _))))
  unfold Builtin.«set_iterator.__next__» slotArgs
  simp only [List.isEmpty_nil, Bool.not_true, Bool.false_eq_true, ↓reduceIte, bind_assoc, List.length_nil, bne_self_eq_false]
  refine wpAny_bind (wpAny_pure ?_)
  try dsimp only
  refine wpAny_bind (wpAny_fieldsOf h1 h3 ?_)
  try dsimp only
  refine wpAny_bind (run_to (x := x.with x.A.in1) (run_setEntries hs (Q := fun es σ' => es.size = xs.length ∧ σ' = σ) fun es h _ => ⟨h.size, rfl⟩) R fun es σ' s' R' ⟨hz, e⟩ => ?_)
  rw [e] at R'
  clear e
  rw [if_neg (by rw [hz]; simp)]
  try dsimp only
  by_cases hlt : i < xs.length
  · refine wpAny_bind (run_to (x := x.with x.A.in1) (run_setNext hs i hle (by simp) (by simp) (Q := fun r σ' => (∃ k t, (ordOf x.C.w a ep xs)[i]? = some k ∧ r = some (.int k t, slotOf x.C.w xs (i + 1))) ∧ σ' = σ) (fun _ t k hk => ⟨⟨k, t, hk, rfl⟩, rfl⟩) (fun h => by omega)) R' fun r σ₂ s₂ R₂ ⟨⟨k, t, hk, e1⟩, e2⟩ => ?_)
    rw [e2] at R₂
    clear e2
    subst e1
    refine wpAny_bind (run_to (x := x.with x.A.in1) (run_setField (Q := fun _ σ' => σ' = σ.put I _) (i := 0) (v := rawInt (slotOf x.C.w xs (i + 1))) hI (by simp) rfl) R₂ fun _ σ₃ s₃ R₃ e => ?_)
    subst e
    refine wpAny_bind (run_to (x := x.with x.A.in1) (run_setField (Q := fun _ σ' => σ' = (σ.put I _).put I _) (i := 1) (v := rawInt ((i : Int) + 1)) put_same (by simp) rfl) R₃ fun _ σ₄ s₄ R₄ e => ?_)
    subst e
    rw [put_put] at R₄
    refine wpAny_pure ⟨_, rfl, wpAny_pure ⟨_, R₄, ?_⟩⟩
    exact hn k t hk
  · refine wpAny_bind (run_to (x := x.with x.A.in1) (run_setNext hs i hle (by simp) (by simp) (Q := fun r σ' => r = none ∧ σ' = σ) (fun h => absurd h hlt) (fun h => ⟨rfl, rfl⟩)) R' fun r σ₂ s₂ R₂ ⟨e1, e2⟩ => ?_)
    rw [e2] at R₂
    clear e2
    subst e1
    refine wpAny_bind (run_to (x := x.with x.A.in1) (run_setField (Q := fun _ σ' => σ' = σ.put I _) (i := 2) (v := .none) hI (by simp) rfl) R₂ fun _ σ₃ s₃ R₃ e => ?_)
    subst e
    refine wpAny_bind (m := newExc (.type "StopIteration") []) ?_
    simp only [newExc, newTuple]
    refine wpAny_bind (wpAny_newObj_type ?_ (by size_fits))
    refine wpAny_bind (m := firstArgMember _ _) (wpAny_of_eq (a := Value.none) (by first | rfl | (simp only [firstArgMember]; rfl)) ?_)
    refine wpAny_newObj_type ?_ (by size_fits)
    simp only [raiseNew]
    refine wpAny_bind (wpAny_handled ?_)
    rw [show x.A.in1.handled = none from hh]
    refine wpAny_bind (wpAny_pure (wpAny_throw ?_))
    refine wpAny_bind (wpAny_isInstance (T := "StopIteration") (b := true) ⟨_, Heap.get?_push_size _ rfl, rfl⟩ isSubtype_stop ?_)
    refine wpAny_pure ⟨_, (R₃.forget put_same (((Heap.SameBut.refl I s₃.heap).extBut.push _).push _) s₃.toks), ?_⟩
    have : (σ.put I (AO.ob "set_iterator" (Array.setIfInBounds #[.int (slotOf x.C.w xs i) 0, .int i 0, .ref a, .int xs.length 0, .int ep 0] 2 .none))).drop I = σ.drop I := by
      obtain ⟨l, hp, g⟩ := σ
      simp only [AS.put, AS.drop, AS.mk.injEq, and_true, true_and]
      funext b
      unfold setHp
      split <;> rfl
    rw [this]
    exact he (by omega)
theorem run_setDrawn {a : Addr} {xs : List Int} {ep : Nat} {Q : Bool → AS → Prop} (hs : σ.hp a = some (.set xs ep)) (h : Q false σ) : Run x (setDrawn a) Q σ := by
  unfold setDrawn setsByText
  refine run_bind (run_setState hs fun es t h1 h2 h3 => ?_)
  dsimp only
  refine run_bind (run_bind (run_ask (run_pure (run_pure ?_))))
  have : (!(⟨Pg, x.C.w.params⟩ : Setting).params.followText "set-order" && (!t.plain && decide (es.size > 1))) = false := by rw [h3.plain]; simp
  show Q (!(⟨Pg, x.C.w.params⟩ : Setting).params.followText "set-order" && (!t.plain && decide (es.size > 1))) σ
  rw [this]
  exact h
theorem iter_set {a : Addr} {xs : List Int} {ep : Nat} {Q : AV → AS → Prop} (hs : σ.hp a = some (.set xs ep)) (h : ∀ I, Fresh σ I → Q (.ref I) (σ.put I (SIter x.C.w a xs 0 ep))) : RunV x (pyIter (.ref a)) Q σ := by
  intro s R
  have hT := type_set R hs
  refine wpAny_pyIter_slot hT F.slot_set_iter (wpAny_call_entry F.slot_set_iter hT entry_setiter ?_ (F.args_set_iter_1 _))
  unfold Builtin.«frozenset.__iter__» Builtin.Frozenset.slot0 slotArgs Builtin.Frozenset.addrOf Builtin.Frozenset.sizeOf
  simp only [List.isEmpty_nil, Bool.not_true, Bool.false_eq_true, ↓reduceIte, bind_assoc, List.length_nil, bne_self_eq_false]
  refine wpAny_bind (wpAny_pure ?_)
  try dsimp only
  refine wpAny_bind (wpAny_pure ?_)
  refine wpAny_bind (run_to (x := x.with x.A.in1) (run_setEntries hs (Q := fun es σ' => es.size = xs.length ∧ σ' = σ) fun es h _ => ⟨h.size, rfl⟩) R fun es σ' s' R' ⟨hz, e⟩ => ?_)
  rw [e] at R'
  clear e
  refine wpAny_bind (wpAny_pure ?_)
  refine wpAny_bind (run_to (x := x.with x.A.in1) (run_setDrawn hs (Q := fun b σ' => b = false ∧ σ' = σ) ⟨rfl, rfl⟩) R' fun b σ₂ s₂ R₂ ⟨e1, e2⟩ => ?_)
  rw [e2] at R₂
  clear e2
  subst e1
  simp only [Bool.false_eq_true, ↓reduceIte]
  refine wpAny_bind (wpAny_pure ?_)
  refine wpAny_bind (run_to (x := x.with x.A.in1) (run_setEpoch hs (Q := fun b σ' => b = ep ∧ σ' = σ) ⟨rfl, rfl⟩) R₂ fun b σ₃ s₃ R₃ ⟨e1, e2⟩ => ?_)
  rw [e2] at R₃
  clear e2
  subst e1
  unfold newFields
  refine wpAny_bind (wpAny_newObj_type (wpAny_pure ⟨_, rfl, "set_iterator", _, ⟨_, Heap.get?_push_size _ rfl, rfl⟩, slot_setiter_next.lookup, ?_⟩) (by size_fits))
  refine ⟨_, R₃.push (ao := SIter x.C.w a xs 0 b) ⟨rfl, ?_⟩ s₃.toks, h _ (R₃.fresh (Nat.le_refl _))⟩
  have : slotOf x.C.w xs 0 = 0 := by unfold slotOf; split <;> rfl
  rw [this, hz]
  rfl
end
end
-- AzSetK
section
section
variable {x : X} {α β : Type} {σ : AS} {env : Env}
theorem runV_small {a : Addr} {xs : List Int} {ep : Nat} {t : Sem Value} {Q : AV → AS → Prop} (hs : σ.hp a = some (.set xs ep)) (h : Small xs → RunV x t Q σ) : RunV x t Q σ := run_small hs h
theorem hint_set {a : Addr} {xs : List Int} {ep : Nat} {Q : Bool → AS → Prop} (hs : σ.hp a = some (.set xs ep)) (h : Q false σ) : Run x (Builtin.List.listLengthHint (.ref a)) Q σ := by
  intro s R
  have hT := type_set R hs
  unfold Builtin.List.listLengthHint
  refine wpAny_bind (wpAny_specialOf hT F.slot_set_len.lookup ?_)
  generalize hid : ("set.__len__" : String) = id0
  wp_delta
  rw [show splitId id0 = some ("set", "__len__") from by subst hid; decide +kernel]
  subst hid
  refine wpAny_bind (wpAny_isInstance (T := "set") (b := true) hT sub_set_self ?_)
  refine wpAny_ite_split (fun hab => absurd hab (by decide)) (fun _ => ?_)
  refine wpAny_ite_split (fun _ => ?_) (fun hab => absurd (by decide +kernel) hab)
  refine wpAny_bind (wpAny_typeOf hT ?_)
  exact wpAny_pure ⟨σ, R, h⟩
theorem entry_collect : entryFor table "proto.collect" = some Builtin.«proto.collect» := entryFor_of_tree (by kernel_rfl)
theorem entry_liadd : entryFor table "list.__iadd__" = some Builtin.«list.__iadd__» := entryFor_of_tree (by kernel_rfl)
theorem run_collect {v : Value} {Q : List Value → AS → Prop} (h : ∀ l A', Fresh σ l → Sim x.A A' → Builtin.List.listSameRef (.ref l) v = false ∧ Source (x.with A') v l (fun σ' => ∃ vs, σ'.hp l = some (.list vs) ∧ ∀ us : List Value, us.map er = vs → Q us σ') (σ.put l (.list []))) : Run x (collect v) Q σ := by
  unfold collect
  refine runV_bind (runV_mono (run_runValue (Q := fun a σ' => ∃ l vs, a = .ref l ∧ σ'.hp l = some (.list vs) ∧ ∀ us : List Value, us.map er = vs → Q us σ') ?_) fun a σ' ⟨l, vs, e, hl, hq⟩ => ?_)
  · intro s R
    refine codeAny_builtin entry_collect ?_
    rw [Around.under_plainId (by decide +kernel) _]
    show wpAny _ x.A.in1 (do again (.builtin "list.__iadd__" ⟨[← newList [], v], []⟩)) _ _ s
    refine wpAny_bind (run_to (x := x.with x.A.in1) (new_list (vs := []) (Q := fun a σ' => ∃ l, Fresh σ l ∧ a = .ref l ∧ σ' = σ.put l (.list [])) (Nat.zero_le _) fun l hl => ⟨l, hl, rfl, rfl⟩) R fun a σ₁ s₁ R₁ ⟨l, hl, e1, e2⟩ => ?_)
    subst e2
    cases er_ref e1
    refine wpAny_pure ⟨plainId_quiet (by decide +kernel) _, codeAny_builtin entry_liadd ?_⟩
    rw [Around.under_plainId (by decide +kernel) _]
    obtain ⟨hne, hS⟩ := h l x.A.in1 hl ⟨rfl, rfl⟩
    show wpAny _ x.A.in1 (Builtin.List.listExtendWith (.ref l) v (.ref l)) _ _ s₁
    refine wpAny_mono (run_extendWith (x := x.with x.A.in1) (res := .ref l) (R := fun fin σ' => ∃ c, fin = .again c ∧ c.quiet = true ∧ RunC x c (fun r σ₂ => r = .ok (.ret (.ref l)) ∧ ∃ vs, σ₂.hp l = some (.list vs) ∧ ∀ us : List Value, us.map er = vs → Q us σ₂) σ') hne hS (fun c σ' hc hr => ⟨c, rfl, hc, hr x.A ⟨rfl, rfl⟩⟩) s₁ R₁) (fun fin s₂ ⟨σ₂, R₂, c, e, hc, hr⟩ => ?_) fun _ _ e => e.elim
    subst e
    exact ⟨hc, codeAny_mono (hr s₂ R₂) fun r s₃ ⟨σ₃, R₃, e, vs, h1, h2⟩ => ⟨σ₃, R₃, _, e, l, vs, rfl, h1, h2⟩⟩
  · intro v' hv'
    subst e
    cases er_ref hv'
    intro s R
    obtain ⟨xs, n, ho, hx, hL⟩ := list_at R hl
    refine wpAny_bind (wpAny_load ho ?_)
    exact wpAny_pure ⟨σ', R, hq _ hx⟩
/-- what a set's walk puts into a list -/
theorem src_set {l a : Addr} {xs : List Int} {ep : Nat} {P : AS → Prop} (hh : x.A.handled = none) (hl : σ.hp l = some (.list [])) (hs : σ.hp a = some (.set xs ep))
    (h : ∀ σ', ExtB l σ σ' → σ'.hp l = some (.list (avs (ordOf x.C.w a ep xs))) → P σ') : Source x (.ref a) l P σ := by
  have hal : a ≠ l := fun e => by rw [e, hl] at hs; cases hs
  have hlen : (ordOf x.C.w a ep xs).length = xs.length := ordOf_perm.length_eq
  refine ⟨.type "set", by rfl, run_typeOf (fun s R => type_set R hs) ⟨rfl, rfl⟩, runV_small hs fun hx => iter_set hs fun I hI => ⟨I, rfl, hint_set (put_new hI hs) ⟨[], put_new hI hl, by decide, fun n σ' => n ≤ xs.length ∧ ExtB l σ σ' ∧ σ'.hp I = some (SIter x.C.w a xs (xs.length - n) ep) ∧ σ'.hp l = some (.list (avs ((ordOf x.C.w a ep xs).take (xs.length - n)))), xs.length, ?_, ?_⟩⟩⟩
  · have hIl : I ≠ l := fun e => hI _ _ hl e.symm
    refine ⟨Nat.le_refl _, (ExtB.refl.put hI).self, ?_, ?_⟩
    · rw [Nat.sub_self]; exact put_ne hIl put_same
    · rw [Nat.sub_self]; exact put_same
  · rintro n σ' ⟨hn, hE, hI', hl'⟩ A' hA'
    have hIl : I ≠ l := fun e => hI _ _ hl e.symm
    have h7 := hx.len
    refine next_set (x := x.with A') (hA'.2.trans hh) hI' (hE.hp _ _ hal hs) (by omega) (fun k t hk => ?_) (fun he => ?_)
    · have hlt : xs.length - n < xs.length := by
        rcases Nat.lt_or_ge (xs.length - n) xs.length with h | h
        · exact h
        · rw [List.getElem?_eq_none (by rw [hlen]; exact h)] at hk; cases hk
      refine ⟨_, put_ne hIl.symm hl', by simp; omega, n - 1, by omega, by omega, (hE.put hI).self, ?_, ?_⟩
      · rw [show xs.length - (n - 1) = xs.length - n + 1 by omega]; exact put_ne hIl put_same
      · rw [put_same, show xs.length - (n - 1) = xs.length - n + 1 by omega, List.take_add_one, hk]
        simp [er]
    · refine h _ (hE.drop hI) (drop_ne hIl.symm (hl'.trans ?_))
      rw [← he, List.take_of_length_le (by omega)]
end
end
-- AzSetL
section
section
variable {x : X} {α β : Type} {σ : AS} {env : Env}
theorem intsAre_of {us : List Value} {ns : List Int} (h : us.map er = avs ns) : IntsAre us ns := by
  induction us generalizing ns with
  | nil =>
    cases ns with
    | nil => exact .nil
    | cons _ _ => cases h
  | cons u r ih =>
    cases ns with
    | nil => cases h
    | cons n ns =>
      simp only [List.map_cons, List.cons.injEq] at h
      obtain ⟨t, rfl⟩ := er_int h.1
      exact .cons n t (ih h.2)
theorem avs_of {us : List Value} {ns : List Int} (h : IntsAre us ns) : us.map er = avs ns := by
  induction h with
  | nil => rfl
  | cons n t _ ih => simp [er, ih]
theorem sorted_eq {xs ys : List Int} (hx : xs.Pairwise (· < ·)) (hy : ys.Pairwise (· ≤ ·)) (hp : ys.Perm xs) : ys = xs := by
  induction xs generalizing ys with
  | nil => exact hp.eq_nil
  | cons a r ih =>
    have hx' := List.pairwise_cons.mp hx
    cases ys with
    | nil => exact absurd hp.symm.eq_nil (by simp)
    | cons b q =>
      have hy' := List.pairwise_cons.mp hy
      have e : b = a := by
        rcases List.mem_cons.mp (hp.mem_iff.mp (.head q)) with e | e
        · exact e
        · have h1 := hx'.1 b e
          rcases List.mem_cons.mp (hp.mem_iff.mpr (.head r)) with e' | e'
          · exact e'.symm
          · have := hy'.1 a e'; omega
      subst e
      rw [ih hx'.2 hy'.2 (List.Perm.cons_inv hp)]
/-- sorted of what can be collected -/
theorem call_sorted {v : Value} {xs : List Int} {Q : AV → AS → Prop} (hxs : xs.Pairwise (· < ·)) (h7 : xs.length < 64)
    (hc : ∀ A', Sim x.A A' → Run (x.with A') (collect v) (fun us σ' => ∃ zs, us.map er = avs zs ∧ zs.Perm xs ∧ ∀ l, Fresh σ' l → Q (.ref l) (σ'.put l (.list (avs xs)))) σ) : RunV x (call (.builtin "sorted") [v]) Q σ := by
  intro s R
  refine Calls.call_function_entry kind_sorted plain_sorted entry_sorted (args_sorted1 _) ?_
  unfold Builtin.«sorted»
  refine wpAny_bind (m := checkCount "sorted" 1 1 _) (wpAny_pure ?_)
  refine wpAny_bind (run_to (x := x.with x.A.in1) (hc x.A.in1 ⟨rfl, rfl⟩) R fun us σ₁ s₁ R₁ ⟨zs, hz, hp, hq⟩ => ?_)
  have hlen : us.length = xs.length := by have h1 := congrArg List.length hz; have h2 := hp.length_eq; simp at h1; omega
  refine wpAny_bind (wpAny_newList ?_ (fits (by omega)))
  have hI := intsAre_of hz
  have hoL : (s₁.heap.push (seqObj "list" us.toArray 0)).get? s₁.heap.objs.size = some (seqObj "list" us.toArray 0) := Heap.get?_push_size _ rfl
  have hlf := R₁.fresh (Nat.le_refl _)
  have R₂ := R₁.push (ao := .list (avs zs)) (o := seqObj "list" us.toArray 0) ⟨us.toArray, 0, rfl, by simpa using hz⟩ s₁.toks
  show wpAny _ x.A.in1 (holding [Value.ref s₁.heap.objs.size] (call (.builtin "list.sort") [.ref s₁.heap.objs.size] []) >>= _) _ _ { s₁ with heap := s₁.heap.push (seqObj "list" us.toArray 0) }
  refine wpAny_bind (wpAny_holding (wpAny_call_entry slot_list_sort ⟨_, hoL, rfl⟩ entry_list_sort (list_sort_tree hoL hI (by omega) fun out ns' a1 a2 a3 => ⟨_, rfl, ?_⟩) (args_list_sort _)))
  have e : ns' = xs := sorted_eq hxs a3 (a2.trans hp)
  subst e
  obtain ⟨e, he⟩ := sortedHeap_at (out := out) hoL
  refine wpAny_pure ⟨_, rfl, _, R₂.upd (ao := .list (avs ns')) put_same (h' := sortedHeap (s₁.heap.push (seqObj "list" us.toArray 0)) s₁.heap.objs.size us out) (fun b o hb ho => ?_) he ⟨out, e, rfl, avs_of a1⟩ s₁.toks, ?_⟩
  · rw [sortedHeap_old hb (Heap.lt_size ho)]; exact ho
  · rw [put_put]; exact hq _ hlf
theorem sorted_set {a : Addr} {xs : List Int} {ep : Nat} {Q : AV → AS → Prop} (hh : x.A.handled = none) (hs : σ.hp a = some (.set xs ep)) (h : ∀ l σ', Ext σ σ' → σ'.loc = σ.loc → Fresh σ l → σ'.hp l = some (.list (avs xs)) → Q (.ref l) σ') : RunV x (call (.builtin "sorted") [.ref a]) Q σ :=
  runV_small hs fun hx => call_sorted hx.1 (by have := hx.len; omega) fun A' hA' => run_collect (x := x.with A') fun l A'' hl hA'' => ⟨by
    have : l ≠ a := fun e => hl _ _ hs e.symm
    simpa [Builtin.List.listSameRef] using this, src_set (x := x.with A'') (hA''.2.trans (hA'.2.trans hh)) put_same (put_new hl hs) fun σ' hE hl' => ⟨_, hl', fun us hus => ⟨_, hus, ordOf_perm, fun l₂ hl₂ => h l₂ _ ((hE.ext hl).put ((hE.ext hl).fresh hl₂)) hE.loc ((hE.ext hl).fresh hl₂) put_same⟩⟩⟩
theorem run_sizeOf {a : Addr} {xs : List Int} {ep : Nat} {Q : Nat → AS → Prop} (hs : σ.hp a = some (.set xs ep)) (h : Q xs.length σ) : Run x (Builtin.Frozenset.sizeOf a) Q σ := by
  unfold Builtin.Frozenset.sizeOf
  exact run_bind (run_setEntries hs fun es h1 _ => run_pure (by rw [h1.size]; exact h))
theorem run_difference {id : String} {s o : Addr} {xs ys : List Int} {ep epo : Nat} {Q : AV → AS → Prop} (hs : σ.hp s = some (.set xs ep)) (ho : σ.hp o = some (.set ys epo)) (hy : ys ≠ [])
    (h : ∀ a xs' ep', Fresh σ a → Small xs' → (∀ j, j ∈ xs' ↔ j ∈ xs ∧ j ∉ ys) → Q (.ref a) (σ.put a (.set xs' ep'))) : RunV x (Builtin.Frozenset.difference id s (.ref o)) Q σ := by
  refine runV_small hs fun hx => runV_small ho fun hyS => ?_
  have h7 := hx.len
  have hylen : 0 < ys.length := List.length_pos_iff.mpr hy
  unfold Builtin.Frozenset.difference
  refine run_bind (run_anySet_yes ho ?_)
  simp only [Bool.not_true, Bool.false_eq_true, if_false, Bool.false_and, if_true]
  unfold Builtin.Frozenset.addrOf
  refine run_bind (run_pure (run_bind (run_sizeOf ho ?_)))
  refine run_bind (run_sizeOf hs ?_)
  rw [if_neg (by omega)]
  refine run_bind (run_baseOf hs (runV_bind (new_set fun a ha => ?_)))
  intro v hv
  cases er_ref hv
  have hsa : s ≠ a := ha _ _ hs
  have hoa : o ≠ a := ha _ _ ho
  have hs' : ∀ ao, (σ.put a ao).hp s = some (.set xs ep) := fun ao => put_ne hsa hs
  have ho' : ∀ ao, (σ.put a ao).hp o = some (.set ys epo) := fun ao => put_ne hoa ho
  refine run_bind (run_pure (run_bind (run_setEpoch (hs' _) ?_)))
  refine run_bind (run_hold (run_bind (run_setWalkUnseen (hs' _) fun es zs _ hz he => ?_)))
  refine run_bind ?_
  rw [← Array.forIn_toList]
  refine run_forIn (fun l σ' => ∃ (us ws : List Int) (e : Nat), l.map (fun e : Int × Value => (e.1, er e.2)) = us.map (fun i => (i, AV.int i)) ∧ (∀ j ∈ us, 0 ≤ j ∧ j < 7) ∧ Small ws ∧ (∀ j, (j ∈ ws ∨ (j ∈ us ∧ j ∉ ys)) ↔ j ∈ xs ∧ j ∉ ys) ∧ σ' = σ.put a (.set ws e)) ?_ ?_ ?_
  · refine ⟨zs, [], 0, he, fun j hj => hx.2 j (hz.mem_iff.mp hj), ⟨.nil, by simp⟩, fun j => ?_, rfl⟩
    rw [hz.mem_iff]; simp
  · rintro e r σ₁ ⟨us, ws, ep₁, hm, hu, hw, hj, rfl⟩
    cases us with
    | nil => cases hm
    | cons i us =>
      rw [List.map_cons, List.map_cons, List.cons.injEq] at hm
      obtain ⟨hm1, hm2⟩ := hm
      obtain ⟨e1, e2⟩ := e
      have h11 : e1 = i := congrArg Prod.fst hm1
      obtain ⟨tk, rfl⟩ := er_int (congrArg Prod.snd hm1)
      subst h11
      dsimp only
      have fin : ∀ ws' ep₂, Small ws' → (∀ j, j ∈ ws' ↔ j ∈ ws ∨ (j = e1 ∧ j ∉ ys)) → Run x (Builtin.Frozenset.unchanged id s ep >>= fun _ => pure (ForInStep.yield PUnit.unit)) (fun st σ' => st = .yield ⟨⟩ ∧ ∃ (us ws : List Int) (e : Nat), r.map (fun e : Int × Value => (e.1, er e.2)) = us.map (fun i => (i, AV.int i)) ∧ (∀ j ∈ us, 0 ≤ j ∧ j < 7) ∧ Small ws ∧ (∀ j, (j ∈ ws ∨ (j ∈ us ∧ j ∉ ys)) ↔ j ∈ xs ∧ j ∉ ys) ∧ σ' = σ.put a (.set ws e)) (σ.put a (.set ws' ep₂)) := fun ws' ep₂ g1 g2 => by
        unfold Builtin.Frozenset.unchanged
        refine run_bind (run_bind (run_setEpoch (hs' _) ?_) )
        rw [bne_self_eq_false, if_neg Bool.false_ne_true]
        refine run_pure (run_pure ⟨rfl, us, ws', ep₂, hm2, fun j hj => hu j (.tail _ hj), g1, fun j => ?_, rfl⟩)
        rw [g2, ← hj, List.mem_cons]
        constructor
        · rintro ((h | h) | h)
          · exact .inl h
          · exact .inr ⟨.inl h.1, h.2⟩
          · exact .inr ⟨.inr h.1, h.2⟩
        · rintro (h | ⟨h | h, h'⟩)
          · exact .inl (.inl h)
          · exact .inl (.inr ⟨h, h'⟩)
          · exact .inr ⟨h, h'⟩
      refine run_bind (run_hold (run_bind (run_setFind (ho' _) (hu _ (.head _)) fun r hr => run_bind (run_pure ?_))))
      rw [hr]
      by_cases hin : e1 ∈ ys
      · rw [decide_eq_true hin]
        simp only [Bool.not_true, Bool.false_eq_true, if_false]
        refine run_pure ?_
        refine fin ws ep₁ hw fun j => ⟨.inl, fun q => q.elim (fun q => q) fun q => absurd (q.1 ▸ hin) q.2⟩
      · rw [decide_eq_false hin]
        simp only [Bool.not_false, if_true]
        refine run_bind (run_addH put_same (hu _ (.head _)) fun ws' ep₂ g1 g2 => run_pure ?_)
        rw [put_put]
        refine fin ws' ep₂ g1 fun j => ?_
        rw [g2]
        constructor
        · rintro (h | h)
          · exact .inl h
          · exact .inr ⟨h, h ▸ hin⟩
        · rintro (h | h)
          · exact .inl h
          · exact .inr h.1
  · rintro σ₁ ⟨us, ws, ep₁, hm, hu, hw, hj, rfl⟩
    have : us = [] := by simpa using hm.symm
    subst this
    refine run_pure (run_pure (h a ws ep₁ ha hw fun j => ?_))
    rw [← hj]; simp
end
end
-- AzSetM
section
section
variable {x : X} {α β : Type} {σ : AS} {env : Env}
theorem sub_sets {s o : Addr} {xs ys : List Int} {ep epo : Nat} {Q : AV → AS → Prop} (hs : σ.hp s = some (.set xs ep)) (ho : σ.hp o = some (.set ys epo)) (hy : ys ≠ [])
    (h : ∀ a xs' ep', Fresh σ a → Small xs' → (∀ j, j ∈ xs' ↔ j ∈ xs ∧ j ∉ ys) → Q (.ref a) (σ.put a (.set xs' ep'))) : RunV x (binaryOp .Sub (.ref s) (.ref o)) Q σ := by
  intro s₀ R
  have h1 : Slot "set" (dunder (Operator.info .Sub).2) "set.__sub__" := F.slot_set_sub
  refine wpAny_binaryOp_same (type_set R hs) (type_set R ho) F.fills_set_sub h1 ?_
  refine wpAny_mono (run_entry (x := x) (Q := fun a σ' => ∃ a' xs' ep', a = .ref a' ∧ Fresh σ a' ∧ Small xs' ∧ (∀ j, j ∈ xs' ↔ j ∈ xs ∧ j ∉ ys) ∧ σ' = σ.put a' (.set xs' ep')) h1 (fun s R => type_set R hs) entry_setsub ?_ (F.args_set_sub_2 _ _) s₀ R) (fun v s' ⟨σ', R', a', xs', ep', e, g1, g2, g3, e2⟩ => ?_) fun _ _ e => e.elim
  · show Run (x.with x.A.in1) (do
      let (self, other) ← Builtin.Frozenset.slot1 "__sub__" ⟨[.ref s, .ref o], []⟩
      let (l, r) := if false then (other, self) else (self, other)
      if !(← Builtin.Frozenset.isAnySet l <&&> Builtin.Frozenset.isAnySet r) then rule s!"frozenset.{"__sub__"}.declined"; return ← ret .notImplemented
      ret (← Builtin.Frozenset.difference s!"frozenset.{"__sub__"}" (← Builtin.Frozenset.addrOf l) r)) _ σ
    unfold Builtin.Frozenset.slot1 slotArgs
    simp only [List.isEmpty_nil, Bool.not_true, Bool.false_eq_true, ↓reduceIte, bind_assoc, List.length_cons, List.length_nil, bne_self_eq_false]
    refine run_bind (run_pure ?_)
    try dsimp only
    refine run_bind (run_pure ?_)
    try dsimp only
    refine run_bind (run_bind (run_anySet_yes hs ?_))
    refine run_anySet_yes ho ?_
    simp only [Bool.not_true, Bool.false_eq_true, if_false]
    unfold Builtin.Frozenset.addrOf
    refine run_bind (run_pure (runV_bind (run_difference hs ho hy fun a xs' ep' g1 g2 g3 => ?_)))
    intro v hv
    cases er_ref hv
    exact run_pure ⟨_, rfl, a, xs', ep', rfl, g1, g2, g3, rfl⟩
  · cases er_ref e
    subst e2
    exact ⟨(fun q => by cases q), _, R', h a' xs' ep' g1 g2 g3⟩
theorem len_set {s : Addr} {xs : List Int} {ep : Nat} {Q : AV → AS → Prop} (hs : σ.hp s = some (.set xs ep)) (h : Q (.int xs.length) σ) : RunV x (call (.builtin "len") [.ref s]) Q σ := by
  intro s₀ R
  obtain ⟨es, t, ho, h1, h2, h3⟩ := set_at R hs
  refine call_len_set ho ⟨rfl, rfl, rfl⟩ rfl (by rw [h1.size]; exact h3.fits h2) (by rw [h1.size]; have := h2.len; omega) ⟨σ, R.toks _, ?_⟩
  rw [h1.size]; exact h
end
end
-- AzObj
section
/-- all objects but the frame, one object and the old ones -/
def others (h₀ : Heap) (L dx : Addr) (h : Heap) : List (Addr × Obj) :=
  (List.range h.objs.size).filterMap fun b => if b = L ∨ b = dx ∨ (h₀.get? b).isSome then none else (h.get? b).map fun o => (b, o)
theorem mem_others {h₀ : Heap} {L dx : Addr} {h : Heap} {b : Addr} {o : Obj} : (b, o) ∈ others h₀ L dx h ↔ h.get? b = some o ∧ b ≠ L ∧ b ≠ dx ∧ h₀.get? b = none := by
  unfold others
  rw [List.mem_filterMap]
  constructor
  · rintro ⟨b', _, e⟩
    split at e
    · cases e
    · rename_i hn
      simp only [not_or] at hn
      cases e2 : h.get? b' with
      | none => rw [e2] at e; cases e
      | some o' =>
        rw [e2] at e
        cases e
        refine ⟨e2, hn.1, hn.2.1, ?_⟩
        cases e3 : h₀.get? b with
        | none => rfl
        | some _ => rw [e3] at hn; exact absurd rfl hn.2.2
  · rintro ⟨e, h1, h2, h3⟩
    refine ⟨b, List.mem_range.mpr (Heap.lt_size e), ?_⟩
    rw [if_neg (by simp [h1, h2, h3]), e]
    rfl
theorem news_others {h₀ : Heap} {L dx : Addr} {h : Heap} : News h₀ L h (others h₀ L dx h) := fun p hp => by
  obtain ⟨h1, h2, _, h4⟩ := mem_others.mp hp
  exact ⟨h1, h2, h4⟩
theorem others_ne {h₀ : Heap} {L dx : Addr} {h : Heap} : ∀ p ∈ others h₀ L dx h, p.1 ≠ dx := fun p hp => (mem_others.mp hp).2.2.1
section
variable {C : Cx} {fs : List (Addr × Loc)} {L : Addr} {σ : AS} {s : Shared}
theorem Rel.fr (R : Rel C fs L σ s) : ∃ m, (∀ y, (m y).map er = σ.loc y) ∧ Fr C.h₀ L s.heap m := by
  obtain ⟨m, hm, hx⟩ := R.loc
  exact ⟨m, hx, hm, R.base, R.new L (.head _)⟩
theorem Rel.news (R : Rel C fs L σ s) {dx : Addr} {od : Obj} (hd : s.heap.get? dx = some od) (hL : dx ≠ L) (h0 : C.h₀.get? dx = none) : News C.h₀ L s.heap ([] ++ (dx, od) :: others C.h₀ L dx s.heap) := fun p hp => by
  rcases List.mem_cons.mp hp with rfl | hp
  · exact ⟨hd, hL, h0⟩
  · exact news_others p hp
/-- back from the ledger: one object has changed -/
theorem Rel.back (R : Rel C fs L σ s) {m : Str → Option Value} {a : Addr} {ao₀ ao : AO} {o : Obj} {h' : Heap} (hm : ∀ y, (m y).map er = σ.loc y) (ha : σ.hp a = some ao₀) (F' : Fr C.h₀ L h' m) (N' : News C.h₀ L h' ([] ++ (a, o) :: others C.h₀ L a s.heap)) (h : OR C.w ao o) (tk : Nat) :
    Rel C fs L (σ.put a ao) { s with heap := h', toks := tk } := by
  have keep : ∀ b o', b ≠ L → b ≠ a → s.heap.get? b = some o' → h'.get? b = some o' := fun b o' h1 h2 e => by
    cases e0 : C.h₀.get? b with
    | some o₀ =>
      have := R.base b o₀ e0
      rw [e] at this
      cases this
      exact F'.keep b o' e0
    | none => exact (N' (b, o') (List.mem_cons_of_mem _ (mem_others.mpr ⟨e, h1, h2, e0⟩))).1
  obtain ⟨a1, a2, a3, _⟩ := R.obj a ao₀ ha
  refine ⟨R.ok, F'.keep, fun b ao' e => ?_, ⟨m, F'.ns, hm⟩, fun p hp => ?_, R.nd, R.new, R.gens, R.os⟩
  · by_cases hb : b = a
    · subst hb
      have : ao = ao' := by simpa [AS.put, setHp] using e
      subst this
      exact ⟨a1, a2, a3, o, (N' (b, o) (.head _)).1, h⟩
    · have e' : σ.hp b = some ao' := by simpa [AS.put, setHp, hb] using e
      obtain ⟨h1, h2, h3, o', h5, h6⟩ := R.obj b ao' e'
      exact ⟨h1, h2, h3, o', keep b o' h2 hb h5, h6⟩
  · obtain ⟨m', hm', hx⟩ := R.frs p hp
    have hne : p.1 ≠ L := fun q => (List.nodup_cons.mp R.nd).1 (q ▸ List.mem_map_of_mem hp)
    exact ⟨m', hm'.at' fun o e => keep _ o hne (fun q => a3 (q ▸ List.mem_map_of_mem hp)) e, hx⟩
/-- back from the ledger: two objects are new -/
theorem Rel.back2 (R : Rel C fs L σ s) {m : Str → Option Value} {a d : Addr} {ao do_ : AO} {o od : Obj} {h' : Heap} (hm : ∀ y, (m y).map er = σ.loc y) (F' : Fr C.h₀ L h' m) (N' : News C.h₀ L h' ((a, o) :: (d, od) :: others C.h₀ L s.heap.objs.size s.heap)) (hda : d < a)
    (hd : s.heap.objs.size ≤ d) (h1 : OR C.w ao o) (h2 : OR C.w do_ od) (tk : Nat) :
    Rel C fs L ((σ.put d do_).put a ao) { s with heap := h', toks := tk } ∧ Fresh σ d ∧ Fresh σ a ∧ a ≠ d := by
  have keep : ∀ b o', b ≠ L → s.heap.get? b = some o' → h'.get? b = some o' := fun b o' h1 e => by
    cases e0 : C.h₀.get? b with
    | some o₀ =>
      have := R.base b o₀ e0
      rw [e] at this
      cases this
      exact F'.keep b o' e0
    | none => exact (N' (b, o') (List.mem_cons_of_mem _ (List.mem_cons_of_mem _ (mem_others.mpr ⟨e, h1, Nat.ne_of_lt (Heap.lt_size e), e0⟩)))).1
  have hdL := (N' (d, od) (by simp)).2.1
  have haL := (N' (a, o) (by simp)).2.1
  have ha' : s.heap.objs.size ≤ a := Nat.le_trans hd (Nat.le_of_lt hda)
  have nf : ∀ c, s.heap.objs.size ≤ c → c ∉ fs.map (·.1) := fun c hc q => absurd (Nat.lt_of_lt_of_le (R.low c (.tail _ q)) hc) (Nat.lt_irrefl _)
  refine ⟨⟨R.ok, F'.keep, fun b ao' e => ?_, ⟨m, F'.ns, hm⟩, fun p hp => ?_, R.nd, R.new, R.gens, R.os⟩, R.fresh hd, R.fresh ha', Nat.ne_of_gt hda⟩
  · by_cases hb : b = a
    · subst hb
      have : ao = ao' := by simpa [AS.put, setHp] using e
      subst this
      exact ⟨R.high _ ha', haL, nf _ ha', o, (N' (b, o) (by simp)).1, h1⟩
    · by_cases hb2 : b = d
      · subst hb2
        have : do_ = ao' := by simpa [AS.put, setHp, hb] using e
        subst this
        exact ⟨R.high _ hd, hdL, nf _ hd, od, (N' (b, od) (by simp)).1, h2⟩
      · have e' : σ.hp b = some ao' := by simpa [AS.put, setHp, hb, hb2] using e
        obtain ⟨h1, h2, h3, o', h5, h6⟩ := R.obj b ao' e'
        exact ⟨h1, h2, h3, o', keep b o' h2 h5, h6⟩
  · obtain ⟨m', hm', hx⟩ := R.frs p hp
    have hne : p.1 ≠ L := fun q => (List.nodup_cons.mp R.nd).1 (q ▸ List.mem_map_of_mem hp)
    exact ⟨m', hm'.at' fun o e => keep _ o hne e, hx⟩
theorem Rel.old (R : Rel C fs L σ s) {a : Addr} {ao : AO} (h : σ.hp a = some ao) : C.h₀.get? a = none := none_of_le (R.obj a ao h).1
end
end
-- AzAttr
section
theorem str_shape {w : World} {k : Str} {v : Value} (h : (strKind Pg w).is k v = true) : ∃ t, v = .str k t := Value.isStrOf_shape h
theorem look_pairs {w : World} {name : Str} {kvs : List (Str × Value)} {l : List DictEntry} (h : Pairs (strKind Pg w) l kvs) : (l.find? (·.key.isStr name)).map (·.val) = valueAt kvs name ∧ l.any (·.refKey) = false := by
  induction h with
  | nil => exact ⟨rfl, rfl⟩
  | @cons e kv es kvs h1 h2 _ ih =>
    obtain ⟨t, ht⟩ := str_shape h1
    refine ⟨?_, ?_⟩
    · unfold valueAt at ih ⊢
      rw [List.find?_cons, List.find?_cons, ht]
      by_cases hk : kv.1 = name
      · have : (Value.str kv.1 t).isStr name = true := by simp [Value.isStr, hk]
        rw [this, decide_eq_true hk]
        simp [h2]
      · have : (Value.str kv.1 t).isStr name = false := by simp [Value.isStr, hk]
        rw [this, decide_eq_false hk]
        exact ih.1
    · rw [List.any_cons, ih.2, Bool.or_false]
      unfold DictEntry.refKey
      rw [ht]
theorem lookIn_pairs {w : World} {name : Str} {kvs : List (Str × Value)} {o : Obj} {es : Array DictEntry} {n : Nat} (hd : o.data = .dict es n) (h : Pairs (strKind Pg w) es.toList kvs) : lookIn name o = some (valueAt kvs name) := by
  obtain ⟨h1, h2⟩ := look_pairs (name := name) h
  unfold lookIn
  rw [hd]
  dsimp only
  rw [← h1, h2]
  cases es.toList.find? (·.key.isStr name) <;> rfl
theorem stored_cons {K : Type} [DecidableEq K] {k : K} {u : Value} {kvs : List (K × Value)} {name : K} {v : Value} (hk : k ≠ name) : stored ((k, u) :: kvs) name v = (k, u) :: stored kvs name v := by
  unfold stored
  rw [List.any_cons, decide_eq_false hk, Bool.false_or]
  split
  · rw [List.map_cons, if_neg hk]
  · rfl
theorem stored_here {K : Type} [DecidableEq K] {u : Value} {kvs : List (K × Value)} {name : K} {v : Value} (hn : name ∉ kvs.map (·.1)) : stored ((name, u) :: kvs) name v = (name, v) :: kvs := by
  unfold stored
  rw [List.any_cons, decide_eq_true rfl, Bool.true_or, if_pos rfl, List.map_cons, if_pos rfl]
  congr 1
  have : ∀ p ∈ kvs, (if p.1 = name then (p.1, v) else p) = p := fun p hp => if_neg fun (e : p.1 = name) => hn (by rw [← e]; exact List.mem_map_of_mem (f := (·.1)) hp)
  exact (List.map_congr_left this).trans (List.map_id _)
theorem putL_stored {w : World} {name : Str} {hsh : Int} {t : Tok} {v : Value} {kvs : List (Str × Value)} {l : List DictEntry} (h : Pairs (strKind Pg w) l kvs) (nd : (kvs.map (·.1)).Nodup) :
    Pairs (strKind Pg w) (putL name hsh (.str name t) v l) (stored kvs name v) ∧ ∀ e ∈ putL name hsh (.str name t) v l, e.hash = hsh ∧ e.key = .str name t ∨ ∃ e' ∈ l, e.hash = e'.hash ∧ e.key = e'.key := by
  induction h with
  | nil =>
    refine ⟨.cons (strKind_is _ _ _ _) rfl .nil, fun e he => ?_⟩
    have : e = ⟨hsh, .str name t, v⟩ := by simpa [putL] using he
    subst this
    exact .inl ⟨rfl, rfl⟩
  | @cons e kv es kvs h1 h2 h3 ih =>
    obtain ⟨t', ht⟩ := str_shape h1
    rw [List.map_cons, List.nodup_cons] at nd
    obtain ⟨k, u⟩ := kv
    by_cases hk : k = name
    · have hs : e.key.isStr name = true := by rw [ht]; simp [Value.isStr, hk]
      unfold putL
      rw [if_pos hs]
      subst hk
      rw [stored_here nd.1]
      refine ⟨.cons h1 rfl h3, fun e₂ he => ?_⟩
      rcases List.mem_cons.mp he with rfl | he
      · exact .inr ⟨e, .head _, rfl, rfl⟩
      · exact .inr ⟨e₂, .tail _ he, rfl, rfl⟩
    · have hs : ¬ e.key.isStr name = true := by rw [ht]; simp [Value.isStr, hk]
      unfold putL
      rw [if_neg hs, stored_cons hk]
      obtain ⟨i1, i2⟩ := ih nd.2
      refine ⟨.cons h1 h2 i1, fun e₂ he => ?_⟩
      rcases List.mem_cons.mp he with rfl | he
      · exact .inr ⟨e₂, .head _, rfl, rfl⟩
      · rcases i2 e₂ he with q | ⟨e', q1, q2⟩
        · exact .inl q
        · exact .inr ⟨e', .tail _ q1, q2⟩
theorem stored_keys {K : Type} [DecidableEq K] {kvs : List (K × Value)} {name : K} {v : Value} (nd : (kvs.map (·.1)).Nodup) : ((stored kvs name v).map (·.1)).Nodup ∧ (stored kvs name v).length ≤ kvs.length + 1 := by
  induction kvs with
  | nil => exact ⟨by simp [stored], by simp [stored]⟩
  | cons p r ih =>
    obtain ⟨k, u⟩ := p
    rw [List.map_cons, List.nodup_cons] at nd
    by_cases hk : k = name
    · subst hk
      rw [stored_here nd.1]
      exact ⟨List.nodup_cons.mpr nd, by simp⟩
    · rw [stored_cons hk]
      obtain ⟨i1, i2⟩ := ih nd.2
      refine ⟨List.nodup_cons.mpr ⟨fun hm => ?_, i1⟩, by simp; omega⟩
      unfold stored at hm
      split at hm
      · rw [List.map_map] at hm
        obtain ⟨q, hq, e⟩ := List.mem_map.mp hm
        refine nd.1 (List.mem_map.mpr ⟨q, hq, ?_⟩)
        refine Eq.trans ?_ e
        show q.1 = (if q.1 = name then (q.1, v) else q).1
        split <;> rfl
      · rw [List.map_append, List.mem_append] at hm
        rcases hm with hm | hm
        · exact nd.1 hm
        · exact hk (by simpa using hm)
section
variable {x : X} {α β : Type} {σ : AS} {env : Env}
theorem inst_at {C : Cx} {fs : List (Addr × Loc)} {L : Addr} {s : Shared} (R : Rel C fs L σ s) {g cl d : Addr} {kvs : List (Str × AV)} {ep : Nat} {hd : Bool} (hg : σ.hp g = some (.inst cl d)) (hk : σ.hp d = some (.sdict kvs ep hd)) :
    ∃ es kvs', InstAt s.heap g { cls := .ref cl, dict := some d, data := .plain } cl (some { cls := .type "dict", data := .dict es ep, slots := if hd then #[none] else #[] }) ∧ s.heap.get? d = some { cls := .type "dict", data := .dict es ep, slots := if hd then #[none] else #[] } ∧
      KeysOf (strKind Pg C.w) es ∧ Pairs (strKind Pg C.w) es.toList kvs' ∧ (kvs'.map (·.1)).Nodup ∧ kvs'.map (fun p => (p.1, er p.2)) = kvs := by
  obtain ⟨o, ho, ho'⟩ := R.get hg
  have e : o = { cls := .ref cl, dict := some d, data := .plain } := ho'
  subst e
  obtain ⟨o, hd', es, kvs', rfl, h1, h2, h3, h4⟩ := R.get hk
  exact ⟨es, kvs', ⟨ho, rfl, rfl, hd'⟩, hd', h1, h2, h3, h4⟩
/-- an attribute out of the object's own dict -/
theorem attr_own {g cl d : Addr} {kvs : List (Str × AV)} {ep : Nat} {hd : Bool} {name : Str} {v : AV} {expr : Bool} {Q : AV → AS → Prop} (hg : σ.hp g = some (.inst cl d)) (hk : σ.hp d = some (.sdict kvs ep hd)) (hv : aget kvs name = some v)
    (hga : findIn (Mine.hd.heap_39 x.C.w.params) (.ref cl) "__getattribute__" = some (some (.builtin "object.__getattribute__")))
    (hf : ∀ od u, lookIn name od = some (some u) → findObj (Mine.hd.heap_39 x.C.w.params) cl (some od) name = some (.value u)) (hh : ∀ i, v ≠ .oth (.builtin i)) (h : Q v σ) : RunV x (getAttr (.ref g) name expr) Q σ := by
  intro s R
  obtain ⟨es, kvs', I, hd', h1, h2, h3, h4⟩ := inst_at R hg hk
  rw [← h4, aget_er] at hv
  cases e : valueAt kvs' name with
  | none => rw [e] at hv; cases hv
  | some u =>
    rw [e] at hv
    have hu : er u = v := Option.some.inj hv
    subst hu
    refine get_value (R.ok.kx.keeps R.base) I hga (hf _ u ((lookIn_pairs rfl h2).trans (congrArg some e))) ?_ ⟨σ, R.toks _, h⟩
    cases u <;> first | rfl | exact absurd rfl (hh _)

/-- an attribute into the object's own dict -/
theorem attr_set {g cl d : Addr} {kvs : List (Str × AV)} {ep : Nat} {name : Str} {v : Value} {Q : Unit → AS → Prop} (hg : σ.hp g = some (.inst cl d)) (hk : σ.hp d = some (.sdict kvs ep false)) (hz : kvs.length < 100)
    (hs : findIn (Mine.hd.heap_39 x.C.w.params) (.ref cl) "__setattr__" = some (some (.builtin "object.__setattr__"))) (hp : plainOver (Mine.hd.heap_39 x.C.w.params) cl = true) (ht : takerIn (Mine.hd.heap_39 x.C.w.params) cl name = some none) (hh : hasDictIn (Mine.hd.heap_39 x.C.w.params) cl = true)
    (h : ∀ ep', Q () (σ.put d (.sdict (aput kvs name (er v)) ep' false))) : Run x (setAttr (.ref g) name v) Q σ := by
  intro s R
  obtain ⟨es, kvs', I, hd', h1, h2, h3, h4⟩ := inst_at R hg hk
  obtain ⟨m, hm, F⟩ := R.fr
  have hdo := R.obj d _ hk
  have N := R.news hd' hdo.2.1 (R.old hk)
  have X := R.ok.kx.keeps R.base
  have he : ({ cls := .type "dict", data := .dict es ep, slots := if false = true then #[none] else #[] } : Obj) = dictOf es.toList ep := by simp [dictOf]
  rw [he] at I N
  have hlen : es.toList.length = kvs.length := by
    have a1 : ∀ {l : List DictEntry} {k : List (Str × Value)}, Pairs (strKind Pg x.C.w) l k → l.length = k.length := fun h => by
      induction h with
      | nil => rfl
      | cons _ _ _ ih => simp [ih]
    rw [a1 h2, ← h4]; simp
  obtain ⟨q1, q2⟩ := putL_stored (name := name) (hsh := PyData.keyHash x.C.w.params name) (t := s.toks + 1) (v := v) h2 h3
  obtain ⟨q3, q4⟩ := stored_keys (name := name) (v := v) h3
  refine set_plain X I hs (osa_dict (s := { s with toks := s.toks + 1 }) (pre := []) (n := putN name es.toList ep) (es := putL name (PyData.keyHash x.C.w.params name) (.str name (s.toks + 1)) v es.toList) F N X I rfl hp ht hh ?_ (fun _ h => nomatch h) others_ne (putName_dict ..) rfl ?_ fun h' F' N' => ?_)
  · rw [lookIn_pairs rfl (by simpa using h2)]; rfl
  · have a1 : ∀ {l : List DictEntry} {k : List (Str × Value)}, Pairs (strKind Pg x.C.w) l k → l.length = k.length := fun h => by
      induction h with
      | nil => rfl
      | cons _ _ _ ih => simp [ih]
    rw [a1 q1]
    have : kvs'.length = kvs.length := by rw [← h4]; simp
    omega
  · refine ⟨_, R.back (ao := .sdict (aput kvs name (er v)) (putN name es.toList ep) false) hm hk F' N' ⟨_, stored kvs' name v, rfl, ?_, by simpa using q1, q3, ?_⟩ _, h _⟩
    · intro e he
      have he' : e ∈ putL name (PyData.keyHash x.C.w.params name) (.str name (s.toks + 1)) v es.toList := by simpa using he
      rcases q2 e he' with ⟨e1, e2⟩ | ⟨e', m', e1, e2⟩
      · exact ⟨name, by rw [e2]; exact strKind_is _ _ _ _, e1⟩
      · obtain ⟨k, g1, g2⟩ := h1 e' (by simpa using m')
        exact ⟨k, by rw [e2]; exact g1, by rw [e1]; exact g2⟩
    · rw [← h4, aput_er]

/-- a call of a class of the text's -/
theorem run_newobj {cl fI : Addr} {pos : List Value} {Q : AV → AS → Prop} (hm : makesIn (Mine.hd.heap_39 x.C.w.params) cl = true) (hi : findIn (Mine.hd.heap_39 x.C.w.params) (.ref cl) "__init__" = some (some (.ref fI))) (hf : isFn (Mine.hd.heap_39 x.C.w.params) (.ref fI) = true)
    (h : ∀ a d A', Fresh σ d → Fresh σ a → a ≠ d → A'.depth = x.A.depth + 1 → A'.handled = x.A.handled → RunC (x.with A') (.call (.ref fI) ⟨.ref a :: pos, []⟩) (fun r σ' => r = .ok (.ret .none) ∧ Q (.ref a) σ') ((σ.put d (.sdict [] 0 false)).put a (.inst cl d))) : RunV x (call (.ref cl) pos []) Q σ := by
  refine runV_ofC ?_
  intro s R
  obtain ⟨hh, g, dr, t, os⟩ := s
  have X := R.ok.kx.keeps R.base
  have R1 := R.push (ao := .sdict [] 0 false) (o := emptyDict) ⟨#[], [], rfl, fun _ h => by simp at h, .nil, List.nodup_nil, rfl⟩ t
  have R2 := R1.push (ao := .inst cl hh.objs.size) (o := instObj cl hh.objs.size) rfl t
  have hsz : (hh.push emptyDict).objs.size = hh.objs.size + 1 := Heap.size_push ..
  have R3 : Rel x.C x.fs x.L ((σ.put hh.objs.size (.sdict [] 0 false)).put (hh.objs.size + 1) (.inst cl hh.objs.size)) ⟨(hh.push emptyDict).push (instObj cl hh.objs.size), g, dr, t, os⟩ := by
    have := R2
    simp only [hsz] at this
    exact this
  refine make_core (makes_of X hm) (looks_findIn X hi) (fun self => bind_fn X self (beq_iff_eq.mp hf)) (.inl rfl) ?_
  refine codeAny_mono (h (hh.objs.size + 1) hh.objs.size (x.A.under (.builtin "type.__call__" ⟨.ref cl :: pos, []⟩)) (R.fresh (Nat.le_refl _)) (R.fresh (Nat.le_succ _)) (Nat.succ_ne_self _) rfl rfl _ R3) fun r s' ⟨σ', R', e, q⟩ => ?_
  subst e
  exact ⟨rfl, σ', R', _, rfl, q⟩
end
end
-- AzDict
section
theorem emp_dict {C : Cx} {fs : List (Addr × Loc)} {L : Addr} {σ : AS} {s : Shared} (R : Rel C fs L σ s) {d : Addr} {ep : Nat} (h : σ.hp d = some (.idict [] ep)) {K : Type} [DecidableEq K] (knd : KeyKind Pg C.w K) : s.heap.DictAt knd d [] ep := by
  obtain ⟨o, ho, es, kvs', h1, h2, h3, h4, h5, h6⟩ := R.get h
  have : kvs' = [] := by simpa using h6
  subst this
  have hes : es.toList = [] := by
    generalize es.toList = l at h4
    cases h4
    rfl
  have hes' : es = #[] := by
    apply Array.toList_inj.mp
    exact hes
  subst hes'
  exact ⟨o, #[], ho, h1, h2, fun e he => by simp at he, .nil, List.nodup_nil⟩
section
variable {x : X} {α β : Type} {σ : AS} {env : Env}
theorem n_dict0 {pos : Pos} {Q : AV → AS → Prop} (h : ∀ a, Fresh σ a → Q (.ref a) (σ.put a (.idict [] 0))) : RunV x (eval (.Dict [] [] pos) env) Q σ := by
  intro s R
  refine wpAny_Dict_empty ⟨_, R.push (ao := .idict [] 0) ?_ s.toks, h _ (R.fresh (Nat.le_refl _))⟩
  exact ⟨#[], [], ⟨rfl, rfl, rfl⟩, rfl, fun _ h => by simp at h, .nil, List.nodup_nil, rfl⟩
theorem pop_empty {d : Addr} {ep : Nat} {k : Str} {t : Tok} {v : Value} {Q : AV → AS → Prop} (hd : σ.hp d = some (.idict [] ep)) (h : Q (er v) σ) : RunV x (call (.builtin "dict.pop") [.ref d, .str k t, v]) Q σ := by
  intro s R
  have hm := emp_dict R hd (strKind Pg x.C.w)
  refine call_meetsIn F.slot_dict_pop hm.dictOf.typeIs F.entry_dict_pop (F.args_dict_pop_3 _ _ _) (meets_dict_pop_default (strKind Pg x.C.w) d (k := k) (strKind_is _ _ _ _) (R.notMods hd) rfl v) ⟨[], hm.dictOf, rfl, ?_⟩
  exact ⟨σ, R.toks _, h⟩
theorem get_default {d : Addr} {kvs : List (Int × AV)} {ep : Nat} {k : Int} {t : Tok} {v : Value} {Q : AV → AS → Prop} (hd : σ.hp d = some (.idict kvs ep)) (h : Q ((aget kvs k).getD (er v)) σ) : RunV x (call (.builtin "dict.get") [.ref d, .int k t, v]) Q σ := by
  intro s R
  obtain ⟨kvs', hm, rfl⟩ := idict_at R hd
  refine call_meetsIn F.slot_dict_get hm.dictOf.typeIs F.entry_dict_get (F.args_dict_get_3 _ _ _) (meets_dict_get_default (intKind Pg x.C.w) d (k := k) (intKind_is _ _ _ _) (R.notMods hd) v) ⟨_, hm.dictOf.mapOf, ?_⟩
  refine ⟨σ, R.toks _, ?_⟩
  rw [aget_er] at h
  cases e : valueAt kvs' k with
  | none => rw [e] at h; exact h
  | some u => rw [e] at h; exact h
theorem meth_dict {d : Addr} {kvs : List (Int × AV)} {ep : Nat} {name : Str} {id : String} {pl : Sem Bool} {Q : Value × List Value → AS → Prop} (hd : σ.hp d = some (.idict kvs ep)) (slot : Slot "dict" name id) (hty : typeOf (.builtin id) = pure (.type "method_descriptor")) (h : Q (.builtin id, [.ref d]) σ) :
    Run x (getMethod (.ref d) name pl) Q σ := meth_of F.plainAttrs_dict slot hty (bare_idict hd) h
theorem meth_set {d : Addr} {xs : List Int} {ep : Nat} {name : Str} {id : String} {pl : Sem Bool} {Q : Value × List Value → AS → Prop} (hd : σ.hp d = some (.set xs ep)) (slot : Slot "set" name id) (hty : typeOf (.builtin id) = pure (.type "method_descriptor")) (h : Q (.builtin id, [.ref d]) σ) :
    Run x (getMethod (.ref d) name pl) Q σ := meth_of F.plainAttrs_set slot hty (bare_set hd) h
theorem update_empty {d o : Addr} {kvs : List (Int × AV)} {epd ep : Nat} {Q : AV → AS → Prop} (hd : σ.hp d = some (.idict kvs epd)) (ho : σ.hp o = some (.idict [] ep)) (h : Q .none σ) : RunV x (call (.builtin "dict.update") [.ref d, .ref o]) Q σ := by
  refine run_entry F.slot_dict_update (fun s R => type_idict R hd) F.entry_dict_update ?_ (F.args_dict_update_2 _ _)
  refine run_notMods ho fun hm => ?_
  have hemp : ∀ es : Array DictEntry, es.size = ([] : List (Int × AV)).length → es = #[] := fun es h => Array.eq_empty_of_size_eq_zero h
  unfold Builtin.«dict.update» Builtin.Dict.selfAndRest
  refine run_bind (t := Builtin.Dict.notOrdered "update" ⟨[.ref d, .ref o], []⟩ >>= _) (run_bind (fun s R => wpAny_notOrdered_dict (type_idict R hd) ⟨σ, R, ?_⟩))
  dsimp only
  unfold Builtin.Dict.addrOf
  refine run_bind (run_pure (run_pure ?_))
  show Run _ (Builtin.Dict.updateCommon "dict.update" "update" d [.ref o] []) _ σ
  unfold Builtin.Dict.updateCommon Builtin.Dict.updateFrom
  dsimp only
  refine run_bind (run_typeOf (fun s R => type_idict R ho) ?_)
  rw [if_neg (by decide)]
  unfold Builtin.Dict.merge Builtin.Dict.readDirectly
  refine run_bind (run_bind (run_bind (run_isInstance (T := "dict") (b := true) (fun s R => type_idict R ho) (by rw [isSubtype_type]; kernel_rfl) ?_)))
  simp only [Bool.not_true, Bool.false_eq_true, if_false]
  refine run_bind (fun s R => wpAny_specialOf (type_idict R ho) F.slot_dict_iter.lookup ⟨σ, R, run_pure ?_⟩)
  rw [if_pos (by rfl)]
  unfold Builtin.Dict.addrOf
  refine run_bind (run_pure ?_)
  unfold Builtin.Dict.mergeDict
  have fin : Run (x.with x.A.in1) (Builtin.Dict.addKeywords d [] >>= fun _ => ret Value.none) (fun fin σ' => ∃ v, fin = .done (.ret v) ∧ Q (er v) σ') σ := by
    unfold Builtin.Dict.addKeywords
    refine run_bind ?_
    exact run_pure (run_ret h)
  split
  · exact run_bind (run_rule (run_pure fin))
  · unfold Builtin.Dict.showsAll
    rw [hm]
    simp only [Bool.false_eq_true, if_false]
    refine run_bind (run_pure (run_bind (run_dictEntries ho fun es h1 _ => ?_)))
    have e0 := hemp es h1
    subst e0
    simp only [List.size_toArray, List.length_nil, Nat.zero_le, decide_true, Bool.true_and]
    rw [show (Array.all #[] (fun e : DictEntry => (keyPart e.key).isSome) 0 0) = true from by simp]
    simp only [Bool.not_true, Bool.false_eq_true, if_false]
    refine run_bind (run_dictEpoch ho (run_bind (run_dictEntries ho fun es h1 _ => ?_)))
    have e0 := hemp es h1
    subst e0
    refine run_bind ?_
    rw [Std.Legacy.Range.forIn_eq_forIn_range']
    exact run_forIn (fun l σ' => l = [] ∧ σ' = σ) ⟨rfl, rfl⟩ (fun a r σ' e => nomatch e.1) fun σ' e => by rw [e.2]; exact run_pure fin
theorem s_setattr {o e : Expr} {name : Str} {p pos : Pos} {Q : Flow → AS → Prop}
    (h : RunV x (eval e env) (fun a σ₁ => ∀ v, er v = a → RunV x (eval o env) (fun b σ₂ => ∀ ov, er ov = b → Run x (setAttr ov name v) (fun _ σ₄ => Q .next σ₄) σ₂) σ₁) σ)
    (hsw : swapsWith e (some (.Attribute o name p)) pos.line env = pure false := by rfl) : Run x (exec (.Assign [.Attribute o name p] e pos) env) Q σ := by
  rw [plainObj_exec_Assign_Attribute _ _ _ _ _ hsw]
  refine run_bind (run_standAt (runV_bind (runV_mono h fun a σ₁ h₁ v hv => run_bind ?_)))
  rw [assign_Attribute]
  exact runV_bind (runV_hold (runV_mono (h₁ v hv) fun b σ₂ h₂ ov hov => run_bind (run_standAt (run_bind (run_hold (run_mono (h₂ ov hov) fun _ σ₃ h₃ => run_release (run_pure h₃)))))))
end
end
-- AzReach
section
/-- the dict of dicts of a graph -/
def AdjAt (σ : AS) (d : Addr) (ns : List Int) (nb : Int → List Int) : Prop :=
  ∃ kvs ep, σ.hp d = some (.idict kvs ep) ∧ kvs.map (·.1) = ns ∧ ∀ n ∈ ns, ∃ a kvs' ep', aget kvs n = some (.ref a) ∧ σ.hp a = some (.idict kvs' ep') ∧ kvs'.map (·.1) = nb n
inductive Rch (nb : Int → List Int) (v : Int) : Int → Prop where
  | here : Rch nb v v
  | step {a b : Int} : Rch nb v a → b ∈ nb a → Rch nb v b

theorem reached_spec {C : Cx} {fs : List (Addr × Loc)} {L : Addr} {A : Around} {σ : AS} {d l : Addr} {ns : List Int} {nb : Int → List Int} {v : Int} {Q : AV → AS → Prop}
    (hA : Deep A 1) (had : AdjAt σ d ns nb) (hl : σ.hp l = some (.list [.int v])) (hv : v ∈ ns) (hnb : ∀ n ∈ ns, ∀ m ∈ nb n, m ∈ ns) (hns : ns.Nodup) (hsz : ns.length < 8)
    (h : ∀ σ' q l', Ext σ σ' → σ'.loc = σ.loc → σ'.hp l' = some (.list (avs q)) → q.Nodup → v ∈ q → (∀ n ∈ q, n ∈ ns ∧ Rch nb v n ∧ ∀ m ∈ nb n, m ∈ q) → Q (.ref l') σ') :
    RunV ⟨C, fs, L, A⟩ (call (.ref 26) [.ref d, .ref l]) Q σ := by
  refine run_callpl ["neighbors", "sources"] [("neighbors", .ref d), ("sources", .ref l)] hA (by k_is) (by k_is) rfl (by decide)
    (fun _ σ₁ => σ₁.loc "neighbors" = some (.ref d) ∧ σ₁.loc "sources" = some (.ref l)) (fun _ _ => ⟨rfl, rfl⟩) fun L' A' σ₁ hf hA' hE ⟨l1, l2⟩ => ?_
  refine s_then (fun σ' => ∃ ds ep, Ext σ σ' ∧ Fresh σ ds ∧ σ'.loc "neighbors" = some (.ref d) ∧ σ'.loc "seen" = some (.ref ds) ∧ σ'.hp ds = some (.idict (keysOf [v]) ep)) ?_ ?_
  · refine s_assign_compD rfl ?_
    walk_at "st"
    refine iter_list (by walk_at "hp") fun I hI => ?_
    walk_at "ev"
    refine new_idict fun ds hds => ?_
    walk_at "ev"
    have hds' : Fresh σ ds := hE.fresh (hds.put hI)
    have hneI : ds ≠ I := fun e => hds I _ put_same e.symm
    refine comp_goN (self_list (l := l) (i := 0) (by walk_at "hp")) fun L₂ σ₂ hf₂ hE₂ => ?_
    refine ⟨fun n σ' => n ≤ 1 ∧ Ext σ σ' ∧ σ'.hp I = some (LIter l (1 - n)) ∧ ∃ ep, σ'.hp ds = some (.idict (keysOf ([v].take (1 - n))) ep), 1, ⟨Nat.le_refl _, ?_, ?_, ?_⟩, ?_⟩
    · exact ((hE.put (hE.fresh hI)).put hds').trans hE₂
    · walk_at "hp"
    · exact ⟨0, hE₂.hp _ _ put_same⟩
    · rintro n σ₃ ⟨hn, hE₃, hI₃, ep, hds₃⟩
      refine turn_dict1 ?_
      refine next_list hA'.h hI₃ (hE₃.hp _ _ hl) (fun hlt u hu => ?_) (fun hge => ?_)
      · have h1 : n = 1 := by simp at hlt; omega
        subst h1
        obtain ⟨t, rfl⟩ := er_int (v := u) (i := v) (by simpa using hu)
        walk_at "st"
        walk_at "st"
        walk_at "st"
        walk_at "st"
        walk_at "st"
        refine set_idict (by walk_at "hp") (fits (by simp [keysOf])) fun ep' => ?_
        refine ⟨0, by omega, Nat.zero_le _, by walk_at "ext", by walk_at "hp", ep', put_same.trans rfl⟩
      · have h0 : n = 0 := by simp at hge; omega
        subst h0
        exact ⟨rfl, ds, ep, by walk_at "ext", hds', by walk_at "loc", loc_same, by walk_at "hp"⟩
  rintro σ₂ ⟨ds, ep, hE₂, hfd, l1, l2, hd⟩
  walk_at "st"
  walk_at "st"
  refine n_call1 ?_
  walk_at "st"
  refine ⟨keep_type _, a_cons ?_⟩
  walk_at "st"
  refine a_nil ?_
  refine list_of_idict hA'.h hd (fits (by simp [keysOf])) fun ql hql => ?_
  walk_at "ev"
  walk_at "st"
  refine s_then (fun σ' => ∃ q, Ext σ σ' ∧ σ'.loc "queue" = some (.ref ql) ∧ σ'.hp ql = some (.list (avs q)) ∧ q.Nodup ∧ v ∈ q ∧ (∀ n ∈ q, n ∈ ns ∧ Rch nb v n) ∧ ∀ n ∈ q, ∀ m ∈ nb n, m ∈ q) ?_ ?_
  · refine s_for ?_
    walk_at "st"
    refine iter_list put_same fun I hI => ?_
    walk_at "ev"
    have hfq : Fresh σ ql := by walk_at "fresh"
    have hfI : Fresh σ I := hE₂.fresh (Fresh.put hI hql)
    have hn1 : ql ≠ ds := fun e => hql ds _ hd e.symm
    refine ⟨fun k σ' => ∃ q i ep, k + i = ns.length ∧ Ext σ σ' ∧ σ'.loc "queue" = some (.ref ql) ∧ σ'.loc "neighbors" = some (.ref d) ∧ σ'.loc "seen" = some (.ref ds) ∧ σ'.hp ds = some (.idict (keysOf q) ep) ∧ σ'.hp ql = some (.list (avs q)) ∧
      σ'.hp I = some (LIter ql i) ∧ i ≤ q.length ∧ q.Nodup ∧ v ∈ q ∧ (∀ n ∈ q, n ∈ ns ∧ Rch nb v n) ∧ ∀ n ∈ q.take i, ∀ m ∈ nb n, m ∈ q, ns.length, ⟨[v], 0, ep, rfl, ?_⟩, ?_⟩
    · refine ⟨by walk_at "ext", by walk_at "loc", by walk_at "loc", by walk_at "loc", by walk_at "hp", put_ne (fun e => hI ql _ put_same e) put_same, put_same, Nat.zero_le _, by simp, by simp, ?_, by simp⟩
      intro n hn
      have : n = v := by simpa using hn
      subst this
      exact ⟨hv, .here⟩
    · rintro k σ₃ ⟨q, i, ep₃, hk, hE₃, l1, l2, l3, hd₃, hq₃, hI₃, hi, hnd, hvq, hq, hcl⟩
      have hlen : q.length ≤ ns.length := nodup_sub hnd fun n hn => (hq n hn).1
      refine next_list hA'.h hI₃ hq₃ (fun hlt u hu => ?_) (fun hge => ?_)
      · have hlt' : i < q.length := by simpa using hlt
        obtain ⟨t, rfl⟩ := er_int (v := u) (i := q[i]) (by simpa [hlt'] using hu)
        have hmem : q[i] ∈ q := List.getElem_mem hlt'
        generalize hgen : q[i] = n at *
        walk_at "st"
        walk_at "st"
        walk_at "st"
        walk_at "st"
        obtain ⟨kvs, epd, hdd, hkeys, hin⟩ := had
        obtain ⟨a, kvs', epa, hget, haa, hka⟩ := hin n (hq n hmem).1
        have hdd₃ := hE₃.hp _ _ hdd
        have haa₃ := hE₃.hp _ _ haa
        have hnIa : I ≠ a := Ne.symm (hfI _ _ haa)
        have hnId : I ≠ d := Ne.symm (hfI _ _ hdd)
        have hnsa : ds ≠ a := Ne.symm (hfd _ _ haa)
        have hnqa : ql ≠ a := Ne.symm (hfq _ _ haa)
        refine s_for ?_
        walk_at "st"
        walk_at "st"
        walk_at "st"
        refine sub_idict (by walk_at "hp") hget ?_
        walk_at "ev"
        refine iter_idict (d := a) (kvs := kvs') (ep := epa) (by walk_at "hp") fun J hJ => ?_
        walk_at "ev"
        have hfJ : Fresh σ J := by walk_at "fresh"
        have hJI : J ≠ I := fun e => hJ I _ (by walk_at "hp") e.symm
        refine ⟨fun k' σ' => ∃ q' j ep, k' + j = kvs'.length ∧ Ext σ σ' ∧ σ'.loc "queue" = some (.ref ql) ∧ σ'.loc "neighbors" = some (.ref d) ∧ σ'.loc "seen" = some (.ref ds) ∧ σ'.hp ds = some (.idict (keysOf q') ep) ∧ σ'.hp ql = some (.list (avs q')) ∧
          σ'.hp I = some (LIter ql (i + 1)) ∧ σ'.hp J = some (KIter a j kvs'.length epa) ∧ q'.Nodup ∧ (∀ n ∈ q', n ∈ ns ∧ Rch nb v n) ∧ q <+: q' ∧ ∀ m ∈ (nb n).take j, m ∈ q', kvs'.length, ⟨q, 0, ep₃, rfl, ?_⟩, ?_⟩
        · exact ⟨by walk_at "ext", by walk_at "loc", by walk_at "loc", by walk_at "loc", by walk_at "hp", by walk_at "hp", by walk_at "hp", by walk_at "hp", hnd, hq, List.prefix_refl _, by simp⟩
        · rintro k' σ₄ ⟨q', j, ep₄, hk', hE₄, l1, l2, l3, hd₄, hq₄, hI₄, hJ₄, hnd', hq', hpre, hcl'⟩
          refine next_idict hA'.h hJ₄ (hE₄.hp _ _ haa) (fun m am hkm t => ?_) (fun hge => ?_)
          · have hjm : (nb n)[j]? = some m := by rw [← hka, List.getElem?_map, hkm]; rfl
            have hjl : j < kvs'.length := by
              rcases Nat.lt_or_ge j kvs'.length with h | h
              · exact h
              · rw [List.getElem?_eq_none h] at hkm; cases hkm
            have hmn : m ∈ nb n := List.mem_of_getElem? hjm
            walk_at "st"
            walk_at "st"
            walk_at "st"
            walk_at "st"
            walk_at "st"
            walk_at "st"
            walk_at "st"
            walk_at "st"
            refine notin_idict (by walk_at "hp") ?_
            rw [aget_keysOf]
            have hgo : ∀ q'' : List Int, m ∈ q'' → (∀ x ∈ q', x ∈ q'') → ∀ x ∈ (nb n).take (j + 1), x ∈ q'' := fun q'' h1 h2 x hx => by
              rw [List.take_add_one, hjm] at hx
              rcases List.mem_append.mp hx with h | h
              · exact h2 x (hcl' x h)
              · have : x = m := by simpa using h
                exact this ▸ h1
            by_cases hmq : m ∈ q'
            · refine ⟨fun h => by simp [hmq] at h, fun _ => ?_⟩
              walk_at "st"
              walk_at "st"
              exact ⟨kvs'.length - (j + 1), by omega, q', j + 1, ep₄, by omega, by walk_at "ext", by walk_at "loc", by walk_at "loc", by walk_at "loc", by walk_at "hp", by walk_at "hp", by walk_at "hp", put_same, hnd', hq', hpre, hgo q' hmq fun _ h => h⟩
            · refine ⟨fun _ => ?_, fun h => by simp [hmq] at h⟩
              have hlen' : q'.length ≤ ns.length := nodup_sub hnd' fun n hn => (hq' n hn).1
              walk_at "st"
              walk_at "st"
              walk_at "st"
              walk_at "st"
              walk_at "st"
              refine store_idict (by walk_at "hp") (fits (by simp [keysOf]; omega)) fun ep₅ => ?_
              walk_at "st"
              walk_at "st"
              refine n_meth1 ?_
              walk_at "st"
              refine meth_append (vs := avs q') (by walk_at "hp") ⟨keep_builtin _, ?_⟩
              walk_at "st"
              refine append_list (by walk_at "hp") (fits (by simp; omega)) ?_
              walk_at "ev"
              refine drop_none ?_
              walk_at "st"
              walk_at "st"
              have hd₅ := aput_keysOf hmq
              have hne2 : J ≠ ql := fun e => by rw [e, hq₄] at hJ₄; cases hJ₄
              have hne3 : J ≠ ds := fun e => by rw [e, hd₄] at hJ₄; cases hJ₄
              refine ⟨kvs'.length - (j + 1), by omega, q' ++ [m], j + 1, ep₅, by omega, by walk_at "ext", by walk_at "loc", by walk_at "loc", by walk_at "loc", ?_, ?_, ?_, ?_, ?_, ?_, ?_, ?_⟩
              · rw [← hd₅]; exact put_ne hn1.symm put_same
              · rw [put_same]; simp [er]
              · walk_at "hp"
              · walk_at "hp"
              · refine List.nodup_append.mpr ⟨hnd', by simp, fun x hx y hy e => hmq ?_⟩
                have : y = m := by simpa using hy
                rw [← this, ← e]; exact hx
              · intro x hx
                rcases List.mem_append.mp hx with h | h
                · exact hq' x h
                · have : x = m := by simpa using h
                  subst this
                  exact ⟨hnb n (hq n hmem).1 x hmn, .step (hq n hmem).2 hmn⟩
              · exact hpre.trans (List.prefix_append _ _)
              · exact hgo _ (by simp) fun x h => List.mem_append_left _ h
          · have hall : ∀ m ∈ nb n, m ∈ q' := fun m hm => hcl' m (by rw [List.take_of_length_le]; exact hm; rw [← hka]; simpa using hge)
            walk_at "st"
            walk_at "st"
            have hlen' : q'.length ≤ ns.length := nodup_sub hnd' fun n hn => (hq' n hn).1
            have hpl := hpre.length_le
            refine ⟨ns.length - (i + 1), by omega, q', i + 1, ep₄, by omega, by walk_at "ext", by walk_at "loc", by walk_at "loc", by walk_at "loc", by walk_at "hp", by walk_at "hp", by walk_at "hp", by omega, hnd', hpre.subset hvq, hq', ?_⟩
            intro x hx m hm
            obtain ⟨q₂, rfl⟩ := hpre
            rw [List.take_append_of_le_length (by omega), List.take_add_one] at hx
            rcases List.mem_append.mp hx with h | h
            · exact List.mem_append_left _ (hcl x h m hm)
            · have : x = n := by rw [List.getElem?_eq_getElem hlt', hgen] at h; simpa using h
              subst this
              exact hall m hm
      · walk_at "st"
        have : q.take i = q := List.take_of_length_le (by simpa using hge)
        rw [this] at hcl
        exact ⟨rfl, q, by walk_at "ext", l1, by walk_at "hp", hnd, hvq, hq, hcl⟩
  · rintro σ₃ ⟨q, hE₃, l1, hq₃, hnd, hvq, hq, hcl⟩
    walk_at "st"
    walk_at "st"
    walk_at "st"
    exact h _ q ql (by walk_at "ext") rfl (by walk_at "hp") hnd hvq fun n hn => ⟨(hq n hn).1, (hq n hn).2, hcl n hn⟩
end
-- AzGraph
section
section
variable {x : X} {α β : Type} {σ : AS} {env : Env}
theorem run_seqK {a : Addr} {c : Value} {d : Option Addr} {xs : Array Value} {n : Nat} {sl : Array (Option Value)} {Q : Option (Array Value) → AS → Prop} (e : (Mine.hd.heap_39 x.C.w.params).lookup a = some ⟨c, d, .seq xs n, sl⟩) (h : Q (some xs) σ) : Run x (seqItems? (.ref a)) Q σ := fun s R =>
  wpAny_seqItems ((R.ok.kx.keeps R.base) _ _ e) rfl ⟨σ, R, h⟩
theorem meth_inst {g cl d f : Addr} {kvs : List (Str × AV)} {ep : Nat} {hd : Bool} {name : Str} {pl : Sem Bool} {Q : Value × List Value → AS → Prop} (hg : σ.hp g = some (.inst cl d)) (hk : σ.hp d = some (.sdict kvs ep hd)) (hv : aget kvs name = none)
    (hga : plainGet (Mine.hd.heap_39 x.C.w.params) cl name = true) (hf : findIn (Mine.hd.heap_39 x.C.w.params) (.ref cl) name = some (some (.ref f))) (ht : isFn (Mine.hd.heap_39 x.C.w.params) (.ref f) = true) (h : Q (.ref f, [.ref g]) σ) : Run x (getMethod (.ref g) name pl) Q σ := by
  intro s R
  obtain ⟨es, kvs', I, hd', h1, h2, h3, h4⟩ := inst_at R hg hk
  have hl : valueAt kvs' name = none := by
    rw [← h4, aget_er] at hv
    cases e : valueAt kvs' name with
    | none => rfl
    | some u => rw [e] at hv; cases hv
  refine method_fn (R.ok.kx.keeps R.base) I (plainGet_of hga).1 (plainGet_of hga).2 hf (beq_iff_eq.mp ht) ?_ ⟨σ, R, h⟩
  show (lookIn name _).map _ = some false
  rw [lookIn_pairs rfl h2, hl]; rfl
end
section
variable {x : X} {α β : Type} {σ : AS} {env : Env}
theorem n_meth0 {o : Expr} {name : Str} {apos pos : Pos} {Q : AV → AS → Prop} {pl : Sem Bool}
    (h : RunV x (eval o env) (fun a σ₁ => ∀ ov, er ov = a → Run x (getMethod ov name pl) (fun fx σ₂ => KeepOK fx.1 ∧ RunV x (call fx.1 (fx.2 ++ [])) Q σ₂) σ₁) σ)
    (he : eval (.Call (.Attribute o name apos) [] [] pos) env = (do
      let ov ← eval o env
      standAt apos.atName
      let (f, first) ← holding [ov] (getMethod ov name pl)
      callWith pos f first (backTo pos (starEach [] env)) []) := by rfl) :
    RunV x (eval (.Call (.Attribute o name apos) [] [] pos) env) Q σ := by
  refine n_meth (pl := pl) (runV_mono h fun a σ₁ h₁ ov hov => run_mono (h₁ ov hov) fun fx σ₂ ⟨hk, h₂⟩ => ?_) he
  exact run_callWith0 hk h₂
theorem n_meth2 {o e₁ e₂ : Expr} {name : Str} {apos pos : Pos} {Q : AV → AS → Prop} {pl : Sem Bool}
    (h : RunV x (eval o env) (fun a σ₁ => ∀ ov, er ov = a → Run x (getMethod ov name pl) (fun fx σ₂ => KeepOK fx.1 ∧ RunV x (eval e₁ env) (fun b σ₃ => ∀ v, er v = b → RunV x (eval e₂ env) (fun c σ₄ => ∀ u, er u = c → RunV x (call fx.1 (fx.2 ++ [v, u])) Q σ₄) σ₃) σ₂) σ₁) σ)
    (he : eval (.Call (.Attribute o name apos) [e₁, e₂] [] pos) env = (do
      let ov ← eval o env
      standAt apos.atName
      let (f, first) ← holding [ov] (getMethod ov name pl)
      callWith pos f first (backTo pos (starEach [e₁, e₂] env)) []) := by rfl) (he1 : starEach [e₁, e₂] env = (false, eval e₁ env) :: starEach [e₂] env := by rfl) (he2 : starEach [e₂] env = (false, eval e₂ env) :: starEach [] env := by rfl) :
    RunV x (eval (.Call (.Attribute o name apos) [e₁, e₂] [] pos) env) Q σ := by
  refine n_meth (pl := pl) (runV_mono h fun a σ₁ h₁ ov hov => run_mono (h₁ ov hov) fun fx σ₂ ⟨hk, h₂⟩ => ?_) he
  exact run_callWith1 hk (a_cons (runV_mono h₂ fun b σ₃ h₃ v hv => a_cons (runV_mono (h₃ v hv) fun c σ₄ h₄ u hu => a_nil (h₄ u hu)) he2) he1) he1 (by rw [he2]; rfl)
theorem aput_lt {K : Type} [DecidableEq K] {kvs : List (K × AV)} {k : K} {v : AV} {n : Nat} (h : kvs.length < n) : (aput kvs k v).length < n + 1 := by
  unfold aput
  split
  · rw [List.length_map]; omega
  · rw [List.length_append]; simpa using h
theorem n_attr' {e : Expr} {attr : Str} {pos : Pos} {Q : AV → AS → Prop} (h : RunV x (eval e env) (fun a σ₁ => ∀ v, er v = a → RunV x (getAttr v attr true) Q σ₁) σ) (hb : attributeBase e attr env (eval e env) = eval e env := by rfl) : RunV x (eval (.Attribute e attr pos) env) Q σ := by
  show Run x (do let o ← attributeBase e attr env (eval e env); standAt pos.atName; let r ← holding [o] (getAttr o attr true); letTemporaryGo e o r; pure r) _ σ
  rw [hb]
  refine runV_bind (runV_mono h fun a σ₁ h₁ v hv => run_bind (run_standAt (run_bind (run_hold (run_mono (h₁ v hv) fun r σ₂ h₂ => ?_)))))
  exact run_bind (fun s R => wpAny_letTemporaryGo ⟨σ₂, R, run_pure h₂⟩)
theorem at_put {σ₁ : AS} {a : Addr} {ao : AO} (h1 : σ₁.hp = σ.hp) (h2 : σ₁.gs = σ.gs) : (σ₁.put a ao).at σ.loc = σ.put a ao := by
  obtain ⟨l, hp, g⟩ := σ
  obtain ⟨l', hp', g'⟩ := σ₁
  cases h1; cases h2; rfl
theorem at_self {σ₁ : AS} (h1 : σ₁.hp = σ.hp) (h2 : σ₁.gs = σ.gs) : σ₁.at σ.loc = σ := by
  obtain ⟨l, hp, g⟩ := σ
  obtain ⟨l', hp', g'⟩ := σ₁
  cases h1; cases h2; rfl
end
theorem fac_graph_attr {C : Cx} {fs : List (Addr × Loc)} {L : Addr} {A : Around} {σ : AS} {v : Value} {Q : AV → AS → Prop} (hA : Deep A 1) (h : ∀ a, Fresh σ a → Q (.ref a) (σ.put a (.idict [] 0))) :
    RunV ⟨C, fs, L, A⟩ (call (.ref 339) [v]) Q σ := by
  refine run_callpl ["self"] [("self", v)] hA (by k_is) (by k_is) rfl (by decide) (fun _ σ₁ => σ₁.hp = σ.hp ∧ σ₁.gs = σ.gs) (fun _ _ => ⟨rfl, rfl⟩) fun L' A' σ₁ hf hA' hE ⟨e1, e2⟩ => ?_
  walk_at "st"
  walk_at "st"
  refine n_dict0 fun a ha => ?_
  walk_at "ev"
  rw [at_put e1 e2]
  exact h a (hE.fresh ha)
theorem fac_node_dict {C : Cx} {fs : List (Addr × Loc)} {L : Addr} {A : Around} {σ : AS} {v : Value} {Q : AV → AS → Prop} (hA : Deep A 1) (h : ∀ a, Fresh σ a → Q (.ref a) (σ.put a (.idict [] 0))) :
    RunV ⟨C, fs, L, A⟩ (call (.ref 304) [v]) Q σ := by
  refine run_callpl ["self"] [("self", v)] hA (by k_is) (by k_is) rfl (by decide) (fun _ σ₁ => σ₁.hp = σ.hp ∧ σ₁.gs = σ.gs) (fun _ _ => ⟨rfl, rfl⟩) fun L' A' σ₁ hf hA' hE ⟨e1, e2⟩ => ?_
  walk_at "st"
  walk_at "st"
  refine n_dict0 fun a ha => ?_
  walk_at "ev"
  rw [at_put e1 e2]
  exact h a (hE.fresh ha)
theorem fac_adj_outer {C : Cx} {fs : List (Addr × Loc)} {L : Addr} {A : Around} {σ : AS} {v : Value} {Q : AV → AS → Prop} (hA : Deep A 1) (h : ∀ a, Fresh σ a → Q (.ref a) (σ.put a (.idict [] 0))) :
    RunV ⟨C, fs, L, A⟩ (call (.ref 318) [v]) Q σ := by
  refine run_callpl ["self"] [("self", v)] hA (by k_is) (by k_is) rfl (by decide) (fun _ σ₁ => σ₁.hp = σ.hp ∧ σ₁.gs = σ.gs) (fun _ _ => ⟨rfl, rfl⟩) fun L' A' σ₁ hf hA' hE ⟨e1, e2⟩ => ?_
  walk_at "st"
  walk_at "st"
  refine n_dict0 fun a ha => ?_
  walk_at "ev"
  rw [at_put e1 e2]
  exact h a (hE.fresh ha)
theorem fac_adj_inner {C : Cx} {fs : List (Addr × Loc)} {L : Addr} {A : Around} {σ : AS} {v : Value} {Q : AV → AS → Prop} (hA : Deep A 1) (h : ∀ a, Fresh σ a → Q (.ref a) (σ.put a (.idict [] 0))) :
    RunV ⟨C, fs, L, A⟩ (call (.ref 325) [v]) Q σ := by
  refine run_callpl ["self"] [("self", v)] hA (by k_is) (by k_is) rfl (by decide) (fun _ σ₁ => σ₁.hp = σ.hp ∧ σ₁.gs = σ.gs) (fun _ _ => ⟨rfl, rfl⟩) fun L' A' σ₁ hf hA' hE ⟨e1, e2⟩ => ?_
  walk_at "st"
  walk_at "st"
  refine n_dict0 fun a ha => ?_
  walk_at "ev"
  rw [at_put e1 e2]
  exact h a (hE.fresh ha)
theorem fac_node_attr {C : Cx} {fs : List (Addr × Loc)} {L : Addr} {A : Around} {σ : AS} {v : Value} {Q : AV → AS → Prop} (hA : Deep A 1) (h : ∀ a, Fresh σ a → Q (.ref a) (σ.put a (.idict [] 0))) :
    RunV ⟨C, fs, L, A⟩ (call (.ref 311) [v]) Q σ := by
  refine run_callpl ["self"] [("self", v)] hA (by k_is) (by k_is) rfl (by decide) (fun _ σ₁ => σ₁.hp = σ.hp ∧ σ₁.gs = σ.gs) (fun _ _ => ⟨rfl, rfl⟩) fun L' A' σ₁ hf hA' hE ⟨e1, e2⟩ => ?_
  walk_at "st"
  walk_at "st"
  refine n_dict0 fun a ha => ?_
  walk_at "ev"
  rw [at_put e1 e2]
  exact h a (hE.fresh ha)
theorem fac_edge_attr {C : Cx} {fs : List (Addr × Loc)} {L : Addr} {A : Around} {σ : AS} {v : Value} {Q : AV → AS → Prop} (hA : Deep A 1) (h : ∀ a, Fresh σ a → Q (.ref a) (σ.put a (.idict [] 0))) :
    RunV ⟨C, fs, L, A⟩ (call (.ref 332) [v]) Q σ := by
  refine run_callpl ["self"] [("self", v)] hA (by k_is) (by k_is) rfl (by decide) (fun _ σ₁ => σ₁.hp = σ.hp ∧ σ₁.gs = σ.gs) (fun _ _ => ⟨rfl, rfl⟩) fun L' A' σ₁ hf hA' hE ⟨e1, e2⟩ => ?_
  walk_at "st"
  walk_at "st"
  refine n_dict0 fun a ha => ?_
  walk_at "ev"
  rw [at_put e1 e2]
  exact h a (hE.fresh ha)
/-- what a graph's own dict holds -/
def gkvs (gd nd ad : Addr) (ex : List (Str × AV)) : List (Str × AV) := ("graph", .ref gd) :: ("_node", .ref nd) :: ("_adj", .ref ad) :: ex
theorem init_spec {C : Cx} {fs : List (Addr × Loc)} {L : Addr} {A : Around} {σ : AS} {g d : Addr} {Q : AV → AS → Prop} (hA : Deep A 2) (hg : σ.hp g = some (.inst 583 d)) (hk : σ.hp d = some (.sdict [] 0 false))
    (h : ∀ σ' gd nd ad ep, (∀ a ao, a ≠ d → σ.hp a = some ao → σ'.hp a = some ao) → σ'.gs = σ.gs → σ'.loc = σ.loc → σ'.hp d = some (.sdict (gkvs gd nd ad []) ep false) → σ'.hp gd = some (.idict [] 0) → σ'.hp nd = some (.idict [] 0) → σ'.hp ad = some (.idict [] 0) →
      Fresh σ gd → Fresh σ nd → Fresh σ ad → nd ≠ ad → gd ≠ nd → gd ≠ ad → Q (.ref g) σ') :
    RunC ⟨C, fs, L, A⟩ (.call (.ref 347) ⟨[.ref g], []⟩) (fun r σ' => r = .ok (.ret .none) ∧ Q (.ref g) σ') σ := by
  have key : RunC ⟨C, fs, L, A⟩ (.call (.ref 347) ⟨[.ref g], []⟩) (fun r σ' => ∃ v, r = .ok (.ret v) ∧ (fun a σ' => a = AV.none ∧ Q (.ref g) σ') (er v) σ') σ := by
    refine runC_callkw (Q := fun a σ' => a = AV.none ∧ Q (.ref g) σ') ["self", "incoming_graph_data", "attr"] hA (by k_is) (by k_is) (by decide) ?_
    unfold bindArgs
    simp only [List.forIn_nil, pure_bind]
    refine run_bind (run_seqK (by k_is) ?_)
    show Run _ (alloc { cls := .type "dict", data := .dict #[] } >>= fun dd => pure [(("self" : Str), Value.ref g), (("incoming_graph_data" : Str), Value.none), (("attr" : Str), Value.ref dd)]) _ σ
    refine run_bind (run_alloc (ao := .idict [] 0) ⟨#[], [], ⟨rfl, rfl, rfl⟩, rfl, fun _ h => by simp at h, .nil, List.nodup_nil, rfl⟩ fun da hda => run_pure ⟨rfl, fun _ σ₁ => σ₁.loc "self" = some (.ref g) ∧ σ₁.loc "attr" = some (.ref da), fun _ _ => ⟨rfl, rfl⟩, fun L' A' σ₁ hf hA' hE ⟨l1, l2⟩ => ?_⟩)
    have hg₁ := hE.hp _ _ (put_new hda hg)
    have hk₁ := hE.hp _ _ (put_new hda hk)
    have hda₁ := hE.hp _ _ (put_same (σ := σ) (a := da) (ao := .idict [] 0))
    have hgd' : g ≠ d := fun e => by rw [e, hk] at hg; cases hg
    have hdda : d ≠ da := hda _ _ hk
    walk_at "st"
    refine s_setattr ?_
    refine n_meth0 ?_
    walk_at "st"
    refine meth_inst hg₁ hk₁ rfl (by k_is) (by k_is) (by k_is) ⟨by walk_at "keep", ?_⟩
    refine fac_graph_attr hA' fun gd hgd => ?_
    have hdgd : d ≠ gd := hgd _ _ hk₁
    have hggd : g ≠ gd := hgd _ _ hg₁
    have hdagd : da ≠ gd := hgd _ _ hda₁
    walk_at "ev"
    walk_at "st"
    refine attr_set (by walk_at "hp") (by walk_at "hp") (by first | decide | exact aput_lt (by decide) | exact aput_lt (aput_lt (by decide))) (by k_is) (by k_is) (by k_is) (by k_is) fun ep₁ => ?_
    walk_at "st"
    refine s_setattr ?_
    refine n_meth0 ?_
    walk_at "st"
    refine meth_inst (by walk_at "hp") put_same rfl (by k_is) (by k_is) (by k_is) ⟨by walk_at "keep", ?_⟩
    refine fac_node_dict hA' fun nd hnd => ?_
    have hdnd : d ≠ nd := hnd _ _ put_same
    have hgnd : g ≠ nd := hnd _ _ (put_ne hgd' (put_ne hggd hg₁))
    have hgdnd : gd ≠ nd := hnd _ _ (put_ne hdgd.symm put_same)
    have hdand : da ≠ nd := hnd _ _ (put_ne hdda.symm (put_ne hdagd hda₁))
    walk_at "ev"
    walk_at "st"
    refine attr_set (by walk_at "hp") (by walk_at "hp") (by first | decide | exact aput_lt (by decide) | exact aput_lt (aput_lt (by decide))) (by k_is) (by k_is) (by k_is) (by k_is) fun ep₂ => ?_
    walk_at "st"
    refine s_setattr ?_
    refine n_meth0 ?_
    walk_at "st"
    refine meth_inst (by walk_at "hp") put_same rfl (by k_is) (by k_is) (by k_is) ⟨by walk_at "keep", ?_⟩
    refine fac_adj_outer hA' fun ad had => ?_
    walk_at "ev"
    walk_at "st"
    have hdad : d ≠ ad := had _ _ put_same
    have hgad : g ≠ ad := had _ _ (put_ne hgd' (put_ne hgnd (put_ne hgd' (put_ne hggd hg₁))))
    have hgdad : gd ≠ ad := had _ _ (put_ne hdgd.symm (put_ne hgdnd (put_ne hdgd.symm put_same)))
    have hndad : nd ≠ ad := had _ _ (put_ne hdnd.symm put_same)
    have hdaad : da ≠ ad := had _ _ (put_ne hdda.symm (put_ne hdand (put_ne hdda.symm (put_ne hdagd hda₁))))
    refine attr_set (by walk_at "hp") (by walk_at "hp") (by first | decide | exact aput_lt (by decide) | exact aput_lt (aput_lt (by decide))) (by k_is) (by k_is) (by k_is) (by k_is) fun ep₃ => ?_
    walk_at "st"
    walk_at "st"
    refine n_meth2 ?_
    walk_at "st"
    have hda₄ : ∀ {S : AS}, S.hp da = some (AO.idict [] 0) → S.hp da = some (AO.idict [] 0) := fun h => h
    refine meth_dict (kvs := []) (ep := 0) (put_ne hdda.symm (put_ne hdaad (put_ne hdda.symm (put_ne hdand (put_ne hdda.symm (put_ne hdagd hda₁)))))) F.slot_dict_pop F.type_dict_pop ⟨by walk_at "keep", ?_⟩
    walk_at "st"
    walk_at "st"
    refine pop_empty (put_ne hdda.symm (put_ne hdaad (put_ne hdda.symm (put_ne hdand (put_ne hdda.symm (put_ne hdagd hda₁)))))) ?_
    walk_at "ev"
    refine drop_none ?_
    walk_at "st"
    walk_at "st"
    refine n_meth1 ?_
    refine n_attr' ?_
    walk_at "st"
    have hG : ∀ (p : Params) (od : Obj) (u : Value), lookIn "graph" od = some (some u) → findObj (Mine.hd.heap_39 p) 583 (some od) "graph" = some (.value u) := fun p od u hl => findObj_own (attr := none) (by k_is) (by k_is) rfl hl
    refine attr_own (by walk_at "hp") put_same (v := .ref gd) (by rfl) (by k_is) (hG _) (fun _ => AV.noConfusion) ?_
    walk_at "ev"
    have hgd₆ := put_ne (σ := ((((σ₁.put gd (.idict [] 0)).put d (.sdict (aput [] "graph" (.ref gd)) ep₁ false)).put nd (.idict [] 0)).put d (.sdict (aput (aput [] "graph" (.ref gd)) "_node" (.ref nd)) ep₂ false)).put ad (.idict [] 0)) (a := d) (ao := .sdict (aput (aput (aput [] "graph" (.ref gd)) "_node" (.ref nd)) "_adj" (.ref ad)) ep₃ false) hdgd.symm (put_ne hgdad (put_ne hdgd.symm (put_ne hgdnd (put_ne hdgd.symm put_same))))
    refine meth_dict hgd₆ F.slot_dict_update F.type_dict_update ⟨by walk_at "keep", ?_⟩
    walk_at "st"
    refine update_empty hgd₆ (put_ne hdda.symm (put_ne hdaad (put_ne hdda.symm (put_ne hdand (put_ne hdda.symm (put_ne hdagd hda₁)))))) ?_
    walk_at "ev"
    refine drop_none ?_
    walk_at "st"
    have hfr : ∀ c, Fresh σ₁ c → Fresh σ c := fun c hc b ao e => hc b ao (hE.hp _ _ (put_new hda e))
    refine ⟨rfl, h _ gd nd ad ep₃ (fun b ao hb e => ?_) hE.gs rfl put_same hgd₆ (put_ne hdnd.symm (put_ne hndad (put_ne hdnd.symm put_same))) (put_ne hdad.symm put_same) (hfr _ hgd) (hfr _ fun b ao e => ?_) (hfr _ fun b ao e => ?_) hndad hgdnd hgdad⟩
    · have e1 := hE.hp _ _ (put_new hda e)
      have h1 : b ≠ gd := hgd _ _ e1
      have h2 : b ≠ nd := hnd _ _ (put_ne hb (put_ne h1 e1))
      have h3 : b ≠ ad := had _ _ (put_ne hb (put_ne h2 (put_ne hb (put_ne h1 e1))))
      exact put_ne hb (put_ne h3 (put_ne hb (put_ne h2 (put_ne hb (put_ne h1 e1)))))
    · by_cases hb : b = d
      · rw [hb]; exact hdnd
      · have h1 : b ≠ gd := hgd _ _ e
        exact hnd _ _ (put_ne hb (put_ne h1 e))
    · by_cases hb : b = d
      · rw [hb]; exact hdad
      · have h1 : b ≠ gd := hgd _ _ e
        have h2 : b ≠ nd := hnd _ _ (put_ne hb (put_ne h1 e))
        exact had _ _ (put_ne hb (put_ne h2 (put_ne hb (put_ne h1 e))))
  intro s R
  refine codeAny_mono (key s R) fun r s' ⟨σ', R', v, e, e2, q⟩ => ?_
  subst e
  cases er_none e2
  exact ⟨σ', R', rfl, q⟩
end
-- AzG2
section
/-- an empty dict that is none of a graph's own -/
def DD (σ : AS) (nd ad : Addr) (ia : Int → Addr) (ns : List Int) (v : AV) : Prop := ∃ e ep, v = .ref e ∧ σ.hp e = some (.idict [] ep) ∧ e ≠ ad ∧ e ≠ nd ∧ ∀ m ∈ ns, e ≠ ia m
/-- a graph -/
structure GraphAt (σ : AS) (g d gd nd ad : Addr) (ia : Int → Addr) (ns : List Int) (nb : Int → List Int) (ex : List (Str × AV)) (hd : Bool) : Prop where
  inst : σ.hp g = some (.inst 583 d)
  dict : ∃ ep, σ.hp d = some (.sdict (gkvs gd nd ad ex) ep hd)
  node : ∃ kvs ep, σ.hp nd = some (.idict kvs ep) ∧ kvs.map (·.1) = ns ∧ ∀ p ∈ kvs, DD σ nd ad ia ns p.2
  adj : ∃ ep, σ.hp ad = some (.idict (ns.map fun n => (n, .ref (ia n))) ep)
  inner : ∀ n ∈ ns, ∃ kvs ep, σ.hp (ia n) = some (.idict kvs ep) ∧ kvs.map (·.1) = nb n ∧ ∀ p ∈ kvs, DD σ nd ad ia ns p.2
  inj : ∀ m ∈ ns, ∀ n ∈ ns, ia m = ia n → m = n
  sep : nd ≠ ad ∧ ∀ n ∈ ns, ia n ≠ nd ∧ ia n ≠ ad
  nodup : ns.Nodup
  exs : ∀ p ∈ ex, p.1 = "nodes" ∨ p.1 = "adj"
theorem gkvs_none {gd nd ad : Addr} {ex : List (Str × AV)} {name : Str} (h : ∀ p ∈ ex, p.1 = "nodes" ∨ p.1 = "adj") (h1 : name ≠ "graph" := by decide) (h2 : name ≠ "_node" := by decide) (h3 : name ≠ "_adj" := by decide) (h4 : name ≠ "nodes" := by decide) (h5 : name ≠ "adj" := by decide) : aget (gkvs gd nd ad ex) name = none := by
  unfold aget gkvs
  have : ex.find? (fun kv => kv.1 = name) = none := by
    rw [List.find?_eq_none]
    intro p hp
    have := h p hp
    intro e
    have e' : p.1 = name := of_decide_eq_true e
    rcases this with q | q
    · exact h4 (e'.symm.trans q)
    · exact h5 (e'.symm.trans q)
  rw [List.find?_cons, List.find?_cons, List.find?_cons, decide_eq_false (Ne.symm h1), decide_eq_false (Ne.symm h2), decide_eq_false (Ne.symm h3), this]
  rfl
section
variable {x : X} {α β : Type} {σ : AS} {env : Env} {g d gd nd ad : Addr} {ia : Int → Addr} {ns : List Int} {nb : Int → List Int} {ex : List (Str × AV)} {hd : Bool}
theorem own_find (p : Params) {name : Str} (hh : hasDictIn (Mine.hd.heap_39 p) 583 = true) (ha : findIn (Mine.hd.heap_39 p) (.ref 583) name = some none) (od : Obj) (u : Value) (hl : lookIn name od = some (some u)) : findObj (Mine.hd.heap_39 p) 583 (some od) name = some (.value u) :=
  findObj_own (attr := none) hh ha rfl hl
theorem get_node {expr : Bool} {Q : AV → AS → Prop} (G : GraphAt σ g d gd nd ad ia ns nb ex hd) (h : Q (.ref nd) σ) : RunV x (getAttr (.ref g) "_node" expr) Q σ := by
  obtain ⟨ep, hk⟩ := G.dict
  exact attr_own G.inst hk (v := .ref nd) rfl (by k_is) (own_find _ (by k_is) (by k_is)) (fun _ => AV.noConfusion) h
theorem get_adj {expr : Bool} {Q : AV → AS → Prop} (G : GraphAt σ g d gd nd ad ia ns nb ex hd) (h : Q (.ref ad) σ) : RunV x (getAttr (.ref g) "_adj" expr) Q σ := by
  obtain ⟨ep, hk⟩ := G.dict
  exact attr_own G.inst hk (v := .ref ad) rfl (by k_is) (own_find _ (by k_is) (by k_is)) (fun _ => AV.noConfusion) h
theorem g_meth {f : Addr} {name : Str} {pl : Sem Bool} {Q : Value × List Value → AS → Prop} (G : GraphAt σ g d gd nd ad ia ns nb ex hd) (hn : aget (gkvs gd nd ad ex) name = none) 
    (hga : plainGet (Mine.hd.heap_39 x.C.w.params) 583 name = true) (hf : findIn (Mine.hd.heap_39 x.C.w.params) (.ref 583) name = some (some (.ref f))) (ht : isFn (Mine.hd.heap_39 x.C.w.params) (.ref f) = true) (h : Q (.ref f, [.ref g]) σ) : Run x (getMethod (.ref g) name pl) Q σ := by
  obtain ⟨ep, hk⟩ := G.dict
  exact meth_inst G.inst hk hn hga hf ht h
end
theorem graph_new {C : Cx} {fs : List (Addr × Loc)} {L : Addr} {A : Around} {σ : AS} {Q : AV → AS → Prop} (hA : Deep A 3)
    (h : ∀ σ' g d gd nd ad ia, Ext σ σ' → σ'.loc = σ.loc → Fresh σ g → Fresh σ d → Fresh σ nd → Fresh σ ad → GraphAt σ' g d gd nd ad ia [] (fun _ => []) [] false → Q (.ref g) σ') : RunV ⟨C, fs, L, A⟩ (call (.ref 583) []) Q σ := by
  refine run_newobj (by k_is) (by k_is) (by k_is) fun g d A' hd hg hgd e1 e2 => ?_
  refine init_spec (A := A') ⟨by have := hA.d; have e3 : A'.depth = A.depth + 1 := e1; omega, e2.trans hA.h⟩ put_same (put_ne hgd.symm put_same) fun σ' gd nd ad ep f1 f2 f3 f4 f5 f6 f7 f8 f9 f10 n1 n2 n3 => ?_
  have fr : ∀ c, Fresh ((σ.put d (.sdict [] 0 false)).put g (.inst 583 d)) c → Fresh σ c := fun c hc => (hc.put (a := c) (b := g) (fun b ao e => by
    by_cases hb : b = d
    · rw [hb]; exact hgd.symm
    · exact hg b ao (by simpa [AS.put, setHp, hb] using e))).put hd
  refine h σ' g d gd nd ad (fun _ => 0) ⟨fun a ao e => f1 a ao (hd a ao e) (put_ne (hg a ao e) (put_ne (hd a ao e) e)), f2⟩ f3 hg hd (fr _ f9) (fr _ f10) ?_
  exact ⟨f1 g _ hgd put_same, ⟨ep, f4⟩, ⟨[], 0, f6, rfl, by simp⟩, ⟨0, f7⟩, by simp, by simp, ⟨n1, by simp⟩, .nil, by simp⟩
theorem bare_spec {C : Cx} {fs : List (Addr × Loc)} {L : Addr} {A : Around} {σ : AS} {v : Value} {Q : AV → AS → Prop} (hA : Deep A 4)
    (h : ∀ σ' g d gd nd ad ia, Ext σ σ' → σ'.loc = σ.loc → Fresh σ g → Fresh σ d → Fresh σ nd → Fresh σ ad → GraphAt σ' g d gd nd ad ia [] (fun _ => []) [] false → Q (.ref g) σ') : RunV ⟨C, fs, L, A⟩ (call (.ref 556) [v]) Q σ := by
  refine run_callpl ["self"] [("self", v)] hA (by k_is) (by k_is) rfl (by decide) (fun _ σ₁ => True) (fun _ _ => trivial) fun L' A' σ₁ hf hA' hE _ => ?_
  walk_at "st"
  walk_at "st"
  refine n_call0 ?_
  walk_at "st"
  refine ⟨by walk_at "keep", graph_new hA' fun σ' g d gd nd ad ia f1 f2 f3 f4 f5 f6 G => ?_⟩
  walk_at "ev"
  exact h _ g d gd nd ad ia (hE.trans f1).loc rfl (hE.fresh f3) (hE.fresh f4) (hE.fresh f5) (hE.fresh f6) ⟨G.inst, G.dict, G.node, G.adj, G.inner, G.inj, G.sep, G.nodup, G.exs⟩
end
-- AzG3
section
section
variable {x : X} {α β : Type} {σ σ' : AS} {env : Env} {g d gd nd ad : Addr} {ia : Int → Addr} {ns : List Int} {nb : Int → List Int} {ex : List (Str × AV)} {hd : Bool}
/-- the kinds of object that a graph is made of -/
def isG : AO → Bool
  | .inst .. | .sdict .. | .idict .. | .nview .. => true
  | _ => false
def KeepG (σ σ' : AS) : Prop := ∀ b ao, isG ao = true → σ.hp b = some ao → σ'.hp b = some ao
theorem KeepG.refl : KeepG σ σ := fun _ _ _ h => h
theorem KeepG.trans {σ'' : AS} (h : KeepG σ σ') (h' : KeepG σ' σ'') : KeepG σ σ'' := fun b ao i e => h' b ao i (h b ao i e)
theorem KeepG.ext (h : Ext σ σ') : KeepG σ σ' := fun b ao _ e => h.hp b ao e
theorem KeepG.put {a : Addr} {ao ao₀ : AO} (h : KeepG σ σ') (e : σ'.hp a = some ao₀) (i : isG ao₀ = false) : KeepG σ (σ'.put a ao) := fun b ao' i' e' => put_ne (fun q => by
  have := h b ao' i' e'
  rw [q, e] at this
  cases this
  rw [i] at i'
  cases i') (h b ao' i' e')
theorem KeepG.drop {a : Addr} {ao₀ : AO} (h : KeepG σ σ') (e : σ'.hp a = some ao₀) (i : isG ao₀ = false) : KeepG σ (σ'.drop a) := fun b ao' i' e' => drop_ne (fun q => by
  have := h b ao' i' e'
  rw [q, e] at this
  cases this
  rw [i] at i'
  cases i') (h b ao' i' e')
theorem KeepG.new {a : Addr} {ao : AO} (h : KeepG σ σ') (f : Fresh σ' a) : KeepG σ (σ'.put a ao) := fun b ao' i e => put_new f (h b ao' i e)
theorem KeepG.bind {n : Str} {v : AV} (h : KeepG σ σ') : KeepG σ (σ'.bind n v) := h
theorem KeepG.loc {l : Loc} (h : KeepG σ σ') : KeepG σ (σ'.at l) := h
theorem DD.keep {v : AV} (h : DD σ nd ad ia ns v) (k : KeepG σ σ') : DD σ' nd ad ia ns v := by
  obtain ⟨e, ep, h1, h2, h3⟩ := h
  exact ⟨e, ep, h1, k _ _ rfl h2, h3⟩
theorem GraphAt.keep (G : GraphAt σ g d gd nd ad ia ns nb ex hd) (k : KeepG σ σ') : GraphAt σ' g d gd nd ad ia ns nb ex hd := by
  refine ⟨k _ _ rfl G.inst, ?_, ?_, ?_, fun n hn => ?_, G.inj, G.sep, G.nodup, G.exs⟩
  · obtain ⟨ep, h⟩ := G.dict; exact ⟨ep, k _ _ rfl h⟩
  · obtain ⟨kvs, ep, h1, h2, h3⟩ := G.node; exact ⟨kvs, ep, k _ _ rfl h1, h2, fun p hp => (h3 p hp).keep k⟩
  · obtain ⟨ep, h⟩ := G.adj; exact ⟨ep, k _ _ rfl h⟩
  · obtain ⟨kvs, ep, h1, h2, h3⟩ := G.inner n hn; exact ⟨kvs, ep, k _ _ rfl h1, h2, fun p hp => (h3 p hp).keep k⟩
theorem aput_new {K : Type} [DecidableEq K] {kvs : List (K × AV)} {k : K} {v : AV} (h : k ∉ kvs.map (·.1)) : aput kvs k v = kvs ++ [(k, v)] := by
  unfold aput
  rw [if_neg]
  intro e
  obtain ⟨p, hp, hk⟩ := List.any_eq_true.mp e
  exact h (List.mem_map.mpr ⟨p, hp, of_decide_eq_true hk⟩)
theorem aget_some {K : Type} [DecidableEq K] {kvs : List (K × AV)} {k : K} (h : k ∈ kvs.map (·.1)) : ∃ v, aget kvs k = some v ∧ (k, v) ∈ kvs := by
  obtain ⟨p, hp, hk⟩ := List.mem_map.mp h
  cases e : kvs.find? (fun kv => kv.1 = k) with
  | none =>
    have := List.find?_eq_none.mp e p hp
    simp [hk] at this
  | some q =>
    have h1 := List.find?_some e
    have h2 := List.mem_of_find?_eq_some e
    have h1' : q.1 = k := of_decide_eq_true h1
    refine ⟨q.2, by unfold aget; rw [e]; rfl, ?_⟩
    rw [← h1']; exact h2
theorem aget_none {K : Type} [DecidableEq K] {kvs : List (K × AV)} {k : K} (h : k ∉ kvs.map (·.1)) : aget kvs k = none := by
  unfold aget
  cases e : kvs.find? (fun kv => kv.1 = k) with
  | none => rfl
  | some q =>
    have h1 := List.find?_some e
    have h2 := List.mem_of_find?_eq_some e
    exact absurd (List.mem_map.mpr ⟨q, h2, of_decide_eq_true h1⟩) h
theorem aget_snoc {K : Type} [DecidableEq K] {kvs : List (K × AV)} {k : K} {v : AV} (h : k ∉ kvs.map (·.1)) : aget (kvs ++ [(k, v)]) k = some v := by
  have := aget_none (kvs := kvs) h
  unfold aget at this ⊢
  rw [List.find?_append]
  cases e : kvs.find? (fun kv => kv.1 = k) with
  | none => simp
  | some q => rw [e] at this; cases this
theorem aget_adj (ia : Int → Addr) : ∀ {ns : List Int} {n : Int}, n ∈ ns → aget (ns.map fun n => (n, AV.ref (ia n))) n = some (.ref (ia n)) := by
  intro ns n hn
  unfold aget
  induction ns with
  | nil => cases hn
  | cons a r ih =>
    rw [List.map_cons, List.find?_cons]
    by_cases h : a = n
    · subst h; simp
    · rw [decide_eq_false h]
      rcases List.mem_cons.mp hn with e | e
      · exact absurd e.symm h
      · exact ih e
/-- a node more -/
theorem GraphAt.grow (G : GraphAt σ g d gd nd ad ia ns nb ex hd) {n : Int} (hn : n ∉ ns) {a₁ a₂ : Addr} (h1 : Fresh σ a₁) (h2 : Fresh σ a₂) (h12 : a₁ ≠ a₂) {kvs : List (Int × AV)} {epn ep1 ep2 : Nat} (hk : σ.hp nd = some (.idict kvs epn)) :
    GraphAt ((((σ.put a₁ (.idict [] 0)).put ad (.idict (aput (ns.map fun n => (n, .ref (ia n))) n (.ref a₁)) ep1)).put a₂ (.idict [] 0)).put nd (.idict (aput kvs n (.ref a₂)) ep2)) g d gd nd ad (fun m => if m = n then a₁ else ia m) (ns ++ [n]) (fun m => if m = n then [] else nb m) ex hd := by
  obtain ⟨kvs', epn', hk', hkeys, hdd⟩ := G.node
  rw [hk] at hk'
  cases hk'
  obtain ⟨epa, hadj⟩ := G.adj
  have hn1 : nd ≠ a₁ := h1 _ _ hk
  have hn2 : nd ≠ a₂ := h2 _ _ hk
  have ha1 : ad ≠ a₁ := h1 _ _ hadj
  have ha2 : ad ≠ a₂ := h2 _ _ hadj
  have keep : ∀ b ao, b ≠ nd → b ≠ ad → σ.hp b = some ao → ((((σ.put a₁ (.idict [] 0)).put ad (.idict (aput (ns.map fun n => (n, .ref (ia n))) n (.ref a₁)) ep1)).put a₂ (.idict [] 0)).put nd (.idict (aput kvs n (.ref a₂)) ep2)).hp b = some ao :=
    fun b ao b1 b2 e => put_ne b1 (put_ne (h2 _ _ e) (put_ne b2 (put_ne (h1 _ _ e) e)))
  have hia : ∀ m ∈ ns, (if m = n then a₁ else ia m) = ia m := fun m hm => if_neg fun (e : m = n) => hn (by rw [← e]; exact hm)
  have dd : ∀ v, DD σ nd ad ia ns v → DD ((((σ.put a₁ (.idict [] 0)).put ad (.idict (aput (ns.map fun n => (n, .ref (ia n))) n (.ref a₁)) ep1)).put a₂ (.idict [] 0)).put nd (.idict (aput kvs n (.ref a₂)) ep2)) nd ad (fun m => if m = n then a₁ else ia m) (ns ++ [n]) v := by
    rintro v ⟨e, ep, q1, q2, q3, q4, q5⟩
    refine ⟨e, ep, q1, keep _ _ q4 q3 q2, q3, q4, fun m hm => ?_⟩
    rcases List.mem_append.mp hm with hm | hm
    · show e ≠ if m = n then a₁ else ia m
      rw [hia m hm]; exact q5 m hm
    · have : m = n := by simpa using hm
      show e ≠ if m = n then a₁ else ia m
      rw [if_pos this]; exact h1 _ _ q2
  have hia0 : ∀ m ∈ ns, ∃ ao, σ.hp (ia m) = some ao := fun m hm => by obtain ⟨kv, ep, q, _⟩ := G.inner m hm; exact ⟨_, q⟩
  have hm0 : ∀ {P : Prop}, P → P := fun h => h
  refine ⟨?_, ?_, ?_, ?_, ?_, ?_, ?_, ?_, G.exs⟩
  · refine keep _ _ ?_ ?_ G.inst
    · intro e; rw [← e, G.inst] at hk; cases hk
    · intro e; rw [← e, G.inst] at hadj; cases hadj
  · obtain ⟨ep, h⟩ := G.dict
    refine ⟨ep, keep _ _ ?_ ?_ h⟩
    · intro e; rw [← e, h] at hk; cases hk
    · intro e; rw [← e, h] at hadj; cases hadj
  · have hnk : n ∉ kvs.map (·.1) := by rw [hkeys]; exact hn
    refine ⟨_, ep2, put_same, ?_, ?_⟩
    · rw [aput_new hnk, List.map_append, hkeys]; rfl
    · intro p hp
      rw [aput_new hnk] at hp
      rcases List.mem_append.mp hp with hp | hp
      · exact dd _ (hdd p hp)
      · have : p = (n, .ref a₂) := by simpa using hp
        subst this
        refine ⟨a₂, 0, rfl, put_ne hn2.symm put_same, ha2.symm, hn2.symm, fun m hm => ?_⟩
        show a₂ ≠ if m = n then a₁ else ia m
        split
        · exact h12.symm
        · rename_i hmn
          rcases List.mem_append.mp hm with hm | hm
          · obtain ⟨ao, q⟩ := hia0 m hm
            exact (h2 _ _ q).symm
          · exact absurd (by simpa using hm) hmn
  · refine ⟨ep1, ?_⟩
    refine (put_ne G.sep.1.symm (put_ne ha2 put_same)).trans ?_
    rw [aput_new (by rw [List.map_map]; simpa [Function.comp_def] using hn), List.map_append]
    congr 3
    · refine List.map_congr_left fun m hm => ?_
      rw [hia m hm]
    · simp
  · intro m hm
    rcases List.mem_append.mp hm with hm | hm
    · obtain ⟨kv, ep, q1, q2, q3⟩ := G.inner m hm
      have hmn : m ≠ n := fun e => hn (e ▸ hm)
      refine ⟨kv, ep, ?_, ?_, fun p hp => dd _ (q3 p hp)⟩
      · show AS.hp _ (if m = n then a₁ else ia m) = _
        rw [hia m hm]
        exact keep _ _ (G.sep.2 m hm).1 (G.sep.2 m hm).2 q1
      · show _ = if m = n then [] else nb m
        rw [if_neg hmn]; exact q2
    · have : m = n := by simpa using hm
      subst this
      refine ⟨[], 0, ?_, ?_, by simp⟩
      · show AS.hp _ (if m = m then a₁ else ia m) = _
        rw [if_pos rfl]
        exact put_ne hn1.symm (put_ne h12 (put_ne ha1.symm put_same))
      · show _ = if m = m then [] else nb m
        rw [if_pos rfl]; rfl
  · intro m hm k hk' e
    have e' : (if m = n then a₁ else ia m) = (if k = n then a₁ else ia k) := e
    rcases List.mem_append.mp hm with hm | hm <;> rcases List.mem_append.mp hk' with hk' | hk'
    · rw [hia m hm, hia k hk'] at e'
      exact G.inj m hm k hk' e'
    · have : k = n := by simpa using hk'
      rw [hia m hm, if_pos this] at e'
      obtain ⟨ao, q⟩ := hia0 m hm
      exact absurd e' (h1 _ _ q)
    · have : m = n := by simpa using hm
      rw [hia k hk', if_pos this] at e'
      obtain ⟨ao, q⟩ := hia0 k hk'
      exact absurd e'.symm (h1 _ _ q)
    · have h1 : m = n := by simpa using hm
      have h2 : k = n := by simpa using hk'
      rw [h1, h2]
  · refine ⟨G.sep.1, fun m hm => ?_⟩
    show (if m = n then a₁ else ia m) ≠ nd ∧ (if m = n then a₁ else ia m) ≠ ad
    rcases List.mem_append.mp hm with hm | hm
    · rw [hia m hm]; exact G.sep.2 m hm
    · rw [if_pos (by simpa using hm)]; exact ⟨hn1.symm, ha1.symm⟩
  · refine List.nodup_append.mpr ⟨G.nodup, by simp, fun a ha b hb e => hn ?_⟩
    have : b = n := by simpa using hb
    rw [← this, ← e]; exact ha
/-- a graph's own attributes -/
structure GI (σ : AS) (g d gd nd ad : Addr) (ex : List (Str × AV)) (hd : Bool) : Prop where
  inst : σ.hp g = some (.inst 583 d)
  dict : ∃ ep, σ.hp d = some (.sdict (gkvs gd nd ad ex) ep hd)
  exs : ∀ p ∈ ex, p.1 = "nodes" ∨ p.1 = "adj"
theorem GraphAt.gi (G : GraphAt σ g d gd nd ad ia ns nb ex hd) : GI σ g d gd nd ad ex hd := ⟨G.inst, G.dict, G.exs⟩
def isI : AO → Bool
  | .inst .. | .sdict .. | .nview .. => true
  | _ => false
theorem GI.put {a : Addr} {ao ao₀ : AO} (h : GI σ g d gd nd ad ex hd) (e : σ.hp a = some ao₀) (i : isI ao₀ = false) : GI (σ.put a ao) g d gd nd ad ex hd := by
  obtain ⟨ep, hk⟩ := h.dict
  refine ⟨put_ne (fun q => ?_) h.inst, ⟨ep, put_ne (fun q => ?_) hk⟩, h.exs⟩
  · rw [← q, h.inst] at e; cases e; cases i
  · rw [← q, hk] at e; cases e; cases i
theorem GI.new {a : Addr} {ao : AO} (h : GI σ g d gd nd ad ex hd) (f : Fresh σ a) : GI (σ.put a ao) g d gd nd ad ex hd := by
  obtain ⟨ep, hk⟩ := h.dict
  exact ⟨put_new f h.inst, ⟨ep, put_new f hk⟩, h.exs⟩
theorem GI.drop {a : Addr} {ao₀ : AO} (h : GI σ g d gd nd ad ex hd) (e : σ.hp a = some ao₀) (i : isI ao₀ = false) : GI (σ.drop a) g d gd nd ad ex hd := by
  obtain ⟨ep, hk⟩ := h.dict
  refine ⟨drop_ne (fun q => ?_) h.inst, ⟨ep, drop_ne (fun q => ?_) hk⟩, h.exs⟩
  · rw [← q, h.inst] at e; cases e; cases i
  · rw [← q, hk] at e; cases e; cases i
theorem GI.bind {n : Str} {v : AV} (h : GI σ g d gd nd ad ex hd) : GI (σ.bind n v) g d gd nd ad ex hd := ⟨h.inst, h.dict, h.exs⟩
theorem GI.ext (h : GI σ g d gd nd ad ex hd) (e : Ext σ σ') : GI σ' g d gd nd ad ex hd := by
  obtain ⟨ep, hk⟩ := h.dict
  exact ⟨e.hp _ _ h.inst, ⟨ep, e.hp _ _ hk⟩, h.exs⟩
theorem gi_node {expr : Bool} {Q : AV → AS → Prop} (G : GI σ g d gd nd ad ex hd) (h : Q (.ref nd) σ) : RunV x (getAttr (.ref g) "_node" expr) Q σ := by
  obtain ⟨ep, hk⟩ := G.dict
  exact attr_own G.inst hk (v := .ref nd) rfl (by k_is) (own_find _ (by k_is) (by k_is)) (fun _ => AV.noConfusion) h
theorem gi_adj {expr : Bool} {Q : AV → AS → Prop} (G : GI σ g d gd nd ad ex hd) (h : Q (.ref ad) σ) : RunV x (getAttr (.ref g) "_adj" expr) Q σ := by
  obtain ⟨ep, hk⟩ := G.dict
  exact attr_own G.inst hk (v := .ref ad) rfl (by k_is) (own_find _ (by k_is) (by k_is)) (fun _ => AV.noConfusion) h
theorem gi_meth {f : Addr} {name : Str} {pl : Sem Bool} {Q : Value × List Value → AS → Prop} (G : GI σ g d gd nd ad ex hd) 
    (hga : plainGet (Mine.hd.heap_39 x.C.w.params) 583 name = true) (hf : findIn (Mine.hd.heap_39 x.C.w.params) (.ref 583) name = some (some (.ref f))) (ht : isFn (Mine.hd.heap_39 x.C.w.params) (.ref f) = true) (h : Q (.ref f, [.ref g]) σ)
    (h1 : name ≠ "graph" := by decide) (h2 : name ≠ "_node" := by decide) (h3 : name ≠ "_adj" := by decide) (h4 : name ≠ "nodes" := by decide) (h5 : name ≠ "adj" := by decide) : Run x (getMethod (.ref g) name pl) Q σ := by
  obtain ⟨ep, hk⟩ := G.dict
  exact meth_inst G.inst hk (gkvs_none G.exs h1 h2 h3 h4 h5) hga hf ht h
end
end
-- AzG4
section
section
variable {x : X} {α β : Type} {σ : AS} {env : Env}
theorem s_try {body orelse : List Stmt} {h₀ : ExceptHandler} {hs : List ExceptHandler} {pos : Pos} {Q : Flow → AS → Prop}
    (h : Run x (execs body env) (fun f σ' => match f with | .next => Run x (execs orelse env) Q σ' | f => Q f σ') σ) : Run x (exec (.Try body (h₀ :: hs) orelse [] pos) env) Q σ := by
  intro s R
  refine wpAny_Try_except (wpAny_mono (h s R) (fun f s' ⟨σ', R', q⟩ => ?_) fun _ _ e => e.elim)
  cases f with
  | next => exact q s' R'
  | brk => exact ⟨σ', R', q⟩
  | cont => exact ⟨σ', R', q⟩
  | ret v => exact ⟨σ', R', q⟩
theorem is_none_no {v : Value} {Q : Bool → AS → Prop} (hp : plainIs v .none = true) (hne : v ≠ .none) (h : Q false σ) : Cmp x .Is v .none Q σ := fun s R => wpAny_is_other hp hne ⟨σ, R, false, rfl, h⟩
theorem is_none_yes {Q : Bool → AS → Prop} (h : Q true σ) : Cmp x .Is .none .none Q σ := fun s R => wpAny_is_self rfl ⟨σ, R, true, rfl, h⟩
end
theorem add_nodes_spec {C : Cx} {fs : List (Addr × Loc)} {L : Addr} {A : Around} {σ : AS} {g d gd nd ad l : Addr} {ia : Int → Addr} {ex : List (Str × AV)} {hd : Bool} {ms : List Int} {Q : AV → AS → Prop} (hA : Deep A 2)
    (G : GraphAt σ g d gd nd ad ia [] (fun _ => []) ex hd) (hl : σ.hp l = some (.list (avs ms))) (hms : ms.Nodup) (h7 : ms.length ≤ 7)
    (h : ∀ σ' ia', (∀ b ao, b ≠ nd → b ≠ ad → σ.hp b = some ao → σ'.hp b = some ao) → σ'.gs = σ.gs → σ'.loc = σ.loc → GraphAt σ' g d gd nd ad ia' ms (fun _ => []) ex hd → (∀ n ∈ ms, Fresh σ (ia' n)) → Q .none σ') :
    RunV ⟨C, fs, L, A⟩ (call (.ref 399) [.ref g, .ref l]) Q σ := by
  refine runV_ofC (runC_callkw (Q := Q) ["self", "nodes_for_adding", "attr"] hA (by k_is) (by k_is) (by decide) ?_)
  show Run _ (alloc { cls := .type "dict", data := .dict #[] } >>= fun dd => pure [(("self" : Str), Value.ref g), (("nodes_for_adding" : Str), Value.ref l), (("attr" : Str), Value.ref dd)]) _ σ
  refine run_bind (run_alloc (ao := .idict [] 0) ⟨#[], [], ⟨rfl, rfl, rfl⟩, rfl, fun _ h => by simp at h, .nil, List.nodup_nil, rfl⟩ fun da hda => run_pure ⟨rfl, fun _ σ₁ => σ₁.loc "self" = some (.ref g) ∧ σ₁.loc "nodes_for_adding" = some (.ref l) ∧ σ₁.loc "attr" = some (.ref da), fun _ _ => ⟨rfl, rfl, rfl⟩, fun L' A' σ₁ hf hA' hE ⟨l1, l2, l3⟩ => ?_⟩)
  have k₁ : Ext σ σ₁ := (Ext.refl.put hda).trans hE
  have G₁ := G.keep (.ext k₁)
  have hda₁ := hE.hp _ _ (put_same (σ := σ) (a := da) (ao := .idict [] 0))
  have hnd0 : ∃ ao, σ.hp nd = some ao := by obtain ⟨_, _, q, _⟩ := G.node; exact ⟨_, q⟩
  have had0 : ∃ ao, σ.hp ad = some ao := by obtain ⟨_, q⟩ := G.adj; exact ⟨_, q⟩
  have hdn : da ≠ nd := by obtain ⟨ao, q⟩ := hnd0; exact (hda _ _ q).symm
  have hdad : da ≠ ad := by obtain ⟨ao, q⟩ := had0; exact (hda _ _ q).symm
  refine s_then (fun σ' => ∃ ia', (∀ b ao, b ≠ nd → b ≠ ad → σ.hp b = some ao → σ'.hp b = some ao) ∧ σ'.gs = σ.gs ∧ GraphAt σ' g d gd nd ad ia' ms (fun _ => []) ex hd ∧ ∀ n ∈ ms, Fresh σ (ia' n)) ?_ ?_
  · refine s_for ?_
    walk_at "st"
    refine iter_list (k₁.hp _ _ hl) fun I hI => ?_
    walk_at "ev"
    refine ⟨fun k σ' => ∃ ia', k ≤ ms.length ∧ (∀ b ao, b ≠ nd → b ≠ ad → σ.hp b = some ao → σ'.hp b = some ao) ∧ σ'.gs = σ.gs ∧ GraphAt σ' g d gd nd ad ia' (ms.take (ms.length - k)) (fun _ => []) ex hd ∧
      σ'.hp I = some (LIter l (ms.length - k)) ∧ σ'.hp da = some (.idict [] 0) ∧ σ'.loc "self" = some (.ref g) ∧ σ'.loc "attr" = some (.ref da) ∧ ∀ n ∈ ms.take (ms.length - k), Fresh σ (ia' n), ms.length, ⟨ia, Nat.le_refl _, ?_⟩, ?_⟩
    · rw [Nat.sub_self]
      exact ⟨fun b ao _ _ e => put_new hI (k₁.hp _ _ e), hE.gs, G₁.keep (KeepG.refl.new hI), put_same, put_new hI hda₁, l1, l3, by simp⟩
    · rintro k σ₂ ⟨ia', hk, k₂, g₂, G₂, hI₂, hda₂, l1, l3, hfr⟩
      have hln : l ≠ nd := fun e => by obtain ⟨_, _, q, _⟩ := G.node; rw [← e, hl] at q; cases q
      have hla : l ≠ ad := fun e => by obtain ⟨_, q⟩ := G.adj; rw [← e, hl] at q; cases q
      refine next_list hA'.h hI₂ (k₂ _ _ hln hla hl) (fun hlt u hu => ?_) (fun hge => ?_)
      · have hlt' : ms.length - k < ms.length := by simpa using hlt
        obtain ⟨t, rfl⟩ := er_int (v := u) (i := ms[ms.length - k]) (by simpa [hlt'] using hu)
        have htake : ms.take (ms.length - k + 1) = ms.take (ms.length - k) ++ [ms[ms.length - k]] := by rw [List.take_add_one, List.getElem?_eq_getElem hlt']; rfl
        have hnm : ms[ms.length - k] ∉ ms.take (ms.length - k) := by
          have h1 : (ms.take (ms.length - k + 1)).Nodup := (List.take_sublist _ _).nodup hms
          rw [htake] at h1
          intro hm
          exact (List.nodup_append.mp h1).2.2 _ hm _ (by simp) rfl
        generalize ms[ms.length - k] = n at *
        have hIn : ∀ {S : AS}, KeepG σ₂ S → KeepG σ₂ S := fun h => h
        walk_at "st"
        walk_at "st"
        have G₃ := G₂.keep (σ' := (σ₂.put I (LIter l (ms.length - k + 1))).bind "n" (.int n)) (KeepG.bind (KeepG.refl.put hI₂ rfl))
        obtain ⟨kvn, epn, hkn, hkeys, _⟩ := G₃.node
        obtain ⟨epa, hadj⟩ := G₃.adj
        walk_at "st"
        walk_at "st"
        refine s_try ?_
        walk_at "st"
        walk_at "st"
        walk_at "st"
        walk_at "st"
        refine n_attr' ?_
        walk_at "st"
        refine get_node G₃ ?_
        walk_at "ev"
        refine notin_idict hkn ?_
        rw [aget_none (by rw [hkeys]; exact hnm)]
        walk_at "ev"
        walk_at "st"
        walk_at "st"
        walk_at "st"
        walk_at "st"
        walk_at "st"
        walk_at "st"
        walk_at "st"
        walk_at "st"
        walk_at "st"
        walk_at "st"
        walk_at "st"
        refine run_truthy_bool ⟨fun _ => ?_, fun h => nomatch h⟩
        walk_at "st"
        walk_at "st"
        walk_at "st"
        walk_at "st"
        walk_at "st"
        refine is_none_no rfl (fun e => nomatch e) ⟨fun h => (nomatch h), fun _ => ?_⟩
        walk_at "st"
        walk_at "st"
        walk_at "st"
        refine n_meth0 ?_
        walk_at "st"
        have I₃ := (G₃.gi.bind (n := "newnode") (v := .bool true)).bind (n := "newdict") (v := .ref da)
        refine gi_meth I₃ (by k_is) (by k_is) (by k_is) ⟨by walk_at "keep", ?_⟩
        refine fac_adj_inner hA' fun a₁ ha₁ => ?_
        walk_at "ev"
        refine n_attr' ?_
        walk_at "st"
        have I₄ := I₃.new (ao := .idict [] 0) ha₁
        refine gi_adj I₄ ?_
        walk_at "ev"
        walk_at "st"
        have hadj₄ := put_new (ao := .idict [] 0) ha₁ hadj
        have hlenk : (ms.take (ms.length - k)).length < 1000 := by rw [List.length_take]; omega
        refine store_idict hadj₄ (fits (by rw [List.length_map]; exact hlenk)) fun ep₁ => ?_
        walk_at "st"
        walk_at "st"
        refine n_meth0 ?_
        walk_at "st"
        have I₅ := I₄.put (ao := .idict (aput ((ms.take (ms.length - k)).map fun n => (n, .ref (ia' n))) n (.ref a₁)) ep₁) hadj₄ rfl
        refine gi_meth I₅ (by k_is) (by k_is) (by k_is) ⟨by walk_at "keep", ?_⟩
        refine fac_node_attr hA' fun a₂ ha₂ => ?_
        walk_at "ev"
        refine n_attr' ?_
        walk_at "st"
        have I₆ := I₅.new (ao := .idict [] 0) ha₂
        refine gi_node I₆ ?_
        walk_at "ev"
        walk_at "st"
        have hnad : nd ≠ ad := G.sep.1
        have hkn₆ := put_new (ao := .idict [] 0) ha₂ (put_ne (ao := .idict (aput ((ms.take (ms.length - k)).map fun n => (n, .ref (ia' n))) n (.ref a₁)) ep₁) hnad (put_new (ao := .idict [] 0) ha₁ hkn))
        have hlenn : kvn.length < 1000 := by have := congrArg List.length hkeys; rw [List.length_map, List.length_take] at this; omega
        refine store_idict hkn₆ (fits hlenn) fun ep₂ => ?_
        walk_at "st"
        walk_at "st"
        walk_at "st"
        refine n_meth1 ?_
        walk_at "st"
        refine n_attr' ?_
        walk_at "st"
        have I₇ := I₆.put (ao := .idict (aput kvn n (.ref a₂)) ep₂) hkn₆ rfl
        refine gi_node I₇ ?_
        walk_at "ev"
        walk_at "st"
        have hnk : n ∉ kvn.map (·.1) := by rw [hkeys]; exact hnm
        refine sub_idict put_same (v := .ref a₂) (by rw [aput_new hnk]; exact aget_snoc hnk) ?_
        walk_at "ev"
        have hnda₂ : nd ≠ a₂ := ha₂ _ _ (put_ne (ao := .idict (aput ((ms.take (ms.length - k)).map fun n => (n, .ref (ia' n))) n (.ref a₁)) ep₁) hnad (put_new (ao := .idict [] 0) ha₁ hkn))
        have ha₂₇ := put_ne (ao := .idict (aput kvn n (.ref a₂)) ep₂) hnda₂.symm (put_same (σ := (((((σ₂.put I (LIter l (ms.length - k + 1))).bind "n" (.int n)).bind "newnode" (.bool true)).bind "newdict" (.ref da)).put a₁ (.idict [] 0)).put ad (.idict (aput ((ms.take (ms.length - k)).map fun n => (n, .ref (ia' n))) n (.ref a₁)) ep₁)) (a := a₂) (ao := .idict [] 0))
        refine meth_dict ha₂₇ F.slot_dict_update F.type_dict_update ⟨by walk_at "keep", ?_⟩
        walk_at "st"
        have hIad : I ≠ ad := fun e => by
          obtain ⟨_, q⟩ := G₂.adj
          rw [← e, hI₂] at q; cases q
        have hInd : I ≠ nd := fun e => by
          obtain ⟨_, _, q, _⟩ := G₂.node
          rw [← e, hI₂] at q; cases q
        have hIda : I ≠ da := fun e => by rw [← e, hI₂] at hda₂; cases hda₂
        have old : ∀ b ao, b ≠ nd → b ≠ ad → b ≠ I → σ₂.hp b = some ao → ((((((((σ₂.put I (LIter l (ms.length - k + 1))).bind "n" (.int n)).bind "newnode" (.bool true)).bind "newdict" (.ref da)).put a₁ (.idict [] 0)).put ad (.idict (aput ((ms.take (ms.length - k)).map fun n => (n, .ref (ia' n))) n (.ref a₁)) ep₁)).put a₂ (.idict [] 0)).put nd (.idict (aput kvn n (.ref a₂)) ep₂)).hp b = some ao := fun b ao b1 b2 b3 e => by
          have e1 : ((((σ₂.put I (LIter l (ms.length - k + 1))).bind "n" (.int n)).bind "newnode" (.bool true)).bind "newdict" (.ref da)).hp b = some ao := put_ne b3 e
          have e2 := put_ne (ao := .idict (aput ((ms.take (ms.length - k)).map fun n => (n, .ref (ia' n))) n (.ref a₁)) ep₁) b2 (put_new (ao := .idict [] 0) ha₁ e1)
          exact put_ne b1 (put_new ha₂ e2)
        have hda₇ := old da _ hdn hdad hIda.symm hda₂
        refine update_empty ha₂₇ hda₇ ?_
        walk_at "ev"
        refine drop_none ?_
        walk_at "st"
        have h12 : a₁ ≠ a₂ := ha₂ _ _ (put_ne (fun e => by
          obtain ⟨_, q⟩ := G₃.adj
          exact ha₁ _ _ q e.symm) put_same)
        have ha₂' : Fresh ((((σ₂.put I (LIter l (ms.length - k + 1))).bind "n" (.int n)).bind "newnode" (.bool true)).bind "newdict" (.ref da)) a₂ := fun b ao e => by
          by_cases hb : b = ad
          · rw [hb]
            exact ha₂ _ _ put_same
          · exact ha₂ _ _ (put_ne hb (put_new ha₁ e))
        have G₈ := GraphAt.grow (G₃.keep (σ' := (((σ₂.put I (LIter l (ms.length - k + 1))).bind "n" (.int n)).bind "newnode" (.bool true)).bind "newdict" (.ref da)) KeepG.refl) (n := n) hnm ha₁ ha₂' h12 (ep1 := ep₁) (ep2 := ep₂) hkn
        have hI0 : ∀ b ao, σ.hp b = some ao → b ≠ I := fun b ao e => hI _ _ (k₁.hp _ _ e)
        have hke : ms.length - (k - 1) = ms.length - k + 1 := by omega
        refine ⟨k - 1, by omega, (fun m => if m = n then a₁ else ia' m), by omega, fun b ao b1 b2 e => old b ao b1 b2 (hI0 _ _ e) (k₂ b ao b1 b2 e), g₂, ?_, ?_, hda₇, ?_, ?_, ?_⟩
        · rw [hke, htake]
          have e1 : (fun m => if m = n then [] else (fun _ : Int => ([] : List Int)) m) = fun _ => [] := funext fun m => by split <;> rfl
          rw [← e1]
          exact G₈
        · rw [hke]
          refine put_ne hInd (put_ne (ha₂' I _ put_same) (put_ne hIad (put_ne (ha₁ I _ put_same) put_same)))
        · walk_at "loc"
        · walk_at "loc"
        · intro m hm
          rw [hke, htake] at hm
          show Fresh σ (if m = n then a₁ else ia' m)
          rcases List.mem_append.mp hm with hm | hm
          · rw [if_neg (fun (e : m = n) => hnm (by rw [← e]; exact hm))]
            exact hfr m hm
          · rw [if_pos (by simpa using hm)]
            intro b ao e
            by_cases b1 : b = nd
            · rw [b1]; exact ha₁ _ _ hkn
            · by_cases b2 : b = ad
              · rw [b2]; exact ha₁ _ _ hadj
              · exact ha₁ b ao (put_ne (hI0 _ _ e) (k₂ b ao b1 b2 e))
      · walk_at "st"
        have hke : ms.take (ms.length - k) = ms := List.take_of_length_le (by simpa using hge)
        rw [hke] at G₂
        refine ⟨rfl, ia', fun b ao b1 b2 e => drop_ne (hI _ _ (k₁.hp _ _ e)) (k₂ b ao b1 b2 e), g₂, G₂.keep (KeepG.refl.drop hI₂ rfl), fun n hn => hfr n (by rw [hke]; exact hn)⟩
  · rintro σ₂ ⟨ia', k₂, g₂, G₂, hfr⟩
    walk_at "st"
    exact h _ ia' k₂ g₂ rfl (G₂.keep KeepG.refl) hfr
end
-- AzTup
section
section
variable {x : X} {α β : Type} {σ : AS} {env : Env}
theorem tup_at {C : Cx} {fs : List (Addr × Loc)} {L : Addr} {s : Shared} (R : Rel C fs L σ s) {l : Addr} {vs : List AV} (h : σ.hp l = some (.tup vs)) :
    ∃ xs n, s.heap.get? l = some { cls := .type "tuple", data := .seq xs n } ∧ xs.toList.map er = vs ∧ IsTup s.heap l xs := by
  obtain ⟨o, ho, xs, n, rfl, hx⟩ := R.get h
  exact ⟨xs, n, ho, hx, _, ho, rfl, n, rfl⟩
theorem Rel.grownBut {C : Cx} {fs : List (Addr × Loc)} {L : Addr} {s : Shared} (R : Rel C fs L σ s) {h' : Heap} (hs : Heap.ExtBut s.heap.objs.size s.heap h') (tk : Nat) : Rel C fs L σ { s with heap := h', toks := tk } :=
  R.grown (fun b o e => hs b o (Nat.ne_of_lt (Heap.lt_size e)) e) tk
/-- a, b = t -/
theorem asg_tup2 {n₁ n₂ : Str} {p₁ p₂ pos : Pos} {k} {t : Addr} {a b : AV} {Q : Unit → AS → Prop} (hh : x.A.handled = none) (ht : σ.hp t = some (.tup [a, b]))
    (h : ∀ v₁ v₂, er v₁ = a → er v₂ = b → Run x (storeName env n₁ v₁) (fun _ σ₁ => Run x (storeName env n₂ v₂) Q σ₁) σ) : Run x (assign (.Tuple [.Name n₁ p₁, .Name n₂ p₂] k pos) env (.ref t)) Q σ := by
  intro s R
  obtain ⟨xs, n, ho, hx, hT⟩ := tup_at R ht
  have hsz : xs.size = 2 := by have := congrArg List.length hx; simpa using this
  obtain ⟨v₁, v₂, e⟩ : ∃ v₁ v₂, xs.toList = [v₁, v₂] := by
    match h : xs.toList, (show xs.toList.length = 2 by simpa using hsz) with
    | [v₁, v₂], _ => exact ⟨v₁, v₂, rfl⟩
  rw [e] at hx
  simp only [List.map_cons, List.map_nil, List.cons.injEq, and_true] at hx
  refine assign_Tuple_tuple hh hT (by rw [hsz]; rfl) (by rfl) fun h' hs => ?_
  rw [e]
  have R' := R.grownBut hs s.toks
  refine run_to (Q := Q) ?_ R' fun _ σ' s' R'' q => ⟨σ', R'', q⟩
  show Run x (holding [v₂] (assign (.Name n₁ p₁) env v₁) >>= fun _ => (holding [] (assign (.Name n₂ p₂) env v₂) >>= fun _ => pure ())) Q σ
  refine run_bind (run_hold (asg_name (run_mono (h v₁ v₂ hx.1 hx.2) fun _ σ₁ h₁ => ?_)))
  exact run_bind (run_hold (asg_name (run_mono h₁ fun _ σ₂ h₂ => run_pure h₂)))
theorem s_assign_tup {ts : List Expr} {k} {p pos : Pos} {n : Str} {p' : Pos} {Q : Flow → AS → Prop} (h : RunV x (eval (.Name n p') env) (fun a σ' => ∀ v, er v = a → Run x (assign (.Tuple ts k p) env v) (fun _ σ'' => Q .next σ'') σ') σ) :
    Run x (exec (.Assign [.Tuple ts k p] (.Name n p') pos) env) Q σ := by
  have e1 : exec (.Assign [.Tuple ts k p] (.Name n p') pos) env = (do
    standAt pos
    if ← swapsWith (.Name n p') (some (.Tuple ts k p)) pos.line env then do
      evalThenUse (.Name n p') env fun v => assignAll v ((assignEach [.Tuple ts k p] env).map (·.2))
      pure .next
    else do
      let v ← eval (.Name n p') env
      assignStores env v (← swappedStores [.Tuple ts k p] (.Name n p') env) ((assignEach [.Tuple ts k p] env).map (·.2))) := rfl
  have hsw : swapsWith (.Name n p') (some (.Tuple ts k p)) pos.line env = pure false := by rfl
  have hst : swappedStores [.Tuple ts k p] (.Name n p') env = pure none := by rfl
  rw [e1, hsw]
  refine run_bind (run_standAt (run_bind (run_pure ?_)))
  simp only [Bool.false_eq_true, if_false]
  refine runV_bind (runV_mono h fun a σ₁ h₁ v hv => ?_)
  rw [hst]
  refine run_bind (run_pure ?_)
  show Run x (do assign (.Tuple ts k p) env v; pure Flow.next) _ _
  exact run_bind (run_mono (h₁ v hv) fun _ _ q => run_pure q)
theorem len_tup {t : Addr} {vs : List AV} {Q : AV → AS → Prop} (ht : σ.hp t = some (.tup vs)) (hz : vs.length < 1000) (h : Q (.int vs.length) σ) : RunV x (call (.builtin "len") [.ref t]) Q σ := by
  intro s R
  obtain ⟨xs, n, ho, hx, hT⟩ := tup_at R ht
  have hsz : xs.size = vs.length := by have := congrArg List.length hx; simpa using this
  refine len_tuple hT (by rw [hsz]; omega) ⟨σ, R.toks _, ?_⟩
  rw [hsz]; exact h
theorem int_eq {i j : Int} {t u : Tok} {Q : Bool → AS → Prop} (h : Q (decide (i = j)) σ) : Cmp x .Eq (.int i t) (.int j u) Q σ := by
  intro s R
  refine eq_int ⟨σ, R, i == j, rfl, ?_⟩
  have : (i == j) = decide (i = j) := by by_cases e : i = j <;> simp [e]
  rw [this]; exact h
end
end
-- AzG5
section
def addk (l : List Int) (k : Int) : List Int := if k ∈ l then l else l ++ [k]
theorem mem_addk {l : List Int} {k j : Int} : j ∈ addk l k ↔ j ∈ l ∨ j = k := by
  unfold addk
  split
  · rename_i h
    exact ⟨.inl, fun q => q.elim (fun q => q) fun e => e ▸ h⟩
  · simp
theorem nodup_addk {l : List Int} {k : Int} (h : l.Nodup) : (addk l k).Nodup := by
  unfold addk
  split
  · exact h
  · rename_i hk
    refine List.nodup_append.mpr ⟨h, by simp, fun a ha b hb e => hk ?_⟩
    have : b = k := by simpa using hb
    rw [← this, ← e]; exact ha
theorem aput_keys {kvs : List (Int × AV)} {k : Int} {v : AV} : (aput kvs k v).map (·.1) = addk (kvs.map (·.1)) k := by
  unfold addk
  by_cases h : k ∈ kvs.map (·.1)
  · rw [if_pos h]
    unfold aput
    have : (kvs.any fun kv => decide (kv.1 = k)) = true := by
      obtain ⟨p, hp, e⟩ := List.mem_map.mp h
      exact List.any_eq_true.mpr ⟨p, hp, decide_eq_true e⟩
    rw [if_pos this, List.map_map]
    refine List.map_congr_left fun p _ => ?_
    show (if p.1 = k then (p.1, v) else p).1 = p.1
    split <;> rfl
  · rw [if_neg h, aput_new h, List.map_append]; rfl
theorem aput_mem {kvs : List (Int × AV)} {k : Int} {v : AV} {p : Int × AV} (h : p ∈ aput kvs k v) : p.2 = v ∨ p ∈ kvs := by
  unfold aput at h
  split at h
  · obtain ⟨q, hq, e⟩ := List.mem_map.mp h
    split at e
    · rw [← e]; exact .inl rfl
    · rw [← e]; exact .inr hq
  · rcases List.mem_append.mp h with h | h
    · exact .inr h
    · have : p = (k, v) := by simpa using h
      rw [this]; exact .inl rfl
def linkN (nb : Int → List Int) (u v : Int) : Int → List Int := fun m => if m = u then addk (nb u) v else if m = v then addk (nb v) u else nb m
section
variable {x : X} {α β : Type} {σ σ' : AS} {env : Env} {g d gd nd ad : Addr} {ia : Int → Addr} {ns : List Int} {nb : Int → List Int} {ex : List (Str × AV)} {hd : Bool}
theorem GraphAt.link (G : GraphAt σ g d gd nd ad ia ns nb ex hd) {u v : Int} (hu : u ∈ ns) (hv : v ∈ ns) (huv : u ≠ v) {kvu kvv : List (Int × AV)} {epu epv ep1 ep2 : Nat} {w : AV} (hku : σ.hp (ia u) = some (.idict kvu epu)) (hkv : σ.hp (ia v) = some (.idict kvv epv)) (hw : DD σ nd ad ia ns w) :
    GraphAt ((σ.put (ia u) (.idict (aput kvu v w) ep1)).put (ia v) (.idict (aput kvv u w) ep2)) g d gd nd ad ia ns (linkN nb u v) ex hd := by
  have hne : ia u ≠ ia v := fun e => huv (G.inj u hu v hv e)
  have keep : ∀ b ao, b ≠ ia u → b ≠ ia v → σ.hp b = some ao → ((σ.put (ia u) (.idict (aput kvu v w) ep1)).put (ia v) (.idict (aput kvv u w) ep2)).hp b = some ao := fun b ao b1 b2 e => put_ne b2 (put_ne b1 e)
  have dd : ∀ z, DD σ nd ad ia ns z → DD ((σ.put (ia u) (.idict (aput kvu v w) ep1)).put (ia v) (.idict (aput kvv u w) ep2)) nd ad ia ns z := by
    rintro z ⟨e, ep, q1, q2, q3, q4, q5⟩
    exact ⟨e, ep, q1, keep _ _ (q5 u hu) (q5 v hv) q2, q3, q4, q5⟩
  refine ⟨?_, ?_, ?_, ?_, ?_, G.inj, G.sep, G.nodup, G.exs⟩
  · refine keep _ _ ?_ ?_ G.inst
    · intro e; rw [← e, G.inst] at hku; cases hku
    · intro e; rw [← e, G.inst] at hkv; cases hkv
  · obtain ⟨ep, h⟩ := G.dict
    refine ⟨ep, keep _ _ ?_ ?_ h⟩
    · intro e; rw [← e, h] at hku; cases hku
    · intro e; rw [← e, h] at hkv; cases hkv
  · obtain ⟨kvs, ep, h1, h2, h3⟩ := G.node
    exact ⟨kvs, ep, keep _ _ (G.sep.2 u hu).1.symm (G.sep.2 v hv).1.symm h1, h2, fun p hp => dd _ (h3 p hp)⟩
  · obtain ⟨ep, h⟩ := G.adj
    exact ⟨ep, keep _ _ (G.sep.2 u hu).2.symm (G.sep.2 v hv).2.symm h⟩
  · intro n hn
    obtain ⟨kvs, ep, h1, h2, h3⟩ := G.inner n hn
    by_cases e1 : n = u
    · subst e1
      rw [hku] at h1; cases h1
      refine ⟨_, ep1, put_ne hne put_same, ?_, fun p hp => ?_⟩
      · rw [aput_keys, h2]; unfold linkN; rw [if_pos rfl]
      · rcases aput_mem hp with e | e
        · rw [e]; exact dd _ hw
        · exact dd _ (h3 p e)
    · by_cases e2 : n = v
      · subst e2
        rw [hkv] at h1; cases h1
        refine ⟨_, ep2, put_same, ?_, fun p hp => ?_⟩
        · rw [aput_keys, h2]; unfold linkN; rw [if_neg e1, if_pos rfl]
        · rcases aput_mem hp with e | e
          · rw [e]; exact dd _ hw
          · exact dd _ (h3 p e)
      · refine ⟨kvs, ep, keep _ _ (fun e => e1 (G.inj n hn u hu e)) (fun e => e2 (G.inj n hn v hv e)) h1, ?_, fun p hp => dd _ (h3 p hp)⟩
        unfold linkN; rw [if_neg e1, if_neg e2]; exact h2
end
end
-- AzG6
section
theorem len_tup2 {x : X} {σ : AS} {t : Addr} {a b : AV} {Q : AV → AS → Prop} (ht : σ.hp t = some (.tup [a, b])) (h : Q (.int 2) σ) : RunV x (call (.builtin "len") [.ref t]) Q σ := len_tup ht (by simp) h
/-- neighbours without repeats, among the nodes -/
def WF (ns : List Int) (nb : Int → List Int) : Prop := ∀ n ∈ ns, (nb n).Nodup ∧ ∀ m ∈ nb n, m ∈ ns
theorem WF.link {ns : List Int} {nb : Int → List Int} (h : WF ns nb) {u v : Int} (hu : u ∈ ns) (hv : v ∈ ns) : WF ns (linkN nb u v) := fun n hn => by
  unfold linkN
  split
  · exact ⟨nodup_addk (h u hu).1, fun m hm => (mem_addk.mp hm).elim (fun q => (h u hu).2 m q) fun e => e ▸ hv⟩
  · split
    · exact ⟨nodup_addk (h v hv).1, fun m hm => (mem_addk.mp hm).elim (fun q => (h v hv).2 m q) fun e => e ▸ hu⟩
    · exact h n hn
theorem mem_link {nb : Int → List Int} {u v n m : Int} (huv : u ≠ v) : m ∈ linkN nb u v n ↔ m ∈ nb n ∨ (n = u ∧ m = v) ∨ (n = v ∧ m = u) := by
  unfold linkN
  split
  · rename_i e; subst e
    rw [mem_addk]
    constructor
    · rintro (h | h)
      · exact .inl h
      · exact .inr (.inl ⟨rfl, h⟩)
    · rintro (h | h | h)
      · exact .inl h
      · exact .inr h.2
      · exact absurd h.1 huv
  · rename_i e
    split
    · rename_i e2; subst e2
      rw [mem_addk]
      constructor
      · rintro (h | h)
        · exact .inl h
        · exact .inr (.inr ⟨rfl, h⟩)
      · rintro (h | h | h)
        · exact .inl h
        · exact absurd h.1 e
        · exact .inr h.2
    · rename_i e2
      constructor
      · exact .inl
      · rintro (h | h | h)
        · exact h
        · exact absurd h.1 e
        · exact absurd h.1 e2
set_option maxHeartbeats 8000000 in
theorem add_edges_spec {C : Cx} {fs : List (Addr × Loc)} {L : Addr} {A : Around} {σ : AS} {g d gd nd ad l : Addr} {ia : Int → Addr} {ns : List Int} {nb : Int → List Int} {ex : List (Str × AV)} {hd : Bool} {E : List (Addr × Int × Int)} {Q : AV → AS → Prop} (hA : Deep A 2)
    (G : GraphAt σ g d gd nd ad ia ns nb ex hd) (hwf : WF ns nb) (h7 : ns.length ≤ 7) (hl : σ.hp l = some (.list (E.map fun p => .ref p.1))) (hE : ∀ p ∈ E, σ.hp p.1 = some (.tup [.int p.2.1, .int p.2.2]) ∧ p.2.1 ∈ ns ∧ p.2.2 ∈ ns ∧ p.2.1 ≠ p.2.2)
    (h : ∀ σ' nb', (∀ b ao, (∀ n ∈ ns, b ≠ ia n) → σ.hp b = some ao → σ'.hp b = some ao) → σ'.gs = σ.gs → σ'.loc = σ.loc → GraphAt σ' g d gd nd ad ia ns nb' ex hd → WF ns nb' →
      (∀ n m, m ∈ nb' n ↔ m ∈ nb n ∨ ∃ p ∈ E, (n = p.2.1 ∧ m = p.2.2) ∨ (n = p.2.2 ∧ m = p.2.1)) → Q .none σ') :
    RunV ⟨C, fs, L, A⟩ (call (.ref 458) [.ref g, .ref l]) Q σ := by
  refine runV_ofC (runC_callkw (Q := Q) ["self", "ebunch_to_add", "attr"] hA (by k_is) (by k_is) (by decide) ?_)
  show Run _ (alloc { cls := .type "dict", data := .dict #[] } >>= fun dd => pure [(("self" : Str), Value.ref g), (("ebunch_to_add" : Str), Value.ref l), (("attr" : Str), Value.ref dd)]) _ σ
  refine run_bind (run_alloc (ao := .idict [] 0) ⟨#[], [], ⟨rfl, rfl, rfl⟩, rfl, fun _ h => by simp at h, .nil, List.nodup_nil, rfl⟩ fun da hda => run_pure ⟨rfl, fun _ σ₁ => σ₁.loc "self" = some (.ref g) ∧ σ₁.loc "ebunch_to_add" = some (.ref l) ∧ σ₁.loc "attr" = some (.ref da), fun _ _ => ⟨rfl, rfl, rfl⟩, fun L' A' σ₁ hf hA' hEx ⟨l1, l2, l3⟩ => ?_⟩)
  have k₁ : Ext σ σ₁ := (Ext.refl.put hda).trans hEx
  have G₁ := G.keep (.ext k₁)
  have hda₁ := hEx.hp _ _ (put_same (σ := σ) (a := da) (ao := .idict [] 0))
  have hdia : ∀ n ∈ ns, da ≠ ia n := fun n hn => by obtain ⟨_, _, q, _⟩ := G.inner n hn; exact (hda _ _ q).symm
  refine s_then (fun σ' => ∃ nb', (∀ b ao, (∀ n ∈ ns, b ≠ ia n) → σ.hp b = some ao → σ'.hp b = some ao) ∧ σ'.gs = σ.gs ∧ GraphAt σ' g d gd nd ad ia ns nb' ex hd ∧ WF ns nb' ∧
      (∀ n m, m ∈ nb' n ↔ m ∈ nb n ∨ ∃ p ∈ E, (n = p.2.1 ∧ m = p.2.2) ∨ (n = p.2.2 ∧ m = p.2.1))) ?_ ?_
  · refine s_for ?_
    walk_at "st"
    refine iter_list (k₁.hp _ _ hl) fun I hI => ?_
    walk_at "ev"
    refine ⟨fun k σ' => ∃ nb', k ≤ E.length ∧ (∀ b ao, (∀ n ∈ ns, b ≠ ia n) → σ.hp b = some ao → σ'.hp b = some ao) ∧ σ'.gs = σ.gs ∧ GraphAt σ' g d gd nd ad ia ns nb' ex hd ∧ WF ns nb' ∧
      (∀ n m, m ∈ nb' n ↔ m ∈ nb n ∨ ∃ p ∈ E.take (E.length - k), (n = p.2.1 ∧ m = p.2.2) ∨ (n = p.2.2 ∧ m = p.2.1)) ∧
      σ'.hp I = some (LIter l (E.length - k)) ∧ σ'.hp da = some (.idict [] 0) ∧ σ'.loc "self" = some (.ref g) ∧ σ'.loc "attr" = some (.ref da), E.length, ⟨nb, Nat.le_refl _, ?_⟩, ?_⟩
    · rw [Nat.sub_self]
      exact ⟨fun b ao _ e => put_new hI (k₁.hp _ _ e), hEx.gs, G₁.keep (KeepG.refl.new hI), hwf, fun n m => by simp, put_same, put_new hI hda₁, l1, l3⟩
    · rintro k σ₂ ⟨nb', hk, k₂, g₂, G₂, hwf₂, hnb₂, hI₂, hda₂, l1, l3⟩
      have offl : ∀ {b ao}, σ.hp b = some ao → isG ao = false → ∀ n ∈ ns, b ≠ ia n := fun {b ao} e i n hn q => by
        obtain ⟨_, _, q', _⟩ := G.inner n hn
        rw [← q, e] at q'; cases q'; cases i
      refine next_list hA'.h hI₂ (k₂ _ _ (offl hl rfl) hl) (fun hlt w hw => ?_) (fun hge => ?_)
      · have hlt' : E.length - k < E.length := by simpa using hlt
        have htake : E.take (E.length - k + 1) = E.take (E.length - k) ++ [E[E.length - k]] := by rw [List.take_add_one, List.getElem?_eq_getElem hlt']; rfl
        have hmem : E[E.length - k] ∈ E := List.getElem_mem hlt'
        have hw' : er w = .ref (E[E.length - k]).1 := by simpa [hlt'] using hw
        cases er_ref hw'
        generalize E[E.length - k] = p at *
        obtain ⟨t, u, v⟩ := p
        obtain ⟨ht, hu, hv, huv⟩ := hE _ hmem
        dsimp only at ht hu hv huv
        have ht₂ := k₂ _ _ (offl ht rfl) ht
        have hIia : ∀ n ∈ ns, I ≠ ia n := fun n hn q => by
          obtain ⟨_, _, q', _⟩ := G₂.inner n hn
          rw [← q, hI₂] at q'; cases q'
        have htI : t ≠ I := fun q => by rw [q, hI₂] at ht₂; cases ht₂
        walk_at "st"
        walk_at "st"
        walk_at "st"
        have G₃ := G₂.keep (σ' := (σ₂.put I (LIter l (E.length - k + 1))).bind "e" (.ref t)) (KeepG.bind (KeepG.refl.put hI₂ rfl))
        walk_at "st"
        walk_at "st"
        refine n_call1 ?_
        walk_at "st"
        refine ⟨by walk_at "keep", a_cons ?_⟩
        walk_at "st"
        refine a_nil ?_
        refine len_tup2 (bind_hp (put_ne htI ht₂)) ?_
        walk_at "ev"
        walk_at "st"
        walk_at "st"
        walk_at "st"
        walk_at "st"
        walk_at "st"
        walk_at "st"
        refine int_eq ⟨fun h => (nomatch h), fun _ => ?_⟩
        walk_at "st"
        walk_at "st"
        walk_at "st"
        walk_at "st"
        walk_at "st"
        refine int_eq ⟨fun _ => ?_, fun h => (nomatch h)⟩
        walk_at "st"
        refine s_assign_tup ?_
        walk_at "st"
        refine asg_tup2 hA'.h (bind_hp (bind_hp (put_ne htI ht₂))) fun v₁ v₂ e1 e2 => ?_
        obtain ⟨t₁, rfl⟩ := er_int e1
        obtain ⟨t₂, rfl⟩ := er_int e2
        walk_at "st"
        walk_at "st"
        walk_at "st"
        walk_at "st"
        refine n_dict0 fun dd hdd => ?_
        walk_at "ev"
        walk_at "st"
        walk_at "st"
        walk_at "st"
        walk_at "st"
        walk_at "st"
        walk_at "st"
        walk_at "st"
        have G₄ := G₃.keep (σ' := (((((σ₂.put I (LIter l (E.length - k + 1))).bind "e" (.ref t)).bind "ne" (.int 2)).bind "u" (.int u)).bind "v" (.int v)).put dd (.idict [] 0)) (KeepG.refl.new hdd)
        have G₅ := G₄.keep (σ' := ((((((σ₂.put I (LIter l (E.length - k + 1))).bind "e" (.ref t)).bind "ne" (.int 2)).bind "u" (.int u)).bind "v" (.int v)).put dd (.idict [] 0)).bind "dd" (.ref dd)) (KeepG.bind KeepG.refl)
        obtain ⟨kvn, epn, hkn, hkeys, _⟩ := G₅.node
        obtain ⟨epa, hadj⟩ := G₅.adj
        have hin : ∀ n ∈ ns, (!(aget kvn n).isSome) = false := fun n hn => by
          obtain ⟨_, q, _⟩ := aget_some (kvs := kvn) (k := n) (by rw [hkeys]; exact hn)
          rw [q]; rfl
        refine n_attr' ?_
        walk_at "st"
        refine get_node G₅ ?_
        walk_at "ev"
        refine notin_idict hkn ?_
        rw [hin u hu]
        refine ⟨fun h => (nomatch h), fun _ => ?_⟩
        walk_at "st"
        walk_at "st"
        walk_at "st"
        walk_at "st"
        walk_at "st"
        refine n_attr' ?_
        walk_at "st"
        refine get_node G₅ ?_
        walk_at "ev"
        refine notin_idict hkn ?_
        rw [hin v hv]
        refine ⟨fun h => (nomatch h), fun _ => ?_⟩
        walk_at "st"
        walk_at "st"
        walk_at "st"
        refine n_meth2 ?_
        walk_at "st"
        refine n_attr' ?_
        walk_at "st"
        refine get_adj G₅ ?_
        walk_at "ev"
        walk_at "st"
        refine sub_idict hadj (v := .ref (ia u)) (aget_adj ia hu) ?_
        walk_at "ev"
        obtain ⟨kvu, epu, hku, hkeyu, hddu⟩ := G₅.inner u hu
        obtain ⟨kvv, epv, hkv, hkeyv, hddv⟩ := G₅.inner v hv
        refine meth_dict hku F.slot_dict_get F.type_dict_get ⟨by walk_at "keep", ?_⟩
        walk_at "st"
        refine n_meth0 ?_
        walk_at "st"
        refine g_meth G₅ (gkvs_none G₅.exs) (by k_is) (by k_is) (by k_is) ⟨by walk_at "keep", ?_⟩
        refine fac_edge_attr hA' fun fe hfe => ?_
        walk_at "ev"
        have G₆ := G₅.keep (KeepG.refl.new (ao := .idict [] 0) hfe)
        have hku₆ := put_new (ao := .idict [] 0) hfe hku
        have hkv₆ := put_new (ao := .idict [] 0) hfe hkv
        have hadj₆ := put_new (ao := .idict [] 0) hfe hadj
        refine get_default hku₆ ?_
        have hW : DD ((((((((σ₂.put I (LIter l (E.length - k + 1))).bind "e" (.ref t)).bind "ne" (.int 2)).bind "u" (.int u)).bind "v" (.int v)).put dd (.idict [] 0)).bind "dd" (.ref dd)).put fe (.idict [] 0)) nd ad ia ns ((aget kvu v).getD (er (.ref fe))) := by
          cases e : aget kvu v with
          | none =>
            refine ⟨fe, 0, rfl, put_same, (hfe _ _ hadj).symm, (hfe _ _ hkn).symm, fun m hm => ?_⟩
            obtain ⟨_, _, q, _⟩ := G₅.inner m hm
            exact (hfe _ _ q).symm
          | some w =>
            have hm : v ∈ kvu.map (·.1) := by
              rcases Classical.em (v ∈ kvu.map (·.1)) with h | h
              · exact h
              · rw [aget_none h] at e; cases e
            obtain ⟨w', q1, q2⟩ := aget_some hm
            rw [e] at q1; cases q1
            exact (hddu _ q2).keep (KeepG.refl.new hfe)
        generalize (aget kvu v).getD (er (.ref fe)) = W at hW ⊢
        obtain ⟨we, wep, rfl, hwe, hwad, hwnd, hwia⟩ := id hW
        walk_at "ev"
        walk_at "st"
        walk_at "st"
        walk_at "st"
        refine n_meth1 ?_
        walk_at "st"
        have hIda : I ≠ da := fun e => by rw [← e, hI₂] at hda₂; cases hda₂
        have hda₆ : ((((((((σ₂.put I (LIter l (E.length - k + 1))).bind "e" (.ref t)).bind "ne" (.int 2)).bind "u" (.int u)).bind "v" (.int v)).put dd (.idict [] 0)).bind "dd" (.ref dd)).put fe (.idict [] 0)).hp da = some (.idict [] 0) := by
          have q1 : (((((σ₂.put I (LIter l (E.length - k + 1))).bind "e" (.ref t)).bind "ne" (.int 2)).bind "u" (.int u)).bind "v" (.int v)).hp da = some (.idict [] 0) := put_ne hIda.symm hda₂
          have q2 := bind_hp (n := "dd") (v := .ref dd) (put_new (ao := .idict [] 0) hdd q1)
          exact put_new hfe q2
        have hdd₆ : ((((((((σ₂.put I (LIter l (E.length - k + 1))).bind "e" (.ref t)).bind "ne" (.int 2)).bind "u" (.int u)).bind "v" (.int v)).put dd (.idict [] 0)).bind "dd" (.ref dd)).put fe (.idict [] 0)).hp dd = some (.idict [] 0) := put_new hfe (bind_hp put_same)
        have hwe₇ := bind_hp (n := "datadict") (v := .ref we) hwe
        have hda₇ := bind_hp (n := "datadict") (v := .ref we) hda₆
        have hdd₇ := bind_hp (n := "datadict") (v := .ref we) hdd₆
        have hadj₇ := bind_hp (n := "datadict") (v := .ref we) hadj₆
        have hku₇ := bind_hp (n := "datadict") (v := .ref we) hku₆
        have hkv₇ := bind_hp (n := "datadict") (v := .ref we) hkv₆
        refine meth_dict hwe₇ F.slot_dict_update F.type_dict_update ⟨by walk_at "keep", ?_⟩
        walk_at "st"
        refine update_empty hwe₇ hda₇ ?_
        walk_at "ev"
        refine drop_none ?_
        walk_at "st"
        walk_at "st"
        refine n_meth1 ?_
        walk_at "st"
        refine meth_dict hwe₇ F.slot_dict_update F.type_dict_update ⟨by walk_at "keep", ?_⟩
        walk_at "st"
        refine update_empty hwe₇ hdd₇ ?_
        walk_at "ev"
        refine drop_none ?_
        have lenk : ∀ {n : Int} {kv : List (Int × AV)}, n ∈ ns → kv.map (·.1) = nb' n → kv.length ≤ sizeLine := fun {n kv} hn e => by
          have h1 := nodup_sub (hwf₂ n hn).1 (hwf₂ n hn).2
          have h2 := congrArg List.length e
          rw [List.length_map] at h2
          exact fits (by omega)
        walk_at "st"
        walk_at "st"
        walk_at "st"
        walk_at "st"
        refine n_attr' ?_
        walk_at "st"
        have I₆ := G₆.gi
        refine gi_adj (I₆.bind (n := "datadict") (v := .ref we)) ?_
        walk_at "ev"
        walk_at "st"
        refine sub_idict hadj₇ (v := .ref (ia u)) (aget_adj ia hu) ?_
        walk_at "ev"
        walk_at "st"
        refine store_idict hku₇ (lenk hu hkeyu) fun ep₁ => ?_
        walk_at "st"
        walk_at "st"
        walk_at "st"
        walk_at "st"
        refine n_attr' ?_
        walk_at "st"
        have I₇ := (I₆.bind (n := "datadict") (v := .ref we)).put (a := ia u) (ao := .idict (aput kvu v (er (.ref we))) ep₁) hku₇ rfl
        refine gi_adj I₇ ?_
        walk_at "ev"
        walk_at "st"
        have hadu : ad ≠ ia u := (G.sep.2 u hu).2.symm
        have huv' : ia u ≠ ia v := fun e => huv (G.inj u hu v hv e)
        refine sub_idict (put_ne hadu hadj₇) (v := .ref (ia v)) (aget_adj ia hv) ?_
        walk_at "ev"
        walk_at "st"
        refine store_idict (put_ne huv'.symm hkv₇) (lenk hv hkeyv) fun ep₂ => ?_
        walk_at "st"
        have G₈ := GraphAt.link (ep1 := ep₁) (ep2 := ep₂) (G₆.keep (σ' := ((((((((σ₂.put I (LIter l (E.length - k + 1))).bind "e" (.ref t)).bind "ne" (.int 2)).bind "u" (.int u)).bind "v" (.int v)).put dd (.idict [] 0)).bind "dd" (.ref dd)).put fe (.idict [] 0)).bind "datadict" (.ref we)) (KeepG.bind KeepG.refl)) hu hv huv hku₇ hkv₇ (hW.keep (KeepG.bind KeepG.refl))
        have old : ∀ b ao, (∀ n ∈ ns, b ≠ ia n) → b ≠ I → σ₂.hp b = some ao → (((((((((((σ₂.put I (LIter l (E.length - k + 1))).bind "e" (.ref t)).bind "ne" (.int 2)).bind "u" (.int u)).bind "v" (.int v)).put dd (.idict [] 0)).bind "dd" (.ref dd)).put fe (.idict [] 0)).bind "datadict" (.ref we)).put (ia u) (.idict (aput kvu v (.ref we)) ep₁)).put (ia v) (.idict (aput kvv u (.ref we)) ep₂)).hp b = some ao := fun b ao b1 b2 e => by
          have q1 : (((((σ₂.put I (LIter l (E.length - k + 1))).bind "e" (.ref t)).bind "ne" (.int 2)).bind "u" (.int u)).bind "v" (.int v)).hp b = some ao := put_ne b2 e
          have q2 := bind_hp (n := "dd") (v := .ref dd) (put_new (ao := .idict [] 0) hdd q1)
          have q3 := bind_hp (n := "datadict") (v := .ref we) (put_new (ao := .idict [] 0) hfe q2)
          exact put_ne (b1 v hv) (put_ne (b1 u hu) q3)
        have hI0 : ∀ b ao, σ.hp b = some ao → b ≠ I := fun b ao e => hI _ _ (k₁.hp _ _ e)
        have hke : E.length - (k - 1) = E.length - k + 1 := by omega
        refine ⟨k - 1, by omega, linkN nb' u v, by omega, fun b ao b1 e => old b ao b1 (hI0 _ _ e) (k₂ b ao b1 e), g₂, G₈, hwf₂.link hu hv, fun n m => ?_, ?_, ?_, ?_, ?_⟩
        · rw [mem_link huv, hnb₂, hke, htake]
          constructor
          · rintro ((h | ⟨p, hp, h⟩) | h)
            · exact .inl h
            · exact .inr ⟨p, List.mem_append_left _ hp, h⟩
            · exact .inr ⟨(t, u, v), by simp, h⟩
          · rintro (h | ⟨p, hp, h⟩)
            · exact .inl (.inl h)
            · rcases List.mem_append.mp hp with hp | hp
              · exact .inl (.inr ⟨p, hp, h⟩)
              · have : p = (t, u, v) := by simpa using hp
                subst this
                exact .inr h
        · rw [hke]
          have q1 : (((((σ₂.put I (LIter l (E.length - k + 1))).bind "e" (.ref t)).bind "ne" (.int 2)).bind "u" (.int u)).bind "v" (.int v)).hp I = some (LIter l (E.length - k + 1)) := put_same
          exact put_ne (hIia v hv) (put_ne (hIia u hu) (bind_hp (put_new hfe (bind_hp (put_new hdd q1)))))
        · exact put_ne (hdia v hv) (put_ne (hdia u hu) hda₇)
        · walk_at "loc"
        · walk_at "loc"
      · walk_at "st"
        have hke : E.take (E.length - k) = E := List.take_of_length_le (by simpa using hge)
        rw [hke] at hnb₂
        exact ⟨rfl, nb', fun b ao b1 e => drop_ne (hI _ _ (k₁.hp _ _ e)) (k₂ b ao b1 e), g₂, G₂.keep (KeepG.refl.drop hI₂ rfl), hwf₂, hnb₂⟩
  · rintro σ₂ ⟨nb', k₂, g₂, G₂, hwf₂, hnb₂⟩
    walk_at "st"
    exact h _ nb' k₂ g₂ rfl (G₂.keep KeepG.refl) hwf₂ hnb₂
end
-- AzIter
section
section
variable {x : X} {α β : Type} {σ : AS} {env : Env} {g d gd nd ad : Addr} {ia : Int → Addr} {ns : List Int} {nb : Int → List Int} {ex : List (Str × AV)} {hd : Bool}
theorem call_iter {v : Value} {Q : AV → AS → Prop} (h : RunV (x.with x.A.in1) (pyIter v) Q σ) : RunV x (call (.builtin "iter") [v]) Q σ := by
  intro s R
  refine call_function_entry (by decide +kernel) (by decide +kernel) kdk_entry_iter (kdk_args_iter _) ?_
  unfold Builtin.«iter»
  refine wpAny_bind (m := someArgs "iter" 1 2 _) (wpAny_of_eq (a := [v]) (by first | rfl | kernel_rfl!) ?_)
  refine wpAny_bind (run_to h R fun u σ' s' R' q => ?_)
  exact wpAny_pure ⟨_, rfl, σ', R', q⟩
theorem has_next {s : Shared} {I : Addr} {T id : String} {E : Value → Shared → Prop} {A : Around} {w : World} {Q : Value → Shared → Prop} (hT : s.TypeIs (.ref I) T) (hl : typeLookup (.type T) "__next__" = pure (some (.builtin id))) (h : Q (.ref I) s) : OwitIt (model Pg w) A Q E (.ref I) s := by
  unfold OwitIt
  exact wpAny_specialOf hT hl h
/-- iter of an object whose class has __iter__, and which gives a dict's keys -/
theorem iter_user {cl f : Addr} {dx : Addr} {D : Addr} {kvs : List (Int × AV)} {epd : Nat} {o : AO} (hg : ∀ s, Rel x.C x.fs x.L σ s → ∃ ox od, InstAt s.heap g ox cl od)
    (hs : findIn (Mine.hd.heap_39 x.C.w.params) (.ref cl) "__iter__" = some (some (.ref f))) (hf : isFn (Mine.hd.heap_39 x.C.w.params) (.ref f) = true) {Q : AV → AS → Prop}
    (h : RunV x (call (.ref f) [.ref g]) (fun a σ' => ∃ I, a = .ref I ∧ σ'.hp I = some (KIter D 0 kvs.length epd) ∧ Q (.ref I) σ') σ) : RunV x (pyIter (.ref g)) Q σ := by
  intro s R
  obtain ⟨ox, od, I⟩ := hg s R
  obtain ⟨m, hm, F⟩ := R.fr
  refine owit_iter F R.ok.kx I hs hf (wpAny_mono (h s R) (fun v s' ⟨σ', R', J, e, hJ, q⟩ => ?_) fun _ _ e => e.elim)
  cases er_ref e
  obtain ⟨o, h1, h2, h3⟩ := ob_at R' hJ
  exact has_next ⟨o, h1, h2⟩ PySem.F.slot_dict_keyiterator_next.lookup ⟨σ', R', q⟩
theorem gi_inst (G : GI σ g d gd nd ad ex hd) : ∀ s, Rel x.C x.fs x.L σ s → ∃ ox od, InstAt s.heap g ox 583 od := fun s R => by
  obtain ⟨ep, hk⟩ := G.dict
  obtain ⟨es, kvs', I, _⟩ := inst_at R G.inst hk
  exact ⟨_, _, I⟩
end
/-- Graph.__iter__ -/
theorem giter_spec {C : Cx} {fs : List (Addr × Loc)} {L : Addr} {A : Around} {σ : AS} {g d gd nd ad : Addr} {ex : List (Str × AV)} {hd : Bool} {kvs : List (Int × AV)} {ep : Nat} {Q : AV → AS → Prop} (hA : Deep A 1)
    (G : GI σ g d gd nd ad ex hd) (hk : σ.hp nd = some (.idict kvs ep)) (h : ∀ I, Fresh σ I → Q (.ref I) (σ.put I (KIter nd 0 kvs.length ep))) : RunV ⟨C, fs, L, A⟩ (call (.ref 364) [.ref g]) Q σ := by
  refine run_callpl ["self"] [("self", .ref g)] hA (by k_is) (by k_is) rfl (by decide) (fun _ σ₁ => σ₁.hp = σ.hp ∧ σ₁.gs = σ.gs ∧ σ₁.loc "self" = some (.ref g)) (fun _ _ => ⟨rfl, rfl, rfl⟩) fun L' A' σ₁ hf hA' hE ⟨e1, e2, l1⟩ => ?_
  walk_at "st"
  walk_at "st"
  refine n_call1 ?_
  walk_at "st"
  refine ⟨by walk_at "keep", a_cons ?_⟩
  refine n_attr' ?_
  walk_at "st"
  refine gi_node (G.ext hE) ?_
  walk_at "ev"
  refine a_nil ?_
  refine call_iter ?_
  refine iter_idict (hE.hp _ _ hk) fun I hI => ?_
  walk_at "ev"
  rw [at_put e1 e2]
  exact h I (hE.fresh hI)
section
variable {x : X} {α β : Type} {σ : AS} {env : Env} {g d gd nd ad : Addr} {ia : Int → Addr} {ns : List Int} {nb : Int → List Int} {ex : List (Str × AV)} {hd : Bool}
theorem iter_graph {kvs : List (Int × AV)} {ep : Nat} {Q : AV → AS → Prop} (hA : Deep x.A 1) (G : GI σ g d gd nd ad ex hd) (hk : σ.hp nd = some (.idict kvs ep)) (h : ∀ I, Fresh σ I → Q (.ref I) (σ.put I (KIter nd 0 kvs.length ep))) : RunV x (pyIter (.ref g)) Q σ :=
  iter_user (dx := 0) (D := nd) (kvs := kvs) (epd := ep) (o := .inst 0 0) (gi_inst G) (by k_is) (by k_is) (giter_spec hA G hk fun I hI => ⟨I, rfl, put_same, h I hI⟩)
end
end
-- AzIter2
section
section
variable {x : X} {α β : Type} {σ : AS} {env : Env} {g d gd nd ad : Addr} {ia : Int → Addr} {ns : List Int} {nb : Int → List Int} {ex : List (Str × AV)} {hd : Bool}
theorem len_idict {a : Addr} {kvs : List (Int × AV)} {ep : Nat} {Q : AV → AS → Prop} (hk : σ.hp a = some (.idict kvs ep)) (hz : kvs.length < 1000) (h : Q (.int kvs.length) σ) : RunV x (call (.builtin "len") [.ref a]) Q σ := by
  intro s R
  obtain ⟨kvs', hm, rfl⟩ := idict_at R hk
  refine call_len_dict (knd := intKind Pg x.C.w) (R.notMods hk) hm.dictOf (by simp at hz; omega) ⟨σ, R.toks _, ?_⟩
  rw [List.length_map] at h
  exact h
end
theorem glen_spec {C : Cx} {fs : List (Addr × Loc)} {L : Addr} {A : Around} {σ : AS} {g d gd nd ad : Addr} {ex : List (Str × AV)} {hd : Bool} {kvs : List (Int × AV)} {ep : Nat} {Q : AV → AS → Prop} (hA : Deep A 1)
    (G : GI σ g d gd nd ad ex hd) (hk : σ.hp nd = some (.idict kvs ep)) (hz : kvs.length < 1000) (h : Q (.int kvs.length) σ) : RunV ⟨C, fs, L, A⟩ (call (.ref 378) [.ref g]) Q σ := by
  refine run_callpl ["self"] [("self", .ref g)] hA (by k_is) (by k_is) rfl (by decide) (fun _ σ₁ => σ₁.hp = σ.hp ∧ σ₁.gs = σ.gs ∧ σ₁.loc "self" = some (.ref g)) (fun _ _ => ⟨rfl, rfl, rfl⟩) fun L' A' σ₁ hf hA' hE ⟨e1, e2, l1⟩ => ?_
  walk_at "st"
  walk_at "st"
  refine n_call1 ?_
  walk_at "st"
  refine ⟨by walk_at "keep", a_cons ?_⟩
  refine n_attr' ?_
  walk_at "st"
  refine gi_node (G.ext hE) ?_
  walk_at "ev"
  refine a_nil ?_
  refine len_idict (hE.hp _ _ hk) hz ?_
  walk_at "ev"
  rw [at_self e1 e2]
  exact h
section
variable {x : X} {α β : Type} {σ : AS} {env : Env} {g d gd nd ad : Addr} {ia : Int → Addr} {ns : List Int} {nb : Int → List Int} {ex : List (Str × AV)} {hd : Bool}
theorem len_graph {kvs : List (Int × AV)} {ep : Nat} {Q : AV → AS → Prop} (hA : Deep x.A 1) (G : GI σ g d gd nd ad ex hd) (hk : σ.hp nd = some (.idict kvs ep)) (hz : kvs.length < 1000) (h : Q (.int kvs.length) σ) : RunV x (call (.builtin "len") [.ref g]) Q σ := by
  intro s R
  obtain ⟨ox, od, I⟩ := gi_inst G s R
  obtain ⟨m, hm, F⟩ := R.fr
  refine len_K F R.ok.kx I (by k_is) (by k_is) (wpAny_mono (glen_spec (A := x.A.in1) hA.in1 (Q := fun a σ' => a = .int kvs.length ∧ σ' = σ) G hk hz ⟨rfl, rfl⟩ s R) (fun v s' ⟨σ', R', e, e2⟩ => ?_) fun _ _ e => e.elim)
  obtain ⟨t, rfl⟩ := er_int e
  rw [e2] at R'
  exact ⟨⟨by omega, by omega⟩, σ, R'.toks _, h⟩
theorem type_gi (G : GI σ g d gd nd ad ex hd) {s : Shared} (R : Rel x.C x.fs x.L σ s) : ∃ o, s.heap.get? g = some o ∧ o.cls = .ref 583 := by
  obtain ⟨ox, od, I⟩ := gi_inst G s R
  exact ⟨ox, I.at_, I.cls⟩
theorem run_typeOf_gi {Q : Value → AS → Prop} (G : GI σ g d gd nd ad ex hd) (h : Q (.ref 583) σ) : Run x (typeOf (.ref g)) Q σ := fun s R => by
  obtain ⟨o, ho, hc⟩ := type_gi G R
  exact wpAny_typeOf_ref ho (by rw [hc]; exact ⟨σ, R, h⟩)
theorem hint_graph {kvs : List (Int × AV)} {ep : Nat} {Q : Bool → AS → Prop} (hA : Deep x.A 1) (G : GI σ g d gd nd ad ex hd) (hk : σ.hp nd = some (.idict kvs ep)) (hz : kvs.length < 1000) (h : ∀ b, Q b σ) : Run x (Builtin.List.listLengthHint (.ref g)) Q σ := by
  intro s R
  obtain ⟨ox, od, I⟩ := gi_inst G s R
  unfold Builtin.List.listLengthHint
  refine wpAny_bind (wpAny_bind (I.type.here ((looks_findIn (name := "__len__") (r := some (.ref 378)) (R.ok.kx.keeps R.base) (by k_is)).here ?_)))
  dsimp only
  refine wpAny_ite_split (fun hab => absurd hab (by decide)) (fun _ => ?_)
  refine wpAny_ite_split (fun _ => ?_) (fun hab => absurd rfl hab)
  refine wpAny_bind (wpAny_rule (wpAny_bind (wpAny_attempt ?_)))
  refine wpAny_mono (len_graph hA (Q := fun a σ' => a = .int kvs.length ∧ σ' = σ) G hk hz ⟨rfl, rfl⟩ s R) (fun v s' ⟨σ', R', e, e2⟩ => ?_) fun _ _ e => e.elim
  obtain ⟨t, rfl⟩ := er_int e
  rw [e2] at R'
  refine wpAny_bind (m := asInt? _) (wpAny_of_eq (a := some (kvs.length : Int)) (by rfl) ?_)
  dsimp only
  refine wpAny_ite_split (fun hab => ?_) (fun _ => wpAny_pure ⟨σ, R', h _⟩)
  have : Builtin.List.listTooLong ((kvs.length : Int)).toNat = false := by
    unfold Builtin.List.listTooLong
    have := fits hz
    simpa using this
  rw [this] at hab
  cases hab
/-- list(v) -/
theorem run_call_list {v : Value} {Q : AV → AS → Prop} (h : ∀ l A', Fresh σ l → Sim x.A A' → Builtin.List.listSameRef (.ref l) v = false ∧ Source (x.with A') v l (Q (.ref l)) (σ.put l (.list []))) : RunV x (call (.type "list") [v]) Q σ := by
  intro s R
  refine callType_codes (Q₁ := fun obj s₁ => obj = .ref s.heap.objs.size ∧ s₁ = { s with heap := s.heap.push { cls := .type "list", data := .seq #[] } }) PySem.F.called_list (PySem.F.typeCall_list_1 _) PySem.F.entry_list_init
    (code_list_new _ ⟨rfl, rfl⟩) fun obj s₁ h₁ => ?_
  obtain ⟨rfl, rfl⟩ := h₁
  have hS : (s.heap.push { cls := .type "list", data := .seq #[] }).get? s.heap.objs.size = some { cls := .type "list", data := .seq #[] } := Heap.get?_push_size _ rfl
  have R₁ := R.push (ao := .list []) (o := { cls := .type "list", data := .seq #[] }) ⟨#[], 0, rfl, rfl⟩ s.toks
  have hfr := R.fresh (Nat.le_refl s.heap.objs.size)
  refine ⟨⟨_, hS, rfl⟩, PySem.F.args_list_init_2 _ _, ?_⟩
  show wpAny _ x.A.in1.in1 (do let old ← Builtin.List.listItems (.ref s.heap.objs.size); Builtin.List.listUpdate (.ref s.heap.objs.size) (fun _ => #[]); letGo old.toList.reverse; Builtin.List.listExtendWith (.ref s.heap.objs.size) v .none) _ _ _
  refine wpAny_bind (run_to (x := x.with x.A.in1.in1) (run_listItems put_same (Q := fun xs σ' => xs.toList = [] ∧ σ' = σ.put s.heap.objs.size (.list [])) fun xs hx => ⟨by simpa using hx, rfl⟩) R₁ fun xs σ₂ s₂ R₂ ⟨e1, e2⟩ => ?_)
  subst e2
  refine wpAny_bind (run_to (x := x.with x.A.in1.in1) (run_seqUpd put_same (vs' := []) (fun _ _ => ⟨rfl, by decide⟩) (by decide) (Q := fun _ σ' => σ' = σ.put s.heap.objs.size (.list [])) (by rw [put_put])) R₂ fun _ σ₃ s₃ R₃ e => ?_)
  subst e
  rw [e1]
  refine wpAny_bind (wpAny_letGo ?_)
  obtain ⟨hne, hSrc⟩ := h s.heap.objs.size x.A.in1.in1 hfr ⟨rfl, rfl⟩
  refine wpAny_mono (run_extendWith (x := x.with x.A.in1.in1) (res := .none) (R := fun fin σ' => ∃ c, fin = .again c ∧ c.quiet = true ∧ RunC (x.with x.A.in1) c (fun r σ₂ => r = .ok (.ret .none) ∧ Q (.ref s.heap.objs.size) σ₂) σ') hne hSrc (fun c σ' hc hr => ⟨c, rfl, hc, hr x.A.in1 ⟨rfl, rfl⟩⟩) s₃ R₃) (fun fin s₄ ⟨σ₄, R₄, c, e, hc, hr⟩ => ?_) fun _ _ e => e.elim
  subst e
  refine ⟨hc, codeAny_mono (hr s₄ R₄) fun r s₅ ⟨σ₅, R₅, e, q⟩ => ?_⟩
  subst e
  exact ⟨rfl, σ₅, R₅, q⟩
theorem list_graph {kvs : List (Int × AV)} {ep : Nat} {Q : AV → AS → Prop} (hA : Deep x.A 1) (G : GI σ g d gd nd ad ex hd) (hk : σ.hp nd = some (.idict kvs ep)) (hkn : kvs.map (·.1) = ns) (hz : kvs.length < 900)
    (h : ∀ l σ', Ext σ σ' → σ'.loc = σ.loc → Fresh σ l → σ'.hp l = some (.list (avs ns)) → Q (.ref l) σ') : RunV x (call (.type "list") [.ref g]) Q σ := by
  have hlen : kvs.length = ns.length := by rw [← hkn]; simp
  refine run_call_list fun l A' hl hA' => ⟨?_, ?_⟩
  · have : l ≠ g := fun e => hl _ _ G.inst e.symm
    simpa [Builtin.List.listSameRef] using this
  · have hA₂ : Deep A' 1 := hA.sim hA'
    have G₁ := G.new (ao := .list []) hl
    have hk₁ := put_new (ao := .list []) hl hk
    refine ⟨.ref 583, by rfl, run_typeOf_gi G₁ ⟨rfl, rfl⟩, iter_graph (x := x.with A') hA₂ G₁ hk₁ fun I hI => ⟨I, rfl, hint_graph (x := x.with A') hA₂ (G₁.new hI) (put_new hI hk₁) (by omega) fun b => ⟨[], put_new hI put_same, by decide, fun n σ' => n ≤ ns.length ∧ ExtB l (σ.put l (.list [])) σ' ∧ σ'.hp I = some (KIter nd (ns.length - n) kvs.length ep) ∧ σ'.hp l = some (.list (avs (ns.take (ns.length - n)))), ns.length, ?_, ?_⟩⟩⟩
    · have hIl : I ≠ l := fun e => hI _ _ put_same e.symm
      refine ⟨Nat.le_refl _, (ExtB.refl.put hI).self, ?_, ?_⟩
      · rw [Nat.sub_self]; exact put_ne hIl put_same
      · rw [Nat.sub_self]; exact put_same
    · rintro n σ' ⟨hn, hE, hI', hl'⟩ A'' hA''
      have hIl : I ≠ l := fun e => hI _ _ put_same e.symm
      have hndl : nd ≠ l := hl _ _ hk
      refine next_idict ((hA''.2.trans hA'.2).trans hA.h) hI' (hE.hp _ _ hndl hk₁) (fun k av hkv t => ?_) (fun hge => ?_)
      · have hkn' : ns[ns.length - n]? = some k := by rw [← hkn] at *; rw [List.getElem?_map, hkv]; rfl
        have hlt' : ns.length - n < ns.length := by
          rcases Nat.lt_or_ge (ns.length - n) ns.length with h | h
          · exact h
          · rw [List.getElem?_eq_none h] at hkn'; cases hkn'
        refine ⟨_, put_ne hIl.symm hl', by simp; omega, n - 1, by omega, by omega, (hE.put hI).self, ?_, ?_⟩
        · rw [show ns.length - (n - 1) = ns.length - n + 1 by omega]; exact put_ne hIl put_same
        · rw [put_same, show ns.length - (n - 1) = ns.length - n + 1 by omega, List.take_add_one, hkn']
          simp [er]
      · have hE' := hE.drop hI
        refine h l _ (hE'.ext hl) hE'.loc hl (drop_ne hIl.symm (hl'.trans ?_))
        rw [List.take_of_length_le (by omega)]
end
end
-- AzSub
section
section
variable {x : X} {α β : Type} {σ : AS} {env : Env}
theorem n_listcomp {elt : Expr} {scope : Scope} {pos : Pos} {g : Comprehension} {gs : List Comprehension} {cl : List (Str × Addr)} {Q : AV → AS → Prop}
    (hclos : closureFor scope env = pure cl)
    (h : RunV x (eval g.iter env) (fun a σ₁ => ∀ v, er v = a → RunV x (pyIter v) (fun b σ₂ => ∀ it, er it = b → RunV x (newList []) (fun c σ₃ => ∀ acc, er acc = c → CompRun x (.ListComp elt (g :: gs) scope pos) scope cl env it acc (fun σ₄ => Q c σ₄) σ₃) σ₂) σ₁) σ)
    (hasync : firstAsync (g :: gs) = false := by rfl) (hiter : firstIter (g :: gs) env = eval g.iter env := by rfl)
    (hs : ∀ y, foldedSetIterable g.iter env y = pure y := by intro _; rfl) (hkind : scope.kind = .function := by rfl) (hnames : ∀ y ∈ scope.names, y.2 = .local → scope.names.lookup y.1 = some .local := by decide)
    (hnd : ∀ n, ((cellsFrom n scope.names []).map (·.1)).Nodup := by intro n; simp [cellsFrom]) :
    RunV x (eval (.ListComp elt (g :: gs) scope pos) env) Q σ := by
  show RunV x (comprehension (.ListComp elt (g :: gs) scope pos) scope env (firstIterPos (g :: gs) pos) (newList []) (firstAsync (g :: gs)) (firstIter (g :: gs) env) none) Q σ
  rw [hasync, hiter]
  exact run_comp hclos h rfl hs hkind hnames hnd
end
section
variable {x : X} {α β : Type} {σ : AS} {env : Env}
theorem n_tuple {elts : List Expr} {k} {pos : Pos} {Q : AV → AS → Prop} (h : Run x (spliced (backTo pos (starEach elts env))) (fun vs σ' => RunV x (newTuple vs) Q σ') σ) : RunV x (eval (.Tuple elts k pos) env) Q σ := by
  show Run x (do standAt pos; newTuple (← spliced (backTo pos (starEach elts env)))) _ σ
  exact run_bind (run_standAt (run_bind h))
theorem n_list {elts : List Expr} {pos : Pos} {Q : AV → AS → Prop} (h : Run x (spliced (backTo pos (starEach elts env))) (fun vs σ' => RunV x (newList vs) Q σ') σ) : RunV x (eval (.List elts pos) env) Q σ := by
  show Run x (do standAt pos; newList (← spliced (backTo pos (starEach elts env)))) _ σ
  exact run_bind (run_standAt (run_bind h))
end
theorem cell_hp2 {n1 n2 : Str} {cm : Str → Option Value} {hp : Addr → Option AO} {c1 c2 : Addr} (h : c1 ≠ c2) : layHp [(n2, c2), (n1, c1)] cm hp c1 = some (.cell ((cm n1).map er)) ∧ layHp [(n2, c2), (n1, c1)] cm hp c2 = some (.cell ((cm n2).map er)) := by
  unfold layHp layHp layHp setHp
  exact ⟨(if_neg h).trans (if_pos rfl), if_pos rfl⟩
set_option maxHeartbeats 4000000 in
theorem subgraph_spec {C : Cx} {fs : List (Addr × Loc)} {L : Addr} {A : Around} {σ : AS} {g d gd nd ad s : Addr} {ia : Int → Addr} {ns : List Int} {nb : Int → List Int} {ex : List (Str × AV)} {hd : Bool} {xs : List Int} {eps : Nat} {Q : AV → AS → Prop} (hA : Deep A 6)
    (G : GraphAt σ g d gd nd ad ia ns nb ex hd) (hwf : WF ns nb) (h7 : ns.length ≤ 7) (hself : ∀ n ∈ ns, n ∉ nb n) (hs : σ.hp s = some (.set xs eps))
    (h : ∀ σ' h' d' gd' nd' ad' ia' nb', Ext σ σ' → σ'.loc = σ.loc → GraphAt σ' h' d' gd' nd' ad' ia' (ns.filter (fun n => decide (n ∈ xs))) nb' [] false → WF (ns.filter (fun n => decide (n ∈ xs))) nb' →
      (∀ n m, m ∈ nb' n ↔ (n ∈ ns ∧ n ∈ xs ∧ m ∈ xs ∧ m ∈ nb n) ∨ (m ∈ ns ∧ m ∈ xs ∧ n ∈ xs ∧ n ∈ nb m)) →
      (Fresh σ h' ∧ Fresh σ d' ∧ Fresh σ nd' ∧ Fresh σ ad' ∧ ∀ n ∈ ns.filter (fun n => decide (n ∈ xs)), Fresh σ (ia' n)) → Q (.ref h') σ') :
    RunV ⟨C, fs, L, A⟩ (call (.ref 43) [.ref g, .ref s]) Q σ := by
  refine run_callpl ["G", "nodes"] [("G", .ref g), ("nodes", .ref s)] hA (by k_is) (by k_is) rfl (by decide)
    (fun L' σ₁ => σ₁.loc "G" = some (.ref g) ∧ σ₁.loc "nodes" = some (.ref s) ∧ σ₁.hp (L' + 1) = some (.cell none) ∧ σ₁.hp (L' + 2) = some (.cell none)) (by
      intro L' _
      exact ⟨rfl, rfl, Eq.trans (cell_hp2 (n1 := "kept") (n2 := "u") (c1 := L' + 1) (c2 := L' + 1 + 1) (Nat.ne_of_lt (Nat.lt_succ_self _))).1 rfl, Eq.trans (cell_hp2 (n1 := "kept") (n2 := "u") (c1 := L' + 1) (c2 := L' + 1 + 1) (Nat.ne_of_lt (Nat.lt_succ_self _))).2 rfl⟩) (hnd := by intro n; simp [cellsFrom]; decide) fun L' A' σ₁ hf hA' hE ⟨l1, l2, c1, c2⟩ => ?_
  have f1 : Fresh σ (L' + 1) := hf _ (Nat.le_succ _)
  have f2 : Fresh σ (L' + 2) := hf _ (Nat.le_add_right _ 2)
  refine run_small (hE.hp _ _ hs) fun hx => ?_
  -- kept
  refine s_then (fun σ' => ∃ k, Ext σ σ' ∧ σ'.loc "G" = some (.ref g) ∧ σ'.loc "nodes" = some (.ref s) ∧ σ'.hp (L' + 1) = some (.cell (some (.ref k))) ∧ σ'.hp (L' + 2) = some (.cell none) ∧ σ'.hp k = some (.idict [] 0) ∧ Fresh σ k) ?_ ?_
  · walk_at "st"
    refine n_dict0 fun k hk => ?_
    walk_at "ev"
    walk_at "st"
    have hk1 : L' + 1 ≠ k := hk _ _ c1
    have hk2 : L' + 2 ≠ k := hk _ _ c2
    exact ⟨rfl, k, ((hE.put (hE.fresh hk)).put f1), by walk_at "loc", by walk_at "loc", put_same, put_ne (Nat.succ_ne_self _) (put_new hk c2), put_ne hk1.symm put_same, hE.fresh hk⟩
  rintro σ₂ ⟨k, hE₂, l1, l2, c1, c2, hk₂, fk⟩
  -- the nodes into kept
  refine s_then (fun σ' => ∃ ks ep, Ext σ σ' ∧ σ'.loc "G" = some (.ref g) ∧ σ'.hp (L' + 1) = some (.cell (some (.ref k))) ∧ σ'.hp (L' + 2) = some (.cell none) ∧ σ'.hp k = some (.idict (keysOf ks) ep) ∧ (∀ j, j ∈ ks ↔ j ∈ xs) ∧ Fresh σ k) ?_ ?_
  · refine s_for ?_
    walk_at "st"
    refine iter_set (hE₂.hp _ _ hs) fun I hI => ?_
    walk_at "ev"
    have hI0 : Fresh σ I := hE₂.fresh hI
    have hkI : k ≠ I := hI _ _ hk₂
    have hc1I : L' + 1 ≠ I := hI _ _ c1
    have hc2I : L' + 2 ≠ I := hI _ _ c2
    have hck : L' + 1 ≠ k := fun e => by rw [e, hk₂] at c1; cases c1
    have hck2 : L' + 2 ≠ k := fun e => by rw [e, hk₂] at c2; cases c2
    refine ⟨fun m σ' => m ≤ xs.length ∧ Ext σ σ' ∧ σ'.loc "G" = some (.ref g) ∧ σ'.hp (L' + 1) = some (.cell (some (.ref k))) ∧ σ'.hp (L' + 2) = some (.cell none) ∧ (∃ ep, σ'.hp k = some (.idict (keysOf ((ordOf C.w s eps xs).take (xs.length - m))) ep)) ∧ σ'.hp I = some (SIter C.w s xs (xs.length - m) eps), xs.length, ⟨Nat.le_refl _, ?_⟩, ?_⟩
    · rw [Nat.sub_self]
      exact ⟨hE₂.put hI0, l1, put_new hI c1, put_new hI c2, ⟨0, put_new hI hk₂⟩, put_same⟩
    · rintro m σ₃ ⟨hm, hE₃, l1, c1, c2, ⟨ep, hk₃⟩, hI₃⟩
      refine next_set hA'.h hI₃ (hE₃.hp _ _ hs) (by omega) (fun n t hn => ?_) (fun he => ?_)
      · have hlen : (ordOf C.w s eps xs).length = xs.length := ordOf_perm.length_eq
        have hlt : xs.length - m < xs.length := by
          rcases Nat.lt_or_ge (xs.length - m) xs.length with h | h
          · exact h
          · rw [List.getElem?_eq_none (by rw [hlen]; exact h)] at hn; cases hn
        have hnodup : (ordOf C.w s eps xs).Nodup := ordOf_perm.nodup_iff.mpr (hx.1.imp fun h e => by omega)
        have htake : (ordOf C.w s eps xs).take (xs.length - m + 1) = (ordOf C.w s eps xs).take (xs.length - m) ++ [n] := by rw [List.take_add_one, hn]; rfl
        have hnn : n ∉ (ordOf C.w s eps xs).take (xs.length - m) := fun q => by
          have h1 : ((ordOf C.w s eps xs).take (xs.length - m + 1)).Nodup := (List.take_sublist _ _).nodup hnodup
          rw [htake] at h1
          exact (List.nodup_append.mp h1).2.2 _ q _ (by simp) rfl
        walk_at "st"
        walk_at "st"
        walk_at "st"
        walk_at "st"
        walk_at "st"
        walk_at "st"
        refine n_cell rfl (bind_hp (put_ne hc1I c1)) ?_
        walk_at "ev"
        walk_at "st"
        refine store_idict (bind_hp (put_ne hkI hk₃)) (fits (by have := hx.len; simp [keysOf]; omega)) fun ep' => ?_
        walk_at "st"
        have hke : xs.length - (m - 1) = xs.length - m + 1 := by omega
        refine ⟨m - 1, by omega, by omega, ((hE₃.put hI0).bind).put fk, by walk_at "loc", put_ne hck (bind_hp (put_ne hc1I c1)), put_ne hck2 (bind_hp (put_ne hc2I c2)), ⟨ep', ?_⟩, ?_⟩
        · rw [hke, htake, ← aput_keysOf hnn]; exact put_same
        · rw [hke]; exact put_ne hkI.symm (bind_hp put_same)
      · walk_at "st"
        refine ⟨rfl, _, ep, hE₃.drop hI0, l1, drop_ne hc1I c1, drop_ne hc2I c2, drop_ne hkI hk₃, fun j => ?_, fk⟩
        rw [← he, List.take_of_length_le (by rw [ordOf_perm.length_eq]; exact Nat.le_refl _)]
        exact ordOf_perm.mem_iff
  rintro σ₃ ⟨ks, ep, hE₃, l1, c1, c2, hk₃, hks, fk⟩
  -- H
  refine s_then (fun σ' => ∃ H dH gdH ndH adH iaH, Ext σ σ' ∧ σ'.loc "G" = some (.ref g) ∧ σ'.loc "H" = some (.ref H) ∧ σ'.hp (L' + 1) = some (.cell (some (.ref k))) ∧ σ'.hp (L' + 2) = some (.cell none) ∧ σ'.hp k = some (.idict (keysOf ks) ep) ∧
      GraphAt σ' H dH gdH ndH adH iaH [] (fun _ => []) [] false ∧ Fresh σ H ∧ Fresh σ dH ∧ Fresh σ ndH ∧ Fresh σ adH ∧ k ≠ ndH ∧ k ≠ adH) ?_ ?_
  · walk_at "st"
    refine n_meth0 ?_
    walk_at "st"
    have G₃ := G.keep (.ext hE₃)
    refine g_meth G₃ (gkvs_none G₃.exs) (by k_is) (by k_is) (by k_is) ⟨by walk_at "keep", ?_⟩
    refine bare_spec (hA'.less (by omega)) fun σ₄ H dH gdH ndH adH iaH e1 e2 fH fd fn fa GH => ?_
    walk_at "ev"
    walk_at "st"
    refine ⟨rfl, H, dH, gdH, ndH, adH, iaH, (hE₃.trans e1).bind, ?_, loc_same, bind_hp (e1.hp _ _ c1), bind_hp (e1.hp _ _ c2), bind_hp (e1.hp _ _ hk₃), GH.keep (KeepG.bind KeepG.refl), hE₃.fresh fH, hE₃.fresh fd, hE₃.fresh fn, hE₃.fresh fa, fn _ _ hk₃, fa _ _ hk₃⟩
    refine loc_ne (by decide) ?_
    rw [e2]; exact l1
  rintro σ₄ ⟨H, dH, gdH, ndH, adH, iaH, hE₄, l1, lH, c1, c2, hk₄, GH, fH, fdH, fnH, faH, hkn, hka⟩
  have c1₄ := c1
  -- its nodes
  have hkin : ∀ n, (aget (keysOf ks) n).isSome = decide (n ∈ xs) := fun n => by rw [aget_keysOf]; exact decide_eq_decide.mpr (hks n)
  refine s_then (fun σ' => ∃ iaH, Ext σ σ' ∧ σ'.loc "G" = some (.ref g) ∧ σ'.loc "H" = some (.ref H) ∧ σ'.hp (L' + 1) = some (.cell (some (.ref k))) ∧ σ'.hp (L' + 2) = some (.cell none) ∧ σ'.hp k = some (.idict (keysOf ks) ep) ∧
      GraphAt σ' H dH gdH ndH adH iaH (ns.filter (fun n => decide (n ∈ xs))) (fun _ => []) [] false ∧ ∀ n ∈ ns.filter (fun n => decide (n ∈ xs)), Fresh σ (iaH n) ∧ iaH n ≠ k ∧ iaH n ≠ L' + 1 ∧ iaH n ≠ L' + 2) ?_ ?_
  · walk_at "st"
    refine n_meth1 ?_
    walk_at "st"
    refine g_meth GH (gkvs_none GH.exs) (by k_is) (by k_is) (by k_is) ⟨by walk_at "keep", ?_⟩
    refine n_listcomp rfl ?_
    walk_at "st"
    have G₄ := G.keep (.ext hE₄)
    obtain ⟨kvn, epn, hkn₀, hkeys, _⟩ := G.node
    have hkn₄ := hE₄.hp _ _ hkn₀
    have hlenn : kvn.length = ns.length := by rw [← hkeys]; simp
    refine iter_graph (hA'.less (by omega)) G₄.gi hkn₄ fun I hI => ?_
    walk_at "ev"
    refine new_list (Nat.zero_le _) fun l hl => ?_
    walk_at "ev"
    have hI0 : Fresh σ I := hE₄.fresh hI
    have hl0 : Fresh σ l := hE₄.fresh (hl.put hI)
    have hIl : I ≠ l := hl _ _ put_same
    have hkI : k ≠ I := hI _ _ hk₄
    have hkl : k ≠ l := (hl.put hI) _ _ hk₄
    refine comp_goN (self_idict (d := nd) (i := 0) (n := kvn.length) (ep := epn) (put_new hl put_same)) fun L₂ σ₅ hf₂ hE₅ => ?_
    refine ⟨fun m σ' => m ≤ ns.length ∧ Ext σ₄ σ' ∧ Ext σ σ' ∧ σ'.hp (L' + 1) = some (.cell (some (.ref k))) ∧ σ'.hp k = some (.idict (keysOf ks) ep) ∧ σ'.hp I = some (KIter nd (ns.length - m) kvn.length epn) ∧ σ'.hp l = some (.list (avs ((ns.take (ns.length - m)).filter fun n => decide (n ∈ xs)))), ns.length, ⟨Nat.le_refl _, ?_⟩, ?_⟩
    · rw [Nat.sub_self]
      exact ⟨(((Ext.refl.put hI).put (ao := .list []) (hl.put hI)).trans hE₅), ((hE₄.put hI0).put hl0).trans hE₅, hE₅.hp _ _ (put_new hl (put_new hI c1)), hE₅.hp _ _ (put_ne hkl (put_ne hkI hk₄)), hE₅.hp _ _ (put_ne hIl put_same), hE₅.hp _ _ put_same⟩
    · rintro m σ₆ ⟨hm, e4, e0, c1, hk₆, hI₆, hl₆⟩
      refine turn_list1 ?_
      refine next_idict hA'.h hI₆ (e0.hp _ _ hkn₀) (fun n av hn t => ?_) (fun hge => ?_)
      · have hnn : ns[ns.length - m]? = some n := by rw [← hkeys] at *; rw [List.getElem?_map, hn]; rfl
        have hlt : ns.length - m < ns.length := by
          rcases Nat.lt_or_ge (ns.length - m) ns.length with h | h
          · exact h
          · rw [List.getElem?_eq_none h] at hnn; cases hnn
        have htake : ns.take (ns.length - m + 1) = ns.take (ns.length - m) ++ [n] := by rw [List.take_add_one, hnn]; rfl
        have hke : ns.length - (m - 1) = ns.length - m + 1 := by omega
        walk_at "st"
        walk_at "st"
        walk_at "st"
        refine tests_one ?_
        walk_at "st"
        walk_at "st"
        have hc1I : L' + 1 ≠ I := hI _ _ c1₄
        have hc1l : L' + 1 ≠ l := (hl.put hI) _ _ c1₄
        refine n_cell rfl (bind_hp (put_ne hc1I c1)) ?_
        walk_at "ev"
        refine in_idict (bind_hp (put_ne hkI hk₆)) ?_
        rw [hkin n]
        refine ⟨fun hin => ?_, fun hout => ?_⟩
        · walk_at "st"
          have hlen : (avs ((ns.take (ns.length - m)).filter fun n => decide (n ∈ xs))).length ≤ sizeLine := by
            have h1 := List.length_filter_le (fun n => decide (n ∈ xs)) (ns.take (ns.length - m))
            rw [List.length_take] at h1
            exact fits (by rw [List.length_map]; omega)
          refine append_list (bind_hp (put_ne hIl.symm hl₆)) hlen ?_
          refine ⟨m - 1, by omega, by omega, ((e4.put hI).bind).put (hl.put hI), ((e0.put hI0).bind).put hl0, put_ne hc1l (bind_hp (put_ne hc1I c1)), put_ne hkl (bind_hp (put_ne hkI hk₆)), ?_, ?_⟩
          · rw [hke]; exact put_ne hIl (bind_hp put_same)
          · rw [hke, htake, List.filter_append, put_same]
            simp [er, of_decide_eq_true hin]
        · refine ⟨m - 1, by omega, by omega, (e4.put hI).bind, (e0.put hI0).bind, bind_hp (put_ne hc1I c1), bind_hp (put_ne hkI hk₆), ?_, ?_⟩
          · rw [hke]; exact bind_hp put_same
          · rw [hke, htake, List.filter_append]
            have : n ∉ xs := of_decide_eq_false hout
            refine (bind_hp (put_ne hIl.symm hl₆)).trans ?_
            simp [this]
      · have hall : ns.take (ns.length - m) = ns := List.take_of_length_le (by omega)
        rw [hall] at hl₆
        show ∀ v, er v = AV.ref l → _
        walk_at "ev"
        have hE₆ : Ext σ₄ ((σ₆.drop I).at ((σ₄.put I (KIter nd 0 kvn.length epn)).put l (.list [])).loc) := (e4.drop hI).loc
        have hE₀ : Ext σ ((σ₆.drop I).at ((σ₄.put I (KIter nd 0 kvn.length epn)).put l (.list [])).loc) := (e0.drop hI0).loc
        have GH₆ := GH.keep (.ext hE₆)
        have hlast : (ns.filter fun n => decide (n ∈ xs)).length ≤ 7 := Nat.le_trans (List.length_filter_le _ _) h7
        refine add_nodes_spec (hA'.less (by omega)) GH₆ (l := l) (loc_hp (drop_ne hIl.symm hl₆)) (G.nodup.filter _) hlast fun σ₇ iaH' k₇ g₇ loc₇ GH₇ frH => ?_
        walk_at "ev"
        refine drop_none ?_
        have hlocl : σ₇.loc = σ₄.loc := loc₇
        have hnot : ∀ {b ao}, σ.hp b = some ao → b ≠ ndH ∧ b ≠ adH := fun {b ao} e => ⟨fnH _ _ e, faH _ _ e⟩
        have hc1H : L' + 1 ≠ ndH ∧ L' + 1 ≠ adH := by
          obtain ⟨_, _, q1, _⟩ := GH.node
          obtain ⟨_, q2⟩ := GH.adj
          exact ⟨fun e => (by rw [← e, c1₄] at q1; cases q1), fun e => (by rw [← e, c1₄] at q2; cases q2)⟩
        have hc2H : L' + 2 ≠ ndH ∧ L' + 2 ≠ adH := by
          obtain ⟨_, _, q1, _⟩ := GH.node
          obtain ⟨_, q2⟩ := GH.adj
          exact ⟨fun e => (by rw [← e, c2] at q1; cases q1), fun e => (by rw [← e, c2] at q2; cases q2)⟩
        refine ⟨rfl, iaH', ⟨fun b ao e => k₇ b ao (hnot e).1 (hnot e).2 (hE₀.hp _ _ e), g₇.trans hE₀.gs⟩, by rw [hlocl]; exact l1, by rw [hlocl]; exact lH, k₇ _ _ hc1H.1 hc1H.2 (hE₆.hp _ _ c1₄), k₇ _ _ hc2H.1 hc2H.2 (hE₆.hp _ _ c2), k₇ _ _ hkn hka (hE₆.hp _ _ hk₄), GH₇, fun n hn => ⟨fun b ao e => frH n hn b ao (hE₀.hp _ _ e), (frH n hn _ _ (hE₆.hp _ _ hk₄)).symm, (frH n hn _ _ (hE₆.hp _ _ c1₄)).symm, (frH n hn _ _ (hE₆.hp _ _ c2)).symm⟩⟩
  rintro σ₅ ⟨iaH, hE₅, l1, lH, c1, c2, hk₅, GH₅, frH⟩
  have hns' : ∀ n, n ∈ ns.filter (fun n => decide (n ∈ xs)) ↔ n ∈ ns ∧ n ∈ xs := fun n => by simp
  have hlast : (ns.filter fun n => decide (n ∈ xs)).length ≤ 7 := Nat.le_trans (List.length_filter_le _ _) h7
  generalize hgen : ns.filter (fun n => decide (n ∈ xs)) = ns' at *
  obtain ⟨kvH, epH, hkH, hkeyH, _⟩ := GH₅.node
  have hlenH : kvH.length = ns'.length := by rw [← hkeyH]; simp
  have hkndH : k ≠ ndH := hkn
  refine s_then (fun σ' => ∃ nb', Ext σ σ' ∧ σ'.loc "H" = some (.ref H) ∧ GraphAt σ' H dH gdH ndH adH iaH ns' nb' [] false ∧ WF ns' nb' ∧ (∀ a b, b ∈ nb' a ↔ ∃ u ∈ ns', (a = u ∧ b ∈ nb u ∧ b ∈ xs) ∨ (b = u ∧ a ∈ nb u ∧ a ∈ xs))) ?_ ?_
  · refine s_for ?_
    walk_at "st"
    refine iter_graph (hA'.less (by omega)) GH₅.gi hkH fun I hI => ?_
    walk_at "ev"
    have hI0 : Fresh σ I := hE₅.fresh hI
    have hkI : k ≠ I := hI _ _ hk₅
    have hc1I : L' + 1 ≠ I := hI _ _ c1
    have hc2I : L' + 2 ≠ I := hI _ _ c2
    have hHI : ndH ≠ I := hI _ _ hkH
    have hiaI : ∀ n ∈ ns', I ≠ iaH n := fun n hn => by
      obtain ⟨_, _, q, _⟩ := GH₅.inner n hn
      exact (hI _ _ q).symm
    have hc12 : L' + 1 ≠ L' + 2 := Nat.ne_of_lt (Nat.lt_succ_self _)
    have hkc2 : k ≠ L' + 2 := fun e => by rw [e, c2] at hk₅; cases hk₅
    have hHc2 : ndH ≠ L' + 2 := fun e => by rw [e, c2] at hkH; cases hkH
    refine ⟨fun m σ' => ∃ nb' v, m ≤ ns'.length ∧ Ext σ σ' ∧ σ'.loc "G" = some (.ref g) ∧ σ'.loc "H" = some (.ref H) ∧ σ'.hp (L' + 1) = some (.cell (some (.ref k))) ∧ σ'.hp (L' + 2) = some (.cell v) ∧ σ'.hp k = some (.idict (keysOf ks) ep) ∧
      σ'.hp ndH = some (.idict kvH epH) ∧ GraphAt σ' H dH gdH ndH adH iaH ns' nb' [] false ∧ WF ns' nb' ∧ (∀ a b, b ∈ nb' a ↔ ∃ u ∈ ns'.take (ns'.length - m), (a = u ∧ b ∈ nb u ∧ b ∈ xs) ∨ (b = u ∧ a ∈ nb u ∧ a ∈ xs)) ∧
      σ'.hp I = some (KIter ndH (ns'.length - m) kvH.length epH), ns'.length, ⟨fun _ => [], none, Nat.le_refl _, ?_⟩, ?_⟩
    · rw [Nat.sub_self]
      exact ⟨hE₅.put hI0, l1, lH, put_new hI c1, put_new hI c2, put_new hI hk₅, put_new hI hkH, GH₅.keep (KeepG.refl.new hI), fun n _ => ⟨.nil, by simp⟩, fun a b => by simp, put_same⟩
    · rintro m σ₆ ⟨nb', cv, hm, e0, l1, lH, c1, c2, hk₆, hH₆, GH₆, hwf₆, hnb₆, hI₆⟩
      refine next_idict hA'.h hI₆ hH₆ (fun u av hn t => ?_) (fun hge => ?_)
      · have hnn : ns'[ns'.length - m]? = some u := by rw [← hkeyH] at *; rw [List.getElem?_map, hn]; rfl
        have hlt : ns'.length - m < ns'.length := by
          rcases Nat.lt_or_ge (ns'.length - m) ns'.length with h | h
          · exact h
          · rw [List.getElem?_eq_none h] at hnn; cases hnn
        have htake : ns'.take (ns'.length - m + 1) = ns'.take (ns'.length - m) ++ [u] := by rw [List.take_add_one, hnn]; rfl
        have hke : ns'.length - (m - 1) = ns'.length - m + 1 := by omega
        have hu' : u ∈ ns' := List.mem_of_getElem? hnn
        obtain ⟨hu, hux⟩ := (hns' u).mp hu'
        walk_at "st"
        walk_at "st"
        refine store_cell' (by walk_at "er") rfl (put_ne hc2I c2) ?_
        walk_at "st"
        walk_at "st"
        refine n_meth1 ?_
        walk_at "st"
        have GH₇ : GraphAt ((σ₆.put I (KIter ndH (ns'.length - m + 1) kvH.length epH)).put (L' + 2) (.cell (some (.int u)))) H dH gdH ndH adH iaH ns' nb' [] false := GH₆.keep ((KeepG.refl.put hI₆ rfl).put (put_ne hc2I c2) rfl)
        have c1₇ : ((σ₆.put I (KIter ndH (ns'.length - m + 1) kvH.length epH)).put (L' + 2) (.cell (some (.int u)))).hp (L' + 1) = some (.cell (some (.ref k))) := put_ne hc12 (put_ne hc1I c1)
        have hk₇ : ((σ₆.put I (KIter ndH (ns'.length - m + 1) kvH.length epH)).put (L' + 2) (.cell (some (.int u)))).hp k = some (.idict (keysOf ks) ep) := put_ne hkc2 (put_ne hkI hk₆)
        have hH₇ : ((σ₆.put I (KIter ndH (ns'.length - m + 1) kvH.length epH)).put (L' + 2) (.cell (some (.int u)))).hp ndH = some (.idict kvH epH) := put_ne hHc2 (put_ne hHI hH₆)
        have hI₇ : ((σ₆.put I (KIter ndH (ns'.length - m + 1) kvH.length epH)).put (L' + 2) (.cell (some (.int u)))).hp I = some (KIter ndH (ns'.length - m + 1) kvH.length epH) := put_ne hc2I.symm put_same
        have e7 : Ext σ ((σ₆.put I (KIter ndH (ns'.length - m + 1) kvH.length epH)).put (L' + 2) (.cell (some (.int u)))) := (e0.put hI0).put f2
        have lH₇ : ((σ₆.put I (KIter ndH (ns'.length - m + 1) kvH.length epH)).put (L' + 2) (.cell (some (.int u)))).loc "H" = some (.ref H) := by walk_at "loc"
        have l1₇ : ((σ₆.put I (KIter ndH (ns'.length - m + 1) kvH.length epH)).put (L' + 2) (.cell (some (.int u)))).loc "G" = some (.ref g) := by walk_at "loc"
        have c2₇ : ((σ₆.put I (KIter ndH (ns'.length - m + 1) kvH.length epH)).put (L' + 2) (.cell (some (.int u)))).hp (L' + 2) = some (.cell (some (.int u))) := put_same
        generalize (σ₆.put I (KIter ndH (ns'.length - m + 1) kvH.length epH)).put (L' + 2) (.cell (some (.int u))) = σ₇ at *
        refine g_meth GH₇ (gkvs_none GH₇.exs) (by k_is) (by k_is) (by k_is) ⟨by walk_at "keep", ?_⟩
        have G₇ := G.keep (.ext e7)
        obtain ⟨epa, hadj₀⟩ := G.adj
        obtain ⟨kvu, epu, hku₀, hkeyu, _⟩ := G.inner u hu
        have hlenu : kvu.length = (nb u).length := by rw [← hkeyu]; simp
        have hnbl : (nb u).length ≤ 7 := Nat.le_trans (nodup_sub (hwf u hu).1 (hwf u hu).2) h7
        refine n_listcomp rfl ?_
        walk_at "st"
        refine n_attr' ?_
        walk_at "st"
        refine get_adj G₇ ?_
        walk_at "ev"
        refine n_cell rfl c2₇ ?_
        walk_at "ev"
        refine sub_idict (e7.hp _ _ hadj₀) (v := .ref (ia u)) (aget_adj ia hu) ?_
        walk_at "ev"
        refine iter_idict (e7.hp _ _ hku₀) fun J hJ => ?_
        walk_at "ev"
        refine new_list (Nat.zero_le _) fun l hl => ?_
        walk_at "ev"
        have hJ0 : Fresh σ J := e7.fresh hJ
        have hl7 : Fresh σ₇ l := hl.put hJ
        have hl0 : Fresh σ l := e7.fresh hl7
        have hJl : J ≠ l := hl _ _ put_same
        refine comp_goN (self_idict (d := ia u) (i := 0) (n := kvu.length) (ep := epu) (put_new hl put_same)) fun L₂ σ₈ hf₂ hE₈ => ?_
        refine ⟨fun q σ' => ∃ E : List (Addr × Int × Int), q ≤ (nb u).length ∧ Ext σ₇ σ' ∧ σ'.hp J = some (KIter (ia u) ((nb u).length - q) kvu.length epu) ∧ σ'.hp l = some (.list (E.map fun p => .ref p.1)) ∧ E.length ≤ (nb u).length - q ∧
          (∀ p ∈ E, σ'.hp p.1 = some (.tup [.int p.2.1, .int p.2.2]) ∧ p.2.1 = u ∧ p.2.2 ∈ nb u ∧ p.2.2 ∈ xs) ∧ (∀ v ∈ (nb u).take ((nb u).length - q), v ∈ xs → ∃ p ∈ E, p.2.2 = v), (nb u).length, ⟨[], Nat.le_refl _, ?_⟩, ?_⟩
        · rw [Nat.sub_self]
          exact ⟨((Ext.refl.put hJ).put (ao := .list []) hl7).trans hE₈, hE₈.hp _ _ (put_ne hJl put_same), hE₈.hp _ _ put_same, Nat.zero_le _, by simp, by simp⟩
        · rintro q σ₉ ⟨E, hq, e9, hJ₉, hl₉, hEl, hEp, hEv⟩
          refine turn_list1 ?_
          refine next_idict hA'.h hJ₉ (e9.hp _ _ (e7.hp _ _ hku₀)) (fun v av hv t => ?_) (fun hge => ?_)
          · have hvn : (nb u)[(nb u).length - q]? = some v := by rw [← hkeyu] at *; rw [List.getElem?_map, hv]; rfl
            have hvlt : (nb u).length - q < (nb u).length := by
              rcases Nat.lt_or_ge ((nb u).length - q) (nb u).length with h | h
              · exact h
              · rw [List.getElem?_eq_none h] at hvn; cases hvn
            have hvmem : v ∈ nb u := List.mem_of_getElem? hvn
            have htake2 : (nb u).take ((nb u).length - q + 1) = (nb u).take ((nb u).length - q) ++ [v] := by rw [List.take_add_one, hvn]; rfl
            have hkq : (nb u).length - (q - 1) = (nb u).length - q + 1 := by omega
            have hc1J : L' + 1 ≠ J := hJ _ _ c1₇
            have hc2J : L' + 2 ≠ J := hJ _ _ c2₇
            have hkJ : k ≠ J := hJ _ _ hk₇
            walk_at "st"
            walk_at "st"
            walk_at "st"
            refine tests_one ?_
            walk_at "st"
            walk_at "st"
            refine n_cell rfl (bind_hp (put_ne hc1J (e9.hp _ _ c1₇))) ?_
            walk_at "ev"
            refine in_idict (bind_hp (put_ne hkJ (e9.hp _ _ hk₇))) ?_
            rw [hkin v]
            have hpJ : ∀ p ∈ E, p.1 ≠ J := fun p hp e => by
              have := (hEp p hp).1
              rw [e, hJ₉] at this; cases this
            have hpl : ∀ p ∈ E, p.1 ≠ l := fun p hp e => by
              have := (hEp p hp).1
              rw [e, hl₉] at this; cases this
            refine ⟨fun hin => ?_, fun hout => ?_⟩
            · refine n_tuple (a_cons ?_)
              refine n_cell rfl (bind_hp (put_ne hc2J (e9.hp _ _ c2₇))) ?_
              walk_at "ev"
              refine a_cons ?_
              walk_at "st"
              refine a_nil ?_
              refine new_tuple (fits (by simp)) fun tp htp => ?_
              walk_at "ev"
              have htp9 : Fresh σ₉ tp := fun b ao e => by
                by_cases hb : b = J
                · rw [hb]; exact htp _ _ (bind_hp put_same)
                · exact htp _ _ (bind_hp (put_ne hb e))
              have htl : l ≠ tp := htp9 _ _ hl₉
              refine append_list (put_ne htl (bind_hp (put_ne hJl.symm hl₉))) (fits (by rw [List.length_map]; omega)) ?_
              refine ⟨q - 1, by omega, E ++ [(tp, u, v)], by omega, ?_, ?_, ?_, ?_, ?_, ?_⟩
              · refine (((e9.put hJ).bind).put (fun b ao e => htp9 _ _ (e9.hp _ _ e))).put hl7
              · rw [hkq]; exact put_ne hJl (put_ne (htp _ _ (bind_hp put_same)) (bind_hp put_same))
              · rw [List.map_append, put_same]; rfl
              · rw [List.length_append]; simp; omega
              · intro p hp
                rcases List.mem_append.mp hp with hp | hp
                · obtain ⟨q1, q2⟩ := hEp p hp
                  exact ⟨put_ne (hpl p hp) (put_ne (htp9 _ _ q1) (bind_hp (put_ne (hpJ p hp) q1))), q2⟩
                · have : p = (tp, u, v) := by simpa using hp
                  subst this
                  exact ⟨put_ne htl.symm put_same, rfl, hvmem, of_decide_eq_true hin⟩
              · intro v' hv' hx'
                rw [hkq, htake2] at hv'
                rcases List.mem_append.mp hv' with hv' | hv'
                · obtain ⟨p, hp, e⟩ := hEv v' hv' hx'
                  exact ⟨p, List.mem_append_left _ hp, e⟩
                · have : v' = v := by simpa using hv'
                  exact ⟨(tp, u, v), by simp, this.symm⟩
            · refine ⟨q - 1, by omega, E, by omega, (e9.put hJ).bind, ?_, bind_hp (put_ne hJl.symm hl₉), by omega, fun p hp => ⟨bind_hp (put_ne (hpJ p hp) (hEp p hp).1), (hEp p hp).2⟩, fun v' hv' hx' => ?_⟩
              · rw [hkq]; exact bind_hp put_same
              · rw [hkq, htake2] at hv'
                rcases List.mem_append.mp hv' with hv' | hv'
                · exact hEv v' hv' hx'
                · have : v' = v := by simpa using hv'
                  rw [this] at hx'
                  exact absurd hx' (of_decide_eq_false hout)
          · show ∀ v, er v = AV.ref l → _
            walk_at "ev"
            have hallv : ∀ v ∈ nb u, v ∈ xs → ∃ p ∈ E, p.2.2 = v := fun v hv => hEv v (by rw [List.take_of_length_le (by omega)]; exact hv)
            have e10 : Ext σ₇ ((σ₉.drop J).at ((σ₇.put J (KIter (ia u) 0 kvu.length epu)).put l (.list [])).loc) := (e9.drop hJ).loc
            have GH₁₀ := GH₇.keep (.ext e10)
            have hpJ : ∀ p ∈ E, p.1 ≠ J := fun p hp e => by
              have := (hEp p hp).1
              rw [e, hJ₉] at this; cases this
            refine add_edges_spec (hA'.less (by omega)) GH₁₀ hwf₆ hlast (l := l) (E := E) (loc_hp (drop_ne hJl.symm hl₉)) (fun p hp => ?_) fun σ₁₁ nb₂ k₁₁ g₁₁ loc₁₁ GH₁₁ hwf₁₁ hnb₁₁ => ?_
            · obtain ⟨q1, q2, q3, q4⟩ := hEp p hp
              exact ⟨loc_hp (drop_ne (hpJ p hp) q1), q2 ▸ hu', (hns' _).mpr ⟨(hwf u hu).2 _ q3, q4⟩, fun e => hself u hu (by rw [← q2, e] ; exact (by rw [e] at q2; rw [q2]; rw [q2] at q3; exact q3))⟩
            · walk_at "ev"
              refine drop_none ?_
              walk_at "st"
              have hloc : σ₁₁.loc = σ₇.loc := loc₁₁
              have off : ∀ {b ao}, σ₇.hp b = some ao → (∀ n ∈ ns', b ≠ iaH n) → σ₁₁.hp b = some ao := fun {b ao} e hb => k₁₁ b ao hb (e10.hp _ _ e)
              refine ⟨m - 1, by omega, nb₂, some (.int u), by omega, ⟨fun b ao e => off (e7.hp _ _ e) fun n hn => (frH n hn).1 _ _ e, g₁₁.trans (e10.gs.trans e7.gs)⟩, by rw [hloc]; exact l1₇, by rw [hloc]; exact lH₇, off c1₇ fun n hn => (frH n hn).2.2.1.symm, off c2₇ fun n hn => (frH n hn).2.2.2.symm, off hk₇ fun n hn => (frH n hn).2.1.symm,
                off hH₇ fun n hn => (GH₇.sep.2 n hn).1.symm, GH₁₁, hwf₁₁, fun a b => ?_, by rw [hke]; exact off hI₇ hiaI⟩
              rw [hnb₁₁, hnb₆, hke, htake]
              constructor
              · rintro (⟨w, hw, h⟩ | ⟨p, hp, h⟩)
                · exact ⟨w, List.mem_append_left _ hw, h⟩
                · obtain ⟨q1, q2, q3, q4⟩ := hEp p hp
                  refine ⟨u, by simp, ?_⟩
                  rcases h with ⟨h1, h2⟩ | ⟨h1, h2⟩
                  · exact .inl ⟨h1.trans q2, h2 ▸ q3, h2 ▸ q4⟩
                  · exact .inr ⟨h2.trans q2, h1 ▸ q3, h1 ▸ q4⟩
              · rintro ⟨w, hw, h⟩
                rcases List.mem_append.mp hw with hw | hw
                · exact .inl ⟨w, hw, h⟩
                · have hwu : w = u := by simpa using hw
                  subst hwu
                  refine .inr ?_
                  rcases h with ⟨h1, h2, h3⟩ | ⟨h1, h2, h3⟩
                  · obtain ⟨p, hp, e⟩ := hallv b h2 h3
                    exact ⟨p, hp, .inl ⟨h1.trans (hEp p hp).2.1.symm, e.symm⟩⟩
                  · obtain ⟨p, hp, e⟩ := hallv a h2 h3
                    exact ⟨p, hp, .inr ⟨e.symm, h1.trans (hEp p hp).2.1.symm⟩⟩
      · walk_at "st"
        have hall : ns'.take (ns'.length - m) = ns' := List.take_of_length_le (by omega)
        rw [hall] at hnb₆
        exact ⟨rfl, nb', e0.drop hI0, lH, GH₆.keep (KeepG.refl.drop hI₆ rfl), hwf₆, hnb₆⟩
  · rintro σ₆ ⟨nb', e0, lH, GH₆, hwf₆, hnb₆⟩
    walk_at "st"
    walk_at "st"
    walk_at "st"
    refine h _ H dH gdH ndH adH iaH nb' e0.loc rfl (GH₆.keep KeepG.refl) hwf₆ (fun n m => ?_) ⟨fH, fdH, fnH, faH, fun n hn => (frH n hn).1⟩
    rw [hnb₆]
    constructor
    · rintro ⟨u, hu, ⟨h1, h2, h3⟩ | ⟨h1, h2, h3⟩⟩
      · subst h1
        exact .inl ⟨((hns' _).mp hu).1, ((hns' _).mp hu).2, h3, h2⟩
      · subst h1
        exact .inr ⟨((hns' _).mp hu).1, ((hns' _).mp hu).2, h3, h2⟩
    · rintro (⟨h1, h2, h3, h4⟩ | ⟨h1, h2, h3, h4⟩)
      · exact ⟨n, (hns' _).mpr ⟨h1, h2⟩, .inl ⟨rfl, h4, h3⟩⟩
      · exact ⟨m, (hns' _).mpr ⟨h1, h2⟩, .inr ⟨rfl, h4, h3⟩⟩
end
-- AzN
section
/-! ## the same over the ledger -/
def RunN (x : X) {α : Type} (t : Sem α) (Q : α → AS → Prop) (σ : AS) : Prop :=
  ∀ s, Rel x.C x.fs x.L σ s → wpN (model Pg x.C.w) x.A t (fun v s' => ∃ σ', Rel x.C x.fs x.L σ' s' ∧ Q v σ') (fun _ _ => False) s
def RunNV (x : X) (t : Sem Value) (Q : AV → AS → Prop) (σ : AS) : Prop := RunN x t (fun v σ' => Q (er v) σ') σ
def RunNC (x : X) (c : Code) (R : Result → AS → Prop) (σ : AS) : Prop :=
  ∀ s, Rel x.C x.fs x.L σ s → codeN (model Pg x.C.w) x.A c (fun r s' => ∃ σ', Rel x.C x.fs x.L σ' s' ∧ R r σ') s
section
variable {x : X} {α β : Type} {σ : AS} {env : Env}
theorem rN_of {t : Sem α} {Q : α → AS → Prop} (h : Run x t Q σ) : RunN x t Q σ := fun s R => wpN_of (h s R)
theorem rNC_of {c : Code} {Q : Result → AS → Prop} (h : RunC x c Q σ) : RunNC x c Q σ := fun s R => codeN_of (h s R)
theorem rN_pure {a : α} {Q : α → AS → Prop} (h : Q a σ) : RunN x (pure a) Q σ := rN_of (run_pure h)
theorem rN_mono {t : Sem α} {Q Q' : α → AS → Prop} (h : RunN x t Q σ) (hQ : ∀ a σ', Q a σ' → Q' a σ') : RunN x t Q' σ :=
  fun s R => wpN_mono (h s R) (fun _ _ ⟨σ', R', q⟩ => ⟨σ', R', hQ _ _ q⟩) fun _ _ e => e
theorem rN_bind {t : Sem α} {f : α → Sem β} {Q : β → AS → Prop} (h : RunN x t (fun a σ' => RunN x (f a) Q σ') σ) : RunN x (t >>= f) Q σ :=
  fun s R => wpN_bind (wpN_mono (h s R) (fun _ _ ⟨_, R', q⟩ => q _ R') fun _ _ e => e)
theorem rN_hold {vs : List Value} {t : Sem α} {Q : α → AS → Prop} (h : RunN x t Q σ) : RunN x (holding vs t) Q σ := fun s R => wpN_holding (h s R)
theorem rN_tryCatch {t : Sem α} {k : Value → Sem α} {Q : α → AS → Prop} (h : RunN x t Q σ) : RunN x (tryCatch t k) Q σ :=
  fun s R => wpN_tryCatch (wpN_mono (h s R) (fun _ _ q => q) fun _ _ e => e.elim)
theorem rN_attempt {t : Sem α} {Q : Except Value α → AS → Prop} (h : RunN x t (fun a σ' => Q (.ok a) σ') σ) : RunN x t.attempt Q σ :=
  fun s R => wpN_attempt (wpN_mono (h s R) (fun _ _ q => q) fun _ _ e => e.elim)
theorem rN_standAt {p : Pos} {Q : Unit → AS → Prop} (h : Q () σ) : RunN x (standAt p) Q σ := rN_of (run_standAt h)
theorem rNV_bind {t : Sem Value} {f : Value → Sem β} {Q : β → AS → Prop} (h : RunNV x t (fun a σ' => ∀ v, er v = a → RunN x (f v) Q σ') σ) : RunN x (t >>= f) Q σ :=
  rN_bind (rN_mono h fun v _ q => q v rfl)
theorem rNV_mono {t : Sem Value} {Q Q' : AV → AS → Prop} (h : RunNV x t Q σ) (hQ : ∀ a σ', Q a σ' → Q' a σ') : RunNV x t Q' σ := rN_mono h fun _ _ q => hQ _ _ q
theorem rNV_ofC {f : Value} {vals : List Value} {kw : List (Str × Value)} {Q : AV → AS → Prop} (h : RunNC x (.call f ⟨vals, kw⟩) (fun r σ' => ∃ v, r = .ok (.ret v) ∧ Q (er v) σ') σ) : RunNV x (call f vals kw) Q σ := fun s R =>
  wpN_call (codeN_mono (h s R) fun r s' ⟨σ', R', v, e, q⟩ => by subst e; exact ⟨σ', R', q⟩)

theorem sN_cons {st : Stmt} {rest : List Stmt} {Q : Flow → AS → Prop} (h : RunN x (exec st env) (fun f σ' => match f with | .next => RunN x (execs rest env) Q σ' | f => Q f σ') σ) : RunN x (execs (st :: rest) env) Q σ := by
  rw [execs_cons]
  refine rN_bind (rN_mono h fun f σ' h' => ?_)
  cases f <;> first | exact h' | exact rN_pure h'
/-- a plain step ahead of the step that needs the clean stack -/
theorem sN_skip {st : Stmt} {rest : List Stmt} {Q : Flow → AS → Prop} (h : Run x (exec st env) (fun f σ' => match f with | .next => RunN x (execs rest env) Q σ' | f => Q f σ') σ) : RunN x (execs (st :: rest) env) Q σ :=
  sN_cons (rN_of h)
theorem sN_assign {n : Str} {p pos : Pos} {e : Expr} {Q : Flow → AS → Prop} (h : RunNV x (eval e env) (fun a σ' => ∀ v, er v = a → Run x (storeName env n v) (fun _ σ'' => Q .next σ'') σ') σ)
    (hs : swapsWith e (some (.Name n p)) pos.line env = pure false := by rfl) : RunN x (exec (.Assign [.Name n p] e pos) env) Q σ := by
  rw [exec_Assign_Name _ _ _ _ _ hs]
  exact rN_bind (rN_standAt (rNV_bind (rNV_mono h fun _ _ h' v hv => rN_of (run_bind (run_standAt (run_bind (run_bindName (run_mono (h' v hv) fun _ _ h'' => run_pure h''))))))))
theorem nN_attr {e : Expr} {attr : Str} {pos : Pos} {Q : AV → AS → Prop} (h : RunV x (eval e env) (fun a σ₁ => ∀ v, er v = a → RunNV x (getAttr v attr true) Q σ₁) σ) (hb : attributeBase e attr env (eval e env) = eval e env := by rfl)
    (hn : ∀ o r, letTemporaryGo e o r = pure () := by intro _ _; rfl) : RunNV x (eval (.Attribute e attr pos) env) Q σ := by
  show RunN x (do let o ← attributeBase e attr env (eval e env); standAt pos.atName; let r ← holding [o] (getAttr o attr true); letTemporaryGo e o r; pure r) _ σ
  rw [hb]
  refine rN_bind (rN_mono (rN_of (runV_mono h fun a σ₁ h₁ v hv => h₁ v hv)) fun v σ₁ h₁ => rN_bind (rN_standAt (rN_bind (rN_hold (rN_mono (h₁ v rfl) fun r σ₂ h₂ => ?_)))))
  rw [hn]
  exact rN_bind (rN_pure (rN_pure h₂))
end
end
-- AzN2
section
open PySem PySem.W PyProof.Rows PySem.Calls PySem.Spec Builtin Builtin.ObjectAttr Builtin.Getset_descriptor
theorem entry_fdict : entryFor table "function.__dict__" = some Builtin.«function.__dict__» := entryFor_of_tree (by kernel_rfl)
section
variable {M : Model} {A : Around} {E : Value → Shared → Prop} {s : Shared}
theorem wpN_stack {Q : List (Code × Pos) → Shared → Prop} (h : ∀ st : List (Code × Pos), (∀ q ∈ st, NoFinC q.1) → Q st s) : wpN M A stack Q E s := fun Γ p _ hN => by
  show Q ((Γ.code, p) :: Γ.below) s
  exact h _ fun q hq => (List.mem_cons.mp hq).elim (fun e => e ▸ hN.1) (hN.2 _)
theorem wpN_here {α : Type} {t : Sem α} {r : α} {Q : α → Shared → Prop} (L : Looks M s.heap t r) (h : Q r s) : wpN M A t Q E s :=
  wpN_of (L A Q E s (fun _ _ e => e) h)
theorem wpN_ite {α : Type} {c : Prop} [Decidable c] {a b : Sem α} {Q : α → Shared → Prop} (h1 : wpN M A a Q E s) (h2 : wpN M A b Q E s) : wpN M A (if c then a else b) Q E s := by
  split
  · exact h1
  · exact h2
theorem wpN_load {α : Type} {a : Addr} {o : Obj} {f : Obj → Sem α} {Q : α → Shared → Prop} (ho : s.heap.get? a = some o) (h : wpN M A (f o) Q E s) : wpN M A (load a >>= f) Q E s :=
  wpN_at (Looks.ld (part := none) ho) h
end
section
variable {prog : Program} {w : World} {A : Around} {s : Shared} {R : Result → Shared → Prop} {K : Frag} {g d C : Addr} {es : Array DictEntry} {ep : Nat}
theorem wpN_handed {E : Value → Shared → Prop} {Q : Option Addr → Shared → Prop} {hc : ClassData} (X : K.In s.heap)
    (hg : s.heap.get? g = some { cls := .ref C, dict := some d, data := .plain }) (hd : s.heap.get? d = some { cls := .type "dict", data := .dict es ep, slots := #[] })
    (hcd : clsIn K C = some hc) (hh : hc.hasDict = true) (ht : nsIn K cStatics "_thread.count" = some none)
    (h : Q (some d) { s with heap := s.heap.update d fun o => if o.slots.isEmpty then { o with slots := #[none] } else o }) :
    wpN (model prog w) A (instanceDictHandedOut g) Q E s := by
  unfold instanceDictHandedOut
  have L1 : Looks (model prog w) s.heap (instanceDict g true) (some d) := by
    unfold instanceDict
    refine (Looks.ld (part := some headPart) hg).andThen ?_
    refine (looks_clsIn X hcd).andThen ?_
    rw [hh]
    exact Looks.now
  refine wpN_at L1 ?_
  refine wpN_at (Looks.ld (part := some headPart) hg) ?_
  refine wpN_bind (m := _) (wpN_mono (Q := fun a s' => a = none ∧ s' = s) (E := fun _ _ => False) (wpN_load hd ?_) (fun a s' ⟨e1, e2⟩ => ?_) fun _ _ e => e.elim)
  · refine wpN_ite (wpN_pure ⟨rfl, rfl⟩) ?_
    · refine wpN_bind (wpN_stack fun st hst => ?_)
      rw [List.findSome?_eq_none_iff.mpr (fun q hq => by
        have := hst q hq
        obtain ⟨c, p⟩ := q
        dsimp only at this ⊢
        split
        · exact absurd rfl (this _)
        · rfl)]
      refine wpN_at (looks_nsIn X ht) ?_
      exact wpN_pure ⟨rfl, rfl⟩
  · subst e1; subst e2
    refine wpN_bind (wpN_of (wpAny_update hd ?_))
    exact wpN_pure h

theorem codeN_builtin {id : String} {args : Args} {b : Builtin} (hb : entryFor table id = some b)
    (h : wpN (model prog w) (A.under (.builtin id args)) (b args)
      (fun fin s' => match fin with | .done f => R (.ok f) s' | .again c' => c'.quiet = true ∧ NoFinC c' ∧ codeN (model prog w) A c' R s') (fun e s' => R (.error e) s') s) :
    codeN (model prog w) A (.builtin id args) R s := by
  refine codeN_of_tree ?_
  show wpN _ _ (match entryFor table id with | some b => b args | none => unsupported ((withoutEnding? id "#data").getD id)) _ _ s
  rw [hb]; exact h
theorem codeN_call_builtin {id : String} {args : Args} {b : Builtin} (hq : plainId id = true) (hn : id ≠ "lifetime.gc.finalise") (hb : entryFor table id = some b)
    (h : wpAny (model prog w) A.in1 (checkBuiltinCall id args) (fun _ s₁ => wpN (model prog w) A.in1 (b args)
      (fun fin s' => match fin with | .done f => R (.ok f) s' | .again c' => c'.quiet = true ∧ NoFinC c' ∧ codeN (model prog w) A c' R s') (fun e s' => R (.error e) s') s₁)
      (fun _ _ => False) s) : codeN (model prog w) A (.call (.builtin id) args) R s := by
  refine codeN_of_tree ?_
  show wpN _ A.in1 (do checkBuiltinCall id args; again (.builtin id args)) _ _ s
  refine wpN_bind (wpN_mono (wpN_of h) (fun _ s₁ h₁ => wpN_pure ⟨plainId_quiet hq args, fun _ e => hn (by injection e), ?_⟩) fun _ _ h' => h'.elim)
  exact codeN_builtin hb (by rw [Around.under_plainId hq args]; exact h₁)
theorem dict_get {p : Addr} {tp : Value} {hc : ClassData} {tn : Tok} {setv : Value} (X : K.In s.heap)
    (hg : s.heap.get? g = some { cls := .ref C, dict := some d, data := .plain }) (hd : s.heap.get? d = some { cls := .type "dict", data := .dict es ep, slots := #[] })
    (hcd : clsIn K C = some hc) (hh : hc.hasDict = true) (ht : nsIn K cStatics "_thread.count" = some none)
    (hp : recIn K p "getset_descriptor" = some [.str "__dict__" tn, .ref C, .builtin "function.__dict__", setv]) (hm : mroIn K C (.ref C) = some true)
    (hs : mroIn K C (.type "staticmethod") = some false) (hcm : mroIn K C (.type "classmethod") = some false)
    (h : R (.ok (.ret (.ref d))) { s with heap := s.heap.update d fun o => if o.slots.isEmpty then { o with slots := #[none] } else o }) :
    codeN (model prog w) A (.call (.builtin "getset_descriptor.__get__") ⟨[.ref p, .ref g, tp], []⟩) R s := by
  obtain ⟨pd, sl, ho⟩ := rec_of X hp
  have L0 : Looks (model prog w) s.heap (typeOf (.ref g)) (.ref C) := (Looks.ld hg).andThen .now
  have L1 := looks_mroIn (M := model prog w) X hm
  have L2 := looks_mroIn (M := model prog w) X hs
  have L3 := looks_mroIn (M := model prog w) X hcm
  refine codeN_call_builtin KF.slot_gs.plain (by decide) KF.entry_gs (KF.slot_gs.check _ _ _ _ _ _ _ _ ⟨_, ho, rfl⟩ (KF.args_gs _ _ _) ?_)
  unfold Builtin.«getset_descriptor.__get__» descrGet
  rw [dga_obj]
  refine wpN_bind (wpN_pure ?_)
  show wpN _ _ (descrCheckInstance (.ref p) (.ref g) >>= fun _ => _) _ _ _
  have LC : Looks (model prog w) s.heap (descrCheckInstance (.ref p) (.ref g)) () := by
    unfold descrCheckInstance descrNameAndClass
    refine Looks.andThen (a := (("__dict__" : Str), Value.ref C)) ?_ ?_
    · refine (looks_field ho 0 rfl).andThen ?_
      exact (looks_field ho 1 rfl).andThen .now
    · have LI : Looks (model prog w) s.heap (isInstance (.ref g) (.ref C)) true := by
        unfold isInstance
        exact L0.andThen L1
      show Looks _ _ (isInstance (.ref g) (.ref C) >>= _) _
      exact LI.andThen .now
  refine wpN_at LC ?_
  refine wpN_at (looks_field ho 2 rfl) ?_
  refine wpN_bind (wpN_of (wpAny_rule ?_))
  have LF : Looks (model prog w) s.heap (descrItself (.ref p)) [] := by
    unfold descrItself fieldsOf
    exact (Looks.ld (part := none) ho).andThen .now
  refine wpN_at LF ?_
  refine wpN_pure ⟨Code.quiet_builtin _ (by decide +kernel), fun _ e => (by injection e with e _; revert e; decide), codeN_builtin entry_fdict ?_⟩
  unfold Builtin.«function.__dict__»
  have LB : Looks (model prog w) s.heap (isInstance (.ref g) (.type "staticmethod") <||> isInstance (.ref g) (.type "classmethod")) false := by
    have A1 : Looks (model prog w) s.heap (isInstance (.ref g) (.type "staticmethod")) false := by unfold isInstance; exact L0.andThen L2
    have A2 : Looks (model prog w) s.heap (isInstance (.ref g) (.type "classmethod")) false := by unfold isInstance; exact L0.andThen L3
    exact A1.andThen A2
  refine wpN_at LB ?_
  exact wpN_bind (wpN_handed X hg hd hcd hh ht (wpN_pure h))
end
end
-- AzN3
section
open PySem PySem.W PyProof.Rows PySem.Calls PySem.Spec Builtin Builtin.ObjectAttr Builtin.Getset_descriptor
section
variable {prog : Program} {w : World} {A : Around} {E : Value → Shared → Prop} {s : Shared} {K : Frag} {x C : Addr} {ox : Obj} {od : Option Obj} {name : Str} {expr : Bool} {Q : Value → Shared → Prop}
theorem getN_bind {g a : Value} (X : K.In s.heap) (I : InstAt s.heap x ox C od) (hga : findIn K (.ref C) "__getattribute__" = some (some (.builtin "object.__getattribute__")))
    (hf : findObj K C od name = some (.bind g a)) (hk : findIn K (.ref C) "__getattr__" = some none)
    (h : wpN (model prog w) A.in1 (call g [a, .ref x, .ref C]) (fun v s' => wpN (model prog w) A (handedOut v) Q E s') (fun _ _ => False) { s with toks := s.toks + 1 }) :
    wpN (model prog w) A (getAttr (.ref x) name expr) Q E s := by
  obtain ⟨hh, gg, d, t, os⟩ := s
  have L0 := I.type (M := model prog w)
  have L1 := looks_findIn (M := model prog w) X hga
  have L2 := looks_find (M := model prog w) X I hf
  have L3 := looks_findIn (M := model prog w) X hk
  unfold getAttr getAttrBy
  refine wpN_bind (wpN_of (wpAny_mkText ?_))
  refine wpN_holding (wpN_at L0 (wpN_at L1 ?_))
  show wpN _ _ (getAttrEveryday _ _ _) _ _ _
  refine wpN_bind (wpN_onRaise (wpN_runValue (fun _ e => (by injection e with e _; revert e; decide)) (codeN_builtin F.plainObj_entry_getattr_hooked ?_)))
  refine wpN_bind (wpN_pure (wpN_at L0 (wpN_at L2 (wpN_at L3 ?_))))
  show wpN _ _ (holding [a] (call g [a, .ref x, .ref C]) >>= ret) _ _ _
  exact wpN_bind (wpN_holding (wpN_mono h (fun v s' z => wpN_pure z) fun _ _ z => z.elim))
end
section
variable {x : X} {σ : AS}
theorem attr_dict {g d : Addr} {kvs : List (Str × AV)} {ep : Nat} {expr : Bool} {Q : AV → AS → Prop} (hg : σ.hp g = some (.inst 583 d)) (hk : σ.hp d = some (.sdict kvs ep false))
    (h : Q (.ref d) (σ.put d (.sdict kvs ep true))) : RunNV x (getAttr (.ref g) "__dict__" expr) Q σ := by
  intro s R
  obtain ⟨es, kvs', I, hd', h1, h2, h3, h4⟩ := inst_at R hg hk
  have X := R.ok.kx.keeps R.base
  refine getN_bind X I (by k_is) (g := .builtin "getset_descriptor.__get__") (a := .ref 584) ?_ (by k_is) (wpN_call (dict_get (s := { s with toks := s.toks + 1 }) X I.at_ hd' (by k_is) rfl (by k_is) (by k_is) (by k_is) (by k_is) (by k_is) ?_))
  · have c1 : ∃ cd, clsIn (Mine.hd.heap_39 x.C.w.params) 583 = some cd := ⟨_, by k_is⟩
    obtain ⟨cd, c1⟩ := c1
    have c2 : findIn (Mine.hd.heap_39 x.C.w.params) (.ref 583) "__dict__" = some (some (.ref 584)) := by k_is
    have c3 : specialIn (Mine.hd.heap_39 x.C.w.params) (.ref 584) "__get__" = some (some (.builtin "getset_descriptor.__get__")) := by k_is
    have c4 : takesIn (Mine.hd.heap_39 x.C.w.params) (.ref 584) = some true := by k_is
    unfold findObj
    rw [c1, c2]
    dsimp only [Option.bind_some]
    rw [c3]
    dsimp only [Option.bind_some]
    rw [c4]
    rfl
  · show wpN _ _ (handedOut (.ref d)) _ _ _
    rw [handedOut_of rfl]
    have hu := Heap.get?_update_self (fun o => if o.slots.isEmpty then { o with slots := #[none] } else o) hd' rfl
    refine wpN_pure ⟨_, R.upd (ao := .sdict kvs ep true) hk (fun b o hb e => (Heap.get?_update_other _ _ (Ne.symm hb)).trans e) hu ⟨es, kvs', rfl, h1, h2, h3, h4⟩ _, h⟩
end
end
-- AzN4
section
section
variable {σ : AS}
theorem rNC_callfn {C : Cx} {fs : List (Addr × Loc)} {L : Addr} {A : Around} {f : Addr} {oc : Value} {od : Option Addr} {osl : Array (Option Value)} {fd : FuncData} {body : List Stmt} {vals : List Value} {kw : List (Str × Value)} {Q : AV → AS → Prop}
    (hA : A.depth < recursionLimit) (ho : (Mine.hd.heap_39 C.w.params).lookup f = some ⟨oc, od, .func fd, osl⟩) (hcode : codeIn (Mine.hd.heap_39 C.w.params) fd.code fd.qualname = true)
    (h : Run ⟨C, fs, L, A.in1⟩ (bindArgs fd ⟨vals, kw⟩) (fun binds σ₁ =>
      (∀ n, ∀ b ∈ binds, fd.scope.names.lookup b.1 = some .local ∨ (fd.scope.names.lookup b.1 = some .cell ∧ ((cellsFrom n fd.scope.names []).lookup b.1).isSome = true)) ∧
      ∀ L', (∀ c, L' ≤ c → Fresh σ₁ c) →
        RunN ⟨C, (L, σ₁.loc) :: fs, L', A.deeper (callEnvC fd L' f)⟩ (execs body (callEnvC fd L' f)) (fun fl σ₂ => Q (er (retOf fl)) { σ₂ with loc := σ₁.loc }) (enterC fd f binds L' σ₁)) σ)
    (hbody : fd.body = .stmts body := by rfl) (hclo : fd.closure = [] := by rfl)
    (hnd : ∀ n, ((cellsFrom n fd.scope.names []).map (·.1)).Nodup := by intro n; simp [cellsFrom]) (hco : fd.scope.isCoroutine = false := by rfl) (hgen : fd.scope.isGenerator = false := by rfl) (hk : fd.scope.kind = .function := by rfl) :
    RunNC ⟨C, fs, L, A⟩ (.call (.ref f) ⟨vals, kw⟩) (fun r σ' => ∃ v, r = .ok (.ret v) ∧ Q (er v) σ') σ := by
  intro s R
  have X := R.ok.kx.keeps R.base
  refine codeN_call_function hA (X _ _ ho) rfl hco hgen hbody (codeRec_of X hcode) ?_
  refine wpAny_mono (h s R) (fun binds s₁ ⟨σ₁, R₁, hb, h₁⟩ => ?_) fun _ _ e => e.elim
  rw [hclo]
  refine wpAny_newFunctionEnv_cells hk (hb _) fun env he s' I => ?_
  subst he
  have R' := Rel.enter (f := f) R₁ (hnd _) I
  refine ⟨(R.ok.top.nolimit.keeps R₁.base).keeps I.toInCall.keep, codeN_func ?_⟩
  refine wpN_mono (h₁ _ (fun c hc => R₁.fresh hc) s' R') (fun fl s₂ ⟨σ₂, R₂, q⟩ => ?_) fun _ _ e => e.elim
  cases fl <;> exact ⟨_, R₂.leave, _, rfl, q⟩
theorem rNC_callkw {C : Cx} {fs : List (Addr × Loc)} {L : Addr} {A : Around} {σ : AS} {f : Addr} {oc : Value} {od : Option Addr} {osl : Array (Option Value)} {fd : FuncData} {body : List Stmt} {vals : List Value} {kw : List (Str × Value)} {Q : AV → AS → Prop} {k : Nat} (names : List Str)
    (hA : Deep A (k + 1)) (ho : (Mine.hd.heap_39 C.w.params).lookup f = some ⟨oc, od, .func fd, osl⟩) (hcode : codeIn (Mine.hd.heap_39 C.w.params) fd.code fd.qualname = true)
    (hn : ∀ b ∈ names, fd.scope.names.lookup b = some .local ∨ fd.scope.names.lookup b = some .cell)
    (h : Run ⟨C, fs, L, A.in1⟩ (bindArgs fd ⟨vals, kw⟩) (fun binds σ₁ => binds.map (·.1) = names ∧ ∃ LF : Addr → AS → Prop, (∀ L', (∀ c, L' ≤ c → Fresh σ₁ c) → LF L' (enterC fd f binds L' σ₁)) ∧
      ∀ L' A' σ₂, (∀ c, L' ≤ c → Fresh σ₁ c) → Deep A' k → Ext σ₁ σ₂ → LF L' σ₂ →
        RunN ⟨C, (L, σ₁.loc) :: fs, L', A'⟩ (execs body (callEnvC fd L' f)) (fun fl σ₃ => Q (er (retOf fl)) (σ₃.at σ₁.loc)) σ₂) σ)
    (hbody : fd.body = .stmts body := by rfl) (hclo : fd.closure = [] := by rfl)
    (hnd : ∀ n, ((cellsFrom n fd.scope.names []).map (·.1)).Nodup := by intro n; simp [cellsFrom]) (hco : fd.scope.isCoroutine = false := by rfl) (hgen : fd.scope.isGenerator = false := by rfl) (hk : fd.scope.kind = .function := by rfl) :
    RunNC ⟨C, fs, L, A⟩ (.call (.ref f) ⟨vals, kw⟩) (fun r σ' => ∃ v, r = .ok (.ret v) ∧ Q (er v) σ') σ := by
  refine rNC_callfn hA.lt ho hcode (run_mono h fun binds σ₁ ⟨hnm, LF, hLF, h₁⟩ => ⟨fun n b hm => ?_, fun L' hf => h₁ L' _ _ hf hA.deeper (ext_enter hf) (hLF L' hf)⟩) hbody hclo hnd hco hgen hk
  rcases hn b.1 (hnm ▸ List.mem_map_of_mem hm) with e | e
  · exact .inl e
  · refine .inr ⟨e, ?_⟩
    rcases cellsFrom_some (n := n) (acc := []) e with e' | e'
    · exact e'
    · cases e'
theorem rNV_callpl {C : Cx} {fs : List (Addr × Loc)} {L : Addr} {A : Around} {σ : AS} {f : Addr} {oc : Value} {od : Option Addr} {osl : Array (Option Value)} {fd : FuncData} {body : List Stmt} {vals : List Value} {Q : AV → AS → Prop} {k : Nat} (names : List Str) (binds : List (Str × Value))
    (hA : Deep A (k + 1)) (ho : (Mine.hd.heap_39 C.w.params).lookup f = some ⟨oc, od, .func fd, osl⟩) (hcode : codeIn (Mine.hd.heap_39 C.w.params) fd.code fd.qualname = true)
    (hb : bindArgs fd ⟨vals, []⟩ = pure binds) (hn : ∀ b ∈ names, fd.scope.names.lookup b = some .local ∨ fd.scope.names.lookup b = some .cell)
    (LF : Addr → AS → Prop) (hLF : ∀ L', (∀ c, L' ≤ c → Fresh σ c) → LF L' (enterC fd f binds L' σ))
    (h : ∀ L' A' σ₁, (∀ c, L' ≤ c → Fresh σ c) → Deep A' k → Ext σ σ₁ → LF L' σ₁ →
        RunN ⟨C, (L, σ.loc) :: fs, L', A'⟩ (execs body (callEnvC fd L' f)) (fun fl σ₂ => Q (er (retOf fl)) (σ₂.at σ.loc)) σ₁)
    (hnm : binds.map (·.1) = names := by rfl) (hbody : fd.body = .stmts body := by rfl) (hclo : fd.closure = [] := by rfl)
    (hnd : ∀ n, ((cellsFrom n fd.scope.names []).map (·.1)).Nodup := by intro n; simp [cellsFrom]) (hco : fd.scope.isCoroutine = false := by rfl) (hgen : fd.scope.isGenerator = false := by rfl) (hk : fd.scope.kind = .function := by rfl) :
    RunNV ⟨C, fs, L, A⟩ (call (.ref f) vals []) Q σ := by
  refine rNV_ofC (rNC_callkw names hA ho hcode hn ?_ hbody hclo hnd hco hgen hk)
  rw [hb]
  exact run_pure ⟨hnm, LF, hLF, h⟩
end
section
variable {x : X} {α β : Type} {σ : AS} {env : Env}
theorem sN_then (M : AS → Prop) {st : Stmt} {rest : List Stmt} {Q : Flow → AS → Prop} (h : Run x (exec st env) (fun f σ' => f = .next ∧ M σ') σ) (h2 : ∀ σ', M σ' → RunN x (execs rest env) Q σ') : RunN x (execs (st :: rest) env) Q σ :=
  sN_skip (run_mono h fun f σ' ⟨e, m⟩ => by subst e; exact h2 σ' m)
/-- the step that needs the clean stack, then plain steps -/
theorem sN_here (M : AS → Prop) {st : Stmt} {rest : List Stmt} {Q : Flow → AS → Prop} (h : RunN x (exec st env) (fun f σ' => f = .next ∧ M σ') σ) (h2 : ∀ σ', M σ' → Run x (execs rest env) Q σ') : RunN x (execs (st :: rest) env) Q σ :=
  sN_cons (rN_mono h fun f σ' ⟨e, m⟩ => by subst e; exact rN_of (h2 σ' m))
theorem callWithN1 {pos : Pos} {f : Value} {e : Expr} {rest : List Expr} {Q : AV → AS → Prop} (hk : KeepOK f)
    (h : RunN x (spliced (backTo pos (starEach (e :: rest) env))) (fun vs σ' => RunNV x (call f vs) Q σ') σ)
    (he : starEach (e :: rest) env = (false, eval e env) :: starEach rest env := by rfl) (hplain : (backTo pos (starEach rest env)).any (·.1) = false := by rfl) :
    RunNV x (callWith pos f [] (backTo pos (starEach (e :: rest) env)) []) Q σ := by
  intro s R
  have hpl : ((backTo pos (starEach (e :: rest) env)).any (·.1) || ([] : List (Option Str × Sem Value)).any (·.1.isNone)) = false := by
    rw [he]; show ((false || (backTo pos (starEach rest env)).any (·.1)) || false) = false; rw [hplain]; rfl
  have h' := h s R
  rw [he] at h' hpl ⊢
  unfold callWith
  refine wpN_bind (wpN_holding (wpN_mono (Q := fun (a : Args) s' => ∃ σ', Rel x.C x.fs x.L σ' s' ∧ a.kw = [] ∧ RunNV x (call f a.pos) Q σ') (E := fun _ _ => False) ?_ (fun a s₁ h₁ => wpN_bind (wpN_of (wpAny_standAt ?_))) fun _ _ e => e.elim))
  · unfold evalArgs
    show wpN _ _ (spliced ((false, _) :: _) >>= _) _ _ s
    refine wpN_bind (wpN_mono h' (fun vs s' ⟨σ', R', q⟩ => ?_) fun _ _ x => x)
    refine wpN_of (wpAny_holding ?_)
    exact wpAny_bind (wpAny_pure (wpAny_bind (wpAny_pure (wpAny_pure ⟨σ', R', rfl, q⟩))))
  · obtain ⟨σ', R', e1, q⟩ := h₁
    obtain ⟨ap, akw⟩ := a
    simp only at e1
    subst e1
    obtain ⟨k, hk', L⟩ := hk x.C.w _ (R'.ok.kx.keeps R'.base)
    simp only [hpl]
    refine wpN_at L ?_
    have h₂ := q s₁ R'
    have tail : ∀ {t : Sem Value}, wpN (model Pg x.C.w) x.A t (fun v s' => ∃ σ', Rel x.C x.fs x.L σ' s' ∧ Q (er v) σ') (fun _ _ => False) s₁ → wpN (model Pg x.C.w) x.A (t >>= fun r => holding [r] point >>= fun _ => pure r) (fun v s' => ∃ σ', Rel x.C x.fs x.L σ' s' ∧ Q (er v) σ') (fun _ _ => False) s₁ :=
      fun ht => wpN_bind (wpN_mono ht (fun r s₂ hr => wpN_of (wpAny_bind (wpAny_holding (wpAny_point (wpAny_pure hr))))) fun _ _ x => x)
    have marked (mk : Value) : wpN (model Pg x.C.w) x.A (callMarked mk f ap []) (fun v s' => ∃ σ', Rel x.C x.fs x.L σ' s' ∧ Q (er v) σ') (fun _ _ => False) s₁ := by unfold callMarked; exact wpN_keep h₂
    rcases hk' with rfl | rfl | rfl <;> dsimp only <;> first | exact tail h₂ | (split <;> first | exact tail h₂ | exact tail (marked _))
theorem sN_try {body orelse : List Stmt} {h₀ : ExceptHandler} {hs : List ExceptHandler} {pos : Pos} {Q : Flow → AS → Prop}
    (h : RunN x (execs body env) (fun f σ' => match f with | .next => Run x (execs orelse env) Q σ' | f => Q f σ') σ) : RunN x (exec (.Try body (h₀ :: hs) orelse [] pos) env) Q σ := by
  intro s R
  rw [arm_exec_Try]
  refine wpN_bind (wpN_of (wpAny_standAt ?_))
  unfold tryStmt
  simp only [List.isEmpty_nil, if_true, List.isEmpty_cons, Bool.false_and, Bool.false_eq_true, if_false]
  refine wpN_bind (wpN_attempt (wpN_mono (h s R) (fun f s' ⟨σ', R', q⟩ => ?_) fun _ _ e => e.elim))
  cases f with
  | next => exact wpN_of (q s' R')
  | brk => exact wpN_pure ⟨σ', R', q⟩
  | cont => exact wpN_pure ⟨σ', R', q⟩
  | ret v => exact wpN_pure ⟨σ', R', q⟩
end
end
-- AzSd
section
section
variable {x : X} {α β : Type} {σ : AS} {env : Env}
abbrev sdObj (es : Array DictEntry) (ep : Nat) (hd : Bool) : Obj := { cls := .type "dict", data := .dict es ep, slots := if hd then #[none] else #[] }
theorem sdict_at {C : Cx} {fs : List (Addr × Loc)} {L : Addr} {s : Shared} (R : Rel C fs L σ s) {d : Addr} {kvs : List (Str × AV)} {ep : Nat} {hd : Bool} (hk : σ.hp d = some (.sdict kvs ep hd)) :
    ∃ es kvs', s.heap.get? d = some (sdObj es ep hd) ∧ KeysOf (strKind Pg C.w) es ∧ Pairs (strKind Pg C.w) es.toList kvs' ∧ (kvs'.map (·.1)).Nodup ∧ kvs'.map (fun p => (p.1, er p.2)) = kvs := by
  obtain ⟨o, hd', es, kvs', rfl, h1, h2, h3, h4⟩ := R.get hk
  exact ⟨es, kvs', hd', h1, h2, h3, h4⟩
theorem type_sdict {C : Cx} {fs : List (Addr × Loc)} {L : Addr} {s : Shared} (R : Rel C fs L σ s) {d : Addr} {kvs : List (Str × AV)} {ep : Nat} {hd : Bool} (hk : σ.hp d = some (.sdict kvs ep hd)) : s.TypeIs (.ref d) "dict" := by
  obtain ⟨es, kvs', h, _⟩ := sdict_at R hk
  exact ⟨_, h, rfl⟩
theorem meth_sdict {d : Addr} {kvs : List (Str × AV)} {ep : Nat} {hd : Bool} {name : Str} {id : String} {pl : Sem Bool} {Q : Value × List Value → AS → Prop} (hk : σ.hp d = some (.sdict kvs ep hd)) (slot : Slot "dict" name id) (hty : typeOf (.builtin id) = pure (.type "method_descriptor")) (h : Q (.builtin id, [.ref d]) σ) :
    Run x (getMethod (.ref d) name pl) Q σ := meth_of F.plainAttrs_dict slot hty (fun s R => by
      obtain ⟨es, kvs', h, _⟩ := sdict_at R hk
      exact ⟨_, h, rfl, rfl⟩) h
theorem get_sdict {d : Addr} {kvs : List (Str × AV)} {ep : Nat} {hd : Bool} {k : Str} {t : Tok} {v : Value} {Q : AV → AS → Prop} (hk : σ.hp d = some (.sdict kvs ep hd)) (h : Q ((aget kvs k).getD (er v)) σ) : RunV x (call (.builtin "dict.get") [.ref d, .str k t, v]) Q σ := by
  refine run_entry F.slot_dict_get (fun s R => type_sdict R hk) F.entry_dict_get ?_ (F.args_dict_get_3 _ _ _)
  intro s R
  obtain ⟨es, kvs', ho, h1, h2, h3, h4⟩ := sdict_at R hk
  have hkey : (strKind Pg x.C.w).is k (.str k t) = true := strKind_is _ _ _ _
  have hv : findBy (strKind Pg x.C.w).is es k = valueAt kvs' k := by rw [← h2.find k]; obtain ⟨l⟩ := es; simp [findBy]
  rw [← h4, aget_er, ← hv, findBy_of_findIdx?] at h
  show wpAny _ _ (dictGet d (.str k t) >>= _) _ _ s
  unfold dictGet
  try with_reducible refine wpAny_bind (wpAny_holding ?_)
  refine wpAny_bind ((strKind Pg x.C.w).pyHash hkey (wpAny_bind (wpAny_dictFind_of (s := { s with toks := s.toks + 1 }) hkey ho rfl h1 ?_)))
  cases hi : es.findIdx? fun e => (strKind Pg x.C.w).is k e.key with
  | none =>
    rw [hi] at h
    refine wpAny_pure ?_
    show wpAny _ _ (Builtin.Dict.missed d (.str k t) >>= _) _ _ _
    exact wpAny_bind (wpAny_missed_other (R.notMods hk) (wpAny_pure ⟨_, R.toks _, v, rfl, h⟩))
  | some i =>
    rw [hi] at h
    refine wpAny_bind (wpAny_dictEntries (s := { s with toks := s.toks + 1 }) ho rfl (wpAny_pure ?_))
    have hlt : i < es.size := (Array.findIdx?_eq_some_iff_getElem.mp hi).1
    have e0 : es[i]? = some es[i] := Array.getElem?_eq_getElem hlt
    simp only [e0] at h ⊢
    exact wpAny_pure ⟨_, R.toks _, _, rfl, h⟩
theorem put_sdict {d : Addr} {kvs : List (Str × AV)} {ep : Nat} {hd : Bool} {k : Str} {t : Tok} {v : Value} {Q : Unit → AS → Prop} (hk : σ.hp d = some (.sdict kvs ep hd)) (hz : kvs.length < 100) (h : ∀ ep', Q () (σ.put d (.sdict (aput kvs k (er v)) ep' hd))) :
    Run x (setItem (.ref d) (.str k t) v) Q σ := by
  intro s R
  obtain ⟨es, kvs', ho, hK, hp, hn, h4⟩ := sdict_at R hk
  have hkey : (strKind Pg x.C.w).is k (.str k t) = true := strKind_is _ _ _ _
  have hes : es.size ≤ sizeLine := by
    have e1 := hp.length
    have e2 : es.toList.length = es.size := by simp
    have e3 : kvs'.length = kvs.length := by rw [← h4]; simp
    exact fits (by omega)
  have typ : s.TypeIs (.ref d) "dict" := ⟨_, ho, rfl⟩
  have fin : ∀ (es' : Array DictEntry) (ep' : Nat) (h' : Heap), h'.get? d = some (sdObj es' ep' hd) → Heap.SameBut d s.heap h' → KeysOf (strKind Pg x.C.w) es' → Pairs (strKind Pg x.C.w) es'.toList (stored kvs' k v) → ((stored kvs' k v).map (·.1)).Nodup →
      ∃ σ', Rel x.C x.fs x.L σ' { s with heap := h', toks := s.toks + 1 } ∧ Q () σ' := fun es' ep' h' g1 g2 g3 g4 g5 => by
    refine ⟨_, R.upd (ao := .sdict (aput kvs k (er v)) ep' hd) hk g2.extBut g1 ⟨es', _, rfl, g3, g4, g5, ?_⟩ _, h ep'⟩
    rw [← h4, aput_er]
  unfold setItem
  try with_reducible refine wpAny_holding ?_
  refine wpAny_bind (wpAny_sequenceKey typ (by decide) ?_)
  refine wpAny_bind (wpAny_callSpecial?_slot (name := Str.ofString "__setitem__") typ slot_dict_setitem
    (wpAny_call_entry slot_dict_setitem typ entry_dict_setitem ?_ (args_dict_setitem _ _ _)))
  show wpAny _ _ (Builtin.Dict.notOrdered "__setitem__" ⟨[.ref d, .str k t, v], []⟩ >>= _) _ _ s
  refine wpAny_bind (wpAny_notOrdered_dict typ ?_)
  show wpAny _ _ (dictSet d (.str k t) v >>= _) _ _ s
  have key : wpAny (model Pg x.C.w) x.A.in1 (dictSet d (.str k t) v) (fun u s' => ∃ σ', Rel x.C x.fs x.L σ' s' ∧ Q u σ') (fun _ _ => False) s := by
    unfold dictSet
    try with_reducible refine wpAny_holding ?_
    refine wpAny_bind ((strKind Pg x.C.w).pyHash hkey ?_)
    unfold dictSetHashed
    try with_reducible refine wpAny_holding ?_
    refine wpAny_bind (wpAny_dictFind_of (s := { s with toks := s.toks + 1 }) hkey ho rfl hK ?_)
    have hidx : (es.findIdx? fun e => (strKind Pg x.C.w).is k e.key) = kvs'.findIdx? fun kv => decide (kv.1 = k) := by
      rw [← hp.findIdx k]; obtain ⟨l⟩ := es; simp
    cases hi : es.findIdx? fun e => (strKind Pg x.C.w).is k e.key with
    | some i =>
      refine wpAny_bind (wpAny_rule (wpAny_bind (wpAny_updateDict (s := { s with toks := s.toks + 1 }) ho rfl (wpAny_point ?_))))
      refine fin _ ep _ (Heap.get?_update_self _ ho rfl) (Heap.SameBut.update ..) (hK.modify i v) ?_ ?_
      · rw [stored, if_pos (any_of_findIdx_some (hidx ▸ hi))]
        have hl : (es.toList.findIdx? fun e => (strKind Pg x.C.w).is k e.key) = some i := by rw [← hi]; obtain ⟨l⟩ := es; simp
        have := hp.modify hn hl v
        obtain ⟨l⟩ := es
        simpa using this
      · rw [stored, if_pos (any_of_findIdx_some (hidx ▸ hi)), keys_map_store]; exact hn
    | none =>
      have hnot : k ∉ kvs'.map (·.1) := not_mem_of_findIdx_none (hidx ▸ hi)
      have hany : ¬ (kvs'.any fun kv => decide (kv.1 = k)) = true := by
        rw [List.any_eq_true]; rintro ⟨kv, hkv, he⟩
        exact hnot (List.mem_map.mpr ⟨kv, hkv, of_decide_eq_true he⟩)
      refine wpAny_bind (wpAny_rule (wpAny_updateDictKeys (hz := hes) (s := { s with toks := s.toks + 1 }) ho rfl ?_))
      refine fin _ (ep + 1) _ (Heap.get?_update_self _ ho rfl) (Heap.SameBut.update ..) (hK.push hkey v) ?_ ?_
      · rw [stored, if_neg hany]
        have := hp.append hkey ((strKind Pg x.C.w).hash k) v
        obtain ⟨l⟩ := es
        simpa using this
      · rw [stored, if_neg hany, List.map_append, List.nodup_append]
        refine ⟨hn, by simp, ?_⟩
        intro a ha b hb
        simp only [List.map_cons, List.map_nil, List.mem_singleton] at hb
        subst hb
        exact fun e => hnot (e ▸ ha)
  refine wpAny_bind (wpAny_mono key (fun _ s' h' => wpAny_pure ⟨.none, rfl, wpAny_pure h'⟩) fun _ _ e => e)
end
end
-- AzKo
section
open PySem PySem.W PyProof.Rows PySem.Calls PySem.Spec Builtin Builtin.ObjectAttr Builtin.Getset_descriptor
section
variable {x : X} {σ : AS} {env : Env}
/-- an attribute of an object of the written heap -/
theorem attr_K {a C d : Addr} {osl : Array (Option Value)} {od : Obj} {v : Value} {name : Str} {expr : Bool} {Q : AV → AS → Prop} (h1 : (Mine.hd.heap_39 x.C.w.params).lookup a = some ⟨.ref C, some d, .plain, osl⟩) (h2 : (Mine.hd.heap_39 x.C.w.params).lookup d = some od)
    (hh : hasDictIn (Mine.hd.heap_39 x.C.w.params) C = true) (ha : findIn (Mine.hd.heap_39 x.C.w.params) (.ref C) name = some none) (hl : lookIn name od = some (some v)) (hga : findIn (Mine.hd.heap_39 x.C.w.params) (.ref C) "__getattribute__" = some (some (.builtin "object.__getattribute__")))
    (hi : handedIn v = true) (h : Q (er v) σ) : RunV x (getAttr (.ref a) name expr) Q σ := by
  intro s R
  have X := R.ok.kx.keeps R.base
  have I : InstAt s.heap a ⟨.ref C, some d, .plain, osl⟩ C (some od) := ⟨X _ _ h1, rfl, rfl, X _ _ h2⟩
  exact get_value X I hga (findObj_own (attr := none) hh ha rfl hl) hi ⟨σ, R.toks _, h⟩
theorem meth_K {a C : Addr} {name : Str} {pl : Sem Bool} {v : AV} {Q : Value × List Value → AS → Prop} {oc : Value} {d : Option Addr} {osl : Array (Option Value)} (h1 : (Mine.hd.heap_39 x.C.w.params).lookup a = some ⟨.ref C, d, .plain, osl⟩) (ha : findIn (Mine.hd.heap_39 x.C.w.params) (.ref C) name = some none)
    (hga : findIn (Mine.hd.heap_39 x.C.w.params) (.ref C) "__getattribute__" = some (some (.builtin "object.__getattribute__"))) (hk : findIn (Mine.hd.heap_39 x.C.w.params) (.ref C) "__getattr__" = some none)
    (h : RunV x (getAttr (.ref a) name) (fun u σ' => ∀ v, er v = u → Q (v, []) σ') σ) : Run x (getMethod (.ref a) name pl) Q σ := by
  intro s R
  have X := R.ok.kx.keeps R.base
  have ty : Looks (model Pg x.C.w) s.heap (typeOf (.ref a)) (.ref C) := (Looks.ld (X _ _ h1)).andThen .now
  unfold getMethod specialOf
  refine wpAny_bind (wpAny_bind (ty.here ((looks_findIn X hga).here ?_)))
  dsimp only
  rw [PySem.F.canon_object_ga, if_neg (by decide)]
  refine wpAny_bind (wpAny_bind (ty.here ((looks_findIn X hk).here ?_)))
  refine wpAny_bind (wpAny_bind (ty.here ((looks_findIn X ha).here ?_)))
  exact wpAny_bind (wpAny_mono (h s R) (fun v s' ⟨σ', R', q⟩ => wpAny_pure ⟨σ', R', q v rfl⟩) fun _ _ e => e)
/-- the dict that was handed out before -/
theorem handed_again {M : Model} {A : Around} {E : Value → Shared → Prop} {s : Shared} {K : Frag} {g d C : Addr} {es : Array DictEntry} {ep : Nat} {Q : Option Addr → Shared → Prop} {hc : ClassData} (X : K.In s.heap)
    (hg : s.heap.get? g = some { cls := .ref C, dict := some d, data := .plain }) (hd : s.heap.get? d = some { cls := .type "dict", data := .dict es ep, slots := #[none] })
    (hcd : clsIn K C = some hc) (hh : hc.hasDict = true)
    (h : Q (some d) { s with heap := s.heap.update d fun o => if o.slots.isEmpty then { o with slots := #[none] } else o }) :
    wpAny M A (instanceDictHandedOut g) Q E s := by
  unfold instanceDictHandedOut
  have L1 : Looks M s.heap (instanceDict g true) (some d) := by
    unfold instanceDict
    refine (Looks.ld (part := some headPart) hg).andThen ?_
    refine (looks_clsIn X hcd).andThen ?_
    rw [hh]
    exact Looks.now
  refine wpAny_bind (L1.here ?_)
  refine wpAny_bind ((Looks.ld (part := some headPart) hg).here ?_)
  refine wpAny_bind (m := _) (wpAny_mono (Q := fun a s' => a = none ∧ s' = s) (E := fun _ _ => False) (wpAny_bind (wpAny_load hd ?_)) (fun a s' ⟨e1, e2⟩ => ?_) fun _ _ e => e.elim)
  · refine wpAny_ite ?_
    rw [if_pos (by rfl)]
    exact wpAny_pure ⟨rfl, rfl⟩
  · subst e1; subst e2
    refine wpAny_bind (wpAny_bind (wpAny_update hd ?_))
    exact wpAny_pure (wpAny_pure h)
theorem dict_get2 {prog : Program} {w : World} {A : Around} {s : Shared} {R : Result → Shared → Prop} {K : Frag} {g d C : Addr} {es : Array DictEntry} {ep : Nat} {p : Addr} {tp : Value} {hc : ClassData} {tn : Tok} {setv : Value} (X : K.In s.heap)
    (hg : s.heap.get? g = some { cls := .ref C, dict := some d, data := .plain }) (hd : s.heap.get? d = some { cls := .type "dict", data := .dict es ep, slots := #[none] })
    (hcd : clsIn K C = some hc) (hh : hc.hasDict = true)
    (hp : recIn K p "getset_descriptor" = some [.str "__dict__" tn, .ref C, .builtin "function.__dict__", setv]) (hm : mroIn K C (.ref C) = some true)
    (hs : mroIn K C (.type "staticmethod") = some false) (hcm : mroIn K C (.type "classmethod") = some false)
    (h : R (.ok (.ret (.ref d))) { s with heap := s.heap.update d fun o => if o.slots.isEmpty then { o with slots := #[none] } else o }) :
    codeAny (model prog w) A (.call (.builtin "getset_descriptor.__get__") ⟨[.ref p, .ref g, tp], []⟩) R s := by
  obtain ⟨pd, sl, ho⟩ := rec_of X hp
  have L0 : Looks (model prog w) s.heap (typeOf (.ref g)) (.ref C) := (Looks.ld hg).andThen .now
  have L1 := looks_mroIn (M := model prog w) X hm
  have L2 := looks_mroIn (M := model prog w) X hs
  have L3 := looks_mroIn (M := model prog w) X hcm
  refine codeAny_call_builtin KF.slot_gs.plain KF.entry_gs (KF.slot_gs.check _ _ _ _ _ _ _ _ ⟨_, ho, rfl⟩ (KF.args_gs _ _ _) ?_)
  unfold Builtin.«getset_descriptor.__get__» descrGet
  rw [dga_obj]
  refine wpAny_bind (wpAny_pure ?_)
  show wpAny _ _ (descrCheckInstance (.ref p) (.ref g) >>= fun _ => _) _ _ _
  have LC : Looks (model prog w) s.heap (descrCheckInstance (.ref p) (.ref g)) () := by
    unfold descrCheckInstance descrNameAndClass
    refine Looks.andThen (a := (("__dict__" : Str), Value.ref C)) ?_ ?_
    · refine (looks_field ho 0 rfl).andThen ?_
      exact (looks_field ho 1 rfl).andThen .now
    · have LI : Looks (model prog w) s.heap (isInstance (.ref g) (.ref C)) true := by
        unfold isInstance
        exact L0.andThen L1
      show Looks _ _ (isInstance (.ref g) (.ref C) >>= _) _
      exact LI.andThen .now
  refine wpAny_bind (LC.here ?_)
  refine wpAny_bind ((looks_field ho 2 rfl).here ?_)
  refine wpAny_bind (wpAny_rule ?_)
  have LF : Looks (model prog w) s.heap (descrItself (.ref p)) [] := by
    unfold descrItself fieldsOf
    exact (Looks.ld (part := none) ho).andThen .now
  refine wpAny_bind (LF.here ?_)
  refine wpAny_pure ⟨Code.quiet_builtin _ (by decide +kernel), codeAny_builtin entry_fdict ?_⟩
  unfold Builtin.«function.__dict__»
  have LB : Looks (model prog w) s.heap (isInstance (.ref g) (.type "staticmethod") <||> isInstance (.ref g) (.type "classmethod")) false := by
    have A1 : Looks (model prog w) s.heap (isInstance (.ref g) (.type "staticmethod")) false := by unfold isInstance; exact L0.andThen L2
    have A2 : Looks (model prog w) s.heap (isInstance (.ref g) (.type "classmethod")) false := by unfold isInstance; exact L0.andThen L3
    exact A1.andThen A2
  refine wpAny_bind (LB.here ?_)
  exact wpAny_bind (handed_again X hg hd hcd hh (wpAny_pure h))
theorem attr_dict2 {g d : Addr} {kvs : List (Str × AV)} {ep : Nat} {expr : Bool} {Q : AV → AS → Prop} (hg : σ.hp g = some (.inst 583 d)) (hk : σ.hp d = some (.sdict kvs ep true))
    (h : Q (.ref d) σ) : RunV x (getAttr (.ref g) "__dict__" expr) Q σ := by
  intro s R
  obtain ⟨es, kvs', I, hd', h1, h2, h3, h4⟩ := inst_at R hg hk
  have X := R.ok.kx.keeps R.base
  refine get_bind X I (by k_is) (g := .builtin "getset_descriptor.__get__") (a := .ref 584) ?_ (by k_is) (wpAny_call (dict_get2 (s := { s with toks := s.toks + 1 }) X I.at_ hd' (by k_is) rfl (by k_is) (by k_is) (by k_is) (by k_is) ?_))
  · have c1 : ∃ cd, clsIn (Mine.hd.heap_39 x.C.w.params) 583 = some cd := ⟨_, by k_is⟩
    obtain ⟨cd, c1⟩ := c1
    have c2 : findIn (Mine.hd.heap_39 x.C.w.params) (.ref 583) "__dict__" = some (some (.ref 584)) := by k_is
    have c3 : specialIn (Mine.hd.heap_39 x.C.w.params) (.ref 584) "__get__" = some (some (.builtin "getset_descriptor.__get__")) := by k_is
    have c4 : takesIn (Mine.hd.heap_39 x.C.w.params) (.ref 584) = some true := by k_is
    unfold findObj
    rw [c1, c2]
    dsimp only [Option.bind_some]
    rw [c3]
    dsimp only [Option.bind_some]
    rw [c4]
    rfl
  · show wpAny _ _ (handedOut (.ref d)) _ _ _
    rw [handedOut_of rfl]
    have hu := Heap.get?_update_self (fun o => if o.slots.isEmpty then { o with slots := #[none] } else o) hd' rfl
    refine wpAny_pure ⟨_, R.grown (fun b o e => ?_) _, h⟩
    by_cases hb : b = d
    · subst hb
      rw [hd'] at e
      cases e
      exact hu
    · exact (Heap.get?_update_other _ _ (Ne.symm hb)).trans e
/-- a cached property that is not in the graph's dict yet -/
theorem find_cached (p : Params) {name : Str} {a : Addr} (hh : hasDictIn (Mine.hd.heap_39 p) 583 = true) (ha : findIn (Mine.hd.heap_39 p) (.ref 583) name = some (some (.ref a))) (hs : specialIn (Mine.hd.heap_39 p) (.ref a) "__get__" = some (some (.ref 275))) (ht : takesIn (Mine.hd.heap_39 p) (.ref a) = some false)
    (hn : copiedNames.contains name = false) (od : Obj) (hl : lookIn name od = some none) : findObj (Mine.hd.heap_39 p) 583 (some od) name = some (.bind (.ref 275) (.ref a)) := by
  unfold findObj
  unfold hasDictIn at hh
  cases hc : clsIn (Mine.hd.heap_39 p) 583 with
  | none => rw [hc] at hh; cases hh
  | some cd =>
    rw [hc] at hh
    have hh : cd.hasDict = true := hh
    rw [ha]
    dsimp only [Option.bind_some]
    rw [hs]
    dsimp only [Option.bind_some]
    rw [ht]
    dsimp only [Option.bind_some]
    unfold PySem.W.ownOf
    rw [if_pos hh]
    show ((lookIn name od).bind _) = _
    rw [hl]
    dsimp only [Option.bind_some]
    rw [hn]
    rfl
/-- a cached property that is in the graph's dict -/
theorem find_kept (p : Params) {name : Str} {a : Addr} (hh : hasDictIn (Mine.hd.heap_39 p) 583 = true) (ha : findIn (Mine.hd.heap_39 p) (.ref 583) name = some (some (.ref a))) (hs : specialIn (Mine.hd.heap_39 p) (.ref a) "__get__" = some (some (.ref 275))) (ht : takesIn (Mine.hd.heap_39 p) (.ref a) = some false)
    (od : Obj) (u : Value) (hl : lookIn name od = some (some u)) : findObj (Mine.hd.heap_39 p) 583 (some od) name = some (.value u) := by
  unfold findObj
  unfold hasDictIn at hh
  cases hc : clsIn (Mine.hd.heap_39 p) 583 with
  | none => rw [hc] at hh; cases hh
  | some cd =>
    rw [hc] at hh
    have hh : cd.hasDict = true := hh
    rw [ha]
    dsimp only [Option.bind_some]
    rw [hs]
    dsimp only [Option.bind_some]
    rw [ht]
    dsimp only [Option.bind_some]
    unfold PySem.W.ownOf
    rw [if_pos hh]
    show ((lookIn name od).bind _) = _
    rw [hl]
    rfl
end
end
-- AzNv
section
section
variable {x : X} {σ : AS} {env : Env}
/-- a node view and the dict that it brings -/
structure NV (σ : AS) (v dv nd : Addr) : Prop where
  at_ : σ.hp v = some (.nview 119 dv (.ref nd))
  dict : σ.hp dv = some (.sdict [] 0 false)
theorem NV.ext {σ σ' : AS} {v dv nd : Addr} (h : NV σ v dv nd) (e : Ext σ σ') : NV σ' v dv nd := ⟨e.hp _ _ h.at_, e.hp _ _ h.dict⟩
theorem nv_inst {v dv nd : Addr} {C : Cx} {fs : List (Addr × Loc)} {L : Addr} {s : Shared} (R : Rel C fs L σ s) (h : NV σ v dv nd) : ∃ od, InstAt s.heap v { cls := .ref 119, dict := some dv, data := .plain, slots := #[some (.ref nd)] } 119 (some od) := by
  obtain ⟨o, ho, y, rfl, hy⟩ := R.get h.at_
  cases er_ref hy
  obtain ⟨es, kvs', hd, _⟩ := sdict_at R h.dict
  exact ⟨_, ho, rfl, rfl, hd⟩
theorem nv_get {v dv nd : Addr} {expr : Bool} {Q : AV → AS → Prop} (hv : NV σ v dv nd) (h : Q (.ref nd) σ) : RunV x (getAttr (.ref v) "_nodes" expr) Q σ := by
  intro s R
  obtain ⟨od, I⟩ := nv_inst R hv
  obtain ⟨m, hm, F⟩ := R.fr
  exact get_slot F R.ok.kx I (p := 120) (i := 0) (by k_is) (by k_is) (by k_is) (by k_is) (by k_is) (by k_is) rfl rfl ⟨σ, R.toks _, h⟩
theorem nv_set {v dv : Addr} {u : Value} {ep : Nat} {Q : Unit → AS → Prop} (hv : σ.hp v = some (.inst 119 dv)) (hd : σ.hp dv = some (.sdict [] ep false)) (h : Q () (σ.put v (.nview 119 dv (er u)))) : Run x (setAttr (.ref v) "_nodes" u) Q σ := by
  intro s R
  obtain ⟨es, kvs', I, hd', h1, h2, h3, h4⟩ := inst_at R hv hd
  obtain ⟨m, hm, F⟩ := R.fr
  have hvo := R.obj v _ hv
  have N := R.news I.at_ hvo.2.1 (R.old hv)
  refine set_slot (p := 120) (i := 0) (ox' := { cls := .ref 119, dict := some dv, data := .plain, slots := #[some u] }) F R.ok.kx N I (by k_is) (by k_is) (by k_is) (by k_is) (by k_is) (by decide) rfl rfl (Upd.head others_ne) fun h' F' N' => ?_
  exact ⟨_, R.back (ao := .nview 119 dv (er u)) hm hv F' N' ⟨u, rfl, rfl⟩ _, h⟩
end
/-- NodeView.__init__ -/
theorem nvinit_spec {C : Cx} {fs : List (Addr × Loc)} {L : Addr} {A : Around} {σ : AS} {v dv : Addr} {g d gd nd ad : Addr} {ex : List (Str × AV)} {hd : Bool} {Q : AV → AS → Prop} (hA : Deep A 1)
    (hv : σ.hp v = some (.inst 119 dv)) (hdv : σ.hp dv = some (.sdict [] 0 false)) (G : GI σ g d gd nd ad ex hd) (h : Q (.ref v) (σ.put v (.nview 119 dv (.ref nd)))) :
    RunC ⟨C, fs, L, A⟩ (.call (.ref 79) ⟨[.ref v, .ref g], []⟩) (fun r σ' => r = .ok (.ret .none) ∧ Q (.ref v) σ') σ := by
  have key : RunC ⟨C, fs, L, A⟩ (.call (.ref 79) ⟨[.ref v, .ref g], []⟩) (fun r σ' => ∃ v', r = .ok (.ret v') ∧ (fun a σ' => a = AV.none ∧ Q (.ref v) σ') (er v') σ') σ := by
    refine runC_callkw (Q := fun a σ' => a = AV.none ∧ Q (.ref v) σ') ["self", "graph"] hA (by k_is) (by k_is) (by decide) ?_
    show Run _ (pure [(("self" : Str), Value.ref v), (("graph" : Str), Value.ref g)]) _ _
    refine run_pure ⟨rfl, fun _ σ₁ => σ₁.hp = σ.hp ∧ σ₁.gs = σ.gs ∧ σ₁.loc "self" = some (.ref v) ∧ σ₁.loc "graph" = some (.ref g), fun _ _ => ⟨rfl, rfl, rfl, rfl⟩, fun L' A' σ₁ hf hA' hE ⟨e1, e2, l1, l2⟩ => ?_⟩
    walk_at "st"
    refine s_setattr ?_
    refine n_attr' ?_
    walk_at "st"
    refine gi_node (G.ext hE) ?_
    walk_at "ev"
    walk_at "st"
    refine nv_set (hE.hp _ _ hv) (hE.hp _ _ hdv) ?_
    walk_at "st"
    refine ⟨rfl, ?_⟩
    rw [at_put e1 e2]
    exact h
  intro s R
  refine codeAny_mono (key s R) fun r s' ⟨σ', R', v', e, e1, q⟩ => ?_
  cases er_none e1
  exact ⟨σ', R', e, q⟩
theorem nview_new {C : Cx} {fs : List (Addr × Loc)} {L : Addr} {A : Around} {σ : AS} {g d gd nd ad : Addr} {ex : List (Str × AV)} {hd : Bool} {Q : AV → AS → Prop} (hA : Deep A 2)
    (G : GI σ g d gd nd ad ex hd) (h : ∀ v dv σ', Ext σ σ' → σ'.loc = σ.loc → Fresh σ v → Fresh σ dv → NV σ' v dv nd → Q (.ref v) σ') : RunV ⟨C, fs, L, A⟩ (call (.ref 119) [.ref g]) Q σ := by
  refine run_newobj (fI := 79) (by k_is) (by k_is) (by k_is) fun v dv A' hdv hv hne e1 e2 => ?_
  have hx : Ext σ ((σ.put dv (.sdict [] 0 false)).put v (.inst 119 dv)) := (Ext.refl.put hdv).put hv
  refine nvinit_spec (A := A') ⟨by have := hA.d; have e3 : A'.depth = A.depth + 1 := e1; omega, e2.trans hA.h⟩ put_same (put_ne hne.symm put_same) (G.ext hx) ?_
  exact h v dv _ (hx.put hv) rfl hv hdv ⟨put_same, put_ne hne.symm (put_ne hne.symm put_same)⟩
/-- NodeView.__iter__ -/
theorem nviter_spec {C : Cx} {fs : List (Addr × Loc)} {L : Addr} {A : Around} {σ : AS} {v dv nd : Addr} {kvs : List (Int × AV)} {ep : Nat} {Q : AV → AS → Prop} (hA : Deep A 1)
    (N : NV σ v dv nd) (hk : σ.hp nd = some (.idict kvs ep)) (h : ∀ I, Fresh σ I → Q (.ref I) (σ.put I (KIter nd 0 kvs.length ep))) : RunV ⟨C, fs, L, A⟩ (call (.ref 93) [.ref v]) Q σ := by
  refine run_callpl ["self"] [("self", .ref v)] hA (by k_is) (by k_is) rfl (by decide) (fun _ σ₁ => σ₁.hp = σ.hp ∧ σ₁.gs = σ.gs ∧ σ₁.loc "self" = some (.ref v)) (fun _ _ => ⟨rfl, rfl, rfl⟩) fun L' A' σ₁ hf hA' hE ⟨e1, e2, l1⟩ => ?_
  walk_at "st"
  walk_at "st"
  refine n_call1 ?_
  walk_at "st"
  refine ⟨by walk_at "keep", a_cons ?_⟩
  refine n_attr' ?_
  walk_at "st"
  refine nv_get (N.ext hE) ?_
  walk_at "ev"
  refine a_nil ?_
  refine call_iter ?_
  refine iter_idict (hE.hp _ _ hk) fun I hI => ?_
  walk_at "ev"
  rw [at_put e1 e2]
  exact h I (hE.fresh hI)
section
variable {x : X} {σ : AS} {env : Env}
theorem set_nview {v dv nd : Addr} {ns : List Int} {kvs : List (Int × AV)} {ep : Nat} {Q : AV → AS → Prop} (hA : Deep x.A 1) (N : NV σ v dv nd) (hk : σ.hp nd = some (.idict kvs ep)) (hn : kvs.map (·.1) = ns) (hns : ∀ i ∈ ns, 0 ≤ i ∧ i < 7)
    (h : ∀ a σ' xs' ep', Ext σ σ' → σ'.loc = σ.loc → Fresh σ a → σ'.hp a = some (.set xs' ep') → Small xs' → (∀ j, j ∈ xs' ↔ j ∈ ns) → Q (.ref a) σ') : RunV x (call (.type "set") [.ref v]) Q σ := by
  refine run_call_set fun a A' ha hA' => ?_
  have N' : NV (σ.put a (.set [] 0)) v dv nd := N.ext (Ext.refl.put ha)
  have ty : ∀ s, Rel x.C x.fs x.L (σ.put a (.set [] 0)) s → Looks (model Pg x.C.w) s.heap (typeOf (.ref v)) (.ref 119) := fun s R => by
    obtain ⟨od, I⟩ := nv_inst R N'
    exact I.type
  refine upd_keys (x := x.with A') (hA'.2.trans hA.h) put_same (put_new ha hk) hn hns ?_ ?_ (runV_mono (iter_user (x := x.with A') (cl := 119) (f := 93) (dx := 0) (D := nd) (kvs := kvs) (epd := ep) (o := .inst 0 0) (Q := fun a' σ₁ => ∃ I, a' = .ref I ∧ Fresh (σ.put a (.set [] 0)) I ∧ σ₁ = (σ.put a (.set [] 0)).put I (KIter nd 0 kvs.length ep)) (fun s R => ?_) (by k_is) (by k_is) ?_) ?_) fun σ' xs' ep' e1 e2 e3 e4 => ?_
  · intro s R
    have S1 := looks_mroIn (M := model Pg x.C.w) (R.ok.kx.keeps R.base) (C := 119) (base := .type "set") (r := false) (by k_is)
    have S2 := looks_mroIn (M := model Pg x.C.w) (R.ok.kx.keeps R.base) (C := 119) (base := .type "frozenset") (r := false) (by k_is)
    unfold Builtin.Frozenset.isAnySet isInstance
    have L : Looks (model Pg x.C.w) s.heap (isInstance (.ref v) (.type "set") <||> isInstance (.ref v) (.type "frozenset")) false := by
      unfold isInstance
      exact Looks.andThen ((ty s R).andThen S1) ((ty s R).andThen S2)
    exact L.here ⟨_, R, rfl, rfl⟩
  · intro s R
    exact (ty s R).here ⟨_, R, rfl, rfl⟩
  · obtain ⟨od, I⟩ := nv_inst R N'
    exact ⟨_, _, I⟩
  · exact nviter_spec ⟨by have := hA.d; have e := hA'.1; show A'.depth + 1 < 1000; omega, hA'.2.trans hA.h⟩ N' (put_new ha hk) fun I hI => ⟨I, rfl, put_same, I, rfl, hI, rfl⟩
  · rintro a' σ₁ ⟨I, e1, hI, e2⟩
    subst e2
    exact ⟨I, e1, hI, ExtB.refl.self, put_same⟩
  · exact h a σ' xs' ep' (e1.ext ha) e1.loc ha e2 e3 fun j => by rw [e4]; simp
end
end
-- AzCp
section
section
variable {x : X} {σ : AS} {env : Env}
theorem is_self {a : Addr} {Q : Bool → AS → Prop} (h : Q true σ) : Cmp x .Is (.ref a) (.ref a) Q σ := fun s R => wpAny_bind (wpAny_isSame_ref_self (wpAny_pure ⟨σ, R, true, rfl, h⟩))
end

theorem cp_again {C : Cx} {fs : List (Addr × Loc)} {L : Addr} {A : Around} {σ : AS} {g d a f da : Addr} {kvs : List (Str × AV)} {ep : Nat} {name : Str} {osl : Array (Option Value)} {od : Obj} {tn : Tok} {tp : Value} {P : AV → (Addr → Option AO) → Prop} {Q : AV → AS → Prop} (hA : Deep A 4)
    (h1 : (Mine.hd.heap_39 C.w.params).lookup a = some ⟨.ref 285, some da, .plain, osl⟩) (h2 : (Mine.hd.heap_39 C.w.params).lookup da = some od) (hn : lookIn "attrname" od = some (some (.str name tn))) (hf : lookIn "func" od = some (some (.ref f))) (hkf : KeepOK (.ref f))
    (hg : σ.hp g = some (.inst 583 d)) (hk : σ.hp d = some (.sdict kvs ep true)) (hnone : aget kvs name = none) (hlen : kvs.length < 90)
    (hcall : ∀ (x' : X) σ₁ (Q' : AV → AS → Prop), Deep x'.A 3 → Ext (σ.put d (.sdict kvs ep true)) σ₁ → (∀ v σ₂, Ext σ₁ σ₂ → σ₂.loc = σ₁.loc → P v σ₂.hp → Q' v σ₂) → RunV x' (call (.ref f) [.ref g]) Q' σ₁) (hP : ∀ v hp, P v hp → ∃ r, v = .ref r)
    (h : ∀ v σ₂ ep', Ext (σ.put d (.sdict kvs ep true)) σ₂ → σ₂.loc = σ.loc → P v σ₂.hp → Q v (σ₂.put d (.sdict (aput kvs name v) ep' true))) : RunV ⟨C, fs, L, A⟩ (call (.ref 275) [.ref a, .ref g, tp]) Q σ := by
  refine runV_ofC (runC_callkw ["self", "instance", "owner"] hA (by k_is) (by k_is) (by decide) ?_)
  unfold bindArgs
  simp only [List.forIn_nil, pure_bind]
  refine run_bind (run_seqK (by k_is) ?_)
  show Run _ (pure [(("self" : Str), Value.ref a), (("instance" : Str), Value.ref g), (("owner" : Str), tp)]) _ _
  refine run_pure ⟨rfl, fun _ σ₁ => σ₁.hp = σ.hp ∧ σ₁.gs = σ.gs ∧ σ₁.loc "self" = some (.ref a) ∧ σ₁.loc "instance" = some (.ref g), fun _ _ => ⟨rfl, rfl, rfl, rfl⟩, fun L' A' σ₁ hf' hA' hE ⟨e1, e2, l1, l2⟩ => ?_⟩
  have hg₁ := hE.hp _ _ hg
  have hk₁ := hE.hp _ _ hk
  have hgd : g ≠ d := fun e => by rw [e, hk] at hg; cases hg
  refine s_then (fun σ' => σ' = σ₁) ?_ ?_
  · walk_at "st"
    walk_at "st"
    walk_at "st"
    walk_at "st"
    refine is_none_no rfl Value.noConfusion ?_
    refine ⟨fun e => (nomatch e), fun _ => ?_⟩
    walk_at "st"
    exact ⟨rfl, rfl⟩
  intro σ₂ e
  subst e
  refine s_then (fun σ' => σ' = σ₂) ?_ ?_
  · walk_at "st"
    walk_at "st"
    refine n_attr' ?_
    walk_at "st"
    refine attr_K h1 h2 (by k_is) (by k_is) hn (by k_is) rfl ?_
    walk_at "ev"
    walk_at "st"
    refine is_none_no rfl Value.noConfusion ?_
    refine ⟨fun e => (nomatch e), fun _ => ?_⟩
    walk_at "st"
    exact ⟨rfl, rfl⟩
  intro σ₃ e
  subst e
  refine s_then (fun σ' => σ' = (σ₃.put d (.sdict kvs ep true)).bind "cache" (.ref d)) ?_ ?_
  · refine s_try ?_
    walk_at "st"
    walk_at "st"
    refine n_attr' ?_
    walk_at "st"
    refine attr_dict2 hg₁ hk₁ ?_
    walk_at "ev"
    walk_at "st"
    walk_at "st"
    walk_at "st"
    refine ⟨rfl, ?_⟩
    rw [show σ₃.put d (.sdict kvs ep true) = σ₃ from ?_]
    have : setHp σ₃.hp d (.sdict kvs ep true) = σ₃.hp := funext fun b => by
      unfold setHp
      split
      · rename_i e; rw [e, hk₁]
      · rfl
    show ({ σ₃ with hp := setHp σ₃.hp d (.sdict kvs ep true) } : AS) = σ₃
    rw [this]
  intro σ₄ e
  subst e
  have hx : Ext (σ.put d (.sdict kvs ep true)) ((σ₃.put d (.sdict kvs ep true)).bind "cache" (.ref d)) := by
    refine ⟨fun b ao e => ?_, e2⟩
    refine bind_hp ?_
    by_cases hb : b = d
    · subst hb
      rw [put_same] at e
      rw [put_same]; exact e
    · refine put_ne hb ?_
      have : σ.hp b = some ao := by simpa [AS.put, setHp, hb] using e
      rw [e1]; exact this
  have l3 : ((σ₃.put d (.sdict kvs ep true)).bind "cache" (.ref d)).loc "cache" = some (.ref d) := loc_same
  have l4 : ((σ₃.put d (.sdict kvs ep true)).bind "cache" (.ref d)).loc "self" = some (.ref a) := by walk_at "loc"
  have l5 : ((σ₃.put d (.sdict kvs ep true)).bind "cache" (.ref d)).loc "instance" = some (.ref g) := by walk_at "loc"
  have hk₂ := hx.hp _ _ put_same
  generalize (σ₃.put d (.sdict kvs ep true)).bind "cache" (.ref d) = σ₄ at hx l3 l4 l5 hk₂ ⊢
  walk_at "st"
  walk_at "st"
  refine n_meth2 ?_
  walk_at "st"
  refine meth_sdict hk₂ F.slot_dict_get (by rfl) ⟨by walk_at "keep", ?_⟩
  refine n_attr' ?_
  walk_at "st"
  refine attr_K h1 h2 (by k_is) (by k_is) hn (by k_is) rfl ?_
  walk_at "ev"
  walk_at "st"
  refine get_sdict hk₂ ?_
  rw [hnone]
  show ∀ v, er v = AV.ref 246 → _
  walk_at "ev"
  walk_at "st"
  refine s_then (fun σ' => ∃ v ep' σ₅, σ' = (σ₅.put d (.sdict (aput kvs name v) ep' true)) ∧ Ext (σ.put d (.sdict kvs ep true)) σ₅ ∧ P v σ₅.hp ∧ σ'.loc "val" = some v) ?_ ?_
  · walk_at "st"
    walk_at "st"
    walk_at "st"
    walk_at "st"
    refine is_self ⟨fun _ => ?_, fun e => nomatch e⟩
    walk_at "st"
    walk_at "st"
    refine n_meth1 ?_
    walk_at "st"
    refine meth_K (v := .none) (oc := .none) h1 (by k_is) (by k_is) (by k_is) ?_
    refine attr_K h1 h2 (by k_is) (by k_is) hf (by k_is) rfl ?_
    walk_at "ev"
    refine ⟨hkf, ?_⟩
    walk_at "st"
    refine hcall _ _ _ hA' hx.bind fun v σ₅ k₅ loc₅ p₅ => ?_
    obtain ⟨r, rfl⟩ := hP _ _ p₅
    walk_at "ev"
    walk_at "st"
    walk_at "st"
    refine s_try ?_
    walk_at "st"
    walk_at "st"
    walk_at "st"
    have l6 : σ₅.loc "cache" = some (.ref d) := by rw [loc₅]; walk_at "loc"
    have l7 : σ₅.loc "self" = some (.ref a) := by rw [loc₅]; walk_at "loc"
    walk_at "st"
    refine n_attr' ?_
    walk_at "st"
    refine attr_K h1 h2 (by k_is) (by k_is) hn (by k_is) rfl ?_
    walk_at "ev"
    refine put_sdict (bind_hp (k₅.hp _ _ (bind_hp hk₂))) (by omega) fun ep' => ?_
    walk_at "st"
    walk_at "st"
    walk_at "st"
    exact ⟨rfl, .ref r, ep', σ₅.bind "val" (.ref r), rfl, (hx.bind.trans k₅).bind, p₅, put_loc loc_same⟩
  · rintro σ₆ ⟨v, ep', σ₅, rfl, hx₅, p₅, l8⟩
    obtain ⟨r, rfl⟩ := hP _ _ p₅
    walk_at "st"
    walk_at "st"
    walk_at "st"
    exact h (.ref r) (σ₅.at σ.loc) ep' hx₅.loc rfl p₅

theorem cp_first {C : Cx} {fs : List (Addr × Loc)} {L : Addr} {A : Around} {σ : AS} {g d a f da : Addr} {kvs : List (Str × AV)} {ep : Nat} {name : Str} {osl : Array (Option Value)} {od : Obj} {tn : Tok} {tp : Value} {P : AV → (Addr → Option AO) → Prop} {Q : AV → AS → Prop} (hA : Deep A 4)
    (h1 : (Mine.hd.heap_39 C.w.params).lookup a = some ⟨.ref 285, some da, .plain, osl⟩) (h2 : (Mine.hd.heap_39 C.w.params).lookup da = some od) (hn : lookIn "attrname" od = some (some (.str name tn))) (hf : lookIn "func" od = some (some (.ref f))) (hkf : KeepOK (.ref f))
    (hg : σ.hp g = some (.inst 583 d)) (hk : σ.hp d = some (.sdict kvs ep false)) (hnone : aget kvs name = none) (hlen : kvs.length < 90)
    (hcall : ∀ (x' : X) σ₁ (Q' : AV → AS → Prop), Deep x'.A 3 → Ext (σ.put d (.sdict kvs ep true)) σ₁ → (∀ v σ₂, Ext σ₁ σ₂ → σ₂.loc = σ₁.loc → P v σ₂.hp → Q' v σ₂) → RunV x' (call (.ref f) [.ref g]) Q' σ₁) (hP : ∀ v hp, P v hp → ∃ r, v = .ref r)
    (h : ∀ v σ₂ ep', Ext (σ.put d (.sdict kvs ep true)) σ₂ → σ₂.loc = σ.loc → P v σ₂.hp → Q v (σ₂.put d (.sdict (aput kvs name v) ep' true))) : RunNV ⟨C, fs, L, A⟩ (call (.ref 275) [.ref a, .ref g, tp]) Q σ := by
  refine rNV_ofC (rNC_callkw ["self", "instance", "owner"] hA (by k_is) (by k_is) (by decide) ?_)
  unfold bindArgs
  simp only [List.forIn_nil, pure_bind]
  refine run_bind (run_seqK (by k_is) ?_)
  show Run _ (pure [(("self" : Str), Value.ref a), (("instance" : Str), Value.ref g), (("owner" : Str), tp)]) _ _
  refine run_pure ⟨rfl, fun _ σ₁ => σ₁.hp = σ.hp ∧ σ₁.gs = σ.gs ∧ σ₁.loc "self" = some (.ref a) ∧ σ₁.loc "instance" = some (.ref g), fun _ _ => ⟨rfl, rfl, rfl, rfl⟩, fun L' A' σ₁ hf' hA' hE ⟨e1, e2, l1, l2⟩ => ?_⟩
  have hg₁ := hE.hp _ _ hg
  have hk₁ := hE.hp _ _ hk
  have hgd : g ≠ d := fun e => by rw [e, hk] at hg; cases hg
  refine sN_then (fun σ' => σ' = σ₁) ?_ ?_
  · walk_at "st"
    walk_at "st"
    walk_at "st"
    walk_at "st"
    refine is_none_no rfl Value.noConfusion ?_
    refine ⟨fun e => (nomatch e), fun _ => ?_⟩
    walk_at "st"
    exact ⟨rfl, rfl⟩
  intro σ₂ e
  subst e
  refine sN_then (fun σ' => σ' = σ₂) ?_ ?_
  · walk_at "st"
    walk_at "st"
    refine n_attr' ?_
    walk_at "st"
    refine attr_K h1 h2 (by k_is) (by k_is) hn (by k_is) rfl ?_
    walk_at "ev"
    walk_at "st"
    refine is_none_no rfl Value.noConfusion ?_
    refine ⟨fun e => (nomatch e), fun _ => ?_⟩
    walk_at "st"
    exact ⟨rfl, rfl⟩
  intro σ₃ e
  subst e
  refine sN_here (fun σ' => σ' = (σ₃.put d (.sdict kvs ep true)).bind "cache" (.ref d)) ?_ ?_
  · refine sN_try ?_
    refine sN_cons ?_
    refine sN_assign ?_
    refine nN_attr ?_
    walk_at "st"
    refine attr_dict hg₁ hk₁ ?_
    walk_at "ev"
    walk_at "st"
    refine rN_of ?_
    walk_at "st"
    walk_at "st"
    exact ⟨rfl, rfl⟩
  intro σ₄ e
  subst e
  have hx : Ext (σ.put d (.sdict kvs ep true)) ((σ₃.put d (.sdict kvs ep true)).bind "cache" (.ref d)) := by
    refine ⟨fun b ao e => ?_, e2⟩
    refine bind_hp ?_
    by_cases hb : b = d
    · subst hb
      rw [put_same] at e
      rw [put_same]; exact e
    · refine put_ne hb ?_
      have : σ.hp b = some ao := by simpa [AS.put, setHp, hb] using e
      rw [e1]; exact this
  have l3 : ((σ₃.put d (.sdict kvs ep true)).bind "cache" (.ref d)).loc "cache" = some (.ref d) := loc_same
  have l4 : ((σ₃.put d (.sdict kvs ep true)).bind "cache" (.ref d)).loc "self" = some (.ref a) := by walk_at "loc"
  have l5 : ((σ₃.put d (.sdict kvs ep true)).bind "cache" (.ref d)).loc "instance" = some (.ref g) := by walk_at "loc"
  have hk₂ := hx.hp _ _ put_same
  generalize (σ₃.put d (.sdict kvs ep true)).bind "cache" (.ref d) = σ₄ at hx l3 l4 l5 hk₂ ⊢
  walk_at "st"
  walk_at "st"
  refine n_meth2 ?_
  walk_at "st"
  refine meth_sdict hk₂ F.slot_dict_get (by rfl) ⟨by walk_at "keep", ?_⟩
  refine n_attr' ?_
  walk_at "st"
  refine attr_K h1 h2 (by k_is) (by k_is) hn (by k_is) rfl ?_
  walk_at "ev"
  walk_at "st"
  refine get_sdict hk₂ ?_
  rw [hnone]
  show ∀ v, er v = AV.ref 246 → _
  walk_at "ev"
  walk_at "st"
  refine s_then (fun σ' => ∃ v ep' σ₅, σ' = (σ₅.put d (.sdict (aput kvs name v) ep' true)) ∧ Ext (σ.put d (.sdict kvs ep true)) σ₅ ∧ P v σ₅.hp ∧ σ'.loc "val" = some v) ?_ ?_
  · walk_at "st"
    walk_at "st"
    walk_at "st"
    walk_at "st"
    refine is_self ⟨fun _ => ?_, fun e => nomatch e⟩
    walk_at "st"
    walk_at "st"
    refine n_meth1 ?_
    walk_at "st"
    refine meth_K (v := .none) (oc := .none) h1 (by k_is) (by k_is) (by k_is) ?_
    refine attr_K h1 h2 (by k_is) (by k_is) hf (by k_is) rfl ?_
    walk_at "ev"
    refine ⟨hkf, ?_⟩
    walk_at "st"
    refine hcall _ _ _ hA' hx.bind fun v σ₅ k₅ loc₅ p₅ => ?_
    obtain ⟨r, rfl⟩ := hP _ _ p₅
    walk_at "ev"
    walk_at "st"
    walk_at "st"
    refine s_try ?_
    walk_at "st"
    walk_at "st"
    walk_at "st"
    have l6 : σ₅.loc "cache" = some (.ref d) := by rw [loc₅]; walk_at "loc"
    have l7 : σ₅.loc "self" = some (.ref a) := by rw [loc₅]; walk_at "loc"
    walk_at "st"
    refine n_attr' ?_
    walk_at "st"
    refine attr_K h1 h2 (by k_is) (by k_is) hn (by k_is) rfl ?_
    walk_at "ev"
    refine put_sdict (bind_hp (k₅.hp _ _ (bind_hp hk₂))) (by omega) fun ep' => ?_
    walk_at "st"
    walk_at "st"
    walk_at "st"
    exact ⟨rfl, .ref r, ep', σ₅.bind "val" (.ref r), rfl, (hx.bind.trans k₅).bind, p₅, put_loc loc_same⟩
  · rintro σ₆ ⟨v, ep', σ₅, rfl, hx₅, p₅, l8⟩
    obtain ⟨r, rfl⟩ := hP _ _ p₅
    walk_at "st"
    walk_at "st"
    walk_at "st"
    exact h (.ref r) (σ₅.at σ.loc) ep' hx₅.loc rfl p₅
end
-- AzPr
section
section
variable {σ σ' : AS} {g d gd nd ad : Addr} {ia : Int → Addr} {ns : List Int} {nb : Int → List Int} {ex ex' : List (Str × AV)} {hd : Bool}
theorem GraphAt.redict (G : GraphAt σ g d gd nd ad ia ns nb ex hd) (e : ExtB d σ σ') {ep : Nat} {hd' : Bool} (hk : σ'.hp d = some (.sdict (gkvs gd nd ad ex') ep hd')) (hex : ∀ p ∈ ex', p.1 = "nodes" ∨ p.1 = "adj") : GraphAt σ' g d gd nd ad ia ns nb ex' hd' := by
  obtain ⟨ep₀, hd₀⟩ := G.dict
  have off : ∀ {b kvs ep}, σ.hp b = some (.idict kvs ep) → σ'.hp b = some (.idict kvs ep) := fun {b kvs ep} q => e.hp _ _ (fun r => by rw [r, hd₀] at q; cases q) q
  have dd : ∀ w, DD σ nd ad ia ns w → DD σ' nd ad ia ns w := fun w ⟨b, ep, q1, q2, q3⟩ => ⟨b, ep, q1, off q2, q3⟩
  refine ⟨e.hp _ _ (fun r => by rw [← r, G.inst] at hd₀; cases hd₀) G.inst, ⟨ep, hk⟩, ?_, ?_, fun n hn => ?_, G.inj, G.sep, G.nodup, hex⟩
  · obtain ⟨kvs, ep, q1, q2, q3⟩ := G.node; exact ⟨kvs, ep, off q1, q2, fun p hp => dd _ (q3 p hp)⟩
  · obtain ⟨ep, q⟩ := G.adj; exact ⟨ep, off q⟩
  · obtain ⟨kvs, ep, q1, q2, q3⟩ := G.inner n hn; exact ⟨kvs, ep, off q1, q2, fun p hp => dd _ (q3 p hp)⟩
theorem ExtB.of_put {d : Addr} {ao ao' : AO} {σ₂ : AS} (h : Ext (σ.put d ao) σ₂) (hl : σ₂.loc = σ.loc) : ExtB d σ (σ₂.put d ao') := ⟨fun b ao hb e => put_ne hb (h.hp _ _ (put_ne hb e)), h.gs, hl⟩
/-- what a graph's dict holds besides -/
def exOf (v ad : Addr) (b : Bool) : List (Str × AV) := ("nodes", .ref v) :: if b then [("adj", .ref ad)] else []
theorem exOf_ok {v ad : Addr} {b : Bool} : ∀ p ∈ exOf v ad b, p.1 = "nodes" ∨ p.1 = "adj" := by
  intro p hp
  unfold exOf at hp
  rcases List.mem_cons.mp hp with e | e
  · exact .inl (by rw [e])
  · cases b with
    | false => cases e
    | true => exact .inr (by rw [List.mem_singleton.mp e])
end
/-- the body of adj -/
theorem adjfn_spec {x : X} {σ : AS} {g d gd nd ad : Addr} {ex : List (Str × AV)} {hd : Bool} {Q : AV → AS → Prop} (hA : Deep x.A 3) (G : GI σ g d gd nd ad ex hd)
    (h : ∀ v σ₂, Ext σ σ₂ → σ₂.loc = σ.loc → v = .ref ad → Q v σ₂) : RunV x (call (.ref 354) [.ref g]) Q σ := by
  obtain ⟨C, fs, L, A⟩ := x
  refine run_callpl ["self"] [("self", .ref g)] hA (by k_is) (by k_is) rfl (by decide) (fun _ σ₁ => σ₁.loc "self" = some (.ref g)) (fun _ _ => rfl) fun L' A' σ₁ hf hA' hE l1 => ?_
  walk_at "st"
  walk_at "st"
  refine n_attr' ?_
  walk_at "st"
  refine gi_adj (G.ext hE) ?_
  walk_at "ev"
  exact h _ _ hE.loc rfl rfl
/-- the body of nodes -/
theorem nodesfn_spec {x : X} {σ : AS} {g d gd nd ad : Addr} {ex : List (Str × AV)} {hd : Bool} {Q : AV → AS → Prop} (hA : Deep x.A 3) (G : GI σ g d gd nd ad ex hd)
    (h : ∀ v σ₂, Ext σ σ₂ → σ₂.loc = σ.loc → (∃ a dv, v = .ref a ∧ NV σ₂ a dv nd) → Q v σ₂) : RunV x (call (.ref 420) [.ref g]) Q σ := by
  obtain ⟨C, fs, L, A⟩ := x
  refine run_callpl ["self"] [("self", .ref g)] hA (by k_is) (by k_is) rfl (by decide) (fun _ σ₁ => σ₁.loc "self" = some (.ref g)) (fun _ _ => rfl) fun L' A' σ₁ hf hA' hE l1 => ?_
  walk_at "st"
  walk_at "st"
  refine n_call1 ?_
  walk_at "st"
  refine ⟨by walk_at "keep", a_cons ?_⟩
  walk_at "st"
  refine a_nil ?_
  refine nview_new hA' (G.ext hE) fun v dv σ₂ e₂ _ _ _ N => ?_
  walk_at "ev"
  exact h _ _ (hE.trans e₂).loc rfl ⟨v, dv, rfl, N.at_, N.dict⟩
section
variable {x : X} {σ : AS} {g d gd nd ad : Addr} {ia : Int → Addr} {ns : List Int} {nb : Int → List Int} {ex ex' : List (Str × AV)} {hd : Bool}
theorem GI.handed {ep : Nat} (G : GraphAt σ g d gd nd ad ia ns nb ex hd) : GI (σ.put d (.sdict (gkvs gd nd ad ex) ep true)) g d gd nd ad ex true := by
  obtain ⟨ep₀, hd₀⟩ := G.dict
  exact ⟨put_ne (fun r => by have := G.inst; rw [r, hd₀] at this; cases this) G.inst, ⟨ep, put_same⟩, G.exs⟩
theorem look_none {g cl d : Addr} {kvs : List (Str × AV)} {ep : Nat} {hd : Bool} {name : Str} {C : Cx} {fs : List (Addr × Loc)} {L : Addr} {s : Shared} (R : Rel C fs L σ s) (hg : σ.hp g = some (.inst cl d)) (hk : σ.hp d = some (.sdict kvs ep hd)) (hv : aget kvs name = none) :
    ∃ od, InstAt s.heap g { cls := .ref cl, dict := some d, data := .plain } cl (some od) ∧ lookIn name od = some none := by
  obtain ⟨es, kvs', I, hd', h1, h2, h3, h4⟩ := inst_at R hg hk
  have hl : valueAt kvs' name = none := by
    rw [← h4, aget_er] at hv
    cases e : valueAt kvs' name with
    | none => rfl
    | some u => rw [e] at hv; cases hv
  exact ⟨_, I, by rw [lookIn_pairs rfl h2, hl]⟩
/-- G.nodes the first time -/
theorem first_nodes {expr : Bool} {Q : AV → AS → Prop} (hA : Deep x.A 4) (G : GraphAt σ g d gd nd ad ia ns nb [] false)
    (h : ∀ v dv σ', ExtB d σ σ' → GraphAt σ' g d gd nd ad ia ns nb (exOf v ad false) true → NV σ' v dv nd → Q (.ref v) σ') : RunNV x (getAttr (.ref g) "nodes" expr) Q σ := by
  intro s R
  obtain ⟨ep, hk⟩ := G.dict
  obtain ⟨od, I, hl⟩ := look_none R G.inst hk (name := "nodes") (by rfl)
  have X := R.ok.kx.keeps R.base
  refine getN_bind X I (by k_is) (find_cached _ (a := 422) (by k_is) (by k_is) (by k_is) (by k_is) (by decide) od hl) (by k_is) ?_
  have key : RunNV (x.with x.A.in1) (call (.ref 275) [.ref 422, .ref g, .ref 583]) (fun a σ' => ∃ v, a = .ref v ∧ Q (.ref v) σ') σ := by
    refine cp_first (f := 420) (name := "nodes") (P := fun v hp => ∃ a dv, v = .ref a ∧ hp a = some (.nview 119 dv (.ref nd)) ∧ hp dv = some (.sdict [] 0 false)) hA.in1 (by k_is) (by k_is) (by rfl) (by rfl) (by walk_at "keep") G.inst hk (by rfl) (by simp [gkvs, exOf]) (fun x' σ₁ Q' hA₁ e₁ q => ?_) ?_ fun v σ₂ ep' e₂ l₂ ⟨a, dv, e, n1, n2⟩ => ?_
    · exact nodesfn_spec hA₁ ((GI.handed G).ext e₁) fun v σ₂ e₂ l₂ ⟨a, dv, e, N⟩ => q v σ₂ e₂ l₂ ⟨a, dv, e, N.at_, N.dict⟩
    · rintro v hp ⟨a, dv, e, _⟩; exact ⟨a, e⟩
    · subst e
      have hd₂ := e₂.hp _ _ put_same
      refine ⟨a, rfl, h a dv _ (ExtB.of_put e₂ l₂) (G.redict (ExtB.of_put e₂ l₂) (put_same) exOf_ok) ⟨put_ne (fun r => ?_) n1, put_ne (fun r => ?_) n2⟩⟩
      · rw [r, hd₂] at n1; cases n1
      · rw [r, hd₂] at n2; cases n2
  refine wpN_mono (key _ (R.toks _)) (fun v s' ⟨σ', R', a, e, q⟩ => ?_) fun _ _ e => e.elim
  cases er_ref e
  rw [handedOut_of rfl]
  exact wpN_pure ⟨σ', R', q⟩
/-- G.nodes later -/
theorem get_nodes {v : Addr} {b : Bool} {expr : Bool} {Q : AV → AS → Prop} (G : GraphAt σ g d gd nd ad ia ns nb (exOf v ad b) true) (h : Q (.ref v) σ) : RunV x (getAttr (.ref g) "nodes" expr) Q σ := by
  obtain ⟨ep, hk⟩ := G.dict
  exact attr_own G.inst hk (v := .ref v) rfl (by k_is) (find_kept _ (a := 422) (by k_is) (by k_is) (by k_is) (by k_is)) (fun _ => AV.noConfusion) h
/-- G.adj -/
theorem get_adjp {v : Addr} {b : Bool} {expr : Bool} {Q : AV → AS → Prop} (hA : Deep x.A 4) (G : GraphAt σ g d gd nd ad ia ns nb (exOf v ad b) true)
    (h : ∀ σ', ExtB d σ σ' → GraphAt σ' g d gd nd ad ia ns nb (exOf v ad true) true → Q (.ref ad) σ') : RunV x (getAttr (.ref g) "adj" expr) Q σ := by
  obtain ⟨ep, hk⟩ := G.dict
  cases b with
  | true => exact attr_own G.inst hk (v := .ref ad) rfl (by k_is) (find_kept _ (a := 356) (by k_is) (by k_is) (by k_is) (by k_is)) (fun _ => AV.noConfusion) (h σ ExtB.refl G)
  | false =>
    intro s R
    obtain ⟨od, I, hl⟩ := look_none R G.inst hk (name := "adj") (by rfl)
    have X := R.ok.kx.keeps R.base
    refine get_bind X I (by k_is) (find_cached _ (a := 356) (by k_is) (by k_is) (by k_is) (by k_is) (by decide) od hl) (by k_is) ?_
    have key : RunV (x.with x.A.in1) (call (.ref 275) [.ref 356, .ref g, .ref 583]) (fun a σ' => a = .ref ad ∧ Q (.ref ad) σ') σ := by
      refine cp_again (f := 354) (name := "adj") (P := fun v hp => v = .ref ad) hA.in1 (by k_is) (by k_is) (by rfl) (by rfl) (by walk_at "keep") G.inst hk (by rfl) (by simp [gkvs, exOf]) (fun x' σ₁ Q' hA₁ e₁ q => ?_) ?_ fun v σ₂ ep' e₂ l₂ e => ?_
      · exact adjfn_spec hA₁ ((GI.handed G).ext e₁) fun v σ₂ e₂ l₂ e => q v σ₂ e₂ l₂ e
      · rintro v hp e; exact ⟨ad, e⟩
      · subst e
        exact ⟨rfl, h _ (ExtB.of_put e₂ l₂) (G.redict (ExtB.of_put e₂ l₂) (put_same) exOf_ok)⟩
    refine wpAny_mono (key _ (R.toks _)) (fun v s' ⟨σ', R', e, q⟩ => ?_) fun _ _ e => e.elim
    cases er_ref e
    rw [handedOut_of rfl]
    exact wpAny_pure ⟨σ', R', q⟩
end
/-- Graph.__getitem__ -/
theorem getitem_spec {C : Cx} {fs : List (Addr × Loc)} {L : Addr} {A : Around} {σ : AS} {g d gd nd ad v : Addr} {ia : Int → Addr} {ns : List Int} {nb : Int → List Int} {b : Bool} {n : Int} {t : Tok} {Q : AV → AS → Prop} (hA : Deep A 5)
    (G : GraphAt σ g d gd nd ad ia ns nb (exOf v ad b) true) (hn : n ∈ ns) (h : ∀ σ', ExtB d σ σ' → GraphAt σ' g d gd nd ad ia ns nb (exOf v ad true) true → Q (.ref (ia n)) σ') : RunV ⟨C, fs, L, A⟩ (call (.ref 385) [.ref g, .int n t]) Q σ := by
  refine run_callpl ["self", "n"] [("self", .ref g), ("n", .int n t)] hA (by k_is) (by k_is) rfl (by decide) (fun _ σ₁ => σ₁.hp = σ.hp ∧ σ₁.gs = σ.gs ∧ σ₁.loc "self" = some (.ref g) ∧ σ₁.loc "n" = some (.int n)) (fun _ _ => ⟨rfl, rfl, rfl, rfl⟩) fun L' A' σ₁ hf hA' hE ⟨e1, e2, l1, l2⟩ => ?_
  walk_at "st"
  walk_at "st"
  walk_at "st"
  refine n_attr' ?_
  walk_at "st"
  refine get_adjp hA' (G.keep (.ext hE)) fun σ₂ e₂ G₂ => ?_
  walk_at "ev"
  have l2' : σ₂.loc "n" = some (.int n) := by rw [e₂.loc]; exact l2
  walk_at "st"
  obtain ⟨epa, hadj⟩ := G₂.adj
  refine sub_idict hadj (v := .ref (ia n)) (aget_adj ia hn) ?_
  walk_at "ev"
  exact h _ ⟨fun b ao hb e => loc_hp (e₂.hp _ _ hb (hE.hp _ _ e)), e₂.gs.trans hE.gs, rfl⟩ (G₂.keep KeepG.refl)
section
variable {x : X} {σ : AS} {g d gd nd ad v : Addr} {ia : Int → Addr} {ns : List Int} {nb : Int → List Int}
theorem sub_graph {value slice : Expr} {b : Bool} {n : Int} {t : Tok} {Q : AV → AS → Prop} (hA : Deep x.A 5) (G : GraphAt σ g d gd nd ad ia ns nb (exOf v ad b) true) (hn : n ∈ ns)
    (h : ∀ σ', ExtB d σ σ' → GraphAt σ' g d gd nd ad ia ns nb (exOf v ad true) true → Q (.ref (ia n)) σ')
    (hsl : subscripted slice true (.ref g) (.int n t) = runValue (.builtin "lifetime.subscript" ⟨[.ref g, .int n t], []⟩) := by with_unfolding_all rfl) : RunV x (subscriptTail value slice (.ref g) (.int n t)) Q σ := by
  intro s R
  obtain ⟨ox, od, I⟩ := gi_inst G.gi s R
  obtain ⟨m, hm, F⟩ := R.fr
  exact sub_K F R.ok.kx I (f := 385) (by k_is) (by k_is) (by k_is) (getitem_spec (C := x.C) (fs := x.fs) (L := x.L) hA.in1 G hn h s R) hsl
end
end
-- AzEn
section
/-- several objects have changed or are new -/
theorem Rel.remake {C : Cx} {fs : List (Addr × Loc)} {L : Addr} {σ σ' : AS} {s : Shared} (R : Rel C fs L σ s) {h' : Heap} (T : List Addr) (tk : Nat) (hl : σ'.loc = σ.loc) (hg : σ'.gs = σ.gs)
    (hT : ∀ a ∈ T, (∃ ao, σ.hp a = some ao) ∨ s.heap.objs.size ≤ a) (keep : ∀ b o, b ∉ T → s.heap.get? b = some o → h'.get? b = some o)
    (new : ∀ a ao, σ'.hp a = some ao → (a ∉ T ∧ σ.hp a = some ao) ∨ (a ∈ T ∧ ∃ o, h'.get? a = some o ∧ OR C.w ao o)) : Rel C fs L σ' { s with heap := h', toks := tk } := by
  have hin : ∀ a ∈ T, C.h₀.objs.size ≤ a ∧ a ≠ L ∧ a ∉ fs.map (·.1) := fun a ha => by
    rcases hT a ha with ⟨ao, e⟩ | e
    · obtain ⟨q1, q2, q3, _⟩ := R.obj a ao e; exact ⟨q1, q2, q3⟩
    · refine ⟨R.high _ e, fun q => ?_, fun q => ?_⟩
      · exact absurd (Nat.lt_of_lt_of_le (R.low L (.head _)) (q ▸ e)) (Nat.lt_irrefl _)
      · exact absurd (Nat.lt_of_lt_of_le (R.low a (.tail _ q)) e) (Nat.lt_irrefl _)
  have nL : L ∉ T := fun q => (hin L q).2.1 rfl
  refine ⟨R.ok, fun b o e => keep b o (fun q => ?_) (R.base b o e), fun a ao e => ?_, ?_, fun p hp => ?_, R.nd, R.new, hg ▸ R.gens, R.os⟩
  · have := none_of_le (h := C.h₀) (hin b q).1
    rw [this] at e; cases e
  · rcases new a ao e with ⟨q, e'⟩ | ⟨q, o, ho, hor⟩
    · obtain ⟨q1, q2, q3, o, q4, q5⟩ := R.obj a ao e'
      exact ⟨q1, q2, q3, o, keep a o q q4, q5⟩
    · obtain ⟨q1, q2, q3⟩ := hin a q
      exact ⟨q1, q2, q3, o, ho, hor⟩
  · obtain ⟨m, hm, hx⟩ := R.loc
    rw [hl]
    exact ⟨m, hm.at' fun o e => keep L o nL e, hx⟩
  · obtain ⟨m, hm, hx⟩ := R.frs p hp
    have : p.1 ∉ T := fun q => (hin _ q).2.2 (List.mem_map_of_mem hp)
    exact ⟨m, hm.at' fun o e => keep _ o this e, hx⟩
section
variable {x : X} {α β : Type} {σ : AS} {env : Env}
abbrev EnumO (it : Addr) (i : Nat) (old : Value) : AO := .raw { cls := .type "enumerate", dict := none, data := .fields #[.none, .bool false, .ref it, rawInt (i : Int), .none, old], slots := #[] }
abbrev EnumX (it : Addr) (i : Nat) (old : Value) (a : Addr) : AO := .raw { cls := .type "enumerate", dict := none, data := .fields #[rawInt a, .bool false, .ref it, rawInt (i : Int), .none, old], slots := #[] }
theorem raw_at {C : Cx} {fs : List (Addr × Loc)} {L : Addr} {s : Shared} (R : Rel C fs L σ s) {a : Addr} {o : Obj} (h : σ.hp a = some (.raw o)) : s.heap.get? a = some o := by
  obtain ⟨o', ho, rfl, _⟩ := R.get h
  exact ho
theorem lit_at {C : Cx} {fs : List (Addr × Loc)} {L : Addr} {s : Shared} (R : Rel C fs L σ s) {I l : Addr} {i : Nat} (hI : σ.hp I = some (LIter l i)) : s.heap.IsListIter I l i := by
  obtain ⟨o, h1, h2, h3⟩ := ob_at R hI; exact ⟨o, h1, h2, h3⟩
theorem call_enum {l : Addr} {vs : List AV} {Q : AV → AS → Prop} (hl : σ.hp l = some (.list vs)) (h : ∀ e it, Fresh σ e → Fresh σ it → e ≠ it → Q (.ref e) ((σ.put it (LIter l 0)).put e (EnumO it 0 .none))) : RunV x (call (.type "enumerate") [.ref l]) Q σ := by
  intro s R
  obtain ⟨xs, n, ho, hx, hL⟩ := list_at R hl
  refine call_enumerate_list hL fun h' he hi hz hk => ?_
  have hne : s.heap.objs.size + 1 ≠ s.heap.objs.size := Nat.succ_ne_self _
  refine ⟨_, R.remake (σ' := (σ.put s.heap.objs.size (LIter l 0)).put (s.heap.objs.size + 1) (EnumO s.heap.objs.size 0 .none)) [s.heap.objs.size, s.heap.objs.size + 1] s.toks rfl rfl (fun a ha => .inr ?_) (fun b o _ e => hk b o e) (fun a ao e => ?_), h _ _ (R.fresh (Nat.le_succ _)) (R.fresh (Nat.le_refl _)) hne⟩
  · rcases List.mem_cons.mp ha with rfl | ha
    · exact Nat.le_refl _
    · rw [List.mem_singleton.mp ha]; exact Nat.le_succ _
  · by_cases h1 : a = s.heap.objs.size + 1
    · subst h1
      rw [put_same] at e; cases e
      exact .inr ⟨by simp, _, he, rfl, rfl⟩
    · by_cases h2 : a = s.heap.objs.size
      · subst h2
        have e' : some (LIter l 0) = some ao := by rw [← e]; exact (put_ne hne.symm put_same).symm
        cases e'
        obtain ⟨o, q1, q2, q3⟩ := hi
        exact .inr ⟨by simp, o, q1, q2, q3⟩
      · have e' : σ.hp a = some ao := by simpa [AS.put, setHp, h1, h2] using e
        exact .inl ⟨by simp [h1, h2], e'⟩
/-- the next pair of an enumeration -/
theorem next_enum {e it l : Addr} {i : Nat} {old : Value} {vs : List AV} {Q : Option Value → AS → Prop} (hh : x.A.handled = none) (he : σ.hp e = some (EnumO it i old)) (hi : σ.hp it = some (LIter l i)) (hl : σ.hp l = some (.list vs))
    (hn : ∀ (hlt : i < vs.length), ∀ T u, er u = vs[i] → Fresh σ T → Q (some (.ref T)) (((σ.put it (LIter l (i + 1))).put e (EnumX it (i + 1) u T)).put T (.tup [.int i, vs[i]]))) (hend : vs.length ≤ i → Q none (σ.drop it)) : Run x (pyNext (.ref e)) Q σ := by
  intro s R
  obtain ⟨xs, n, ho, hx, hL⟩ := list_at R hl
  have hlen : xs.size = vs.length := by rw [← hx]; simp
  have hei : e ≠ it := fun q => by rw [q, hi] at he; cases he
  by_cases hlt : i < vs.length
  · have hlt' : i < xs.size := hlen ▸ hlt
    have hxi : er xs[i] = vs[i] := by
      have : (xs.toList.map er)[i]? = vs[i]? := by rw [hx]
      simpa [hlt, hlt'] using this
    refine wpAny_pyNext_enum_item (raw_at R he) (lit_at R hi) hL (x := xs[i]) (by simp [hlt']) hei fun h' q1 q2 q3 q4 q5 => ?_
    have fT : Fresh σ s.heap.objs.size := R.fresh (Nat.le_refl _)
    have eT : e ≠ s.heap.objs.size := fT _ _ he
    have iT : it ≠ s.heap.objs.size := fT _ _ hi
    refine ⟨_, R.remake (σ' := ((σ.put it (LIter l (i + 1))).put e (EnumX it (i + 1) xs[i] s.heap.objs.size)).put s.heap.objs.size (.tup [.int i, vs[i]])) [e, it, s.heap.objs.size] (s.toks + 1) rfl rfl (fun a ha => ?_) (fun b o hb e => q5 b o (fun q => hb (by simp [q])) (fun q => hb (by simp [q])) e) (fun a ao q => ?_), hn hlt s.heap.objs.size _ hxi fT⟩
    · rcases List.mem_cons.mp ha with rfl | ha
      · exact .inl ⟨_, he⟩
      · rcases List.mem_cons.mp ha with rfl | ha
        · exact .inl ⟨_, hi⟩
        · rw [List.mem_singleton.mp ha]; exact .inr (Nat.le_refl _)
    · by_cases h1 : a = s.heap.objs.size
      · subst h1
        rw [put_same] at q; cases q
        refine .inr ⟨by simp, _, q3, _, 0, rfl, ?_⟩
        rw [← hxi]; rfl
      · by_cases h2 : a = e
        · subst h2
          have q' : some (EnumX it (i + 1) xs[i] s.heap.objs.size) = some ao := by rw [← q]; exact (put_ne h1 put_same).symm
          cases q'
          exact .inr ⟨by simp, _, q1, by simp, rfl⟩
        · by_cases h3 : a = it
          · subst h3
            have q' : some (LIter l (i + 1)) = some ao := by rw [← q]; exact (put_ne h1 (put_ne h2 put_same)).symm
            cases q'
            obtain ⟨o, w1, w2, w3⟩ := q2
            exact .inr ⟨by simp, o, w1, w2, w3⟩
          · have q' : σ.hp a = some ao := by simpa [AS.put, setHp, h1, h2, h3] using q
            exact .inl ⟨by simp [h1, h2, h3], q'⟩
  · refine wpAny_pyNext_enum_end hh (raw_at R he) (lit_at R hi) hL (by simp [hlen]; omega) fun h' hs => ?_
    exact ⟨_, R.forget hi hs s.toks, hend (Nat.not_lt.mp hlt)⟩
theorem lot_enum {elts : List Expr} {k} {pos : Pos} {e it T : Addr} {i : Nat} {u : Value} {Q : Unit → AS → Prop} (he : σ.hp e = some (EnumX it i u T)) (h : Q () (σ.put e (EnumO it i u))) : Run x (letOwnedTupleGo (.Tuple elts k pos) (.ref e) (.ref T)) Q σ := by
  intro s R
  refine wpAny_letOwnedTupleGo_enum (raw_at R he) fun h' he' hs => ?_
  exact ⟨_, R.upd (ao := EnumO it i u) he hs.extBut he' ⟨rfl, rfl⟩ s.toks, h⟩
theorem iter_enum {e it : Addr} {i : Nat} {old : Value} {Q : AV → AS → Prop} (he : σ.hp e = some (EnumO it i old)) (h : Q (.ref e) σ) : RunV x (pyIter (.ref e)) Q σ := by
  intro s R
  exact wpAny_pyIter_enum (raw_at R he) ⟨σ, R, h⟩
theorem self_enum {σ : AS} {e it : Addr} {i : Nat} {old : Value} (h : σ.hp e = some (EnumO it i old)) : IterSelf σ e := fun _ _ _ e q => iter_enum (e.hp _ _ h) q

/-- l[k:] -/
theorem n_slice_from {value lo : Expr} {p pos : Pos} {Q : AV → AS → Prop}
    (h : RunV x (eval value env) (fun a σ₁ => ∃ l, a = .ref l ∧ RunV x (eval lo env) (fun b σ₂ => ∃ (k : Nat) (vs : List AV), b = .int k ∧ σ₂.hp l = some (.list vs) ∧ vs.length < 900 ∧ ∀ l', Fresh σ₂ l' → Q (.ref l') (σ₂.put l' (.list (vs.drop k)))) σ₁) σ)
    (ht : ∀ o r, letTemporaryGo value o r = pure () := by intro _ _; rfl) : RunV x (eval (.Subscript value (.Slice (some lo) none none p) pos) env) Q σ := by
  intro s R
  refine wpAny_Subscript_list_slice ?_ ht
  refine run_to h R fun v σ₁ s₁ R₁ ⟨l, ev, h₁⟩ => ?_
  cases er_ref ev
  rw [evalPart_some]
  refine run_to h₁ R₁ fun b σ₂ s₂ R₂ ⟨k, vs, eb, hl, hz, h₂⟩ => ?_
  obtain ⟨t, rfl⟩ := er_int eb
  rw [evalPart_none]
  refine wpAny_pure ?_
  obtain ⟨xs, n, ho, hx, hL⟩ := list_at R₂ hl
  refine ⟨l, xs, some (k : Int), none, rfl, hL, fits (by have : xs.size = vs.length := by { rw [← hx]; simp }; omega), .int _ _, .none, ?_⟩
  have R₃ := R₂.grown (h' := s₂.heap.push { cls := .type "slice", data := .fields #[.int k t, .none, .none] }) (fun b o e => Heap.get?_push_of_some _ e) s₂.toks
  rw [slicePick_from']
  have R₄ := R₃.push (ao := .list (vs.drop k)) (o := { cls := .type "list", data := .seq (xs.toList.drop k).toArray }) ⟨_, 0, rfl, by rw [← hx]; simp⟩ s₂.toks
  have e0 : (s₂.heap.push { cls := .type "slice", data := .fields #[.int k t, .none, .none] }).objs.size = s₂.heap.objs.size + 1 := Heap.size_push ..
  simp only [e0] at R₄
  exact ⟨_, R₄, h₂ _ (R₂.fresh (Nat.le_succ _))⟩

theorem add_int {a b : Int} {t u : Tok} {Q : AV → AS → Prop} (h : Q (.int (a + b)) σ) : RunV x (binaryOp .Add (.int a t) (.int b u)) Q σ := fun s R => AutoIntOps.add_0 ⟨σ, R.toks _, h⟩
theorem sub_int {a b : Int} {t u : Tok} {Q : AV → AS → Prop} (h : Q (.int (a - b)) σ) : RunV x (binaryOp .Sub (.int a t) (.int b u)) Q σ := fun s R => AutoIntOps.sub_0 ⟨σ, R.toks _, h⟩
theorem mod_int {a b : Int} {t u : Tok} {Q : AV → AS → Prop} (hb : b ≠ 0) (h : Q (.int (a.fmod b)) σ) : RunV x (binaryOp .Mod (.int a t) (.int b u)) Q σ := fun s R => AutoIntOps.mod_1 (by simpa using hb) ⟨σ, R.toks _, h⟩
theorem div_int {a b : Int} {t u : Tok} {Q : AV → AS → Prop} (hb : b ≠ 0) (hp : Builtin.divisionGoesByPylong a b = false) (h : Q (.int (a.fdiv b)) σ) : RunV x (binaryOp .FloorDiv (.int a t) (.int b u)) Q σ := fun s R => AutoIntOps.floordiv_1 (by simpa using hb) (by rw [hp]; exact Bool.false_ne_true) ⟨σ, R.toks _, h⟩

/-- ranges -/
abbrev RangeO (a b : Int) (t u v : Tok) : AO := .raw { cls := .type "range", dict := none, data := .fields #[.int a t, .int b u, .int 1 v], slots := #[] }
abbrev RIter (i n : Nat) : AO := .raw { cls := .type "range_iterator", dict := none, data := .fields #[rawInt (i : Int), rawInt ((n : Int) - i), rawInt 1], slots := #[] }
theorem call_range {n : Int} {t : Tok} {Q : AV → AS → Prop} (h : ∀ r u v, Fresh σ r → Q (.ref r) (σ.put r (RangeO 0 n u t v))) : RunV x (call (.type "range") [.int n t]) Q σ := by
  intro s R
  exact call_range_1 ⟨_, R.push (ao := RangeO 0 n s.toks t (s.toks + 1)) ⟨rfl, rfl⟩ _, h _ _ _ (R.fresh (Nat.le_refl _))⟩
theorem iter_range {r : Addr} {n : Nat} {t u v : Tok} {Q : AV → AS → Prop} (hr : σ.hp r = some (RangeO 0 n t u v)) (hn : n < 1000) (h : ∀ I, Fresh σ I → Q (.ref I) (σ.put I (RIter 0 n))) : RunV x (pyIter (.ref r)) Q σ := by
  intro s R
  have e : Builtin.Range.rangeSize 0 n 1 = n := by unfold Builtin.Range.rangeSize; simp; omega
  refine wpAny_pyIter_range (raw_at R hr) ?_ ?_
  · unfold Builtin.Range.small
    rw [e]
    unfold Builtin.Range.rangeFitsLong
    simp
    omega
  · rw [e]
    refine ⟨_, R.push (ao := RIter 0 n) ⟨?_, rfl⟩ s.toks, h _ (R.fresh (Nat.le_refl _))⟩
    simp
theorem next_range {I : Addr} {i n : Nat} {Q : Option Value → AS → Prop} (hh : x.A.handled = none) (hI : σ.hp I = some (RIter i n)) (hle : i ≤ n) (hn : i < n → ∀ t, Q (some (.int i t)) (σ.put I (RIter (i + 1) n))) (he : i = n → Q none (σ.drop I)) : Run x (pyNext (.ref I)) Q σ := by
  intro s R
  by_cases hlt : i < n
  · refine wpAny_pyNext_range_item (raw_at R hI) (by omega) fun h' hi hs => ?_
    refine ⟨_, R.upd (ao := RIter (i + 1) n) hI hs.extBut hi ⟨?_, rfl⟩ _, hn hlt _⟩
    have e1 : ((i + 1 : Nat) : Int) = i + 1 := by omega
    have e2 : (n : Int) - ((i + 1 : Nat) : Int) = n - i - 1 := by omega
    rw [e2, e1]
  · refine wpAny_pyNext_range_end hh (raw_at R hI) (by omega) fun h' hs => ?_
    exact ⟨_, R.forget hI hs s.toks, he (by omega)⟩
theorem iter_riter {I : Addr} {i n : Nat} {Q : AV → AS → Prop} (hI : σ.hp I = some (RIter i n)) (h : Q (.ref I) σ) : RunV x (pyIter (.ref I)) Q σ := by
  intro s R
  exact wpAny_pyIter_rangeiter (raw_at R hI) ⟨σ, R, h⟩
theorem self_range {σ : AS} {I : Addr} {i n : Nat} (h : σ.hp I = some (RIter i n)) : IterSelf σ I := fun _ _ _ e q => iter_riter (e.hp _ _ h) q

/-- a turn of the first of two clauses -/
theorem turn_list2 {elt t0 i0 t1 i1 : Expr} {ifs : List Expr} {scope : Scope} {pos : Pos} {it acc : Value} {P : AS → Prop} {n : Nat} {I : Nat → AS → Prop}
    (h : Run x (pyNext it) (fun r σ₁ => match r with
      | none => P σ₁
      | some v => Run x (letOwnedTupleGo t0 it v) (fun _ σ₂ => Run x (assign t0 env v) (fun _ σ₃ => RunV x (eval i1 env) (fun a σ₄ => ∀ w, er w = a → RunV x (pyIter w) (fun b σ₅ => ∀ it1, er it1 = b →
          RunC x (.compStart (.ListComp elt [⟨t0, i0, [], 0⟩, ⟨t1, i1, ifs, 0⟩] scope pos) 1 it1 acc env) (fun r σ₆ => r = .ok .next ∧ ∃ m, m < n ∧ I m σ₆) σ₅) σ₄) σ₃) σ₂) σ₁) σ)
    (hs : ∀ y, foldedSetIterable i1 env y = pure y := by intro _; rfl) :
    Run x (compTurn (.ListComp elt [⟨t0, i0, [], 0⟩, ⟨t1, i1, ifs, 0⟩] scope pos) 0 it acc env) (fun fin σ' => (fin = .done .next ∧ P σ') ∨ (fin = .again (.compLoop (.ListComp elt [⟨t0, i0, [], 0⟩, ⟨t1, i1, ifs, 0⟩] scope pos) 0 it acc env) ∧ ∃ m, m < n ∧ I m σ')) σ := by
  have e : compTurn (.ListComp elt [⟨t0, i0, [], 0⟩, ⟨t1, i1, ifs, 0⟩] scope pos) 0 it acc env = (do
      standAt i0.pos
      match ← pyNext it with
      | none => pure (.done .next)
      | some v =>
        letOwnedTupleGo t0 it v
        assign t0 env v
        let mut ok := true
        for c in ([] : List Expr) do
          if ok then ok ← isTrue c env (eval c env)
        if ok then
          let y ← eval i1 env
          standAt i1.pos
          let y ← foldedSetIterable i1 env y
          let _ ← runOwn (.compStart (.ListComp elt [⟨t0, i0, [], 0⟩, ⟨t1, i1, ifs, 0⟩] scope pos) 1 (← holding [y] (pyIter y)) acc env) env
        again (.compLoop (.ListComp elt [⟨t0, i0, [], 0⟩, ⟨t1, i1, ifs, 0⟩] scope pos) 0 it acc env)) := rfl
  rw [e]
  refine run_bind (run_standAt (run_bind (run_mono h fun r σ₁ h₁ => ?_)))
  cases r with
  | none => exact run_pure (.inl ⟨rfl, h₁⟩)
  | some v =>
    refine run_bind (run_mono h₁ fun _ σ₂ h₂ => run_bind (run_mono h₂ fun _ σ₃ h₃ => ?_))
    simp only [List.forIn_nil, pure_bind, if_true]
    refine runV_bind (runV_mono h₃ fun a σ₄ h₄ w hw => run_bind (run_standAt ?_))
    rw [hs]
    refine run_bind (run_pure (runV_bind (runV_hold (runV_mono (h₄ w hw) fun b σ₅ h₅ it1 hit => ?_))))
    refine run_bind (run_mono (Q := fun _ σ' => ∃ m, m < n ∧ I m σ') ?_ fun _ σ' q => ?_)
    · intro s R
      refine wpAny_runOwn (codeAny_mono (h₅ it1 hit s R) fun r s' ⟨σ', R', e, q⟩ => ?_)
      subst e
      exact ⟨σ', R', q⟩
    · exact run_pure (.inr ⟨rfl, q⟩)
/-- a turn of the second of two clauses -/
theorem turn_list2i {elt t0 i0 t1 i1 : Expr} {ifs : List Expr} {scope : Scope} {pos : Pos} {it acc : Value} {P : AS → Prop} {n : Nat} {I : Nat → AS → Prop}
    (h : Run x (pyNext it) (fun r σ₁ => match r with
      | none => P σ₁
      | some v => Run x (letOwnedTupleGo t1 it v) (fun _ σ₂ => Run x (assign t1 env v) (fun _ σ₃ => Tests x ifs env (fun ok σ₄ =>
          (ok = true → RunV x (eval elt env) (fun a σ₅ => ∀ u, er u = a → RunV x (call (.builtin "list.append") [acc, u]) (fun _ σ₆ => ∃ m, m < n ∧ I m σ₆) σ₅) σ₄) ∧ (ok = false → ∃ m, m < n ∧ I m σ₄)) σ₃) σ₂) σ₁) σ) :
    Run x (compTurn (.ListComp elt [⟨t0, i0, [], 0⟩, ⟨t1, i1, ifs, 0⟩] scope pos) 1 it acc env) (fun fin σ' => (fin = .done .next ∧ P σ') ∨ (fin = .again (.compLoop (.ListComp elt [⟨t0, i0, [], 0⟩, ⟨t1, i1, ifs, 0⟩] scope pos) 1 it acc env) ∧ ∃ m, m < n ∧ I m σ')) σ := by
  have e : compTurn (.ListComp elt [⟨t0, i0, [], 0⟩, ⟨t1, i1, ifs, 0⟩] scope pos) 1 it acc env = (do
      standAt i1.pos
      match ← pyNext it with
      | none => pure (.done .next)
      | some v =>
        letOwnedTupleGo t1 it v
        assign t1 env v
        let mut ok := true
        for c in ifs do
          if ok then ok ← isTrue c env (eval c env)
        if ok then
          (do let _ ← call (.builtin "list.append") [acc, ← eval elt env])
        again (.compLoop (.ListComp elt [⟨t0, i0, [], 0⟩, ⟨t1, i1, ifs, 0⟩] scope pos) 1 it acc env)) := by rfl
  rw [e]
  refine run_bind (run_standAt (run_bind (run_mono h fun r σ₁ h₁ => ?_)))
  cases r with
  | none => exact run_pure (.inl ⟨rfl, h₁⟩)
  | some v =>
    refine run_bind (run_mono h₁ fun _ σ₂ h₂ => run_bind (run_mono h₂ fun _ σ₃ h₃ => run_bind (run_mono h₃ fun ok σ₄ h₄ => ?_)))
    cases ok with
    | false => exact run_pure (.inr ⟨rfl, h₄.2 rfl⟩)
    | true => exact run_bind (runV_bind (runV_mono (h₄.1 rfl) fun a σ₅ h₅ u hu => run_bind (run_mono (h₅ u hu) fun _ σ₆ h₆ => run_pure (run_pure (.inr ⟨rfl, h₆⟩)))))
end
end
-- AzNe
section
/-- a list of pairs -/
def PairsAt (σ : AS) (l : Addr) (E : List (Addr × Int × Int)) : Prop := σ.hp l = some (.list (E.map fun p => .ref p.1)) ∧ ∀ p ∈ E, σ.hp p.1 = some (.tup [.int p.2.1, .int p.2.2])
theorem aget_mem {kvs : List (Int × AV)} {k : Int} : (aget kvs k).isSome = decide (k ∈ kvs.map (·.1)) := by
  unfold aget
  induction kvs with
  | nil => rfl
  | cons p r ih =>
    rw [List.find?_cons]
    by_cases e : p.1 = k
    · simp [e]
    · rw [decide_eq_false e]
      simp only [ih, List.map_cons, List.mem_cons]
      have : ¬ k = p.1 := fun q => e q.symm
      simp [this]
theorem PairsAt.keep {σ σ' : AS} {l : Addr} {E : List (Addr × Int × Int)} (h : PairsAt σ l E) (k : ∀ b ao, σ.hp b = some ao → (∃ vs, ao = .list vs) ∨ (∃ vs, ao = .tup vs) → σ'.hp b = some ao) : PairsAt σ' l E :=
  ⟨k _ _ h.1 (.inl ⟨_, rfl⟩), fun p hp => k _ _ (h.2 p hp) (.inr ⟨_, rfl⟩)⟩
section
variable {x : X} {α : Type} {σ : AS}
theorem runC_mono {c : Code} {Q Q' : Result → AS → Prop} (h : RunC x c Q σ) (k : ∀ r σ', Q r σ' → Q' r σ') : RunC x c Q' σ := fun s R => codeAny_mono (h s R) fun r s' ⟨σ', R', q⟩ => ⟨σ', R', k r σ' q⟩
theorem run_gen {t : Sem α} {Q : α → AS → Prop} (F : AS → Prop) (h : F σ) (k : ∀ τ, F τ → Run x t Q τ) : Run x t Q σ := k σ h
theorem runV_gen {t : Sem Value} {Q : AV → AS → Prop} (F : AS → Prop) (h : F σ) (k : ∀ τ, F τ → RunV x t Q τ) : RunV x t Q σ := k σ h
theorem runC_gen {c : Code} {Q : Result → AS → Prop} (F : AS → Prop) (h : F σ) (k : ∀ τ, F τ → RunC x c Q τ) : RunC x c Q σ := k σ h
end
set_option maxHeartbeats 4000000 in
theorem nonedges_spec {C : Cx} {fs : List (Addr × Loc)} {L : Addr} {A : Around} {σ : AS} {g d gd nd ad : Addr} {ia : Int → Addr} {ns : List Int} {nb : Int → List Int} {ex : List (Str × AV)} {hd : Bool} {Q : AV → AS → Prop} (hA : Deep A 3)
    (G : GraphAt σ g d gd nd ad ia ns nb ex hd) (h7 : ns.length ≤ 7)
    (h : ∀ σ' l E, Ext σ σ' → σ'.loc = σ.loc → PairsAt σ' l E → E.length ≤ 49 → (∀ p ∈ E, p.2.1 ∈ ns ∧ p.2.2 ∈ ns ∧ p.2.2 ∉ nb p.2.1 ∧ p.2.1 ≠ p.2.2) → (∀ (i j : Nat) (u v : Int), i < j → ns[i]? = some u → ns[j]? = some v → v ∉ nb u → ∃ p ∈ E, p.2 = (u, v)) → Q (.ref l) σ') :
    RunV ⟨C, fs, L, A⟩ (call (.ref 38) [.ref g]) Q σ := by
  refine run_callpl ["G"] [("G", .ref g)] hA (by k_is) (by k_is) rfl (by decide)
    (fun L' σ₁ => σ₁.hp (L' + 1) = some (.cell (some (.ref g))) ∧ σ₁.hp (L' + 2) = some (.cell none)) (by
      intro L' _
      exact ⟨Eq.trans (cell_hp2 (n1 := "G") (n2 := "nodes") (c1 := L' + 1) (c2 := L' + 1 + 1) (Nat.ne_of_lt (Nat.lt_succ_self _))).1 rfl, Eq.trans (cell_hp2 (n1 := "G") (n2 := "nodes") (c1 := L' + 1) (c2 := L' + 1 + 1) (Nat.ne_of_lt (Nat.lt_succ_self _))).2 rfl⟩) (hnd := by intro n; simp [cellsFrom]; decide) fun L' A' σ₁ hf hA' hE ⟨c1, c2⟩ => ?_
  have f1 : Fresh σ (L' + 1) := hf _ (Nat.le_succ _)
  have f2 : Fresh σ (L' + 2) := hf _ (Nat.le_add_right _ 2)
  have hc12 : L' + 1 ≠ L' + 2 := Nat.ne_of_lt (Nat.lt_succ_self _)
  obtain ⟨kvn, epn, hkn, hkeyn, _⟩ := G.node
  obtain ⟨epa, hadj⟩ := G.adj
  have hlenn : kvn.length = ns.length := by rw [← hkeyn]; simp
  refine s_then (fun σ' => ∃ l, Ext σ σ' ∧ σ'.hp l = some (.list (avs ns)) ∧ σ'.hp (L' + 1) = some (.cell (some (.ref g))) ∧ σ'.hp (L' + 2) = some (.cell (some (.ref l)))) ?_ ?_
  · walk_at "st"
    refine n_call1 ?_
    walk_at "st"
    refine ⟨by walk_at "keep", a_cons ?_⟩
    refine n_cell rfl c1 ?_
    walk_at "ev"
    refine a_nil ?_
    refine list_graph (hA'.less (by omega)) (G.keep (.ext hE)).gi (hE.hp _ _ hkn) hkeyn (by omega) fun l σ₂ e₂ loc₂ fl hl => ?_
    walk_at "ev"
    refine store_cell' (by walk_at "er") rfl (e₂.hp _ _ c2) ?_
    refine ⟨rfl, l, (hE.trans e₂).put f2, put_ne (fun e => fl _ _ c2 e.symm) hl, put_ne hc12 (e₂.hp _ _ c1), put_same⟩
  rintro σ₂ ⟨l, hE₂, hl, c1, c2⟩
  walk_at "st"
  walk_at "st"
  refine n_listcomp rfl ?_
  refine n_call1 ?_
  walk_at "st"
  refine ⟨by walk_at "keep", a_cons ?_⟩
  refine n_cell rfl c2 ?_
  walk_at "ev"
  refine a_nil ?_
  refine call_enum hl fun e it he hit hei => ?_
  walk_at "ev"
  refine iter_enum put_same ?_
  walk_at "ev"
  refine new_list (Nat.zero_le _) fun acc hacc => ?_
  walk_at "ev"
  have hae : acc ≠ e := fun q => hacc _ _ put_same q.symm
  have hai : acc ≠ it := fun q => hacc _ _ (put_ne hei.symm put_same) q.symm
  have ha2 : Fresh σ₂ acc := fun b ao q => hacc b ao (put_ne (he _ _ q) (put_new hit q))
  have c12l : ∀ {b : Addr} {ao : AO}, σ₂.hp b = some ao → b ≠ e ∧ b ≠ it ∧ b ≠ acc := fun q => ⟨he _ _ q, hit _ _ q, ha2 _ _ q⟩
  have hnode := G.nodup
  refine comp_goN (self_enum (put_ne (Ne.symm hae) put_same)) fun L₂ σ₄ hf₂ hE₄ => ?_
  refine ⟨fun q σ' => ∃ E old, q ≤ ns.length ∧ Ext σ₂ σ' ∧ σ'.hp e = some (EnumO it (ns.length - q) old) ∧ σ'.hp it = some (LIter l (ns.length - q)) ∧ PairsAt σ' acc E ∧ E.length ≤ (ns.length - q) * 7 ∧
    (∀ p ∈ E, p.2.1 ∈ ns ∧ p.2.2 ∈ ns ∧ p.2.2 ∉ nb p.2.1 ∧ p.2.1 ≠ p.2.2) ∧ (∀ (i j : Nat) (u v : Int), i < ns.length - q → i < j → ns[i]? = some u → ns[j]? = some v → v ∉ nb u → ∃ p ∈ E, p.2 = (u, v)), ns.length, ⟨[], .none, Nat.le_refl _, ?_⟩, ?_⟩
  · rw [Nat.sub_self]
    refine ⟨(((Ext.refl.put hit).put he).put ha2).trans hE₄, hE₄.hp _ _ (put_ne (Ne.symm hae) put_same), hE₄.hp _ _ (put_ne (Ne.symm hai) (put_ne hei.symm put_same)), ⟨hE₄.hp _ _ put_same, by simp⟩, Nat.zero_le _, by simp, fun i j u v hi => absurd hi (Nat.not_lt_zero _)⟩
  · rintro q σ₅ ⟨E, old, hq, e5, he₅, hi₅, hP, hEl, hEv, hEc⟩
    refine turn_list2 ?_
    refine next_enum hA'.h he₅ hi₅ (e5.hp _ _ hl) (fun hlt T u hu hT => ?_) (fun hge => ?_)
    · have hlt' : ns.length - q < ns.length := by simpa using hlt
      generalize hi : ns.length - q = i at *
      have hii : i < ns.length := hlt'
      have hui : (avs ns)[i]'(by simpa using hii) = .int ns[i] := by simp
      rw [hui] at hu ⊢
      have hus : ns[i]? = some ns[i] := List.getElem?_eq_getElem hii
      have hum : ns[i] ∈ ns := List.getElem_mem hii
      generalize ns[i] = un at *
      have eT : e ≠ T := hT _ _ he₅
      have iT : it ≠ T := hT _ _ hi₅
      refine lot_enum (put_ne eT put_same) ?_
      refine asg_tup2 hA'.h (put_ne eT.symm put_same) fun v₁ v₂ hv₁ hv₂ => ?_
      walk_at "st"
      walk_at "st"
      have T2 : Fresh σ₂ T := e5.fresh hT
      have pI : ∀ p ∈ E, p.1 ≠ it := fun p hp q => by have := hP.2 p hp; rw [q, hi₅] at this; cases this
      have pE : ∀ p ∈ E, p.1 ≠ e := fun p hp q => by have := hP.2 p hp; rw [q, he₅] at this; cases this
      have aT : acc ≠ T := hT _ _ hP.1
      refine runV_gen (fun τ => Ext σ₂ τ ∧ τ.hp e = some (EnumO it (i + 1) u) ∧ τ.hp it = some (LIter l (i + 1)) ∧ PairsAt τ acc E ∧ τ.loc "i" = some (.int i) ∧ τ.loc "u" = some (.int un)) ⟨?_, ?_, ?_, ⟨?_, fun p hp => ?_⟩, ?_, ?_⟩ fun σ₆ ⟨e6, he₆, hi₆, hP₆, l1, l2⟩ => ?_
      · exact (((((e5.put hit).put he).put T2).put he).bind).bind
      · exact bind_hp (bind_hp put_same)
      · exact bind_hp (bind_hp (put_ne hei.symm (put_ne iT (put_ne hei.symm put_same))))
      · exact bind_hp (bind_hp (put_ne hae (put_ne aT (put_ne hae (put_ne hai hP.1)))))
      · exact bind_hp (bind_hp (put_ne (pE p hp) (put_ne (hT _ _ (hP.2 p hp)) (put_ne (pE p hp) (put_ne (pI p hp) (hP.2 p hp))))))
      · walk_at "loc"
      · walk_at "loc"
      refine n_slice_from ?_
      refine n_cell rfl (e6.hp _ _ c2) ?_
      refine ⟨l, rfl, ?_⟩
      walk_at "st"
      walk_at "st"
      walk_at "st"
      refine add_int ?_
      refine ⟨i + 1, avs ns, rfl, e6.hp _ _ hl, by simp; omega, fun sl hsl => ?_⟩
      walk_at "ev"
      have hsl2 : Fresh σ₂ sl := e6.fresh hsl
      refine iter_list put_same fun J hJ => ?_
      walk_at "ev"
      have hJ6 : Fresh σ₆ J := fun b ao q => hJ b ao (put_new hsl q)
      have hJ2 : Fresh σ₂ J := e6.fresh hJ6
      have hslJ : sl ≠ J := hJ _ _ put_same
      have hdrop : (avs ns).drop (i + 1) = avs (ns.drop (i + 1)) := by simp
      have hiU : ∀ v ∈ ns.drop (i + 1), v ∈ ns ∧ un ≠ v := fun v hv => by
        refine ⟨List.mem_of_mem_drop hv, fun q => ?_⟩
        obtain ⟨j, hj⟩ := List.getElem?_of_mem hv
        rw [List.getElem?_drop] at hj
        have := (List.getElem?_inj hii hnode).mp (hus.trans ((by rw [q]; exact hj.symm) : some un = ns[i + 1 + j]?))
        omega
      rw [hdrop] at *
      generalize hr : ns.drop (i + 1) = r at *
      have hrl : r.length ≤ 7 := by rw [← hr]; simp; omega
      refine runC_gen (fun τ => Ext σ₂ τ ∧ τ.hp e = some (EnumO it (i + 1) u) ∧ τ.hp it = some (LIter l (i + 1)) ∧ PairsAt τ acc E ∧ τ.loc "u" = some (.int un) ∧ τ.hp sl = some (.list (avs r)) ∧ τ.hp J = some (LIter sl 0)) ⟨?_, ?_, ?_, ⟨?_, fun p hp => ?_⟩, ?_, ?_, ?_⟩ fun σ₇ ⟨e7, he₇, hi₇, hP₇, l2, hsl₇, hJ₇⟩ => ?_
      · exact (e6.put hsl2).put hJ2
      · exact put_ne (hJ6 _ _ he₆) (put_new hsl he₆)
      · exact put_ne (hJ6 _ _ hi₆) (put_new hsl hi₆)
      · exact put_ne (hJ6 _ _ hP₆.1) (put_new hsl hP₆.1)
      · exact put_ne (hJ6 _ _ (hP₆.2 p hp)) (put_new hsl (hP₆.2 p hp))
      · walk_at "loc"
      · exact put_ne hslJ put_same
      · exact put_same
      refine c_start rfl (fun Q' q' => iter_listiter hJ₇ q') (fun it' hit' => ?_) rfl rfl rfl
      cases er_ref hit'
      refine runC_mono (c_loop (P := fun σ' => ∃ m, m < q ∧ ∃ E old, m ≤ ns.length ∧ Ext σ₂ σ' ∧ σ'.hp e = some (EnumO it (ns.length - m) old) ∧ σ'.hp it = some (LIter l (ns.length - m)) ∧ PairsAt σ' acc E ∧ E.length ≤ (ns.length - m) * 7 ∧
          (∀ p ∈ E, p.2.1 ∈ ns ∧ p.2.2 ∈ ns ∧ p.2.2 ∉ nb p.2.1 ∧ p.2.1 ≠ p.2.2) ∧ (∀ (i j : Nat) (u v : Int), i < ns.length - m → i < j → ns[i]? = some u → ns[j]? = some v → v ∉ nb u → ∃ p ∈ E, p.2 = (u, v)))
        (fun k σ' => ∃ E', k ≤ r.length ∧ Ext σ₂ σ' ∧ σ'.hp e = some (EnumO it (i + 1) u) ∧ σ'.hp it = some (LIter l (i + 1)) ∧ PairsAt σ' acc E' ∧ σ'.loc "u" = some (.int un) ∧ σ'.hp sl = some (.list (avs r)) ∧ σ'.hp J = some (LIter sl (r.length - k)) ∧ E'.length ≤ i * 7 + (r.length - k) ∧
          (∀ p ∈ E', p.2.1 ∈ ns ∧ p.2.2 ∈ ns ∧ p.2.2 ∉ nb p.2.1 ∧ p.2.1 ≠ p.2.2) ∧ (∀ (a j : Nat) (u v : Int), a < i → a < j → ns[a]? = some u → ns[j]? = some v → v ∉ nb u → ∃ p ∈ E', p.2 = (u, v)) ∧ (∀ v ∈ r.take (r.length - k), v ∉ nb un → ∃ p ∈ E', p.2 = (un, v)))
        (fun k σ₈ ⟨E', hk, e8, he₈, hi₈, hP₈, l2, hsl₈, hJ₈, hEl', hEv', hEc', hEn'⟩ => ?_) r.length ⟨E, Nat.le_refl _, e7, he₇, hi₇, hP₇, l2, hsl₇, ?_, by omega, hEv, hEc, ?_⟩ rfl rfl rfl) fun res σ' ⟨e1, e2⟩ => ⟨e1, e2⟩
      · refine turn_list2i ?_
        refine next_list hA'.h hJ₈ hsl₈ (fun hlt u' hu' => ?_) (fun hge => ?_)
        · have hlt2 : r.length - k < r.length := by simpa using hlt
          have hvr : r[r.length - k]? = some r[r.length - k] := List.getElem?_eq_getElem hlt2
          have hvm : r[r.length - k] ∈ r := List.getElem_mem hlt2
          obtain ⟨t, rfl⟩ := er_int (v := u') (i := r[r.length - k]) (by simpa [hlt2] using hu')
          generalize r[r.length - k] = v at *
          obtain ⟨hv1, hv2⟩ := hiU v hvm
          have htake2 : r.take (r.length - k + 1) = r.take (r.length - k) ++ [v] := by rw [List.take_add_one, hvr]; rfl
          have hkq : r.length - (k - 1) = r.length - k + 1 := by omega
          obtain ⟨kvu, epu, hku, hkeyu, _⟩ := G.inner un hum
          have n1 : ∀ {b : Addr} {ao : AO}, σ₂.hp b = some ao → b ≠ J := fun q => hJ2 _ _ q
          walk_at "st"
          walk_at "st"
          walk_at "st"
          refine tests_one ?_
          walk_at "st"
          walk_at "st"
          walk_at "st"
          refine n_attr' ?_
          refine n_cell rfl (bind_hp (put_ne (n1 c1) (e8.hp _ _ c1))) ?_
          walk_at "ev"
          have e9 : Ext σ₂ ((σ₈.put J (LIter sl (r.length - k + 1))).bind "v" (.int v)) := (e8.put hJ2).bind
          refine get_adj (G.keep (.ext (hE₂.trans e9))) ?_
          walk_at "ev"
          walk_at "st"
          refine sub_idict (e9.hp _ _ (hE₂.hp _ _ hadj)) (v := .ref (ia un)) (aget_adj ia hum) ?_
          walk_at "ev"
          refine notin_idict (e9.hp _ _ (hE₂.hp _ _ hku)) ?_
          rw [aget_mem, hkeyu]
          have pJ : ∀ p ∈ E', p.1 ≠ J := fun p hp q => by have := hP₈.2 p hp; rw [q, hJ₈] at this; cases this
          have aJ : acc ≠ J := fun q => by have := hP₈.1; rw [q, hJ₈] at this; cases this
          have eJ : e ≠ J := fun q => by rw [q, hJ₈] at he₈; cases he₈
          have iJ : it ≠ J := hJ6 _ _ hi₆
          have pA : ∀ p ∈ E', p.1 ≠ acc := fun p hp q => by have := hP₈.2 p hp; rw [q, hP₈.1] at this; cases this
          have sA : sl ≠ acc := fun q => by
            rw [q] at hsl
            exact hsl _ _ hP₆.1 rfl
          refine ⟨fun hin => ?_, fun hout => ?_⟩
          · have hvn : v ∉ nb un := by simpa using hin
            refine n_tuple (a_cons ?_)
            walk_at "st"
            refine a_cons ?_
            walk_at "st"
            refine a_nil ?_
            refine new_tuple (fits (by simp)) fun tp htp => ?_
            walk_at "ev"
            have ht8 : Fresh σ₈ tp := fun b ao q => by
              by_cases hb : b = J
              · rw [hb]; exact htp _ _ (bind_hp put_same)
              · exact htp _ _ (bind_hp (put_ne hb q))
            have eacc : acc ≠ tp := ht8 _ _ hP₈.1
            refine append_list (put_ne eacc (bind_hp (put_ne aJ hP₈.1))) (fits (by rw [List.length_map]; omega)) ?_
            refine ⟨k - 1, by omega, E' ++ [(tp, un, v)], by omega, ?_, ?_, ?_, ⟨?_, fun p hp => ?_⟩, ?_, ?_, ?_, ?_, ?_, ?_, ?_⟩
            · exact (((e8.put hJ2).bind).put (fun b ao q => ht8 _ _ (e8.hp _ _ q))).put ha2
            · exact put_ne hae.symm (put_ne (ht8 _ _ he₈) (bind_hp (put_ne eJ he₈)))
            · exact put_ne hai.symm (put_ne (ht8 _ _ hi₈) (bind_hp (put_ne iJ hi₈)))
            · rw [List.map_append, put_same]; rfl
            · rcases List.mem_append.mp hp with hp | hp
              · exact put_ne (pA p hp) (put_ne (ht8 _ _ (hP₈.2 p hp)) (bind_hp (put_ne (pJ p hp) (hP₈.2 p hp))))
              · have : p = (tp, un, v) := by simpa using hp
                subst this
                exact put_ne eacc.symm put_same
            · walk_at "loc"
            · exact put_ne sA (put_ne (ht8 _ _ hsl₈) (bind_hp (put_ne hslJ hsl₈)))
            · rw [hkq]; exact put_ne aJ.symm (put_ne (htp _ _ (bind_hp put_same)) (bind_hp put_same))
            · rw [List.length_append, hkq]; simp; omega
            · intro p hp
              rcases List.mem_append.mp hp with hp | hp
              · exact hEv' p hp
              · have : p = (tp, un, v) := by simpa using hp
                subst this
                exact ⟨hum, hv1, hvn, hv2⟩
            · intro a j u1 v1 q1 q2 q3 q4 q5
              obtain ⟨p, hp, q6⟩ := hEc' a j u1 v1 q1 q2 q3 q4 q5
              exact ⟨p, List.mem_append_left _ hp, q6⟩
            · intro v1 hv1' hv1n
              rw [hkq, htake2] at hv1'
              rcases List.mem_append.mp hv1' with hh | hh
              · obtain ⟨p, hp, q6⟩ := hEn' v1 hh hv1n
                exact ⟨p, List.mem_append_left _ hp, q6⟩
              · have : v1 = v := by simpa using hh
                exact ⟨(tp, un, v), by simp, by rw [this]⟩
          · have hvn : v ∈ nb un := by simpa using hout
            refine ⟨k - 1, by omega, E', by omega, e9, bind_hp (put_ne eJ he₈), bind_hp (put_ne iJ hi₈), ⟨bind_hp (put_ne aJ hP₈.1), fun p hp => bind_hp (put_ne (pJ p hp) (hP₈.2 p hp))⟩, by walk_at "loc", bind_hp (put_ne hslJ hsl₈), ?_, by omega, hEv', hEc', fun v1 hv1' hv1n => ?_⟩
            · rw [hkq]; exact bind_hp put_same
            · rw [hkq, htake2] at hv1'
              rcases List.mem_append.mp hv1' with hh | hh
              · exact hEn' v1 hh hv1n
              · have : v1 = v := by simpa using hh
                rw [this] at hv1n; exact absurd hvn hv1n
        · have hall : r.take (r.length - k) = r := List.take_of_length_le (by simpa using hge)
          rw [hall] at hEn'
          have hqm : ns.length - (q - 1) = i + 1 := by omega
          have eJ : e ≠ J := fun q => by rw [q, hJ₈] at he₈; cases he₈
          have iJ : it ≠ J := hJ6 _ _ hi₆
          have pJ : ∀ p ∈ E', p.1 ≠ J := fun p hp q => by have := hP₈.2 p hp; rw [q, hJ₈] at this; cases this
          have aJ : acc ≠ J := fun q => by have := hP₈.1; rw [q, hJ₈] at this; cases this
          refine ⟨q - 1, by omega, E', u, by omega, e8.drop hJ2, ?_, ?_, ⟨drop_ne aJ hP₈.1, fun p hp => drop_ne (pJ p hp) (hP₈.2 p hp)⟩, by omega, hEv', ?_⟩
          · rw [hqm]; exact drop_ne eJ he₈
          · rw [hqm]; exact drop_ne iJ hi₈
          · intro a j u1 v1 q1 q2 q3 q4 q5
            rw [hqm] at q1
            rcases Nat.lt_or_ge a i with hai' | hai'
            · exact hEc' a j u1 v1 hai' q2 q3 q4 q5
            · have : a = i := by omega
              subst this
              rw [hus] at q3
              cases q3
              refine hEn' v1 ?_ q5
              rw [← hr]
              refine List.mem_of_getElem? (i := j - (a + 1)) ?_
              rw [List.getElem?_drop, show a + 1 + (j - (a + 1)) = j by omega]; exact q4
      · rw [Nat.sub_self]; exact hJ₇
      · rw [Nat.sub_self]; simp
    · show ∀ v, er v = AV.ref acc → _
      walk_at "ev"
      have hq0 : ns.length - q = ns.length := by simp at hge; omega
      rw [hq0] at hEl hEc
      have aI : acc ≠ it := hai
      have pI : ∀ p ∈ E, p.1 ≠ it := fun p hp q => by have := hP.2 p hp; rw [q, hi₅] at this; cases this
      refine h _ acc E ?_ rfl ⟨?_, fun p hp => ?_⟩ (by omega) hEv fun a j u v q1 q2 q3 q4 => ?_
      · exact ((hE₂.trans (e5.drop hit)).loc).loc
      · exact drop_ne aI hP.1
      · exact drop_ne (pI p hp) (hP.2 p hp)
      · refine hEc a j u v ?_ q1 q2 q3 q4
        rcases Nat.lt_or_ge a ns.length with h | h
        · exact h
        · rw [List.getElem?_eq_none h] at q2; cases q2
end
-- AzGa
section
/-- the roots of the parts of a graph, in the order of its nodes -/
noncomputable def rootsOf (nb : Int → List Int) : List Int → (Int → Prop) → List Int
  | [], _ => []
  | v :: r, S => open Classical in if S v then rootsOf nb r S else v :: rootsOf nb r fun n => S n ∨ Rch nb v n
theorem rootsOf_in {nb : Int → List Int} {v : Int} {r : List Int} {S : Int → Prop} (h : S v) : rootsOf nb (v :: r) S = rootsOf nb r S := by
  rw [rootsOf]; exact if_pos h
theorem rootsOf_out {nb : Int → List Int} {v : Int} {r : List Int} {S : Int → Prop} (h : ¬ S v) : rootsOf nb (v :: r) S = v :: rootsOf nb r fun n => S n ∨ Rch nb v n := by
  rw [rootsOf]; exact if_neg h
theorem rootsOf_congr {nb : Int → List Int} {r : List Int} {S S' : Int → Prop} (h : ∀ n, S n ↔ S' n) : rootsOf nb r S = rootsOf nb r S' := by
  have : S = S' := funext fun n => propext (h n)
  rw [this]

structure CC where
  C : Cx
  LG : Addr
  P : Addr → Prop
  φ : Addr → Option AO
  nb : Int → List Int
  RT : List Int
structure CC.Ok (D : CC) : Prop where
  ok : D.C.Ok
  lowG : D.C.h₀.objs.size ≤ D.LG
  pG : ¬ D.P D.LG
  base : ∀ b o, D.C.h₀.get? b = some o → D.P b
  phi : ∀ b ao, D.φ b = some ao → D.C.h₀.objs.size ≤ b ∧ D.P b
/-- what the graph's objects hold -/
def CC.Phi (D : CC) (h : Heap) : Prop := ∀ b ao, D.φ b = some ao → ∃ o, h.get? b = some o ∧ OR D.C.w ao o
structure CC.After (D : CC) (s₀ s₁ : Shared) : Prop where
  gens : s₁.gens = s₀.gens
  os : s₁.os = D.C.os ∧ AllBare s₁.gens
  keep : ∀ b o, D.P b → D.φ b = none → s₀.heap.get? b = some o → s₁.heap.get? b = some o
  phi : D.Phi s₁.heap
/-- a state in which the generator may wake -/
structure CC.Wake (D : CC) (s : Shared) : Prop where
  base : ∀ a o, D.C.h₀.get? a = some o → s.heap.get? a = some o
  os : s.os = D.C.os ∧ AllBare s.gens
  alive : ∀ b, D.P b → ∃ o, s.heap.get? b = some o
  phi : D.Phi s.heap
def CC.R (D : CC) : GenEnd := fun n s₀ r s₁ => r = .ok (.ret .none) ∧ n = 0 ∧ D.After s₀ s₁
def CC.Wok (D : CC) (W : List Addr) : Prop := ∀ b ∈ W, ¬ D.P b ∧ D.C.h₀.objs.size ≤ b
def CC.Y (D : CC) : Protocol := fun m s₀ v s kap => D.After s₀ s ∧ ∃ cv xs ep oc root W, v = .ref cv ∧ D.RT[D.RT.length - 1 - m]? = some root ∧ ¬ D.P cv ∧ D.C.h₀.objs.size ≤ cv ∧ s.heap.get? cv = some oc ∧ OR D.C.w (.set xs ep) oc ∧ (∀ j, j ∈ xs ↔ Rch D.nb root j) ∧
  D.Wok W ∧ cv ∉ W ∧ (∀ b ∈ W, ∃ o, s.heap.get? b = some o) ∧
  ∀ s'' : Shared, D.Wake s'' → (∀ b ∈ W, s''.heap.get? b = s.heap.get? b) → kap (.send .none) s''

structure GenAt (x : X) (D : CC) (σ : AS) (a : Addr) (gi n : Nat) : Prop where
  d : D.Ok
  c : D.C = x.C
  fr : ∀ b ∈ x.L :: x.fs.map (·.1), D.P b
  pa : D.P a
  gen : ∃ nm qn, σ.hp a = some (.raw { cls := .type "generator", data := .fields #[.int gi 0, nm, qn] })
  phi : ∀ b ao, D.φ b = some ao → σ.hp b = some ao
  alive : ∀ b, D.P b → (∃ ao, σ.hp b = some ao) ∨ b ∈ x.L :: x.fs.map (·.1) ∨ ∃ o, D.C.h₀.get? b = some o
  go : ∃ W gs, D.Wok W ∧ (∀ b ∈ W, ∃ o, σ.hp b = some (.raw o)) ∧ σ.gs[gi]? = some gs ∧ ∀ s'' : Shared, D.Wake s'' →
    (∀ b ∈ W, ∀ o, σ.hp b = some (.raw o) → s''.heap.get? b = some o) → gs.Goes (model Pg D.C.w) x.A.in1 D.R D.Y n (.send .none) s''
theorem gens_set {s : Shared} {g : Nat} {y : GenState} (h : AllBare s.gens) (hy : y.bare = true) : AllBare (s.setGen g y).gens := fun z hz => by
  rcases Array.mem_or_eq_of_mem_setIfInBounds (show z ∈ s.gens.setIfInBounds g y from hz) with e | e
  · exact h z e
  · rw [e]; exact hy
/-- the next value of a generator of a def, which leaves no clean-up behind -/
theorem next_genB {prog : Program} {w : World} {A : Around} {E : Value → Shared → Prop} {s : Shared} {a : Addr} {g n : Nat} {gs : GenState} {P : Nat → Shared → Shared → Prop} {Y : Protocol} {Q : Option Value → Shared → Prop} (hh : A.handled = none)
    (hl : s.heap.NoLimit) (hroom : A.depth < recursionLimit) (hg : s.heap.IsGen a g) (hgs : s.gens[g]? = some gs)
    (hgo : gs.Goes (model prog w) A.in1 (fun n s₀ r s₁ => r = .ok (.ret .none) ∧ P n s₀ s₁) Y n (.send .none) (s.setGen g .running))
    (hY : ∀ v s₁ gs', gs'.bare = true → Y (n - 1) (s.setGen g .running) v s₁ (fun r' s'' => match n with
        | 0 => False
        | m + 1 => gs'.Goes (model prog w) A.in1 (fun n s₀ r s₁ => r = .ok (.ret .none) ∧ P n s₀ s₁) Y m r' s'') → Q (some v) (s₁.setGen g gs'))
    (hP : ∀ s₁, P n (s.setGen g .running) s₁ → ∀ h', (∀ b o, s₁.heap.get? b = some o → h'.get? b = some o) → Q none { s₁.setGen g .finished with heap := h' }) :
    wpAny (model prog w) A (pyNext (.ref a)) Q E s := by
  have hT := hg.typeIs
  unfold pyNext
  refine wpAny_bind (wpAny_attempt (wpAny_callSpecial?_slot (name := Str.ofString "__next__") hT slot_gen_next (wpAny_call_entry slot_gen_next hT entry_gen_next ?_ (args_gen_next _))))
  show wpAny _ _ (Builtin.Generator.genWake (.ref a) (.send .none)) _ _ s
  unfold Builtin.Generator.genWake
  refine wpAny_bind (wpAny_holding (wpAny_genNumber hg (wpAny_bind (wpAny_genState hgs ?_))))
  cases gs with
  | running => exact hgo.elim
  | finished => exact hgo.elim
  | _ =>
    refine wpAny_bind (wpAny_roomToWake hl hroom ?_)
    show wpAny _ _ (.resume g (.send .none) [] _) _ _ s
    refine wpAny_resumeQ hgs hgo (fun r s₁ hr => ?_) (fun v s₁ gs' hb hv => wpAny_pure ⟨v, rfl, wpAny_pure (hY v s₁ gs' hb hv)⟩)
    obtain ⟨rfl, hp⟩ := hr
    have grow : ∀ {o₁ o₂ : Obj} b o, s₁.heap.get? b = some o → ((s₁.heap.push o₁).push o₂).get? b = some o := fun b o hb => Heap.get?_push_of_some _ (Heap.get?_push_of_some _ hb)
    show wpAny _ _ (newExc (.type "StopIteration") [] >>= _) _ _ _
    simp only [newExc, newTuple]
    refine wpAny_bind (wpAny_bind (wpAny_newObj_type ?_ (by size_fits)))
    refine wpAny_bind (m := firstArgMember _ _) (wpAny_of_eq (a := Value.none) (by first | rfl | (simp only [firstArgMember]; rfl)) (wpAny_newObj_type ?_ (by size_fits)))
    simp only [raiseNew]
    refine wpAny_bind (wpAny_bind (wpAny_handled ?_))
    rw [show A.in1.handled = none from hh]
    exact wpAny_throw (wpAny_bind (wpAny_isInstance (T := "StopIteration") (b := true) ⟨_, Heap.get?_push_size _ rfl, rfl⟩ isSubtype_stop (wpAny_pure (hP s₁ hp _ grow))))
theorem live_get {h : Heap} {a : Addr} {o : Obj} (e : h.get? a = some o) : o.isFreed = false := by
  unfold Heap.get? at e
  split at e
  · cases e
  · rename_i hn
    obtain ⟨c, d, dt, sl⟩ := o
    cases dt <;> first | rfl | exact absurd e (fun q => hn _ _ _ q)
section
variable {x : X} {σ : AS}
theorem Rel.phi {C : Cx} {fs : List (Addr × Loc)} {L : Addr} {s : Shared} (R : Rel C fs L σ s) {D : CC} (hc : D.C = C) (h : ∀ b ao, D.φ b = some ao → σ.hp b = some ao) : D.Phi s.heap := fun b ao e => by
  subst hc
  exact R.get (h b ao e)
/-- the consumer's state after a wake -/
noncomputable def afterAS (D : CC) (σ : AS) (W : List Addr) (ex : Addr → Option AO) (s : Shared) : AS :=
  { loc := σ.loc, gs := s.gens, hp := fun b => open Classical in if D.P b then σ.hp b else if b ∈ W then (s.heap.get? b).map .raw else ex b }
section
variable {D : CC} {W : List Addr} {ex : Addr → Option AO} {s : Shared} {b : Addr}
theorem after_P (h : D.P b) : (afterAS D σ W ex s).hp b = σ.hp b := if_pos h
theorem after_W (h : ¬ D.P b) (hw : b ∈ W) : (afterAS D σ W ex s).hp b = (s.heap.get? b).map .raw := (if_neg h).trans (if_pos hw)
theorem after_ex (h : ¬ D.P b) (hw : b ∉ W) : (afterAS D σ W ex s).hp b = ex b := (if_neg h).trans (if_neg hw)
end
theorem Rel.after {C : Cx} {fs : List (Addr × Loc)} {L : Addr} {s s₁ : Shared} {D : CC} {gi : Nat} {st : GenState} (R : Rel C fs L σ s) (hc : D.C = C) (hd : D.Ok) (hfr : ∀ b ∈ L :: fs.map (·.1), D.P b) (hphi : ∀ b ao, D.φ b = some ao → σ.hp b = some ao)
    (Af : D.After (s.setGen gi .running) s₁) {W : List Addr} (hW : D.Wok W) {ex : Addr → Option AO} (hex : ∀ b ao, ex b = some ao → ¬ D.P b → D.C.h₀.objs.size ≤ b ∧ ∃ o, s₁.heap.get? b = some o ∧ OR C.w ao o) (h' : Heap) (hk : ∀ b o, s₁.heap.get? b = some o → h'.get? b = some o) (hst : st.bare = true) :
    Rel C fs L (afterAS D σ W ex (s₁.setGen gi st)) { s₁.setGen gi st with heap := h' } := by
  subst hc
  have kp : ∀ b o, D.P b → D.φ b = none → s.heap.get? b = some o → h'.get? b = some o := fun b o q1 q3 q4 => hk _ _ (Af.keep b o q1 q3 q4)
  have pn : ∀ b, (b < D.C.h₀.objs.size ∨ b = L ∨ b ∈ fs.map (·.1)) → D.φ b = none := fun b hb => by
    cases e : D.φ b with
    | none => rfl
    | some ao =>
      obtain ⟨q1, q2, q3, _⟩ := R.obj b ao (hphi b ao e)
      rcases hb with h | h | h
      · exact absurd h (Nat.not_lt.mpr q1)
      · exact absurd h q2
      · exact absurd h q3
  have hout : ∀ b, ¬ D.P b → b ≠ L ∧ b ∉ fs.map (·.1) := fun b hb => ⟨fun e => hb (e ▸ hfr L (.head _)), fun e => hb (hfr b (.tail _ e))⟩
  refine ⟨R.ok, fun a o e => ?_, fun a ao e => ?_, ?_, fun p hp => ?_, R.nd, R.new, rfl, Af.os.1, gens_set Af.os.2 hst⟩
  · exact kp a o (hd.base a o e) (pn a (.inl (Heap.lt_size e))) (R.base a o e)
  · by_cases h1 : D.P a
    · have e' : σ.hp a = some ao := by rw [← after_P (σ := σ) (W := W) (ex := ex) (s := s₁.setGen gi st) h1]; exact e
      obtain ⟨q1, q2, q3, o, q4, q5⟩ := R.obj a ao e'
      refine ⟨q1, q2, q3, ?_⟩
      cases e2 : D.φ a with
      | none => exact ⟨o, kp a o h1 e2 q4, q5⟩
      | some ao' =>
        have := hphi a ao' e2
        rw [e'] at this
        cases this
        obtain ⟨o', w1, w2⟩ := Af.phi a ao e2
        exact ⟨o', hk _ _ w1, w2⟩
    · obtain ⟨q2, q3⟩ := hout a h1
      by_cases h2 : a ∈ W
      · have e' : (s₁.heap.get? a).map AO.raw = some ao := by
          have : (afterAS D σ W ex (s₁.setGen gi st)).hp a = (s₁.heap.get? a).map AO.raw := after_W h1 h2
          rw [← this]; exact e
        cases e3 : s₁.heap.get? a with
        | none => rw [e3] at e'; cases e'
        | some o =>
          rw [e3] at e'
          cases e'
          exact ⟨(hW a h2).2, q2, q3, o, hk _ _ e3, rfl, live_get e3⟩
      · have e' : ex a = some ao := by rw [← after_ex (σ := σ) (W := W) (ex := ex) (s := s₁.setGen gi st) h1 h2]; exact e
        obtain ⟨w1, o, w2, w3⟩ := hex a ao e' h1
        exact ⟨w1, q2, q3, o, hk _ _ w2, w3⟩
  · obtain ⟨m, hm, hx⟩ := R.loc
    exact ⟨m, hm.at' fun o e => kp L o (hfr L (.head _)) (pn L (.inr (.inl rfl))) e, hx⟩
  · obtain ⟨m, hm, hx⟩ := R.frs p hp
    have hm' : p.1 ∈ fs.map (·.1) := List.mem_map_of_mem hp
    exact ⟨m, hm.at' fun o e => kp _ o (hfr p.1 (.tail _ hm')) (pn _ (.inr (.inr hm'))) e, hx⟩
def Old (D : CC) (σ σ' : AS) : Prop := (∀ b ao, D.P b → σ.hp b = some ao → σ'.hp b = some ao) ∧ σ'.loc = σ.loc
theorem setGen_at {s : Shared} {g : Nat} {gs y : GenState} (h : s.gens[g]? = some gs) : (s.setGen g y).gens[g]? = some y := setGen_self h
theorem next_cc {D : CC} {a : Addr} {gi n : Nat} {Q : Option Value → AS → Prop} (hA : Deep x.A 1) (G : GenAt x D σ a gi n) (hn : n ≤ D.RT.length)
    (hend : n = 0 → ∀ σ₁, Old D σ σ₁ → Q none σ₁)
    (hitem : ∀ m, n = m + 1 → ∀ σ₁ cv xs ep root, D.RT[D.RT.length - n]? = some root → Old D σ σ₁ → σ₁.hp cv = some (.set xs ep) → ¬ D.P cv → (∀ j, j ∈ xs ↔ Rch D.nb root j) → GenAt x D σ₁ a gi m → Q (some (.ref cv)) σ₁) : Run x (pyNext (.ref a)) Q σ := by
  intro s R
  obtain ⟨hd, hc, hfr, hpa, ⟨nm, qn, hgen⟩, hphi, hal, W, gs, hW, hWr, hgs, hgo⟩ := G
  have hl : s.heap.NoLimit := R.ok.top.nolimit.keeps R.base
  have hgen' := raw_at R hgen
  have hg : s.heap.IsGen a gi := by refine ⟨_, nm, qn, hgen', ?_, ?_, ?_⟩ <;> rfl
  have hgs' : s.gens[gi]? = some gs := by rw [R.gens]; exact hgs
  have alive : ∀ b, D.P b → ∃ o, s.heap.get? b = some o := fun b hb => by
    rcases hal b hb with ⟨ao, e⟩ | e | ⟨o, e⟩
    · obtain ⟨o, ho, _⟩ := R.get e; exact ⟨o, ho⟩
    · rcases List.mem_cons.mp e with rfl | e
      · obtain ⟨m, ⟨o, _, _, ho, _⟩, _⟩ := R.loc; exact ⟨o, ho⟩
      · obtain ⟨p, hp, rfl⟩ := List.mem_map.mp e
        obtain ⟨m, ⟨o, _, _, ho, _⟩, _⟩ := R.frs p hp; exact ⟨o, ho⟩
    · exact ⟨o, R.base b o (hc ▸ e)⟩
  have key := hgo (s.setGen gi .running) ⟨fun a o e => R.base a o (hc ▸ e), hc ▸ ⟨R.os.1, gens_set R.os.2 rfl⟩, alive, R.phi hc hphi⟩ (fun b hb o e => raw_at R e)
  have old : ∀ (W' : List Addr) (ex : Addr → Option AO) (s₁ : Shared), Old D σ (afterAS D σ W' ex s₁) := fun W' ex s₁ => ⟨fun b ao q1 q3 => (after_P q1).trans q3, rfl⟩
  refine next_genB (P := fun n s₀ s₁ => n = 0 ∧ D.After s₀ s₁) (Y := D.Y) (n := n) hA.h hl hA.lt hg hgs' (hc ▸ key) (fun v s₁ gs' hgb hY => ?_) fun s₁ ⟨h0, Af⟩ h' hk => ?_
  · obtain ⟨Af, cv, xs, ep, oc, root, W', rfl, hroot, hcv, hcv0, hoc, hor, hxs, hW', hcW, hWl, hkap⟩ := hY
    cases n with
    | zero =>
      refine False.elim (hkap s₁ ⟨fun a o e => ?_, Af.os, fun b hb => ?_, Af.phi⟩ (fun b hb => rfl))
      · refine Af.keep a o (hd.base a o e) ?_ (R.base a o (hc ▸ e))
        cases e2 : D.φ a with
        | none => rfl
        | some ao => exact absurd (Heap.lt_size e) (Nat.not_lt.mpr (hd.phi a ao e2).1)
      · obtain ⟨o, ho⟩ := alive b hb
        cases e2 : D.φ b with
        | none => exact ⟨o, Af.keep b o hb e2 ho⟩
        | some ao => obtain ⟨o', ho', _⟩ := Af.phi b ao e2; exact ⟨o', ho'⟩
    | succ m =>
      let ex : Addr → Option AO := fun b => if b = cv then some (.set xs ep) else none
      have hex : ∀ b ao, ex b = some ao → ¬ D.P b → D.C.h₀.objs.size ≤ b ∧ ∃ o, s₁.heap.get? b = some o ∧ OR x.C.w ao o := fun b ao e _ => by
        by_cases hb : b = cv
        · subst hb
          have : some (AO.set xs ep) = some ao := by rw [← e]; exact (if_pos rfl).symm
          cases this
          exact ⟨hcv0, oc, hoc, hc ▸ hor⟩
        · have : (none : Option AO) = some ao := by rw [← e]; exact (if_neg hb).symm
          cases this
      have R' := R.after hc hd hfr hphi Af (st := gs') hW' hex s₁.heap (fun _ _ e => e) hgb
      refine ⟨_, R', hitem m rfl _ cv xs ep root ?_ (old _ _ _) ((after_ex hcv hcW).trans (if_pos rfl)) hcv hxs ⟨hd, hc, hfr, hpa, ⟨nm, qn, (after_P hpa).trans hgen⟩, fun b ao e => (after_P (hd.phi b ao e).2).trans (hphi b ao e), fun b hb => ?_, W', gs', hW', fun b hb => ?_, ?_, fun s'' q1 q4 => ?_⟩⟩
      · rw [← hroot]; congr 1; omega
      · rcases hal b hb with ⟨ao, e⟩ | e
        · exact .inl ⟨ao, (after_P hb).trans e⟩
        · exact .inr e
      · obtain ⟨o, ho⟩ := hWl b hb
        refine ⟨o, (after_W (hW' b hb).1 hb).trans ?_⟩
        show (s₁.heap.get? b).map AO.raw = _
        rw [ho]; rfl
      · exact setGen_at (gs := .running) (by rw [Af.gens]; exact setGen_at hgs')
      · rw [hc]
        refine hkap s'' q1 (fun b hb => ?_)
        obtain ⟨o, ho⟩ := hWl b hb
        rw [ho]
        refine q4 b hb o ((after_W (hW' b hb).1 hb).trans ?_)
        show (s₁.heap.get? b).map AO.raw = _
        rw [ho]; rfl
  · refine ⟨_, R.after hc hd hfr hphi Af (st := .finished) (W := []) (ex := fun _ => none) (fun b hb => nomatch hb) (fun b ao e _ => nomatch e) h' hk rfl, hend h0 _ (old _ _ _)⟩
end
end
-- AzSt0
section
section
variable {x : X} {α β : Type} {σ : AS} {env : Env}
theorem code_newset0 {w : World} {A : Around} {E : Value → Shared → Prop} {s : Shared} {Q₁ : Value → Shared → Prop}
    (h : Q₁ (.ref s.heap.objs.size) { s with heap := s.heap.push { cls := .type "set", dict := none, data := .set #[] 0 (.fresh 0 0 (!w.params.followText "set-order")) } }) :
    codeAny (model Pg w) A (.call (.builtin "set.__new__") ⟨[.type "set"], []⟩) (wants Q₁ E) s := by
  refine codeAny_of_tree ?_
  show wpAny _ A.in1 (do checkBuiltinCall "set.__new__" ⟨[.type "set"], []⟩; again (.builtin "set.__new__" ⟨[.type "set"], []⟩)) _ _ s
  refine wpAny_bind (wpAny_of_eq F.newCall_set_0 (wpAny_pure ⟨plainId_quiet F.plain_set_new _, codeAny_builtin F.entry_set_new ?_⟩))
  rw [Around.under_plainId F.plain_set_new _]
  unfold Builtin.«set.__new__» Builtin.Frozenset.newClass
  have hsub := sub_set_self
  obtain ⟨hp, g, d, tk, os⟩ := s
  dsimp only
  wp_walk
  refine wpAny_askSetting (wpAny_pure ?_)
  dsimp only
  simp only [newObj]
  refine wpAny_bind (wpAny_alloc (wpAny_pure ?_))
  exact wpAny_pure h
set_option maxHeartbeats 3200000 in
theorem call_set0 {Q : AV → AS → Prop} (h : ∀ a, Fresh σ a → Q (.ref a) (σ.put a (.set [] 0))) : RunV x (call (.type "set") []) Q σ := by
  intro s R
  obtain ⟨c, tl, hmro⟩ := F.called_set.mro
  have hmade := F.called_set.made
  have hsub := F.called_set.sub
  refine wpAny_call (codeAny_of_tree ?_)
  show wpAny _ _ (callAny (.type "set") _) _ _ _
  refine wpAny_pure ⟨Code.quiet_builtin _ (by decide +kernel), codeAny_builtin F.entry_type_call ?_⟩
  rw [Around.under_plain (weight_type_call_type "set" [] []) rfl]
  have h1 := F.called_set.notType
  have h2 := F.called_set.canCreate
  have hct := F.typeCall_set_0
  repeat (any_goals (first | assumption | wp_step))
  refine codeAny_mono (code_newset0 (E := fun _ _ => False) (Q₁ := fun obj s₁ => obj = .ref s.heap.objs.size ∧ s₁ = { s with heap := s.heap.push { cls := .type "set", dict := none, data := .set #[] 0 (.fresh 0 0 (!x.C.w.params.followText "set-order")) } }) ⟨rfl, rfl⟩) fun r s₁ hr => ?_
  cases r with
  | error e => exact hr
  | ok fl =>
    cases fl with
    | ret obj =>
      obtain ⟨rfl, rfl⟩ := hr
      have hS : (s.heap.push { cls := .type "set", dict := none, data := .set #[] 0 (.fresh 0 0 (!x.C.w.params.followText "set-order")) }).get? s.heap.objs.size = some { cls := .type "set", dict := none, data := .set #[] 0 (.fresh 0 0 (!x.C.w.params.followText "set-order")) } := Heap.get?_push_size _ rfl
      have hT : Shared.TypeIs { s with heap := s.heap.push { cls := .type "set", dict := none, data := .set #[] 0 (.fresh 0 0 (!x.C.w.params.followText "set-order")) } } (.ref s.heap.objs.size) "set" := ⟨_, hS, rfl⟩
      have hli := F.called_set.init.lookup
      have hbi := F.called_set.init.bind (.ref s.heap.objs.size)
      have R' := R.push (ao := .set [] 0) (o := { cls := .type "set", dict := none, data := .set #[] 0 (.fresh 0 0 (!x.C.w.params.followText "set-order")) }) ⟨#[], _, rfl, rfl, ⟨.nil, by simp⟩, ⟨rfl, rfl, rfl, rfl, .inl rfl⟩⟩ s.toks
      have hfin : ∃ σ', Rel x.C x.fs x.L σ' { s with heap := s.heap.push { cls := .type "set", dict := none, data := .set #[] 0 (.fresh 0 0 (!x.C.w.params.followText "set-order")) } } ∧ Q (.ref s.heap.objs.size) σ' := ⟨_, R', h _ (R.fresh (Nat.le_refl _))⟩
      repeat (any_goals (first | assumption | wp_step))
      refine codeAny_mono (codeAny_call_builtin (R := wants (fun r s₂ => r = .none ∧ ∃ σ', Rel x.C x.fs x.L σ' s₂ ∧ Q (.ref s.heap.objs.size) σ') (fun _ _ => False)) F.called_set.init.plain F.entry_set_init (check_set_init hT ?_)) fun r₂ s₂ hr₂ => ?_
      · unfold Builtin.«set.__init__» noKeywords
        wp_walk
        exact ⟨rfl, hfin⟩
      · cases r₂ with
        | error e => exact hr₂
        | ok fl₂ =>
          cases fl₂ with
          | ret r =>
            obtain ⟨rfl, hq⟩ := hr₂
            repeat (any_goals (first | assumption | wp_step))

          | _ => exact hr₂.elim
    | _ => exact hr.elim
end
end
-- AzGb
section
/-- what a generator's state keeps since it woke -/
structure Trk (D : CC) (s₀ : Shared) (σ : AS) : Prop where
  gs : σ.gs = s₀.gens
  phi : ∀ b ao, D.φ b = some ao → σ.hp b = some ao
  raw : ∀ b o, D.P b → D.φ b = none → s₀.heap.get? b = some o → D.C.h₀.objs.size ≤ b → σ.hp b = some (.raw o)
  dom : ∀ b, D.P b → D.C.h₀.objs.size ≤ b → ∃ ao, σ.hp b = some ao
section
variable {D : CC} {s₀ : Shared} {σ σ' : AS} {b : Addr} {ao : AO}
theorem Trk.ext (T : Trk D s₀ σ) (e : Ext σ σ') : Trk D s₀ σ' :=
  ⟨e.gs.trans T.gs, fun b ao q => e.hp _ _ (T.phi b ao q), fun b o q1 q2 q3 q4 => e.hp _ _ (T.raw b o q1 q2 q3 q4), fun b q1 q2 => let ⟨ao, q⟩ := T.dom b q1 q2; ⟨ao, e.hp _ _ q⟩⟩
theorem Trk.bind {n : Str} {v : AV} (T : Trk D s₀ σ) : Trk D s₀ (σ.bind n v) := ⟨T.gs, T.phi, T.raw, T.dom⟩
theorem Trk.at {l : Loc} (T : Trk D s₀ σ) : Trk D s₀ (σ.at l) := ⟨T.gs, T.phi, T.raw, T.dom⟩
theorem Trk.set (hd : D.Ok) (T : Trk D s₀ σ) (h : ¬ D.P b) : Trk D s₀ (σ.put b ao) :=
  ⟨T.gs, fun c ao' q => put_ne (fun e => h (e ▸ (hd.phi c ao' q).2)) (T.phi c ao' q), fun c o q1 q2 q3 q4 => put_ne (fun e => h (e ▸ q1)) (T.raw c o q1 q2 q3 q4), fun c q1 q2 => let ⟨ao', q⟩ := T.dom c q1 q2; ⟨ao', put_ne (fun e => h (e ▸ q1)) q⟩⟩
theorem Trk.drop (hd : D.Ok) (T : Trk D s₀ σ) (h : ¬ D.P b) : Trk D s₀ (σ.drop b) :=
  ⟨T.gs, fun c ao' q => drop_ne (fun e => h (e ▸ (hd.phi c ao' q).2)) (T.phi c ao' q), fun c o q1 q2 q3 q4 => drop_ne (fun e => h (e ▸ q1)) (T.raw c o q1 q2 q3 q4), fun c q1 q2 => let ⟨ao', q⟩ := T.dom c q1 q2; ⟨ao', drop_ne (fun e => h (e ▸ q1)) q⟩⟩
theorem Trk.notP (T : Trk D s₀ σ) (h : Fresh σ b) (hb : D.C.h₀.objs.size ≤ b) : ¬ D.P b := fun q => let ⟨ao, e⟩ := T.dom b q hb; h b ao e rfl
theorem Trk.after (hd : D.Ok) (hpb : ∀ b, D.P b → D.C.h₀.objs.size ≤ b ∨ ∃ o, D.C.h₀.get? b = some o) (Wk : D.Wake s₀) {s : Shared} {L : Addr} {fs : List (Addr × Loc)} (T : Trk D s₀ σ) (R : Rel D.C fs L σ s) : D.After s₀ s := by
  refine ⟨R.gens.trans T.gs, R.os, fun b o q1 q2 q3 => ?_, fun b ao q => R.get (T.phi b ao q)⟩
  rcases hpb b q1 with h | ⟨o', h⟩
  · exact raw_at R (T.raw b o q1 q2 q3 h)
  · have := Wk.base b o' h
    rw [q3] at this
    cases this
    exact R.base b o h
/-- the state of a generator that wakes -/
theorem wake_rel {s : Shared} {loc : Loc} (hd : D.Ok) (Wk : D.Wake s) (Xo : Addr → Option AO) (h1 : ∀ b ao, D.φ b = some ao → Xo b = some ao) (h2 : ∀ b ao, Xo b = some ao → D.C.h₀.objs.size ≤ b ∧ b ≠ D.LG ∧ ∃ o, s.heap.get? b = some o ∧ OR D.C.w ao o)
    (h3 : ∀ b ao, Xo b = some ao → D.P b → D.φ b = some ao) (hns : ∃ m, s.heap.Ns D.LG m ∧ ∀ y, (m y).map er = loc y) : ∃ σ, Rel D.C [] D.LG σ s ∧ Trk D s σ ∧ σ.loc = loc ∧ ∀ b ao, Xo b = some ao → σ.hp b = some ao := by
  let σ : AS := { loc, gs := s.gens, hp := fun b => if b = D.LG then none else match Xo b with | some ao => some ao | none => if D.C.h₀.objs.size ≤ b then (s.heap.get? b).map AO.raw else none }
  have e1 : ∀ b ao, Xo b = some ao → σ.hp b = some ao := fun b ao e => by
    show (if b = D.LG then none else match Xo b with | some ao => some ao | none => if D.C.h₀.objs.size ≤ b then (s.heap.get? b).map AO.raw else none) = _
    rw [if_neg (h2 b ao e).2.1, e]
  have e2 : ∀ b o, Xo b = none → b ≠ D.LG → D.C.h₀.objs.size ≤ b → s.heap.get? b = some o → σ.hp b = some (.raw o) := fun b o q1 q2 q3 q4 => by
    show (if b = D.LG then none else match Xo b with | some ao => some ao | none => if D.C.h₀.objs.size ≤ b then (s.heap.get? b).map AO.raw else none) = _
    rw [if_neg q2, q1]
    show (if D.C.h₀.objs.size ≤ b then (s.heap.get? b).map AO.raw else none) = _
    rw [if_pos q3, q4]; rfl
  refine ⟨σ, ⟨hd.ok, Wk.base, fun a ao e => ?_, hns, fun p hp => (nomatch hp), List.nodup_cons.mpr ⟨List.not_mem_nil, List.nodup_nil⟩, fun a ha => ?_, rfl, Wk.os⟩, ⟨rfl, fun b ao q => e1 b ao (h1 b ao q), fun b o q1 q2 q3 q4 => ?_, fun b q1 q2 => ?_⟩, rfl, e1⟩
  · have e' : (if a = D.LG then none else match Xo a with | some ao => some ao | none => if D.C.h₀.objs.size ≤ a then (s.heap.get? a).map AO.raw else none) = some ao := e
    by_cases ha : a = D.LG
    · rw [if_pos ha] at e'; cases e'
    · rw [if_neg ha] at e'
      cases hx : Xo a with
      | some ao' =>
        rw [hx] at e'
        cases e'
        obtain ⟨q1, q2, q3⟩ := h2 a ao hx
        exact ⟨q1, q2, List.not_mem_nil, q3⟩
      | none =>
        rw [hx] at e'
        have e'' : (if D.C.h₀.objs.size ≤ a then (s.heap.get? a).map AO.raw else none) = some ao := e'
        by_cases hs : D.C.h₀.objs.size ≤ a
        · rw [if_pos hs] at e''
          cases hg : s.heap.get? a with
          | none => rw [hg] at e''; cases e''
          | some o => rw [hg] at e''; cases e''; exact ⟨hs, ha, List.not_mem_nil, o, rfl, rfl, live_get hg⟩
        · rw [if_neg hs] at e''; cases e''
  · rw [List.mem_singleton.mp ha]; exact hd.lowG
  · refine e2 b o ?_ (fun e => hd.pG (e ▸ q1)) q4 q3
    cases hx : Xo b with
    | none => rfl
    | some ao => have := h3 b ao hx q1; rw [q2] at this; cases this
  · obtain ⟨o, ho⟩ := Wk.alive b q1
    cases hx : Xo b with
    | some ao => exact ⟨ao, e1 b ao hx⟩
    | none => exact ⟨_, e2 b o hx (fun e => hd.pG (e ▸ q1)) q2 ho⟩
end
section
variable {C : Cx} {fs : List (Addr × Loc)} {L : Addr} {A : Around} {R : GenEnd} {Y : Protocol} {n : Nat} {s₀ : Shared} {c : Code} {frs : List Frame} {s : Shared} {σ : AS} {env : Env}
theorem seg_run {α : Type} {t : Sem α} {Kk : α → Sem Fin} {H : Value → Sem Fin} {gd lv} {Q : α → AS → Prop} (h : Run ⟨C, fs, L, A.over c frs⟩ t Q σ) (Rl : Rel C fs L σ s)
    (k : ∀ v σ' s', Rel C fs L σ' s' → Q v σ' → Seg (model Pg C.w) A R Y n s₀ c (Kk v) frs s') : Seg (model Pg C.w) A R Y n s₀ c (t.wrap Kk H gd lv) frs s :=
  seg_wrap (run_to h Rl fun v σ' s' R' q => k v σ' s' R' q)
theorem seg_runb {α β : Type} {t : Sem α} {f : α → Sem β} {Kk : β → Sem Fin} {H : Value → Sem Fin} {gd lv} {Q : α → AS → Prop} (h : Run ⟨C, fs, L, A.over c frs⟩ t Q σ) (Rl : Rel C fs L σ s)
    (k : ∀ v σ' s', Rel C fs L σ' s' → Q v σ' → Seg (model Pg C.w) A R Y n s₀ c ((f v).wrap Kk H gd lv) frs s') : Seg (model Pg C.w) A R Y n s₀ c ((t >>= f).wrap Kk H gd lv) frs s :=
  seg_bind_wrap (run_to h Rl fun v σ' s' R' q => k v σ' s' R' q)
theorem seg_stmt {st : Stmt} {rest : List Stmt} {K : Flow → Sem Fin} {H : Value → Sem Fin} {gd lv} {Q : Flow → AS → Prop} (h : Run ⟨C, fs, L, A.over c frs⟩ (exec st env) (fun f σ' => f = .next ∧ Q f σ') σ) (Rl : Rel C fs L σ s)
    (k : ∀ σ' s', Rel C fs L σ' s' → Q .next σ' → Seg (model Pg C.w) A R Y n s₀ c ((execs rest env).wrap K H gd lv) frs s') : Seg (model Pg C.w) A R Y n s₀ c ((execs (st :: rest) env).wrap K H gd lv) frs s := by
  refine seg_execs_cons (seg_run h Rl fun f σ' s' R' q => ?_)
  obtain ⟨rfl, q⟩ := q
  exact k σ' s' R' q
theorem seg_bw {α β : Type} {m : Sem α} {g : α → Sem β} {K : β → Sem Fin} {H : Value → Sem Fin} {gd lv} (h : Seg (model Pg C.w) A R Y n s₀ c (m.wrap (fun a => (g a).wrap K H gd lv) (fun e => (Sem.raise e : Sem β).wrap K H gd lv) (fun x => gd (id x)) (fun l => lv (id l))) frs s) :
    Seg (model Pg C.w) A R Y n s₀ c ((m >>= g).wrap K H gd lv) frs s := by
  rw [Sem.bind_eq_wrap', Sem.wrap_wrap]; exact h
theorem seg_If {test : Expr} {body orelse : List Stmt} {pos : Pos} {K : Flow → Sem Fin} {H : Value → Sem Fin} {gd lv} {Q : Bool → AS → Prop} (h : Run ⟨C, fs, L, A.over c frs⟩ (isTrue test env (eval test env)) Q σ) (Rl : Rel C fs L σ s)
    (k : ∀ b σ' s', Rel C fs L σ' s' → Q b σ' → Seg (model Pg C.w) A R Y n s₀ c ((if b = true then execs body env else execs orelse env).wrap K H gd lv) frs s') : Seg (model Pg C.w) A R Y n s₀ c ((exec (.If test body orelse pos) env).wrap K H gd lv) frs s := by
  rw [arm_exec_If]
  refine seg_runb (Q := fun _ σ' => σ' = σ) (run_standAt rfl) Rl fun _ σ' s' R' e => ?_
  subst e
  exact seg_runb h R' k
/-- the head of a for, up to its loop -/
theorem seg_For {target iter : Expr} {body orelse : List Stmt} {pos : Pos} {K : Flow → Sem Fin} {H : Value → Sem Fin} {gd lv} {Q : AV → AS → Prop} (hs : ∀ y, foldedSetIterable iter env y = pure y)
    (h : RunV ⟨C, fs, L, A.over c frs⟩ (eval iter env) (fun a σ₁ => ∀ v, er v = a → RunV ⟨C, fs, L, A.over c frs⟩ (pyIter v) Q σ₁) σ) (Rl : Rel C fs L σ s)
    (k : ∀ it σ' s', Rel C fs L σ' s' → Q (er it) σ' → Seg (model Pg C.w) A R Y n s₀ c ((runOwn (.forLoop target it body orelse env) env).wrap K H gd lv) frs s') :
    Seg (model Pg C.w) A R Y n s₀ c ((exec (.For target iter body orelse pos) env).wrap K H gd lv) frs s := by
  rw [arm_exec_For]
  refine seg_runb (Q := fun _ σ' => σ' = σ) (run_standAt rfl) Rl fun _ σ' s' R' e => ?_
  subst e
  refine seg_runb h R' fun v σ₁ s₁ R₁ h₁ => ?_
  rw [hs]
  refine seg_runb (Q := fun u σ' => u = v ∧ σ' = σ₁) (run_pure ⟨rfl, rfl⟩) R₁ fun u σ' s' R' e => ?_
  obtain ⟨rfl, rfl⟩ := e
  refine seg_runb (Q := fun _ σ₂ => σ₂ = σ') (run_standAt rfl) R' fun _ σ₂ s₂ R₂ e => ?_
  subst e
  exact seg_runb (run_hold (h₁ u rfl)) R₂ fun it σ' s' R' q => k it σ' s' R' q
/-- a turn of a for -/
theorem seg_forTurn {target : Expr} {it : Value} {body orelse : List Stmt} {Q : Option Value → AS → Prop} (h : Run ⟨C, fs, L, A.over (.forLoop target it body orelse env) frs⟩ (pyNext it) Q σ) (Rl : Rel C fs L σ s)
    (hn : ∀ σ' s', Rel C fs L σ' s' → Q none σ' → Seg (model Pg C.w) A R Y n s₀ (.block orelse env) ((model Pg C.w).den (.block orelse env)) frs s')
    (hi : ∀ v σ' s', Rel C fs L σ' s' → Q (some v) σ' → ∃ Q2 : AS → Prop, Run ⟨C, fs, L, A.over (.forLoop target it body orelse env) frs⟩ (letOwnedTupleGo target it v) (fun _ σ₂ => Run ⟨C, fs, L, A.over (.forLoop target it body orelse env) frs⟩ (assign target env v) (fun _ => Q2) σ₂) σ' ∧
      ∀ σ₂ s₂ H, Rel C fs L σ₂ s₂ → Q2 σ₂ → Seg (model Pg C.w) A R Y n s₀ (.forLoop target it body orelse env) ((execs body env).wrap (fun f => match f with | .next | .cont => .pure (.again (.forLoop target it body orelse env)) | .brk => .pure (.done .next) | .ret v => .pure (.done (.ret v))) H id id) frs s₂) :
    Seg (model Pg C.w) A R Y n s₀ (.forLoop target it body orelse env) ((model Pg C.w).den (.forLoop target it body orelse env)) frs s := by
  show Seg _ A R Y n s₀ _ ((forTurn target it body orelse env).onRaise (fun x => do noteFrame x env; theTreesLotGoes x)) frs s
  unfold forTurn
  rw [Sem.onRaise_eq_wrap]
  refine seg_runb (Q := fun _ σ' => σ' = σ) (run_standAt rfl) Rl fun _ σ' s' R' e => ?_
  subst e
  refine seg_runb (run_onRaise h) R' fun r σ₁ s₁ R₁ q => ?_
  cases r with
  | none => exact seg_again rfl (hn σ₁ s₁ R₁ q)
  | some v =>
    obtain ⟨Q2, h2, h3⟩ := hi v σ₁ s₁ R₁ q
    refine seg_runb h2 R₁ fun _ σ₂ s₂ R₂ q2 => seg_runb q2 R₂ fun _ σ₃ s₃ R₃ q3 => seg_bw ?_
    have := h3 σ₃ s₃ (fun e => (Sem.raise e : Sem Fin).wrap .pure (fun e => (((do noteFrame e env; theTreesLotGoes e) : Sem Unit).bind fun _ => .raise e)) id id) R₃ q3
    rw [Sem.wrap_congr (execs body env) _ _ (K' := fun f => match f with | .next | .cont => .pure (.again (.forLoop target it body orelse env)) | .brk => .pure (.done .next) | .ret v => .pure (.done (.ret v))) (fun f => by cases f <;> rfl) (fun e => rfl)]
    exact this
theorem seg_ind {M : Model} {cL : Code} (Inv : Nat → Nat → Shared → Shared → Prop)
    (turn : ∀ k, (∀ k' n s₀ s, k' < k → Inv k' n s₀ s → Seg M A R Y n s₀ cL (M.den cL) frs s) → ∀ n s₀ s, Inv k n s₀ s → Seg M A R Y n s₀ cL (M.den cL) frs s) (k n : Nat) (h : Inv k n s₀ s) : Seg M A R Y n s₀ cL (M.den cL) frs s := by
  have : ∀ k n s₀ s, Inv k n s₀ s → Seg M A R Y n s₀ cL (M.den cL) frs s := fun k => by
    induction k using Nat.strongRecOn with
    | _ k ih => exact turn k fun k' n s₀ s hk hi => ih k' hk n s₀ s hi
  exact this k n s₀ s h
end
theorem Rel.note {C : Cx} {fs : List (Addr × Loc)} {L : Addr} {σ : AS} {s : Shared} (R : Rel C fs L σ s) {b : Addr} {ao : AO} {o : Obj} (hb : C.h₀.objs.size ≤ b) (hL : b ≠ L) (hf : b ∉ fs.map (·.1)) (ho : s.heap.get? b = some o) (h : OR C.w ao o) : Rel C fs L (σ.put b ao) s :=
  ⟨R.ok, R.base, fun a ao' e => by
    by_cases ha : a = b
    · subst ha
      rw [put_same] at e
      cases e
      exact ⟨hb, hL, hf, o, ho, h⟩
    · exact R.obj a ao' (by simpa [AS.put, setHp, ha] using e), R.loc, R.frs, R.nd, R.new, R.gens, R.os⟩
theorem Rel.regs {C : Cx} {fs : List (Addr × Loc)} {L : Addr} {σ : AS} {s : Shared} (R : Rel C fs L σ s) (g : Array GenState) (hb : AllBare g) : Rel C fs L { σ with gs := g } { s with gens := g } :=
  ⟨R.ok, R.base, R.obj, R.loc, R.frs, R.nd, R.new, rfl, R.os.1, hb⟩
/-- a call of a generator -/
theorem rV_callgen {C : Cx} {fs : List (Addr × Loc)} {L : Addr} {A : Around} {σ : AS} {f : Addr} {oc : Value} {od : Option Addr} {osl : Array (Option Value)} {fd : FuncData} {body : List Stmt} {vals : List Value} {Q : AV → AS → Prop} (names : List Str) (binds : List (Str × Value))
    (hA : A.depth < recursionLimit) (ho : (Mine.hd.heap_39 C.w.params).lookup f = some ⟨oc, od, .func fd, osl⟩) (hcode : codeIn (Mine.hd.heap_39 C.w.params) fd.code fd.qualname = true)
    (hb : bindArgs fd ⟨vals, []⟩ = pure binds) (hn : ∀ b ∈ names, fd.scope.names.lookup b = some .local)
    (h : ∀ LG a oLG nm qn, (∃ s, Rel C fs L σ s) → Fresh σ LG → Fresh σ a → a ≠ LG → C.h₀.objs.size ≤ LG → C.h₀.objs.size ≤ a → LG ∉ L :: fs.map (·.1) → (∃ m, (∀ h : Heap, h.get? LG = some oLG → h.Ns LG m) ∧ ∀ y, (m y).map er = (enterC fd f binds LG σ).loc y) →
      Q (.ref a) ((({ σ with gs := σ.gs.push (.fresh (.func body (callEnvC fd LG f))) } : AS).put LG (.raw oLG)).put a (.raw { cls := .type "generator", data := .fields #[.int σ.gs.size 0, nm, qn] })))
    (hnm : binds.map (·.1) = names := by rfl) (hbody : fd.body = .stmts body := by rfl) (hclo : fd.closure = [] := by rfl) (hcell : ∀ n, cellsFrom n fd.scope.names [] = [] := by intro n; rfl)
    (hco : fd.scope.isCoroutine = false := by rfl) (hgen : fd.scope.isGenerator = true := by rfl) (hk : fd.scope.kind = .function := by rfl) :
    RunV ⟨C, fs, L, A⟩ (call (.ref f) vals []) Q σ := by
  intro s R
  have X := R.ok.kx.keeps R.base
  refine wpAny_call (codeAny_call_generator hA (X _ _ ho) rfl hco hgen hbody (codeRec_of X hcode) ?_)
  rw [hb, hclo]
  refine wpAny_pure ?_
  refine wpAny_newFunctionEnv_cells hk (fun b hb' => .inl (hn b.1 (hnm ▸ List.mem_map_of_mem hb'))) fun env he s' I => ?_
  subst he
  have R' := Rel.enter (f := f) R (by rw [hcell]; exact List.nodup_nil) I
  have hnl := (R.ok.top.nolimit.keeps R.base).keeps I.toInCall.keep
  refine ⟨hnl, ?_⟩
  have hLG0 : C.h₀.objs.size ≤ s.heap.objs.size := R.high _ (Nat.le_refl _)
  have R₁ : Rel C fs L σ s' := by
    have := R'.leave
    have e : ({ enterC fd f binds s.heap.objs.size σ with loc := σ.loc } : AS) = σ := by
      unfold enterC
      rw [hcell]
      rfl
    rw [e] at this
    exact this
  obtain ⟨m, hm, hx⟩ := R'.loc
  obtain ⟨o, es, ep, hget, hdat, hst, hfind⟩ := id hm
  have hnot : s.heap.objs.size ∉ L :: fs.map (·.1) := (List.nodup_cons.mp R'.nd).1
  have R₂ := R₁.note (ao := .raw o) hLG0 (fun e => hnot (e ▸ .head _)) (fun e => hnot (.tail _ e)) hget ⟨rfl, live_get hget⟩
  have hgs : s'.gens.size = σ.gs.size := by rw [R₁.gens]
  have R₃ := (R₂.regs (s'.gens.push (.fresh (.func body (callEnvC fd s.heap.objs.size f)))) (R₂.os.2.push rfl)).push (ao := .raw { cls := .type "generator", data := .fields #[.int s'.gens.size 0, .str fd.name s'.toks, .str fd.qualname (s'.toks + 1)] }) ⟨rfl, rfl⟩ (s'.toks + 1 + 1)
  have hlt : s.heap.objs.size < s'.heap.objs.size := Heap.lt_size hget
  refine ⟨_, R₃, ?_⟩
  have hq := h s.heap.objs.size s'.heap.objs.size o (.str fd.name s'.toks) (.str fd.qualname (s'.toks + 1)) ⟨s, R⟩ (R.fresh (Nat.le_refl _)) (R₁.fresh (Nat.le_refl _)) (Nat.ne_of_gt hlt) hLG0 (Nat.le_trans hLG0 (Nat.le_of_lt hlt)) hnot ⟨m, fun h hh => ⟨o, es, ep, hh, hdat, hst, hfind⟩, hx⟩
  rw [← hgs, ← R₁.gens] at hq
  exact hq
set_option maxHeartbeats 4000000 in
/-- connected_components(H) -/
theorem call_cc {C : Cx} {fs : List (Addr × Loc)} {L : Addr} {A : Around} {σ : AS} {H dH gdH ndH adH : Addr} {φ : Addr → Option AO} {ns : List Int} {nb : Int → List Int} {kvs : List (Int × AV)} {epn : Nat} {Q : AV → AS → Prop} (hA : Deep A 4)
    (hφ : ∀ b ao, φ b = some ao → σ.hp b = some ao) (G : GI ⟨fun _ => none, φ, #[]⟩ H dH gdH ndH adH [] false) (hnd : φ ndH = some (.idict kvs epn)) (hk : kvs.map (·.1) = ns) (hadj : AdjAt ⟨fun _ => none, φ, #[]⟩ adH ns nb)
    (hnb : ∀ n ∈ ns, ∀ m ∈ nb n, m ∈ ns) (hno : ns.Nodup) (h7 : ns.length ≤ 7) (hr : ∀ i ∈ ns, 0 ≤ i ∧ i < 7)
    (h : ∀ σ' a gi D, D.nb = nb → D.RT = rootsOf nb ns (fun _ => False) → D.φ = φ → (∀ b ao, σ.hp b = some ao → D.P b) → Fresh σ a → (∀ b ao, σ.hp b = some ao → σ'.hp b = some ao) → σ'.loc = σ.loc → GenAt ⟨C, fs, L, A⟩ D σ' a gi D.RT.length → Q (.ref a) σ') :
    RunV ⟨C, fs, L, A⟩ (call (.ref 33) [.ref H]) Q σ := by
  refine rV_callgen ["G"] [("G", .ref H)] hA.lt (by k_is) (by k_is) rfl (by decide) fun LG a oLG nm qn hR fLG fa hne hLG0 ha0 hLGn hm => ?_
  obtain ⟨s₁, R₁⟩ := hR
  obtain ⟨m, hm, hloc⟩ := hm
  let D : CC := { C := C, LG := LG, P := fun b => (∃ ao, σ.hp b = some ao) ∨ b = a ∨ b ∈ L :: fs.map (·.1) ∨ ∃ o, C.h₀.get? b = some o, φ := φ, nb := nb, RT := rootsOf nb ns (fun _ => False) }
  have hphi0 : ∀ b ao, φ b = some ao → C.h₀.objs.size ≤ b := fun b ao e => (R₁.obj b ao (hφ b ao e)).1
  have hd : D.Ok := by
    refine ⟨R₁.ok, hLG0, ?_, fun b o e => .inr (.inr (.inr ⟨o, e⟩)), fun b ao e => ⟨hphi0 b ao e, .inl ⟨ao, hφ b ao e⟩⟩⟩
    rintro (⟨ao, e⟩ | e | e | ⟨o, e⟩)
    · exact fLG _ _ e rfl
    · exact hne e.symm
    · exact hLGn e
    · exact absurd (Heap.lt_size e) (Nat.not_lt.mpr hLG0)
  have hpb : ∀ b, D.P b → C.h₀.objs.size ≤ b ∨ ∃ o, C.h₀.get? b = some o := by
    rintro b (⟨ao, e⟩ | e | e | e)
    · exact .inl (R₁.obj b ao e).1
    · exact .inl (e ▸ ha0)
    · exact .inl (R₁.new b e)
    · exact .inr e
  have hkeep : ∀ {g : Array GenState} {b ao}, σ.hp b = some ao → ((({ σ with gs := g } : AS).put LG (.raw oLG)).put a (.raw { cls := .type "generator", data := .fields #[.int σ.gs.size 0, nm, qn] })).hp b = some ao := fun {g b ao} e => put_ne (σ := ({ σ with gs := g } : AS).put LG (.raw oLG)) (fa _ _ e) (put_ne (σ := { σ with gs := g }) (fLG _ _ e) e)
  have hlow : ∀ {b : Addr}, ¬ D.P b → D.φ b = none := fun {b} q => by
    cases e : D.φ b with
    | none => rfl
    | some ao => exact absurd (hd.phi b ao e).2 q
  refine h _ a σ.gs.size D rfl rfl rfl (fun b ao e => .inl ⟨ao, e⟩) fa (fun b ao e => hkeep e) rfl ⟨hd, rfl, fun b hb => .inr (.inr (.inl hb)), .inr (.inl rfl), ⟨nm, qn, put_same⟩, fun b ao e => hkeep (hφ b ao e), ?_, ?_⟩
  · rintro b (⟨ao, e⟩ | rfl | e | e)
    · exact .inl ⟨ao, hkeep e⟩
    · exact .inl ⟨_, put_same⟩
    · exact .inr (.inl e)
    · exact .inr (.inr e)
  refine ⟨[LG], _, fun b hb => ?_, fun b hb => ?_, Array.getElem?_push_size, fun s'' Wk hW => ⟨rfl, ?_⟩⟩
  · rw [List.mem_singleton.mp hb]
    exact ⟨hd.pG, hLG0⟩
  · rw [List.mem_singleton.mp hb]
    exact ⟨oLG, put_ne hne.symm put_same⟩
  have hGo : s''.heap.get? LG = some oLG := hW LG (by simp) _ (put_ne hne.symm put_same)
  obtain ⟨σ₀, R₀, T₀, l₀, x₀⟩ := wake_rel (loc := (enterC _ 33 _ LG σ).loc) hd Wk D.φ (fun _ _ e => e) (fun b ao e => ⟨hphi0 b ao e, fun q => hd.pG (q ▸ (hd.phi b ao e).2), Wk.phi b ao e⟩) (fun b ao e _ => e) ⟨m, hm _ hGo, hloc⟩
  have lG : σ₀.loc "G" = some (.ref H) := by rw [l₀]; rfl
  refine seg_func ?_
  refine seg_stmt (Q := fun _ σ' => ∃ ss, Ext σ₀ σ' ∧ Fresh σ₀ ss ∧ σ'.loc "G" = some (.ref H) ∧ σ'.loc "seen" = some (.ref ss) ∧ σ'.hp ss = some (.set [] 0)) ?_ R₀ fun σ₁ s₂ R₂ hq => ?_
  · walk_at "st"
    refine n_call0 ?_
    walk_at "st"
    refine ⟨by walk_at "keep", call_set0 fun ss hss => ?_⟩
    walk_at "ev"
    walk_at "st"
    exact ⟨rfl, ss, (Ext.refl.put hss).bind, hss, by walk_at "loc", loc_same, bind_hp put_same⟩
  obtain ⟨ss, e₁, fss, lG₁, lS₁, hss₁⟩ := hq
  have pss : ¬ D.P ss := T₀.notP fss (R₂.obj ss _ hss₁).1
  have T₁ := T₀.ext e₁
  have hA₁ : ∀ (bd : List Stmt) (ev : Env), Deep (({ C := C, fs := fs, L := L, A := A } : X).A.in1.over (.func bd ev) []) 3 := fun bd ev => ⟨by show A.depth + 0 + 1 + 3 < 1000; have := hA.d; omega, hA.h⟩
  have hphiG : ∀ {τ : AS}, (∀ b ao, D.φ b = some ao → τ.hp b = some ao) → GI τ H dH gdH ndH adH [] false := fun {τ} q => ⟨q _ _ G.inst, let ⟨ep, e⟩ := G.dict; ⟨ep, q _ _ e⟩, G.exs⟩
  refine seg_execs_cons ?_
  refine seg_For (Q := fun a σ' => ∃ I, a = .ref I ∧ Fresh σ₁ I ∧ σ' = σ₁.put I (KIter ndH 0 kvs.length epn)) (by intro _; rfl) ?_ R₂ fun it σ₂ s₃ R₃ hq => ?_
  · walk_at "st"
    exact iter_graph ((hA₁ _ _).less (by omega)) (hphiG T₁.phi) (T₁.phi _ _ hnd) fun I hI => ⟨I, rfl, hI, rfl⟩
  obtain ⟨I, hit, hI, rfl⟩ := hq
  cases er_ref hit
  have pI : ¬ D.P I := T₁.notP hI (R₃.obj I _ put_same).1
  have hsI : ss ≠ I := hI _ _ hss₁
  refine seg_call fun p => ?_
  have hA₂ : ∀ (tg it : PySem.Expr) (iv : Value) (bd els : List Stmt) (ev : Env) (k h g l) (bd' : List Stmt) (ev' : Env) (kp), Deep (({ C := C, fs := fs, L := L, A := A } : X).A.in1.over (.forLoop tg iv bd els ev) [.ret k none g l (.func bd' ev') h kp]) 3 := fun tg it iv bd els ev k h g l bd' ev' kp => ⟨by show A.depth + (1 + 0) + 0 + 3 < 1000; have := hA.d; omega, hA.h⟩
  have hlen : kvs.length = ns.length := by rw [← hk]; simp
  refine seg_ind (fun k n s₀ s => ∃ σ xsS epS S i, Rel D.C [] D.LG σ s ∧ Trk D s₀ σ ∧ D.Wake s₀ ∧ σ.loc "seen" = some (.ref ss) ∧ σ.loc "G" = some (.ref H) ∧ σ.hp ss = some (.set xsS epS) ∧ σ.hp I = some (KIter ndH i kvs.length epn) ∧ i + k = ns.length ∧
    (∀ j, j ∈ xsS ↔ S j) ∧ n = (rootsOf nb (ns.drop i) S).length ∧ ∃ pre, D.RT = pre ++ rootsOf nb (ns.drop i) S) ?_ ns.length D.RT.length ⟨_, [], 0, fun _ => False, 0, R₃, T₁.ext (Ext.refl.put hI), Wk, lS₁, lG₁, put_new hI hss₁, put_same, by omega, by simp, rfl, [], rfl⟩
  rintro k ih n s₀ s ⟨σ₅, xsS, epS, S, i, R₅, T₅, Wk₅, lS, lG, hss, hII, hik, hS, hn, pre, hpre⟩
  refine seg_forTurn (Q := fun r σ' => (∃ v t, ns[i]? = some v ∧ r = some (.int v t) ∧ σ' = σ₅.put I (KIter ndH (i + 1) kvs.length epn)) ∨ (r = none ∧ kvs.length ≤ i ∧ σ' = σ₅.drop I)) ?_ R₅ (fun σ' s' R' hq => ?_) fun v σ' s' R' hq => ?_
  · refine next_idict (hA₂ _ (.Name "v" ⟨0, 0, 0, 0⟩) _ _ _ _ _ _ _ _ _ _ _).h hII (T₅.phi _ _ hnd) (fun v av hkv t => .inl ⟨v, t, ?_, rfl, rfl⟩) fun hge => .inr ⟨rfl, hge, rfl⟩
    rw [← hk, List.getElem?_map, hkv]; rfl
  · rcases hq with ⟨_, _, _, e, _⟩ | ⟨_, hge, rfl⟩
    · cases e
    · have hdrop : ns.drop i = [] := List.drop_eq_nil_of_le (by omega)
      rw [hdrop] at hn
      have hn0 : n = 0 := hn
      subst hn0
      refine seg_leaf (.ok .next) (seg_end (.ok (.ret .none)) ⟨rfl, rfl, (T₅.drop hd pI).after hd hpb Wk₅ R'⟩)
  · rcases hq with ⟨v, t, hv, e, rfl⟩ | ⟨e, _⟩
    · cases e
      refine ⟨fun τ => τ = (σ₅.put I (KIter ndH (i + 1) kvs.length epn)).bind "v" (.int v), lot_name (asg_name (store_local' (by walk_at "er") rfl)), ?_⟩
      rintro _ s₆ HH R₆ rfl
      have hvn : v ∈ ns := List.mem_of_getElem? hv
      have hil : i < ns.length := by
        rcases Nat.lt_or_ge i ns.length with h | h
        · exact h
        · rw [List.getElem?_eq_none h] at hv; cases hv
      have hdrop : ns.drop i = v :: ns.drop (i + 1) := by
        rw [List.drop_eq_getElem_cons hil]
        congr 1
        rw [List.getElem?_eq_getElem hil] at hv
        exact Option.some.inj hv
      have T₆ : Trk D s₀ ((σ₅.put I (KIter ndH (i + 1) kvs.length epn)).bind "v" (.int v)) := (T₅.set hd pI).bind
      have hss₆ : ((σ₅.put I (KIter ndH (i + 1) kvs.length epn)).bind "v" (.int v)).hp ss = some (.set xsS epS) := bind_hp (put_ne hsI hss)
      have hI₆ : ((σ₅.put I (KIter ndH (i + 1) kvs.length epn)).bind "v" (.int v)).hp I = some (KIter ndH (i + 1) kvs.length epn) := bind_hp put_same
      have lS₆ : ((σ₅.put I (KIter ndH (i + 1) kvs.length epn)).bind "v" (.int v)).loc "seen" = some (.ref ss) := by walk_at "loc"
      have lG₆ : ((σ₅.put I (KIter ndH (i + 1) kvs.length epn)).bind "v" (.int v)).loc "G" = some (.ref H) := by walk_at "loc"
      have lv₆ : ((σ₅.put I (KIter ndH (i + 1) kvs.length epn)).bind "v" (.int v)).loc "v" = some (.int v) := by walk_at "loc"
      generalize (σ₅.put I (KIter ndH (i + 1) kvs.length epn)).bind "v" (.int v) = σ₆ at *
      refine seg_execs_cons (seg_If (Q := fun b σ' => b = (!decide (v ∈ xsS)) ∧ σ' = σ₆) ?_ R₆ fun b σ₇ s₇ R₇ hb => ?_)
      · walk_at "st"
        walk_at "st"
        walk_at "st"
        exact notin_set hss₆ ⟨rfl, rfl⟩
      obtain ⟨rfl, rfl⟩ := hb
      by_cases hvS : v ∈ xsS
      · rw [decide_eq_true hvS]
        rw [if_neg (by decide)]
        refine seg_again rfl (ih (k - 1) n s₀ s₇ (by omega) ⟨σ₇, xsS, epS, S, i + 1, R₇, T₆, Wk₅, lS₆, lG₆, hss₆, hI₆, by omega, hS, ?_, pre, ?_⟩)
        · rw [hn, hdrop, rootsOf_in ((hS v).mp hvS)]
        · rw [hpre, hdrop, rootsOf_in ((hS v).mp hvS)]
      · rw [decide_eq_false hvS]
        rw [if_pos (by decide)]
        have hroots : rootsOf nb (ns.drop i) S = v :: rootsOf nb (ns.drop (i + 1)) fun j => S j ∨ Rch nb v j := by rw [hdrop, rootsOf_out fun q => hvS ((hS v).mpr q)]
        refine seg_stmt (Q := fun _ σ' => ∃ cv xs ep, Ext σ₇ σ' ∧ Fresh σ₇ cv ∧ σ'.hp cv = some (.set xs ep) ∧ (∀ j, j ∈ xs ↔ Rch nb v j) ∧ σ'.loc "seen" = some (.ref ss) ∧ σ'.loc "G" = some (.ref H) ∧ σ'.loc "c" = some (.ref cv)) ?_ R₇ fun σ₈ s₈ R₈ hq => ?_
        · walk_at "st"
          refine n_call1 ?_
          walk_at "st"
          refine ⟨by walk_at "keep", a_cons ?_⟩
          refine n_call1 ?_
          walk_at "st"
          refine ⟨by walk_at "keep", a_cons ?_⟩
          refine n_attr' ?_
          walk_at "st"
          refine gi_adj (hphiG T₆.phi) ?_
          walk_at "ev"
          refine a_cons (n_list (a_cons ?_))
          walk_at "st"
          refine a_nil ?_
          refine new_list (fits (by simp)) fun l hl => ?_
          walk_at "ev"
          refine a_nil ?_
          have hadj' : AdjAt (σ₇.put l (.list [.int v])) adH ns nb := by
            obtain ⟨kv, ep, q1, q2, q3⟩ := hadj
            refine ⟨kv, ep, put_new hl (T₆.phi _ _ q1), q2, fun n hn => ?_⟩
            obtain ⟨a', kv', ep', w1, w2, w3⟩ := q3 n hn
            exact ⟨a', kv', ep', w1, put_new hl (T₆.phi _ _ w2), w3⟩
          refine reached_spec ((hA₂ _ (.Name "v" ⟨0, 0, 0, 0⟩) _ _ _ _ _ _ _ _ _ _ _).less (by omega)) hadj' put_same hvn hnb hno (by omega) fun σ₈ q l' e₈ loc₈ hl' hqn hvq hq => ?_
          walk_at "ev"
          refine a_nil ?_
          have hq7 : ∀ j ∈ q, 0 ≤ j ∧ j < 7 := fun j hj => hr j (hq j hj).1
          refine set_list (hA₂ _ (.Name "v" ⟨0, 0, 0, 0⟩) _ _ _ _ _ _ _ _ _ _ _).h hl' hq7 fun cv σ₉ xs ep e₉ loc₉ fcv hcv hxs hj => ?_
          walk_at "ev"
          walk_at "st"
          have e : Ext σ₇ σ₉ := ((Ext.refl.put hl).trans e₈).trans e₉
          have hloc : σ₉.loc = σ₇.loc := by rw [loc₉, loc₈]; rfl
          refine ⟨rfl, cv, xs, ep, e.bind, (((Ext.refl.put hl).trans e₈)).fresh fcv, bind_hp hcv, fun j => ?_, ?_, ?_, loc_same⟩
          · rw [hj]
            constructor
            · exact fun h => (hq j h).2.1
            · intro h
              induction h with
              | here => exact hvq
              | step _ hb ih => exact (hq _ ih).2.2 _ hb
          · refine loc_ne (by decide) ?_
            rw [hloc]; exact lS₆
          · refine loc_ne (by decide) ?_
            rw [hloc]; exact lG₆
        obtain ⟨cv, xs, ep, e₈, fcv, hcv, hxs, lS₈, lG₈, lc₈⟩ := hq
        have T₈ := T₆.ext e₈
        have hcv0 : D.C.h₀.objs.size ≤ cv := (R₈.obj cv _ hcv).1
        have pcv : ¬ D.P cv := T₆.notP fcv hcv0
        have hsc : ss ≠ cv := fcv _ _ hss₆
        have hIc : I ≠ cv := fcv _ _ hI₆
        refine seg_stmt (Q := fun _ σ' => ∃ xs' ep', σ' = σ₈.put ss (.set xs' ep') ∧ ∀ j, j ∈ xs' ↔ j ∈ xsS ∨ j ∈ xs) ?_ R₈ fun σ₉ s₉ R₉ hq => ?_
        · walk_at "st"
          refine n_meth1 ?_
          walk_at "st"
          refine meth_set (e₈.hp _ _ hss₆) F.slot_set_update (by rfl) ⟨by walk_at "keep", ?_⟩
          walk_at "st"
          refine call_update (e₈.hp _ _ hss₆) hcv hsc.symm fun xs' ep' h1 h2 => ?_
          walk_at "ev"
          refine drop_none ?_
          exact ⟨rfl, xs', ep', rfl, h2⟩
        obtain ⟨xs', ep', rfl, hxs'⟩ := hq
        have T₉ : Trk D s₀ (σ₈.put ss (.set xs' ep')) := T₈.set hd pss
        have hcv₉ : (σ₈.put ss (.set xs' ep')).hp cv = some (.set xs ep) := put_ne hsc.symm hcv
        have hss₉ : (σ₈.put ss (.set xs' ep')).hp ss = some (.set xs' ep') := put_same
        have hI₉ : (σ₈.put ss (.set xs' ep')).hp I = some (KIter ndH (i + 1) kvs.length epn) := put_ne hsI.symm (e₈.hp _ _ hI₆)
        have lS₉ : (σ₈.put ss (.set xs' ep')).loc "seen" = some (.ref ss) := lS₈
        have lG₉ : (σ₈.put ss (.set xs' ep')).loc "G" = some (.ref H) := lG₈
        have lc₉ : (σ₈.put ss (.set xs' ep')).loc "c" = some (.ref cv) := lc₈
        generalize σ₈.put ss (.set xs' ep') = σ₉ at *
        rw [hroots, List.length_cons] at hn
        subst hn
        refine seg_execs_cons (seg_Expr_Yield rfl rfl rfl ?_)
        refine wpAny_mono (run_to (Q := fun v σ' => er v = .ref cv ∧ σ' = σ₉) (Q' := fun v s' => v = .ref cv ∧ Rel D.C [] D.LG σ₉ s') (E := fun _ _ => False) (x := ⟨D.C, [], D.LG, _⟩) ?_ R₉ fun v σ' s' R' ⟨q1, q2⟩ => ⟨er_ref q1, q2 ▸ R'⟩) (fun v s' ⟨ev, R'⟩ => ?_) fun _ _ e => e.elim
        · show RunV _ _ (fun a σ' => a = .ref cv ∧ σ' = σ₉) _
          refine n_local lc₉ ⟨rfl, rfl⟩
        subst ev
        intro kap hkap
        obtain ⟨oc, hoc, hor⟩ := R'.get hcv₉
        obtain ⟨oss, hoss, horss⟩ := R'.get hss₉
        obtain ⟨oI, hoI, horI⟩ := R'.get hI₉
        obtain ⟨mL, hmL, hxL⟩ := R'.loc
        have hGL : ∃ o, s'.heap.get? D.LG = some o := by obtain ⟨o, _, _, q, _⟩ := hmL; exact ⟨o, q⟩
        have hcL : cv ≠ D.LG := (R'.obj cv _ hcv₉).2.1
        have hsL : ss ≠ D.LG := (R'.obj ss _ hss₉).2.1
        have hIL : I ≠ D.LG := (R'.obj I _ hI₉).2.1
        have hs0 : D.C.h₀.objs.size ≤ ss := (R'.obj ss _ hss₉).1
        have hI0 : D.C.h₀.objs.size ≤ I := (R'.obj I _ hI₉).1
        refine ⟨T₉.after hd hpb Wk₅ R', cv, xs, ep, oc, v, [D.LG, ss, I], rfl, ?_, pcv, hcv0, hoc, hor, hxs, ?_, ?_, ?_, fun s₁ Wk₁ hW₁ => hkap .none s₁ ?_⟩
        · rw [hpre, hroots]
          have : (pre ++ v :: rootsOf nb (ns.drop (i + 1)) fun j => S j ∨ Rch nb v j).length - 1 - (rootsOf nb (ns.drop (i + 1)) fun j => S j ∨ Rch nb v j).length = pre.length := by rw [List.length_append, List.length_cons]; omega
          rw [this, List.getElem?_append_right (Nat.le_refl _), Nat.sub_self]; rfl
        · intro b hb
          simp only [List.mem_cons, List.not_mem_nil, or_false] at hb
          rcases hb with rfl | rfl | rfl
          · exact ⟨hd.pG, hLG0⟩
          · exact ⟨pss, hs0⟩
          · exact ⟨pI, hI0⟩
        · intro hb
          simp only [List.mem_cons, List.not_mem_nil, or_false] at hb
          rcases hb with e | e | e
          · exact hcL e
          · exact hsc e.symm
          · exact hIc e.symm
        · intro b hb
          simp only [List.mem_cons, List.not_mem_nil, or_false] at hb
          rcases hb with rfl | rfl | rfl
          · exact hGL
          · exact ⟨_, hoss⟩
          · exact ⟨_, hoI⟩
        · obtain ⟨τ, Rτ, Tτ, lτ, xτ⟩ := wake_rel (loc := σ₉.loc) hd Wk₁ (fun b => if b = ss then some (.set xs' ep') else if b = I then some (KIter ndH (i + 1) kvs.length epn) else D.φ b)
            (fun b ao e => by
              have hP := (hd.phi b ao e).2
              show (if b = ss then _ else if b = I then _ else D.φ b) = _
              rw [if_neg (fun (q : b = ss) => pss (q ▸ hP)), if_neg (fun (q : b = I) => pI (q ▸ hP)), e])
            (fun b ao e => by
              by_cases h1 : b = ss
              · subst h1
                have e' : some (AO.set xs' ep') = some ao := by rw [← e]; exact (if_pos rfl).symm
                cases e'
                exact ⟨hs0, hsL, oss, by rw [hW₁ b (by simp)]; exact hoss, horss⟩
              · by_cases h2 : b = I
                · subst h2
                  have e' : some (KIter ndH (i + 1) kvs.length epn) = some ao := by rw [← e]; exact ((if_neg h1).trans (if_pos rfl)).symm
                  cases e'
                  exact ⟨hI0, hIL, oI, by rw [hW₁ b (by simp)]; exact hoI, horI⟩
                · have e' : D.φ b = some ao := by rw [← e]; exact ((if_neg h1).trans (if_neg h2)).symm
                  exact ⟨(hd.phi b ao e').1, fun q => hd.pG (q ▸ (hd.phi b ao e').2), Wk₁.phi b ao e'⟩)
            (fun b ao e hP => by
              rw [← e]
              exact ((if_neg (fun (q : b = ss) => pss (q ▸ hP))).trans (if_neg (fun (q : b = I) => pI (q ▸ hP)))).symm)
            ⟨mL, hmL.at' fun o q => by rw [hW₁ D.LG (by simp)]; exact q, hxL⟩
          refine seg_again rfl (ih (k - 1) _ s₁ s₁ (by omega) ⟨τ, xs', ep', fun j => S j ∨ Rch nb v j, i + 1, Rτ, Tτ, Wk₁, by rw [lτ]; exact lS₉, by rw [lτ]; exact lG₉, xτ ss _ (if_pos rfl), xτ I _ ((if_neg hsI.symm).trans (if_pos rfl)), by omega, fun j => ?_, rfl, pre ++ [v], ?_⟩)
          · rw [hxs', hS, hxs]
          · rw [hpre, hroots, List.append_assoc]; rfl
    · cases e
end
-- AzCq
section
theorem aget_aput {kvs : List (Int × AV)} {k u : Int} {v : AV} : aget (aput kvs k v) u = if u = k then some v else aget kvs u := by
  unfold aput
  by_cases h : (kvs.any fun kv => decide (kv.1 = k)) = true
  · rw [if_pos h]
    unfold aget
    induction kvs with
    | nil => simp at h
    | cons p r ih =>
      rw [List.map_cons, List.find?_cons, List.find?_cons]
      by_cases hp : p.1 = k
      · by_cases hu : u = k
        · simp [hp, hu]
        · have hku : ¬ k = u := fun e => hu e.symm
          simp only [hp, if_true, hku, hu, decide_false, if_false]
          by_cases hr : (r.any fun kv => decide (kv.1 = k)) = true
          · have := ih hr
            rw [if_neg hu] at this
            exact this
          · have : r.map (fun kv => if kv.1 = k then (kv.1, v) else kv) = r := by
              rw [List.any_eq_true] at hr
              refine (List.map_congr_left fun q hq => if_neg fun e => hr ⟨q, hq, by simpa using e⟩).trans (List.map_id _)
            rw [this]
      · have hr : (r.any fun kv => decide (kv.1 = k)) = true := by simpa [hp] using h
        simp only [hp, if_false]
        by_cases hu : p.1 = u
        · have : ¬ u = k := fun e => hp (hu.trans e)
          simp [hu, this]
        · simp only [hu, decide_false]
          exact ih hr
  · rw [if_neg h]
    unfold aget
    rw [List.find?_append]
    by_cases hu : u = k
    · subst hu
      have : kvs.find? (fun kv => decide (kv.1 = u)) = none := by
        rw [List.find?_eq_none]
        intro p hp e
        exact h (List.any_eq_true.mpr ⟨p, hp, e⟩)
      rw [this]; simp
    · have hku : ¬ k = u := fun e => hu e.symm
      rw [if_neg hu]
      simp [hku]
theorem aput_len {K : Type} [DecidableEq K] {kvs : List (K × AV)} {k : K} {v : AV} : (aput kvs k v).length ≤ kvs.length + 1 := by
  unfold aput
  split <;> simp
section
variable {x : X} {α β : Type} {σ : AS} {env : Env}
theorem iadd_int {a b : Int} {t u : Tok} {Q : AV → AS → Prop} (h : Q (.int (a + b)) σ) : RunV x (inplaceOp .Add (.int a t) (.int b u)) Q σ := fun s R => AutoIntOps.iadd_0 ⟨σ, R.toks _, h⟩
theorem s_aug {n : Str} {np pos : Pos} {op : Operator} {e : Expr} {Q : Flow → AS → Prop} (h : RunV x (loadName env n) (fun a σ₁ => ∀ old, er old = a → RunV x (eval e env) (fun b σ₂ => ∀ v, er v = b → RunV x (inplaceOp op old v) (fun c σ₃ => ∀ w, er w = c → Run x (storeName env n w) (fun _ σ₄ => Q .next σ₄) σ₃) σ₂) σ₁) σ) :
    Run x (exec (.AugAssign (.Name n np) op e pos) env) Q σ := by
  rw [arm_exec_AugAssign]
  exact run_bind (run_standAt (runV_bind (runV_mono h fun a σ₁ h₁ old ho => runV_bind (runV_hold (runV_mono (h₁ old ho) fun b σ₂ h₂ v hv => run_bind (run_standAt (run_bind (run_operate (run_mono (h₂ v hv) fun w σ₃ h₃ => run_bind (run_standAt (run_bind (run_bindName (run_mono (h₃ w rfl) fun _ _ q => run_pure q)))))))))))))
theorem n_set1 {e : Expr} {pos : Pos} {i : Int} {Q : AV → AS → Prop} (hi : 0 ≤ i ∧ i < 7) (hcode : kdsCode (Mine.hd.heap_39 x.C.w.params) env.code = true)
    (h : ∀ a, Fresh σ a → RunV x (eval e env) (fun b σ₁ => b = .int i ∧ σ₁.hp a = some (.set [] 0) ∧ ∀ xs' ep', Small xs' → (∀ j, j ∈ xs' ↔ j = i) → Q (.ref a) (σ₁.put a (.set xs' ep'))) (σ.put a (.set [] 0)))
    (he : starEach [e] env = [(false, eval e env)] := by rfl) : RunV x (eval (.Set [e] 0 pos) env) Q σ := by
  show Run x (eval (.Set [e] 0 pos) env) _ σ
  rw [arm_eval_Set]
  have key : ∀ b, Run x (setDisplay (displayRoad 0 [e]) b ((starEach [e] env).map fun (star, t) => (star, do let v ← t; standAt pos; pure v))) (fun v σ' => Q (er v) σ') σ := by
    intro b
    rw [he, show displayRoad 0 [e] = .oneByOne from rfl]
    unfold setDisplay
    simp only [List.map_cons, List.map_nil]
    rw [if_neg (by decide)]
    refine runV_bind (new_set fun a ha => ?_)
    intro v hv
    cases er_ref hv
    refine run_bind (run_hold (run_bind ?_))
    show Run x ((eval e env >>= fun v => standAt pos >>= fun _ => pure v) >>= fun v => holding [v] (pure []) >>= fun r => pure (v :: r)) _ _
    refine run_bind (runV_bind (runV_mono (h a ha) fun b σ₁ ⟨h1, h2, h3⟩ u hu => run_bind (run_standAt (run_pure ?_))))
    subst h1
    obtain ⟨t, rfl⟩ := er_int hu
    refine run_bind (run_hold (run_pure (run_pure ?_)))
    refine run_bind (run_hold (run_bind ?_))
    rw [List.forIn_cons]
    refine run_bind (run_bind ?_)
    unfold setAdd
    refine run_hold (run_bind ?_)
    intro s R
    refine (intKind Pg x.C.w).pyHash (intKind_is _ _ i t) ?_
    rw [hash_small hi]
    refine ⟨σ₁, R.toks _, run_addH h2 hi fun xs' ep' q1 q2 => ?_⟩
    refine run_pure ?_
    show Run x (pure PUnit.unit) _ _
    refine run_pure ?_
    show Run x (if (DisplayRoad.oneByOne == DisplayRoad.unsure) = true then _ else _) _ _
    rw [if_neg (by decide)]
    refine run_pure ?_
    refine run_bind (t := pure PUnit.unit) (run_pure (run_pure ?_))
    exact run_pure (h3 xs' ep' q1 fun j => by rw [q2]; simp)
  exact run_bind (run_standAt (run_bind fun s R => kds_main (R.ok.kx.keeps R.base) hcode fun b => ⟨σ, R, key b⟩))
end
theorem GenAt.keepB {x : X} {D : CC} {σ τ : AS} {a : Addr} {gi n : Nat} {rd : Addr} {kvs : List (Int × AV)} {ep : Nat} (G : GenAt x D σ a gi n) (hr : σ.hp rd = some (.idict kvs ep)) (hφ : D.φ rd = none) (k : ∀ b ao, b ≠ rd → σ.hp b = some ao → τ.hp b = some ao) (hr' : ∃ ao, τ.hp rd = some ao) (hg : τ.gs = σ.gs) : GenAt x D τ a gi n := by
  obtain ⟨hd, hc, hfr, hpa, ⟨nm, qn, hgen⟩, hphi, hal, W, gs, hW, hWr, hgs, hgo⟩ := G
  have raw : ∀ b o, σ.hp b = some (.raw o) → τ.hp b = some (.raw o) := fun b o e => k b _ (fun q => by rw [q, hr] at e; cases e) e
  refine ⟨hd, hc, hfr, hpa, ⟨nm, qn, raw _ _ hgen⟩, fun b ao e => k b ao (fun q => by rw [q, hφ] at e; cases e) (hphi b ao e), fun b hb => ?_, W, gs, hW, fun b hb => ?_, hg ▸ hgs, fun s'' Wk hw => hgo s'' Wk fun b hb o e => hw b hb o (raw b o e)⟩
  · rcases hal b hb with ⟨ao, e⟩ | e
    · by_cases q : b = rd
      · subst q; exact .inl hr'
      · exact .inl ⟨ao, k b ao q e⟩
    · exact .inr e
  · obtain ⟨o, e⟩ := hWr b hb
    exact ⟨o, raw _ _ e⟩
theorem iter_gen {x : X} {D : CC} {σ : AS} {a : Addr} {gi n : Nat} {Q : AV → AS → Prop} (G : GenAt x D σ a gi n) (h : Q (.ref a) σ) : RunV x (pyIter (.ref a)) Q σ := by
  intro s R
  obtain ⟨nm, qn, hgen⟩ := G.gen
  have hg : s.heap.IsGen a gi := by refine ⟨_, nm, qn, raw_at R hgen, ?_, ?_, ?_⟩ <;> rfl
  exact wpAny_pyIter_gen hg ⟨σ, R, h⟩
/-- a graph's own objects -/
theorem GraphAt.own {σ : AS} {g d gd nd ad : Addr} {ia : Int → Addr} {ns : List Int} {nb : Int → List Int} {ex : List (Str × AV)} {hd : Bool} (G : GraphAt σ g d gd nd ad ia ns nb ex hd) : ∃ (φ : Addr → Option AO) (kvs : List (Int × AV)) (ep : Nat),
    (∀ b ao, φ b = some ao → σ.hp b = some ao) ∧ (∀ b ao, φ b = some ao → b = g ∨ b = d ∨ b = nd ∨ b = ad ∨ ∃ n ∈ ns, b = ia n) ∧ GI ⟨fun _ => none, φ, #[]⟩ g d gd nd ad ex hd ∧ φ nd = some (.idict kvs ep) ∧ kvs.map (·.1) = ns ∧ AdjAt ⟨fun _ => none, φ, #[]⟩ ad ns nb := by
  classical
  let P : Addr → Prop := fun b => b = g ∨ b = d ∨ b = nd ∨ b = ad ∨ ∃ n ∈ ns, b = ia n
  let φ : Addr → Option AO := fun b => if P b then σ.hp b else none
  have at_ : ∀ {b ao}, P b → σ.hp b = some ao → φ b = some ao := fun {b ao} h e => (if_pos h).trans e
  obtain ⟨kvs, ep, h1, h2, _⟩ := G.node
  refine ⟨φ, kvs, ep, fun b ao e => ?_, fun b ao e => ?_, ⟨at_ (.inl rfl) G.inst, ?_, G.exs⟩, at_ (.inr (.inr (.inl rfl))) h1, h2, ?_⟩
  · by_cases h : P b
    · rw [← e]; exact (if_pos h).symm
    · have : (none : Option AO) = some ao := by rw [← e]; exact (if_neg h).symm
      cases this
  · by_cases h : P b
    · exact h
    · have : (none : Option AO) = some ao := by rw [← e]; exact (if_neg h).symm
      cases this
  · obtain ⟨ep, e⟩ := G.dict; exact ⟨ep, at_ (.inr (.inl rfl)) e⟩
  · obtain ⟨epa, e⟩ := G.adj
    refine ⟨_, epa, at_ (.inr (.inr (.inr (.inl rfl)))) e, ?_, fun n hn => ?_⟩
    · rw [List.map_map]; exact List.map_id _
    · obtain ⟨kv, ep', q1, q2, _⟩ := G.inner n hn
      exact ⟨ia n, kv, ep', aget_adj ia hn, at_ (.inr (.inr (.inr (.inr ⟨n, hn, rfl⟩)))) q1, q2⟩
end
-- AzRow
section
def Cl (nb : Int → List Int) (v u : Int) : Prop := u = v ∨ u ∈ nb v
inductive Way (nb : Int → List Int) (v a : Int) : Int → Prop where
  | here : Way nb v a a
  | step {b c : Int} : Way nb v a b → c ∈ nb b → ¬ Cl nb v c → Way nb v a c
def RowOK (nb : Int → List Int) (ns : List Int) (v : Int) (kvr : List (Int × AV)) : Prop := ∀ u ∈ ns, ∀ w ∈ ns, ∃ l l' : Int, aget kvr u = some (.int l) ∧ aget kvr w = some (.int l') ∧
  (l = l' ↔ (Cl nb v u ∧ Cl nb v w) ∨ (¬ Cl nb v u ∧ ¬ Cl nb v w ∧ Way nb v u w))
theorem Rch.trans {nb : Int → List Int} {a b c : Int} (h : Rch nb a b) (h' : Rch nb b c) : Rch nb a c := by
  induction h' with
  | here => exact h
  | step _ hb ih => exact .step ih hb
theorem Rch.symm {nb : Int → List Int} (hs : ∀ a b, b ∈ nb a → a ∈ nb b) {a b : Int} (h : Rch nb a b) : Rch nb b a := by
  induction h with
  | here => exact .here
  | step _ hb ih => exact Rch.trans (.step .here (hs _ _ hb)) ih
theorem roots_cover {nb : Int → List Int} : ∀ (l : List Int) (S : Int → Prop), ∀ n ∈ l, S n ∨ ∃ (k : Nat) (r : Int), (rootsOf nb l S)[k]? = some r ∧ Rch nb r n
  | [], _, n, h => by cases h
  | v :: r, S, n, h => by
    by_cases hv : S v
    · rw [rootsOf_in hv]
      rcases List.mem_cons.mp h with rfl | h
      · exact .inl hv
      · exact roots_cover r S n h
    · rw [rootsOf_out hv]
      rcases List.mem_cons.mp h with rfl | h
      · exact .inr ⟨0, n, rfl, .here⟩
      · rcases roots_cover r (fun n => S n ∨ Rch nb v n) n h with (q | q) | ⟨k, r', q1, q2⟩
        · exact .inl q
        · exact .inr ⟨0, v, rfl, q⟩
        · exact .inr ⟨k + 1, r', by rw [List.getElem?_cons_succ]; exact q1, q2⟩
theorem roots_new {nb : Int → List Int} : ∀ (l : List Int) (S : Int → Prop), ∀ r ∈ rootsOf nb l S, ¬ S r ∧ r ∈ l
  | [], _, r, h => by cases h
  | v :: t, S, r, h => by
    by_cases hv : S v
    · rw [rootsOf_in hv] at h
      obtain ⟨q1, q2⟩ := roots_new t S r h
      exact ⟨q1, .tail _ q2⟩
    · rw [rootsOf_out hv] at h
      rcases List.mem_cons.mp h with rfl | h
      · exact ⟨hv, .head _⟩
      · obtain ⟨q1, q2⟩ := roots_new t _ r h
        exact ⟨fun q => q1 (.inl q), .tail _ q2⟩
theorem roots_apart {nb : Int → List Int} : ∀ (l : List Int) (S : Int → Prop) (i j : Nat) (a b : Int), i < j → (rootsOf nb l S)[i]? = some a → (rootsOf nb l S)[j]? = some b → ¬ Rch nb a b
  | [], S, i, j, a, b, _, h, _ => by simp [rootsOf] at h
  | v :: t, S, i, j, a, b, hij, ha, hb => by
    by_cases hv : S v
    · rw [rootsOf_in hv] at ha hb
      exact roots_apart t S i j a b hij ha hb
    · rw [rootsOf_out hv] at ha hb
      obtain ⟨j', rfl⟩ : ∃ j', j = j' + 1 := ⟨j - 1, by omega⟩
      rw [List.getElem?_cons_succ] at hb
      cases i with
      | zero =>
        have : v = a := by simpa using ha
        subst this
        exact fun q => (roots_new t _ b (List.mem_of_getElem? hb)).1 (.inr q)
      | succ i' =>
        rw [List.getElem?_cons_succ] at ha
        exact roots_apart t _ i' j' a b (by omega) ha hb
theorem row_ok {nb nb' : Int → List Int} {ns ns' xsn : List Int} {v : Int} {kvr : List (Int × AV)} (hv : v ∈ ns) (hsym : ∀ a b, b ∈ nb a → a ∈ nb b) (hcl : ∀ n ∈ ns, ∀ m ∈ nb n, m ∈ ns) (hx : ∀ j, j ∈ xsn ↔ Cl nb v j) (hns : ∀ n, n ∈ ns' ↔ n ∈ ns ∧ n ∉ xsn) (hnb : ∀ n m, m ∈ nb' n ↔ n ∈ ns' ∧ m ∈ ns' ∧ m ∈ nb n)
    (hA : ∀ u ∈ xsn, aget kvr u = some (.int 0)) (hB : ∀ (k : Nat) (r : Int), (rootsOf nb' ns' (fun _ => False))[k]? = some r → ∀ u, Rch nb' r u → aget kvr u = some (.int (k + 1))) : RowOK nb ns v kvr := by
  have hsym' : ∀ a b, b ∈ nb' a → a ∈ nb' b := fun a b h => by
    obtain ⟨q1, q2, q3⟩ := (hnb a b).mp h
    exact (hnb b a).mpr ⟨q2, q1, hsym _ _ q3⟩
  have hin : ∀ {a b}, Rch nb' a b → a ∈ ns' → b ∈ ns' := fun h ha => by
    induction h with
    | here => exact ha
    | step _ hb _ => exact ((hnb _ _).mp hb).2.1
  have hout : ∀ u ∈ ns, ¬ Cl nb v u → u ∈ ns' := fun u hu hc => (hns u).mpr ⟨hu, fun q => hc ((hx u).mp q)⟩
  have toWay : ∀ {a b}, Rch nb' a b → Way nb v a b := fun h => by
    induction h with
    | here => exact .here
    | @step b c _ hb ih =>
      obtain ⟨_, q2, q3⟩ := (hnb _ _).mp hb
      exact .step ih q3 fun q => ((hns _).mp q2).2 ((hx _).mpr q)
  have ofWay : ∀ {a b}, Way nb v a b → a ∈ ns' → Rch nb' a b := fun h ha => by
    induction h with
    | here => exact .here
    | @step b c _ hb hc ih =>
      have hb' := hin ih ha
      exact .step ih ((hnb _ _).mpr ⟨hb', hout _ (hcl _ ((hns _).mp hb').1 _ hb) hc, hb⟩)
  intro u hu w hw
  by_cases cu : Cl nb v u
  · have eu := hA u ((hx u).mpr cu)
    by_cases cw : Cl nb v w
    · exact ⟨0, 0, eu, hA w ((hx w).mpr cw), ⟨fun _ => .inl ⟨cu, cw⟩, fun _ => rfl⟩⟩
    · rcases roots_cover ns' (fun _ => False) w (hout w hw cw) with q | ⟨k, r, q1, q2⟩
      · exact q.elim
      · refine ⟨0, k + 1, eu, hB k r q1 w q2, ⟨fun e => by omega, fun h => ?_⟩⟩
        rcases h with ⟨_, h⟩ | ⟨h, _⟩
        · exact absurd h cw
        · exact absurd cu h
  · rcases roots_cover ns' (fun _ => False) u (hout u hu cu) with q | ⟨k, r, q1, q2⟩
    · exact q.elim
    · by_cases cw : Cl nb v w
      · refine ⟨k + 1, 0, hB k r q1 u q2, hA w ((hx w).mpr cw), ⟨fun e => by omega, fun h => ?_⟩⟩
        rcases h with ⟨h, _⟩ | ⟨_, h, _⟩
        · exact absurd h cu
        · exact absurd cw h
      · rcases roots_cover ns' (fun _ => False) w (hout w hw cw) with q | ⟨k', r', q1', q2'⟩
        · exact q.elim
        · refine ⟨k + 1, k' + 1, hB k r q1 u q2, hB k' r' q1' w q2', ⟨fun e => ?_, fun h => ?_⟩⟩
          · have : k = k' := by omega
            subst this
            rw [q1] at q1'
            cases q1'
            exact .inr ⟨cu, cw, toWay ((q2.symm hsym').trans q2')⟩
          · rcases h with ⟨h, _⟩ | ⟨_, _, h⟩
            · exact absurd h cu
            · have hr := ofWay h (hout u hu cu)
              have h1 : Rch nb' r r' := (q2.trans hr).trans (q2'.symm hsym')
              rcases Nat.lt_trichotomy k k' with hlt | rfl | hgt
              · exact absurd h1 (roots_apart _ _ _ _ _ _ hlt q1 q1')
              · rfl
              · exact absurd (h1.symm hsym') (roots_apart _ _ _ _ _ _ hgt q1' q1)
end
-- AzCs
section
theorem kds_of {K : Frag} {c : Addr} {oc : Value} {od : Option Addr} {vs : Array Value} {osl : Array (Option Value)} (h : K.lookup c = some ⟨oc, od, .fields vs, osl⟩) : kdsCode K (.ref c) = true := by
  unfold kdsCode
  show (match K.lookup c with | some ⟨_, _, .fields _, _⟩ => true | _ => false) = true
  rw [h]
theorem roots_len {nb : Int → List Int} : ∀ (l : List Int) (S : Int → Prop), (rootsOf nb l S).length ≤ l.length
  | [], _ => Nat.le_refl _
  | v :: r, S => by
    by_cases hv : S v
    · rw [rootsOf_in hv]; exact Nat.le_succ_of_le (roots_len r S)
    · rw [rootsOf_out hv]; exact Nat.succ_le_succ (roots_len r _)
theorem bind_off {σ : AS} {n m : Str} {v : AV} (h : m ≠ n) : (σ.bind n v).loc m = σ.loc m := if_neg h
section
variable {x : X} {τ : AS} {env : Env}
/-- for u in sorted(S): row_dict[u] = E -/
theorem fill_loop {Xn : Str} {p1 p2 p3 p4 p5 p6 p7 p8 p9 : Pos} {E : PySem.Expr} {c : Int} {xs : List Int} {ep epr : Nat} {S rd : Addr} {kvr : List (Int × AV)} {Q : Flow → AS → Prop} (hA : Deep x.A 1)
    (hX : τ.loc Xn = some (.ref S)) (hS : τ.hp S = some (.set xs ep)) (hrd : τ.loc "row_dict" = some (.ref rd)) (hr : τ.hp rd = some (.idict kvr epr)) (hz : kvr.length < 500)
    (hE : ∀ (τ' : AS) (Q' : AV → AS → Prop), (∀ y : Str, y ≠ "u" → τ'.loc y = τ.loc y) → Q' (.int c) τ' → RunV x (eval E env) Q' τ')
    (h : ∀ τ' kvr' epr', (∀ b ao, b ≠ rd → τ.hp b = some ao → τ'.hp b = some ao) → τ'.gs = τ.gs → (∀ y : Str, y ≠ "u" → τ'.loc y = τ.loc y) → τ'.hp rd = some (.idict kvr' epr') → (∀ u, aget kvr' u = if u ∈ xs then some (.int c) else aget kvr u) → kvr'.length ≤ kvr.length + 7 → Q .next τ')
    (hL : env.locals = x.L := by rfl) (hg : env.globals = mainGlobals := by rfl) (hb : env.builtins = builtinsNs := by rfl) (hk : env.scope.kind = .function := by rfl) (h1 : env.kindOf Xn = some .local := by rfl) (h2 : env.kindOf "u" = some .local := by rfl) (h3 : env.kindOf "row_dict" = some .local := by rfl)
    (h4 : env.kindOf "sorted" = some .globalImplicit := by rfl) (h5 : (Xn == ("__debug__" : Str)) = false := by decide)
    (hsw : swapsWith E (some (.Subscript (.Name "row_dict" p5) (.Name "u" p6) p7)) p8.line env = pure false := by rfl) (hst : swappedStores [.Subscript (.Name "row_dict" p5) (.Name "u" p6) p7] E env = pure none := by rfl) :
    Run x (exec (.For (.Name "u" p1) (.Call (.Name "sorted" p2) [.Name Xn p3] [] p4) [.Assign [.Subscript (.Name "row_dict" p5) (.Name "u" p6) p7] E p8] [] p9) env) Q τ := by
  refine s_for ?_
  refine n_call1 ?_
  refine n_built (by k_is) boot_sorted ?_ (hg := hg) (hb := hb) (hk := hk) (hl := h4)
  walk_at "ev"
  refine ⟨by walk_at "keep", a_cons ?_⟩
  refine n_local hX ?_ hL hk h1 h5
  walk_at "ev"
  refine a_nil ?_
  refine runV_small hS fun hx => ?_
  have hx7 := hx.len
  have hxn : xs.Nodup := hx.1.imp fun h e => by omega
  refine sorted_set hA.h hS fun l τ₁ e₁ loc₁ fl hl => ?_
  walk_at "ev"
  refine iter_list hl fun J hJ => ?_
  walk_at "ev"
  have hSr : rd ≠ S := fun e => by rw [e, hS] at hr; cases hr
  have fJ : Fresh τ J := e₁.fresh hJ
  have hlJ : l ≠ J := hJ _ _ hl
  have hrl : rd ≠ l := fl _ _ hr
  have hrJ : rd ≠ J := fJ _ _ hr
  refine ⟨fun k τ' => ∃ kvr' epr', k ≤ xs.length ∧ (∀ b ao, b ≠ rd → τ.hp b = some ao → τ'.hp b = some ao) ∧ τ'.gs = τ.gs ∧ (∀ y : Str, y ≠ "u" → τ'.loc y = τ.loc y) ∧ τ'.hp rd = some (.idict kvr' epr') ∧ (∀ u, aget kvr' u = if u ∈ xs.take (xs.length - k) then some (.int c) else aget kvr u) ∧ kvr'.length ≤ kvr.length + (xs.length - k) ∧
    τ'.hp l = some (.list (avs xs)) ∧ τ'.hp J = some (LIter l (xs.length - k)), xs.length, ⟨kvr, epr, Nat.le_refl _, fun b ao _ e => put_new hJ (e₁.hp _ _ e), e₁.gs, fun y _ => congrFun loc₁ y, put_new hJ (e₁.hp _ _ hr), ?_, ?_, put_new hJ hl, ?_⟩, ?_⟩
  · rw [Nat.sub_self]; simp
  · rw [Nat.sub_self]; exact Nat.le_refl _
  · rw [Nat.sub_self]; exact put_same
  · rintro k τ₂ ⟨kvr', epr', hk', kp, hgs, hloc, hr₂, hget, hlen, hl₂, hJ₂⟩
    refine next_list hA.h hJ₂ hl₂ (fun hlt u hu => ?_) (fun hge => ?_)
    · have hlt2 : xs.length - k < xs.length := by simpa using hlt
      have hv : xs[xs.length - k]? = some xs[xs.length - k] := List.getElem?_eq_getElem hlt2
      obtain ⟨t, rfl⟩ := er_int (v := u) (i := xs[xs.length - k]) (by simpa [hlt2] using hu)
      generalize xs[xs.length - k] = v at *
      have htake : xs.take (xs.length - k + 1) = xs.take (xs.length - k) ++ [v] := by rw [List.take_add_one, hv]; rfl
      have hkk : xs.length - (k - 1) = xs.length - k + 1 := by omega
      refine lot_name (asg_name (store_local' (by walk_at "er") ?_ hL hk h2))
      have hoff : ∀ y : Str, y ≠ "u" → ((τ₂.put J (LIter l (xs.length - k + 1))).bind "u" (.int v)).loc y = τ.loc y := fun y hy => (bind_off hy).trans (hloc y hy)
      refine s_cons (s_setitem ?_ hsw hst)
      refine hE _ _ hoff ?_
      walk_at "ev"
      refine n_local ((hoff _ (by decide)).trans hrd) ?_ hL hk h3
      walk_at "ev"
      refine n_local loc_same ?_ hL hk h2
      walk_at "ev"
      refine store_idict (bind_hp (put_ne hrJ hr₂)) (fits (by omega)) fun ep₃ => ?_
      refine s_nil ?_
      refine ⟨k - 1, by omega, aput kvr' v (.int c), ep₃, by omega, fun b ao hb e => ?_, hgs, hoff, put_same, fun u => ?_, ?_, ?_, ?_⟩
      · exact put_ne hb (bind_hp (put_ne (fJ _ _ e) (kp b ao hb e)))
      · rw [aget_aput, hget, hkk, htake]
        by_cases huv : u = v
        · simp [huv]
        · simp [huv]
      · have := aput_len (kvs := kvr') (k := v) (v := .int c)
        omega
      · exact put_ne hrl.symm (bind_hp (put_ne hlJ hl₂))
      · rw [hkk]; exact put_ne hrJ.symm (bind_hp put_same)
    · have hall : xs.take (xs.length - k) = xs := List.take_of_length_le (by simpa using hge)
      rw [hall] at hget
      refine s_nil (h _ kvr' epr' (fun b ao hb e => drop_ne (fJ _ _ e) (kp b ao hb e)) hgs hloc (drop_ne hrJ hr₂) hget (by omega))
end

theorem GraphAt.redictK {σ σ' : AS} {g d gd nd ad : Addr} {ia : Int → Addr} {ns : List Int} {nb : Int → List Int} {ex ex' : List (Str × AV)} {hd : Bool} (G : GraphAt σ g d gd nd ad ia ns nb ex hd) (k : ∀ b ao, b ≠ d → σ.hp b = some ao → σ'.hp b = some ao) {ep : Nat} {hd' : Bool} (hk : σ'.hp d = some (.sdict (gkvs gd nd ad ex') ep hd')) (hex : ∀ p ∈ ex', p.1 = "nodes" ∨ p.1 = "adj") : GraphAt σ' g d gd nd ad ia ns nb ex' hd' := by
  have e : ExtB d σ ({ σ' with loc := σ.loc, gs := σ.gs } : AS) := ⟨k, rfl, rfl⟩
  have := G.redict (ex' := ex') e hk hex
  exact ⟨this.inst, this.dict, this.node, this.adj, this.inner, this.inj, this.sep, this.nodup, this.exs⟩
def CSAt (σ : AS) (cs : Addr) (ns : List Int) (nb : Int → List Int) : Prop := ∃ kvs ep, σ.hp cs = some (.idict kvs ep) ∧ ∀ v ∈ ns, ∃ r kvr epr, aget kvs v = some (.ref r) ∧ σ.hp r = some (.idict kvr epr) ∧ RowOK nb ns v kvr
theorem NV.keepD {σ τ : AS} {v dv nd d : Addr} (N : NV σ v dv nd) (h1 : v ≠ d) (h2 : dv ≠ d) (k : ∀ b ao, b ≠ d → σ.hp b = some ao → τ.hp b = some ao) : NV τ v dv nd := ⟨k _ _ h1 N.at_, k _ _ h2 N.dict⟩
set_option maxHeartbeats 8000000 in
/-- create_component_structure -/
theorem ccs_spec {C : Cx} {fs : List (Addr × Loc)} {L : Addr} {A : Around} {σ : AS} {g d gd nd ad vw dvw : Addr} {ia : Int → Addr} {ns : List Int} {nb : Int → List Int} {b₀ : Bool} {Q : AV → AS → Prop} (hA : Deep A 8)
    (G : GraphAt σ g d gd nd ad ia ns nb (exOf vw ad b₀) true) (N : NV σ vw dvw nd) (hwf : WF ns nb) (h7 : ns.length ≤ 7) (hr : ∀ i ∈ ns, 0 ≤ i ∧ i < 7) (hself : ∀ n ∈ ns, n ∉ nb n) (hsym : ∀ a b, b ∈ nb a → a ∈ nb b) (hin : ∀ a b, b ∈ nb a → a ∈ ns)
    (h : ∀ σ' cs b', (∀ b ao, b ≠ d → σ.hp b = some ao → σ'.hp b = some ao) → σ'.loc = σ.loc → GraphAt σ' g d gd nd ad ia ns nb (exOf vw ad b') true → CSAt σ' cs ns nb → Q (.ref cs) σ') :
    RunV ⟨C, fs, L, A⟩ (call (.ref 64) [.ref g]) Q σ := by
  refine run_callpl ["G"] [("G", .ref g)] hA (by k_is) (by k_is) rfl (by decide) (fun _ σ₁ => σ₁.loc "G" = some (.ref g)) (fun _ _ => rfl) fun L' A' σ₁ hf hA' hE l1 => ?_
  obtain ⟨epd, hdict⟩ := G.dict
  obtain ⟨kvn, epn, hkn, hkeyn, _⟩ := G.node
  have hlenn : kvn.length = ns.length := by rw [← hkeyn]; simp
  have hvd : vw ≠ d := fun e => by have := N.at_; rw [e, hdict] at this; cases this
  have hdvd : dvw ≠ d := fun e => by have := N.dict; rw [e, hdict] at this; cases this
  have hndd : nd ≠ d := fun e => by rw [e, hdict] at hkn; cases hkn
  -- V
  refine s_then (fun σ' => Ext σ σ' ∧ σ'.loc "G" = some (.ref g)) ?_ ?_
  · walk_at "st"
    refine n_call1 ?_
    walk_at "st"
    refine ⟨by walk_at "keep", a_cons ?_⟩
    refine n_attr' ?_
    walk_at "st"
    refine get_nodes (G.keep (.ext hE)) ?_
    walk_at "ev"
    refine a_nil ?_
    refine set_nview (hA'.less (by omega)) (N.ext hE) (hE.hp _ _ hkn) hkeyn hr fun a σ₂ xs ep e₂ loc₂ _ _ _ _ => ?_
    walk_at "ev"
    walk_at "st"
    refine ⟨rfl, (hE.trans e₂).bind, ?_⟩
    refine loc_ne (by decide) ?_
    rw [loc₂]; exact l1
  rintro σ₂ ⟨hE₂, l1⟩
  -- component_structure
  refine s_then (fun σ' => ∃ cs, Ext σ σ' ∧ Fresh σ cs ∧ σ'.hp cs = some (.idict [] 0) ∧ σ'.loc "G" = some (.ref g) ∧ σ'.loc "component_structure" = some (.ref cs)) ?_ ?_
  · walk_at "st"
    refine n_dict0 fun cs hcs => ?_
    walk_at "ev"
    walk_at "st"
    exact ⟨rfl, cs, (hE₂.put (hE₂.fresh hcs)).bind, hE₂.fresh hcs, bind_hp put_same, by walk_at "loc", loc_same⟩
  rintro σ₃ ⟨cs, hE₃, fcs, hcs, l1, lc⟩
  have hcd : cs ≠ d := (fcs _ _ hdict).symm
  refine s_then (fun σ' => (∀ b ao, b ≠ d → σ.hp b = some ao → σ'.hp b = some ao) ∧ (∃ b, GraphAt σ' g d gd nd ad ia ns nb (exOf vw ad b) true) ∧ σ'.loc "component_structure" = some (.ref cs) ∧ CSAt σ' cs ns nb) ?_ ?_
  · refine s_for ?_
    walk_at "st"
    refine iter_graph (hA'.less (by omega)) (G.keep (.ext hE₃)).gi (hE₃.hp _ _ hkn) fun I hI => ?_
    walk_at "ev"
    have fI : Fresh σ I := hE₃.fresh hI
    have hId : I ≠ d := (fI _ _ hdict).symm
    have hcI : cs ≠ I := hI _ _ hcs
    refine ⟨fun k σ' => ∃ b kvs ep, k ≤ ns.length ∧ (∀ b ao, b ≠ d → σ.hp b = some ao → σ'.hp b = some ao) ∧ GraphAt σ' g d gd nd ad ia ns nb (exOf vw ad b) true ∧ σ'.loc "G" = some (.ref g) ∧ σ'.loc "component_structure" = some (.ref cs) ∧
      σ'.hp cs = some (.idict kvs ep) ∧ kvs.length ≤ ns.length - k ∧ (∀ v ∈ ns.take (ns.length - k), ∃ r kvr epr, aget kvs v = some (.ref r) ∧ σ'.hp r = some (.idict kvr epr) ∧ RowOK nb ns v kvr ∧ r ≠ cs) ∧ σ'.hp I = some (KIter nd (ns.length - k) kvn.length epn), ns.length, ⟨b₀, [], 0, Nat.le_refl _, ?_⟩, ?_⟩
    · rw [Nat.sub_self]
      exact ⟨fun b ao _ e => put_new hI (hE₃.hp _ _ e), (G.keep (.ext hE₃)).keep (.ext (Ext.refl.put hI)), l1, lc, put_new hI hcs, Nat.le_refl _, by simp, put_same⟩
    · rintro k σ₄ ⟨b, kvs, ep, hk, kp, G₄, l1, lc, hcs₄, hlen₄, hrows, hI₄⟩
      refine next_idict hA'.h hI₄ (kp _ _ hndd hkn) (fun v av hv t => ?_) (fun hge => ?_)
      · have hnv : ns[ns.length - k]? = some v := by rw [← hkeyn] at *; rw [List.getElem?_map, hv]; rfl
        have hlt : ns.length - k < ns.length := by
          rcases Nat.lt_or_ge (ns.length - k) ns.length with h | h
          · exact h
          · rw [List.getElem?_eq_none h] at hnv; cases hnv
        have hvn : v ∈ ns := List.mem_of_getElem? hnv
        have htake : ns.take (ns.length - k + 1) = ns.take (ns.length - k) ++ [v] := by rw [List.take_add_one, hnv]; rfl
        have hkk : ns.length - (k - 1) = ns.length - k + 1 := by omega
        walk_at "st"
        walk_at "st"
        walk_at "st"
        -- the state at the body's start
        obtain ⟨epd₄, hdict₄⟩ := G₄.dict
        have K₅ : KeepG σ₄ ((σ₄.put I (KIter nd (ns.length - k + 1) kvn.length epn)).bind "v" (.int v)) := ((KeepG.refl.put hI₄ rfl)).bind
        refine run_gen (fun τ => (∀ b ao, b ≠ I → σ₄.hp b = some ao → τ.hp b = some ao) ∧ τ.hp I = some (KIter nd (ns.length - k + 1) kvn.length epn) ∧ GraphAt τ g d gd nd ad ia ns nb (exOf vw ad b) true ∧ τ.loc "G" = some (.ref g) ∧ τ.loc "component_structure" = some (.ref cs) ∧ τ.loc "v" = some (.int v)) ⟨fun b ao hb e => bind_hp (put_ne hb e), bind_hp put_same, G₄.keep K₅, by walk_at "loc", by walk_at "loc", loc_same⟩ fun τ₀ ⟨k0, hI0, G0, l1, lc, lv⟩ => ?_
        -- label, closed_neighborhood
        refine s_then (fun σ' => Ext τ₀ σ' ∧ GraphAt σ' g d gd nd ad ia ns nb (exOf vw ad b) true ∧ σ'.loc "G" = some (.ref g) ∧ σ'.loc "component_structure" = some (.ref cs) ∧ σ'.loc "v" = some (.int v) ∧ σ'.loc "label" = some (.int 0)) ?_ ?_
        · walk_at "st"
          walk_at "st"
          walk_at "st"
          exact ⟨rfl, Ext.refl.bind, G0.keep (KeepG.bind KeepG.refl), by walk_at "loc", by walk_at "loc", by walk_at "loc", loc_same⟩
        rintro τ₁ ⟨e1, G1, l1, lc, lv, ll⟩
        refine s_then (fun σ' => ∃ cn xsn ep, (∀ b ao, b ≠ d → τ₀.hp b = some ao → σ'.hp b = some ao) ∧ GraphAt σ' g d gd nd ad ia ns nb (exOf vw ad true) true ∧ σ'.loc "G" = some (.ref g) ∧ σ'.loc "component_structure" = some (.ref cs) ∧ σ'.loc "v" = some (.int v) ∧ σ'.loc "label" = some (.int 0) ∧
          σ'.loc "closed_neighborhood" = some (.ref cn) ∧ σ'.hp cn = some (.set xsn ep) ∧ ∀ j, j ∈ xsn ↔ Cl nb v j) ?_ ?_
        · walk_at "st"
          refine n_meth1 ?_
          refine n_call1 ?_
          walk_at "st"
          refine ⟨by walk_at "keep", a_cons ?_⟩
          walk_at "st"
          walk_at "st"
          walk_at "st"
          refine sub_graph (hA'.less (by omega)) G1 hvn fun τ₂ e2 G2 => ?_
          walk_at "ev"
          refine a_nil ?_
          obtain ⟨kvv, epv, hkv, hkeyv, _⟩ := G2.inner v hvn
          have hnbl : (nb v).length ≤ 7 := Nat.le_trans (nodup_sub (hwf v hvn).1 (hwf v hvn).2) h7
          refine set_dict hkv hkeyv (fun i hi => hr i ((hwf v hvn).2 i hi)) hnbl fun s1 xs1 ep1 fs1 hx1 hj1 => ?_
          walk_at "ev"
          refine meth_set put_same F.slot_set_union (by rfl) ⟨by walk_at "keep", ?_⟩
          refine n_set1 (hr v hvn) (kds_of (by k_is)) fun s2 fs2 => ?_
          have hs12 : s1 ≠ s2 := fs2 _ _ put_same
          have lv2 : τ₂.loc "v" = some (.int v) := by rw [e2.loc]; exact lv
          refine n_local (put_loc (put_loc lv2)) ?_
          refine ⟨rfl, put_same, fun xs2 ep2 hx2 hj2 => ?_⟩
          walk_at "ev"
          refine union_set (put_ne hs12 (put_ne hs12 put_same)) put_same hs12.symm fun cn τ₃ xsn epn e3 loc3 fcn hcn hxn hjn => ?_
          walk_at "ev"
          walk_at "st"
          have e3' : Ext τ₂ τ₃ := (((Ext.refl.put fs1).put (fun b ao q => fs2 b ao (put_new fs1 q))).put (fun b ao q => fs2 b ao (put_new fs1 q))).trans e3
          have hloc : τ₃.loc = τ₁.loc := by rw [loc3]; exact e2.loc
          refine ⟨rfl, cn, xsn, epn, fun b ao hb q => bind_hp (e3'.hp _ _ (e2.hp _ _ hb (e1.hp _ _ q))), (G2.keep (.ext e3')).keep (KeepG.bind KeepG.refl), ?_, ?_, ?_, ?_, loc_same, bind_hp hcn, fun j => ?_⟩
          · exact loc_ne (by decide) (by rw [hloc]; exact l1)
          · exact loc_ne (by decide) (by rw [hloc]; exact lc)
          · exact loc_ne (by decide) (by rw [hloc]; exact lv)
          · exact loc_ne (by decide) (by rw [hloc]; exact ll)
          · rw [hjn, hj1, hj2]; unfold Cl; exact or_comm
        rintro τ₂ ⟨cn, xsn, epc, k2, G2, l1, lc, lv, ll, lcn, hcn, hcl⟩
        refine s_then (fun σ' => ∃ rd, Fresh τ₀ rd ∧ rd ≠ d ∧ Ext τ₂ σ' ∧ Fresh τ₂ rd ∧ σ'.hp rd = some (.idict [] 0) ∧ σ'.loc "G" = some (.ref g) ∧ σ'.loc "component_structure" = some (.ref cs) ∧ σ'.loc "v" = some (.int v) ∧ σ'.loc "label" = some (.int 0) ∧
          σ'.loc "closed_neighborhood" = some (.ref cn) ∧ σ'.loc "row_dict" = some (.ref rd)) ?_ ?_
        · walk_at "st"
          refine n_dict0 fun rd hrd => ?_
          walk_at "ev"
          walk_at "st"
          obtain ⟨epd2, hd2⟩ := G2.dict
          have hrdd : rd ≠ d := (hrd _ _ hd2).symm
          refine ⟨rfl, rd, fun b ao q => ?_, hrdd, (Ext.refl.put hrd).bind, hrd, bind_hp put_same, by walk_at "loc", by walk_at "loc", by walk_at "loc", by walk_at "loc", by walk_at "loc", loc_same⟩
          by_cases hb : b = d
          · rw [hb]; exact hrdd.symm
          · exact hrd _ _ (k2 b ao hb q)
        rintro τ₃ ⟨rd, frd0, hrdd, e3, frd, hrd, l1, lc, lv, ll, lcn, lr⟩
        have hcnr : cn ≠ rd := frd _ _ hcn
        refine s_then (fun σ' => ∃ kvr epr, (∀ b ao, b ≠ rd → τ₃.hp b = some ao → σ'.hp b = some ao) ∧ (∀ y : Str, y ≠ "u" → σ'.loc y = τ₃.loc y) ∧ σ'.hp rd = some (.idict kvr epr) ∧ (∀ u ∈ xsn, aget kvr u = some (.int 0)) ∧ kvr.length ≤ 7 ∧ σ'.gs = τ₃.gs) ?_ ?_
        · refine fill_loop (c := 0) (hA'.less (by omega)) lcn (e3.hp _ _ hcn) lr hrd (by simp) (fun τ' Q' _ q => ?_) fun τ' kvr epr q1 q2 q3 q4 q5 q6 => ⟨rfl, kvr, epr, q1, q3, q4, fun u hu => by rw [q5, if_pos hu], q6, q2⟩
          exact n_const_int q
        rintro τ₄ ⟨kvr, epr, k4, loc4, hrd, hrow, hlen, gs4⟩
        have e24 : Ext τ₂ τ₄ := ⟨fun b ao q => k4 b ao (frd _ _ q) (e3.hp _ _ q), gs4.trans e3.gs⟩
        have G4 := G2.keep (.ext e24)
        have k04 : ∀ b ao, b ≠ d → τ₀.hp b = some ao → τ₄.hp b = some ao := fun b ao hb q => e24.hp _ _ (k2 b ao hb q)
        have l1 : τ₄.loc "G" = some (.ref g) := (loc4 _ (by decide)).trans l1
        have lc : τ₄.loc "component_structure" = some (.ref cs) := (loc4 _ (by decide)).trans lc
        have lv : τ₄.loc "v" = some (.int v) := (loc4 _ (by decide)).trans lv
        have ll : τ₄.loc "label" = some (.int 0) := (loc4 _ (by decide)).trans ll
        have lcn : τ₄.loc "closed_neighborhood" = some (.ref cn) := (loc4 _ (by decide)).trans lcn
        have lr : τ₄.loc "row_dict" = some (.ref rd) := (loc4 _ (by decide)).trans lr
        have hcn4 : τ₄.hp cn = some (.set xsn epc) := e24.hp _ _ hcn
        have hvI : vw ≠ I := fun q => by have := kp _ _ hvd N.at_; rw [q, hI₄] at this; cases this
        have hdvI : dvw ≠ I := fun q => by have := kp _ _ hdvd N.dict; rw [q, hI₄] at this; cases this
        have hndI : nd ≠ I := fun q => by have := kp _ _ hndd hkn; rw [q, hI₄] at this; cases this
        have N4 : NV τ₄ vw dvw nd := ⟨k04 _ _ hvd (k0 _ _ hvI (kp _ _ hvd N.at_)), k04 _ _ hdvd (k0 _ _ hdvI (kp _ _ hdvd N.dict))⟩
        have hkn4 : τ₄.hp nd = some (.idict kvn epn) := k04 _ _ hndd (k0 _ _ hndI (kp _ _ hndd hkn))
        have hxne : xsn ≠ [] := fun q => by have := (hcl v).mpr (.inl rfl); rw [q] at this; cases this
        -- G_reduced
        refine s_then (fun σ' => ∃ H dH gdH ndH adH iaH nb' ns', Ext τ₄ σ' ∧ (Fresh τ₄ H ∧ Fresh τ₄ dH ∧ Fresh τ₄ ndH ∧ Fresh τ₄ adH ∧ ∀ n ∈ ns', Fresh τ₄ (iaH n)) ∧ GraphAt σ' H dH gdH ndH adH iaH ns' nb' [] false ∧ WF ns' nb' ∧ (∀ n, n ∈ ns' ↔ n ∈ ns ∧ n ∉ xsn) ∧ (∀ n m, m ∈ nb' n ↔ n ∈ ns' ∧ m ∈ ns' ∧ m ∈ nb n) ∧ ns'.length ≤ 7 ∧
          σ'.loc "G_reduced" = some (.ref H) ∧ (∀ y : Str, y ≠ "G_reduced" → σ'.loc y = τ₄.loc y)) ?_ ?_
        · walk_at "st"
          refine n_call1 ?_
          walk_at "st"
          refine ⟨by walk_at "keep", a_cons ?_⟩
          walk_at "st"
          refine a_cons (n_binop ?_)
          refine n_call1 ?_
          walk_at "st"
          refine ⟨by walk_at "keep", a_cons ?_⟩
          refine n_attr' ?_
          walk_at "st"
          refine get_nodes G4 ?_
          walk_at "ev"
          refine a_nil ?_
          refine set_nview (hA'.less (by omega)) N4 hkn4 hkeyn hr fun va τ₅ xsv epv e5 loc5 fva hva hxv hjv => ?_
          walk_at "ev"
          have lcn5 : τ₅.loc "closed_neighborhood" = some (.ref cn) := by rw [loc5]; exact lcn
          walk_at "st"
          refine sub_sets hva (e5.hp _ _ hcn4) hxne fun sa xss eps fsa hxs hjs => ?_
          walk_at "ev"
          refine a_nil ?_
          have e5' : Ext τ₄ (τ₅.put sa (.set xss eps)) := e5.put (e5.fresh fsa)
          have fr5 : ∀ {c : Addr}, Fresh (τ₅.put sa (.set xss eps)) c → Fresh τ₄ c := fun q => e5'.fresh q
          refine subgraph_spec (hA'.less (by omega)) (G4.keep (.ext e5')) hwf h7 hself put_same fun τ₆ H dH gdH ndH adH iaH nb' e6 loc6 GH wfH hnbH ⟨f1, f2, f3, f4, f5⟩ => ?_
          walk_at "ev"
          walk_at "st"
          have hmem : ∀ n, n ∈ ns.filter (fun n => decide (n ∈ xss)) ↔ n ∈ ns ∧ n ∉ xsn := fun n => by
            rw [List.mem_filter, decide_eq_true_iff, hjs, hjv]
            exact ⟨fun ⟨q1, q2, q3⟩ => ⟨q1, q3⟩, fun ⟨q1, q2⟩ => ⟨q1, q1, q2⟩⟩
          have hmx : ∀ n, n ∈ xss ↔ n ∈ ns ∧ n ∉ xsn := fun n => by rw [hjs, hjv]
          refine ⟨rfl, H, dH, gdH, ndH, adH, iaH, nb', _, (e5'.trans e6).bind, ⟨fr5 f1, fr5 f2, fr5 f3, fr5 f4, fun n hn => fr5 (f5 n hn)⟩, GH.keep (KeepG.bind KeepG.refl), wfH, hmem, fun n m => ?_, Nat.le_trans (List.length_filter_le _ _) h7, loc_same, fun y hy => (bind_off hy).trans ?_⟩
          · rw [hnbH, hmem, hmem, hmx, hmx]
            constructor
            · rintro (⟨q1, q2, q3, q4⟩ | ⟨q1, q2, q3, q4⟩)
              · exact ⟨q2, q3, q4⟩
              · exact ⟨q3, q2, hsym _ _ q4⟩
            · rintro ⟨q1, q2, q3⟩
              exact .inl ⟨q1.1, q1, q2, q3⟩
          · rw [loc6]; exact congrFun loc5 y
        rintro τ₅ ⟨H, dH, gdH, ndH, adH, iaH, nb', ns', e5, fH, GH, wfH, hns', hnb', hl7, lH, loc5⟩
        have hsym' : ∀ a b, b ∈ nb' a → a ∈ nb' b := fun a b q => by
          obtain ⟨q1, q2, q3⟩ := (hnb' a b).mp q
          exact (hnb' b a).mpr ⟨q2, q1, hsym _ _ q3⟩
        have hrd5 : τ₅.hp rd = some (.idict kvr epr) := e5.hp _ _ hrd
        obtain ⟨φ, kvH, epH, hφ, hφd, GIφ, hndφ, hkeyφ, hadφ⟩ := GH.own
        have hφr : φ rd = none := by
          cases q : φ rd with
          | none => rfl
          | some ao =>
            rcases hφd rd ao q with q | q | q | q | ⟨n, hn, q⟩
            · exact absurd q (fH.1 _ _ hrd)
            · exact absurd q (fH.2.1 _ _ hrd)
            · exact absurd q (fH.2.2.1 _ _ hrd)
            · exact absurd q (fH.2.2.2.1 _ _ hrd)
            · exact absurd q (fH.2.2.2.2 n hn _ _ hrd)
        -- the parts
        refine s_then (fun σ' => ∃ kvr epr, (∀ b ao, b ≠ rd → τ₅.hp b = some ao → σ'.hp b = some ao) ∧ σ'.loc "G" = some (.ref g) ∧ σ'.loc "component_structure" = some (.ref cs) ∧ σ'.loc "v" = some (.int v) ∧ σ'.loc "row_dict" = some (.ref rd) ∧ σ'.hp rd = some (.idict kvr epr) ∧
          (∀ u ∈ xsn, aget kvr u = some (.int 0)) ∧ (∀ (k : Nat) (r : Int), (rootsOf nb' ns' (fun _ => False))[k]? = some r → ∀ u, Rch nb' r u → aget kvr u = some (.int (k + 1)))) ?_ ?_
        · refine s_for ?_
          refine n_call1 ?_
          walk_at "st"
          refine ⟨by walk_at "keep", a_cons ?_⟩
          walk_at "st"
          refine a_nil ?_
          refine call_cc (hA'.less (by omega)) hφ GIφ hndφ hkeyφ hadφ (fun n hn => (wfH n hn).2) GH.nodup hl7 (fun i hi => hr i ((hns' i).mp hi).1) fun τ₆ a gi D hDn hDR hDφ hDP fa k6 loc6 GA => ?_
          walk_at "ev"
          refine iter_gen GA ?_
          walk_at "ev"
          have har : rd ≠ a := fa _ _ hrd5
          refine ⟨fun k τ => ∃ kvr epr, k ≤ D.RT.length ∧ (∀ b ao, b ≠ rd → τ₅.hp b = some ao → τ.hp b = some ao) ∧ (∀ y : Str, y ≠ "u" → y ≠ "cc" → y ≠ "label" → τ.loc y = τ₅.loc y) ∧ τ.loc "label" = some (.int ((D.RT.length - k : Nat) : Int)) ∧ τ.hp rd = some (.idict kvr epr) ∧ kvr.length ≤ 7 + 7 * (D.RT.length - k) ∧
            (∀ u ∈ xsn, aget kvr u = some (.int 0)) ∧ (∀ (j : Nat) (r : Int), j < D.RT.length - k → D.RT[j]? = some r → ∀ u, Rch nb' r u → aget kvr u = some (.int (j + 1))) ∧ GenAt _ D τ a gi k, D.RT.length, ⟨kvr, epr, Nat.le_refl _, fun b ao _ q => k6 b ao q, fun y _ _ _ => congrFun loc6 y, ?_, k6 _ _ hrd5, by omega, hrow, ?_, GA⟩, ?_⟩
          · rw [Nat.sub_self, loc6, loc5 _ (by decide)]; exact ll
          · rw [Nat.sub_self]; exact fun j r q => absurd q (Nat.not_lt_zero _)
          · rintro k₁ τ ⟨kvr₁, epr₁, hk₁, kp₁, loc₁, ll₁, hrd₁, hlen₁, hA₁, hB₁, GA₁⟩
            have hRT7 : D.RT.length ≤ 7 := by rw [hDR]; exact Nat.le_trans (roots_len _ _) hl7
            have hφr' : D.φ rd = none := by rw [hDφ]; exact hφr
            refine next_cc (hA'.less (by omega)) GA₁ hk₁ (fun h0 τ₂ old => ?_) (fun m hm τ₂ cv xs epx root hroot old hcv hPcv hxs GA₂ => ?_)
            · walk_at "st"
              have lo : ∀ y : Str, y ≠ "u" → y ≠ "cc" → y ≠ "label" → τ₂.loc y = τ₅.loc y := fun y q1 q2 q3 => by rw [old.2]; exact loc₁ y q1 q2 q3
              refine ⟨rfl, kvr₁, epr₁, fun b ao hb q => old.1 b ao (hDP b ao q) (kp₁ b ao hb q), ?_, ?_, ?_, ?_, old.1 _ _ (hDP _ _ hrd5) hrd₁, hA₁, fun j r hj => ?_⟩
              · rw [lo _ (by decide) (by decide) (by decide), loc5 _ (by decide)]; exact l1
              · rw [lo _ (by decide) (by decide) (by decide), loc5 _ (by decide)]; exact lc
              · rw [lo _ (by decide) (by decide) (by decide), loc5 _ (by decide)]; exact lv
              · rw [lo _ (by decide) (by decide) (by decide), loc5 _ (by decide)]; exact lr
              · rw [← hDR] at hj
                refine hB₁ j r ?_ hj
                rw [h0, Nat.sub_zero]
                rcases Nat.lt_or_ge j D.RT.length with q | q
                · exact q
                · rw [List.getElem?_eq_none q] at hj; cases hj
            · subst hm
              have hrd₂ : τ₂.hp rd = some (.idict kvr₁ epr₁) := old.1 _ _ (hDP _ _ hrd5) hrd₁
              walk_at "st"
              walk_at "st"
              walk_at "st"
              refine s_then (fun σ' => (∀ b ao, τ₂.hp b = some ao → σ'.hp b = some ao) ∧ σ'.gs = τ₂.gs ∧ (∀ y : Str, y ≠ "u" → y ≠ "cc" → y ≠ "label" → σ'.loc y = τ₅.loc y) ∧ σ'.loc "label" = some (.int ((D.RT.length - m : Nat) : Int)) ∧ σ'.loc "cc" = some (.ref cv)) ?_ ?_
              · refine s_aug (load_local (v := .int ((D.RT.length - (m + 1) : Nat) : Int)) ?_ ?_)
                · refine loc_ne (by decide) ?_
                  rw [old.2]; exact ll₁
                walk_at "ev"
                walk_at "st"
                refine iadd_int ?_
                walk_at "ev"
                walk_at "st"
                refine ⟨rfl, fun b ao q => bind_hp (bind_hp q), rfl, fun y q1 q2 q3 => ?_, ?_, loc_ne (by decide) loc_same⟩
                · rw [bind_off q3, bind_off q2, old.2]; exact loc₁ y q1 q2 q3
                · rw [loc_same]
                  congr 2
                  omega
              rintro τ₃ ⟨k3, gs3, loc3, ll3, lcc3⟩
              have lr3 : τ₃.loc "row_dict" = some (.ref rd) := by rw [loc3 _ (by decide) (by decide) (by decide), loc5 _ (by decide)]; exact lr
              refine s_cons ?_
              refine fill_loop (c := ((D.RT.length - m : Nat) : Int)) (hA'.less (by omega)) lcc3 (k3 _ _ hcv) lr3 (k3 _ _ hrd₂) (by omega) (fun τ' Q' lq q => n_local ((lq _ (by decide)).trans ll3) q) fun τ' kvr₂ epr₂ q1 q2 q3 q4 q5 q6 => ?_
              refine s_nil ?_
              have ht : (D.RT.length - m : Nat) = D.RT.length - (m + 1) + 1 := by omega
              have hrootn : root ∈ ns' := by
                have := List.mem_of_getElem? hroot
                rw [hDR] at this
                exact (roots_new _ _ _ this).2
              have hcl' : ∀ u, Rch nb' root u → u ∈ ns' := fun u hu => by
                induction hu with
                | here => exact hrootn
                | step _ hb _ => exact ((hnb' _ _).mp hb).2.1
              rw [hDn] at hxs
              refine ⟨m, by omega, kvr₂, epr₂, by omega, fun b ao hb q => q1 b ao hb (k3 _ _ (old.1 b ao (hDP b ao q) (kp₁ b ao hb q))), fun y w1 w2 w3 => (q3 y w1).trans (loc3 y w1 w2 w3), (q3 _ (by decide)).trans ll3, q4, by omega, fun u hu => ?_, fun j r hj hr' u hu => ?_, ?_⟩
              · rw [q5, if_neg, hA₁ u hu]
                exact fun w => ((hns' u).mp (hcl' u ((hxs u).mp w))).2 hu
              · rw [q5]
                rcases Nat.lt_or_ge j (D.RT.length - (m + 1)) with w | w
                · rw [if_neg, hB₁ j r w hr' u hu]
                  intro hux
                  rw [hDR] at hr' hroot
                  refine roots_apart _ _ _ _ _ _ ?_ hr' hroot (hu.trans (((hxs u).mp hux).symm hsym'))
                  rw [hDR] at w; exact w
                · have hj' : j = D.RT.length - (m + 1) := by omega
                  subst hj'
                  rw [hr'] at hroot
                  cases hroot
                  rw [if_pos ((hxs u).mpr hu)]
                  congr 2
                  omega
              · exact GA₂.keepB hrd₂ hφr' (fun b ao hb q => q1 b ao hb (k3 _ _ q)) ⟨_, q4⟩ (q2.trans gs3)
        rintro τ₆ ⟨kvr', epr', k6, l1, lc, lv, lr, hrd6, hA6, hB6⟩
        have hrow : RowOK nb ns v kvr' := row_ok hvn hsym (fun n hn m hm => (hwf n hn).2 m hm) hcl hns' hnb' hA6 hB6
        have k56 : ∀ b ao, b ≠ d → τ₀.hp b = some ao → τ₆.hp b = some ao := fun b ao hb q => k6 b ao (fun w => frd0 _ _ (w ▸ q) rfl) (e5.hp _ _ (k04 b ao hb q))
        have hcs0 : τ₀.hp cs = some (.idict kvs ep) := k0 _ _ hcI hcs₄
        have hcs6 := k56 _ _ hcd hcs0
        have hcr : cs ≠ rd := fun q => frd0 _ _ (q ▸ hcs0) rfl
        have G6 : GraphAt τ₆ g d gd nd ad ia ns nb (exOf vw ad true) true := by
          refine G2.keep fun b ao i q => ?_
          exact k6 b ao (frd _ _ q) (e5.hp _ _ (e24.hp _ _ q))
        walk_at "st"
        walk_at "st"
        walk_at "st"
        walk_at "st"
        walk_at "st"
        refine store_idict hcs6 (fits (by omega)) fun ep7 => ?_
        walk_at "st"
        have hIcs : I ≠ cs := hcI.symm
        refine ⟨k - 1, by omega, true, aput kvs v (.ref rd), ep7, by omega, fun b ao hb q => ?_, ?_, l1, lc, put_same, ?_, fun v' hv' => ?_, ?_⟩
        · refine put_ne (fun w => fcs _ _ (w ▸ q) rfl) (k56 b ao hb (k0 b ao (fun w => fI _ _ (w ▸ q) rfl) (kp b ao hb q)))
        · obtain ⟨epd6, hd6⟩ := G6.dict
          exact G.redictK (fun b ao hb q => put_ne (fun w => fcs _ _ (w ▸ q) rfl) (k56 b ao hb (k0 b ao (fun w => fI _ _ (w ▸ q) rfl) (kp b ao hb q)))) (put_ne hcd.symm hd6) exOf_ok
        · have := aput_len (kvs := kvs) (k := v) (v := .ref rd)
          omega
        · rw [aget_aput]
          by_cases hvv : v' = v
          · subst hvv
            exact ⟨rd, kvr', epr', by rw [if_pos rfl], put_ne hcr.symm hrd6, hrow, hcr.symm⟩
          · rw [if_neg hvv]
            rw [hkk, htake] at hv'
            rcases List.mem_append.mp hv' with q | q
            · obtain ⟨r, kr, er', w1, w2, w3, w4⟩ := hrows v' q
              exact ⟨r, kr, er', w1, put_ne w4 (k56 _ _ (fun w => by rw [w, hdict₄] at w2; cases w2) (k0 _ _ (fun w => by rw [w, hI₄] at w2; cases w2) w2)), w3, w4⟩
            · exact absurd (by simpa using q) hvv
        · rw [hkk]; exact put_ne hIcs (k56 _ _ hId hI0)
      · walk_at "st"
        have hall : ns.take (ns.length - k) = ns := List.take_of_length_le (by omega)
        rw [hall] at hrows
        refine ⟨rfl, fun b ao hb e => drop_ne (fI _ _ e) (kp b ao hb e), ⟨b, G₄.keep (KeepG.refl.drop hI₄ rfl)⟩, lc, kvs, ep, drop_ne hcI hcs₄, fun v hv => ?_⟩
        obtain ⟨r, kvr, epr, q1, q2, q3, q4⟩ := hrows v hv
        exact ⟨r, kvr, epr, q1, drop_ne (fun e => by rw [e, hI₄] at q2; cases q2) q2, q3⟩
  · rintro σ₄ ⟨kp, ⟨b, G₄⟩, lc, hCS⟩
    walk_at "st"
    walk_at "st"
    walk_at "st"
    exact h _ cs b (fun b ao hb e => loc_hp (kp b ao hb e)) rfl (G₄.keep KeepG.refl) hCS
end
-- AzFa
section
section
variable {x : X} {σ : AS} {env : Env}
theorem int_lt {i j : Int} {t u : Tok} {Q : Bool → AS → Prop} (h : Q (decide (i < j)) σ) : Cmp x .Lt (.int i t) (.int j u) Q σ := fun s R => (show wpAny _ _ (compareOp .Lt (.int i t) (.int j u)) _ _ _ from PySem.P.lt_int ⟨σ, R, _, rfl, h⟩)
theorem lot_list {elts : List PySem.Expr} {k} {pos : Pos} {I l T : Addr} {i : Nat} {Q : Unit → AS → Prop} (hI : σ.hp I = some (LIter l i)) (h : Q () σ) : Run x (letOwnedTupleGo (.Tuple elts k pos) (.ref I) (.ref T)) Q σ := by
  intro s R
  exact wpAny_letOwnedTupleGo_listiter (lit_at R hI) ⟨σ, R, h⟩
theorem s_thenR (M : AS → Prop) {st : Stmt} {rest : List Stmt} {Q : Flow → AS → Prop} (h : Run x (exec st env) (fun f σ' => (f = .next ∧ M σ') ∨ ∃ v, f = .ret v ∧ Q (.ret v) σ') σ) (h2 : ∀ σ', M σ' → Run x (execs rest env) Q σ') : Run x (execs (st :: rest) env) Q σ :=
  s_cons (run_mono h fun f σ' q => by
    rcases q with ⟨e, m⟩ | ⟨v, e, q⟩
    · subst e; exact h2 σ' m
    · subst e; exact q)
theorem nN_call1 {n : Str} {p pos : Pos} {e : PySem.Expr} {rest : List PySem.Expr} {Q : AV → AS → Prop}
    (h : RunV x (eval (.Name n p) env) (fun a σ₁ => ∀ f, er f = a → KeepOK f ∧ RunN x (spliced (backTo pos (starEach (e :: rest) env))) (fun vs σ' => RunNV x (call f vs) Q σ') σ₁) σ)
    (he : starEach (e :: rest) env = (false, eval e env) :: starEach rest env := by rfl) (hplain : (backTo pos (starEach rest env)).any (·.1) = false := by rfl) :
    RunNV x (eval (.Call (.Name n p) (e :: rest) [] pos) env) Q σ := by
  show RunN x (do callWith pos (← eval (.Name n p) env) [] (backTo pos (starEach (e :: rest) env)) (backToKw pos (keywordEach [] env))) _ σ
  exact rN_bind (rN_mono (rN_of h) fun f σ₁ h₁ => callWithN1 (h₁ f rfl).1 (h₁ f rfl).2 he hplain)
theorem aN_cons {pos : Pos} {e : PySem.Expr} {rest : List PySem.Expr} {Q : List Value → AS → Prop}
    (h : RunNV x (eval e env) (fun a σ₁ => ∀ v, er v = a → RunN x (spliced (backTo pos (starEach rest env))) (fun vs σ₂ => Q (v :: vs) σ₂) σ₁) σ)
    (he : starEach (e :: rest) env = (false, eval e env) :: starEach rest env := by rfl) : RunN x (spliced (backTo pos (starEach (e :: rest) env))) Q σ := by
  rw [he]
  show RunN x (spliced ((false, eval e env) :: backTo pos (starEach rest env))) Q σ
  rw [spliced]
  refine rN_bind (rN_mono h fun v σ₁ h₁ => ?_)
  simp only [Bool.false_eq_true, if_false]
  exact rN_bind (rN_pure (rN_bind (rN_hold (rN_mono (h₁ v rfl) fun vs σ₂ h₂ => rN_pure h₂))))
end
/-- an asteroidal triple -/
structure AT (nb : Int → List Int) (ns : List Int) (u v w : Int) : Prop where
  mu : u ∈ ns
  mv : v ∈ ns
  mw : w ∈ ns
  uv : ¬ Cl nb u v
  uw : ¬ Cl nb u w
  vw : ¬ Cl nb v w
  pu : Way nb u v w
  pv : Way nb v u w
  pw : Way nb w u v
theorem Cl.symm {nb : Int → List Int} (hs : ∀ a b, b ∈ nb a → a ∈ nb b) {a b : Int} (h : Cl nb a b) : Cl nb b a := h.elim (fun e => .inl e.symm) fun e => .inr (hs _ _ e)
theorem Way.symm {nb : Int → List Int} (hs : ∀ a b, b ∈ nb a → a ∈ nb b) {v a b : Int} (ha : ¬ Cl nb v a) (h : Way nb v a b) : Way nb v b a ∧ ¬ Cl nb v b := by
  have tr : ∀ {a b c}, Way nb v a b → Way nb v b c → Way nb v a c := fun h h' => by
    induction h' with
    | here => exact h
    | step _ q1 q2 ih => exact .step ih q1 q2
  induction h with
  | here => exact ⟨.here, ha⟩
  | step _ q1 q2 ih => exact ⟨tr (.step .here (hs _ _ q1) ih.2) ih.1, q2⟩
theorem AT.swap {nb : Int → List Int} (hs : ∀ a b, b ∈ nb a → a ∈ nb b) {ns : List Int} {u v w : Int} (h : AT nb ns u v w) : AT nb ns v u w :=
  ⟨h.mv, h.mu, h.mw, fun q => h.uv (q.symm hs), h.vw, h.uw, h.pv, h.pu, (h.pw.symm hs (fun q => h.uw (q.symm hs))).1⟩
def FatRes (nb : Int → List Int) (ns : List Int) (a : AV) (σ : AS) : Prop := (a = .none ∧ ∀ u v w, ¬ AT nb ns u v w) ∨ (∃ l u v w, a = .ref l ∧ σ.hp l = some (.list [.int u, .int v, .int w]) ∧ AT nb ns u v w)

set_option maxHeartbeats 8000000 in
theorem fat_again {C : Cx} {fs : List (Addr × Loc)} {L : Addr} {A : Around} {σ : AS} {g d gd nd ad vw₀ dvw₀ : Addr} {ia : Int → Addr} {ns : List Int} {nb : Int → List Int} {b₀ : Bool} {Q : AV → AS → Prop} (hA : Deep A 10)
    (G : GraphAt σ g d gd nd ad ia ns nb (exOf vw₀ ad b₀) true) (N : NV σ vw₀ dvw₀ nd) (hwf : WF ns nb) (h7 : ns.length ≤ 7) (h6 : 6 ≤ ns.length) (hr : ∀ i ∈ ns, 0 ≤ i ∧ i < 7) (hself : ∀ n ∈ ns, n ∉ nb n) (hsym : ∀ a b, b ∈ nb a → a ∈ nb b) (hin : ∀ a b, b ∈ nb a → a ∈ ns)
    (h : ∀ σ' a vw dvw b', (∀ b ao, b ≠ d → σ.hp b = some ao → σ'.hp b = some ao) → σ'.loc = σ.loc → GraphAt σ' g d gd nd ad ia ns nb (exOf vw ad b') true → NV σ' vw dvw nd → FatRes nb ns a σ' → Q a σ') :
    RunV ⟨C, fs, L, A⟩ (call (.ref 50) [.ref g]) Q σ := by
  refine run_callpl ["G"] [("G", .ref g)] hA (by k_is) (by k_is) rfl (by decide) (fun _ σ₁ => σ₁.loc "G" = some (.ref g)) (fun _ _ => rfl) fun L' A' σ₁ hf hA' hE l1 => ?_
  obtain ⟨epd, hdict⟩ := G.dict
  obtain ⟨kvn, epn, hkn, hkeyn, _⟩ := G.node
  have hlenn : kvn.length = ns.length := by rw [← hkeyn]; simp
  have hndd : nd ≠ d := fun e => by rw [e, hdict] at hkn; cases hkn
  refine s_then (fun σ' => ∃ vw dvw xsV epV V b₁, (∀ b ao, b ≠ d → σ.hp b = some ao → σ'.hp b = some ao) ∧ GraphAt σ' g d gd nd ad ia ns nb (exOf vw ad b₁) true ∧ NV σ' vw dvw nd ∧ σ'.loc "G" = some (.ref g) ∧ σ'.loc "V" = some (.ref V) ∧ σ'.hp V = some (.set xsV epV) ∧ ∀ j, j ∈ xsV ↔ j ∈ ns) ?_ ?_
  · walk_at "st"
    refine n_call1 ?_
    walk_at "st"
    refine ⟨by walk_at "keep", a_cons ?_⟩
    refine n_attr' ?_
    walk_at "st"
    refine get_nodes (G.keep (.ext hE)) ?_
    walk_at "ev"
    refine a_nil ?_
    refine set_nview (hA'.less (by omega)) (N.ext hE) (hE.hp _ _ hkn) hkeyn hr fun V σ₂ xs ep e₂ loc₂ _ hV hx hj => ?_
    walk_at "ev"
    walk_at "st"
    have e : Ext σ (σ₂.bind "V" (.ref V)) := (hE.trans e₂).bind
    refine ⟨rfl, vw₀, dvw₀, xs, ep, V, b₀, fun b ao _ q => e.hp _ _ q, G.keep (.ext e), N.ext e, ?_, loc_same, bind_hp hV, hj⟩
    refine loc_ne (by decide) ?_
    rw [loc₂]; exact l1

  rintro σ₂ ⟨vw, dvw, xsV, epV, V, b₁, k2, G2, N2, l1, lV, hV, hjV⟩
  obtain ⟨epd2, hd2⟩ := G2.dict
  refine run_small hV fun hxV => ?_
  have hxn : xsV.Nodup := hxV.1.imp fun h e => by omega
  have hxl : xsV.length = ns.length := Nat.le_antisymm (nodup_sub hxn fun n hn => (hjV n).mp hn) (nodup_sub G.nodup fun n hn => (hjV n).mpr hn)
  have hVd : V ≠ d := fun e => by rw [e, hd2] at hV; cases hV
  refine s_then (fun σ' => σ' = σ₂) ?_ ?_
  · walk_at "st"
    walk_at "st"
    refine n_call1 ?_
    walk_at "st"
    refine ⟨by walk_at "keep", a_cons ?_⟩
    walk_at "st"
    refine a_nil ?_
    refine len_set hV ?_
    walk_at "ev"
    walk_at "st"
    refine int_lt ?_
    refine ⟨fun q => ?_, fun _ => ?_⟩
    · have := of_decide_eq_true q
      omega
    · walk_at "st"
      exact ⟨rfl, rfl⟩
  intro σ₃ e
  subst e
  refine s_then (fun σ' => ∃ cs b', (∀ b ao, b ≠ d → σ₃.hp b = some ao → σ'.hp b = some ao) ∧ GraphAt σ' g d gd nd ad ia ns nb (exOf vw ad b') true ∧ σ'.loc "G" = some (.ref g) ∧ σ'.loc "V" = some (.ref V) ∧ σ'.loc "component_structure" = some (.ref cs) ∧ CSAt σ' cs ns nb) ?_ ?_
  · walk_at "st"
    refine n_call1 ?_
    walk_at "st"
    refine ⟨by walk_at "keep", a_cons ?_⟩
    walk_at "st"
    refine a_nil ?_
    refine ccs_spec (hA'.less (by omega)) G2 N2 hwf h7 hr hself hsym hin fun τ cs b' k3 loc3 G3 hCS => ?_
    walk_at "ev"
    walk_at "st"
    refine ⟨rfl, cs, b', k3, G3.keep (KeepG.bind KeepG.refl), ?_, ?_, loc_same, hCS⟩
    · exact loc_ne (by decide) (by rw [loc3]; exact l1)
    · exact loc_ne (by decide) (by rw [loc3]; exact lV)
  rintro σ₄ ⟨cs, b₄, k4, G4, l1, lV, lc, kvs, epc, hcs, hrows⟩
  obtain ⟨epd4, hd4⟩ := G4.dict
  have hcsd : cs ≠ d := fun e => by rw [e, hd4] at hcs; cases hcs
  refine s_thenR (fun σ' => (∀ b ao, b ≠ d → σ₄.hp b = some ao → σ'.hp b = some ao) ∧ (∃ b', GraphAt σ' g d gd nd ad ia ns nb (exOf vw ad b') true) ∧ ∀ u v w, ¬ AT nb ns u v w) ?_ ?_
  · refine s_for ?_
    refine n_call1 ?_
    walk_at "st"
    refine ⟨by walk_at "keep", a_cons ?_⟩
    walk_at "st"
    refine a_nil ?_
    refine nonedges_spec (hA'.less (by omega)) G4 h7 fun σ₅ l E e5 loc5 hP hEl hEv hEc => ?_
    walk_at "ev"
    refine iter_list hP.1 fun I hI => ?_
    walk_at "ev"
    have l1' : σ₅.loc "G" = some (.ref g) := by rw [loc5]; exact l1
    have hId : I ≠ d := (hI _ _ (e5.hp _ _ hd4)).symm
    have hld : l ≠ d := fun e => by have := hP.1; rw [e, e5.hp _ _ hd4] at this; cases this
    have hlI : l ≠ I := hI _ _ hP.1
    have hEd : ∀ p ∈ E, p.1 ≠ d := fun p hp e => by have := hP.2 p hp; rw [e, e5.hp _ _ hd4] at this; cases this
    refine ⟨fun k τ => ∃ b', k ≤ E.length ∧ (∀ b ao, b ≠ d → σ₅.hp b = some ao → τ.hp b = some ao) ∧ GraphAt τ g d gd nd ad ia ns nb (exOf vw ad b') true ∧ τ.loc "G" = some (.ref g) ∧ τ.loc "V" = some (.ref V) ∧ τ.loc "component_structure" = some (.ref cs) ∧
      τ.hp I = some (LIter l (E.length - k)) ∧ ∀ p ∈ E.take (E.length - k), ∀ w, ¬ AT nb ns p.2.1 p.2.2 w, E.length, ⟨b₄, Nat.le_refl _, fun b ao _ q => put_new hI q, (G4.keep (.ext e5)).keep (KeepG.refl.new hI), l1', by rw [show (σ₅.put I (LIter l 0)).loc = σ₄.loc from loc5]; exact lV, by rw [show (σ₅.put I (LIter l 0)).loc = σ₄.loc from loc5]; exact lc, ?_, ?_⟩, ?_⟩
    · rw [Nat.sub_self]; exact put_same
    · rw [Nat.sub_self]; simp
    · rintro k τ₀ ⟨b', hk, kp, G0, l1, lV, lc, hI₀, hno⟩
      obtain ⟨epd0, hd0⟩ := G0.dict
      refine next_list hA'.h hI₀ (kp _ _ hld hP.1) (fun hlt T hT => ?_) (fun hge => ?_)
      · have hlt2 : E.length - k < E.length := by simpa using hlt
        have hpe : E[E.length - k]? = some E[E.length - k] := List.getElem?_eq_getElem hlt2
        have hpm : E[E.length - k] ∈ E := List.getElem_mem hlt2
        have hT' : er T = .ref (E[E.length - k]).1 := by
          have : some (er T) = some (AV.ref (E[E.length - k]).1) := by rw [hT, List.getElem?_map, hpe]; rfl
          exact Option.some.inj this
        cases er_ref hT'
        have htake : E.take (E.length - k + 1) = E.take (E.length - k) ++ [E[E.length - k]] := by rw [List.take_add_one, hpe]; rfl
        have hkk : E.length - (k - 1) = E.length - k + 1 := by omega
        obtain ⟨hu, hv, hnb, hne⟩ := hEv _ hpm
        have hTp := kp _ _ (hEd _ hpm) (hP.2 _ hpm)
        have hTI : (E[E.length - k]).1 ≠ I := fun e => by rw [e, hI₀] at hTp; cases hTp
        generalize E[E.length - k] = p at *
        obtain ⟨T, u, v⟩ := p
        dsimp only at hu hv hnb hne hTp hTI ⊢
        refine lot_list put_same ?_
        refine asg_tup2 hA'.h (put_ne hTI hTp) fun v₁ v₂ hv₁ hv₂ => ?_
        walk_at "st"
        walk_at "st"
        have hnuv : ¬ Cl nb u v := fun q => q.elim (fun e => hne e.symm) hnb
        have hnvu : ¬ Cl nb v u := fun q => hnuv (q.symm hsym)
        refine run_gen (fun τ => (∀ b ao, b ≠ I → τ₀.hp b = some ao → τ.hp b = some ao) ∧ τ.hp I = some (LIter l (E.length - k + 1)) ∧ GraphAt τ g d gd nd ad ia ns nb (exOf vw ad b') true ∧ τ.loc "G" = some (.ref g) ∧ τ.loc "V" = some (.ref V) ∧ τ.loc "component_structure" = some (.ref cs) ∧ τ.loc "u" = some (.int u) ∧ τ.loc "v" = some (.int v))
          ⟨fun b ao hb q => bind_hp (bind_hp (put_ne hb q)), bind_hp (bind_hp put_same), G0.keep (((KeepG.refl.put hI₀ rfl).bind).bind), by walk_at "loc", by walk_at "loc", by walk_at "loc", by walk_at "loc", by walk_at "loc"⟩ fun τ₁ ⟨k1, hI1, G1, l1, lV, lc, lu, lv⟩ => ?_
        clear G0
        have kp1 : ∀ b ao, b ≠ d → σ₅.hp b = some ao → τ₁.hp b = some ao := fun b ao hb q => k1 b ao (hI _ _ q) (kp b ao hb q)
        refine s_then (fun σ' => ∃ un xsu ep, (∀ b ao, b ≠ d → τ₁.hp b = some ao → σ'.hp b = some ao) ∧ GraphAt σ' g d gd nd ad ia ns nb (exOf vw ad true) true ∧ σ'.loc "G" = some (.ref g) ∧ σ'.loc "V" = some (.ref V) ∧ σ'.loc "component_structure" = some (.ref cs) ∧ σ'.loc "u" = some (.int u) ∧ σ'.loc "v" = some (.int v) ∧ σ'.loc "u_neighborhood" = some (.ref un) ∧ σ'.hp un = some (.set xsu ep) ∧ ∀ j, j ∈ xsu ↔ Cl nb u j) ?_ ?_
        · walk_at "st"
          refine n_meth1 ?_
          refine n_call1 ?_
          walk_at "st"
          refine ⟨by walk_at "keep", a_cons ?_⟩
          walk_at "st"
          walk_at "st"
          walk_at "st"
          refine sub_graph (hA'.less (by omega)) G1 hu fun τa e2 G2 => ?_
          walk_at "ev"
          refine a_nil ?_
          obtain ⟨kvv, epv, hkv, hkeyv, _⟩ := G2.inner u hu
          have hnbl : (nb u).length ≤ 7 := Nat.le_trans (nodup_sub (hwf u hu).1 (hwf u hu).2) h7
          refine set_dict hkv hkeyv (fun i hi => hr i ((hwf u hu).2 i hi)) hnbl fun s1 xs1 ep1 fs1 hx1 hj1 => ?_
          walk_at "ev"
          refine meth_set put_same F.slot_set_union (by rfl) ⟨by walk_at "keep", ?_⟩
          have lv2 : τa.loc "u" = some (.int u) := by rw [e2.loc]; exact lu
          refine n_list (a_cons ?_)
          refine n_local (put_loc lv2) ?_
          walk_at "ev"
          refine a_nil ?_
          refine new_list (fits (by simp)) fun lv' hlv' => ?_
          walk_at "ev"
          have hs1l : s1 ≠ lv' := hlv' _ _ put_same
          refine union_list (ys := [u]) hA'.h (put_ne hs1l put_same) put_same (by intro i hi; rw [List.mem_singleton.mp hi]; exact hr u hu) fun cn τb xsn epn e3 loc3 fcn hcn hxn hjn => ?_
          walk_at "ev"
          walk_at "st"
          have e3' : Ext τa τb := ((Ext.refl.put fs1).put (fun b ao q => hlv' b ao (put_new fs1 q))).trans e3
          have hloc : τb.loc = τ₁.loc := by rw [loc3]; exact e2.loc
          refine ⟨rfl, cn, xsn, epn, fun b ao hb q => bind_hp (e3'.hp _ _ (e2.hp _ _ hb q)), (G2.keep (.ext e3')).keep (KeepG.bind KeepG.refl), ?_, ?_, ?_, ?_, ?_, loc_same, bind_hp hcn, fun j => ?_⟩
          · exact loc_ne (by decide) (by rw [hloc]; exact l1)
          · exact loc_ne (by decide) (by rw [hloc]; exact lV)
          · exact loc_ne (by decide) (by rw [hloc]; exact lc)
          · exact loc_ne (by decide) (by rw [hloc]; exact lu)
          · exact loc_ne (by decide) (by rw [hloc]; exact lv)
          · rw [hjn, hj1]; unfold Cl; rw [List.mem_singleton]; exact or_comm
        rintro τ₂ ⟨un, xsu, epu, k2', G1, l1, lV, lc, lu, lv, lun, hun, hju⟩
        refine s_then (fun σ' => ∃ vn xsu ep, (∀ b ao, b ≠ d → τ₂.hp b = some ao → σ'.hp b = some ao) ∧ vn ≠ un ∧ GraphAt σ' g d gd nd ad ia ns nb (exOf vw ad true) true ∧ σ'.loc "G" = some (.ref g) ∧ σ'.loc "V" = some (.ref V) ∧ σ'.loc "component_structure" = some (.ref cs) ∧ σ'.loc "u" = some (.int u) ∧ σ'.loc "v" = some (.int v) ∧ σ'.loc "u_neighborhood" = some (.ref un) ∧ σ'.loc "v_neighborhood" = some (.ref vn) ∧ σ'.hp vn = some (.set xsu ep) ∧ ∀ j, j ∈ xsu ↔ Cl nb v j) ?_ ?_
        · walk_at "st"
          refine n_meth1 ?_
          refine n_call1 ?_
          walk_at "st"
          refine ⟨by walk_at "keep", a_cons ?_⟩
          walk_at "st"
          walk_at "st"
          walk_at "st"
          refine sub_graph (hA'.less (by omega)) G1 hv fun τa e2 G2 => ?_
          walk_at "ev"
          refine a_nil ?_
          obtain ⟨kvv, epv, hkv, hkeyv, _⟩ := G2.inner v hv
          have hnbl : (nb v).length ≤ 7 := Nat.le_trans (nodup_sub (hwf v hv).1 (hwf v hv).2) h7
          refine set_dict hkv hkeyv (fun i hi => hr i ((hwf v hv).2 i hi)) hnbl fun s1 xs1 ep1 fs1 hx1 hj1 => ?_
          walk_at "ev"
          refine meth_set put_same F.slot_set_union (by rfl) ⟨by walk_at "keep", ?_⟩
          have lv2 : τa.loc "v" = some (.int v) := by rw [e2.loc]; exact lv
          refine n_list (a_cons ?_)
          refine n_local (put_loc lv2) ?_
          walk_at "ev"
          refine a_nil ?_
          refine new_list (fits (by simp)) fun lv' hlv' => ?_
          walk_at "ev"
          have hs1l : s1 ≠ lv' := hlv' _ _ put_same
          refine union_list (ys := [v]) hA'.h (put_ne hs1l put_same) put_same (by intro i hi; rw [List.mem_singleton.mp hi]; exact hr v hv) fun cn τb xsn epn e3 loc3 fcn hcn hxn hjn => ?_
          walk_at "ev"
          walk_at "st"
          have e3' : Ext τa τb := ((Ext.refl.put fs1).put (fun b ao q => hlv' b ao (put_new fs1 q))).trans e3
          obtain ⟨epdz, hdz⟩ := G1.dict
          have hund : un ≠ d := fun e => by rw [e, hdz] at hun; cases hun
          have hcnun : cn ≠ un := fun e => fcn _ _ (put_new hlv' (put_new fs1 (e2.hp _ _ hund hun))) e.symm
          have hloc : τb.loc = τ₂.loc := by rw [loc3]; exact e2.loc
          refine ⟨rfl, cn, xsn, epn, fun b ao hb q => bind_hp (e3'.hp _ _ (e2.hp _ _ hb q)), hcnun, (G2.keep (.ext e3')).keep (KeepG.bind KeepG.refl), ?_, ?_, ?_, ?_, ?_, ?_, loc_same, bind_hp hcn, fun j => ?_⟩
          · exact loc_ne (by decide) (by rw [hloc]; exact l1)
          · exact loc_ne (by decide) (by rw [hloc]; exact lV)
          · exact loc_ne (by decide) (by rw [hloc]; exact lc)
          · exact loc_ne (by decide) (by rw [hloc]; exact lu)
          · exact loc_ne (by decide) (by rw [hloc]; exact lv)
          · exact loc_ne (by decide) (by rw [hloc]; exact lun)
          · rw [hjn, hj1]; unfold Cl; rw [List.mem_singleton]; exact or_comm
        rintro τ₃ ⟨vn, xsv, epv, k3', hvnun, G3, l1, lV, lc, lu, lv, lun, lvn, hvn, hjv⟩
        obtain ⟨epd3, hd3⟩ := G3.dict
        obtain ⟨epdb, hdb⟩ := G1.dict
        have hund : un ≠ d := fun e => by rw [e, hdb] at hun; cases hun
        have hun3 := k3' _ _ hund hun
        have hunvn : ∀ {τ : AS}, True := trivial
        refine s_then (fun σ' => ∃ uu xsn ep, (∀ b ao, b ≠ d → τ₃.hp b = some ao → σ'.hp b = some ao) ∧ GraphAt σ' g d gd nd ad ia ns nb (exOf vw ad true) true ∧ σ'.loc "G" = some (.ref g) ∧ σ'.loc "V" = some (.ref V) ∧ σ'.loc "component_structure" = some (.ref cs) ∧ σ'.loc "u" = some (.int u) ∧ σ'.loc "v" = some (.int v) ∧ σ'.loc "union_of_neighborhoods" = some (.ref uu) ∧ σ'.hp uu = some (.set xsn ep) ∧ ∀ j, j ∈ xsn ↔ Cl nb u j ∨ Cl nb v j) ?_ ?_
        · walk_at "st"
          refine n_meth1 ?_
          walk_at "st"
          refine meth_set hun3 F.slot_set_union (by rfl) ⟨by walk_at "keep", ?_⟩
          walk_at "st"
          have hne3 : vn ≠ un := hvnun
          refine union_set hun3 hvn hne3 fun uu τ₄ xsn epn e4 loc4 fuu huu hxn hjn => ?_
          walk_at "ev"
          walk_at "st"
          refine ⟨rfl, uu, xsn, epn, fun b ao hb q => bind_hp (e4.hp _ _ q), (G3.keep (.ext e4)).keep (KeepG.bind KeepG.refl), ?_, ?_, ?_, ?_, ?_, loc_same, bind_hp huu, fun j => ?_⟩
          · exact loc_ne (by decide) (by rw [loc4]; exact l1)
          · exact loc_ne (by decide) (by rw [loc4]; exact lV)
          · exact loc_ne (by decide) (by rw [loc4]; exact lc)
          · exact loc_ne (by decide) (by rw [loc4]; exact lu)
          · exact loc_ne (by decide) (by rw [loc4]; exact lv)
          · rw [hjn, hju, hjv]
        rintro τ₄ ⟨uu, xsn, epn, k4', G4', l1, lV, lc, lu, lv, luu, huu, hjn⟩
        have kz : ∀ b ao, b ≠ d → σ₅.hp b = some ao → τ₄.hp b = some ao := fun b ao hb q => k4' b ao hb (k3' b ao hb (k2' b ao hb (kp1 b ao hb q)))
        have hI4 : τ₄.hp I = some (LIter l (E.length - k + 1)) := k4' _ _ hId (k3' _ _ hId (k2' _ _ hId hI1))
        have hV4 : τ₄.hp V = some (.set xsV epV) := kz _ _ hVd (e5.hp _ _ (k4 _ _ hVd hV))
        have hcs4 : τ₄.hp cs = some (.idict kvs epc) := kz _ _ hcsd (e5.hp _ _ hcs)
        have hnn : xsn ≠ [] := fun e => by have := (hjn u).mpr (.inl (.inl rfl)); rw [e] at this; cases this
        obtain ⟨epd4', hd4'⟩ := G4'.dict
        refine s_cons (s_for ?_)
        refine n_call1 ?_
        walk_at "st"
        refine ⟨by walk_at "keep", a_cons (n_binop ?_)⟩
        walk_at "st"
        walk_at "st"
        refine sub_sets hV4 huu hnn fun sw xsw epw fsw hxw hjw => ?_
        walk_at "ev"
        refine a_nil ?_
        refine sorted_set hA'.h put_same fun lw τ₅ e5' loc5' flw hlw => ?_
        walk_at "ev"
        refine iter_list hlw fun J hJ => ?_
        walk_at "ev"
        have e45 : Ext τ₄ τ₅ := (Ext.refl.put fsw).trans e5'
        have hlwJ : lw ≠ J := hJ _ _ hlw
        have fJ4 : Fresh τ₄ J := e45.fresh hJ
        have loc5 : τ₅.loc = τ₄.loc := loc5'
        have hfinal : ∀ (τ : AS) (l' : Addr) (w : Int), (∀ b ao, b ≠ d → τ₄.hp b = some ao → τ.hp b = some ao) → GraphAt τ g d gd nd ad ia ns nb (exOf vw ad true) true → τ.hp l' = some (.list [.int u, .int v, .int w]) → AT nb ns u v w → Q (er (retOf (.ret (.ref l')))) (τ.at σ.loc) := fun τ l' w kτ Gτ hl' hat => by
          have hvd : vw ≠ d := fun e => by have := N2.at_; rw [e, hd2] at this; cases this
          have hdvd : dvw ≠ d := fun e => by have := N2.dict; rw [e, hd2] at this; cases this
          have kk : ∀ b ao, b ≠ d → σ₃.hp b = some ao → τ.hp b = some ao := fun b ao hb q => kτ b ao hb (kz b ao hb (e5.hp _ _ (k4 b ao hb q)))
          exact h _ (.ref l') vw dvw true (fun b ao hb q => loc_hp (kk b ao hb (k2 b ao hb q))) rfl (Gτ.keep KeepG.refl) (N2.keepD hvd hdvd fun b ao hb q => loc_hp (kk b ao hb q)) (.inr ⟨l', u, v, w, rfl, loc_hp hl', hat⟩)
        refine ⟨fun k2 τ => k2 ≤ xsw.length ∧ Ext τ₄ (τ.at τ₄.loc) ∧ τ.loc "G" = some (.ref g) ∧ τ.loc "V" = some (.ref V) ∧ τ.loc "component_structure" = some (.ref cs) ∧ τ.loc "u" = some (.int u) ∧ τ.loc "v" = some (.int v) ∧ τ.hp lw = some (.list (avs xsw)) ∧ τ.hp J = some (LIter lw (xsw.length - k2)) ∧ ∀ w ∈ xsw.take (xsw.length - k2), ¬ AT nb ns u v w, xsw.length, ⟨Nat.le_refl _, ?_, ?_, ?_, ?_, ?_, ?_, put_new hJ hlw, ?_, ?_⟩, ?_⟩
        · exact (e45.put fJ4).loc
        · show τ₅.loc _ = _
          rw [loc5]; exact l1
        · show τ₅.loc _ = _
          rw [loc5]; exact lV
        · show τ₅.loc _ = _
          rw [loc5]; exact lc
        · show τ₅.loc _ = _
          rw [loc5]; exact lu
        · show τ₅.loc _ = _
          rw [loc5]; exact lv
        · rw [Nat.sub_self]; exact put_same
        · rw [Nat.sub_self]; simp
        · rintro k₂ τ₆ ⟨hk₂, e6, l1, lV, lc, lu, lv, hlw6, hJ6, hno6⟩
          have e6h : ∀ b ao, τ₄.hp b = some ao → τ₆.hp b = some ao := fun b ao q => e6.hp b ao q
          refine next_list hA'.h hJ6 hlw6 (fun hlt wv hwv => ?_) (fun hge => ?_)
          · have hlt3 : xsw.length - k₂ < xsw.length := by simpa using hlt
            have hwe : xsw[xsw.length - k₂]? = some xsw[xsw.length - k₂] := List.getElem?_eq_getElem hlt3
            have hwm : xsw[xsw.length - k₂] ∈ xsw := List.getElem_mem hlt3
            obtain ⟨t, rfl⟩ := er_int (v := wv) (i := xsw[xsw.length - k₂]) (by simpa [hlt3] using hwv)
            generalize xsw[xsw.length - k₂] = w at *
            have htake3 : xsw.take (xsw.length - k₂ + 1) = xsw.take (xsw.length - k₂) ++ [w] := by rw [List.take_add_one, hwe]; rfl
            have hkk3 : xsw.length - (k₂ - 1) = xsw.length - k₂ + 1 := by omega
            obtain ⟨q1, q2⟩ := (hjw w).mp hwm
            have hw : w ∈ ns := (hjV w).mp q1
            have hnuw : ¬ Cl nb u w := fun q => q2 ((hjn w).mpr (.inl q))
            have hnvw : ¬ Cl nb v w := fun q => q2 ((hjn w).mpr (.inr q))
            have hnwu : ¬ Cl nb w u := fun q => hnuw (q.symm hsym)
            have hnwv : ¬ Cl nb w v := fun q => hnvw (q.symm hsym)
            obtain ⟨ru, kru, eru, gu, hru, rowu⟩ := hrows u hu
            obtain ⟨rv, krv, erv, gv, hrv, rowv⟩ := hrows v hv
            obtain ⟨rw', krw, erw, gw, hrw, roww⟩ := hrows w hw
            obtain ⟨a1, a2, au1, au2, ai⟩ := rowu v hv w hw
            obtain ⟨b1, b2, bu1, bu2, bi⟩ := rowv u hu w hw
            obtain ⟨c1, c2, cu1, cu2, ci⟩ := roww u hu v hv
            have fin1 : (a1 = a2) ↔ Way nb u v w := ai.trans ⟨fun q => q.elim (fun q => absurd q.1 hnuv) fun q => q.2.2, fun q => .inr ⟨hnuv, hnuw, q⟩⟩
            have fin2 : (b1 = b2) ↔ Way nb v u w := bi.trans ⟨fun q => q.elim (fun q => absurd q.1 hnvu) fun q => q.2.2, fun q => .inr ⟨hnvu, hnvw, q⟩⟩
            have fin3 : (c1 = c2) ↔ Way nb w u v := ci.trans ⟨fun q => q.elim (fun q => absurd q.1 hnwu) fun q => q.2.2, fun q => .inr ⟨hnwu, hnwv, q⟩⟩
            have nd' : ∀ {r : Addr} {kr : List (Int × AV)} {er' : Nat}, σ₄.hp r = some (.idict kr er') → r ≠ d := fun {r kr er'} q e => by rw [e, hd4] at q; cases q
            walk_at "st"
            walk_at "st"
            walk_at "st"
            refine run_gen (fun τ => (∀ b ao, τ₄.hp b = some ao → τ.hp b = some ao) ∧ τ.gs = τ₄.gs ∧ τ.loc "G" = some (.ref g) ∧ τ.loc "V" = some (.ref V) ∧ τ.loc "component_structure" = some (.ref cs) ∧ τ.loc "u" = some (.int u) ∧ τ.loc "v" = some (.int v) ∧ τ.loc "w" = some (.int w) ∧ τ.hp lw = some (.list (avs xsw)) ∧ τ.hp J = some (LIter lw (xsw.length - k₂ + 1)))
              ⟨fun b ao q => bind_hp (put_ne (fJ4 _ _ q) (e6h b ao q)), e6.gs, by walk_at "loc", by walk_at "loc", by walk_at "loc", by walk_at "loc", by walk_at "loc", loc_same, bind_hp (put_ne hlwJ hlw6), bind_hp put_same⟩ fun τ₇ ⟨k7, gs7, l1, lV, lc, lu, lv, lw', hlw7, hJ7⟩ => ?_
            have row7 : ∀ {r : Addr} {kr : List (Int × AV)} {er' : Nat}, σ₄.hp r = some (.idict kr er') → τ₇.hp r = some (.idict kr er') := fun {r kr er'} q => k7 _ _ (kz _ _ (nd' q) (e5.hp _ _ q))
            have hcs7 : τ₇.hp cs = some (.idict kvs epc) := k7 _ _ hcs4
            have skip : ¬ AT nb ns u v w → ∃ m, m < k₂ ∧ (m ≤ xsw.length ∧ Ext τ₄ (τ₇.at τ₄.loc) ∧ τ₇.loc "G" = some (.ref g) ∧ τ₇.loc "V" = some (.ref V) ∧ τ₇.loc "component_structure" = some (.ref cs) ∧ τ₇.loc "u" = some (.int u) ∧ τ₇.loc "v" = some (.int v) ∧ τ₇.hp lw = some (.list (avs xsw)) ∧ τ₇.hp J = some (LIter lw (xsw.length - m)) ∧ ∀ w ∈ xsw.take (xsw.length - m), ¬ AT nb ns u v w) := fun hnat => by
              refine ⟨k₂ - 1, by omega, by omega, ⟨k7, gs7⟩, l1, lV, lc, lu, lv, hlw7, ?_, fun w' hw' => ?_⟩
              · rw [hkk3]; exact hJ7
              · rw [hkk3, htake3] at hw'
                rcases List.mem_append.mp hw' with q | q
                · exact hno6 w' q
                · rw [List.mem_singleton.mp q]; exact hnat
            walk_at "st"
            walk_at "st"
            walk_at "st"
            refine t_and ?_
            walk_at "st"
            walk_at "st"
            walk_at "st"
            walk_at "st"
            walk_at "st"
            refine sub_idict hcs7 gu ?_
            walk_at "ev"
            walk_at "st"
            refine sub_idict (row7 hru) au1 ?_
            walk_at "ev"
            walk_at "st"
            walk_at "st"
            walk_at "st"
            walk_at "st"
            refine sub_idict hcs7 gu ?_
            walk_at "ev"
            walk_at "st"
            refine sub_idict (row7 hru) au2 ?_
            walk_at "ev"
            refine int_eq ⟨fun t1 => ?_, fun t1 => ⟨fun q => absurd q (by decide), fun _ => ?_⟩⟩
            rotate_left
            · walk_at "st"
              walk_at "st"
              exact skip fun hat => by rw [decide_eq_true (fin1.mpr hat.pu)] at t1; cases t1
            have w1 := fin1.mp (of_decide_eq_true t1)
            refine t_and ?_
            walk_at "st"
            walk_at "st"
            walk_at "st"
            walk_at "st"
            walk_at "st"
            refine sub_idict hcs7 gv ?_
            walk_at "ev"
            walk_at "st"
            refine sub_idict (row7 hrv) bu1 ?_
            walk_at "ev"
            walk_at "st"
            walk_at "st"
            walk_at "st"
            walk_at "st"
            refine sub_idict hcs7 gv ?_
            walk_at "ev"
            walk_at "st"
            refine sub_idict (row7 hrv) bu2 ?_
            walk_at "ev"
            refine int_eq ⟨fun t1 => ?_, fun t1 => ⟨fun q => absurd q (by decide), fun _ => ?_⟩⟩
            rotate_left
            · walk_at "st"
              walk_at "st"
              exact skip fun hat => by rw [decide_eq_true (fin2.mpr hat.pv)] at t1; cases t1
            have w2 := fin2.mp (of_decide_eq_true t1)
            refine t_and ?_
            walk_at "st"
            walk_at "st"
            walk_at "st"
            walk_at "st"
            walk_at "st"
            refine sub_idict hcs7 gw ?_
            walk_at "ev"
            walk_at "st"
            refine sub_idict (row7 hrw) cu1 ?_
            walk_at "ev"
            walk_at "st"
            walk_at "st"
            walk_at "st"
            walk_at "st"
            refine sub_idict hcs7 gw ?_
            walk_at "ev"
            walk_at "st"
            refine sub_idict (row7 hrw) cu2 ?_
            walk_at "ev"
            refine int_eq ⟨fun t1 => ?_, fun t1 => ⟨fun q => absurd q (by decide), fun _ => ?_⟩⟩
            rotate_left
            · walk_at "st"
              walk_at "st"
              exact skip fun hat => by rw [decide_eq_true (fin3.mpr hat.pw)] at t1; cases t1
            have w3 := fin3.mp (of_decide_eq_true t1)
            refine t_and_nil ⟨fun _ => ?_, fun q => absurd q (by decide)⟩
            walk_at "st"
            walk_at "st"
            refine n_list (a_cons ?_)
            walk_at "st"
            refine a_cons ?_
            walk_at "st"
            refine a_cons ?_
            walk_at "st"
            refine a_nil ?_
            refine new_list (fits (by simp)) fun lr hlr => ?_
            walk_at "ev"
            refine .inr ⟨_, rfl, ?_⟩
            exact hfinal _ lr w (fun b ao hb q => put_new hlr (k7 b ao q)) (G4'.keep fun b ao i q => put_new hlr (k7 _ _ q)) put_same ⟨hu, hv, hw, hnuv, hnuw, hnvw, w1, w2, w3⟩
          · walk_at "st"
            have hall2 : xsw.take (xsw.length - k₂) = xsw := List.take_of_length_le (by simpa using hge)
            rw [hall2] at hno6
            have dr6 : ∀ b ao, τ₄.hp b = some ao → (τ₆.drop J).hp b = some ao := fun b ao q => drop_ne (fJ4 _ _ q) (e6h b ao q)
            show Run _ (execs [] _) _ _
            walk_at "st"
            refine ⟨k - 1, by omega, true, by omega, fun b ao hb q => dr6 _ _ (kz b ao hb q), G4'.keep fun b ao i q => dr6 _ _ q, l1, lV, lc, ?_, fun p hp w hat => ?_⟩
            · rw [hkk]; exact dr6 _ _ hI4
            · rw [hkk, htake] at hp
              rcases List.mem_append.mp hp with q | q
              · exact hno p q w hat
              · have : p = (T, u, v) := by simpa using q
                subst this
                refine hno6 w ((hjw w).mpr ⟨(hjV w).mpr hat.mw, fun q => ?_⟩) hat
                rcases (hjn w).mp q with q | q
                · exact hat.uw q
                · exact hat.vw q
      · walk_at "st"
        have hall : E.take (E.length - k) = E := List.take_of_length_le (by simpa using hge)
        rw [hall] at hno
        have dr : ∀ b ao, b ≠ d → σ₅.hp b = some ao → (τ₀.drop I).hp b = some ao := fun b ao hb q => drop_ne (hI _ _ q) (kp b ao hb q)
        refine .inl ⟨rfl, fun b ao hb q => dr b ao hb (e5.hp _ _ q), ⟨b', G0.keep (KeepG.refl.drop hI₀ rfl)⟩, fun u v w hat => ?_⟩
        obtain ⟨i, hi⟩ := List.getElem?_of_mem hat.mu
        obtain ⟨j, hj⟩ := List.getElem?_of_mem hat.mv
        rcases Nat.lt_trichotomy i j with hij | hij | hij
        · obtain ⟨p, hp, e⟩ := hEc i j u v hij hi hj fun q => hat.uv (.inr q)
          have := hno p hp w
          rw [e] at this
          exact this hat
        · subst hij
          rw [hi] at hj
          cases hj
          exact hat.uv (.inl rfl)
        · obtain ⟨p, hp, e⟩ := hEc j i v u hij hj hi fun q => hat.uv (.inr (hsym _ _ q))
          have := hno p hp w
          rw [e] at this
          exact this (hat.swap hsym)
  rintro σ₆ ⟨k6, ⟨b6, G6⟩, hnone⟩
  walk_at "st"
  walk_at "st"
  walk_at "st"
  have kall : ∀ b ao, b ≠ d → σ.hp b = some ao → σ₆.hp b = some ao := fun b ao hb q => k6 b ao hb (k4 b ao hb (k2 b ao hb q))
  have hvd : vw ≠ d := fun e => by have := N2.at_; rw [e, hd2] at this; cases this
  have hdvd : dvw ≠ d := fun e => by have := N2.dict; rw [e, hd2] at this; cases this
  exact h _ .none vw dvw b6 (fun b ao hb q => loc_hp (kall b ao hb q)) rfl (G6.keep KeepG.refl) (N2.keepD hvd hdvd fun b ao hb q => loc_hp (k6 b ao hb (k4 b ao hb q))) (.inl ⟨rfl, hnone⟩)

set_option maxHeartbeats 8000000 in
theorem fat_first {C : Cx} {fs : List (Addr × Loc)} {L : Addr} {A : Around} {σ : AS} {g d gd nd ad : Addr} {ia : Int → Addr} {ns : List Int} {nb : Int → List Int} {b₀ : Bool} {Q : AV → AS → Prop} (hA : Deep A 10)
    (G : GraphAt σ g d gd nd ad ia ns nb [] false) (hwf : WF ns nb) (h7 : ns.length ≤ 7) (h6 : 6 ≤ ns.length) (hr : ∀ i ∈ ns, 0 ≤ i ∧ i < 7) (hself : ∀ n ∈ ns, n ∉ nb n) (hsym : ∀ a b, b ∈ nb a → a ∈ nb b) (hin : ∀ a b, b ∈ nb a → a ∈ ns)
    (h : ∀ σ' a vw dvw b', (∀ b ao, b ≠ d → σ.hp b = some ao → σ'.hp b = some ao) → σ'.loc = σ.loc → GraphAt σ' g d gd nd ad ia ns nb (exOf vw ad b') true → NV σ' vw dvw nd → FatRes nb ns a σ' → Q a σ') :
    RunNV ⟨C, fs, L, A⟩ (call (.ref 50) [.ref g]) Q σ := by
  refine rNV_callpl ["G"] [("G", .ref g)] hA (by k_is) (by k_is) rfl (by decide) (fun _ σ₁ => σ₁.loc "G" = some (.ref g)) (fun _ _ => rfl) fun L' A' σ₁ hf hA' hE l1 => ?_
  obtain ⟨epd, hdict⟩ := G.dict
  obtain ⟨kvn, epn, hkn, hkeyn, _⟩ := G.node
  have hlenn : kvn.length = ns.length := by rw [← hkeyn]; simp
  have hndd : nd ≠ d := fun e => by rw [e, hdict] at hkn; cases hkn
  refine sN_here (fun σ' => ∃ vw dvw xsV epV V b₁, (∀ b ao, b ≠ d → σ.hp b = some ao → σ'.hp b = some ao) ∧ GraphAt σ' g d gd nd ad ia ns nb (exOf vw ad b₁) true ∧ NV σ' vw dvw nd ∧ σ'.loc "G" = some (.ref g) ∧ σ'.loc "V" = some (.ref V) ∧ σ'.hp V = some (.set xsV epV) ∧ ∀ j, j ∈ xsV ↔ j ∈ ns) ?_ ?_
  · refine sN_assign ?_
    refine nN_call1 ?_
    walk_at "st"
    refine ⟨by walk_at "keep", ?_⟩
    refine aN_cons ?_
    refine nN_attr ?_
    walk_at "st"
    refine first_nodes (hA'.less (by omega)) (G.keep (.ext hE)) fun vw dvw σ₂ e₂ G₂ N₂ => ?_
    walk_at "ev"
    refine rN_of (a_nil ?_)
    refine rNV_mono (Q := fun a σ' => ∃ V xs ep, a = .ref V ∧ Ext σ₂ σ' ∧ σ'.loc = σ₂.loc ∧ σ'.hp V = some (.set xs ep) ∧ ∀ j, j ∈ xs ↔ j ∈ ns) (rN_of ?_) fun a σ₃ ⟨V, xs, ep, ea, e₃, loc₃, hV, hj⟩ => ?_
    rotate_left
    · subst ea
      walk_at "ev"
      walk_at "st"
      refine ⟨rfl, vw, dvw, xs, ep, V, false, fun b ao hb q => bind_hp (e₃.hp _ _ (e₂.hp _ _ hb (hE.hp _ _ q))), G₂.keep (.ext e₃.bind), N₂.ext e₃.bind, ?_, loc_same, bind_hp hV, hj⟩
      refine loc_ne (by decide) ?_
      rw [loc₃, e₂.loc]; exact l1
    obtain ⟨kvn2, epn2, hkn2, hkeyn2, _⟩ := G₂.node
    have key : RunV ⟨C, (L, σ.loc) :: fs, L', A'⟩ (call (.type "set") [.ref vw]) (fun a σ' => ∃ V xs ep, a = .ref V ∧ Ext σ₂ σ' ∧ σ'.loc = σ₂.loc ∧ σ'.hp V = some (.set xs ep) ∧ ∀ j, j ∈ xs ↔ j ∈ ns) σ₂ := set_nview (hA'.less (j := 1) (by omega)) N₂ hkn2 hkeyn2 hr fun V σ₃ xs ep e₃ loc₃ _ hV hx hj => ⟨V, xs, ep, rfl, e₃, loc₃, hV, hj⟩
    exact key

  rintro σ₂ ⟨vw, dvw, xsV, epV, V, b₁, k2, G2, N2, l1, lV, hV, hjV⟩
  obtain ⟨epd2, hd2⟩ := G2.dict
  refine run_small hV fun hxV => ?_
  have hxn : xsV.Nodup := hxV.1.imp fun h e => by omega
  have hxl : xsV.length = ns.length := Nat.le_antisymm (nodup_sub hxn fun n hn => (hjV n).mp hn) (nodup_sub G.nodup fun n hn => (hjV n).mpr hn)
  have hVd : V ≠ d := fun e => by rw [e, hd2] at hV; cases hV
  refine s_then (fun σ' => σ' = σ₂) ?_ ?_
  · walk_at "st"
    walk_at "st"
    refine n_call1 ?_
    walk_at "st"
    refine ⟨by walk_at "keep", a_cons ?_⟩
    walk_at "st"
    refine a_nil ?_
    refine len_set hV ?_
    walk_at "ev"
    walk_at "st"
    refine int_lt ?_
    refine ⟨fun q => ?_, fun _ => ?_⟩
    · have := of_decide_eq_true q
      omega
    · walk_at "st"
      exact ⟨rfl, rfl⟩
  intro σ₃ e
  subst e
  refine s_then (fun σ' => ∃ cs b', (∀ b ao, b ≠ d → σ₃.hp b = some ao → σ'.hp b = some ao) ∧ GraphAt σ' g d gd nd ad ia ns nb (exOf vw ad b') true ∧ σ'.loc "G" = some (.ref g) ∧ σ'.loc "V" = some (.ref V) ∧ σ'.loc "component_structure" = some (.ref cs) ∧ CSAt σ' cs ns nb) ?_ ?_
  · walk_at "st"
    refine n_call1 ?_
    walk_at "st"
    refine ⟨by walk_at "keep", a_cons ?_⟩
    walk_at "st"
    refine a_nil ?_
    refine ccs_spec (hA'.less (by omega)) G2 N2 hwf h7 hr hself hsym hin fun τ cs b' k3 loc3 G3 hCS => ?_
    walk_at "ev"
    walk_at "st"
    refine ⟨rfl, cs, b', k3, G3.keep (KeepG.bind KeepG.refl), ?_, ?_, loc_same, hCS⟩
    · exact loc_ne (by decide) (by rw [loc3]; exact l1)
    · exact loc_ne (by decide) (by rw [loc3]; exact lV)
  rintro σ₄ ⟨cs, b₄, k4, G4, l1, lV, lc, kvs, epc, hcs, hrows⟩
  obtain ⟨epd4, hd4⟩ := G4.dict
  have hcsd : cs ≠ d := fun e => by rw [e, hd4] at hcs; cases hcs
  refine s_thenR (fun σ' => (∀ b ao, b ≠ d → σ₄.hp b = some ao → σ'.hp b = some ao) ∧ (∃ b', GraphAt σ' g d gd nd ad ia ns nb (exOf vw ad b') true) ∧ ∀ u v w, ¬ AT nb ns u v w) ?_ ?_
  · refine s_for ?_
    refine n_call1 ?_
    walk_at "st"
    refine ⟨by walk_at "keep", a_cons ?_⟩
    walk_at "st"
    refine a_nil ?_
    refine nonedges_spec (hA'.less (by omega)) G4 h7 fun σ₅ l E e5 loc5 hP hEl hEv hEc => ?_
    walk_at "ev"
    refine iter_list hP.1 fun I hI => ?_
    walk_at "ev"
    have l1' : σ₅.loc "G" = some (.ref g) := by rw [loc5]; exact l1
    have hId : I ≠ d := (hI _ _ (e5.hp _ _ hd4)).symm
    have hld : l ≠ d := fun e => by have := hP.1; rw [e, e5.hp _ _ hd4] at this; cases this
    have hlI : l ≠ I := hI _ _ hP.1
    have hEd : ∀ p ∈ E, p.1 ≠ d := fun p hp e => by have := hP.2 p hp; rw [e, e5.hp _ _ hd4] at this; cases this
    refine ⟨fun k τ => ∃ b', k ≤ E.length ∧ (∀ b ao, b ≠ d → σ₅.hp b = some ao → τ.hp b = some ao) ∧ GraphAt τ g d gd nd ad ia ns nb (exOf vw ad b') true ∧ τ.loc "G" = some (.ref g) ∧ τ.loc "V" = some (.ref V) ∧ τ.loc "component_structure" = some (.ref cs) ∧
      τ.hp I = some (LIter l (E.length - k)) ∧ ∀ p ∈ E.take (E.length - k), ∀ w, ¬ AT nb ns p.2.1 p.2.2 w, E.length, ⟨b₄, Nat.le_refl _, fun b ao _ q => put_new hI q, (G4.keep (.ext e5)).keep (KeepG.refl.new hI), l1', by rw [show (σ₅.put I (LIter l 0)).loc = σ₄.loc from loc5]; exact lV, by rw [show (σ₅.put I (LIter l 0)).loc = σ₄.loc from loc5]; exact lc, ?_, ?_⟩, ?_⟩
    · rw [Nat.sub_self]; exact put_same
    · rw [Nat.sub_self]; simp
    · rintro k τ₀ ⟨b', hk, kp, G0, l1, lV, lc, hI₀, hno⟩
      obtain ⟨epd0, hd0⟩ := G0.dict
      refine next_list hA'.h hI₀ (kp _ _ hld hP.1) (fun hlt T hT => ?_) (fun hge => ?_)
      · have hlt2 : E.length - k < E.length := by simpa using hlt
        have hpe : E[E.length - k]? = some E[E.length - k] := List.getElem?_eq_getElem hlt2
        have hpm : E[E.length - k] ∈ E := List.getElem_mem hlt2
        have hT' : er T = .ref (E[E.length - k]).1 := by
          have : some (er T) = some (AV.ref (E[E.length - k]).1) := by rw [hT, List.getElem?_map, hpe]; rfl
          exact Option.some.inj this
        cases er_ref hT'
        have htake : E.take (E.length - k + 1) = E.take (E.length - k) ++ [E[E.length - k]] := by rw [List.take_add_one, hpe]; rfl
        have hkk : E.length - (k - 1) = E.length - k + 1 := by omega
        obtain ⟨hu, hv, hnb, hne⟩ := hEv _ hpm
        have hTp := kp _ _ (hEd _ hpm) (hP.2 _ hpm)
        have hTI : (E[E.length - k]).1 ≠ I := fun e => by rw [e, hI₀] at hTp; cases hTp
        generalize E[E.length - k] = p at *
        obtain ⟨T, u, v⟩ := p
        dsimp only at hu hv hnb hne hTp hTI ⊢
        refine lot_list put_same ?_
        refine asg_tup2 hA'.h (put_ne hTI hTp) fun v₁ v₂ hv₁ hv₂ => ?_
        walk_at "st"
        walk_at "st"
        have hnuv : ¬ Cl nb u v := fun q => q.elim (fun e => hne e.symm) hnb
        have hnvu : ¬ Cl nb v u := fun q => hnuv (q.symm hsym)
        refine run_gen (fun τ => (∀ b ao, b ≠ I → τ₀.hp b = some ao → τ.hp b = some ao) ∧ τ.hp I = some (LIter l (E.length - k + 1)) ∧ GraphAt τ g d gd nd ad ia ns nb (exOf vw ad b') true ∧ τ.loc "G" = some (.ref g) ∧ τ.loc "V" = some (.ref V) ∧ τ.loc "component_structure" = some (.ref cs) ∧ τ.loc "u" = some (.int u) ∧ τ.loc "v" = some (.int v))
          ⟨fun b ao hb q => bind_hp (bind_hp (put_ne hb q)), bind_hp (bind_hp put_same), G0.keep (((KeepG.refl.put hI₀ rfl).bind).bind), by walk_at "loc", by walk_at "loc", by walk_at "loc", by walk_at "loc", by walk_at "loc"⟩ fun τ₁ ⟨k1, hI1, G1, l1, lV, lc, lu, lv⟩ => ?_
        clear G0
        have kp1 : ∀ b ao, b ≠ d → σ₅.hp b = some ao → τ₁.hp b = some ao := fun b ao hb q => k1 b ao (hI _ _ q) (kp b ao hb q)
        refine s_then (fun σ' => ∃ un xsu ep, (∀ b ao, b ≠ d → τ₁.hp b = some ao → σ'.hp b = some ao) ∧ GraphAt σ' g d gd nd ad ia ns nb (exOf vw ad true) true ∧ σ'.loc "G" = some (.ref g) ∧ σ'.loc "V" = some (.ref V) ∧ σ'.loc "component_structure" = some (.ref cs) ∧ σ'.loc "u" = some (.int u) ∧ σ'.loc "v" = some (.int v) ∧ σ'.loc "u_neighborhood" = some (.ref un) ∧ σ'.hp un = some (.set xsu ep) ∧ ∀ j, j ∈ xsu ↔ Cl nb u j) ?_ ?_
        · walk_at "st"
          refine n_meth1 ?_
          refine n_call1 ?_
          walk_at "st"
          refine ⟨by walk_at "keep", a_cons ?_⟩
          walk_at "st"
          walk_at "st"
          walk_at "st"
          refine sub_graph (hA'.less (by omega)) G1 hu fun τa e2 G2 => ?_
          walk_at "ev"
          refine a_nil ?_
          obtain ⟨kvv, epv, hkv, hkeyv, _⟩ := G2.inner u hu
          have hnbl : (nb u).length ≤ 7 := Nat.le_trans (nodup_sub (hwf u hu).1 (hwf u hu).2) h7
          refine set_dict hkv hkeyv (fun i hi => hr i ((hwf u hu).2 i hi)) hnbl fun s1 xs1 ep1 fs1 hx1 hj1 => ?_
          walk_at "ev"
          refine meth_set put_same F.slot_set_union (by rfl) ⟨by walk_at "keep", ?_⟩
          have lv2 : τa.loc "u" = some (.int u) := by rw [e2.loc]; exact lu
          refine n_list (a_cons ?_)
          refine n_local (put_loc lv2) ?_
          walk_at "ev"
          refine a_nil ?_
          refine new_list (fits (by simp)) fun lv' hlv' => ?_
          walk_at "ev"
          have hs1l : s1 ≠ lv' := hlv' _ _ put_same
          refine union_list (ys := [u]) hA'.h (put_ne hs1l put_same) put_same (by intro i hi; rw [List.mem_singleton.mp hi]; exact hr u hu) fun cn τb xsn epn e3 loc3 fcn hcn hxn hjn => ?_
          walk_at "ev"
          walk_at "st"
          have e3' : Ext τa τb := ((Ext.refl.put fs1).put (fun b ao q => hlv' b ao (put_new fs1 q))).trans e3
          have hloc : τb.loc = τ₁.loc := by rw [loc3]; exact e2.loc
          refine ⟨rfl, cn, xsn, epn, fun b ao hb q => bind_hp (e3'.hp _ _ (e2.hp _ _ hb q)), (G2.keep (.ext e3')).keep (KeepG.bind KeepG.refl), ?_, ?_, ?_, ?_, ?_, loc_same, bind_hp hcn, fun j => ?_⟩
          · exact loc_ne (by decide) (by rw [hloc]; exact l1)
          · exact loc_ne (by decide) (by rw [hloc]; exact lV)
          · exact loc_ne (by decide) (by rw [hloc]; exact lc)
          · exact loc_ne (by decide) (by rw [hloc]; exact lu)
          · exact loc_ne (by decide) (by rw [hloc]; exact lv)
          · rw [hjn, hj1]; unfold Cl; rw [List.mem_singleton]; exact or_comm
        rintro τ₂ ⟨un, xsu, epu, k2', G1, l1, lV, lc, lu, lv, lun, hun, hju⟩
        refine s_then (fun σ' => ∃ vn xsu ep, (∀ b ao, b ≠ d → τ₂.hp b = some ao → σ'.hp b = some ao) ∧ vn ≠ un ∧ GraphAt σ' g d gd nd ad ia ns nb (exOf vw ad true) true ∧ σ'.loc "G" = some (.ref g) ∧ σ'.loc "V" = some (.ref V) ∧ σ'.loc "component_structure" = some (.ref cs) ∧ σ'.loc "u" = some (.int u) ∧ σ'.loc "v" = some (.int v) ∧ σ'.loc "u_neighborhood" = some (.ref un) ∧ σ'.loc "v_neighborhood" = some (.ref vn) ∧ σ'.hp vn = some (.set xsu ep) ∧ ∀ j, j ∈ xsu ↔ Cl nb v j) ?_ ?_
        · walk_at "st"
          refine n_meth1 ?_
          refine n_call1 ?_
          walk_at "st"
          refine ⟨by walk_at "keep", a_cons ?_⟩
          walk_at "st"
          walk_at "st"
          walk_at "st"
          refine sub_graph (hA'.less (by omega)) G1 hv fun τa e2 G2 => ?_
          walk_at "ev"
          refine a_nil ?_
          obtain ⟨kvv, epv, hkv, hkeyv, _⟩ := G2.inner v hv
          have hnbl : (nb v).length ≤ 7 := Nat.le_trans (nodup_sub (hwf v hv).1 (hwf v hv).2) h7
          refine set_dict hkv hkeyv (fun i hi => hr i ((hwf v hv).2 i hi)) hnbl fun s1 xs1 ep1 fs1 hx1 hj1 => ?_
          walk_at "ev"
          refine meth_set put_same F.slot_set_union (by rfl) ⟨by walk_at "keep", ?_⟩
          have lv2 : τa.loc "v" = some (.int v) := by rw [e2.loc]; exact lv
          refine n_list (a_cons ?_)
          refine n_local (put_loc lv2) ?_
          walk_at "ev"
          refine a_nil ?_
          refine new_list (fits (by simp)) fun lv' hlv' => ?_
          walk_at "ev"
          have hs1l : s1 ≠ lv' := hlv' _ _ put_same
          refine union_list (ys := [v]) hA'.h (put_ne hs1l put_same) put_same (by intro i hi; rw [List.mem_singleton.mp hi]; exact hr v hv) fun cn τb xsn epn e3 loc3 fcn hcn hxn hjn => ?_
          walk_at "ev"
          walk_at "st"
          have e3' : Ext τa τb := ((Ext.refl.put fs1).put (fun b ao q => hlv' b ao (put_new fs1 q))).trans e3
          obtain ⟨epdz, hdz⟩ := G1.dict
          have hund : un ≠ d := fun e => by rw [e, hdz] at hun; cases hun
          have hcnun : cn ≠ un := fun e => fcn _ _ (put_new hlv' (put_new fs1 (e2.hp _ _ hund hun))) e.symm
          have hloc : τb.loc = τ₂.loc := by rw [loc3]; exact e2.loc
          refine ⟨rfl, cn, xsn, epn, fun b ao hb q => bind_hp (e3'.hp _ _ (e2.hp _ _ hb q)), hcnun, (G2.keep (.ext e3')).keep (KeepG.bind KeepG.refl), ?_, ?_, ?_, ?_, ?_, ?_, loc_same, bind_hp hcn, fun j => ?_⟩
          · exact loc_ne (by decide) (by rw [hloc]; exact l1)
          · exact loc_ne (by decide) (by rw [hloc]; exact lV)
          · exact loc_ne (by decide) (by rw [hloc]; exact lc)
          · exact loc_ne (by decide) (by rw [hloc]; exact lu)
          · exact loc_ne (by decide) (by rw [hloc]; exact lv)
          · exact loc_ne (by decide) (by rw [hloc]; exact lun)
          · rw [hjn, hj1]; unfold Cl; rw [List.mem_singleton]; exact or_comm
        rintro τ₃ ⟨vn, xsv, epv, k3', hvnun, G3, l1, lV, lc, lu, lv, lun, lvn, hvn, hjv⟩
        obtain ⟨epd3, hd3⟩ := G3.dict
        obtain ⟨epdb, hdb⟩ := G1.dict
        have hund : un ≠ d := fun e => by rw [e, hdb] at hun; cases hun
        have hun3 := k3' _ _ hund hun
        have hunvn : ∀ {τ : AS}, True := trivial
        refine s_then (fun σ' => ∃ uu xsn ep, (∀ b ao, b ≠ d → τ₃.hp b = some ao → σ'.hp b = some ao) ∧ GraphAt σ' g d gd nd ad ia ns nb (exOf vw ad true) true ∧ σ'.loc "G" = some (.ref g) ∧ σ'.loc "V" = some (.ref V) ∧ σ'.loc "component_structure" = some (.ref cs) ∧ σ'.loc "u" = some (.int u) ∧ σ'.loc "v" = some (.int v) ∧ σ'.loc "union_of_neighborhoods" = some (.ref uu) ∧ σ'.hp uu = some (.set xsn ep) ∧ ∀ j, j ∈ xsn ↔ Cl nb u j ∨ Cl nb v j) ?_ ?_
        · walk_at "st"
          refine n_meth1 ?_
          walk_at "st"
          refine meth_set hun3 F.slot_set_union (by rfl) ⟨by walk_at "keep", ?_⟩
          walk_at "st"
          have hne3 : vn ≠ un := hvnun
          refine union_set hun3 hvn hne3 fun uu τ₄ xsn epn e4 loc4 fuu huu hxn hjn => ?_
          walk_at "ev"
          walk_at "st"
          refine ⟨rfl, uu, xsn, epn, fun b ao hb q => bind_hp (e4.hp _ _ q), (G3.keep (.ext e4)).keep (KeepG.bind KeepG.refl), ?_, ?_, ?_, ?_, ?_, loc_same, bind_hp huu, fun j => ?_⟩
          · exact loc_ne (by decide) (by rw [loc4]; exact l1)
          · exact loc_ne (by decide) (by rw [loc4]; exact lV)
          · exact loc_ne (by decide) (by rw [loc4]; exact lc)
          · exact loc_ne (by decide) (by rw [loc4]; exact lu)
          · exact loc_ne (by decide) (by rw [loc4]; exact lv)
          · rw [hjn, hju, hjv]
        rintro τ₄ ⟨uu, xsn, epn, k4', G4', l1, lV, lc, lu, lv, luu, huu, hjn⟩
        have kz : ∀ b ao, b ≠ d → σ₅.hp b = some ao → τ₄.hp b = some ao := fun b ao hb q => k4' b ao hb (k3' b ao hb (k2' b ao hb (kp1 b ao hb q)))
        have hI4 : τ₄.hp I = some (LIter l (E.length - k + 1)) := k4' _ _ hId (k3' _ _ hId (k2' _ _ hId hI1))
        have hV4 : τ₄.hp V = some (.set xsV epV) := kz _ _ hVd (e5.hp _ _ (k4 _ _ hVd hV))
        have hcs4 : τ₄.hp cs = some (.idict kvs epc) := kz _ _ hcsd (e5.hp _ _ hcs)
        have hnn : xsn ≠ [] := fun e => by have := (hjn u).mpr (.inl (.inl rfl)); rw [e] at this; cases this
        obtain ⟨epd4', hd4'⟩ := G4'.dict
        refine s_cons (s_for ?_)
        refine n_call1 ?_
        walk_at "st"
        refine ⟨by walk_at "keep", a_cons (n_binop ?_)⟩
        walk_at "st"
        walk_at "st"
        refine sub_sets hV4 huu hnn fun sw xsw epw fsw hxw hjw => ?_
        walk_at "ev"
        refine a_nil ?_
        refine sorted_set hA'.h put_same fun lw τ₅ e5' loc5' flw hlw => ?_
        walk_at "ev"
        refine iter_list hlw fun J hJ => ?_
        walk_at "ev"
        have e45 : Ext τ₄ τ₅ := (Ext.refl.put fsw).trans e5'
        have hlwJ : lw ≠ J := hJ _ _ hlw
        have fJ4 : Fresh τ₄ J := e45.fresh hJ
        have loc5 : τ₅.loc = τ₄.loc := loc5'
        have hfinal : ∀ (τ : AS) (l' : Addr) (w : Int), (∀ b ao, b ≠ d → τ₄.hp b = some ao → τ.hp b = some ao) → GraphAt τ g d gd nd ad ia ns nb (exOf vw ad true) true → τ.hp l' = some (.list [.int u, .int v, .int w]) → AT nb ns u v w → Q (er (retOf (.ret (.ref l')))) (τ.at σ.loc) := fun τ l' w kτ Gτ hl' hat => by
          have hvd : vw ≠ d := fun e => by have := N2.at_; rw [e, hd2] at this; cases this
          have hdvd : dvw ≠ d := fun e => by have := N2.dict; rw [e, hd2] at this; cases this
          have kk : ∀ b ao, b ≠ d → σ₃.hp b = some ao → τ.hp b = some ao := fun b ao hb q => kτ b ao hb (kz b ao hb (e5.hp _ _ (k4 b ao hb q)))
          exact h _ (.ref l') vw dvw true (fun b ao hb q => loc_hp (kk b ao hb (k2 b ao hb q))) rfl (Gτ.keep KeepG.refl) (N2.keepD hvd hdvd fun b ao hb q => loc_hp (kk b ao hb q)) (.inr ⟨l', u, v, w, rfl, loc_hp hl', hat⟩)
        refine ⟨fun k2 τ => k2 ≤ xsw.length ∧ Ext τ₄ (τ.at τ₄.loc) ∧ τ.loc "G" = some (.ref g) ∧ τ.loc "V" = some (.ref V) ∧ τ.loc "component_structure" = some (.ref cs) ∧ τ.loc "u" = some (.int u) ∧ τ.loc "v" = some (.int v) ∧ τ.hp lw = some (.list (avs xsw)) ∧ τ.hp J = some (LIter lw (xsw.length - k2)) ∧ ∀ w ∈ xsw.take (xsw.length - k2), ¬ AT nb ns u v w, xsw.length, ⟨Nat.le_refl _, ?_, ?_, ?_, ?_, ?_, ?_, put_new hJ hlw, ?_, ?_⟩, ?_⟩
        · exact (e45.put fJ4).loc
        · show τ₅.loc _ = _
          rw [loc5]; exact l1
        · show τ₅.loc _ = _
          rw [loc5]; exact lV
        · show τ₅.loc _ = _
          rw [loc5]; exact lc
        · show τ₅.loc _ = _
          rw [loc5]; exact lu
        · show τ₅.loc _ = _
          rw [loc5]; exact lv
        · rw [Nat.sub_self]; exact put_same
        · rw [Nat.sub_self]; simp
        · rintro k₂ τ₆ ⟨hk₂, e6, l1, lV, lc, lu, lv, hlw6, hJ6, hno6⟩
          have e6h : ∀ b ao, τ₄.hp b = some ao → τ₆.hp b = some ao := fun b ao q => e6.hp b ao q
          refine next_list hA'.h hJ6 hlw6 (fun hlt wv hwv => ?_) (fun hge => ?_)
          · have hlt3 : xsw.length - k₂ < xsw.length := by simpa using hlt
            have hwe : xsw[xsw.length - k₂]? = some xsw[xsw.length - k₂] := List.getElem?_eq_getElem hlt3
            have hwm : xsw[xsw.length - k₂] ∈ xsw := List.getElem_mem hlt3
            obtain ⟨t, rfl⟩ := er_int (v := wv) (i := xsw[xsw.length - k₂]) (by simpa [hlt3] using hwv)
            generalize xsw[xsw.length - k₂] = w at *
            have htake3 : xsw.take (xsw.length - k₂ + 1) = xsw.take (xsw.length - k₂) ++ [w] := by rw [List.take_add_one, hwe]; rfl
            have hkk3 : xsw.length - (k₂ - 1) = xsw.length - k₂ + 1 := by omega
            obtain ⟨q1, q2⟩ := (hjw w).mp hwm
            have hw : w ∈ ns := (hjV w).mp q1
            have hnuw : ¬ Cl nb u w := fun q => q2 ((hjn w).mpr (.inl q))
            have hnvw : ¬ Cl nb v w := fun q => q2 ((hjn w).mpr (.inr q))
            have hnwu : ¬ Cl nb w u := fun q => hnuw (q.symm hsym)
            have hnwv : ¬ Cl nb w v := fun q => hnvw (q.symm hsym)
            obtain ⟨ru, kru, eru, gu, hru, rowu⟩ := hrows u hu
            obtain ⟨rv, krv, erv, gv, hrv, rowv⟩ := hrows v hv
            obtain ⟨rw', krw, erw, gw, hrw, roww⟩ := hrows w hw
            obtain ⟨a1, a2, au1, au2, ai⟩ := rowu v hv w hw
            obtain ⟨b1, b2, bu1, bu2, bi⟩ := rowv u hu w hw
            obtain ⟨c1, c2, cu1, cu2, ci⟩ := roww u hu v hv
            have fin1 : (a1 = a2) ↔ Way nb u v w := ai.trans ⟨fun q => q.elim (fun q => absurd q.1 hnuv) fun q => q.2.2, fun q => .inr ⟨hnuv, hnuw, q⟩⟩
            have fin2 : (b1 = b2) ↔ Way nb v u w := bi.trans ⟨fun q => q.elim (fun q => absurd q.1 hnvu) fun q => q.2.2, fun q => .inr ⟨hnvu, hnvw, q⟩⟩
            have fin3 : (c1 = c2) ↔ Way nb w u v := ci.trans ⟨fun q => q.elim (fun q => absurd q.1 hnwu) fun q => q.2.2, fun q => .inr ⟨hnwu, hnwv, q⟩⟩
            have nd' : ∀ {r : Addr} {kr : List (Int × AV)} {er' : Nat}, σ₄.hp r = some (.idict kr er') → r ≠ d := fun {r kr er'} q e => by rw [e, hd4] at q; cases q
            walk_at "st"
            walk_at "st"
            walk_at "st"
            refine run_gen (fun τ => (∀ b ao, τ₄.hp b = some ao → τ.hp b = some ao) ∧ τ.gs = τ₄.gs ∧ τ.loc "G" = some (.ref g) ∧ τ.loc "V" = some (.ref V) ∧ τ.loc "component_structure" = some (.ref cs) ∧ τ.loc "u" = some (.int u) ∧ τ.loc "v" = some (.int v) ∧ τ.loc "w" = some (.int w) ∧ τ.hp lw = some (.list (avs xsw)) ∧ τ.hp J = some (LIter lw (xsw.length - k₂ + 1)))
              ⟨fun b ao q => bind_hp (put_ne (fJ4 _ _ q) (e6h b ao q)), e6.gs, by walk_at "loc", by walk_at "loc", by walk_at "loc", by walk_at "loc", by walk_at "loc", loc_same, bind_hp (put_ne hlwJ hlw6), bind_hp put_same⟩ fun τ₇ ⟨k7, gs7, l1, lV, lc, lu, lv, lw', hlw7, hJ7⟩ => ?_
            have row7 : ∀ {r : Addr} {kr : List (Int × AV)} {er' : Nat}, σ₄.hp r = some (.idict kr er') → τ₇.hp r = some (.idict kr er') := fun {r kr er'} q => k7 _ _ (kz _ _ (nd' q) (e5.hp _ _ q))
            have hcs7 : τ₇.hp cs = some (.idict kvs epc) := k7 _ _ hcs4
            have skip : ¬ AT nb ns u v w → ∃ m, m < k₂ ∧ (m ≤ xsw.length ∧ Ext τ₄ (τ₇.at τ₄.loc) ∧ τ₇.loc "G" = some (.ref g) ∧ τ₇.loc "V" = some (.ref V) ∧ τ₇.loc "component_structure" = some (.ref cs) ∧ τ₇.loc "u" = some (.int u) ∧ τ₇.loc "v" = some (.int v) ∧ τ₇.hp lw = some (.list (avs xsw)) ∧ τ₇.hp J = some (LIter lw (xsw.length - m)) ∧ ∀ w ∈ xsw.take (xsw.length - m), ¬ AT nb ns u v w) := fun hnat => by
              refine ⟨k₂ - 1, by omega, by omega, ⟨k7, gs7⟩, l1, lV, lc, lu, lv, hlw7, ?_, fun w' hw' => ?_⟩
              · rw [hkk3]; exact hJ7
              · rw [hkk3, htake3] at hw'
                rcases List.mem_append.mp hw' with q | q
                · exact hno6 w' q
                · rw [List.mem_singleton.mp q]; exact hnat
            walk_at "st"
            walk_at "st"
            walk_at "st"
            refine t_and ?_
            walk_at "st"
            walk_at "st"
            walk_at "st"
            walk_at "st"
            walk_at "st"
            refine sub_idict hcs7 gu ?_
            walk_at "ev"
            walk_at "st"
            refine sub_idict (row7 hru) au1 ?_
            walk_at "ev"
            walk_at "st"
            walk_at "st"
            walk_at "st"
            walk_at "st"
            refine sub_idict hcs7 gu ?_
            walk_at "ev"
            walk_at "st"
            refine sub_idict (row7 hru) au2 ?_
            walk_at "ev"
            refine int_eq ⟨fun t1 => ?_, fun t1 => ⟨fun q => absurd q (by decide), fun _ => ?_⟩⟩
            rotate_left
            · walk_at "st"
              walk_at "st"
              exact skip fun hat => by rw [decide_eq_true (fin1.mpr hat.pu)] at t1; cases t1
            have w1 := fin1.mp (of_decide_eq_true t1)
            refine t_and ?_
            walk_at "st"
            walk_at "st"
            walk_at "st"
            walk_at "st"
            walk_at "st"
            refine sub_idict hcs7 gv ?_
            walk_at "ev"
            walk_at "st"
            refine sub_idict (row7 hrv) bu1 ?_
            walk_at "ev"
            walk_at "st"
            walk_at "st"
            walk_at "st"
            walk_at "st"
            refine sub_idict hcs7 gv ?_
            walk_at "ev"
            walk_at "st"
            refine sub_idict (row7 hrv) bu2 ?_
            walk_at "ev"
            refine int_eq ⟨fun t1 => ?_, fun t1 => ⟨fun q => absurd q (by decide), fun _ => ?_⟩⟩
            rotate_left
            · walk_at "st"
              walk_at "st"
              exact skip fun hat => by rw [decide_eq_true (fin2.mpr hat.pv)] at t1; cases t1
            have w2 := fin2.mp (of_decide_eq_true t1)
            refine t_and ?_
            walk_at "st"
            walk_at "st"
            walk_at "st"
            walk_at "st"
            walk_at "st"
            refine sub_idict hcs7 gw ?_
            walk_at "ev"
            walk_at "st"
            refine sub_idict (row7 hrw) cu1 ?_
            walk_at "ev"
            walk_at "st"
            walk_at "st"
            walk_at "st"
            walk_at "st"
            refine sub_idict hcs7 gw ?_
            walk_at "ev"
            walk_at "st"
            refine sub_idict (row7 hrw) cu2 ?_
            walk_at "ev"
            refine int_eq ⟨fun t1 => ?_, fun t1 => ⟨fun q => absurd q (by decide), fun _ => ?_⟩⟩
            rotate_left
            · walk_at "st"
              walk_at "st"
              exact skip fun hat => by rw [decide_eq_true (fin3.mpr hat.pw)] at t1; cases t1
            have w3 := fin3.mp (of_decide_eq_true t1)
            refine t_and_nil ⟨fun _ => ?_, fun q => absurd q (by decide)⟩
            walk_at "st"
            walk_at "st"
            refine n_list (a_cons ?_)
            walk_at "st"
            refine a_cons ?_
            walk_at "st"
            refine a_cons ?_
            walk_at "st"
            refine a_nil ?_
            refine new_list (fits (by simp)) fun lr hlr => ?_
            walk_at "ev"
            refine .inr ⟨_, rfl, ?_⟩
            exact hfinal _ lr w (fun b ao hb q => put_new hlr (k7 b ao q)) (G4'.keep fun b ao i q => put_new hlr (k7 _ _ q)) put_same ⟨hu, hv, hw, hnuv, hnuw, hnvw, w1, w2, w3⟩
          · walk_at "st"
            have hall2 : xsw.take (xsw.length - k₂) = xsw := List.take_of_length_le (by simpa using hge)
            rw [hall2] at hno6
            have dr6 : ∀ b ao, τ₄.hp b = some ao → (τ₆.drop J).hp b = some ao := fun b ao q => drop_ne (fJ4 _ _ q) (e6h b ao q)
            show Run _ (execs [] _) _ _
            walk_at "st"
            refine ⟨k - 1, by omega, true, by omega, fun b ao hb q => dr6 _ _ (kz b ao hb q), G4'.keep fun b ao i q => dr6 _ _ q, l1, lV, lc, ?_, fun p hp w hat => ?_⟩
            · rw [hkk]; exact dr6 _ _ hI4
            · rw [hkk, htake] at hp
              rcases List.mem_append.mp hp with q | q
              · exact hno p q w hat
              · have : p = (T, u, v) := by simpa using q
                subst this
                refine hno6 w ((hjw w).mpr ⟨(hjV w).mpr hat.mw, fun q => ?_⟩) hat
                rcases (hjn w).mp q with q | q
                · exact hat.uw q
                · exact hat.vw q
      · walk_at "st"
        have hall : E.take (E.length - k) = E := List.take_of_length_le (by simpa using hge)
        rw [hall] at hno
        have dr : ∀ b ao, b ≠ d → σ₅.hp b = some ao → (τ₀.drop I).hp b = some ao := fun b ao hb q => drop_ne (hI _ _ q) (kp b ao hb q)
        refine .inl ⟨rfl, fun b ao hb q => dr b ao hb (e5.hp _ _ q), ⟨b', G0.keep (KeepG.refl.drop hI₀ rfl)⟩, fun u v w hat => ?_⟩
        obtain ⟨i, hi⟩ := List.getElem?_of_mem hat.mu
        obtain ⟨j, hj⟩ := List.getElem?_of_mem hat.mv
        rcases Nat.lt_trichotomy i j with hij | hij | hij
        · obtain ⟨p, hp, e⟩ := hEc i j u v hij hi hj fun q => hat.uv (.inr q)
          have := hno p hp w
          rw [e] at this
          exact this hat
        · subst hij
          rw [hi] at hj
          cases hj
          exact hat.uv (.inl rfl)
        · obtain ⟨p, hp, e⟩ := hEc j i v u hij hj hi fun q => hat.uv (.inr (hsym _ _ q))
          have := hno p hp w
          rw [e] at this
          exact this (hat.swap hsym)
  rintro σ₆ ⟨k6, ⟨b6, G6⟩, hnone⟩
  walk_at "st"
  walk_at "st"
  walk_at "st"
  have kall : ∀ b ao, b ≠ d → σ.hp b = some ao → σ₆.hp b = some ao := fun b ao hb q => k6 b ao hb (k4 b ao hb (k2 b ao hb q))
  have hvd : vw ≠ d := fun e => by have := N2.at_; rw [e, hd2] at this; cases this
  have hdvd : dvw ≠ d := fun e => by have := N2.dict; rw [e, hd2] at this; cases this
  exact h _ .none vw dvw b6 (fun b ao hb q => loc_hp (kall b ao hb q)) rfl (G6.keep KeepG.refl) (N2.keepD hvd hdvd fun b ao hb q => loc_hp (k6 b ao hb (k4 b ao hb q))) (.inl ⟨rfl, hnone⟩)
end
-- AzEq
section
open PySem PySem.W PyProof.Rows PySem.Calls PySem.Spec PySem.SeqAt
theorem readsAll_of {h : Heap} : ∀ (vs : List Value) (ds : List PyData), vs.length = ds.length → (∀ (i : Nat) (v : Value) (d : PyData), vs[i]? = some v → ds[i]? = some d → ∃ as, Reads h v d as) → ∃ as, ReadsAll h vs ds as
  | [], [], _, _ => ⟨_, .nil⟩
  | [], _ :: _, e, _ => nomatch e
  | _ :: _, [], e, _ => nomatch e
  | v :: vs, d :: ds, e, k => by
    obtain ⟨as, ra⟩ := k 0 v d rfl rfl
    obtain ⟨bs, rb⟩ := readsAll_of vs ds (by simpa using e) fun i v' d' h1 h2 => k (i + 1) v' d' (by simpa using h1) (by simpa using h2)
    exact ⟨_, .cons ra rb⟩
section
variable {C : Cx} {fs : List (Addr × Loc)} {L : Addr} {σ : AS} {s : Shared}
theorem reads_seq (R : Rel C fs L σ s) {xs : Array Value} {ds : List PyData} {vs : List AV} (hx : xs.toList.map er = vs) (hlen : vs.length = ds.length) (k : ∀ (i : Nat) (a : AV) (d : PyData), vs[i]? = some a → ds[i]? = some d → ∀ v, er v = a → ∃ as, Reads s.heap v d as) : ∃ as, ReadsAll s.heap xs.toList ds as := by
  refine readsAll_of _ _ (by rw [← hlen, ← hx]; simp) fun i v d h1 h2 => k i (er v) d ?_ h2 v rfl
  rw [← hx, List.getElem?_map, h1]; rfl
theorem reads_ints (R : Rel C fs L σ s) {l : Addr} {q : List Int} (hl : σ.hp l = some (.list (avs q))) : ∃ as, Reads s.heap (.ref l) (.list (q.map PyData.int)) as := by
  obtain ⟨xs, n, ho, hx, _⟩ := list_at R hl
  obtain ⟨as, ra⟩ := reads_seq R (ds := q.map PyData.int) hx (by simp) fun i a d h1 h2 v hv => by
    rw [List.getElem?_map] at h1 h2
    cases e : q[i]? with
    | none => rw [e] at h1; cases h1
    | some j =>
      rw [e] at h1 h2
      cases h1; cases h2
      obtain ⟨t, rfl⟩ := er_int hv
      exact ⟨_, .int j t⟩
  exact ⟨_, .list ho rfl rfl ra⟩
theorem reads_tup2 (R : Rel C fs L σ s) {t : Addr} {a b : Int} (ht : σ.hp t = some (.tup [.int a, .int b])) : ∃ as, Reads s.heap (.ref t) (.tuple [.int a, .int b]) as := by
  obtain ⟨xs, n, ho, hx, _⟩ := tup_at R ht
  obtain ⟨as, ra⟩ := reads_seq R (ds := [.int a, .int b]) hx rfl fun i a' d h1 h2 v hv => by
    match i, h1, h2 with
    | 0, h1, h2 => cases h1; cases h2; obtain ⟨t, rfl⟩ := er_int hv; exact ⟨_, .int _ t⟩
    | 1, h1, h2 => cases h1; cases h2; obtain ⟨t, rfl⟩ := er_int hv; exact ⟨_, .int _ t⟩
    | i + 2, h1, h2 => simp at h1
  exact ⟨_, .tuple ho rfl rfl ra⟩
abbrev pairD (p : Int × Int) : PyData := .tuple [.int p.1, .int p.2]
theorem reads_pairs (R : Rel C fs L σ s) {l : Addr} {E : List (Addr × Int × Int)} (h : PairsAt σ l E) : ∃ as, Reads s.heap (.ref l) (.list (E.map fun p => pairD p.2)) as := by
  obtain ⟨xs, n, ho, hx, _⟩ := list_at R h.1
  obtain ⟨as, ra⟩ := reads_seq R (ds := E.map fun p => pairD p.2) hx (by simp) fun i a d h1 h2 v hv => by
    rw [List.getElem?_map] at h1 h2
    cases e : E[i]? with
    | none => rw [e] at h1; cases h1
    | some p =>
      rw [e] at h1 h2
      cases h1; cases h2
      cases er_ref hv
      exact reads_tup2 R (h.2 p (List.mem_of_getElem? e))
  exact ⟨_, .list ho rfl rfl ra⟩
/-- a list of lists of ints -/
def ListsAt (σ : AS) (l : Addr) (E : List (Addr × List Int)) : Prop := σ.hp l = some (.list (E.map fun p => .ref p.1)) ∧ ∀ p ∈ E, σ.hp p.1 = some (.list (avs p.2))
theorem reads_lists (R : Rel C fs L σ s) {l : Addr} {E : List (Addr × List Int)} (h : ListsAt σ l E) : ∃ as, Reads s.heap (.ref l) (.list (E.map fun p => .list (p.2.map PyData.int))) as := by
  obtain ⟨xs, n, ho, hx, _⟩ := list_at R h.1
  obtain ⟨as, ra⟩ := reads_seq R (ds := E.map fun p => .list (p.2.map PyData.int)) hx (by simp) fun i a d h1 h2 v hv => by
    rw [List.getElem?_map] at h1 h2
    cases e : E[i]? with
    | none => rw [e] at h1; cases h1
    | some p =>
      rw [e] at h1 h2
      cases h1; cases h2
      cases er_ref hv
      exact reads_ints R (h.2 p (List.mem_of_getElem? e))
  exact ⟨_, .list ho rfl rfl ra⟩
end
theorem lay_ints : ∀ q : List Int, PyData.canLayAll0 (q.map PyData.int) = true
  | [] => rfl
  | i :: r => by
    show (PyData.canLay0 (.int i) && PyData.canLayAll0 (r.map PyData.int)) = true
    rw [lay_ints r]; rfl
theorem lay_list : ∀ E : List (Addr × List Int), PyData.canLayAll0 (E.map fun p => PyData.list (p.2.map PyData.int)) = true
  | [] => rfl
  | p :: r => by
    show (PyData.canLayAll0 (p.2.map PyData.int) && PyData.canLayAll0 (r.map fun p => PyData.list (p.2.map PyData.int))) = true
    rw [lay_list r, lay_ints]; rfl
theorem lay_pairs : ∀ E : List (Addr × Int × Int), PyData.canLayAll0 (E.map fun p => pairD p.2) = true
  | [] => rfl
  | p :: r => by
    show (PyData.canLay0 (pairD p.2) && PyData.canLayAll0 (r.map fun p => pairD p.2)) = true
    rw [lay_pairs r]; rfl
theorem eqv_ints : ∀ q r : List Int, PyData.eqvAll (q.map PyData.int) (r.map PyData.int) = decide (q = r)
  | [], [] => rfl
  | [], _ :: _ => rfl
  | _ :: _, [] => rfl
  | i :: q, j :: r => by
    show (PyData.eqv (.int i) (.int j) && PyData.eqvAll (q.map PyData.int) (r.map PyData.int)) = _
    rw [eqv_ints q r]
    show ((i == j) && decide (q = r)) = _
    by_cases h1 : i = j <;> by_cases h2 : q = r <;> simp [h1, h2]
section
variable {x : X} {σ : AS} {env : Env}
theorem dAll_ints : ∀ q : List Int, PyData.depthAll (q.map PyData.int) ≤ 1
  | [] => by decide
  | i :: r => Nat.max_le.mpr ⟨(by show (0 : Nat) ≤ 1; decide), dAll_ints r⟩
theorem in_ints {l : Addr} {q : List Int} {i : Int} {t : Tok} {Q : Bool → AS → Prop} (hu : x.A.units + 20 < 9900) (hl : σ.hp l = some (.list (avs q))) (h : Q (decide (i ∈ q)) σ) : Cmp x .In (.int i t) (.ref l) Q σ := by
  intro s R
  obtain ⟨as, ra⟩ := reads_ints R hl
  have e : (q.map PyData.int).any (fun y => PyData.eqv y (.int i)) = decide (i ∈ q) := by
    rw [List.any_map]
    show q.any (fun j => j == i) = _
    rw [Bool.eq_iff_iff]; simp
  refine in_list_reads ra (.int i t) (lay_ints q) rfl ?_ ⟨σ, R, _, rfl, by rw [e]; exact h⟩
  have : min (PyData.depthAll (q.map PyData.int)) (PyData.depth (.int i)) ≤ 1 := Nat.le_trans (Nat.min_le_left _ _) (dAll_ints q)
  show _ < 9900
  omega
theorem notin_ints {l : Addr} {q : List Int} {i : Int} {t : Tok} {Q : Bool → AS → Prop} (hu : x.A.units + 20 < 9900) (hl : σ.hp l = some (.list (avs q))) (h : Q (!decide (i ∈ q)) σ) : Cmp x .NotIn (.int i t) (.ref l) Q σ := by
  intro s R
  obtain ⟨as, ra⟩ := reads_ints R hl
  have e : (q.map PyData.int).any (fun y => PyData.eqv y (.int i)) = decide (i ∈ q) := by
    rw [List.any_map]
    show q.any (fun j => j == i) = _
    rw [Bool.eq_iff_iff]; simp
  refine notIn_list_reads ra (.int i t) (lay_ints q) rfl ?_ ⟨σ, R, _, rfl, by rw [e]; exact h⟩
  have : min (PyData.depthAll (q.map PyData.int)) (PyData.depth (.int i)) ≤ 1 := Nat.le_trans (Nat.min_le_left _ _) (dAll_ints q)
  show _ < 9900
  omega
theorem in_pairs {l t : Addr} {E : List (Addr × Int × Int)} {a b : Int} {Q : Bool → AS → Prop} (hu : x.A.units + 20 < 9900) (hl : PairsAt σ l E) (ht : σ.hp t = some (.tup [.int a, .int b])) (h : Q (decide ((a, b) ∈ E.map (·.2))) σ) : Cmp x .In (.ref t) (.ref l) Q σ := by
  intro s R
  obtain ⟨as, ra⟩ := reads_pairs R hl
  obtain ⟨bs, rb⟩ := reads_tup2 R ht
  have e : (E.map fun p => pairD p.2).any (fun y => PyData.eqv y (.tuple [.int a, .int b])) = decide ((a, b) ∈ E.map (·.2)) := by
    rw [List.any_map]
    show E.any (fun p => (p.2.1 == a) && ((p.2.2 == b) && true)) = _
    rw [Bool.eq_iff_iff]
    simp only [Bool.and_true, List.any_eq_true, Bool.and_eq_true, beq_iff_eq, decide_eq_true_eq, List.mem_map]
    constructor
    · rintro ⟨p, hp, h1, h2⟩; exact ⟨p, hp, Prod.ext h1 h2⟩
    · rintro ⟨p, hp, h⟩; exact ⟨p, hp, by rw [h], by rw [h]⟩
  refine in_list_reads ra rb (lay_pairs E) rfl ?_ ⟨σ, R, _, rfl, by rw [e]; exact h⟩
  have : min (PyData.depthAll (E.map fun p => pairD p.2)) (PyData.depth (.tuple [.int a, .int b])) ≤ 5 := Nat.le_trans (Nat.min_le_right _ _) (by show PyData.depth (.tuple [.int a, .int b]) ≤ 5; simp [PyData.depth, PyData.depthAll])
  show _ < 9900
  omega
theorem in_lists {l t : Addr} {E : List (Addr × List Int)} {q : List Int} {Q : Bool → AS → Prop} (hu : x.A.units + 20 < 9900) (hl : ListsAt σ l E) (ht : σ.hp t = some (.list (avs q))) (h : Q (decide (q ∈ E.map (·.2))) σ) : Cmp x .In (.ref t) (.ref l) Q σ := by
  intro s R
  obtain ⟨as, ra⟩ := reads_lists R hl
  obtain ⟨bs, rb⟩ := reads_ints R ht
  have e : (E.map fun p => PyData.list (p.2.map PyData.int)).any (fun y => PyData.eqv y (.list (q.map PyData.int))) = decide (q ∈ E.map (·.2)) := by
    rw [List.any_map]
    show E.any (fun p => PyData.eqvAll (p.2.map PyData.int) (q.map PyData.int)) = _
    rw [Bool.eq_iff_iff]
    simp only [eqv_ints, List.any_eq_true, decide_eq_true_eq, List.mem_map]
  refine in_list_reads ra rb (lay_list E) (lay_ints q) ?_ ⟨σ, R, _, rfl, by rw [e]; exact h⟩
  have : min (PyData.depthAll (E.map fun p => PyData.list (p.2.map PyData.int))) (PyData.depth (.list (q.map PyData.int))) ≤ 5 := by
    refine Nat.le_trans (Nat.min_le_right _ _) ?_
    have := dAll_ints q
    show PyData.depthAll (q.map PyData.int) + 1 ≤ 5
    omega
  show _ < 9900
  omega
theorem eq_nil {l m : Addr} {E : List (Addr × List Int)} {Q : Bool → AS → Prop} (hu : x.A.units + 20 < 9900) (hl : ListsAt σ l E) (hm : σ.hp m = some (.list [])) (h : Q (decide (E = [])) σ) : Cmp x .Eq (.ref l) (.ref m) Q σ := by
  intro s R
  obtain ⟨as, ra⟩ := reads_lists R hl
  obtain ⟨bs, rb⟩ := reads_ints (q := []) R hm
  have e : PyData.eqv (.list (E.map fun p => PyData.list (p.2.map PyData.int))) (.list (([] : List Int).map PyData.int)) = decide (E = []) := by
    cases E with
    | nil => rfl
    | cons p r => rfl
  refine compareEq_reads ra rb (lay_list E) (lay_ints []) ?_ ⟨σ, R, _, rfl, by rw [e]; exact h⟩
  have : min (PyData.depth (.list (E.map fun p => PyData.list (p.2.map PyData.int)))) (PyData.depth (.list (([] : List Int).map PyData.int))) ≤ 5 := Nat.le_trans (Nat.min_le_right _ _) (by decide)
  show _ < 9900
  omega
end
end
-- AzWa
section
open PySem PySem.W PyProof.Rows PySem.Calls PySem.Spec PySem.SeqAt
theorem seqI_list : seqSlot? (.type "list") (dunderI "add") = pure (some (.builtin "list.__iadd__")) := PySem.seqSlot_of F.slot_list_iadd.lookup (by decide +kernel)
theorem fillsI_list : fillsInplaceSlot (.type "list") "add" (Operator.Add == .Add) = pure false := by
  unfold fillsInplaceSlot
  show (typeLookup (.type "list") (dunderI "add") >>= fun fi => pure (fi.isSome && !isSeqSlot fi)) = pure false
  rw [F.slot_list_iadd.lookup]
  show (pure (true && !isSeqSlot (some (.builtin "list.__iadd__"))) : Sem Bool) = (pure false : Sem Bool)
  rw [show isSeqSlot (some (.builtin "list.__iadd__")) = true from by decide +kernel]; rfl
section
variable {x : X} {σ : AS} {env : Env}
theorem iadd_list {l b : Addr} {vs us : List AV} {Q : AV → AS → Prop} (hl : σ.hp l = some (.list vs)) (hb : σ.hp b = some (.list us)) (hz : vs.length + us.length < 900) (h : Q (.ref l) (σ.put l (.list (vs ++ us)))) : RunV x (inplaceOp .Add (.ref l) (.ref b)) Q σ := by
  intro s R
  obtain ⟨xs, n, ho, hx, hL⟩ := list_at R hl
  obtain ⟨ys, m, ho2, hy, hL2⟩ := list_at R hb
  have e1 : xs.size = vs.length := by rw [← hx]; simp
  have e2 : ys.size = us.length := by rw [← hy]; simp
  have ta : s.TypeIs (.ref l) "list" := ⟨_, ho, rfl⟩
  have tb : s.TypeIs (.ref b) "list" := ⟨_, ho2, rfl⟩
  have hnl : ¬(!xs.isEmpty && Builtin.List.listTooLong (xs.size + ys.size)) = true := by
    have : Builtin.List.listTooLong (xs.size + ys.size) = false := by
      unfold Builtin.List.listTooLong
      have : xs.size + ys.size ≤ 1000 := by omega
      simp
      exact Nat.le_trans this (by decide)
    rw [this]; simp
  have hz1 : xs.size ≤ sizeLine := fits (by omega)
  have hz2 : xs.size + ys.size ≤ sizeLine + 1 := Nat.le_succ_of_le (fits (by omega))
  unfold inplaceOp
  refine wpAny_holding ?_
  refine wpAny_bind (wpAny_typeOf ta (wpAny_bind (wpAny_of_eq fillsI_list ?_)))
  show wpAny _ _ (if false = true then _ else _) _ _ _
  rw [if_neg Bool.false_ne_true]
  refine wpAny_bind (wpAny_binaryOp1_none (nm := "add") ta tb noFill_list_add ?_)
  refine wpAny_bind (wpAny_of_eq seqI_list ?_)
  refine wpAny_bind (wpAny_rule ?_)
  refine call_meets F.slot_list_iadd ta F.entry_list_iadd (F.args_list_iadd_2 _ _) (AutoSeq1.list___iadd___list_list_0 l xs n b ys m hnl hz1 hz2) ⟨ho, ho2, ?_⟩
  refine ⟨_, R.upd (ao := .list (vs ++ us)) hl (Heap.SameBut.update ..).extBut (Heap.get?_update_self _ ho rfl) ?_ s.toks, h⟩
  refine ⟨xs ++ ys, _, rfl, ?_⟩
  rw [Array.toList_append, List.map_append, hx, hy]
theorem add_list {l b : Addr} {vs us : List AV} {Q : AV → AS → Prop} (hl : σ.hp l = some (.list vs)) (hb : σ.hp b = some (.list us)) (hz : vs.length + us.length < 900) (h : ∀ r, Fresh σ r → Q (.ref r) (σ.put r (.list (vs ++ us)))) : RunV x (binaryOp .Add (.ref l) (.ref b)) Q σ := by
  intro s R
  obtain ⟨xs, n, ho, hx, hL⟩ := list_at R hl
  obtain ⟨ys, m, ho2, hy, hL2⟩ := list_at R hb
  have e1 : xs.size = vs.length := by rw [← hx]; simp
  have e2 : ys.size = us.length := by rw [← hy]; simp
  refine P.add_list ho ho2 ?_ (fits (by omega))
  exact ⟨_, R.push (ao := .list (vs ++ us)) ⟨xs ++ ys, _, rfl, by rw [Array.toList_append, List.map_append, hx, hy]⟩ s.toks, h _ (R.fresh (Nat.le_refl _))⟩
theorem int_ne {i j : Int} {t u : Tok} {Q : Bool → AS → Prop} (h : Q (!decide (i = j)) σ) : Cmp x .NotEq (.int i t) (.int j u) Q σ := by
  intro s R
  refine P.ne_int ⟨σ, R, _, rfl, ?_⟩
  have : (i != j) = !decide (i = j) := by by_cases e : i = j <;> simp [e]
  rw [this]; exact h
theorem load_cell {n : Str} {c : Addr} {v : AV} {Q : AV → AS → Prop} (hc : env.cells.lookup n = some c) (hv : σ.hp c = some (.cell (some v))) (h : Q v σ) (hk : env.scope.kind = .function := by rfl)
    (hl : env.kindOf n = some .cell := by rfl) : RunV x (loadName env n) Q σ := by
  intro s R
  obtain ⟨u, hu, rfl⟩ := cell_get R hv
  exact wpAny_loadName_cell hk hl hc hu ⟨σ, R, h⟩
end
theorem cell_hp3 {n1 n2 n3 : Str} {cm : Str → Option Value} {hp : Addr → Option AO} {c1 c2 c3 : Addr} (h12 : c1 ≠ c2) (h13 : c1 ≠ c3) (h23 : c2 ≠ c3) :
    layHp [(n3, c3), (n2, c2), (n1, c1)] cm hp c1 = some (.cell ((cm n1).map er)) ∧ layHp [(n3, c3), (n2, c2), (n1, c1)] cm hp c2 = some (.cell ((cm n2).map er)) ∧ layHp [(n3, c3), (n2, c2), (n1, c1)] cm hp c3 = some (.cell ((cm n3).map er)) := by
  unfold layHp layHp layHp layHp setHp
  exact ⟨(if_neg h13).trans ((if_neg h12).trans (if_pos rfl)), (if_neg h23).trans (if_pos rfl), if_pos rfl⟩
/-- a call of a def whose arguments are plain, with the C stack -/
theorem run_callplU {C : Cx} {fs : List (Addr × Loc)} {L : Addr} {A : Around} {σ : AS} {f : Addr} {oc : Value} {od : Option Addr} {osl : Array (Option Value)} {fd : FuncData} {body : List Stmt} {vals : List Value} {Q : AV → AS → Prop} {k : Nat} (names : List Str) (binds : List (Str × Value))
    (hA : Deep A (k + 1)) (ho : (Mine.hd.heap_39 C.w.params).lookup f = some ⟨oc, od, .func fd, osl⟩) (hcode : codeIn (Mine.hd.heap_39 C.w.params) fd.code fd.qualname = true)
    (hb : bindArgs fd ⟨vals, []⟩ = pure binds) (hn : ∀ b ∈ names, fd.scope.names.lookup b = some .local ∨ fd.scope.names.lookup b = some .cell)
    (LF : Addr → AS → Prop) (hLF : ∀ L', (∀ c, L' ≤ c → Fresh σ c) → LF L' (enterC fd f binds L' σ))
    (h : ∀ L' A' σ₁, (∀ c, L' ≤ c → Fresh σ c) → Deep A' k → A'.units = A.units + 3 → Ext σ σ₁ → LF L' σ₁ →
        Run ⟨C, (L, σ.loc) :: fs, L', A'⟩ (execs body (callEnvC fd L' f)) (fun fl σ₂ => Q (er (retOf fl)) (σ₂.at σ.loc)) σ₁)
    (hnm : binds.map (·.1) = names := by rfl) (hbody : fd.body = .stmts body := by rfl) (hclo : fd.closure = [] := by rfl)
    (hnd : ∀ n, ((cellsFrom n fd.scope.names []).map (·.1)).Nodup := by intro n; simp [cellsFrom]) (hco : fd.scope.isCoroutine = false := by rfl) (hgen : fd.scope.isGenerator = false := by rfl) (hk : fd.scope.kind = .function := by rfl) :
    RunV ⟨C, fs, L, A⟩ (call (.ref f) vals []) Q σ := by
  refine run_callfn hA.lt ho hcode ?_ hbody hclo hnd hco hgen hk
  rw [hb]
  refine run_pure ⟨fun n b hm => ?_, fun L' hf => h L' _ _ hf hA.deeper rfl (ext_enter hf) (hLF L' hf)⟩
  rcases hn b.1 (hnm ▸ List.mem_map_of_mem hm) with e | e
  · exact .inl e
  · refine .inr ⟨e, ?_⟩
    rcases cellsFrom_some (n := n) (acc := []) e with e' | e'
    · exact e'
    · cases e'
end
-- AzWb
section
open PySem PySem.W PyProof.Rows PySem.Calls PySem.Spec PySem.SeqAt
def NearAt (σ : AS) (nr : Addr) (ns : List Int) (nb : Int → List Int) : Prop := ∃ kvs ep, σ.hp nr = some (.idict kvs ep) ∧ ∀ v ∈ ns, ∃ l, aget kvs v = some (.ref l) ∧ σ.hp l = some (.list (avs (nb v)))
theorem NearAt.ext {σ τ : AS} {nr : Addr} {ns : List Int} {nb : Int → List Int} (h : NearAt σ nr ns nb) (e : ∀ b ao, σ.hp b = some ao → τ.hp b = some ao) : NearAt τ nr ns nb := by
  obtain ⟨kvs, ep, h1, h2⟩ := h
  exact ⟨kvs, ep, e _ _ h1, fun v hv => let ⟨l, q1, q2⟩ := h2 v hv; ⟨l, q1, e _ _ q2⟩⟩
set_option maxHeartbeats 4000000 in
theorem way_spec {C : Cx} {fs : List (Addr × Loc)} {L : Addr} {A : Around} {σ : AS} {nr : Addr} {ns : List Int} {nb : Int → List Int} {here goal third : Int} {t1 t2 t3 : Tok} {Q : AV → AS → Prop} (hA : Deep A 2) (hu : A.units + 40 < 9900)
    (hN : NearAt σ nr ns nb) (hh : here ∈ ns) (ht : third ∈ ns) (hcl : ∀ n ∈ ns, ∀ m ∈ nb n, m ∈ ns) (hnd : ∀ n ∈ ns, (nb n).Nodup) (h7 : ns.length ≤ 7)
    (h : ∀ σ' (b : Bool), Ext σ σ' → σ'.loc = σ.loc → (b = true ↔ Way nb third here goal) → Q (.bool b) σ') : RunV ⟨C, fs, L, A⟩ (call (.ref 596) [.ref nr, .int here t1, .int goal t2, .int third t3]) Q σ := by
  have c12 : ∀ L' : Addr, L' + 1 ≠ L' + 1 + 1 := fun L' => Nat.ne_of_lt (Nat.lt_succ_self _)
  have c23 : ∀ L' : Addr, L' + 1 + 1 ≠ L' + 1 + 1 + 1 := fun L' => Nat.ne_of_lt (Nat.lt_succ_self _)
  have c13 : ∀ L' : Addr, L' + 1 ≠ L' + 1 + 1 + 1 := fun L' => Nat.ne_of_lt (Nat.lt_trans (Nat.lt_succ_self _) (Nat.lt_succ_self _))
  refine run_callplU ["near", "here", "goal", "third"] [("near", .ref nr), ("here", .int here t1), ("goal", .int goal t2), ("third", .int third t3)] hA (by k_is) (by k_is) rfl (by decide)
    (fun L' σ₁ => σ₁.loc "here" = some (.int here) ∧ σ₁.loc "goal" = some (.int goal) ∧ σ₁.hp (L' + 1) = some (.cell (some (.ref nr))) ∧ σ₁.hp (L' + 1 + 1) = some (.cell (some (.int third))) ∧ σ₁.hp (L' + 1 + 1 + 1) = some (.cell none)) (by
      intro L' _
      exact ⟨rfl, rfl, Eq.trans (cell_hp3 (n1 := "near") (n2 := "third") (n3 := "found") (c1 := L' + 1) (c2 := L' + 1 + 1) (c3 := L' + 1 + 1 + 1) (c12 L') (c13 L') (c23 L')).1 rfl, Eq.trans (cell_hp3 (n1 := "near") (n2 := "third") (n3 := "found") (c1 := L' + 1) (c2 := L' + 1 + 1) (c3 := L' + 1 + 1 + 1) (c12 L') (c13 L') (c23 L')).2.1 rfl, Eq.trans (cell_hp3 (n1 := "near") (n2 := "third") (n3 := "found") (c1 := L' + 1) (c2 := L' + 1 + 1) (c3 := L' + 1 + 1 + 1) (c12 L') (c13 L') (c23 L')).2.2 rfl⟩) (hnd := by intro n; simp [cellsFrom]; decide) fun L' A' σ₁ hf hA' hu' hE ⟨lh, lg, k1, k2, k3⟩ => ?_
  have f1 : Fresh σ (L' + 1) := hf _ (Nat.le_add_right _ 1)
  have f2 : Fresh σ (L' + 1 + 1) := hf _ (Nat.le_add_right _ 2)
  have f3 : Fresh σ (L' + 1 + 1 + 1) := hf _ (Nat.le_add_right _ 3)
  refine s_then (fun σ' => ∃ fl, Ext σ σ' ∧ Fresh σ fl ∧ σ'.hp fl = some (.list (avs [here])) ∧ σ'.loc "goal" = some (.int goal) ∧ σ'.hp (L' + 1) = some (.cell (some (.ref nr))) ∧ σ'.hp (L' + 1 + 1) = some (.cell (some (.int third))) ∧ σ'.hp (L' + 1 + 1 + 1) = some (.cell (some (.ref fl)))) ?_ ?_
  · walk_at "st"
    refine n_list (a_cons ?_)
    walk_at "st"
    refine a_nil ?_
    refine new_list (fits (by simp)) fun fl hfl => ?_
    walk_at "ev"
    refine store_cell' (by walk_at "er") rfl (put_new hfl k3) ?_
    refine ⟨rfl, fl, (hE.put (hE.fresh hfl)).put f3, hE.fresh hfl, put_ne (fun e => hfl _ _ k3 e.symm) put_same, lg, put_ne (c13 L') (put_new hfl k1), put_ne (c23 L') (put_new hfl k2), put_same⟩
  rintro σ₂ ⟨fl, hE₂, ffl, hfl, lg, k1, k2, k3⟩
  refine s_then (fun σ' => ∃ q, Ext σ σ' ∧ σ'.loc "goal" = some (.int goal) ∧ σ'.hp (L' + 1 + 1 + 1) = some (.cell (some (.ref fl))) ∧ σ'.hp fl = some (.list (avs q)) ∧ here ∈ q ∧ (∀ n ∈ q, n ∈ ns ∧ Way nb third here n) ∧ ∀ n ∈ q, ∀ m ∈ nb n, ¬ Cl nb third m → m ∈ q) ?_ ?_
  · refine s_for ?_
    refine n_cell rfl k3 ?_
    walk_at "ev"
    refine iter_list hfl fun I hI => ?_
    walk_at "ev"
    have fI : Fresh σ I := hE₂.fresh hI
    have hflI : fl ≠ I := hI _ _ hfl
    have k1I := hI _ _ k1
    have k2I := hI _ _ k2
    have k3I := hI _ _ k3
    have k3fl : L' + 1 + 1 + 1 ≠ fl := fun e => by rw [e, hfl] at k3; cases k3
    have k2fl : L' + 1 + 1 ≠ fl := fun e => by rw [e, hfl] at k2; cases k2
    have k1fl : L' + 1 ≠ fl := fun e => by rw [e, hfl] at k1; cases k1
    refine ⟨fun k σ' => ∃ q i, k + i = ns.length ∧ Ext σ σ' ∧ σ'.loc "goal" = some (.int goal) ∧ σ'.hp (L' + 1) = some (.cell (some (.ref nr))) ∧ σ'.hp (L' + 1 + 1) = some (.cell (some (.int third))) ∧ σ'.hp (L' + 1 + 1 + 1) = some (.cell (some (.ref fl))) ∧
      σ'.hp fl = some (.list (avs q)) ∧ σ'.hp I = some (LIter fl i) ∧ i ≤ q.length ∧ q.Nodup ∧ here ∈ q ∧ (∀ n ∈ q, n ∈ ns ∧ Way nb third here n) ∧ ∀ n ∈ q.take i, ∀ m ∈ nb n, ¬ Cl nb third m → m ∈ q, ns.length, ⟨[here], 0, rfl, hE₂.put fI, lg, put_new hI k1, put_new hI k2, put_new hI k3, put_new hI hfl, put_same, Nat.zero_le _, by simp, by simp, ?_, by simp⟩, ?_⟩
    · intro n hn
      rw [List.mem_singleton.mp hn]
      exact ⟨hh, .here⟩
    · rintro k σ₃ ⟨q, i, hk, e3, lg, k1, k2, k3, hfl₃, hI₃, hi, hqn, hhq, hq, hqc⟩
      have hlen : q.length ≤ ns.length := nodup_sub hqn fun n hn => (hq n hn).1
      refine next_list hA'.h hI₃ hfl₃ (fun hlt u hu₁ => ?_) (fun hge => ?_)
      · have hlt' : i < q.length := by simpa using hlt
        have hqi : q[i]? = some q[i] := List.getElem?_eq_getElem hlt'
        have hvm : q[i] ∈ q := List.getElem_mem hlt'
        obtain ⟨t, rfl⟩ := er_int (v := u) (i := q[i]) (by simpa [hlt'] using hu₁)
        generalize q[i] = v at *
        obtain ⟨hvn, hvw⟩ := hq v hvm
        obtain ⟨kvs, epn, hnr, hnl⟩ := hN
        obtain ⟨lv, hgv, hlv⟩ := hnl v hvn
        obtain ⟨lt, hgt, hlt3⟩ := hnl third ht
        walk_at "st"
        walk_at "st"
        walk_at "st"
        refine run_gen (fun τ => Ext σ τ ∧ τ.loc "goal" = some (.int goal) ∧ τ.loc "v" = some (.int v) ∧ τ.hp (L' + 1) = some (.cell (some (.ref nr))) ∧ τ.hp (L' + 1 + 1) = some (.cell (some (.int third))) ∧ τ.hp (L' + 1 + 1 + 1) = some (.cell (some (.ref fl))) ∧ τ.hp fl = some (.list (avs q)) ∧ τ.hp I = some (LIter fl (i + 1)))
          ⟨(e3.put fI).bind, by walk_at "loc", loc_same, bind_hp (put_ne k1I k1), bind_hp (put_ne k2I k2), bind_hp (put_ne k3I k3), bind_hp (put_ne hflI hfl₃), bind_hp put_same⟩ fun τ₀ ⟨e0, lg, lv', k1, k2, k3, hfl0, hI0⟩ => ?_
        refine s_cons (s_aug (load_cell rfl k3 ?_))
        walk_at "ev"
        refine n_listcomp rfl ?_
        walk_at "st"
        refine n_cell rfl k1 ?_
        walk_at "ev"
        walk_at "st"
        refine sub_idict (e0.hp _ _ hnr) hgv ?_
        walk_at "ev"
        refine iter_list (e0.hp _ _ hlv) fun J hJ => ?_
        walk_at "ev"
        refine new_list (Nat.zero_le _) fun acc hacc => ?_
        walk_at "ev"
        have fJ0 : Fresh τ₀ J := hJ
        have facc0 : Fresh τ₀ acc := hacc.put hJ
        have hJacc : J ≠ acc := hacc _ _ put_same
        have hJ0 : Fresh σ J := e0.fresh hJ
        have hacc0 : Fresh σ acc := e0.fresh facc0
        have hnbl : (nb v).length ≤ 7 := Nat.le_trans (nodup_sub (hnd v hvn) (hcl v hvn)) h7
        have hlv0 := e0.hp _ _ hlv
        have hlvJ : lv ≠ J := hJ _ _ hlv0
        have ltJ : lt ≠ J := hJ _ _ (e0.hp _ _ hlt3)
        have hflJ : fl ≠ J := hJ _ _ hfl0
        have hflacc : fl ≠ acc := facc0 _ _ hfl0
        refine comp_goN (self_list (l := lv) (i := 0) (put_new hacc put_same)) fun L₂ σ₈ hf₂ hE₈ => ?_
        refine ⟨fun m τ => m ≤ (nb v).length ∧ Ext τ₀ τ ∧ τ.hp J = some (LIter lv ((nb v).length - m)) ∧ τ.hp acc = some (.list (avs (((nb v).take ((nb v).length - m)).filter fun u => !decide (u = third) && (!decide (u ∈ nb third) && !decide (u ∈ q))))), (nb v).length, ⟨Nat.le_refl _, ?_⟩, ?_⟩
        · rw [Nat.sub_self]
          exact ⟨((Ext.refl.put hJ).put (ao := .list []) facc0).trans hE₈, hE₈.hp _ _ (put_ne hJacc put_same), hE₈.hp _ _ put_same⟩
        · rintro m τ₁ ⟨hm, e1, hJ1, hacc1⟩
          refine turn_list1 ?_
          refine next_list hA'.h hJ1 (e1.hp _ _ hlv0) (fun hlt2 u hu2 => ?_) (fun hge => ?_)
          · have hlt3' : (nb v).length - m < (nb v).length := by simpa using hlt2
            have hue : (nb v)[(nb v).length - m]? = some (nb v)[(nb v).length - m] := List.getElem?_eq_getElem hlt3'
            obtain ⟨t, rfl⟩ := er_int (v := u) (i := (nb v)[(nb v).length - m]) (by simpa [hlt3'] using hu2)
            generalize (nb v)[(nb v).length - m] = u at *
            have htake : (nb v).take ((nb v).length - m + 1) = (nb v).take ((nb v).length - m) ++ [u] := by rw [List.take_add_one, hue]; rfl
            have hmm : (nb v).length - (m - 1) = (nb v).length - m + 1 := by omega
            have k1J : L' + 1 ≠ J := hJ _ _ k1
            have k2J : L' + 1 + 1 ≠ J := hJ _ _ k2
            have k3J : L' + 1 + 1 + 1 ≠ J := hJ _ _ k3
            have e2 : Ext τ₀ ((τ₁.put J (LIter lv ((nb v).length - m + 1))).bind "u" (.int u)) := (e1.put hJ).bind
            walk_at "st"
            walk_at "st"
            walk_at "st"
            refine tests_one ?_
            walk_at "st"
            have no : ((!decide (u = third) && (!decide (u ∈ nb third) && !decide (u ∈ q))) = false) → ∃ m', m' < m ∧ (m' ≤ (nb v).length ∧ Ext τ₀ ((τ₁.put J (LIter lv ((nb v).length - m + 1))).bind "u" (.int u)) ∧ ((τ₁.put J (LIter lv ((nb v).length - m + 1))).bind "u" (.int u)).hp J = some (LIter lv ((nb v).length - m')) ∧ ((τ₁.put J (LIter lv ((nb v).length - m + 1))).bind "u" (.int u)).hp acc = some (.list (avs (((nb v).take ((nb v).length - m')).filter fun u => !decide (u = third) && (!decide (u ∈ nb third) && !decide (u ∈ q)))))) := fun hp => by
              refine ⟨m - 1, by omega, by omega, e2, ?_, ?_⟩
              · rw [hmm]; exact bind_hp put_same
              · rw [hmm, htake, List.filter_append, List.filter_cons_of_neg (by rw [hp]; decide), List.filter_nil, List.append_nil]
                exact bind_hp (put_ne hJacc.symm hacc1)
            refine t_and ?_
            walk_at "st"
            walk_at "st"
            refine n_cell rfl (e2.hp _ _ k2) ?_
            walk_at "ev"
            refine int_ne ⟨fun c1 => ?_, fun c1 => ⟨fun q' => absurd q' (by decide), fun _ => no (by rw [c1]; rfl)⟩⟩
            refine t_and ?_
            walk_at "st"
            walk_at "st"
            walk_at "st"
            refine n_cell rfl (e2.hp _ _ k1) ?_
            walk_at "ev"
            refine n_cell rfl (e2.hp _ _ k2) ?_
            walk_at "ev"
            refine sub_idict (e2.hp _ _ (e0.hp _ _ hnr)) hgt ?_
            walk_at "ev"
            refine notin_ints (by show A'.units + 20 < 9900; rw [hu']; omega) (e2.hp _ _ (e0.hp _ _ hlt3)) ⟨fun c2 => ?_, fun c2 => ⟨fun q' => absurd q' (by decide), fun _ => no (by rw [c2]; simp)⟩⟩
            refine t_and ?_
            walk_at "st"
            walk_at "st"
            refine n_cell rfl (e2.hp _ _ k3) ?_
            walk_at "ev"
            refine notin_ints (by show A'.units + 20 < 9900; rw [hu']; omega) (e2.hp _ _ hfl0) ⟨fun c3 => ?_, fun c3 => ⟨fun q' => absurd q' (by decide), fun _ => no (by rw [c3]; simp)⟩⟩
            refine t_and_nil ⟨fun _ => ?_, fun q' => absurd q' (by decide)⟩
            walk_at "st"
            refine append_list (bind_hp (put_ne hJacc.symm hacc1)) (fits ?_) ?_
            · rw [List.length_map]
              exact Nat.lt_of_le_of_lt (List.length_filter_le _ _) (Nat.lt_of_le_of_lt (List.length_take_le _ _) (by omega))
            · refine ⟨m - 1, by omega, by omega, e2.put facc0, ?_, ?_⟩
              · rw [hmm]; exact put_ne hJacc (bind_hp put_same)
              · rw [hmm, htake, List.filter_append, List.filter_cons_of_pos (by rw [c1, c2, c3]; rfl), List.filter_nil, put_same]; unfold avs; rw [List.map_append]; rfl
          · have hall : (nb v).take ((nb v).length - m) = nb v := List.take_of_length_le (by simpa using hge)
            rw [hall] at hacc1
            show ∀ v, er v = AV.ref acc → _
            walk_at "ev"
            have hrl : ((nb v).filter fun u => !decide (u = third) && (!decide (u ∈ nb third) && !decide (u ∈ q))).length ≤ 7 := Nat.le_trans (List.length_filter_le _ _) hnbl
            have dr : ∀ {b : Addr} {ao : AO}, b ≠ J → τ₁.hp b = some ao → ((τ₁.drop J).at ((τ₀.put J (LIter lv 0)).put acc (.list [])).loc).hp b = some ao := fun hb q' => loc_hp (drop_ne hb q')
            have d0 : ∀ {b : Addr} {ao : AO}, τ₀.hp b = some ao → ((τ₁.drop J).at ((τ₀.put J (LIter lv 0)).put acc (.list [])).loc).hp b = some ao := fun q' => dr (hJ _ _ q') (e1.hp _ _ q')
            have eD : Ext τ₀ ((τ₁.drop J).at ((τ₀.put J (LIter lv 0)).put acc (.list [])).loc) := (e1.drop hJ).loc
            refine iadd_list (d0 hfl0) (dr hJacc.symm hacc1) (by rw [List.length_map, List.length_map]; omega) ?_
            walk_at "ev"
            refine store_cell' (by walk_at "er") rfl (put_ne k3fl (d0 k3)) ?_
            walk_at "st"
            have hmapE : avs q ++ avs ((nb v).filter fun u => !decide (u = third) && (!decide (u ∈ nb third) && !decide (u ∈ q))) = avs (q ++ (nb v).filter fun u => !decide (u = third) && (!decide (u ∈ nb third) && !decide (u ∈ q))) := by unfold avs; rw [List.map_append]
            have hrm : ∀ u, u ∈ (nb v).filter (fun u => !decide (u = third) && (!decide (u ∈ nb third) && !decide (u ∈ q))) ↔ u ∈ nb v ∧ u ≠ third ∧ u ∉ nb third ∧ u ∉ q := fun u => by simp [List.mem_filter]
            have hnd2 : (q ++ (nb v).filter fun u => !decide (u = third) && (!decide (u ∈ nb third) && !decide (u ∈ q))).Nodup := by
              refine List.nodup_append.mpr ⟨hqn, (List.filter_sublist).nodup (hnd v hvn), fun a ha b hb e => ?_⟩
              exact ((hrm b).mp hb).2.2.2 (e ▸ ha)
            rw [hmapE]
            refine ⟨k - 1, by omega, _, i + 1, by omega, ?_, lg, ?_, ?_, put_same, put_ne k3fl.symm put_same, ?_, ?_, hnd2, List.mem_append_left _ hhq, fun n hn => ?_, fun n hn m' hm' hc' => ?_⟩
            · exact ((e0.trans eD).put ffl).put f3
            · exact put_ne (c13 L') (put_ne k1fl (d0 k1))
            · exact put_ne (c23 L') (put_ne k2fl (d0 k2))
            · exact put_ne k3I.symm (put_ne hflI.symm (d0 hI0))
            · rw [List.length_append]; omega
            · rcases List.mem_append.mp hn with w | w
              · exact hq n w
              · obtain ⟨w1, w2, w3, _⟩ := (hrm n).mp w
                exact ⟨hcl v hvn n w1, .step hvw w1 fun c => c.elim w2 w3⟩
            · rw [List.take_append_of_le_length (by omega), List.take_add_one, hqi] at hn
              rcases List.mem_append.mp hn with w | w
              · exact List.mem_append_left _ (hqc n w m' hm' hc')
              · have : n = v := by simpa using w
                subst this
                by_cases hmq : m' ∈ q
                · exact List.mem_append_left _ hmq
                · exact List.mem_append_right _ ((hrm m').mpr ⟨hm', fun w => hc' (.inl w), fun w => hc' (.inr w), hmq⟩)
      · walk_at "st"
        have hall : q.take i = q := List.take_of_length_le (by simpa using hge)
        rw [hall] at hqc
        exact ⟨rfl, q, e3.drop fI, lg, drop_ne k3I k3, drop_ne hflI hfl₃, hhq, hq, hqc⟩
  · rintro σ₃ ⟨q, e3, lg, k3, hfl₃, hhq, hq, hqc⟩
    walk_at "st"
    walk_at "st"
    walk_at "st"
    walk_at "st"
    refine n_cell rfl k3 ?_
    walk_at "ev"
    refine in_ints (by rw [hu']; omega) hfl₃ ?_
    walk_at "ev"
    refine h _ _ e3.loc rfl ?_
    rw [decide_eq_true_iff]
    constructor
    · exact fun q1 => (hq goal q1).2
    · have key : ∀ g, Way nb third here g → g ∈ q := fun g q1 => by
        clear h
        induction q1 with
        | here => exact hhq
        | step _ q2 q3 ih => exact hqc _ ih _ q2 q3
      exact key goal
end
-- AzWc
section
open PySem PySem.W PyProof.Rows PySem.Calls PySem.Spec PySem.SeqAt
def cyc (a b c : Int) (k : Int) : Int := if k = 0 ∨ k = -3 then a else if k = 1 ∨ k = -2 then b else c
section
variable {x : X} {σ : AS} {env : Env}
theorem sub_pos {value slice : PySem.Expr} {l : Addr} {vs : List AV} {k : Int} {t : Tok} {v : AV} {Q : AV → AS → Prop} {ops : List Value} (hl : σ.hp l = some (.list vs)) (h0 : 0 ≤ k) (hf : k < 1000) (hx : vs[k.toNat]? = some v) (h : Q v σ)
    (hs : subscripted slice false (.ref l) (.int k t) = operate ops (getItem (.ref l) (.int k t)) := by rfl) : RunV x (subscriptTail value slice (.ref l) (.int k t)) Q σ := by
  refine sub_list hl (fun s R => ?_) hs
  obtain ⟨xs, n, ho, hxs, hL⟩ := list_at R hl
  have hx' : ∃ u, xs[k.toNat]? = some u ∧ er u = v := by
    rw [← hxs, List.getElem?_map] at hx
    cases e : xs.toList[k.toNat]? with
    | none => rw [e] at hx; cases hx
    | some u => rw [e] at hx; exact ⟨u, by simpa using e, Option.some.inj hx⟩
  obtain ⟨u, hu, rfl⟩ := hx'
  exact wpAny_getItem_list hL h0 (by omega) hu ⟨σ, R, h⟩
theorem sub_neg {value slice : PySem.Expr} {l : Addr} {vs : List AV} {k : Int} {t : Tok} {v : AV} {Q : AV → AS → Prop} {ops : List Value} (hl : σ.hp l = some (.list vs)) (h0 : k < 0) (h1 : -(vs.length : Int) ≤ k) (hf : -1000 < k) (hx : vs[(k + vs.length).toNat]? = some v) (h : Q v σ)
    (hs : subscripted slice false (.ref l) (.int k t) = operate ops (getItem (.ref l) (.int k t)) := by rfl) : RunV x (subscriptTail value slice (.ref l) (.int k t)) Q σ := by
  refine sub_list hl (fun s R => ?_) hs
  obtain ⟨xs, n, ho, hxs, hL⟩ := list_at R hl
  have hlen : xs.size = vs.length := by rw [← hxs]; simp
  have hx' : ∃ u, xs[(k + xs.size).toNat]? = some u ∧ er u = v := by
    rw [hlen]
    rw [← hxs, List.getElem?_map] at hx
    rw [hxs] at hx
    cases e : xs.toList[(k + (vs.length : Int)).toNat]? with
    | none => rw [e] at hx; cases hx
    | some u => rw [e] at hx; exact ⟨u, by simpa using e, Option.some.inj hx⟩
  obtain ⟨u, hu, rfl⟩ := hx'
  exact wpAny_getItem_list_neg hL h0 (by rw [hlen]; exact h1) (by omega) hu ⟨σ, R, h⟩
theorem sub_three {value slice : PySem.Expr} {l : Addr} {a b c k : Int} {t : Tok} {Q : AV → AS → Prop} {ops : List Value} (hl : σ.hp l = some (.list [.int a, .int b, .int c])) (hk : -3 ≤ k ∧ k < 3) (h : Q (.int (cyc a b c k)) σ)
    (hs : subscripted slice false (.ref l) (.int k t) = operate ops (getItem (.ref l) (.int k t)) := by rfl) : RunV x (subscriptTail value slice (.ref l) (.int k t)) Q σ := by
  have : k = -3 ∨ k = -2 ∨ k = -1 ∨ k = 0 ∨ k = 1 ∨ k = 2 := by omega
  rcases this with rfl | rfl | rfl | rfl | rfl | rfl
  · exact sub_neg hl (by decide) (by show -((3 : Nat) : Int) ≤ _; decide) (by decide) rfl h hs
  · exact sub_neg hl (by decide) (by show -((3 : Nat) : Int) ≤ _; decide) (by decide) rfl h hs
  · exact sub_neg hl (by decide) (by show -((3 : Nat) : Int) ≤ _; decide) (by decide) rfl h hs
  · exact sub_pos hl (by decide) (by decide) rfl h hs
  · exact sub_pos hl (by decide) (by decide) rfl h hs
  · exact sub_pos hl (by decide) (by decide) rfl h hs
/-- a, b, c = (.., .., ..) where the stores are exchanged -/
theorem s_assign_tup3 {n1 n2 n3 : Str} {p1 p2 p3 pt pv pos : Pos} {k1 k2 : Nat} {elts : List PySem.Expr} {Q : Flow → AS → Prop} (hh : x.A.handled = none)
    (h : RunV x (eval (.Tuple elts k2 pv) env) (fun a σ' => ∃ t a1 a2 a3, a = .ref t ∧ σ'.hp t = some (.tup [a1, a2, a3]) ∧ ∀ v1 v2 v3, er v1 = a1 → er v2 = a2 → er v3 = a3 →
      Run x (storeName env n3 v3) (fun _ σ₁ => Run x (storeName env n2 v2) (fun _ σ₂ => Run x (storeName env n1 v1) (fun _ σ₃ => Q .next σ₃) σ₂) σ₁) σ') σ)
    (hsw : swapsWith (.Tuple elts k2 pv) (some (.Tuple [.Name n1 p1, .Name n2 p2, .Name n3 p3] k1 pt)) pos.line env = pure false := by rfl)
    (hst : swappedStores [.Tuple [.Name n1 p1, .Name n2 p2, .Name n3 p3] k1 pt] (.Tuple elts k2 pv) env = pure (some [n1, n2, n3]) := by with_unfolding_all rfl) :
    Run x (exec (.Assign [.Tuple [.Name n1 p1, .Name n2 p2, .Name n3 p3] k1 pt] (.Tuple elts k2 pv) pos) env) Q σ := by
  have e1 : exec (.Assign [.Tuple [.Name n1 p1, .Name n2 p2, .Name n3 p3] k1 pt] (.Tuple elts k2 pv) pos) env = (do
    standAt pos
    if ← swapsWith (.Tuple elts k2 pv) (some (.Tuple [.Name n1 p1, .Name n2 p2, .Name n3 p3] k1 pt)) pos.line env then do
      evalThenUse (.Tuple elts k2 pv) env fun v => assignAll v ((assignEach [.Tuple [.Name n1 p1, .Name n2 p2, .Name n3 p3] k1 pt] env).map (·.2))
      pure .next
    else do
      let v ← eval (.Tuple elts k2 pv) env
      assignStores env v (← swappedStores [.Tuple [.Name n1 p1, .Name n2 p2, .Name n3 p3] k1 pt] (.Tuple elts k2 pv) env) ((assignEach [.Tuple [.Name n1 p1, .Name n2 p2, .Name n3 p3] k1 pt] env).map (·.2))) := rfl
  rw [e1, hsw]
  refine run_bind (run_standAt (run_bind (run_pure ?_)))
  simp only [Bool.false_eq_true, if_false]
  refine runV_bind (runV_mono h fun a σ₁ h₁ v hv => ?_)
  obtain ⟨t, a1, a2, a3, rfl, ht, hq⟩ := h₁
  cases er_ref hv
  rw [hst]
  refine run_bind (run_pure ?_)
  unfold assignStores
  refine run_bind (run_rule ?_)
  intro s R
  obtain ⟨xs, n, ho, hx, hT⟩ := tup_at R ht
  have hsz : xs.size = 3 := by have := congrArg List.length hx; simpa using this
  obtain ⟨v₁, v₂, v₃, e⟩ : ∃ v₁ v₂ v₃, xs.toList = [v₁, v₂, v₃] := by
    match h : xs.toList, (show xs.toList.length = 3 by simpa using hsz) with
    | [v₁, v₂, v₃], _ => exact ⟨v₁, v₂, v₃, rfl⟩
  rw [e] at hx
  simp only [List.map_cons, List.map_nil, List.cons.injEq, and_true] at hx
  obtain ⟨x1, x2, x3⟩ := hx
  refine wpAny_bind ?_
  have := unpackItems_tuple (prog := Pg) (w := x.C.w) (A := x.A) (E := fun _ _ => False) (Q := fun items s' => wpAny (model Pg x.C.w) x.A (assignInOrder (([n1, n2, n3].reverse).map fun n => bindName env n) items.reverse >>= fun _ => pure Flow.next) (fun v s' => ∃ σ', Rel x.C x.fs x.L σ' s' ∧ Q v σ') (fun _ _ => False) s') hh hT fun h' hs => ?_
  · rw [hsz] at this
    exact this
  rw [e]
  have R' := R.grownBut hs s.toks
  refine run_to (Q := Q) ?_ R' fun _ σ' s' R'' q => ⟨σ', R'', q⟩
  show Run x ((holding [v₂, v₁] (bindName env n3 v₃) >>= fun _ => (holding [v₁] (bindName env n2 v₂) >>= fun _ => (holding [] (bindName env n1 v₁) >>= fun _ => pure ()))) >>= fun _ => pure Flow.next) Q σ₁
  refine run_bind (run_bind (run_hold (run_bindName (run_mono (hq v₁ v₂ v₃ x1 x2 x3) fun _ σ₂ h₂ => ?_))))
  refine run_bind (run_hold (run_bindName (run_mono h₂ fun _ σ₃ h₃ => ?_)))
  refine run_bind (run_hold (run_bindName (run_mono h₃ fun _ σ₄ h₄ => ?_)))
  exact run_pure (run_pure h₄)
end

def ApOk (nb : Int → List Int) (a b c : Int) (i : Nat) : Prop := cyc a b c i ≠ cyc a b c (i - 1) ∧ cyc a b c (i - 1) ∉ nb (cyc a b c i) ∧ Way nb (cyc a b c (i - 2)) (cyc a b c i) (cyc a b c (i - 1))
theorem cyc_mem {a b c k : Int} {ns : List Int} (ha : a ∈ ns) (hb : b ∈ ns) (hc : c ∈ ns) : cyc a b c k ∈ ns := by
  unfold cyc
  split
  · exact ha
  · split
    · exact hb
    · exact hc
set_option maxHeartbeats 4000000 in
theorem apart_spec {C : Cx} {fs : List (Addr × Loc)} {L : Addr} {A : Around} {σ : AS} {nr th : Addr} {ns : List Int} {nb : Int → List Int} {a b c : Int} {Q : AV → AS → Prop} (hA : Deep A 4) (hu : A.units + 60 < 9900)
    (hN : NearAt σ nr ns nb) (hth : σ.hp th = some (.list [.int a, .int b, .int c])) (ha : a ∈ ns) (hb : b ∈ ns) (hc : c ∈ ns) (hcl : ∀ n ∈ ns, ∀ m ∈ nb n, m ∈ ns) (hnd : ∀ n ∈ ns, (nb n).Nodup) (h7 : ns.length ≤ 7)
    (h : ∀ σ' (r : Bool), Ext σ σ' → σ'.loc = σ.loc → (r = true ↔ ∀ i : Nat, i < 3 → ApOk nb a b c i) → Q (.bool r) σ') : RunV ⟨C, fs, L, A⟩ (call (.ref 603) [.ref nr, .ref th]) Q σ := by
  refine run_callplU ["near", "three"] [("near", .ref nr), ("three", .ref th)] hA (by k_is) (by k_is) rfl (by decide)
    (fun L' σ₁ => σ₁.loc "near" = some (.ref nr) ∧ σ₁.loc "three" = some (.ref th)) (fun _ _ => ⟨rfl, rfl⟩) fun L' A' σ₁ hf hA' hu' hE ⟨ln, lt⟩ => ?_
  refine s_thenR (fun σ' => Ext σ σ' ∧ ∀ i : Nat, i < 3 → ApOk nb a b c i) ?_ ?_
  · refine s_for ?_
    refine n_call1 ?_
    walk_at "st"
    refine ⟨by walk_at "keep", a_cons ?_⟩
    walk_at "st"
    refine a_nil ?_
    refine call_range fun r u v hr => ?_
    walk_at "ev"
    refine iter_range (n := 3) put_same (by decide) fun I hI => ?_
    walk_at "ev"
    have fr : Fresh σ r := hE.fresh hr
    have fI : Fresh σ I := (hE.put fr).fresh hI
    refine ⟨fun k τ => ∃ i : Nat, k + i = 3 ∧ Ext σ τ ∧ τ.loc "near" = some (.ref nr) ∧ τ.loc "three" = some (.ref th) ∧ τ.hp I = some (RIter i 3) ∧ ∀ j : Nat, j < i → ApOk nb a b c j, 3, ⟨0, rfl, (hE.put fr).put fI, ln, lt, put_same, fun j hj => absurd hj (Nat.not_lt_zero _)⟩, ?_⟩
    rintro k τ ⟨i, hk, e1, ln, lt, hI1, hok⟩
    refine next_range hA'.h hI1 (by omega) (fun hlt t => ?_) (fun he => ?_)
    · walk_at "st"
      walk_at "st"
      walk_at "st"
      refine run_gen (fun τ' => Ext σ τ' ∧ τ'.loc "near" = some (.ref nr) ∧ τ'.loc "three" = some (.ref th) ∧ τ'.loc "k" = some (.int i) ∧ τ'.hp I = some (RIter (i + 1) 3)) ⟨(e1.put fI).bind, by walk_at "loc", by walk_at "loc", loc_same, bind_hp put_same⟩ fun τ₀ ⟨e0, ln, lt, lk, hI0⟩ => ?_
      refine s_then (fun σ' => Ext σ σ' ∧ σ'.loc "near" = some (.ref nr) ∧ σ'.loc "three" = some (.ref th) ∧ σ'.loc "one" = some (.int (cyc a b c i)) ∧ σ'.loc "other" = some (.int (cyc a b c (i - 1))) ∧ σ'.loc "third" = some (.int (cyc a b c (i - 2))) ∧ σ'.hp I = some (RIter (i + 1) 3)) ?_ ?_
      · refine s_assign_tup3 hA'.h ?_
        refine n_tuple (a_cons ?_)
        walk_at "st"
        walk_at "st"
        walk_at "st"
        refine sub_three (e0.hp _ _ hth) (by omega) ?_
        walk_at "ev"
        refine a_cons ?_
        walk_at "st"
        walk_at "st"
        walk_at "st"
        walk_at "st"
        walk_at "st"
        refine sub_int ?_
        walk_at "ev"
        refine sub_three (e0.hp _ _ hth) (by omega) ?_
        walk_at "ev"
        refine a_cons ?_
        walk_at "st"
        walk_at "st"
        walk_at "st"
        walk_at "st"
        walk_at "st"
        refine sub_int ?_
        walk_at "ev"
        refine sub_three (e0.hp _ _ hth) (by omega) ?_
        walk_at "ev"
        refine a_nil ?_
        refine new_tuple (fits (by simp)) fun tp htp => ?_
        refine ⟨tp, .int (cyc a b c i), .int (cyc a b c (i - 1)), .int (cyc a b c (i - 2)), rfl, put_same.trans rfl, fun v1 v2 v3 h1 h2 h3 => ?_⟩
        walk_at "st"
        walk_at "st"
        walk_at "st"
        exact ⟨rfl, (((e0.put (e0.fresh htp)).bind).bind).bind, by walk_at "loc", by walk_at "loc", by walk_at "loc", by walk_at "loc", by walk_at "loc", bind_hp (bind_hp (bind_hp (put_new htp hI0)))⟩
      rintro τ₁ ⟨e1', ln, lt, l1, l2, l3, hI1'⟩
      have m1 : cyc a b c i ∈ ns := cyc_mem ha hb hc
      have m2 : cyc a b c (i - 1) ∈ ns := cyc_mem ha hb hc
      have m3 : cyc a b c (i - 2) ∈ ns := cyc_mem ha hb hc
      have bad : ¬ ApOk nb a b c i → ∀ τ', Ext σ τ' → Q (er (retOf (.ret (.bool false)))) (τ'.at σ.loc) := fun hn τ' e' => h _ false e'.loc rfl ⟨fun q => (nomatch q), fun q => absurd (q i hlt) hn⟩
      have hN1 := hN.ext e1'.hp
      obtain ⟨kvs, epn, hnr, hnl⟩ := hN
      obtain ⟨lo, hgo, hlo⟩ := hnl _ m1
      have hok1 : ApOk nb a b c i = (cyc a b c i ≠ cyc a b c (i - 1) ∧ cyc a b c (i - 1) ∉ nb (cyc a b c i) ∧ Way nb (cyc a b c (i - 2)) (cyc a b c i) (cyc a b c (i - 1))) := rfl
      generalize cyc a b c i = one at *
      generalize cyc a b c (i - 1) = other at *
      generalize cyc a b c (i - 2) = third at *
      have ret0 : ∀ τ', Ext σ τ' → ¬ ApOk nb a b c i → Run ⟨C, (L, σ.loc) :: fs, L', A'⟩ (pure (Flow.ret (.bool false))) (fun f σ' => (f = .next ∧ Ext σ σ' ∧ ∀ i : Nat, i < 3 → ApOk nb a b c i) ∨ ∃ v, f = .ret v ∧ Q (er (retOf (.ret v))) (σ'.at σ.loc)) τ' := fun τ' e' hn => run_pure (.inr ⟨_, rfl, bad hn τ' e'⟩)
      walk_at "st"
      walk_at "st"
      walk_at "st"
      refine t_or ?_
      walk_at "st"
      walk_at "st"
      walk_at "st"
      refine int_eq ⟨fun c1 => ⟨fun _ => ?_, fun q => absurd q (by decide)⟩, fun c1 => ?_⟩
      · walk_at "st"
        walk_at "st"
        walk_at "st"
        exact .inr ⟨_, rfl, bad (by rw [hok1]; exact fun q => q.1 (of_decide_eq_true c1)) _ e1'⟩
      refine t_or ?_
      walk_at "st"
      walk_at "st"
      walk_at "st"
      walk_at "st"
      walk_at "st"
      refine sub_idict (e1'.hp _ _ hnr) hgo ?_
      walk_at "ev"
      refine in_ints (by show A'.units + 20 < 9900; rw [hu']; omega) (e1'.hp _ _ hlo) ⟨fun c2 => ⟨fun _ => ?_, fun q => absurd q (by decide)⟩, fun c2 => ?_⟩
      · walk_at "st"
        walk_at "st"
        walk_at "st"
        exact .inr ⟨_, rfl, bad (by rw [hok1]; exact fun q => q.2.1 (of_decide_eq_true c2)) _ e1'⟩
      refine t_or ?_
      walk_at "st"
      walk_at "st"
      refine n_call1 ?_
      walk_at "st"
      refine ⟨by walk_at "keep", a_cons ?_⟩
      walk_at "st"
      refine a_cons ?_
      walk_at "st"
      refine a_cons ?_
      walk_at "st"
      refine a_cons ?_
      walk_at "st"
      refine a_nil ?_
      refine way_spec (hA'.less (by omega)) (by rw [hu']; omega) hN1 m1 m3 hcl hnd h7 fun τ₂ r e2 loc2 hrw => ?_
      walk_at "ev"
      refine run_truthy_bool ?_
      have e12 : Ext σ τ₂ := e1'.trans e2
      refine ⟨fun c3 => ⟨fun _ => ?_, fun q => absurd q (by decide)⟩, fun c3 => ?_⟩
      · walk_at "st"
        walk_at "st"
        walk_at "st"
        refine .inr ⟨_, rfl, bad (by rw [hok1]; exact fun q => by rw [hrw.mpr q.2.2] at c3; cases c3) _ e12⟩
      refine t_or_nil ⟨fun q => absurd q (by decide), fun _ => ?_⟩
      walk_at "st"
      walk_at "st"
      refine ⟨k - 1, by omega, i + 1, by omega, e12, by rw [loc2]; exact ln, by rw [loc2]; exact lt, e2.hp _ _ hI1', fun j hj => ?_⟩
      rcases Nat.lt_or_ge j i with w | w
      · exact hok j w
      · have : j = i := by omega
        subst this
        rw [hok1]
        refine ⟨of_decide_eq_false c1, of_decide_eq_false c2, hrw.mp ?_⟩
        cases r with
        | true => rfl
        | false => cases c3
    · walk_at "st"
      exact .inl ⟨rfl, e1.drop fI, fun j hj => hok j (he ▸ hj)⟩
  · rintro σ₂ ⟨e2, hall⟩
    walk_at "st"
    walk_at "st"
    walk_at "st"
    exact h _ true e2.loc rfl ⟨fun _ => hall, fun _ => rfl⟩
end
-- AzLa
section
open PySem PySem.W PyProof.Rows PySem.Calls PySem.Spec PySem.SeqAt
section
variable {x : X} {σ : AS} {env : Env}
/-- l[:k] -/
theorem n_slice_to {value hi : PySem.Expr} {p pos : Pos} {Q : AV → AS → Prop}
    (h : RunV x (eval value env) (fun a σ₁ => ∃ l, a = .ref l ∧ RunV x (eval hi env) (fun b σ₂ => ∃ (k : Nat) (vs : List AV), b = .int k ∧ σ₂.hp l = some (.list vs) ∧ vs.length < 900 ∧ ∀ l', Fresh σ₂ l' → Q (.ref l') (σ₂.put l' (.list (vs.take k)))) σ₁) σ)
    (ht : ∀ o r, letTemporaryGo value o r = pure () := by intro _ _; rfl) : RunV x (eval (.Subscript value (.Slice none (some hi) none p) pos) env) Q σ := by
  intro s R
  refine wpAny_Subscript_list_slice ?_ ht
  refine run_to h R fun v σ₁ s₁ R₁ ⟨l, ev, h₁⟩ => ?_
  cases er_ref ev
  rw [evalPart_none]
  refine wpAny_pure ?_
  rw [evalPart_some]
  refine run_to h₁ R₁ fun b σ₂ s₂ R₂ ⟨k, vs, eb, hl, hz, h₂⟩ => ?_
  obtain ⟨t, rfl⟩ := er_int eb
  obtain ⟨xs, n, ho, hx, hL⟩ := list_at R₂ hl
  refine ⟨l, xs, none, some (k : Int), rfl, hL, fits (by have : xs.size = vs.length := by { rw [← hx]; simp }; omega), .none, .int _ _, ?_⟩
  have R₃ := R₂.grown (h' := s₂.heap.push { cls := .type "slice", data := .fields #[.none, .int k t, .none] }) (fun b o e => Heap.get?_push_of_some _ e) s₂.toks
  rw [slicePick_upto']
  have R₄ := R₃.push (ao := .list (vs.take k)) (o := { cls := .type "list", data := .seq (xs.toList.take k).toArray }) ⟨_, 0, rfl, by rw [← hx]; simp⟩ s₂.toks
  have e0 : (s₂.heap.push { cls := .type "slice", data := .fields #[.none, .int k t, .none] }).objs.size = s₂.heap.objs.size + 1 := Heap.size_push ..
  simp only [e0] at R₄
  exact ⟨_, R₄, h₂ _ (R₂.fresh (Nat.le_succ _))⟩
theorem pow_two {k : Nat} {t u : Tok} {Q : AV → AS → Prop} (hk : k ≤ 60) (h : Q (.int (2 ^ k)) σ) : RunV x (binaryOp .Pow (.int 2 t) (.int k u)) Q σ := by
  intro s R
  by_cases h0 : k = 0
  · subst h0
    exact AutoIntOps.pow_0 (by decide) (by decide) ⟨σ, R.toks _, h⟩
  · refine AutoIntOps.pow_4 (by omega) (by simpa using h0) (by decide) (by decide) ?_ ⟨σ, R.toks _, ?_⟩
    · unfold Builtin.Int.intTooBig
      have : Builtin.Int.intBits 2 = 2 := by decide
      rw [this]
      have hb : (120 : Int) ≤ (bitsLine : Int) := by decide
      simp
      omega
    · rw [Int.toNat_natCast]; exact h
theorem no_pylong {a : Int} {k : Nat} (hk : k ≤ 60) : Builtin.divisionGoesByPylong a (2 ^ k) = false := by
  unfold Builtin.divisionGoesByPylong
  have h1 : ((2 : Int) ^ k).natAbs = 2 ^ k := by rw [Int.natAbs_pow]; rfl
  have h2 : (2 ^ k : Nat).log2 = k := Nat.log2_two_pow
  have h3 : ((2 : Int) ^ k == 0) = false := by
    have : (2 : Int) ^ k ≠ 0 := by
      have := Int.pow_pos (n := 2) (m := k) (by decide)
      omega
    simpa using this
  simp only [h1, h2, h3]
  have : ¬ (k / 30 + 1 > 300) := by omega
  simp [this]
theorem n_dictcomp {ke ve : PySem.Expr} {scope : Scope} {pos : Pos} {g : Comprehension} {gs : List Comprehension} {cl : List (Str × Addr)} {Q : AV → AS → Prop}
    (hclos : closureFor scope env = pure cl)
    (h : RunV x (eval g.iter env) (fun a σ₁ => ∀ v, er v = a → RunV x (pyIter v) (fun b σ₂ => ∀ it, er it = b → RunV x newDict (fun c σ₃ => ∀ acc, er acc = c → CompRun x (.DictComp ke ve (g :: gs) scope pos) scope cl env it acc (fun σ₄ => Q c σ₄) σ₃) σ₂) σ₁) σ)
    (hasync : firstAsync (g :: gs) = false := by rfl) (hiter : firstIter (g :: gs) env = eval g.iter env := by rfl)
    (hs : ∀ y, foldedSetIterable g.iter env y = pure y := by intro _; rfl) (hkind : scope.kind = .function := by rfl) (hnames : ∀ y ∈ scope.names, y.2 = .local → scope.names.lookup y.1 = some .local := by decide)
    (hnd : ∀ n, ((cellsFrom n scope.names []).map (·.1)).Nodup := by intro n; simp [cellsFrom]) :
    RunV x (eval (.DictComp ke ve (g :: gs) scope pos) env) Q σ := by
  show RunV x (comprehension (.DictComp ke ve (g :: gs) scope pos) scope env (firstIterPos (g :: gs) pos) newDict (firstAsync (g :: gs)) (firstIter (g :: gs) env) none) Q σ
  rw [hasync, hiter]
  exact run_comp hclos h rfl hs hkind hnames hnd
theorem none_is_no {v : Value} {Q : Bool → AS → Prop} {a : Addr} (e : v = .ref a) (h : Q false σ) : Cmp x .Is v .none Q σ := by
  subst e; exact is_none_no rfl Value.noConfusion h
theorem bool_ne {a b : Bool} {Q : Bool → AS → Prop} (h : Q (a != b) σ) : Cmp x .NotEq (.bool a) (.bool b) Q σ := fun s R => PyProof.Rows.ne_bool ⟨σ, R, _, rfl, h⟩
end
theorem cell_none {cm : Str → Option Value} {hp : Addr → Option AO} {c : Addr} {n : Str} : ∀ {cs : List (Str × Addr)}, (∀ p ∈ cs, cm p.1 = none) → (n, c) ∈ cs → layHp cs cm hp c = some (.cell none)
  | [], _, h => by cases h
  | (m, d) :: r, hc, h => by
    unfold layHp setHp
    by_cases hcd : c = d
    · rw [if_pos hcd, hc (m, d) (.head _)]; rfl
    · rw [if_neg hcd]
      rcases List.mem_cons.mp h with e | h
      · cases e; exact absurd rfl hcd
      · exact cell_none (fun p hp => hc p (.tail _ hp)) h
/-- is_at_free -/
theorem free_spec {C : Cx} {fs : List (Addr × Loc)} {L : Addr} {A : Around} {σ : AS} {g d gd nd ad vw₀ dvw₀ : Addr} {ia : Int → Addr} {ns : List Int} {nb : Int → List Int} {b₀ : Bool} {Q : AV → AS → Prop} (hA : Deep A 11)
    (G : GraphAt σ g d gd nd ad ia ns nb (exOf vw₀ ad b₀) true) (N : NV σ vw₀ dvw₀ nd) (hwf : WF ns nb) (h7 : ns.length ≤ 7) (h6 : 6 ≤ ns.length) (hr : ∀ i ∈ ns, 0 ≤ i ∧ i < 7) (hself : ∀ n ∈ ns, n ∉ nb n) (hsym : ∀ a b, b ∈ nb a → a ∈ nb b) (hin : ∀ a b, b ∈ nb a → a ∈ ns)
    (h : ∀ σ' (r : Bool), (∀ b ao, b ≠ d → σ.hp b = some ao → σ'.hp b = some ao) → σ'.loc = σ.loc → (r = true ↔ ∀ u v w, ¬ AT nb ns u v w) → Q (.bool r) σ') :
    RunV ⟨C, fs, L, A⟩ (call (.ref 57) [.ref g]) Q σ := by
  refine run_callpl ["G"] [("G", .ref g)] hA (by k_is) (by k_is) rfl (by decide) (fun _ σ₁ => σ₁.loc "G" = some (.ref g)) (fun _ _ => rfl) fun L' A' σ₁ hf hA' hE l1 => ?_
  walk_at "st"
  walk_at "st"
  walk_at "st"
  refine n_call1 ?_
  walk_at "st"
  refine ⟨by walk_at "keep", a_cons ?_⟩
  walk_at "st"
  refine a_nil ?_
  refine fat_again hA' (G.keep (.ext hE)) (N.ext hE) hwf h7 h6 hr hself hsym hin fun σ₂ a vw dvw b' k2 loc2 _ _ hres => ?_
  rcases hres with ⟨rfl, hno⟩ | ⟨l, u, v, w, rfl, _, hat⟩
  · walk_at "ev"
    walk_at "st"
    refine is_none_yes ?_
    walk_at "ev"
    exact h _ true (fun b ao hb q => loc_hp (k2 b ao hb (hE.hp _ _ q))) rfl ⟨fun _ => hno, fun _ => rfl⟩
  · walk_at "ev"
    walk_at "st"
    refine is_none_no rfl Value.noConfusion ?_
    walk_at "ev"
    exact h _ false (fun b ao hb q => loc_hp (k2 b ao hb (hE.hp _ _ q))) rfl ⟨fun q => (nomatch q), fun q => absurd hat (q u v w)⟩
end
-- AzLb
section
open PySem PySem.W PyProof.Rows PySem.Calls PySem.Spec PySem.SeqAt
section
variable {x : X} {σ : AS} {env : Env}
theorem star_tuple {elts : List PySem.Expr} {k} {p : Pos} {rest : List PySem.Expr} : starEach (.Tuple elts k p :: rest) env = (false, eval (.Tuple elts k p) env) :: starEach rest env := by rfl
theorem star_list {elts : List PySem.Expr} {p : Pos} {rest : List PySem.Expr} : starEach (.List elts p :: rest) env = (false, eval (.List elts p) env) :: starEach rest env := by rfl
theorem a_consT {pos : Pos} {elts : List PySem.Expr} {k} {p : Pos} {rest : List PySem.Expr} {Q : List Value → AS → Prop}
    (h : RunV x (eval (.Tuple elts k p) env) (fun a σ₁ => ∀ v, er v = a → Run x (spliced (backTo pos (starEach rest env))) (fun vs σ₂ => Q (v :: vs) σ₂) σ₁) σ) : Run x (spliced (backTo pos (starEach (.Tuple elts k p :: rest) env))) Q σ := a_cons h star_tuple
set_option maxHeartbeats 1000000 in
theorem arms_list {e : PySem.Expr} {M : Int} {m0 m1 m2 m3 m4 n0 n1 n2 n3 n4  : Nat} {p0 p1 p2 p3 p4 q0 q1 q2 q3 q4 r0 r1 r2 r3 r4 p5 r5 pos : Pos} {k0 k1 k2 k3 k4 k5} {m5 : Nat} {Q : AV → AS → Prop}
    (he : ∀ τ, Ext σ τ → τ.loc = σ.loc → ∀ Q : AV → AS → Prop, Q (.int M) τ → RunV x (eval e env) Q τ)
    (h : ∀ τ al t1 t2 t3 t4 t5 t6, Ext σ τ → τ.loc = σ.loc → PairsAt τ al [(t1, 0, 1), (t2, 0, 2), (t3, 0, 3), (t4, 1, 4), (t5, 2, 5), (t6, 3, M)] → Q (.ref al) τ)
    (hs : starEach [e] env = (false, eval e env) :: starEach [] env := by rfl) :
    RunV x (eval (.List [.Tuple [.Constant (.int 0) m0 p0, .Constant (.int 1) n0 q0] k0 r0, .Tuple [.Constant (.int 0) m1 p1, .Constant (.int 2) n1 q1] k1 r1, .Tuple [.Constant (.int 0) m2 p2, .Constant (.int 3) n2 q2] k2 r2, .Tuple [.Constant (.int 1) m3 p3, .Constant (.int 4) n3 q3] k3 r3, .Tuple [.Constant (.int 2) m4 p4, .Constant (.int 5) n4 q4] k4 r4, .Tuple [.Constant (.int 3) m5 p5, e] k5 r5] pos) env) Q σ := by
  refine n_list ?_
  refine a_consT ?_
  refine n_tuple ?_
  refine a_cons ?_
  walk_at "st"
  refine a_cons ?_
  walk_at "st"
  refine a_nil ?_
  refine new_tuple (fits (by simp)) fun t1 ht1 => ?_
  walk_at "ev"
  refine run_gen (fun τ => Ext σ τ ∧ τ.loc = σ.loc ∧ τ.hp t1 = some (.tup [.int 0, .int 1])) ⟨Ext.refl.put ht1, rfl, put_same⟩ fun τ1 ⟨e1, l1, g1⟩ => ?_
  refine a_consT ?_
  refine n_tuple ?_
  refine a_cons ?_
  walk_at "st"
  refine a_cons ?_
  walk_at "st"
  refine a_nil ?_
  refine new_tuple (fits (by simp)) fun t2 ht2 => ?_
  walk_at "ev"
  refine run_gen (fun τ => Ext σ τ ∧ τ.loc = σ.loc ∧ τ.hp t1 = some (.tup [.int 0, .int 1]) ∧ τ.hp t2 = some (.tup [.int 0, .int 2])) ⟨e1.put (e1.fresh ht2), l1, put_ne (ht2 _ _ g1) g1, put_same⟩ fun τ2 ⟨e2, l2, g1, g2⟩ => ?_
  refine a_consT ?_
  refine n_tuple ?_
  refine a_cons ?_
  walk_at "st"
  refine a_cons ?_
  walk_at "st"
  refine a_nil ?_
  refine new_tuple (fits (by simp)) fun t3 ht3 => ?_
  walk_at "ev"
  refine run_gen (fun τ => Ext σ τ ∧ τ.loc = σ.loc ∧ τ.hp t1 = some (.tup [.int 0, .int 1]) ∧ τ.hp t2 = some (.tup [.int 0, .int 2]) ∧ τ.hp t3 = some (.tup [.int 0, .int 3])) ⟨e2.put (e2.fresh ht3), l2, put_ne (ht3 _ _ g1) g1, put_ne (ht3 _ _ g2) g2, put_same⟩ fun τ3 ⟨e3, l3, g1, g2, g3⟩ => ?_
  refine a_consT ?_
  refine n_tuple ?_
  refine a_cons ?_
  walk_at "st"
  refine a_cons ?_
  walk_at "st"
  refine a_nil ?_
  refine new_tuple (fits (by simp)) fun t4 ht4 => ?_
  walk_at "ev"
  refine run_gen (fun τ => Ext σ τ ∧ τ.loc = σ.loc ∧ τ.hp t1 = some (.tup [.int 0, .int 1]) ∧ τ.hp t2 = some (.tup [.int 0, .int 2]) ∧ τ.hp t3 = some (.tup [.int 0, .int 3]) ∧ τ.hp t4 = some (.tup [.int 1, .int 4])) ⟨e3.put (e3.fresh ht4), l3, put_ne (ht4 _ _ g1) g1, put_ne (ht4 _ _ g2) g2, put_ne (ht4 _ _ g3) g3, put_same⟩ fun τ4 ⟨e4, l4, g1, g2, g3, g4⟩ => ?_
  refine a_consT ?_
  refine n_tuple ?_
  refine a_cons ?_
  walk_at "st"
  refine a_cons ?_
  walk_at "st"
  refine a_nil ?_
  refine new_tuple (fits (by simp)) fun t5 ht5 => ?_
  walk_at "ev"
  refine run_gen (fun τ => Ext σ τ ∧ τ.loc = σ.loc ∧ τ.hp t1 = some (.tup [.int 0, .int 1]) ∧ τ.hp t2 = some (.tup [.int 0, .int 2]) ∧ τ.hp t3 = some (.tup [.int 0, .int 3]) ∧ τ.hp t4 = some (.tup [.int 1, .int 4]) ∧ τ.hp t5 = some (.tup [.int 2, .int 5])) ⟨e4.put (e4.fresh ht5), l4, put_ne (ht5 _ _ g1) g1, put_ne (ht5 _ _ g2) g2, put_ne (ht5 _ _ g3) g3, put_ne (ht5 _ _ g4) g4, put_same⟩ fun τ5 ⟨e5, l5, g1, g2, g3, g4, g5⟩ => ?_
  refine a_consT ?_
  refine n_tuple ?_
  refine a_cons ?_
  walk_at "st"
  refine a_cons (he _ e5 l5 _ ?_) hs
  walk_at "ev"
  refine a_nil ?_
  refine new_tuple (fits (by simp)) fun t6 ht6 => ?_
  walk_at "ev"
  refine a_nil ?_
  refine new_list (fits (by simp)) fun al hal => ?_
  have f6 : Fresh σ t6 := e5.fresh ht6
  have fal5 : Fresh τ5 al := fun b ao q => hal b ao (put_ne (ht6 _ _ q) q)
  have a6 : t6 ≠ al := hal _ _ put_same
  refine h _ al t1 t2 t3 t4 t5 t6 ((e5.put f6).put (e5.fresh fal5)) l5 ⟨put_same, fun p hp => ?_⟩
  have old : ∀ {b : Addr} {ao : AO}, τ5.hp b = some ao → ((τ5.put t6 (.tup [.int 3, .int M])).put al (.list [.ref t1, .ref t2, .ref t3, .ref t4, .ref t5, .ref t6])).hp b = some ao := fun q => put_ne (fal5 _ _ q) (put_ne (ht6 _ _ q) q)
  simp only [List.mem_cons, List.not_mem_nil, or_false] at hp
  rcases hp with rfl | rfl | rfl | rfl | rfl | rfl
  · exact old g1
  · exact old g2
  · exact old g3
  · exact old g4
  · exact old g5
  · exact put_ne a6 put_same
end
end
-- AzPl
section
open PySem PySem.W PyProof.Rows PySem.Calls PySem.Spec PySem.SeqAt
def rot (a M : Int) (k : Nat) : List Int := (List.range k).map fun (v : Nat) => ((v : Int) + a).fmod M
theorem rot_mem {a M n : Int} {k : Nat} (hM : 0 < M) (h : n ∈ rot a M k) : 0 ≤ n ∧ n < M := by
  obtain ⟨v, _, rfl⟩ := List.mem_map.mp h
  exact ⟨Int.fmod_nonneg_of_pos _ hM, Int.fmod_lt_of_pos _ hM⟩
theorem rot_len {a M : Int} {k : Nat} : (rot a M k).length = k := by simp [rot]
theorem rot_nodup {a : Int} {M : Nat} (hM : 0 < M) : ∀ k, k ≤ M → (rot a M k).Nodup
  | 0, _ => by simp [rot]
  | k + 1, h => by
    have ih := rot_nodup (a := a) hM k (by omega)
    unfold rot at *
    rw [List.range_succ, List.map_append, List.nodup_append]
    refine ⟨ih, by simp, fun x hx y hy e => ?_⟩
    obtain ⟨v, hv, rfl⟩ := List.mem_map.mp hx
    have hy' : y = ((k : Int) + a).fmod M := by simpa using hy
    rw [hy'] at e
    have hv' : v < k := List.mem_range.mp hv
    rw [Int.fmod_eq_emod_of_nonneg _ (by omega), Int.fmod_eq_emod_of_nonneg _ (by omega)] at e
    have h1 := Int.emod_emod_of_dvd
    have h2 : ((k : Int) + a - ((v : Int) + a)) % M = 0 := by
      rw [Int.sub_emod, e, Int.sub_self, Int.zero_emod]
    have h3 : ((k : Int) + a - ((v : Int) + a)) = (k : Int) - v := by omega
    rw [h3, Int.emod_eq_of_lt (by omega) (by omega)] at h2
    omega
theorem rot_succ {a M : Int} {k : Nat} : rot a M (k + 1) = rot a M k ++ [((k : Int) + a).fmod M] := by
  unfold rot; rw [List.range_succ, List.map_append]; rfl
theorem rot_all {a n : Int} {M : Nat} (h0 : 0 ≤ n) (h1 : n < M) : n ∈ rot a M M := by
  have hM : (0 : Int) < M := by omega
  have q0 := Int.emod_nonneg (n - a) (by omega : (M : Int) ≠ 0)
  have q1 := Int.emod_lt_of_pos (n - a) hM
  refine List.mem_map.mpr ⟨((n - a) % M).toNat, List.mem_range.mpr (by omega), ?_⟩
  rw [Int.toNat_of_nonneg q0, Int.fmod_eq_emod_of_nonneg _ (by omega)]
  rw [Int.emod_add_emod, Int.sub_add_cancel, Int.emod_eq_of_lt h0 h1]
/-- 0, 1, .., k - 1 -/
def ups (k : Nat) : List Int := (List.range k).map fun (u : Nat) => (u : Int)
theorem ups_succ {k : Nat} : ups (k + 1) = ups k ++ [(k : Int)] := by
  unfold ups; rw [List.range_succ, List.map_append]; rfl
theorem mem_ups {k : Nat} {n : Int} : n ∈ ups k ↔ 0 ≤ n ∧ n < k := by
  constructor
  · intro h
    obtain ⟨v, hv, rfl⟩ := List.mem_map.mp h
    have := List.mem_range.mp hv
    omega
  · rintro ⟨h0, h1⟩
    exact List.mem_map.mpr ⟨n.toNat, List.mem_range.mpr (by omega), by omega⟩
theorem ups_len {k : Nat} : (ups k).length = k := by simp [ups]
theorem ups_nodup : ∀ {k : Nat}, (ups k).Nodup
  | 0 => by simp [ups]
  | k + 1 => by
    rw [ups_succ, List.nodup_append]
    refine ⟨ups_nodup, by simp, fun x hx y hy e => ?_⟩
    have := mem_ups.mp hx
    have : y = k := by simpa using hy
    omega
def hit (F : List (Int × Int)) (v u : Int) : Bool := decide ((u, v) ∈ F) || decide ((v, u) ∈ F)
def nbL (F : List (Int × Int)) (M : Nat) (v : Int) : List Int := (ups M).filter (hit F v)
theorem tests_fact {x : X} {ifs : List PySem.Expr} {env : Env} {Q F : Bool → AS → Prop} {σ : AS} (ht : Tests x ifs env F σ) (h : ∀ b τ, F b τ → Q b τ) : Tests x ifs env Q σ := run_mono ht h
theorem Cl.congr {nb nb' : Int → List Int} (h : ∀ a b, b ∈ nb a ↔ b ∈ nb' a) {a b : Int} : Cl nb a b ↔ Cl nb' a b := or_congr Iff.rfl (h _ _)
theorem Way.congr {nb nb' : Int → List Int} (h : ∀ a b, b ∈ nb a ↔ b ∈ nb' a) {v a b : Int} (w : Way nb v a b) : Way nb' v a b := by
  induction w with
  | here => exact .here
  | step _ hb hc ih => exact .step ih ((h _ _).mp hb) fun c => hc ((Cl.congr h).mpr c)
theorem AT.congr {nb nb' : Int → List Int} {ns ns' : List Int} (h : ∀ a b, b ∈ nb a ↔ b ∈ nb' a) (hn : ∀ a, a ∈ ns → a ∈ ns') {u v w : Int} (t : AT nb ns u v w) : AT nb' ns' u v w :=
  ⟨hn _ t.mu, hn _ t.mv, hn _ t.mw, fun c => t.uv ((Cl.congr h).mpr c), fun c => t.uw ((Cl.congr h).mpr c), fun c => t.vw ((Cl.congr h).mpr c), t.pu.congr h, t.pv.congr h, t.pw.congr h⟩
section
variable {nb : Int → List Int} {ns : List Int} {u v w : Int} (hs : ∀ a b, b ∈ nb a → a ∈ nb b)
include hs
/-- the same three, the last two turned about -/
theorem AT.tail (t : AT nb ns u v w) : AT nb ns u w v :=
  ⟨t.mu, t.mw, t.mv, t.uw, t.uv, fun c => t.vw (c.symm hs), (t.pu.symm hs t.uv).1, t.pw, t.pv⟩
theorem AT.head (t : AT nb ns u v w) : AT nb ns v u w :=
  ⟨t.mv, t.mu, t.mw, fun c => t.uv (c.symm hs), t.vw, t.uw, t.pv, t.pu, (t.pw.symm hs fun c => t.uw (c.symm hs)).1⟩
theorem AT.sorted (t : AT nb ns u v w) : ∃ a b c, a < b ∧ b < c ∧ [a, b, c].Perm [u, v, w] ∧ AT nb ns a b c := by
  have n1 : u ≠ v := fun e => t.uv (.inl e.symm)
  have n2 : u ≠ w := fun e => t.uw (.inl e.symm)
  have n3 : v ≠ w := fun e => t.vw (.inl e.symm)
  rcases Int.lt_or_gt_of_ne n1 with h1 | h1 <;> rcases Int.lt_or_gt_of_ne n2 with h2 | h2 <;> rcases Int.lt_or_gt_of_ne n3 with h3 | h3
  · exact ⟨u, v, w, h1, h3, .refl _, t⟩
  · exact ⟨u, w, v, h2, h3, .cons _ (.swap _ _ _), t.tail hs⟩
  · omega
  · exact ⟨w, u, v, h2, h1, (List.Perm.swap _ _ _).trans (.cons _ (.swap _ _ _)), (t.tail hs).head hs⟩
  · exact ⟨v, u, w, h1, h2, .swap _ _ _, t.head hs⟩
  · omega
  · exact ⟨v, w, u, h3, h2, (List.Perm.cons _ (.swap _ _ _)).trans (.swap _ _ _), (t.head hs).tail hs⟩
  · exact ⟨w, v, u, h3, h1, ((List.Perm.swap _ _ _).trans (.cons _ (.swap _ _ _))).trans (.swap _ _ _), ((t.head hs).tail hs).head hs⟩
theorem apok_at (mu : u ∈ ns) (mv : v ∈ ns) (mw : w ∈ ns) : (∀ i : Nat, i < 3 → ApOk nb u v w i) ↔ AT nb ns u v w := by
  have e0 : ApOk nb u v w 0 = (u ≠ w ∧ w ∉ nb u ∧ Way nb v u w) := rfl
  have e1 : ApOk nb u v w 1 = (v ≠ u ∧ u ∉ nb v ∧ Way nb w v u) := rfl
  have e2 : ApOk nb u v w 2 = (w ≠ v ∧ v ∉ nb w ∧ Way nb u w v) := rfl
  constructor
  · intro h
    have h0 := h 0 (by decide); have h1 := h 1 (by decide); have h2 := h 2 (by decide)
    rw [e0] at h0; rw [e1] at h1; rw [e2] at h2
    obtain ⟨a1, a2, a3⟩ := h0
    obtain ⟨b1, b2, b3⟩ := h1
    obtain ⟨c1, c2, c3⟩ := h2
    have uv : ¬ Cl nb u v := fun c => c.elim (fun e => b1 e) fun m => b2 (hs _ _ m)
    have uw : ¬ Cl nb u w := fun c => c.elim (fun e => a1 e.symm) fun m => a2 m
    have vw : ¬ Cl nb v w := fun c => c.elim (fun e => c1 e) fun m => c2 (hs _ _ m)
    exact ⟨mu, mv, mw, uv, uw, vw, (c3.symm hs uw).1, a3, (b3.symm hs fun c => vw (c.symm hs)).1⟩
  · intro t i hi
    have : i = 0 ∨ i = 1 ∨ i = 2 := by omega
    rcases this with rfl | rfl | rfl
    · rw [e0]; exact ⟨fun e => t.uw (.inl e.symm), fun m => t.uw (.inr m), t.pv⟩
    · rw [e1]; exact ⟨fun e => t.uv (.inl e), fun m => t.uv (.inr (hs _ _ m)), (t.pw.symm hs fun c => t.uw (c.symm hs)).1⟩
    · rw [e2]; exact ⟨fun e => t.vw (.inl e), fun m => t.vw (.inr (hs _ _ m)), (t.pu.symm hs t.uv).1⟩
end
/-- the law's own list of triples: sound, and complete as far as P goes -/
def Good (nb : Int → List Int) (M : Nat) (E : List (List Int)) (P : Int → Int → Int → Prop) : Prop :=
  (∀ p ∈ E, ∃ u v w, p = [u, v, w] ∧ AT nb (ups M) u v w) ∧ (∀ u v w, 0 ≤ u → u < v → v < w → P u v w → AT nb (ups M) u v w → [u, v, w] ∈ E)
theorem ListsAt.ext {σ τ : AS} {l : Addr} {E : List (Addr × List Int)} (h : ListsAt σ l E) (e : ∀ b ao, σ.hp b = some ao → τ.hp b = some ao) : ListsAt τ l E := ⟨e _ _ h.1, fun p hp => e _ _ (h.2 p hp)⟩
theorem ListsAt.ne {σ : AS} {l : Addr} {E : List (Addr × List Int)} (h : ListsAt σ l E) {p : Addr × List Int} (hp : p ∈ E) {u : Int} {r : List Int} (e : p.2 = u :: r) : p.1 ≠ l := fun q => by
  have h1 := h.2 p hp
  rw [q, h.1, e] at h1
  cases E with
  | nil => cases hp
  | cons a b =>
    have h2 := Option.some.inj h1
    simp [avs] at h2
theorem ListsAt.grow {σ τ : AS} {l a : Addr} {E : List (Addr × List Int)} {q : List Int} (h : ListsAt σ l E) (hn : ∀ p ∈ E, p.1 ≠ l) (hl : τ.hp l = some (.list ((E ++ [(a, q)]).map fun p => .ref p.1))) (k : ∀ b ao, b ≠ l → σ.hp b = some ao → τ.hp b = some ao) (ha : τ.hp a = some (.list (avs q))) : ListsAt τ l (E ++ [(a, q)]) := by
  refine ⟨hl, fun p hp => ?_⟩
  rcases List.mem_append.mp hp with hp | hp
  · exact k _ _ (hn p hp) (h.2 p hp)
  · rw [List.mem_singleton.mp hp]; exact ha
/-- all objects but cells are kept -/
def Kc (σ τ : AS) : Prop := ∀ b ao, (∀ v, ao ≠ .cell v) → σ.hp b = some ao → τ.hp b = some ao
theorem Kc.refl {σ : AS} : Kc σ σ := fun _ _ _ h => h
theorem Kc.ext {σ τ τ' : AS} (h : Kc σ τ) (e : Ext τ τ') : Kc σ τ' := fun b ao i q => e.hp _ _ (h b ao i q)
theorem Kc.trans {σ τ τ' : AS} (h : Kc σ τ) (h' : Kc τ τ') : Kc σ τ' := fun b ao i q => h' b ao i (h b ao i q)
theorem Kc.cell {σ τ : AS} {a : Addr} {v : Option AV} {ao : AO} (h : Kc σ τ) (e : τ.hp a = some (.cell v)) : Kc σ (τ.put a ao) := fun b ao' i q => put_ne (fun w => by
  have := h b ao' i q
  rw [w, e] at this; exact i v (Option.some.inj this).symm) (h b ao' i q)
theorem Kc.put {σ τ : AS} {a : Addr} {ao : AO} (h : Kc σ τ) (f : Fresh σ a) : Kc σ (τ.put a ao) := fun b ao' i q => put_ne (f _ _ q) (h b ao' i q)
theorem Kc.drop {σ τ : AS} {a : Addr} (h : Kc σ τ) (f : Fresh σ a) : Kc σ (τ.drop a) := fun b ao' i q => drop_ne (f _ _ q) (h b ao' i q)
theorem Kc.bind {σ τ : AS} {n : Str} {v : AV} (h : Kc σ τ) : Kc σ (τ.bind n v) := h
theorem Kc.loc {σ τ : AS} {l : Loc} (h : Kc σ τ) : Kc σ (τ.at l) := h
theorem Kc.keepG {σ τ : AS} (h : Kc σ τ) : KeepG σ τ := fun b ao i q => h b ao (fun v e => by rw [e] at i; cases i) q
theorem NearAt.kc {σ τ : AS} {nr : Addr} {ns : List Int} {nb : Int → List Int} (h : NearAt σ nr ns nb) (k : Kc σ τ) : NearAt τ nr ns nb := by
  obtain ⟨kvs, ep, h1, h2⟩ := h
  exact ⟨kvs, ep, k _ _ (by intro v e; cases e) h1, fun v hv => let ⟨l, q1, q2⟩ := h2 v hv; ⟨l, q1, k _ _ (by intro v e; cases e) q2⟩⟩
end
-- AzLs
section
open PySem PySem.W PyProof.Rows PySem.Calls PySem.Spec PySem.SeqAt
section
variable {x : X} {σ : AS} {env : Env}
theorem sorted_list {l : Addr} {zs xs : List Int} {Q : AV → AS → Prop} (hl : σ.hp l = some (.list (avs zs))) (hxs : xs.Pairwise (· < ·)) (hp : zs.Perm xs) (h64 : zs.length < 64) (h : ∀ r, Fresh σ r → Q (.ref r) (σ.put r (.list (avs xs)))) : RunV x (call (.builtin "sorted") [.ref l]) Q σ := by
  intro s R
  obtain ⟨ys, n, ho, hx, hL⟩ := list_at R hl
  have hlen : ys.size = zs.length := by have := congrArg List.length hx; simpa [avs] using this
  have hI : IntsAre ys.toList zs := intsAre_of hx
  refine sorted_ints (vs := ys.toList) (by simpa using hL) hI (by simp; omega) fun out ns' a1 a2 a3 => ?_
  have e : ns' = xs := sorted_eq hxs a3 (a2.trans hp)
  subst e
  obtain ⟨e, he⟩ := sortedAll_at s.heap ys.toList out
  have hf : Fresh σ (s.heap.objs.size + 1) := R.fresh (Nat.le_succ _)
  refine ⟨_, R.remake (σ' := σ.put (s.heap.objs.size + 1) (.list (avs ns'))) [s.heap.objs.size + 1] s.toks rfl rfl (fun a ha => .inr (by rw [List.mem_singleton.mp ha]; exact Nat.le_succ _)) (fun b o _ hb => sortedAll_old hb) (fun a ao q => ?_), h _ hf⟩
  by_cases h1 : a = s.heap.objs.size + 1
  · subst h1
    rw [put_same] at q; cases q
    exact .inr ⟨by simp, _, he, out, e, rfl, avs_of a1⟩
  · have q' : σ.hp a = some ao := by simpa [AS.put, setHp, h1] using q
    exact .inl ⟨by simp [h1], q'⟩
end
end
-- AzTp
section
open PySem PySem.W PyProof.Rows PySem.Calls PySem.Spec PySem.SeqAt
section
variable {x : X} {σ : AS} {env : Env}
/-- l[:k], the list an argument of the claim -/
theorem n_slice_base {value hi : PySem.Expr} {p pos : Pos} {Q : AV → AS → Prop}
    (h : RunV x (eval value env) (fun a σ₁ => ∃ l, a = .ref l ∧ RunV x (eval hi env) (fun b σ₂ => ∃ (k : Nat) (vs : List AV), b = .int k ∧ (∃ xs, x.C.h₀.IsList l xs ∧ xs.toList.map er = vs) ∧ vs.length < 900 ∧ ∀ l', Fresh σ₂ l' → Q (.ref l') (σ₂.put l' (.list (vs.take k)))) σ₁) σ)
    (ht : ∀ o r, letTemporaryGo value o r = pure () := by intro _ _; rfl) : RunV x (eval (.Subscript value (.Slice none (some hi) none p) pos) env) Q σ := by
  intro s R
  refine wpAny_Subscript_list_slice ?_ ht
  refine run_to h R fun v σ₁ s₁ R₁ ⟨l, ev, h₁⟩ => ?_
  cases er_ref ev
  rw [evalPart_none]
  refine wpAny_pure ?_
  rw [evalPart_some]
  refine run_to h₁ R₁ fun b σ₂ s₂ R₂ ⟨k, vs, eb, ⟨xs, hb, hx⟩, hz, h₂⟩ => ?_
  obtain ⟨t, rfl⟩ := er_int eb
  have hL : s₂.heap.IsList l xs := let ⟨o, ho, r⟩ := hb; ⟨o, R₂.base _ _ ho, r⟩
  refine ⟨l, xs, none, some (k : Int), rfl, hL, fits (by have : xs.size = vs.length := by { rw [← hx]; simp }; omega), .none, .int _ _, ?_⟩
  have R₃ := R₂.grown (h' := s₂.heap.push { cls := .type "slice", data := .fields #[.none, .int k t, .none] }) (fun b o e => Heap.get?_push_of_some _ e) s₂.toks
  rw [slicePick_upto']
  have R₄ := R₃.push (ao := .list (vs.take k)) (o := { cls := .type "list", data := .seq (xs.toList.take k).toArray }) ⟨_, 0, rfl, by rw [← hx]; simp⟩ s₂.toks
  have e0 : (s₂.heap.push { cls := .type "slice", data := .fields #[.none, .int k t, .none] }).objs.size = s₂.heap.objs.size + 1 := Heap.size_push ..
  simp only [e0] at R₄
  exact ⟨_, R₄, h₂ _ (R₂.fresh (Nat.le_succ _))⟩
end
/-- the claim's own call of a def, whose arguments are plain -/
theorem top_call {C : Cx} {A : Around} {s : Shared} {f : Addr} {oc : Value} {od : Option Addr} {osl : Array (Option Value)} {fd : FuncData} {body : List Stmt} {vals : List Value} {P : AV → Prop} {k : Nat} (names : List Str) (binds : List (Str × Value))
    (ok : C.Ok) (base : ∀ a o, C.h₀.get? a = some o → s.heap.get? a = some o) (hsz : C.h₀.objs.size ≤ s.heap.objs.size) (os : s.os = C.os ∧ AllBare s.gens)
    (hA : Deep A (k + 1)) (ho : (Mine.hd.heap_39 C.w.params).lookup f = some ⟨oc, od, .func fd, osl⟩) (hcode : codeIn (Mine.hd.heap_39 C.w.params) fd.code fd.qualname = true)
    (hb : bindArgs fd ⟨vals, []⟩ = pure binds) (hn : ∀ b ∈ names, fd.scope.names.lookup b = some .local ∨ fd.scope.names.lookup b = some .cell)
    (LF : Addr → AS → Prop) (hLF : ∀ L' σ, (∀ c, L' ≤ c → Fresh σ c) → LF L' (enterC fd f binds L' σ))
    (h : ∀ σ L' A' σ₁, (∀ c, L' ≤ c → Fresh σ c) → Deep A' k → A'.units = A.units + 3 → Ext σ σ₁ → LF L' σ₁ →
        RunN ⟨C, [], L', A'⟩ (execs body (callEnvC fd L' f)) (fun fl _ => P (er (retOf fl))) σ₁)
    (hnm : binds.map (·.1) = names := by rfl) (hbody : fd.body = .stmts body := by rfl) (hclo : fd.closure = [] := by rfl)
    (hnd : ∀ n, ((cellsFrom n fd.scope.names []).map (·.1)).Nodup := by intro n; simp [cellsFrom]) (hco : fd.scope.isCoroutine = false := by rfl) (hgen : fd.scope.isGenerator = false := by rfl) (hk : fd.scope.kind = .function := by rfl) :
    codeN (model Pg C.w) A (.call (.ref f) ⟨vals, []⟩) (fun r s' => ∃ v, r = .ok (.ret v) ∧ P (er v) ∧ (∀ a o, C.h₀.get? a = some o → s'.heap.get? a = some o) ∧ s'.os = C.os ∧ AllBare s'.gens) s := by
  have X := ok.kx.keeps base
  refine codeN_call_function hA.lt (X _ _ ho) rfl hco hgen hbody (codeRec_of X hcode) ?_
  rw [hb]
  refine wpAny_pure ?_
  rw [hclo]
  refine wpAny_newFunctionEnv_cells hk (fun b hm => ?_) fun env he s' I => ?_
  · rcases hn b.1 (hnm ▸ List.mem_map_of_mem hm) with e | e
    · exact .inl e
    · refine .inr ⟨e, ?_⟩
      rcases cellsFrom_some (acc := []) e with e' | e'
      · exact e'
      · cases e'
  subst he
  have hf : ∀ c, s.heap.objs.size ≤ c → Fresh (⟨fun _ => none, fun _ => none, s.gens⟩ : AS) c := fun c _ b ao e => nomatch e
  have R' : Rel C [] s.heap.objs.size (enterC fd f binds s.heap.objs.size ⟨fun _ => none, fun _ => none, s.gens⟩) s' := by
    obtain ⟨h', tk, rfl, hk⟩ := I.done
    refine ⟨ok, fun a o e => hk a o (base a o e), fun a ao e => ?_, ⟨_, I.toInCall.ns, fun _ => rfl⟩, fun p hp => (nomatch hp), List.nodup_cons.mpr ⟨List.not_mem_nil, List.nodup_nil⟩, fun a ha => ?_, rfl, os⟩
    · rcases layHp_get e with ⟨n, hm, rfl⟩ | e
      · have hc := I.cell n a (lookup_of_mem (hnd _) hm)
        have ha := I.above n a hm
        obtain ⟨o, ho, hd⟩ := hc
        exact ⟨Nat.le_trans hsz (Nat.le_of_lt ha), Nat.ne_of_gt ha, fun q => (nomatch q), o, ho, _, hd, rfl⟩
      · cases e
    · rcases List.mem_cons.mp ha with rfl | ha
      · exact hsz
      · cases ha
  refine ⟨(ok.top.nolimit.keeps base).keeps I.toInCall.keep, codeN_func ?_⟩
  refine wpN_mono (h _ _ _ _ hf hA.deeper rfl (ext_enter hf) (hLF _ _ hf) s' R') (fun fl s₂ ⟨σ₂, R₂, q⟩ => ?_) fun _ _ e => e.elim
  cases fl <;> exact ⟨_, rfl, q, R₂.base, R₂.os⟩
end
-- AzLw
section
open PySem PySem.W PyProof.Rows PySem.Calls PySem.Spec PySem.SeqAt
theorem PairsAt.ext {σ τ : AS} {l : Addr} {E : List (Addr × Int × Int)} (h : PairsAt σ l E) (e : ∀ b ao, σ.hp b = some ao → τ.hp b = some ao) : PairsAt τ l E := ⟨e _ _ h.1, fun p hp => e _ _ (h.2 p hp)⟩
theorem tests_any {x : X} {ifs : List PySem.Expr} {env : Env} {Q : Bool → AS → Prop} {σ : AS} (h : ∀ b, Q b σ) (ht : ∀ Q' : Bool → AS → Prop, (∀ b, Q' b σ) → Tests x ifs env Q' σ) : Tests x ifs env Q σ := ht Q h
theorem four {q : List Int} : ∃ n0 n1 n2 n3 r, q.take 4 ++ [0, 0, 0, 0] = n0 :: n1 :: n2 :: n3 :: r := by
  match q with
  | [] => exact ⟨0, 0, 0, 0, [], rfl⟩
  | [a] => exact ⟨a, 0, 0, 0, [0], rfl⟩
  | [a, b] => exact ⟨a, b, 0, 0, [0, 0], rfl⟩
  | [a, b, c] => exact ⟨a, b, c, 0, [0, 0, 0], rfl⟩
  | a :: b :: c :: d :: r => exact ⟨a, b, c, d, [0, 0, 0, 0], by simp⟩
set_option maxHeartbeats 16000000 in
theorem law_top {C : Cx} {A : Around} {s : Shared} {sl : Addr} {script : List Int} (hA : Deep A 14) (hu : A.units + 200 < 9900)
    (hs : ∃ xs, C.h₀.IsList sl xs ∧ xs.toList.map er = avs script) (hlen : script.length ≤ 63)
    (ok : C.Ok) (base : ∀ a o, C.h₀.get? a = some o → s.heap.get? a = some o) (hsz : C.h₀.objs.size ≤ s.heap.objs.size) (os : s.os = C.os ∧ AllBare s.gens) :
    codeN (model Pg C.w) A (.call (.ref 608) ⟨[.ref sl], []⟩) (fun r s' => ∃ v, r = .ok (.ret v) ∧ er v = .bool true ∧ (∀ a o, C.h₀.get? a = some o → s'.heap.get? a = some o) ∧ s'.os = C.os ∧ AllBare s'.gens) s := by
  refine top_call (P := fun a => a = .bool true) ["script"] [("script", .ref sl)] ok base hsz os hA (by k_is) (by k_is) rfl (by decide)
    (fun L' σ₁ => σ₁.loc "script" = some (.ref sl) ∧ ∀ i : Nat, 1 ≤ i → i ≤ 7 → σ₁.hp (L' + i) = some (.cell none)) (by
      intro L' σ _
      refine ⟨rfl, fun i h1 h7 => ?_⟩
      have : i = 1 ∨ i = 2 ∨ i = 3 ∨ i = 4 ∨ i = 5 ∨ i = 6 ∨ i = 7 := by omega
      rcases this with rfl | rfl | rfl | rfl | rfl | rfl | rfl
      · exact cell_none (n := "numbers") (fun p _ => rfl) (by simp [cellsFrom])
      · exact cell_none (n := "many") (fun p _ => rfl) (by simp [cellsFrom])
      · exact cell_none (n := "v") (fun p _ => rfl) (by simp [cellsFrom])
      · exact cell_none (n := "edges") (fun p _ => rfl) (by simp [cellsFrom])
      · exact cell_none (n := "arms") (fun p _ => rfl) (by simp [cellsFrom])
      · exact cell_none (n := "near") (fun p _ => rfl) (by simp [cellsFrom])
      · exact cell_none (n := "w") (fun p _ => rfl) (by simp [cellsFrom])) (hnd := by intro n; simp [cellsFrom]; decide) fun σ L' A' σ₁ hf hA' hu' hE ⟨l1, cc⟩ => ?_
  have hdd : ∀ i j : Nat, i ≠ j → L' + i ≠ L' + j := fun i j hij e => hij (Nat.add_left_cancel e)
  have ff : ∀ i : Nat, Fresh σ (L' + i) := fun i => hf _ (Nat.le_add_right _ _)
  obtain ⟨n0, n1, n2, n3, nr, hnum⟩ := four (q := script)
  -- numbers
  refine sN_then (fun σ' => ∃ nl, Ext σ σ' ∧ σ'.hp (L' + 1) = some (.cell (some (.ref nl))) ∧ (∀ i : Nat, 2 ≤ i → i ≤ 7 → σ'.hp (L' + i) = some (.cell none)) ∧ σ'.hp nl = some (.list (avs (n0 :: n1 :: n2 :: n3 :: nr)))) ?_ ?_
  · walk_at "st"
    refine n_binop ?_
    refine n_slice_base (n_local l1 ⟨sl, rfl, n_const_int ⟨4, avs script, rfl, hs, by simp; omega, fun s4 hs4 => ?_⟩⟩)
    walk_at "ev"
    refine n_list (a_cons ?_)
    walk_at "st"
    refine a_cons ?_
    walk_at "st"
    refine a_cons ?_
    walk_at "st"
    refine a_cons ?_
    walk_at "st"
    refine a_nil ?_
    refine new_list (fits (by simp)) fun z4 hz4 => ?_
    walk_at "ev"
    have hsz : s4 ≠ z4 := hz4 _ _ put_same
    refine add_list (put_ne hsz put_same) put_same (by simp; omega) fun nl hnl => ?_
    walk_at "ev"
    have hz4' : Fresh σ₁ z4 := hz4.put hs4
    have hnl' : Fresh σ₁ nl := (hnl.put hz4).put hs4
    refine run_gen (fun τ => Ext σ τ ∧ (∀ i : Nat, 1 ≤ i → i ≤ 7 → τ.hp (L' + i) = some (.cell none)) ∧ τ.hp nl = some (.list (avs (n0 :: n1 :: n2 :: n3 :: nr)))) ⟨hE.trans (((Ext.refl.put hs4).put hz4').put hnl'), fun i h1 h7 => put_new hnl (put_new hz4 (put_new hs4 (cc i h1 h7))), put_same.trans (by rw [← hnum]; simp [er])⟩ fun τ ⟨eb, cb, hnlτ⟩ => ?_
    refine store_cell' (by walk_at "er") rfl (cb 1 (by decide) (by decide)) ?_
    exact ⟨rfl, nl, eb.put (ff 1), put_same, fun i h2 h7 => put_ne (hdd i 1 (by omega)) (cb i (by omega) h7), put_ne (fun e => by have := cb 1 (by decide) (by decide); rw [← e, hnlτ] at this; cases this) hnlτ⟩
  rintro σ₂ ⟨nl, e2, cN, cc, hnl⟩
  -- many
  obtain ⟨M, hM, hM6⟩ : ∃ M : Nat, (M : Int) = n0.fmod 2 + 6 ∧ (M = 6 ∨ M = 7) := by
    have h1 : 0 ≤ n0.fmod 2 := Int.fmod_nonneg_of_pos _ (by decide)
    have h2 : n0.fmod 2 < 2 := Int.fmod_lt_of_pos _ (by decide)
    exact ⟨(n0.fmod 2 + 6).toNat, by omega, by omega⟩
  refine sN_then (fun σ' => Ext σ σ' ∧ σ'.hp (L' + 1) = some (.cell (some (.ref nl))) ∧ σ'.hp (L' + 2) = some (.cell (some (.int M))) ∧ (∀ i : Nat, 3 ≤ i → i ≤ 7 → σ'.hp (L' + i) = some (.cell none)) ∧ σ'.hp nl = some (.list (avs (n0 :: n1 :: n2 :: n3 :: nr)))) ?_ ?_
  · walk_at "st"
    walk_at "st"
    walk_at "st"
    walk_at "st"
    refine n_cell rfl cN ?_
    walk_at "ev"
    walk_at "st"
    refine sub_pos hnl (by decide) (by decide) (v := .int n0) rfl ?_
    walk_at "ev"
    walk_at "st"
    refine mod_int (by decide) ?_
    walk_at "ev"
    walk_at "st"
    refine add_int ?_
    rw [← hM]
    walk_at "ev"
    refine store_cell' (by walk_at "er") rfl (cc 2 (by decide) (by decide)) ?_
    exact ⟨rfl, e2.put (ff 2), put_ne (hdd 1 2 (by decide)) cN, put_same, fun i h3 h7 => put_ne (hdd i 2 (by omega)) (cc i (by omega) h7), put_ne (fun e => by have := cc 2 (by decide) (by decide); rw [← e, hnl] at this; cases this) hnl⟩
  rintro σ₃ ⟨e3, cN, cM, cc, hnl⟩
  have hnlC : ∀ i : Nat, 1 ≤ i → i ≤ 7 → nl ≠ L' + i := fun i h1 h7 e => by
    rcases Nat.lt_or_ge i 3 with h | h
    · have : i = 1 ∨ i = 2 := by omega
      rcases this with rfl | rfl
      · rw [← e, hnl] at cN; cases cN
      · rw [← e, hnl] at cM; cases cM
    · have := cc i h h7
      rw [← e, hnl] at this; cases this
  -- pairs
  refine sN_then (fun σ' => ∃ pl E, Ext σ σ' ∧ σ'.hp (L' + 1) = some (.cell (some (.ref nl))) ∧ σ'.hp (L' + 2) = some (.cell (some (.int M))) ∧ (∀ i : Nat, 3 ≤ i → i ≤ 7 → σ'.hp (L' + i) = some (.cell none)) ∧ σ'.hp nl = some (.list (avs (n0 :: n1 :: n2 :: n3 :: nr))) ∧ σ'.loc "pairs" = some (.ref pl) ∧ PairsAt σ' pl E ∧ E.length ≤ 49 ∧ ∀ p ∈ E, 0 ≤ p.2.1 ∧ p.2.1 < p.2.2 ∧ p.2.2 < M) ?_ ?_
  · refine s_assign_comp rfl ?_
    refine n_call1 ?_
    walk_at "st"
    refine ⟨by walk_at "keep", a_cons ?_⟩
    refine n_cell rfl cM ?_
    walk_at "ev"
    refine a_nil ?_
    refine call_range fun r0 u0 v0 hr0 => ?_
    walk_at "ev"
    refine iter_range (n := M) put_same (by omega) fun I hI => ?_
    walk_at "ev"
    refine new_list (Nat.zero_le _) fun acc hacc => ?_
    walk_at "ev"
    have hr0' : Fresh σ₃ r0 := hr0
    have hI3 : Fresh σ₃ I := hI.put hr0
    have hacc3 : Fresh σ₃ acc := fun b ao q => hacc b ao (put_ne (hI3 _ _ q) (put_new hr0 q))
    have hIacc : I ≠ acc := hacc _ _ put_same
    refine comp_goN (self_range (put_new hacc put_same)) fun L₂ σ₄ hf₂ hE₄ => ?_
    refine ⟨fun k τ => ∃ E, k ≤ M ∧ Ext σ₃ τ ∧ τ.hp I = some (RIter (M - k) M) ∧ PairsAt τ acc E ∧ E.length ≤ (M - k) * 7 ∧ ∀ p ∈ E, 0 ≤ p.2.1 ∧ p.2.1 < p.2.2 ∧ p.2.2 < M, M, ⟨[], Nat.le_refl _, ?_⟩, ?_⟩
    · rw [Nat.sub_self]
      exact ⟨(((Ext.refl.put hr0).put hI3).put hacc3).trans hE₄, hE₄.hp _ _ (put_ne hIacc put_same), ⟨hE₄.hp _ _ put_same, by simp⟩, Nat.zero_le _, by simp⟩
    · rintro k τ ⟨E, hk, eT, hIT, hP, hEl, hEv⟩
      refine turn_list2 ?_
      have hIa : I ≠ acc := hIacc
      have pI : ∀ p ∈ E, p.1 ≠ I := fun p hp q => by have := hP.2 p hp; rw [q, hIT] at this; cases this
      refine next_range hA'.h hIT (Nat.sub_le _ _) (fun hlt t => ?_) (fun he => ?_)
      · generalize hi : M - k = i at *
        walk_at "st"
        walk_at "st"
        walk_at "st"
        refine runV_gen (fun τ' => Ext σ₃ τ' ∧ τ'.hp I = some (RIter (i + 1) M) ∧ PairsAt τ' acc E ∧ τ'.loc "v" = some (.int i)) ⟨(eT.put hI3).bind, bind_hp put_same, ⟨bind_hp (put_ne hIa.symm hP.1), fun p hp => bind_hp (put_ne (pI p hp) (hP.2 p hp))⟩, loc_same⟩ fun τ₀ ⟨e0, hI0, hP0, lv⟩ => ?_
        refine n_call1 ?_
        walk_at "st"
        refine ⟨by walk_at "keep", a_cons ?_⟩
        walk_at "st"
        refine a_nil ?_
        refine call_range fun r1 u1 v1 hr1 => ?_
        walk_at "ev"
        refine iter_range (n := i) put_same (by omega) fun J hJ => ?_
        walk_at "ev"
        have hJ0 : Fresh τ₀ J := hJ.put hr1
        have hJ3 : Fresh σ₃ J := e0.fresh hJ0
        have hr13 : Fresh σ₃ r1 := e0.fresh hr1
        refine runC_gen (fun τ' => Ext σ₃ τ' ∧ τ'.hp I = some (RIter (i + 1) M) ∧ PairsAt τ' acc E ∧ τ'.loc "v" = some (.int i) ∧ τ'.hp J = some (RIter 0 i)) ⟨(e0.put hr13).put hJ3, put_ne (hJ0 _ _ hI0) (put_new hr1 hI0), ⟨put_ne (hJ0 _ _ hP0.1) (put_new hr1 hP0.1), fun p hp => put_ne (hJ0 _ _ (hP0.2 p hp)) (put_new hr1 (hP0.2 p hp))⟩, lv, put_same⟩ fun τ₁ ⟨e1, hI1, hP1, lv, hJ1⟩ => ?_
        refine c_start rfl (fun Q' q' => iter_riter hJ1 q') (fun it' hit' => ?_) rfl rfl rfl
        cases er_ref hit'
        refine runC_mono (c_loop (P := fun τ => ∃ m, m < k ∧ ∃ E, m ≤ M ∧ Ext σ₃ τ ∧ τ.hp I = some (RIter (M - m) M) ∧ PairsAt τ acc E ∧ E.length ≤ (M - m) * 7 ∧ ∀ p ∈ E, 0 ≤ p.2.1 ∧ p.2.1 < p.2.2 ∧ p.2.2 < M)
          (fun q τ => ∃ E', q ≤ i ∧ Ext σ₃ τ ∧ τ.hp I = some (RIter (i + 1) M) ∧ PairsAt τ acc E' ∧ τ.loc "v" = some (.int i) ∧ τ.hp J = some (RIter (i - q) i) ∧ E'.length ≤ i * 7 + (i - q) ∧ ∀ p ∈ E', 0 ≤ p.2.1 ∧ p.2.1 < p.2.2 ∧ p.2.2 < M)
          (fun q τ₂ ⟨E', hq, e2', hI2, hP2, lv, hJ2, hEl', hEv'⟩ => ?_) i ⟨E, Nat.le_refl _, e1, hI1, hP1, lv, by rw [Nat.sub_self]; exact hJ1, by omega, hEv⟩ rfl rfl rfl) fun res σ' ⟨q1, q2⟩ => ⟨q1, q2⟩
        refine turn_list2i ?_
        have pJ : ∀ p ∈ E', p.1 ≠ J := fun p hp q => by have := hP2.2 p hp; rw [q, hJ2] at this; cases this
        have aJ : acc ≠ J := fun q => by have := hP2.1; rw [q, hJ2] at this; cases this
        have IJ : I ≠ J := hJ0 _ _ hI0
        have pA : ∀ p ∈ E', p.1 ≠ acc := fun p hp q => by have := hP2.2 p hp; rw [q, hP2.1] at this; cases this
        refine next_range hA'.h hJ2 (Nat.sub_le _ _) (fun hlt2 t2 => ?_) (fun he => ?_)
        · walk_at "st"
          walk_at "st"
          walk_at "st"
          refine tests_nil ⟨fun _ => ?_, fun q => absurd q (by decide)⟩
          refine n_tuple (a_cons ?_)
          walk_at "st"
          refine a_cons ?_
          walk_at "st"
          refine a_nil ?_
          refine new_tuple (fits (by simp)) fun tp htp => ?_
          walk_at "ev"
          have ht2 : Fresh τ₂ tp := fun b ao q => by
            by_cases hb : b = J
            · rw [hb]; exact htp _ _ (bind_hp put_same)
            · exact htp _ _ (bind_hp (put_ne hb q))
          have eacc : acc ≠ tp := ht2 _ _ hP2.1
          refine append_list (put_ne eacc (bind_hp (put_ne aJ hP2.1))) (fits (by rw [List.length_map]; omega)) ?_
          refine ⟨q - 1, by omega, E' ++ [(tp, ((i - q : Nat) : Int), (i : Int))], by omega, ?_, ?_, ⟨?_, fun p hp => ?_⟩, ?_, ?_, ?_, fun p hp => ?_⟩
          · exact (((e2'.put hJ3).bind).put (fun b ao w => ht2 _ _ (e2'.hp _ _ w))).put hacc3
          · exact put_ne hIa (put_ne (ht2 _ _ hI2) (bind_hp (put_ne IJ hI2)))
          · rw [List.map_append, put_same]; rfl
          · rcases List.mem_append.mp hp with hp | hp
            · exact put_ne (pA p hp) (put_ne (ht2 _ _ (hP2.2 p hp)) (bind_hp (put_ne (pJ p hp) (hP2.2 p hp))))
            · have : p = (tp, ((i - q : Nat) : Int), (i : Int)) := by simpa using hp
              subst this
              exact put_ne eacc.symm put_same
          · walk_at "loc"
          · rw [show i - (q - 1) = i - q + 1 by omega]; exact put_ne aJ.symm (put_ne (htp _ _ (bind_hp put_same)) (bind_hp put_same))
          · rw [List.length_append]; simp; omega
          · rcases List.mem_append.mp hp with hp | hp
            · exact hEv' p hp
            · have : p = (tp, ((i - q : Nat) : Int), (i : Int)) := by simpa using hp
              subst this
              refine ⟨Int.natCast_nonneg _, ?_, ?_⟩ <;> dsimp only <;> omega
        · refine ⟨k - 1, by omega, E', by omega, e2'.drop hJ3, ?_, ⟨drop_ne aJ hP2.1, fun p hp => drop_ne (pJ p hp) (hP2.2 p hp)⟩, by omega, hEv'⟩
          rw [show M - (k - 1) = i + 1 by omega]; exact drop_ne IJ hI2
      · have eD := e3.trans ((eT.drop hI3).loc (l := σ₃.loc))
        refine ⟨rfl, acc, E, (eT.drop hI3).loc.bind |> e3.trans, ?_, ?_, fun i h3 h7 => ?_, ?_, loc_same, ⟨bind_hp (loc_hp (drop_ne hIa.symm hP.1)), fun p hp => bind_hp (loc_hp (drop_ne (pI p hp) (hP.2 p hp)))⟩, by omega, hEv⟩
        · exact bind_hp (loc_hp (drop_ne (hI3 _ _ cN) (eT.hp _ _ cN)))
        · exact bind_hp (loc_hp (drop_ne (hI3 _ _ cM) (eT.hp _ _ cM)))
        · exact bind_hp (loc_hp (drop_ne (hI3 _ _ (cc i h3 h7)) (eT.hp _ _ (cc i h3 h7))))
        · exact bind_hp (loc_hp (drop_ne (hI3 _ _ hnl) (eT.hp _ _ hnl)))
  rintro σ₄ ⟨pl, E, e4, cN, cM, cc, hnl, lp, hP, hEl, hEv⟩
  -- edges
  refine sN_then (fun σ' => ∃ el F, Ext σ σ' ∧ σ'.hp (L' + 1) = some (.cell (some (.ref nl))) ∧ σ'.hp (L' + 2) = some (.cell (some (.int M))) ∧ σ'.hp (L' + 3) = some (.cell none) ∧ σ'.hp (L' + 4) = some (.cell (some (.ref el))) ∧ (∀ i : Nat, 5 ≤ i → i ≤ 7 → σ'.hp (L' + i) = some (.cell none)) ∧ σ'.hp nl = some (.list (avs (n0 :: n1 :: n2 :: n3 :: nr))) ∧ σ'.loc "pairs" = some (.ref pl) ∧ PairsAt σ' pl E ∧ PairsAt σ' el F ∧ F.length ≤ 49 ∧ ∀ p ∈ F, p ∈ E) ?_ ?_
  · walk_at "st"
    refine n_listcomp rfl ?_
    refine n_call1 ?_
    walk_at "st"
    refine ⟨by walk_at "keep", a_cons ?_⟩
    walk_at "st"
    refine a_nil ?_
    refine call_enum hP.1 fun e it he hit hei => ?_
    walk_at "ev"
    refine iter_enum put_same ?_
    walk_at "ev"
    refine new_list (Nat.zero_le _) fun acc hacc => ?_
    walk_at "ev"
    have hae : acc ≠ e := fun q => hacc _ _ put_same q.symm
    have hai : acc ≠ it := fun q => hacc _ _ (put_ne hei.symm put_same) q.symm
    have ha2 : Fresh σ₄ acc := fun b ao q => hacc b ao (put_ne (he _ _ q) (put_new hit q))
    refine comp_goN (self_enum (put_ne (Ne.symm hae) put_same)) fun L₂ σ₅ hf₂ hE₅ => ?_
    refine ⟨fun q σ' => ∃ F old, q ≤ E.length ∧ Ext σ₄ σ' ∧ σ'.hp e = some (EnumO it (E.length - q) old) ∧ σ'.hp it = some (LIter pl (E.length - q)) ∧ PairsAt σ' acc F ∧ F.length ≤ E.length - q ∧ (∀ p ∈ F, p ∈ E), E.length, ⟨[], .none, Nat.le_refl _, ?_⟩, ?_⟩
    · rw [Nat.sub_self]
      exact ⟨(((Ext.refl.put hit).put he).put ha2).trans hE₅, hE₅.hp _ _ (put_ne (Ne.symm hae) put_same), hE₅.hp _ _ (put_ne (Ne.symm hai) (put_ne hei.symm put_same)), ⟨hE₅.hp _ _ put_same, by simp⟩, Nat.zero_le _, by simp⟩
    · rintro q τ ⟨F, old, hq, e6, he₆, hi₆, hF, hFl, hFE⟩
      refine turn_list1 ?_
      refine next_enum hA'.h he₆ hi₆ (e6.hp _ _ hP.1) (fun hlt T u hu hT => ?_) (fun hge => ?_)
      · have hlt' : E.length - q < E.length := by simpa using hlt
        generalize hi : E.length - q = i at *
        have hii : i < E.length := hlt'
        have hui : (E.map fun p => AV.ref p.1)[i]'(by simpa using hii) = .ref E[i].1 := by simp
        have hum : E[i] ∈ E := List.getElem_mem hii
        have hpt := hP.2 _ hum
        rw [hui] at hu ⊢
        generalize E[i] = pr at *
        cases er_ref hu
        have eT : e ≠ T := hT _ _ he₆
        have iT : it ≠ T := hT _ _ hi₆
        have aT : acc ≠ T := hT _ _ hF.1
        have T4 : Fresh σ₄ T := e6.fresh hT
        have pI : ∀ p ∈ F, p.1 ≠ it := fun p hp q => by have := hF.2 p hp; rw [q, hi₆] at this; cases this
        have pE : ∀ p ∈ F, p.1 ≠ e := fun p hp q => by have := hF.2 p hp; rw [q, he₆] at this; cases this
        have pA : ∀ p ∈ F, p.1 ≠ acc := fun p hp q => by have := hF.2 p hp; rw [q, hF.1] at this; cases this
        refine lot_enum (put_ne eT put_same) ?_
        refine asg_tup2 hA'.h (put_ne eT.symm put_same) fun v₁ v₂ hv₁ hv₂ => ?_
        walk_at "st"
        walk_at "st"
        refine run_gen (fun τ => Ext σ₄ τ ∧ τ.hp e = some (EnumO it (i + 1) (.ref pr.1)) ∧ τ.hp it = some (LIter pl (i + 1)) ∧ PairsAt τ acc F ∧ τ.loc "k" = some (.int i) ∧ τ.loc "pair" = some (.ref pr.1)) ⟨?_, ?_, ?_, ⟨?_, fun p hp => ?_⟩, ?_, ?_⟩ fun σ₆ ⟨e7, he₇, hi₇, hF₇, l1, l2⟩ => ?_
        · exact (((((e6.put hit).put he).put T4).put he).bind).bind
        · exact bind_hp (bind_hp put_same)
        · exact bind_hp (bind_hp (put_ne hei.symm (put_ne iT (put_ne hei.symm put_same))))
        · exact bind_hp (bind_hp (put_ne hae (put_ne aT (put_ne hae (put_ne hai hF.1)))))
        · exact bind_hp (bind_hp (put_ne (pE p hp) (put_ne (hT _ _ (hF.2 p hp)) (put_ne (pE p hp) (put_ne (pI p hp) (hF.2 p hp))))))
        · walk_at "loc"
        · walk_at "loc"
        refine tests_one ?_
        walk_at "st"
        walk_at "st"
        walk_at "st"
        walk_at "st"
        refine n_cell rfl (e7.hp _ _ cN) ?_
        walk_at "ev"
        walk_at "st"
        refine sub_pos (e7.hp _ _ hnl) (by decide) (by decide) (v := .int n2) rfl ?_
        walk_at "ev"
        walk_at "st"
        walk_at "st"
        walk_at "st"
        refine pow_two (by omega) ?_
        walk_at "ev"
        refine div_int (by have := Int.pow_pos (n := 2) (m := i) (by decide); omega) (no_pylong (by omega)) ?_
        walk_at "ev"
        walk_at "st"
        refine mod_int (by decide) ?_
        walk_at "ev"
        walk_at "st"
        refine int_eq ?_
        have pA7 : ∀ p ∈ F, p.1 ≠ acc := pA
        have hacc4 : acc ≠ pr.1 := fun q => by have := e7.hp _ _ hpt; rw [← q, hF₇.1] at this; cases this
        refine ⟨fun _ => ?_, fun _ => ⟨q - 1, by omega, F, .ref pr.1, by omega, e7, by rw [show E.length - (q - 1) = i + 1 by omega]; exact he₇, by rw [show E.length - (q - 1) = i + 1 by omega]; exact hi₇, hF₇, by omega, hFE⟩⟩
        walk_at "st"
        refine append_list hF₇.1 (fits (by rw [List.length_map]; omega)) ?_
        refine ⟨q - 1, by omega, F ++ [pr], .ref pr.1, by omega, e7.put ha2, ?_, ?_, ⟨?_, fun p hp => ?_⟩, ?_, fun p hp => ?_⟩
        · rw [show E.length - (q - 1) = i + 1 by omega]; exact put_ne hae.symm he₇
        · rw [show E.length - (q - 1) = i + 1 by omega]; exact put_ne hai.symm hi₇
        · rw [List.map_append]; exact put_same
        · rcases List.mem_append.mp hp with hp | hp
          · exact put_ne (pA p hp) (hF₇.2 p hp)
          · rw [List.mem_singleton.mp hp]; exact put_ne hacc4.symm (e7.hp _ _ hpt)
        · rw [List.length_append]; simp; omega
        · rcases List.mem_append.mp hp with hp | hp
          · exact hFE p hp
          · rw [List.mem_singleton.mp hp]; exact hum
      · show ∀ v, er v = AV.ref acc → _
        walk_at "ev"
        have pI : ∀ p ∈ F, p.1 ≠ it := fun p hp q => by have := hF.2 p hp; rw [q, hi₆] at this; cases this
        refine run_gen (fun τ => Ext σ₄ τ ∧ PairsAt τ acc F ∧ τ.loc "pairs" = some (.ref pl)) ⟨(e6.drop hit).loc, ⟨loc_hp (drop_ne hai hF.1), fun p hp => loc_hp (drop_ne (pI p hp) (hF.2 p hp))⟩, lp⟩ fun τ' ⟨e7, hF₇, lp₇⟩ => ?_
        have cb := e7.hp _ _ (cc 4 (by decide) (by decide))
        have na : acc ≠ L' + 4 := fun q => by rw [← q, hF₇.1] at cb; cases cb
        have np : ∀ p ∈ F, p.1 ≠ L' + 4 := fun p hp q => by rw [← q, hF₇.2 p hp] at cb; cases cb
        refine store_cell' (by walk_at "er") rfl cb ?_
        refine ⟨rfl, acc, F, (e4.trans e7).put (ff 4), put_ne (hdd 1 4 (by decide)) (e7.hp _ _ cN), put_ne (hdd 2 4 (by decide)) (e7.hp _ _ cM), put_ne (hdd 3 4 (by decide)) (e7.hp _ _ (cc 3 (by decide) (by decide))), put_same, fun i h5 h7 => put_ne (hdd i 4 (by omega)) (e7.hp _ _ (cc i (by omega) h7)), put_ne (hnlC 4 (by decide) (by decide)) (e7.hp _ _ hnl), lp₇, ⟨put_ne ?_ (e7.hp _ _ hP.1), fun p hp => put_ne ?_ (e7.hp _ _ (hP.2 p hp))⟩, ⟨put_ne na hF₇.1, fun p hp => put_ne (np p hp) (hF₇.2 p hp)⟩, by omega, hFE⟩
        · intro q; rw [← q, e7.hp _ _ hP.1] at cb; cases cb
        · intro q; rw [← q, e7.hp _ _ (hP.2 p hp)] at cb; cases cb
  rintro σ₅ ⟨el, F, e5, cN, cM, c3, c4, cc, hnl, lp, hP, hF, hFl, hFE⟩
  -- if numbers[1] % 2 == 0
  refine sN_then (fun σ' => ∃ el F, Ext σ σ' ∧ σ'.hp (L' + 1) = some (.cell (some (.ref nl))) ∧ σ'.hp (L' + 2) = some (.cell (some (.int M))) ∧ σ'.hp (L' + 3) = some (.cell none) ∧ σ'.hp (L' + 4) = some (.cell (some (.ref el))) ∧ (∀ i : Nat, 6 ≤ i → i ≤ 7 → σ'.hp (L' + i) = some (.cell none)) ∧ σ'.hp nl = some (.list (avs (n0 :: n1 :: n2 :: n3 :: nr))) ∧ PairsAt σ' el F ∧ F.length ≤ 49 ∧ ∀ p ∈ F, p ∈ E) ?_ ?_
  · walk_at "st"
    walk_at "st"
    walk_at "st"
    walk_at "st"
    refine n_cell rfl cN ?_
    walk_at "ev"
    walk_at "st"
    refine sub_pos hnl (by decide) (by decide) (v := .int n1) rfl ?_
    walk_at "ev"
    walk_at "st"
    refine mod_int (by decide) ?_
    walk_at "ev"
    walk_at "st"
    refine int_eq ?_
    refine ⟨fun _ => ?_, fun _ => ?_⟩
    · refine s_cons ?_
      refine run_mono (Q := fun f σ' => f = .next ∧ ∃ (al : Addr) (B : List (Addr × Int × Int)), Ext σ σ' ∧ σ'.hp (L' + 1) = some (.cell (some (.ref nl))) ∧ σ'.hp (L' + 2) = some (.cell (some (.int M))) ∧ σ'.hp (L' + 3) = some (.cell none) ∧ σ'.hp (L' + 4) = some (.cell (some (.ref el))) ∧ σ'.hp (L' + 5) = some (.cell (some (.ref al))) ∧ (∀ i : Nat, 6 ≤ i → i ≤ 7 → σ'.hp (L' + i) = some (.cell none)) ∧ σ'.hp nl = some (.list (avs (n0 :: n1 :: n2 :: n3 :: nr))) ∧ σ'.loc "pairs" = some (.ref pl) ∧ PairsAt σ' pl E ∧ PairsAt σ' al B) ?_ ?_
      · walk_at "st"
        refine n_list ?_
        refine a_consT ?_
        refine n_tuple ?_
        refine a_cons ?_
        walk_at "st"
        refine a_cons ?_
        walk_at "st"
        refine a_nil ?_
        refine new_tuple (fits (by simp)) fun t1 ht1 => ?_
        walk_at "ev"
        refine a_consT ?_
        refine n_tuple ?_
        refine a_cons ?_
        walk_at "st"
        refine a_cons ?_
        walk_at "st"
        refine a_nil ?_
        refine new_tuple (fits (by simp)) fun t2 ht2 => ?_
        walk_at "ev"
        refine a_consT ?_
        refine n_tuple ?_
        refine a_cons ?_
        walk_at "st"
        refine a_cons ?_
        walk_at "st"
        refine a_nil ?_
        refine new_tuple (fits (by simp)) fun t3 ht3 => ?_
        walk_at "ev"
        refine a_consT ?_
        refine n_tuple ?_
        refine a_cons ?_
        walk_at "st"
        refine a_cons ?_
        walk_at "st"
        refine a_nil ?_
        refine new_tuple (fits (by simp)) fun t4 ht4 => ?_
        walk_at "ev"
        refine a_consT ?_
        refine n_tuple ?_
        refine a_cons ?_
        walk_at "st"
        refine a_cons ?_
        walk_at "st"
        refine a_nil ?_
        refine new_tuple (fits (by simp)) fun t5 ht5 => ?_
        walk_at "ev"
        refine a_consT ?_
        refine n_tuple ?_
        refine a_cons ?_
        walk_at "st"
        refine a_cons ?_
        walk_at "st"
        refine n_cell rfl (put_new ht5 (put_new ht4 (put_new ht3 (put_new ht2 (put_new ht1 cM))))) ?_
        walk_at "ev"
        walk_at "st"
        refine sub_int ?_
        walk_at "ev"
        refine a_nil ?_
        refine new_tuple (fits (by simp)) fun t6 ht6 => ?_
        walk_at "ev"
        refine a_nil ?_
        refine new_list (fits (by simp)) fun al hal => ?_
        walk_at "ev"
        have f1 : Fresh σ₅ t1 := fun b ao q => ht1 b ao q
        have f2 : Fresh σ₅ t2 := fun b ao q => ht2 b ao (put_new ht1 q)
        have f3 : Fresh σ₅ t3 := fun b ao q => ht3 b ao (put_new ht2 (put_new ht1 q))
        have f4 : Fresh σ₅ t4 := fun b ao q => ht4 b ao (put_new ht3 (put_new ht2 (put_new ht1 q)))
        have f5 : Fresh σ₅ t5 := fun b ao q => ht5 b ao (put_new ht4 (put_new ht3 (put_new ht2 (put_new ht1 q))))
        have f6 : Fresh σ₅ t6 := fun b ao q => ht6 b ao (put_new ht5 (put_new ht4 (put_new ht3 (put_new ht2 (put_new ht1 q)))))
        have fal : Fresh σ₅ al := fun b ao q => hal b ao (put_new ht6 (put_new ht5 (put_new ht4 (put_new ht3 (put_new ht2 (put_new ht1 q))))))
        refine run_gen (fun τ => Ext σ₅ τ ∧ τ.loc = σ₅.loc ∧ PairsAt τ al [(t1, 0, 1), (t2, 0, 2), (t3, 0, 3), (t4, 1, 4), (t5, 2, 5), (t6, 3, (M : Int) - 1)]) ⟨((((((Ext.refl.put f1).put f2).put f3).put f4).put f5).put f6).put fal, rfl, put_same, fun p hp => ?_⟩ fun τ ⟨eτ, lτ, hτ⟩ => ?_
        · simp only [List.mem_cons, List.not_mem_nil, or_false] at hp
          rcases hp with rfl | rfl | rfl | rfl | rfl | rfl
          · exact put_new hal (put_new ht6 (put_new ht5 (put_new ht4 (put_new ht3 (put_new ht2 put_same)))))
          · exact put_new hal (put_new ht6 (put_new ht5 (put_new ht4 (put_new ht3 put_same))))
          · exact put_new hal (put_new ht6 (put_new ht5 (put_new ht4 put_same)))
          · exact put_new hal (put_new ht6 (put_new ht5 put_same))
          · exact put_new hal (put_new ht6 put_same)
          · exact put_new hal put_same
        have cb := eτ.hp _ _ (cc 5 (by decide) (by decide))
        have hb : ∀ {b : Addr} {ao : AO}, σ₅.hp b = some ao → ao ≠ .cell none → (τ.put (L' + 5) (.cell (some (.ref al)))).hp b = some ao := fun q hn => put_ne (fun w => hn (by rw [w, cc 5 (by decide) (by decide)] at q; exact (Option.some.inj q).symm)) (eτ.hp _ _ q)
        refine store_cell' (by walk_at "er") rfl cb ?_
        refine ⟨rfl, al, _, (e5.trans eτ).put (ff 5), hb cN (by simp), hb cM (by simp), put_ne (hdd 3 5 (by decide)) (eτ.hp _ _ c3), hb c4 (by simp), put_same, fun i h6 h7 => put_ne (hdd i 5 (by omega)) (eτ.hp _ _ (cc i (by omega) h7)), hb hnl (by simp), ?_, ⟨hb hP.1 (by simp), fun p hp => hb (hP.2 p hp) (by simp)⟩, ⟨put_ne ?_ hτ.1, fun p hp => put_ne ?_ (hτ.2 p hp)⟩⟩
        · show τ.loc "pairs" = _
          rw [lτ]; exact lp
        · intro w; rw [← w, hτ.1] at cb; cases cb
        · intro w; rw [← w, hτ.2 p hp] at cb; cases cb
      · rintro _ σ₆ ⟨rfl, al, B, e6, cN, cM, c3, c4, c5, cc, hnl, lp, hP, hB⟩
        show Run _ (execs _ _) _ σ₆
        refine s_cons ?_
        walk_at "st"
        refine n_listcomp rfl ?_
        refine n_call1 ?_
        walk_at "st"
        refine ⟨by walk_at "keep", a_cons ?_⟩
        walk_at "st"
        refine a_nil ?_
        refine call_enum hP.1 fun e it he hit hei => ?_
        walk_at "ev"
        refine iter_enum put_same ?_
        walk_at "ev"
        refine new_list (Nat.zero_le _) fun acc hacc => ?_
        walk_at "ev"
        have hae : acc ≠ e := fun q => hacc _ _ put_same q.symm
        have hai : acc ≠ it := fun q => hacc _ _ (put_ne hei.symm put_same) q.symm
        have ha2 : Fresh σ₆ acc := fun b ao q => hacc b ao (put_ne (he _ _ q) (put_new hit q))
        refine comp_goN (self_enum (put_ne (Ne.symm hae) put_same)) fun L₂ σy hf₂ hEy => ?_
        refine ⟨fun q σ' => ∃ F old, q ≤ E.length ∧ Ext σ₆ σ' ∧ σ'.hp e = some (EnumO it (E.length - q) old) ∧ σ'.hp it = some (LIter pl (E.length - q)) ∧ PairsAt σ' acc F ∧ F.length ≤ E.length - q ∧ (∀ p ∈ F, p ∈ E), E.length, ⟨[], .none, Nat.le_refl _, ?_⟩, ?_⟩
        · rw [Nat.sub_self]
          exact ⟨(((Ext.refl.put hit).put he).put ha2).trans hEy, hEy.hp _ _ (put_ne (Ne.symm hae) put_same), hEy.hp _ _ (put_ne (Ne.symm hai) (put_ne hei.symm put_same)), ⟨hEy.hp _ _ put_same, by simp⟩, Nat.zero_le _, by simp⟩
        · rintro q τ ⟨F, old, hq, ez, he₆, hi₆, hF, hFl, hFE⟩
          refine turn_list1 ?_
          refine next_enum hA'.h he₆ hi₆ (ez.hp _ _ hP.1) (fun hlt T u hu hT => ?_) (fun hge => ?_)
          · have hlt' : E.length - q < E.length := by simpa using hlt
            generalize hi : E.length - q = i at *
            have hii : i < E.length := hlt'
            have hui : (E.map fun p => AV.ref p.1)[i]'(by simpa using hii) = .ref E[i].1 := by simp
            have hum : E[i] ∈ E := List.getElem_mem hii
            have hpt := hP.2 _ hum
            rw [hui] at hu ⊢
            generalize E[i] = pr at *
            cases er_ref hu
            have eT : e ≠ T := hT _ _ he₆
            have iT : it ≠ T := hT _ _ hi₆
            have aT : acc ≠ T := hT _ _ hF.1
            have T6 : Fresh σ₆ T := ez.fresh hT
            have pI : ∀ p ∈ F, p.1 ≠ it := fun p hp q => by have := hF.2 p hp; rw [q, hi₆] at this; cases this
            have pE : ∀ p ∈ F, p.1 ≠ e := fun p hp q => by have := hF.2 p hp; rw [q, he₆] at this; cases this
            have pA : ∀ p ∈ F, p.1 ≠ acc := fun p hp q => by have := hF.2 p hp; rw [q, hF.1] at this; cases this
            refine lot_enum (put_ne eT put_same) ?_
            refine asg_tup2 hA'.h (put_ne eT.symm put_same) fun v₁ v₂ hv₁ hv₂ => ?_
            walk_at "st"
            walk_at "st"
            refine run_gen (fun τ => Ext σ₆ τ ∧ τ.hp e = some (EnumO it (i + 1) (.ref pr.1)) ∧ τ.hp it = some (LIter pl (i + 1)) ∧ PairsAt τ acc F ∧ τ.loc "k" = some (.int i) ∧ τ.loc "pair" = some (.ref pr.1)) ⟨?_, ?_, ?_, ⟨?_, fun p hp => ?_⟩, ?_, ?_⟩ fun σz ⟨e7, he₇, hi₇, hF₇, l1, l2⟩ => ?_
            · exact (((((ez.put hit).put he).put T6).put he).bind).bind
            · exact bind_hp (bind_hp put_same)
            · exact bind_hp (bind_hp (put_ne hei.symm (put_ne iT (put_ne hei.symm put_same))))
            · exact bind_hp (bind_hp (put_ne hae (put_ne aT (put_ne hae (put_ne hai hF.1)))))
            · exact bind_hp (bind_hp (put_ne (pE p hp) (put_ne (hT _ _ (hF.2 p hp)) (put_ne (pE p hp) (put_ne (pI p hp) (hF.2 p hp))))))
            · walk_at "loc"
            · walk_at "loc"
            refine tests_any (fun ok => ?_) fun Q' hQ' => ?_
            rotate_left
            · refine tests_one ?_
              walk_at "st"
              refine t_or ?_
              walk_at "st"
              walk_at "st"
              refine n_cell rfl (e7.hp _ _ c5) ?_
              walk_at "ev"
              refine in_pairs (by show A'.units + 20 < 9900; rw [hu']; omega) (PairsAt.ext hB e7.hp) (e7.hp _ _ hpt) ⟨fun _ => hQ' true, fun _ => ?_⟩
              refine t_or ?_
              walk_at "st"
              refine t_and ?_
              walk_at "st"
              walk_at "st"
              walk_at "st"
              walk_at "st"
              refine n_cell rfl (e7.hp _ _ cN) ?_
              walk_at "ev"
              walk_at "st"
              refine sub_pos (e7.hp _ _ hnl) (by decide) (by decide) (v := .int n2) rfl ?_
              walk_at "ev"
              walk_at "st"
              walk_at "st"
              walk_at "st"
              refine pow_two (by omega) ?_
              walk_at "ev"
              refine div_int (by have := Int.pow_pos (n := 2) (m := i) (by decide); omega) (no_pylong (by omega)) ?_
              walk_at "ev"
              walk_at "st"
              refine mod_int (by decide) ?_
              walk_at "ev"
              walk_at "st"
              refine int_eq ?_
              refine ⟨fun _ => ?_, fun _ => ⟨fun q => absurd q (by decide), fun _ => t_or_nil (hQ' false)⟩⟩
              refine t_and ?_
              walk_at "st"
              walk_at "st"
              walk_at "st"
              walk_at "st"
              refine n_cell rfl (e7.hp _ _ cN) ?_
              walk_at "ev"
              walk_at "st"
              refine sub_pos (e7.hp _ _ hnl) (by decide) (by decide) (v := .int n3) rfl ?_
              walk_at "ev"
              walk_at "st"
              walk_at "st"
              walk_at "st"
              refine pow_two (by omega) ?_
              walk_at "ev"
              refine div_int (by have := Int.pow_pos (n := 2) (m := i) (by decide); omega) (no_pylong (by omega)) ?_
              walk_at "ev"
              walk_at "st"
              refine mod_int (by decide) ?_
              walk_at "ev"
              walk_at "st"
              refine int_eq ?_
              refine ⟨fun _ => t_and_nil ⟨fun _ => hQ' true, fun q => absurd q (by decide)⟩, fun _ => ⟨fun q => absurd q (by decide), fun _ => t_or_nil (hQ' false)⟩⟩
            have pA7 : ∀ p ∈ F, p.1 ≠ acc := pA
            have hacc4 : acc ≠ pr.1 := fun q => by have := e7.hp _ _ hpt; rw [← q, hF₇.1] at this; cases this
            refine ⟨fun _ => ?_, fun _ => ⟨q - 1, by omega, F, .ref pr.1, by omega, e7, by rw [show E.length - (q - 1) = i + 1 by omega]; exact he₇, by rw [show E.length - (q - 1) = i + 1 by omega]; exact hi₇, hF₇, by omega, hFE⟩⟩
            walk_at "st"
            refine append_list hF₇.1 (fits (by rw [List.length_map]; omega)) ?_
            refine ⟨q - 1, by omega, F ++ [pr], .ref pr.1, by omega, e7.put ha2, ?_, ?_, ⟨?_, fun p hp => ?_⟩, ?_, fun p hp => ?_⟩
            · rw [show E.length - (q - 1) = i + 1 by omega]; exact put_ne hae.symm he₇
            · rw [show E.length - (q - 1) = i + 1 by omega]; exact put_ne hai.symm hi₇
            · rw [List.map_append]; exact put_same
            · rcases List.mem_append.mp hp with hp | hp
              · exact put_ne (pA p hp) (hF₇.2 p hp)
              · rw [List.mem_singleton.mp hp]; exact put_ne hacc4.symm (e7.hp _ _ hpt)
            · rw [List.length_append]; simp; omega
            · rcases List.mem_append.mp hp with hp | hp
              · exact hFE p hp
              · rw [List.mem_singleton.mp hp]; exact hum
          · show ∀ v, er v = AV.ref acc → _
            walk_at "ev"
            have pI : ∀ p ∈ F, p.1 ≠ it := fun p hp q => by have := hF.2 p hp; rw [q, hi₆] at this; cases this
            refine run_gen (fun τ => Ext σ₆ τ ∧ PairsAt τ acc F ∧ τ.loc "pairs" = some (.ref pl)) ⟨(ez.drop hit).loc, ⟨loc_hp (drop_ne hai hF.1), fun p hp => loc_hp (drop_ne (pI p hp) (hF.2 p hp))⟩, lp⟩ fun τ' ⟨e7, hF₇, lp₇⟩ => ?_
            have cb := e7.hp _ _ c4
            have hb : ∀ {b : Addr} {ao : AO}, τ'.hp b = some ao → ao ≠ .cell (some (.ref el)) → (τ'.put (L' + 4) (.cell (some (.ref acc)))).hp b = some ao := fun q hn => put_ne (fun w => hn (by rw [w, cb] at q; exact (Option.some.inj q).symm)) q
            refine store_cell' (by walk_at "er") rfl cb ?_
            refine s_nil ?_
            exact ⟨rfl, acc, F, (e6.trans e7).put (ff 4), put_ne (hdd 1 4 (by decide)) (e7.hp _ _ cN), put_ne (hdd 2 4 (by decide)) (e7.hp _ _ cM), put_ne (hdd 3 4 (by decide)) (e7.hp _ _ c3), put_same, fun i h5 h7 => put_ne (hdd i 4 (by omega)) (e7.hp _ _ (cc i (by omega) h7)), put_ne (hnlC 4 (by decide) (by decide)) (e7.hp _ _ hnl), ⟨hb hF₇.1 (by simp), fun p hp => hb (hF₇.2 p hp) (by simp)⟩, by omega, hFE⟩
    · refine s_nil ?_
      exact ⟨rfl, el, F, e5, cN, cM, c3, c4, fun i h6 h7 => cc i (by omega) h7, hnl, hF, hFl, hFE⟩
  rintro σ₆ ⟨el', F', e6, cN, cM, c3, c4, cc, hnl, hF, hFl, hFE⟩
  -- G = Graph()
  refine sN_then (fun σ' => ∃ (g d gd nd ad : Addr) (ia : Int → Addr), Ext σ₆ σ' ∧ σ'.loc "G" = some (.ref g) ∧ Fresh σ₆ d ∧ Fresh σ₆ nd ∧ Fresh σ₆ ad ∧ GraphAt σ' g d gd nd ad ia [] (fun _ => []) [] false) ?_ ?_
  · walk_at "st"
    refine n_call0 ?_
    walk_at "st"
    refine ⟨by walk_at "keep", ?_⟩
    refine graph_new (hA'.less (by omega)) fun σ' g d gd nd ad ia e1 e2 fg fd fn fa G => ?_
    walk_at "ev"
    walk_at "st"
    exact ⟨rfl, g, d, gd, nd, ad, ia, e1.bind, loc_same, fd, fn, fa, G.keep (KeepG.bind KeepG.refl)⟩
  rintro σ₇ ⟨g, d, gd, nd, ad, ia₀, e7, lG, fd6, fn6, fa6, G₇⟩
  -- its nodes
  have rnd : (rot (n1.fdiv 2) M M).Nodup := rot_nodup (by omega) M (Nat.le_refl _)
  have cM7 := e7.hp _ _ cM
  have cN7 := e7.hp _ _ cN
  have hnl7 := e7.hp _ _ hnl
  refine sN_then (fun σ' => ∃ (ia : Int → Addr), Ext σ₆ σ' ∧ σ'.loc "G" = some (.ref g) ∧ GraphAt σ' g d gd nd ad ia (rot (n1.fdiv 2) M M) (fun _ => []) [] false ∧ ∀ n ∈ rot (n1.fdiv 2) M M, Fresh σ₆ (ia n)) ?_ ?_
  · walk_at "st"
    refine n_meth1 ?_
    walk_at "st"
    refine g_meth G₇ (gkvs_none G₇.exs) (by k_is) (by k_is) (by k_is) ⟨by walk_at "keep", ?_⟩
    refine n_listcomp rfl ?_
    refine n_call1 ?_
    walk_at "st"
    refine ⟨by walk_at "keep", a_cons ?_⟩
    refine n_cell rfl cM7 ?_
    walk_at "ev"
    refine a_nil ?_
    refine call_range fun r0 u0 v0 hr0 => ?_
    walk_at "ev"
    refine iter_range (n := M) put_same (by omega) fun I hI => ?_
    walk_at "ev"
    refine new_list (Nat.zero_le _) fun l hl => ?_
    walk_at "ev"
    have hI7 : Fresh σ₇ I := hI.put hr0
    have hl7 : Fresh σ₇ l := fun b ao q => hl b ao (put_ne (hI7 _ _ q) (put_new hr0 q))
    have hIl : I ≠ l := hl _ _ put_same
    refine comp_goN (self_range (put_new hl put_same)) fun L₂ σ₈ hf₂ hE₈ => ?_
    refine ⟨fun q σ' => q ≤ M ∧ Ext σ₇ σ' ∧ σ'.hp I = some (RIter (M - q) M) ∧ σ'.hp l = some (.list (avs (rot (n1.fdiv 2) M (M - q)))), M, ⟨Nat.le_refl _, ?_⟩, ?_⟩
    · rw [Nat.sub_self]
      exact ⟨(((Ext.refl.put hr0).put hI7).put hl7).trans hE₈, hE₈.hp _ _ (put_ne hIl put_same), hE₈.hp _ _ put_same⟩
    · rintro q τ ⟨hq, eT, hIT, hlT⟩
      refine turn_list1 ?_
      refine next_range hA'.h hIT (Nat.sub_le _ _) (fun hlt t => ?_) (fun he => ?_)
      · generalize hi : M - q = i at *
        walk_at "st"
        walk_at "st"
        walk_at "st"
        refine tests_nil ⟨fun _ => ?_, fun q' => absurd q' (by decide)⟩
        refine runV_gen (fun τ' => Ext σ₇ τ' ∧ τ'.hp I = some (RIter (i + 1) M) ∧ τ'.hp l = some (.list (avs (rot (n1.fdiv 2) M i))) ∧ τ'.loc "v" = some (.int i)) ⟨(eT.put hI7).bind, bind_hp put_same, bind_hp (put_ne hIl.symm hlT), loc_same⟩ fun τ₀ ⟨e0, hI0, hl0, lv⟩ => ?_
        walk_at "st"
        walk_at "st"
        walk_at "st"
        walk_at "st"
        walk_at "st"
        refine n_cell rfl (e0.hp _ _ cN7) ?_
        walk_at "ev"
        walk_at "st"
        refine sub_pos (e0.hp _ _ hnl7) (by decide) (by decide) (v := .int n1) rfl ?_
        walk_at "ev"
        walk_at "st"
        refine div_int (by decide) (no_pylong (a := n1) (k := 1) (by decide)) ?_
        walk_at "ev"
        refine add_int ?_
        walk_at "ev"
        refine n_cell rfl (e0.hp _ _ cM7) ?_
        walk_at "ev"
        refine mod_int (by omega) ?_
        walk_at "ev"
        refine append_list hl0 (fits (by rw [List.length_map, rot_len]; omega)) ?_
        refine ⟨q - 1, by omega, by omega, e0.put hl7, ?_, ?_⟩
        · rw [show M - (q - 1) = i + 1 by omega]; exact put_ne hIl hI0
        · rw [show M - (q - 1) = i + 1 by omega, rot_succ]
          refine put_same.trans ?_
          unfold avs
          rw [List.map_append]; rfl
      · show ∀ v, er v = AV.ref l → _
        walk_at "ev"
        have hq0 : M - q = M := by omega
        rw [hq0] at hlT
        refine runV_gen (fun τ => Ext σ₇ τ ∧ τ.loc = σ₇.loc ∧ τ.hp l = some (.list (avs (rot (n1.fdiv 2) M M)))) ⟨(eT.drop hI7).loc, rfl, loc_hp (drop_ne hIl.symm hlT)⟩ fun τ' ⟨e1, w1, hl1⟩ => ?_
        refine add_nodes_spec (hA'.less (by omega)) (G₇.keep (.ext e1)) hl1 rnd (by rw [rot_len]; omega) fun σ' ia' k1 g1 loc1 G1 fr1 => ?_
        walk_at "ev"
        refine drop_none ?_
        have e71 := e7.trans e1
        exact ⟨rfl, ia', ⟨fun b ao e => k1 b ao (fn6 _ _ e) (fa6 _ _ e) (e71.hp _ _ e), g1.trans e71.gs⟩, by rw [loc1, w1]; exact lG, G1, fun n hn b ao e => fr1 n hn b ao (e71.hp _ _ e)⟩
  rintro σ₈ ⟨ia, e8, lG, G₈, fia⟩
  have hpairs : ∀ p ∈ F', 0 ≤ p.2.1 ∧ p.2.1 < p.2.2 ∧ p.2.2 < M := fun p hp => hEv p (hFE p hp)
  have inrot : ∀ n : Int, n ∈ rot (n1.fdiv 2) M M ↔ 0 ≤ n ∧ n < M := fun n => ⟨rot_mem (by omega), fun ⟨a, b⟩ => rot_all a b⟩
  refine sN_then (fun σ' => ∃ (nb : Int → List Int), Ext σ₆ σ' ∧ σ'.loc "G" = some (.ref g) ∧ GraphAt σ' g d gd nd ad ia (rot (n1.fdiv 2) M M) nb [] false ∧ WF (rot (n1.fdiv 2) M M) nb ∧ (∀ n m, m ∈ nb n ↔ (n, m) ∈ F'.map (·.2) ∨ (m, n) ∈ F'.map (·.2))) ?_ ?_
  · walk_at "st"
    refine n_meth1 ?_
    walk_at "st"
    refine g_meth G₈ (gkvs_none G₈.exs) (by k_is) (by k_is) (by k_is) ⟨by walk_at "keep", ?_⟩
    refine n_cell rfl (e8.hp _ _ c4) ?_
    walk_at "ev"
    have hF8 := PairsAt.ext hF e8.hp
    refine add_edges_spec (hA'.less (by omega)) G₈ (fun n _ => ⟨.nil, by simp⟩) (by rw [rot_len]; omega) (l := el') (E := F') hF8.1 (fun p hp => ?_) fun σ' nb k1 g1 loc1 G1 w1 hnb => ?_
    · obtain ⟨q0, q1, q2⟩ := hpairs p hp
      exact ⟨hF8.2 p hp, (inrot _).mpr ⟨q0, by omega⟩, (inrot _).mpr ⟨by omega, q2⟩, by omega⟩
    · walk_at "ev"
      refine drop_none ?_
      refine ⟨rfl, nb, ⟨fun b ao e => k1 b ao (fun n hn => fia n hn _ _ e) (e8.hp _ _ e), g1.trans e8.gs⟩, by rw [loc1]; exact lG, G1, w1, fun n m => ?_⟩
      rw [hnb]
      simp only [List.not_mem_nil, false_or, List.mem_map]
      constructor
      · rintro ⟨p, hp, (⟨rfl, rfl⟩ | ⟨rfl, rfl⟩)⟩
        · exact .inl ⟨p, hp, rfl⟩
        · exact .inr ⟨p, hp, rfl⟩
      · rintro (⟨p, hp, e⟩ | ⟨p, hp, e⟩)
        · exact ⟨p, hp, .inl ⟨by rw [e], by rw [e]⟩⟩
        · exact ⟨p, hp, .inr ⟨by rw [e], by rw [e]⟩⟩
  rintro σ₉ ⟨nb, e9, lG, G₉, wf₉, hnb⟩
  have cM9 := e9.hp _ _ cM
  have c49 := e9.hp _ _ c4
  have hF9 := PairsAt.ext hF e9.hp
  -- near
  refine sN_then (fun σ' => ∃ (nr : Addr), σ'.loc "G" = some (.ref g) ∧ σ'.hp (L' + 2) = some (.cell (some (.int M))) ∧ GraphAt σ' g d gd nd ad ia (rot (n1.fdiv 2) M M) nb [] false ∧ σ'.hp (L' + 6) = some (.cell (some (.ref nr))) ∧ σ'.hp (L' + 3) = some (.cell none) ∧ σ'.hp (L' + 7) = some (.cell none) ∧ NearAt σ' nr (ups M) (nbL (F'.map (·.2)) M)) ?_ ?_
  · walk_at "st"
    refine n_dictcomp rfl ?_
    refine n_call1 ?_
    walk_at "st"
    refine ⟨by walk_at "keep", a_cons ?_⟩
    refine n_cell rfl cM9 ?_
    walk_at "ev"
    refine a_nil ?_
    refine call_range fun r0 u0 v0 hr0 => ?_
    walk_at "ev"
    refine iter_range (n := M) put_same (by omega) fun I hI => ?_
    walk_at "ev"
    refine new_idict fun ds hds => ?_
    walk_at "ev"
    have hI9 : Fresh σ₉ I := hI.put hr0
    have hds9 : Fresh σ₉ ds := fun b ao q => hds b ao (put_ne (hI9 _ _ q) (put_new hr0 q))
    have hId : I ≠ ds := hds _ _ put_same
    refine comp_go (self_range (put_new hds put_same)) (fun L₂ τ => τ.hp (L₂ + 1) = some (.cell none)) (fun L₂ _ => cell_none (n := "v") (fun p _ => rfl) (by simp [cellsFrom])) fun L₂ σ₁₀ hf₂ hE₁₀ cv => ?_
    have f21 := hf₂ (L₂ + 1) (Nat.le_succ _)
    have c29 : Fresh σ₉ (L₂ + 1) := fun b ao q => f21 b ao (put_ne (hds9 _ _ q) (put_ne (hI9 _ _ q) (put_new hr0 q)))
    have c2I : I ≠ L₂ + 1 := f21 _ _ (put_ne hId put_same)
    have c2d : ds ≠ L₂ + 1 := f21 _ _ put_same
    refine ⟨fun q τ => ∃ kvs ep cvv, q ≤ M ∧ Ext σ₉ τ ∧ τ.hp I = some (RIter (M - q) M) ∧ τ.hp (L₂ + 1) = some (.cell cvv) ∧ τ.hp ds = some (.idict kvs ep) ∧ kvs.length ≤ M - q ∧ ∀ v ∈ ups (M - q), ∃ l, aget kvs v = some (.ref l) ∧ τ.hp l = some (.list (avs (nbL (F'.map (·.2)) M v))), M, ⟨[], 0, none, Nat.le_refl _, ?_⟩, ?_⟩
    · rw [Nat.sub_self]
      exact ⟨(((Ext.refl.put hr0).put hI9).put hds9).trans hE₁₀, hE₁₀.hp _ _ (put_ne hId put_same), cv, hE₁₀.hp _ _ put_same, Nat.zero_le _, by simp [ups]⟩
    · rintro q τ ⟨kvs, ep, cvv, hq, eT, hIT, cvT, hdT, hkl, hall⟩
      refine turn_dict1 ?_
      refine next_range hA'.h hIT (Nat.sub_le _ _) (fun hlt t => ?_) (fun he => ?_)
      · generalize hi : M - q = i at *
        walk_at "st"
        walk_at "st"
        refine store_cell' (by walk_at "er") rfl (put_ne c2I.symm cvT) ?_
        refine runV_gen (fun τ' => Ext σ₉ τ' ∧ τ'.hp I = some (RIter (i + 1) M) ∧ τ'.hp (L₂ + 1) = some (.cell (some (.int i))) ∧ τ'.hp ds = some (.idict kvs ep) ∧ ∀ v ∈ ups i, ∃ l, aget kvs v = some (.ref l) ∧ τ'.hp l = some (.list (avs (nbL (F'.map (·.2)) M v)))) ⟨(eT.put hI9).put c29, put_ne c2I put_same, put_same, put_ne c2d (put_ne hId.symm hdT), fun v hv => ?_⟩ fun τ₀ ⟨e0, hI0, cv0, hd0, hall0⟩ => ?_
        · obtain ⟨l, q1, q2⟩ := hall v hv
          refine ⟨l, q1, put_ne (fun e => ?_) (put_ne (fun e => ?_) q2)⟩
          · rw [e, cvT] at q2; cases q2
          · rw [e, hIT] at q2; cases q2
        refine n_cell rfl cv0 ?_
        walk_at "ev"
        refine n_listcomp rfl ?_
        refine n_call1 ?_
        walk_at "st"
        refine ⟨by walk_at "keep", a_cons ?_⟩
        refine n_cell rfl (e0.hp _ _ cM9) ?_
        walk_at "ev"
        refine a_nil ?_
        refine call_range fun r1 u1 v1 hr1 => ?_
        walk_at "ev"
        refine iter_range (n := M) put_same (by omega) fun J hJ => ?_
        walk_at "ev"
        refine new_list (Nat.zero_le _) fun acc hacc => ?_
        walk_at "ev"
        have hJ0 : Fresh τ₀ J := hJ.put hr1
        have hacc0 : Fresh τ₀ acc := fun b ao q => hacc b ao (put_ne (hJ0 _ _ q) (put_new hr1 q))
        have hJa : J ≠ acc := hacc _ _ put_same
        refine comp_goN (self_range (put_new hacc put_same)) fun L₃ σ₁₁ hf₃ hE₁₁ => ?_
        refine ⟨fun m τ' => m ≤ M ∧ Ext τ₀ τ' ∧ τ'.hp J = some (RIter (M - m) M) ∧ τ'.hp acc = some (.list (avs ((ups (M - m)).filter (hit (F'.map (·.2)) i)))), M, ⟨Nat.le_refl _, ?_⟩, ?_⟩
        · rw [Nat.sub_self]
          exact ⟨(((Ext.refl.put hr1).put hJ0).put hacc0).trans hE₁₁, hE₁₁.hp _ _ (put_ne hJa put_same), hE₁₁.hp _ _ put_same⟩
        · rintro m τ₁ ⟨hm, e1, hJ1, hacc1⟩
          refine turn_list1 ?_
          refine next_range hA'.h hJ1 (Nat.sub_le _ _) (fun hlt2 t2 => ?_) (fun he2 => ?_)
          · generalize hj : M - m = j at *
            walk_at "st"
            walk_at "st"
            walk_at "st"
            refine tests_fact (F := fun b τ' => b = hit (F'.map (·.2)) i j ∧ Ext τ₀ τ' ∧ τ'.hp J = some (RIter (j + 1) M) ∧ τ'.hp acc = some (.list (avs ((ups j).filter (hit (F'.map (·.2)) i)))) ∧ τ'.loc "u" = some (.int j)) ?_ ?_
            · refine run_gen (fun τ' => Ext τ₀ τ' ∧ τ'.hp J = some (RIter (j + 1) M) ∧ τ'.hp acc = some (.list (avs ((ups j).filter (hit (F'.map (·.2)) i)))) ∧ τ'.loc "u" = some (.int j)) ⟨(e1.put hJ0).bind, bind_hp put_same, bind_hp (put_ne hJa.symm hacc1), loc_same⟩ fun τ₂ ⟨e2, hJ2, hacc2, lu⟩ => ?_
              refine tests_one ?_
              walk_at "st"
              refine t_or ?_
              walk_at "st"
              refine n_tuple ?_
              refine a_cons ?_
              walk_at "st"
              refine a_cons ?_
              refine n_cell rfl (e2.hp _ _ cv0) ?_
              walk_at "ev"
              refine a_nil ?_
              refine new_tuple (fits (by simp)) fun tp htp => ?_
              walk_at "ev"
              have e3 : Ext τ₀ (τ₂.put tp (.tup [.int j, .int i])) := e2.put (e2.fresh htp)
              refine n_cell rfl (e3.hp _ _ (e0.hp _ _ c49)) ?_
              walk_at "ev"
              refine in_pairs (by show A'.units + 20 < 9900; rw [hu']; omega) (PairsAt.ext hF9 (fun b ao q => e3.hp _ _ (e0.hp _ _ q))) put_same ⟨fun h1 => ⟨by unfold hit; rw [h1]; rfl, e3, put_new htp hJ2, put_new htp hacc2, lu⟩, fun h1 => ?_⟩
              have lu3 : (τ₂.put tp (.tup [.int j, .int i])).loc "u" = some (.int j) := lu
              have hJ3 := put_new (ao := .tup [.int j, .int i]) htp hJ2
              have hacc3 := put_new (ao := .tup [.int j, .int i]) htp hacc2
              refine run_gen (fun τ' => Ext τ₀ τ' ∧ τ'.hp J = some (RIter (j + 1) M) ∧ τ'.hp acc = some (.list (avs ((ups j).filter (hit (F'.map (·.2)) i)))) ∧ τ'.loc "u" = some (.int j)) ⟨e3, hJ3, hacc3, lu3⟩ fun τ₃ ⟨e3, hJ3, hacc3, lu3⟩ => ?_
              refine t_or ?_
              walk_at "st"
              refine n_tuple ?_
              refine a_cons ?_
              refine n_cell rfl (e3.hp _ _ cv0) ?_
              walk_at "ev"
              refine a_cons ?_
              walk_at "st"
              refine a_nil ?_
              refine new_tuple (fits (by simp)) fun tq htq => ?_
              walk_at "ev"
              have e4 : Ext τ₀ (τ₃.put tq (.tup [.int i, .int j])) := e3.put (e3.fresh htq)
              refine n_cell rfl (e4.hp _ _ (e0.hp _ _ c49)) ?_
              walk_at "ev"
              refine in_pairs (by show A'.units + 20 < 9900; rw [hu']; omega) (PairsAt.ext hF9 (fun b ao q => e4.hp _ _ (e0.hp _ _ q))) put_same ⟨fun h2 => ⟨by unfold hit; rw [h1, h2]; rfl, e4, put_new htq hJ3, put_new htq hacc3, lu3⟩, fun h2 => t_or_nil ⟨by unfold hit; rw [h1, h2]; rfl, e4, put_new htq hJ3, put_new htq hacc3, lu3⟩⟩
            · rintro b τ₂ ⟨hb, e2, hJ2, hacc2, lu⟩
              refine ⟨fun hbt => ?_, fun hbf => ⟨m - 1, by omega, by omega, e2, by rw [show M - (m - 1) = j + 1 by omega]; exact hJ2, ?_⟩⟩
              · walk_at "st"
                refine append_list hacc2 (fits (by rw [List.length_map]; exact Nat.lt_of_le_of_lt (List.length_filter_le _ _) (by rw [ups_len]; omega))) ?_
                refine ⟨m - 1, by omega, by omega, e2.put hacc0, by rw [show M - (m - 1) = j + 1 by omega]; exact put_ne hJa hJ2, ?_⟩
                rw [show M - (m - 1) = j + 1 by omega, ups_succ, List.filter_append, List.filter_cons_of_pos (by rw [← hb]; exact hbt), List.filter_nil, put_same]
                unfold avs
                rw [List.map_append]; rfl
              · rw [show M - (m - 1) = j + 1 by omega, ups_succ, List.filter_append, List.filter_cons_of_neg (by rw [← hb, hbf]; decide), List.filter_nil, List.append_nil]
                exact hacc2
          · show ∀ v, er v = AV.ref acc → _
            walk_at "ev"
            have hm0 : M - m = M := by omega
            rw [hm0] at hacc1
            refine run_gen (fun τ' => Ext τ₀ τ' ∧ τ'.hp acc = some (.list (avs (nbL (F'.map (·.2)) M i)))) ⟨(e1.drop hJ0).loc, loc_hp (drop_ne hJa.symm hacc1)⟩ fun τ₂ ⟨e2, hacc2⟩ => ?_
            refine set_idict (e2.hp _ _ hd0) (fits (by omega)) fun ep' => ?_
            have e02 := e0.trans e2
            have nd2 : ∀ {b : Addr} {ao : AO}, τ₂.hp b = some ao → b ≠ ds ∨ ao = .idict kvs ep := fun {b ao} q => by
              by_cases hb : b = ds
              · rw [hb, e2.hp _ _ hd0] at q; exact .inr (Option.some.inj q).symm
              · exact .inl hb
            refine ⟨q - 1, by omega, _, ep', _, by omega, e02.put hds9, by rw [show M - (q - 1) = i + 1 by omega]; exact put_ne hId (e2.hp _ _ hI0), put_ne c2d.symm (e2.hp _ _ cv0), put_same, Nat.le_trans aput_len (by omega), fun v hv => ?_⟩
            rw [show M - (q - 1) = i + 1 by omega, ups_succ] at hv
            rw [aget_aput]
            have hda : ds ≠ acc := hacc0 _ _ hd0
            rcases List.mem_append.mp hv with hv | hv
            · have hne : v ≠ i := by have := mem_ups.mp hv; omega
              obtain ⟨l, q1, q2⟩ := hall0 v hv
              rw [if_neg hne]
              refine ⟨l, q1, put_ne (fun e => ?_) (e2.hp _ _ q2)⟩
              rw [e, hd0] at q2; cases q2
            · have : v = i := by simpa using hv
              subst this
              rw [if_pos rfl]
              exact ⟨acc, rfl, put_ne hda.symm hacc2⟩
      · show ∀ v, er v = AV.ref ds → _
        walk_at "ev"
        have hq0 : M - q = M := by omega
        rw [hq0] at hall
        refine run_gen (fun τ' => Ext σ₉ τ' ∧ τ'.loc = σ₉.loc ∧ NearAt τ' ds (ups M) (nbL (F'.map (·.2)) M)) ⟨(eT.drop hI9).loc, rfl, kvs, ep, loc_hp (drop_ne hId.symm hdT), fun v hv => ?_⟩ fun τ' ⟨e1, w1, hN⟩ => ?_
        · obtain ⟨l, q1, q2⟩ := hall v hv
          exact ⟨l, q1, loc_hp (drop_ne (fun e => by rw [e, hIT] at q2; cases q2) q2)⟩
        have cb := e1.hp _ _ (e9.hp _ _ (cc 6 (by decide) (by decide)))
        have hb : ∀ {b : Addr} {ao : AO}, τ'.hp b = some ao → ao ≠ .cell none → (τ'.put (L' + 6) (.cell (some (.ref ds)))).hp b = some ao := fun q hn => put_ne (fun w => hn (by rw [w, cb] at q; exact (Option.some.inj q).symm)) q
        refine store_cell' (by walk_at "er") rfl cb ?_
        obtain ⟨kvs', ep', q1, q2⟩ := hN
        refine ⟨rfl, ds, by show τ'.loc "G" = _; rw [w1]; exact lG, hb (e1.hp _ _ cM9) (by simp), G₉.keep ((KeepG.ext e1).put cb rfl), put_same, put_ne (hdd 3 6 (by decide)) (e1.hp _ _ (e9.hp _ _ c3)), put_ne (hdd 7 6 (by decide)) (e1.hp _ _ (e9.hp _ _ (cc 7 (by decide) (by decide)))), kvs', ep', hb q1 (by simp), fun v hv => ?_⟩
        obtain ⟨l, w2, w3⟩ := q2 v hv
        exact ⟨l, w2, hb w3 (by simp)⟩
  rintro σ₁₀ ⟨nr, lG, cM, G₁₀, c6, c3, c7, hN⟩
  have nbm : ∀ a b, b ∈ nb a ↔ b ∈ nbL (F'.map (·.2)) M a := fun a b => by
    have e : hit (F'.map (·.2)) a b = true ↔ b ∈ nb a := by
      rw [hnb]; unfold hit; rw [Bool.or_eq_true, decide_eq_true_eq, decide_eq_true_eq]
      exact or_comm
    refine ⟨fun h => List.mem_filter.mpr ⟨mem_ups.mpr ?_, e.mpr h⟩, fun h => e.mp (List.mem_filter.mp h).2⟩
    rcases (hnb a b).mp h with w | w
    · obtain ⟨p, hp, e⟩ := List.mem_map.mp w
      have := hpairs p hp
      rw [e] at this
      simp only at this
      omega
    · obtain ⟨p, hp, e⟩ := List.mem_map.mp w
      have := hpairs p hp
      rw [e] at this
      simp only at this
      omega
  have nbsym : ∀ a b, b ∈ nb a → a ∈ nb b := fun a b h => (hnb b a).mpr ((hnb a b).mp h).symm
  have nbself : ∀ n, n ∉ nb n := fun n h => by
    have : (n, n) ∈ F'.map (·.2) := by rcases (hnb n n).mp h with w | w <;> exact w
    obtain ⟨p, hp, e⟩ := List.mem_map.mp this
    have := hpairs p hp
    rw [e] at this
    simp only at this
    omega
  have nbin : ∀ a b, b ∈ nb a → 0 ≤ a ∧ a < M := fun a b h => mem_ups.mp (List.mem_filter.mp ((nbm b a).mp (nbsym _ _ h))).1
  have lsym : ∀ a b, b ∈ nbL (F'.map (·.2)) M a → a ∈ nbL (F'.map (·.2)) M b := fun a b h => (nbm b a).mp (nbsym _ _ ((nbm a b).mpr h))
  have lnd : ∀ n ∈ ups M, (nbL (F'.map (·.2)) M n).Nodup := fun n _ => ups_nodup.filter _
  have lcl : ∀ n ∈ ups M, ∀ m ∈ nbL (F'.map (·.2)) M n, m ∈ ups M := fun n _ m h => (List.mem_filter.mp h).1
  generalize hNB : nbL (F'.map (·.2)) M = nl' at *
  -- some
  refine sN_then (fun τ => ∃ (sl : Addr), Kc σ₁₀ τ ∧ Fresh σ₁₀ sl ∧ τ.loc "G" = some (.ref g) ∧ τ.loc "some" = some (.ref sl) ∧ τ.hp (L' + 2) = some (.cell (some (.int M))) ∧ τ.hp (L' + 6) = some (.cell (some (.ref nr))) ∧ τ.hp (L' + 3) = some (.cell none) ∧ τ.hp (L' + 7) = some (.cell none) ∧ τ.hp sl = some (.list [])) ?_ ?_
  · walk_at "st"
    refine n_list ?_
    refine a_nil ?_
    refine new_list (Nat.zero_le _) fun sl hsl => ?_
    walk_at "ev"
    walk_at "st"
    exact ⟨rfl, sl, (Kc.refl.put hsl).bind, hsl, by walk_at "loc", loc_same, bind_hp (put_new hsl cM), bind_hp (put_new hsl c6), bind_hp (put_new hsl c3), bind_hp (put_new hsl c7), bind_hp put_same⟩
  rintro σ₁₁ ⟨sl, k11, fsl, lG, ls, cM, c6, c3, c7, hsl⟩
  refine sN_then (fun τ => ∃ (S : List (Addr × List Int)), Kc σ₁₀ τ ∧ τ.loc "G" = some (.ref g) ∧ τ.loc "some" = some (.ref sl) ∧ τ.hp (L' + 2) = some (.cell (some (.int M))) ∧ τ.hp (L' + 6) = some (.cell (some (.ref nr))) ∧ ListsAt τ sl S ∧ Good nl' M (S.map (·.2)) (fun u v w => w < M)) ?_ ?_
  · refine s_for ?_
    refine n_call1 ?_
    walk_at "st"
    refine ⟨by walk_at "keep", a_cons ?_⟩
    refine n_cell rfl cM ?_
    walk_at "ev"
    refine a_nil ?_
    refine call_range fun r0 u0 v0 hr0 => ?_
    walk_at "ev"
    refine iter_range (n := M) put_same (by omega) fun I hI => ?_
    walk_at "ev"
    have hI11 : Fresh σ₁₁ I := hI.put hr0
    have hIk : ∀ b ao, (∀ v, ao ≠ .cell v) → σ₁₀.hp b = some ao → b ≠ I := fun b ao i q => hI11 _ _ (k11 b ao i q)
    have hIs : sl ≠ I := hI11 _ _ hsl
    have hI2 : L' + 2 ≠ I := hI11 _ _ cM
    have hI6 : L' + 6 ≠ I := hI11 _ _ c6
    have hI3 : L' + 3 ≠ I := hI11 _ _ c3
    have hI7 : L' + 7 ≠ I := hI11 _ _ c7
    have kput : ∀ {τ ao}, Kc σ₁₀ τ → Kc σ₁₀ (τ.put I ao) := fun k b ao i q => put_ne (hIk b ao i q) (k b ao i q)
    have kdrop : ∀ {τ}, Kc σ₁₀ τ → Kc σ₁₀ (τ.drop I) := fun k b ao i q => drop_ne (hIk b ao i q) (k b ao i q)
    refine ⟨fun q τ => ∃ (S : List (Addr × List Int)) (cv cw : Option AV), q ≤ M ∧ Kc σ₁₀ τ ∧ τ.loc "G" = some (.ref g) ∧ τ.loc "some" = some (.ref sl) ∧ τ.hp (L' + 2) = some (.cell (some (.int M))) ∧ τ.hp (L' + 6) = some (.cell (some (.ref nr))) ∧ τ.hp (L' + 3) = some (.cell cv) ∧ τ.hp (L' + 7) = some (.cell cw) ∧ τ.hp I = some (RIter (M - q) M) ∧ ListsAt τ sl S ∧ S.length ≤ (M - q) * 49 ∧ Good nl' M (S.map (·.2)) (fun u v w => w < (M - q : Nat)), M, ⟨[], none, none, Nat.le_refl _, ?_⟩, ?_⟩
    · rw [Nat.sub_self]
      exact ⟨kput (k11.ext (Ext.refl.put hr0)), lG, ls, put_ne hI2 (put_new hr0 cM), put_ne hI6 (put_new hr0 c6), put_ne hI3 (put_new hr0 c3), put_ne hI7 (put_new hr0 c7), put_same, ⟨put_ne hIs (put_new hr0 hsl), by simp⟩, Nat.zero_le _, by simp, fun u v w h0 h1 h2 h3 => by omega⟩
    · rintro q τ ⟨S, cv, cw, hq, kT, lG, ls, cM, c6, c3, c7, hIT, hS, hSl, hgood⟩
      refine next_range hA'.h hIT (Nat.sub_le _ _) (fun hlt t => ?_) (fun he => ?_)
      · generalize hi : M - q = i at *
        walk_at "st"
        walk_at "st"
        refine store_cell' (by walk_at "er") rfl (put_ne hI7 c7) ?_
        have sc : ∀ {a : Addr} {v : Option AV}, τ.hp a = some (.cell v) → a ≠ sl ∧ ∀ p ∈ S, p.1 ≠ a := fun q => ⟨fun e => (by rw [e, hS.1] at q; cases q), fun p hp e => (by have := hS.2 p hp; rw [e, q] at this; cases this)⟩
        have hSI : ∀ p ∈ S, p.1 ≠ I := fun p hp e => by have := hS.2 p hp; rw [e, hIT] at this; cases this
        refine run_gen (fun τ => Kc σ₁₀ τ ∧ τ.loc "G" = some (.ref g) ∧ τ.loc "some" = some (.ref sl) ∧ τ.hp (L' + 2) = some (.cell (some (.int M))) ∧ τ.hp (L' + 6) = some (.cell (some (.ref nr))) ∧ τ.hp (L' + 3) = some (.cell cv) ∧ τ.hp (L' + 7) = some (.cell (some (.int i))) ∧ τ.hp I = some (RIter (i + 1) M) ∧ ListsAt τ sl S) ⟨(kput kT).cell (put_ne hI7 c7), lG, ls, put_ne (hdd 2 7 (by decide)) (put_ne hI2 cM), put_ne (hdd 6 7 (by decide)) (put_ne hI6 c6), put_ne (hdd 3 7 (by decide)) (put_ne hI3 c3), put_same, put_ne hI7.symm put_same, put_ne (sc c7).1.symm (put_ne hIs hS.1), fun p hp => put_ne ((sc c7).2 p hp) (put_ne (hSI p hp) (hS.2 p hp))⟩ fun τ₁ ⟨k1, lG, ls, cM, c6, c3, c7, hI1, hS1⟩ => ?_
        refine s_cons ?_
        refine s_for ?_
        refine n_call1 ?_
        walk_at "st"
        refine ⟨by walk_at "keep", a_cons ?_⟩
        refine n_cell rfl c7 ?_
        walk_at "ev"
        refine a_nil ?_
        refine call_range fun r1 u1 v1 hr1 => ?_
        walk_at "ev"
        refine iter_range (n := i) put_same (by omega) fun J hJ => ?_
        walk_at "ev"
        have hJ1 : Fresh τ₁ J := hJ.put hr1
        have hJk : ∀ b ao, (∀ v, ao ≠ .cell v) → σ₁₀.hp b = some ao → b ≠ J := fun b ao i q => hJ1 _ _ (k1 b ao i q)
        have hJs : sl ≠ J := hJ1 _ _ hS1.1
        have hJ2 : L' + 2 ≠ J := hJ1 _ _ cM
        have hJ6 : L' + 6 ≠ J := hJ1 _ _ c6
        have hJ3 : L' + 3 ≠ J := hJ1 _ _ c3
        have hJ7 : L' + 7 ≠ J := hJ1 _ _ c7
        have hJI : I ≠ J := hJ1 _ _ hI1
        have jput : ∀ {τ ao}, Kc σ₁₀ τ → Kc σ₁₀ (τ.put J ao) := fun k b ao i q => put_ne (hJk b ao i q) (k b ao i q)
        have jdrop : ∀ {τ}, Kc σ₁₀ τ → Kc σ₁₀ (τ.drop J) := fun k b ao i q => drop_ne (hJk b ao i q) (k b ao i q)
        refine ⟨fun q2 τ => ∃ (S : List (Addr × List Int)) (cv : Option AV), q2 ≤ i ∧ Kc σ₁₀ τ ∧ τ.loc "G" = some (.ref g) ∧ τ.loc "some" = some (.ref sl) ∧ τ.hp (L' + 2) = some (.cell (some (.int M))) ∧ τ.hp (L' + 6) = some (.cell (some (.ref nr))) ∧ τ.hp (L' + 3) = some (.cell cv) ∧ τ.hp (L' + 7) = some (.cell (some (.int i))) ∧ τ.hp I = some (RIter (i + 1) M) ∧ τ.hp J = some (RIter (i - q2) i) ∧ ListsAt τ sl S ∧ S.length ≤ i * 49 + (i - q2) * 7 ∧ Good nl' M (S.map (·.2)) (fun u v w => w < i ∨ (w = i ∧ v < (i - q2 : Nat))), i, ⟨S, cv, Nat.le_refl _, ?_⟩, ?_⟩
        · rw [Nat.sub_self]
          refine ⟨jput (k1.ext (Ext.refl.put hr1)), lG, ls, put_ne hJ2 (put_new hr1 cM), put_ne hJ6 (put_new hr1 c6), put_ne hJ3 (put_new hr1 c3), put_ne hJ7 (put_new hr1 c7), put_ne hJI (put_new hr1 hI1), put_same, hS1.ext (fun b ao q => put_ne (hJ1 _ _ q) (put_new hr1 q)), by omega, hgood.1, fun u v w h0 h1 h2 h3 => ?_⟩
          exact hgood.2 u v w h0 h1 h2 (by rcases h3 with h3 | ⟨_, h3⟩ <;> omega)
        · rintro q2 τ ⟨S, cv, hq2, kT, lG, ls, cM, c6, c3, c7, hIT, hJT, hS, hSl, hgood⟩
          refine next_range hA'.h hJT (Nat.sub_le _ _) (fun hlt2 t2 => ?_) (fun he2 => ?_)
          · generalize hj : i - q2 = j at *
            walk_at "st"
            walk_at "st"
            refine store_cell' (by walk_at "er") rfl (put_ne hJ3 c3) ?_
            have sc : ∀ {a : Addr} {v : Option AV}, τ.hp a = some (.cell v) → a ≠ sl ∧ ∀ p ∈ S, p.1 ≠ a := fun q => ⟨fun e => (by rw [e, hS.1] at q; cases q), fun p hp e => (by have := hS.2 p hp; rw [e, q] at this; cases this)⟩
            have hSJ : ∀ p ∈ S, p.1 ≠ J := fun p hp e => by have := hS.2 p hp; rw [e, hJT] at this; cases this
            have hI3' : I ≠ L' + 3 := fun e => by rw [e, c3] at hIT; cases hIT
            refine run_gen (fun τ => Kc σ₁₀ τ ∧ τ.loc "G" = some (.ref g) ∧ τ.loc "some" = some (.ref sl) ∧ τ.hp (L' + 2) = some (.cell (some (.int M))) ∧ τ.hp (L' + 6) = some (.cell (some (.ref nr))) ∧ τ.hp (L' + 3) = some (.cell (some (.int j))) ∧ τ.hp (L' + 7) = some (.cell (some (.int i))) ∧ τ.hp I = some (RIter (i + 1) M) ∧ τ.hp J = some (RIter (j + 1) i) ∧ ListsAt τ sl S) ⟨(jput kT).cell (put_ne hJ3 c3), lG, ls, put_ne (hdd 2 3 (by decide)) (put_ne hJ2 cM), put_ne (hdd 6 3 (by decide)) (put_ne hJ6 c6), put_same, put_ne (hdd 7 3 (by decide)) (put_ne hJ7 c7), put_ne hI3' (put_ne hJI hIT), put_ne hJ3.symm put_same, put_ne (sc c3).1.symm (put_ne hJs hS.1), fun p hp => put_ne ((sc c3).2 p hp) (put_ne (hSJ p hp) (hS.2 p hp))⟩ fun τ₃ ⟨k3, lG, ls, cM, c6, c3, c7, hI3, hJ3, hS3⟩ => ?_
            have mi : (i : Int) ∈ ups M := mem_ups.mpr (by omega)
            have mj : (j : Int) ∈ ups M := mem_ups.mpr (by omega)
            have hN3 := hN.kc k3
            obtain ⟨kvs, epn, hnr, hnl⟩ := hN3
            obtain ⟨lw, hgw, hlw⟩ := hnl _ mi
            obtain ⟨lv, hgv, hlv⟩ := hnl _ mj
            refine s_cons ?_
            refine s_if ?_
            walk_at "st"
            refine n_cell rfl c3 ?_
            walk_at "ev"
            walk_at "st"
            refine n_cell rfl c6 ?_
            walk_at "ev"
            refine n_cell rfl c7 ?_
            walk_at "ev"
            refine sub_idict hnr hgw ?_
            walk_at "ev"
            refine notin_ints (by show A'.units + 20 < 9900; rw [hu']; omega) hlw ⟨fun t1 => ?_, fun t1 => ?_⟩
            · have hjw : (j : Int) ∉ nl' i := by simpa using t1
              refine s_cons ?_
              refine s_aug ?_
              refine load_local (v := .ref sl) ls ?_
              walk_at "ev"
              refine n_listcomp rfl ?_
              refine n_call1 ?_
              walk_at "st"
              refine ⟨by walk_at "keep", a_cons ?_⟩
              refine n_cell rfl c3 ?_
              walk_at "ev"
              refine a_nil ?_
              refine call_range fun r2 u2 v2 hr2 => ?_
              walk_at "ev"
              refine iter_range (n := j) put_same (by omega) fun K hK => ?_
              walk_at "ev"
              refine new_list (Nat.zero_le _) fun acc hacc => ?_
              walk_at "ev"
              have hK3 : Fresh τ₃ K := hK.put hr2
              have hacc3 : Fresh τ₃ acc := fun b ao q => hacc b ao (put_ne (hK3 _ _ q) (put_new hr2 q))
              have hKa : K ≠ acc := hacc _ _ put_same
              refine comp_goN (self_range (put_new hacc put_same)) fun L₃ σ₁₃ hf₃ hE₁₃ => ?_
              refine ⟨fun m τ => ∃ (D : List (Addr × List Int)), m ≤ j ∧ Ext τ₃ τ ∧ τ.hp K = some (RIter (j - m) j) ∧ ListsAt τ acc D ∧ D.length ≤ j - m ∧ (∀ p ∈ D, ∃ u : Int, p.2 = [u, j, i] ∧ AT nl' (ups M) u j i) ∧ (∀ u : Int, 0 ≤ u → u < (j - m : Nat) → AT nl' (ups M) u j i → [u, (j : Int), (i : Int)] ∈ D.map (·.2)), j, ⟨[], Nat.le_refl _, ?_⟩, ?_⟩
              · rw [Nat.sub_self]
                exact ⟨(((Ext.refl.put hr2).put hK3).put hacc3).trans hE₁₃, hE₁₃.hp _ _ (put_ne hKa put_same), ⟨hE₁₃.hp _ _ put_same, by simp⟩, Nat.zero_le _, by simp, fun u h0 h1 => by omega⟩
              · rintro m τ ⟨D, hm, eT, hKT, hD, hDl, hDs, hDc⟩
                refine turn_list1 ?_
                refine next_range hA'.h hKT (Nat.sub_le _ _) (fun hlt3 t3 => ?_) (fun he3 => ?_)
                · generalize hu3 : j - m = u at *
                  have mu : (u : Int) ∈ ups M := mem_ups.mpr (by omega)
                  have hDK : ∀ p ∈ D, p.1 ≠ K := fun p hp e => by have := hD.2 p hp; rw [e, hKT] at this; cases this
                  walk_at "st"
                  walk_at "st"
                  walk_at "st"
                  refine tests_fact (F := fun b τ' => (b = true ↔ AT nl' (ups M) u j i) ∧ Ext τ₃ τ' ∧ τ'.hp K = some (RIter (u + 1) j) ∧ ListsAt τ' acc D ∧ τ'.loc "u" = some (.int u)) ?_ ?_
                  · refine run_gen (fun τ' => Ext τ₃ τ' ∧ τ'.hp K = some (RIter (u + 1) j) ∧ ListsAt τ' acc D ∧ τ'.loc "u" = some (.int u)) ⟨(eT.put hK3).bind, bind_hp put_same, ⟨bind_hp (put_ne hKa.symm hD.1), fun p hp => bind_hp (put_ne (hDK p hp) (hD.2 p hp))⟩, loc_same⟩ fun τ₄ ⟨e4, hK4, hD4, lu⟩ => ?_
                    refine tests_one ?_
                    walk_at "st"
                    refine t_and ?_
                    walk_at "st"
                    walk_at "st"
                    walk_at "st"
                    refine n_cell rfl (e4.hp _ _ c6) ?_
                    walk_at "ev"
                    refine n_cell rfl (e4.hp _ _ c3) ?_
                    walk_at "ev"
                    refine sub_idict (e4.hp _ _ hnr) hgv ?_
                    walk_at "ev"
                    refine notin_ints (by show A'.units + 20 < 9900; rw [hu']; omega) (e4.hp _ _ hlv) ⟨fun t1 => ?_, fun t1 => ⟨⟨fun q => (nomatch q), fun hat => absurd (lsym _ _ (show (u : Int) ∈ nl' j by simpa using t1)) (fun w => hat.uv (.inr w))⟩, e4, hK4, hD4, lu⟩⟩
                    refine t_and ?_
                    walk_at "st"
                    walk_at "st"
                    walk_at "st"
                    refine n_cell rfl (e4.hp _ _ c6) ?_
                    walk_at "ev"
                    refine n_cell rfl (e4.hp _ _ c7) ?_
                    walk_at "ev"
                    refine sub_idict (e4.hp _ _ hnr) hgw ?_
                    walk_at "ev"
                    refine notin_ints (by show A'.units + 20 < 9900; rw [hu']; omega) (e4.hp _ _ hlw) ⟨fun t2 => ?_, fun t2 => ⟨⟨fun q => (nomatch q), fun hat => absurd (lsym _ _ (show (u : Int) ∈ nl' i by simpa using t2)) (fun w => hat.uw (.inr w))⟩, e4, hK4, hD4, lu⟩⟩
                    refine t_and ?_
                    walk_at "st"
                    refine n_call1 ?_
                    walk_at "st"
                    refine ⟨by walk_at "keep", a_cons ?_⟩
                    refine n_cell rfl (e4.hp _ _ c6) ?_
                    walk_at "ev"
                    refine a_cons ?_
                    refine n_list ?_
                    refine a_cons ?_
                    walk_at "st"
                    refine a_cons ?_
                    refine n_cell rfl (e4.hp _ _ c3) ?_
                    walk_at "ev"
                    refine a_cons ?_
                    refine n_cell rfl (e4.hp _ _ c7) ?_
                    walk_at "ev"
                    refine a_nil ?_
                    refine new_list (fits (by simp)) fun th hth => ?_
                    walk_at "ev"
                    refine a_nil ?_
                    have e5 : Ext τ₄ (τ₄.put th (.list [.int u, .int j, .int i])) := Ext.refl.put hth
                    refine apart_spec (hA'.less (by omega)) (by show A'.units + 60 < 9900; rw [hu']; omega) (NearAt.ext ⟨kvs, epn, hnr, hnl⟩ fun b ao q => e5.hp _ _ (e4.hp _ _ q)) put_same mu mj mi lcl lnd (by rw [ups_len]; omega) fun τ₅ r e6 loc6 hr6 => ?_
                    walk_at "ev"
                    refine run_truthy_bool ?_
                    have hiff := hr6.trans (apok_at lsym mu mj mi)
                    have e46 := e5.trans e6
                    have lu6 : τ₅.loc "u" = some (.int u) := by rw [loc6]; exact lu
                    refine ⟨fun t3 => t_and_nil ⟨⟨fun _ => hiff.mp t3, fun _ => rfl⟩, e4.trans e46, e46.hp _ _ hK4, hD4.ext e46.hp, lu6⟩, fun t3 => ⟨⟨fun q => (nomatch q), fun hat => by rw [hiff.mpr hat] at t3; cases t3⟩, e4.trans e46, e46.hp _ _ hK4, hD4.ext e46.hp, lu6⟩⟩
                  · rintro b τ₄ ⟨hb, e4, hK4, hD4, lu⟩
                    refine ⟨fun hbt => ?_, fun hbf => ⟨m - 1, by omega, D, by omega, e4, by rw [show j - (m - 1) = u + 1 by omega]; exact hK4, hD4, by omega, hDs, fun v h0 h1 hat => ?_⟩⟩
                    · have hat := hb.mp hbt
                      refine n_list ?_
                      refine a_cons ?_
                      walk_at "st"
                      refine a_cons ?_
                      refine n_cell rfl (e4.hp _ _ c3) ?_
                      walk_at "ev"
                      refine a_cons ?_
                      refine n_cell rfl (e4.hp _ _ c7) ?_
                      walk_at "ev"
                      refine a_nil ?_
                      refine new_list (fits (by simp)) fun th hth => ?_
                      walk_at "ev"
                      have hat' : acc ≠ th := hth _ _ hD4.1
                      refine append_list (put_new hth hD4.1) (fits (by rw [List.length_map]; omega)) ?_
                      refine ⟨m - 1, by omega, D ++ [(th, [(u : Int), j, i])], by omega, (e4.put (e4.fresh hth)).put hacc3, ?_, ?_, by rw [List.length_append]; simp; omega, fun p hp => ?_, fun v h0 h1 hav => ?_⟩
                      · rw [show j - (m - 1) = u + 1 by omega]; exact put_ne hKa (put_new hth hK4)
                      · refine hD4.grow (fun p hp => ?_) (put_same.trans (by rw [List.map_append]; rfl)) (fun b ao hb q => put_ne hb (put_new hth q)) (put_ne hat'.symm put_same)
                        obtain ⟨v, e, _⟩ := hDs p hp
                        exact hD4.ne hp e
                      · rcases List.mem_append.mp hp with hp | hp
                        · exact hDs p hp
                        · rw [List.mem_singleton.mp hp]; exact ⟨u, rfl, hat⟩
                      · rw [List.map_append]
                        by_cases hvu : v = u
                        · rw [hvu]; exact List.mem_append_right _ (by simp)
                        · exact List.mem_append_left _ (hDc v h0 (by omega) hav)
                    · refine hDc v h0 ?_ hat
                      have : v ≠ u := fun e => by rw [e] at hat; rw [hb.mpr hat] at hbf; cases hbf
                      omega
                · show ∀ v, er v = AV.ref acc → _
                  walk_at "ev"
                  have hDK : ∀ p ∈ D, p.1 ≠ K := fun p hp e => by have := hD.2 p hp; rw [e, hKT] at this; cases this
                  refine runV_gen (fun τ' => Ext τ₃ τ' ∧ τ'.loc = τ₃.loc ∧ ListsAt τ' acc D) ⟨(eT.drop hK3).loc, rfl, loc_hp (drop_ne hKa.symm hD.1), fun p hp => loc_hp (drop_ne (hDK p hp) (hD.2 p hp))⟩ fun τ₄ ⟨e4, w4, hD4⟩ => ?_
                  have hS4 := hS3.ext e4.hp
                  have hgS : ∀ p ∈ S, ∃ u r, p.2 = u :: r := fun p hp => by
                    obtain ⟨u, v, w, e, _⟩ := hgood.1 p.2 (List.mem_map_of_mem hp)
                    exact ⟨u, _, e⟩
                  have slacc : sl ≠ acc := hacc3 _ _ hS3.1
                  have slK : sl ≠ K := hK3 _ _ hS3.1
                  have hDsl : ∀ p ∈ D, p.1 ≠ sl := fun p hp e => by
                    obtain ⟨u, e2, _⟩ := hDs p hp
                    have h1 := hD4.2 p hp
                    rw [e, hS4.1, e2] at h1
                    have h2 := Option.some.inj h1
                    cases S with
                    | nil => simp [avs] at h2
                    | cons a b => simp [avs] at h2
                  refine iadd_list hS4.1 hD4.1 (by rw [List.length_map, List.length_map]; omega) ?_
                  walk_at "ev"
                  walk_at "st"
                  refine s_nil ?_
                  refine s_nil ?_
                  have nsl : ∀ {b : Addr} {ao : AO}, τ₃.hp b = some ao → (∀ vs, ao ≠ .list vs) → (τ₄.put sl (.list ((S.map fun p => .ref p.1) ++ D.map fun p => .ref p.1))).hp b = some ao := fun q hn => put_ne (fun e => hn _ (by rw [e, hS3.1] at q; exact (Option.some.inj q).symm)) (e4.hp _ _ q)
                  refine ⟨q2 - 1, by omega, S ++ D, some (.int j), by omega, ((k3.ext e4).put fsl).bind, ?_, loc_same, bind_hp (nsl cM (by intro vs e; cases e)), bind_hp (nsl c6 (by intro vs e; cases e)), bind_hp (nsl c3 (by intro vs e; cases e)), bind_hp (nsl c7 (by intro vs e; cases e)), bind_hp (nsl hI3 (by intro vs e; cases e)), ?_, ⟨?_, fun p hp => ?_⟩, ?_, ⟨fun p hp => ?_, fun u v w h0 h1 h2 h3 hat => ?_⟩⟩
                  · refine loc_ne (by decide) ?_
                    show τ₄.loc "G" = _
                    rw [w4]; exact lG
                  · rw [show i - (q2 - 1) = j + 1 by omega]; exact bind_hp (nsl hJ3 (by intro vs e; cases e))
                  · rw [List.map_append]; exact bind_hp put_same
                  · rcases List.mem_append.mp hp with hp | hp
                    · obtain ⟨u, r, e⟩ := hgS p hp
                      exact bind_hp (put_ne (hS4.ne hp e) (hS4.2 p hp))
                    · exact bind_hp (put_ne (hDsl p hp) (hD4.2 p hp))
                  · rw [List.length_append]; omega
                  · rw [List.map_append] at hp
                    rcases List.mem_append.mp hp with hp | hp
                    · exact hgood.1 p hp
                    · obtain ⟨p', hp', rfl⟩ := List.mem_map.mp hp
                      obtain ⟨u, e, hat⟩ := hDs p' hp'
                      exact ⟨u, j, i, e, hat⟩
                  · rw [List.map_append]
                    by_cases hc : w = i ∧ v = j
                    · obtain ⟨rfl, rfl⟩ := hc
                      exact List.mem_append_right _ (hDc u h0 (by omega) hat)
                    · refine List.mem_append_left _ (hgood.2 u v w h0 h1 h2 ?_ hat)
                      rcases h3 with h3 | ⟨h3, h4⟩
                      · exact .inl h3
                      · exact .inr ⟨h3, by omega⟩
            · have hjw : (j : Int) ∈ nl' i := by simpa using t1
              refine s_nil ?_
              refine s_nil ?_
              refine ⟨q2 - 1, by omega, S, _, by omega, k3, lG, ls, cM, c6, c3, c7, hI3, by rw [show i - (q2 - 1) = j + 1 by omega]; exact hJ3, hS3, by omega, hgood.1, fun u v w h0 h1 h2 h3 hat => ?_⟩
              refine hgood.2 u v w h0 h1 h2 ?_ hat
              rcases h3 with h3 | ⟨h3, h4⟩
              · exact .inl h3
              · refine .inr ⟨h3, ?_⟩
                have : v ≠ j := fun e => hat.vw (.inr (by rw [e, h3]; exact lsym _ _ hjw))
                omega
          · refine s_nil ?_
            refine s_nil ?_
            refine ⟨q - 1, by omega, S, _, _, by omega, jdrop kT, lG, ls, drop_ne hJ2 cM, drop_ne hJ6 c6, drop_ne hJ3 c3, drop_ne hJ7 c7, by rw [show M - (q - 1) = i + 1 by omega]; exact drop_ne hJI hIT, ⟨drop_ne hJs hS.1, fun p hp => drop_ne (fun e => by have := hS.2 p hp; rw [e, hJT] at this; cases this) (hS.2 p hp)⟩, by omega, hgood.1, fun u v w h0 h1 h2 h3 hat => hgood.2 u v w h0 h1 h2 (by omega) hat⟩
      · refine s_nil ?_
        have hSI : ∀ p ∈ S, p.1 ≠ I := fun p hp e => by have := hS.2 p hp; rw [e, hIT] at this; cases this
        exact ⟨rfl, S, kdrop kT, lG, ls, drop_ne hI2 cM, drop_ne hI6 c6, ⟨drop_ne hIs hS.1, fun p hp => drop_ne (hSI p hp) (hS.2 p hp)⟩, hgood.1, fun u v w h0 h1 h2 h3 hat => hgood.2 u v w h0 h1 h2 (by omega) hat⟩
  rintro σ₁₂ ⟨S, k12, lG, ls, cM, c6, hS, hgood⟩
  have rlen : (rot (n1.fdiv 2) M M).length = M := rot_len
  have hr7 : ∀ i ∈ rot (n1.fdiv 2) M M, 0 ≤ i ∧ i < 7 := fun i hi => by have := (inrot i).mp hi; omega
  have hin : ∀ a b, b ∈ nb a → a ∈ rot (n1.fdiv 2) M M := fun a b hb => (inrot a).mpr (nbin a b hb)
  have at1 : ∀ u v w, AT nb (rot (n1.fdiv 2) M M) u v w → AT nl' (ups M) u v w := fun u v w t => t.congr nbm fun a ha => mem_ups.mpr ((inrot a).mp ha)
  have at2 : ∀ u v w, AT nl' (ups M) u v w → AT nb (rot (n1.fdiv 2) M M) u v w := fun u v w t => t.congr (fun a b => (nbm a b).symm) fun a ha => (inrot a).mpr (mem_ups.mp ha)
  have hno : (∀ u v w, ¬ AT nb (rot (n1.fdiv 2) M M) u v w) ↔ S = [] := by
    constructor
    · intro h
      cases S with
      | nil => rfl
      | cons p r =>
        obtain ⟨u, v, w, _, hat⟩ := hgood.1 p.2 (by simp)
        exact absurd (at2 _ _ _ hat) (h u v w)
    · intro e u v w t
      obtain ⟨a, b, c, hab, hbc, _, hat⟩ := (at1 _ _ _ t).sorted lsym
      have := hgood.2 a b c (mem_ups.mp hat.mu).1 hab hbc (mem_ups.mp hat.mw).2 hat
      rw [e] at this; simp at this
  have hSk := hS
  obtain ⟨epd, hdict⟩ := (G₁₀.keep k12.keepG).dict
  refine sN_here (fun τ => ∃ (a : AV) (vw dvw : Addr) (b' : Bool), (∀ b ao, b ≠ d → σ₁₂.hp b = some ao → τ.hp b = some ao) ∧ τ.loc "G" = some (.ref g) ∧ τ.loc "some" = some (.ref sl) ∧ τ.loc "told" = some a ∧ GraphAt τ g d gd nd ad ia (rot (n1.fdiv 2) M M) nb (exOf vw ad b') true ∧ NV τ vw dvw nd ∧ FatRes nb (rot (n1.fdiv 2) M M) a τ) ?_ ?_
  · refine sN_assign ?_
    refine nN_call1 ?_
    walk_at "st"
    refine ⟨by walk_at "keep", ?_⟩
    refine rN_of ?_
    refine a_cons ?_
    walk_at "st"
    refine a_nil ?_
    refine fat_first (b₀ := false) (hA'.less (by omega)) (G₁₀.keep k12.keepG) wf₉ (by omega) (by omega) hr7 (fun n _ => nbself n) nbsym hin fun σ' a vw dvw b' kk lk G' N' hres => ?_
    intro v hv
    refine store_local' hv ?_
    refine ⟨rfl, a, vw, dvw, b', fun b ao hb q => bind_hp (kk b ao hb q), ?_, ?_, loc_same, G'.keep (KeepG.bind KeepG.refl), N'.ext Ext.refl.bind, ?_⟩
    · refine loc_ne (by decide) ?_
      rw [lk]; exact lG
    · refine loc_ne (by decide) ?_
      rw [lk]; exact ls
    · rcases hres with ⟨e1, e2⟩ | ⟨l, u, v, w, e1, e2, e3⟩
      · exact .inl ⟨e1, e2⟩
      · exact .inr ⟨l, u, v, w, e1, bind_hp e2, e3⟩
  rintro σ₁₃ ⟨a, vw, dvw, b', kk, lG, ls, lt, G₁₃, N₁₃, hres⟩
  have nd' : ∀ {b : Addr} {ao : AO}, σ₁₂.hp b = some ao → (∀ kvs ep hd, ao ≠ .sdict kvs ep hd) → b ≠ d := fun q hn e => by
    rw [e, hdict] at q; exact hn _ _ _ (Option.some.inj q).symm
  have hS13 : ListsAt σ₁₃ sl S := ⟨kk _ _ (nd' hS.1 (by intro a b c e; cases e)) hS.1, fun p hp => kk _ _ (nd' (hS.2 p hp) (by intro a b c e; cases e)) (hS.2 p hp)⟩
  rcases hres with ⟨rfl, hnone⟩ | ⟨tl, u, v, w, rfl, htl, hat⟩
  · have hSe := hno.mp hnone
    refine s_cons ?_
    refine s_if ?_
    walk_at "st"
    refine t_or ?_
    walk_at "st"
    refine n_call1 ?_
    walk_at "st"
    refine ⟨by walk_at "keep", a_cons ?_⟩
    walk_at "st"
    refine a_nil ?_
    refine free_spec (hA'.less (by omega)) G₁₃ N₁₃ wf₉ (by omega) (by omega) hr7 (fun n _ => nbself n) nbsym hin fun σ₁₄ r k14 lk14 hr14 => ?_
    walk_at "ev"
    have hr : r = true := hr14.mpr hnone
    subst hr
    have nd14 : ∀ {b : Addr} {ao : AO}, σ₁₃.hp b = some ao → (∀ kvs ep hd, ao ≠ .sdict kvs ep hd) → σ₁₄.hp b = some ao := fun q hn => k14 _ _ (fun e => by obtain ⟨_, q2⟩ := G₁₃.dict; rw [e, q2] at q; exact hn _ _ _ (Option.some.inj q).symm) q
    have hS14 : ListsAt σ₁₄ sl S := ⟨nd14 hS13.1 (by intro a b c e; cases e), fun p hp => nd14 (hS13.2 p hp) (by intro a b c e; cases e)⟩
    have ls14 : σ₁₄.loc "some" = some (.ref sl) := by rw [lk14]; exact ls
    have lt14 : σ₁₄.loc "told" = some .none := by rw [lk14]; exact lt
    walk_at "st"
    walk_at "st"
    refine n_list ?_
    refine a_nil ?_
    refine new_list (Nat.zero_le _) fun z hz => ?_
    walk_at "ev"
    refine eq_nil (by show A'.units + 20 < 9900; rw [hu']; omega) (hS14.ext fun b ao q => put_new hz q) put_same ?_
    walk_at "ev"
    refine bool_ne ?_
    rw [decide_eq_true hSe]
    refine ⟨fun q => absurd q (by decide), fun _ => ?_⟩
    have hS15 : ListsAt (σ₁₄.put z (.list [])) sl S := hS14.ext fun b ao q => put_new hz q
    refine t_or ?_
    walk_at "st"
    walk_at "st"
    walk_at "st"
    walk_at "st"
    refine is_none_yes ?_
    walk_at "ev"
    walk_at "st"
    walk_at "st"
    refine n_list ?_
    refine a_nil ?_
    refine new_list (Nat.zero_le _) fun z2 hz2 => ?_
    walk_at "ev"
    refine eq_nil (by show A'.units + 20 < 9900; rw [hu']; omega) (hS15.ext fun b ao q => put_new hz2 q) put_same ?_
    walk_at "ev"
    refine bool_ne ?_
    rw [decide_eq_true hSe]
    refine ⟨fun q => absurd q (by decide), fun _ => t_or_nil ⟨fun q => absurd q (by decide), fun _ => ?_⟩⟩
    have hS16 : ListsAt ((σ₁₄.put z (.list [])).put z2 (.list [])) sl S := hS15.ext fun b ao q => put_new hz2 q
    refine s_nil ?_
    refine s_cons ?_
    walk_at "st"
    refine n_or2 ?_
    walk_at "st"
    walk_at "st"
    walk_at "st"
    refine is_none_yes ?_
    walk_at "ev"
    refine run_truthy_bool ?_
    refine ⟨fun _ => ?_, fun q => absurd q (by decide)⟩
    walk_at "ev"
    exact rfl
  · have hSe : S ≠ [] := fun e => hno.mpr e u v w hat
    refine s_cons ?_
    refine s_if ?_
    walk_at "st"
    refine t_or ?_
    walk_at "st"
    refine n_call1 ?_
    walk_at "st"
    refine ⟨by walk_at "keep", a_cons ?_⟩
    walk_at "st"
    refine a_nil ?_
    refine free_spec (hA'.less (by omega)) G₁₃ N₁₃ wf₉ (by omega) (by omega) hr7 (fun n _ => nbself n) nbsym hin fun σ₁₄ r k14 lk14 hr14 => ?_
    walk_at "ev"
    have hr : r = false := by
      cases r with
      | false => rfl
      | true => exact absurd hat (hr14.mp rfl u v w)
    subst hr
    have htl14 := k14 _ _ (fun e => by rw [e] at htl; obtain ⟨_, q⟩ := G₁₃.dict; rw [htl] at q; cases q) htl
    have nd14 : ∀ {b : Addr} {ao : AO}, σ₁₃.hp b = some ao → (∀ kvs ep hd, ao ≠ .sdict kvs ep hd) → σ₁₄.hp b = some ao := fun q hn => k14 _ _ (fun e => by obtain ⟨_, q2⟩ := G₁₃.dict; rw [e, q2] at q; exact hn _ _ _ (Option.some.inj q).symm) q
    have hS14 : ListsAt σ₁₄ sl S := ⟨nd14 hS13.1 (by intro a b c e; cases e), fun p hp => nd14 (hS13.2 p hp) (by intro a b c e; cases e)⟩
    have ls14 : σ₁₄.loc "some" = some (.ref sl) := by rw [lk14]; exact ls
    have lt14 : σ₁₄.loc "told" = some (.ref tl) := by rw [lk14]; exact lt
    walk_at "st"
    walk_at "st"
    refine n_list ?_
    refine a_nil ?_
    refine new_list (Nat.zero_le _) fun z hz => ?_
    walk_at "ev"
    refine eq_nil (by show A'.units + 20 < 9900; rw [hu']; omega) (hS14.ext fun b ao q => put_new hz q) put_same ?_
    walk_at "ev"
    refine bool_ne ?_
    rw [decide_eq_false hSe]
    refine ⟨fun q => absurd q (by decide), fun _ => ?_⟩
    have hS15 : ListsAt (σ₁₄.put z (.list [])) sl S := hS14.ext fun b ao q => put_new hz q
    refine t_or ?_
    walk_at "st"
    walk_at "st"
    walk_at "st"
    walk_at "st"
    refine is_none_no rfl Value.noConfusion ?_
    walk_at "ev"
    walk_at "st"
    walk_at "st"
    refine n_list ?_
    refine a_nil ?_
    refine new_list (Nat.zero_le _) fun z2 hz2 => ?_
    walk_at "ev"
    refine eq_nil (by show A'.units + 20 < 9900; rw [hu']; omega) (hS15.ext fun b ao q => put_new hz2 q) put_same ?_
    walk_at "ev"
    refine bool_ne ?_
    rw [decide_eq_false hSe]
    refine ⟨fun q => absurd q (by decide), fun _ => t_or_nil ⟨fun q => absurd q (by decide), fun _ => ?_⟩⟩
    have hS16 : ListsAt ((σ₁₄.put z (.list [])).put z2 (.list [])) sl S := hS15.ext fun b ao q => put_new hz2 q
    refine s_nil ?_
    refine s_cons ?_
    walk_at "st"
    refine n_or2 ?_
    walk_at "st"
    walk_at "st"
    walk_at "st"
    refine is_none_no rfl Value.noConfusion ?_
    walk_at "ev"
    refine run_truthy_bool ?_
    refine ⟨fun q => absurd q (by decide), fun _ => ?_⟩
    walk_at "st"
    refine n_call1 ?_
    walk_at "st"
    refine ⟨by walk_at "keep", a_cons ?_⟩
    walk_at "st"
    refine a_nil ?_
    obtain ⟨a, b, c, hab, hbc, hp, habc⟩ := (at1 _ _ _ hat).sorted lsym
    refine sorted_list (zs := [u, v, w]) (xs := [a, b, c]) (put_new hz2 (put_new hz htl14)) (by simp; omega) hp.symm (by simp) fun sr hsr => ?_
    walk_at "ev"
    walk_at "st"
    refine in_lists (by show A'.units + 20 < 9900; rw [hu']; omega) (hS16.ext fun b ao q => put_new hsr q) put_same ?_
    have hmem : [a, b, c] ∈ S.map (·.2) := hgood.2 a b c (mem_ups.mp habc.mu).1 hab hbc (mem_ups.mp habc.mw).2 habc
    rw [decide_eq_true hmem]
    walk_at "ev"
    exact rfl
end
-- AzJn
section
open PySem PySem.W PyProof.Rows PySem.Calls PySem.Spec PySem.SeqAt
theorem ints_er {vs : List Value} {xs : List Int} (h : IntsAre vs xs) : vs.map er = avs xs := by
  induction h with
  | nil => rfl
  | cons n t _ ih => exact congrArg (List.cons (AV.int n)) ih
/-- the statement, joined of the head and the walk -/
theorem law_holds : PySem.Challenge.rw_ez0181_01.Holds := by
  refine Mine.hd ?_
  intro w s₀ s₁ mg mb G Y args vals as hpre hlay L low f hf
  have hrd := L.reads
  have hwl := L.well
  have hlo : ∀ a ∈ as, (a == sysModules) = false := L.low low
  have KX := kIn_of Y
  have hgens := L.gens
  have hTop := G.T
  have ef : f = .ref 608 := by
    have := mg_of KX hTop.g (n := "law") (v := .ref 608) (by k_is)
    exact Option.some.inj (hf.symm.trans this)
  subst ef
  wrow_args hpre hlay hrd hwl hlo
  rename s₁.heap.IsList _ _ => hl
  rename IntsAre _ _ => hi
  rename ¬ (_ < _) => hc
  have key := law_top (C := ⟨w, s₁.heap, s₁.os, mg, mb, _, _⟩) (A := callerA) (s := s₁) ⟨by decide, rfl⟩ (by decide) ⟨_, hl, ints_er hi⟩ (by omega) ⟨KX, topRead_of hTop⟩ (fun _ _ e => e) (Nat.le_refl _) ⟨rfl, AllBare.of_eq hgens⟩
  refine codeN_mono key fun res s' ⟨v, e, hv, hb, hos, hg⟩ => ⟨v, e, .inl ⟨v, .bool true, [], e, fun _ => rfl, ?_, ?_, fun _ => ⟨List.nodup_nil, fun a h => nomatch h⟩⟩, OldK.of_keep hb, hos, hg⟩
  · cases er_bool hv
    exact .bool true
  · wrow_post
end
end Az
theorem PySem.Challenge.cw_ez0181_01_holds : PySem.Challenge.rw_ez0181_01.Holds :=
  Az.law_holds
#print axioms PySem.Challenge.cw_ez0181_01_holds
