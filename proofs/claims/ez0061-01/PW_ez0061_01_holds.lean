import PyProof.Rows.All
import Wide.All
import OpenK.AllK
import Wide.FinOn
import PySem.Challenge.RW_ez0061_01
open PySem PySem.W PyProof.Rows PySem.Calls
set_option Elab.async false
set_option maxHeartbeats 4000000
set_option maxRecDepth 100000
namespace Mine
/-- the codes of points; the codes that stand in points alone; the codes of xdata -/
def xC : List Int := [10, 11, 12, 13, 14, 15, 16, 17, 18, 110, 111, 112, 210, 211, 212, 213, 1010, 1011, 1012, 1013]
def iC : List Int := [20, 21, 22, 23, 24, 25, 26, 27, 28, 30, 31, 32, 33, 34, 35, 36, 37, 120, 121, 122, 130, 131, 132, 220, 221, 222, 223, 230, 231, 232, 233, 1020, 1021, 1022, 1023, 1030, 1031, 1032, 1033]
def vC : List Int := [1000, 1001, 1002, 1003, 1004, 1005, 1010, 1011, 1012, 1013, 1040, 1041, 1042, 1070, 1071]
/-- the filter of points as the text has it: the code awaited, the last code of the point, the point so far -/
structure PS (α : Type) where
  e : Int
  z : Int
  pt : List α
def PS.out {α : Type} (p : PS α) : List α := if 1 < p.pt.length then p.pt else []
def PS.flush {α : Type} (p : PS α) (c : Int) : PS α := if 0 < p.pt.length ∧ c ≠ p.e then { p with pt := [] } else p
def PS.outs {α : Type} (p : PS α) (c : Int) : List α := if 0 < p.pt.length ∧ c ≠ p.e then p.out else []
def PS.next {α : Type} (p : PS α) (v : α) (c : Int) : PS α :=
  if c ∈ xC then ⟨c + 10, c + 20, p.pt ++ [v]⟩
  else if c = p.e then ⟨if p.z < p.e + 10 then -1 else p.e + 10, p.z, p.pt ++ [v]⟩ else p
def PS.own {α : Type} (p : PS α) (v : α) (c : Int) : List α := if c ∈ xC then [] else if c = p.e then [] else if c ∈ iC then [] else [v]
def PS.run {α : Type} (p : PS α) : List (α × Int) → List α
  | [] => p.out
  | (v, c) :: r => p.outs c ++ ((p.flush c).own v c ++ ((p.flush c).next v c).run r)
/-- the claim's caller stands below -/
def CalB (Γ : Ctx) : Prop := (Γ.below.map (·.1)).any Code.isCaller = true
/-- wpAny, where the caller stands below -/
def wpC {α : Type} (M : Model) (A : Around) (t : Sem α) (Q : α → Shared → Prop) (E : Value → Shared → Prop) (s : Shared) : Prop :=
  ∀ Γ p, Γ.In A → CalB Γ → Sem.wp M Γ t (fun a _ s' => Q a s') (fun e _ s' => E e s') p s
def codeC (M : Model) (A : Around) (c : Code) (R : Result → Shared → Prop) (s : Shared) : Prop := ∀ Γ p, Γ.code = c → Γ.Below A → CalB Γ → wpCode M Γ R p s
theorem CalB.enter {Γ : Ctx} (h : CalB Γ) (c : Code) (hd : Option Value) (p : Pos) : CalB (Γ.enter c hd p) := by
  show (((Γ.code, p) :: Γ.below).map (·.1)).any Code.isCaller = true
  rw [List.map_cons, List.any_cons, h, Bool.or_true]
section
variable {α β : Type} {M : Model} {A : Around} {E : Value → Shared → Prop} {s : Shared}
theorem wpC.of {t : Sem α} {Q : α → Shared → Prop} (h : wpAny M A t Q E s) : wpC M A t Q E s := fun Γ p hΓ _ => h Γ p hΓ
theorem codeC.of {c : Code} {R : Result → Shared → Prop} (h : codeAny M A c R s) : codeC M A c R s := fun Γ p hc hΓ _ => h Γ p hc hΓ
theorem wpC_pure {a : α} {Q : α → Shared → Prop} (h : Q a s) : wpC M A (pure a) Q E s := fun _ _ _ _ => h
theorem wpC_mono {t : Sem α} {Q Q' : α → Shared → Prop} {E' : Value → Shared → Prop} (h : wpC M A t Q E s) (hQ : ∀ a s, Q a s → Q' a s) (hE : ∀ e s, E e s → E' e s) : wpC M A t Q' E' s :=
  fun Γ p hΓ c => Sem.wp_mono M Γ t (fun a _ s => hQ a s) (fun e _ s => hE e s) p s (h Γ p hΓ c)
theorem wpC_bind {m : Sem α} {f : α → Sem β} {Q : β → Shared → Prop} (h : wpC M A m (fun a s' => wpC M A (f a) Q E s') E s) : wpC M A (m >>= f) Q E s := fun Γ p hΓ c => by
  rw [Sem.wp_bind']
  exact Sem.wp_mono M Γ m (fun a p' s' h' => h' Γ p' hΓ c) (fun _ _ _ h' => h') p s (h Γ p hΓ c)
/-- a first part that anything does -/
theorem wpC_lead {m : Sem α} {f : α → Sem β} {Q : β → Shared → Prop} (h : wpAny M A m (fun a s' => wpC M A (f a) Q E s') E s) : wpC M A (m >>= f) Q E s := wpC_bind (wpC.of h)
theorem wpC_tryCatch {m : Sem α} {k : Value → Sem α} {Q : α → Shared → Prop} (h : wpC M A m Q (fun e s' => wpC M A (k e) Q E s') s) : wpC M A (tryCatch m k) Q E s := fun Γ p hΓ c => by
  rw [Sem.wp_tryCatch']
  exact Sem.wp_mono M Γ m (fun _ _ _ h' => h') (fun e p' s' h' => h' Γ p' hΓ c) p s (h Γ p hΓ c)
theorem wpC_onRaise {m : Sem α} {k : Value → Sem Unit} {Q : α → Shared → Prop} (h : wpC M A m Q (fun e s' => wpC M A (k e) (fun _ s'' => E e s'') E s') s) : wpC M A (m.onRaise k) Q E s := fun Γ p hΓ c => by
  rw [Sem.wp_onRaise]
  exact Sem.wp_mono M Γ m (fun _ _ _ h' => h') (fun e p' s' h' => h' Γ p' hΓ c) p s (h Γ p hΓ c)
theorem wpC_attempt {m : Sem α} {Q : Except Value α → Shared → Prop} (h : wpC M A m (fun a => Q (.ok a)) (fun e => Q (.error e)) s) : wpC M A m.attempt Q E s := fun Γ p hΓ c => by
  rw [Sem.wp_attempt]; exact h Γ p hΓ c
theorem wpC_holding {vs : List Value} {m : Sem α} {Q : α → Shared → Prop} (h : wpC M A m Q E s) : wpC M A (holding vs m) Q E s := fun Γ p hΓ c => by
  rw [Sem.wp_holding]; exact h Γ p hΓ c
theorem codeC_mono {c : Code} {R R' : Result → Shared → Prop} (h : codeC M A c R s) (hR : ∀ r s, R r s → R' r s) : codeC M A c R' s := fun Γ p hc hΓ cal => wpCode_mono hR (h Γ p hc hΓ cal)
theorem wpC_run {c : Code} {h : Option Value} {Q : Flow → Shared → Prop} (hc : codeC M (A.mark h) c (fun r s' => match r with | .ok f => Q f s' | .error e => E e s') s) (hnb : h ≠ some byPass := by intro x; cases x) : wpC M A (run c h) Q E s :=
  fun Γ p hΓ cal => by rw [Sem.wp_run]; exact hc _ p rfl (hΓ.enter c h p hnb) (cal.enter c h p)
theorem wpC_runValue {c : Code} {Q : Value → Shared → Prop} (hc : codeC M A c (fun r s' => match r with | .ok (.ret v) => Q v s' | .ok _ => False | .error e => E e s') s) : wpC M A (runValue c) Q E s :=
  fun Γ p hΓ cal => by rw [Sem.wp_runValue]; exact hc _ p rfl (hΓ.enter c none p (by intro x; cases x)) (cal.enter c none p)
theorem wpC_call {f : Value} {pos : List Value} {kw : List (Str × Value)} {Q : Value → Shared → Prop} (hc : codeC M A (.call f ⟨pos, kw⟩) (fun r s' => match r with | .ok (.ret v) => Q v s' | .ok _ => False | .error e => E e s') s) : wpC M A (call f pos kw) Q E s := wpC_runValue hc
theorem codeC_of_tree {c : Code} {R : Result → Shared → Prop}
    (h : wpC M (A.under c) (M.den c) (fun fin s' => match fin with | .done f => R (.ok f) s' | .again c' => c'.quiet = true ∧ codeC M A c' R s') (fun e s' => R (.error e) s') s) : codeC M A c R s := fun Γ p hc hΓ cal => by
  rw [wpCode_iff_wp, hc]
  refine Sem.wp_mono M Γ _ (fun fin p' s' h' => ?_) (fun _ _ _ h' => h') p s (h Γ p (hc ▸ hΓ.in) cal)
  cases fin with
  | done f => exact h'
  | again c' => exact ⟨h'.1, h'.2 (Γ.goto c') p' rfl (hΓ.goto c') cal⟩
theorem codeC_loop {c : Code} {R : Result → Shared → Prop} (hq : c.quiet = true) (I : Nat → Shared → Prop)
    (turn : ∀ n s, I n s → wpC M (A.under c) (M.den c) (fun fin s' => match fin with | .done f => R (.ok f) s' | .again c' => c' = c ∧ ∃ m, m < n ∧ I m s') (fun e s' => R (.error e) s') s)
    (n : Nat) (h : I n s) : codeC M A c R s := by
  induction n using Nat.strongRecOn generalizing s with
  | ind n ih =>
    refine codeC_of_tree (wpC_mono (turn n s h) (fun fin s' hf => ?_) fun _ _ h' => h')
    cases fin with
    | done f => exact hf
    | again c' => obtain ⟨rfl, m, hm, hI⟩ := hf; exact ⟨hq, ih m hm hI⟩
end
/-- the claim's own context -/
abbrev topX : Ctx := ⟨.builtin "claim.caller" {}, none, none, [], none⟩
def wpT {α : Type} (M : Model) (t : Sem α) (Q : α → Shared → Prop) (E : Value → Shared → Prop) (s : Shared) : Prop :=
  ∀ p, Sem.wp M topX t (fun a _ s' => Q a s') (fun e _ s' => E e s') p s
section
variable {α β : Type} {M : Model} {E : Value → Shared → Prop} {s : Shared}
theorem wpT.of {t : Sem α} {Q : α → Shared → Prop} (h : wpAny M callerA t Q E s) : wpT M t Q E s := fun p => h topX p caller_in
theorem wpT_bind {m : Sem α} {f : α → Sem β} {Q : β → Shared → Prop} (h : wpT M m (fun a s' => wpT M (f a) Q E s') E s) : wpT M (m >>= f) Q E s := fun p => by
  rw [Sem.wp_bind']
  exact Sem.wp_mono M topX m (fun a p' s' h' => h' p') (fun _ _ _ h' => h') p s (h p)
theorem wpT_mono {t : Sem α} {Q Q' : α → Shared → Prop} {E' : Value → Shared → Prop} (h : wpT M t Q E s) (hQ : ∀ a s, Q a s → Q' a s) (hE : ∀ e s, E e s → E' e s) : wpT M t Q' E' s :=
  fun p => Sem.wp_mono M topX t (fun a _ s => hQ a s) (fun e _ s => hE e s) p s (h p)
/-- what the caller calls has the caller below -/
theorem wpT_call {f : Value} {vs : List Value} {Q : Value → Shared → Prop} (hc : codeC M callerA (.call f ⟨vs, []⟩) (fun r s' => match r with | .ok (.ret v) => Q v s' | .ok _ => False | .error e => E e s') s) : wpT M (PySem.call f vs) Q E s := fun p => by
  show Sem.wp M topX (runValue (.call f ⟨vs, []⟩)) _ _ p s
  rw [Sem.wp_runValue]
  refine hc _ p rfl (caller_in.enter _ none p (by intro x; cases x)) ?_
  show (((topX.code, p) :: topX.below).map (·.1)).any Code.isCaller = true
  rfl
end
/-- the thread of the claim's caller, its call told as codeC -/
theorem thread_ends {prog : Program} {w : World} {t : Sem Fin} {s : Shared} {R : Result → Shared → Prop} (hreg : s.asleep)
    (h : wpT (model prog w) t (fun fin s' => ∃ f, fin = .done f ∧ (R (.ok f) s' ∧ leftWithCleanup s'.gens = false)) (fun e s' => R (.error e) s' ∧ leftWithCleanup s'.gens = false) s) :
    ∃ n r s' s'', schedN (denote table) prog w n (.single s ⟨t, .builtin "claim.caller" {}, default, []⟩) = .halted (outcomeOf r) s' ∧ runN (denote table) prog w n s ⟨t, .builtin "claim.caller" {}, default, []⟩ = .halted (outcomeOf r) s' ∧ s'.forget = s''.forget ∧ R r s'' := by
  obtain ⟨n, r, s₁, s₂, hs, hn, hfo, hR⟩ := wp_halts_full (M := model prog w) (R := R) (p := default) (c := .builtin "claim.caller" {}) hreg
    (Sem.wp_mono _ _ _ (fun fin _ s' h' => by obtain ⟨f, rfl, hf⟩ := h'; exact hf) (fun _ _ _ h' => h') _ _ (h default))
  exact ⟨n, r, s₂, s₁, hs, hn, hfo, hR⟩
/-- the walk of the law's call, the caller below -/
abbrev WalkC (q : Program) (loose : List Str) (XP : (Str → Option Value) → Heap → Prop) (YP : World → Heap → Prop) (r : RowW) (d : DefRec) (kwd : List (Str × Expr)) : Prop :=
  ∀ (w : World) (s₀ s₁ : Shared) (mg mb : Str → Option Value), Ground q loose r.records XP w s₀ mg mb s₁.heap → YP w s₁.heap → ∀ (a : Addr) (o : Obj) (pm cd doc dV kV : Value), s₁.heap.get? a = some o →
    o.data = .func { docDef d.name d.params d.body d.scope pm cd doc with defaults := dV, kwdefaults := kV } → s₁.heap.CodeRec cd d.name → Dflts mg s₁.heap d.params kwd dV kV → mg d.name = some (.ref a) → s₁.gens = #[] →
    ∀ (args : List WData) (vals : List Value) (as : List Addr), r.claim.pre args = true → WData.layableAll args = true → ReadsAllW r.records (classAt s₀.heap) s₁.heap vals args as → WellAll w.params s₁.heap vals args → (∀ a ∈ as, (a == sysModules) = false) →
      codeC (model r.prog w) callerA (.call (.ref a) ⟨vals, []⟩) (fun res s' => (∃ v, res = .ok (.ret v)) ∧ GoodWG r.claim (classAt s₀.heap) (ExcName.means s₀.heap) args s₁ res s') s₁
end Mine
namespace Mine.PySem.W
/-- the library's head, where the law's call is told with the caller below -/
theorem holds_open {r : OpenRow} {q : Program} {loose : List Str} {Xt : Shared → Bool} {XP : (Str → Option Value) → Heap → Prop} {α : Type} {Yf : Shared → α} {Ya : World → α} {YP : World → Heap → Prop} {d : DefRec} {kwd : List (Str × Expr)} {N : Nat}
    (left : LeftO r.prog q loose Xt Yf Ya N) (hY : ∀ w s, Yf s = Ya w → YP w s.heap) (hYk : ∀ w h h', YP w h → (∀ b o, h.get? b = some o → h'.get? b = some o) → YP w h')
    (hX : ∀ s, Xt s = true → XP (s.heap.nsMap mainGlobals) s.heap) (hXk : ∀ mg h h', XP mg h → (∀ b o, h.get? b = some o → h'.get? b = some o) → XP mg h')
    (hdef : defOf q r.name = some (d, kwd)) (hp : r.prog.theDef r.name = some (d.params, d.body, d.scope)) (hk : kwWritten? d.params.kwonlyargs d.params.kw_defaults = some kwd) (hRf : ∀ s, Xt s = true → RecFacts r.records s.heap) (hwr : (!r.writes || r.records.isEmpty) = true)
    (k1 : r.wellSaid = true) (ok : (chainsOk q && opensWell r.prog && (frees r.toRowW && r.within.isEmpty)) = true) (hb : r.prog.bare) (hw : r.toRowW.promised)
    (call : WalkC q loose XP YP r.toRowW d kwd) : r.Holds := by
  obtain ⟨oks, free⟩ := Bool.and_eq_true_iff.mp ok
  obtain ⟨hch, ow⟩ := Bool.and_eq_true_iff.mp oks
  obtain ⟨free, nowithin⟩ := Bool.and_eq_true_iff.mp free
  obtain ⟨hsame, hu, ha, hap, hm⟩ := frees_parts free
  have hwi : r.toRowW.claim.within = [] := List.isEmpty_iff.mp nowithin
  have hi := ident_freeW hu ha hap
  refine ⟨k1, hw, ⟨hb, ow, ?mk⟩, hw.witness, fun w => ⟨(left.behind hX hch w).1, fun s' hs' => ?run⟩⟩
  case mk => show r.makers.map _ = []; rw [hm]; rfl
  obtain ⟨s₀, hf, hg0, s, hT, hz, hgens, hg, G, y⟩ := (left.behind (XP := fun mg h => XP mg h ∧ RecFacts r.records h) (fun s hs => ⟨hX s hs, hRf s hs⟩) hch w).2 s' hs'
  have G0 : Ground q loose [] XP w s (s.heap.nsMap mainGlobals) (s.heap.nsMap builtinsNs) s.heap := ⟨G.T, G.B, G.D, G.TE, G.TD, G.W, G.X.1, G.cls, G.has, G.apart, G.once, G.K⟩
  have RF := G.X.2
  have none : s.gens = #[] := Array.eq_empty_of_size_eq_zero (beq_iff_eq.mp hgens)
  refine ⟨s₀, hf, hg0, s, hT, fun n hn => ?pin, RF.1, RF.2.1, fun args hpre hlay ord hord => ?call⟩
  case pin =>
    obtain rfl : n = r.name := by split at hn <;> simp_all
    exact pinned_of_view hg G0 hdef hp hk
  have GR : Ground q loose r.records XP w s _ _ s.heap := RF.ground G0
  obtain ⟨⟨vs, s₁⟩, hlaid⟩ := Option.isSome_iff_exists.mp (layAllW_isSome (P := w.params) (ord := ord) GR.has args r.args s (pre_splitW hpre).1)
  have keeps := layAllW_keeps _ _ _ hlaid
  have hal := layAllW_rest _ _ _ hlaid
  obtain ⟨as, hrd, hin, hold⟩ := reads_layAllW hord _ _ _ hlaid hlay s₁.heap (fun _ _ e => e)
  have L : Laid r.records w s s₁ args vs as := ⟨⟨ord, hord, hlaid⟩, hrd, hin, hold, keeps, hal.1.trans none, hal.2.2.1⟩
  have G₁ := GR.keeps hXk keeps
  obtain ⟨f, o, pm, cd, doc, dV, kV, h1, h2, h3, h4, h5⟩ := G₁.fn hdef
  have walk := call w s s₁ _ _ G₁ (hYk _ _ _ (hY w s y) keeps) f o pm cd doc dV kV h2 h3 h4 h5 (defOf_name hdef ▸ h1) L.gens args vs as hpre hlay L.reads L.well (L.low GR.low)
  have fits : ∀ (res : Result) (s' : Shared), GoodWG r.toRowW.claim (classAt s.heap) (ExcName.means s.heap) args s₁ res s' →
      (r.toRowW.claim.Ends s args vs s₁ res s' ∧ s'.os = s.os ∧ (∀ kps, r.writes = true → namesKept r.prog kps s.heap s'.heap ∧ ∀ x ∈ r.records, ∀ a, classAt s.heap x.1 = some a → recordClass s'.heap a x.1 (x.2.map (·.1)) = true)) ∧ leftWithCleanup s'.gens = false := fun res s' g =>
    have z := g.laid (c := r.toRowW.claim) hsame hwi hi L
    ⟨⟨z.1, z.2.1, fun kps q => ⟨namesKept_of hT hg kps keeps g.2.1.old, noTable hwr q⟩⟩, leftWithCleanup_false_of_bare z.2.2⟩
  obtain ⟨k, res, s2, s3, hsched, hrun, hfo, hends, hos, hkp⟩ := thread_ends (prog := r.prog) (w := w) (s := s₁)
    (t := (callStub r.name vs).cur)
    (R := fun res s' => r.toRowW.claim.Ends s args vs s₁ res s' ∧ s'.os = s.os ∧ (∀ kps, r.writes = true → namesKept r.prog kps s.heap s'.heap ∧ ∀ x ∈ r.records, ∀ a, classAt s.heap x.1 = some a → recordClass s'.heap a x.1 (x.2.map (·.1)) = true))
    (Shared.asleep_of_life hal.2.2.2 hz) (by
      unfold callStub
      refine wpT_bind (wpT.of (wpAny_nsGet G₁.T.g ?_))
      rw [h1]
      refine wpT_bind (wpT_call (codeC_mono walk fun res s' hr => ?_))
      obtain ⟨⟨v, rfl⟩, good⟩ := hr
      exact wpT.of (wpAny_pure ⟨_, rfl, fits _ _ good⟩))
  obtain ⟨eh, _, _, eo, _⟩ := Shared.forget_eq hfo
  have hends := hends.congr eh
  rw [← eh] at hkp
  rw [← eo] at hos
  have hlife : s2.heap.life = s.heap.life := (runN_life _ _ _ hrun).trans hal.2.2.2
  refine ⟨vs, s₁, hlaid, k, _, s2, hsched, ?_, (fun _ i x hx => by rw [none] at hx; simp at hx), hkp _, by rw [hlife], Shared.rest_eq hos⟩
  rcases hends with ⟨v, rfl, d1, d2, d3, d4, d5⟩ | ⟨e, ob, cls, rfl, d1, d2, d3, d4, d5⟩
  · exact .inl ⟨v, rfl, d1, d2, d3, fun b o y _ => d4 b o y, d5⟩
  · exact .inr ⟨e, ob, cls, rfl, d1, d2, d3, d4, fun b o y _ => d5 b o y⟩
end Mine.PySem.W
namespace Mine
end Mine
namespace Mine
set_option maxRecDepth 100000 in
set_option maxHeartbeats 8000000 in
open_top hd for PySem.Challenge.rw_ez0061_01
end Mine
namespace Mine

/-- all that stood stands -/
abbrev Keep (h h' : Heap) : Prop := ∀ b o, h.get? b = some o → h'.get? b = some o
theorem Keep.refl (h : Heap) : Keep h h := fun _ _ e => e
theorem Keep.trans {h₁ h₂ h₃ : Heap} (x : Keep h₁ h₂) (y : Keep h₂ h₃) : Keep h₁ h₃ := fun b o e => y b o (x b o e)
theorem Keep.push (h : Heap) (o : Obj) : Keep h (h.push o) := fun _ _ e => Heap.get?_push_of_some o e

/-- the object at a is one of which P holds -/
def At (h : Heap) (a : Addr) (P : Obj → Prop) : Prop := ∃ o, h.get? a = some o ∧ P o
theorem At.keep {h h' : Heap} {a : Addr} {P : Obj → Prop} (x : At h a P) (k : Keep h h') : At h' a P := let ⟨o, e, p⟩ := x; ⟨o, k _ _ e, p⟩
theorem At.same {h h' : Heap} {a b : Addr} {P : Obj → Prop} (x : At h a P) (k : Heap.SameBut b h h') (n : a ≠ b) : At h' a P := let ⟨o, e, p⟩ := x; ⟨o, (k.2 a n).trans e, p⟩
theorem At.ext {h h' : Heap} {a b : Addr} {P : Obj → Prop} (x : At h a P) (k : Heap.ExtBut b h h') (n : a ≠ b) : At h' a P := let ⟨o, e, p⟩ := x; ⟨o, k a o n e, p⟩
theorem At.new (h : Heap) {o : Obj} {P : Obj → Prop} (p : P o) (f : o.isFreed = false := by rfl) : At (h.push o) h.objs.size P := ⟨o, Heap.get?_push_size _ f, p⟩

/-- a list with these items -/
def LstO (xs : List Value) (o : Obj) : Prop := ∃ n, o = { cls := .type "list", data := .seq xs.toArray n }
/-- a list's iterator: of which list, how far -/
def IterO (l : Addr) (i : Nat) (o : Obj) : Prop := o.cls = .type "list_iterator" ∧ o.data = .fields #[.ref l, .int i 0]
theorem isL_of {h : Heap} {a : Addr} {xs : List Value} (x : At h a (LstO xs)) : ∃ n, IsL h a xs.toArray n := by
  obtain ⟨o, e, n, rfl⟩ := x; exact ⟨n, e⟩
theorem isList_of {h : Heap} {a : Addr} {xs : List Value} (x : At h a (LstO xs)) : h.IsList a xs.toArray := by
  obtain ⟨n, e⟩ := isL_of x; exact e.isList
theorem isIter_of {h : Heap} {a l : Addr} {i : Nat} (x : At h a (IterO l i)) : h.IsListIter a l i := by
  obtain ⟨o, e, c, d⟩ := x; exact ⟨o, e, c, d⟩
theorem of_isIter {h : Heap} {a l : Addr} {i : Nat} (x : h.IsListIter a l i) : At h a (IterO l i) := by
  obtain ⟨o, e, c, d⟩ := x; exact ⟨o, e, c, d⟩

/-- a frame at L (its locals are m) over a base g that stands; l: what the frame may change -/
structure Fm (g : Heap) (L : Addr) (m : Str → Option Value) (l : List (Addr × (Obj → Prop))) (h : Heap) : Prop where
  ns : h.Ns L m
  keep : Keep g h
  gL : g.get? L = none
  own : ∀ p ∈ l, At h p.1 p.2 ∧ g.get? p.1 = none ∧ p.1 ≠ L
  nd : (l.map (·.1)).Nodup

namespace Fm
variable {g h h' : Heap} {L : Addr} {m m' : Str → Option Value} {l l₁ l₂ : List (Addr × (Obj → Prop))}

theorem at_ (F : Fm g L m l h) {a : Addr} {P : Obj → Prop} (hm : (a, P) ∈ l) : At h a P := (F.own _ hm).1
theorem keeps (F : Fm g L m l h) (k : Keep h h') : Fm g L m l h' :=
  ⟨F.ns.keeps k, F.keep.trans k, F.gL, fun p hp => ⟨(F.own p hp).1.keep k, (F.own p hp).2⟩, F.nd⟩
theorem store (F : Fm g L m l h) (hn : h'.Ns L m') (hs : Heap.SameBut L h h') : Fm g L m' l h' :=
  ⟨hn, fun b o e => (hs.2 b fun q => by subst q; rw [F.gL] at e; cases e).trans (F.keep b o e), F.gL, fun p hp => ⟨(F.own p hp).1.same hs (F.own p hp).2.2, (F.own p hp).2⟩, F.nd⟩
theorem new (F : Fm g L m l h) {o : Obj} {P : Obj → Prop} (p : P o) (f : o.isFreed = false := by rfl) : Fm g L m ((h.objs.size, P) :: l) (h.push o) := by
  have k := Keep.push h o
  refine ⟨F.ns.keeps k, F.keep.trans k, F.gL, fun q hq => ?_, ?_⟩
  · rcases List.mem_cons.mp hq with rfl | hq
    · refine ⟨At.new h p f, ?_, Nat.ne_of_gt F.ns.lt⟩
      cases e : g.get? h.objs.size with
      | none => rfl
      | some o' => exact absurd (Heap.lt_size (F.keep _ _ e)) (Nat.lt_irrefl _)
    · exact ⟨(F.own q hq).1.keep k, (F.own q hq).2⟩
  · rw [List.map_cons]
    refine List.nodup_cons.mpr ⟨fun hm => ?_, F.nd⟩
    obtain ⟨q, hq, e⟩ := List.mem_map.mp hm
    obtain ⟨o', e', _⟩ := (F.own q hq).1
    exact absurd (e ▸ Heap.lt_size e') (Nat.lt_irrefl _)
theorem push (F : Fm g L m l h) (o : Obj) : Fm g L m l (h.push o) := F.keeps (Keep.push h o)
/-- one of the frame's own is changed -/
theorem chgExt {a : Addr} {P P' : Obj → Prop} (F : Fm g L m (l₁ ++ (a, P) :: l₂) h) (hs : Heap.ExtBut a h h') (hp : At h' a P') : Fm g L m (l₁ ++ (a, P') :: l₂) h' := by
  have D := F.own (a, P) (by simp)
  have ne : ∀ b o, g.get? b = some o → b ≠ a := fun b o e q => by subst q; rw [D.2.1] at e; cases e
  obtain ⟨oL, es, ep, hL, r⟩ := F.ns
  have nd := F.nd
  rw [List.map_append, List.map_cons] at nd
  refine ⟨⟨oL, es, ep, hs _ _ (Ne.symm D.2.2) hL, r⟩, fun b o e => hs b o (ne b o e) (F.keep b o e), F.gL, fun p hq => ?_, by rw [List.map_append, List.map_cons]; exact nd⟩
  rcases List.mem_append.mp hq with q | q
  · have z := F.own p (List.mem_append_left _ q)
    refine ⟨z.1.ext hs fun e => ?_, z.2⟩
    exact (List.nodup_append.mp nd).2.2 p.1 (List.mem_map_of_mem q) a (.head _) e
  · rcases List.mem_cons.mp q with rfl | q
    · exact ⟨hp, D.2⟩
    · have z := F.own p (List.mem_append_right _ (.tail _ q))
      refine ⟨z.1.ext hs fun e => ?_, z.2⟩
      exact (List.nodup_cons.mp (List.nodup_append.mp nd).2.1).1 (by have := List.mem_map_of_mem (f := (·.1)) q; rw [e] at this; exact this)
theorem chg {a : Addr} {P P' : Obj → Prop} (F : Fm g L m (l₁ ++ (a, P) :: l₂) h) (hs : Heap.SameBut a h h') (hp : At h' a P') : Fm g L m (l₁ ++ (a, P') :: l₂) h' := F.chgExt hs.extBut hp
theorem sub (F : Fm g L m l h) (hs : l₁.Sublist l) : Fm g L m l₁ h :=
  ⟨F.ns, F.keep, F.gL, fun p hp => F.own p (hs.mem hp), (hs.map (·.1)).nodup F.nd⟩
theorem ofMap (F : Fm g L m l h) (e : ∀ x, m x = m' x) : Fm g L m' l h := by
  have : m = m' := funext e
  subst this; exact F

/-- the base anew: all but the frame and what it may change -/
theorem rebase (F : Fm g L m l h) : ∃ g', Keep g g' ∧ Fm g' L m l h ∧ (∀ b o, h.get? b = some o → b ≠ L → b ∉ l.map (·.1) → g'.get? b = some o) ∧ Keep g' h := by
  refine ⟨hideAll h (L :: l.map (·.1)), fun b o e => hideAll_get _ (F.keep b o e) fun hm => ?_, ⟨F.ns, fun b o e => of_hideAll _ e, hideAll_none _ (.head _), fun p hp => ⟨(F.own p hp).1, hideAll_none _ (.tail _ (List.mem_map_of_mem hp)), (F.own p hp).2.2⟩, F.nd⟩, fun b o e n1 n2 => hideAll_get _ e fun hm => ?_, fun b o e => of_hideAll _ e⟩
  · rcases List.mem_cons.mp hm with rfl | hm
    · rw [F.gL] at e; cases e
    · obtain ⟨p, hp, rfl⟩ := List.mem_map.mp hm
      rw [(F.own p hp).2.1] at e; cases e
  · rcases List.mem_cons.mp hm with rfl | hm
    · exact n1 rfl
    · exact n2 hm
end Fm

/-- a name's new value -/
abbrev upd (m : Str → Option Value) (x : Str) (v : Value) : Str → Option Value := fun y => if y = x then some v else m y

section
variable {prog : Program} {w : World} {A : Around} {E : Value → Shared → Prop} {s : Shared} {env : Env} {g : Heap} {m : Str → Option Value} {l : List (Addr × (Obj → Prop))}

theorem lv {M : Model} {x : Str} {pos : Pos} {v : Value} {Q : Value → Shared → Prop} (F : Fm g env.locals m l s.heap) (hv : m x = some v) (h : Q v s)
    (hk : env.scope.kind = .function := by rfl) (hl : env.kindOf x = some .local := by rfl) (hd : (x == ("__debug__" : Str)) = false := by decide) :
    wpAny M A (eval (.Name x pos) env) Q E s := wpAny_Name (wpAny_loadName_local hk hl F.ns hv h) hd
theorem lvN {M : Model} {x : Str} {v : Value} {Q : Value → Shared → Prop} (F : Fm g env.locals m l s.heap) (hv : m x = some v) (h : Q v s)
    (hk : env.scope.kind = .function := by rfl) (hl : env.kindOf x = some .local := by rfl) : wpAny M A (loadName env x) Q E s := wpAny_loadName_local hk hl F.ns hv h
theorem sv {M : Model} {x : Str} {v : Value} {Q : Unit → Shared → Prop} (F : Fm g env.locals m l s.heap)
    (h : ∀ h', Fm g env.locals (upd m x v) l h' → Q () { s with heap := h', toks := s.toks + 1 })
    (hl : env.kindOf x = some .local := by rfl) (hp : (env.scope.kind == .class || (env.scope.kind == .module && env.locals != env.globals)) = false := by rfl) :
    wpAny M A (storeName env x v) Q E s := wpAny_storeName_local hl F.ns (fun h' hn hs => h h' (F.store hn hs)) hp
end

/-- what the text's top leaves, and the built-in names -/
structure GG (w : World) (h : Heap) : Prop where
  inK : (hd.heap_39 w.params).In h
  ns : ∃ mg, h.Ns mainGlobals mg
  bi : ∃ mb, h.Ns builtinsNs mb ∧ ∀ x : Str, x ≠ "__name__" → mb x = bootBuiltins x
  nl : h.NoLimit
theorem GG.keep {w : World} {h h' : Heap} (G : GG w h) (k : Keep h h') : GG w h' :=
  ⟨G.inK.keeps k, let ⟨mg, e⟩ := G.ns; ⟨mg, e.keeps k⟩, let ⟨mb, e, q⟩ := G.bi; ⟨mb, e.keeps k, q⟩, G.nl.keeps k⟩

section
variable {prog : Program} {w : World} {A : Around} {E : Value → Shared → Prop} {s : Shared} {env : Env} {g : Heap} {m : Str → Option Value} {l : List (Addr × (Obj → Prop))}

theorem gv {x : Str} {pos : Pos} {v : Value} {Q : Value → Shared → Prop} (G : GG w s.heap) (e : nsIn (hd.heap_39 w.params) mainGlobals x = some (some v)) (h : Q v s)
    (hg : env.globals = mainGlobals := by rfl) (hk : env.scope.kind = .function := by rfl) (hx : env.kindOf x = some .globalImplicit := by rfl) (hd : (x == ("__debug__" : Str)) = false := by decide) :
    wpAny (model prog w) A (eval (.Name x pos) env) Q E s := by
  obtain ⟨mg, hn⟩ := G.ns
  exact Name_function_global hk hx (loadGlobal_global (by rw [hg]; exact hn) (mg_of G.inK hn e) h) hd
theorem bv {x : Str} {pos : Pos} {v : Value} {Q : Value → Shared → Prop} (G : GG w s.heap) (e : nsIn (hd.heap_39 w.params) mainGlobals x = some none) (hv : bootBuiltins x = some v) (h : Q v s)
    (hn : x ≠ "__name__" := by decide) (hg : env.globals = mainGlobals := by rfl) (hb : env.builtins = builtinsNs := by rfl)
    (hk : env.scope.kind = .function := by rfl) (hx : env.kindOf x = some .globalImplicit := by rfl) (hd : (x == ("__debug__" : Str)) = false := by decide) :
    wpAny (model prog w) A (eval (.Name x pos) env) Q E s := by
  obtain ⟨mg, hm⟩ := G.ns
  obtain ⟨mb, hb', q⟩ := G.bi
  exact Name_function_global hk hx (loadGlobal_builtin (by rw [hg]; exact hm) (mg_none_of G.inK hm e) (by rw [hb]; exact hb') ((q x hn).trans hv) h) hd

/-- what a call of a def of the text does, told of the heap alone -/
def CallT (prog : Program) (w : World) (A : Around) (f : Addr) (args : List Value) (h : Heap) (P : Value → Heap → Prop) : Prop :=
  ∀ (s : Shared) (R : Result → Shared → Prop), s.heap = h → (∀ v h' tk, P v h' → R (.ok (.ret v)) { s with heap := h', toks := tk }) → codeAny (model prog w) A (.call (.ref f) ⟨args, []⟩) R s

theorem callF {f : Addr} {pos : Pos} {x : Sem Value} {rest : List (Bool × Sem Value)} {o : Obj} {fd : FuncData} {Q : Value → Shared → Prop} (hK : (hd.heap_39 w.params).lookup f = some o) (ho : o.data = .func fd)
    (h : wpAny (model prog w) A (spliced ((false, x) :: rest)) (fun vs s₁ => (hd.heap_39 w.params).In s₁.heap ∧ codeAny (model prog w) A (.call (.ref f) ⟨vs, []⟩) (fun r s' => match r with | .ok (.ret v) => Q v s' | .ok _ => False | .error e => E e s') s₁) E s) :
    wpAny (model prog w) A (callWith pos (.ref f) [] ((false, x) :: rest) []) Q E s := by
  refine callWith_function (o := o) (fd := fd) (evalArgs_plain (wpAny_mono h (fun vs s₁ h₁ => ?_) fun _ _ e => e))
  exact ⟨⟨h₁.1 _ _ hK, ho⟩, wpAny_call h₁.2⟩

/-- a called def is entered -/
theorem enter {R : Result → Shared → Prop} {name qual : Str} {params : Arguments} {body : List Stmt} {scope : Scope} {dV kV doc pm cdv ct oc : Value} {an od : Option Addr} {osl : Array (Option Value)} {f : Addr} {args : List Value} {binds : List (Str × Value)}
    (G : GG w s.heap) (ho : (hd.heap_39 w.params).lookup f = some ⟨oc, od, .func (fnOf name qual params body scope dV kV doc pm an cdv ct), osl⟩) (hcd : codeIn (hd.heap_39 w.params) cdv qual = true) (hroom : A.depth < recursionLimit)
    (hbind : bindArgs (fnOf name qual params body scope dV kV doc pm an cdv ct) ⟨args, []⟩ = pure binds) (hloc : ∀ y ∈ binds, scope.names.lookup y.1 = some .local)
    (h : ∀ L h₁ tk, L = s.heap.objs.size → h₁.Ns L (fun x => binds.reverse.lookup x) → Keep s.heap h₁ → s.heap.get? L = none →
      wpAny (model prog w) (A.deeper (envOf qual scope L f cdv)) (execs body (envOf qual scope L f cdv)) (fun fl s' => R (.ok (.ret (match fl with | .ret v => v | _ => .none))) s') (fun _ _ => False) { s with heap := h₁, toks := tk })
    (hco : scope.isCoroutine = false := by rfl) (hgen : scope.isGenerator = false := by rfl) (hk : scope.kind = .function := by rfl) (hcell : ∀ x ∈ scope.names, x.2 ≠ .cell := by decide) :
    codeAny (model prog w) A (.call (.ref f) ⟨args, []⟩) R s := by
  refine codeAny_call_def (fd := fnOf name qual params body scope dV kV doc pm an cdv ct) (body := body) (binds := binds) hroom (G.inK _ _ ho) rfl G.nl (codeRec_of G.inK hcd) rfl (BindsTo.of_eq hbind) hcell hloc (fun h₁ hns hk₁ => ?_) hco hgen hk
  have hL : s.heap.get? s.heap.objs.size = none := by
    cases e : s.heap.get? s.heap.objs.size with
    | none => rfl
    | some o => exact absurd (Heap.lt_size e) (Nat.lt_irrefl _)
  exact wpAny_mono (h _ h₁ _ rfl hns hk₁ hL) (fun _ _ x => x) fun _ _ x => x.elim

/-- the frame of a called def that changes what l names -/
theorem Fm.start {h h₁ : Heap} {L : Addr} {l : List (Addr × (Obj → Prop))} (hn : h₁.Ns L m) (hk : Keep h h₁) (hL : h.get? L = none) (hl : ∀ p ∈ l, At h p.1 p.2) (nd : (l.map (·.1)).Nodup) : Fm (hideAll h (l.map (·.1))) L m l h₁ := by
  have gL : (hideAll h (l.map (·.1))).get? L = none := by
    cases e : (hideAll h (l.map (·.1))).get? L with
    | none => rfl
    | some o => rw [of_hideAll _ e] at hL; cases hL
  refine ⟨hn, fun b o e => hk b o (of_hideAll _ e), gL, fun p hp => ⟨(hl p hp).keep hk, hideAll_none _ (List.mem_map_of_mem hp), fun e => ?_⟩, nd⟩
  obtain ⟨o, e', _⟩ := hl p hp
  rw [e, hL] at e'; cases e'
theorem Fm.start0 {h h₁ : Heap} {L : Addr} (hn : h₁.Ns L m) (hk : Keep h h₁) (hL : h.get? L = none) : Fm h L m [] h₁ :=
  ⟨hn, hk, hL, fun _ hp => (nomatch hp), List.nodup_nil⟩
end
section
variable {prog : Program} {w : World} {A : Around} {E : Value → Shared → Prop} {s : Shared} {env : Env} {g : Heap} {m : Str → Option Value} {l : List (Addr × (Obj → Prop))}

theorem subL {value slice : Expr} {a : Addr} {xs : List Value} {k : Int} {u : Tok} {v : Value} {Q : Value → Shared → Prop} (x : At s.heap a (LstO xs)) (h0 : 0 ≤ k) (hfit : k < 2 ^ 63) (hx : xs[k.toNat]? = some v) (h : Q v s)
    (hs : subscripted slice false (.ref a) (.int k u) = operate [.ref a, .int k u] (getItem (.ref a) (.int k u)) := by with_unfolding_all rfl) : wpAny (model prog w) A (subscriptTail value slice (.ref a) (.int k u)) Q E s :=
  tail_any (isList_of x).typeIs slot_list_getitem.lookup (wpAny_getItem_list (isList_of x) h0 hfit (by simpa using hx) h) hs
theorem subI {value slice : Expr} {a : Addr} {xs : List Value} {k : Int} {u : Tok} {v : Value} {Q : Value → Shared → Prop} (x : s.heap.IsList a xs.toArray) (h0 : 0 ≤ k) (hfit : k < 2 ^ 63) (hx : xs[k.toNat]? = some v) (h : Q v s)
    (hs : subscripted slice false (.ref a) (.int k u) = operate [.ref a, .int k u] (getItem (.ref a) (.int k u)) := by with_unfolding_all rfl) : wpAny (model prog w) A (subscriptTail value slice (.ref a) (.int k u)) Q E s :=
  tail_any x.typeIs slot_list_getitem.lookup (wpAny_getItem_list x h0 hfit (by simpa using hx) h) hs

theorem setL {a : Addr} {xs : List Value} {k : Int} {u : Tok} {v : Value} {Q : Unit → Shared → Prop} (x : At s.heap a (LstO xs)) (h0 : 0 ≤ k) (hfit : k < 2 ^ 63) (hn : k.toNat < xs.length)
    (hQ : ∀ h', At h' a (LstO (xs.set k.toNat v)) → Heap.SameBut a s.heap h' → Q () { s with heap := h' }) : wpAny (model prog w) A (setItem (.ref a) (.int k u) v) Q E s := by
  obtain ⟨n, e⟩ := isL_of x
  have hl := e.isList
  have ho : s.heap.get? a = some { cls := .type "list", data := .seq xs.toArray n } := e
  unfold setItem
  try with_reducible refine wpAny_holding ?_
  first | refine wpAny_bind (wpAny_pure ?_) | skip
  refine wpAny_bind (wpAny_sequenceKey hl.typeIs (by decide) ?_)
  refine wpAny_bind (wpAny_callSpecial?_slot (name := Str.ofString "__setitem__") hl.typeIs slot_list_setitem
    (wpAny_call_entry slot_list_setitem hl.typeIs entry_list_setitem ?_ (args_list_setitem _ _ _)))
  show wpAny _ _ (Builtin.List.listSubscript? (.int k u) >>= _) _ _ s
  refine wpAny_bind (wpAny_listSubscript_int (fitsIndex_of h0 hfit) ?_)
  clear hfit
  obtain ⟨j, rfl⟩ := Int.eq_ofNat_of_zero_le h0
  have hj : j < xs.toArray.size := by simpa using hn
  have hx' : xs.toArray[j]? = some xs.toArray[j] := Array.getElem?_eq_getElem hj
  show wpAny _ _ ((seqItemAt a j >>= fun r => pure (r.map (j, ·))) >>= _) _ _ s
  refine wpAny_bind (wpAny_bind (wpAny_seqItemAt ho rfl (wpAny_pure ?_)))
  rw [hx']
  have key : Q () { s with heap := s.heap.update a (Obj.mapSeq (·.setIfInBounds j v)) } := by
    refine hQ _ ⟨_, Heap.get?_update_self _ ho rfl, ?_⟩ (Heap.SameBut.update ..)
    exact ⟨n, by simp [Obj.mapSeq]⟩
  first
    | exact wpAny_bind (wpAny_setSeqItemAt ho rfl (wpAny_pure ⟨_, rfl, wpAny_pure key⟩))
    | exact wpAny_bind (wpAny_setSeqItemAt ho rfl (wpAny_pure ⟨.none, rfl, wpAny_pure key⟩))
    | (refine wpAny_bind ?_; exact wpAny_setSeqItemAt ho rfl (wpAny_pure ⟨_, rfl, wpAny_pure key⟩))
theorem isList_keep {h h' : Heap} {a : Addr} {xs : Array Value} (x : h.IsList a xs) (k : Keep h h') : h'.IsList a xs := let ⟨o, e, r⟩ := x; ⟨o, k _ _ e, r⟩
theorem isList_push {h : Heap} {o : Obj} {a : Addr} {xs : Array Value} (x : h.IsList a xs) : (h.push o).IsList a xs := isList_keep x (Keep.push h o)

/-- one of the frame's own has turned -/
inductive Chg : List (Addr × (Obj → Prop)) → Addr → (Obj → Prop) → (Obj → Prop) → List (Addr × (Obj → Prop)) → Prop where
  | head {a P P' l} : Chg ((a, P) :: l) a P P' ((a, P') :: l)
  | tail {x a P P' l l'} : Chg l a P P' l' → Chg (x :: l) a P P' (x :: l')
theorem Chg.split {l l' : List (Addr × (Obj → Prop))} {a : Addr} {P P' : Obj → Prop} (c : Chg l a P P' l') : ∃ l₁ l₂, l = l₁ ++ (a, P) :: l₂ ∧ l' = l₁ ++ (a, P') :: l₂ := by
  induction c with
  | head => exact ⟨[], _, rfl, rfl⟩
  | tail _ ih => obtain ⟨l₁, l₂, e1, e2⟩ := ih; exact ⟨_ :: l₁, l₂, by rw [e1]; rfl, by rw [e2]; rfl⟩
theorem Fm.turn {h h' : Heap} {L : Addr} {l l' : List (Addr × (Obj → Prop))} {a : Addr} {P P' : Obj → Prop} (F : Fm g L m l h) (c : Chg l a P P' l') (hs : Heap.SameBut a h h') (hp : At h' a P') : Fm g L m l' h' := by
  obtain ⟨l₁, l₂, rfl, rfl⟩ := c.split; exact F.chg hs hp
theorem Fm.turnExt {h h' : Heap} {L : Addr} {l l' : List (Addr × (Obj → Prop))} {a : Addr} {P P' : Obj → Prop} (F : Fm g L m l h) (c : Chg l a P P' l') (hs : Heap.ExtBut a h h') (hp : At h' a P') : Fm g L m l' h' := by
  obtain ⟨l₁, l₂, rfl, rfl⟩ := c.split; exact F.chgExt hs hp
theorem Chg.mem {l l' : List (Addr × (Obj → Prop))} {a : Addr} {P P' : Obj → Prop} (c : Chg l a P P' l') : (a, P) ∈ l := by
  obtain ⟨l₁, l₂, rfl, _⟩ := c.split; simp
theorem setF {L a : Addr} {l l' : List (Addr × (Obj → Prop))} {xs : List Value} {k : Int} {u : Tok} {v : Value} {Q : Unit → Shared → Prop} (F : Fm g L m l s.heap) (c : Chg l a (LstO xs) (LstO (xs.set k.toNat v)) l') (h0 : 0 ≤ k) (hfit : k < 2 ^ 63) (hn : k.toNat < xs.length)
    (hQ : ∀ h', Fm g L m l' h' → Q () { s with heap := h' }) : wpAny (model prog w) A (setItem (.ref a) (.int k u) v) Q E s :=
  setL (F.at_ c.mem) h0 hfit hn fun h' hat hsb => hQ h' (F.turn c hsb hat)
theorem lenI {a : Addr} {xs : List Value} {Q : Value → Shared → Prop} (x : s.heap.IsList a xs.toArray) (hfit : (xs.length : Int) < 2 ^ 63) (h : ∀ t tk, Q (.int xs.length t) { s with toks := tk }) : wpAny (model prog w) A (call (.builtin "len") [.ref a]) Q E s :=
  call_len_list x (by simpa using hfit) (by simpa using h _ _)

/- the tokens told of no more -/
theorem ci {M : Model} {i : Int} {k : Nat} {pos : Pos} {Q : Value → Shared → Prop} (h : ∀ t tk, Q (.int i t) { s with toks := tk }) : wpAny M A (eval (.Constant (.int i) k pos) env) Q E s := wpAny_Constant_int (h _ _)
theorem cs {M : Model} {x : Str} {k : Nat} {pos : Pos} {Q : Value → Shared → Prop} (h : ∀ t tk, Q (.str x t) { s with toks := tk }) : wpAny M A (eval (.Constant (.str x) k pos) env) Q E s := wpAny_Constant_str (h _ _)
theorem addI {a b : Int} {t u : Tok} {Q : Value → Shared → Prop} (h : ∀ t tk, Q (.int (a + b) t) { s with toks := tk }) : wpAny (model prog w) A (binaryOp .Add (.int a t) (.int b u)) Q E s := add_int (h _ _)
theorem iaddI {a b : Int} {t u : Tok} {Q : Value → Shared → Prop} (h : ∀ t tk, Q (.int (a + b) t) { s with toks := tk }) : wpAny (model prog w) A (inplaceOp .Add (.int a t) (.int b u)) Q E s := wpAny_iadd_int (h _ _)
theorem modI {a b : Int} {t u : Tok} {Q : Value → Shared → Prop} (hb : 0 < b) (h : ∀ r t tk, 0 ≤ r → r < b → Q (.int r t) { s with toks := tk }) : wpAny (model prog w) A (binaryOp .Mod (.int a t) (.int b u)) Q E s :=
  mod_int' (by omega) (h _ _ _ (Int.fmod_nonneg_of_pos a hb) (Int.fmod_lt_of_pos a hb))
theorem fdivI {a b : Int} {t u : Tok} {Q : Value → Shared → Prop} (ha : 0 ≤ a) (_ha2 : a < 2 ^ 20) (hb : 0 < b) (hb2 : b < 2 ^ 20) (h : ∀ r t tk, 0 ≤ r → r ≤ a → Q (.int r t) { s with toks := tk }) : wpAny (model prog w) A (binaryOp .FloorDiv (.int a t) (.int b u)) Q E s := by
  have e : a.fdiv b = a / b := Int.fdiv_eq_ediv_of_nonneg a (by omega)
  have h1 : 0 ≤ a / b := Int.ediv_nonneg ha (by omega)
  have h2 : a / b ≤ a := Int.ediv_le_self b ha
  exact PyProof.Rows.floordiv_int (by omega) (by rw [e]; exact h _ _ _ h1 h2)
theorem svT {M : Model} {x : Str} {v : Value} {Q : Unit → Shared → Prop} (F : Fm g env.locals m l s.heap)
    (h : ∀ h' tk, Fm g env.locals (upd m x v) l h' → Q () { s with heap := h', toks := tk })
    (hl : env.kindOf x = some .local := by rfl) (hp : (env.scope.kind == .class || (env.scope.kind == .module && env.locals != env.globals)) = false := by rfl) :
    wpAny M A (storeName env x v) Q E s := sv F (fun h' F' => h h' _ F') hl hp
theorem intsAre_get {vs : List Value} {ns : List Int} (h : IntsAre vs ns) : ∀ i : Nat, i < vs.length → ∃ k t, vs[i]? = some (.int k t) := by
  induction h with
  | nil => intro i hi; simp at hi
  | cons n t _ ih =>
    intro i hi
    cases i with
    | zero => exact ⟨n, t, rfl⟩
    | succ i => simpa using ih i (by simpa using hi)
theorem subScr {value slice : Expr} {a : Addr} {vs : List Value} {ns : List Int} {k : Int} {u : Tok} {Q : Value → Shared → Prop} (x : s.heap.IsList a vs.toArray) (hI : IntsAre vs ns) (h0 : 0 ≤ k) (hlt : k < vs.length) (hfit : (vs.length : Int) < 2 ^ 63) (h : ∀ j t, Q (.int j t) s)
    (hs : subscripted slice false (.ref a) (.int k u) = operate [.ref a, .int k u] (getItem (.ref a) (.int k u)) := by with_unfolding_all rfl) : wpAny (model prog w) A (subscriptTail value slice (.ref a) (.int k u)) Q E s := by
  obtain ⟨j, t, e⟩ := intsAre_get hI k.toNat (by omega)
  exact subI x h0 (by omega) e (h _ _) hs
theorem Fm.extBut {h h' : Heap} {L c : Addr} {P : Obj → Prop} (F : Fm (hideAll h [c]) L m [(c, P)] h') : Heap.ExtBut c h h' := fun b o n e => F.keep b o (hideAll_get _ e (by simpa using n))
end
/-- a tuple of these items -/
def TupO (xs : List Value) (o : Obj) : Prop := ∃ n, o = { cls := .type "tuple", data := .seq xs.toArray n }
/-- a slice's parts -/
def SlcO (l u st : Value) (o : Obj) : Prop := o = { cls := .type "slice", data := .fields #[l, u, st] }
/-- a range by ones; its iterator -/
def RngO (b : Int) (o : Obj) : Prop := ∃ t u v, o = { cls := .type "range", data := .fields #[.int 0 t, .int b u, .int 1 v] }
def RItO (x left : Int) (o : Obj) : Prop := o = { cls := .type "range_iterator", data := .fields #[rawInt x, rawInt left, rawInt 1] }

/-- an object that nothing here changes once it is made: a tuple, a tag -/
def Frz (o : Obj) : Prop := (o.cls = .type "tuple" ∨ o.cls = .ref 114) ∧ ∀ es n, o.data ≠ .dict es n
def Kf (h h' : Heap) : Prop := ∀ a o, h.get? a = some o → Frz o → h'.get? a = some o
theorem Keep.kf {h h' : Heap} (k : Keep h h') : Kf h h' := fun a o e _ => k a o e
theorem Kf.trans {h₁ h₂ h₃ : Heap} (x : Kf h₁ h₂) (y : Kf h₂ h₃) : Kf h₁ h₃ := fun a o e f => y a o (x a o e f) f
/-- of which P holds is not such a one -/
def Mut (P : Obj → Prop) : Prop := ∀ o, P o → ¬ Frz o
theorem mutL {xs : List Value} : Mut (LstO xs) := by rintro o ⟨n, rfl⟩ ⟨h | h, _⟩ <;> simp at h
theorem mutS {l u st : Value} : Mut (SlcO l u st) := by rintro o rfl ⟨h | h, _⟩ <;> simp at h
theorem mutR {b : Int} : Mut (RngO b) := by rintro o ⟨_, _, _, rfl⟩ ⟨h | h, _⟩ <;> simp at h
theorem mutRI {x left : Int} : Mut (RItO x left) := by rintro o rfl ⟨h | h, _⟩ <;> simp at h
theorem mutI {a : Addr} {i : Nat} : Mut (IterO a i) := by rintro o ⟨hc, _⟩ ⟨h | h, _⟩ <;> (rw [hc] at h; simp at h)
def Muts (l : List (Addr × (Obj → Prop))) : Prop := ∀ p ∈ l, Mut p.2
theorem Muts.nil : Muts [] := fun _ h => nomatch h
theorem Muts.cons {a : Addr} {P : Obj → Prop} {l : List (Addr × (Obj → Prop))} (h : Mut P) (t : Muts l) : Muts ((a, P) :: l) := fun p hp => by
  rcases List.mem_cons.mp hp with rfl | hp
  · exact h
  · exact t p hp
theorem frzT {xs : List Value} {o : Obj} (h : TupO xs o) : Frz o := by obtain ⟨n, rfl⟩ := h; exact ⟨.inl rfl, fun _ _ e => by cases e⟩

theorem Fm.anew {g h : Heap} {L : Addr} {m : Str → Option Value} {l : List (Addr × (Obj → Prop))} (F : Fm g L m l h) (M : Muts l) : ∃ g', Keep g g' ∧ Fm g' L m l h ∧ Kf h g' := by
  obtain ⟨g', k, F', q, _⟩ := F.rebase
  refine ⟨g', k, F', fun a o e f => q a o e (fun z => ?_) fun z => ?_⟩
  · subst z
    obtain ⟨oL, es, ep, hL, hd, _⟩ := F.ns
    rw [e] at hL; cases hL
    exact f.2 _ _ hd
  · obtain ⟨p, hp, rfl⟩ := List.mem_map.mp z
    obtain ⟨o', e', ho'⟩ := (F.own p hp).1
    rw [e] at e'; cases e'
    exact M p hp _ ho' f

/-- tuples (code, value) that bear these rows -/
inductive Tups (h : Heap) : List Value → List (Int × Str) → Prop where
  | nil : Tups h [] []
  | cons {a : Addr} {c : Int} {t u : Tok} {v : Str} {vs : List Value} {rs : List (Int × Str)} : At h a (TupO [.int c t, .str v u]) → Tups h vs rs → Tups h (.ref a :: vs) ((c, v) :: rs)
theorem At.kf {h h' : Heap} {a : Addr} {P : Obj → Prop} (x : At h a P) (k : Kf h h') (f : ∀ o, P o → Frz o) : At h' a P := let ⟨o, e, p⟩ := x; ⟨o, k a o e (f o p), p⟩
theorem Tups.kf {h h' : Heap} {vs : List Value} {rs : List (Int × Str)} (x : Tups h vs rs) (k : Kf h h') : Tups h' vs rs := by
  induction x with
  | nil => exact .nil
  | cons a _ ih => exact .cons (a.kf k fun _ => frzT) ih
theorem Tups.keep {h h' : Heap} {vs : List Value} {rs : List (Int × Str)} (x : Tups h vs rs) (k : Keep h h') : Tups h' vs rs := x.kf k.kf
theorem Tups.length {h : Heap} {vs : List Value} {rs : List (Int × Str)} (x : Tups h vs rs) : vs.length = rs.length := by
  induction x with
  | nil => rfl
  | cons _ _ ih => simp [ih]
theorem Tups.append {h : Heap} {vs us : List Value} {rs qs : List (Int × Str)} (x : Tups h vs rs) (y : Tups h us qs) : Tups h (vs ++ us) (rs ++ qs) := by
  induction x with
  | nil => exact y
  | cons a _ ih => exact .cons a ih
theorem Tups.take {h : Heap} {vs : List Value} {rs : List (Int × Str)} (x : Tups h vs rs) : ∀ k, Tups h (vs.take k) (rs.take k) := by
  induction x with
  | nil => intro k; simpa using Tups.nil
  | cons a _ ih => intro k; cases k with
    | zero => exact .nil
    | succ k => exact .cons a (ih k)
theorem Tups.drop {h : Heap} {vs : List Value} {rs : List (Int × Str)} (x : Tups h vs rs) : ∀ k, Tups h (vs.drop k) (rs.drop k) := by
  induction x with
  | nil => intro k; simpa using Tups.nil
  | cons a t ih => intro k; cases k with
    | zero => exact .cons a t
    | succ k => exact ih k
theorem Tups.get {h : Heap} {vs : List Value} {rs : List (Int × Str)} (x : Tups h vs rs) : ∀ i : Nat, i < vs.length → ∃ a c v t u, vs[i]? = some (.ref a) ∧ rs[i]? = some (c, v) ∧ At h a (TupO [.int c t, .str v u]) := by
  induction x with
  | nil => intro i hi; simp at hi
  | cons a _ ih => intro i hi; cases i with
    | zero => exact ⟨_, _, _, _, _, rfl, rfl, a⟩
    | succ i => simpa using ih i (by simpa using hi)

section
variable {prog : Program} {w : World} {A : Around} {E : Value → Shared → Prop} {s : Shared} {env : Env} {g : Heap} {L : Addr} {m : Str → Option Value} {l l' : List (Addr × (Obj → Prop))}

theorem newL {M : Model} {vs : List Value} {Q : Value → Shared → Prop} (F : Fm g L m l s.heap) (hsz : vs.length ≤ sizeLine) (h : ∀ a h', Keep s.heap h' → Fm g L m ((a, LstO vs) :: l) h' → Q (.ref a) { s with heap := h' }) : wpAny M A (newList vs) Q E s :=
  wpAny_newObj_type (h _ _ (Keep.push _ _) (F.new ⟨0, rfl⟩)) (by show vs.toArray.size ≤ sizeLine; rw [List.size_toArray]; exact hsz)
theorem newT {M : Model} {vs : List Value} {Q : Value → Shared → Prop} (F : Fm g L m l s.heap) (hsz : vs.length ≤ sizeLine) (h : ∀ a h', Keep s.heap h' → At h' a (TupO vs) → Fm g L m l h' → Q (.ref a) { s with heap := h' }) : wpAny M A (newTuple vs) Q E s :=
  wpAny_newObj_type (h _ _ (Keep.push _ _) (At.new _ ⟨0, rfl⟩) (F.push _)) (by show vs.toArray.size ≤ sizeLine; rw [List.size_toArray]; exact hsz)

/-- a display of written pairs -/
inductive TupEs : List Expr → List (Int × Str) → Prop where
  | nil : TupEs [] []
  | cons {i : Int} {x : Str} {k1 k2 k : Nat} {p1 p2 p : Pos} {es : List Expr} {rs : List (Int × Str)} : TupEs es rs → TupEs (.Tuple [.Constant (.int i) k1 p1, .Constant (.str x) k2 p2] k p :: es) ((i, x) :: rs)
theorem dispT {M : Model} {pos : Pos} {es : List Expr} {rs : List (Int × Str)} (T : TupEs es rs) : ∀ {s : Shared} {Q : List Value → Shared → Prop}, Fm g L m l s.heap →
    (∀ vs h' tk, Keep s.heap h' → Fm g L m l h' → Tups h' vs rs → Q vs { s with heap := h', toks := tk }) → wpAny M A (spliced (backTo pos (starEach es env))) Q E s := by
  induction T with
  | nil => intro s Q F h; exact args_nil (h [] s.heap s.toks (Keep.refl _) F .nil)
  | @cons i x k1 k2 k p1 p2 p es rs _ ih =>
    intro s Q F h
    refine args_cons (Tuple_ (args_cons (ci fun t tk => args_cons (cs fun u tk' => args_nil (newT F (by size_fits) fun a h' kp hat F' => ?_))))) (by rfl)
    refine ih F' fun vs h'' tk'' kp' F'' T' => ?_
    exact h _ _ _ (kp.trans kp') F'' (.cons (hat.keep kp') T')

theorem Fm.dropExt {h h' : Heap} {a : Addr} {P : Obj → Prop} (F : Fm g L m ((a, P) :: l) h) (hs : Heap.ExtBut a h h') : Fm g L m l h' := by
  have D := F.own (a, P) (.head _)
  obtain ⟨oL, es, ep, hL, r⟩ := F.ns
  have nd := F.nd
  rw [List.map_cons] at nd
  refine ⟨⟨oL, es, ep, hs _ _ (Ne.symm D.2.2) hL, r⟩, fun b o e => hs b o (fun q => ?_) (F.keep b o e), F.gL, fun p hp => ?_, (List.nodup_cons.mp nd).2⟩
  · subst q
    have z : g.get? b = none := D.2.1
    rw [z] at e; cases e
  · have z := F.own p (.tail _ hp)
    exact ⟨z.1.ext hs fun e => (List.nodup_cons.mp nd).1 (by have := List.mem_map_of_mem (f := (·.1)) hp; rw [e] at this; exact this), z.2⟩
theorem range1 {n : Int} {t : Tok} {Q : Value → Shared → Prop} (F : Fm g L m l s.heap) (h : ∀ a h' tk, Keep s.heap h' → Fm g L m ((a, RngO n) :: l) h' → Q (.ref a) { s with heap := h', toks := tk }) : wpAny (model prog w) A (call (.type "range") [.int n t]) Q E s :=
  call_range_1 (h _ _ _ (Keep.push _ _) (F.new ⟨_, _, _, rfl⟩))
theorem iterR {a : Addr} {n : Int} {Q : Value → Shared → Prop} (F : Fm g L m ((a, RngO n) :: l) s.heap) (h0 : 0 ≤ n) (h1 : n < 2 ^ 62) (h : ∀ it h', Keep s.heap h' → Fm g L m ((it, RItO 0 n) :: l) h' → Q (.ref it) { s with heap := h' }) : wpAny (model prog w) A (pyIter (.ref a)) Q E s := by
  obtain ⟨o, e, t, u, v, rfl⟩ := F.at_ (.head _)
  refine wpAny_pyIter_range (a := 0) (b := n) (c := 1) e (small_one (by decide) (by decide) (by omega) h1) ?_
  have e1 : Builtin.Range.rangeSize 0 n 1 = n := by rw [rangeSize_one]; split <;> omega
  rw [e1]
  exact h _ _ (Keep.push _ _) ((F.sub (List.sublist_cons_self _ _)).new rfl)
theorem nextR {it : Addr} {x left : Int} {Q : Option Value → Shared → Prop} (F : Fm g L m l s.heap) (c : Chg l it (RItO x left) (RItO (x + 1) (left - 1)) l') (hl : 0 < left)
    (h : ∀ t h' tk, Fm g L m l' h' → Q (some (.int x t)) { s with heap := h', toks := tk }) : wpAny (model prog w) A (pyNext (.ref it)) Q E s := by
  obtain ⟨o, e, ho⟩ := F.at_ c.mem
  obtain rfl : o = _ := ho
  exact wpAny_pyNext_range_item e hl fun h' e' hs => h _ _ _ (F.turn c hs ⟨_, e', rfl⟩)
theorem endR {it : Addr} {x left : Int} {Q : Option Value → Shared → Prop} (hh : A.handled = none) (F : Fm g L m ((it, RItO x left) :: l) s.heap) (hl : left ≤ 0) (h : ∀ h', Fm g L m l h' → Q none { s with heap := h' }) : wpAny (model prog w) A (pyNext (.ref it)) Q E s := by
  obtain ⟨o, e, ho⟩ := F.at_ (.head _)
  obtain rfl : o = _ := ho
  exact wpAny_pyNext_range_end hh e hl fun h' hs => h h' (F.dropExt hs)

theorem sliceF {lower upper : Option Expr} {p : Pos} {Q : Value → Shared → Prop}
    (h : wpAny (model prog w) A (evalPart lower env) (fun vl s₁ => wpAny (model prog w) A (evalPart upper env) (fun vu s₂ => ∃ g L m l, Fm g L m l s₂.heap ∧ ∀ a h', Keep s₂.heap h' → Fm g L m ((a, SlcO vl vu .none) :: l) h' → Q (.ref a) { s₂ with heap := h' }) E s₁) E s) :
    wpAny (model prog w) A (eval (.Slice lower upper none p) env) Q E s :=
  wpAny_Slice (wpAny_mono h (fun vl s₁ h₁ => wpAny_mono h₁ (fun vu s₂ h₂ => by
    obtain ⟨g, L, m, l, F, q⟩ := h₂
    rw [evalPart_none]
    exact wpAny_pure (q _ _ (Keep.push _ _) (F.new rfl))) fun _ _ x => x) fun _ _ x => x)
theorem sliceL {value slice : Expr} {a sl : Addr} {xs ys : List Value} {vl vu : Value} {lo hi : Option Int} {Q : Value → Shared → Prop} (F : Fm g L m ((sl, SlcO vl vu .none) :: l) s.heap) (x : (a, LstO xs) ∈ l) (pl : IsPart vl lo) (pu : IsPart vu hi) (hsz : xs.length ≤ sizeLine)
    (e : (slicePick xs.toArray lo hi none).toList = ys)
    (h : ∀ b h', Keep s.heap h' → Fm g L m ((b, LstO ys) :: l) h' → Q (.ref b) { s with heap := h' })
    (hs : subscripted slice false (.ref a) (.ref sl) = operate [.ref sl, .ref a] (getItem (.ref a) (.ref sl)) := by with_unfolding_all rfl) : wpAny (model prog w) A (subscriptTail value slice (.ref a) (.ref sl)) Q E s := by
  obtain ⟨o, e', ho⟩ := F.at_ (.head _)
  obtain rfl : o = _ := ho
  have hl := isList_of (F.at_ (.tail _ x))
  refine tail_any hl.typeIs slot_list_getitem.lookup (wpAny_getItem_list_slice hl ⟨_, e', rfl, rfl⟩ pl pu .none (by simp) ?_ (by rw [List.size_toArray]; exact hsz)) hs
  exact h _ _ (Keep.push _ _) ((F.sub (List.sublist_cons_self _ _)).new ⟨0, by rw [← e]⟩)
theorem pick_upto {xs : List Value} {y : Int} (h : 0 ≤ y) : (slicePick xs.toArray none (some y) none).toList = xs.take y.toNat := by
  obtain ⟨k, rfl⟩ := Int.eq_ofNat_of_zero_le h
  rw [slicePick_upto']; simp
theorem pick_run {xs : List Value} {x y : Nat} (h : x ≤ y) : (slicePick xs.toArray (some (x : Int)) (some (y : Int)) none).toList = (xs.drop x).take (y - x) := by
  rw [slicePick_plain]
  simp only [Option.elim, clipAt_nat, List.size_toArray]
  rcases Nat.le_total y xs.length with h1 | h1
  · rw [Nat.min_eq_left h1, Nat.min_eq_left (Nat.le_trans h h1)]
  · rw [Nat.min_eq_right h1]
    rcases Nat.le_total x xs.length with h2 | h2
    · rw [Nat.min_eq_left h2, List.take_of_length_le (by simp), List.take_of_length_le (by simp; omega)]
    · rw [Nat.min_eq_right h2]; simp [List.drop_of_length_le h2]

theorem addL {a b : Addr} {xs ys : List Value} {Q : Value → Shared → Prop} (F : Fm g L m l s.heap) (x : At s.heap a (LstO xs)) (y : At s.heap b (LstO ys)) (hsz : xs.length + ys.length ≤ sizeLine)
    (h : ∀ d h', Keep s.heap h' → Fm g L m ((d, LstO (xs ++ ys)) :: l) h' → Q (.ref d) { s with heap := h' }) : wpAny (model prog w) A (binaryOp .Add (.ref a) (.ref b)) Q E s := by
  obtain ⟨n, e⟩ := isL_of x
  obtain ⟨n2, e2⟩ := isL_of y
  exact PySem.P.add_list e e2 (h _ _ (Keep.push _ _) (F.new ⟨0, by simp⟩)) (by simpa using hsz)
theorem appL {a : Addr} {xs : List Value} {v : Value} {Q : Value → Shared → Prop} (F : Fm g L m l s.heap) (c : Chg l a (LstO xs) (LstO (xs ++ [v])) l') (hsz : xs.length ≤ sizeLine)
    (h : ∀ h', Fm g L m l' h' → Q .none { s with heap := h' }) : wpAny (model prog w) A (call (.builtin "list.append") [.ref a, v]) Q E s := by
  obtain ⟨n, e⟩ := isL_of (F.at_ c.mem)
  have hl := e.isList
  refine wpAny_call_entry slot_list_append hl.typeIs entry_list_append ?_ (args_list_append _ _)
  show wpAny _ _ (updateSeq a (·.push v) >>= fun _ => ret .none) _ _ s
  refine wpAny_bind ?_
  refine wpAny_updateSeq e rfl (wpAny_pure ⟨.none, rfl, ?_⟩) (hz := by rw [List.size_toArray]; exact hsz) (_hz' := by simpa using hsz)
  exact h _ (F.turn c (Heap.SameBut.update ..) ⟨_, e.update _, _, by rw [List.push_toArray]⟩)
end
section
variable {prog : Program} {w : World} {A : Around} {E : Value → Shared → Prop} {s : Shared} {env : Env} {g : Heap} {L : Addr} {m : Str → Option Value} {l l' : List (Addr × (Obj → Prop))}
theorem methApp {a : Addr} {xs : List Value} {pl : Sem Bool} {Q : Value × List Value → Shared → Prop} (x : At s.heap a (LstO xs)) (h : Q (.builtin "list.append", [.ref a]) s) : wpAny (model prog w) A (getMethod (.ref a) "append" pl) Q E s := by
  obtain ⟨n, e⟩ := isL_of x
  exact getMethod_list_append e rfl rfl h
theorem methClr {a : Addr} {xs : List Value} {pl : Sem Bool} {Q : Value × List Value → Shared → Prop} (x : At s.heap a (LstO xs)) (h : Q (.builtin "list.clear", [.ref a]) s) : wpAny (model prog w) A (getMethod (.ref a) "clear" pl) Q E s := by
  obtain ⟨n, ho⟩ := isL_of x
  have hT : s.TypeIs (.ref a) "list" := ⟨_, ho, rfl⟩
  unfold getMethod
  refine wpAny_bind (wpAny_specialOf hT list_getattribute ?_)
  show wpAny _ A (if (Manifest.canonical "list.__getattribute__" != "object.__getattribute__") = true then _ else _) Q E s
  rw [canon_list_getattribute, if_neg Bool.false_ne_true]
  refine wpAny_bind (wpAny_specialOf hT list_getattr_none ?_)
  refine wpAny_bind (wpAny_specialOf hT PySem.F.slot_list_clear.lookup ?_)
  refine wpAny_bind (wpAny_of_eq PySem.F.type_list_clear ?_)
  refine wpAny_bind (wpAny_load ho ?_)
  exact wpAny_bind (wpAny_rule (wpAny_pure h))
theorem clrL {a : Addr} {xs : List Value} {Q : Value → Shared → Prop} (F : Fm g L m l s.heap) (c : Chg l a (LstO xs) (LstO []) l') (hsz : xs.length ≤ sizeLine)
    (h : ∀ h', Fm g L m l' h' → Q .none { s with heap := h' }) : wpAny (model prog w) A (call (.builtin "list.clear") [.ref a]) Q E s := by
  obtain ⟨n, e⟩ := isL_of (F.at_ c.mem)
  refine call_meets PySem.F.slot_list_clear ⟨_, e, rfl⟩ PySem.F.entry_list_clear (PySem.F.args_list_clear_1 _) (PySem.AutoSeq1.list_clear_list_0 a xs.toArray n (by simpa using hsz)) ⟨e, h _ (F.turn c (Heap.SameBut.update ..) ⟨_, e.update _, _, rfl⟩)⟩
/-- a def of the text, called by its name with written places -/
theorem callG {f : Addr} {pos : Pos} {e : Expr} {rest : List Expr} {o : Obj} {fd : FuncData} {Q : Value → Shared → Prop} (hK : (hd.heap_39 w.params).lookup f = some o) (ho : o.data = .func fd)
    (h : wpAny (model prog w) A (spliced (backTo pos (starEach (e :: rest) env))) (fun vs s₁ => GG w s₁.heap ∧ codeAny (model prog w) A (.call (.ref f) ⟨vs, []⟩) (fun r s' => match r with | .ok (.ret v) => Q v s' | .ok _ => False | .error e => E e s') s₁) E s)
    (he : starEach (e :: rest) env = (false, eval e env) :: starEach rest env := by rfl) :
    wpAny (model prog w) A (callWith pos (.ref f) [] (backTo pos (starEach (e :: rest) env)) []) Q E s :=
  callWith_def (o := o) (fd := fd) ho (wpAny_mono h (fun vs s₁ h₁ => ⟨h₁.1.inK _ _ hK, wpAny_call h₁.2⟩) fun _ _ x => x) he
end
/-- the law's own state: script, place, the number in hand -/
def CO (scr : Addr) (o : Obj) : Prop := ∃ i n t1 t2, 0 ≤ i ∧ 0 ≤ n ∧ n < 2 ^ 20 ∧ LstO [.ref scr, .int i t1, .int n t2] o
def Scr (scr : Addr) (h : Heap) : Prop := ∃ vs ns, h.IsList scr vs.toArray ∧ IntsAre vs ns ∧ vs.length ≤ 63

theorem Scr.keep {scr : Addr} {h h' : Heap} (x : Scr scr h) (k : Keep h h') : Scr scr h' := let ⟨vs, ns, a, b, c⟩ := x; ⟨vs, ns, isList_keep a k, b, c⟩
theorem co_of {h : Heap} {c scr : Addr} {i n : Int} {t1 t2 : Tok} (x : At h c (LstO [.ref scr, .int i t1, .int n t2])) (h0 : 0 ≤ i) (h1 : 0 ≤ n) (h2 : n < 2 ^ 20) : At h c (CO scr) :=
  let ⟨o, e, q⟩ := x; ⟨o, e, i, n, t1, t2, h0, h1, h2, q⟩

theorem mutCO {scr : Addr} : Mut (CO scr) := by rintro o ⟨i, n, t1, t2, _, _, _, h⟩; exact mutL o h
section
variable {prog : Program} {w : World} {A : Around} {E : Value → Shared → Prop} {s : Shared} {env : Env} {g : Heap} {m : Str → Option Value} {l l' : List (Addr × (Obj → Prop))}
/-- what stands between two turns: the state is the old one but for heap and tokens, the frame holds, J holds -/
def Between (s : Shared) (g : Heap) (L : Addr) (top : List (Addr × (Obj → Prop))) (J : Heap → (Str → Option Value) → List (Addr × (Obj → Prop)) → Prop) (s' : Shared) : Prop :=
  ∃ g' m' l' h' tk', s' = { s with heap := h', toks := tk' } ∧ Keep g g' ∧ Fm g' L m' (top ++ l') h' ∧ J g' m' l'

theorem forRange {R : Result → Shared → Prop} {it : Addr} {x : Str} {px : Pos} {body : List Stmt} (n : Nat) (J : Nat → Heap → (Str → Option Value) → List (Addr × (Obj → Prop)) → Prop) (hh : A.handled = none)
    (F : Fm g env.locals m ((it, RItO 0 n) :: l) s.heap) (init : J n g m l)
    (turn : ∀ left (y : Int) t g' m' l' h' tk', J (left + 1) g' m' l' → Keep g g' → Fm g' env.locals (upd m' x (.int y t)) ((it, RItO (y + 1) left) :: l') h' →
      wpAny (model prog w) A (execs body env) (fun f s₃ => (f = .next ∨ f = .cont) ∧ Between s g env.locals [(it, RItO (y + 1) left)] (J left) s₃) (notedBy (model prog w) A env fun e s' => R (.error e) s') { s with heap := h', toks := tk' })
    (fin : ∀ g' m' l' h' tk', J 0 g' m' l' → Keep g g' → Fm g' env.locals m' l' h' → R (.ok .next) { s with heap := h', toks := tk' })
    (hl : env.kindOf x = some .local := by rfl) (hp : (env.scope.kind == .class || (env.scope.kind == .module && env.locals != env.globals)) = false := by rfl) :
    codeAny (model prog w) A (.forLoop (.Name x px) (.ref it) body [] env) R s := by
  refine codeAny_forLoop (I := fun n s' => ∃ y, Between s g env.locals [(it, RItO y (n : Nat))] (J n) s') ?_ n ⟨0, g, m, l, _, _, rfl, Keep.refl _, F, init⟩
  rintro k s' ⟨y, g', m', l', h', tk', rfl, kg, F', hJ⟩
  cases k with
  | zero =>
    refine endR hh F' (by simp) fun h'' F'' => ?_
    exact wpAny_execs_nil (fin _ _ _ _ _ hJ kg F'')
  | succ k =>
    refine nextR F' .head (by omega) fun t h'' tk'' F'' => ?_
    refine wpAny_assign_Name (svT F'' (fun h3 tk3 F3 => ?_) hl hp)
    have e : ((k + 1 : Nat) : Int) - 1 = (k : Nat) := by omega
    rw [e] at F3
    refine wpAny_mono (turn k y t g' m' l' h3 tk3 hJ kg F3) (fun f s₃ hf => ?_) fun _ _ x => x
    obtain ⟨hf, hb⟩ := hf
    rcases hf with rfl | rfl
    · exact ⟨k, Nat.lt_succ_self _, _, hb⟩
    · exact ⟨k, Nat.lt_succ_self _, _, hb⟩
end
/-- p is in l; without it, l' -/
inductive Pull (p : Addr × (Obj → Prop)) : List (Addr × (Obj → Prop)) → List (Addr × (Obj → Prop)) → Prop where
  | head {l} : Pull p (p :: l) l
  | tail {x l l'} : Pull p l l' → Pull p (x :: l) (x :: l')
/-- all of l' is in l, each once -/
inductive Fits : List (Addr × (Obj → Prop)) → List (Addr × (Obj → Prop)) → Prop where
  | nil {l} : Fits l []
  | cons {p l l₁ l'} : Pull p l l₁ → Fits l₁ l' → Fits l (p :: l')
theorem Pull.perm {p : Addr × (Obj → Prop)} {l l' : List (Addr × (Obj → Prop))} (x : Pull p l l') : l.Perm (p :: l') := by
  induction x with
  | head => exact List.Perm.refl _
  | tail _ ih => exact (List.Perm.cons _ ih).trans (List.Perm.swap _ _ _)
theorem Fits.sub {l l' : List (Addr × (Obj → Prop))} (x : Fits l l') : ∃ k, l.Perm (l' ++ k) := by
  induction x with
  | @nil l => exact ⟨l, List.Perm.refl _⟩
  | cons p _ ih => obtain ⟨k, e⟩ := ih; exact ⟨k, p.perm.trans (List.Perm.cons _ e)⟩
theorem Fm.fits {g h : Heap} {L : Addr} {m : Str → Option Value} {l l' : List (Addr × (Obj → Prop))} (F : Fm g L m l h) (x : Fits l l') : Fm g L m l' h := by
  obtain ⟨k, e⟩ := x.sub
  refine ⟨F.ns, F.keep, F.gL, fun p hp => F.own p (e.mem_iff.mpr (List.mem_append_left _ hp)), ?_⟩
  have nd := (e.map (·.1)).nodup_iff.mp F.nd
  rw [List.map_append] at nd
  exact (List.nodup_append.mp nd).1
def menu1 : List (Int × Str) := [(10, Str.ofString "1"), (20, Str.ofString "2"), (30, Str.ofString "3"), (11, Str.ofString "4"), (21, Str.ofString "5"), (31, Str.ofString "6"), (210, Str.ofString "0"), (220, Str.ofString "0"), (230, Str.ofString "1"), (8, Str.ofString "L1"), (38, Str.ofString "2.5"), (40, Str.ofString "9")]
def menu2 : List (Int × Str) := [(0, Str.ofString "LINE"), (0, Str.ofString "DIMSTYLE"), (5, Str.ofString "FF"), (5, Str.ofString "none"), (105, Str.ofString "A0"), (105, Str.ofString "G"), (1010, Str.ofString "7"), (1020, Str.ofString "8"), (1030, Str.ofString "9"), (1000, Str.ofString "t"), (1100, Str.ofString "u"), (5, Str.ofString "12x")]

/-- tuples of the menus -/
def RowsIn (h : Heap) (vs : List Value) : Prop := ∃ rows, Tups h vs rows ∧ ∀ r ∈ rows, r ∈ menu1 ++ menu2
theorem RowsIn.nil {h : Heap} : RowsIn h [] := ⟨[], .nil, fun _ hr => nomatch hr⟩
theorem RowsIn.of {h : Heap} {vs : List Value} {rs : List (Int × Str)} (T : Tups h vs rs) (hr : ∀ r ∈ rs, r ∈ menu1 ++ menu2) : RowsIn h vs := ⟨rs, T, hr⟩
theorem RowsIn.keep {h h' : Heap} {vs : List Value} (x : RowsIn h vs) (k : Keep h h') : RowsIn h' vs := let ⟨r, T, q⟩ := x; ⟨r, T.keep k, q⟩
theorem RowsIn.kf {h h' : Heap} {vs : List Value} (x : RowsIn h vs) (k : Kf h h') : RowsIn h' vs := let ⟨r, T, q⟩ := x; ⟨r, T.kf k, q⟩
theorem RowsIn.append {h : Heap} {vs us : List Value} (x : RowsIn h vs) (y : RowsIn h us) : RowsIn h (vs ++ us) := by
  obtain ⟨r, T, q⟩ := x
  obtain ⟨r', T', q'⟩ := y
  exact ⟨r ++ r', T.append T', fun z hz => (List.mem_append.mp hz).elim (q z) (q' z)⟩
theorem RowsIn.take {h : Heap} {vs : List Value} (x : RowsIn h vs) (k : Nat) : RowsIn h (vs.take k) := let ⟨r, T, q⟩ := x; ⟨r.take k, T.take k, fun z hz => q z (List.mem_of_mem_take hz)⟩
theorem RowsIn.cons {h : Heap} {v : Value} {vs : List Value} (x : RowsIn h [v]) (y : RowsIn h vs) : RowsIn h (v :: vs) := x.append y

section
variable {prog : Program} {w : World} {A : Around} {E : Value → Shared → Prop} {s : Shared} {env : Env} {g : Heap}
theorem subM {value slice : Expr} {a : Addr} {xs : List Value} {k : Int} {u : Tok} {Q : Value → Shared → Prop} (x : At s.heap a (LstO xs)) (R : RowsIn g xs) (h0 : 0 ≤ k) (hk : k < xs.length) (hfit : k < 2 ^ 63)
    (h : ∀ b, RowsIn g [.ref b] → Q (.ref b) s)
    (hs : subscripted slice false (.ref a) (.int k u) = operate [.ref a, .int k u] (getItem (.ref a) (.int k u)) := by with_unfolding_all rfl) : wpAny (model prog w) A (subscriptTail value slice (.ref a) (.int k u)) Q E s := by
  obtain ⟨rs, T, q⟩ := R
  obtain ⟨b, c, v, t, u, e1, e2, e3⟩ := T.get k.toNat (by omega)
  exact subL x h0 hfit e1 (h _ ⟨[(c, v)], .cons e3 .nil, fun r hr => by
    rw [List.mem_singleton] at hr
    subst hr
    exact q _ (List.mem_of_getElem? e2)⟩) hs
theorem sub2 {value slice : Expr} {a : Addr} {v0 v1 : Value} {k : Nat} {u : Tok} {Q : Value → Shared → Prop} (x : At s.heap a (LstO [v0, v1])) (hk : (k : Int) < 2) (q0 : Q v0 s) (q1 : Q v1 s)
    (hs : subscripted slice false (.ref a) (.int k u) = operate [.ref a, .int k u] (getItem (.ref a) (.int k u)) := by with_unfolding_all rfl) : wpAny (model prog w) A (subscriptTail value slice (.ref a) (.int k u)) Q E s := by
  have : k = 0 ∨ k = 1 := by omega
  rcases this with rfl | rfl
  · exact subL x (by decide) (by decide) rfl q0 hs
  · exact subL x (by decide) (by decide) rfl q1 hs
end
theorem Fm.add {g h h' : Heap} {L a : Addr} {m : Str → Option Value} {l : List (Addr × (Obj → Prop))} {P : Obj → Prop} (F : Fm g L m l h) (k : Keep h h') (n : h.get? a = none) (x : At h' a P) : Fm g L m ((a, P) :: l) h' := by
  have F' := F.keeps k
  refine ⟨F'.ns, F'.keep, F'.gL, fun p hp => ?_, ?_⟩
  · rcases List.mem_cons.mp hp with rfl | hp
    · refine ⟨x, ?_, ?_⟩
      · cases e : g.get? a with
        | none => rfl
        | some o => rw [F.keep _ _ e] at n; cases n
      · intro e
        obtain ⟨oL, _, _, hL, _⟩ := F.ns
        have e : a = L := e
        rw [e, hL] at n; cases n
    · exact F'.own p hp
  · rw [List.map_cons]
    refine List.nodup_cons.mpr ⟨fun hm => ?_, F.nd⟩
    obtain ⟨q, hq, e⟩ := List.mem_map.mp hm
    obtain ⟨o, e', _⟩ := (F.own q hq).1
    rw [e] at e'; rw [e'] at n; cases n
theorem Fm.base {g g' h : Heap} {L : Addr} {m : Str → Option Value} {l : List (Addr × (Obj → Prop))} (F : Fm g' L m l h) (k : Keep g g') : Fm g L m l h := by
  have z : ∀ b, g'.get? b = none → g.get? b = none := fun b n => by
    cases e : g.get? b with
    | none => rfl
    | some o => rw [k _ _ e] at n; cases n
  exact ⟨F.ns, k.trans F.keep, z _ F.gL, fun p hp => ⟨(F.own p hp).1, z _ (F.own p hp).2.1, (F.own p hp).2.2⟩, F.nd⟩
/-- another object changes -/
theorem Fm.other {g h h' : Heap} {L C : Addr} {m : Str → Option Value} {l : List (Addr × (Obj → Prop))} (F : Fm g L m l h) (hs : Heap.ExtBut C h h') (hg : g.get? C = none) (hL : C ≠ L) (hl : ∀ p ∈ l, C ≠ p.1) : Fm g L m l h' := by
  obtain ⟨oL, es, ep, hoL, r⟩ := F.ns
  exact ⟨⟨oL, es, ep, hs _ _ (Ne.symm hL) hoL, r⟩, fun b o e => hs b o (fun q => by subst q; rw [hg] at e; cases e) (F.keep b o e), F.gL,
    fun p hp => ⟨(F.own p hp).1.ext hs (Ne.symm (hl p hp)), (F.own p hp).2⟩, F.nd⟩
theorem get_size (h : Heap) : h.get? h.objs.size = none := by
  cases e : h.get? h.objs.size with
  | none => rfl
  | some o => exact absurd (Heap.lt_size e) (Nat.lt_irrefl _)
theorem keep_ext {h h' : Heap} (x : Heap.ExtBut h.objs.size h h') : Keep h h' := fun b o e => x b o (Nat.ne_of_lt (Heap.lt_size e)) e
theorem isTup_of {h : Heap} {a : Addr} {xs : List Value} (x : At h a (TupO xs)) : h.IsTuple a xs.toArray := by
  obtain ⟨o, e, n, rfl⟩ := x; exact ⟨_, e, rfl, n, rfl⟩
theorem none_keep {g g' : Heap} {b : Addr} (k : Keep g g') (n : g'.get? b = none) : g.get? b = none := by
  cases e : g.get? b with
  | none => rfl
  | some o => rw [k _ _ e] at n; cases n

section
variable {prog : Program} {w : World} {A : Around} {E : Value → Shared → Prop} {s : Shared} {env : Env} {g : Heap} {m : Str → Option Value} {l l' : List (Addr × (Obj → Prop))}

theorem goName {x : Str} {px : Pos} {it v : Value} {E' : Value → Shared → Prop} {Q : Unit → Shared → Prop} (F : Fm g env.locals m l s.heap)
    (h : ∀ h' tk, Fm g env.locals (upd m x v) l h' → Q () { s with heap := h', toks := tk })
    (hl : env.kindOf x = some .local := by rfl) (hp : (env.scope.kind == .class || (env.scope.kind == .module && env.locals != env.globals)) = false := by rfl) :
    wpAny (model prog w) A (letOwnedTupleGo (.Name x px) it v) (fun _ s' => wpAny (model prog w) A (assign (.Name x px) env v) Q E s') E' s :=
  wpAny_pure (wpAny_assign_Name (svT F h hl hp))
theorem asgPair {a b : Str} {pa pb pos : Pos} {k} {t : Addr} {va vb : Value} {Q : Unit → Shared → Prop} (hh : A.handled = none) (F : Fm g env.locals m l s.heap) (x : At s.heap t (TupO [va, vb]))
    (h : ∀ h' tk, Fm g env.locals (upd (upd m a va) b vb) l h' → Q () { s with heap := h', toks := tk })
    (hla : env.kindOf a = some .local := by rfl) (hlb : env.kindOf b = some .local := by rfl) (hp : (env.scope.kind == .class || (env.scope.kind == .module && env.locals != env.globals)) = false := by rfl) :
    wpAny (model prog w) A (assign (.Tuple [.Name a pa, .Name b pb] k pos) env (.ref t)) Q E s := by
  refine wpAny_assign_Tuple hh (isTup_of x) rfl rfl fun h₁ hx => ?_
  have F₁ := F.keeps (keep_ext hx)
  show wpAny _ _ (assignInOrder [assign (.Name a pa) env, assign (.Name b pb) env] [va, vb]) _ _ _
  refine wpAny_assignInOrder_more (wpAny_assign_Name (svT F₁ (fun h₂ tk₂ F₂ => ?_) hla hp))
  exact wpAny_assignInOrder_more (wpAny_assign_Name (svT F₂ (fun h₃ tk₃ F₃ => wpAny_assignInOrder_none (h _ _ F₃)) hlb hp))
theorem goPair {a b : Str} {pa pb pos : Pos} {k} {it ax t : Addr} {i : Nat} {va vb : Value} {E' : Value → Shared → Prop} {Q : Unit → Shared → Prop} (hh : A.handled = none) (F : Fm g env.locals m l s.heap) (hit : (it, IterO ax i) ∈ l) (x : At s.heap t (TupO [va, vb]))
    (h : ∀ h' tk, Fm g env.locals (upd (upd m a va) b vb) l h' → Q () { s with heap := h', toks := tk })
    (hla : env.kindOf a = some .local := by rfl) (hlb : env.kindOf b = some .local := by rfl) (hp : (env.scope.kind == .class || (env.scope.kind == .module && env.locals != env.globals)) = false := by rfl) :
    wpAny (model prog w) A (letOwnedTupleGo (.Tuple [.Name a pa, .Name b pb] k pos) (.ref it) (.ref t)) (fun _ s' => wpAny (model prog w) A (assign (.Tuple [.Name a pa, .Name b pb] k pos) env (.ref t)) Q E s') E' s :=
  wpAny_letOwnedTupleGo_listiter (isIter_of (F.at_ hit)) (asgPair hh F x h hla hlb hp)

theorem iterL {ax : Addr} {xs : List Value} {L : Addr} {Q : Value → Shared → Prop} (F : Fm g L m l s.heap) (x : At s.heap ax (LstO xs))
    (h : ∀ it h', Keep s.heap h' → Fm g L m ((it, IterO ax 0) :: l) h' → Q (.ref it) { s with heap := h' }) : wpAny (model prog w) A (pyIter (.ref ax)) Q E s :=
  wpAny_pyIter_list (isList_of x) (h _ _ (Keep.push _ _) (F.new ⟨rfl, rfl⟩))
theorem nextL {L it ax : Addr} {xs : List Value} {i : Nat} {v : Value} {Q : Option Value → Shared → Prop} (F : Fm g L m ((it, IterO ax i) :: l) s.heap) (x : At s.heap ax (LstO xs)) (hv : xs[i]? = some v)
    (h : ∀ h', Heap.SameBut it s.heap h' → Fm g L m ((it, IterO ax (i + 1)) :: l) h' → Q (some v) { s with heap := h' }) : wpAny (model prog w) A (pyNext (.ref it)) Q E s :=
  wpAny_pyNext_list_item (isIter_of (F.at_ (.head _))) (isList_of x) (by simpa using hv) fun h' hi hs => h h' hs (F.turn .head hs (of_isIter hi))
theorem stopL {L it ax : Addr} {xs : List Value} {i : Nat} {Q : Option Value → Shared → Prop} (hh : A.handled = none) (F : Fm g L m ((it, IterO ax i) :: l) s.heap) (x : At s.heap ax (LstO xs)) (hv : xs[i]? = none)
    (h : ∀ h', Fm g L m l h' → Q none { s with heap := h' }) : wpAny (model prog w) A (pyNext (.ref it)) Q E s :=
  wpAny_pyNext_list_end hh (isIter_of (F.at_ (.head _))) (isList_of x) (by simpa using hv) fun h' hs => h h' (F.dropExt hs)

theorem forList {R : Result → Shared → Prop} {target : Expr} {it ax : Addr} {xs : List Value} {body : List Stmt} (J : Nat → Heap → (Str → Option Value) → List (Addr × (Obj → Prop)) → Prop) (hh : A.handled = none)
    (F : Fm g env.locals m ((it, IterO ax 0) :: l) s.heap) (hx : At g ax (LstO xs)) (init : J 0 g m l)
    (turn : ∀ i v g' m' l' h' tk', xs[i]? = some v → J i g' m' l' → Keep g g' → Fm g' env.locals m' ((it, IterO ax (i + 1)) :: l') h' →
      wpAny (model prog w) A (letOwnedTupleGo target (.ref it) v) (fun _ s₁ => wpAny (model prog w) A (assign target env v) (fun _ s₂ =>
        wpAny (model prog w) A (execs body env) (fun f s₃ => (f = .next ∨ f = .cont) ∧ Between s g env.locals [(it, IterO ax (i + 1))] (J (i + 1)) s₃) (fun _ _ => False) s₂) (fun _ _ => False) s₁) (fun _ _ => False) { s with heap := h', toks := tk' })
    (fin : ∀ g' m' l' h' tk', J xs.length g' m' l' → Keep g g' → Fm g' env.locals m' l' h' → R (.ok .next) { s with heap := h', toks := tk' }) :
    codeAny (model prog w) A (.forLoop target (.ref it) body [] env) R s := by
  refine codeAny_forLoop_any (I := fun n s' => ∃ i, n = xs.length - i ∧ i ≤ xs.length ∧ Between s g env.locals [(it, IterO ax i)] (J i) s') ?_ xs.length ⟨0, rfl, Nat.zero_le _, g, m, l, _, _, rfl, Keep.refl _, F, init⟩
  rintro n s' ⟨i, hn, hi, g', m', l', h', tk', rfl, kg, F', hJ⟩
  have hx' := hx.keep (kg.trans F'.keep)
  rcases Nat.lt_or_eq_of_le hi with hlt | rfl
  · have hv : xs[i]? = some xs[i] := List.getElem?_eq_getElem hlt
    refine nextL F' hx' hv fun h'' _ F'' => ?_
    refine wpAny_mono (turn i _ g' m' l' h'' tk' hv hJ kg F'') (fun _ s₁ h₁ => wpAny_mono h₁ (fun _ s₂ h₂ => wpAny_mono h₂ (fun f s₃ hf => ?_) fun _ _ x => x.elim) fun _ _ x => x.elim) fun _ _ x => x.elim
    obtain ⟨hf, hb⟩ := hf
    rcases hf with rfl | rfl <;> exact ⟨xs.length - (i + 1), by omega, i + 1, rfl, hlt, hb⟩
  · refine stopL hh F' hx' (by simp) fun h'' F'' => ?_
    exact wpAny_execs_nil (fin _ _ _ _ _ hJ kg F'')

/-- a comprehension's loop, of any target -/
theorem compLoopAny {R : Result → Shared → Prop} {elt target iter : Expr} {ifs : List Expr} {scope : Scope} {pos : Pos} {it acc : Value} {env : Env} (I : Nat → Shared → Prop)
    (turn : ∀ n s, I n s → wpAny (model prog w) A (pyNext it) (fun r s₁ => match r with
      | none => R (.ok .next) s₁
      | some v => wpAny (model prog w) A (letOwnedTupleGo target it v) (fun _ s₁' => wpAny (model prog w) A (assign target env v) (fun _ s₂ =>
          wpAny (model prog w) A (forIn ifs true fun c r => if r = true then do let ok ← isTrue c env (eval c env); pure (ForInStep.yield ok) else pure (ForInStep.yield r)) (fun ok s₃ =>
            if ok = true then wpAny (model prog w) A (eval elt env) (fun x s₄ =>
              wpAny (model prog w) A (call (.builtin "list.append") [acc, x]) (fun _ s₅ => ∃ m, m < n ∧ I m s₅) (fun _ _ => False) s₄) (fun _ _ => False) s₃
            else ∃ m, m < n ∧ I m s₃) (fun _ _ => False) s₂) (fun _ _ => False) s₁') (fun _ _ => False) s₁) (fun _ _ => False) s)
    (n : Nat) (h : I n s) :
    codeAny (model prog w) A (.compLoop (.ListComp elt [⟨target, iter, ifs, 0⟩] scope pos) 0 it acc env) R s := by
  refine codeAny_loop rfl I (fun n s hI => ?_) n h
  show wpAny _ A ((compTurn (.ListComp elt [⟨target, iter, ifs, 0⟩] scope pos) 0 it acc env).onRaise (fun x => do noteFrame x env; theTreesLotGoes x)) _ _ s
  refine wpAny_noted ?_
  rw [compTurn_list]
  refine wpAny_bind (wpAny_standAt (wpAny_bind (wpAny_mono (turn n s hI) (fun r s₁ h₁ => ?_) fun _ _ h' => h'.elim)))
  cases r with
  | none => exact wpAny_pure h₁
  | some v =>
    refine wpAny_bind (wpAny_mono h₁ (fun _ s₁' h₁' => ?_) fun _ _ h' => h'.elim)
    refine wpAny_bind (wpAny_mono h₁' (fun _ s₂ h₂ => wpAny_bind (wpAny_mono h₂ (fun ok s₃ h₃ => ?_) fun _ _ h' => h'.elim)) fun _ _ h' => h'.elim)
    cases ok with
    | false => exact wpAny_pure ⟨rfl, h₃⟩
    | true =>
      exact wpAny_bind (wpAny_bind (wpAny_mono h₃ (fun x s₄ h₄ => wpAny_bind (wpAny_mono h₄ (fun _ s₅ h₅ => wpAny_pure (wpAny_pure ⟨rfl, h₅⟩)) fun _ _ h' => h'.elim)) fun _ _ h' => h'.elim))

/-- one turn of a comprehension: bound, tested, made -/
def CompTurn (prog : Program) (w : World) (A : Around) (s₁ : Shared) (env : Env) (scope : Scope) (cl : List (Str × Addr)) (target elt : Expr) (ifs : List Expr) (ax : Addr) (J : Nat → Heap → List Value → Prop) (i : Nat) (v : Value) : Prop :=
  ∀ C it acc ys g' m' h' tk', J i g' ys → Keep s₁.heap g' → Fm g' C m' [(it, IterO ax (i + 1)), (acc, LstO ys)] h' →
    wpAny (model prog w) A (letOwnedTupleGo target (.ref it) v) (fun _ s₂ => wpAny (model prog w) A (assign target (compEnvC scope cl C env) v) (fun _ s₃ =>
      wpAny (model prog w) A (forIn ifs true fun c r => if r = true then do let ok ← isTrue c (compEnvC scope cl C env) (eval c (compEnvC scope cl C env)); pure (ForInStep.yield ok) else pure (ForInStep.yield r)) (fun ok s₄ =>
        if ok = true then wpAny (model prog w) A (eval elt (compEnvC scope cl C env)) (fun x s₅ => ∃ g'' m'' h'' tk'', s₅ = { s₁ with heap := h'', toks := tk'' } ∧ Keep s₁.heap g'' ∧ Fm g'' C m'' [(it, IterO ax (i + 1)), (acc, LstO ys)] h'' ∧ J (i + 1) g'' (ys ++ [x])) (fun _ _ => False) s₄
        else ∃ g'' m'' h'' tk'', s₄ = { s₁ with heap := h'', toks := tk'' } ∧ Keep s₁.heap g'' ∧ Fm g'' C m'' [(it, IterO ax (i + 1)), (acc, LstO ys)] h'' ∧ J (i + 1) g'' ys) (fun _ _ => False) s₃) (fun _ _ => False) s₂) (fun _ _ => False) { s₁ with heap := h', toks := tk' }

theorem compBlock {RR : Value → Addr → Result → Shared → Prop} {elt target iter : Expr} {ifs : List Expr} {scope : Scope} {cl : List (Str × Addr)} {pos : Pos} {s₁ : Shared} {ax : Addr} {xs : List Value} (J : Nat → Heap → List Value → Prop)
    (hh : A.handled = none) (hcell : ∀ y ∈ scope.names, y.2 ≠ .cell) (hkind : scope.kind = .function) (hx : At s₁.heap ax (LstO xs)) (hsz : xs.length ≤ sizeLine) (init : J 0 s₁.heap [])
    (turn : ∀ i v, xs[i]? = some v → CompTurn prog w A s₁ env scope cl target elt ifs ax J i v)
    (hRR : ∀ D C h' tk m' ys g', s₁.heap.get? D = none → s₁.heap.get? C = none → D ≠ C → Fm g' C m' [(D, LstO ys)] h' → Keep s₁.heap g' → J xs.length g' ys → RR (.ref D) C (.ok .next) { s₁ with heap := h', toks := tk }) :
    wpAny (model prog w) A (pyIter (.ref ax)) (fun it s₂ => wpAny (model prog w) A (newList []) (fun acc s₃ => wpAny (model prog w) A (newFunctionEnv scope env.globals cl [] env.qual none .none (some env)) (fun cenv s₄ =>
      codeAny (model prog w) A (.compStart (.ListComp elt [⟨target, iter, ifs, 0⟩] scope pos) 0 it acc { cenv with scope := relabel scope env }) (RR acc cenv.locals) s₄) E s₃) E s₂) E s₁ := by
  refine wpAny_pyIter_list (isList_of hx) (wpAny_newObj_type (hd := by size_fits) (wpAny_newFunctionEnv hcell (by intro y hy; simp at hy) (fun h₁ hns₁ hsb₁ => ?_) hkind))
  dsimp only at hns₁ hsb₁ ⊢
  generalize hH1 : s₁.heap.push { cls := .type "list_iterator", data := .fields #[.ref ax, .int 0 0] } = H1 at hns₁ hsb₁ ⊢
  have hD : H1.objs.size = s₁.heap.objs.size + 1 := by rw [← hH1, Heap.size_push]
  generalize hH2 : H1.push { cls := .type "list", dict := none, data := .seq ([] : List Value).toArray } = H2 at hns₁ hsb₁ ⊢
  have hC : H2.objs.size = s₁.heap.objs.size + 2 := by rw [← hH2, Heap.size_push, hD]
  have hDI : H1.objs.size ≠ s₁.heap.objs.size := by omega
  have hDC : H1.objs.size ≠ H2.objs.size := by omega
  have hIC : s₁.heap.objs.size ≠ H2.objs.size := by omega
  have fresh : ∀ a, s₁.heap.objs.size ≤ a → s₁.heap.get? a = none := fun a ha => by
    cases e : s₁.heap.get? a with
    | none => rfl
    | some o' => exact absurd (Heap.lt_size e) (Nat.not_lt.mpr ha)
  have old : Keep s₁.heap h₁ := fun b o e => by
    exact hsb₁.extBut b o (fun q => by rw [q] at e; rw [fresh _ (by omega)] at e; cases e) (Heap.get?_push_of_some _ (hH2 ▸ Heap.get?_push_of_some _ (hH1 ▸ Heap.get?_push_of_some _ e)))
  have F : Fm s₁.heap H2.objs.size (fun x => ([] : List (Str × Value)).reverse.lookup x) [(s₁.heap.objs.size, IterO ax 0), (H1.objs.size, LstO [])] h₁ := by
    refine ⟨hns₁, old, fresh _ (by omega), fun p hp => ?_, by simpa using fun e => hDI e.symm⟩
    simp only [List.mem_cons, List.not_mem_nil, or_false] at hp
    rcases hp with rfl | rfl
    · exact ⟨⟨_, hsb₁.extBut _ _ hIC (Heap.get?_push_of_some _ (hH2 ▸ Heap.get?_push_of_some _ (hH1 ▸ Heap.get?_push_size _ rfl))), rfl, rfl⟩, fresh _ (Nat.le_refl _), hIC⟩
    · exact ⟨⟨_, hsb₁.extBut _ _ hDC (Heap.get?_push_of_some _ (hH2 ▸ Heap.get?_push_size _ rfl)), 0, rfl⟩, fresh _ (by omega), hDC⟩
  clear hns₁ hsb₁ old
  have nD : s₁.heap.get? H1.objs.size = none := fresh _ (by omega)
  have nC : s₁.heap.get? H2.objs.size = none := fresh _ (by omega)
  generalize H2.objs.size = C at F hDC nC ⊢
  generalize H1.objs.size = D at F hDC nD ⊢
  have hit := isIter_of (F.at_ (.head _))
  generalize s₁.heap.objs.size = it at F hit ⊢
  have loop : ∀ tk, codeAny (model prog w) A (.compLoop (.ListComp elt [⟨target, iter, ifs, 0⟩] scope pos) 0 (.ref it) (.ref D) (compEnvC scope cl C env)) (RR (.ref D) C) { s₁ with heap := h₁, toks := tk } := by
    intro tk
    refine compLoopAny (I := fun n s' => ∃ i ys g' m' h' tk', n = xs.length - i ∧ i ≤ xs.length ∧ ys.length ≤ i ∧ s' = { s₁ with heap := h', toks := tk' } ∧ Keep s₁.heap g' ∧ Fm g' C m' [(it, IterO ax i), (D, LstO ys)] h' ∧ J i g' ys) ?_ xs.length
      ⟨0, [], _, _, _, _, rfl, Nat.zero_le _, Nat.le_refl _, rfl, Keep.refl _, F, init⟩
    rintro n s' ⟨i, ys, g', m', h', tk', hn, hi, hys, rfl, kg, F', hJ⟩
    have hx' := hx.keep (kg.trans F'.keep)
    rcases Nat.lt_or_eq_of_le hi with hlt | rfl
    · have hv : xs[i]? = some xs[i] := List.getElem?_eq_getElem hlt
      refine nextL F' hx' hv fun h'' _ F'' => ?_
      refine wpAny_mono (turn i _ hv C it D ys g' m' h'' tk' hJ kg F'') (fun _ s₁ h₁ => wpAny_mono h₁ (fun _ s₂ h₂ => wpAny_mono h₂ (fun ok s₃ hf => ?_) fun _ _ x => x) fun _ _ x => x) fun _ _ x => x
      cases ok with
      | true =>
        rw [if_pos rfl] at hf ⊢
        refine wpAny_mono hf (fun x s₄ h₄ => ?_) fun _ _ x => x
        obtain ⟨g'', m'', h3, tk'', rfl, kg'', F3, hJ3⟩ := h₄
        refine appL F3 (.tail .head) (by omega) fun h4 F4 => ?_
        exact ⟨xs.length - (i + 1), by omega, i + 1, ys ++ [x], g'', m'', h4, tk'', rfl, hlt, by simp; omega, rfl, kg'', F4, hJ3⟩
      | false =>
        rw [if_neg Bool.false_ne_true] at hf ⊢
        obtain ⟨g'', m'', h3, tk'', rfl, kg'', F3, hJ3⟩ := hf
        exact ⟨xs.length - (i + 1), by omega, i + 1, ys, g'', m'', h3, tk'', rfl, hlt, by omega, rfl, kg'', F3, hJ3⟩
    · refine stopL hh F' hx' (by simp) fun h'' F'' => ?_
      exact hRR _ _ _ _ _ _ _ nD nC hDC F'' kg hJ
  exact codeAny_compStart_list (loop _) (wpAny_pyIter_listiter hit (loop _))

/-- a comprehension over a list -/
theorem compL {elt target iter : Expr} {ifs : List Expr} {scope : Scope} {cl : List (Str × Addr)} {pos : Pos} {Q : Value → Shared → Prop} (J : Nat → Heap → List Value → Prop)
    (hclos : closureFor scope env = pure cl) (hcell : ∀ y ∈ scope.names, y.2 ≠ .cell) (hkind : scope.kind = .function) (hnames : ∀ y ∈ scope.names, y.2 = .local → scope.names.lookup y.1 = some .local) (hh : A.handled = none)
    (h : wpAny (model prog w) A (eval iter env) (fun v s₁ => ∃ ax xs g L m l, v = .ref ax ∧ At s₁.heap ax (LstO xs) ∧ xs.length ≤ sizeLine ∧ Fm g L m l s₁.heap ∧ J 0 s₁.heap [] ∧ (∀ i v, xs[i]? = some v → CompTurn prog w A s₁ env scope cl target elt ifs ax J i v) ∧
      ∀ D h' tk ys g', Keep s₁.heap g' → Keep g' h' → Fm g L m ((D, LstO ys) :: l) h' → J xs.length g' ys → Q (.ref D) { s₁ with heap := h', toks := tk }) E s)
    (hs : ∀ x, foldedSetIterable iter env x = pure x := by intro _; rfl) :
    wpAny (model prog w) A (eval (.ListComp elt [⟨target, iter, ifs, 0⟩] scope pos) env) Q E s := by
  rw [eval_ListComp]
  refine wpAny_comprehension_free (use := none) rfl hs hclos hkind hnames (wpAny_mono h (fun v s₁ h₁ => ?_) fun _ _ e => e)
  obtain ⟨ax, xs, g, L, m, l, rfl, hx, hsz, F, init, turn, hQ⟩ := h₁
  refine compBlock (RR := fun acc C => compPost (model prog w) A E none Q acc C) J hh hcell hkind hx hsz init turn ?_
  intro D C h' tk m' ys g' nD nC hDC F' kg hJ
  refine ⟨m', F'.ns, fun h'' hs'' => ?_⟩
  have k'' : Keep g' h'' := fun b o e => hs''.extBut b o (fun q => by subst q; rw [F'.gL] at e; cases e) (F'.keep b o e)
  exact hQ D h'' tk ys g' kg k'' (F.add (kg.trans k'') nD ((F'.at_ (.head _)).same hs'' hDC)) hJ

/-- the statement x = [.. for .. in ..] where the name's store stands ahead of the letting go -/
theorem asgComp {elt target iter : Expr} {ifs : List Expr} {scope : Scope} {cl : List (Str × Addr)} {y : Str} {py pos spos : Pos} {Q : Flow → Shared → Prop} (J : Nat → Heap → List Value → Prop)
    (hsw : swapsWith (.ListComp elt [⟨target, iter, ifs, 0⟩] scope pos) (some (.Name y py)) spos.line env = pure true)
    (hclos : closureFor scope env = pure cl) (hcell : ∀ y ∈ scope.names, y.2 ≠ .cell) (hkind : scope.kind = .function) (hnames : ∀ y ∈ scope.names, y.2 = .local → scope.names.lookup y.1 = some .local) (hh : A.handled = none)
    (h : wpAny (model prog w) A (eval iter env) (fun v s₁ => ∃ ax xs g m l, v = .ref ax ∧ At s₁.heap ax (LstO xs) ∧ xs.length ≤ sizeLine ∧ Fm g env.locals m l s₁.heap ∧ J 0 s₁.heap [] ∧ (∀ i v, xs[i]? = some v → CompTurn prog w A s₁ env scope cl target elt ifs ax J i v) ∧
      ∀ D h' tk ys g', Kf s₁.heap g' → Keep g' h' → Fm g env.locals (upd m y (.ref D)) ((D, LstO ys) :: l) h' → J xs.length g' ys → Q .next { s₁ with heap := h', toks := tk }) E s)
    (hJ : ∀ n h h' ys, Kf h h' → J n h ys → J n h' ys)
    (hs : ∀ x, foldedSetIterable iter env x = pure x := by intro _; rfl)
    (hl : env.kindOf y = some .local := by rfl) (hp : (env.scope.kind == .class || (env.scope.kind == .module && env.locals != env.globals)) = false := by rfl) :
    wpAny (model prog w) A (exec (.Assign [.Name y py] (.ListComp elt [⟨target, iter, ifs, 0⟩] scope pos) spos) env) Q E s := by
  rw [exec_Assign_Name_used _ _ _ _ hsw]
  refine wpAny_bind (wpAny_standAt (wpAny_bind ?_))
  show wpAny _ A (do let _ ← comprehension (.ListComp elt [⟨target, iter, ifs, 0⟩] scope pos) scope env _ (newList []) false (eval iter env) (some (assign (.Name y py) env))) _ _ s
  refine wpAny_bind (wpAny_mono (wpAny_comprehension_free (use := some (assign (.Name y py) env)) (Q := fun _ s' => Q .next s') rfl hs hclos hkind hnames (wpAny_mono h (fun v s₁ h₁ => ?_) fun _ _ e => e)) (fun _ _ x => wpAny_pure (wpAny_pure x)) fun _ _ e => e)
  obtain ⟨ax, xs, g, m, l, rfl, hx, hsz, F, init, turn, hQ⟩ := h₁
  refine compBlock (RR := fun acc C => compPost (model prog w) A E (some (assign (.Name y py) env)) (fun _ s' => Q .next s') acc C) J hh hcell hkind hx hsz init turn ?_
  intro D C h' tk m' ys g' nD nC hDC F' kg hJ'
  show wpAny _ _ (assign (.Name y py) env (.ref D)) _ _ _
  have FD := F.add (kg.trans F'.keep) nD (F'.at_ (.head _))
  have hCL : C ≠ env.locals := fun e => by
    obtain ⟨oL, _, _, hL, _⟩ := F.ns
    rw [← e] at hL; rw [hL] at nC; cases nC
  refine wpAny_assign_Name (wpAny_storeName_local hl FD.ns (fun h₂ hn hs₂ => ?_) hp)
  have F2 := FD.store hn hs₂
  obtain ⟨oC, es, ep, hC, rC⟩ := F'.ns
  have nsC : h₂.Ns C m' := ⟨oC, es, ep, hs₂.extBut _ _ hCL hC, rC⟩
  refine ⟨m', nsC, fun h₃ hs₃ => ?_⟩
  have gC : g.get? C = none := none_keep F.keep nC
  have F3 := F2.other hs₃.extBut gC hCL (fun p hp => by
    rcases List.mem_cons.mp hp with rfl | hp
    · exact Ne.symm hDC
    · intro e
      obtain ⟨o, e', _⟩ := (F.own p hp).1
      rw [← e, nC] at e'; cases e')
  have kk : Kf g' (hideAll g' [env.locals]) := fun b o e f => hideAll_get _ e fun hm => by
    rw [List.mem_singleton] at hm
    subst hm
    obtain ⟨oL, _, _, hL, hd, _⟩ := F.ns
    rw [kg _ _ hL] at e; cases e
    exact f.2 _ _ hd
  refine hQ D h₃ _ ys (hideAll g' [env.locals]) (kg.kf.trans kk) (fun b o e => ?_) F3 (hJ _ _ _ _ kk hJ')
  · have e' := of_hideAll _ e
    have h2 : b ≠ env.locals := fun q => by
      rw [q, hideAll_none _ (.head _)] at e; cases e
    have h1 : b ≠ C := fun q => by rw [q, F'.gL] at e'; cases e'
    exact hs₃.extBut b o h1 (hs₂.extBut b o h2 (F'.keep _ _ e'))
end
/-- (for the workbench: the written heap, known anew in each module) -/
theorem fillX : (PySem.Challenge.rw_ez0061_01 = PySem.Challenge.rw_ez0061_01) ∧ (hd.heap_39 = hd.heap_39) := by k_fill; exact ⟨rfl, rfl⟩
section
local macro_rules | `(tactic| walk_at "GG") => `(tactic| first | assumption | exact GG.keep (by assumption) (Fm.keep (by assumption)))
local macro_rules | `(tactic| walk_at "AT") => `(tactic| first | assumption | exact Fm.at_ (by assumption) (by k_mem) | exact At.keep (by assumption) (Fm.keep (by assumption)))
local macro_rules | `(tactic| walk_at "CHG") => `(tactic| repeat (first | exact Chg.head | apply Chg.tail))
local macro_rules | `(tactic| walk_at "LIST") => `(tactic| first | exact isList_keep (by assumption) (Fm.keep (by assumption)) | exact isList_of (Fm.at_ (by assumption) (by k_mem)) | exact isList_of (by walk_at "AT"))
local macro_rules | `(tactic| walk_at "NUM") => `(tactic| first | decide | omega | (simp only [List.length_cons, List.length_nil]; omega))
local macro_rules | `(tactic| walk_at "eval Name") => `(tactic| first
  | (refine lv (by assumption) (by first | rfl | assumption) ?_)
  | (k_dflt (refine' gv ?G ?e ?_; (case G => walk_at "GG"); (case e => k_is); k_whole))
  | (k_dflt (refine' bv ?G ?e ?v ?_; (case G => walk_at "GG"); (case e => k_is); (case v => boot_by_name); k_whole)))
local macro_rules | `(tactic| walk_at "loadName") => `(tactic| (refine lvN (by assumption) (by first | rfl | assumption) ?_))
local macro_rules | `(tactic| walk_at "eval Constant int") => `(tactic| (with_reducible refine ci ?_; intro t' tk'))
local macro_rules | `(tactic| walk_at "eval Constant str") => `(tactic| (with_reducible refine cs ?_; intro t' tk'))
local macro_rules | `(tactic| walk_at "storeName") => `(tactic| (refine svT (by assumption) ?_; intro h' tk' F'))
local macro_rules | `(tactic| walk_at "binaryOp Add int int") => `(tactic| (with_reducible refine addI ?_; intro t' tk'))
local macro_rules | `(tactic| walk_at "inplaceOp Add int int") => `(tactic| (with_reducible refine iaddI ?_; intro t' tk'))
local macro_rules | `(tactic| walk_at "binaryOp Mod int int") => `(tactic| (refine modI (by omega) ?_; intro r' t' tk' hr1 hr2))
local macro_rules | `(tactic| walk_at "binaryOp FloorDiv int int") => `(tactic| (refine fdivI (by omega) (by omega) (by omega) (by omega) ?_; intro r' t' tk' hr1 hr2))
local macro_rules | `(tactic| walk_at "PART") => `(tactic| first | exact IsPart.none | exact IsPart.int _ _)
local macro_rules | `(tactic| walk_at "PICK") => `(tactic| first | exact pick_upto (by omega) | exact pick_run (by omega))
local macro_rules | `(tactic| walk_at "subscriptTail") => `(tactic| (k_dflt (first
  | ((with_reducible show wpAny _ _ (subscriptTail _ _ (Value.ref _) (Value.ref _)) _ _ _); refine' sliceL ?F ?x ?pl ?pu ?z ?e ?_; (case F => assumption); (case x => k_mem); (case pl => walk_at "PART"); (case pu => walk_at "PART"); (case z => walk_at "SZ"); (case e => walk_at "PICK"); k_whole; intro b' h' kp' F')
  | (refine' subL ?x ?a ?b ?c ?_; (case x => walk_at "AT"); (case a => walk_at "NUM"); (case b => walk_at "NUM"); (case c => first | rfl | assumption); k_whole)
  | (refine' sub2 ?x ?a ?_ ?_; (case x => walk_at "AT"); (case a => omega))
  | (refine' subM ?x ?T ?a ?b ?c ?_; (case x => walk_at "AT"); (case T => assumption); (case a => walk_at "NUM"); (case b => walk_at "NUM"); (case c => omega); k_whole; intro b' hR'))))
local macro_rules | `(tactic| walk_at "subscriptTail Subscript") => `(tactic| (k_dflt (refine' subScr ?x ?i ?a ?b ?c ?_; (case x => walk_at "LIST"); (case i => assumption); (case a => omega); (case b => omega); (case c => omega); k_whole); intro j' t'))
local macro_rules | `(tactic| walk_at "setItem") => `(tactic| (k_dflt (refine' setF ?F ?x ?a ?b ?c ?_; (case F => assumption); (case x => walk_at "CHG"); (case a => walk_at "NUM"); (case b => walk_at "NUM"); (case c => walk_at "NUM"); k_whole); intro h' F'; (try simp only [List.set_cons_zero, List.set_cons_succ, Int.reduceToNat] at F')))
local macro_rules | `(tactic| walk_at "call builtin:len") => `(tactic| (k_dflt (refine' lenI ?x ?a ?_; (case x => walk_at "LIST"); (case a => omega); k_whole); intro t' tk'))
local macro_rules | `(tactic| walk_at "SZ") => `(tactic| first | (rw [sizeLine_eq]; (try simp only [List.length_append, List.length_cons, List.length_nil, List.length_take]); omega) | size_fits)
local macro_rules | `(tactic| walk_at "callWith ref") => `(tactic| (k_dflt (refine' callG ?k1 ?k2 ?_; (case k1 => k_is); (case k2 => exact rfl))))
local macro_rules | `(tactic| walk_at "newList") => `(tactic| (refine newL (by assumption) (by walk_at "SZ") ?_; intro a' h' kp' F'))
local macro_rules | `(tactic| walk_at "newTuple") => `(tactic| (refine newT (by assumption) (by walk_at "SZ") ?_; intro a' h' kp' hat' F'))
local macro_rules | `(tactic| walk_at "eval Slice") => `(tactic| refine sliceF ?_)
local macro_rules | `(tactic| walk_at "Exists") => `(tactic| (refine ⟨_, _, _, _, by assumption, ?_⟩; intro a' h' kp' F'))
local macro_rules | `(tactic| walk_at "getMethod ref") => `(tactic| (k_dflt (first | refine methApp (by walk_at "AT") ?_ | refine methClr (by walk_at "AT") ?_)))
local macro_rules | `(tactic| walk_at "call builtin:list.append") => `(tactic| (k_dflt (refine' appL ?F ?c ?z ?_; (case F => assumption); (case c => walk_at "CHG"); (case z => walk_at "SZ"); k_whole); intro h' F'))
local macro_rules | `(tactic| walk_at "call builtin:list.clear") => `(tactic| (k_dflt (refine' clrL ?F ?c ?z ?_; (case F => assumption); (case c => walk_at "CHG"); (case z => walk_at "SZ"); k_whole); intro h' F'))
local macro_rules | `(tactic| walk_at "call type:range") => `(tactic| (refine range1 (by assumption) ?_; intro a' h' tk' kp' F'))
local macro_rules | `(tactic| walk_at "pyIter ref") => `(tactic| (k_dflt (refine' iterR ?F ?a ?b ?_; (case F => assumption); (case a => omega); (case b => omega); k_whole); intro it' h' kp' F'))
local macro_rules | `(tactic| walk_at "binaryOp Add ref ref") => `(tactic| (k_dflt (refine' addL ?F ?x ?y ?z ?_; (case F => assumption); (case x => walk_at "AT"); (case y => walk_at "AT"); (case z => walk_at "SZ"); k_whole); intro a' h' kp' F'))
local macro_rules | `(tactic| walk_at "exec For") => `(tactic| refine wpAny_For ?_)
local macro_rules | `(tactic| walk_at "DEPTH") => `(tactic| first | omega | ((try simp only [depth_deeper, depth_in1]); omega))
local macro_rules | `(tactic| walk_at "MUT") => `(tactic| repeat (first | exact Muts.nil | refine Muts.cons (by first | exact mutL | exact mutI | exact mutRI | exact mutR | exact mutS | exact mutCO) ?_))
local macro_rules | `(tactic| walk_at "CALL") => `(tactic| fail)
local macro_rules | `(tactic| walk_at "codeAny call") => `(tactic| walk_at "CALL")
local macro_rules | `(tactic| walk_at "FITS") => `(tactic| repeat (first | exact Fits.nil | exact Pull.head | apply Fits.cons | apply Pull.tail))
local macro_rules | `(tactic| walk_at "truthy ref") => `(tactic| (k_dflt (refine' truthyL ?x ?z ?_; (case x => walk_at "AT"); (case z => walk_at "SZ"); k_whole); intro tk'))
local macro_rules | `(tactic| walk_at "SETS") => `(tactic| first | exact setX (by walk_at "GG") | exact setI (by walk_at "GG") | exact setV (by walk_at "GG"))
local macro_rules | `(tactic| walk_at "compareOp In int ref") => `(tactic| (k_dflt (refine' inSet ?S ?_; (case S => walk_at "SETS"); k_whole); intro tk'))
local macro_rules | `(tactic| walk_at "compareOp NotIn int ref") => `(tactic| (k_dflt (refine' notInSet ?S ?_; (case S => walk_at "SETS"); k_whole); intro tk'))
local macro_rules | `(tactic| walk_at "compareOp In int ref") => `(tactic| (k_dflt (refine' inInts ?x ?I ?_; (case x => walk_at "AT"); (case I => assumption); k_whole)))
local macro_rules | `(tactic| walk_at "compareOp NotIn int ref") => `(tactic| (k_dflt (refine' notInInts ?x ?I ?_; (case x => walk_at "AT"); (case I => assumption); k_whole)))
local macro_rules | `(tactic| walk_at "assign Tuple") => `(tactic| (k_dflt (refine' asgT ?hh ?F ?x ?n ?st ?_; (case hh => assumption); (case F => assumption); (case x => walk_at "AT"); (case n => rfl); (case st => rfl); k_whole); intro h' kp' F'))
local macro_rules | `(tactic| walk_at "unpackItems ref") => `(tactic| (k_dflt (refine' unpI ?hh ?F ?x ?n ?_; (case hh => assumption); (case F => assumption); (case x => walk_at "AT"); (case n => rfl); k_whole); intro h' kp' F'))
local macro_rules | `(tactic| walk_at "pyIter ref") => `(tactic| (k_dflt (refine' iterL ?F ?x ?_; (case F => assumption); (case x => walk_at "AT"); k_whole); intro it' h' kp' F'))
/-- a tag: an object of the class, with its two words -/
def tagO (dx : Addr) (c : Int) (t : Tok) (v : Str) (u : Tok) : Obj := { cls := .ref 114, dict := some dx, data := .plain, slots := #[some (.int c t), some (.str v u)] }
def TagAt (h : Heap) (x : Addr) (c : Int) (v : Str) : Prop := ∃ dx t u, h.get? x = some (tagO dx c t v u) ∧ h.get? dx = some emptyDict
theorem TagAt.keep {h h' : Heap} {x : Addr} {c : Int} {v : Str} (T : TagAt h x c v) (k : Keep h h') : TagAt h' x c v := let ⟨dx, t, u, a, b⟩ := T; ⟨dx, t, u, k _ _ a, k _ _ b⟩
theorem inst_of {h : Heap} {x dx : Addr} {c : Int} {t u : Tok} {v : Str} (a : h.get? x = some (tagO dx c t v u)) (b : h.get? dx = some emptyDict) : InstAt h x (tagO dx c t v u) 114 (some emptyDict) := ⟨a, rfl, rfl, b⟩
section
variable {prog : Program} {w : World} {A : Around} {E : Value → Shared → Prop} {s : Shared} {env : Env} {g : Heap} {m : Str → Option Value} {L x dx : Addr}

theorem slotCode {c : Int} {t u : Tok} {v : Str} {expr : Bool} {Q : Value → Shared → Prop} (G : GG w s.heap) (a : s.heap.get? x = some (tagO dx c t v u)) (b : s.heap.get? dx = some emptyDict) (h : ∀ tk, Q (.int c t) { s with toks := tk }) :
    wpAny (model prog w) A (getAttr (.ref x) "_code" expr) Q E s :=
  get_bind (K := hd.heap_39 w.params) (C := 114) (g := .builtin "member_descriptor.__get__") (a := .ref 115) G.inK (inst_of a b) (plainGet_of (name := "_code") (by k_is)).1 (findObj_data (show isClsIn (hd.heap_39 w.params) 114 = true by k_is) (by k_is) (by k_is) (by k_is)) (plainGet_of (name := "_code") (by k_is)).2
    (wpAny_call (slot_get (s := { s with toks := s.toks + 1 }) (i := 0) (v := .int c t) G.inK (inst_of a b) (by k_is) (by rfl) (handed_on rfl (h _))))
theorem slotValue {c : Int} {t u : Tok} {v : Str} {expr : Bool} {Q : Value → Shared → Prop} (G : GG w s.heap) (a : s.heap.get? x = some (tagO dx c t v u)) (b : s.heap.get? dx = some emptyDict) (h : ∀ tk, Q (.str v u) { s with toks := tk }) :
    wpAny (model prog w) A (getAttr (.ref x) "_value" expr) Q E s :=
  get_bind (K := hd.heap_39 w.params) (C := 114) (g := .builtin "member_descriptor.__get__") (a := .ref 116) G.inK (inst_of a b) (plainGet_of (name := "_value") (by k_is)).1 (findObj_data (show isClsIn (hd.heap_39 w.params) 114 = true by k_is) (by k_is) (by k_is) (by k_is)) (plainGet_of (name := "_value") (by k_is)).2
    (wpAny_call (slot_get (s := { s with toks := s.toks + 1 }) (i := 1) (v := .str v u) G.inK (inst_of a b) (by k_is) (by rfl) (handed_on rfl (h _))))

theorem setSlotF {name : Str} {p : Addr} {i : Nat} {ox ox' : Obj} {v : Value} {Q : Unit → Shared → Prop} (F : Fm g L m [(x, fun o => o = ox)] s.heap) (G : GG w g) (hz : g.objs.size ≤ L) (hc : ox.cls = .ref 114) (hn : notCls ox = true) (hx : ox.dict = some dx) (hd' : g.get? dx = some emptyDict)
    (ht : takerIn (hd.heap_39 w.params) 114 name = some (some (.ref p))) (hT : typeIn (hd.heap_39 w.params) (.ref p) = some (.type "member_descriptor")) (hi : slotIn (hd.heap_39 w.params) p 114 = some i) (hz' : i < 1000)
    (e : { ox with slots := (ox.slots ++ Array.replicate (i + 1 - ox.slots.size) none).setIfInBounds i (some v) } = ox') (hf : ox'.isFreed = false)
    (h : ∀ h' tk, Fm g L m [(x, fun o => o = ox')] h' → Q () { s with heap := h', toks := tk }) : wpAny (model prog w) A (setAttr (.ref x) name v) Q E s := by
  obtain ⟨o, ho, rfl⟩ := F.at_ (.head _)
  have I : InstAt s.heap x o 114 (some emptyDict) := ⟨ho, hc, hn, by rw [hx]; exact F.keep _ _ hd'⟩
  have Gs := G.keep F.keep
  have own := F.own _ (.head _)
  have FR : Fr g L s.heap m := ⟨F.ns, F.keep, hz⟩
  have N : News g L s.heap [(x, o)] := fun q hq => by
    rw [List.mem_singleton] at hq; subst hq
    exact ⟨ho, own.2.2, own.2.1⟩
  refine set_slot (K := hd.heap_39 w.params) (C := 114) FR G.inK N I (by k_is) (by k_is) ht hT hi hz' e hf (.head (fun _ h => nomatch h)) fun h' F' N' => ?_
  have n' := N' _ (.head _)
  exact h h' _ ⟨F'.ns, F'.keep, F.gL, fun q hq => by
    rw [List.mem_singleton] at hq; subst hq
    exact ⟨⟨_, n'.1, rfl⟩, n'.2.2, n'.2.1⟩, by simp⟩
end
section
variable {prog : Program} {w : World} {A : Around} {E : Value → Shared → Prop} {s : Shared} {env : Env} {g : Heap} {m : Str → Option Value} {L x : Addr}
theorem isTup_of' {h : Heap} {a : Addr} {xs : List Value} (x : At h a (TupO xs)) : IsTup h a xs.toArray := by
  obtain ⟨o, e, n, rfl⟩ := x; exact ⟨_, e, rfl, n, rfl⟩
theorem subT {value slice : Expr} {a : Addr} {xs : List Value} {k : Nat} {u : Tok} {v : Value} {Q : Value → Shared → Prop} (x : At s.heap a (TupO xs)) (hx : xs[k]? = some v) (hk : xs.length < 1000) (h : Q v s)
    (hs : subscripted slice false (.ref a) (.int (k : Int) u) = operate [.ref a, .int (k : Int) u] (getItem (.ref a) (.int (k : Int) u)) := by with_unfolding_all rfl) : wpAny (model prog w) A (subscriptTail value slice (.ref a) (.int (k : Int) u)) Q E s := by
  have hlt : k < xs.length := (List.getElem?_eq_some_iff.mp hx).1
  exact item_tupleT (isTup_of' x) (by omega) (by omega) (by first | exact seqIndex_of (by omega) (by omega) | simp [seqIndex?, hlt]) hx h hs
/-- an object's own item, by the class's def -/
theorem subTag {value slice : Expr} {c : Int} {v : Str} {i : Value} {Q : Value → Shared → Prop} (G : GG w s.heap) (T : TagAt s.heap x c v)
    (h : codeAny (model prog w) A.in1 (.call (.ref 75) ⟨[.ref x, i], []⟩) (fun r s' => match r with | .ok (.ret v) => Q v s' | .ok _ => False | .error e => E e s') s)
    (hsl : subscripted slice true (.ref x) i = runValue (.builtin "lifetime.subscript" ⟨[.ref x, i], []⟩) := by with_unfolding_all rfl) :
    wpAny (model prog w) A (subscriptTail value slice (.ref x) i) Q E s := by
  obtain ⟨dx, t, u, a, b⟩ := T
  have I := inst_of a b
  have hs : findIn (hd.heap_39 w.params) (.ref 114) "__getitem__" = some (some (.ref 75)) := by k_is
  have hf : fnIn (hd.heap_39 w.params) 75 = true := by k_is
  have hfn : isFn (hd.heap_39 w.params) (.ref 75) = true := by k_is
  unfold fnIn at hf
  split at hf
  · rename_i e
    have run : wpAny (model prog w) A (runValue (.builtin "lifetime.subscript" ⟨[.ref x, i], []⟩)) Q E s := by
      refine wpAny_runValue (codeAny_builtin entry_sub ?_)
      unfold Builtin.«lifetime.subscript»
      exact wpAny_bind (special_fn G.inK I hs (beq_iff_eq.mp hfn) (wpAny_mono (wpAny_call h) (fun _ _ z => wpAny_pure z) fun _ _ z => z))
    unfold subscriptTail getitemInPython
    refine wpAny_bind (wpAny_bind (wpAny_bind (I.type.here ((looks_findIn G.inK hs).here (wpAny_bind (wpAny_load (G.inK _ _ e) (wpAny_pure ?_)))))))
    dsimp only
    rw [hsl]
    exact wpAny_bind (wpAny_mono run (fun v s' z => wpAny_bind (wpAny_letTemporaryGo (wpAny_pure z))) fun _ _ z => z)
  · cases hf
end
def keyE (e : Int × Value) : Int := match e.2 with | .int k _ => k | _ => 0
def okE (e : Int × Value) : Bool := match e.2 with | .int k _ => e.1 == hashInt k && e.2.scannable | _ => false
section
variable {prog : Program} {w : World} {h : Heap}
theorem intSet {a : Addr} {es : Array (Int × Value)} {ep : Nat} {t : SetTable} (ho : h.get? a = some ⟨.type "set", none, .set es ep t, #[]⟩) (hok : es.toList.all okE = true) (hb : es.size < scanBound) (hf : t.fits es.size = true) (L : List Int) (hL : (es.toList.map keyE).Perm L) :
    h.SetOf (intKind prog w) a (fun k => decide (k ∈ L)) es.size := by
  refine ⟨_, es, ep, t, ho, ⟨rfl, rfl, rfl⟩, rfl, fun e he => ?_, fun k => ?_, hb, hf, rfl⟩
  · have := List.all_eq_true.mp hok e he
    obtain ⟨i, v⟩ := e
    unfold okE at this
    dsimp only at this ⊢
    split at this
    · rw [Bool.and_eq_true] at this
      exact ⟨⟨_, intKind_is _ _ _ _, show i = hashInt _ by simpa using this.1⟩, this.2⟩
    · cases this
  · rw [decide_eq_true_eq, ← hL.mem_iff, List.mem_map]
    constructor
    · rintro ⟨e, he, rfl⟩
      refine ⟨e, he, ?_⟩
      have := List.all_eq_true.mp hok e he
      obtain ⟨i, v⟩ := e
      unfold okE at this
      dsimp only at this ⊢
      split at this
      · exact intKind_is _ _ _ _
      · cases this
    · rintro ⟨e, he, hk⟩
      refine ⟨e, he, ?_⟩
      have := List.all_eq_true.mp hok e he
      obtain ⟨i, v⟩ := e
      unfold okE at this
      dsimp only at this hk
      split at this
      · rename_i kk tt
        exact Value.isInt_inj (.int kk tt) kk k (by simp [Value.isInt]) hk
      · cases this
theorem setX (G : GG w h) : h.SetOf (intKind prog w) 22 (fun k => decide (k ∈ xC)) 20 :=
  intSet (G.inK 22 _ (by k_is)) (by decide) (by unfold scanBound; decide) (by rfl) xC (by decide)
theorem setI (G : GG w h) : h.SetOf (intKind prog w) 119 (fun k => decide (k ∈ iC)) 39 :=
  intSet (G.inK 119 _ (by k_is)) (by decide) (by unfold scanBound; decide) (by rfl) iC (by decide)
theorem setV (G : GG w h) : h.SetOf (intKind prog w) 23 (fun k => decide (k ∈ vC)) 15 :=
  intSet (G.inK 23 _ (by k_is)) (by decide) (by unfold scanBound; decide) (by rfl) vC (by decide)
end
section
variable {prog : Program} {w : World} {A : Around} {E : Value → Shared → Prop} {s : Shared}
theorem truthyL {a : Addr} {xs : List Value} {Q : Bool → Shared → Prop} (x : At s.heap a (LstO xs)) (hsz : xs.length ≤ sizeLine) (h : ∀ tk, Q (decide (0 < xs.length)) { s with toks := tk }) : wpAny (model prog w) A (truthy (.ref a)) Q E s := by
  have e : (!xs.toArray.isEmpty) = decide (0 < xs.length) := by cases xs <;> simp
  refine wpAny_truthy_list (isList_of x) (by rw [sizeLine_eq] at hsz; simp; omega) ?_
  rw [e]; exact h _
theorem inSet {a : Addr} {k : Int} {t : Tok} {L : List Int} {n : Nat} {Q : Value → Shared → Prop} (hS : s.heap.SetOf (intKind prog w) a (fun k => decide (k ∈ L)) n) (h : ∀ tk, Q (.bool (decide (k ∈ L))) { s with toks := tk }) : wpAny (model prog w) A (compareOp .In (.int k t) (.ref a)) Q E s :=
  wpAny_inSet_of (k := k) (intKind_is _ _ _ _) rfl hS (h _)
theorem notInSet {a : Addr} {k : Int} {t : Tok} {L : List Int} {n : Nat} {Q : Value → Shared → Prop} (hS : s.heap.SetOf (intKind prog w) a (fun k => decide (k ∈ L)) n) (h : ∀ tk, Q (.bool (!decide (k ∈ L))) { s with toks := tk }) : wpAny (model prog w) A (compareOp .NotIn (.int k t) (.ref a)) Q E s :=
  wpAny_notInSet_of (k := k) (intKind_is _ _ _ _) rfl hS (h _)
end
end
/-- where a generator's run stands: nothing marked, room below D -/
structure Ctxt (A : Around) (D : Nat) (c : Code) (fs : List Frame) : Prop where
  hh : (A.over c fs).handled = none
  dp : (A.over c fs).depth ≤ D
  sp : splitAtGen fs = none
  gu : fs.any Frame.guarded = false
theorem Ctxt.push {A : Around} {D : Nat} {c c' : Code} {fs : List Frame} (x : Ctxt A D c fs) (hw : c'.weight = 0) (k : Result → Sem Fin) (l : List Value) (p : Pos) : Ctxt A D c' (.ret k none false l c p [] :: fs) := by
  refine ⟨x.hh, ?_, ?_, ?_⟩
  · have := x.dp
    show A.depth + frameCount ((c, p) :: fs.map Frame.where_) + c'.weight ≤ D
    rw [frameCount_cons, hw]
    have e : A.depth + frameCount (fs.map Frame.where_) + c.weight ≤ D := this
    omega
  · show (splitAtGen fs).map _ = none
    rw [x.sp]; rfl
  · show (false || fs.any Frame.guarded) = false
    rw [x.gu]; rfl

/-- a tree of statements, run in a generator: what it leaves is told of the flow, the yields left, where the segment began, the state -/
def SegX (M : Model) (A : Around) (R : GenEnd) (Y : Protocol) (D : Nat) (n : Nat) (s₀ : Shared) (t : Sem Flow) (s : Shared) (Q : Flow → Nat → Shared → Shared → Prop) : Prop :=
  ∀ c fs (K : Flow → Sem Fin) (H : Value → Sem Fin) (gd : Bool → Bool) (lv : List Value → List Value), Ctxt A D c fs → gd false = false →
    (∀ f n' s₀' s', Q f n' s₀' s' → Seg M A R Y n' s₀' c (K f) fs s') → Seg M A R Y n s₀ c (t.wrap K H gd lv) fs s

section
variable {M : Model} {A : Around} {R : GenEnd} {Y : Protocol} {D n : Nat} {s₀ s : Shared} {env : Env} {Q : Flow → Nat → Shared → Shared → Prop}

theorem SegX.leaf {t : Sem Flow} (h : ∀ A' : Around, A'.handled = none → A'.depth ≤ D → wpAny M A' t (fun f s' => Q f n s₀ s') (fun _ _ => False) s) : SegX M A R Y D n s₀ t s Q :=
  fun _ _ _ _ _ _ C _ q => seg_wrap (wpAny_mono (h _ C.hh C.dp) (fun _ _ hq => q _ _ _ _ hq) fun _ _ x => x.elim)
theorem SegX.lead {α : Type} {t : Sem α} {f : α → Sem Flow} (h : ∀ A' : Around, A'.handled = none → A'.depth ≤ D → wpAny M A' t (fun a s' => SegX M A R Y D n s₀ (f a) s' Q) (fun _ _ => False) s) : SegX M A R Y D n s₀ (t >>= f) s Q :=
  fun c fs K H gd lv C hg q => by
    rw [Sem.bind_eq_wrap', Sem.wrap_wrap]
    exact seg_wrap (wpAny_mono (h _ C.hh C.dp) (fun a s' hq => hq c fs K H gd lv C hg q) fun _ _ x => x.elim)
theorem SegX.mono {t : Sem Flow} {Q' : Flow → Nat → Shared → Shared → Prop} (x : SegX M A R Y D n s₀ t s Q) (h : ∀ f n' s₀' s', Q f n' s₀' s' → Q' f n' s₀' s') : SegX M A R Y D n s₀ t s Q' :=
  fun c fs K H gd lv C hg q => x c fs K H gd lv C hg fun f n' s₀' s' hq => q _ _ _ _ (h _ _ _ _ hq)
theorem SegX.nil (h : Q .next n s₀ s) : SegX M A R Y D n s₀ (execs [] env) s Q := fun _ _ _ _ _ _ _ _ q => q _ _ _ _ h
theorem SegX.cons {st : Stmt} {rest : List Stmt} (h : SegX M A R Y D n s₀ (exec st env) s (fun f n' s₀' s' => match f with | .next => SegX M A R Y D n' s₀' (execs rest env) s' Q | f => Q f n' s₀' s')) :
    SegX M A R Y D n s₀ (execs (st :: rest) env) s Q := fun c fs K H gd lv C hg q => by
  rw [execs_cons_wrap]
  refine h c fs _ H gd lv C hg fun f n' s₀' s' hq => ?_
  cases f with
  | next => exact hq c fs K H gd lv C hg q
  | _ => exact q _ _ _ _ hq
theorem SegX.if_ {test : Expr} {body orelse : List Stmt} {pos : Pos} (h : ∀ A' : Around, A'.handled = none → A'.depth ≤ D → wpAny M A' (isTrue test env (eval test env)) (fun b s' => if b = true then SegX M A R Y D n s₀ (execs body env) s' Q else SegX M A R Y D n s₀ (execs orelse env) s' Q) (fun _ _ => False) s) :
    SegX M A R Y D n s₀ (exec (.If test body orelse pos) env) s Q := by
  rw [exec_If]
  refine SegX.lead fun A' h1 h2 => wpAny_standAt (SegX.lead fun A' h1 h2 => wpAny_mono (h A' h1 h2) (fun b s' hb => ?_) fun _ _ x => x)
  cases b <;> exact hb
theorem SegX.run {code : Code} (hw : code.weight = 0)
    (h : ∀ c fs k l p, Ctxt A D code (.ret k none false l c p [] :: fs) → (∀ c' f n' s₀' s', Q f n' s₀' s' → Seg M A R Y n' s₀' c' (leafOf (.ok f)) (.ret k none false l c p [] :: fs) s') → Seg M A R Y n s₀ code (M.den code) (.ret k none false l c p [] :: fs) s) :
    SegX M A R Y D n s₀ (runOwn code env) s Q := fun c fs K H gd lv C hg q => by
  show Seg M A R Y n s₀ c (.call code none (gd false) (lv []) _) fs s
  rw [hg]
  refine seg_call fun p => h c fs _ _ _ (C.push hw _ _ _) fun c' f n' s₀' s' hq => ?_
  exact seg_leaf (.ok f) (q _ _ _ _ hq)
theorem SegX.for_ {target iter : Expr} {body orelse : List Stmt} {pos : Pos}
    (h : ∀ A' : Around, A'.handled = none → A'.depth ≤ D → wpAny M A' (eval iter env) (fun x s₁ => ∀ A'' : Around, A''.handled = none → A''.depth ≤ D → wpAny M A'' (pyIter x) (fun it s₂ => SegX M A R Y D n s₀ (runOwn (.forLoop target it body orelse env) env) s₂ Q) (fun _ _ => False) s₁) (fun _ _ => False) s)
    (hs : ∀ x, foldedSetIterable iter env x = pure x := by intro _; rfl) : SegX M A R Y D n s₀ (exec (.For target iter body orelse pos) env) s Q := by
  rw [exec_For]
  refine SegX.lead fun A' h1 h2 => wpAny_standAt (SegX.lead fun A' h1 h2 => wpAny_mono (h A' h1 h2) (fun x s₁ h₁ => SegX.lead fun A'' _ _ => wpAny_of_eq (hs x) ?_) fun _ _ x => x)
  exact SegX.lead fun A'' _ _ => wpAny_standAt (SegX.lead fun A'' h1' h2' => wpAny_holding (h₁ A'' h1' h2'))
theorem seg_bw {α : Type} {c : Code} {fs : List Frame} {m : Sem α} {f : α → Sem Fin} {K H gd lv} (h : wpAny M (A.over c fs) m (fun a s' => Seg M A R Y n s₀ c ((f a).wrap K H gd lv) fs s') (fun _ _ => False) s) : Seg M A R Y n s₀ c ((m >>= f).wrap K H gd lv) fs s := by
  rw [Sem.bind_eq_wrap', Sem.wrap_wrap]
  exact seg_wrap (wpAny_mono h (fun _ _ x => x) fun _ _ x => x.elim)
end

section
variable {prog : Program} {w : World} {A : Around} {R : GenEnd} {Y : Protocol} {D n : Nat} {s₀ s : Shared} {env : Env} {Q : Flow → Nat → Shared → Shared → Prop}

theorem SegX.loop {target : Expr} {it : Value} {body : List Stmt} (I : Nat → Nat → Shared → Shared → Prop)
    (turn : ∀ k n s₀ s, I k n s₀ s → ∀ A' : Around, A'.handled = none → A'.depth ≤ D → wpAny (model prog w) A' (pyNext it) (fun r s₁ => match r with
      | none => Q .next n s₀ s₁
      | some v => wpAny (model prog w) A' (letOwnedTupleGo target it v) (fun _ s₂ => wpAny (model prog w) A' (assign target env v) (fun _ s₃ =>
          SegX (model prog w) A R Y D n s₀ (execs body env) s₃ (fun f n' s₀' s' => (f = .next ∨ f = .cont) ∧ ∃ k', k' < k ∧ I k' n' s₀' s')) (fun _ _ => False) s₂) (fun _ _ => False) s₁) (fun _ _ => False) s)
    (k : Nat) (h : I k n s₀ s) : SegX (model prog w) A R Y D n s₀ (runOwn (.forLoop target it body [] env) env) s Q := by
  refine SegX.run rfl fun c fs kk l p C q => ?_
  generalize hfs : Frame.ret kk none false l c p [] :: fs = fs' at C q ⊢
  clear hfs
  induction k using Nat.strongRecOn generalizing n s₀ s with
  | _ k ih =>
    show Seg _ A R Y n s₀ _ ((forTurn target it body [] env).onRaise (fun x => do noteFrame x env; theTreesLotGoes x)) fs' s
    rw [Sem.onRaise_eq_wrap]
    unfold forTurn
    refine seg_bw (wpAny_standAt (seg_bw (wpAny_onRaise (wpAny_mono (turn k n s₀ s h _ C.hh C.dp) (fun r s₁ h₁ => ?_) fun _ _ x => x.elim))))
    cases r with
    | none =>
      refine seg_again (c' := .block [] env) rfl ?_
      exact q _ .next n s₀ s₁ h₁
    | some v =>
      refine seg_bw (wpAny_mono h₁ (fun _ s₂ h₂ => seg_bw (wpAny_mono h₂ (fun _ s₃ h₃ => ?_) fun _ _ x => x)) fun _ _ x => x)
      rw [Sem.bind_eq_wrap', Sem.wrap_wrap]
      refine h₃ _ _ _ _ _ _ C rfl fun f n' s₀' s' hf => ?_
      obtain ⟨hf, k', hk, hI⟩ := hf
      rcases hf with rfl | rfl
      · exact seg_again rfl (ih k' hk hI)
      · exact seg_again rfl (ih k' hk hI)
end
/-- a generator's own state between two runs: its frame L, what it may change l, over a base that holds g0 and all that is alive in D -/
def GInv (g0 : Heap) (D : Addr → Prop) (L : Addr) (m : Str → Option Value) (l : List (Addr × (Obj → Prop))) (h : Heap) : Prop :=
  ∃ g, Keep g0 g ∧ Fm g L m l h ∧ Muts l ∧ ∀ b, D b → ∃ o, g.get? b = some o
/-- one run: but for heap and tokens all is as it was, and all of D and all that is frozen stands -/
def Stp (D : Addr → Prop) (s₀ s : Shared) : Prop := (∃ h tk, s = { s₀ with heap := h, toks := tk }) ∧ ∀ b o, s₀.heap.get? b = some o → D b ∨ Frz o → s.heap.get? b = some o
def YP (g0 : Heap) (D : Addr → Prop) (L : Addr) (Val : Nat → Value → Prop) : Protocol := fun n s₀ v s kap =>
  Stp D s₀ s ∧ Val n v ∧ ∃ m l, GInv g0 D L m l s.heap ∧ ∀ s'', GInv g0 D L m l s''.heap → kap (.send .none) s''
abbrev RP (D : Addr → Prop) : GenEnd := fun n s₀ r s => r = .ok (.ret .none) ∧ (n = 0 ∧ Stp D s₀ s)

/-- within a run -/
def SG (g0 : Heap) (D : Addr → Prop) (L : Addr) (m : Str → Option Value) (l : List (Addr × (Obj → Prop))) (s₀ s : Shared) : Prop :=
  (∃ h tk, s = { s₀ with heap := h, toks := tk }) ∧ ∃ g, Keep g0 g ∧ Fm g L m l s.heap ∧ (∀ b, D b → ∃ o, g.get? b = some o) ∧ ∀ b o, s₀.heap.get? b = some o → D b ∨ Frz o → g.get? b = some o

section
variable {g0 : Heap} {D : Addr → Prop} {L : Addr} {m : Str → Option Value} {l : List (Addr × (Obj → Prop))} {s₀ s : Shared}
theorem SG.stp (x : SG g0 D L m l s₀ s) : Stp D s₀ s := let ⟨a, _, _, F, _, hB⟩ := x; ⟨a, fun b o e h => F.keep _ _ (hB b o e h)⟩
theorem SG.ginv (x : SG g0 D L m l s₀ s) (M : Muts l) : GInv g0 D L m l s.heap := let ⟨_, g, k, F, hD, _⟩ := x; ⟨g, k, F, M, hD⟩
theorem GInv.start (x : GInv g0 D L m l s.heap) : SG g0 D L m l s s := by
  obtain ⟨g, k, F, M, hD⟩ := x
  obtain ⟨g', k', F', q, _⟩ := F.rebase
  refine ⟨⟨_, _, rfl⟩, g', k.trans k', F', fun b hb => let ⟨o, e⟩ := hD b hb; ⟨o, k' _ _ e⟩, fun b o e h => ?_⟩
  rcases h with h | h
  · obtain ⟨o', e'⟩ := hD b h
    have : s.heap.get? b = some o' := F.keep _ _ e'
    rw [e] at this
    cases this
    exact k' _ _ e'
  · refine q b o e (fun z => ?_) fun z => ?_
    · subst z
      obtain ⟨oL, es, ep, hL, hd, _⟩ := F.ns
      rw [e] at hL; cases hL
      exact h.2 _ _ hd
    · obtain ⟨p, hp, rfl⟩ := List.mem_map.mp z
      obtain ⟨o', e', ho'⟩ := (F.own p hp).1
      rw [e] at e'; cases e'
      exact M p hp _ ho' h
theorem GInv.turn {hs : List Addr} {h h' : Heap} (x : GInv g0 D L m l h) (k : Keep (hideAll h hs) h') (al : ∀ b ∈ hs, ∃ o, h'.get? b = some o) (hD' : ∀ b ∈ hs, D b) (hg : ∀ b ∈ hs, g0.get? b = none) : GInv g0 D L m l h' := by
  obtain ⟨g, kg, F, M, hD⟩ := x
  have off : ∀ b, g.get? b = none → b ∉ hs := fun b e hm => by
    obtain ⟨o, e'⟩ := hD b (hD' b hm)
    rw [e] at e'; cases e'
  have same : ∀ b o, g.get? b = none → h.get? b = some o → h'.get? b = some o := fun b o n e => k _ _ (hideAll_get _ e (off b n))
  have own : ∀ p ∈ l, At h' p.1 p.2 := fun p hp => by
    obtain ⟨o, e, q⟩ := (F.own p hp).1
    exact ⟨o, same _ _ (F.own p hp).2.1 e, q⟩
  obtain ⟨oL, es, ep, hL, r⟩ := F.ns
  have out : ∀ b o, g.get? b = some o → b ∉ L :: l.map (·.1) := fun b o e hm => by
    rcases List.mem_cons.mp hm with rfl | hm
    · rw [F.gL] at e; cases e
    · obtain ⟨p, hp, rfl⟩ := List.mem_map.mp hm
      rw [(F.own p hp).2.1] at e; cases e
  refine ⟨hideAll h' (L :: l.map (·.1)), fun b o e => ?_, ⟨⟨oL, es, ep, same _ _ F.gL hL, r⟩, fun b o e => of_hideAll _ e, hideAll_none _ (.head _), fun p hp => ⟨own p hp, hideAll_none _ (.tail _ (List.mem_map_of_mem hp)), (F.own p hp).2.2⟩, F.nd⟩, M, fun b hb => ?_⟩
  · have e' := kg _ _ e
    refine hideAll_get _ (k _ _ (hideAll_get _ (F.keep _ _ e') fun hm => ?_)) (out _ _ e')
    rw [hg b hm] at e; cases e
  · obtain ⟨o, e⟩ := hD b hb
    by_cases hm : b ∈ hs
    · obtain ⟨o', e'⟩ := al b hm
      exact ⟨o', hideAll_get _ e' (out _ _ e)⟩
    · exact ⟨o, hideAll_get _ (k _ _ (hideAll_get _ (F.keep _ _ e) hm)) (out _ _ e)⟩
end

section
variable {prog : Program} {w : World} {A : Around} {R : GenEnd} {dm n : Nat} {s₀ s : Shared} {env : Env} {Q : Flow → Nat → Shared → Shared → Prop}
variable {g0 : Heap} {D : Addr → Prop} {L : Addr} {Val : Nat → Value → Prop}

theorem SegX.yield {e : Expr} {ypos pos : Pos}
    (h : ∀ A' : Around, A'.handled = none → A'.depth ≤ dm → wpAny (model prog w) A' (eval e env) (fun v s' => ∃ m l, SG g0 D L m l s₀ s' ∧ Muts l ∧ Val n v ∧ ∀ s'', SG g0 D L m l s'' s'' → Q .next n s'' s'') (fun _ _ => False) s)
    (hco : env.scope.isCoroutine = false := by rfl) (hi : interactive env = false := by rfl) :
    SegX (model prog w) A R (YP g0 D L Val) dm (n + 1) s₀ (exec (.Expr (.Yield (some e) ypos) pos) env) s Q := fun c fs K H gd lv C hg q => by
  refine seg_Expr_Yield C.sp hg C.gu (wpAny_mono (h _ C.hh C.dp) (fun v s' hv => ?_) fun _ _ x => x.elim) hco hi
  obtain ⟨m, l, sg, M, val, qq⟩ := hv
  intro kap hk
  refine ⟨sg.stp, val, m, l, sg.ginv M, fun s'' gi => hk .none s'' ?_⟩
  exact q _ _ _ _ (qq s'' gi.start)

theorem SegX.forList {x : Str} {px pos : Pos} {iter : Expr} {body : List Stmt} {Y : Protocol} {ax : Addr} {xs : List Value} (J : Nat → (Str → Option Value) → List (Addr × (Obj → Prop)) → Nat → Prop)
    (hx : At g0 ax (LstO xs) ∨ ∀ i m l n, J i m l n → (ax, LstO xs) ∈ l)
    (start : ∀ A' : Around, A'.handled = none → A'.depth ≤ dm → wpAny (model prog w) A' (eval iter env) (fun v s₁ => v = .ref ax ∧ ∃ m l, SG g0 D env.locals m l s₀ s₁ ∧ J 0 m l n) (fun _ _ => False) s)
    (turn : ∀ i v it m l n s₀ s, xs[i]? = some v → J i m l n → SG g0 D env.locals (upd m x v) ((it, IterO ax (i + 1)) :: l) s₀ s →
      SegX (model prog w) A R Y dm n s₀ (execs body env) s (fun f n' s₀' s' => (f = .next ∨ f = .cont) ∧ ∃ m' l', SG g0 D env.locals m' ((it, IterO ax (i + 1)) :: l') s₀' s' ∧ J (i + 1) m' l' n'))
    (fin : ∀ m l n s₀ s, J xs.length m l n → SG g0 D env.locals m l s₀ s → Q .next n s₀ s)
    (hs : ∀ x, foldedSetIterable iter env x = pure x := by intro _; rfl)
    (hl : env.kindOf x = some .local := by rfl) (hp : (env.scope.kind == .class || (env.scope.kind == .module && env.locals != env.globals)) = false := by rfl) :
    SegX (model prog w) A R Y dm n s₀ (exec (.For (.Name x px) iter body [] pos) env) s Q := by
  have hat : ∀ {i m l l' n g h}, J i m l n → Keep g0 g → Fm g env.locals m (l' ++ l) h → At h ax (LstO xs) := fun hJ k F => by
    rcases hx with hx | hx
    · exact hx.keep (k.trans F.keep)
    · exact F.at_ (List.mem_append_right _ (hx _ _ _ _ hJ))
  refine SegX.for_ (fun A' h1 h2 => wpAny_mono (start A' h1 h2) (fun v s₁ h₁ => ?_) fun _ _ x => x) hs
  obtain ⟨rfl, m, l, ⟨⟨h, tk, rfl⟩, g, kg, F, hD, hB⟩, hJ⟩ := h₁
  intro A'' h1'' h2''
  refine iterL F (hat (l' := []) hJ kg F) fun it h' kp F' => ?_
  refine SegX.loop (fun k n s₀ s => ∃ i m l, k = xs.length - i ∧ i ≤ xs.length ∧ SG g0 D env.locals m ((it, IterO ax i) :: l) s₀ s ∧ J i m l n) ?_ xs.length ⟨0, m, l, rfl, Nat.zero_le _, ⟨⟨_, _, rfl⟩, g, kg, F', hD, hB⟩, hJ⟩
  clear hJ F' kp F hB hD kg
  rintro k n s₀ s ⟨i, m, l, rfl, hi, ⟨⟨h, tk, rfl⟩, g, kg, F, hD, hB⟩, hJ⟩ A3 h13 h23
  have hxl := hat (l' := [(it, IterO ax i)]) hJ kg F
  rcases Nat.lt_or_eq_of_le hi with hlt | rfl
  · have hv : xs[i]? = some xs[i] := List.getElem?_eq_getElem hlt
    refine nextL F hxl hv fun h'' _ F'' => ?_
    refine goName F'' (fun h3 tk3 F3 => ?_) hl hp
    refine (turn i _ it m l n s₀ _ hv hJ ⟨⟨_, _, rfl⟩, g, kg, F3, hD, hB⟩).mono fun f n' s₀' s' hq => ?_
    obtain ⟨hf, m', l', sg, hJ'⟩ := hq
    exact ⟨hf, xs.length - (i + 1), by omega, i + 1, m', l', rfl, hlt, sg, hJ'⟩
  · refine stopL h13 F hxl (by simp) fun h'' F'' => ?_
    exact fin m l n s₀ _ hJ ⟨⟨_, _, rfl⟩, g, kg, F'', hD, hB⟩

/-- the one generator under way: n yields are left -/
def GenSt (prog : Program) (w : World) (A : Around) (g0 : Heap) (D : Addr → Prop) (L : Addr) (Val : Nat → Value → Prop) (G₀ : Array GenState) (n : Nat) (s : Shared) : Prop :=
  ∃ gs m l, s.gens = G₀.push gs ∧ GInv g0 D L m l s.heap ∧ ∀ s'', GInv g0 D L m l s''.heap → gs.Goes (model prog w) A.in1 (RP D) (YP g0 D L Val) n (.send .none) s''
theorem set_push {α : Type} (a : Array α) (x y : α) : (a.push x).setIfInBounds a.size y = a.push y := by
  obtain ⟨l⟩ := a
  simp
theorem genNext {E : Value → Shared → Prop} {Q : Option Value → Shared → Prop} {a : Addr} {G₀ : Array GenState} (hh : A.handled = none) (hl : s.heap.NoLimit) (hroom : A.depth < recursionLimit) (hg : s.heap.IsGen a G₀.size) (G : GenSt prog w A g0 D L Val G₀ n s)
    (item : ∀ k v s₁, n = k + 1 → Val k v → (∃ h tk gs, s₁ = { s with heap := h, toks := tk, gens := G₀.push gs }) → (∀ b o, s.heap.get? b = some o → D b ∨ Frz o → s₁.heap.get? b = some o) → GenSt prog w A g0 D L Val G₀ k s₁ → Q (some v) s₁)
    (done : ∀ s₁, n = 0 → (∃ h tk, s₁ = { s with heap := h, toks := tk, gens := G₀.push .finished }) → (∀ b o, s.heap.get? b = some o → D b ∨ Frz o → s₁.heap.get? b = some o) → Q none s₁) :
    wpAny (model prog w) A (pyNext (.ref a)) Q E s := by
  obtain ⟨gs, m, l, hgs, gi, hgo⟩ := G
  refine wpAny_pyNext_gen (P := fun n s₀ s => n = 0 ∧ Stp D s₀ s) (Y := YP g0 D L Val) (n := n) hh hl hroom hg (gs := gs) (by rw [hgs]; simp) (hgo _ gi) ?_ ?_
  · rintro v s₁ gs' ⟨⟨⟨h, tk, rfl⟩, hk⟩, val, m', l', gi', hgo'⟩
    cases n with
    | zero => exact (hgo' { (s.setGen G₀.size .running) with heap := h, toks := tk } gi').elim
    | succ k =>
      refine item k v _ rfl val ⟨h, tk, gs', ?_⟩ (fun b o e hd => hk b o e hd) ⟨gs', m', l', ?_, gi', hgo'⟩
      · simp only [Shared.setGen]
        rw [hgs, set_push, set_push]
      · simp only [Shared.setGen]
        rw [hgs, set_push, set_push]
  · rintro s₁ ⟨hn, ⟨h, tk, rfl⟩, hk⟩ h' k'
    refine done _ hn ⟨h', tk, ?_⟩ fun b o e hd => k' _ _ (hk b o e hd)
    simp only [Shared.setGen]
    rw [hgs, set_push, set_push]
theorem GenSt.turn {hs : List Addr} {G₀ : Array GenState} {h' : Heap} {tk : Nat} (x : GenSt prog w A g0 D L Val G₀ n s) (k : Keep (hideAll s.heap hs) h') (al : ∀ b ∈ hs, ∃ o, h'.get? b = some o) (hD' : ∀ b ∈ hs, D b) (hg : ∀ b ∈ hs, g0.get? b = none) :
    GenSt prog w A g0 D L Val G₀ n { s with heap := h', toks := tk } := let ⟨gs, m, l, a, b, c⟩ := x; ⟨gs, m, l, a, b.turn k al hD' hg, c⟩
end
theorem Fm.settle {g h : Heap} {L : Addr} {m : Str → Option Value} {l : List (Addr × (Obj → Prop))} (F : Fm g L m l h) : ∃ g', Keep g g' ∧ Fm g' L m [] h ∧ (∀ p ∈ l, At g' p.1 p.2) ∧ Kf h g' := by
  have F0 : Fm g L m [] h := F.sub (List.nil_sublist _)
  obtain ⟨g', k, F', q, _⟩ := F0.rebase
  refine ⟨g', k, F', fun p hp => ?_, fun b o e f => q b o e (fun z => ?_) (List.not_mem_nil)⟩
  · obtain ⟨o, e, po⟩ := (F.own p hp).1
    exact ⟨o, q _ _ e (F.own p hp).2.2 (List.not_mem_nil), po⟩
  · subst z
    obtain ⟨oL, es, ep, hL, hd, _⟩ := F.ns
    rw [e] at hL; cases hL
    exact f.2 _ _ hd

section
variable {prog : Program} {w : World} {A : Around} {E : Value → Shared → Prop} {s : Shared} {env : Env} {g : Heap} {L : Addr} {m : Str → Option Value} {l : List (Addr × (Obj → Prop))}

theorem asgT {elts : List Expr} {k} {pos : Pos} {t : Addr} {xs : List Value} {Q : Unit → Shared → Prop} (hh : A.handled = none) (F : Fm g L m l s.heap) (x : At s.heap t (TupO xs)) (hn : (assignEach elts env).length = xs.length) (hst : (assignEach elts env).findIdx? (·.1) = none)
    (h : ∀ h', Keep s.heap h' → Fm g L m l h' → wpAny (model prog w) A (assignInOrder ((assignEach elts env).map (·.2)) xs) Q E { s with heap := h' }) : wpAny (model prog w) A (assign (.Tuple elts k pos) env (.ref t)) Q E s :=
  wpAny_assign_Tuple hh (isTup_of x) (by simpa using hn) hst fun h' hx => h h' (keep_ext hx) (F.keeps (keep_ext hx))
theorem unpI {t : Addr} {n : Nat} {xs : List Value} {Q : List Value → Shared → Prop} (hh : A.handled = none) (F : Fm g L m l s.heap) (x : At s.heap t (TupO xs)) (hn : n = xs.length) (h : ∀ h', Keep s.heap h' → Fm g L m l h' → Q xs { s with heap := h' }) :
    wpAny (model prog w) A (unpackItems (.ref t) n none) Q E s := by
  subst hn
  exact wpAny_unpackItems_tuple hh (isTup_of x) fun h' hx => h h' (keep_ext hx) (F.keeps (keep_ext hx))
theorem any_mem {ns : List Int} {k : Int} : ns.any (· == k) = decide (k ∈ ns) := by
  induction ns with
  | nil => rfl
  | cons n ns ih =>
    rw [List.any_cons, ih, Bool.eq_iff_iff]
    simp only [Bool.or_eq_true, beq_iff_eq, decide_eq_true_eq, List.mem_cons]
    exact or_congr eq_comm Iff.rfl
theorem inInts {a : Addr} {k : Int} {t : Tok} {vs : List Value} {ns : List Int} {Q : Value → Shared → Prop} (x : At s.heap a (LstO vs)) (hI : IntsAre vs ns) (h : Q (.bool (decide (k ∈ ns))) s) : wpAny (model prog w) A (compareOp .In (.int k t) (.ref a)) Q E s :=
  in_list_ints (isList_of x) hI (by rw [any_mem]; exact h)
theorem notInInts {a : Addr} {k : Int} {t : Tok} {vs : List Value} {ns : List Int} {Q : Value → Shared → Prop} (x : At s.heap a (LstO vs)) (hI : IntsAre vs ns) (h : Q (.bool (!decide (k ∈ ns))) s) : wpAny (model prog w) A (compareOp .NotIn (.int k t) (.ref a)) Q E s :=
  notin_list_ints (isList_of x) hI (by rw [any_mem]; exact h)
theorem ints_append {vs us : List Value} {ns ms : List Int} (x : IntsAre vs ns) (y : IntsAre us ms) : IntsAre (vs ++ us) (ns ++ ms) := by
  induction x with
  | nil => exact y
  | cons n t _ ih => exact .cons n t ih
theorem ints_at {vs : List Value} {ns : List Int} (x : IntsAre vs ns) : ∀ {i : Nat} {v : Value}, vs[i]? = some v → ∃ k t, v = .int k t ∧ ns[i]? = some k := by
  induction x with
  | nil => intro i v h; simp at h
  | cons n t _ ih =>
    intro i v h
    cases i with
    | zero => exact ⟨n, t, by simpa using h.symm, rfl⟩
    | succ i => simpa using ih (by simpa using h)
theorem ints_snoc {vs : List Value} {ns : List Int} {k : Int} {t : Tok} (x : IntsAre vs ns) : IntsAre (vs ++ [.int k t]) (ns ++ [k]) := ints_append x (.cons k t .nil)
theorem ints_map {ys : List Value} {ns : List Int} {f : Int → Int} {i : Nat} {k : Int} {t : Tok} (x : IntsAre ys ((ns.take i).map f)) (h : ns[i]? = some k) : IntsAre (ys ++ [.int (f k) t]) ((ns.take (i + 1)).map f) := by
  rw [List.take_succ, h, List.map_append]; exact ints_snoc x
theorem ints_filt {ys : List Value} {ns : List Int} {f : Int → Int} {p : Int → Bool} {i : Nat} {k : Int} {t : Tok} (x : IntsAre ys (((ns.take i).filter p).map f)) (h : ns[i]? = some k) (hp : p k = true) : IntsAre (ys ++ [.int (f k) t]) (((ns.take (i + 1)).filter p).map f) := by
  rw [List.take_succ, h, List.filter_append, List.map_append]
  show IntsAre _ (_ ++ ([k].filter p).map f)
  rw [List.filter_cons_of_pos hp]; exact ints_snoc x
theorem ints_skip {ys : List Value} {ns : List Int} {f : Int → Int} {p : Int → Bool} {i : Nat} {k : Int} (x : IntsAre ys (((ns.take i).filter p).map f)) (h : ns[i]? = some k) (hp : p k = false) : IntsAre ys (((ns.take (i + 1)).filter p).map f) := by
  rw [List.take_succ, h, List.filter_append, List.map_append]
  show IntsAre _ (_ ++ ([k].filter p).map f)
  rw [List.filter_cons_of_neg (by rw [hp]; decide)]; simpa using x
end
theorem Fm.intsHead {g h : Heap} {L a : Addr} {m : Str → Option Value} {l : List (Addr × (Obj → Prop))} {vs : List Value} {ns : List Int} (F : Fm g L m ((a, LstO vs) :: l) h) (hI : IntsAre vs ns) : ∃ us, IntsAre us ns ∧ us.length = ns.length ∧ Fm g L m ((a, LstO us) :: l) h := ⟨vs, hI, hI.length, F⟩
theorem newTO {M : Model} {A : Around} {E : Value → Shared → Prop} {s : Shared} {g : Heap} {L : Addr} {m : Str → Option Value} {l : List (Addr × (Obj → Prop))} {vs : List Value} {Q : Value → Shared → Prop} (F : Fm g L m l s.heap) (hsz : vs.length ≤ sizeLine) (h : ∀ a h', Keep s.heap h' → Fm g L m ((a, TupO vs) :: l) h' → Q (.ref a) { s with heap := h' }) : wpAny M A (newTuple vs) Q E s :=
  wpAny_newObj_type (h _ _ (Keep.push _ _) (F.new ⟨0, rfl⟩)) (by show vs.toArray.size ≤ sizeLine; rw [List.size_toArray]; exact hsz)
section
variable {prog : Program} {w : World} {A : Around} {E : Value → Shared → Prop} {s : Shared} {env : Env} {g : Heap} {L : Addr} {m : Str → Option Value} {l : List (Addr × (Obj → Prop))}
theorem whileF {test : Expr} {body : List Stmt} {pos : Pos} {Q : Flow → Shared → Prop} (n : Nat) (J : Nat → Heap → (Str → Option Value) → List (Addr × (Obj → Prop)) → Prop) (F : Fm g L m l s.heap) (init : J n g m l)
    (turn : ∀ n g' m' l' h' tk', J n g' m' l' → Keep g g' → Fm g' L m' l' h' →
      wpAny (model prog w) A (isTrue test env (eval test env)) (fun b s₂ => if b = true then wpAny (model prog w) A (execs body env) (fun f s₃ => (f = .next ∨ f = .cont) ∧ ∃ k, k < n ∧ Between s g L [] (J k) s₃) (fun _ _ => False) s₂ else Q .next s₂) (fun _ _ => False) { s with heap := h', toks := tk' }) :
    wpAny (model prog w) A (exec (.While test body [] pos) env) Q E s := by
  refine wpAny_While (codeAny_whileLoop (fun n s' => Between s g L [] (J n) s') ?_ n ⟨g, m, l, _, _, rfl, Keep.refl _, F, init⟩)
  rintro n s' ⟨g', m', l', h', tk', rfl, kg, F', hJ⟩
  refine wpAny_mono (turn n g' m' l' h' tk' hJ kg F') (fun b s₂ h₂ => ?_) fun _ _ x => x.elim
  cases b with
  | false => exact wpAny_execs_nil h₂
  | true =>
    refine wpAny_mono h₂ (fun f s₃ h₃ => ?_) fun _ _ x => x.elim
    obtain ⟨hf, k, hk, hb⟩ := h₃
    rcases hf with rfl | rfl <;> exact ⟨k, hk, hb⟩
end
section
variable {prog : Program} {w : World} {A : Around} {E : Value → Shared → Prop} {s : Shared} {env : Env} {g : Heap} {L : Addr} {m : Str → Option Value} {l : List (Addr × (Obj → Prop))}
theorem sliceB {value slice : Expr} {a sl : Addr} {xs ys : List Value} {vl vu : Value} {lo hi : Option Int} {Q : Value → Shared → Prop} (F : Fm g L m ((sl, SlcO vl vu .none) :: l) s.heap) (x : At s.heap a (LstO xs)) (pl : IsPart vl lo) (pu : IsPart vu hi) (hsz : xs.length ≤ sizeLine)
    (e : (slicePick xs.toArray lo hi none).toList = ys)
    (h : ∀ b h', Keep s.heap h' → Fm g L m ((b, LstO ys) :: l) h' → Q (.ref b) { s with heap := h' })
    (hs : subscripted slice false (.ref a) (.ref sl) = operate [.ref sl, .ref a] (getItem (.ref a) (.ref sl)) := by with_unfolding_all rfl) : wpAny (model prog w) A (subscriptTail value slice (.ref a) (.ref sl)) Q E s := by
  obtain ⟨o, e', ho⟩ := F.at_ (.head _)
  obtain rfl : o = _ := ho
  have hl := isList_of x
  refine tail_any hl.typeIs slot_list_getitem.lookup (wpAny_getItem_list_slice hl ⟨_, e', rfl, rfl⟩ pl pu .none (by simp) ?_ (by rw [List.size_toArray]; exact hsz)) hs
  exact h _ _ (Keep.push _ _) ((F.sub (List.sublist_cons_self _ _)).new ⟨0, by rw [← e]⟩)
theorem pick_add {xs : List Value} {x k : Nat} : (slicePick xs.toArray (some (x : Int)) (some ((x : Int) + (k : Int))) none).toList = (xs.drop x).take k := by
  have := pick_run (xs := xs) (x := x) (y := x + k) (by omega)
  rw [Int.natCast_add] at this
  rw [this]; simp
end
theorem CalB.over {Γ : Ctx} (h : CalB Γ) (fs : List Frame) : CalB (Γ.over fs) := by
  show ((fs.map Frame.where_ ++ Γ.below).map (·.1)).any Code.isCaller = true
  rw [List.map_append, List.any_append, h, Bool.or_true]
theorem CalB.wake {Γ : Ctx} (h : CalB Γ) (c : Code) (p : Pos) : CalB (Γ.wake c p) := by
  show (((Γ.code, p) :: Γ.below).map (·.1)).any Code.isCaller = true
  rw [List.map_cons, List.any_cons, h, Bool.or_true]
/-- a generator's run, where the caller stands below -/
def SegK (M : Model) (A : Around) (R : GenEnd) (Y : Protocol) : Nat → Shared → Code → Sem Fin → List Frame → Shared → Prop
  | 0 => fun s₀ c t fs s => ∀ Γ p, Γ.code = c → Γ.Woken A → CalB Γ → ∃ e s', Runs M Γ p t fs s e s' ∧ SegEnd R Y 0 (fun _ _ _ _ => False) s₀ e s'
  | n + 1 => fun s₀ c t fs s => ∀ Γ p, Γ.code = c → Γ.Woken A → CalB Γ → ∃ e s', Runs M Γ p t fs s e s' ∧
      SegEnd R Y (n + 1) (fun c' t' fs' s'' => SegK M A R Y n s'' c' t' fs' s'') s₀ e s'
def SegK.next (M : Model) (A : Around) (R : GenEnd) (Y : Protocol) : Nat → Code → Sem Fin → List Frame → Shared → Prop
  | 0 => fun _ _ _ _ => False
  | n + 1 => fun c t fs s'' => SegK M A R Y n s'' c t fs s''
section
variable {M : Model} {A : Around} {R : GenEnd} {Y : Protocol} {n : Nat} {s₀ : Shared} {c : Code} {fs : List Frame} {s : Shared}
theorem segK_iff {t : Sem Fin} : SegK M A R Y n s₀ c t fs s ↔ ∀ Γ p, Γ.code = c → Γ.Woken A → CalB Γ → ∃ e s', Runs M Γ p t fs s e s' ∧ SegEnd R Y n (SegK.next M A R Y n) s₀ e s' := by
  cases n <;> exact Iff.rfl
theorem segK_wrap {α : Type} {m : Sem α} {K : α → Sem Fin} {H : Value → Sem Fin} {gd lv}
    (h : wpC M (A.over c fs) m (fun a s' => SegK M A R Y n s₀ c (K a) fs s') (fun x s' => SegK M A R Y n s₀ c (H x) fs s') s) : SegK M A R Y n s₀ c (m.wrap K H gd lv) fs s := by
  rw [segK_iff]
  rintro Γ p rfl hΓ cal
  exact runs_wrap_of_wp K H gd lv m (h (Γ.over fs) p (hΓ.over fs) (cal.over fs)) (fun a p' s' h' => segK_iff.mp h' Γ p' rfl hΓ cal) (fun x p' s' h' => segK_iff.mp h' Γ p' rfl hΓ cal)
theorem segK_at {p' : Pos} {k : Unit → Sem Fin} (h : SegK M A R Y n s₀ c (k ()) fs s) : SegK M A R Y n s₀ c (.at p' k) fs s :=
  segK_wrap (m := standAt p') (K := k) (H := .raise) (gd := id) (lv := id) (wpC.of (wpAny_standAt h))
theorem segK_point {l : List Value} {k : Unit → Sem Fin} (h : SegK M A R Y n s₀ c (k ()) fs s) : SegK M A R Y n s₀ c (.point l k) fs s :=
  segK_wrap (m := point) (K := k) (H := .raise) (gd := id) (lv := fun _ => l) (wpC.of (wpAny_point h))
theorem segK_call {c' : Code} {h g l} {k : Result → Sem Fin} (hc : ∀ p, SegK M A R Y n s₀ c' (M.den c') (.ret k h g l c p [] :: fs) s) : SegK M A R Y n s₀ c (.call c' h g l k) fs s := by
  rw [segK_iff]
  rintro Γ p rfl hΓ cal
  obtain ⟨e, s', hr, he⟩ := segK_iff.mp (hc p) (Γ.goto c') p rfl (hΓ.goto c') cal
  exact ⟨e, s', runs_call_seg hr, he⟩
theorem segK_leaf {k h g l c₁ p₁ kp} (r : Result) (hk : SegK M A R Y n s₀ c₁ (k r) fs s) : SegK M A R Y n s₀ c (leafOf r) (.ret k h g l c₁ p₁ kp :: fs) s := by
  rw [segK_iff]
  rintro Γ p rfl hΓ cal
  obtain ⟨e, s', hr, he⟩ := segK_iff.mp hk (Γ.goto c₁) p₁ rfl (hΓ.goto c₁) cal
  exact ⟨e, s', Runs.pop r hr, he⟩
theorem segK_again {c' : Code} (hq : c'.quiet = true) (hc : SegK M A R Y n s₀ c' (M.den c') fs s) : SegK M A R Y n s₀ c (.pure (.again c')) fs s := by
  rw [segK_iff]
  rintro Γ p rfl hΓ cal
  obtain ⟨e, s', hr, he⟩ := segK_iff.mp hc (Γ.goto c') p rfl (hΓ.goto c') cal
  exact ⟨e, s', Runs.head (c₁ := c') (fun _ _ x => .again hq x) hr, he⟩
theorem segK_end (r : Result) (h : R n s₀ r s) : SegK M A R Y n s₀ c (leafOf r) [] s := by
  rw [segK_iff]
  rintro Γ p rfl _ _
  exact ⟨.ret r, s, Runs.leaf r, h⟩
theorem segK_yield {v g l} {k : Resume → Sem Fin} (hfs : splitAtGen fs = none) (hg : g = false) (hfg : fs.any Frame.guarded = false)
    (h : Y n s₀ v s fun r s'' => SegK M A R Y n s'' c (k r) fs s'') : SegK M A R Y (n + 1) s₀ c (.yield v g l k) fs s := by
  rintro Γ p rfl _ _
  exact ⟨_, s, Runs.yield' fs hfs, And.intro (by simp [End.quiet, hg, hfg]) h⟩
end
/-- a generator's state that goes on so -/
def GoesK (M : Model) (A : Around) (R : GenEnd) (Y : Protocol) (n : Nat) (gs : GenState) (r : Resume) (s : Shared) : Prop :=
  match gs with
  | .fresh c => r = .send .none ∧ SegK M A R Y n s c (M.den c) [] s
  | .suspended k _ c _ fs _ => SegK M A R Y n s c (k r) fs s
  | _ => False
theorem wpC_resume {M : Model} {A : Around} {R : GenEnd} {Y : Protocol} {n : Nat} {E : Value → Shared → Prop} {s : Shared} {g : Nat} {gs : GenState}
    {r : Resume} {l : List Value} {α : Type} {k : GenResult → Sem α} {Q : α → Shared → Prop} (hg : s.gens[g]? = some gs) (hgo : GoesK M A R Y n gs r (s.setGen g .running))
    (hR : ∀ x s₁, R n (s.setGen g .running) x s₁ → wpC M A (k (End.ret x).result) Q E (s₁.setGen g .finished))
    (hY : ∀ v s₁ gs', Y (n - 1) (s.setGen g .running) v s₁ (fun r' s'' => match n with | 0 => False | m + 1 => GoesK M A R Y m gs' r' s'') → wpC M A (k (.yielded v)) Q E (s₁.setGen g gs')) :
    wpC M A (.resume g r l k) Q E s := by
  intro Γ p hΓ cal
  rw [Sem.wp_resume]
  have fin : ∀ e₁ s₁, SegEnd R Y n (SegK.next M A R Y n) (s.setGen g .running) e₁ s₁ →
      Sem.wp M Γ (k e₁.result) (fun a _ s' => Q a s') (fun e _ s' => E e s') p (s₁.setGen g e₁.genState) := by
    intro e₁ s₁ he
    cases e₁ with
    | ret x => exact hR x s₁ he Γ p hΓ cal
    | susp v g₀ l₀ k₀ c₀ p₀ fs₀ =>
      refine hY v s₁ _ ?_ Γ p hΓ cal
      cases n with
      | zero => exact he.2
      | succ m => exact he.2
  have hqt : ∀ e₁ s₁, SegEnd R Y n (SegK.next M A R Y n) (s.setGen g .running) e₁ s₁ → e₁.quiet = true := by
    intro e₁ s₁ he
    cases e₁ with
    | ret x => rfl
    | susp v g₀ l₀ k₀ c₀ p₀ fs₀ => exact he.1
  cases gs with
  | fresh c =>
    obtain ⟨rfl, hs⟩ := hgo
    obtain ⟨e₁, s₁, hr, he⟩ := segK_iff.mp hs (Γ.wake c p) p rfl (hΓ.wake c p) (cal.wake c p)
    exact ⟨_, _, by unfold Wakes; rw [hg]; exact ⟨e₁, s₁, hr, hqt e₁ s₁ he, rfl, rfl⟩, fin e₁ s₁ he⟩
  | suspended k₀ l₀ c₀ p₀ fs₀ cl =>
    obtain ⟨e₁, s₁, hr, he⟩ := segK_iff.mp hgo (Γ.wake c₀ p) p₀ rfl (hΓ.wake c₀ p) (cal.wake c₀ p)
    exact ⟨_, _, by unfold Wakes; rw [hg]; exact ⟨e₁, s₁, hr, hqt e₁ s₁ he, rfl, rfl⟩, fin e₁ s₁ he⟩
  | running => exact hgo.elim
  | finished => exact hgo.elim
/-- where a generator's run stands, its frames told -/
structure CtxK (A : Around) (D : Nat) (FF : Option (List Env)) (c : Code) (fs : List Frame) : Prop where
  ct : Ctxt A D c fs
  fr : (A.over c fs).frames = FF
theorem CtxK.hh {A : Around} {D : Nat} {FF : Option (List Env)} {c : Code} {fs : List Frame} (x : CtxK A D FF c fs) : (A.over c fs).handled = none := x.ct.hh
theorem CtxK.dp {A : Around} {D : Nat} {FF : Option (List Env)} {c : Code} {fs : List Frame} (x : CtxK A D FF c fs) : (A.over c fs).depth ≤ D := x.ct.dp
theorem CtxK.sp {A : Around} {D : Nat} {FF : Option (List Env)} {c : Code} {fs : List Frame} (x : CtxK A D FF c fs) : splitAtGen fs = none := x.ct.sp
theorem CtxK.gu {A : Around} {D : Nat} {FF : Option (List Env)} {c : Code} {fs : List Frame} (x : CtxK A D FF c fs) : fs.any Frame.guarded = false := x.ct.gu
theorem CtxK.push {A : Around} {D : Nat} {FF : Option (List Env)} {c c' : Code} {fs : List Frame} (x : CtxK A D FF c fs) (hw : c'.weight = 0) (k : Result → Sem Fin) (l : List Value) (p : Pos) : CtxK A D FF c' (.ret k none false l c p [] :: fs) := by
  refine ⟨x.ct.push hw k l p, Eq.trans ?_ x.fr⟩
  show pushEnvs c'.envs (pushEnvs (envsOf ((c, p) :: fs.map Frame.where_)) A.frames) = pushEnvs c.envs (pushEnvs (envsOf (fs.map Frame.where_)) A.frames)
  rw [Code.envs_of_weight hw, envsOf_cons]
  simp only [pushEnvs_eq]
  cases A.frames <;> simp
/-- a tree of statements, run in a generator: what it leaves is told of the flow, the yields left, where the segment began, the state -/
def SegXK (M : Model) (A : Around) (R : GenEnd) (Y : Protocol) (D : Nat) (FF : Option (List Env)) (n : Nat) (s₀ : Shared) (t : Sem Flow) (s : Shared) (Q : Flow → Nat → Shared → Shared → Prop) : Prop :=
  ∀ c fs (K : Flow → Sem Fin) (H : Value → Sem Fin) (gd : Bool → Bool) (lv : List Value → List Value), CtxK A D FF c fs → gd false = false →
    (∀ f n' s₀' s', Q f n' s₀' s' → SegK M A R Y n' s₀' c (K f) fs s') → SegK M A R Y n s₀ c (t.wrap K H gd lv) fs s

section
variable {M : Model} {A : Around} {R : GenEnd} {Y : Protocol} {D n : Nat} {FF : Option (List Env)} {s₀ s : Shared} {env : Env} {Q : Flow → Nat → Shared → Shared → Prop}

theorem SegXK.leaf {t : Sem Flow} (h : ∀ A' : Around, A'.handled = none → A'.depth ≤ D → A'.frames = FF → wpC M A' t (fun f s' => Q f n s₀ s') (fun _ _ => False) s) : SegXK M A R Y D FF n s₀ t s Q :=
  fun _ _ _ _ _ _ C _ q => segK_wrap (wpC_mono (h _ C.hh C.dp C.fr) (fun _ _ hq => q _ _ _ _ hq) fun _ _ x => x.elim)
theorem SegXK.lead {α : Type} {t : Sem α} {f : α → Sem Flow} (h : ∀ A' : Around, A'.handled = none → A'.depth ≤ D → A'.frames = FF → wpC M A' t (fun a s' => SegXK M A R Y D FF n s₀ (f a) s' Q) (fun _ _ => False) s) : SegXK M A R Y D FF n s₀ (t >>= f) s Q :=
  fun c fs K H gd lv C hg q => by
    rw [Sem.bind_eq_wrap', Sem.wrap_wrap]
    exact segK_wrap (wpC_mono (h _ C.hh C.dp C.fr) (fun a s' hq => hq c fs K H gd lv C hg q) fun _ _ x => x.elim)
theorem SegXK.mono {t : Sem Flow} {Q' : Flow → Nat → Shared → Shared → Prop} (x : SegXK M A R Y D FF n s₀ t s Q) (h : ∀ f n' s₀' s', Q f n' s₀' s' → Q' f n' s₀' s') : SegXK M A R Y D FF n s₀ t s Q' :=
  fun c fs K H gd lv C hg q => x c fs K H gd lv C hg fun f n' s₀' s' hq => q _ _ _ _ (h _ _ _ _ hq)
theorem SegXK.nil (h : Q .next n s₀ s) : SegXK M A R Y D FF n s₀ (execs [] env) s Q := fun _ _ _ _ _ _ _ _ q => q _ _ _ _ h
theorem SegXK.cons {st : Stmt} {rest : List Stmt} (h : SegXK M A R Y D FF n s₀ (exec st env) s (fun f n' s₀' s' => match f with | .next => SegXK M A R Y D FF n' s₀' (execs rest env) s' Q | f => Q f n' s₀' s')) :
    SegXK M A R Y D FF n s₀ (execs (st :: rest) env) s Q := fun c fs K H gd lv C hg q => by
  rw [execs_cons_wrap]
  refine h c fs _ H gd lv C hg fun f n' s₀' s' hq => ?_
  cases f with
  | next => exact hq c fs K H gd lv C hg q
  | _ => exact q _ _ _ _ hq
theorem SegXK.if_ {test : Expr} {body orelse : List Stmt} {pos : Pos} (h : ∀ A' : Around, A'.handled = none → A'.depth ≤ D → A'.frames = FF → wpC M A' (isTrue test env (eval test env)) (fun b s' => if b = true then SegXK M A R Y D FF n s₀ (execs body env) s' Q else SegXK M A R Y D FF n s₀ (execs orelse env) s' Q) (fun _ _ => False) s) :
    SegXK M A R Y D FF n s₀ (exec (.If test body orelse pos) env) s Q := by
  rw [exec_If]
  refine SegXK.lead fun A' h1 h2 h3 => wpC.of <| wpAny_standAt (SegXK.lead fun A' h1 h2 h3 => wpC_mono (h A' h1 h2 h3) (fun b s' hb => ?_) fun _ _ x => x)
  cases b <;> exact hb
theorem SegXK.run {code : Code} (hw : code.weight = 0)
    (h : ∀ c fs k l p, CtxK A D FF code (.ret k none false l c p [] :: fs) → (∀ c' f n' s₀' s', Q f n' s₀' s' → SegK M A R Y n' s₀' c' (leafOf (.ok f)) (.ret k none false l c p [] :: fs) s') → SegK M A R Y n s₀ code (M.den code) (.ret k none false l c p [] :: fs) s) :
    SegXK M A R Y D FF n s₀ (runOwn code env) s Q := fun c fs K H gd lv C hg q => by
  show SegK M A R Y n s₀ c (.call code none (gd false) (lv []) _) fs s
  rw [hg]
  refine segK_call fun p => h c fs _ _ _ (C.push hw _ _ _) fun c' f n' s₀' s' hq => ?_
  exact segK_leaf (.ok f) (q _ _ _ _ hq)
theorem SegXK.for_ {target iter : Expr} {body orelse : List Stmt} {pos : Pos}
    (h : ∀ A' : Around, A'.handled = none → A'.depth ≤ D → A'.frames = FF → wpC M A' (eval iter env) (fun x s₁ => ∀ A'' : Around, A''.handled = none → A''.depth ≤ D → A''.frames = FF → wpC M A'' (pyIter x) (fun it s₂ => SegXK M A R Y D FF n s₀ (runOwn (.forLoop target it body orelse env) env) s₂ Q) (fun _ _ => False) s₁) (fun _ _ => False) s)
    (hs : ∀ x, foldedSetIterable iter env x = pure x := by intro _; rfl) : SegXK M A R Y D FF n s₀ (exec (.For target iter body orelse pos) env) s Q := by
  rw [exec_For]
  refine SegXK.lead fun A' h1 h2 h3 => wpC.of <| wpAny_standAt (SegXK.lead fun A' h1 h2 h3 => wpC_mono (h A' h1 h2 h3) (fun x s₁ h₁ => SegXK.lead fun A'' _ _ _ => wpC.of (wpAny_of_eq (hs x) ?_)) fun _ _ x => x)
  exact SegXK.lead fun A'' _ _ _ => wpC.of <| wpAny_standAt (SegXK.lead fun A'' h1' h2' h3' => wpC_holding (h₁ A'' h1' h2' h3'))
theorem segK_bw {α : Type} {c : Code} {fs : List Frame} {m : Sem α} {f : α → Sem Fin} {K H gd lv} (h : wpC M (A.over c fs) m (fun a s' => SegK M A R Y n s₀ c ((f a).wrap K H gd lv) fs s') (fun _ _ => False) s) : SegK M A R Y n s₀ c ((m >>= f).wrap K H gd lv) fs s := by
  rw [Sem.bind_eq_wrap', Sem.wrap_wrap]
  exact segK_wrap (wpC_mono h (fun _ _ x => x) fun _ _ x => x.elim)
end

section
variable {prog : Program} {w : World} {A : Around} {R : GenEnd} {Y : Protocol} {D n : Nat} {FF : Option (List Env)} {s₀ s : Shared} {env : Env} {Q : Flow → Nat → Shared → Shared → Prop}

theorem SegXK.loop {target : Expr} {it : Value} {body : List Stmt} (I : Nat → Nat → Shared → Shared → Prop)
    (turn : ∀ k n s₀ s, I k n s₀ s → ∀ A' : Around, A'.handled = none → A'.depth ≤ D → A'.frames = FF → wpC (model prog w) A' (pyNext it) (fun r s₁ => match r with
      | none => Q .next n s₀ s₁
      | some v => wpC (model prog w) A' (letOwnedTupleGo target it v) (fun _ s₂ => wpC (model prog w) A' (assign target env v) (fun _ s₃ =>
          SegXK (model prog w) A R Y D FF n s₀ (execs body env) s₃ (fun f n' s₀' s' => (f = .next ∨ f = .cont) ∧ ∃ k', k' < k ∧ I k' n' s₀' s')) (fun _ _ => False) s₂) (fun _ _ => False) s₁) (fun _ _ => False) s)
    (k : Nat) (h : I k n s₀ s) : SegXK (model prog w) A R Y D FF n s₀ (runOwn (.forLoop target it body [] env) env) s Q := by
  refine SegXK.run rfl fun c fs kk l p C q => ?_
  generalize hfs : Frame.ret kk none false l c p [] :: fs = fs' at C q ⊢
  clear hfs
  induction k using Nat.strongRecOn generalizing n s₀ s with
  | _ k ih =>
    show SegK _ A R Y n s₀ _ ((forTurn target it body [] env).onRaise (fun x => do noteFrame x env; theTreesLotGoes x)) fs' s
    rw [Sem.onRaise_eq_wrap]
    unfold forTurn
    refine segK_bw (wpC.of <| wpAny_standAt (segK_bw (wpC_onRaise (wpC_mono (turn k n s₀ s h _ C.hh C.dp C.fr) (fun r s₁ h₁ => ?_) fun _ _ x => x.elim))))
    cases r with
    | none =>
      refine segK_again (c' := .block [] env) rfl ?_
      exact q _ .next n s₀ s₁ h₁
    | some v =>
      refine segK_bw (wpC_mono h₁ (fun _ s₂ h₂ => segK_bw (wpC_mono h₂ (fun _ s₃ h₃ => ?_) fun _ _ x => x)) fun _ _ x => x)
      rw [Sem.bind_eq_wrap', Sem.wrap_wrap]
      refine h₃ _ _ _ _ _ _ C rfl fun f n' s₀' s' hf => ?_
      obtain ⟨hf, k', hk, hI⟩ := hf
      rcases hf with rfl | rfl
      · exact segK_again rfl (ih k' hk hI)
      · exact segK_again rfl (ih k' hk hI)
end
section
variable {prog : Program} {w : World} {A : Around} {E : Value → Shared → Prop} {s : Shared} {R : Result → Shared → Prop}
theorem slotC {self : Value} {T : String} {name : Str} {id : String} {args : List Value} {kw : List (Str × Value)} {Q : Option Value → Shared → Prop} (hT : s.TypeIs self T) (h : Slot T name id)
    (hc : wpC (model prog w) A (call (.builtin id) (self :: args) kw) (fun v => Q (some v)) E s) : wpC (model prog w) A (callSpecial? self name args kw) Q E s := by
  simp only [callSpecial?]
  refine wpC_lead (wpAny_specialOf hT h.lookup ?_)
  simp only [h.bind]
  exact wpC_holding (wpC_lead (wpAny_pure (wpC_bind (wpC_mono hc (fun v s' h' => wpC_pure h') fun _ _ h' => h'))))
theorem codeC_builtin_at {id : String} {args : Args} {b : Builtin} (hq : (Code.builtin id args).quiet = true) (hb : entryFor table id = some b)
    (h : wpAny (model prog w) A.in1 (checkBuiltinCall id args) (fun _ s₁ => wpC (model prog w) (A.under (.builtin id args)) (b args)
      (fun fin s' => match fin with | .done f => R (.ok f) s' | .again c' => c'.quiet = true ∧ codeC (model prog w) A c' R s') (fun e s' => R (.error e) s') s₁) (fun e s' => R (.error e) s') s) : codeC (model prog w) A (.call (.builtin id) args) R s := by
  refine codeC_of_tree ?_
  show wpC _ A.in1 (do checkBuiltinCall id args; again (.builtin id args)) _ _ s
  refine wpC_lead (wpAny_mono h (fun _ s₁ h₁ => wpC_pure (And.intro hq (codeC_of_tree ?_))) fun _ _ h' => h')
  show wpC _ _ (match entryFor table id with | some b => b args | none => unsupported ((withoutEnding? id "#data").getD id)) _ _ s₁
  rw [hb]; exact h₁
theorem codeC_call_builtin {id : String} {args : Args} {b : Builtin} (hq : plainId id = true) (hb : entryFor table id = some b)
    (h : wpAny (model prog w) A.in1 (checkBuiltinCall id args) (fun _ s₁ => wpC (model prog w) A.in1 (b args)
      (fun fin s' => match fin with | .done f => R (.ok f) s' | .again c' => c'.quiet = true ∧ codeC (model prog w) A c' R s') (fun e s' => R (.error e) s') s₁) (fun e s' => R (.error e) s') s) : codeC (model prog w) A (.call (.builtin id) args) R s :=
  codeC_builtin_at (plainId_quiet hq args) hb (by rw [Around.under_plainId hq args]; exact h)
theorem wpC_call_entry {T : String} {name : Str} {id : String} {b : Builtin} {self : Value} {rest : List Value} {Q : Value → Shared → Prop} (h : Slot T name id) (hT : s.TypeIs self T) (hb : entryFor table id = some b)
    (hc : wpC (model prog w) A.in1 (b ⟨self :: rest, []⟩) (fun fin s' => ∃ v, fin = .done (.ret v) ∧ Q v s') E s) (ha : argsOk id ⟨self :: rest, []⟩ := by rfl) : wpC (model prog w) A (call (.builtin id) (self :: rest)) Q E s := by
  refine wpC_call (codeC_call_builtin h.plain hb (h.check _ _ _ _ _ _ _ _ hT ha (wpC_mono hc (fun fin s' h' => ?_) fun _ _ h' => h')))
  obtain ⟨v, rfl, hv⟩ := h'; exact hv
theorem nextC {a : Addr} {g n : Nat} {gs : GenState} {P : Nat → Shared → Shared → Prop} {Y : Protocol} {Q : Option Value → Shared → Prop} (hh : A.handled = none) (hl : s.heap.NoLimit) (hroom : A.depth < recursionLimit)
    (hg : s.heap.IsGen a g) (hgs : s.gens[g]? = some gs) (hgo : GoesK (model prog w) A.in1 (fun n s₀ r s₁ => r = .ok (.ret .none) ∧ P n s₀ s₁) Y n gs (.send .none) (s.setGen g .running))
    (hY : ∀ v s₁ gs', Y (n - 1) (s.setGen g .running) v s₁ (fun r' s'' => match n with | 0 => False | m + 1 => GoesK (model prog w) A.in1 (fun n s₀ r s₁ => r = .ok (.ret .none) ∧ P n s₀ s₁) Y m gs' r' s'') → Q (some v) (s₁.setGen g gs'))
    (hP : ∀ s₁, P n (s.setGen g .running) s₁ → ∀ h', (∀ b o, s₁.heap.get? b = some o → h'.get? b = some o) → Q none { s₁.setGen g .finished with heap := h' }) : wpC (model prog w) A (pyNext (.ref a)) Q E s := by
  unfold pyNext
  refine wpC_bind (wpC_attempt (slotC (name := Str.ofString "__next__") hg.typeIs slot_gen_next (wpC_call_entry slot_gen_next hg.typeIs entry_gen_next ?_ (args_gen_next _))))
  show wpC _ _ (Builtin.Generator.genWake (.ref a) (.send .none)) _ _ s
  unfold Builtin.Generator.genWake
  refine wpC_bind (wpC_holding (wpC.of (wpAny_genNumber hg (?_))))
  refine wpC_lead (wpAny_genState hgs ?_)
  cases gs with
  | running => exact hgo.elim
  | finished => exact hgo.elim
  | _ =>
    refine wpC_lead (wpAny_roomToWake hl hroom ?_)
    show wpC _ _ (.resume g (.send .none) [] _) _ _ s
    refine wpC_resume hgs hgo (fun x s₁ hx => ?_) (fun v s₁ gs' hv => ?_)
    · obtain ⟨rfl, hp⟩ := hx
      refine wpC.of ?_
      show wpAny _ _ (newExc (.type "StopIteration") [] >>= _) _ _ _
      refine wpAny_bind ?_
      simp only [newExc, newTuple]
      refine wpAny_bind (wpAny_newObj_type ?_ (by size_fits))
      refine wpAny_bind (m := firstArgMember _ _) (wpAny_of_eq (a := Value.none) (by first | rfl | (simp only [firstArgMember]; rfl)) ?_)
      refine wpAny_newObj_type ?_ (by size_fits)
      simp only [raiseNew]
      refine wpAny_bind (wpAny_bind (wpAny_handled ?_))
      rw [show A.in1.handled = none from hh]
      refine wpAny_throw ?_
      refine wpC_lead (wpAny_isInstance (T := "StopIteration") (b := true) ⟨_, Heap.get?_push_size _ rfl, rfl⟩ isSubtype_stop ?_)
      exact wpC_pure (hP s₁ hp _ fun b o hb => Heap.get?_push_of_some _ (Heap.get?_push_of_some _ hb))
    · exact wpC_pure ⟨v, rfl, wpC_pure (hY v s₁ gs' hv)⟩
end
/-- at each stop X holds of the heap -/
def YX (X : Heap → Prop) (g0 : Heap) (D : Addr → Prop) (L : Addr) (Val : Nat → Value → Prop) : Protocol := fun n s₀ v s kap =>
  Stp D s₀ s ∧ Val n v ∧ X s.heap ∧ ∃ m l, GInv g0 D L m l s.heap ∧ ∀ s'', GInv g0 D L m l s''.heap → kap (.send .none) s''
abbrev RX (X : Heap → Prop) (D : Addr → Prop) : GenEnd := fun n s₀ r s => r = .ok (.ret .none) ∧ (n = 0 ∧ Stp D s₀ s ∧ X s.heap)
theorem goNameC {prog : Program} {w : World} {A : Around} {E : Value → Shared → Prop} {s : Shared} {env : Env} {g : Heap} {m : Str → Option Value} {l : List (Addr × (Obj → Prop))} {x : Str} {px : Pos} {it v : Value} {E' : Value → Shared → Prop} {Q : Unit → Shared → Prop} (F : Fm g env.locals m l s.heap)
    (h : ∀ h' tk, Fm g env.locals (upd m x v) l h' → Q () { s with heap := h', toks := tk })
    (hl : env.kindOf x = some .local := by rfl) (hp : (env.scope.kind == .class || (env.scope.kind == .module && env.locals != env.globals)) = false := by rfl) :
    wpC (model prog w) A (letOwnedTupleGo (.Name x px) it v) (fun _ s' => wpC (model prog w) A (assign (.Name x px) env v) Q E s') E' s :=
  wpC_pure (wpC.of (wpAny_assign_Name (svT F h hl hp)))
section
variable {prog : Program} {w : World} {A : Around} {R : GenEnd} {dm n : Nat} {FF : Option (List Env)} {s₀ s : Shared} {env : Env} {Q : Flow → Nat → Shared → Shared → Prop}
variable {g0 : Heap} {D : Addr → Prop} {L : Addr} {Val : Nat → Value → Prop} {X : Heap → Prop}

theorem SegXK.yield {e : Expr} {ypos pos : Pos}
    (h : ∀ A' : Around, A'.handled = none → A'.depth ≤ dm → A'.frames = FF → wpAny (model prog w) A' (eval e env) (fun v s' => ∃ m l, SG g0 D L m l s₀ s' ∧ Muts l ∧ Val n v ∧ X s'.heap ∧ ∀ s'', SG g0 D L m l s'' s'' → Q .next n s'' s'') (fun _ _ => False) s)
    (hco : env.scope.isCoroutine = false := by rfl) (hi : interactive env = false := by rfl) :
    SegXK (model prog w) A R (YX X g0 D L Val) dm FF (n + 1) s₀ (exec (.Expr (.Yield (some e) ypos) pos) env) s Q := fun c fs K H gd lv C hg q => by
  rw [exec_Expr env _ pos hi rfl]
  show SegK (model prog w) A R _ (n + 1) s₀ c (.at pos fun _ => ((eval e env >>= fun v => (standAt ypos >>= fun _ => yieldOut env v)) >>= fun x =>
    dropValue (.Yield (some e) ypos) pos x).wrap K H gd lv) fs s
  have hy : ∀ v, yieldOut env v = yieldValue v := fun v => by simp only [yieldOut, hco, Bool.false_eq_true, if_false]
  simp only [hy]
  refine segK_at ?_
  rw [Sem.bind_eq_wrap', Sem.bind_eq_wrap', Sem.wrap_wrap, Sem.wrap_wrap]
  refine segK_wrap (wpC.of (wpAny_mono (h _ C.hh C.dp C.fr) (fun v s' hv => ?_) fun _ _ x => x.elim))
  obtain ⟨m, l, sg, M, val, hX, qq⟩ := hv
  refine segK_at (segK_yield C.sp hg C.gu ⟨sg.stp, val, hX, m, l, sg.ginv M, fun s'' gi => ?_⟩)
  exact q _ _ _ _ (qq s'' gi.start)

theorem SegXK.forList {x : Str} {px pos : Pos} {iter : Expr} {body : List Stmt} {Y : Protocol} {ax : Addr} {xs : List Value} (J : Nat → (Str → Option Value) → List (Addr × (Obj → Prop)) → Nat → Prop)
    (hx : At g0 ax (LstO xs) ∨ ∀ i m l n, J i m l n → (ax, LstO xs) ∈ l)
    (start : ∀ A' : Around, A'.handled = none → A'.depth ≤ dm → A'.frames = FF → wpAny (model prog w) A' (eval iter env) (fun v s₁ => v = .ref ax ∧ ∃ m l, SG g0 D env.locals m l s₀ s₁ ∧ J 0 m l n) (fun _ _ => False) s)
    (turn : ∀ i v it m l n s₀ s, xs[i]? = some v → J i m l n → SG g0 D env.locals (upd m x v) ((it, IterO ax (i + 1)) :: l) s₀ s →
      SegXK (model prog w) A R Y dm FF n s₀ (execs body env) s (fun f n' s₀' s' => (f = .next ∨ f = .cont) ∧ ∃ m' l', SG g0 D env.locals m' ((it, IterO ax (i + 1)) :: l') s₀' s' ∧ J (i + 1) m' l' n'))
    (fin : ∀ m l n s₀ s, J xs.length m l n → SG g0 D env.locals m l s₀ s → Q .next n s₀ s)
    (hs : ∀ x, foldedSetIterable iter env x = pure x := by intro _; rfl)
    (hl : env.kindOf x = some .local := by rfl) (hp : (env.scope.kind == .class || (env.scope.kind == .module && env.locals != env.globals)) = false := by rfl) :
    SegXK (model prog w) A R Y dm FF n s₀ (exec (.For (.Name x px) iter body [] pos) env) s Q := by
  have hat : ∀ {i m l l' n g h}, J i m l n → Keep g0 g → Fm g env.locals m (l' ++ l) h → At h ax (LstO xs) := fun hJ k F => by
    rcases hx with hx | hx
    · exact hx.keep (k.trans F.keep)
    · exact F.at_ (List.mem_append_right _ (hx _ _ _ _ hJ))
  refine SegXK.for_ (fun A' h1 h2 h3 => wpC_mono (wpC.of (start A' h1 h2 h3)) (fun v s₁ h₁ => ?_) fun _ _ x => x) hs
  obtain ⟨rfl, m, l, ⟨⟨h, tk, rfl⟩, g, kg, F, hD, hB⟩, hJ⟩ := h₁
  intro A'' h1'' h2'' h3''
  refine wpC.of <| iterL F (hat (l' := []) hJ kg F) fun it h' kp F' => ?_
  refine SegXK.loop (fun k n s₀ s => ∃ i m l, k = xs.length - i ∧ i ≤ xs.length ∧ SG g0 D env.locals m ((it, IterO ax i) :: l) s₀ s ∧ J i m l n) ?_ xs.length ⟨0, m, l, rfl, Nat.zero_le _, ⟨⟨_, _, rfl⟩, g, kg, F', hD, hB⟩, hJ⟩
  clear hJ F' kp F hB hD kg
  rintro k n s₀ s ⟨i, m, l, rfl, hi, ⟨⟨h, tk, rfl⟩, g, kg, F, hD, hB⟩, hJ⟩ A3 h13 h23 h33
  have hxl := hat (l' := [(it, IterO ax i)]) hJ kg F
  rcases Nat.lt_or_eq_of_le hi with hlt | rfl
  · have hv : xs[i]? = some xs[i] := List.getElem?_eq_getElem hlt
    refine wpC.of <| nextL F hxl hv fun h'' _ F'' => ?_
    refine goNameC F'' (fun h3 tk3 F3 => ?_) hl hp
    refine (turn i _ it m l n s₀ _ hv hJ ⟨⟨_, _, rfl⟩, g, kg, F3, hD, hB⟩).mono fun f n' s₀' s' hq => ?_
    obtain ⟨hf, m', l', sg, hJ'⟩ := hq
    exact ⟨hf, xs.length - (i + 1), by omega, i + 1, m', l', rfl, hlt, sg, hJ'⟩
  · refine wpC.of <| stopL h13 F hxl (by simp) fun h'' F'' => ?_
    exact fin m l n s₀ _ hJ ⟨⟨_, _, rfl⟩, g, kg, F'', hD, hB⟩

/-- the one generator under way: n yields are left -/
def GenStK (X : Heap → Prop) (prog : Program) (w : World) (A : Around) (g0 : Heap) (D : Addr → Prop) (L : Addr) (Val : Nat → Value → Prop) (G₀ : Array GenState) (n : Nat) (s : Shared) : Prop :=
  ∃ gs m l, s.gens = G₀.push gs ∧ GInv g0 D L m l s.heap ∧ ∀ s'', GInv g0 D L m l s''.heap → GoesK (model prog w) A.in1 (RX X D) (YX X g0 D L Val) n gs (.send .none) s''
theorem genNextK {E : Value → Shared → Prop} {Q : Option Value → Shared → Prop} {a : Addr} {G₀ : Array GenState} (hh : A.handled = none) (hl : s.heap.NoLimit) (hroom : A.depth < recursionLimit) (hg : s.heap.IsGen a G₀.size) (G : GenStK X prog w A g0 D L Val G₀ n s)
    (item : ∀ k v s₁, n = k + 1 → Val k v → (∃ h tk gs, s₁ = { s with heap := h, toks := tk, gens := G₀.push gs }) → (∀ b o, s.heap.get? b = some o → D b ∨ Frz o → s₁.heap.get? b = some o) → X s₁.heap → GenStK X prog w A g0 D L Val G₀ k s₁ → Q (some v) s₁)
    (done : ∀ s₁, n = 0 → (∃ h tk, s₁ = { s with heap := h, toks := tk, gens := G₀.push .finished }) → (∀ b o, s.heap.get? b = some o → D b ∨ Frz o → s₁.heap.get? b = some o) → (∃ h, X h ∧ Keep h s₁.heap) → Q none s₁) :
    wpC (model prog w) A (pyNext (.ref a)) Q E s := by
  obtain ⟨gs, m, l, hgs, gi, hgo⟩ := G
  refine nextC (P := fun n s₀ s => n = 0 ∧ Stp D s₀ s ∧ X s.heap) (Y := YX X g0 D L Val) (n := n) hh hl hroom hg (gs := gs) (by rw [hgs]; simp) (hgo _ gi) ?_ ?_
  · rintro v s₁ gs' ⟨⟨⟨h, tk, rfl⟩, hk⟩, val, hX, m', l', gi', hgo'⟩
    cases n with
    | zero => exact (hgo' { (s.setGen G₀.size .running) with heap := h, toks := tk } gi').elim
    | succ k =>
      refine item k v _ rfl val ⟨h, tk, gs', ?_⟩ (fun b o e hd => hk b o e hd) hX ⟨gs', m', l', ?_, gi', hgo'⟩
      · simp only [Shared.setGen]
        rw [hgs, set_push, set_push]
      · simp only [Shared.setGen]
        rw [hgs, set_push, set_push]
  · rintro s₁ ⟨hn, ⟨⟨h, tk, rfl⟩, hk⟩, hX⟩ h' k'
    refine done _ hn ⟨h', tk, ?_⟩ (fun b o e hd => k' _ _ (hk b o e hd)) ⟨h, hX, k'⟩
    simp only [Shared.setGen]
    rw [hgs, set_push, set_push]
theorem GenStK.turn {hs : List Addr} {G₀ : Array GenState} {h' : Heap} {tk : Nat} (x : GenStK X prog w A g0 D L Val G₀ n s) (k : Keep (hideAll s.heap hs) h') (al : ∀ b ∈ hs, ∃ o, h'.get? b = some o) (hD' : ∀ b ∈ hs, D b) (hg : ∀ b ∈ hs, g0.get? b = none) :
    GenStK X prog w A g0 D L Val G₀ n { s with heap := h', toks := tk } := let ⟨gs, m, l, a, b, c⟩ := x; ⟨gs, m, l, a, b.turn k al hD' hg, c⟩
end
theorem typeCall_int_2 (a b : Value) : checkTypeCall "int" ⟨[a, b], []⟩ = pure () := by kernel_rfl
theorem newCall_int_2 (a b : Value) : checkBuiltinCall "int.__new__" ⟨[.type "int", a, b], []⟩ = pure () := by kernel_rfl
/-- a text that reads as a number of base 16 -/
def Hex (x : Str) (n : Int) : Prop := (x.cps.toList.takeWhile (· != 0)).length ≤ 640 ∧ (int_private% "readNumeral") 0 16 (x.cps.toList.takeWhile (· != 0)) = (int_private% "Numeral.value") n ∧ ((x.cps.toList.takeWhile (· != 0)).length == x.cps.toList.length) = true ∧ x.cps.all (· < 128) = true
theorem hex_FF : Hex (Str.ofString "FF") 255 := by unfold Hex; refine ⟨by decide, ?_, by decide, by decide +kernel⟩; kernel_rfl
theorem hex_A0 : Hex (Str.ofString "A0") 160 := by unfold Hex; refine ⟨by decide, ?_, by decide, by decide +kernel⟩; kernel_rfl
def NoHex (x : Str) : Prop := (x.cps.toList.takeWhile (· != 0)).length ≤ 640 ∧ (int_private% "readNumeral") 0 16 (x.cps.toList.takeWhile (· != 0)) = (int_private% "Numeral.invalid") ∧ x.cps.all (· < 128) = true
theorem nohex_none : NoHex (Str.ofString "none") := by unfold NoHex; refine ⟨by decide, ?_, by decide +kernel⟩; kernel_rfl
theorem nohex_12x : NoHex (Str.ofString "12x") := by unfold NoHex; refine ⟨by decide, ?_, by decide +kernel⟩; kernel_rfl
theorem nohex_G : NoHex (Str.ofString "G") := by unfold NoHex; refine ⟨by decide, ?_, by decide +kernel⟩; kernel_rfl
theorem wp_text16 {M : Model} {A : Around} {E : Value → Shared → Prop} {s : Shared} {Q : Value → Shared → Prop} {v : Value} {text : List Nat} {n : Int}
    (hs : (text.takeWhile (· != 0)).length ≤ 640) (hr : (int_private% "readNumeral") 0 16 (text.takeWhile (· != 0)) = (int_private% "Numeral.value") n)
    (ha : ((text.takeWhile (· != 0)).length == text.length) = true) (h : Q (.int n s.toks) { s with toks := s.toks + 1 }) :
    wpAny M A ((int_private% "intFromText") v text 16) Q E s := by
  obtain ⟨hp, g, d, tk, os⟩ := s
  repeat (any_goals (first
    | assumption
    | (with_reducible refine wpAny_ite_true (decide_eq_true hs) ?_)
    | (with_reducible refine wpAny_ite_true (decide_eq_true ha) ?_)
    | wp_step))
  all_goals (try rw [hr])
  all_goals (try dsimp only)
  repeat (any_goals (first
    | assumption
    | (with_reducible refine wpAny_ite_true (decide_eq_true hs) ?_)
    | (with_reducible refine wpAny_ite_true (decide_eq_true ha) ?_)
    | wp_step))
structure Hid (p : Prop) : Prop where
  out : p
theorem gives_hex {x : Str} {u t : Tok} {n : Int} (hn : Hex x n) : Gives (Builtin.«int.__new__» ⟨[.type "int", .str x u, .int 16 t], []⟩) (.int n) :=
  .of_wp fun M A E s Q h => by
    obtain ⟨hp, g, d, tk, os⟩ := s
    have f1 := F.conv_sub_int
    have f2 := F.madeHere_int
    have f6 : typeOf (.str x u) = pure (.type "str") := rfl
    have hk := Hid.mk hn
    clear hn
    repeat (any_goals (first
      | assumption
      | ((with_reducible show wpAny _ _ ((int_private% "intFromText") _ _ _) _ _ _); rw [if_pos hk.out.2.2.2]; refine wp_text16 hk.out.1 hk.out.2.1 hk.out.2.2.1 ?_)
      | wp_step))
    exact ⟨_, rfl, h⟩
theorem args_oi3 (a b c : Value) : argsOk "object.__init__" ⟨[a, b, c], []⟩ := by unfold argsOk; kernel_rfl
/-- int(text, 16) that reads -/
theorem callHex {prog : Program} {w : World} {A : Around} {E : Value → Shared → Prop} {s : Shared} {x : Str} {u t : Tok} {n : Int} {Q : Value → Shared → Prop} (hn : Hex x n) (h : ∀ t tk, Q (.int n t) { s with toks := tk }) :
    wpAny (model prog w) A (call (.type "int") [.str x u, .int 16 t]) Q E s :=
  callType_new F.called_int F.newNe_int (typeCall_int_2 _ _) (newCall_int_2 _ _) (fun obj => args_oi3 obj _ _) F.entry_int_new (gives_hex hn).meets (show (Made.int n).post _ s from ⟨rfl, h _ _⟩)
/-- where the caller stands below, a refusal leaves no note -/
theorem markC {M : Model} {A : Around} {E : Value → Shared → Prop} {s : Shared} {own : List String} {e : Value} {Q : Unit → Shared → Prop} (h : Q () s) : wpC M A (markTheRefusal own e) Q E s := fun Γ p _ cal => by
  have h0 : pythonCodeMadeTheCall own (((Γ.code, p) :: Γ.below).map (·.1)) = false := by
    have h1 : (((Γ.code, p) :: Γ.below).map (·.1)).any Code.isCaller = true := by rw [List.map_cons, List.any_cons, cal, Bool.or_true]
    unfold pythonCodeMadeTheCall
    rw [Bool.and_eq_false_iff]
    left
    rw [Bool.and_eq_false_iff]
    left
    rw [Bool.not_eq_false']
    exact h1
  unfold markTheRefusal
  rw [Sem.wp_bind']
  unfold stack
  rw [Sem.wp_stack]
  show Sem.wp M Γ (if pythonCodeMadeTheCall own (((Γ.code, p) :: Γ.below).map (·.1)) = true then _ else _) _ _ p s
  rw [if_neg (by rw [h0]; exact Bool.false_ne_true)]
  exact h
theorem msg_fits {a : String} {r : Str} (ha : (Str.ofString a).cps.size ≤ 100) : (Str.ofString a ++ (⟨r.cps.extract 0 200⟩ : Str)).length ≤ 1000 := by
  show ((Str.ofString a).cps ++ r.cps.extract 0 200).size ≤ 1000
  rw [Array.size_append, Array.size_extract]; omega
theorem wpC_ite_true {α : Type} {M : Model} {A : Around} {E : Value → Shared → Prop} {s : Shared} {Q : α → Shared → Prop} {c : Prop} [Decidable c] {a b : Sem α} (hc : c) (h : wpC M A a Q E s) : wpC M A (if c then a else b) Q E s := by rw [if_pos hc]; exact h
/-- an exception just made -/
def ExcO (h : Heap) (e : Addr) : Prop := ∃ oe vs a0, h.get? e = some oe ∧ oe.cls = .type "ValueError" ∧ oe.data = .fields vs ∧ vs[0]? = some a0 ∧ vs[1]? = some .none
theorem textRefused {prog : Program} {w : World} {A : Around} {E : Value → Shared → Prop} {s : Shared} {x : Str} {u : Tok} {Q : Value → Shared → Prop} (hn : NoHex x) (hh : A.handled = none) (hx : (reprText x).length ≤ 500)
    (hE : ∀ h' e tk, Keep s.heap h' → s.heap.get? e = none → ExcO h' e → E (.ref e) { s with heap := h', toks := tk }) :
    wpC (model prog w) A ((int_private% "intFromText") (.str x u) x.cps.toList 16) Q E s := by
  obtain ⟨h1, h2, h3⟩ := hn
  refine wpC_ite_true h1 ?_
  refine wpC_lead (wpAny_pure ?_)
  dsimp only
  rw [h2]
  dsimp only
  refine wpC_lead (wpAny_of_eq (a := none) rfl ?_)
  rw [if_neg (by simp)]
  refine wpC_lead (wpAny_rule ?_)
  refine wpC_lead (wpAny_of_eq (a := none) rfl ?_)
  dsimp only
  refine wpC_lead (wpAny_pyRepr_str ?_ (by rw [sizeLine_eq]; omega))
  refine wpC_lead (wpAny_mkStr ?_ (by rw [sizeLine_eq]; exact Nat.le_trans (msg_fits (by decide +kernel)) (by decide)))
  refine wpC_lead (wpAny_newExc_plain (cls := "ValueError") ?pl (fun h' e M => ?_) (by rw [sizeLine_eq]; simp))
  case pl => exact plainExc_ValueError
  refine wpC_bind (markC ?_)
  refine wpC.of ?_
  simp only [raiseNew]
  refine wpAny_bind (wpAny_handled ?_)
  rw [hh]
  refine wpAny_throw ?_
  obtain ⟨k, n, a, ho, _⟩ := M
  exact hE h' e _ k n ⟨_, _, _, ho, rfl, rfl, rfl, rfl⟩
theorem wpC_ite_false {α : Type} {M : Model} {A : Around} {E : Value → Shared → Prop} {s : Shared} {Q : α → Shared → Prop} {c : Prop} [Decidable c] {a b : Sem α} (hc : ¬ c) (h : wpC M A b Q E s) : wpC M A (if c then a else b) Q E s := by rw [if_neg hc]; exact h
theorem newRefused {prog : Program} {w : World} {A : Around} {E : Value → Shared → Prop} {s : Shared} {x : Str} {u t : Tok} {Q : Fin → Shared → Prop} (hn : NoHex x) (hh : A.handled = none) (hx : (reprText x).length ≤ 500)
    (hE : ∀ h' e tk, Keep s.heap h' → s.heap.get? e = none → ExcO h' e → E (.ref e) { s with heap := h', toks := tk }) :
    wpC (model prog w) A (Builtin.«int.__new__» ⟨[.type "int", .str x u, .int 16 t], []⟩) Q E s := by
  have f1 := F.conv_sub_int
  have f2 := F.madeHere_int
  unfold Builtin.«int.__new__»
  dsimp only
  refine wpC_lead (wpAny_of_eq (a := true) (by rfl) ?_)
  refine wpC_ite_false (by decide) ?_
  refine wpC_lead (wpAny_of_eq f1 ?_)
  refine wpC_ite_false (by decide) ?_
  refine wpC_lead (wpAny_of_eq f2 ?_)
  refine wpC_ite_false (by simp) ?_
  refine wpC_ite_false (by simp) ?_
  refine wpC_lead (wpAny_of_eq (a := PUnit.unit) rfl ?_)
  refine wpC_lead (wpAny_of_eq (a := 16) rfl ?_)
  refine wpC_ite_false (by decide) ?_
  refine wpC_lead (wpAny_of_eq (a := some x.cps.toList) (by
    show (pure (some (if x.cps.all (· < 128) = true then x.cps.toList else Unicode.numberText x.cps.toList)) : Sem (Option (List Nat))) = _
    rw [if_pos hn.2.2]) ?_)
  dsimp only
  exact wpC_bind (textRefused hn hh hx hE)
section
variable {prog : Program} {w : World} {A : Around} {E : Value → Shared → Prop} {s : Shared} {R : Result → Shared → Prop}
theorem codeC_builtin {id : String} {args : Args} {b : Builtin} (hb : entryFor table id = some b)
    (h : wpC (model prog w) (A.under (.builtin id args)) (b args)
      (fun fin s' => match fin with | .done f => R (.ok f) s' | .again c' => c'.quiet = true ∧ codeC (model prog w) A c' R s') (fun e s' => R (.error e) s') s) : codeC (model prog w) A (.builtin id args) R s := by
  refine codeC_of_tree ?_
  show wpC _ _ (match entryFor table id with | some b => b args | none => unsupported ((withoutEnding? id "#data").getD id)) _ _ s
  rw [hb]; exact h
theorem callRefused {x : Str} {u t : Tok} {Q : Value → Shared → Prop} (hn : NoHex x) (hh : A.handled = none) (hx : (reprText x).length ≤ 500)
    (hE : ∀ h' e tk, Keep s.heap h' → s.heap.get? e = none → ExcO h' e → E (.ref e) { s with heap := h', toks := tk }) :
    wpC (model prog w) A (call (.type "int") [.str x u, .int 16 t]) Q E s := by
  obtain ⟨c, tl, hmro⟩ := F.called_int.mro
  refine wpC_call (codeC_of_tree ?_)
  show wpC _ _ (callAny (.type "int") _) _ _ _
  refine wpC_pure ⟨Code.quiet_builtin _ (by decide +kernel), codeC_builtin F.entry_type_call ?_⟩
  rw [Around.under_plain (weight_type_call_type "int" [.str x u, .int 16 t] []) rfl]
  unfold Builtin.«type.__call__»
  dsimp only
  refine wpC_ite_false (by decide) ?_
  refine wpC_ite_false (by rw [F.called_int.canCreate]; decide) ?_
  refine wpC_lead (wpAny_of_eq (typeCall_int_2 _ _) ?_)
  refine wpC_lead (wpAny_of_eq hmro ?_)
  refine wpC_ite_false (by simp) ?_
  refine wpC_lead (wpAny_of_eq F.called_int.made ?_)
  dsimp only
  refine wpC_lead (wpAny_pure ?_)
  refine wpC_bind (wpC_holding (wpC_call (codeC_call_builtin F.called_int.plain F.entry_int_new (wpAny_of_eq (newCall_int_2 _ _) ?_))))
  exact newRefused hn hh hx hE
end
section
variable {prog : Program} {w : World} {A : Around} {E : Value → Shared → Prop} {s : Shared} {env : Env}
theorem execsC_cons {st rest} {Q : Flow → Shared → Prop}
    (h : wpC (model prog w) A (exec st env) (fun f s' => match f with | .next => wpC (model prog w) A (execs rest env) Q E s' | f => Q f s') E s) :
    wpC (model prog w) A (execs (st :: rest) env) Q E s := by
  rw [execs_cons]
  refine wpC_bind (wpC_mono h (fun f s' h' => ?_) fun _ _ x => x)
  cases f <;> first | exact h' | exact wpC_pure h'
theorem execsC_nil {Q : Flow → Shared → Prop} (h : Q .next s) : wpC (model prog w) A (execs [] env) Q E s := wpC.of (wpAny_execs_nil h)
theorem exprC {e pos} {Q : Flow → Shared → Prop} (h : wpC (model prog w) A (eval e env) (fun _ => Q .next) E s)
    (hi : interactive env = false := by rfl) (hs : swapsWith e none pos.line env = pure false := by rfl) : wpC (model prog w) A (exec (.Expr e pos) env) Q E s := by
  rw [exec_Expr env e pos hi hs]
  exact wpC_lead (wpAny_standAt (wpC_bind (wpC_mono h (fun v s' h' => wpC.of (wpAny_dropValue h')) fun _ _ x => x)))
theorem callC {func : Expr} {args : List Expr} {pos : Pos} {Q : Value → Shared → Prop}
    (h : wpAny (model prog w) A (eval func env) (fun f s₁ => wpC (model prog w) A (callWith pos f [] (backTo pos (starEach args env)) []) Q E s₁) E s)
    (he : eval (.Call func args [] pos) env = (do callWith pos (← eval func env) [] (backTo pos (starEach args env)) (backToKw pos (keywordEach [] env))) := by rfl) :
    wpC (model prog w) A (eval (.Call func args [] pos) env) Q E s := by
  rw [he]; exact wpC_lead h
theorem callWithC_type {pos : Pos} {T : String} {e : Expr} {rest : List Expr} {Q : Value → Shared → Prop}
    (h : wpAny (model prog w) A (spliced (backTo pos (starEach (e :: rest) env))) (fun vs s₁ => wpC (model prog w) A (call (.type T) vs) Q E s₁) E s)
    (he : starEach (e :: rest) env = (false, eval e env) :: starEach rest env := by rfl)
    (hplain : (backTo pos (starEach rest env)).any (·.1) = false := by rfl) :
    wpC (model prog w) A (callWith pos (.type T) [] (backTo pos (starEach (e :: rest) env)) []) Q E s := by
  rw [he] at h ⊢
  unfold callWith
  have h2 : wpAny (model prog w) A (evalArgs (.type T) true (backTo pos ((false, eval e env) :: starEach rest env)) []) (fun a s₁ => wpC (model prog w) A (call (.type T) ([] ++ a.pos) a.kw) Q E s₁) E s :=
    Calls.evalArgs_plain (f := .type T) (x := eval e env) (rest := backTo pos (starEach rest env)) h
  refine wpC_bind (wpC_holding (wpC.of (wpAny_mono h2 (fun a s₁ h₁ => wpC_lead (wpAny_standAt ?_)) fun _ _ x => x)))
  have hp : (backTo pos ((false, eval e env) :: starEach rest env)).any (·.1) = false := by show (false || (backTo pos (starEach rest env)).any (·.1)) = false; rw [hplain]; rfl
  simp only [hp, List.any_nil, Bool.or_false]
  refine wpC_lead (wpAny_pure ?_)
  exact wpC_bind (wpC_mono h₁ (fun r s₂ hr => wpC_lead (wpAny_holding (wpAny_point (wpC_pure hr)))) fun _ _ x => x)
theorem tryC {body : List Stmt} {h₀ : ExceptHandler} {hs : List ExceptHandler} {pos : Pos} {Q : Flow → Shared → Prop}
    (h : wpC (model prog w) A (execs body env) (fun f s₁ => Q f s₁)
      (fun e s₁ => wpAny (model prog w) A (noteFrame e env) (fun _ s₂ => wpAny (model prog w) A (setFlight e none) (fun _ s₃ => wpAny (model prog w) A (handleBy e env (h₀ :: hs)) Q E s₃) E s₂) E s₁) s) :
    wpC (model prog w) A (exec (.Try body (h₀ :: hs) [] [] pos) env) Q E s := by
  rw [arm_exec_Try]
  refine wpC_lead (wpAny_standAt ?_)
  unfold tryStmt
  simp only [List.isEmpty_nil, if_true, List.isEmpty_cons, Bool.false_and, Bool.false_eq_true, if_false]
  refine wpC_bind (wpC_attempt (wpC_mono h (fun f s₁ h₁ => ?_) fun e s₁ h₁ => ?_))
  · cases f <;> first | exact wpC_pure h₁ | exact execsC_nil h₁
  · exact wpC.of (wpAny_bind (wpAny_mono h₁ (fun _ _ h₂ => wpAny_bind h₂) fun _ _ x => x))
end
theorem sub_VE_base : isSubtype (.type "ValueError") (.type "BaseException") = pure true := by rw [isSubtype_type]; kernel_rfl
theorem sub_VE_VE : isSubtype (.type "ValueError") (.type "ValueError") = pure true := by rw [isSubtype_type]; kernel_rfl
theorem meta_VE : isSubtype (.type ((Manifest.find? "ValueError").elim "type" fun x => x.metatype)) (.type "tuple") = pure false := by
  rw [show (Manifest.find? "ValueError").elim "type" (fun x => x.metatype) = "type" from by decide +kernel, isSubtype_type]; kernel_rfl
section
variable {prog : Program} {w : World} {A : Around} {E : Value → Shared → Prop} {s : Shared} {env : Env}
/-- a ValueError just raised, caught by the clause that goes on -/
theorem catchC {h₀ : Heap} {outer : List Env} {fr : List Addr} (efr : (env :: outer).filterMap (·.frame) = fr) {L e : Addr} {t : Expr} {pos cp : Pos} {Q : Flow → Shared → Prop} (hfr : A.frames = some (env :: outer)) (hf : env.frame = some L)
    (hl : h₀.FunFrames h₀ [] ∧ ∀ base : Heap, (∀ e' ∈ env :: outer, ∀ a, e'.frame = some a → base.get? a = none) → h₀.FunFrames base (env :: outer)) (k : Keep h₀ s.heap) (ne : h₀.get? e = none) (hx : ExcO s.heap e)
    (ht : ∀ A' E' s' (Q' : Value → Shared → Prop), (hideAll h₀ fr).StaysIn s'.heap → Q' (.type "ValueError") s' → wpAny (model prog w) A' (eval t env) Q' E' s')
    (hQ : ∀ h', (hideAll h₀ fr).StaysIn h' → h₀.UpToSlots h' → Q .cont { s with heap := h' }) :
    wpAny (model prog w) A (noteFrame (.ref e) env) (fun _ s₂ => wpAny (model prog w) A (setFlight (.ref e) none) (fun _ s₃ => wpAny (model prog w) A (handleBy (.ref e) env [.ExceptHandler (some t) none [.Continue cp] pos]) Q E s₃) E s₂) E s := by
  subst efr
  obtain ⟨oe, vs, a0, he, hcls, hd, h0, h1⟩ := hx
  have hsz : 1 < vs.size := (Array.getElem?_eq_some_iff.mp h1).1
  generalize hB : hideAll h₀ ((env :: outer).filterMap (·.frame)) = B at ht hQ
  have hBn : ∀ e' ∈ env :: outer, ∀ a, e'.frame = some a → B.get? a = none := fun e' he' a ha => by
    rw [← hB]; exact hideAll_none _ (List.mem_filterMap.mpr ⟨e', he', ha⟩)
  have kB : Keep B h₀ := fun b o q => by rw [← hB] at q; exact of_hideAll _ q
  have nB : B.get? e = none := by
    cases q : B.get? e with
    | none => rfl
    | some o => rw [kB _ _ q] at ne; cases ne
  have fl : s.heap.FunFrames B (env :: outer) := (hl.2 B hBn).of_keeps fun b o q _ => ⟨o, k b o q, rfl⟩
  have sB : B.StaysIn s.heap := fun b o q => k _ _ (kB _ _ q)
  unfold noteFrame
  simp only [hf]
  refine wpAny_bind (wpAny_field he hd h1 ?_)
  rw [if_neg (by decide)]
  refine wpAny_entryW hfr fl hf he sB nB hd hsz h0 fun h1' ⟨b1, b2, b3, b4⟩ => ?_
  refine wpAny_setFlight_noneW b1 b2 b3 fun h2' c1 c2 c3 c4 => ?_
  have ty : h2'.get? e = none → False := fun q => by
    obtain ⟨_, _, _, _, _, q', _⟩ := c3
    rw [q] at q'; cases q'
  refine wpAny_handleBy_builtin (X := "ValueError") (T := "ValueError") (b := true) sub_VE_base meta_VE sub_VE_VE (ht _ _ _ _ c1 ⟨rfl, ?_, ?_⟩)
  · obtain ⟨oe', _, _, _, _, q', ⟨q2, _⟩, _⟩ := c3
    exact ⟨oe', q', q2.trans hcls⟩
  · rw [if_pos rfl]
    refine wpAny_setFlight_noneW c1 c2 c3 fun h3' d1 d2 d3 d4 => ?_
    refine wpAny_execs_cons ?_
    rw [arm_exec_Continue]
    refine wpAny_bind (wpAny_standAt (wpAny_pure ?_))
    refine hQ h3' d1 fun b o q nf => ?_
    obtain ⟨sl, e1⟩ := b4 b o (k _ _ q) nf
    exact ⟨sl, d4 _ _ (c4 _ _ e1 nf) nf⟩
end
theorem frames2 {e0 e1 : Env} {a b : Addr} (h0 : e0.frame = some a) (h1 : e1.frame = some b) : [e0, e1].filterMap (·.frame) = [a, b] := by simp [h0, h1]
/-- an object as o0, but for its slots -/
def SlO (o0 : Obj) (o : Obj) : Prop := ∃ sl, o = { o0 with slots := sl }
theorem mutSl {o0 : Obj} (h : ∃ es n, o0.data = .dict es n) : Mut (SlO o0) := by
  obtain ⟨es, n, e⟩ := h
  rintro o ⟨sl, rfl⟩ ⟨_, q⟩
  exact q _ _ e
/-- an exception caught leaves the frame, and what it may change, as they were but for the slots of the frames below -/
theorem Fm.caught {g h h' : Heap} {L L0 : Addr} {m : Str → Option Value} {l : List (Addr × (Obj → Prop))} {o0 : Obj} (F : Fm g L m ((L0, SlO o0) :: l) h) (hd0 : ∃ es n, o0.data = .dict es n) (k : Keep (hideAll h [L, L0]) h') (u : h.UpToSlots h') : Fm g L m ((L0, SlO o0) :: l) h' := by
  have W := F.own _ (.head _)
  have ou : ∀ b o, b ≠ L → b ≠ L0 → h.get? b = some o → h'.get? b = some o := fun b o n1 n2 e => k _ _ (hideAll_get _ e (by simp [n1, n2]))
  have nd := F.nd
  rw [List.map_cons] at nd
  refine ⟨u.ns F.ns, fun b o e => ou b o (fun q => ?_) (fun q => ?_) (F.keep _ _ e), F.gL, fun p hp => ?_, F.nd⟩
  · subst q; rw [F.gL] at e; cases e
  · subst q; rw [W.2.1] at e; cases e
  · rcases List.mem_cons.mp hp with rfl | hp
    · obtain ⟨o, e, sl, rfl⟩ := W.1
      obtain ⟨es, n, d⟩ := hd0
      obtain ⟨sl', e'⟩ := u _ _ e (fun vs q => by rw [show ({ o0 with slots := sl } : Obj).data = o0.data from rfl, d] at q; cases q)
      exact ⟨⟨_, e', sl', rfl⟩, W.2⟩
    · have V := F.own p (.tail _ hp)
      obtain ⟨o, e, q⟩ := V.1
      refine ⟨⟨o, ou _ _ V.2.2 (fun z => ?_) e, q⟩, V.2⟩
      exact (List.nodup_cons.mp nd).1 (z ▸ List.mem_map_of_mem (f := (·.1)) hp)
/-- a fresh generator's run that may leave the frame of env0 with other slots -/
def FreshSegK (prog : Program) (w : World) (P : Heap → Prop) (env0 : Env) (L0 : Addr) (o0 : Obj) (L : Addr) (m₀ : Str → Option Value) (cod : Code) (outs : List Value) : Prop :=
  ∀ (A0 : Around) (g0 : Heap) (D : Addr → Prop) (s'' : Shared), A0.handled = none → A0.depth + 20 < recursionLimit → A0.frames = some [env0] → GG w g0 → P g0 → GInv g0 D L m₀ [(L0, SlO o0)] s''.heap →
    SegK (model prog w) A0 (RX (fun h => At h L0 (SlO o0)) D) (YX (fun h => At h L0 (SlO o0)) g0 D L (fun n v => outs[outs.length - 1 - n]? = some v)) outs.length s'' cod ((model prog w).den cod) [] s''
section
variable {prog : Program} {w : World} {A : Around} {E : Value → Shared → Prop} {s : Shared} {env : Env} {R : GenEnd} {Y : Protocol} {n : Nat} {s₀ : Shared} {fs : List Frame}
theorem segK_func {body : List Stmt}
    (h : SegK (model prog w) A R Y n s₀ (.func body env) ((execs body env).wrap (fun f => .pure (.done (.ret (match f with | .ret v => v | _ => .none))))
      (fun e => (leaving env e).wrap (fun _ => .raise e) .raise id id) id id) fs s) :
    SegK (model prog w) A R Y n s₀ (.func body env) ((model prog w).den (.func body env)) fs s := by
  show SegK _ A R Y n s₀ _ (.point [] fun _ => ((execs body env).onRaise (leaving env)) >>= _) fs s
  refine segK_point ?_
  rw [Sem.onRaise_eq_wrap, Sem.bind_eq_wrap', Sem.wrap_wrap]
  rw [Sem.wrap_congr (execs body env) _ _ (K' := fun f => .pure (.done (.ret (match f with | .ret v => v | _ => .none))))
    (H' := fun e => (leaving env e).wrap (fun _ => .raise e) .raise id id) (fun f => by cases f <;> rfl)
    (fun e => by rw [Sem.bind_eq_wrap, Sem.wrap_wrap]; rfl)]
  exact h
end
section
local macro_rules | `(tactic| walk_at "GG") => `(tactic| first | assumption | exact GG.keep (by assumption) (Fm.keep (by assumption)))
local macro_rules | `(tactic| walk_at "AT") => `(tactic| first | assumption | exact Fm.at_ (by assumption) (by k_mem) | exact At.keep (by assumption) (Fm.keep (by assumption)))
local macro_rules | `(tactic| walk_at "CHG") => `(tactic| repeat (first | exact Chg.head | apply Chg.tail))
local macro_rules | `(tactic| walk_at "LIST") => `(tactic| first | exact isList_keep (by assumption) (Fm.keep (by assumption)) | exact isList_of (Fm.at_ (by assumption) (by k_mem)) | exact isList_of (by walk_at "AT"))
local macro_rules | `(tactic| walk_at "NUM") => `(tactic| first | decide | omega | (simp only [List.length_cons, List.length_nil]; omega))
local macro_rules | `(tactic| walk_at "eval Name") => `(tactic| first
  | (refine lv (by assumption) (by first | rfl | assumption) ?_)
  | (k_dflt (refine' gv ?G ?e ?_; (case G => walk_at "GG"); (case e => k_is); k_whole))
  | (k_dflt (refine' bv ?G ?e ?v ?_; (case G => walk_at "GG"); (case e => k_is); (case v => boot_by_name); k_whole)))
local macro_rules | `(tactic| walk_at "loadName") => `(tactic| (refine lvN (by assumption) (by first | rfl | assumption) ?_))
local macro_rules | `(tactic| walk_at "eval Constant int") => `(tactic| (with_reducible refine ci ?_; intro t' tk'))
local macro_rules | `(tactic| walk_at "eval Constant str") => `(tactic| (with_reducible refine cs ?_; intro t' tk'))
local macro_rules | `(tactic| walk_at "storeName") => `(tactic| (refine svT (by assumption) ?_; intro h' tk' F'))
local macro_rules | `(tactic| walk_at "binaryOp Add int int") => `(tactic| (with_reducible refine addI ?_; intro t' tk'))
local macro_rules | `(tactic| walk_at "inplaceOp Add int int") => `(tactic| (with_reducible refine iaddI ?_; intro t' tk'))
local macro_rules | `(tactic| walk_at "binaryOp Mod int int") => `(tactic| (refine modI (by omega) ?_; intro r' t' tk' hr1 hr2))
local macro_rules | `(tactic| walk_at "binaryOp FloorDiv int int") => `(tactic| (refine fdivI (by omega) (by omega) (by omega) (by omega) ?_; intro r' t' tk' hr1 hr2))
local macro_rules | `(tactic| walk_at "PART") => `(tactic| first | exact IsPart.none | exact IsPart.int _ _)
local macro_rules | `(tactic| walk_at "PICK") => `(tactic| first | exact pick_upto (by omega) | exact pick_run (by omega))
local macro_rules | `(tactic| walk_at "subscriptTail") => `(tactic| (k_dflt (first
  | ((with_reducible show wpAny _ _ (subscriptTail _ _ (Value.ref _) (Value.ref _)) _ _ _); refine' sliceL ?F ?x ?pl ?pu ?z ?e ?_; (case F => assumption); (case x => k_mem); (case pl => walk_at "PART"); (case pu => walk_at "PART"); (case z => walk_at "SZ"); (case e => walk_at "PICK"); k_whole; intro b' h' kp' F')
  | (refine' subL ?x ?a ?b ?c ?_; (case x => walk_at "AT"); (case a => walk_at "NUM"); (case b => walk_at "NUM"); (case c => first | rfl | assumption); k_whole)
  | (refine' sub2 ?x ?a ?_ ?_; (case x => walk_at "AT"); (case a => omega))
  | (refine' subM ?x ?T ?a ?b ?c ?_; (case x => walk_at "AT"); (case T => assumption); (case a => walk_at "NUM"); (case b => walk_at "NUM"); (case c => omega); k_whole; intro b' hR'))))
local macro_rules | `(tactic| walk_at "subscriptTail Subscript") => `(tactic| (k_dflt (refine' subScr ?x ?i ?a ?b ?c ?_; (case x => walk_at "LIST"); (case i => assumption); (case a => omega); (case b => omega); (case c => omega); k_whole); intro j' t'))
local macro_rules | `(tactic| walk_at "setItem") => `(tactic| (k_dflt (refine' setF ?F ?x ?a ?b ?c ?_; (case F => assumption); (case x => walk_at "CHG"); (case a => walk_at "NUM"); (case b => walk_at "NUM"); (case c => walk_at "NUM"); k_whole); intro h' F'; (try simp only [List.set_cons_zero, List.set_cons_succ, Int.reduceToNat] at F')))
local macro_rules | `(tactic| walk_at "call builtin:len") => `(tactic| (k_dflt (refine' lenI ?x ?a ?_; (case x => walk_at "LIST"); (case a => omega); k_whole); intro t' tk'))
local macro_rules | `(tactic| walk_at "SZ") => `(tactic| first | (rw [sizeLine_eq]; (try simp only [List.length_append, List.length_cons, List.length_nil, List.length_take]); omega) | size_fits)
local macro_rules | `(tactic| walk_at "callWith ref") => `(tactic| (k_dflt (refine' callG ?k1 ?k2 ?_; (case k1 => k_is); (case k2 => exact rfl))))
local macro_rules | `(tactic| walk_at "newList") => `(tactic| (refine newL (by assumption) (by walk_at "SZ") ?_; intro a' h' kp' F'))
local macro_rules | `(tactic| walk_at "newTuple") => `(tactic| (refine newT (by assumption) (by walk_at "SZ") ?_; intro a' h' kp' hat' F'))
local macro_rules | `(tactic| walk_at "eval Slice") => `(tactic| refine sliceF ?_)
local macro_rules | `(tactic| walk_at "Exists") => `(tactic| (refine ⟨_, _, _, _, by assumption, ?_⟩; intro a' h' kp' F'))
local macro_rules | `(tactic| walk_at "getMethod ref") => `(tactic| (k_dflt (first | refine methApp (by walk_at "AT") ?_ | refine methClr (by walk_at "AT") ?_)))
local macro_rules | `(tactic| walk_at "call builtin:list.append") => `(tactic| (k_dflt (refine' appL ?F ?c ?z ?_; (case F => assumption); (case c => walk_at "CHG"); (case z => walk_at "SZ"); k_whole); intro h' F'))
local macro_rules | `(tactic| walk_at "call builtin:list.clear") => `(tactic| (k_dflt (refine' clrL ?F ?c ?z ?_; (case F => assumption); (case c => walk_at "CHG"); (case z => walk_at "SZ"); k_whole); intro h' F'))
local macro_rules | `(tactic| walk_at "call type:range") => `(tactic| (refine range1 (by assumption) ?_; intro a' h' tk' kp' F'))
local macro_rules | `(tactic| walk_at "pyIter ref") => `(tactic| (k_dflt (refine' iterR ?F ?a ?b ?_; (case F => assumption); (case a => omega); (case b => omega); k_whole); intro it' h' kp' F'))
local macro_rules | `(tactic| walk_at "binaryOp Add ref ref") => `(tactic| (k_dflt (refine' addL ?F ?x ?y ?z ?_; (case F => assumption); (case x => walk_at "AT"); (case y => walk_at "AT"); (case z => walk_at "SZ"); k_whole); intro a' h' kp' F'))
local macro_rules | `(tactic| walk_at "exec For") => `(tactic| refine wpAny_For ?_)
local macro_rules | `(tactic| walk_at "DEPTH") => `(tactic| first | omega | ((try simp only [depth_deeper, depth_in1]); omega))
local macro_rules | `(tactic| walk_at "MUT") => `(tactic| repeat (first | exact Muts.nil | refine Muts.cons (by first | exact mutL | exact mutI | exact mutRI | exact mutR | exact mutS | exact mutCO) ?_))
local macro_rules | `(tactic| walk_at "CALL") => `(tactic| fail)
local macro_rules | `(tactic| walk_at "codeAny call") => `(tactic| walk_at "CALL")
local macro_rules | `(tactic| walk_at "FITS") => `(tactic| repeat (first | exact Fits.nil | exact Pull.head | apply Fits.cons | apply Pull.tail))
local macro_rules | `(tactic| walk_at "truthy ref") => `(tactic| (k_dflt (refine' truthyL ?x ?z ?_; (case x => walk_at "AT"); (case z => walk_at "SZ"); k_whole); intro tk'))
local macro_rules | `(tactic| walk_at "SETS") => `(tactic| first | exact setX (by walk_at "GG") | exact setI (by walk_at "GG") | exact setV (by walk_at "GG"))
local macro_rules | `(tactic| walk_at "compareOp In int ref") => `(tactic| (k_dflt (refine' inSet ?S ?_; (case S => walk_at "SETS"); k_whole); intro tk'))
local macro_rules | `(tactic| walk_at "compareOp NotIn int ref") => `(tactic| (k_dflt (refine' notInSet ?S ?_; (case S => walk_at "SETS"); k_whole); intro tk'))
local macro_rules | `(tactic| walk_at "compareOp In int ref") => `(tactic| (k_dflt (refine' inInts ?x ?I ?_; (case x => walk_at "AT"); (case I => assumption); k_whole)))
local macro_rules | `(tactic| walk_at "compareOp NotIn int ref") => `(tactic| (k_dflt (refine' notInInts ?x ?I ?_; (case x => walk_at "AT"); (case I => assumption); k_whole)))
local macro_rules | `(tactic| walk_at "assign Tuple") => `(tactic| (k_dflt (refine' asgT ?hh ?F ?x ?n ?st ?_; (case hh => assumption); (case F => assumption); (case x => walk_at "AT"); (case n => rfl); (case st => rfl); k_whole); intro h' kp' F'))
local macro_rules | `(tactic| walk_at "unpackItems ref") => `(tactic| (k_dflt (refine' unpI ?hh ?F ?x ?n ?_; (case hh => assumption); (case F => assumption); (case x => walk_at "AT"); (case n => rfl); k_whole); intro h' kp' F'))
local macro_rules | `(tactic| walk_at "pyIter ref") => `(tactic| (k_dflt (refine' iterL ?F ?x ?_; (case F => assumption); (case x => walk_at "AT"); k_whole); intro it' h' kp' F'))
section
variable {prog : Program} {w : World} {A : Around}

theorem take_ok {g h : Heap} {c scr : Addr} {many : Int} {tk : Tok} (G : GG w g) (hs : Scr scr g) (kg : Keep g h) (gc : g.get? c = none) (hc : At h c (CO scr)) (hroom : A.depth < recursionLimit) (h2 : 0 < many) (h3 : many < 100) :
    CallT prog w A 147 [.ref c, .int many tk] h (fun v h' => ∃ d t, v = .int d t ∧ 0 ≤ d ∧ d < many ∧ Heap.ExtBut c h h' ∧ At h' c (CO scr)) := by
  intro s R hh hR
  subst hh
  refine enter (binds := [(Str.ofString "c", .ref c), (Str.ofString "many", .int many tk)]) (G.keep kg) (by k_is) (by k_is) hroom rfl (locs rfl) ?_
  intro L h₁ tk1 hLe hn hk hL
  obtain ⟨o, ho, i, n, t1, t2, hi, hn0, hn1, hl⟩ := hc
  have F := Fm.start (l := [(c, LstO [.ref scr, .int i t1, .int n t2])]) hn hk hL (by simpa using ⟨o, ho, hl⟩) (by simp)
  have kb : Keep g (hideAll s.heap [c]) := fun b o e => hideAll_get _ (kg b o e) (by simpa using fun q => by subst q; rw [gc] at e; cases e)
  have Gb := G.keep kb
  obtain ⟨vs, ns, hsl, hI, hlen⟩ := hs
  have hsb := isList_keep hsl kb
  show wpAny _ _ _ _ _ _
  k_fold
  repeat' (first | walk1 | (dsimp only; walk1))
  all_goals (dsimp only; k_unfold; refine hR _ _ _ ⟨_, _, rfl, by assumption, by assumption, Fm.extBut (by assumption), co_of (Fm.at_ (by assumption) (.head _)) ?_ ?_ ?_⟩ <;> omega)
end
end
section
local macro_rules | `(tactic| walk_at "GG") => `(tactic| first | assumption | exact GG.keep (by assumption) (Fm.keep (by assumption)))
local macro_rules | `(tactic| walk_at "AT") => `(tactic| first | assumption | exact Fm.at_ (by assumption) (by k_mem) | exact At.keep (by assumption) (Fm.keep (by assumption)))
local macro_rules | `(tactic| walk_at "CHG") => `(tactic| repeat (first | exact Chg.head | apply Chg.tail))
local macro_rules | `(tactic| walk_at "LIST") => `(tactic| first | exact isList_keep (by assumption) (Fm.keep (by assumption)) | exact isList_of (Fm.at_ (by assumption) (by k_mem)) | exact isList_of (by walk_at "AT"))
local macro_rules | `(tactic| walk_at "NUM") => `(tactic| first | decide | omega | (simp only [List.length_cons, List.length_nil]; omega))
local macro_rules | `(tactic| walk_at "eval Name") => `(tactic| first
  | (refine lv (by assumption) (by first | rfl | assumption) ?_)
  | (k_dflt (refine' gv ?G ?e ?_; (case G => walk_at "GG"); (case e => k_is); k_whole))
  | (k_dflt (refine' bv ?G ?e ?v ?_; (case G => walk_at "GG"); (case e => k_is); (case v => boot_by_name); k_whole)))
local macro_rules | `(tactic| walk_at "loadName") => `(tactic| (refine lvN (by assumption) (by first | rfl | assumption) ?_))
local macro_rules | `(tactic| walk_at "eval Constant int") => `(tactic| (with_reducible refine ci ?_; intro t' tk'))
local macro_rules | `(tactic| walk_at "eval Constant str") => `(tactic| (with_reducible refine cs ?_; intro t' tk'))
local macro_rules | `(tactic| walk_at "storeName") => `(tactic| (refine svT (by assumption) ?_; intro h' tk' F'))
local macro_rules | `(tactic| walk_at "binaryOp Add int int") => `(tactic| (with_reducible refine addI ?_; intro t' tk'))
local macro_rules | `(tactic| walk_at "inplaceOp Add int int") => `(tactic| (with_reducible refine iaddI ?_; intro t' tk'))
local macro_rules | `(tactic| walk_at "binaryOp Mod int int") => `(tactic| (refine modI (by omega) ?_; intro r' t' tk' hr1 hr2))
local macro_rules | `(tactic| walk_at "binaryOp FloorDiv int int") => `(tactic| (refine fdivI (by omega) (by omega) (by omega) (by omega) ?_; intro r' t' tk' hr1 hr2))
local macro_rules | `(tactic| walk_at "PART") => `(tactic| first | exact IsPart.none | exact IsPart.int _ _)
local macro_rules | `(tactic| walk_at "PICK") => `(tactic| first | exact pick_upto (by omega) | exact pick_run (by omega))
local macro_rules | `(tactic| walk_at "subscriptTail") => `(tactic| (k_dflt (first
  | ((with_reducible show wpAny _ _ (subscriptTail _ _ (Value.ref _) (Value.ref _)) _ _ _); refine' sliceL ?F ?x ?pl ?pu ?z ?e ?_; (case F => assumption); (case x => k_mem); (case pl => walk_at "PART"); (case pu => walk_at "PART"); (case z => walk_at "SZ"); (case e => walk_at "PICK"); k_whole; intro b' h' kp' F')
  | (refine' subL ?x ?a ?b ?c ?_; (case x => walk_at "AT"); (case a => walk_at "NUM"); (case b => walk_at "NUM"); (case c => first | rfl | assumption); k_whole)
  | (refine' sub2 ?x ?a ?_ ?_; (case x => walk_at "AT"); (case a => omega))
  | (refine' subM ?x ?T ?a ?b ?c ?_; (case x => walk_at "AT"); (case T => assumption); (case a => walk_at "NUM"); (case b => walk_at "NUM"); (case c => omega); k_whole; intro b' hR'))))
local macro_rules | `(tactic| walk_at "subscriptTail Subscript") => `(tactic| (k_dflt (refine' subScr ?x ?i ?a ?b ?c ?_; (case x => walk_at "LIST"); (case i => assumption); (case a => omega); (case b => omega); (case c => omega); k_whole); intro j' t'))
local macro_rules | `(tactic| walk_at "setItem") => `(tactic| (k_dflt (refine' setF ?F ?x ?a ?b ?c ?_; (case F => assumption); (case x => walk_at "CHG"); (case a => walk_at "NUM"); (case b => walk_at "NUM"); (case c => walk_at "NUM"); k_whole); intro h' F'; (try simp only [List.set_cons_zero, List.set_cons_succ, Int.reduceToNat] at F')))
local macro_rules | `(tactic| walk_at "call builtin:len") => `(tactic| (k_dflt (refine' lenI ?x ?a ?_; (case x => walk_at "LIST"); (case a => omega); k_whole); intro t' tk'))
local macro_rules | `(tactic| walk_at "SZ") => `(tactic| first | (rw [sizeLine_eq]; (try simp only [List.length_append, List.length_cons, List.length_nil, List.length_take]); omega) | size_fits)
local macro_rules | `(tactic| walk_at "callWith ref") => `(tactic| (k_dflt (refine' callG ?k1 ?k2 ?_; (case k1 => k_is); (case k2 => exact rfl))))
local macro_rules | `(tactic| walk_at "newList") => `(tactic| (refine newL (by assumption) (by walk_at "SZ") ?_; intro a' h' kp' F'))
local macro_rules | `(tactic| walk_at "newTuple") => `(tactic| (refine newT (by assumption) (by walk_at "SZ") ?_; intro a' h' kp' hat' F'))
local macro_rules | `(tactic| walk_at "eval Slice") => `(tactic| refine sliceF ?_)
local macro_rules | `(tactic| walk_at "Exists") => `(tactic| (refine ⟨_, _, _, _, by assumption, ?_⟩; intro a' h' kp' F'))
local macro_rules | `(tactic| walk_at "getMethod ref") => `(tactic| (k_dflt (first | refine methApp (by walk_at "AT") ?_ | refine methClr (by walk_at "AT") ?_)))
local macro_rules | `(tactic| walk_at "call builtin:list.append") => `(tactic| (k_dflt (refine' appL ?F ?c ?z ?_; (case F => assumption); (case c => walk_at "CHG"); (case z => walk_at "SZ"); k_whole); intro h' F'))
local macro_rules | `(tactic| walk_at "call builtin:list.clear") => `(tactic| (k_dflt (refine' clrL ?F ?c ?z ?_; (case F => assumption); (case c => walk_at "CHG"); (case z => walk_at "SZ"); k_whole); intro h' F'))
local macro_rules | `(tactic| walk_at "call type:range") => `(tactic| (refine range1 (by assumption) ?_; intro a' h' tk' kp' F'))
local macro_rules | `(tactic| walk_at "pyIter ref") => `(tactic| (k_dflt (refine' iterR ?F ?a ?b ?_; (case F => assumption); (case a => omega); (case b => omega); k_whole); intro it' h' kp' F'))
local macro_rules | `(tactic| walk_at "binaryOp Add ref ref") => `(tactic| (k_dflt (refine' addL ?F ?x ?y ?z ?_; (case F => assumption); (case x => walk_at "AT"); (case y => walk_at "AT"); (case z => walk_at "SZ"); k_whole); intro a' h' kp' F'))
local macro_rules | `(tactic| walk_at "exec For") => `(tactic| refine wpAny_For ?_)
local macro_rules | `(tactic| walk_at "DEPTH") => `(tactic| first | omega | ((try simp only [depth_deeper, depth_in1]); omega))
local macro_rules | `(tactic| walk_at "MUT") => `(tactic| repeat (first | exact Muts.nil | refine Muts.cons (by first | exact mutL | exact mutI | exact mutRI | exact mutR | exact mutS | exact mutCO) ?_))
local macro_rules | `(tactic| walk_at "CALL") => `(tactic| fail)
local macro_rules | `(tactic| walk_at "codeAny call") => `(tactic| walk_at "CALL")
local macro_rules | `(tactic| walk_at "FITS") => `(tactic| repeat (first | exact Fits.nil | exact Pull.head | apply Fits.cons | apply Pull.tail))
local macro_rules | `(tactic| walk_at "truthy ref") => `(tactic| (k_dflt (refine' truthyL ?x ?z ?_; (case x => walk_at "AT"); (case z => walk_at "SZ"); k_whole); intro tk'))
local macro_rules | `(tactic| walk_at "SETS") => `(tactic| first | exact setX (by walk_at "GG") | exact setI (by walk_at "GG") | exact setV (by walk_at "GG"))
local macro_rules | `(tactic| walk_at "compareOp In int ref") => `(tactic| (k_dflt (refine' inSet ?S ?_; (case S => walk_at "SETS"); k_whole); intro tk'))
local macro_rules | `(tactic| walk_at "compareOp NotIn int ref") => `(tactic| (k_dflt (refine' notInSet ?S ?_; (case S => walk_at "SETS"); k_whole); intro tk'))
local macro_rules | `(tactic| walk_at "compareOp In int ref") => `(tactic| (k_dflt (refine' inInts ?x ?I ?_; (case x => walk_at "AT"); (case I => assumption); k_whole)))
local macro_rules | `(tactic| walk_at "compareOp NotIn int ref") => `(tactic| (k_dflt (refine' notInInts ?x ?I ?_; (case x => walk_at "AT"); (case I => assumption); k_whole)))
local macro_rules | `(tactic| walk_at "assign Tuple") => `(tactic| (k_dflt (refine' asgT ?hh ?F ?x ?n ?st ?_; (case hh => assumption); (case F => assumption); (case x => walk_at "AT"); (case n => rfl); (case st => rfl); k_whole); intro h' kp' F'))
local macro_rules | `(tactic| walk_at "unpackItems ref") => `(tactic| (k_dflt (refine' unpI ?hh ?F ?x ?n ?_; (case hh => assumption); (case F => assumption); (case x => walk_at "AT"); (case n => rfl); k_whole); intro h' kp' F'))
local macro_rules | `(tactic| walk_at "pyIter ref") => `(tactic| (k_dflt (refine' iterL ?F ?x ?_; (case F => assumption); (case x => walk_at "AT"); k_whole); intro it' h' kp' F'))
section
variable {prog : Program} {w : World} {A : Around} {E : Value → Shared → Prop} {s : Shared} {g : Heap} {L : Addr} {m : Str → Option Value} {l : List (Addr × (Obj → Prop))}

theorem chg_same {a : Addr} {P : Obj → Prop} : ∀ {l : List (Addr × (Obj → Prop))}, (a, P) ∈ l → Chg l a P P l
  | _ :: _, .head _ => .head
  | _ :: _, .tail _ h => .tail (chg_same h)
theorem take_call {c scr : Addr} {many : Int} {tk : Tok} {Q : Value → Shared → Prop} (F : Fm g L m l s.heap) (hm : (c, CO scr) ∈ l) (G : GG w g) (hs : Scr scr g) (hroom : A.depth < recursionLimit) (h2 : 0 < many) (h3 : many < 100)
    (h : ∀ (d : Nat) t h' tk, (d : Int) < many → Fm g L m l h' → Q (.int d t) { s with heap := h', toks := tk }) :
    codeAny (model prog w) A (.call (.ref 147) ⟨[.ref c, .int many tk], []⟩) (fun r s' => match r with | .ok (.ret v) => Q v s' | .ok _ => False | .error e => E e s') s := by
  refine take_ok G hs F.keep (F.own _ hm).2.1 (F.at_ hm) hroom h2 h3 _ _ rfl ?_
  rintro _ h' tk' ⟨d, t, rfl, h0, h1, hx, hat⟩
  obtain ⟨k, rfl⟩ := Int.eq_ofNat_of_zero_le h0
  exact h _ _ _ _ h1 (F.turnExt (chg_same hm) hx hat)

local macro_rules | `(tactic| walk_at "CALL") => `(tactic| (k_dflt (refine' take_call ?F ?m ?G ?hs ?r ?a ?b ?_; (case F => assumption); (case m => k_mem); (case G => assumption); (case hs => assumption); (case r => walk_at "DEPTH"); (case a => decide); (case b => decide); k_whole); intro d' t' h' tk' hd2 F'))

theorem drawn_ok {h : Heap} {c scr : Addr} (G : GG w g) (hs : Scr scr g) (kg : Keep g h) (gc : g.get? c = none) (hc : At h c (CO scr)) (hh : A.handled = none) (hroom : A.depth + 10 < recursionLimit) :
    CallT prog w A 154 [.ref c] h (fun v h' => ∃ l vs, v = .ref l ∧ At h' l (LstO vs) ∧ RowsIn h' vs ∧ vs.length ≤ 26 ∧ Heap.ExtBut c h h' ∧ At h' c (CO scr)) := by
  intro s R hh' hR
  subst hh'
  refine enter (binds := [(Str.ofString "c", .ref c)]) (G.keep kg) (by k_is) (by k_is) (by omega) rfl (locs rfl) ?_
  intro L h₁ tk1 hLe hn hk hL
  have F := Fm.start (l := [(c, CO scr)]) hn hk hL (by simpa using hc) (by simp)
  have kb : Keep g (hideAll s.heap [c]) := fun b o e => hideAll_get _ (kg b o e) (by simpa using fun q => by subst q; rw [gc] at e; cases e)
  have Gb := G.keep kb
  obtain ⟨vs, ns, hsl, hI, hlen⟩ := hs
  have hsb : Scr scr (hideAll s.heap [c]) := ⟨vs, ns, isList_keep hsl kb, hI, hlen⟩
  clear hsl hI hlen vs ns
  show wpAny _ _ _ _ _ _
  k_fold
  walk1
  walk1
  with_reducible refine List_ ?_
  refine' dispT (rs := menu1) ?T ?F ?_
  case F => exact F
  case T => repeat (first | refine TupEs.cons ?_ | exact TupEs.nil)
  intro vs1 h' tk' kp1 F T1
  have e1 : vs1.length = 12 := T1.length
  obtain ⟨g1, kg1, F, kf1⟩ := F.anew (by walk_at "MUT")
  have T1 : RowsIn g1 vs1 := ⟨menu1, T1.kf kf1, fun r h => List.mem_append_left _ h⟩
  have Gb := Gb.keep kg1
  have hsb := hsb.keep kg1
  walk1
  walk1
  walk1
  walk1
  with_reducible refine List_ ?_
  refine' dispT (rs := menu2) ?T ?F ?_
  case F => assumption
  case T => repeat (first | refine TupEs.cons ?_ | exact TupEs.nil)
  intro vs2 h' tk' kp2 F T2
  have e2 : vs2.length = 12 := T2.length
  obtain ⟨g2, kg2, F, kf2⟩ := F.anew (by walk_at "MUT")
  have T1 := T1.keep kg2
  have T2 : RowsIn g2 vs2 := ⟨menu2, T2.kf kf2, fun r h => List.mem_append_right _ h⟩
  have Gb := Gb.keep kg2
  have hsb := hsb.keep kg2
  repeat' (first | walk1 | (dsimp only; walk1))
  clear F
  refine' forRange (J := fun left g' m' l' => ∃ ra a1 a2 vs, l' = [(ra, LstO vs), (a2, LstO vs2), (a1, LstO vs1), (c, CO scr)] ∧ m' (Str.ofString "c") = some (.ref c) ∧ m' (Str.ofString "menu") = some (.ref a1) ∧ m' (Str.ofString "more") = some (.ref a2) ∧ m' (Str.ofString "rows") = some (.ref ra) ∧
    RowsIn g' vs ∧ vs.length + 3 * left ≤ 81) ?n ?hh ?F ?init ?turn ?fin
  case hh => exact hh
  case F => assumption
  case init => exact ⟨_, _, _, _, rfl, rfl, rfl, rfl, rfl, .nil, by simp; omega⟩
  case fin =>
    rintro g' m' l' h' tk' ⟨ra, a1, a2, vs, rfl, hm1, hm2, hm3, hm4, hT, hlen⟩ kg' F'
    dsimp only
    repeat' (first | walk1 | (dsimp only; walk1))
    dsimp only
    k_unfold
    rename Fm _ _ _ _ _ => F3
    refine hR _ _ _ ⟨_, _, rfl, F3.at_ (.head _), (hT.take _).keep F3.keep, by rw [List.length_take]; omega, fun b o n e => F3.keep _ _ (kg' _ _ (kg2 _ _ (kg1 _ _ (hideAll_get _ e (by simpa using n))))), F3.at_ (by k_mem)⟩
  case turn =>
    rintro left y t g' m' l' h' tk' ⟨ra, a1, a2, vs, rfl, hm1, hm2, hm3, hm4, hT, hlen⟩ kg' F'
    have Gb := Gb.keep kg'
    have hsb := hsb.keep kg'
    have T1 := T1.keep kg'
    have T2 := T2.keep kg'
    show wpAny _ _ _ _ _ _
    k_fold
    repeat' (first | walk1 | (dsimp only; walk1))
    trace "walked"
    all_goals (first | exact .inl rfl | skip)
    all_goals
      rename Fm _ _ _ _ _ => F2
      obtain ⟨g2', kg2', F2, kf2'⟩ := F2.anew (by walk_at "MUT")
      refine' ⟨g2', _, _, _, _, rfl, kg'.trans kg2', F2.fits ?fits, _, _, _, _, rfl, ?c1, ?c2, ?c3, ?c4, ?R, ?len⟩
      case c1 => exact hm1
      case c2 => exact hm2
      case c3 => exact hm3
      case c4 => first | rfl | exact hm4
      case fits => walk_at "FITS"
      case R => first
        | exact (hT.append (by assumption)).keep kg2'
        | exact (hT.append (RowsIn.take (.cons (by assumption) (.cons (by assumption) (by assumption))) _)).keep kg2'
      case len => simp only [List.length_append, List.length_take, List.length_cons, List.length_nil]; omega
end
end
section
local macro_rules | `(tactic| walk_at "GG") => `(tactic| first | assumption | exact GG.keep (by assumption) (Fm.keep (by assumption)))
local macro_rules | `(tactic| walk_at "AT") => `(tactic| first | assumption | exact Fm.at_ (by assumption) (by k_mem) | exact At.keep (by assumption) (Fm.keep (by assumption)))
local macro_rules | `(tactic| walk_at "CHG") => `(tactic| repeat (first | exact Chg.head | apply Chg.tail))
local macro_rules | `(tactic| walk_at "LIST") => `(tactic| first | exact isList_keep (by assumption) (Fm.keep (by assumption)) | exact isList_of (Fm.at_ (by assumption) (by k_mem)) | exact isList_of (by walk_at "AT"))
local macro_rules | `(tactic| walk_at "NUM") => `(tactic| first | decide | omega | (simp only [List.length_cons, List.length_nil]; omega))
local macro_rules | `(tactic| walk_at "eval Name") => `(tactic| first
  | (refine lv (by assumption) (by first | rfl | assumption) ?_)
  | (k_dflt (refine' gv ?G ?e ?_; (case G => walk_at "GG"); (case e => k_is); k_whole))
  | (k_dflt (refine' bv ?G ?e ?v ?_; (case G => walk_at "GG"); (case e => k_is); (case v => boot_by_name); k_whole)))
local macro_rules | `(tactic| walk_at "loadName") => `(tactic| (refine lvN (by assumption) (by first | rfl | assumption) ?_))
local macro_rules | `(tactic| walk_at "eval Constant int") => `(tactic| (with_reducible refine ci ?_; intro t' tk'))
local macro_rules | `(tactic| walk_at "eval Constant str") => `(tactic| (with_reducible refine cs ?_; intro t' tk'))
local macro_rules | `(tactic| walk_at "storeName") => `(tactic| (refine svT (by assumption) ?_; intro h' tk' F'))
local macro_rules | `(tactic| walk_at "binaryOp Add int int") => `(tactic| (with_reducible refine addI ?_; intro t' tk'))
local macro_rules | `(tactic| walk_at "inplaceOp Add int int") => `(tactic| (with_reducible refine iaddI ?_; intro t' tk'))
local macro_rules | `(tactic| walk_at "binaryOp Mod int int") => `(tactic| (refine modI (by omega) ?_; intro r' t' tk' hr1 hr2))
local macro_rules | `(tactic| walk_at "binaryOp FloorDiv int int") => `(tactic| (refine fdivI (by omega) (by omega) (by omega) (by omega) ?_; intro r' t' tk' hr1 hr2))
local macro_rules | `(tactic| walk_at "PART") => `(tactic| first | exact IsPart.none | exact IsPart.int _ _)
local macro_rules | `(tactic| walk_at "PICK") => `(tactic| first | exact pick_upto (by omega) | exact pick_run (by omega))
local macro_rules | `(tactic| walk_at "subscriptTail") => `(tactic| (k_dflt (first
  | ((with_reducible show wpAny _ _ (subscriptTail _ _ (Value.ref _) (Value.ref _)) _ _ _); refine' sliceL ?F ?x ?pl ?pu ?z ?e ?_; (case F => assumption); (case x => k_mem); (case pl => walk_at "PART"); (case pu => walk_at "PART"); (case z => walk_at "SZ"); (case e => walk_at "PICK"); k_whole; intro b' h' kp' F')
  | (refine' subL ?x ?a ?b ?c ?_; (case x => walk_at "AT"); (case a => walk_at "NUM"); (case b => walk_at "NUM"); (case c => first | rfl | assumption); k_whole)
  | (refine' sub2 ?x ?a ?_ ?_; (case x => walk_at "AT"); (case a => omega))
  | (refine' subM ?x ?T ?a ?b ?c ?_; (case x => walk_at "AT"); (case T => assumption); (case a => walk_at "NUM"); (case b => walk_at "NUM"); (case c => omega); k_whole; intro b' hR'))))
local macro_rules | `(tactic| walk_at "subscriptTail Subscript") => `(tactic| (k_dflt (refine' subScr ?x ?i ?a ?b ?c ?_; (case x => walk_at "LIST"); (case i => assumption); (case a => omega); (case b => omega); (case c => omega); k_whole); intro j' t'))
local macro_rules | `(tactic| walk_at "setItem") => `(tactic| (k_dflt (refine' setF ?F ?x ?a ?b ?c ?_; (case F => assumption); (case x => walk_at "CHG"); (case a => walk_at "NUM"); (case b => walk_at "NUM"); (case c => walk_at "NUM"); k_whole); intro h' F'; (try simp only [List.set_cons_zero, List.set_cons_succ, Int.reduceToNat] at F')))
local macro_rules | `(tactic| walk_at "call builtin:len") => `(tactic| (k_dflt (refine' lenI ?x ?a ?_; (case x => walk_at "LIST"); (case a => omega); k_whole); intro t' tk'))
local macro_rules | `(tactic| walk_at "SZ") => `(tactic| first | (rw [sizeLine_eq]; (try simp only [List.length_append, List.length_cons, List.length_nil, List.length_take]); omega) | size_fits)
local macro_rules | `(tactic| walk_at "callWith ref") => `(tactic| (k_dflt (refine' callG ?k1 ?k2 ?_; (case k1 => k_is); (case k2 => exact rfl))))
local macro_rules | `(tactic| walk_at "newList") => `(tactic| (refine newL (by assumption) (by walk_at "SZ") ?_; intro a' h' kp' F'))
local macro_rules | `(tactic| walk_at "newTuple") => `(tactic| (refine newT (by assumption) (by walk_at "SZ") ?_; intro a' h' kp' hat' F'))
local macro_rules | `(tactic| walk_at "eval Slice") => `(tactic| refine sliceF ?_)
local macro_rules | `(tactic| walk_at "Exists") => `(tactic| (refine ⟨_, _, _, _, by assumption, ?_⟩; intro a' h' kp' F'))
local macro_rules | `(tactic| walk_at "getMethod ref") => `(tactic| (k_dflt (first | refine methApp (by walk_at "AT") ?_ | refine methClr (by walk_at "AT") ?_)))
local macro_rules | `(tactic| walk_at "call builtin:list.append") => `(tactic| (k_dflt (refine' appL ?F ?c ?z ?_; (case F => assumption); (case c => walk_at "CHG"); (case z => walk_at "SZ"); k_whole); intro h' F'))
local macro_rules | `(tactic| walk_at "call builtin:list.clear") => `(tactic| (k_dflt (refine' clrL ?F ?c ?z ?_; (case F => assumption); (case c => walk_at "CHG"); (case z => walk_at "SZ"); k_whole); intro h' F'))
local macro_rules | `(tactic| walk_at "call type:range") => `(tactic| (refine range1 (by assumption) ?_; intro a' h' tk' kp' F'))
local macro_rules | `(tactic| walk_at "pyIter ref") => `(tactic| (k_dflt (refine' iterR ?F ?a ?b ?_; (case F => assumption); (case a => omega); (case b => omega); k_whole); intro it' h' kp' F'))
local macro_rules | `(tactic| walk_at "binaryOp Add ref ref") => `(tactic| (k_dflt (refine' addL ?F ?x ?y ?z ?_; (case F => assumption); (case x => walk_at "AT"); (case y => walk_at "AT"); (case z => walk_at "SZ"); k_whole); intro a' h' kp' F'))
local macro_rules | `(tactic| walk_at "exec For") => `(tactic| refine wpAny_For ?_)
local macro_rules | `(tactic| walk_at "DEPTH") => `(tactic| first | omega | ((try simp only [depth_deeper, depth_in1]); omega))
local macro_rules | `(tactic| walk_at "MUT") => `(tactic| repeat (first | exact Muts.nil | refine Muts.cons (by first | exact mutL | exact mutI | exact mutRI | exact mutR | exact mutS | exact mutCO) ?_))
local macro_rules | `(tactic| walk_at "CALL") => `(tactic| fail)
local macro_rules | `(tactic| walk_at "codeAny call") => `(tactic| walk_at "CALL")
local macro_rules | `(tactic| walk_at "FITS") => `(tactic| repeat (first | exact Fits.nil | exact Pull.head | apply Fits.cons | apply Pull.tail))
local macro_rules | `(tactic| walk_at "truthy ref") => `(tactic| (k_dflt (refine' truthyL ?x ?z ?_; (case x => walk_at "AT"); (case z => walk_at "SZ"); k_whole); intro tk'))
local macro_rules | `(tactic| walk_at "SETS") => `(tactic| first | exact setX (by walk_at "GG") | exact setI (by walk_at "GG") | exact setV (by walk_at "GG"))
local macro_rules | `(tactic| walk_at "compareOp In int ref") => `(tactic| (k_dflt (refine' inSet ?S ?_; (case S => walk_at "SETS"); k_whole); intro tk'))
local macro_rules | `(tactic| walk_at "compareOp NotIn int ref") => `(tactic| (k_dflt (refine' notInSet ?S ?_; (case S => walk_at "SETS"); k_whole); intro tk'))
local macro_rules | `(tactic| walk_at "compareOp In int ref") => `(tactic| (k_dflt (refine' inInts ?x ?I ?_; (case x => walk_at "AT"); (case I => assumption); k_whole)))
local macro_rules | `(tactic| walk_at "compareOp NotIn int ref") => `(tactic| (k_dflt (refine' notInInts ?x ?I ?_; (case x => walk_at "AT"); (case I => assumption); k_whole)))
local macro_rules | `(tactic| walk_at "assign Tuple") => `(tactic| (k_dflt (refine' asgT ?hh ?F ?x ?n ?st ?_; (case hh => assumption); (case F => assumption); (case x => walk_at "AT"); (case n => rfl); (case st => rfl); k_whole); intro h' kp' F'))
local macro_rules | `(tactic| walk_at "unpackItems ref") => `(tactic| (k_dflt (refine' unpI ?hh ?F ?x ?n ?_; (case hh => assumption); (case F => assumption); (case x => walk_at "AT"); (case n => rfl); k_whole); intro h' kp' F'))
local macro_rules | `(tactic| walk_at "pyIter ref") => `(tactic| (k_dflt (refine' iterL ?F ?x ?_; (case F => assumption); (case x => walk_at "AT"); k_whole); intro it' h' kp' F'))
section
variable {prog : Program} {w : World} {A : Around} {E : Value → Shared → Prop} {s : Shared} {g : Heap} {L x : Addr} {m : Str → Option Value} {l : List (Addr × (Obj → Prop))}

theorem getCode {c : Int} {v : Str} {expr : Bool} {Q : Value → Shared → Prop} (G : GG w s.heap) (T : TagAt s.heap x c v) (hroom : A.depth < recursionLimit) (h : ∀ t h' tk, Keep s.heap h' → Q (.int c t) { s with heap := h', toks := tk }) :
    wpAny (model prog w) A (getAttr (.ref x) "code" expr) Q E s := by
  obtain ⟨dx, t, u, a, b⟩ := T
  refine get_bind (K := hd.heap_39 w.params) (C := 114) (g := .builtin "property.__get__") (a := .ref 60) G.inK (inst_of a b) (plainGet_of (name := "code") (by k_is)).1 (findObj_data (show isClsIn (hd.heap_39 w.params) 114 = true by k_is) (by k_is) (by k_is) (by k_is)) (plainGet_of (name := "code") (by k_is)).2
    (wpAny_call (prop_get (s := { s with toks := s.toks + 1 }) (fget := 59) G.inK (by k_is) ?_))
  refine enter (s := { s with toks := s.toks + 1 }) (binds := [(Str.ofString "self", .ref x)]) G (by k_is) (by k_is) hroom rfl (locs rfl) ?_
  intro L h₁ tk1 hLe hn hk hL
  have F := Fm.start0 hn hk hL
  have G1 : GG w h₁ := G.keep hk
  show wpAny _ _ _ _ _ _
  k_fold
  walk1
  walk1
  walk1
  walk1
  refine slotCode G1 (hk _ _ a) (hk _ _ b) fun tk => ?_
  repeat' (first | walk1 | (dsimp only; walk1))
  dsimp only
  k_unfold
  exact handed_on rfl (h _ _ _ hk)
theorem getValue {c : Int} {v : Str} {expr : Bool} {Q : Value → Shared → Prop} (G : GG w s.heap) (T : TagAt s.heap x c v) (hroom : A.depth < recursionLimit) (h : ∀ t h' tk, Keep s.heap h' → Q (.str v t) { s with heap := h', toks := tk }) :
    wpAny (model prog w) A (getAttr (.ref x) "value" expr) Q E s := by
  obtain ⟨dx, t, u, a, b⟩ := T
  refine get_bind (K := hd.heap_39 w.params) (C := 114) (g := .builtin "property.__get__") (a := .ref 68) G.inK (inst_of a b) (plainGet_of (name := "value") (by k_is)).1 (findObj_data (show isClsIn (hd.heap_39 w.params) 114 = true by k_is) (by k_is) (by k_is) (by k_is)) (plainGet_of (name := "value") (by k_is)).2
    (wpAny_call (prop_get (s := { s with toks := s.toks + 1 }) (fget := 67) G.inK (by k_is) ?_))
  refine enter (s := { s with toks := s.toks + 1 }) (binds := [(Str.ofString "self", .ref x)]) G (by k_is) (by k_is) hroom rfl (locs rfl) ?_
  intro L h₁ tk1 hLe hn hk hL
  have F := Fm.start0 hn hk hL
  have G1 : GG w h₁ := G.keep hk
  show wpAny _ _ _ _ _ _
  k_fold
  walk1
  walk1
  walk1
  walk1
  refine slotValue G1 (hk _ _ a) (hk _ _ b) fun tk => ?_
  repeat' (first | walk1 | (dsimp only; walk1))
  dsimp only
  k_unfold
  exact handed_on rfl (h _ _ _ hk)

theorem itemTag {value slice : Expr} {c : Int} {v : Str} {t0 : Tok} {Q : Value → Shared → Prop} (G : GG w s.heap) (T : TagAt s.heap x c v) (hroom : A.depth + 3 < recursionLimit) (h : ∀ t h' tk, Keep s.heap h' → Q (.int c t) { s with heap := h', toks := tk })
    (hsl : subscripted slice true (.ref x) (.int 0 t0) = runValue (.builtin "lifetime.subscript" ⟨[.ref x, .int 0 t0], []⟩) := by with_unfolding_all rfl) :
    wpAny (model prog w) A (subscriptTail value slice (.ref x) (.int 0 t0)) Q E s := by
  refine subTag G T ?_ hsl
  obtain ⟨dx, t, u, a, b⟩ := id T
  refine enter (binds := [(Str.ofString "self", .ref x), (Str.ofString "index", .int 0 t0)]) G (by k_is) (by k_is) (by show A.depth < recursionLimit; omega) rfl (locs rfl) ?_
  intro L h₁ tk1 hLe hn hk hL
  have F := Fm.start0 hn hk hL
  have G1 : GG w h₁ := G.keep hk
  show wpAny _ _ _ _ _ _
  k_fold
  walk1
  walk1
  walk1
  walk1
  walk1
  walk1
  walk1
  refine slotCode G1 (hk _ _ a) (hk _ _ b) fun tk => ?_
  walk1
  walk1
  walk1
  refine getValue G1 (T.keep hk) (by (simp only [depth_deeper, depth_in1]; omega)) fun t2 h2 tk2 kh2 => ?_
  have F := F.keeps kh2
  repeat' (first | walk1 | (dsimp only; walk1))
  rename Fm _ _ _ _ _ => F2
  refine subT (k := 0) (by assumption) (by rfl) (by simp) ?_
  repeat' (first | walk1 | (dsimp only; walk1))
  dsimp only
  k_unfold
  exact h _ _ _ F2.keep

theorem initBack {P : Value → Heap → Prop} {R : Result → Shared → Prop} {f : Addr} {args : List Value} {h : Heap} (C : CallT prog w A f args h P) (hs : s.heap = h) (hP : ∀ v h' tk, P v h' → v = .none ∧ R (.ok (.ret (.ref x))) { s with heap := h', toks := tk }) :
    codeAny (model prog w) A (.call (.ref f) ⟨args, []⟩) (InitBack x R) s := C s _ hs fun v h' tk p => hP v h' tk p

theorem init_ok {c : Int} {t u : Tok} {v : Str} {dx : Addr} {h : Heap} (G : GG w g) (kg : Keep g h) (gx : g.get? x = none) (hx : h.get? x = some (instObj 114 dx)) (hd' : h.get? dx = some emptyDict) (hdx : dx ≠ x) (hroom : A.depth < recursionLimit) :
    CallT prog w A 38 [.ref x, .int c t, .str v u] h (fun r h' => r = .none ∧ Heap.ExtBut x h h' ∧ h'.get? x = some (tagO dx c t v u)) := by
  intro s R hh hR
  subst hh
  refine enter (binds := [(Str.ofString "self", .ref x), (Str.ofString "code", .int c t), (Str.ofString "value", .str v u)]) (G.keep kg) (by k_is) (by k_is) hroom rfl (locs rfl) ?_
  intro L h₁ tk1 hLe hn hk hL
  have F := Fm.start (l := [(x, fun o => o = instObj 114 dx)]) hn hk hL (by simpa using ⟨_, hx, rfl⟩) (by simp)
  have kb : Keep g (hideAll s.heap [x]) := fun b o e => hideAll_get _ (kg b o e) (by simpa using fun q => by subst q; rw [gx] at e; cases e)
  have Gb := G.keep kb
  have hz : (hideAll s.heap [x]).objs.size ≤ L := by rw [hideAll_size, hLe]; exact Nat.le_refl _
  have hd2 : (hideAll s.heap [x]).get? dx = some emptyDict := hideAll_get _ hd' (by simpa using hdx)
  show wpAny _ _ _ _ _ _
  k_fold
  walk1
  with_reducible refine plainObj_wpAny_Assign_Attribute ?_ ?_
  rotate_left
  with_unfolding_all rfl
  walk1
  walk1
  refine setSlotF (p := 115) (i := 0) (dx := dx) F Gb hz rfl rfl rfl hd2 (by k_is) (by k_is) (by k_is) (by decide) rfl rfl fun h' tk F' => ?_
  clear F
  dsimp only
  walk1
  with_reducible refine plainObj_wpAny_Assign_Attribute ?_ ?_
  rotate_left
  with_unfolding_all rfl
  walk1
  walk1
  refine setSlotF (p := 116) (i := 1) (dx := dx) F' Gb hz rfl rfl rfl hd2 (by k_is) (by k_is) (by k_is) (by decide) rfl rfl fun h'' tk F'' => ?_
  clear F'
  repeat' (first | walk1 | (dsimp only; walk1))
  dsimp only
  k_unfold
  refine hR _ _ _ ⟨rfl, Fm.extBut F'', ?_⟩
  obtain ⟨o, ho, rfl⟩ := F''.at_ (.head _)
  exact ho

/-- the class is called: a tag is made -/
theorem makeTag {c : Int} {t u : Tok} {v : Str} {Q : Value → Shared → Prop} (G : GG w s.heap) (hroom : A.depth + 3 < recursionLimit) (h : ∀ x dx h' tk, Keep s.heap h' → s.heap.get? x = none → s.heap.get? dx = none → h'.get? x = some (tagO dx c t v u) → h'.get? dx = some emptyDict → Q (.ref x) { s with heap := h', toks := tk }) :
    wpAny (model prog w) A (call (.ref 114) [.int c t, .str v u]) Q E s := by
  obtain ⟨h0, g0, d0, t0, o0⟩ := s
  have k : Keep h0 ((h0.push emptyDict).push (instObj 114 h0.objs.size)) := fun b o e => Heap.get?_push_of_some _ (Heap.get?_push_of_some _ e)
  have n0 := get_size h0
  have n1 : h0.get? (h0.objs.size + 1) = none := by
    cases e : h0.get? (h0.objs.size + 1) with
    | none => rfl
    | some o => exact absurd (Heap.lt_size e) (Nat.not_lt.mpr (Nat.le_succ _))
  have hx : ((h0.push emptyDict).push (instObj 114 h0.objs.size)).get? (h0.objs.size + 1) = some (instObj 114 h0.objs.size) := by
    have := Heap.get?_push_size (h0.push emptyDict) (o := instObj 114 h0.objs.size) rfl
    rwa [Heap.size_push] at this
  have hd' : ((h0.push emptyDict).push (instObj 114 h0.objs.size)).get? h0.objs.size = some emptyDict := Heap.get?_push_of_some _ (Heap.get?_push_size _ rfl)
  refine wpAny_call (make_core (makes_of G.inK (by k_is)) (looks_findIn G.inK (by k_is)) (fun self => bind_fn G.inK self (by k_is)) (.inl rfl) ?_)
  refine initBack (init_ok G k n1 hx hd' (Nat.ne_of_lt (Nat.lt_succ_self _)) (by rw [depth_under_kw]; omega)) rfl ?_
  rintro r h' tk ⟨rfl, hxt, hx'⟩
  refine ⟨rfl, h _ _ h' tk (fun b o e => hxt b o (fun q => by subst q; rw [n1] at e; cases e) (k b o e)) n1 n0 hx' (hxt _ _ (Nat.ne_of_lt (Nat.lt_succ_self _)) hd')⟩
end
end
section
local macro_rules | `(tactic| walk_at "GG") => `(tactic| first | assumption | exact GG.keep (by assumption) (Fm.keep (by assumption)))
local macro_rules | `(tactic| walk_at "AT") => `(tactic| first | assumption | exact Fm.at_ (by assumption) (by k_mem) | exact At.keep (by assumption) (Fm.keep (by assumption)))
local macro_rules | `(tactic| walk_at "CHG") => `(tactic| repeat (first | exact Chg.head | apply Chg.tail))
local macro_rules | `(tactic| walk_at "LIST") => `(tactic| first | exact isList_keep (by assumption) (Fm.keep (by assumption)) | exact isList_of (Fm.at_ (by assumption) (by k_mem)) | exact isList_of (by walk_at "AT"))
local macro_rules | `(tactic| walk_at "NUM") => `(tactic| first | decide | omega | (simp only [List.length_cons, List.length_nil]; omega))
local macro_rules | `(tactic| walk_at "eval Name") => `(tactic| first
  | (refine lv (by assumption) (by first | rfl | assumption) ?_)
  | (k_dflt (refine' gv ?G ?e ?_; (case G => walk_at "GG"); (case e => k_is); k_whole))
  | (k_dflt (refine' bv ?G ?e ?v ?_; (case G => walk_at "GG"); (case e => k_is); (case v => boot_by_name); k_whole)))
local macro_rules | `(tactic| walk_at "loadName") => `(tactic| (refine lvN (by assumption) (by first | rfl | assumption) ?_))
local macro_rules | `(tactic| walk_at "eval Constant int") => `(tactic| (with_reducible refine ci ?_; intro t' tk'))
local macro_rules | `(tactic| walk_at "eval Constant str") => `(tactic| (with_reducible refine cs ?_; intro t' tk'))
local macro_rules | `(tactic| walk_at "storeName") => `(tactic| (refine svT (by assumption) ?_; intro h' tk' F'))
local macro_rules | `(tactic| walk_at "binaryOp Add int int") => `(tactic| (with_reducible refine addI ?_; intro t' tk'))
local macro_rules | `(tactic| walk_at "inplaceOp Add int int") => `(tactic| (with_reducible refine iaddI ?_; intro t' tk'))
local macro_rules | `(tactic| walk_at "binaryOp Mod int int") => `(tactic| (refine modI (by omega) ?_; intro r' t' tk' hr1 hr2))
local macro_rules | `(tactic| walk_at "binaryOp FloorDiv int int") => `(tactic| (refine fdivI (by omega) (by omega) (by omega) (by omega) ?_; intro r' t' tk' hr1 hr2))
local macro_rules | `(tactic| walk_at "PART") => `(tactic| first | exact IsPart.none | exact IsPart.int _ _)
local macro_rules | `(tactic| walk_at "PICK") => `(tactic| first | exact pick_upto (by omega) | exact pick_run (by omega))
local macro_rules | `(tactic| walk_at "subscriptTail") => `(tactic| (k_dflt (first
  | ((with_reducible show wpAny _ _ (subscriptTail _ _ (Value.ref _) (Value.ref _)) _ _ _); refine' sliceL ?F ?x ?pl ?pu ?z ?e ?_; (case F => assumption); (case x => k_mem); (case pl => walk_at "PART"); (case pu => walk_at "PART"); (case z => walk_at "SZ"); (case e => walk_at "PICK"); k_whole; intro b' h' kp' F')
  | (refine' subL ?x ?a ?b ?c ?_; (case x => walk_at "AT"); (case a => walk_at "NUM"); (case b => walk_at "NUM"); (case c => first | rfl | assumption); k_whole)
  | (refine' sub2 ?x ?a ?_ ?_; (case x => walk_at "AT"); (case a => omega))
  | (refine' subM ?x ?T ?a ?b ?c ?_; (case x => walk_at "AT"); (case T => assumption); (case a => walk_at "NUM"); (case b => walk_at "NUM"); (case c => omega); k_whole; intro b' hR'))))
local macro_rules | `(tactic| walk_at "subscriptTail Subscript") => `(tactic| (k_dflt (refine' subScr ?x ?i ?a ?b ?c ?_; (case x => walk_at "LIST"); (case i => assumption); (case a => omega); (case b => omega); (case c => omega); k_whole); intro j' t'))
local macro_rules | `(tactic| walk_at "setItem") => `(tactic| (k_dflt (refine' setF ?F ?x ?a ?b ?c ?_; (case F => assumption); (case x => walk_at "CHG"); (case a => walk_at "NUM"); (case b => walk_at "NUM"); (case c => walk_at "NUM"); k_whole); intro h' F'; (try simp only [List.set_cons_zero, List.set_cons_succ, Int.reduceToNat] at F')))
local macro_rules | `(tactic| walk_at "call builtin:len") => `(tactic| (k_dflt (refine' lenI ?x ?a ?_; (case x => walk_at "LIST"); (case a => omega); k_whole); intro t' tk'))
local macro_rules | `(tactic| walk_at "SZ") => `(tactic| first | (rw [sizeLine_eq]; (try simp only [List.length_append, List.length_cons, List.length_nil, List.length_take]); omega) | size_fits)
local macro_rules | `(tactic| walk_at "callWith ref") => `(tactic| (k_dflt (refine' callG ?k1 ?k2 ?_; (case k1 => k_is); (case k2 => exact rfl))))
local macro_rules | `(tactic| walk_at "newList") => `(tactic| (refine newL (by assumption) (by walk_at "SZ") ?_; intro a' h' kp' F'))
local macro_rules | `(tactic| walk_at "newTuple") => `(tactic| (refine newT (by assumption) (by walk_at "SZ") ?_; intro a' h' kp' hat' F'))
local macro_rules | `(tactic| walk_at "eval Slice") => `(tactic| refine sliceF ?_)
local macro_rules | `(tactic| walk_at "Exists") => `(tactic| (refine ⟨_, _, _, _, by assumption, ?_⟩; intro a' h' kp' F'))
local macro_rules | `(tactic| walk_at "getMethod ref") => `(tactic| (k_dflt (first | refine methApp (by walk_at "AT") ?_ | refine methClr (by walk_at "AT") ?_)))
local macro_rules | `(tactic| walk_at "call builtin:list.append") => `(tactic| (k_dflt (refine' appL ?F ?c ?z ?_; (case F => assumption); (case c => walk_at "CHG"); (case z => walk_at "SZ"); k_whole); intro h' F'))
local macro_rules | `(tactic| walk_at "call builtin:list.clear") => `(tactic| (k_dflt (refine' clrL ?F ?c ?z ?_; (case F => assumption); (case c => walk_at "CHG"); (case z => walk_at "SZ"); k_whole); intro h' F'))
local macro_rules | `(tactic| walk_at "call type:range") => `(tactic| (refine range1 (by assumption) ?_; intro a' h' tk' kp' F'))
local macro_rules | `(tactic| walk_at "pyIter ref") => `(tactic| (k_dflt (refine' iterR ?F ?a ?b ?_; (case F => assumption); (case a => omega); (case b => omega); k_whole); intro it' h' kp' F'))
local macro_rules | `(tactic| walk_at "binaryOp Add ref ref") => `(tactic| (k_dflt (refine' addL ?F ?x ?y ?z ?_; (case F => assumption); (case x => walk_at "AT"); (case y => walk_at "AT"); (case z => walk_at "SZ"); k_whole); intro a' h' kp' F'))
local macro_rules | `(tactic| walk_at "exec For") => `(tactic| refine wpAny_For ?_)
local macro_rules | `(tactic| walk_at "DEPTH") => `(tactic| first | omega | ((try simp only [depth_deeper, depth_in1]); omega))
local macro_rules | `(tactic| walk_at "MUT") => `(tactic| repeat (first | exact Muts.nil | refine Muts.cons (by first | exact mutL | exact mutI | exact mutRI | exact mutR | exact mutS | exact mutCO) ?_))
local macro_rules | `(tactic| walk_at "CALL") => `(tactic| fail)
local macro_rules | `(tactic| walk_at "codeAny call") => `(tactic| walk_at "CALL")
local macro_rules | `(tactic| walk_at "FITS") => `(tactic| repeat (first | exact Fits.nil | exact Pull.head | apply Fits.cons | apply Pull.tail))
local macro_rules | `(tactic| walk_at "truthy ref") => `(tactic| (k_dflt (refine' truthyL ?x ?z ?_; (case x => walk_at "AT"); (case z => walk_at "SZ"); k_whole); intro tk'))
local macro_rules | `(tactic| walk_at "SETS") => `(tactic| first | exact setX (by walk_at "GG") | exact setI (by walk_at "GG") | exact setV (by walk_at "GG"))
local macro_rules | `(tactic| walk_at "compareOp In int ref") => `(tactic| (k_dflt (refine' inSet ?S ?_; (case S => walk_at "SETS"); k_whole); intro tk'))
local macro_rules | `(tactic| walk_at "compareOp NotIn int ref") => `(tactic| (k_dflt (refine' notInSet ?S ?_; (case S => walk_at "SETS"); k_whole); intro tk'))
local macro_rules | `(tactic| walk_at "compareOp In int ref") => `(tactic| (k_dflt (refine' inInts ?x ?I ?_; (case x => walk_at "AT"); (case I => assumption); k_whole)))
local macro_rules | `(tactic| walk_at "compareOp NotIn int ref") => `(tactic| (k_dflt (refine' notInInts ?x ?I ?_; (case x => walk_at "AT"); (case I => assumption); k_whole)))
local macro_rules | `(tactic| walk_at "assign Tuple") => `(tactic| (k_dflt (refine' asgT ?hh ?F ?x ?n ?st ?_; (case hh => assumption); (case F => assumption); (case x => walk_at "AT"); (case n => rfl); (case st => rfl); k_whole); intro h' kp' F'))
local macro_rules | `(tactic| walk_at "unpackItems ref") => `(tactic| (k_dflt (refine' unpI ?hh ?F ?x ?n ?_; (case hh => assumption); (case F => assumption); (case x => walk_at "AT"); (case n => rfl); k_whole); intro h' kp' F'))
local macro_rules | `(tactic| walk_at "pyIter ref") => `(tactic| (k_dflt (refine' iterL ?F ?x ?_; (case F => assumption); (case x => walk_at "AT"); k_whole); intro it' h' kp' F'))
/-- an item of which [0] is its code -/
def Itm (h : Heap) (v : Value) (c : Int) : Prop := ∃ a, v = .ref a ∧ ((∃ t x, At h a (TupO [.int c t, x])) ∨ ∃ x, TagAt h a c x)
theorem Itm.keep {h h' : Heap} {v : Value} {c : Int} (x : Itm h v c) (k : Keep h h') : Itm h' v c := by
  obtain ⟨a, e, q⟩ := x
  rcases q with ⟨t, x, q⟩ | ⟨x, q⟩
  · exact ⟨a, e, .inl ⟨t, x, q.keep k⟩⟩
  · exact ⟨a, e, .inr ⟨x, q.keep k⟩⟩
section
variable {prog : Program} {w : World} {A : Around} {R : GenEnd} {dm n : Nat} {s₀ s : Shared} {E : Value → Shared → Prop}
variable {g0 : Heap} {D : Addr → Prop} {L : Addr}

theorem itemCode {value slice : Expr} {a : Addr} {c : Int} {t0 : Tok} {Q : Value → Shared → Prop} (G : GG w s.heap) (T : Itm s.heap (.ref a) c) (hroom : A.depth + 3 < recursionLimit) (h : ∀ t h' tk, Keep s.heap h' → Q (.int c t) { s with heap := h', toks := tk })
    (hs : subscripted slice false (.ref a) (.int (0 : Nat) t0) = operate [.ref a, .int (0 : Nat) t0] (getItem (.ref a) (.int (0 : Nat) t0)) := by with_unfolding_all rfl)
    (hsl : subscripted slice true (.ref a) (.int 0 t0) = runValue (.builtin "lifetime.subscript" ⟨[.ref a, .int 0 t0], []⟩) := by with_unfolding_all rfl) :
    wpAny (model prog w) A (subscriptTail value slice (.ref a) (.int 0 t0)) Q E s := by
  obtain ⟨b, e, q⟩ := T
  cases e
  rcases q with ⟨t, x, q⟩ | ⟨x, q⟩
  · exact subT (k := 0) q rfl (by simp) (h _ _ _ (Keep.refl _)) hs
  · exact itemTag G q hroom h hsl

/-- what is yet to be yielded is told by the number of the yields left -/
def ValOf (outs : List Value) (n : Nat) (v : Value) : Prop := outs[outs.length - 1 - n]? = some v

/-- a fresh generator's run, whatever consumes it -/
def FreshSeg (prog : Program) (w : World) (P : Heap → Prop) (L : Addr) (m₀ : Str → Option Value) (cod : Code) (outs : List Value) : Prop :=
  ∀ (A0 : Around) (g0 : Heap) (D : Addr → Prop) (s'' : Shared), A0.handled = none → A0.depth + 20 < recursionLimit → GG w g0 → P g0 → GInv g0 D L m₀ [] s''.heap →
    Seg (model prog w) A0 (RP D) (YP g0 D L (ValOf outs)) outs.length s'' cod ((model prog w).den cod) [] s''

theorem enterGen {R : Result → Shared → Prop} {name qual : Str} {params : Arguments} {body : List Stmt} {scope : Scope} {dV kV doc pm cdv ct oc : Value} {an od : Option Addr} {osl : Array (Option Value)} {f : Addr} {args : List Value} {binds : List (Str × Value)}
    (G : GG w s.heap) (ho : (hd.heap_39 w.params).lookup f = some ⟨oc, od, .func (fnOf name qual params body scope dV kV doc pm an cdv ct), osl⟩) (hcd : codeIn (hd.heap_39 w.params) cdv qual = true) (hroom : A.depth < recursionLimit)
    (hbind : bindArgs (fnOf name qual params body scope dV kV doc pm an cdv ct) ⟨args, []⟩ = pure binds) (hloc : ∀ y ∈ binds, scope.names.lookup y.1 = some .local)
    (h : ∀ L a h₁ tk, s.heap.get? L = none → s.heap.get? a = none → L ≠ a → h₁.Ns L (fun x => binds.reverse.lookup x) → Keep s.heap h₁ → h₁.IsGen a s.gens.size →
      R (.ok (.ret (.ref a))) { s with heap := h₁, toks := tk, gens := s.gens.push (.fresh (.func body (envOf qual scope L f cdv))) })
    (hco : scope.isCoroutine = false := by rfl) (hgen : scope.isGenerator = true := by rfl) (hk : scope.kind = .function := by rfl) (hcell : ∀ x ∈ scope.names, x.2 ≠ .cell := by decide) :
    codeAny (model prog w) A (.call (.ref f) ⟨args, []⟩) R s := by
  refine codeAny_call_generator (fd := fnOf name qual params body scope dV kV doc pm an cdv ct) (body := body) hroom (G.inK _ _ ho) rfl hco hgen rfl (codeRec_of G.inK hcd) (BindsTo.of_eq hbind _ _ _ _ ?_)
  refine wpAny_newFunctionEnv hcell hloc (fun h₀ hns hsb => ⟨G.nl.fresh _ hsb, ?_⟩) hk
  have hlt := hns.lt
  have k0 : Keep s.heap h₀ := fun b o e => hsb.extBut b o (Nat.ne_of_lt (Heap.lt_size e)) (Heap.get?_push_of_some _ e)
  have na : s.heap.get? h₀.objs.size = none := by
    cases e : s.heap.get? h₀.objs.size with
    | none => rfl
    | some o => exact absurd (Heap.lt_size (k0 _ _ e)) (Nat.lt_irrefl _)
  exact h _ _ _ _ (get_size _) na (Nat.ne_of_lt hlt) (hns.keeps (Keep.push _ _)) (k0.trans (Keep.push _ _)) ⟨_, _, _, Heap.get?_push_size _ rfl, rfl, rfl, rfl⟩

/-- of all that is to be yielded r is left -/
def Left (outs : List Value) (n : Nat) (r : List Value) : Prop := ∃ dn, outs = dn ++ r ∧ n = r.length
theorem Left.val {outs r : List Value} {v : Value} {n : Nat} (x : Left outs n (v :: r)) : ∃ k, n = k + 1 ∧ ValOf outs k v ∧ Left outs k r := by
  obtain ⟨dn, rfl, rfl⟩ := x
  refine ⟨r.length, rfl, ?_, dn ++ [v], by simp, rfl⟩
  unfold ValOf
  have : (dn ++ v :: r).length - 1 - r.length = dn.length := by simp
  rw [this]; simp

theorem yieldAll {outs rest pt : List Value} {l : List (Addr × (Obj → Prop))} {m : Str → Option Value} {p : Addr} {x y : Str} {px py p1 p2 p3 p4 : Pos} {env : Env} {Q : Flow → Nat → Shared → Shared → Prop}
    (sg : SG g0 D env.locals m l s₀ s) (M : Muts l) (hp : m y = some (.ref p)) (hm : (p, LstO pt) ∈ l) (hL : Left outs n (pt ++ rest)) 
    (hQ : ∀ m' n' s₀' s', (∀ z, z ≠ x → m' z = m z) → SG g0 D env.locals m' l s₀' s' → Left outs n' rest → Q .next n' s₀' s')
    (hk : env.scope.kind = .function := by rfl) (hlx : env.kindOf x = some .local := by rfl) (hly : env.kindOf y = some .local := by rfl) (hdx : (x == ("__debug__" : Str)) = false := by decide) (hdy : (y == ("__debug__" : Str)) = false := by decide)
    (hpp : (env.scope.kind == .class || (env.scope.kind == .module && env.locals != env.globals)) = false := by rfl)
    (hco : env.scope.isCoroutine = false := by rfl) (hi : interactive env = false := by rfl) :
    SegX (model prog w) A R (YP g0 D env.locals (ValOf outs)) dm n s₀ (exec (.For (.Name x px) (.Name y py) [.Expr (.Yield (some (.Name x p1)) p2) p3] [] p4) env) s Q := by
  refine SegX.forList (g0 := g0) (D := D) (ax := p) (xs := pt) (J := fun i m' l' n' => (∀ z, z ≠ x → m' z = m z) ∧ l' = l ∧ Left outs n' (pt.drop i ++ rest)) (.inr fun i m l' n h => h.2.1 ▸ hm) (fun A' h1 h2 => ?_) ?_ ?_ (hl := hlx) (hp := hpp)
  · obtain ⟨⟨h, tk, rfl⟩, g, kg, F, hD, hB⟩ := sg
    exact lv F hp ⟨rfl, m, l, ⟨⟨_, _, rfl⟩, g, kg, F, hD, hB⟩, fun _ _ => rfl, rfl, hL⟩ hk hly hdy
  · rintro i v it m' l' n' s₀' s' hv ⟨hm', rfl, hL'⟩ sg'
    have e : pt.drop i = v :: pt.drop (i + 1) := by
      obtain ⟨hlt, e⟩ := List.getElem?_eq_some_iff.mp hv
      rw [List.drop_eq_getElem_cons hlt, e]
    rw [e] at hL'
    obtain ⟨k, rfl, hval, hL''⟩ := Left.val hL'
    refine SegX.cons (SegX.yield (fun A' h1 h2 => ?_) hco hi)
    obtain ⟨⟨h, tk, rfl⟩, g, kg, F, hD, hB⟩ := sg'
    refine lv F (show upd m' x v x = some v from if_pos rfl) ⟨_, _, ⟨⟨_, _, rfl⟩, g, kg, F, hD, hB⟩, Muts.cons mutI M, hval, fun s'' sg'' => ?_⟩ hk hlx hdx
    refine SegX.nil ⟨.inl rfl, _, _, sg'', fun z hz => ?_, rfl, hL''⟩
    show (if z = x then some v else m' z) = m z
    rw [if_neg hz, hm' z hz]
  · rintro m' l' n' s₀' s' ⟨hm', rfl, hL'⟩ sg'
    refine hQ m' n' s₀' s' hm' sg' ?_
    simpa using hL'

theorem pts_gen {R : Result → Shared → Prop} {ax : Addr} {its : List (Value × Int)} (G : GG w s.heap) (hroom : A.depth < recursionLimit) (hlen : its.length ≤ 100)
    (h : ∀ L a h₁ tk m₀ cod, s.heap.get? L = none → s.heap.get? a = none → L ≠ a → h₁.Ns L m₀ → Keep s.heap h₁ → h₁.IsGen a s.gens.size →
      FreshSeg prog w (fun g0 => At g0 ax (LstO (its.map (·.1))) ∧ ∀ p ∈ its, Itm g0 p.1 p.2) L m₀ cod (PS.run ⟨-1, 0, []⟩ its) → R (.ok (.ret (.ref a))) { s with heap := h₁, toks := tk, gens := s.gens.push (.fresh cod) }) :
    codeAny (model prog w) A (.call (.ref 126) ⟨[.ref ax], []⟩) R s := by
  refine enterGen (binds := [(Str.ofString "tagger", .ref ax)]) G (by k_is) (by k_is) hroom rfl (locs rfl) ?_
  intro L a h₁ tk nL na hLa hn hk hg
  refine h L a h₁ tk _ _ nL na hLa hn hk hg ?_
  clear h hn hk hg na nL G hroom
  rintro A0 g0 D s0 hh hr G ⟨hx, hit⟩ gi
  refine seg_func ?_
  have C : ∀ b e, Ctxt A0 (A0.depth + 1) (.func b e) [] := fun b e => ⟨hh, Nat.le_refl (A0.depth + 0 + 1), rfl, rfl⟩
  have ro : (PS.run ⟨-1, 0, []⟩ its).length = (PS.run ⟨-1, 0, []⟩ its).length := rfl
  refine (?_ : SegX (model prog w) A0 (RP D) (YP g0 D L (ValOf (PS.run ⟨-1, 0, []⟩ its))) (A0.depth + 1) _ s0 _ s0 (fun f n' s₀' s' => f = .next ∧ n' = 0 ∧ Stp D s₀' s')) _ _ _ _ _ _ (C _ _) rfl fun f n' s₀' s' q => ?_
  · obtain ⟨⟨hp, tk1, e⟩, g, kg, F, hD, hB⟩ := gi.start
    have Gg := G.keep kg
    clear e
    refine SegX.cons (SegX.leaf fun A' hh' hd' => ?_)
    k_fold
    repeat' (first | walk1 | (dsimp only; walk1))
    dsimp only
    k_unfold
    dsimp only
    refine SegX.cons (SegX.leaf fun A' hh' hd' => ?_)
    k_fold
    repeat' (first | walk1 | (dsimp only; walk1))
    dsimp only
    k_unfold
    dsimp only
    refine SegX.cons (SegX.leaf fun A' hh' hd' => ?_)
    k_fold
    repeat' (first | walk1 | (dsimp only; walk1))
    dsimp only
    k_unfold
    dsimp only
    clear F
    rename Fm _ _ _ _ _ => F
    refine SegX.cons (SegX.forList (g0 := g0) (D := D) (ax := ax) (xs := its.map (·.1)) (J := fun i m l n => ∃ e z pt p te tz, m (Str.ofString "expected_code") = some (.int e te) ∧ m (Str.ofString "z_code") = some (.int z tz) ∧ m (Str.ofString "point") = some (.ref p) ∧ l = [(p, LstO pt)] ∧ pt.length ≤ i ∧
      Left (PS.run ⟨-1, 0, []⟩ its) n (PS.run ⟨e, z, pt⟩ (its.drop i))) (.inl hx) (fun A' h1 h2 => ?start) ?turn ?fin)
    case start =>
      walk1
      exact ⟨rfl, _, _, ⟨⟨_, _, rfl⟩, g, kg, F, hD, hB⟩, -1, 0, [], _, _, _, rfl, rfl, rfl, rfl, Nat.le_refl _, [], rfl, rfl⟩
    case fin =>
      rintro m l n s₀ s1 ⟨e, z, pt, p, te, tz, he, hz, hp, rfl, hpt, hL⟩ ⟨⟨h, tk, rfl⟩, g, kg, F, hD, hB⟩
      dsimp only
      have Gg := G.keep kg
      have hd0 : its.drop (its.map (·.1)).length = [] := by simp
      rw [hd0] at hL
      rw [List.length_map] at hpt
      have hL : Left (PS.run ⟨-1, 0, []⟩ its) n (if 1 < pt.length then pt else []) := hL
      refine SegX.cons (SegX.if_ fun A' hh' hd' => ?_)
      k_fold
      repeat' (first | walk1 | (dsimp only; walk1))
      all_goals rename Fm _ _ _ _ _ => F2
      · rename_i c1
        have e1 : (if 1 < pt.length then pt else []) = pt := if_pos (by omega)
        rw [e1] at hL
        have hL0 : Left (PS.run ⟨-1, 0, []⟩ its) n (pt ++ []) := by simpa using hL
        refine SegX.cons ?_
        dsimp only
        have sg : ∀ tk, SG g0 D L m [(p, LstO pt)] s₀ { s₀ with heap := h, toks := tk } := fun tk => ⟨⟨_, _, rfl⟩, g, kg, F2, hD, hB⟩
        refine yieldAll (prog := prog) (w := w) (A := A0) (R := RP D) (dm := A0.depth + 1) (x := Str.ofString "item") (y := Str.ofString "point") (env := envOf _ _ L 126 (.ref 125)) (sg _) (by walk_at "MUT") hp (.head _) hL0 fun m' n' s₀' s' hm' sg hL' => ?_
        dsimp only
        refine SegX.nil ?_
        dsimp only
        obtain ⟨dn, _, hn⟩ := hL'
        exact SegX.nil ⟨rfl, hn, sg.stp⟩
      · rename_i c1
        have e1 : (if 1 < pt.length then pt else []) = [] := if_neg (by omega)
        rw [e1] at hL
        refine SegX.nil ?_
        dsimp only
        obtain ⟨dn, _, hn⟩ := hL
        exact SegX.nil ⟨rfl, hn, SG.stp ⟨⟨_, _, rfl⟩, g, kg, F2, hD, hB⟩⟩
    case turn =>
      rintro i v it m l n s₀ s1 hv ⟨e, z, pt, p, te, tz, he, hz, hp, rfl, hpt, hL⟩ ⟨⟨h, tk, rfl⟩, g, kg, F, hD, hB⟩
      have Gg := G.keep kg
      obtain ⟨⟨v', c⟩, hvc, hv'⟩ : ∃ q, its[i]? = some q ∧ q.1 = v := by simpa using hv
      obtain rfl : v' = v := hv'
      have hti : Itm g v' c := (hit _ (List.mem_of_getElem? hvc)).keep kg
      have hdr : its.drop i = (v', c) :: its.drop (i + 1) := by
        obtain ⟨hlt, e⟩ := List.getElem?_eq_some_iff.mp hvc
        rw [List.drop_eq_getElem_cons hlt, e]
      rw [hdr] at hL
      obtain ⟨a', rfl, hta⟩ := id hti
      have hlt : i < 100 := by have := (List.getElem?_eq_some_iff.mp hvc).1; omega
      have hL : Left (PS.run ⟨-1, 0, []⟩ its) n (PS.outs ⟨e, z, pt⟩ c ++ ((PS.flush ⟨e, z, pt⟩ c).own (.ref a') c ++ ((PS.flush ⟨e, z, pt⟩ c).next (.ref a') c).run (its.drop (i + 1)))) := hL
      clear hdr hv hvc hta hit
      refine SegX.cons (SegX.leaf fun A' hh' hd' => ?_)
      k_fold
      walk1
      walk1
      walk1
      walk1
      refine itemCode (Gg.keep F.keep) (hti.keep F.keep) (by omega) fun t h' tk' k' => ?_
      have F := F.keeps k'
      walk1
      dsimp only
      k_unfold
      dsimp only
      rename Fm _ _ _ _ _ => F2
      refine SegX.cons (SegX.mono (Q := fun f n' s₀' s' => f = .next ∧ ∃ m' pt' u, SG g0 D L m' [(it, IterO ax (i + 1)), (p, LstO pt')] s₀' s' ∧ m' (Str.ofString "tag") = some (.ref a') ∧ m' (Str.ofString "code") = some (.int c u) ∧ m' (Str.ofString "expected_code") = some (.int e te) ∧ m' (Str.ofString "z_code") = some (.int z tz) ∧ m' (Str.ofString "point") = some (.ref p) ∧
        PS.flush ⟨e, z, pt⟩ c = ⟨e, z, pt'⟩ ∧ pt'.length ≤ i ∧ Left (PS.run ⟨-1, 0, []⟩ its) n' (PS.own ⟨e, z, pt'⟩ (.ref a') c ++ (PS.next ⟨e, z, pt'⟩ (.ref a') c).run (its.drop (i + 1)))) ?first fun f n' s₀' s' hmid => ?rest)
      case first =>
        refine SegX.if_ fun A' hh' hd' => ?_
        k_fold
        repeat' (first | walk1 | (dsimp only; walk1))
        all_goals (rename Fm _ _ _ _ _ => F3)
        · rename_i c1 c2
          have e1 : PS.flush ⟨e, z, pt⟩ c = ⟨e, z, []⟩ := if_pos ⟨c1, c2⟩
          have e2 : PS.outs ⟨e, z, pt⟩ c = if 1 < pt.length then pt else [] := if_pos ⟨c1, c2⟩
          rw [e1, e2] at hL
          refine SegX.cons (SegX.if_ fun A' hh' hd' => ?_)
          k_fold
          repeat' (first | walk1 | (dsimp only; walk1))
          all_goals (rename Fm _ _ _ _ _ => F4)
          · rename_i c3
            have e3 : (if 1 < pt.length then pt else []) = pt := if_pos (by omega)
            rw [e3] at hL
            refine SegX.cons (yieldAll ⟨⟨_, _, rfl⟩, g, kg, F4, hD, hB⟩ (by walk_at "MUT") hp (.tail _ (.head _)) hL fun m' n' s₀' s' hm' sg hL' => ?_)
            dsimp only
            refine SegX.nil ?_
            dsimp only
            obtain ⟨⟨h', tk', rfl⟩, g', kg', F', hD', hB'⟩ := sg
            have hp' : m' (Str.ofString "point") = some (.ref p) := (hm' _ (by decide)).trans hp
            have Gg' := G.keep kg'
            refine SegX.cons (SegX.leaf fun A' hh' hd' => ?_)
            k_fold
            repeat' (first | walk1 | (dsimp only; walk1))
            dsimp only
            k_unfold
            dsimp only
            rename Fm _ _ _ _ _ => F5
            exact SegX.nil ⟨rfl, m', [], _, ⟨⟨_, _, rfl⟩, g', kg', F5, hD', hB'⟩, (hm' _ (by decide)).trans rfl, (hm' _ (by decide)).trans rfl, (hm' _ (by decide)).trans he, (hm' _ (by decide)).trans hz, hp', e1, Nat.zero_le _, hL'⟩
          · rename_i c3
            have e3 : (if 1 < pt.length then pt else []) = [] := if_neg (by omega)
            rw [e3] at hL
            refine SegX.nil ?_
            dsimp only
            refine SegX.cons (SegX.leaf fun A' hh' hd' => ?_)
            k_fold
            repeat' (first | walk1 | (dsimp only; walk1))
            dsimp only
            k_unfold
            dsimp only
            rename Fm _ _ _ _ _ => F5
            exact SegX.nil ⟨rfl, _, [], _, ⟨⟨_, _, rfl⟩, g, kg, F5, hD, hB⟩, rfl, rfl, he, hz, hp, e1, Nat.zero_le _, hL⟩
        · rename_i c1 c2
          have e1 : PS.flush ⟨e, z, pt⟩ c = ⟨e, z, pt⟩ := if_neg fun q => q.2 c2
          have e2 : PS.outs ⟨e, z, pt⟩ c = [] := if_neg fun q => q.2 c2
          rw [e1, e2] at hL
          exact SegX.nil ⟨rfl, _, _, _, ⟨⟨_, _, rfl⟩, g, kg, F3, hD, hB⟩, rfl, rfl, he, hz, hp, e1, hpt, hL⟩
        · rename_i c1
          have e1 : PS.flush ⟨e, z, pt⟩ c = ⟨e, z, pt⟩ := if_neg fun q => c1 q.1
          have e2 : PS.outs ⟨e, z, pt⟩ c = [] := if_neg fun q => c1 q.1
          rw [e1, e2] at hL
          exact SegX.nil ⟨rfl, _, _, _, ⟨⟨_, _, rfl⟩, g, kg, F3, hD, hB⟩, rfl, rfl, he, hz, hp, e1, hpt, hL⟩
      case rest =>
        obtain ⟨rfl, m', pt', u, ⟨⟨h', tk', rfl⟩, g', kg', F', hD', hB'⟩, ht, hc, he', hz', hp', e1, hpt', hL'⟩ := hmid
        clear hL F F2
        have Gg := G.keep kg'
        (try dsimp only)
        refine SegX.cons (SegX.if_ fun A' hh' hd' => ?_)
        k_fold
        repeat' (first | walk1 | (dsimp only; walk1))
        all_goals (rename Fm _ _ _ _ _ => F4)
        · rename_i c1
          have hL' : Left (PS.run ⟨-1, 0, []⟩ its) n' (PS.run ⟨c + 10, c + 20, pt' ++ [.ref a']⟩ (its.drop (i + 1))) := by
            have x1 : PS.own ⟨e, z, pt'⟩ (Value.ref a') c = [] := if_pos c1
            have x2 : PS.next ⟨e, z, pt'⟩ (Value.ref a') c = ⟨c + 10, c + 20, pt' ++ [.ref a']⟩ := if_pos c1
            rw [x1, x2] at hL'; exact hL'
          refine SegX.cons (SegX.leaf fun A' hh' hd' => ?_)
          k_fold
          repeat' (first | walk1 | (dsimp only; walk1))
          (try dsimp only)
          k_unfold
          (try dsimp only)
          refine SegX.cons (SegX.leaf fun A' hh' hd' => ?_)
          k_fold
          repeat' (first | walk1 | (dsimp only; walk1))
          (try dsimp only)
          k_unfold
          (try dsimp only)
          refine SegX.cons (SegX.leaf fun A' hh' hd' => ?_)
          k_fold
          repeat' (first | walk1 | (dsimp only; walk1))
          (try dsimp only)
          k_unfold
          (try dsimp only)
          rename Fm _ _ _ _ _ => F5
          refine SegX.nil ?_
          (try dsimp only)
          exact SegX.nil ⟨.inl rfl, _, _, ⟨⟨_, _, rfl⟩, g', kg', F5, hD', hB'⟩, _, _, _, p, _, _, rfl, rfl, hp', rfl, by simp; omega, hL'⟩
        · rename_i c1
          refine SegX.cons (SegX.if_ fun A' hh' hd' => ?_)
          k_fold
          repeat' (first | walk1 | (dsimp only; walk1))
          all_goals (rename Fm _ _ _ _ _ => F4)
          · rename_i c2
            have x1 : PS.own ⟨e, z, pt'⟩ (Value.ref a') c = [] := by unfold PS.own; rw [if_neg c1]; exact if_pos c2
            have x2 : PS.next ⟨e, z, pt'⟩ (Value.ref a') c = ⟨if z < e + 10 then -1 else e + 10, z, pt' ++ [.ref a']⟩ := by unfold PS.next; rw [if_neg c1]; exact if_pos c2
            rw [x1, x2] at hL'
            refine SegX.cons (SegX.leaf fun A' hh' hd' => ?_)
            k_fold
            repeat' (first | walk1 | (dsimp only; walk1))
            (try dsimp only)
            k_unfold
            (try dsimp only)
            refine SegX.cons (SegX.leaf fun A' hh' hd' => ?_)
            k_fold
            repeat' (first | walk1 | (dsimp only; walk1))
            (try dsimp only)
            k_unfold
            (try dsimp only)
            refine SegX.cons (SegX.if_ fun A' hh' hd' => ?_)
            k_fold
            repeat' (first | walk1 | (dsimp only; walk1))
            · rename_i c3
              rw [if_pos (by omega)] at hL'
              refine SegX.cons (SegX.leaf fun A' hh' hd' => ?_)
              k_fold
              repeat' (first | walk1 | (dsimp only; walk1))
              (try dsimp only)
              k_unfold
              (try dsimp only)
              rename Fm _ _ _ _ _ => F5
              refine SegX.nil ?_
              (try dsimp only)
              refine SegX.nil ?_
              (try dsimp only)
              refine SegX.nil ?_
              (try dsimp only)
              exact SegX.nil ⟨.inl rfl, _, _, ⟨⟨_, _, rfl⟩, g', kg', F5, hD', hB'⟩, _, _, _, p, _, _, rfl, hz', hp', rfl, by simp; omega, hL'⟩
            · rename_i c3
              rw [if_neg (by omega)] at hL'
              rename Fm _ _ _ _ _ => F5
              refine SegX.nil ?_
              (try dsimp only)
              refine SegX.nil ?_
              (try dsimp only)
              refine SegX.nil ?_
              (try dsimp only)
              exact SegX.nil ⟨.inl rfl, _, _, ⟨⟨_, _, rfl⟩, g', kg', F5, hD', hB'⟩, _, _, _, p, _, _, rfl, hz', hp', rfl, by simp; omega, hL'⟩
          · rename_i c2
            have x2 : PS.next ⟨e, z, pt'⟩ (Value.ref a') c = ⟨e, z, pt'⟩ := by unfold PS.next; rw [if_neg c1]; exact if_neg c2
            rw [x2] at hL'
            refine SegX.cons (SegX.if_ fun A' hh' hd' => ?_)
            k_fold
            repeat' (first | walk1 | (dsimp only; walk1))
            all_goals (rename Fm _ _ _ _ _ => F5)
            · rename_i c3
              have x1 : PS.own ⟨e, z, pt'⟩ (Value.ref a') c = [] := by unfold PS.own; rw [if_neg c1, if_neg c2]; exact if_pos c3
              rw [x1] at hL'
              refine SegX.nil ?_
              (try dsimp only)
              refine SegX.nil ?_
              (try dsimp only)
              refine SegX.nil ?_
              (try dsimp only)
              exact SegX.nil ⟨.inl rfl, _, _, ⟨⟨_, _, rfl⟩, g', kg', F5, hD', hB'⟩, _, _, _, p, _, _, he', hz', hp', rfl, by omega, hL'⟩
            · rename_i c3
              have x1 : PS.own ⟨e, z, pt'⟩ (Value.ref a') c = [.ref a'] := by unfold PS.own; rw [if_neg c1, if_neg c2]; exact if_neg c3
              rw [x1] at hL'
              obtain ⟨k, hk, hval, hL2⟩ := Left.val hL'
              subst hk
              refine SegX.cons (SegX.yield (fun A' h1 h2 => ?_))
              walk1
              refine ⟨_, _, ⟨⟨_, _, rfl⟩, g', kg', F5, hD', hB'⟩, by walk_at "MUT", hval, fun s'' sg'' => ?_⟩
              (try dsimp only)
              refine SegX.nil ?_
              (try dsimp only)
              refine SegX.nil ?_
              (try dsimp only)
              refine SegX.nil ?_
              (try dsimp only)
              exact SegX.nil ⟨.inl rfl, _, _, sg'', _, _, _, p, _, _, he', hz', hp', rfl, by omega, hL2⟩
  · obtain ⟨rfl, q⟩ := q
    exact seg_end (.ok (.ret .none)) ⟨rfl, q⟩
end
end
section
local macro_rules | `(tactic| walk_at "GG") => `(tactic| first | assumption | exact GG.keep (by assumption) (Fm.keep (by assumption)))
local macro_rules | `(tactic| walk_at "AT") => `(tactic| first | assumption | exact Fm.at_ (by assumption) (by k_mem) | exact At.keep (by assumption) (Fm.keep (by assumption)))
local macro_rules | `(tactic| walk_at "CHG") => `(tactic| repeat (first | exact Chg.head | apply Chg.tail))
local macro_rules | `(tactic| walk_at "LIST") => `(tactic| first | exact isList_keep (by assumption) (Fm.keep (by assumption)) | exact isList_of (Fm.at_ (by assumption) (by k_mem)) | exact isList_of (by walk_at "AT"))
local macro_rules | `(tactic| walk_at "NUM") => `(tactic| first | decide | omega | (simp only [List.length_cons, List.length_nil]; omega))
local macro_rules | `(tactic| walk_at "eval Name") => `(tactic| first
  | (refine lv (by assumption) (by first | rfl | assumption) ?_)
  | (k_dflt (refine' gv ?G ?e ?_; (case G => walk_at "GG"); (case e => k_is); k_whole))
  | (k_dflt (refine' bv ?G ?e ?v ?_; (case G => walk_at "GG"); (case e => k_is); (case v => boot_by_name); k_whole)))
local macro_rules | `(tactic| walk_at "loadName") => `(tactic| (refine lvN (by assumption) (by first | rfl | assumption) ?_))
local macro_rules | `(tactic| walk_at "eval Constant int") => `(tactic| (with_reducible refine ci ?_; intro t' tk'))
local macro_rules | `(tactic| walk_at "eval Constant str") => `(tactic| (with_reducible refine cs ?_; intro t' tk'))
local macro_rules | `(tactic| walk_at "storeName") => `(tactic| (refine svT (by assumption) ?_; intro h' tk' F'))
local macro_rules | `(tactic| walk_at "binaryOp Add int int") => `(tactic| (with_reducible refine addI ?_; intro t' tk'))
local macro_rules | `(tactic| walk_at "inplaceOp Add int int") => `(tactic| (with_reducible refine iaddI ?_; intro t' tk'))
local macro_rules | `(tactic| walk_at "binaryOp Mod int int") => `(tactic| (refine modI (by omega) ?_; intro r' t' tk' hr1 hr2))
local macro_rules | `(tactic| walk_at "binaryOp FloorDiv int int") => `(tactic| (refine fdivI (by omega) (by omega) (by omega) (by omega) ?_; intro r' t' tk' hr1 hr2))
local macro_rules | `(tactic| walk_at "PART") => `(tactic| first | exact IsPart.none | exact IsPart.int _ _)
local macro_rules | `(tactic| walk_at "PICK") => `(tactic| first | exact pick_upto (by omega) | exact pick_run (by omega))
local macro_rules | `(tactic| walk_at "subscriptTail") => `(tactic| (k_dflt (first
  | ((with_reducible show wpAny _ _ (subscriptTail _ _ (Value.ref _) (Value.ref _)) _ _ _); refine' sliceL ?F ?x ?pl ?pu ?z ?e ?_; (case F => assumption); (case x => k_mem); (case pl => walk_at "PART"); (case pu => walk_at "PART"); (case z => walk_at "SZ"); (case e => walk_at "PICK"); k_whole; intro b' h' kp' F')
  | (refine' subL ?x ?a ?b ?c ?_; (case x => walk_at "AT"); (case a => walk_at "NUM"); (case b => walk_at "NUM"); (case c => first | rfl | assumption); k_whole)
  | (refine' sub2 ?x ?a ?_ ?_; (case x => walk_at "AT"); (case a => omega))
  | (refine' subM ?x ?T ?a ?b ?c ?_; (case x => walk_at "AT"); (case T => assumption); (case a => walk_at "NUM"); (case b => walk_at "NUM"); (case c => omega); k_whole; intro b' hR'))))
local macro_rules | `(tactic| walk_at "subscriptTail Subscript") => `(tactic| (k_dflt (refine' subScr ?x ?i ?a ?b ?c ?_; (case x => walk_at "LIST"); (case i => assumption); (case a => omega); (case b => omega); (case c => omega); k_whole); intro j' t'))
local macro_rules | `(tactic| walk_at "setItem") => `(tactic| (k_dflt (refine' setF ?F ?x ?a ?b ?c ?_; (case F => assumption); (case x => walk_at "CHG"); (case a => walk_at "NUM"); (case b => walk_at "NUM"); (case c => walk_at "NUM"); k_whole); intro h' F'; (try simp only [List.set_cons_zero, List.set_cons_succ, Int.reduceToNat] at F')))
local macro_rules | `(tactic| walk_at "call builtin:len") => `(tactic| (k_dflt (refine' lenI ?x ?a ?_; (case x => walk_at "LIST"); (case a => omega); k_whole); intro t' tk'))
local macro_rules | `(tactic| walk_at "SZ") => `(tactic| first | (rw [sizeLine_eq]; (try simp only [List.length_append, List.length_cons, List.length_nil, List.length_take]); omega) | size_fits)
local macro_rules | `(tactic| walk_at "callWith ref") => `(tactic| (k_dflt (refine' callG ?k1 ?k2 ?_; (case k1 => k_is); (case k2 => exact rfl))))
local macro_rules | `(tactic| walk_at "newList") => `(tactic| (refine newL (by assumption) (by walk_at "SZ") ?_; intro a' h' kp' F'))
local macro_rules | `(tactic| walk_at "newTuple") => `(tactic| (refine newT (by assumption) (by walk_at "SZ") ?_; intro a' h' kp' hat' F'))
local macro_rules | `(tactic| walk_at "eval Slice") => `(tactic| refine sliceF ?_)
local macro_rules | `(tactic| walk_at "Exists") => `(tactic| (refine ⟨_, _, _, _, by assumption, ?_⟩; intro a' h' kp' F'))
local macro_rules | `(tactic| walk_at "getMethod ref") => `(tactic| (k_dflt (first | refine methApp (by walk_at "AT") ?_ | refine methClr (by walk_at "AT") ?_)))
local macro_rules | `(tactic| walk_at "call builtin:list.append") => `(tactic| (k_dflt (refine' appL ?F ?c ?z ?_; (case F => assumption); (case c => walk_at "CHG"); (case z => walk_at "SZ"); k_whole); intro h' F'))
local macro_rules | `(tactic| walk_at "call builtin:list.clear") => `(tactic| (k_dflt (refine' clrL ?F ?c ?z ?_; (case F => assumption); (case c => walk_at "CHG"); (case z => walk_at "SZ"); k_whole); intro h' F'))
local macro_rules | `(tactic| walk_at "call type:range") => `(tactic| (refine range1 (by assumption) ?_; intro a' h' tk' kp' F'))
local macro_rules | `(tactic| walk_at "pyIter ref") => `(tactic| (k_dflt (refine' iterR ?F ?a ?b ?_; (case F => assumption); (case a => omega); (case b => omega); k_whole); intro it' h' kp' F'))
local macro_rules | `(tactic| walk_at "binaryOp Add ref ref") => `(tactic| (k_dflt (refine' addL ?F ?x ?y ?z ?_; (case F => assumption); (case x => walk_at "AT"); (case y => walk_at "AT"); (case z => walk_at "SZ"); k_whole); intro a' h' kp' F'))
local macro_rules | `(tactic| walk_at "exec For") => `(tactic| refine wpAny_For ?_)
local macro_rules | `(tactic| walk_at "DEPTH") => `(tactic| first | omega | ((try simp only [depth_deeper, depth_in1]); omega))
local macro_rules | `(tactic| walk_at "MUT") => `(tactic| repeat (first | exact Muts.nil | refine Muts.cons (by first | exact mutL | exact mutI | exact mutRI | exact mutR | exact mutS | exact mutCO) ?_))
local macro_rules | `(tactic| walk_at "CALL") => `(tactic| fail)
local macro_rules | `(tactic| walk_at "codeAny call") => `(tactic| walk_at "CALL")
local macro_rules | `(tactic| walk_at "FITS") => `(tactic| repeat (first | exact Fits.nil | exact Pull.head | apply Fits.cons | apply Pull.tail))
local macro_rules | `(tactic| walk_at "truthy ref") => `(tactic| (k_dflt (refine' truthyL ?x ?z ?_; (case x => walk_at "AT"); (case z => walk_at "SZ"); k_whole); intro tk'))
local macro_rules | `(tactic| walk_at "SETS") => `(tactic| first | exact setX (by walk_at "GG") | exact setI (by walk_at "GG") | exact setV (by walk_at "GG"))
local macro_rules | `(tactic| walk_at "compareOp In int ref") => `(tactic| (k_dflt (refine' inSet ?S ?_; (case S => walk_at "SETS"); k_whole); intro tk'))
local macro_rules | `(tactic| walk_at "compareOp NotIn int ref") => `(tactic| (k_dflt (refine' notInSet ?S ?_; (case S => walk_at "SETS"); k_whole); intro tk'))
local macro_rules | `(tactic| walk_at "compareOp In int ref") => `(tactic| (k_dflt (refine' inInts ?x ?I ?_; (case x => walk_at "AT"); (case I => assumption); k_whole)))
local macro_rules | `(tactic| walk_at "compareOp NotIn int ref") => `(tactic| (k_dflt (refine' notInInts ?x ?I ?_; (case x => walk_at "AT"); (case I => assumption); k_whole)))
local macro_rules | `(tactic| walk_at "assign Tuple") => `(tactic| (k_dflt (refine' asgT ?hh ?F ?x ?n ?st ?_; (case hh => assumption); (case F => assumption); (case x => walk_at "AT"); (case n => rfl); (case st => rfl); k_whole); intro h' kp' F'))
local macro_rules | `(tactic| walk_at "unpackItems ref") => `(tactic| (k_dflt (refine' unpI ?hh ?F ?x ?n ?_; (case hh => assumption); (case F => assumption); (case x => walk_at "AT"); (case n => rfl); k_whole); intro h' kp' F'))
local macro_rules | `(tactic| walk_at "pyIter ref") => `(tactic| (k_dflt (refine' iterL ?F ?x ?_; (case F => assumption); (case x => walk_at "AT"); k_whole); intro it' h' kp' F'))
/-- a generator has been made and not yet run -/
structure GenNew (prog : Program) (w : World) (P : Heap → Prop) (G₀ : Array GenState) (L a : Addr) (outs : List Value) (s : Shared) : Prop where
  run : ∃ m₀ cod, s.gens = G₀.push (.fresh cod) ∧ s.heap.Ns L m₀ ∧ FreshSeg prog w P L m₀ cod outs
  gen : s.heap.IsGen a G₀.size
  ne : L ≠ a
section
variable {prog : Program} {w : World} {A : Around} {n : Nat} {s : Shared} {E : Value → Shared → Prop} {R : Result → Shared → Prop}
variable {g0 : Heap} {D : Addr → Prop} {L a S : Addr} {outs : List Value} {G₀ : Array GenState}

abbrev lstObj (acc : Array Value) (c : Nat) : Obj := { cls := .type "list", dict := none, data := .seq acc c, slots := #[] }
theorem GenSt.base (x : GenSt prog w A g0 D L (ValOf outs) G₀ n s) : Keep g0 s.heap := let ⟨_, _, _, _, ⟨_, k, F, _⟩, _⟩ := x; k.trans F.keep
theorem isGen_kept {h h' : Heap} {g : Nat} (x : h.IsGen a g) (k : ∀ o, h.get? a = some o → h'.get? a = some o) : h'.IsGen a g := let ⟨o, nm, qn, e, r⟩ := x; ⟨o, nm, qn, k _ e, r⟩
/-- the run's first state, for one who will change hs alone -/
theorem GenNew.start {P : Heap → Prop} {hs : List Addr} (N : GenNew prog w P G₀ L a outs s) (hh : A.handled = none) (hroom : A.depth + 20 < recursionLimit) (G : GG w g0) (hP : P g0) (k : Keep g0 s.heap) (nL : g0.get? L = none) (hL : L ∉ hs) :
    GenSt prog w A g0 (fun b => b ≠ L ∧ ∃ o, s.heap.get? b = some o) L (ValOf outs) G₀ outs.length s := by
  obtain ⟨⟨m₀, cod, e, hns, fs⟩, _, _⟩ := N
  refine ⟨_, m₀, [], e, ⟨hideAll s.heap [L], fun b o e => hideAll_get _ (k _ _ e) (fun hm => ?_), ⟨hns, fun b o e => of_hideAll _ e, hideAll_none _ (.head _), fun _ h => (nomatch h), List.nodup_nil⟩, Muts.nil, fun b ⟨hb, o, e⟩ => ⟨o, hideAll_get _ e (by simpa using hb)⟩⟩, fun s'' gi => ⟨rfl, ?_⟩⟩
  · rw [List.mem_singleton] at hm; subst hm; rw [nL] at e; cases e
  · exact fs A.in1 g0 _ s'' hh hroom G hP gi

theorem extendOwn {res : Value} {B : Heap} (hh : A.handled = none) (hroom : A.depth + 20 < recursionLimit) (G : GG w g0) (hS : D S) (ha : D a) (haS : a ≠ S) (hgS : g0.get? S = none) (hsz : outs.length ≤ sizeLine) (hB : ∀ b o, B.get? b = some o → D b ∧ b ≠ S) :
    ∀ (n : Nat) (s : Shared) (acc : Array Value) (c : Nat), GenSt prog w A.in1 g0 D L (ValOf outs) G₀ n s → s.heap.get? S = some (lstObj acc c) → acc.toList = outs.take (outs.length - n) → n ≤ outs.length → s.heap.IsGen a G₀.size → Keep B s.heap →
    (∀ h' tk c', h'.get? S = some (lstObj outs.toArray c') → Keep B h' → R (.ok (.ret res)) { s with heap := h', toks := tk, gens := G₀.push .finished }) →
    codeAny (model prog w) A (.builtin "list.extend.loop" ⟨[.ref S, .ref a, res], []⟩) R s := by
  intro n
  induction n with
  | zero =>
    intro s acc c GS hS' hacc hn hg kB hR
    refine codeAny_builtin F.entry_extend_loop ?_
    rw [Around.under_plainId F.plain_extend_loop _]
    show wpAny _ A.in1 (pyNext (.ref a) >>= _) _ _ s
    refine wpAny_bind (genNext hh (G.nl.keeps GS.base) (by rw [depth_in1]; omega) hg GS (fun k v s₁ hk => by omega) ?_)
    rintro s₁ - ⟨h, tk, rfl⟩ hk
    refine wpAny_pure ?_
    have e : acc = outs.toArray := by
      rw [Nat.sub_zero, List.take_length] at hacc; rw [← hacc]
    subst e
    exact hR h tk c (hk _ _ hS' (.inl hS)) fun b o e => hk b o (kB _ _ e) (.inl (hB _ _ e).1)
  | succ n ih =>
    intro s acc c GS hS' hacc hn hg kB hR
    refine codeAny_builtin F.entry_extend_loop ?_
    rw [Around.under_plainId F.plain_extend_loop _]
    show wpAny _ A.in1 (pyNext (.ref a) >>= _) _ _ s
    refine wpAny_bind (genNext hh (G.nl.keeps GS.base) (by rw [depth_in1]; omega) hg GS ?_ (fun s₁ h0 => by omega))
    rintro k v s₁ hk hval ⟨h, tk, gs, rfl⟩ hkp GS'
    obtain rfl : k = n := by omega
    have hS1 := hkp _ _ hS' (.inl hS)
    have hv : outs[outs.length - 1 - k]? = some v := hval
    have hlen : acc.size = outs.length - (k + 1) := by rw [← Array.length_toList, hacc, List.length_take]; omega
    show wpAny _ A.in1 (updateSeq S (·.push v) >>= _) _ _ _
    refine wpAny_bind ?_
    refine wpAny_updateSeq hS1 rfl (wpAny_pure ⟨plainId_quiet F.plain_extend_loop _, ?_⟩) (by omega) (by show (acc.push v).size ≤ _; rw [Array.size_push]; omega)
    have oth : ∀ b o, b ≠ S → h.get? b = some o → (h.update S (Obj.mapSeq (·.push v))).get? b = some o := fun b o hb e => (Heap.get?_update_other _ _ (Ne.symm hb)).trans e
    refine ih _ (acc.push v) _ (GS'.turn (hs := [S]) (fun b o e => ?_) (fun b hb => ?_) (fun b hb => ?_) (fun b hb => ?_)) (Heap.get?_update_self _ hS1 rfl) ?_ (by omega) (isGen_kept hg fun o e => oth _ _ haS (hkp _ _ e (.inl ha))) (fun b o e => oth _ _ (hB _ _ e).2 (hkp _ _ (kB _ _ e) (.inl (hB _ _ e).1))) fun h' tk c' e1 e2 => hR h' tk c' e1 e2
    · exact oth b o (fun q => by subst q; rw [hideAll_none _ (.head _)] at e; cases e) (of_hideAll _ e)
    · rw [List.mem_singleton] at hb; subst hb; exact ⟨_, Heap.get?_update_self _ hS1 rfl⟩
    · rw [List.mem_singleton] at hb; subst hb; exact hS
    · rw [List.mem_singleton] at hb; subst hb; exact hgS
    · have hx : outs.length - k = (outs.length - 1 - k) + 1 := by omega
      have hy : outs.length - (k + 1) = outs.length - 1 - k := by omega
      rw [Array.toList_push, hacc, hx, hy, List.take_succ, hv]; rfl
end
section
variable {prog : Program} {w : World} {A : Around} {n : Nat} {s : Shared} {E : Value → Shared → Prop} {R : Result → Shared → Prop}
variable {g0 : Heap} {D : Addr → Prop} {L a S : Addr} {outs : List Value} {G₀ : Array GenState}

/-- list(generator) -/
theorem listOwn {P : Heap → Prop} {Q : Value → Shared → Prop} (hh : A.handled = none) (hroom : A.depth + 20 < recursionLimit) (G : GG w g0) (hP : P g0) (N : GenNew prog w P G₀ L a outs s) (k0 : Keep g0 s.heap) (nL : g0.get? L = none) (hsz : outs.length ≤ sizeLine)
    (hQ : ∀ S h' tk, s.heap.get? S = none → At h' S (LstO outs) → Keep (hideAll s.heap [L]) h' → Q (.ref S) { s with heap := h', toks := tk, gens := G₀.push .finished }) :
    wpAny (model prog w) A (call (.type "list") [.ref a]) Q E s := by
  have nS := get_size s.heap
  have haS : a ≠ s.heap.objs.size := fun e => by
    obtain ⟨o, _, _, e', _⟩ := N.gen
    rw [e, nS] at e'; cases e'
  have hSL : L ≠ s.heap.objs.size := fun e => by
    obtain ⟨_, _, _, ⟨oL, _, _, e', _⟩, _⟩ := N.run
    rw [e, nS] at e'; cases e'
  have kB : ∀ {h'}, (∀ b o, b ≠ s.heap.objs.size → (s.heap.push (lstObj #[] 0)).get? b = some o → h'.get? b = some o) → Keep (hideAll s.heap [L]) h' := fun q b o e => by
    have e' := of_hideAll _ e
    exact q b o (Nat.ne_of_lt (Heap.lt_size e')) (Heap.get?_push_of_some _ e')
  refine callType_codes (Q₁ := fun obj s₁ => obj = .ref s.heap.objs.size ∧ s₁ = { s with heap := s.heap.push (lstObj #[] 0) }) F.called_list (F.typeCall_list_1 _) F.entry_list_init (code_list_new _ ⟨rfl, rfl⟩) fun obj s₁ h₁ => ?_
  obtain ⟨rfl, rfl⟩ := h₁
  have hS : (s.heap.push (lstObj #[] 0)).get? s.heap.objs.size = some (lstObj #[] 0) := Heap.get?_push_size _ rfl
  refine ⟨⟨_, hS, rfl⟩, F.args_list_init_2 _ _, ?_⟩
  show wpAny _ A.in1.in1 (do let old ← Builtin.List.listItems (.ref s.heap.objs.size); Builtin.List.listUpdate (.ref s.heap.objs.size) (fun _ => #[]); letGo old.toList.reverse; Builtin.List.listExtendWith (.ref s.heap.objs.size) (.ref a) .none) _ _ _
  refine wpAny_bind ?_
  unfold Builtin.List.listItems
  refine wpAny_bind (wpAny_seqItems hS rfl (wpAny_pure ?_))
  show wpAny _ A.in1.in1 (updateSeq s.heap.objs.size (fun _ => #[]) >>= fun _ => letGo (#[] : Array Value).toList.reverse >>= fun _ => Builtin.List.listExtendWith (.ref s.heap.objs.size) (.ref a) .none) _ _ _
  refine wpAny_bind (wpAny_updateSeq hS rfl ?_)
  have hS2 := Heap.get?_update_self (Obj.mapSeq (fun _ => (#[] : Array Value))) hS rfl
  have oth2 : ∀ b o, b ≠ s.heap.objs.size → (s.heap.push (lstObj #[] 0)).get? b = some o → ((s.heap.push (lstObj #[] 0)).update s.heap.objs.size (Obj.mapSeq (fun _ => (#[] : Array Value)))).get? b = some o := fun b o hb e => (Heap.get?_update_other _ _ (Ne.symm hb)).trans e
  dsimp only at hS2 oth2 ⊢
  generalize (s.heap.push (lstObj #[] 0)).update s.heap.objs.size (Obj.mapSeq (fun _ => (#[] : Array Value))) = h2 at hS2 oth2 ⊢
  refine wpAny_bind (wpAny_letGo ?_)
  have ga : h2.IsGen a G₀.size := isGen_kept N.gen fun o e => oth2 _ _ haS (Heap.get?_push_of_some _ e)
  unfold Builtin.List.listExtendWith
  refine wpAny_bind (wpAny_typeOf ga.typeIs ?_)
  have h1 : Builtin.List.listSameRef (.ref s.heap.objs.size) (.ref a) = false := by simp [Builtin.List.listSameRef, Ne.symm haS]
  have hx2 : (Value.type "generator" == Value.type "list") = false := by decide
  have hx3 : (Value.type "generator" == Value.type "tuple") = false := by decide
  simp only [h1, hx2, hx3, Bool.or_false, Bool.false_eq_true, if_false]
  refine wpAny_bind (wpAny_pyIter_gen ga ?_)
  refine wpAny_bind (wpAny_holding ?_)
  unfold Builtin.List.listLengthHint
  refine wpAny_bind (wpAny_specialOf ga.typeIs F.gen_no_len ?_)
  show wpAny _ A.in1.in1 (specialOf (Value.ref a) (Str.ofString "__length_hint__") >>= _) _ _ _
  refine wpAny_bind (wpAny_specialOf ga.typeIs F.gen_no_hint ?_)
  refine wpAny_pure ?_
  show wpAny _ A.in1.in1 (rule "list.extend.makes-room" >>= fun _ => Builtin.List.listTouch (.ref s.heap.objs.size) >>= fun _ =>
    again (.builtin "list.extend.loop" ⟨[.ref s.heap.objs.size, .ref a, .none], []⟩)) _ _ _
  refine wpAny_bind (wpAny_rule ?_)
  refine wpAny_bind ?_
  show wpAny _ A.in1.in1 (updateSeq s.heap.objs.size (·.push .none) >>= fun _ => updateSeq s.heap.objs.size (·.pop)) _ _ _
  refine wpAny_bind (wpAny_updateSeq hS2 rfl ?_)
  have hS3 := Heap.get?_update_self (Obj.mapSeq (·.push Value.none)) hS2 rfl
  refine wpAny_updateSeq (hz := by seq_fits) hS3 rfl ?_
  have hS4 := Heap.get?_update_self (Obj.mapSeq (·.pop)) hS3 rfl
  have oth4 : ∀ b o, b ≠ s.heap.objs.size → (s.heap.push (lstObj #[] 0)).get? b = some o → ((h2.update s.heap.objs.size (Obj.mapSeq (·.push Value.none))).update s.heap.objs.size (Obj.mapSeq (·.pop))).get? b = some o :=
    fun b o hb e => (Heap.get?_update_other _ _ (Ne.symm hb)).trans ((Heap.get?_update_other _ _ (Ne.symm hb)).trans (oth2 b o hb e))
  dsimp only at hS4 oth4 ⊢
  generalize (h2.update s.heap.objs.size (Obj.mapSeq (·.push Value.none))).update s.heap.objs.size (Obj.mapSeq (·.pop)) = h4 at hS4 oth4 ⊢
  have old4 : ∀ b o, s.heap.get? b = some o → h4.get? b = some o := fun b o e => oth4 _ _ (Nat.ne_of_lt (Heap.lt_size e)) (Heap.get?_push_of_some _ e)
  have ga4 : h4.IsGen a G₀.size := isGen_kept N.gen fun o e => old4 _ _ e
  have al : ∃ o, h4.get? a = some o := let ⟨o, _, _, e, _⟩ := ga4; ⟨o, e⟩
  obtain ⟨⟨m₀, cod, eg, hns, fs⟩, _, hne⟩ := N
  have N4 : GenNew prog w P G₀ L a outs { s with heap := h4 } := ⟨⟨m₀, cod, eg, hns.keeps old4, fs⟩, ga4, hne⟩
  have GS := N4.start (A := A.in1.in1) (hs := []) hh (by rw [depth_in1, depth_in1]; exact hroom) G hP (k0.trans old4) nL (List.not_mem_nil)
  have hBD : ∀ b o, (hideAll s.heap [L]).get? b = some o → (b ≠ L ∧ ∃ o, h4.get? b = some o) ∧ b ≠ s.heap.objs.size := fun b o e => by
    have e' := of_hideAll _ e
    refine ⟨⟨fun q => ?_, o, old4 _ _ e'⟩, Nat.ne_of_lt (Heap.lt_size e')⟩
    subst q
    rw [hideAll_none _ (.head _)] at e; cases e
  refine wpAny_pure ⟨plainId_quiet F.plain_extend_loop _, ?_⟩
  refine extendOwn (A := A.in1) (B := hideAll s.heap [L]) hh (by rw [depth_in1]; exact hroom) G ⟨Ne.symm hSL, _, hS4⟩ ⟨Ne.symm hne, al⟩ haS (none_keep k0 nS) hsz hBD outs.length _ #[] _ GS hS4 (by simp) (Nat.le_refl _) ga4 (fun b o e => old4 _ _ (of_hideAll _ e)) fun h' tk c' e1 e2 => ?_
  exact ⟨rfl, hQ _ h' tk nS ⟨_, e1, c', rfl⟩ e2⟩
end
end
section
local macro_rules | `(tactic| walk_at "GG") => `(tactic| first | assumption | exact GG.keep (by assumption) (Fm.keep (by assumption)))
local macro_rules | `(tactic| walk_at "AT") => `(tactic| first | assumption | exact Fm.at_ (by assumption) (by k_mem) | exact At.keep (by assumption) (Fm.keep (by assumption)))
local macro_rules | `(tactic| walk_at "CHG") => `(tactic| repeat (first | exact Chg.head | apply Chg.tail))
local macro_rules | `(tactic| walk_at "LIST") => `(tactic| first | exact isList_keep (by assumption) (Fm.keep (by assumption)) | exact isList_of (Fm.at_ (by assumption) (by k_mem)) | exact isList_of (by walk_at "AT"))
local macro_rules | `(tactic| walk_at "NUM") => `(tactic| first | decide | omega | (simp only [List.length_cons, List.length_nil]; omega))
local macro_rules | `(tactic| walk_at "eval Name") => `(tactic| first
  | (refine lv (by assumption) (by first | rfl | assumption) ?_)
  | (k_dflt (refine' gv ?G ?e ?_; (case G => walk_at "GG"); (case e => k_is); k_whole))
  | (k_dflt (refine' bv ?G ?e ?v ?_; (case G => walk_at "GG"); (case e => k_is); (case v => boot_by_name); k_whole)))
local macro_rules | `(tactic| walk_at "loadName") => `(tactic| (refine lvN (by assumption) (by first | rfl | assumption) ?_))
local macro_rules | `(tactic| walk_at "eval Constant int") => `(tactic| (with_reducible refine ci ?_; intro t' tk'))
local macro_rules | `(tactic| walk_at "eval Constant str") => `(tactic| (with_reducible refine cs ?_; intro t' tk'))
local macro_rules | `(tactic| walk_at "storeName") => `(tactic| (refine svT (by assumption) ?_; intro h' tk' F'))
local macro_rules | `(tactic| walk_at "binaryOp Add int int") => `(tactic| (with_reducible refine addI ?_; intro t' tk'))
local macro_rules | `(tactic| walk_at "inplaceOp Add int int") => `(tactic| (with_reducible refine iaddI ?_; intro t' tk'))
local macro_rules | `(tactic| walk_at "binaryOp Mod int int") => `(tactic| (refine modI (by omega) ?_; intro r' t' tk' hr1 hr2))
local macro_rules | `(tactic| walk_at "binaryOp FloorDiv int int") => `(tactic| (refine fdivI (by omega) (by omega) (by omega) (by omega) ?_; intro r' t' tk' hr1 hr2))
local macro_rules | `(tactic| walk_at "PART") => `(tactic| first | exact IsPart.none | exact IsPart.int _ _)
local macro_rules | `(tactic| walk_at "PICK") => `(tactic| first | exact pick_upto (by omega) | exact pick_run (by omega))
local macro_rules | `(tactic| walk_at "subscriptTail") => `(tactic| (k_dflt (first
  | ((with_reducible show wpAny _ _ (subscriptTail _ _ (Value.ref _) (Value.ref _)) _ _ _); refine' sliceL ?F ?x ?pl ?pu ?z ?e ?_; (case F => assumption); (case x => k_mem); (case pl => walk_at "PART"); (case pu => walk_at "PART"); (case z => walk_at "SZ"); (case e => walk_at "PICK"); k_whole; intro b' h' kp' F')
  | (refine' subL ?x ?a ?b ?c ?_; (case x => walk_at "AT"); (case a => walk_at "NUM"); (case b => walk_at "NUM"); (case c => first | rfl | assumption); k_whole)
  | (refine' sub2 ?x ?a ?_ ?_; (case x => walk_at "AT"); (case a => omega))
  | (refine' subM ?x ?T ?a ?b ?c ?_; (case x => walk_at "AT"); (case T => assumption); (case a => walk_at "NUM"); (case b => walk_at "NUM"); (case c => omega); k_whole; intro b' hR'))))
local macro_rules | `(tactic| walk_at "subscriptTail Subscript") => `(tactic| (k_dflt (refine' subScr ?x ?i ?a ?b ?c ?_; (case x => walk_at "LIST"); (case i => assumption); (case a => omega); (case b => omega); (case c => omega); k_whole); intro j' t'))
local macro_rules | `(tactic| walk_at "setItem") => `(tactic| (k_dflt (refine' setF ?F ?x ?a ?b ?c ?_; (case F => assumption); (case x => walk_at "CHG"); (case a => walk_at "NUM"); (case b => walk_at "NUM"); (case c => walk_at "NUM"); k_whole); intro h' F'; (try simp only [List.set_cons_zero, List.set_cons_succ, Int.reduceToNat] at F')))
local macro_rules | `(tactic| walk_at "call builtin:len") => `(tactic| (k_dflt (refine' lenI ?x ?a ?_; (case x => walk_at "LIST"); (case a => omega); k_whole); intro t' tk'))
local macro_rules | `(tactic| walk_at "SZ") => `(tactic| first | (rw [sizeLine_eq]; (try simp only [List.length_append, List.length_cons, List.length_nil, List.length_take]); omega) | size_fits)
local macro_rules | `(tactic| walk_at "callWith ref") => `(tactic| (k_dflt (refine' callG ?k1 ?k2 ?_; (case k1 => k_is); (case k2 => exact rfl))))
local macro_rules | `(tactic| walk_at "newList") => `(tactic| (refine newL (by assumption) (by walk_at "SZ") ?_; intro a' h' kp' F'))
local macro_rules | `(tactic| walk_at "newTuple") => `(tactic| (refine newT (by assumption) (by walk_at "SZ") ?_; intro a' h' kp' hat' F'))
local macro_rules | `(tactic| walk_at "eval Slice") => `(tactic| refine sliceF ?_)
local macro_rules | `(tactic| walk_at "Exists") => `(tactic| (refine ⟨_, _, _, _, by assumption, ?_⟩; intro a' h' kp' F'))
local macro_rules | `(tactic| walk_at "getMethod ref") => `(tactic| (k_dflt (first | refine methApp (by walk_at "AT") ?_ | refine methClr (by walk_at "AT") ?_)))
local macro_rules | `(tactic| walk_at "call builtin:list.append") => `(tactic| (k_dflt (refine' appL ?F ?c ?z ?_; (case F => assumption); (case c => walk_at "CHG"); (case z => walk_at "SZ"); k_whole); intro h' F'))
local macro_rules | `(tactic| walk_at "call builtin:list.clear") => `(tactic| (k_dflt (refine' clrL ?F ?c ?z ?_; (case F => assumption); (case c => walk_at "CHG"); (case z => walk_at "SZ"); k_whole); intro h' F'))
local macro_rules | `(tactic| walk_at "call type:range") => `(tactic| (refine range1 (by assumption) ?_; intro a' h' tk' kp' F'))
local macro_rules | `(tactic| walk_at "pyIter ref") => `(tactic| (k_dflt (refine' iterR ?F ?a ?b ?_; (case F => assumption); (case a => omega); (case b => omega); k_whole); intro it' h' kp' F'))
local macro_rules | `(tactic| walk_at "binaryOp Add ref ref") => `(tactic| (k_dflt (refine' addL ?F ?x ?y ?z ?_; (case F => assumption); (case x => walk_at "AT"); (case y => walk_at "AT"); (case z => walk_at "SZ"); k_whole); intro a' h' kp' F'))
local macro_rules | `(tactic| walk_at "exec For") => `(tactic| refine wpAny_For ?_)
local macro_rules | `(tactic| walk_at "DEPTH") => `(tactic| first | omega | ((try simp only [depth_deeper, depth_in1]); omega))
local macro_rules | `(tactic| walk_at "MUT") => `(tactic| repeat (first | exact Muts.nil | refine Muts.cons (by first | exact mutL | exact mutI | exact mutRI | exact mutR | exact mutS | exact mutCO) ?_))
local macro_rules | `(tactic| walk_at "CALL") => `(tactic| fail)
local macro_rules | `(tactic| walk_at "codeAny call") => `(tactic| walk_at "CALL")
local macro_rules | `(tactic| walk_at "FITS") => `(tactic| repeat (first | exact Fits.nil | exact Pull.head | apply Fits.cons | apply Pull.tail))
local macro_rules | `(tactic| walk_at "truthy ref") => `(tactic| (k_dflt (refine' truthyL ?x ?z ?_; (case x => walk_at "AT"); (case z => walk_at "SZ"); k_whole); intro tk'))
local macro_rules | `(tactic| walk_at "SETS") => `(tactic| first | exact setX (by walk_at "GG") | exact setI (by walk_at "GG") | exact setV (by walk_at "GG"))
local macro_rules | `(tactic| walk_at "compareOp In int ref") => `(tactic| (k_dflt (refine' inSet ?S ?_; (case S => walk_at "SETS"); k_whole); intro tk'))
local macro_rules | `(tactic| walk_at "compareOp NotIn int ref") => `(tactic| (k_dflt (refine' notInSet ?S ?_; (case S => walk_at "SETS"); k_whole); intro tk'))
local macro_rules | `(tactic| walk_at "compareOp In int ref") => `(tactic| (k_dflt (refine' inInts ?x ?I ?_; (case x => walk_at "AT"); (case I => assumption); k_whole)))
local macro_rules | `(tactic| walk_at "compareOp NotIn int ref") => `(tactic| (k_dflt (refine' notInInts ?x ?I ?_; (case x => walk_at "AT"); (case I => assumption); k_whole)))
local macro_rules | `(tactic| walk_at "assign Tuple") => `(tactic| (k_dflt (refine' asgT ?hh ?F ?x ?n ?st ?_; (case hh => assumption); (case F => assumption); (case x => walk_at "AT"); (case n => rfl); (case st => rfl); k_whole); intro h' kp' F'))
local macro_rules | `(tactic| walk_at "unpackItems ref") => `(tactic| (k_dflt (refine' unpI ?hh ?F ?x ?n ?_; (case hh => assumption); (case F => assumption); (case x => walk_at "AT"); (case n => rfl); k_whole); intro h' kp' F'))
local macro_rules | `(tactic| walk_at "pyIter ref") => `(tactic| (k_dflt (refine' iterL ?F ?x ?_; (case F => assumption); (case x => walk_at "AT"); k_whole); intro it' h' kp' F'))
theorem keep_off {h h1 h' : Heap} {L : Addr} (k1 : Keep h h1) (n : h.get? L = none) (k : Keep (hideAll h1 [L]) h') : Keep h h' := fun b o e => k _ _ (hideAll_get _ (k1 _ _ e) fun hm => by
  rw [List.mem_singleton] at hm; subst hm; rw [n] at e; cases e)
section
variable {prog : Program} {w : World} {A : Around} {n : Nat} {s : Shared} {E : Value → Shared → Prop} {env : Env}
variable {g0 : Heap} {L a : Addr} {outs : List Value} {G₀ : Array GenState}

/-- one turn of a comprehension over a generator -/
def CompTurnG (prog : Program) (w : World) (A : Around) (s₁ : Shared) (env : Env) (scope : Scope) (cl : List (Str × Addr)) (target elt : Expr) (ifs : List Expr) (a L : Addr) (J : Nat → Heap → List Value → Prop) (i : Nat) (v : Value) : Prop :=
  ∀ C acc ys g' m' h' tk' G', J i g' ys → Keep (hideAll s₁.heap [L]) g' → Fm g' C m' [(acc, LstO ys)] h' →
    wpAny (model prog w) A (letOwnedTupleGo target (.ref a) v) (fun _ s₂ => wpAny (model prog w) A (assign target (compEnvC scope cl C env) v) (fun _ s₃ =>
      wpAny (model prog w) A (forIn ifs true fun c r => if r = true then do let ok ← isTrue c (compEnvC scope cl C env) (eval c (compEnvC scope cl C env)); pure (ForInStep.yield ok) else pure (ForInStep.yield r)) (fun ok s₄ =>
        if ok = true then wpAny (model prog w) A (eval elt (compEnvC scope cl C env)) (fun x s₅ => ∃ g'' m'' h'' tk'', s₅ = { s₁ with heap := h'', toks := tk'', gens := G' } ∧ Keep g' g'' ∧ Fm g'' C m'' [(acc, LstO ys)] h'' ∧ J (i + 1) g'' (ys ++ [x])) (fun _ _ => False) s₄
        else ∃ g'' m'' h'' tk'', s₄ = { s₁ with heap := h'', toks := tk'', gens := G' } ∧ Keep g' g'' ∧ Fm g'' C m'' [(acc, LstO ys)] h'' ∧ J (i + 1) g'' ys) (fun _ _ => False) s₃) (fun _ _ => False) s₂) (fun _ _ => False) { s₁ with heap := h', toks := tk', gens := G' }

theorem compBlockG {P : Heap → Prop} {RR : Value → Addr → Result → Shared → Prop} {elt target iter : Expr} {ifs : List Expr} {scope : Scope} {cl : List (Str × Addr)} {pos : Pos} {s₁ : Shared} (J : Nat → Heap → List Value → Prop)
    (hh : A.handled = none) (hroom : A.depth + 20 < recursionLimit) (hcell : ∀ y ∈ scope.names, y.2 ≠ .cell) (hkind : scope.kind = .function)
    (G : GG w g0) (hP : P g0) (N : GenNew prog w P G₀ L a outs s₁) (k0 : Keep g0 s₁.heap) (nL : g0.get? L = none) (hsz : outs.length ≤ sizeLine) (init : J 0 (hideAll s₁.heap [L]) []) (hJ : ∀ i B B' ys, Kf B B' → J i B ys → J i B' ys)
    (turn : ∀ i v, outs[i]? = some v → CompTurnG prog w A s₁ env scope cl target elt ifs a L J i v)
    (hRR : ∀ D C h' tk m' ys g', s₁.heap.get? D = none → s₁.heap.get? C = none → D ≠ C → Fm g' C m' [(D, LstO ys)] h' → Keep (hideAll s₁.heap [L]) g' → J outs.length g' ys → RR (.ref D) C (.ok .next) { s₁ with heap := h', toks := tk, gens := G₀.push .finished }) :
    wpAny (model prog w) A (pyIter (.ref a)) (fun it s₂ => wpAny (model prog w) A (newList []) (fun acc s₃ => wpAny (model prog w) A (newFunctionEnv scope env.globals cl [] env.qual none .none (some env)) (fun cenv s₄ =>
      codeAny (model prog w) A (.compStart (.ListComp elt [⟨target, iter, ifs, 0⟩] scope pos) 0 it acc { cenv with scope := relabel scope env }) (RR acc cenv.locals) s₄) E s₃) E s₂) E s₁ := by
  have gen0 := N.gen
  refine wpAny_pyIter_gen gen0 (wpAny_newObj_type (hd := by size_fits) (wpAny_newFunctionEnv hcell (by intro y hy; simp at hy) (fun h₁ hns₁ hsb₁ => ?_) hkind))
  dsimp only at hns₁ hsb₁ ⊢
  generalize hH2 : s₁.heap.push { cls := .type "list", dict := none, data := .seq ([] : List Value).toArray } = H2 at hns₁ hsb₁ ⊢
  have hC : H2.objs.size = s₁.heap.objs.size + 1 := by rw [← hH2, Heap.size_push]
  have hDC : s₁.heap.objs.size ≠ H2.objs.size := by omega
  have fresh : ∀ a, s₁.heap.objs.size ≤ a → s₁.heap.get? a = none := fun a ha => by
    cases e : s₁.heap.get? a with
    | none => rfl
    | some o' => exact absurd (Heap.lt_size e) (Nat.not_lt.mpr ha)
  have nD := get_size s₁.heap
  have nC : s₁.heap.get? H2.objs.size = none := fresh _ (by omega)
  have old : Keep s₁.heap h₁ := fun b o e => by
    exact hsb₁.extBut b o (fun q => by rw [q] at e; rw [nC] at e; cases e) (Heap.get?_push_of_some _ (hH2 ▸ Heap.get?_push_of_some _ e))
  have atD : At h₁ s₁.heap.objs.size (LstO []) := ⟨_, hsb₁.extBut _ _ hDC (Heap.get?_push_of_some _ (hH2 ▸ Heap.get?_push_size _ rfl)), 0, rfl⟩
  have N1 : ∀ tk, GenNew prog w P G₀ L a outs { s₁ with heap := h₁, toks := tk } := fun tk => by
    obtain ⟨⟨m₀, cod, eg, hns, fs⟩, _, hne⟩ := N
    exact ⟨⟨m₀, cod, eg, hns.keeps old, fs⟩, isGen_kept gen0 fun o e => old _ _ e, hne⟩
  have hne := N.ne
  have aliveL : ∃ o, s₁.heap.get? L = some o := by
    obtain ⟨⟨_, _, _, ⟨oL, _, _, e, _⟩, _⟩, _, _⟩ := N
    exact ⟨oL, e⟩
  have alivea : ∃ o, s₁.heap.get? a = some o := let ⟨o, _, _, e, _⟩ := gen0; ⟨o, e⟩
  clear hsb₁ N
  generalize H2.objs.size = C at hDC nC hns₁ ⊢
  generalize s₁.heap.objs.size = acc at hDC nD atD ⊢
  clear hC hH2 fresh
  have hLC : L ≠ C := fun q => by obtain ⟨o, e⟩ := aliveL; rw [q, nC] at e; cases e
  have hLD : L ≠ acc := fun q => by obtain ⟨o, e⟩ := aliveL; rw [q, nD] at e; cases e
  have haC : a ≠ C := fun q => by obtain ⟨o, e⟩ := alivea; rw [q, nC] at e; cases e
  have haD : a ≠ acc := fun q => by obtain ⟨o, e⟩ := alivea; rw [q, nD] at e; cases e
  have dC : C ≠ L ∧ ∃ o, h₁.get? C = some o := by obtain ⟨oL, _, _, e, _⟩ := hns₁; exact ⟨Ne.symm hLC, _, e⟩
  have dD : acc ≠ L ∧ ∃ o, h₁.get? acc = some o := by obtain ⟨o, e, _⟩ := atD; exact ⟨Ne.symm hLD, _, e⟩
  have bD : ∀ b o, (hideAll s₁.heap [L]).get? b = some o → (b ≠ L ∧ ∃ o, h₁.get? b = some o) ∧ b ≠ C ∧ b ≠ acc := fun b o e => by
    have e' := of_hideAll _ e
    refine ⟨⟨fun q => ?_, o, old _ _ e'⟩, fun q => ?_, fun q => ?_⟩
    · subst q; rw [hideAll_none _ (.head _)] at e; cases e
    · subst q; rw [nC] at e'; cases e'
    · subst q; rw [nD] at e'; cases e'
  have loop : ∀ tk, codeAny (model prog w) A (.compLoop (.ListComp elt [⟨target, iter, ifs, 0⟩] scope pos) 0 (.ref a) (.ref acc) (compEnvC scope cl C env)) (RR (.ref acc) C) { s₁ with heap := h₁, toks := tk } := by
    intro tk
    refine compLoopAny (I := fun n s' => ∃ i ys g' m' h' tk' G', n = outs.length - i ∧ i ≤ outs.length ∧ ys.length ≤ i ∧ s' = { s₁ with heap := h', toks := tk', gens := G' } ∧ Keep (hideAll s₁.heap [L]) g' ∧ Fm g' C m' [(acc, LstO ys)] h' ∧ J i g' ys ∧ h'.IsGen a G₀.size ∧
      GenSt prog w A g0 (fun b => b ≠ L ∧ ∃ o, h₁.get? b = some o) L (ValOf outs) G₀ (outs.length - i) { s₁ with heap := h', toks := tk', gens := G' }) ?turn outs.length
      ⟨0, [], hideAll s₁.heap [L], _, h₁, tk, s₁.gens, rfl, Nat.zero_le _, Nat.le_refl _, rfl, Keep.refl _, ⟨hns₁, fun b o e => old _ _ (of_hideAll _ e), ?gl, fun p hp => ?own, by simp⟩, init, (N1 tk).gen, (N1 tk).start (hs := []) hh hroom G hP (k0.trans old) nL (List.not_mem_nil)⟩
    case gl =>
      cases e : (hideAll s₁.heap [L]).get? C with
      | none => rfl
      | some o => exact absurd rfl (bD _ _ e).2.1
    case own =>
      rw [List.mem_singleton] at hp
      subst hp
      refine ⟨atD, ?_, hDC⟩
      cases e : (hideAll s₁.heap [L]).get? acc with
      | none => rfl
      | some o => exact absurd rfl (bD _ _ e).2.2
    rintro n s' ⟨i, ys, g', m', h', tk', G', hn, hi, hys, rfl, kg, F', hJ', hg', GS⟩
    refine genNext hh (G.nl.keeps GS.base) (by omega) hg' GS ?_ ?_
    · rintro k v s2 hk hval ⟨h2, tk2, gs, rfl⟩ hkp GS2
      dsimp only at hkp GS2 ⊢
      have hlt : i < outs.length := by omega
      have hv : outs[i]? = some v := by
        have e : outs.length - 1 - k = i := by omega
        have : outs[outs.length - 1 - k]? = some v := hval
        rwa [e] at this
      have oC : ∀ o, h'.get? C = some o → h2.get? C = some o := fun o e => hkp _ _ e (.inl dC)
      obtain ⟨oL, es, ep, hoC, rC⟩ := F'.ns
      obtain ⟨oA, hoA, pA⟩ := F'.at_ (.head _)
      have ownA := F'.own _ (.head _)
      have F2 : Fm (hideAll h2 [C, acc]) C m' [(acc, LstO ys)] h2 := ⟨⟨oL, es, ep, oC _ hoC, rC⟩, fun b o e => of_hideAll _ e, hideAll_none _ (.head _), fun p hp => by
        rw [List.mem_singleton] at hp
        subst hp
        exact ⟨⟨oA, hkp _ _ hoA (.inl dD), pA⟩, hideAll_none _ (.tail _ (.head _)), ownA.2.2⟩, by simp⟩
      have kf2 : Kf g' (hideAll h2 [C, acc]) := fun b o e f => hideAll_get _ (hkp _ _ (F'.keep _ _ e) (.inr f)) fun hm => by
        rcases List.mem_cons.mp hm with rfl | hm
        · rw [F'.gL] at e; cases e
        · rw [List.mem_singleton] at hm; subst hm
          rw [ownA.2.1] at e; cases e
      have kb2 : Keep (hideAll s₁.heap [L]) (hideAll h2 [C, acc]) := fun b o e => hideAll_get _ (hkp _ _ (F'.keep _ _ (kg _ _ e)) (.inl (bD _ _ e).1)) fun hm => by
        rcases List.mem_cons.mp hm with rfl | hm
        · exact (bD _ _ e).2.1 rfl
        · rw [List.mem_singleton] at hm; exact (bD _ _ e).2.2 hm
      have back : ∀ {g3 m3 h3 zs}, Keep (hideAll h2 [C, acc]) g3 → Fm g3 C m3 [(acc, LstO zs)] h3 → ∀ tk3, h3.IsGen a G₀.size ∧ GenSt prog w A g0 (fun b => b ≠ L ∧ ∃ o, h₁.get? b = some o) L (ValOf outs) G₀ k { s₁ with heap := h3, toks := tk3, gens := G₀.push gs } := fun {g3 m3 h3 zs} k3 F3 tk3 => by
        have kk := k3.trans F3.keep
        refine ⟨isGen_kept hg' fun o e => kk _ _ (hideAll_get _ (hkp _ _ e (.inl ⟨Ne.symm hne, ?_⟩)) (by simp [haC, haD])), GS2.turn (hs := [C, acc]) kk (fun b hb => ?_) (fun b hb => ?_) (fun b hb => ?_)⟩
        · obtain ⟨o', e'⟩ := alivea; exact ⟨o', old _ _ e'⟩
        · rcases List.mem_cons.mp hb with rfl | hb
          · obtain ⟨o3, _, _, e3, _⟩ := F3.ns; exact ⟨_, e3⟩
          · rw [List.mem_singleton] at hb; subst hb; obtain ⟨o3, e3, _⟩ := F3.at_ (.head _); exact ⟨_, e3⟩
        · rcases List.mem_cons.mp hb with rfl | hb
          · exact dC
          · rw [List.mem_singleton] at hb; subst hb; exact dD
        · rcases List.mem_cons.mp hb with rfl | hb
          · exact none_keep k0 nC
          · rw [List.mem_singleton] at hb; subst hb; exact none_keep k0 nD
      have hk' : outs.length - (i + 1) = k := by omega
      refine wpAny_mono (turn i v hv C acc ys _ m' h2 tk2 (G₀.push gs) (hJ _ _ _ _ kf2 hJ') kb2 F2) (fun _ s₁ h₁ => wpAny_mono h₁ (fun _ s₂ h₂ => wpAny_mono h₂ (fun ok s₃ hf => ?_) fun _ _ x => x) fun _ _ x => x) fun _ _ x => x
      cases ok with
      | true =>
        rw [if_pos rfl] at hf ⊢
        refine wpAny_mono hf (fun x s₄ h₄ => ?_) fun _ _ x => x
        obtain ⟨g'', m'', h3, tk'', rfl, kg'', F3, hJ3⟩ := h₄
        refine appL F3 .head (by omega) fun h4 F4 => ?_
        obtain ⟨b1, b2⟩ := back kg'' F4 tk''
        exact ⟨outs.length - (i + 1), by omega, i + 1, ys ++ [x], g'', m'', h4, tk'', _, rfl, hlt, by simp; omega, rfl, kb2.trans kg'', F4, hJ3, b1, by rw [hk']; exact b2⟩
      | false =>
        rw [if_neg Bool.false_ne_true] at hf ⊢
        obtain ⟨g'', m'', h3, tk'', rfl, kg'', F3, hJ3⟩ := hf
        obtain ⟨b1, b2⟩ := back kg'' F3 tk''
        exact ⟨outs.length - (i + 1), by omega, i + 1, ys, g'', m'', h3, tk'', _, rfl, hlt, by omega, rfl, kb2.trans kg'', F3, hJ3, b1, by rw [hk']; exact b2⟩
    · rintro s2 h0 ⟨h2, tk2, rfl⟩ hkp
      dsimp only at hkp ⊢
      have hi' : i = outs.length := by omega
      subst hi'
      obtain ⟨oL, es, ep, hoC, rC⟩ := F'.ns
      obtain ⟨oA, hoA, pA⟩ := F'.at_ (.head _)
      have ownA := F'.own _ (.head _)
      have F2 : Fm (hideAll h2 [C, acc]) C m' [(acc, LstO ys)] h2 := ⟨⟨oL, es, ep, hkp _ _ hoC (.inl dC), rC⟩, fun b o e => of_hideAll _ e, hideAll_none _ (.head _), fun p hp => by
        rw [List.mem_singleton] at hp
        subst hp
        exact ⟨⟨oA, hkp _ _ hoA (.inl dD), pA⟩, hideAll_none _ (.tail _ (.head _)), ownA.2.2⟩, by simp⟩
      have kf2 : Kf g' (hideAll h2 [C, acc]) := fun b o e f => hideAll_get _ (hkp _ _ (F'.keep _ _ e) (.inr f)) fun hm => by
        rcases List.mem_cons.mp hm with rfl | hm
        · rw [F'.gL] at e; cases e
        · rw [List.mem_singleton] at hm; subst hm
          rw [ownA.2.1] at e; cases e
      have kb2 : Keep (hideAll s₁.heap [L]) (hideAll h2 [C, acc]) := fun b o e => hideAll_get _ (hkp _ _ (F'.keep _ _ (kg _ _ e)) (.inl (bD _ _ e).1)) fun hm => by
        rcases List.mem_cons.mp hm with rfl | hm
        · exact (bD _ _ e).2.1 rfl
        · rw [List.mem_singleton] at hm; exact (bD _ _ e).2.2 hm
      exact hRR _ _ _ _ _ _ _ nD nC hDC F2 kb2 (hJ _ _ _ _ kf2 hJ')
  exact codeAny_compStart_list (loop _) (wpAny_pyIter_gen (N1 s₁.toks).gen (loop _))

/-- a comprehension over a generator that a call has just made -/
theorem compG {P : Heap → Prop} {elt target iter : Expr} {ifs : List Expr} {scope : Scope} {cl : List (Str × Addr)} {pos : Pos} {Q : Value → Shared → Prop} (J : Nat → Heap → List Value → Prop)
    (hclos : closureFor scope env = pure cl) (hcell : ∀ y ∈ scope.names, y.2 ≠ .cell) (hkind : scope.kind = .function) (hnames : ∀ y ∈ scope.names, y.2 = .local → scope.names.lookup y.1 = some .local) (hh : A.handled = none) (hroom : A.depth + 20 < recursionLimit)
    (h : wpAny (model prog w) A (eval iter env) (fun v s₁ => ∃ a L g0 G₀ outs, v = .ref a ∧ GG w g0 ∧ P g0 ∧ GenNew prog w P G₀ L a outs s₁ ∧ Keep g0 s₁.heap ∧ g0.get? L = none ∧ outs.length ≤ sizeLine ∧ J 0 (hideAll s₁.heap [L]) [] ∧ (∀ i B B' ys, Kf B B' → J i B ys → J i B' ys) ∧
      (∀ i v, outs[i]? = some v → CompTurnG prog w A s₁ env scope cl target elt ifs a L J i v) ∧
      ∀ D h' tk ys g', s₁.heap.get? D = none → Keep (hideAll s₁.heap [L]) g' → Keep g' h' → At h' D (LstO ys) → J outs.length g' ys → Q (.ref D) { s₁ with heap := h', toks := tk, gens := G₀.push .finished }) E s)
    (hs : ∀ x, foldedSetIterable iter env x = pure x := by intro _; rfl) :
    wpAny (model prog w) A (eval (.ListComp elt [⟨target, iter, ifs, 0⟩] scope pos) env) Q E s := by
  rw [eval_ListComp]
  refine wpAny_comprehension_free (use := none) rfl hs hclos hkind hnames (wpAny_mono h (fun v s₁ h₁ => ?_) fun _ _ e => e)
  obtain ⟨a, L, g0, G₀, outs, rfl, G, hP, N, k0, nL, hsz, init, hJ, turn, hQ⟩ := h₁
  refine compBlockG (RR := fun acc C => compPost (model prog w) A E none Q acc C) J hh hroom hcell hkind G hP N k0 nL hsz init hJ turn ?_
  intro D C h' tk m' ys g' nD nC hDC F' kg hJ'
  refine ⟨m', F'.ns, fun h'' hs'' => ?_⟩
  have k'' : Keep g' h'' := fun b o e => hs''.extBut b o (fun q => by subst q; rw [F'.gL] at e; cases e) (F'.keep b o e)
  exact hQ D h'' tk ys g' nD kg k'' ((F'.at_ (.head _)).same hs'' hDC) hJ'
end
end
section
local macro_rules | `(tactic| walk_at "GG") => `(tactic| first | assumption | exact GG.keep (by assumption) (Fm.keep (by assumption)))
local macro_rules | `(tactic| walk_at "AT") => `(tactic| first | assumption | exact Fm.at_ (by assumption) (by k_mem) | exact At.keep (by assumption) (Fm.keep (by assumption)))
local macro_rules | `(tactic| walk_at "CHG") => `(tactic| repeat (first | exact Chg.head | apply Chg.tail))
local macro_rules | `(tactic| walk_at "LIST") => `(tactic| first | exact isList_keep (by assumption) (Fm.keep (by assumption)) | exact isList_of (Fm.at_ (by assumption) (by k_mem)) | exact isList_of (by walk_at "AT"))
local macro_rules | `(tactic| walk_at "NUM") => `(tactic| first | decide | omega | (simp only [List.length_cons, List.length_nil]; omega))
local macro_rules | `(tactic| walk_at "eval Name") => `(tactic| first
  | (refine lv (by assumption) (by first | rfl | assumption) ?_)
  | (k_dflt (refine' gv ?G ?e ?_; (case G => walk_at "GG"); (case e => k_is); k_whole))
  | (k_dflt (refine' bv ?G ?e ?v ?_; (case G => walk_at "GG"); (case e => k_is); (case v => boot_by_name); k_whole)))
local macro_rules | `(tactic| walk_at "loadName") => `(tactic| (refine lvN (by assumption) (by first | rfl | assumption) ?_))
local macro_rules | `(tactic| walk_at "eval Constant int") => `(tactic| (with_reducible refine ci ?_; intro t' tk'))
local macro_rules | `(tactic| walk_at "eval Constant str") => `(tactic| (with_reducible refine cs ?_; intro t' tk'))
local macro_rules | `(tactic| walk_at "storeName") => `(tactic| (refine svT (by assumption) ?_; intro h' tk' F'))
local macro_rules | `(tactic| walk_at "binaryOp Add int int") => `(tactic| (with_reducible refine addI ?_; intro t' tk'))
local macro_rules | `(tactic| walk_at "inplaceOp Add int int") => `(tactic| (with_reducible refine iaddI ?_; intro t' tk'))
local macro_rules | `(tactic| walk_at "binaryOp Mod int int") => `(tactic| (refine modI (by omega) ?_; intro r' t' tk' hr1 hr2))
local macro_rules | `(tactic| walk_at "binaryOp FloorDiv int int") => `(tactic| (refine fdivI (by omega) (by omega) (by omega) (by omega) ?_; intro r' t' tk' hr1 hr2))
local macro_rules | `(tactic| walk_at "PART") => `(tactic| first | exact IsPart.none | exact IsPart.int _ _)
local macro_rules | `(tactic| walk_at "PICK") => `(tactic| first | exact pick_upto (by omega) | exact pick_run (by omega))
local macro_rules | `(tactic| walk_at "subscriptTail") => `(tactic| (k_dflt (first
  | ((with_reducible show wpAny _ _ (subscriptTail _ _ (Value.ref _) (Value.ref _)) _ _ _); refine' sliceL ?F ?x ?pl ?pu ?z ?e ?_; (case F => assumption); (case x => k_mem); (case pl => walk_at "PART"); (case pu => walk_at "PART"); (case z => walk_at "SZ"); (case e => walk_at "PICK"); k_whole; intro b' h' kp' F')
  | (refine' subL ?x ?a ?b ?c ?_; (case x => walk_at "AT"); (case a => walk_at "NUM"); (case b => walk_at "NUM"); (case c => first | rfl | assumption); k_whole)
  | (refine' sub2 ?x ?a ?_ ?_; (case x => walk_at "AT"); (case a => omega))
  | (refine' subM ?x ?T ?a ?b ?c ?_; (case x => walk_at "AT"); (case T => assumption); (case a => walk_at "NUM"); (case b => walk_at "NUM"); (case c => omega); k_whole; intro b' hR'))))
local macro_rules | `(tactic| walk_at "subscriptTail Subscript") => `(tactic| (k_dflt (refine' subScr ?x ?i ?a ?b ?c ?_; (case x => walk_at "LIST"); (case i => assumption); (case a => omega); (case b => omega); (case c => omega); k_whole); intro j' t'))
local macro_rules | `(tactic| walk_at "setItem") => `(tactic| (k_dflt (refine' setF ?F ?x ?a ?b ?c ?_; (case F => assumption); (case x => walk_at "CHG"); (case a => walk_at "NUM"); (case b => walk_at "NUM"); (case c => walk_at "NUM"); k_whole); intro h' F'; (try simp only [List.set_cons_zero, List.set_cons_succ, Int.reduceToNat] at F')))
local macro_rules | `(tactic| walk_at "call builtin:len") => `(tactic| (k_dflt (refine' lenI ?x ?a ?_; (case x => walk_at "LIST"); (case a => omega); k_whole); intro t' tk'))
local macro_rules | `(tactic| walk_at "SZ") => `(tactic| first | (rw [sizeLine_eq]; (try simp only [List.length_append, List.length_cons, List.length_nil, List.length_take]); omega) | size_fits)
local macro_rules | `(tactic| walk_at "callWith ref") => `(tactic| (k_dflt (refine' callG ?k1 ?k2 ?_; (case k1 => k_is); (case k2 => exact rfl))))
local macro_rules | `(tactic| walk_at "newList") => `(tactic| (refine newL (by assumption) (by walk_at "SZ") ?_; intro a' h' kp' F'))
local macro_rules | `(tactic| walk_at "newTuple") => `(tactic| (refine newT (by assumption) (by walk_at "SZ") ?_; intro a' h' kp' hat' F'))
local macro_rules | `(tactic| walk_at "eval Slice") => `(tactic| refine sliceF ?_)
local macro_rules | `(tactic| walk_at "Exists") => `(tactic| (refine ⟨_, _, _, _, by assumption, ?_⟩; intro a' h' kp' F'))
local macro_rules | `(tactic| walk_at "getMethod ref") => `(tactic| (k_dflt (first | refine methApp (by walk_at "AT") ?_ | refine methClr (by walk_at "AT") ?_)))
local macro_rules | `(tactic| walk_at "call builtin:list.append") => `(tactic| (k_dflt (refine' appL ?F ?c ?z ?_; (case F => assumption); (case c => walk_at "CHG"); (case z => walk_at "SZ"); k_whole); intro h' F'))
local macro_rules | `(tactic| walk_at "call builtin:list.clear") => `(tactic| (k_dflt (refine' clrL ?F ?c ?z ?_; (case F => assumption); (case c => walk_at "CHG"); (case z => walk_at "SZ"); k_whole); intro h' F'))
local macro_rules | `(tactic| walk_at "call type:range") => `(tactic| (refine range1 (by assumption) ?_; intro a' h' tk' kp' F'))
local macro_rules | `(tactic| walk_at "pyIter ref") => `(tactic| (k_dflt (refine' iterR ?F ?a ?b ?_; (case F => assumption); (case a => omega); (case b => omega); k_whole); intro it' h' kp' F'))
local macro_rules | `(tactic| walk_at "binaryOp Add ref ref") => `(tactic| (k_dflt (refine' addL ?F ?x ?y ?z ?_; (case F => assumption); (case x => walk_at "AT"); (case y => walk_at "AT"); (case z => walk_at "SZ"); k_whole); intro a' h' kp' F'))
local macro_rules | `(tactic| walk_at "exec For") => `(tactic| refine wpAny_For ?_)
local macro_rules | `(tactic| walk_at "DEPTH") => `(tactic| first | omega | ((try simp only [depth_deeper, depth_in1]); omega))
local macro_rules | `(tactic| walk_at "MUT") => `(tactic| repeat (first | exact Muts.nil | refine Muts.cons (by first | exact mutL | exact mutI | exact mutRI | exact mutR | exact mutS | exact mutCO) ?_))
local macro_rules | `(tactic| walk_at "CALL") => `(tactic| fail)
local macro_rules | `(tactic| walk_at "codeAny call") => `(tactic| walk_at "CALL")
local macro_rules | `(tactic| walk_at "FITS") => `(tactic| repeat (first | exact Fits.nil | exact Pull.head | apply Fits.cons | apply Pull.tail))
local macro_rules | `(tactic| walk_at "truthy ref") => `(tactic| (k_dflt (refine' truthyL ?x ?z ?_; (case x => walk_at "AT"); (case z => walk_at "SZ"); k_whole); intro tk'))
local macro_rules | `(tactic| walk_at "SETS") => `(tactic| first | exact setX (by walk_at "GG") | exact setI (by walk_at "GG") | exact setV (by walk_at "GG"))
local macro_rules | `(tactic| walk_at "compareOp In int ref") => `(tactic| (k_dflt (refine' inSet ?S ?_; (case S => walk_at "SETS"); k_whole); intro tk'))
local macro_rules | `(tactic| walk_at "compareOp NotIn int ref") => `(tactic| (k_dflt (refine' notInSet ?S ?_; (case S => walk_at "SETS"); k_whole); intro tk'))
local macro_rules | `(tactic| walk_at "compareOp In int ref") => `(tactic| (k_dflt (refine' inInts ?x ?I ?_; (case x => walk_at "AT"); (case I => assumption); k_whole)))
local macro_rules | `(tactic| walk_at "compareOp NotIn int ref") => `(tactic| (k_dflt (refine' notInInts ?x ?I ?_; (case x => walk_at "AT"); (case I => assumption); k_whole)))
local macro_rules | `(tactic| walk_at "assign Tuple") => `(tactic| (k_dflt (refine' asgT ?hh ?F ?x ?n ?st ?_; (case hh => assumption); (case F => assumption); (case x => walk_at "AT"); (case n => rfl); (case st => rfl); k_whole); intro h' kp' F'))
local macro_rules | `(tactic| walk_at "unpackItems ref") => `(tactic| (k_dflt (refine' unpI ?hh ?F ?x ?n ?_; (case hh => assumption); (case F => assumption); (case x => walk_at "AT"); (case n => rfl); k_whole); intro h' kp' F'))
local macro_rules | `(tactic| walk_at "pyIter ref") => `(tactic| (k_dflt (refine' iterL ?F ?x ?_; (case F => assumption); (case x => walk_at "AT"); k_whole); intro it' h' kp' F'))
local macro_rules | `(tactic| walk_at "newTuple") => `(tactic| (refine newTO (by assumption) (by walk_at "SZ") ?_; intro a' h' kp' F'))
/-- the law's own filter of points -/
structure LS where
  found : List (Int × Str)
  part : List (Int × Str)
  due : Option Int
  last : Int
def LS.rest (p : LS) : List (Int × Str) := if 1 < p.part.length then p.part else []
def oC : List Int := [20, 21, 22, 23, 24, 25, 26, 27, 28, 120, 121, 122, 220, 221, 222, 223, 1020, 1021, 1022, 1023, 30, 31, 32, 33, 34, 35, 36, 37, 130, 131, 132, 230, 231, 232, 233, 1030, 1031, 1032, 1033]
def LS.flush (p : LS) (c : Int) : LS := if 0 < p.part.length ∧ some c ≠ p.due then { p with found := p.found ++ p.rest, part := [] } else p
theorem LS.flush_no1 {f prt : List (Int × Str)} {d : Option Int} {l c : Int} (h : ¬ 0 < prt.length) : LS.flush ⟨f, prt, d, l⟩ c = ⟨f, prt, d, l⟩ := if_neg fun q => h q.1
theorem LS.flush_no2 {f prt : List (Int × Str)} {l c k : Int} (h : c = k) : LS.flush ⟨f, prt, some k, l⟩ c = ⟨f, prt, some k, l⟩ := if_neg fun q => q.2 (congrArg some h)
theorem LS.flush_yes {f prt r : List (Int × Str)} {d : Option Int} {l c : Int} (h : 0 < prt.length) (h2 : some c ≠ d) (hr : (if 1 < prt.length then prt else []) = r) : LS.flush ⟨f, prt, d, l⟩ c = ⟨f ++ r, [], d, l⟩ := by
  subst hr; exact if_pos ⟨h, h2⟩
def LS.next (p : LS) (c : Int) (v : Str) : LS :=
  if c ∈ xC then { p with part := [(c, v)], due := some (c + 10), last := c + 20 }
  else if some c = p.due then { p with part := p.part ++ [(c, v)], due := if c < p.last then some (c + 10) else none }
  else if c ∈ oC then p else { p with found := p.found ++ [(c, v)] }
theorem LS.next_x {p : LS} {c : Int} {v : Str} (h : c ∈ xC) : p.next c v = { p with part := [(c, v)], due := some (c + 10), last := c + 20 } := if_pos h
theorem LS.next_due {f q : List (Int × Str)} {l c k : Int} {v : Str} (h : ¬ c ∈ xC) (h2 : c = k) : LS.next ⟨f, q, some k, l⟩ c v = ⟨f, q ++ [(c, v)], if c < l then some (c + 10) else none, l⟩ := by
  unfold LS.next; rw [if_neg h]; exact if_pos (congrArg some h2)
theorem LS.next_skip {p : LS} {c : Int} {v : Str} (h : ¬ c ∈ xC) (h2 : some c ≠ p.due) (h3 : c ∈ oC) : p.next c v = p := by
  unfold LS.next; rw [if_neg h, if_neg h2]; exact if_pos h3
theorem LS.next_add {p : LS} {c : Int} {v : Str} (h : ¬ c ∈ xC) (h2 : some c ≠ p.due) (h3 : ¬ c ∈ oC) : p.next c v = { p with found := p.found ++ [(c, v)] } := by
  unfold LS.next; rw [if_neg h, if_neg h2]; exact if_neg h3
def LS.run (p : LS) : List (Int × Str) → List (Int × Str)
  | [] => p.found ++ p.rest
  | (c, v) :: r => ((p.flush c).next c v).run r
inductive DueIs : Value → Option Int → Prop where
  | none : DueIs .none none
  | int (k : Int) (t : Tok) : DueIs (.int k t) (some k)
section
variable {prog : Program} {w : World} {A : Around} {E : Value → Shared → Prop} {s : Shared} {g : Heap} {L x : Addr} {m : Str → Option Value} {l : List (Addr × (Obj → Prop))}

theorem points_ok {h : Heap} {ax : Addr} {vs : List Value} {rows : List (Int × Str)} (G : GG w h) (hx : At h ax (LstO vs)) (hT : Tups h vs rows) (hlen : rows.length ≤ 30) (hh : A.handled = none) (hroom : A.depth + 10 < recursionLimit) :
    CallT prog w A 159 [.ref ax] h (fun v h' => ∃ l us, v = .ref l ∧ At h' l (LstO us) ∧ Tups h' us (LS.run ⟨[], [], none, 0⟩ rows) ∧ Keep h h') := by
  intro s R hs hR
  subst hs
  refine enter (binds := [(Str.ofString "rows", .ref ax)]) G (by k_is) (by k_is) (by omega) rfl (locs rfl) ?_
  intro L h₁ tk1 hLe hn hk hL
  have F := Fm.start0 hn hk hL
  show wpAny _ _ _ _ _ _
  k_fold
  repeat' (first | ((fail_if_success (with_reducible show wpAny _ _ (eval (PySem.Expr.ListComp _ _ _ _) _) _ _ _)); (fail_if_success (with_reducible show wpAny _ _ (exec (PySem.Stmt.While _ _ _ _) _) _ _ _)); walk1) | (dsimp only; (fail_if_success (with_reducible show wpAny _ _ (eval (PySem.Expr.ListComp _ _ _ _) _) _ _ _)); (fail_if_success (with_reducible show wpAny _ _ (exec (PySem.Stmt.While _ _ _ _) _) _ _ _)); walk1))
  rename Fm _ _ _ _ _ => F1
  obtain ⟨fs, hI, hfl, F1⟩ := F1.intsHead (ns := xC) (by repeat constructor)
  have hfl : fs.length = 20 := hfl
  refine compL (cl := []) (J := fun i _ ys => IntsAre ys ((xC.take i).map (· + 10))) (closureFor_none (by decide)) (by decide) rfl (by decide) (by assumption) ?_
  walk1
  rename Fm _ _ _ _ _ => FC
  refine ⟨_, _, _, _, _, _, rfl, FC.at_ (by k_mem), by walk_at "SZ", FC, .nil, ?turn, ?fin⟩
  case turn =>
    rintro i v hv C it acc ys g' m' h' tk' hJ kg F'
    obtain ⟨k, t, rfl, hk'⟩ := ints_at hI hv
    refine goName F' (fun h2 tk2 F2 => ?_)
    refine wpAny_tests_nil ?_
    rw [if_pos rfl]
    k_fold
    repeat' (first | ((fail_if_success (with_reducible show wpAny _ _ (eval (PySem.Expr.ListComp _ _ _ _) _) _ _ _)); (fail_if_success (with_reducible show wpAny _ _ (exec (PySem.Stmt.While _ _ _ _) _) _ _ _)); (fail_if_success (with_reducible show Exists _)); walk1) | (dsimp only; (fail_if_success (with_reducible show wpAny _ _ (eval (PySem.Expr.ListComp _ _ _ _) _) _ _ _)); (fail_if_success (with_reducible show wpAny _ _ (exec (PySem.Stmt.While _ _ _ _) _) _ _ _)); (fail_if_success (with_reducible show Exists _)); walk1))
    (try dsimp only)
    (try k_unfold)
    (try dsimp only)
    exact ⟨_, _, _, _, rfl, kg, by assumption, ints_map hJ hk'⟩
  case fin =>
    rintro D h' tk ys g' kg1 kg2 F2 hJ
    have hJ : IntsAre ys (xC.map (· + 10)) := by rw [hfl] at hJ; exact hJ
    have hyl : ys.length = 20 := hJ.length
    clear FC F1
    repeat' (first | ((fail_if_success (with_reducible show wpAny _ _ (eval (PySem.Expr.ListComp _ _ _ _) _) _ _ _)); (fail_if_success (with_reducible show wpAny _ _ (exec (PySem.Stmt.While _ _ _ _) _) _ _ _)); walk1) | (dsimp only; (fail_if_success (with_reducible show wpAny _ _ (eval (PySem.Expr.ListComp _ _ _ _) _) _ _ _)); (fail_if_success (with_reducible show wpAny _ _ (exec (PySem.Stmt.While _ _ _ _) _) _ _ _)); walk1))
    refine compL (cl := []) (J := fun i _ ys => IntsAre ys (((xC.take i).filter (fun k => decide (k ≠ 18))).map (· + 20))) (closureFor_none (by decide)) (by decide) rfl (by decide) (by assumption) ?_
    walk1
    rename Fm _ _ _ _ _ => FC
    refine ⟨_, _, _, _, _, _, rfl, FC.at_ (by k_mem), by walk_at "SZ", FC, .nil, ?turn, ?fin⟩
    case turn =>
      rintro i v hv C it acc ys g' m' h' tk' hJ kg F'
      obtain ⟨k, t, rfl, hk'⟩ := ints_at hI hv
      refine goName F' (fun h2 tk2 F2 => ?_)
      refine wpAny_tests_one ?_
      k_fold
      repeat' (first | ((fail_if_success (with_reducible show wpAny _ _ (eval (PySem.Expr.ListComp _ _ _ _) _) _ _ _)); (fail_if_success (with_reducible show wpAny _ _ (exec (PySem.Stmt.While _ _ _ _) _) _ _ _)); (fail_if_success (with_reducible show Exists _)); walk1) | (dsimp only; (fail_if_success (with_reducible show wpAny _ _ (eval (PySem.Expr.ListComp _ _ _ _) _) _ _ _)); (fail_if_success (with_reducible show wpAny _ _ (exec (PySem.Stmt.While _ _ _ _) _) _ _ _)); (fail_if_success (with_reducible show Exists _)); walk1))
      all_goals (try dsimp only)
      all_goals (try k_unfold)
      · rename _ ≠ _ => c1
        exact ⟨_, _, _, _, rfl, kg, by assumption, ints_filt hJ hk' (by simpa using c1)⟩
      · rename_i c1
        exact ⟨_, _, _, _, rfl, kg, by assumption, ints_skip hJ hk' (by simpa using c1)⟩
    case fin =>
      rintro D h' tk ys2 g' kg1 kg2 F3 hJ2
      have hJ2 : IntsAre ys2 ((xC.filter (fun k => decide (k ≠ 18))).map (· + 20)) := by rw [hfl] at hJ2; exact hJ2
      have hyl2 : ys2.length = 19 := hJ2.length
      clear FC
      have hO : IntsAre (ys ++ ys2) oC := ints_append hJ hJ2
      repeat' (first | walk1 | (dsimp only; walk1))
      rename Fm _ _ _ _ _ => F4
      have F4 := F4.fits (l' := [(_, IterO ax 0), (_, LstO []), (_, LstO []), (_, LstO (ys ++ ys2)), (_, LstO fs)]) (by walk_at "FITS")
      rename Addr => it0
      refine' forList (it := it0) (J := fun i g' m' l' => ∃ fa pa oa fi fsl psl p dv lt, l' = [(pa, LstO psl), (fa, LstO fsl), (oa, LstO (ys ++ ys2)), (fi, LstO fs)] ∧ m' (Str.ofString "first") = some (.ref fi) ∧ m' (Str.ofString "others") = some (.ref oa) ∧ m' (Str.ofString "found") = some (.ref fa) ∧ m' (Str.ofString "part") = some (.ref pa) ∧
        m' (Str.ofString "due") = some dv ∧ DueIs dv (LS.due p) ∧ m' (Str.ofString "last") = some (.int p.last lt) ∧ Tups g' fsl p.found ∧ Tups g' psl p.part ∧ LS.run ⟨[], [], none, 0⟩ rows = p.run (rows.drop i) ∧ fsl.length + psl.length ≤ i) hh F4 hx ?init ?turn ?fin
      case init => exact ⟨_, _, _, _, _, _, ⟨[], [], none, 0⟩, _, _, rfl, rfl, rfl, rfl, rfl, rfl, .none, rfl, .nil, .nil, rfl, Nat.le_refl _⟩
      case fin =>
        rintro g3 m3 l3 h3 tk3 ⟨fa, pa, oa, fi, fsl, psl, p, dv, lt, rfl, m1, m2, m3', m4, m5, hd, m6, T1, T2, hr, hle⟩ kg3 F5
        have hd3 : rows.drop vs.length = [] := by rw [hT.length]; simp
        rw [hd3] at hr
        have hr : LS.run ⟨[], [], none, 0⟩ rows = p.found ++ (if 1 < p.part.length then p.part else []) := hr
        have Gg := G.keep kg3
        have hvl := hT.length
        have l1 := T1.length
        have l2 := T2.length
        dsimp only
        repeat' (first | walk1 | (dsimp only; walk1))
        all_goals (try dsimp only)
        all_goals (try k_unfold)
        all_goals rename Fm _ _ _ _ _ => F6
        · rename_i c1
          refine hR _ _ _ ⟨_, _, rfl, F6.at_ (.head _), ?_, kg3.trans F6.keep⟩
          rw [hr, if_pos (by omega)]
          exact (T1.append T2).keep F6.keep
        · rename_i c1
          refine hR _ _ _ ⟨_, _, rfl, F6.at_ (.head _), ?_, kg3.trans F6.keep⟩
          rw [hr, if_neg (by omega)]
          exact (T1.append .nil).keep F6.keep
      case turn =>
        rintro i v g3 m3 l3 h3 tk3 hv ⟨fa, pa, oa, fi, fsl, psl, p, dv, lt, rfl, m1, m2, m3', m4, m5, hd, m6, T1, T2, hr, hle⟩ kg3 F5
        have Gg := G.keep kg3
        have l1 := T1.length
        have l2 := T2.length
        have hlt : i < vs.length := (List.getElem?_eq_some_iff.mp hv).1
        have hvl := hT.length
        obtain ⟨a', c, tx, t1, u1, hv', hrow, hat⟩ := hT.get i hlt
        rw [hv] at hv'
        cases hv'
        have hdr : rows.drop i = (c, tx) :: rows.drop (i + 1) := by
          obtain ⟨hlt, e⟩ := List.getElem?_eq_some_iff.mp hrow
          rw [List.drop_eq_getElem_cons hlt, e]
        rw [hdr] at hr
        have hr : LS.run ⟨[], [], none, 0⟩ rows = ((p.flush c).next c tx).run (rows.drop (i + 1)) := hr
        refine goPair hh F5 (.head _) (hat.keep (kg3.trans F5.keep)) (fun h4 tk4 F6 => ?_)
        clear F5 hdr hat hv
        dsimp only
        obtain ⟨fnd, prt, due, lst⟩ := p
        dsimp only at hd m6 T1 T2 hr l1 l2
        walk1
        refine wpAny_mono (Q := fun f s' => f = .next ∧ ∃ g4 m4 h4 tk4 fa' pa' fsl' psl' fd1 pt1, s' = { s with heap := h4, toks := tk4 } ∧ Keep g3 g4 ∧ Fm g4 L m4 [(it0, IterO ax (i + 1)), (pa', LstO psl'), (fa', LstO fsl'), (oa, LstO (ys ++ ys2)), (fi, LstO fs)] h4 ∧
          m4 (Str.ofString "first") = some (.ref fi) ∧ m4 (Str.ofString "others") = some (.ref oa) ∧ m4 (Str.ofString "found") = some (.ref fa') ∧ m4 (Str.ofString "part") = some (.ref pa') ∧ m4 (Str.ofString "due") = some dv ∧ m4 (Str.ofString "last") = some (.int lst lt) ∧
          m4 (Str.ofString "code") = some (.int c t1) ∧ m4 (Str.ofString "value") = some (.str tx u1) ∧ Tups g4 fsl' fd1 ∧ Tups g4 psl' pt1 ∧ LS.flush ⟨fnd, prt, due, lst⟩ c = ⟨fd1, pt1, due, lst⟩ ∧ fsl'.length + psl'.length ≤ i) ?first (fun f s' hm => ?rest) (fun _ _ x => x)
        case first =>
          cases hd with
          | none =>
            k_fold
            repeat' (first | ((fail_if_success (with_reducible show wpAny _ _ (eval (PySem.Expr.ListComp _ _ _ _) _) _ _ _)); (fail_if_success (with_reducible show wpAny _ _ (exec (PySem.Stmt.While _ _ _ _) _) _ _ _)); (fail_if_success (with_reducible show Exists _)); walk1) | (dsimp only; (fail_if_success (with_reducible show wpAny _ _ (eval (PySem.Expr.ListComp _ _ _ _) _) _ _ _)); (fail_if_success (with_reducible show wpAny _ _ (exec (PySem.Stmt.While _ _ _ _) _) _ _ _)); (fail_if_success (with_reducible show Exists _)); walk1))
            all_goals rename Fm _ _ _ _ _ => F7
            · rename_i c1
              exact ⟨g3, _, _, _, _, _, _, _, _, _, rfl, Keep.refl _, F7.fits (l' := [(it0, IterO ax (i + 1)), (_, LstO []), (_, LstO (fsl ++ psl)), (oa, LstO (ys ++ ys2)), (fi, LstO fs)]) (by walk_at "FITS"), m1, m2, rfl, rfl, m5, m6, rfl, rfl, T1.append T2, .nil, LS.flush_yes (by omega) (by simp) (if_pos (by omega)), by simp; omega⟩
            · rename_i c1
              exact ⟨g3, _, _, _, _, _, _, _, _, _, rfl, Keep.refl _, F7.fits (l' := [(it0, IterO ax (i + 1)), (_, LstO []), (_, LstO (fsl ++ [])), (oa, LstO (ys ++ ys2)), (fi, LstO fs)]) (by walk_at "FITS"), m1, m2, rfl, rfl, m5, m6, rfl, rfl, T1.append .nil, .nil, LS.flush_yes (by omega) (by simp) (if_neg (by omega)), by simp; omega⟩
            · rename_i c1
              exact ⟨g3, _, _, _, _, _, _, _, _, _, rfl, Keep.refl _, F7.fits (l' := [(it0, IterO ax (i + 1)), (pa, LstO psl), (fa, LstO fsl), (oa, LstO (ys ++ ys2)), (fi, LstO fs)]) (by walk_at "FITS"), m1, m2, m3', m4, m5, m6, rfl, rfl, T1, T2, LS.flush_no1 (by omega), hle⟩
          | int k t =>
            k_fold
            repeat' (first | ((fail_if_success (with_reducible show wpAny _ _ (eval (PySem.Expr.ListComp _ _ _ _) _) _ _ _)); (fail_if_success (with_reducible show wpAny _ _ (exec (PySem.Stmt.While _ _ _ _) _) _ _ _)); (fail_if_success (with_reducible show Exists _)); walk1) | (dsimp only; (fail_if_success (with_reducible show wpAny _ _ (eval (PySem.Expr.ListComp _ _ _ _) _) _ _ _)); (fail_if_success (with_reducible show wpAny _ _ (exec (PySem.Stmt.While _ _ _ _) _) _ _ _)); (fail_if_success (with_reducible show Exists _)); walk1))
            all_goals rename Fm _ _ _ _ _ => F7
            · rename_i c1
              exact ⟨g3, _, _, _, _, _, _, _, _, _, rfl, Keep.refl _, F7.fits (l' := [(it0, IterO ax (i + 1)), (_, LstO []), (_, LstO (fsl ++ psl)), (oa, LstO (ys ++ ys2)), (fi, LstO fs)]) (by walk_at "FITS"), m1, m2, rfl, rfl, m5, m6, rfl, rfl, T1.append T2, .nil, LS.flush_yes (by omega) (by simpa using (by assumption : c ≠ k)) (if_pos (by omega)), by simp; omega⟩
            · rename_i c1
              exact ⟨g3, _, _, _, _, _, _, _, _, _, rfl, Keep.refl _, F7.fits (l' := [(it0, IterO ax (i + 1)), (_, LstO []), (_, LstO (fsl ++ [])), (oa, LstO (ys ++ ys2)), (fi, LstO fs)]) (by walk_at "FITS"), m1, m2, rfl, rfl, m5, m6, rfl, rfl, T1.append .nil, .nil, LS.flush_yes (by omega) (by simpa using (by assumption : c ≠ k)) (if_neg (by omega)), by simp; omega⟩
            · rename_i c1
              exact ⟨g3, _, _, _, _, _, _, _, _, _, rfl, Keep.refl _, F7.fits (l' := [(it0, IterO ax (i + 1)), (pa, LstO psl), (fa, LstO fsl), (oa, LstO (ys ++ ys2)), (fi, LstO fs)]) (by walk_at "FITS"), m1, m2, m3', m4, m5, m6, rfl, rfl, T1, T2, LS.flush_no2 c1, hle⟩
            · rename_i c1
              exact ⟨g3, _, _, _, _, _, _, _, _, _, rfl, Keep.refl _, F7.fits (l' := [(it0, IterO ax (i + 1)), (pa, LstO psl), (fa, LstO fsl), (oa, LstO (ys ++ ys2)), (fi, LstO fs)]) (by walk_at "FITS"), m1, m2, m3', m4, m5, m6, rfl, rfl, T1, T2, LS.flush_no1 (by omega), hle⟩
        case rest =>
          obtain ⟨rfl, g4, m4', h5, tk5, fa', pa', fsl', psl', fd1, pt1, rfl, kg4, F7, n1, n2, n3, n4, n5, n6, n7, n8, T3, T4, e1, hle'⟩ := hm
          have Gg := Gg.keep kg4
          rw [e1] at hr
          clear F6 T1 T2 e1 m1 m2 m3' m4 m5 m6 l1 l2 hle
          dsimp only
          cases hd with
          | none =>
            show wpAny _ _ _ _ _ _
            k_fold
            repeat' (first | ((fail_if_success (with_reducible show wpAny _ _ (eval (PySem.Expr.ListComp _ _ _ _) _) _ _ _)); (fail_if_success (with_reducible show wpAny _ _ (exec (PySem.Stmt.While _ _ _ _) _) _ _ _)); (fail_if_success (with_reducible show Exists _)); walk1) | (dsimp only; (fail_if_success (with_reducible show wpAny _ _ (eval (PySem.Expr.ListComp _ _ _ _) _) _ _ _)); (fail_if_success (with_reducible show wpAny _ _ (exec (PySem.Stmt.While _ _ _ _) _) _ _ _)); (fail_if_success (with_reducible show Exists _)); walk1))
            all_goals (first | exact .inl rfl | skip)
            all_goals rename Fm _ _ _ _ _ => F8
            · rename_i c1
              have F8 := F8.fits (l' := [(it0, IterO ax (i + 1)), (_, LstO [.ref _]), (fa', LstO fsl'), (oa, LstO (ys ++ ys2)), (fi, LstO fs), (_, TupO [.int c t1, .str tx u1])]) (by walk_at "FITS")
              have ht := F8.at_ (List.Mem.tail _ (List.Mem.tail _ (List.Mem.tail _ (List.Mem.tail _ (List.Mem.tail _ (List.Mem.head _))))))
              obtain ⟨g5, kg5, F9, kf5⟩ := (F8.fits (l' := [(it0, IterO ax (i + 1)), (_, LstO [.ref _]), (fa', LstO fsl'), (oa, LstO (ys ++ ys2)), (fi, LstO fs)]) (by walk_at "FITS")).anew (by walk_at "MUT")
              exact ⟨g5, _, _, _, _, rfl, (kg3.trans kg4).trans kg5, F9, _, _, _, _, _, _, ⟨fd1, [(c, tx)], some (c + 10), c + 20⟩, _, _, rfl, n1, n2, n3, rfl, rfl, .int _ _, rfl, T3.keep kg5, .cons (ht.kf kf5 fun _ => frzT) .nil, hr.trans (by rw [LS.next_x (by assumption)]), by simp; omega⟩
            · rename_i c1
              exact ⟨g4, _, _, _, _, rfl, kg3.trans kg4, F8.fits (l' := [(it0, IterO ax (i + 1)), (pa', LstO psl'), (fa', LstO fsl'), (oa, LstO (ys ++ ys2)), (fi, LstO fs)]) (by walk_at "FITS"), _, _, _, _, _, _, ⟨fd1, pt1, none, lst⟩, _, _, rfl, n1, n2, n3, n4, n5, .none, n6, T3, T4, hr.trans (by rw [LS.next_skip (by assumption) (by simp) (by assumption)]), by omega⟩
            · rename_i c1
              have F8 := F8.fits (l' := [(it0, IterO ax (i + 1)), (pa', LstO psl'), (fa', LstO (fsl' ++ [.ref _])), (oa, LstO (ys ++ ys2)), (fi, LstO fs), (_, TupO [.int c t1, .str tx u1])]) (by walk_at "FITS")
              have ht := F8.at_ (List.Mem.tail _ (List.Mem.tail _ (List.Mem.tail _ (List.Mem.tail _ (List.Mem.tail _ (List.Mem.head _))))))
              obtain ⟨g5, kg5, F9, kf5⟩ := (F8.fits (l' := [(it0, IterO ax (i + 1)), (pa', LstO psl'), (fa', LstO (fsl' ++ [.ref _])), (oa, LstO (ys ++ ys2)), (fi, LstO fs)]) (by walk_at "FITS")).anew (by walk_at "MUT")
              exact ⟨g5, _, _, _, _, rfl, (kg3.trans kg4).trans kg5, F9, _, _, _, _, _, _, ⟨fd1 ++ [(c, tx)], pt1, none, lst⟩, _, _, rfl, n1, n2, n3, n4, n5, .none, n6, (T3.keep kg5).append (.cons (ht.kf kf5 fun _ => frzT) .nil), T4.keep kg5, hr.trans (by rw [LS.next_add (by assumption) (by simp) (by assumption)]), by simp; omega⟩
          | int k t =>
            show wpAny _ _ _ _ _ _
            k_fold
            repeat' (first | ((fail_if_success (with_reducible show wpAny _ _ (eval (PySem.Expr.ListComp _ _ _ _) _) _ _ _)); (fail_if_success (with_reducible show wpAny _ _ (exec (PySem.Stmt.While _ _ _ _) _) _ _ _)); (fail_if_success (with_reducible show Exists _)); walk1) | (dsimp only; (fail_if_success (with_reducible show wpAny _ _ (eval (PySem.Expr.ListComp _ _ _ _) _) _ _ _)); (fail_if_success (with_reducible show wpAny _ _ (exec (PySem.Stmt.While _ _ _ _) _) _ _ _)); (fail_if_success (with_reducible show Exists _)); walk1))
            all_goals (first | exact .inl rfl | skip)
            all_goals rename Fm _ _ _ _ _ => F8
            · rename_i c1
              have F8 := F8.fits (l' := [(it0, IterO ax (i + 1)), (_, LstO [.ref _]), (fa', LstO fsl'), (oa, LstO (ys ++ ys2)), (fi, LstO fs), (_, TupO [.int c t1, .str tx u1])]) (by walk_at "FITS")
              have ht := F8.at_ (List.Mem.tail _ (List.Mem.tail _ (List.Mem.tail _ (List.Mem.tail _ (List.Mem.tail _ (List.Mem.head _))))))
              obtain ⟨g5, kg5, F9, kf5⟩ := (F8.fits (l' := [(it0, IterO ax (i + 1)), (_, LstO [.ref _]), (fa', LstO fsl'), (oa, LstO (ys ++ ys2)), (fi, LstO fs)]) (by walk_at "FITS")).anew (by walk_at "MUT")
              exact ⟨g5, _, _, _, _, rfl, (kg3.trans kg4).trans kg5, F9, _, _, _, _, _, _, ⟨fd1, [(c, tx)], some (c + 10), c + 20⟩, _, _, rfl, n1, n2, n3, rfl, rfl, .int _ _, rfl, T3.keep kg5, .cons (ht.kf kf5 fun _ => frzT) .nil, hr.trans (by rw [LS.next_x (by assumption)]), by simp; omega⟩
            · rename_i c1
              have F8 := F8.fits (l' := [(it0, IterO ax (i + 1)), (pa', LstO (psl' ++ [.ref _])), (fa', LstO fsl'), (oa, LstO (ys ++ ys2)), (fi, LstO fs), (_, TupO [.int c t1, .str tx u1])]) (by walk_at "FITS")
              have ht := F8.at_ (List.Mem.tail _ (List.Mem.tail _ (List.Mem.tail _ (List.Mem.tail _ (List.Mem.tail _ (List.Mem.head _))))))
              obtain ⟨g5, kg5, F9, kf5⟩ := (F8.fits (l' := [(it0, IterO ax (i + 1)), (pa', LstO (psl' ++ [.ref _])), (fa', LstO fsl'), (oa, LstO (ys ++ ys2)), (fi, LstO fs)]) (by walk_at "FITS")).anew (by walk_at "MUT")
              exact ⟨g5, _, _, _, _, rfl, (kg3.trans kg4).trans kg5, F9, _, _, _, _, _, _, ⟨fd1, pt1 ++ [(c, tx)], some (c + 10), lst⟩, _, _, rfl, n1, n2, n3, n4, rfl, .int _ _, n6, T3.keep kg5, (T4.keep kg5).append (.cons (ht.kf kf5 fun _ => frzT) .nil), hr.trans (by rw [LS.next_due (by assumption) (by assumption), if_pos (by assumption)]), by simp; omega⟩
            · rename_i c1
              have F8 := F8.fits (l' := [(it0, IterO ax (i + 1)), (pa', LstO (psl' ++ [.ref _])), (fa', LstO fsl'), (oa, LstO (ys ++ ys2)), (fi, LstO fs), (_, TupO [.int c t1, .str tx u1])]) (by walk_at "FITS")
              have ht := F8.at_ (List.Mem.tail _ (List.Mem.tail _ (List.Mem.tail _ (List.Mem.tail _ (List.Mem.tail _ (List.Mem.head _))))))
              obtain ⟨g5, kg5, F9, kf5⟩ := (F8.fits (l' := [(it0, IterO ax (i + 1)), (pa', LstO (psl' ++ [.ref _])), (fa', LstO fsl'), (oa, LstO (ys ++ ys2)), (fi, LstO fs)]) (by walk_at "FITS")).anew (by walk_at "MUT")
              exact ⟨g5, _, _, _, _, rfl, (kg3.trans kg4).trans kg5, F9, _, _, _, _, _, _, ⟨fd1, pt1 ++ [(c, tx)], none, lst⟩, _, _, rfl, n1, n2, n3, n4, rfl, .none, n6, T3.keep kg5, (T4.keep kg5).append (.cons (ht.kf kf5 fun _ => frzT) .nil), hr.trans (by rw [LS.next_due (by assumption) (by assumption), if_neg (by assumption)]), by simp; omega⟩
            · rename_i c1
              exact ⟨g4, _, _, _, _, rfl, kg3.trans kg4, F8.fits (l' := [(it0, IterO ax (i + 1)), (pa', LstO psl'), (fa', LstO fsl'), (oa, LstO (ys ++ ys2)), (fi, LstO fs)]) (by walk_at "FITS"), _, _, _, _, _, _, ⟨fd1, pt1, some k, lst⟩, _, _, rfl, n1, n2, n3, n4, n5, .int _ _, n6, T3, T4, hr.trans (by rw [LS.next_skip (by assumption) (by simpa using (by assumption : ¬ c = k)) (by assumption)]), by omega⟩
            · rename_i c1
              have F8 := F8.fits (l' := [(it0, IterO ax (i + 1)), (pa', LstO psl'), (fa', LstO (fsl' ++ [.ref _])), (oa, LstO (ys ++ ys2)), (fi, LstO fs), (_, TupO [.int c t1, .str tx u1])]) (by walk_at "FITS")
              have ht := F8.at_ (List.Mem.tail _ (List.Mem.tail _ (List.Mem.tail _ (List.Mem.tail _ (List.Mem.tail _ (List.Mem.head _))))))
              obtain ⟨g5, kg5, F9, kf5⟩ := (F8.fits (l' := [(it0, IterO ax (i + 1)), (pa', LstO psl'), (fa', LstO (fsl' ++ [.ref _])), (oa, LstO (ys ++ ys2)), (fi, LstO fs)]) (by walk_at "FITS")).anew (by walk_at "MUT")
              exact ⟨g5, _, _, _, _, rfl, (kg3.trans kg4).trans kg5, F9, _, _, _, _, _, _, ⟨fd1 ++ [(c, tx)], pt1, some k, lst⟩, _, _, rfl, n1, n2, n3, n4, n5, .int _ _, n6, (T3.keep kg5).append (.cons (ht.kf kf5 fun _ => frzT) .nil), T4.keep kg5, hr.trans (by rw [LS.next_add (by assumption) (by simpa using (by assumption : ¬ c = k)) (by assumption)]), by simp; omega⟩
end
end
section
local macro_rules | `(tactic| walk_at "GG") => `(tactic| first | assumption | exact GG.keep (by assumption) (Fm.keep (by assumption)))
local macro_rules | `(tactic| walk_at "AT") => `(tactic| first | assumption | exact Fm.at_ (by assumption) (by k_mem) | exact At.keep (by assumption) (Fm.keep (by assumption)))
local macro_rules | `(tactic| walk_at "CHG") => `(tactic| repeat (first | exact Chg.head | apply Chg.tail))
local macro_rules | `(tactic| walk_at "LIST") => `(tactic| first | exact isList_keep (by assumption) (Fm.keep (by assumption)) | exact isList_of (Fm.at_ (by assumption) (by k_mem)) | exact isList_of (by walk_at "AT"))
local macro_rules | `(tactic| walk_at "NUM") => `(tactic| first | decide | omega | (simp only [List.length_cons, List.length_nil]; omega))
local macro_rules | `(tactic| walk_at "eval Name") => `(tactic| first
  | (refine lv (by assumption) (by first | rfl | assumption) ?_)
  | (k_dflt (refine' gv ?G ?e ?_; (case G => walk_at "GG"); (case e => k_is); k_whole))
  | (k_dflt (refine' bv ?G ?e ?v ?_; (case G => walk_at "GG"); (case e => k_is); (case v => boot_by_name); k_whole)))
local macro_rules | `(tactic| walk_at "loadName") => `(tactic| (refine lvN (by assumption) (by first | rfl | assumption) ?_))
local macro_rules | `(tactic| walk_at "eval Constant int") => `(tactic| (with_reducible refine ci ?_; intro t' tk'))
local macro_rules | `(tactic| walk_at "eval Constant str") => `(tactic| (with_reducible refine cs ?_; intro t' tk'))
local macro_rules | `(tactic| walk_at "storeName") => `(tactic| (refine svT (by assumption) ?_; intro h' tk' F'))
local macro_rules | `(tactic| walk_at "binaryOp Add int int") => `(tactic| (with_reducible refine addI ?_; intro t' tk'))
local macro_rules | `(tactic| walk_at "inplaceOp Add int int") => `(tactic| (with_reducible refine iaddI ?_; intro t' tk'))
local macro_rules | `(tactic| walk_at "binaryOp Mod int int") => `(tactic| (refine modI (by omega) ?_; intro r' t' tk' hr1 hr2))
local macro_rules | `(tactic| walk_at "binaryOp FloorDiv int int") => `(tactic| (refine fdivI (by omega) (by omega) (by omega) (by omega) ?_; intro r' t' tk' hr1 hr2))
local macro_rules | `(tactic| walk_at "PART") => `(tactic| first | exact IsPart.none | exact IsPart.int _ _)
local macro_rules | `(tactic| walk_at "PICK") => `(tactic| first | exact pick_upto (by omega) | exact pick_run (by omega))
local macro_rules | `(tactic| walk_at "subscriptTail") => `(tactic| (k_dflt (first
  | ((with_reducible show wpAny _ _ (subscriptTail _ _ (Value.ref _) (Value.ref _)) _ _ _); refine' sliceL ?F ?x ?pl ?pu ?z ?e ?_; (case F => assumption); (case x => k_mem); (case pl => walk_at "PART"); (case pu => walk_at "PART"); (case z => walk_at "SZ"); (case e => walk_at "PICK"); k_whole; intro b' h' kp' F')
  | (refine' subL ?x ?a ?b ?c ?_; (case x => walk_at "AT"); (case a => walk_at "NUM"); (case b => walk_at "NUM"); (case c => first | rfl | assumption); k_whole)
  | (refine' sub2 ?x ?a ?_ ?_; (case x => walk_at "AT"); (case a => omega))
  | (refine' subM ?x ?T ?a ?b ?c ?_; (case x => walk_at "AT"); (case T => assumption); (case a => walk_at "NUM"); (case b => walk_at "NUM"); (case c => omega); k_whole; intro b' hR'))))
local macro_rules | `(tactic| walk_at "subscriptTail Subscript") => `(tactic| (k_dflt (refine' subScr ?x ?i ?a ?b ?c ?_; (case x => walk_at "LIST"); (case i => assumption); (case a => omega); (case b => omega); (case c => omega); k_whole); intro j' t'))
local macro_rules | `(tactic| walk_at "setItem") => `(tactic| (k_dflt (refine' setF ?F ?x ?a ?b ?c ?_; (case F => assumption); (case x => walk_at "CHG"); (case a => walk_at "NUM"); (case b => walk_at "NUM"); (case c => walk_at "NUM"); k_whole); intro h' F'; (try simp only [List.set_cons_zero, List.set_cons_succ, Int.reduceToNat] at F')))
local macro_rules | `(tactic| walk_at "call builtin:len") => `(tactic| (k_dflt (refine' lenI ?x ?a ?_; (case x => walk_at "LIST"); (case a => omega); k_whole); intro t' tk'))
local macro_rules | `(tactic| walk_at "SZ") => `(tactic| first | (rw [sizeLine_eq]; (try simp only [List.length_append, List.length_cons, List.length_nil, List.length_take]); omega) | size_fits)
local macro_rules | `(tactic| walk_at "callWith ref") => `(tactic| (k_dflt (refine' callG ?k1 ?k2 ?_; (case k1 => k_is); (case k2 => exact rfl))))
local macro_rules | `(tactic| walk_at "newList") => `(tactic| (refine newL (by assumption) (by walk_at "SZ") ?_; intro a' h' kp' F'))
local macro_rules | `(tactic| walk_at "newTuple") => `(tactic| (refine newT (by assumption) (by walk_at "SZ") ?_; intro a' h' kp' hat' F'))
local macro_rules | `(tactic| walk_at "eval Slice") => `(tactic| refine sliceF ?_)
local macro_rules | `(tactic| walk_at "Exists") => `(tactic| (refine ⟨_, _, _, _, by assumption, ?_⟩; intro a' h' kp' F'))
local macro_rules | `(tactic| walk_at "getMethod ref") => `(tactic| (k_dflt (first | refine methApp (by walk_at "AT") ?_ | refine methClr (by walk_at "AT") ?_)))
local macro_rules | `(tactic| walk_at "call builtin:list.append") => `(tactic| (k_dflt (refine' appL ?F ?c ?z ?_; (case F => assumption); (case c => walk_at "CHG"); (case z => walk_at "SZ"); k_whole); intro h' F'))
local macro_rules | `(tactic| walk_at "call builtin:list.clear") => `(tactic| (k_dflt (refine' clrL ?F ?c ?z ?_; (case F => assumption); (case c => walk_at "CHG"); (case z => walk_at "SZ"); k_whole); intro h' F'))
local macro_rules | `(tactic| walk_at "call type:range") => `(tactic| (refine range1 (by assumption) ?_; intro a' h' tk' kp' F'))
local macro_rules | `(tactic| walk_at "pyIter ref") => `(tactic| (k_dflt (refine' iterR ?F ?a ?b ?_; (case F => assumption); (case a => omega); (case b => omega); k_whole); intro it' h' kp' F'))
local macro_rules | `(tactic| walk_at "binaryOp Add ref ref") => `(tactic| (k_dflt (refine' addL ?F ?x ?y ?z ?_; (case F => assumption); (case x => walk_at "AT"); (case y => walk_at "AT"); (case z => walk_at "SZ"); k_whole); intro a' h' kp' F'))
local macro_rules | `(tactic| walk_at "exec For") => `(tactic| refine wpAny_For ?_)
local macro_rules | `(tactic| walk_at "DEPTH") => `(tactic| first | omega | ((try simp only [depth_deeper, depth_in1]); omega))
local macro_rules | `(tactic| walk_at "MUT") => `(tactic| repeat (first | exact Muts.nil | refine Muts.cons (by first | exact mutL | exact mutI | exact mutRI | exact mutR | exact mutS | exact mutCO) ?_))
local macro_rules | `(tactic| walk_at "CALL") => `(tactic| fail)
local macro_rules | `(tactic| walk_at "codeAny call") => `(tactic| walk_at "CALL")
local macro_rules | `(tactic| walk_at "FITS") => `(tactic| repeat (first | exact Fits.nil | exact Pull.head | apply Fits.cons | apply Pull.tail))
local macro_rules | `(tactic| walk_at "truthy ref") => `(tactic| (k_dflt (refine' truthyL ?x ?z ?_; (case x => walk_at "AT"); (case z => walk_at "SZ"); k_whole); intro tk'))
local macro_rules | `(tactic| walk_at "SETS") => `(tactic| first | exact setX (by walk_at "GG") | exact setI (by walk_at "GG") | exact setV (by walk_at "GG"))
local macro_rules | `(tactic| walk_at "compareOp In int ref") => `(tactic| (k_dflt (refine' inSet ?S ?_; (case S => walk_at "SETS"); k_whole); intro tk'))
local macro_rules | `(tactic| walk_at "compareOp NotIn int ref") => `(tactic| (k_dflt (refine' notInSet ?S ?_; (case S => walk_at "SETS"); k_whole); intro tk'))
local macro_rules | `(tactic| walk_at "compareOp In int ref") => `(tactic| (k_dflt (refine' inInts ?x ?I ?_; (case x => walk_at "AT"); (case I => assumption); k_whole)))
local macro_rules | `(tactic| walk_at "compareOp NotIn int ref") => `(tactic| (k_dflt (refine' notInInts ?x ?I ?_; (case x => walk_at "AT"); (case I => assumption); k_whole)))
local macro_rules | `(tactic| walk_at "assign Tuple") => `(tactic| (k_dflt (refine' asgT ?hh ?F ?x ?n ?st ?_; (case hh => assumption); (case F => assumption); (case x => walk_at "AT"); (case n => rfl); (case st => rfl); k_whole); intro h' kp' F'))
local macro_rules | `(tactic| walk_at "unpackItems ref") => `(tactic| (k_dflt (refine' unpI ?hh ?F ?x ?n ?_; (case hh => assumption); (case F => assumption); (case x => walk_at "AT"); (case n => rfl); k_whole); intro h' kp' F'))
local macro_rules | `(tactic| walk_at "pyIter ref") => `(tactic| (k_dflt (refine' iterL ?F ?x ?_; (case F => assumption); (case x => walk_at "AT"); k_whole); intro it' h' kp' F'))
local macro_rules | `(tactic| walk_at "subscriptTail Subscript") => `(tactic| (k_dflt (refine' subT (k := 0) ?x ?h ?k ?_; (case x => walk_at "AT"); (case h => rfl); (case k => simp); k_whole)))
local macro_rules | `(tactic| walk_at "subscriptTail") => `(tactic| ((with_reducible show wpAny _ _ (subscriptTail _ _ (Value.ref _) (Value.ref _)) _ _ _); k_dflt (refine' sliceB ?F ?x ?pl ?pu ?z ?e ?_; (case F => assumption); (case x => walk_at "AT"); (case pl => walk_at "PART"); (case pu => walk_at "PART"); (case z => walk_at "SZ"); (case e => exact pick_add); k_whole; intro b' h' kp' F')))
/-- what stands behind c in its point -/
def runOf (c : Int) : List (Int × Str) → List (Int × Str)
  | (c1, v1) :: r => if c1 = c + 10 then (c1, v1) :: (match r with | (c2, v2) :: _ => if c2 = c + 20 then [(c2, v2)] else [] | [] => []) else []
  | [] => []
/-- the law's other filter, point by point -/
def whole : Nat → List (Int × Str) → List (Int × Str)
  | 0, _ => []
  | _, [] => []
  | n + 1, (c, v) :: r => if c ∈ xC then (if runOf c r = [] then [] else (c, v) :: runOf c r) ++ whole n (r.drop (runOf c r).length) else (if c ∈ oC then [] else [(c, v)]) ++ whole n r
/-- how far the point at place p goes -/
structure Far (rows : List (Int × Str)) (p : Nat) (c : Int) (sz : Nat) : Prop where
  pos : 1 ≤ sz
  le : sz ≤ 3
  fit : p + sz ≤ rows.length
  one : 2 ≤ sz → ∃ v, rows[p + 1]? = some (c + 10, v)
  two : 3 ≤ sz → ∃ v, rows[p + 2]? = some (c + 20, v)
theorem Far.done {rows : List (Int × Str)} {p : Nat} {c : Int} {sz : Nat} {r : List (Int × Str)} (F : Far rows p c sz) (hr : rows.drop (p + 1) = r) (stop : sz < 3 → ∀ c' v, rows[p + sz]? = some (c', v) → c' ≠ c + 10 * sz) : (runOf c r).length + 1 = sz ∧ runOf c r = r.take (sz - 1) := by
  have g1 : r[0]? = rows[p + 1]? := by rw [← hr, List.getElem?_drop]
  have g2 : r[1]? = rows[p + 2]? := by rw [← hr, List.getElem?_drop]
  obtain ⟨h1, h2, h3, h4, h5⟩ := F
  have : sz = 1 ∨ sz = 2 ∨ sz = 3 := by omega
  rcases this with rfl | rfl | rfl
  · cases r with
    | nil => exact ⟨rfl, rfl⟩
    | cons q r =>
      obtain ⟨c1, v1⟩ := q
      have := stop (by decide) c1 v1 (by rw [← g1]; rfl)
      have hne : ¬ c1 = c + 10 := by omega
      simp [runOf, hne]
  · obtain ⟨v, e⟩ := h4 (by decide)
    rw [← g1] at e
    cases r with
    | nil => simp at e
    | cons q r =>
      obtain rfl : q = (c + 10, v) := by simpa using e
      cases r with
      | nil => simp [runOf]
      | cons q2 r =>
        obtain ⟨c2, v2⟩ := q2
        have := stop (by decide) c2 v2 (by rw [← g2]; rfl)
        have hne : ¬ c2 = c + 20 := by omega
        simp [runOf, hne]
  · obtain ⟨v, e⟩ := h4 (by decide)
    obtain ⟨v2, e2⟩ := h5 (by decide)
    rw [← g1] at e
    rw [← g2] at e2
    cases r with
    | nil => simp at e
    | cons q r =>
      obtain rfl : q = (c + 10, v) := by simpa using e
      cases r with
      | nil => simp at e2
      | cons q2 r =>
        obtain rfl : q2 = (c + 20, v2) := by simpa using e2
        simp [runOf]
theorem runOf_le (c : Int) (r : List (Int × Str)) : (runOf c r).length ≤ r.length := by
  cases r with
  | nil => simp [runOf]
  | cons q r =>
    obtain ⟨c1, v1⟩ := q
    by_cases h : c1 = c + 10
    · cases r with
      | nil => simp [runOf, h]
      | cons q2 r =>
        obtain ⟨c2, v2⟩ := q2
        by_cases h2 : c2 = c + 20 <;> simp [runOf, h, h2]
    · simp [runOf, h]
theorem whole_fuel : ∀ (n m : Nat) (l : List (Int × Str)), l.length ≤ n → l.length ≤ m → whole n l = whole m l
  | 0, m, l, h, _ => by
    have : l = [] := List.eq_nil_of_length_eq_zero (by omega)
    subst this
    cases m <;> simp [whole]
  | n + 1, 0, l, _, h => by
    have : l = [] := List.eq_nil_of_length_eq_zero (by omega)
    subst this
    simp [whole]
  | n + 1, m + 1, [], _, _ => by simp [whole]
  | n + 1, m + 1, (c, v) :: r, h1, h2 => by
    simp only [List.length_cons] at h1 h2
    have hr := runOf_le c r
    unfold whole
    rw [whole_fuel n m (r.drop (runOf c r).length) (by rw [List.length_drop]; omega) (by rw [List.length_drop]; omega), whole_fuel n m r (by omega) (by omega)]
theorem whole_no {rows r : List (Int × Str)} {p : Nat} {c : Int} {v : Str} (hd : rows.drop p = (c, v) :: r) (h : ¬ c ∈ xC) : whole (rows.length - p) (rows.drop p) = (if c ∈ oC then [] else [(c, v)]) ++ whole (rows.length - (p + 1)) (rows.drop (p + 1)) := by
  have hl : (rows.drop p).length = rows.length - p := by simp
  have h1 : rows.drop (p + 1) = r := by rw [← List.drop_drop, hd]; rfl
  rw [h1]
  rw [hd, List.length_cons] at hl
  rw [hd, ← hl]
  have e : rows.length - (p + 1) = r.length := by omega
  rw [e]
  show (if c ∈ xC then _ else _) = _
  rw [if_neg h]
theorem whole_pt {rows r : List (Int × Str)} {p sz : Nat} {c : Int} {v : Str} (hd : rows.drop p = (c, v) :: r) (h : c ∈ xC) (F : Far rows p c sz) (stop : sz < 3 → ∀ c' v, rows[p + sz]? = some (c', v) → c' ≠ c + 10 * sz) :
    whole (rows.length - p) (rows.drop p) = (if 1 < sz then (rows.drop p).take sz else []) ++ whole (rows.length - (p + sz)) (rows.drop (p + sz)) := by
  have hl : (rows.drop p).length = rows.length - p := by simp
  have h1 : rows.drop (p + 1) = r := by rw [← List.drop_drop, hd]; rfl
  obtain ⟨k1, k2⟩ := F.done h1 stop
  have h3 := F.fit
  have hsz : p + sz = (p + 1) + (sz - 1) := by have := F.pos; omega
  have h2 : rows.drop (p + sz) = r.drop (runOf c r).length := by
    rw [hsz, ← List.drop_drop, h1]; congr 1; omega
  rw [h2]
  rw [hd, List.length_cons] at hl
  rw [hd, ← hl]
  show (if c ∈ xC then _ else _) = _
  rw [if_pos h, whole_fuel r.length (rows.length - (p + sz)) (r.drop (runOf c r).length) (by rw [List.length_drop]; omega) (by rw [List.length_drop]; omega)]
  congr 1
  by_cases hs : 1 < sz
  · rw [if_pos hs, if_neg (fun e => by rw [e] at k1; simp at k1; omega), k2]
    obtain ⟨j, rfl⟩ : ∃ j, sz = j + 1 := ⟨sz - 1, by omega⟩
    rfl
  · rw [if_neg hs, if_pos (List.eq_nil_of_length_eq_zero (by omega))]
section
variable {prog : Program} {w : World} {A : Around} {E : Value → Shared → Prop} {s : Shared} {g : Heap} {L x : Addr} {m : Str → Option Value} {l : List (Addr × (Obj → Prop))}

theorem whole_ok {h : Heap} {ax : Addr} {vs : List Value} {rows : List (Int × Str)} (G : GG w h) (hx : At h ax (LstO vs)) (hT : Tups h vs rows) (hlen : rows.length ≤ 30) (hh : A.handled = none) (hroom : A.depth + 10 < recursionLimit) :
    CallT prog w A 164 [.ref ax] h (fun v h' => ∃ l us, v = .ref l ∧ At h' l (LstO us) ∧ Tups h' us (whole rows.length rows) ∧ Keep h h') := by
  intro s R hs hR
  subst hs
  refine enter (binds := [(Str.ofString "rows", .ref ax)]) G (by k_is) (by k_is) (by omega) rfl (locs rfl) ?_
  intro L h₁ tk1 hLe hn hk hL
  have F := Fm.start0 hn hk hL
  show wpAny _ _ _ _ _ _
  k_fold
  repeat' (first | ((fail_if_success (with_reducible show wpAny _ _ (eval (PySem.Expr.ListComp _ _ _ _) _) _ _ _)); (fail_if_success (with_reducible show wpAny _ _ (exec (PySem.Stmt.While _ _ _ _) _) _ _ _)); walk1) | (dsimp only; (fail_if_success (with_reducible show wpAny _ _ (eval (PySem.Expr.ListComp _ _ _ _) _) _ _ _)); (fail_if_success (with_reducible show wpAny _ _ (exec (PySem.Stmt.While _ _ _ _) _) _ _ _)); walk1))
  rename Fm _ _ _ _ _ => F1
  obtain ⟨fs, hI, hfl, F1⟩ := F1.intsHead (ns := xC) (by repeat constructor)
  have hfl : fs.length = 20 := hfl
  refine compL (cl := []) (J := fun i _ ys => IntsAre ys ((xC.take i).map (· + 10))) (closureFor_none (by decide)) (by decide) rfl (by decide) (by assumption) ?_
  walk1
  rename Fm _ _ _ _ _ => FC
  refine ⟨_, _, _, _, _, _, rfl, FC.at_ (by k_mem), by walk_at "SZ", FC, .nil, ?turn, ?fin⟩
  case turn =>
    rintro i v hv C it acc ys g' m' h' tk' hJ kg F'
    obtain ⟨k, t, rfl, hk'⟩ := ints_at hI hv
    refine goName F' (fun h2 tk2 F2 => ?_)
    refine wpAny_tests_nil ?_
    rw [if_pos rfl]
    k_fold
    repeat' (first | ((fail_if_success (with_reducible show wpAny _ _ (eval (PySem.Expr.ListComp _ _ _ _) _) _ _ _)); (fail_if_success (with_reducible show wpAny _ _ (exec (PySem.Stmt.While _ _ _ _) _) _ _ _)); (fail_if_success (with_reducible show Exists _)); walk1) | (dsimp only; (fail_if_success (with_reducible show wpAny _ _ (eval (PySem.Expr.ListComp _ _ _ _) _) _ _ _)); (fail_if_success (with_reducible show wpAny _ _ (exec (PySem.Stmt.While _ _ _ _) _) _ _ _)); (fail_if_success (with_reducible show Exists _)); walk1))
    (try dsimp only)
    (try k_unfold)
    (try dsimp only)
    exact ⟨_, _, _, _, rfl, kg, by assumption, ints_map hJ hk'⟩
  case fin =>
    rintro D h' tk ys g' kg1 kg2 F2 hJ
    have hJ : IntsAre ys (xC.map (· + 10)) := by rw [hfl] at hJ; exact hJ
    have hyl : ys.length = 20 := hJ.length
    clear FC F1
    repeat' (first | ((fail_if_success (with_reducible show wpAny _ _ (eval (PySem.Expr.ListComp _ _ _ _) _) _ _ _)); (fail_if_success (with_reducible show wpAny _ _ (exec (PySem.Stmt.While _ _ _ _) _) _ _ _)); walk1) | (dsimp only; (fail_if_success (with_reducible show wpAny _ _ (eval (PySem.Expr.ListComp _ _ _ _) _) _ _ _)); (fail_if_success (with_reducible show wpAny _ _ (exec (PySem.Stmt.While _ _ _ _) _) _ _ _)); walk1))
    refine compL (cl := []) (J := fun i _ ys => IntsAre ys (((xC.take i).filter (fun k => decide (k ≠ 18))).map (· + 20))) (closureFor_none (by decide)) (by decide) rfl (by decide) (by assumption) ?_
    walk1
    rename Fm _ _ _ _ _ => FC
    refine ⟨_, _, _, _, _, _, rfl, FC.at_ (by k_mem), by walk_at "SZ", FC, .nil, ?turn, ?fin⟩
    case turn =>
      rintro i v hv C it acc ys g' m' h' tk' hJ kg F'
      obtain ⟨k, t, rfl, hk'⟩ := ints_at hI hv
      refine goName F' (fun h2 tk2 F2 => ?_)
      refine wpAny_tests_one ?_
      k_fold
      repeat' (first | ((fail_if_success (with_reducible show wpAny _ _ (eval (PySem.Expr.ListComp _ _ _ _) _) _ _ _)); (fail_if_success (with_reducible show wpAny _ _ (exec (PySem.Stmt.While _ _ _ _) _) _ _ _)); (fail_if_success (with_reducible show Exists _)); walk1) | (dsimp only; (fail_if_success (with_reducible show wpAny _ _ (eval (PySem.Expr.ListComp _ _ _ _) _) _ _ _)); (fail_if_success (with_reducible show wpAny _ _ (exec (PySem.Stmt.While _ _ _ _) _) _ _ _)); (fail_if_success (with_reducible show Exists _)); walk1))
      all_goals (try dsimp only)
      all_goals (try k_unfold)
      · rename _ ≠ _ => c1
        exact ⟨_, _, _, _, rfl, kg, by assumption, ints_filt hJ hk' (by simpa using c1)⟩
      · rename_i c1
        exact ⟨_, _, _, _, rfl, kg, by assumption, ints_skip hJ hk' (by simpa using c1)⟩
    case fin =>
      rintro D h' tk ys2 g' kg1 kg2 F3 hJ2
      have hJ2 : IntsAre ys2 ((xC.filter (fun k => decide (k ≠ 18))).map (· + 20)) := by rw [hfl] at hJ2; exact hJ2
      have hyl2 : ys2.length = 19 := hJ2.length
      clear FC
      have hO : IntsAre (ys ++ ys2) oC := ints_append hJ hJ2
      repeat' (first | ((fail_if_success (with_reducible show wpAny _ _ (eval (PySem.Expr.ListComp _ _ _ _) _) _ _ _)); (fail_if_success (with_reducible show wpAny _ _ (exec (PySem.Stmt.While _ _ _ _) _) _ _ _)); (fail_if_success (with_reducible show Exists _)); walk1) | (dsimp only; (fail_if_success (with_reducible show wpAny _ _ (eval (PySem.Expr.ListComp _ _ _ _) _) _ _ _)); (fail_if_success (with_reducible show wpAny _ _ (exec (PySem.Stmt.While _ _ _ _) _) _ _ _)); (fail_if_success (with_reducible show Exists _)); walk1))
      rename Fm _ _ _ _ _ => F4
      have F4 := F4.fits (l' := [(_, LstO []), (_, LstO (ys ++ ys2)), (_, LstO fs)]) (by walk_at "FITS")
      have hvl := hT.length
      refine' whileF rows.length (fun n g' m' l' => ∃ p fa oa fi fsl fnd tp, n = rows.length - p ∧ p ≤ rows.length ∧ l' = [(fa, LstO fsl), (oa, LstO (ys ++ ys2)), (fi, LstO fs)] ∧ m' (Str.ofString "rows") = some (.ref ax) ∧ m' (Str.ofString "first") = some (.ref fi) ∧ m' (Str.ofString "others") = some (.ref oa) ∧
        m' (Str.ofString "found") = some (.ref fa) ∧ m' (Str.ofString "place") = some (.int (p : Nat) tp) ∧ Tups g' fsl fnd ∧ whole rows.length rows = fnd ++ whole (rows.length - p) (rows.drop p) ∧ fsl.length ≤ p) F4 ?init ?turn
      case init => exact ⟨0, _, _, _, [], [], _, rfl, Nat.zero_le _, rfl, rfl, rfl, rfl, rfl, rfl, .nil, rfl, Nat.le_refl _⟩
      case turn =>
        rintro n g3 m3 l3 h3 tk3 ⟨p, fa, oa, fi, fsl, fnd, tp, rfl, hp, rfl, m1, m2, m3', m4, m5, T1, hw, hle⟩ kg3 F5
        have Gg := G.keep kg3
        have hx3 := hx.keep kg3
        have l1 := T1.length
        rcases Nat.lt_or_eq_of_le hp with hlt | hpe
        · obtain ⟨a', c, tx, t1, u1, hv, hrow, hat⟩ := (hT.keep kg3).get p (by omega)
          have hdr : rows.drop p = (c, tx) :: rows.drop (p + 1) := by
            obtain ⟨hlt, e⟩ := List.getElem?_eq_some_iff.mp hrow
            rw [List.drop_eq_getElem_cons hlt, e]
          show wpAny _ _ _ _ _ _
          k_fold
          repeat' (first | ((fail_if_success (with_reducible show wpAny _ _ (eval (PySem.Expr.ListComp _ _ _ _) _) _ _ _)); (fail_if_success (with_reducible show wpAny _ _ (exec (PySem.Stmt.While _ _ _ _) _) _ _ _)); (fail_if_success (with_reducible show Exists _)); walk1) | (dsimp only; (fail_if_success (with_reducible show wpAny _ _ (eval (PySem.Expr.ListComp _ _ _ _) _) _ _ _)); (fail_if_success (with_reducible show wpAny _ _ (exec (PySem.Stmt.While _ _ _ _) _) _ _ _)); (fail_if_success (with_reducible show Exists _)); walk1))
          all_goals (first | exact .inl rfl | skip)
          · rename _ ∈ xC => c1
            rename Fm _ _ _ _ _ => F6
            refine wpAny_mono (Q := fun f s' => f = .next ∧ ∃ (sz : Nat) (ts : Tok) (g4 : Heap) (m4 : Str → Option Value) (h4 : Heap) (tk4 : Nat), s' = { s with heap := h4, toks := tk4 } ∧ Keep g3 g4 ∧ Fm g4 L m4 [(fa, LstO fsl), (oa, LstO (ys ++ ys2)), (fi, LstO fs)] h4 ∧ m4 (Str.ofString "rows") = some (.ref ax) ∧ m4 (Str.ofString "first") = some (.ref fi) ∧ m4 (Str.ofString "others") = some (.ref oa) ∧
              m4 (Str.ofString "found") = some (.ref fa) ∧ m4 (Str.ofString "place") = some (.int (p : Nat) tp) ∧ m4 (Str.ofString "size") = some (.int (sz : Nat) ts) ∧ Far rows p c sz ∧ (sz < 3 → ∀ c' v, rows[p + sz]? = some (c', v) → c' ≠ c + 10 * sz)) (whileF 2 (fun k g4 m4 l4 => ∃ (sz : Nat) (ts : Tok), k = 3 - sz ∧ Far rows p c sz ∧ l4 = [(fa, LstO fsl), (oa, LstO (ys ++ ys2)), (fi, LstO fs)] ∧
              m4 (Str.ofString "rows") = some (.ref ax) ∧ m4 (Str.ofString "first") = some (.ref fi) ∧ m4 (Str.ofString "others") = some (.ref oa) ∧ m4 (Str.ofString "found") = some (.ref fa) ∧ m4 (Str.ofString "place") = some (.int (p : Nat) tp) ∧ m4 (Str.ofString "code") = some (.int c t1) ∧ m4 (Str.ofString "size") = some (.int (sz : Nat) ts)) F6 ?init2 ?turn2) (fun f s' hm => ?after) (fun _ _ x => x)
            case init2 => exact ⟨1, _, rfl, ⟨Nat.le_refl _, by omega, by omega, fun h => absurd h (by omega), fun h => absurd h (by omega)⟩, rfl, m1, m2, m3', m4, m5, rfl, rfl⟩
            case turn2 =>
              rintro n2 g4 m4' l4 h4 tk4 ⟨sz, ts, rfl, hF, rfl, n1, n2, n3, n4, n5, n6, n7⟩ kg4 F7
              have Gg := Gg.keep kg4
              have hx4 := hx3.keep kg4
              obtain ⟨q1, q2, q3, q4, q5⟩ := id hF
              by_cases hin : p + sz < rows.length
              · obtain ⟨a2, c2, tx2, t2, u2, hv2, hrow2, hat2⟩ := ((hT.keep kg3).keep kg4).get (p + sz) (by omega)
                show wpAny _ _ _ _ _ _
                k_fold
                repeat' (first | ((fail_if_success (with_reducible show wpAny _ _ (eval (PySem.Expr.ListComp _ _ _ _) _) _ _ _)); (fail_if_success (with_reducible show wpAny _ _ (exec (PySem.Stmt.While _ _ _ _) _) _ _ _)); (fail_if_success (with_reducible show Exists _)); walk1) | (dsimp only; (fail_if_success (with_reducible show wpAny _ _ (eval (PySem.Expr.ListComp _ _ _ _) _) _ _ _)); (fail_if_success (with_reducible show wpAny _ _ (exec (PySem.Stmt.While _ _ _ _) _) _ _ _)); (fail_if_success (with_reducible show Exists _)); walk1))
                · exact .inl rfl
                · rename c2 = _ => c3
                  rename Fm _ _ _ _ _ => F8
                  exact ⟨3 - (sz + 1), by omega, g4, _, _, _, _, rfl, kg4, F8, sz + 1, _, rfl, ⟨by omega, by omega, by omega, fun _ => by
                    by_cases h1 : sz = 1
                    · subst h1; exact ⟨tx2, by rw [hrow2, c3]; rfl⟩
                    · exact q4 (by omega), fun _ => by
                    have h2 : sz = 2 := by omega
                    subst h2; exact ⟨tx2, by rw [hrow2, c3]; rfl⟩⟩, rfl, n1, n2, n3, n4, n5, n6, rfl⟩
                · rename c2 ≠ _ => c3
                  exact ⟨sz, ts, g4, m4', _, _, rfl, kg4, by assumption, n1, n2, n3, n4, n5, n7, hF, fun _ c' v e => by rw [hrow2] at e; cases e; exact c3⟩
                · omega
                · exact ⟨sz, ts, g4, m4', _, _, rfl, kg4, by assumption, n1, n2, n3, n4, n5, n7, hF, fun h => by omega⟩
              · show wpAny _ _ _ _ _ _
                k_fold
                repeat' (first | ((fail_if_success (with_reducible show wpAny _ _ (eval (PySem.Expr.ListComp _ _ _ _) _) _ _ _)); (fail_if_success (with_reducible show wpAny _ _ (exec (PySem.Stmt.While _ _ _ _) _) _ _ _)); (fail_if_success (with_reducible show Exists _)); walk1) | (dsimp only; (fail_if_success (with_reducible show wpAny _ _ (eval (PySem.Expr.ListComp _ _ _ _) _) _ _ _)); (fail_if_success (with_reducible show wpAny _ _ (exec (PySem.Stmt.While _ _ _ _) _) _ _ _)); (fail_if_success (with_reducible show Exists _)); walk1))
                · omega
                · exact ⟨sz, ts, g4, m4', _, _, rfl, kg4, by assumption, n1, n2, n3, n4, n5, n7, hF, fun _ c' v e => by have := (List.getElem?_eq_some_iff.mp e).1; omega⟩
                · exact ⟨sz, ts, g4, m4', _, _, rfl, kg4, by assumption, n1, n2, n3, n4, n5, n7, hF, fun h => by omega⟩
            case after =>
              obtain ⟨rfl, sz, ts, g4, m4', h4, tk4, rfl, kg4, F7, n1, n2, n3, n4, n5, n7, hF, stop⟩ := hm
              have Gg := Gg.keep kg4
              have hx4 := hx3.keep kg4
              obtain ⟨q1, q2, q3, q4, q5⟩ := id hF
              dsimp only
              show wpAny _ _ _ _ _ _
              k_fold
              repeat' (first | ((fail_if_success (with_reducible show wpAny _ _ (eval (PySem.Expr.ListComp _ _ _ _) _) _ _ _)); (fail_if_success (with_reducible show wpAny _ _ (exec (PySem.Stmt.While _ _ _ _) _) _ _ _)); (fail_if_success (with_reducible show Exists _)); walk1) | (dsimp only; (fail_if_success (with_reducible show wpAny _ _ (eval (PySem.Expr.ListComp _ _ _ _) _) _ _ _)); (fail_if_success (with_reducible show wpAny _ _ (exec (PySem.Stmt.While _ _ _ _) _) _ _ _)); (fail_if_success (with_reducible show Exists _)); walk1))
              · refine ⟨_, _, _, _, by assumption, ?_⟩
                intro a' h' kp' F'
                repeat' (first | ((fail_if_success (with_reducible show wpAny _ _ (eval (PySem.Expr.ListComp _ _ _ _) _) _ _ _)); (fail_if_success (with_reducible show wpAny _ _ (exec (PySem.Stmt.While _ _ _ _) _) _ _ _)); (fail_if_success (with_reducible show Exists _)); walk1) | (dsimp only; (fail_if_success (with_reducible show wpAny _ _ (eval (PySem.Expr.ListComp _ _ _ _) _) _ _ _)); (fail_if_success (with_reducible show wpAny _ _ (exec (PySem.Stmt.While _ _ _ _) _) _ _ _)); (fail_if_success (with_reducible show Exists _)); walk1))
                · exact .inl rfl
                · rename Fm _ _ _ _ _ => F8
                  exact ⟨rows.length - (p + sz), by omega, g4, _, _, _, _, rfl, kg3.trans kg4, F8.fits (l' := [(_, LstO (fsl ++ (vs.drop p).take sz)), (oa, LstO (ys ++ ys2)), (fi, LstO fs)]) (by walk_at "FITS"), p + sz, _, _, _, _, fnd ++ (rows.drop p).take sz, _, rfl, q3, rfl, n1, n2, n3, rfl, rfl, (T1.keep kg4).append ((((hT.keep kg3).keep kg4).drop p).take sz),
                    by rw [hw, whole_pt hdr c1 hF stop, if_pos (by omega), List.append_assoc], by simp; omega⟩
              · exact .inl rfl
              · rename Fm _ _ _ _ _ => F8
                exact ⟨rows.length - (p + sz), by omega, g4, _, _, _, _, rfl, kg3.trans kg4, F8, p + sz, _, _, _, fsl, fnd, _, rfl, q3, rfl, n1, n2, n3, n4, rfl, T1.keep kg4,
                    by rw [hw, whole_pt hdr c1 hF stop, if_neg (by omega), List.nil_append], by omega⟩
          · rename Fm _ _ _ _ _ => F6
            exact ⟨rows.length - (p + 1), by omega, g3, _, _, _, _, rfl, kg3, F6, p + 1, _, _, _, fsl, fnd, _, rfl, hlt, rfl, m1, m2, m3', m4, rfl, T1,
              by rw [hw, whole_no hdr (by assumption), if_pos (by assumption), List.nil_append], by omega⟩
          · rename Fm _ _ _ _ _ => F6
            exact ⟨rows.length - (p + 1), by omega, g3, _, _, _, _, rfl, kg3, F6, p + 1, _, _, _, fsl ++ [.ref a'], fnd ++ [(c, tx)], _, rfl, hlt, rfl, m1, m2, m3', m4, rfl, T1.append (.cons hat .nil),
              by rw [hw, whole_no hdr (by assumption), if_neg (by assumption), List.append_assoc], by simp; omega⟩
          · exfalso; omega
        · skip
          repeat' (first | ((fail_if_success (with_reducible show wpAny _ _ (eval (PySem.Expr.ListComp _ _ _ _) _) _ _ _)); (fail_if_success (with_reducible show wpAny _ _ (exec (PySem.Stmt.While _ _ _ _) _) _ _ _)); (fail_if_success (with_reducible show Exists _)); walk1) | (dsimp only; (fail_if_success (with_reducible show wpAny _ _ (eval (PySem.Expr.ListComp _ _ _ _) _) _ _ _)); (fail_if_success (with_reducible show wpAny _ _ (exec (PySem.Stmt.While _ _ _ _) _) _ _ _)); (fail_if_success (with_reducible show Exists _)); walk1))
          · exfalso; omega
          · dsimp only
            k_unfold
            refine hR _ _ _ ⟨_, _, rfl, F5.at_ (.head _), ?_, kg3.trans F5.keep⟩
            have e : whole (rows.length - p) (rows.drop p) = [] := by rw [hpe, Nat.sub_self]; rfl
            rw [hw, e, List.append_nil]
            exact T1.keep F5.keep
end
end
section
local macro_rules | `(tactic| walk_at "GG") => `(tactic| first | assumption | exact GG.keep (by assumption) (Fm.keep (by assumption)))
local macro_rules | `(tactic| walk_at "AT") => `(tactic| first | assumption | exact Fm.at_ (by assumption) (by k_mem) | exact At.keep (by assumption) (Fm.keep (by assumption)))
local macro_rules | `(tactic| walk_at "CHG") => `(tactic| repeat (first | exact Chg.head | apply Chg.tail))
local macro_rules | `(tactic| walk_at "LIST") => `(tactic| first | exact isList_keep (by assumption) (Fm.keep (by assumption)) | exact isList_of (Fm.at_ (by assumption) (by k_mem)) | exact isList_of (by walk_at "AT"))
local macro_rules | `(tactic| walk_at "NUM") => `(tactic| first | decide | omega | (simp only [List.length_cons, List.length_nil]; omega))
local macro_rules | `(tactic| walk_at "eval Name") => `(tactic| first
  | (refine lv (by assumption) (by first | rfl | assumption) ?_)
  | (k_dflt (refine' gv ?G ?e ?_; (case G => walk_at "GG"); (case e => k_is); k_whole))
  | (k_dflt (refine' bv ?G ?e ?v ?_; (case G => walk_at "GG"); (case e => k_is); (case v => boot_by_name); k_whole)))
local macro_rules | `(tactic| walk_at "loadName") => `(tactic| (refine lvN (by assumption) (by first | rfl | assumption) ?_))
local macro_rules | `(tactic| walk_at "eval Constant int") => `(tactic| (with_reducible refine ci ?_; intro t' tk'))
local macro_rules | `(tactic| walk_at "eval Constant str") => `(tactic| (with_reducible refine cs ?_; intro t' tk'))
local macro_rules | `(tactic| walk_at "storeName") => `(tactic| (refine svT (by assumption) ?_; intro h' tk' F'))
local macro_rules | `(tactic| walk_at "binaryOp Add int int") => `(tactic| (with_reducible refine addI ?_; intro t' tk'))
local macro_rules | `(tactic| walk_at "inplaceOp Add int int") => `(tactic| (with_reducible refine iaddI ?_; intro t' tk'))
local macro_rules | `(tactic| walk_at "binaryOp Mod int int") => `(tactic| (refine modI (by omega) ?_; intro r' t' tk' hr1 hr2))
local macro_rules | `(tactic| walk_at "binaryOp FloorDiv int int") => `(tactic| (refine fdivI (by omega) (by omega) (by omega) (by omega) ?_; intro r' t' tk' hr1 hr2))
local macro_rules | `(tactic| walk_at "PART") => `(tactic| first | exact IsPart.none | exact IsPart.int _ _)
local macro_rules | `(tactic| walk_at "PICK") => `(tactic| first | exact pick_upto (by omega) | exact pick_run (by omega))
local macro_rules | `(tactic| walk_at "subscriptTail") => `(tactic| (k_dflt (first
  | ((with_reducible show wpAny _ _ (subscriptTail _ _ (Value.ref _) (Value.ref _)) _ _ _); refine' sliceL ?F ?x ?pl ?pu ?z ?e ?_; (case F => assumption); (case x => k_mem); (case pl => walk_at "PART"); (case pu => walk_at "PART"); (case z => walk_at "SZ"); (case e => walk_at "PICK"); k_whole; intro b' h' kp' F')
  | (refine' subL ?x ?a ?b ?c ?_; (case x => walk_at "AT"); (case a => walk_at "NUM"); (case b => walk_at "NUM"); (case c => first | rfl | assumption); k_whole)
  | (refine' sub2 ?x ?a ?_ ?_; (case x => walk_at "AT"); (case a => omega))
  | (refine' subM ?x ?T ?a ?b ?c ?_; (case x => walk_at "AT"); (case T => assumption); (case a => walk_at "NUM"); (case b => walk_at "NUM"); (case c => omega); k_whole; intro b' hR'))))
local macro_rules | `(tactic| walk_at "subscriptTail Subscript") => `(tactic| (k_dflt (refine' subScr ?x ?i ?a ?b ?c ?_; (case x => walk_at "LIST"); (case i => assumption); (case a => omega); (case b => omega); (case c => omega); k_whole); intro j' t'))
local macro_rules | `(tactic| walk_at "setItem") => `(tactic| (k_dflt (refine' setF ?F ?x ?a ?b ?c ?_; (case F => assumption); (case x => walk_at "CHG"); (case a => walk_at "NUM"); (case b => walk_at "NUM"); (case c => walk_at "NUM"); k_whole); intro h' F'; (try simp only [List.set_cons_zero, List.set_cons_succ, Int.reduceToNat] at F')))
local macro_rules | `(tactic| walk_at "call builtin:len") => `(tactic| (k_dflt (refine' lenI ?x ?a ?_; (case x => walk_at "LIST"); (case a => omega); k_whole); intro t' tk'))
local macro_rules | `(tactic| walk_at "SZ") => `(tactic| first | (rw [sizeLine_eq]; (try simp only [List.length_append, List.length_cons, List.length_nil, List.length_take]); omega) | size_fits)
local macro_rules | `(tactic| walk_at "callWith ref") => `(tactic| (k_dflt (refine' callG ?k1 ?k2 ?_; (case k1 => k_is); (case k2 => exact rfl))))
local macro_rules | `(tactic| walk_at "newList") => `(tactic| (refine newL (by assumption) (by walk_at "SZ") ?_; intro a' h' kp' F'))
local macro_rules | `(tactic| walk_at "newTuple") => `(tactic| (refine newT (by assumption) (by walk_at "SZ") ?_; intro a' h' kp' hat' F'))
local macro_rules | `(tactic| walk_at "eval Slice") => `(tactic| refine sliceF ?_)
local macro_rules | `(tactic| walk_at "Exists") => `(tactic| (refine ⟨_, _, _, _, by assumption, ?_⟩; intro a' h' kp' F'))
local macro_rules | `(tactic| walk_at "getMethod ref") => `(tactic| (k_dflt (first | refine methApp (by walk_at "AT") ?_ | refine methClr (by walk_at "AT") ?_)))
local macro_rules | `(tactic| walk_at "call builtin:list.append") => `(tactic| (k_dflt (refine' appL ?F ?c ?z ?_; (case F => assumption); (case c => walk_at "CHG"); (case z => walk_at "SZ"); k_whole); intro h' F'))
local macro_rules | `(tactic| walk_at "call builtin:list.clear") => `(tactic| (k_dflt (refine' clrL ?F ?c ?z ?_; (case F => assumption); (case c => walk_at "CHG"); (case z => walk_at "SZ"); k_whole); intro h' F'))
local macro_rules | `(tactic| walk_at "call type:range") => `(tactic| (refine range1 (by assumption) ?_; intro a' h' tk' kp' F'))
local macro_rules | `(tactic| walk_at "pyIter ref") => `(tactic| (k_dflt (refine' iterR ?F ?a ?b ?_; (case F => assumption); (case a => omega); (case b => omega); k_whole); intro it' h' kp' F'))
local macro_rules | `(tactic| walk_at "binaryOp Add ref ref") => `(tactic| (k_dflt (refine' addL ?F ?x ?y ?z ?_; (case F => assumption); (case x => walk_at "AT"); (case y => walk_at "AT"); (case z => walk_at "SZ"); k_whole); intro a' h' kp' F'))
local macro_rules | `(tactic| walk_at "exec For") => `(tactic| refine wpAny_For ?_)
local macro_rules | `(tactic| walk_at "DEPTH") => `(tactic| first | omega | ((try simp only [depth_deeper, depth_in1]); omega))
local macro_rules | `(tactic| walk_at "MUT") => `(tactic| repeat (first | exact Muts.nil | refine Muts.cons (by first | exact mutL | exact mutI | exact mutRI | exact mutR | exact mutS | exact mutCO) ?_))
local macro_rules | `(tactic| walk_at "CALL") => `(tactic| fail)
local macro_rules | `(tactic| walk_at "codeAny call") => `(tactic| walk_at "CALL")
local macro_rules | `(tactic| walk_at "FITS") => `(tactic| repeat (first | exact Fits.nil | exact Pull.head | apply Fits.cons | apply Pull.tail))
local macro_rules | `(tactic| walk_at "truthy ref") => `(tactic| (k_dflt (refine' truthyL ?x ?z ?_; (case x => walk_at "AT"); (case z => walk_at "SZ"); k_whole); intro tk'))
local macro_rules | `(tactic| walk_at "SETS") => `(tactic| first | exact setX (by walk_at "GG") | exact setI (by walk_at "GG") | exact setV (by walk_at "GG"))
local macro_rules | `(tactic| walk_at "compareOp In int ref") => `(tactic| (k_dflt (refine' inSet ?S ?_; (case S => walk_at "SETS"); k_whole); intro tk'))
local macro_rules | `(tactic| walk_at "compareOp NotIn int ref") => `(tactic| (k_dflt (refine' notInSet ?S ?_; (case S => walk_at "SETS"); k_whole); intro tk'))
local macro_rules | `(tactic| walk_at "compareOp In int ref") => `(tactic| (k_dflt (refine' inInts ?x ?I ?_; (case x => walk_at "AT"); (case I => assumption); k_whole)))
local macro_rules | `(tactic| walk_at "compareOp NotIn int ref") => `(tactic| (k_dflt (refine' notInInts ?x ?I ?_; (case x => walk_at "AT"); (case I => assumption); k_whole)))
local macro_rules | `(tactic| walk_at "assign Tuple") => `(tactic| (k_dflt (refine' asgT ?hh ?F ?x ?n ?st ?_; (case hh => assumption); (case F => assumption); (case x => walk_at "AT"); (case n => rfl); (case st => rfl); k_whole); intro h' kp' F'))
local macro_rules | `(tactic| walk_at "unpackItems ref") => `(tactic| (k_dflt (refine' unpI ?hh ?F ?x ?n ?_; (case hh => assumption); (case F => assumption); (case x => walk_at "AT"); (case n => rfl); k_whole); intro h' kp' F'))
local macro_rules | `(tactic| walk_at "pyIter ref") => `(tactic| (k_dflt (refine' iterL ?F ?x ?_; (case F => assumption); (case x => walk_at "AT"); k_whole); intro it' h' kp' F'))
def hexS : Str := Str.ofString "0123456789ABCDEFabcdef"
def isHexC (c : Nat) : Bool := !(Builtin.Str.occurrences hexS ⟨#[c]⟩ 0 hexS.length 1).isEmpty
/-- the law's own test of a hexadecimal number -/
def isNum (x : Str) : Bool := (x != Str.ofString "") && (List.range x.cps.size).all fun i => isHexC (x.cps.getD i 0)
theorem paired_at {α β : Type} {F : α → β → Prop} {l₁ : List α} {l₂ : List β} (x : Paired F l₁ l₂) : ∀ {i : Nat} {y : β}, l₂[i]? = some y → ∃ a, l₁[i]? = some a ∧ F a y := by
  induction x with
  | nil => intro i y h; simp at h
  | cons h _ ih =>
    intro i y e
    cases i with
    | zero =>
      simp only [List.getElem?_cons_zero, Option.some.injEq] at e
      subst e
      exact ⟨_, rfl, h⟩
    | succ i => simpa using ih (by simpa using e)
theorem Fm.ofNs {h : Heap} {L : Addr} {m : Str → Option Value} (hn : h.Ns L m) : Fm (hideAll h [L]) L m [] h :=
  ⟨hn, fun b o e => of_hideAll _ e, hideAll_none _ (.head _), fun _ h => (nomatch h), List.nodup_nil⟩
section
variable {prog : Program} {w : World} {A : Around} {E : Value → Shared → Prop} {s : Shared} {g : Heap} {L x : Addr} {m : Str → Option Value} {l : List (Addr × (Obj → Prop))}

theorem isnum_ok {h : Heap} {x : Str} {t : Tok} (G : GG w h) (hx : x.cps.size ≤ 100) (hh : A.handled = none) (hroom : A.depth + 10 < recursionLimit) :
    CallT prog w A 169 [.str x t] h (fun v h' => v = .bool (isNum x) ∧ Keep h h') := by
  intro s R hs hR
  subst hs
  refine enter (binds := [(Str.ofString "text", .str x t)]) G (by k_is) (by k_is) (by omega) rfl (locs rfl) ?_
  intro L h₁ tk1 hLe hn hk hL
  have F := Fm.start0 hn hk hL
  show wpAny _ _ _ _ _ _
  k_fold
  repeat' (first | ((fail_if_success (with_reducible show wpAny _ _ (eval (PySem.Expr.ListComp _ _ _ _) _) _ _ _)); (fail_if_success (with_reducible show wpAny _ _ (exec (PySem.Stmt.While _ _ _ _) _) _ _ _)); walk1) | (dsimp only; (fail_if_success (with_reducible show wpAny _ _ (eval (PySem.Expr.ListComp _ _ _ _) _) _ _ _)); (fail_if_success (with_reducible show wpAny _ _ (exec (PySem.Stmt.While _ _ _ _) _) _ _ _)); walk1))
  · rename (_ != _) = true => c1
    have Gs := G.keep hk
    refine wpAny_ListComp_free (cl := []) (fun _ => true) (fun v y => ∃ c u, v = .str ⟨#[c]⟩ u ∧ y = .bool (isHexC c)) (closureFor_none (by decide)) (by decide) rfl (by decide) rfl ?_
    walk1
    refine wpAny_pyIter_str fun o St W hst => ?_
    refine ⟨_, _, _, _, _, _, rfl, W _ hh, by rw [sizeLine_eq]; omega, hst, ?_, ?_, ?_⟩
    · intro b hb
      rw [List.mem_singleton] at hb; subst hb
      rw [Heap.size_push]; exact Nat.lt_succ_self _
    · refine ⟨fun C i v s3 m3 E' _ _ _ _ _ _ => wpAny_tests_nil ⟨rfl, _, _, rfl, fun _ _ e => e⟩, fun C i v s3 m3 E' _ hP _ hn3 hm3 hk3 _ => ?_⟩
      obtain ⟨c, u, _, rfl⟩ := hP
      have F3 := Fm.ofNs hn3
      show wpAny _ _ _ _ _ _
      repeat' (first | ((fail_if_success (with_reducible show wpAny _ _ (eval (PySem.Expr.ListComp _ _ _ _) _) _ _ _)); (fail_if_success (with_reducible show wpAny _ _ (exec (PySem.Stmt.While _ _ _ _) _) _ _ _)); (fail_if_success (with_reducible show Exists _)); walk1) | (dsimp only; (fail_if_success (with_reducible show wpAny _ _ (eval (PySem.Expr.ListComp _ _ _ _) _) _ _ _)); (fail_if_success (with_reducible show wpAny _ _ (exec (PySem.Stmt.While _ _ _ _) _) _ _ _)); (fail_if_success (with_reducible show Exists _)); walk1))
      · exact ⟨c, u, rfl, rfl⟩
      · exact ⟨_, _, rfl, fun _ _ e => e⟩
    · intro D h' tk ys vs nD hl hpl hvl hvs hP kk
      dsimp only at kk nD
      have k2 : Keep h₁ h' := fun b o e => kk b o (by simpa using Nat.ne_of_lt (Heap.lt_size e)) (Heap.get?_push_of_some _ e)
      have F2 := F.keeps k2
      rw [List.filter_eq_self.mpr (fun _ _ => rfl)] at hP
      have hsz : ys.size = x.cps.size := by rw [← Array.length_toList, ← hP.length, hvl]
      have hys : ∀ (i : Nat) (v : Value), ys[i]? = some v → v = Value.bool (isHexC (x.cps.getD i 0)) := fun i v e => by
        obtain ⟨a, ea, c, u, rfl, rfl⟩ := paired_at hP (i := i) (y := v) (by simpa using e)
        obtain ⟨c', u', e1, e2⟩ := hvs i _ ea
        cases e2
        rw [Array.getD_eq_getD_getElem?, e1]; rfl
      walk1
      refine call_all_walk (wpAny_pyIter_list hl ⟨_, _, _, _, _, _, fun i => isHexC (x.cps.getD i 0), rfl, Walks.list (A := Around.in1 _) (by exact hh) _ D (fun e => ?_) ys, ⟨⟨_, Heap.get?_push_size _ rfl, rfl, rfl⟩, hl.at fun o e => Heap.get?_push_of_some _ e⟩, fun i v s Q E e q => ?_, fun h3 tk3 k3 => ?_⟩)
      · obtain ⟨o, eo, _⟩ := hl
        rw [e] at eo; exact absurd (Heap.lt_size eo) (Nat.lt_irrefl _)
      · rw [hys i v e]; exact wpAny_truthy_bool q
      · skip
        repeat' (first | walk1 | (dsimp only; walk1))
        dsimp only
        k_unfold
        refine hR _ _ _ ⟨?_, fun b o e => k3 b o (fun hm => ?_) (Heap.get?_push_of_some _ (k2 _ _ (hk _ _ e)))⟩
        · unfold isNum; rw [c1, hsz]; rfl
        · rw [List.mem_singleton] at hm
          exact absurd (Heap.lt_size (k2 _ _ (hk _ _ e))) (by rw [hm]; exact Nat.lt_irrefl _)
  · rename (_ != _) = false => c1
    dsimp only
    k_unfold
    exact hR _ _ _ ⟨by unfold isNum; rw [c1]; rfl, hk⟩
end
end
section
local macro_rules | `(tactic| walk_at "GG") => `(tactic| first | assumption | exact GG.keep (by assumption) (Fm.keep (by assumption)))
local macro_rules | `(tactic| walk_at "AT") => `(tactic| first | assumption | exact Fm.at_ (by assumption) (by k_mem) | exact At.keep (by assumption) (Fm.keep (by assumption)))
local macro_rules | `(tactic| walk_at "CHG") => `(tactic| repeat (first | exact Chg.head | apply Chg.tail))
local macro_rules | `(tactic| walk_at "LIST") => `(tactic| first | exact isList_keep (by assumption) (Fm.keep (by assumption)) | exact isList_of (Fm.at_ (by assumption) (by k_mem)) | exact isList_of (by walk_at "AT"))
local macro_rules | `(tactic| walk_at "NUM") => `(tactic| first | decide | omega | (simp only [List.length_cons, List.length_nil]; omega))
local macro_rules | `(tactic| walk_at "eval Name") => `(tactic| first
  | (refine lv (by assumption) (by first | rfl | assumption) ?_)
  | (k_dflt (refine' gv ?G ?e ?_; (case G => walk_at "GG"); (case e => k_is); k_whole))
  | (k_dflt (refine' bv ?G ?e ?v ?_; (case G => walk_at "GG"); (case e => k_is); (case v => boot_by_name); k_whole)))
local macro_rules | `(tactic| walk_at "loadName") => `(tactic| (refine lvN (by assumption) (by first | rfl | assumption) ?_))
local macro_rules | `(tactic| walk_at "eval Constant int") => `(tactic| (with_reducible refine ci ?_; intro t' tk'))
local macro_rules | `(tactic| walk_at "eval Constant str") => `(tactic| (with_reducible refine cs ?_; intro t' tk'))
local macro_rules | `(tactic| walk_at "storeName") => `(tactic| (refine svT (by assumption) ?_; intro h' tk' F'))
local macro_rules | `(tactic| walk_at "binaryOp Add int int") => `(tactic| (with_reducible refine addI ?_; intro t' tk'))
local macro_rules | `(tactic| walk_at "inplaceOp Add int int") => `(tactic| (with_reducible refine iaddI ?_; intro t' tk'))
local macro_rules | `(tactic| walk_at "binaryOp Mod int int") => `(tactic| (refine modI (by omega) ?_; intro r' t' tk' hr1 hr2))
local macro_rules | `(tactic| walk_at "binaryOp FloorDiv int int") => `(tactic| (refine fdivI (by omega) (by omega) (by omega) (by omega) ?_; intro r' t' tk' hr1 hr2))
local macro_rules | `(tactic| walk_at "PART") => `(tactic| first | exact IsPart.none | exact IsPart.int _ _)
local macro_rules | `(tactic| walk_at "PICK") => `(tactic| first | exact pick_upto (by omega) | exact pick_run (by omega))
local macro_rules | `(tactic| walk_at "subscriptTail") => `(tactic| (k_dflt (first
  | ((with_reducible show wpAny _ _ (subscriptTail _ _ (Value.ref _) (Value.ref _)) _ _ _); refine' sliceL ?F ?x ?pl ?pu ?z ?e ?_; (case F => assumption); (case x => k_mem); (case pl => walk_at "PART"); (case pu => walk_at "PART"); (case z => walk_at "SZ"); (case e => walk_at "PICK"); k_whole; intro b' h' kp' F')
  | (refine' subL ?x ?a ?b ?c ?_; (case x => walk_at "AT"); (case a => walk_at "NUM"); (case b => walk_at "NUM"); (case c => first | rfl | assumption); k_whole)
  | (refine' sub2 ?x ?a ?_ ?_; (case x => walk_at "AT"); (case a => omega))
  | (refine' subM ?x ?T ?a ?b ?c ?_; (case x => walk_at "AT"); (case T => assumption); (case a => walk_at "NUM"); (case b => walk_at "NUM"); (case c => omega); k_whole; intro b' hR'))))
local macro_rules | `(tactic| walk_at "subscriptTail Subscript") => `(tactic| (k_dflt (refine' subScr ?x ?i ?a ?b ?c ?_; (case x => walk_at "LIST"); (case i => assumption); (case a => omega); (case b => omega); (case c => omega); k_whole); intro j' t'))
local macro_rules | `(tactic| walk_at "setItem") => `(tactic| (k_dflt (refine' setF ?F ?x ?a ?b ?c ?_; (case F => assumption); (case x => walk_at "CHG"); (case a => walk_at "NUM"); (case b => walk_at "NUM"); (case c => walk_at "NUM"); k_whole); intro h' F'; (try simp only [List.set_cons_zero, List.set_cons_succ, Int.reduceToNat] at F')))
local macro_rules | `(tactic| walk_at "call builtin:len") => `(tactic| (k_dflt (refine' lenI ?x ?a ?_; (case x => walk_at "LIST"); (case a => omega); k_whole); intro t' tk'))
local macro_rules | `(tactic| walk_at "SZ") => `(tactic| first | (rw [sizeLine_eq]; (try simp only [List.length_append, List.length_cons, List.length_nil, List.length_take]); omega) | size_fits)
local macro_rules | `(tactic| walk_at "callWith ref") => `(tactic| (k_dflt (refine' callG ?k1 ?k2 ?_; (case k1 => k_is); (case k2 => exact rfl))))
local macro_rules | `(tactic| walk_at "newList") => `(tactic| (refine newL (by assumption) (by walk_at "SZ") ?_; intro a' h' kp' F'))
local macro_rules | `(tactic| walk_at "newTuple") => `(tactic| (refine newT (by assumption) (by walk_at "SZ") ?_; intro a' h' kp' hat' F'))
local macro_rules | `(tactic| walk_at "eval Slice") => `(tactic| refine sliceF ?_)
local macro_rules | `(tactic| walk_at "Exists") => `(tactic| (refine ⟨_, _, _, _, by assumption, ?_⟩; intro a' h' kp' F'))
local macro_rules | `(tactic| walk_at "getMethod ref") => `(tactic| (k_dflt (first | refine methApp (by walk_at "AT") ?_ | refine methClr (by walk_at "AT") ?_)))
local macro_rules | `(tactic| walk_at "call builtin:list.append") => `(tactic| (k_dflt (refine' appL ?F ?c ?z ?_; (case F => assumption); (case c => walk_at "CHG"); (case z => walk_at "SZ"); k_whole); intro h' F'))
local macro_rules | `(tactic| walk_at "call builtin:list.clear") => `(tactic| (k_dflt (refine' clrL ?F ?c ?z ?_; (case F => assumption); (case c => walk_at "CHG"); (case z => walk_at "SZ"); k_whole); intro h' F'))
local macro_rules | `(tactic| walk_at "call type:range") => `(tactic| (refine range1 (by assumption) ?_; intro a' h' tk' kp' F'))
local macro_rules | `(tactic| walk_at "pyIter ref") => `(tactic| (k_dflt (refine' iterR ?F ?a ?b ?_; (case F => assumption); (case a => omega); (case b => omega); k_whole); intro it' h' kp' F'))
local macro_rules | `(tactic| walk_at "binaryOp Add ref ref") => `(tactic| (k_dflt (refine' addL ?F ?x ?y ?z ?_; (case F => assumption); (case x => walk_at "AT"); (case y => walk_at "AT"); (case z => walk_at "SZ"); k_whole); intro a' h' kp' F'))
local macro_rules | `(tactic| walk_at "exec For") => `(tactic| refine wpAny_For ?_)
local macro_rules | `(tactic| walk_at "DEPTH") => `(tactic| first | omega | ((try simp only [depth_deeper, depth_in1]); omega))
local macro_rules | `(tactic| walk_at "MUT") => `(tactic| repeat (first | exact Muts.nil | refine Muts.cons (by first | exact mutL | exact mutI | exact mutRI | exact mutR | exact mutS | exact mutCO) ?_))
local macro_rules | `(tactic| walk_at "CALL") => `(tactic| fail)
local macro_rules | `(tactic| walk_at "codeAny call") => `(tactic| walk_at "CALL")
local macro_rules | `(tactic| walk_at "FITS") => `(tactic| repeat (first | exact Fits.nil | exact Pull.head | apply Fits.cons | apply Pull.tail))
local macro_rules | `(tactic| walk_at "truthy ref") => `(tactic| (k_dflt (refine' truthyL ?x ?z ?_; (case x => walk_at "AT"); (case z => walk_at "SZ"); k_whole); intro tk'))
local macro_rules | `(tactic| walk_at "SETS") => `(tactic| first | exact setX (by walk_at "GG") | exact setI (by walk_at "GG") | exact setV (by walk_at "GG"))
local macro_rules | `(tactic| walk_at "compareOp In int ref") => `(tactic| (k_dflt (refine' inSet ?S ?_; (case S => walk_at "SETS"); k_whole); intro tk'))
local macro_rules | `(tactic| walk_at "compareOp NotIn int ref") => `(tactic| (k_dflt (refine' notInSet ?S ?_; (case S => walk_at "SETS"); k_whole); intro tk'))
local macro_rules | `(tactic| walk_at "compareOp In int ref") => `(tactic| (k_dflt (refine' inInts ?x ?I ?_; (case x => walk_at "AT"); (case I => assumption); k_whole)))
local macro_rules | `(tactic| walk_at "compareOp NotIn int ref") => `(tactic| (k_dflt (refine' notInInts ?x ?I ?_; (case x => walk_at "AT"); (case I => assumption); k_whole)))
local macro_rules | `(tactic| walk_at "assign Tuple") => `(tactic| (k_dflt (refine' asgT ?hh ?F ?x ?n ?st ?_; (case hh => assumption); (case F => assumption); (case x => walk_at "AT"); (case n => rfl); (case st => rfl); k_whole); intro h' kp' F'))
local macro_rules | `(tactic| walk_at "unpackItems ref") => `(tactic| (k_dflt (refine' unpI ?hh ?F ?x ?n ?_; (case hh => assumption); (case F => assumption); (case x => walk_at "AT"); (case n => rfl); k_whole); intro h' kp' F'))
local macro_rules | `(tactic| walk_at "pyIter ref") => `(tactic| (k_dflt (refine' iterL ?F ?x ?_; (case F => assumption); (case x => walk_at "AT"); k_whole); intro it' h' kp' F'))
local macro_rules | `(tactic| walk_at "newTuple") => `(tactic| (refine newTO (by assumption) (by walk_at "SZ") ?_; intro a' h' kp' F'))
/-- the law's own filter of handles -/
def hOwn (own c : Int) (v : Str) : Int := if c = 0 then (if v = Str.ofString "DIMSTYLE" then 105 else 5) else own
def hnd : Int → List (Int × Str) → List (Int × Str)
  | _, [] => []
  | own, (c, v) :: r => (if c ≠ hOwn own c v ∨ isNum v = true then [(c, v)] else []) ++ hnd (hOwn own c v) r
section
variable {prog : Program} {w : World} {A : Around} {E : Value → Shared → Prop} {s : Shared} {g : Heap} {L x : Addr} {m : Str → Option Value} {l : List (Addr × (Obj → Prop))}

theorem isnum_call {x : Str} {t : Tok} {Q : Value → Shared → Prop} (F : Fm g L m l s.heap) (G : GG w s.heap) (hx : x.cps.size ≤ 100) (hh : A.handled = none) (hroom : A.depth + 10 < recursionLimit)
    (h : ∀ h' tk, Fm g L m l h' → Q (.bool (isNum x)) { s with heap := h', toks := tk }) :
    codeAny (model prog w) A (.call (.ref 169) ⟨[.str x t], []⟩) (fun r s' => match r with | .ok (.ret v) => Q v s' | .ok _ => False | .error e => E e s') s := by
  refine isnum_ok G hx hh hroom _ _ rfl ?_
  rintro _ h' tk' ⟨rfl, k⟩
  exact h _ _ (F.keeps k)
local macro_rules | `(tactic| walk_at "CALL") => `(tactic| (k_dflt (refine' isnum_call ?F ?G ?x ?hh ?r ?_; (case F => assumption); (case G => walk_at "GG"); (case x => assumption); (case hh => assumption); (case r => walk_at "DEPTH"); k_whole); intro h' tk' F'))

theorem handles_ok {h : Heap} {ax : Addr} {vs : List Value} {rows : List (Int × Str)} (G : GG w h) (hx : At h ax (LstO vs)) (hT : Tups h vs rows) (hlen : rows.length ≤ 30) (hsz : ∀ r ∈ rows, r.2.cps.size ≤ 100) (hh : A.handled = none) (hroom : A.depth + 20 < recursionLimit) :
    CallT prog w A 176 [.ref ax] h (fun v h' => ∃ l us, v = .ref l ∧ At h' l (LstO us) ∧ Tups h' us (hnd 5 rows) ∧ Keep h h') := by
  intro s R hs hR
  subst hs
  refine enter (binds := [(Str.ofString "rows", .ref ax)]) G (by k_is) (by k_is) (by omega) rfl (locs rfl) ?_
  intro L h₁ tk1 hLe hn hk hL
  have F := Fm.start0 hn hk hL
  show wpAny _ _ _ _ _ _
  k_fold
  repeat' (first | ((fail_if_success (with_reducible show wpAny _ _ (eval (PySem.Expr.ListComp _ _ _ _) _) _ _ _)); (fail_if_success (with_reducible show wpAny _ _ (exec (PySem.Stmt.While _ _ _ _) _) _ _ _)); walk1) | (dsimp only; (fail_if_success (with_reducible show wpAny _ _ (eval (PySem.Expr.ListComp _ _ _ _) _) _ _ _)); (fail_if_success (with_reducible show wpAny _ _ (exec (PySem.Stmt.While _ _ _ _) _) _ _ _)); walk1))
  rename Fm _ _ _ _ _ => F4
  have F4 := F4.fits (l' := [(_, IterO ax 0), (_, LstO [])]) (by walk_at "FITS")
  rename Addr => it0
  have hvl := hT.length
  refine' forList (it := it0) (J := fun i g' m' l' => ∃ fa fsl fnd own to, l' = [(fa, LstO fsl)] ∧ m' (Str.ofString "found") = some (.ref fa) ∧ m' (Str.ofString "own") = some (.int own to) ∧ Tups g' fsl fnd ∧ hnd 5 rows = fnd ++ hnd own (rows.drop i) ∧ fsl.length ≤ i) hh F4 hx ?init ?turn ?fin
  case init => exact ⟨_, _, [], 5, _, rfl, rfl, rfl, .nil, rfl, Nat.le_refl _⟩
  case fin =>
    rintro g3 m3 l3 h3 tk3 ⟨fa, fsl, fnd, own, to, rfl, m1, m2, T1, hr, hle⟩ kg3 F5
    have hd3 : rows.drop vs.length = [] := by rw [hvl]; simp
    rw [hd3] at hr
    dsimp only
    repeat' (first | walk1 | (dsimp only; walk1))
    dsimp only
    k_unfold
    rename Fm _ _ _ _ _ => F6
    refine hR _ _ _ ⟨_, _, rfl, F6.at_ (.head _), ?_, kg3.trans F6.keep⟩
    rw [hr]
    simpa [hnd] using T1.keep F6.keep
  case turn =>
    rintro i v g3 m3 l3 h3 tk3 hv ⟨fa, fsl, fnd, own, to, rfl, m1, m2, T1, hr, hle⟩ kg3 F5
    have Gg := G.keep kg3
    have l1 := T1.length
    have hlt : i < vs.length := (List.getElem?_eq_some_iff.mp hv).1
    obtain ⟨a', c, tx, t1, u1, hv', hrow, hat⟩ := hT.get i hlt
    rw [hv] at hv'
    cases hv'
    have hsx : tx.cps.size ≤ 100 := hsz _ (List.mem_of_getElem? hrow)
    have hdr : rows.drop i = (c, tx) :: rows.drop (i + 1) := by
      obtain ⟨hlt, e⟩ := List.getElem?_eq_some_iff.mp hrow
      rw [List.drop_eq_getElem_cons hlt, e]
    rw [hdr] at hr
    refine goPair hh F5 (.head _) (hat.keep (kg3.trans F5.keep)) (fun h4 tk4 F6 => ?_)
    clear F5 hdr hat hv
    dsimp only
    walk1
    refine wpAny_mono (Q := fun f s' => f = .next ∧ ∃ m4 h4 tk4 to', s' = { s with heap := h4, toks := tk4 } ∧ Fm g3 L m4 [(it0, IterO ax (i + 1)), (fa, LstO fsl)] h4 ∧ m4 (Str.ofString "found") = some (.ref fa) ∧ m4 (Str.ofString "own") = some (.int (hOwn own c tx) to') ∧
      m4 (Str.ofString "code") = some (.int c t1) ∧ m4 (Str.ofString "value") = some (.str tx u1)) ?first (fun f s' hm => ?rest) (fun _ _ x => x)
    case first =>
      show wpAny _ _ _ _ _ _
      repeat' (first | ((fail_if_success (with_reducible show wpAny _ _ (eval (PySem.Expr.ListComp _ _ _ _) _) _ _ _)); (fail_if_success (with_reducible show wpAny _ _ (exec (PySem.Stmt.While _ _ _ _) _) _ _ _)); (fail_if_success (with_reducible show Exists _)); walk1) | (dsimp only; (fail_if_success (with_reducible show wpAny _ _ (eval (PySem.Expr.ListComp _ _ _ _) _) _ _ _)); (fail_if_success (with_reducible show wpAny _ _ (exec (PySem.Stmt.While _ _ _ _) _) _ _ _)); (fail_if_success (with_reducible show Exists _)); walk1))
      all_goals (first | exact rfl | skip)
      all_goals rename Fm _ _ _ _ _ => F7
      · have e : hOwn own c tx = 105 := by
          unfold hOwn; rw [if_pos (by assumption), if_pos (by first | assumption | exact beq_iff_eq.mp (by assumption))]
        exact ⟨_, _, _, _, rfl, F7, m1, by rw [e]; rfl, rfl, rfl⟩
      · have e : hOwn own c tx = 5 := by
          unfold hOwn; rw [if_pos (by assumption), if_neg (by first | assumption | exact beq_eq_false_iff_ne.mp (by assumption))]
        exact ⟨_, _, _, _, rfl, F7, m1, by rw [e]; rfl, rfl, rfl⟩
      · have e : hOwn own c tx = own := by
          unfold hOwn; rw [if_neg (by assumption)]
        exact ⟨_, _, _, _, rfl, F7, m1, by rw [e]; exact m2, rfl, rfl⟩
    case rest =>
      obtain ⟨rfl, m4', h5, tk5, to', rfl, F7, n1, n2, n3, n4⟩ := hm
      dsimp only
      show wpAny _ _ _ _ _ _
      k_fold
      repeat' (first | ((fail_if_success (with_reducible show wpAny _ _ (eval (PySem.Expr.ListComp _ _ _ _) _) _ _ _)); (fail_if_success (with_reducible show wpAny _ _ (exec (PySem.Stmt.While _ _ _ _) _) _ _ _)); (fail_if_success (with_reducible show Exists _)); walk1) | (dsimp only; (fail_if_success (with_reducible show wpAny _ _ (eval (PySem.Expr.ListComp _ _ _ _) _) _ _ _)); (fail_if_success (with_reducible show wpAny _ _ (exec (PySem.Stmt.While _ _ _ _) _) _ _ _)); (fail_if_success (with_reducible show Exists _)); walk1))
      all_goals (first | exact .inl rfl | skip)
      · rename Fm _ _ _ _ _ => F8
        have F8 := F8.fits (l' := [(it0, IterO ax (i + 1)), (fa, LstO (fsl ++ [.ref _])), (_, TupO [.int c t1, .str tx u1])]) (by walk_at "FITS")
        have ht := F8.at_ (List.Mem.tail _ (List.Mem.tail _ (List.Mem.head _)))
        obtain ⟨g5, kg5, F9, kf5⟩ := (F8.fits (l' := [(it0, IterO ax (i + 1)), (fa, LstO (fsl ++ [.ref _]))]) (by walk_at "FITS")).anew (by walk_at "MUT")
        exact ⟨g5, _, _, _, _, rfl, kg3.trans kg5, F9, _, fsl ++ [.ref _], fnd ++ [(c, tx)], _, _, rfl, n1, n2, (T1.keep kg5).append (.cons (ht.kf kf5 fun _ => frzT) .nil), by
          rw [hr]; show fnd ++ ((if _ then _ else []) ++ _) = _; rw [if_pos (.inl (by assumption)), List.append_assoc], by simp; omega⟩
      · rename Fm _ _ _ _ _ => F8
        have F8 := F8.fits (l' := [(it0, IterO ax (i + 1)), (fa, LstO (fsl ++ [.ref _])), (_, TupO [.int c t1, .str tx u1])]) (by walk_at "FITS")
        have ht := F8.at_ (List.Mem.tail _ (List.Mem.tail _ (List.Mem.head _)))
        obtain ⟨g5, kg5, F9, kf5⟩ := (F8.fits (l' := [(it0, IterO ax (i + 1)), (fa, LstO (fsl ++ [.ref _]))]) (by walk_at "FITS")).anew (by walk_at "MUT")
        exact ⟨g5, _, _, _, _, rfl, kg3.trans kg5, F9, _, fsl ++ [.ref _], fnd ++ [(c, tx)], _, _, rfl, n1, n2, (T1.keep kg5).append (.cons (ht.kf kf5 fun _ => frzT) .nil), by
          rw [hr]; show fnd ++ ((if _ then _ else []) ++ _) = _; rw [if_pos (.inr (by assumption)), List.append_assoc], by simp; omega⟩
      · rename Fm _ _ _ _ _ => F8
        exact ⟨g3, _, _, _, _, rfl, kg3, F8, _, fsl, fnd, _, _, rfl, n1, n2, T1, by
          rw [hr]; show fnd ++ ((if _ then _ else []) ++ _) = _; rw [if_neg (fun q => q.elim (fun q => q (by assumption)) fun q => by rw [(by assumption : isNum tx = false)] at q; cases q), List.nil_append], by omega⟩
end
end
theorem mem_io (c : Int) : c ∈ iC ↔ c ∈ oC := (show iC.Perm oC by decide).mem_iff
theorem x_far : ∀ x ∈ xC, ¬ x + 10 ∈ xC ∧ ¬ x + 20 ∈ xC ∧ 0 ≤ x := by decide
/-- the two machines in step -/
structure InStep (e z : Int) (due : Option Int) (last : Int) : Prop where
  no : due = none → e = -1
  so : ∀ d, due = some d → e = d ∧ z = last ∧ (d = last - 10 ∨ d = last) ∧ ∃ x ∈ xC, last = x + 20
theorem InStep.ne {e z : Int} {due : Option Int} {last c : Int} (S : InStep e z due last) (hc : 0 ≤ c) : some c = due ↔ c = e := by
  cases due with
  | none =>
    have := S.no rfl
    constructor
    · intro h; cases h
    · intro h; omega
  | some d =>
    have := (S.so d rfl).1
    constructor
    · intro h; cases h; exact this.symm
    · intro h; rw [h, this]
theorem InStep.nx {e z : Int} {due : Option Int} {last c : Int} (S : InStep e z due last) (hc : 0 ≤ c) (h : c = e) : ¬ c ∈ xC := by
  have hd := (S.ne hc).mpr h
  obtain ⟨_, _, h3, x, hx, h4⟩ := S.so c hd.symm
  obtain ⟨n1, n2, _⟩ := x_far x hx
  rcases h3 with h3 | h3
  · rw [h3, h4]; intro q; exact n1 (by rwa [show x + 20 - 10 = x + 10 by omega] at q)
  · rw [h3, h4]; exact n2
theorem run_eq {α : Type} (lab : α → Int × Str) : ∀ (its : List (α × Int)) (e z : Int) (pt : List α) (fnd : List (Int × Str)) (due : Option Int) (last : Int), (∀ p ∈ its, 0 ≤ p.2 ∧ (lab p.1).1 = p.2) → InStep e z due last →
    fnd ++ (PS.run ⟨e, z, pt⟩ its).map lab = LS.run ⟨fnd, pt.map lab, due, last⟩ (its.map fun p => lab p.1)
  | [], e, z, pt, fnd, due, last, _, _ => by
    show fnd ++ (if 1 < pt.length then pt else []).map lab = fnd ++ (if 1 < (pt.map lab).length then pt.map lab else [])
    rw [List.length_map]; split <;> rfl
  | (v, c) :: its, e, z, pt, fnd, due, last, h, S => by
    have hv := h (v, c) (.head _)
    have ht : ∀ p ∈ its, 0 ≤ p.2 ∧ (lab p.1).1 = p.2 := fun p hp => h p (.tail _ hp)
    obtain ⟨tx, hl⟩ : ∃ tx, lab v = (c, tx) := ⟨(lab v).2, Prod.ext hv.2 rfl⟩
    have hc : 0 ≤ c := hv.1
    have hne := S.ne hc
    have fl : ∃ fnd' pt', fnd' = fnd ++ ((PS.outs ⟨e, z, pt⟩ c).map lab) ∧ PS.flush ⟨e, z, pt⟩ c = ⟨e, z, pt'⟩ ∧ LS.flush ⟨fnd, pt.map lab, due, last⟩ c = ⟨fnd', pt'.map lab, due, last⟩ ∧ (c ≠ e → pt' = []) := by
      by_cases hf : 0 < pt.length ∧ c ≠ e
      · refine ⟨_, [], rfl, if_pos hf, ?_, fun _ => rfl⟩
        rw [LS.flush_yes (by rw [List.length_map]; exact hf.1) (fun q => hf.2 (hne.mp q)) rfl]
        have : PS.outs ⟨e, z, pt⟩ c = if 1 < pt.length then pt else [] := if_pos hf
        rw [this, List.length_map]
        by_cases h1 : 1 < pt.length
        · rw [if_pos h1, if_pos h1]; rfl
        · rw [if_neg h1, if_neg h1]; rfl
      · refine ⟨fnd, pt, ?_, if_neg hf, if_neg fun q => hf ⟨by have := q.1; rwa [List.length_map] at this, fun q' => q.2 (hne.mpr q')⟩, fun q => ?_⟩
        · have : PS.outs ⟨e, z, pt⟩ c = [] := if_neg hf
          rw [this]; simp
        · exact List.eq_nil_of_length_eq_zero (by have := fun a => hf ⟨a, q⟩; omega)
    obtain ⟨fnd', pt', hf', hp, hq, hem⟩ := fl
    show fnd ++ ((PS.outs ⟨e, z, pt⟩ c) ++ ((PS.flush ⟨e, z, pt⟩ c).own v c ++ ((PS.flush ⟨e, z, pt⟩ c).next v c).run its)).map lab = LS.run _ (lab v :: its.map fun p => lab p.1)
    rw [hl]
    show _ = ((LS.flush ⟨fnd, pt.map lab, due, last⟩ c).next c tx).run _
    rw [hq, hp, List.map_append, ← List.append_assoc, ← hf']
    by_cases hx : c ∈ xC
    · have o : PS.own ⟨e, z, pt'⟩ v c = [] := if_pos hx
      have x : PS.next ⟨e, z, pt'⟩ v c = ⟨c + 10, c + 20, pt' ++ [v]⟩ := if_pos hx
      have hpe : pt' = [] := hem fun q => S.nx hc q hx
      rw [o, x, List.nil_append, LS.next_x hx, hpe]
      have := run_eq lab its (c + 10) (c + 20) ([] ++ [v]) fnd' (some (c + 10)) (c + 20) ht ⟨fun q => (by cases q), fun d q => by cases q; exact ⟨rfl, rfl, .inl (by omega), c, hx, rfl⟩⟩
      rw [this]; simp [hl]
    · by_cases he : c = e
      · have o : PS.own ⟨e, z, pt'⟩ v c = [] := by unfold PS.own; rw [if_neg hx]; exact if_pos he
        have x : PS.next ⟨e, z, pt'⟩ v c = ⟨if z < e + 10 then -1 else e + 10, z, pt' ++ [v]⟩ := by unfold PS.next; rw [if_neg hx]; exact if_pos he
        have hd := hne.mpr he
        subst hd
        obtain ⟨h1, h2, h3, x0, hx0, h4⟩ := S.so c rfl
        rw [o, x, List.nil_append, LS.next_due hx rfl]
        have hz : (if z < e + 10 then (-1 : Int) else e + 10) = if c < last then c + 10 else -1 := by
          rw [← he, h2]
          by_cases q : c < last
          · rw [if_neg (by omega), if_pos q]
          · rw [if_pos (by omega), if_neg q]
        rw [hz]
        have := run_eq lab its (if c < last then c + 10 else -1) z (pt' ++ [v]) fnd' (if c < last then some (c + 10) else none) last ht ⟨fun q => (by
          split at q
          · cases q
          · rename_i q'; rw [if_neg q']), fun d q => by
          split at q
          · rename_i q'
            cases q
            rw [if_pos q']
            exact ⟨rfl, h2, .inr (by omega), x0, hx0, h4⟩
          · cases q⟩
        rw [this]; simp [hl]
      · have x : PS.next ⟨e, z, pt'⟩ v c = ⟨e, z, pt'⟩ := by unfold PS.next; rw [if_neg hx]; exact if_neg he
        rw [x]
        by_cases hi : c ∈ iC
        · have o : PS.own ⟨e, z, pt'⟩ v c = [] := by unfold PS.own; rw [if_neg hx, if_neg he]; exact if_pos hi
          rw [o, List.nil_append, LS.next_skip hx (fun q => he (hne.mp q)) ((mem_io c).mp hi)]
          exact run_eq lab its e z pt' fnd' due last ht S
        · have o : PS.own ⟨e, z, pt'⟩ v c = [v] := by unfold PS.own; rw [if_neg hx, if_neg he]; exact if_neg hi
          rw [o, LS.next_add hx (fun q => he (hne.mp q)) (fun q => hi ((mem_io c).mpr q))]
          have := run_eq lab its e z pt' (fnd' ++ [(c, tx)]) due last ht S
          rw [← this, List.map_append, ← List.append_assoc]; simp [hl]
theorem x_o : ∀ c ∈ xC, c ≠ 18 → c + 10 ∈ oC ∧ c + 20 ∈ oC := by decide
theorem x_not_o : ∀ c ∈ xC, ¬ c ∈ oC := by decide
/-- a list of whole points and other rows is left as it is -/
theorem run_whole : ∀ (n : Nat) (l : List (Int × Str)) (f p : List (Int × Str)) (due : Option Int) (last : Int), (∀ r ∈ l, r.1 ≠ 18) → (p.length = 0 ∨ 1 < p.length) → (∀ d, due = some d → d ∈ oC) → LS.run ⟨f, p, due, last⟩ (whole n l) = f ++ p ++ whole n l
  | 0, l, f, p, due, last, _, hp, _ => by
    show f ++ (if 1 < p.length then p else []) = f ++ p ++ whole 0 l
    have : whole 0 l = [] := by cases l <;> rfl
    rw [this, List.append_nil]
    rcases hp with hp | hp
    · rw [if_neg (by omega), List.eq_nil_of_length_eq_zero hp]
    · rw [if_pos hp]
  | n + 1, [], f, p, due, last, _, hp, _ => by
    show f ++ (if 1 < p.length then p else []) = f ++ p ++ []
    rw [List.append_nil]
    rcases hp with hp | hp
    · rw [if_neg (by omega), List.eq_nil_of_length_eq_zero hp]
    · rw [if_pos hp]
  | n + 1, (c, v) :: r, f, p, due, last, h, hp, hd => by
    have hc := h (c, v) (.head _)
    have ht : ∀ q ∈ r, q.1 ≠ 18 := fun q hq => h q (.tail _ hq)
    have hfl : ¬ c ∈ oC → LS.flush ⟨f, p, due, last⟩ c = ⟨f ++ p, [], due, last⟩ := fun ho => by
      rcases hp with hp | hp
      · rw [LS.flush_no1 (by omega), List.eq_nil_of_length_eq_zero hp, List.append_nil]
      · exact LS.flush_yes (by omega) (fun q => ho (hd c q.symm)) (if_pos hp)
    by_cases hx : c ∈ xC
    · have e : whole (n + 1) ((c, v) :: r) = (if runOf c r = [] then [] else (c, v) :: runOf c r) ++ whole n (r.drop (runOf c r).length) := if_pos hx
      have ht' : ∀ q ∈ r.drop (runOf c r).length, q.1 ≠ 18 := fun q hq => ht q (List.mem_of_mem_drop hq)
      obtain ⟨o1, o2⟩ := x_o c hx hc
      obtain ⟨m1, m2, _⟩ := x_far c hx
      rw [e]
      by_cases hr : runOf c r = []
      · rw [if_pos hr, List.nil_append]; exact run_whole n _ f p due last ht' hp hd
      · rw [if_neg hr]
        have st : ∀ v2 rest, LS.run ⟨f, p, due, last⟩ ((c, v) :: (c + 10, v2) :: rest) = LS.run ⟨f ++ p, [(c, v), (c + 10, v2)], some (c + 20), c + 20⟩ rest := fun v2 rest => by
          show (((LS.flush ⟨f, p, due, last⟩ c).next c v).flush (c + 10) |>.next (c + 10) v2).run rest = _
          rw [hfl (x_not_o c hx), LS.next_x hx]
          show ((LS.flush ⟨f ++ p, [(c, v)], some (c + 10), c + 20⟩ (c + 10)).next (c + 10) v2).run rest = _
          rw [LS.flush_no2 rfl, LS.next_due m1 rfl, if_pos (by omega), show c + 10 + 10 = c + 20 by omega]
          rfl
        have hs : (∃ v2, runOf c r = [(c + 10, v2)]) ∨ ∃ v2 v3, runOf c r = [(c + 10, v2), (c + 20, v3)] := by
          cases r with
          | nil => exact absurd rfl hr
          | cons q r =>
            obtain ⟨c1, v1⟩ := q
            by_cases h1 : c1 = c + 10
            · subst h1
              cases r with
              | nil => exact .inl ⟨v1, by simp [runOf]⟩
              | cons q2 r =>
                obtain ⟨c2, v2⟩ := q2
                by_cases h2 : c2 = c + 20
                · exact .inr ⟨v1, v2, by simp [runOf, h2]⟩
                · exact .inl ⟨v1, by simp [runOf, h2]⟩
            · exact absurd (by simp [runOf, h1]) hr
        rcases hs with ⟨v2, hs⟩ | ⟨v2, v3, hs⟩
        · rw [hs]
          show LS.run _ ((c, v) :: (c + 10, v2) :: whole n _) = _
          rw [st, run_whole n _ _ _ _ _ (by rw [hs] at ht'; exact ht') (.inr (by simp)) (fun d q => by cases q; exact o2)]
          simp
        · rw [hs]
          show LS.run _ ((c, v) :: (c + 10, v2) :: (c + 20, v3) :: whole n _) = _
          rw [st]
          show ((LS.flush ⟨f ++ p, [(c, v), (c + 10, v2)], some (c + 20), c + 20⟩ (c + 20)).next (c + 20) v3).run _ = _
          rw [LS.flush_no2 rfl, LS.next_due m2 rfl, if_neg (by omega), run_whole n _ _ _ _ _ (by rw [hs] at ht'; exact ht') (.inr (by simp)) (fun d q => by cases q)]
          simp
    · have e : whole (n + 1) ((c, v) :: r) = (if c ∈ oC then [] else [(c, v)]) ++ whole n r := if_neg hx
      rw [e]
      by_cases ho : c ∈ oC
      · rw [if_pos ho, List.nil_append]; exact run_whole n r f p due last ht hp hd
      · rw [if_neg ho]
        show ((LS.flush ⟨f, p, due, last⟩ c).next c v).run (whole n r) = _
        rw [hfl ho, LS.next_add hx (fun q => ho (hd c q.symm)) ho, run_whole n r _ _ _ _ ht (.inl rfl) hd]
        simp
theorem run_sub {α : Type} : ∀ (its : List (α × Int)) (p : PS α), (p.run its).Sublist (p.pt ++ its.map (·.1))
  | [], p => by
    show (if 1 < p.pt.length then p.pt else []).Sublist (p.pt ++ [])
    rw [List.append_nil]
    split
    · exact List.Sublist.refl _
    · exact List.nil_sublist _
  | (v, c) :: its, p => by
    show (p.outs c ++ ((p.flush c).own v c ++ ((p.flush c).next v c).run its)).Sublist (p.pt ++ v :: its.map (·.1))
    have key : ∀ q : PS α, (c ≠ q.e → q.pt = []) → (q.own v c ++ (q.next v c).run its).Sublist (q.pt ++ v :: its.map (·.1)) := fun q hq => by
      have ih := run_sub its (q.next v c)
      by_cases hx : c ∈ xC
      · have o : q.own v c = [] := if_pos hx
        have x : q.next v c = ⟨c + 10, c + 20, q.pt ++ [v]⟩ := if_pos hx
        rw [x] at ih
        rw [o, x]; simpa using ih
      · by_cases he : c = q.e
        · have o : q.own v c = [] := by unfold PS.own; rw [if_neg hx]; exact if_pos he
          have x : q.next v c = ⟨if q.z < q.e + 10 then -1 else q.e + 10, q.z, q.pt ++ [v]⟩ := by unfold PS.next; rw [if_neg hx]; exact if_pos he
          rw [x] at ih
          rw [o, x]; simpa using ih
        · have x : q.next v c = q := by unfold PS.next; rw [if_neg hx]; exact if_neg he
          rw [x] at ih
          rw [x, hq he]
          rw [hq he] at ih
          by_cases hi : c ∈ iC
          · have o : q.own v c = [] := by unfold PS.own; rw [if_neg hx, if_neg he]; exact if_pos hi
            rw [o]; exact ih.trans (List.sublist_cons_self _ _)
          · have o : q.own v c = [v] := by unfold PS.own; rw [if_neg hx, if_neg he]; exact if_neg hi
            rw [o]; exact List.Sublist.cons_cons v ih
    by_cases hf : 0 < p.pt.length ∧ c ≠ p.e
    · have o : p.outs c = p.out := if_pos hf
      have x : p.flush c = { p with pt := [] } := if_pos hf
      rw [o, x]
      refine List.Sublist.append ?_ (key _ fun _ => rfl)
      unfold PS.out
      split
      · exact List.Sublist.refl _
      · exact List.nil_sublist _
    · have o : p.outs c = [] := if_neg hf
      have x : p.flush c = p := if_neg hf
      rw [o, x, List.nil_append]
      exact key _ fun he => List.eq_nil_of_length_eq_zero (by have := fun a => hf ⟨a, he⟩; omega)
/-- filtered once more, a filtered list stays, item by item -/
theorem run_again {α : Type} (lab : α → Int × Str) (xs : List α) (hc : ∀ x ∈ xs, 0 ≤ (lab x).1) (h : LS.run ⟨[], [], none, 0⟩ (xs.map lab) = xs.map lab) : PS.run ⟨-1, 0, []⟩ (xs.map fun x => (x, (lab x).1)) = xs := by
  have h1 := run_eq lab (xs.map fun x => (x, (lab x).1)) (-1) 0 [] [] none 0 (fun p hp => by
    obtain ⟨x, hx, rfl⟩ := List.mem_map.mp hp
    exact ⟨hc x hx, rfl⟩) ⟨fun _ => rfl, fun _ q => by cases q⟩
  have h2 := run_sub (xs.map fun x => (x, (lab x).1)) ⟨-1, 0, []⟩
  have e1 : (xs.map fun x => (x, (lab x).1)).map (fun p => lab p.1) = xs.map lab := by rw [List.map_map]; rfl
  have e2 : (xs.map fun x => (x, (lab x).1)).map (·.1) = xs := by rw [List.map_map]; simp [Function.comp_def]
  rw [e1] at h1
  rw [e2, List.nil_append] at h2
  refine h2.eq_of_length ?_
  have h3 : ((PS.run ⟨-1, 0, []⟩ (xs.map fun x => (x, (lab x).1))).map lab).length = xs.length := by
    have : LS.run ⟨[], [], none, 0⟩ (xs.map lab) = _ := h1.symm
    rw [h] at this
    have := congrArg List.length this
    simpa using this.symm
  simpa using h3
section
local macro_rules | `(tactic| walk_at "GG") => `(tactic| first | assumption | exact GG.keep (by assumption) (Fm.keep (by assumption)))
local macro_rules | `(tactic| walk_at "AT") => `(tactic| first | assumption | exact Fm.at_ (by assumption) (by k_mem) | exact At.keep (by assumption) (Fm.keep (by assumption)))
local macro_rules | `(tactic| walk_at "CHG") => `(tactic| repeat (first | exact Chg.head | apply Chg.tail))
local macro_rules | `(tactic| walk_at "LIST") => `(tactic| first | exact isList_keep (by assumption) (Fm.keep (by assumption)) | exact isList_of (Fm.at_ (by assumption) (by k_mem)) | exact isList_of (by walk_at "AT"))
local macro_rules | `(tactic| walk_at "NUM") => `(tactic| first | decide | omega | (simp only [List.length_cons, List.length_nil]; omega))
local macro_rules | `(tactic| walk_at "eval Name") => `(tactic| first
  | (refine lv (by assumption) (by first | rfl | assumption) ?_)
  | (k_dflt (refine' gv ?G ?e ?_; (case G => walk_at "GG"); (case e => k_is); k_whole))
  | (k_dflt (refine' bv ?G ?e ?v ?_; (case G => walk_at "GG"); (case e => k_is); (case v => boot_by_name); k_whole)))
local macro_rules | `(tactic| walk_at "loadName") => `(tactic| (refine lvN (by assumption) (by first | rfl | assumption) ?_))
local macro_rules | `(tactic| walk_at "eval Constant int") => `(tactic| (with_reducible refine ci ?_; intro t' tk'))
local macro_rules | `(tactic| walk_at "eval Constant str") => `(tactic| (with_reducible refine cs ?_; intro t' tk'))
local macro_rules | `(tactic| walk_at "storeName") => `(tactic| (refine svT (by assumption) ?_; intro h' tk' F'))
local macro_rules | `(tactic| walk_at "binaryOp Add int int") => `(tactic| (with_reducible refine addI ?_; intro t' tk'))
local macro_rules | `(tactic| walk_at "inplaceOp Add int int") => `(tactic| (with_reducible refine iaddI ?_; intro t' tk'))
local macro_rules | `(tactic| walk_at "binaryOp Mod int int") => `(tactic| (refine modI (by omega) ?_; intro r' t' tk' hr1 hr2))
local macro_rules | `(tactic| walk_at "binaryOp FloorDiv int int") => `(tactic| (refine fdivI (by omega) (by omega) (by omega) (by omega) ?_; intro r' t' tk' hr1 hr2))
local macro_rules | `(tactic| walk_at "PART") => `(tactic| first | exact IsPart.none | exact IsPart.int _ _)
local macro_rules | `(tactic| walk_at "PICK") => `(tactic| first | exact pick_upto (by omega) | exact pick_run (by omega))
local macro_rules | `(tactic| walk_at "subscriptTail") => `(tactic| (k_dflt (first
  | ((with_reducible show wpAny _ _ (subscriptTail _ _ (Value.ref _) (Value.ref _)) _ _ _); refine' sliceL ?F ?x ?pl ?pu ?z ?e ?_; (case F => assumption); (case x => k_mem); (case pl => walk_at "PART"); (case pu => walk_at "PART"); (case z => walk_at "SZ"); (case e => walk_at "PICK"); k_whole; intro b' h' kp' F')
  | (refine' subL ?x ?a ?b ?c ?_; (case x => walk_at "AT"); (case a => walk_at "NUM"); (case b => walk_at "NUM"); (case c => first | rfl | assumption); k_whole)
  | (refine' sub2 ?x ?a ?_ ?_; (case x => walk_at "AT"); (case a => omega))
  | (refine' subM ?x ?T ?a ?b ?c ?_; (case x => walk_at "AT"); (case T => assumption); (case a => walk_at "NUM"); (case b => walk_at "NUM"); (case c => omega); k_whole; intro b' hR'))))
local macro_rules | `(tactic| walk_at "subscriptTail Subscript") => `(tactic| (k_dflt (refine' subScr ?x ?i ?a ?b ?c ?_; (case x => walk_at "LIST"); (case i => assumption); (case a => omega); (case b => omega); (case c => omega); k_whole); intro j' t'))
local macro_rules | `(tactic| walk_at "setItem") => `(tactic| (k_dflt (refine' setF ?F ?x ?a ?b ?c ?_; (case F => assumption); (case x => walk_at "CHG"); (case a => walk_at "NUM"); (case b => walk_at "NUM"); (case c => walk_at "NUM"); k_whole); intro h' F'; (try simp only [List.set_cons_zero, List.set_cons_succ, Int.reduceToNat] at F')))
local macro_rules | `(tactic| walk_at "call builtin:len") => `(tactic| (k_dflt (refine' lenI ?x ?a ?_; (case x => walk_at "LIST"); (case a => omega); k_whole); intro t' tk'))
local macro_rules | `(tactic| walk_at "SZ") => `(tactic| first | (rw [sizeLine_eq]; (try simp only [List.length_append, List.length_cons, List.length_nil, List.length_take]); omega) | size_fits)
local macro_rules | `(tactic| walk_at "callWith ref") => `(tactic| (k_dflt (refine' callG ?k1 ?k2 ?_; (case k1 => k_is); (case k2 => exact rfl))))
local macro_rules | `(tactic| walk_at "newList") => `(tactic| (refine newL (by assumption) (by walk_at "SZ") ?_; intro a' h' kp' F'))
local macro_rules | `(tactic| walk_at "newTuple") => `(tactic| (refine newT (by assumption) (by walk_at "SZ") ?_; intro a' h' kp' hat' F'))
local macro_rules | `(tactic| walk_at "eval Slice") => `(tactic| refine sliceF ?_)
local macro_rules | `(tactic| walk_at "Exists") => `(tactic| (refine ⟨_, _, _, _, by assumption, ?_⟩; intro a' h' kp' F'))
local macro_rules | `(tactic| walk_at "getMethod ref") => `(tactic| (k_dflt (first | refine methApp (by walk_at "AT") ?_ | refine methClr (by walk_at "AT") ?_)))
local macro_rules | `(tactic| walk_at "call builtin:list.append") => `(tactic| (k_dflt (refine' appL ?F ?c ?z ?_; (case F => assumption); (case c => walk_at "CHG"); (case z => walk_at "SZ"); k_whole); intro h' F'))
local macro_rules | `(tactic| walk_at "call builtin:list.clear") => `(tactic| (k_dflt (refine' clrL ?F ?c ?z ?_; (case F => assumption); (case c => walk_at "CHG"); (case z => walk_at "SZ"); k_whole); intro h' F'))
local macro_rules | `(tactic| walk_at "call type:range") => `(tactic| (refine range1 (by assumption) ?_; intro a' h' tk' kp' F'))
local macro_rules | `(tactic| walk_at "pyIter ref") => `(tactic| (k_dflt (refine' iterR ?F ?a ?b ?_; (case F => assumption); (case a => omega); (case b => omega); k_whole); intro it' h' kp' F'))
local macro_rules | `(tactic| walk_at "binaryOp Add ref ref") => `(tactic| (k_dflt (refine' addL ?F ?x ?y ?z ?_; (case F => assumption); (case x => walk_at "AT"); (case y => walk_at "AT"); (case z => walk_at "SZ"); k_whole); intro a' h' kp' F'))
local macro_rules | `(tactic| walk_at "exec For") => `(tactic| refine wpAny_For ?_)
local macro_rules | `(tactic| walk_at "DEPTH") => `(tactic| first | omega | ((try simp only [depth_deeper, depth_in1]); omega))
local macro_rules | `(tactic| walk_at "MUT") => `(tactic| repeat (first | exact Muts.nil | refine Muts.cons (by first | exact mutL | exact mutI | exact mutRI | exact mutR | exact mutS | exact mutCO) ?_))
local macro_rules | `(tactic| walk_at "CALL") => `(tactic| fail)
local macro_rules | `(tactic| walk_at "codeAny call") => `(tactic| walk_at "CALL")
local macro_rules | `(tactic| walk_at "FITS") => `(tactic| repeat (first | exact Fits.nil | exact Pull.head | apply Fits.cons | apply Pull.tail))
local macro_rules | `(tactic| walk_at "truthy ref") => `(tactic| (k_dflt (refine' truthyL ?x ?z ?_; (case x => walk_at "AT"); (case z => walk_at "SZ"); k_whole); intro tk'))
local macro_rules | `(tactic| walk_at "SETS") => `(tactic| first | exact setX (by walk_at "GG") | exact setI (by walk_at "GG") | exact setV (by walk_at "GG"))
local macro_rules | `(tactic| walk_at "compareOp In int ref") => `(tactic| (k_dflt (refine' inSet ?S ?_; (case S => walk_at "SETS"); k_whole); intro tk'))
local macro_rules | `(tactic| walk_at "compareOp NotIn int ref") => `(tactic| (k_dflt (refine' notInSet ?S ?_; (case S => walk_at "SETS"); k_whole); intro tk'))
local macro_rules | `(tactic| walk_at "compareOp In int ref") => `(tactic| (k_dflt (refine' inInts ?x ?I ?_; (case x => walk_at "AT"); (case I => assumption); k_whole)))
local macro_rules | `(tactic| walk_at "compareOp NotIn int ref") => `(tactic| (k_dflt (refine' notInInts ?x ?I ?_; (case x => walk_at "AT"); (case I => assumption); k_whole)))
local macro_rules | `(tactic| walk_at "assign Tuple") => `(tactic| (k_dflt (refine' asgT ?hh ?F ?x ?n ?st ?_; (case hh => assumption); (case F => assumption); (case x => walk_at "AT"); (case n => rfl); (case st => rfl); k_whole); intro h' kp' F'))
local macro_rules | `(tactic| walk_at "unpackItems ref") => `(tactic| (k_dflt (refine' unpI ?hh ?F ?x ?n ?_; (case hh => assumption); (case F => assumption); (case x => walk_at "AT"); (case n => rfl); k_whole); intro h' kp' F'))
local macro_rules | `(tactic| walk_at "pyIter ref") => `(tactic| (k_dflt (refine' iterL ?F ?x ?_; (case F => assumption); (case x => walk_at "AT"); k_whole); intro it' h' kp' F'))
/-- a value at the code of a handle: what int(., 16) says and what the law says -/
def NumOk (x : Str) : Prop := (∃ n, Hex x n ∧ isNum x = true) ∨ (NoHex x ∧ isNum x = false ∧ (reprText x).length ≤ 500)
/-- what filter_invalid_handles yields -/
def hg : Int → List (Value × Int × Str) → List Value
  | _, [] => []
  | own, (v, c, x) :: r => if c = 0 then v :: hg (if x = Str.ofString "DIMSTYLE" then 105 else 5) r else if c = own ∧ isNum x = false then hg own r else v :: hg own r
section
variable {prog : Program} {w : World} {A : Around} {R : GenEnd} {dm n : Nat} {s₀ s : Shared} {E : Value → Shared → Prop} {g : Heap} {L x : Addr} {m : Str → Option Value} {l : List (Addr × (Obj → Prop))}
theorem getCodeF {c : Int} {v : Str} {expr : Bool} {Q : Value → Shared → Prop} (F : Fm g L m l s.heap) (G : GG w s.heap) (T : TagAt s.heap x c v) (hroom : A.depth < recursionLimit) (h : ∀ t h' tk, Fm g L m l h' → Q (.int c t) { s with heap := h', toks := tk }) :
    wpAny (model prog w) A (getAttr (.ref x) "code" expr) Q E s := getCode G T hroom fun t h' tk k => h t h' tk (F.keeps k)
theorem getValueF {c : Int} {v : Str} {expr : Bool} {Q : Value → Shared → Prop} (F : Fm g L m l s.heap) (G : GG w s.heap) (T : TagAt s.heap x c v) (hroom : A.depth < recursionLimit) (h : ∀ t h' tk, Fm g L m l h' → Q (.str v t) { s with heap := h', toks := tk }) :
    wpAny (model prog w) A (getAttr (.ref x) "value" expr) Q E s := getValue G T hroom fun t h' tk k => h t h' tk (F.keeps k)
local macro_rules | `(tactic| walk_at "getAttr ref") => `(tactic| ((with_reducible show wpAny _ _ (getAttr (Value.ref _) (PySem.Str.ofString "code") _) _ _ _); k_dflt (refine' getCodeF ?F ?G ?T ?r ?_; (case F => assumption); (case G => walk_at "GG"); (case T => exact TagAt.keep (by assumption) (Fm.keep (by assumption))); (case r => walk_at "DEPTH"); k_whole); intro t' h' tk' F'))
local macro_rules | `(tactic| walk_at "getAttr ref") => `(tactic| ((with_reducible show wpAny _ _ (getAttr (Value.ref _) (PySem.Str.ofString "value") _) _ _ _); k_dflt (refine' getValueF ?F ?G ?T ?r ?_; (case F => assumption); (case G => walk_at "GG"); (case T => exact TagAt.keep (by assumption) (Fm.keep (by assumption))); (case r => walk_at "DEPTH"); k_whole); intro t' h' tk' F'))
variable {g0 : Heap} {D : Addr → Prop}
theorem hnd_gen {R : Result → Shared → Prop} {ax L0 : Addr} {o0 : Obj} {env0 : Env} {its : List (Value × Int × Str)} (hf0 : env0.frame = some L0) (hk0 : env0.scope.kind ≠ .module) (hd0 : ∃ es n, o0.data = .dict es n) (G : GG w s.heap) (hroom : A.depth < recursionLimit) (hlen : its.length ≤ 100)
    (hnum : ∀ p ∈ its, p.2.1 = 5 ∨ p.2.1 = 105 → NumOk p.2.2)
    (h : ∀ L a h₁ tk m₀ cod, s.heap.get? L = none → s.heap.get? a = none → L ≠ a → h₁.Ns L m₀ → Keep s.heap h₁ → h₁.IsGen a s.gens.size →
      FreshSegK prog w (fun g0 => At g0 ax (LstO (its.map (·.1))) ∧ ∀ p ∈ its, ∃ a, p.1 = .ref a ∧ TagAt g0 a p.2.1 p.2.2) env0 L0 o0 L m₀ cod (hg 5 its) → R (.ok (.ret (.ref a))) { s with heap := h₁, toks := tk, gens := s.gens.push (.fresh cod) }) :
    codeAny (model prog w) A (.call (.ref 140) ⟨[.ref ax], []⟩) R s := by
  refine enterGen (binds := [(Str.ofString "tags", .ref ax)]) G (by k_is) (by k_is) hroom rfl (locs rfl) ?_
  intro L a h₁ tk nL na hLa hn hk hg'
  refine h L a h₁ tk _ _ nL na hLa hn hk hg' ?_
  clear h hn hk hg' na nL G hroom
  rintro A0 g0 D s0 hh hr hfr G ⟨hx, hit⟩ gi
  refine segK_func ?_
  have C : ∀ b e, CtxK A0 (A0.depth + 1) (some (e :: [env0])) (.func b e) [] := fun b e => ⟨⟨hh, Nat.le_refl (A0.depth + 0 + 1), rfl, rfl⟩, by show pushEnvs [e] (pushEnvs [] A0.frames) = _; rw [hfr]; rfl⟩
  refine (?_ : SegXK (model prog w) A0 (RX (fun h => At h L0 (SlO o0)) D) (YX (fun h => At h L0 (SlO o0)) g0 D L (fun n v => (hg 5 its)[(hg 5 its).length - 1 - n]? = some v)) (A0.depth + 1) _ (hg 5 its).length s0 _ s0 (fun f n' s₀' s' => f = .next ∧ n' = 0 ∧ Stp D s₀' s' ∧ At s'.heap L0 (SlO o0))) _ _ _ _ _ _ (C _ _) rfl fun f n' s₀' s' q => ?_
  · obtain ⟨⟨hp, tk1, e⟩, g, kg, F, hD, hB⟩ := gi.start
    have Gg := G.keep kg
    clear e
    refine SegXK.cons (SegXK.leaf fun A' hh' hd' hfr' => wpC.of ?_)
    k_fold
    repeat' (first | walk1 | (dsimp only; walk1))
    dsimp only
    k_unfold
    dsimp only
    clear F
    rename Fm _ _ _ _ _ => F
    refine SegXK.cons (SegXK.forList (g0 := g0) (D := D) (ax := ax) (xs := its.map (·.1)) (J := fun i m l n => ∃ own to, m (Str.ofString "handle_code") = some (.int own to) ∧ (own = 5 ∨ own = 105) ∧ l = [(L0, SlO o0)] ∧
      Left (hg 5 its) n (hg own (its.drop i))) (.inl hx) (fun A' h1 h2 h3 => ?start) ?turn ?fin)
    case start =>
      walk1
      exact ⟨rfl, _, _, ⟨⟨_, _, rfl⟩, g, kg, F, hD, hB⟩, 5, _, rfl, .inl rfl, rfl, [], rfl, rfl⟩
    case fin =>
      rintro m l n s₀ s1 ⟨own, to, hm, ho, rfl, hL⟩ ⟨⟨h, tk, rfl⟩, g, kg, F, hD, hB⟩
      dsimp only
      have hd0' : its.drop (its.map (·.1)).length = [] := by simp
      rw [hd0'] at hL
      obtain ⟨dn, _, hn⟩ := hL
      refine SegXK.nil ?_
      dsimp only
      exact ⟨rfl, hn, SG.stp ⟨⟨_, _, rfl⟩, g, kg, F, hD, hB⟩, F.at_ (.head _)⟩
    case turn =>
      rintro i v it m l n s₀ s1 hv ⟨own, to, hm, ho, rfl, hL⟩ ⟨⟨h, tk, rfl⟩, g, kg, F, hD, hB⟩
      have Gg := G.keep kg
      obtain ⟨⟨v', c, tx⟩, hvc, hv'⟩ : ∃ q, its[i]? = some q ∧ q.1 = v := by simpa using hv
      obtain rfl : v' = v := hv'
      obtain ⟨a', hv', hta⟩ := hit _ (List.mem_of_getElem? hvc)
      obtain rfl : v' = .ref a' := hv'
      have hta : TagAt g a' c tx := hta.keep kg
      have hno := hnum _ (List.mem_of_getElem? hvc)
      dsimp only at hno
      have hdr : its.drop i = (.ref a', c, tx) :: its.drop (i + 1) := by
        obtain ⟨hlt, e⟩ := List.getElem?_eq_some_iff.mp hvc
        rw [List.drop_eq_getElem_cons hlt, e]
      rw [hdr] at hL
      have hlt : i < 100 := by have := (List.getElem?_eq_some_iff.mp hvc).1; omega
      clear hdr hv hvc hit
      refine SegXK.cons (SegXK.mono (Q := fun f n' s₀' s' => ∃ m' own' u, SG g0 D L m' [(it, IterO ax (i + 1)), (L0, SlO o0)] s₀' s' ∧ m' (Str.ofString "tag") = some (.ref a') ∧ m' (Str.ofString "handle_code") = some (.int own' u) ∧ (own' = 5 ∨ own' = 105) ∧
        ((f = .next ∧ Left (hg 5 its) n' (.ref a' :: hg own' (its.drop (i + 1)))) ∨ (f = .cont ∧ Left (hg 5 its) n' (hg own' (its.drop (i + 1)))))) ?first fun f n' s₀' s' hmid => ?rest)
      case first =>
        refine SegXK.if_ fun A' hh' hd' hfr' => wpC.of ?_
        k_fold
        repeat' (first | walk1 | (dsimp only; walk1))
        all_goals (rename Fm _ _ _ _ _ => F3)
        · rename_i c1
          have e1 : hg own ((.ref a', c, tx) :: its.drop (i + 1)) = .ref a' :: hg (if tx = Str.ofString "DIMSTYLE" then 105 else 5) (its.drop (i + 1)) := if_pos c1
          rw [e1] at hL
          refine SegXK.cons (SegXK.if_ fun A' hh' hd' hfr' => wpC.of ?_)
          k_fold
          repeat' (first | walk1 | (dsimp only; walk1))
          all_goals (rename Fm _ _ _ _ _ => F4)
          · rename_i c2
            rw [if_pos (by first | assumption | exact beq_iff_eq.mp (by assumption))] at hL
            refine SegXK.cons (SegXK.leaf fun A' hh' hd' hfr' => wpC.of ?_)
            k_fold
            repeat' (first | walk1 | (dsimp only; walk1))
            try dsimp only
            k_unfold
            try dsimp only
            rename Fm _ _ _ _ _ => F5
            refine SegXK.nil ?_
            try dsimp only
            exact SegXK.nil ⟨_, 105, _, ⟨⟨_, _, rfl⟩, g, kg, F5, hD, hB⟩, rfl, rfl, .inr rfl, .inl ⟨rfl, hL⟩⟩
          · rename_i c2
            rw [if_neg (by first | assumption | exact beq_eq_false_iff_ne.mp (by assumption))] at hL
            refine SegXK.cons (SegXK.leaf fun A' hh' hd' hfr' => wpC.of ?_)
            k_fold
            repeat' (first | walk1 | (dsimp only; walk1))
            try dsimp only
            k_unfold
            try dsimp only
            rename Fm _ _ _ _ _ => F5
            refine SegXK.nil ?_
            try dsimp only
            exact SegXK.nil ⟨_, 5, _, ⟨⟨_, _, rfl⟩, g, kg, F5, hD, hB⟩, rfl, rfl, .inl rfl, .inl ⟨rfl, hL⟩⟩
        · rename_i c1
          have e1 : hg own ((.ref a', c, tx) :: its.drop (i + 1)) = if c = own ∧ isNum tx = false then hg own (its.drop (i + 1)) else .ref a' :: hg own (its.drop (i + 1)) := if_neg c1
          rw [e1] at hL
          refine SegXK.cons (SegXK.if_ fun A' hh' hd' hfr' => wpC.of ?_)
          k_fold
          repeat' (first | walk1 | (dsimp only; walk1))
          all_goals (rename Fm _ _ _ _ _ => F4)
          · rename_i c2
            have hno := hno (by rcases ho with rfl | rfl <;> simp [c2])
            refine SegXK.cons (SegXK.leaf fun A' hh' hd' hfr' => tryC (execsC_cons (exprC (callC ?_))))
            k_fold
            repeat' (first | walk1 | (dsimp only; walk1))
            refine callWithC_type ?_
            k_fold
            repeat' (first | walk1 | (dsimp only; walk1))
            rename Fm _ _ _ _ _ => F5
            rcases hno with ⟨nn, hx1, hx2⟩ | ⟨hx1, hx2, hx3⟩
            · rw [if_neg (by rw [hx2]; simp)] at hL
              refine wpC.of (callHex hx1 fun t tk => ?_)
              try k_unfold
              try dsimp only
              refine execsC_nil ?_
              try dsimp only
              refine SegXK.nil ?_
              try dsimp only
              refine SegXK.nil ?_
              try dsimp only
              first | exact ⟨_, own, _, ⟨⟨_, _, rfl⟩, g, kg, F5, hD, hB⟩, rfl, hm, ho, .inl ⟨rfl, hL⟩⟩ | exact SegXK.nil ⟨_, own, _, ⟨⟨_, _, rfl⟩, g, kg, F5, hD, hB⟩, rfl, hm, ho, .inl ⟨rfl, hL⟩⟩
            · rw [if_pos ⟨c2, hx2⟩] at hL
              refine callRefused hx1 hh' hx3 fun h' e tk kk ne hex => ?_
              have oL0 := F5.at_ (show (L0, SlO o0) ∈ _ from by k_mem)
              have nL0 := (F5.own _ (show (L0, SlO o0) ∈ _ from by k_mem)).2.1
              refine catchC (outer := [env0]) (L := L) (fr := [L, L0]) (frames2 rfl hf0) hfr' rfl ⟨trivial, fun base hb => ⟨(by intro q; cases q), ?fa, ⟨hk0, ?fb, trivial⟩⟩⟩ kk ne hex (fun A2 E2 s2 Q2 hb q => ?fc) (fun h2 hb hu => ?fd)
              case fa =>
                obtain ⟨oL, es, ep, hoL, hdL, _⟩ := F5.ns
                exact ⟨L, oL, rfl, hb _ (.head _) _ rfl, hoL, fun vs q => by rw [hdL] at q; cases q⟩
              case fb =>
                obtain ⟨o, e0, sl, rfl⟩ := oL0
                obtain ⟨es, nn, d⟩ := hd0
                exact ⟨L0, _, hf0, hb _ (.tail _ (.head _)) _ hf0, e0, fun vs q => by rw [show ({ o0 with slots := sl } : Obj).data = o0.data from rfl, d] at q; cases q⟩
              case fc =>
                have gL : g.get? L = none := F5.gL
                have Gs : GG w s2.heap := G.keep (kg.trans fun b o eb => hb b o (by
                  refine hideAll_get _ (F5.keep _ _ eb) fun hm2 => ?_
                  rcases List.mem_cons.mp hm2 with rfl | hm2
                  · rw [gL] at eb; cases eb
                  · rw [List.mem_singleton] at hm2; subst hm2; rw [nL0] at eb; cases eb))
                refine' bv ?G ?e ?v ?_
                case G => exact Gs
                case e => k_is
                case v => boot_by_name
                exact q
              case fd =>
                have F6 := ((F5.fits (l' := [(L0, SlO o0), (it, IterO ax (i + 1))]) (by walk_at "FITS")).caught hd0 hb hu).fits (l' := [(it, IterO ax (i + 1)), (L0, SlO o0)]) (by walk_at "FITS")
                try dsimp only
                exact ⟨_, own, _, ⟨⟨_, _, rfl⟩, g, kg, F6, hD, hB⟩, rfl, hm, ho, .inr ⟨rfl, hL⟩⟩
          · rename_i c2
            rw [if_neg (fun q => c2 q.1)] at hL
            refine SegXK.nil ?_
            try dsimp only
            refine SegXK.nil ?_
            try dsimp only
            first | exact ⟨_, own, _, ⟨⟨_, _, rfl⟩, g, kg, F4, hD, hB⟩, rfl, hm, ho, .inl ⟨rfl, hL⟩⟩ | exact SegXK.nil ⟨_, own, _, ⟨⟨_, _, rfl⟩, g, kg, F4, hD, hB⟩, rfl, hm, ho, .inl ⟨rfl, hL⟩⟩
      case rest =>
        obtain ⟨m', own', u, sg, e1, e2, ho', hf⟩ := hmid
        rcases hf with ⟨rfl, hL'⟩ | ⟨rfl, hL'⟩
        · dsimp only
          obtain ⟨k, hk, hval, hL2⟩ := Left.val hL'
          subst hk
          obtain ⟨⟨h', tk', rfl⟩, g', kg', F', hD', hB'⟩ := sg
          refine SegXK.cons (SegXK.yield (fun A' h1 h2 h3 => ?_))
          walk1
          refine ⟨_, _, ⟨⟨_, _, rfl⟩, g', kg', F', hD', hB'⟩, Muts.cons mutI (Muts.cons (mutSl hd0) Muts.nil), hval, F'.at_ (by k_mem), fun s'' sg'' => ?_⟩
          dsimp only
          exact SegXK.nil ⟨.inl rfl, _, _, sg'', own', _, e2, ho', rfl, hL2⟩
        · exact ⟨.inr rfl, _, _, sg, own', _, e2, ho', rfl, hL'⟩
  · obtain ⟨rfl, q⟩ := q
    exact segK_end (.ok (.ret .none)) ⟨rfl, q⟩
end
end
/-- a generator that may leave the frame of env0 with other slots has been made and not yet run -/
structure GenNewK (prog : Program) (w : World) (P : Heap → Prop) (env0 : Env) (L0 : Addr) (o0 : Obj) (G₀ : Array GenState) (L a : Addr) (outs : List Value) (s : Shared) : Prop where
  run : ∃ m₀ cod, s.gens = G₀.push (.fresh cod) ∧ s.heap.Ns L m₀ ∧ FreshSegK prog w P env0 L0 o0 L m₀ cod outs
  gen : s.heap.IsGen a G₀.size
  ne : L ≠ a
section
variable {prog : Program} {w : World} {A : Around} {n : Nat} {s : Shared} {E : Value → Shared → Prop} {env env0 : Env}
variable {g0 : Heap} {L L0 a : Addr} {o0 : Obj} {outs : List Value} {G₀ : Array GenState}
theorem GenStK.base {X : Heap → Prop} {D : Addr → Prop} {Val : Nat → Value → Prop} (x : GenStK X prog w A g0 D L Val G₀ n s) : Keep g0 s.heap := let ⟨_, _, _, _, ⟨_, k, F, _⟩, _⟩ := x; k.trans F.keep
theorem GenNewK.start {P : Heap → Prop} (N : GenNewK prog w P env0 L0 o0 G₀ L a outs s) (hh : A.handled = none) (hroom : A.depth + 20 < recursionLimit) (hfr : A.frames = some [env0]) (hd0 : ∃ es n, o0.data = .dict es n) (G : GG w g0) (hP : P g0) (k : Keep g0 s.heap) (nL : g0.get? L = none) (nL0 : g0.get? L0 = none) (hL0 : At s.heap L0 (SlO o0)) (hLL : L ≠ L0) :
    GenStK (fun h => At h L0 (SlO o0)) prog w A g0 (fun b => (b ≠ L ∧ b ≠ L0) ∧ ∃ o, s.heap.get? b = some o) L (ValOf outs) G₀ outs.length s := by
  obtain ⟨⟨m₀, cod, e, hns, fs⟩, _, _⟩ := N
  refine ⟨_, m₀, [(L0, SlO o0)], e, ⟨hideAll s.heap [L, L0], fun b o e => hideAll_get _ (k _ _ e) (fun hm => ?_), ⟨hns, fun b o e => of_hideAll _ e, hideAll_none _ (.head _), fun p h => ?_, by simp⟩, Muts.cons (mutSl hd0) Muts.nil, fun b ⟨hb, o, e⟩ => ⟨o, hideAll_get _ e (by simpa using hb)⟩⟩, fun s'' gi => ⟨rfl, ?_⟩⟩
  · rcases List.mem_cons.mp hm with rfl | hm
    · rw [nL] at e; cases e
    · rw [List.mem_singleton] at hm; subst hm; rw [nL0] at e; cases e
  · rw [List.mem_singleton] at h
    subst h
    exact ⟨hL0, hideAll_none _ (.tail _ (.head _)), Ne.symm hLL⟩
  · exact fs A.in1 g0 _ s'' hh hroom hfr G hP gi
theorem compLoopC {R : Result → Shared → Prop} {elt target iter : Expr} {ifs : List Expr} {scope : Scope} {pos : Pos} {it acc : Value} {env : Env} (I : Nat → Shared → Prop)
    (turn : ∀ n s, I n s → wpC (model prog w) A (pyNext it) (fun r s₁ => match r with
      | none => R (.ok .next) s₁
      | some v => wpAny (model prog w) A (letOwnedTupleGo target it v) (fun _ s₁' => wpAny (model prog w) A (assign target env v) (fun _ s₂ =>
          wpAny (model prog w) A (forIn ifs true fun c r => if r = true then do let ok ← isTrue c env (eval c env); pure (ForInStep.yield ok) else pure (ForInStep.yield r)) (fun ok s₃ =>
            if ok = true then wpAny (model prog w) A (eval elt env) (fun x s₄ =>
              wpAny (model prog w) A (call (.builtin "list.append") [acc, x]) (fun _ s₅ => ∃ m, m < n ∧ I m s₅) (fun _ _ => False) s₄) (fun _ _ => False) s₃
            else ∃ m, m < n ∧ I m s₃) (fun _ _ => False) s₂) (fun _ _ => False) s₁') (fun _ _ => False) s₁) (fun _ _ => False) s)
    (n : Nat) (h : I n s) :
    codeC (model prog w) A (.compLoop (.ListComp elt [⟨target, iter, ifs, 0⟩] scope pos) 0 it acc env) R s := by
  refine codeC_loop rfl I (fun n s hI => ?_) n h
  show wpC _ A ((compTurn (.ListComp elt [⟨target, iter, ifs, 0⟩] scope pos) 0 it acc env).onRaise (fun x => do noteFrame x env; theTreesLotGoes x)) _ _ s
  refine wpC_onRaise ?_
  rw [compTurn_list]
  refine wpC_lead (wpAny_standAt (wpC_bind (wpC_mono (turn n s hI) (fun r s₁ h₁ => ?_) fun _ _ h' => h'.elim)))
  cases r with
  | none => exact wpC_pure h₁
  | some v =>
    refine wpC.of ?_
    refine wpAny_bind (wpAny_mono h₁ (fun _ s₁' h₁' => ?_) fun _ _ h' => h'.elim)
    refine wpAny_bind (wpAny_mono h₁' (fun _ s₂ h₂ => wpAny_bind (wpAny_mono h₂ (fun ok s₃ h₃ => ?_) fun _ _ h' => h'.elim)) fun _ _ h' => h'.elim)
    cases ok with
    | false => exact wpAny_pure ⟨rfl, h₃⟩
    | true =>
      exact wpAny_bind (wpAny_bind (wpAny_mono h₃ (fun x s₄ h₄ => wpAny_bind (wpAny_mono h₄ (fun _ s₅ h₅ => wpAny_pure (wpAny_pure ⟨rfl, h₅⟩)) fun _ _ h' => h'.elim)) fun _ _ h' => h'.elim))
theorem codeC_compStart_list {R : Result → Shared → Prop} {elt target iter ifs rest scope pos it acc env}
    (h0 : codeC (model prog w) A (.compLoop (.ListComp elt (⟨target, iter, ifs, 0⟩ :: rest) scope pos) 0 it acc env) R s)
    (h : wpAny (model prog w) A (pyIter it) (fun it' s' => codeC (model prog w) A (.compLoop (.ListComp elt (⟨target, iter, ifs, 0⟩ :: rest) scope pos) 0 it' acc env) R s') (fun _ _ => False) s) :
    codeC (model prog w) A (.compStart (.ListComp elt (⟨target, iter, ifs, 0⟩ :: rest) scope pos) 0 it acc env) R s := by
  refine codeC_of_tree ?_
  show wpC _ _ ((compStart (.ListComp elt (⟨target, iter, ifs, 0⟩ :: rest) scope pos) 0 it acc env).onRaise (fun x => do noteFrame x env; standAt theWindowsPlace)) _ _ s
  refine wpC_onRaise ?_
  unfold compStart
  refine wpC.of ?_
  show wpAny _ _ (ask >>= _) _ _ s
  refine wpAny_bind (wpAny_askSetting (wpAny_ite ?_))
  split
  · exact wpAny_pure (And.intro rfl h0)
  · refine wpAny_bind (wpAny_rule ?_); show wpAny _ _ (standAt iter.pos >>= _) _ _ s; exact wpAny_bind (wpAny_standAt (wpAny_bind (wpAny_mono h (fun it' s' h' => wpAny_pure (And.intro rfl h')) fun _ _ x => x.elim)))
theorem comprehensionC {e : Expr} {scope : Scope} {pos : Pos} {newAcc first : Sem Value} {g : Comprehension} {gs : List Comprehension} {cl : List (Str × Addr)} {use : Option (Value → Sem Unit)}
    {Q : Value → Shared → Prop}
    (hcl : clausesOf e = g :: gs) (hs : ∀ x, foldedSetIterable g.iter env x = pure x) (hclos : closureFor scope env = pure cl)
    (hkind : scope.kind = .function) (hnames : ∀ x ∈ scope.names, x.2 = .local → scope.names.lookup x.1 = some .local) (hu : use = none)
    (h : wpAny (model prog w) A first (fun x s₁ => wpAny (model prog w) A (pyIter x) (fun it s₂ => wpAny (model prog w) A newAcc (fun acc s₃ =>
      wpAny (model prog w) A (newFunctionEnv scope env.globals cl [] env.qual none .none (some env)) (fun cenv s₄ =>
        codeC (model prog w) A (.compStart e 0 it acc { cenv with scope := relabel scope env }) (compPost (model prog w) A E none Q acc cenv.locals) s₄) E s₃) E s₂) E s₁) E s) :
    wpC (model prog w) A (comprehension e scope env pos newAcc false first use) Q E s := by
  subst hu
  unfold comprehension
  rw [hclos, hcl]
  refine wpC_lead (wpAny_mono h (fun x s₁ h₁ => wpC_lead (wpAny_standAt (wpC_lead (wpAny_of_eq (hs x) (wpC_bind (wpC_holding (wpC.of (wpAny_mono h₁ (fun it s₂ h₂ => ?_) fun _ _ h' => h')))))))) fun _ _ h' => h')
  refine wpC_ite_false (by simp) ?_
  refine wpC_lead (wpAny_mono h₂ (fun acc s₃ h₃ => wpC_lead (wpAny_pure (wpC_lead (wpAny_mono h₃ (fun cenv s₄ h₄ => ?_) fun _ _ h' => h')))) fun _ _ h' => h')
  dsimp only
  have hv : ∀ x ∈ (scope.names.filter fun x => (x.2 == .local || x.2 == .cell) && x.1 != (".0" : Str)).reverse, x.2 = .local →
      Env.kindOf { cenv with scope := relabel scope env } x.1 = some .local := fun x hx hl => lookup_relabel_local (hnames x (List.mem_filter.mp (List.mem_reverse.mp hx)).1 hl)
  refine wpC_holding (wpC_bind (wpC_attempt (wpC_holding (wpC_run (codeC_mono h₄ fun r s' hr => ?_) (by simp)))))
  cases r with
  | ok f =>
    obtain ⟨m, hn, hr⟩ := hr
    exact wpC.of (wpAny_bind (wpAny_holding (wpAny_comp_letGo (cenv := { cenv with scope := relabel scope env }) hkind _ s' m hv hn fun h' m' _ hs' => wpAny_pure (hr h' hs'))))
  | error x =>
    obtain ⟨m, hn, hr⟩ := hr
    exact wpC.of (wpAny_bind (wpAny_holding (wpAny_comp_letGo (cenv := { cenv with scope := relabel scope env }) hkind _ s' m hv hn fun h' m' _ hs' => wpAny_mono (hr h' hs' _ rfl) (fun _ _ f => f.elim) fun _ _ y => y)))
/-- one turn of a comprehension over a generator -/
def CompTurnK (prog : Program) (w : World) (A : Around) (s₁ : Shared) (env : Env) (scope : Scope) (cl : List (Str × Addr)) (target elt : Expr) (ifs : List Expr) (a L L0 : Addr) (J : Nat → Heap → List Value → Prop) (i : Nat) (v : Value) : Prop :=
  ∀ C acc ys g' m' h' tk' G', J i g' ys → Keep (hideAll s₁.heap [L, L0]) g' → Fm g' C m' [(acc, LstO ys)] h' →
    wpAny (model prog w) A (letOwnedTupleGo target (.ref a) v) (fun _ s₂ => wpAny (model prog w) A (assign target (compEnvC scope cl C env) v) (fun _ s₃ =>
      wpAny (model prog w) A (forIn ifs true fun c r => if r = true then do let ok ← isTrue c (compEnvC scope cl C env) (eval c (compEnvC scope cl C env)); pure (ForInStep.yield ok) else pure (ForInStep.yield r)) (fun ok s₄ =>
        if ok = true then wpAny (model prog w) A (eval elt (compEnvC scope cl C env)) (fun x s₅ => ∃ g'' m'' h'' tk'', s₅ = { s₁ with heap := h'', toks := tk'', gens := G' } ∧ Keep g' g'' ∧ Fm g'' C m'' [(acc, LstO ys)] h'' ∧ J (i + 1) g'' (ys ++ [x])) (fun _ _ => False) s₄
        else ∃ g'' m'' h'' tk'', s₄ = { s₁ with heap := h'', toks := tk'', gens := G' } ∧ Keep g' g'' ∧ Fm g'' C m'' [(acc, LstO ys)] h'' ∧ J (i + 1) g'' ys) (fun _ _ => False) s₃) (fun _ _ => False) s₂) (fun _ _ => False) { s₁ with heap := h', toks := tk', gens := G' }

theorem compBlockK {P : Heap → Prop} {RR : Value → Addr → Result → Shared → Prop} {elt target iter : Expr} {ifs : List Expr} {scope : Scope} {cl : List (Str × Addr)} {pos : Pos} {s₁ : Shared} (J : Nat → Heap → List Value → Prop)
    (hh : A.handled = none) (hroom : A.depth + 20 < recursionLimit) (hfr : A.frames = some [env0]) (hd0 : ∃ es n, o0.data = .dict es n) (hL0 : At s₁.heap L0 (SlO o0)) (hLL : L ≠ L0) (haL0 : a ≠ L0) (nL0 : g0.get? L0 = none) (hcell : ∀ y ∈ scope.names, y.2 ≠ .cell) (hkind : scope.kind = .function)
    (G : GG w g0) (hP : P g0) (N : GenNewK prog w P env0 L0 o0 G₀ L a outs s₁) (k0 : Keep g0 s₁.heap) (nL : g0.get? L = none) (hsz : outs.length ≤ sizeLine) (init : J 0 (hideAll s₁.heap [L, L0]) []) (hJ : ∀ i B B' ys, Kf B B' → J i B ys → J i B' ys)
    (turn : ∀ i v, outs[i]? = some v → CompTurnK prog w A s₁ env scope cl target elt ifs a L L0 J i v)
    (hRR : ∀ D C h' tk m' ys g', s₁.heap.get? D = none → s₁.heap.get? C = none → D ≠ C → At h' L0 (SlO o0) → Fm g' C m' [(D, LstO ys)] h' → Keep (hideAll s₁.heap [L, L0]) g' → J outs.length g' ys → RR (.ref D) C (.ok .next) { s₁ with heap := h', toks := tk, gens := G₀.push .finished }) :
    wpAny (model prog w) A (pyIter (.ref a)) (fun it s₂ => wpAny (model prog w) A (newList []) (fun acc s₃ => wpAny (model prog w) A (newFunctionEnv scope env.globals cl [] env.qual none .none (some env)) (fun cenv s₄ =>
      codeC (model prog w) A (.compStart (.ListComp elt [⟨target, iter, ifs, 0⟩] scope pos) 0 it acc { cenv with scope := relabel scope env }) (RR acc cenv.locals) s₄) E s₃) E s₂) E s₁ := by
  have gen0 := N.gen
  refine wpAny_pyIter_gen gen0 (wpAny_newObj_type (hd := by size_fits) (wpAny_newFunctionEnv hcell (by intro y hy; simp at hy) (fun h₁ hns₁ hsb₁ => ?_) hkind))
  dsimp only at hns₁ hsb₁ ⊢
  generalize hH2 : s₁.heap.push { cls := .type "list", dict := none, data := .seq ([] : List Value).toArray } = H2 at hns₁ hsb₁ ⊢
  have hC : H2.objs.size = s₁.heap.objs.size + 1 := by rw [← hH2, Heap.size_push]
  have hDC : s₁.heap.objs.size ≠ H2.objs.size := by omega
  have fresh : ∀ a, s₁.heap.objs.size ≤ a → s₁.heap.get? a = none := fun a ha => by
    cases e : s₁.heap.get? a with
    | none => rfl
    | some o' => exact absurd (Heap.lt_size e) (Nat.not_lt.mpr ha)
  have nD := get_size s₁.heap
  have nC : s₁.heap.get? H2.objs.size = none := fresh _ (by omega)
  have old : Keep s₁.heap h₁ := fun b o e => by
    exact hsb₁.extBut b o (fun q => by rw [q] at e; rw [nC] at e; cases e) (Heap.get?_push_of_some _ (hH2 ▸ Heap.get?_push_of_some _ e))
  have atD : At h₁ s₁.heap.objs.size (LstO []) := ⟨_, hsb₁.extBut _ _ hDC (Heap.get?_push_of_some _ (hH2 ▸ Heap.get?_push_size _ rfl)), 0, rfl⟩
  have N1 : ∀ tk, GenNewK prog w P env0 L0 o0 G₀ L a outs { s₁ with heap := h₁, toks := tk } := fun tk => by
    obtain ⟨⟨m₀, cod, eg, hns, fs⟩, _, hne⟩ := N
    exact ⟨⟨m₀, cod, eg, hns.keeps old, fs⟩, isGen_kept gen0 fun o e => old _ _ e, hne⟩
  have hne := N.ne
  have aliveL : ∃ o, s₁.heap.get? L = some o := by
    obtain ⟨⟨_, _, _, ⟨oL, _, _, e, _⟩, _⟩, _, _⟩ := N
    exact ⟨oL, e⟩
  have alivea : ∃ o, s₁.heap.get? a = some o := let ⟨o, _, _, e, _⟩ := gen0; ⟨o, e⟩
  clear hsb₁ N
  generalize H2.objs.size = C at hDC nC hns₁ ⊢
  generalize s₁.heap.objs.size = acc at hDC nD atD ⊢
  clear hC hH2 fresh
  have hLC : L ≠ C := fun q => by obtain ⟨o, e⟩ := aliveL; rw [q, nC] at e; cases e
  have hLD : L ≠ acc := fun q => by obtain ⟨o, e⟩ := aliveL; rw [q, nD] at e; cases e
  have haC : a ≠ C := fun q => by obtain ⟨o, e⟩ := alivea; rw [q, nC] at e; cases e
  have haD : a ≠ acc := fun q => by obtain ⟨o, e⟩ := alivea; rw [q, nD] at e; cases e
  have hL0C : L0 ≠ C := fun q => by obtain ⟨o, e, _⟩ := hL0; rw [q, nC] at e; cases e
  have hL0D : L0 ≠ acc := fun q => by obtain ⟨o, e, _⟩ := hL0; rw [q, nD] at e; cases e
  have dC : (C ≠ L ∧ C ≠ L0) ∧ ∃ o, h₁.get? C = some o := by obtain ⟨oL, _, _, e, _⟩ := hns₁; exact ⟨⟨Ne.symm hLC, Ne.symm hL0C⟩, _, e⟩
  have dD : (acc ≠ L ∧ acc ≠ L0) ∧ ∃ o, h₁.get? acc = some o := by obtain ⟨o, e, _⟩ := atD; exact ⟨⟨Ne.symm hLD, Ne.symm hL0D⟩, _, e⟩
  have bD : ∀ b o, (hideAll s₁.heap [L, L0]).get? b = some o → ((b ≠ L ∧ b ≠ L0) ∧ ∃ o, h₁.get? b = some o) ∧ b ≠ C ∧ b ≠ acc := fun b o e => by
    have e' := of_hideAll _ e
    refine ⟨⟨⟨fun q => ?_, fun q => ?_⟩, o, old _ _ e'⟩, fun q => ?_, fun q => ?_⟩
    · subst q; rw [hideAll_none _ (.head _)] at e; cases e
    · subst q; rw [hideAll_none _ (.tail _ (.head _))] at e; cases e
    · subst q; rw [nC] at e'; cases e'
    · subst q; rw [nD] at e'; cases e'
  have loop : ∀ tk, codeC (model prog w) A (.compLoop (.ListComp elt [⟨target, iter, ifs, 0⟩] scope pos) 0 (.ref a) (.ref acc) (compEnvC scope cl C env)) (RR (.ref acc) C) { s₁ with heap := h₁, toks := tk } := by
    intro tk
    refine compLoopC (I := fun n s' => ∃ i ys g' m' h' tk' G', n = outs.length - i ∧ i ≤ outs.length ∧ ys.length ≤ i ∧ s' = { s₁ with heap := h', toks := tk', gens := G' } ∧ Keep (hideAll s₁.heap [L, L0]) g' ∧ Fm g' C m' [(acc, LstO ys)] h' ∧ J i g' ys ∧ h'.IsGen a G₀.size ∧
      GenStK (fun h => At h L0 (SlO o0)) prog w A g0 (fun b => (b ≠ L ∧ b ≠ L0) ∧ ∃ o, h₁.get? b = some o) L (ValOf outs) G₀ (outs.length - i) { s₁ with heap := h', toks := tk', gens := G' }) ?turn outs.length
      ⟨0, [], hideAll s₁.heap [L, L0], _, h₁, tk, s₁.gens, rfl, Nat.zero_le _, Nat.le_refl _, rfl, Keep.refl _, ⟨hns₁, fun b o e => old _ _ (of_hideAll _ e), ?gl, fun p hp => ?own, by simp⟩, init, (N1 tk).gen, (N1 tk).start hh hroom hfr hd0 G hP (k0.trans old) nL nL0 (hL0.keep old) hLL⟩
    case gl =>
      cases e : (hideAll s₁.heap [L, L0]).get? C with
      | none => rfl
      | some o => exact absurd rfl (bD _ _ e).2.1
    case own =>
      rw [List.mem_singleton] at hp
      subst hp
      refine ⟨atD, ?_, hDC⟩
      cases e : (hideAll s₁.heap [L, L0]).get? acc with
      | none => rfl
      | some o => exact absurd rfl (bD _ _ e).2.2
    rintro n s' ⟨i, ys, g', m', h', tk', G', hn, hi, hys, rfl, kg, F', hJ', hg', GS⟩
    refine genNextK hh (G.nl.keeps GS.base) (by omega) hg' GS ?_ ?_
    · rintro k v s2 hk hval ⟨h2, tk2, gs, rfl⟩ hkp hX2 GS2
      dsimp only at hkp GS2 ⊢
      have hlt : i < outs.length := by omega
      have hv : outs[i]? = some v := by
        have e : outs.length - 1 - k = i := by omega
        have : outs[outs.length - 1 - k]? = some v := hval
        rwa [e] at this
      have oC : ∀ o, h'.get? C = some o → h2.get? C = some o := fun o e => hkp _ _ e (.inl dC)
      obtain ⟨oL, es, ep, hoC, rC⟩ := F'.ns
      obtain ⟨oA, hoA, pA⟩ := F'.at_ (.head _)
      have ownA := F'.own _ (.head _)
      have F2 : Fm (hideAll h2 [C, acc]) C m' [(acc, LstO ys)] h2 := ⟨⟨oL, es, ep, oC _ hoC, rC⟩, fun b o e => of_hideAll _ e, hideAll_none _ (.head _), fun p hp => by
        rw [List.mem_singleton] at hp
        subst hp
        exact ⟨⟨oA, hkp _ _ hoA (.inl dD), pA⟩, hideAll_none _ (.tail _ (.head _)), ownA.2.2⟩, by simp⟩
      have kf2 : Kf g' (hideAll h2 [C, acc]) := fun b o e f => hideAll_get _ (hkp _ _ (F'.keep _ _ e) (.inr f)) fun hm => by
        rcases List.mem_cons.mp hm with rfl | hm
        · rw [F'.gL] at e; cases e
        · rw [List.mem_singleton] at hm; subst hm
          rw [ownA.2.1] at e; cases e
      have kb2 : Keep (hideAll s₁.heap [L, L0]) (hideAll h2 [C, acc]) := fun b o e => hideAll_get _ (hkp _ _ (F'.keep _ _ (kg _ _ e)) (.inl (bD _ _ e).1)) fun hm => by
        rcases List.mem_cons.mp hm with rfl | hm
        · exact (bD _ _ e).2.1 rfl
        · rw [List.mem_singleton] at hm; exact (bD _ _ e).2.2 hm
      have back : ∀ {g3 m3 h3 zs}, Keep (hideAll h2 [C, acc]) g3 → Fm g3 C m3 [(acc, LstO zs)] h3 → ∀ tk3, h3.IsGen a G₀.size ∧ GenStK (fun h => At h L0 (SlO o0)) prog w A g0 (fun b => (b ≠ L ∧ b ≠ L0) ∧ ∃ o, h₁.get? b = some o) L (ValOf outs) G₀ k { s₁ with heap := h3, toks := tk3, gens := G₀.push gs } := fun {g3 m3 h3 zs} k3 F3 tk3 => by
        have kk := k3.trans F3.keep
        refine ⟨isGen_kept hg' fun o e => kk _ _ (hideAll_get _ (hkp _ _ e (.inl ⟨⟨Ne.symm hne, haL0⟩, ?_⟩)) (by simp [haC, haD])), GS2.turn (hs := [C, acc]) kk (fun b hb => ?_) (fun b hb => ?_) (fun b hb => ?_)⟩
        · obtain ⟨o', e'⟩ := alivea; exact ⟨o', old _ _ e'⟩
        · rcases List.mem_cons.mp hb with rfl | hb
          · obtain ⟨o3, _, _, e3, _⟩ := F3.ns; exact ⟨_, e3⟩
          · rw [List.mem_singleton] at hb; subst hb; obtain ⟨o3, e3, _⟩ := F3.at_ (.head _); exact ⟨_, e3⟩
        · rcases List.mem_cons.mp hb with rfl | hb
          · exact dC
          · rw [List.mem_singleton] at hb; subst hb; exact dD
        · rcases List.mem_cons.mp hb with rfl | hb
          · exact none_keep k0 nC
          · rw [List.mem_singleton] at hb; subst hb; exact none_keep k0 nD
      have hk' : outs.length - (i + 1) = k := by omega
      refine wpAny_mono (turn i v hv C acc ys _ m' h2 tk2 (G₀.push gs) (hJ _ _ _ _ kf2 hJ') kb2 F2) (fun _ s₁ h₁ => wpAny_mono h₁ (fun _ s₂ h₂ => wpAny_mono h₂ (fun ok s₃ hf => ?_) fun _ _ x => x) fun _ _ x => x) fun _ _ x => x
      cases ok with
      | true =>
        rw [if_pos rfl] at hf ⊢
        refine wpAny_mono hf (fun x s₄ h₄ => ?_) fun _ _ x => x
        obtain ⟨g'', m'', h3, tk'', rfl, kg'', F3, hJ3⟩ := h₄
        refine appL F3 .head (by omega) fun h4 F4 => ?_
        obtain ⟨b1, b2⟩ := back kg'' F4 tk''
        exact ⟨outs.length - (i + 1), by omega, i + 1, ys ++ [x], g'', m'', h4, tk'', _, rfl, hlt, by simp; omega, rfl, kb2.trans kg'', F4, hJ3, b1, by rw [hk']; exact b2⟩
      | false =>
        rw [if_neg Bool.false_ne_true] at hf ⊢
        obtain ⟨g'', m'', h3, tk'', rfl, kg'', F3, hJ3⟩ := hf
        obtain ⟨b1, b2⟩ := back kg'' F3 tk''
        exact ⟨outs.length - (i + 1), by omega, i + 1, ys, g'', m'', h3, tk'', _, rfl, hlt, by omega, rfl, kb2.trans kg'', F3, hJ3, b1, by rw [hk']; exact b2⟩
    · rintro s2 h0 ⟨h2, tk2, rfl⟩ hkp ⟨hx, hX, kX⟩
      dsimp only at hkp ⊢
      have hi' : i = outs.length := by omega
      subst hi'
      obtain ⟨oL, es, ep, hoC, rC⟩ := F'.ns
      obtain ⟨oA, hoA, pA⟩ := F'.at_ (.head _)
      have ownA := F'.own _ (.head _)
      have F2 : Fm (hideAll h2 [C, acc]) C m' [(acc, LstO ys)] h2 := ⟨⟨oL, es, ep, hkp _ _ hoC (.inl dC), rC⟩, fun b o e => of_hideAll _ e, hideAll_none _ (.head _), fun p hp => by
        rw [List.mem_singleton] at hp
        subst hp
        exact ⟨⟨oA, hkp _ _ hoA (.inl dD), pA⟩, hideAll_none _ (.tail _ (.head _)), ownA.2.2⟩, by simp⟩
      have kf2 : Kf g' (hideAll h2 [C, acc]) := fun b o e f => hideAll_get _ (hkp _ _ (F'.keep _ _ e) (.inr f)) fun hm => by
        rcases List.mem_cons.mp hm with rfl | hm
        · rw [F'.gL] at e; cases e
        · rw [List.mem_singleton] at hm; subst hm
          rw [ownA.2.1] at e; cases e
      have kb2 : Keep (hideAll s₁.heap [L, L0]) (hideAll h2 [C, acc]) := fun b o e => hideAll_get _ (hkp _ _ (F'.keep _ _ (kg _ _ e)) (.inl (bD _ _ e).1)) fun hm => by
        rcases List.mem_cons.mp hm with rfl | hm
        · exact (bD _ _ e).2.1 rfl
        · rw [List.mem_singleton] at hm; exact (bD _ _ e).2.2 hm
      exact hRR _ _ _ _ _ _ _ nD nC hDC (hX.keep kX) F2 kb2 (hJ _ _ _ _ kf2 hJ')
  exact codeC_compStart_list (loop _) (wpAny_pyIter_gen (N1 s₁.toks).gen (loop _))

/-- a comprehension over a generator that a call has just made -/
theorem compK {P : Heap → Prop} {elt target iter : Expr} {ifs : List Expr} {scope : Scope} {cl : List (Str × Addr)} {pos : Pos} {Q : Value → Shared → Prop} (J : Nat → Heap → List Value → Prop)
    (hclos : closureFor scope env = pure cl) (hcell : ∀ y ∈ scope.names, y.2 ≠ .cell) (hkind : scope.kind = .function) (hnames : ∀ y ∈ scope.names, y.2 = .local → scope.names.lookup y.1 = some .local) (hh : A.handled = none) (hroom : A.depth + 20 < recursionLimit) (hfr : A.frames = some [env0]) (hd0 : ∃ es n, o0.data = .dict es n)
    (h : wpAny (model prog w) A (eval iter env) (fun v s₁ => ∃ a L g0 G₀ outs, v = .ref a ∧ GG w g0 ∧ P g0 ∧ GenNewK prog w P env0 L0 o0 G₀ L a outs s₁ ∧ Keep g0 s₁.heap ∧ g0.get? L = none ∧ (At s₁.heap L0 (SlO o0) ∧ L ≠ L0 ∧ a ≠ L0 ∧ g0.get? L0 = none) ∧ outs.length ≤ sizeLine ∧ J 0 (hideAll s₁.heap [L, L0]) [] ∧ (∀ i B B' ys, Kf B B' → J i B ys → J i B' ys) ∧
      (∀ i v, outs[i]? = some v → CompTurnK prog w A s₁ env scope cl target elt ifs a L L0 J i v) ∧
      ∀ D h' tk ys g', s₁.heap.get? D = none → Keep (hideAll s₁.heap [L, L0]) g' → Keep g' h' → At h' D (LstO ys) → At h' L0 (SlO o0) → J outs.length g' ys → Q (.ref D) { s₁ with heap := h', toks := tk, gens := G₀.push .finished }) E s)
    (hs : ∀ x, foldedSetIterable iter env x = pure x := by intro _; rfl) :
    wpC (model prog w) A (eval (.ListComp elt [⟨target, iter, ifs, 0⟩] scope pos) env) Q E s := by
  rw [eval_ListComp]
  refine comprehensionC (use := none) (g := ⟨target, iter, ifs, 0⟩) (gs := []) rfl hs hclos hkind hnames rfl (wpAny_mono h (fun v s₁ h₁ => ?_) fun _ _ e => e)
  obtain ⟨a, L, g0, G₀, outs, rfl, G, hP, N, k0, nL, ⟨hL0, hLL, haL0, nL0⟩, hsz, init, hJ, turn, hQ⟩ := h₁
  refine compBlockK (RR := fun acc C => compPost (model prog w) A E none Q acc C) J hh hroom hfr hd0 hL0 hLL haL0 nL0 hcell hkind G hP N k0 nL hsz init hJ turn ?_
  intro D C h' tk m' ys g' nD nC hDC hx F' kg hJ'
  refine ⟨m', F'.ns, fun h'' hs'' => ?_⟩
  have k'' : Keep g' h'' := fun b o e => hs''.extBut b o (fun q => by subst q; rw [F'.gL] at e; cases e) (F'.keep b o e)
  exact hQ D h'' tk ys g' nD kg k'' ((F'.at_ (.head _)).same hs'' hDC) (hx.same hs'' fun q => by obtain ⟨o, e, _⟩ := hL0; rw [q, nC] at e; cases e) hJ'
end
/-- a generator expression's end -/
abbrev RPx (D : Addr → Prop) : GenEnd := fun n s₀ r s => r = .ok .next ∧ (n = 0 ∧ Stp D s₀ s)
/-- a fresh generator expression's run over a list -/
def FreshSegX (prog : Program) (w : World) (P : Heap → Prop) (it ax : Addr) (L : Addr) (m₀ : Str → Option Value) (cod : Code) (outs : List Value) : Prop :=
  ∀ (A0 : Around) (g0 : Heap) (D : Addr → Prop) (s'' : Shared), A0.handled = none → A0.depth + 20 < recursionLimit → GG w g0 → P g0 → GInv g0 D L m₀ [(it, IterO ax 0)] s''.heap →
    Seg (model prog w) A0 (RPx D) (YP g0 D L (ValOf outs)) outs.length s'' cod ((model prog w).den cod) [] s''
structure GenNewX (prog : Program) (w : World) (P : Heap → Prop) (it ax : Addr) (G₀ : Array GenState) (L a : Addr) (outs : List Value) (s : Shared) : Prop where
  run : ∃ m₀ cod, s.gens = G₀.push (.fresh cod) ∧ s.heap.Ns L m₀ ∧ FreshSegX prog w P it ax L m₀ cod outs
  gen : s.heap.IsGen a G₀.size
  ne : L ≠ a
section
variable {prog : Program} {w : World} {A : Around} {n : Nat} {s : Shared} {E : Value → Shared → Prop} {env : Env}
variable {g0 : Heap} {D : Addr → Prop} {L L0 a ax : Addr} {outs : List Value} {G₀ : Array GenState} {Val : Nat → Value → Prop}
def GenStX (prog : Program) (w : World) (A : Around) (g0 : Heap) (D : Addr → Prop) (L : Addr) (Val : Nat → Value → Prop) (G₀ : Array GenState) (n : Nat) (s : Shared) : Prop :=
  ∃ gs m l, s.gens = G₀.push gs ∧ GInv g0 D L m l s.heap ∧ ∀ s'', GInv g0 D L m l s''.heap → gs.Goes (model prog w) A.in1 (RPx D) (YP g0 D L Val) n (.send .none) s''
theorem genNextX {Q : Option Value → Shared → Prop} (hh : A.handled = none) (hl : s.heap.NoLimit) (hroom : A.depth < recursionLimit) (hg : s.heap.IsGen a G₀.size) (G : GenStX prog w A g0 D L Val G₀ n s)
    (item : ∀ k v s₁, n = k + 1 → Val k v → (∃ h tk gs, s₁ = { s with heap := h, toks := tk, gens := G₀.push gs }) → (∀ b o, s.heap.get? b = some o → D b ∨ Frz o → s₁.heap.get? b = some o) → GenStX prog w A g0 D L Val G₀ k s₁ → Q (some v) s₁)
    (done : ∀ s₁, n = 0 → (∃ h tk, s₁ = { s with heap := h, toks := tk, gens := G₀.push .finished }) → (∀ b o, s.heap.get? b = some o → D b ∨ Frz o → s₁.heap.get? b = some o) → Q none s₁) :
    wpAny (model prog w) A (pyNext (.ref a)) Q E s := by
  obtain ⟨gs, m, l, hgs, gi, hgo⟩ := G
  refine wpAny_pyNext_genexp (P := fun n s₀ s => n = 0 ∧ Stp D s₀ s) (Y := YP g0 D L Val) (n := n) hh hl hroom hg (gs := gs) (by rw [hgs]; simp) (hgo _ gi) ?_ ?_
  · rintro v s₁ gs' ⟨⟨⟨h, tk, rfl⟩, hk⟩, val, m', l', gi', hgo'⟩
    cases n with
    | zero => exact (hgo' { (s.setGen G₀.size .running) with heap := h, toks := tk } gi').elim
    | succ k =>
      refine item k v _ rfl val ⟨h, tk, gs', ?_⟩ (fun b o e hd => hk b o e hd) ⟨gs', m', l', ?_, gi', hgo'⟩
      · simp only [Shared.setGen]
        rw [hgs, set_push, set_push]
      · simp only [Shared.setGen]
        rw [hgs, set_push, set_push]
  · rintro s₁ ⟨hn, ⟨h, tk, rfl⟩, hk⟩ h' k'
    refine done _ hn ⟨h', tk, ?_⟩ fun b o e hd => k' _ _ (hk b o e hd)
    simp only [Shared.setGen]
    rw [hgs, set_push, set_push]
theorem GenStX.turn {hs : List Addr} {h' : Heap} {tk : Nat} (x : GenStX prog w A g0 D L Val G₀ n s) (k : Keep (hideAll s.heap hs) h') (al : ∀ b ∈ hs, ∃ o, h'.get? b = some o) (hD' : ∀ b ∈ hs, D b) (hg : ∀ b ∈ hs, g0.get? b = none) :
    GenStX prog w A g0 D L Val G₀ n { s with heap := h', toks := tk } := let ⟨gs, m, l, a, b, c⟩ := x; ⟨gs, m, l, a, b.turn k al hD' hg, c⟩
theorem GenStX.base (x : GenStX prog w A g0 D L Val G₀ n s) : Keep g0 s.heap := let ⟨_, _, _, _, ⟨_, k, F, _⟩, _⟩ := x; k.trans F.keep
theorem GenNewX.start {P : Heap → Prop} (N : GenNewX prog w P L0 ax G₀ L a outs s) (hh : A.handled = none) (hroom : A.depth + 20 < recursionLimit) (G : GG w g0) (hP : P g0) (k : Keep g0 s.heap) (nL : g0.get? L = none) (nL0 : g0.get? L0 = none) (hL0 : At s.heap L0 (IterO ax 0)) (hLL : L ≠ L0) :
    GenStX prog w A g0 (fun b => (b ≠ L ∧ b ≠ L0) ∧ ∃ o, s.heap.get? b = some o) L (ValOf outs) G₀ outs.length s := by
  obtain ⟨⟨m₀, cod, e, hns, fs⟩, _, _⟩ := N
  refine ⟨_, m₀, [(L0, IterO ax 0)], e, ⟨hideAll s.heap [L, L0], fun b o e => hideAll_get _ (k _ _ e) (fun hm => ?_), ⟨hns, fun b o e => of_hideAll _ e, hideAll_none _ (.head _), fun p h => ?_, by simp⟩, Muts.cons mutI Muts.nil, fun b ⟨hb, o, e⟩ => ⟨o, hideAll_get _ e (by simpa using hb)⟩⟩, fun s'' gi => ⟨rfl, ?_⟩⟩
  · rcases List.mem_cons.mp hm with rfl | hm
    · rw [nL] at e; cases e
    · rw [List.mem_singleton] at hm; subst hm; rw [nL0] at e; cases e
  · rw [List.mem_singleton] at h
    subst h
    exact ⟨hL0, hideAll_none _ (.tail _ (.head _)), Ne.symm hLL⟩
  · exact fs A.in1 g0 _ s'' hh hroom G hP gi
/-- a generator expression's loop over a list: the items are yielded as they are, where the test holds -/
theorem segGX {A : Around} {cenv : Env} {iter : Expr} {x : Str} {px pe : Pos} {ifs : List Expr} {scope : Scope} {pos : Pos} {it : Addr} {its : List (Value × Bool)} (hh : A.handled = none)
    (hax : At g0 ax (LstO (its.map (·.1)))) (ho : outs = (its.filter (·.2)).map (·.1)) (hx : cenv.kindOf x = some .local) (hp : (cenv.scope.kind == .class || (cenv.scope.kind == .module && cenv.locals != cenv.globals)) = false)
    (hk : cenv.scope.kind = .function) (hdx : (x == ("__debug__" : Str)) = false) (hco : cenv.scope.isCoroutine = false)
    (test : ∀ (A' : Around) (i : Nat) (p : Value × Bool) (g : Heap) (m : Str → Option Value) (l : List (Addr × (Obj → Prop))) (s : Shared), A'.handled = none → A'.depth ≤ A.depth + 1 → its[i]? = some p → Keep g0 g → Fm g cenv.locals m l s.heap → m x = some p.1 →
      wpAny (model prog w) A' (forIn ifs true fun c r => if r = true then do let ok ← isTrue c cenv (eval c cenv); pure (ForInStep.yield ok) else pure (ForInStep.yield r)) (fun ok s' => ok = p.2 ∧ ∃ h tk, s' = { s with heap := h, toks := tk } ∧ Fm g cenv.locals m l h) (fun _ _ => False) s) :
    ∀ (k i n : Nat) (s₀ s : Shared) (m : Str → Option Value), its.length - i = k → i ≤ its.length → SG g0 D cenv.locals m [(it, IterO ax i)] s₀ s → Left outs n (((its.drop i).filter (·.2)).map (·.1)) →
      Seg (model prog w) A (RPx D) (YP g0 D cenv.locals (ValOf outs)) n s₀ (.compLoop (.GeneratorExp (.Name x pe) [⟨.Name x px, iter, ifs, 0⟩] scope pos) 0 (.ref it) .none cenv)
        ((model prog w).den (.compLoop (.GeneratorExp (.Name x pe) [⟨.Name x px, iter, ifs, 0⟩] scope pos) 0 (.ref it) .none cenv)) [] s := by
  have hh' : (A.over (.compLoop (.GeneratorExp (.Name x pe) [⟨.Name x px, iter, ifs, 0⟩] scope pos) 0 (.ref it) .none cenv) []).handled = none := hh
  intro k
  induction k with
  | zero =>
    rintro i n s₀ s m hk' hi ⟨⟨h, tk, rfl⟩, g, kg, F, hD, hB⟩ hL
    have hin : i = its.length := by omega
    subst hin
    show Seg _ A _ _ _ s₀ _ ((compTurn (.GeneratorExp (.Name x pe) [⟨.Name x px, iter, ifs, 0⟩] scope pos) 0 (.ref it) .none cenv).onRaise (leaving cenv)) [] _
    rw [compTurn_gen, Sem.onRaise_eq_wrap]
    refine seg_bind_wrap (wpAny_standAt ?_)
    refine seg_bind_wrap (stopL hh' F (hax.keep (kg.trans F.keep)) (by simp) fun h' F' => ?_)
    obtain ⟨dn, _, hn⟩ := hL
    refine seg_end (.ok .next) ⟨rfl, by simpa using hn, SG.stp ⟨⟨_, _, rfl⟩, g, kg, F', hD, hB⟩⟩
  | succ k ih =>
    rintro i n s₀ s m hk' hi ⟨⟨h, tk, rfl⟩, g, kg, F, hD, hB⟩ hL
    have hlt : i < its.length := by omega
    have hv : (its.map (·.1))[i]? = some its[i].1 := by simp [hlt]
    show Seg _ A _ _ _ s₀ _ ((compTurn (.GeneratorExp (.Name x pe) [⟨.Name x px, iter, ifs, 0⟩] scope pos) 0 (.ref it) .none cenv).onRaise (leaving cenv)) [] _
    rw [compTurn_gen, Sem.onRaise_eq_wrap]
    refine seg_bind_wrap (wpAny_standAt ?_)
    refine seg_bind_wrap (nextL F (hax.keep (kg.trans F.keep)) hv fun h₁ _ F₁ => ?_)
    refine seg_bind_wrap (wpAny_of_eq (rfl : letOwnedTupleGo (.Name x px) (.ref it) its[i].1 = pure ()) ?_)
    refine seg_bind_wrap (wpAny_assign_Name (svT F₁ (fun h₂ tk₂ F₂ => ?_) hx hp))
    refine seg_bind_wrap (wpAny_mono (test _ i its[i] g _ _ _ hh' (Nat.le_refl (A.depth + 0 + 1)) (List.getElem?_eq_getElem hlt) kg F₂ (if_pos rfl)) (fun ok s₃ h₃ => ?_) fun _ _ e => e.elim)
    obtain ⟨rfl, h₃, tk₃, rfl, F₃⟩ := h₃
    have sg : ∀ tk, SG g0 D cenv.locals (upd m x its[i].1) [(it, IterO ax (i + 1))] s₀ { s₀ with heap := h₃, toks := tk } := fun tk => ⟨⟨_, _, rfl⟩, g, kg, F₃, hD, hB⟩
    have hdr : its.drop i = its[i] :: its.drop (i + 1) := List.drop_eq_getElem_cons hlt
    rw [hdr] at hL
    cases hpz : its[i].2 with
    | false =>
      rw [List.filter_cons_of_neg (by simp [hpz])] at hL
      simp only [Bool.false_eq_true, if_false]
      exact seg_again rfl (ih (i + 1) n s₀ _ _ (by omega) hlt (sg _) hL)
    | true =>
      rw [List.filter_cons_of_pos (by simp [hpz]), List.map_cons] at hL
      obtain ⟨j, rfl, hval, hL2⟩ := Left.val hL
      simp only [if_true]
      have hy : ∀ v, yieldOut cenv v = yieldValue v := fun v => by simp only [yieldOut, hco, Bool.false_eq_true, if_false]
      simp only [hy]
      rw [Sem.bind_eq_wrap', Sem.bind_eq_wrap', Sem.wrap_wrap, Sem.wrap_wrap]
      refine seg_wrap (lv F₃ (show upd m x its[i].1 x = some its[i].1 from if_pos rfl) ?_ hk hx hdx)
      refine seg_at (seg_yield rfl rfl rfl ⟨(sg tk₃).stp, hval, _, _, (sg tk₃).ginv (Muts.cons mutI Muts.nil), fun s'' gi => ?_⟩)
      exact seg_again rfl (ih (i + 1) j s'' s'' _ (by omega) hlt gi.start hL2)
theorem segGX0 {A : Around} {cenv : Env} {iter elt : Expr} {target : Expr} {ifs : List Expr} {scope : Scope} {pos : Pos} {it : Addr} {R : GenEnd} {Y : Protocol} {s₀ : Shared} (hh : A.handled = none) (F : s.heap.IsListIter it ax 0)
    (loop : Seg (model prog w) A R Y n s₀ (.compLoop (.GeneratorExp elt [⟨target, iter, ifs, 0⟩] scope pos) 0 (.ref it) .none cenv) ((model prog w).den (.compLoop (.GeneratorExp elt [⟨target, iter, ifs, 0⟩] scope pos) 0 (.ref it) .none cenv)) [] s) :
    Seg (model prog w) A R Y n s₀ (.compStart (.GeneratorExp elt [⟨target, iter, ifs, 0⟩] scope pos) 0 (.ref it) .none cenv) ((model prog w).den (.compStart (.GeneratorExp elt [⟨target, iter, ifs, 0⟩] scope pos) 0 (.ref it) .none cenv)) [] s := by
  show Seg _ A _ _ _ s₀ _ ((compStart (.GeneratorExp elt [⟨target, iter, ifs, 0⟩] scope pos) 0 (.ref it) .none cenv).onRaise (leaving cenv)) [] s
  unfold compStart
  rw [Sem.onRaise_eq_wrap]
  show Seg _ A _ _ _ s₀ _ ((ask >>= _).wrap _ _ _ _) [] s
  refine seg_bind_wrap (wpAny_askSetting ?_)
  split
  · exact seg_again rfl loop
  · refine seg_bind_wrap (wpAny_rule ?_); show Seg _ A _ _ _ s₀ _ ((standAt iter.pos >>= _).wrap _ _ _ _) [] s; exact seg_bind_wrap (wpAny_standAt (seg_bind_wrap (wpAny_pyIter_listiter F (seg_again rfl loop))))
/-- one turn of a comprehension over a generator -/
def CompTurnX (prog : Program) (w : World) (A : Around) (s₁ : Shared) (env : Env) (scope : Scope) (cl : List (Str × Addr)) (target elt : Expr) (ifs : List Expr) (a L L0 : Addr) (J : Nat → Heap → List Value → Prop) (i : Nat) (v : Value) : Prop :=
  ∀ C acc ys g' m' h' tk' G', J i g' ys → Keep (hideAll s₁.heap [L, L0]) g' → Fm g' C m' [(acc, LstO ys)] h' →
    wpAny (model prog w) A (letOwnedTupleGo target (.ref a) v) (fun _ s₂ => wpAny (model prog w) A (assign target (compEnvC scope cl C env) v) (fun _ s₃ =>
      wpAny (model prog w) A (forIn ifs true fun c r => if r = true then do let ok ← isTrue c (compEnvC scope cl C env) (eval c (compEnvC scope cl C env)); pure (ForInStep.yield ok) else pure (ForInStep.yield r)) (fun ok s₄ =>
        if ok = true then wpAny (model prog w) A (eval elt (compEnvC scope cl C env)) (fun x s₅ => ∃ g'' m'' h'' tk'', s₅ = { s₁ with heap := h'', toks := tk'', gens := G' } ∧ Keep g' g'' ∧ Fm g'' C m'' [(acc, LstO ys)] h'' ∧ J (i + 1) g'' (ys ++ [x])) (fun _ _ => False) s₄
        else ∃ g'' m'' h'' tk'', s₄ = { s₁ with heap := h'', toks := tk'', gens := G' } ∧ Keep g' g'' ∧ Fm g'' C m'' [(acc, LstO ys)] h'' ∧ J (i + 1) g'' ys) (fun _ _ => False) s₃) (fun _ _ => False) s₂) (fun _ _ => False) { s₁ with heap := h', toks := tk', gens := G' }

theorem compBlockX {P : Heap → Prop} {RR : Value → Addr → Result → Shared → Prop} {elt target iter : Expr} {ifs : List Expr} {scope : Scope} {cl : List (Str × Addr)} {pos : Pos} {s₁ : Shared} (J : Nat → Heap → List Value → Prop)
    (hh : A.handled = none) (hroom : A.depth + 20 < recursionLimit) (hL0 : At s₁.heap L0 (IterO ax 0)) (hLL : L ≠ L0) (haL0 : a ≠ L0) (nL0 : g0.get? L0 = none) (hcell : ∀ y ∈ scope.names, y.2 ≠ .cell) (hkind : scope.kind = .function)
    (G : GG w g0) (hP : P g0) (N : GenNewX prog w P L0 ax G₀ L a outs s₁) (k0 : Keep g0 s₁.heap) (nL : g0.get? L = none) (hsz : outs.length ≤ sizeLine) (init : J 0 (hideAll s₁.heap [L, L0]) []) (hJ : ∀ i B B' ys, Kf B B' → J i B ys → J i B' ys)
    (turn : ∀ i v, outs[i]? = some v → CompTurnX prog w A s₁ env scope cl target elt ifs a L L0 J i v)
    (hRR : ∀ D C h' tk m' ys g', s₁.heap.get? D = none → s₁.heap.get? C = none → D ≠ C → Fm g' C m' [(D, LstO ys)] h' → Keep (hideAll s₁.heap [L, L0]) g' → J outs.length g' ys → RR (.ref D) C (.ok .next) { s₁ with heap := h', toks := tk, gens := G₀.push .finished }) :
    wpAny (model prog w) A (pyIter (.ref a)) (fun it s₂ => wpAny (model prog w) A (newList []) (fun acc s₃ => wpAny (model prog w) A (newFunctionEnv scope env.globals cl [] env.qual none .none (some env)) (fun cenv s₄ =>
      codeAny (model prog w) A (.compStart (.ListComp elt [⟨target, iter, ifs, 0⟩] scope pos) 0 it acc { cenv with scope := relabel scope env }) (RR acc cenv.locals) s₄) E s₃) E s₂) E s₁ := by
  have gen0 := N.gen
  refine wpAny_pyIter_gen gen0 (wpAny_newObj_type (hd := by size_fits) (wpAny_newFunctionEnv hcell (by intro y hy; simp at hy) (fun h₁ hns₁ hsb₁ => ?_) hkind))
  dsimp only at hns₁ hsb₁ ⊢
  generalize hH2 : s₁.heap.push { cls := .type "list", dict := none, data := .seq ([] : List Value).toArray } = H2 at hns₁ hsb₁ ⊢
  have hC : H2.objs.size = s₁.heap.objs.size + 1 := by rw [← hH2, Heap.size_push]
  have hDC : s₁.heap.objs.size ≠ H2.objs.size := by omega
  have fresh : ∀ a, s₁.heap.objs.size ≤ a → s₁.heap.get? a = none := fun a ha => by
    cases e : s₁.heap.get? a with
    | none => rfl
    | some o' => exact absurd (Heap.lt_size e) (Nat.not_lt.mpr ha)
  have nD := get_size s₁.heap
  have nC : s₁.heap.get? H2.objs.size = none := fresh _ (by omega)
  have old : Keep s₁.heap h₁ := fun b o e => by
    exact hsb₁.extBut b o (fun q => by rw [q] at e; rw [nC] at e; cases e) (Heap.get?_push_of_some _ (hH2 ▸ Heap.get?_push_of_some _ e))
  have atD : At h₁ s₁.heap.objs.size (LstO []) := ⟨_, hsb₁.extBut _ _ hDC (Heap.get?_push_of_some _ (hH2 ▸ Heap.get?_push_size _ rfl)), 0, rfl⟩
  have N1 : ∀ tk, GenNewX prog w P L0 ax G₀ L a outs { s₁ with heap := h₁, toks := tk } := fun tk => by
    obtain ⟨⟨m₀, cod, eg, hns, fs⟩, _, hne⟩ := N
    exact ⟨⟨m₀, cod, eg, hns.keeps old, fs⟩, isGen_kept gen0 fun o e => old _ _ e, hne⟩
  have hne := N.ne
  have aliveL : ∃ o, s₁.heap.get? L = some o := by
    obtain ⟨⟨_, _, _, ⟨oL, _, _, e, _⟩, _⟩, _, _⟩ := N
    exact ⟨oL, e⟩
  have alivea : ∃ o, s₁.heap.get? a = some o := let ⟨o, _, _, e, _⟩ := gen0; ⟨o, e⟩
  clear hsb₁ N
  generalize H2.objs.size = C at hDC nC hns₁ ⊢
  generalize s₁.heap.objs.size = acc at hDC nD atD ⊢
  clear hC hH2 fresh
  have hLC : L ≠ C := fun q => by obtain ⟨o, e⟩ := aliveL; rw [q, nC] at e; cases e
  have hLD : L ≠ acc := fun q => by obtain ⟨o, e⟩ := aliveL; rw [q, nD] at e; cases e
  have haC : a ≠ C := fun q => by obtain ⟨o, e⟩ := alivea; rw [q, nC] at e; cases e
  have haD : a ≠ acc := fun q => by obtain ⟨o, e⟩ := alivea; rw [q, nD] at e; cases e
  have hL0C : L0 ≠ C := fun q => by obtain ⟨o, e, _⟩ := hL0; rw [q, nC] at e; cases e
  have hL0D : L0 ≠ acc := fun q => by obtain ⟨o, e, _⟩ := hL0; rw [q, nD] at e; cases e
  have dC : (C ≠ L ∧ C ≠ L0) ∧ ∃ o, h₁.get? C = some o := by obtain ⟨oL, _, _, e, _⟩ := hns₁; exact ⟨⟨Ne.symm hLC, Ne.symm hL0C⟩, _, e⟩
  have dD : (acc ≠ L ∧ acc ≠ L0) ∧ ∃ o, h₁.get? acc = some o := by obtain ⟨o, e, _⟩ := atD; exact ⟨⟨Ne.symm hLD, Ne.symm hL0D⟩, _, e⟩
  have bD : ∀ b o, (hideAll s₁.heap [L, L0]).get? b = some o → ((b ≠ L ∧ b ≠ L0) ∧ ∃ o, h₁.get? b = some o) ∧ b ≠ C ∧ b ≠ acc := fun b o e => by
    have e' := of_hideAll _ e
    refine ⟨⟨⟨fun q => ?_, fun q => ?_⟩, o, old _ _ e'⟩, fun q => ?_, fun q => ?_⟩
    · subst q; rw [hideAll_none _ (.head _)] at e; cases e
    · subst q; rw [hideAll_none _ (.tail _ (.head _))] at e; cases e
    · subst q; rw [nC] at e'; cases e'
    · subst q; rw [nD] at e'; cases e'
  have loop : ∀ tk, codeAny (model prog w) A (.compLoop (.ListComp elt [⟨target, iter, ifs, 0⟩] scope pos) 0 (.ref a) (.ref acc) (compEnvC scope cl C env)) (RR (.ref acc) C) { s₁ with heap := h₁, toks := tk } := by
    intro tk
    refine compLoopAny (I := fun n s' => ∃ i ys g' m' h' tk' G', n = outs.length - i ∧ i ≤ outs.length ∧ ys.length ≤ i ∧ s' = { s₁ with heap := h', toks := tk', gens := G' } ∧ Keep (hideAll s₁.heap [L, L0]) g' ∧ Fm g' C m' [(acc, LstO ys)] h' ∧ J i g' ys ∧ h'.IsGen a G₀.size ∧
      GenStX prog w A g0 (fun b => (b ≠ L ∧ b ≠ L0) ∧ ∃ o, h₁.get? b = some o) L (ValOf outs) G₀ (outs.length - i) { s₁ with heap := h', toks := tk', gens := G' }) ?turn outs.length
      ⟨0, [], hideAll s₁.heap [L, L0], _, h₁, tk, s₁.gens, rfl, Nat.zero_le _, Nat.le_refl _, rfl, Keep.refl _, ⟨hns₁, fun b o e => old _ _ (of_hideAll _ e), ?gl, fun p hp => ?own, by simp⟩, init, (N1 tk).gen, (N1 tk).start hh hroom G hP (k0.trans old) nL nL0 (hL0.keep old) hLL⟩
    case gl =>
      cases e : (hideAll s₁.heap [L, L0]).get? C with
      | none => rfl
      | some o => exact absurd rfl (bD _ _ e).2.1
    case own =>
      rw [List.mem_singleton] at hp
      subst hp
      refine ⟨atD, ?_, hDC⟩
      cases e : (hideAll s₁.heap [L, L0]).get? acc with
      | none => rfl
      | some o => exact absurd rfl (bD _ _ e).2.2
    rintro n s' ⟨i, ys, g', m', h', tk', G', hn, hi, hys, rfl, kg, F', hJ', hg', GS⟩
    refine genNextX hh (G.nl.keeps GS.base) (by omega) hg' GS ?_ ?_
    · rintro k v s2 hk hval ⟨h2, tk2, gs, rfl⟩ hkp GS2
      dsimp only at hkp GS2 ⊢
      have hlt : i < outs.length := by omega
      have hv : outs[i]? = some v := by
        have e : outs.length - 1 - k = i := by omega
        have : outs[outs.length - 1 - k]? = some v := hval
        rwa [e] at this
      have oC : ∀ o, h'.get? C = some o → h2.get? C = some o := fun o e => hkp _ _ e (.inl dC)
      obtain ⟨oL, es, ep, hoC, rC⟩ := F'.ns
      obtain ⟨oA, hoA, pA⟩ := F'.at_ (.head _)
      have ownA := F'.own _ (.head _)
      have F2 : Fm (hideAll h2 [C, acc]) C m' [(acc, LstO ys)] h2 := ⟨⟨oL, es, ep, oC _ hoC, rC⟩, fun b o e => of_hideAll _ e, hideAll_none _ (.head _), fun p hp => by
        rw [List.mem_singleton] at hp
        subst hp
        exact ⟨⟨oA, hkp _ _ hoA (.inl dD), pA⟩, hideAll_none _ (.tail _ (.head _)), ownA.2.2⟩, by simp⟩
      have kf2 : Kf g' (hideAll h2 [C, acc]) := fun b o e f => hideAll_get _ (hkp _ _ (F'.keep _ _ e) (.inr f)) fun hm => by
        rcases List.mem_cons.mp hm with rfl | hm
        · rw [F'.gL] at e; cases e
        · rw [List.mem_singleton] at hm; subst hm
          rw [ownA.2.1] at e; cases e
      have kb2 : Keep (hideAll s₁.heap [L, L0]) (hideAll h2 [C, acc]) := fun b o e => hideAll_get _ (hkp _ _ (F'.keep _ _ (kg _ _ e)) (.inl (bD _ _ e).1)) fun hm => by
        rcases List.mem_cons.mp hm with rfl | hm
        · exact (bD _ _ e).2.1 rfl
        · rw [List.mem_singleton] at hm; exact (bD _ _ e).2.2 hm
      have back : ∀ {g3 m3 h3 zs}, Keep (hideAll h2 [C, acc]) g3 → Fm g3 C m3 [(acc, LstO zs)] h3 → ∀ tk3, h3.IsGen a G₀.size ∧ GenStX prog w A g0 (fun b => (b ≠ L ∧ b ≠ L0) ∧ ∃ o, h₁.get? b = some o) L (ValOf outs) G₀ k { s₁ with heap := h3, toks := tk3, gens := G₀.push gs } := fun {g3 m3 h3 zs} k3 F3 tk3 => by
        have kk := k3.trans F3.keep
        refine ⟨isGen_kept hg' fun o e => kk _ _ (hideAll_get _ (hkp _ _ e (.inl ⟨⟨Ne.symm hne, haL0⟩, ?_⟩)) (by simp [haC, haD])), GS2.turn (hs := [C, acc]) kk (fun b hb => ?_) (fun b hb => ?_) (fun b hb => ?_)⟩
        · obtain ⟨o', e'⟩ := alivea; exact ⟨o', old _ _ e'⟩
        · rcases List.mem_cons.mp hb with rfl | hb
          · obtain ⟨o3, _, _, e3, _⟩ := F3.ns; exact ⟨_, e3⟩
          · rw [List.mem_singleton] at hb; subst hb; obtain ⟨o3, e3, _⟩ := F3.at_ (.head _); exact ⟨_, e3⟩
        · rcases List.mem_cons.mp hb with rfl | hb
          · exact dC
          · rw [List.mem_singleton] at hb; subst hb; exact dD
        · rcases List.mem_cons.mp hb with rfl | hb
          · exact none_keep k0 nC
          · rw [List.mem_singleton] at hb; subst hb; exact none_keep k0 nD
      have hk' : outs.length - (i + 1) = k := by omega
      refine wpAny_mono (turn i v hv C acc ys _ m' h2 tk2 (G₀.push gs) (hJ _ _ _ _ kf2 hJ') kb2 F2) (fun _ s₁ h₁ => wpAny_mono h₁ (fun _ s₂ h₂ => wpAny_mono h₂ (fun ok s₃ hf => ?_) fun _ _ x => x) fun _ _ x => x) fun _ _ x => x
      cases ok with
      | true =>
        rw [if_pos rfl] at hf ⊢
        refine wpAny_mono hf (fun x s₄ h₄ => ?_) fun _ _ x => x
        obtain ⟨g'', m'', h3, tk'', rfl, kg'', F3, hJ3⟩ := h₄
        refine appL F3 .head (by omega) fun h4 F4 => ?_
        obtain ⟨b1, b2⟩ := back kg'' F4 tk''
        exact ⟨outs.length - (i + 1), by omega, i + 1, ys ++ [x], g'', m'', h4, tk'', _, rfl, hlt, by simp; omega, rfl, kb2.trans kg'', F4, hJ3, b1, by rw [hk']; exact b2⟩
      | false =>
        rw [if_neg Bool.false_ne_true] at hf ⊢
        obtain ⟨g'', m'', h3, tk'', rfl, kg'', F3, hJ3⟩ := hf
        obtain ⟨b1, b2⟩ := back kg'' F3 tk''
        exact ⟨outs.length - (i + 1), by omega, i + 1, ys, g'', m'', h3, tk'', _, rfl, hlt, by omega, rfl, kb2.trans kg'', F3, hJ3, b1, by rw [hk']; exact b2⟩
    · rintro s2 h0 ⟨h2, tk2, rfl⟩ hkp
      dsimp only at hkp ⊢
      have hi' : i = outs.length := by omega
      subst hi'
      obtain ⟨oL, es, ep, hoC, rC⟩ := F'.ns
      obtain ⟨oA, hoA, pA⟩ := F'.at_ (.head _)
      have ownA := F'.own _ (.head _)
      have F2 : Fm (hideAll h2 [C, acc]) C m' [(acc, LstO ys)] h2 := ⟨⟨oL, es, ep, hkp _ _ hoC (.inl dC), rC⟩, fun b o e => of_hideAll _ e, hideAll_none _ (.head _), fun p hp => by
        rw [List.mem_singleton] at hp
        subst hp
        exact ⟨⟨oA, hkp _ _ hoA (.inl dD), pA⟩, hideAll_none _ (.tail _ (.head _)), ownA.2.2⟩, by simp⟩
      have kf2 : Kf g' (hideAll h2 [C, acc]) := fun b o e f => hideAll_get _ (hkp _ _ (F'.keep _ _ e) (.inr f)) fun hm => by
        rcases List.mem_cons.mp hm with rfl | hm
        · rw [F'.gL] at e; cases e
        · rw [List.mem_singleton] at hm; subst hm
          rw [ownA.2.1] at e; cases e
      have kb2 : Keep (hideAll s₁.heap [L, L0]) (hideAll h2 [C, acc]) := fun b o e => hideAll_get _ (hkp _ _ (F'.keep _ _ (kg _ _ e)) (.inl (bD _ _ e).1)) fun hm => by
        rcases List.mem_cons.mp hm with rfl | hm
        · exact (bD _ _ e).2.1 rfl
        · rw [List.mem_singleton] at hm; exact (bD _ _ e).2.2 hm
      exact hRR _ _ _ _ _ _ _ nD nC hDC F2 kb2 (hJ _ _ _ _ kf2 hJ')
  exact codeAny_compStart_list (loop _) (wpAny_pyIter_gen (N1 s₁.toks).gen (loop _))

/-- a comprehension over a generator that a call has just made -/
theorem compX {P : Heap → Prop} {elt target iter : Expr} {ifs : List Expr} {scope : Scope} {cl : List (Str × Addr)} {pos : Pos} {Q : Value → Shared → Prop} (J : Nat → Heap → List Value → Prop)
    (hclos : closureFor scope env = pure cl) (hcell : ∀ y ∈ scope.names, y.2 ≠ .cell) (hkind : scope.kind = .function) (hnames : ∀ y ∈ scope.names, y.2 = .local → scope.names.lookup y.1 = some .local) (hh : A.handled = none) (hroom : A.depth + 20 < recursionLimit)
    (h : wpAny (model prog w) A (eval iter env) (fun v s₁ => ∃ a L L0 ax g0 G₀ outs, v = .ref a ∧ GG w g0 ∧ P g0 ∧ GenNewX prog w P L0 ax G₀ L a outs s₁ ∧ Keep g0 s₁.heap ∧ g0.get? L = none ∧ (At s₁.heap L0 (IterO ax 0) ∧ L ≠ L0 ∧ a ≠ L0 ∧ g0.get? L0 = none) ∧ outs.length ≤ sizeLine ∧ J 0 (hideAll s₁.heap [L, L0]) [] ∧ (∀ i B B' ys, Kf B B' → J i B ys → J i B' ys) ∧
      (∀ i v, outs[i]? = some v → CompTurnX prog w A s₁ env scope cl target elt ifs a L L0 J i v) ∧
      ∀ D h' tk ys g', s₁.heap.get? D = none → Keep (hideAll s₁.heap [L, L0]) g' → Keep g' h' → At h' D (LstO ys) → J outs.length g' ys → Q (.ref D) { s₁ with heap := h', toks := tk, gens := G₀.push .finished }) E s)
    (hs : ∀ x, foldedSetIterable iter env x = pure x := by intro _; rfl) :
    wpAny (model prog w) A (eval (.ListComp elt [⟨target, iter, ifs, 0⟩] scope pos) env) Q E s := by
  rw [eval_ListComp]
  refine wpAny_comprehension_free (use := none) rfl hs hclos hkind hnames (wpAny_mono h (fun v s₁ h₁ => ?_) fun _ _ e => e)
  obtain ⟨a, L, L0, ax, g0, G₀, outs, rfl, G, hP, N, k0, nL, ⟨hL0, hLL, haL0, nL0⟩, hsz, init, hJ, turn, hQ⟩ := h₁
  refine compBlockX (RR := fun acc C => compPost (model prog w) A E none Q acc C) J hh hroom hL0 hLL haL0 nL0 hcell hkind G hP N k0 nL hsz init hJ turn ?_
  intro D C h' tk m' ys g' nD nC hDC F' kg hJ'
  refine ⟨m', F'.ns, fun h'' hs'' => ?_⟩
  have k'' : Keep g' h'' := fun b o e => hs''.extBut b o (fun q => by subst q; rw [F'.gL] at e; cases e) (F'.keep b o e)
  exact hQ D h'' tk ys g' nD kg k'' ((F'.at_ (.head _)).same hs'' hDC) hJ'
end
section
local macro_rules | `(tactic| walk_at "GG") => `(tactic| first | assumption | exact GG.keep (by assumption) (Fm.keep (by assumption)))
local macro_rules | `(tactic| walk_at "AT") => `(tactic| first | assumption | exact Fm.at_ (by assumption) (by k_mem) | exact At.keep (by assumption) (Fm.keep (by assumption)))
local macro_rules | `(tactic| walk_at "CHG") => `(tactic| repeat (first | exact Chg.head | apply Chg.tail))
local macro_rules | `(tactic| walk_at "LIST") => `(tactic| first | exact isList_keep (by assumption) (Fm.keep (by assumption)) | exact isList_of (Fm.at_ (by assumption) (by k_mem)) | exact isList_of (by walk_at "AT"))
local macro_rules | `(tactic| walk_at "NUM") => `(tactic| first | decide | omega | (simp only [List.length_cons, List.length_nil]; omega))
local macro_rules | `(tactic| walk_at "eval Name") => `(tactic| first
  | (refine lv (by assumption) (by first | rfl | assumption) ?_)
  | (k_dflt (refine' gv ?G ?e ?_; (case G => walk_at "GG"); (case e => k_is); k_whole))
  | (k_dflt (refine' bv ?G ?e ?v ?_; (case G => walk_at "GG"); (case e => k_is); (case v => boot_by_name); k_whole)))
local macro_rules | `(tactic| walk_at "loadName") => `(tactic| (refine lvN (by assumption) (by first | rfl | assumption) ?_))
local macro_rules | `(tactic| walk_at "eval Constant int") => `(tactic| (with_reducible refine ci ?_; intro t' tk'))
local macro_rules | `(tactic| walk_at "eval Constant str") => `(tactic| (with_reducible refine cs ?_; intro t' tk'))
local macro_rules | `(tactic| walk_at "storeName") => `(tactic| (refine svT (by assumption) ?_; intro h' tk' F'))
local macro_rules | `(tactic| walk_at "binaryOp Add int int") => `(tactic| (with_reducible refine addI ?_; intro t' tk'))
local macro_rules | `(tactic| walk_at "inplaceOp Add int int") => `(tactic| (with_reducible refine iaddI ?_; intro t' tk'))
local macro_rules | `(tactic| walk_at "binaryOp Mod int int") => `(tactic| (refine modI (by omega) ?_; intro r' t' tk' hr1 hr2))
local macro_rules | `(tactic| walk_at "binaryOp FloorDiv int int") => `(tactic| (refine fdivI (by omega) (by omega) (by omega) (by omega) ?_; intro r' t' tk' hr1 hr2))
local macro_rules | `(tactic| walk_at "PART") => `(tactic| first | exact IsPart.none | exact IsPart.int _ _)
local macro_rules | `(tactic| walk_at "PICK") => `(tactic| first | exact pick_upto (by omega) | exact pick_run (by omega))
local macro_rules | `(tactic| walk_at "subscriptTail") => `(tactic| (k_dflt (first
  | ((with_reducible show wpAny _ _ (subscriptTail _ _ (Value.ref _) (Value.ref _)) _ _ _); refine' sliceL ?F ?x ?pl ?pu ?z ?e ?_; (case F => assumption); (case x => k_mem); (case pl => walk_at "PART"); (case pu => walk_at "PART"); (case z => walk_at "SZ"); (case e => walk_at "PICK"); k_whole; intro b' h' kp' F')
  | (refine' subL ?x ?a ?b ?c ?_; (case x => walk_at "AT"); (case a => walk_at "NUM"); (case b => walk_at "NUM"); (case c => first | rfl | assumption); k_whole)
  | (refine' sub2 ?x ?a ?_ ?_; (case x => walk_at "AT"); (case a => omega))
  | (refine' subM ?x ?T ?a ?b ?c ?_; (case x => walk_at "AT"); (case T => assumption); (case a => walk_at "NUM"); (case b => walk_at "NUM"); (case c => omega); k_whole; intro b' hR'))))
local macro_rules | `(tactic| walk_at "subscriptTail Subscript") => `(tactic| (k_dflt (refine' subScr ?x ?i ?a ?b ?c ?_; (case x => walk_at "LIST"); (case i => assumption); (case a => omega); (case b => omega); (case c => omega); k_whole); intro j' t'))
local macro_rules | `(tactic| walk_at "setItem") => `(tactic| (k_dflt (refine' setF ?F ?x ?a ?b ?c ?_; (case F => assumption); (case x => walk_at "CHG"); (case a => walk_at "NUM"); (case b => walk_at "NUM"); (case c => walk_at "NUM"); k_whole); intro h' F'; (try simp only [List.set_cons_zero, List.set_cons_succ, Int.reduceToNat] at F')))
local macro_rules | `(tactic| walk_at "call builtin:len") => `(tactic| (k_dflt (refine' lenI ?x ?a ?_; (case x => walk_at "LIST"); (case a => omega); k_whole); intro t' tk'))
local macro_rules | `(tactic| walk_at "SZ") => `(tactic| first | (rw [sizeLine_eq]; (try simp only [List.length_append, List.length_cons, List.length_nil, List.length_take]); omega) | size_fits)
local macro_rules | `(tactic| walk_at "callWith ref") => `(tactic| (k_dflt (refine' callG ?k1 ?k2 ?_; (case k1 => k_is); (case k2 => exact rfl))))
local macro_rules | `(tactic| walk_at "newList") => `(tactic| (refine newL (by assumption) (by walk_at "SZ") ?_; intro a' h' kp' F'))
local macro_rules | `(tactic| walk_at "newTuple") => `(tactic| (refine newT (by assumption) (by walk_at "SZ") ?_; intro a' h' kp' hat' F'))
local macro_rules | `(tactic| walk_at "eval Slice") => `(tactic| refine sliceF ?_)
local macro_rules | `(tactic| walk_at "Exists") => `(tactic| (refine ⟨_, _, _, _, by assumption, ?_⟩; intro a' h' kp' F'))
local macro_rules | `(tactic| walk_at "getMethod ref") => `(tactic| (k_dflt (first | refine methApp (by walk_at "AT") ?_ | refine methClr (by walk_at "AT") ?_)))
local macro_rules | `(tactic| walk_at "call builtin:list.append") => `(tactic| (k_dflt (refine' appL ?F ?c ?z ?_; (case F => assumption); (case c => walk_at "CHG"); (case z => walk_at "SZ"); k_whole); intro h' F'))
local macro_rules | `(tactic| walk_at "call builtin:list.clear") => `(tactic| (k_dflt (refine' clrL ?F ?c ?z ?_; (case F => assumption); (case c => walk_at "CHG"); (case z => walk_at "SZ"); k_whole); intro h' F'))
local macro_rules | `(tactic| walk_at "call type:range") => `(tactic| (refine range1 (by assumption) ?_; intro a' h' tk' kp' F'))
local macro_rules | `(tactic| walk_at "pyIter ref") => `(tactic| (k_dflt (refine' iterR ?F ?a ?b ?_; (case F => assumption); (case a => omega); (case b => omega); k_whole); intro it' h' kp' F'))
local macro_rules | `(tactic| walk_at "binaryOp Add ref ref") => `(tactic| (k_dflt (refine' addL ?F ?x ?y ?z ?_; (case F => assumption); (case x => walk_at "AT"); (case y => walk_at "AT"); (case z => walk_at "SZ"); k_whole); intro a' h' kp' F'))
local macro_rules | `(tactic| walk_at "exec For") => `(tactic| refine wpAny_For ?_)
local macro_rules | `(tactic| walk_at "DEPTH") => `(tactic| first | omega | ((try simp only [depth_deeper, depth_in1]); omega))
local macro_rules | `(tactic| walk_at "MUT") => `(tactic| repeat (first | exact Muts.nil | refine Muts.cons (by first | exact mutL | exact mutI | exact mutRI | exact mutR | exact mutS | exact mutCO) ?_))
local macro_rules | `(tactic| walk_at "CALL") => `(tactic| fail)
local macro_rules | `(tactic| walk_at "codeAny call") => `(tactic| walk_at "CALL")
local macro_rules | `(tactic| walk_at "FITS") => `(tactic| repeat (first | exact Fits.nil | exact Pull.head | apply Fits.cons | apply Pull.tail))
local macro_rules | `(tactic| walk_at "truthy ref") => `(tactic| (k_dflt (refine' truthyL ?x ?z ?_; (case x => walk_at "AT"); (case z => walk_at "SZ"); k_whole); intro tk'))
local macro_rules | `(tactic| walk_at "SETS") => `(tactic| first | exact setX (by walk_at "GG") | exact setI (by walk_at "GG") | exact setV (by walk_at "GG"))
local macro_rules | `(tactic| walk_at "compareOp In int ref") => `(tactic| (k_dflt (refine' inSet ?S ?_; (case S => walk_at "SETS"); k_whole); intro tk'))
local macro_rules | `(tactic| walk_at "compareOp NotIn int ref") => `(tactic| (k_dflt (refine' notInSet ?S ?_; (case S => walk_at "SETS"); k_whole); intro tk'))
local macro_rules | `(tactic| walk_at "compareOp In int ref") => `(tactic| (k_dflt (refine' inInts ?x ?I ?_; (case x => walk_at "AT"); (case I => assumption); k_whole)))
local macro_rules | `(tactic| walk_at "compareOp NotIn int ref") => `(tactic| (k_dflt (refine' notInInts ?x ?I ?_; (case x => walk_at "AT"); (case I => assumption); k_whole)))
local macro_rules | `(tactic| walk_at "assign Tuple") => `(tactic| (k_dflt (refine' asgT ?hh ?F ?x ?n ?st ?_; (case hh => assumption); (case F => assumption); (case x => walk_at "AT"); (case n => rfl); (case st => rfl); k_whole); intro h' kp' F'))
local macro_rules | `(tactic| walk_at "unpackItems ref") => `(tactic| (k_dflt (refine' unpI ?hh ?F ?x ?n ?_; (case hh => assumption); (case F => assumption); (case x => walk_at "AT"); (case n => rfl); k_whole); intro h' kp' F'))
local macro_rules | `(tactic| walk_at "pyIter ref") => `(tactic| (k_dflt (refine' iterL ?F ?x ?_; (case F => assumption); (case x => walk_at "AT"); k_whole); intro it' h' kp' F'))
/-- a code object's table -/
def TabO (ps : Array Value) (o : Obj) : Prop := o = { cls := .none, data := .fields ps }
theorem mutT {ps : Array Value} : Mut (TabO ps) := by rintro o rfl ⟨h | h, _⟩ <;> simp at h
/-- the module __builtins__ stands -/
def BM (h : Heap) : Prop := ∃ mg bm o, h.Ns mainGlobals mg ∧ mg "__builtins__" = some (.ref bm) ∧ bm ≠ builtinsNs ∧ h.get? bm = some o ∧ o.cls = .type "module" ∧ o.dict = some builtinsNs ∧ o.data = .plain
theorem BM.keep {h h' : Heap} (x : BM h) (k : Keep h h') : BM h' := let ⟨mg, bm, o, a, b, c, d, e⟩ := x; ⟨mg, bm, o, a.keeps k, b, c, k _ _ d, e⟩
theorem fsts_map (its : List (Value × Int × Str)) : its.map (·.1) = (its.map fun p => (p.1, decide (p.2.1 ∈ vC))).map (·.1) := by
  rw [List.map_map]; rfl
theorem flt_map (its : List (Value × Int × Str)) : (its.filter fun p => decide (p.2.1 ∈ vC)).map (·.1) = ((its.map fun p => (p.1, decide (p.2.1 ∈ vC))).filter (·.2)).map (·.1) := by
  rw [List.filter_map, List.map_map]; rfl
section
variable {prog : Program} {w : World} {A : Around} {R : GenEnd} {dm n : Nat} {s₀ s : Shared} {E : Value → Shared → Prop} {g : Heap} {L x : Addr} {m : Str → Option Value} {l : List (Addr × (Obj → Prop))}
theorem getCodeG {c : Int} {v : Str} {expr : Bool} {Q : Value → Shared → Prop} (F : Fm g L m l s.heap) (G : GG w s.heap) (T : TagAt s.heap x c v) (hroom : A.depth < recursionLimit) (h : ∀ t h' tk, Fm g L m l h' → Q (.int c t) { s with heap := h', toks := tk }) :
    wpAny (model prog w) A (getAttr (.ref x) "code" expr) Q E s := getCode G T hroom fun t h' tk k => h t h' tk (F.keeps k)
local macro_rules | `(tactic| walk_at "getAttr ref") => `(tactic| ((with_reducible show wpAny _ _ (getAttr (Value.ref _) (PySem.Str.ofString "code") _) _ _ _); k_dflt (refine' getCodeG ?F ?G ?T ?r ?_; (case F => assumption); (case G => walk_at "GG"); (case T => exact TagAt.keep (by assumption) (Fm.keep (by assumption))); (case r => walk_at "DEPTH"); k_whole); intro t' h' tk' F'))
theorem xd_gen {R : Result → Shared → Prop} {B : Heap} {ax : Addr} {its : List (Value × Int × Str)} (G : GG w B) (hB : BM B) (kB : Keep B s.heap) (nP : B.get? 128 = none) (hx : At B ax (LstO (its.map (·.1)))) (hit : ∀ p ∈ its, ∃ a, p.1 = .ref a ∧ TagAt B a p.2.1 p.2.2)
    (hok : s.heap.IsCode 132 128 #[]) (htab : s.heap.TableAt 132 128 #[]) (hroom : A.depth + 20 < recursionLimit) (hh : A.handled = none)
    (h : ∀ L it a h₁ tk m₀ cod ps, s.heap.get? L = none → s.heap.get? it = none → s.heap.get? a = none → L ≠ a → L ≠ it → a ≠ it → h₁.Ns L m₀ → At h₁ it (IterO ax 0) → Heap.ExtBut 128 s.heap h₁ → At h₁ 128 (TabO ps) → h₁.IsGen a s.gens.size →
      FreshSegX prog w (fun g0 => At g0 ax (LstO (its.map (·.1))) ∧ ∀ p ∈ its, ∃ a, p.1 = .ref a ∧ TagAt g0 a p.2.1 p.2.2) it ax L m₀ cod ((its.filter fun p => decide (p.2.1 ∈ vC)).map (·.1)) →
      R (.ok (.ret (.ref a))) { s with heap := h₁, toks := tk, gens := s.gens.push (.fresh cod) }) :
    codeAny (model prog w) A (.call (.ref 133) ⟨[.ref ax], []⟩) R s := by
  refine enter (binds := [(Str.ofString "tags", .ref ax)]) (G.keep kB) (by k_is) (by k_is) (by omega) rfl (locs rfl) ?_
  intro L h₁ tk1 hLe hn hk hL
  have F := Fm.start (l := [(128, TabO #[])]) hn hk hL (by simpa using ⟨_, htab.2, rfl⟩) (by simp)
  have kb : Keep B (hideAll s.heap [128]) := fun b o e => hideAll_get _ (kB b o e) (by simpa using fun q => by subst q; rw [nP] at e; cases e)
  have Gb := G.keep kb
  have hxb := hx.keep kb
  show wpAny _ _ _ _ _ _
  k_fold
  walk1
  walk1
  have hdp : (A.deeper (envOf (Str.ofString "filter_invalid_xdata_group_codes") { kind := .function, names := [(Str.ofString "tags", .local)], isGenerator := false, isCoroutine := false } L 133 (.ref 132))).depth < recursionLimit := by walk_at "DEPTH"
  refine wpAny_GeneratorExp_make (cl := []) rfl (closureFor_none (by decide)) (by decide) rfl rfl hdp ?_ (by intro _; rfl)
  k_fold
  walk1
  refine iterL F (hxb.keep F.keep) fun it h2 kp F2 => ⟨(Gb.keep F2.keep).nl, ?_⟩
  refine wpAny_genexprCodeX rfl (hok.keeps (hk.trans kp)) (htab.keeps (hk.trans kp)) rfl fun c' h3 tk3 hx3 hc' hlt hok3 hrec htab3 _ => ?_
  have nd := F2.nd
  have hne : it ≠ 128 := by simpa using nd
  have hitn := (F2.own _ (.head _)).2.1
  have k02 := hk.trans kp
  have kB3 : Keep B h3 := fun b o e => hx3 b o (fun q => by subst q; rw [nP] at e; cases e) (k02 _ _ (kB _ _ e))
  have hit3 : At h3 it (IterO ax 0) := (F2.at_ (.head _)).ext hx3 hne
  have alive3 : ∀ b o, s.heap.get? b = some o → ∃ o, h3.get? b = some o := fun b o e => by
    by_cases hb : b = 128
    · subst hb; exact ⟨_, htab3.2⟩
    · exact ⟨o, hx3 b o hb (k02 _ _ e)⟩
  clear hn hL nd hxb Gb kb F F2
  obtain ⟨mg, bm, o, b1, b2, b3, b4, b5, b6, b7⟩ := hB.keep kB3
  refine wpAny_builtinsFor b1 b2 b3 b4 b5 b6 b7 ?_
  intro h4 hn4 hs4
  dsimp only at hn4 hs4 ⊢
  have k34 : Keep h3 h4 := fun b o e => hs4.extBut b o (Nat.ne_of_lt (Heap.lt_size e)) (Heap.get?_push_of_some _ e)
  have hCa : h3.objs.size < h4.objs.size := hn4.lt
  generalize hC : h3.objs.size = C at hn4 hCa ⊢
  have lt3 : ∀ b o, h3.get? b = some o → b < C := fun b o e => hC ▸ Heap.lt_size e
  refine h C it h4.objs.size (h4.push _) _ _ _ _ ?_ ?_ ?_ (Nat.ne_of_lt hCa) ?_ ?_ (hn4.keeps (Keep.push _ _)) ((hit3.keep k34).keep (Keep.push _ _)) (fun b o hb e => Keep.push _ _ _ _ (k34 _ _ (hx3 b o hb (k02 _ _ e)))) ⟨_, Keep.push _ _ _ _ (k34 _ _ htab3.2), rfl⟩ ⟨_, _, _, Heap.get?_push_size _ rfl, rfl, rfl, rfl⟩ ?_
  · cases e : s.heap.get? C with
    | none => rfl
    | some o => obtain ⟨o', e'⟩ := alive3 _ _ e; exact absurd (lt3 _ _ e') (Nat.lt_irrefl _)
  · cases e : s.heap.get? it with
    | none => rfl
    | some o => rw [hideAll_get _ e (by simpa using hne)] at hitn; cases hitn
  · cases e : s.heap.get? h4.objs.size with
    | none => rfl
    | some o => obtain ⟨o', e'⟩ := alive3 _ _ e; exact absurd (Heap.lt_size (k34 _ _ e')) (Nat.lt_irrefl _)
  · obtain ⟨o, e, _⟩ := hit3
    exact Ne.symm (Nat.ne_of_lt (lt3 _ _ e))
  · obtain ⟨o, e, _⟩ := hit3
    exact Ne.symm (Nat.ne_of_lt (Nat.lt_trans (lt3 _ _ e) hCa))
  · rintro A0 g0 D s2 hh0 hr0 G0 ⟨hx0, hit0⟩ gi
    refine segGX0 hh0 (ax := ax) ?it (segGX (g0 := g0) (cenv := genEnv _ _ C _ _ _) (x := Str.ofString "tag") (outs := (its.filter fun p => decide (p.2.1 ∈ vC)).map (·.1)) (its := its.map fun p => (p.1, decide (p.2.1 ∈ vC))) hh0 (fsts_map its ▸ hx0) (flt_map its) rfl rfl rfl (by decide) rfl ?test _ 0 _ s2 s2 _ rfl (Nat.zero_le _) gi.start ⟨[], flt_map its, by rw [List.drop_zero, ← flt_map]⟩)
    case it =>
      obtain ⟨g, _, F, _⟩ := gi
      exact isIter_of (F.at_ (.head _))
    case test =>
      rintro A' i p g m l s hA hdA hp kg F hm
      obtain ⟨⟨v, c, tx⟩, hq, rfl⟩ : ∃ q, its[i]? = some q ∧ (q.1, decide (q.2.1 ∈ vC)) = p := by simpa using hp
      obtain ⟨a', e, T⟩ := hit0 _ (List.mem_of_getElem? hq)
      obtain rfl : v = .ref a' := e
      have T := T.keep kg
      have Gg := G0.keep kg
      have hm : m (Str.ofString "tag") = some (.ref a') := hm
      clear hp hq gi hit0 hx0 h hit hx
      dsimp only at T ⊢
      refine wpAny_tests_one ?_
      k_fold
      repeat' (first | ((fail_if_success (with_reducible show wpAny _ _ (eval (PySem.Expr.ListComp _ _ _ _) _) _ _ _)); (fail_if_success (with_reducible show wpAny _ _ (exec (PySem.Stmt.While _ _ _ _) _) _ _ _)); (fail_if_success (with_reducible show Exists _)); walk1) | (dsimp only; (fail_if_success (with_reducible show wpAny _ _ (eval (PySem.Expr.ListComp _ _ _ _) _) _ _ _)); (fail_if_success (with_reducible show wpAny _ _ (exec (PySem.Stmt.While _ _ _ _) _) _ _ _)); (fail_if_success (with_reducible show Exists _)); walk1))
      all_goals (try dsimp only)
      all_goals (try k_unfold)
      all_goals (try dsimp only)
      exact ⟨_, _, rfl, by assumption⟩
end
end
section
variable {prog : Program} {w : World} {A : Around} {E : Value → Shared → Prop} {s : Shared}
/-- two rows (tuples of an int and a text), item by item -/
theorem eqRow {a b : Addr} {c1 c2 : Int} {x1 x2 : Str} {t1 u1 t2 u2 : Tok} (x : At s.heap a (TupO [.int c1 t1, .str x1 u1])) (y : At s.heap b (TupO [.int c2 t2, .str x2 u2])) (hu : A.units < cLine) :
    SeqAt.EqAt A s (.ref a) (.ref b) (decide ((c1, x1) = (c2, x2))) := by
  by_cases hab : a = b
  · subst hab
    obtain ⟨o, e, n, rfl⟩ := x
    obtain ⟨o', e', n', q⟩ := y
    rw [e] at e'; cases e'
    have q := congrArg Obj.data q
    simp only [Data.seq.injEq] at q
    have q := congrArg Array.toList q.1
    simp only [List.cons.injEq, Value.int.injEq, Value.str.injEq] at q
    rw [show decide ((c1, x1) = (c2, x2)) = true from by simp [q.1.1, q.2.1.1]]
    exact .same _
  · refine .of_refs hab ?_
    have := SeqAt.RcAt.tuples (A := A) (e := fun k => if k = 0 then c1 == c2 else x1 == x2) (isTup_of x) (isTup_of y) hu fun j h1 h2 => by
      match j, h1 with
      | 0, _ => exact .int_int _ _ _ _
      | 1, _ => exact .str_str _ _ _ _
    have e : ((List.range (min (([.int c1 t1, .str x1 u1] : List Value).toArray).size (([.int c2 t2, .str x2 u2] : List Value).toArray).size)).all (fun k => if k = 0 then c1 == c2 else x1 == x2) && (([.int c1 t1, .str x1 u1] : List Value).toArray).size == (([.int c2 t2, .str x2 u2] : List Value).toArray).size) = decide ((c1, x1) = (c2, x2)) := by
      show ((List.range 2).all _ && true) = _
      rw [Bool.and_true, show List.range 2 = [0, 1] from rfl]
      simp [Bool.decide_and]
      rfl
    rw [e] at this
    exact this
theorem all_eq {α : Type} [DecidableEq α] {r1 r2 : List α} (h : r1.length = r2.length) : (List.range r1.length).all (fun j => decide (r1[j]? = r2[j]?)) = decide (r1 = r2) := by
  rw [Bool.eq_iff_iff, List.all_eq_true, decide_eq_true_iff]
  constructor
  · intro q
    apply List.ext_getElem? fun j => ?_
    by_cases hj : j < r1.length
    · simpa using q j (List.mem_range.mpr hj)
    · rw [List.getElem?_eq_none (by omega), List.getElem?_eq_none (by omega)]
  · rintro rfl j _
    simp
theorem eqItem {us vs : List Value} {r1 r2 : List (Int × Str)} (T1 : Tups s.heap us r1) (T2 : Tups s.heap vs r2) (hu : A.units < cLine) (j : Nat) (h1 : j < us.toArray.size) (h2 : j < vs.toArray.size) :
    SeqAt.EqAt A s us.toArray[j] vs.toArray[j] (decide (r1[j]? = r2[j]?)) := by
  obtain ⟨a, c1, x1, t1, u1, e1, q1, p1⟩ := T1.get j (by simpa using h1)
  obtain ⟨b, c2, x2, t2, u2, e2, q2, p2⟩ := T2.get j (by simpa using h2)
  have g1 : us.toArray[j] = .ref a := by
    have := (List.getElem?_eq_some_iff.mp e1).2
    simpa using this
  have g2 : vs.toArray[j] = .ref b := by
    have := (List.getElem?_eq_some_iff.mp e2).2
    simpa using this
  rw [g1, g2, q1, q2]
  have := eqRow (A := A) p1 p2 hu
  rw [show decide (some (c1, x1) = some (c2, x2)) = decide ((c1, x1) = (c2, x2)) from by simp]
  exact this
theorem eqTups {a b : Addr} {us vs : List Value} {r1 r2 : List (Int × Str)} {Q : Value → Shared → Prop} (x : At s.heap a (LstO us)) (y : At s.heap b (LstO vs)) (T1 : Tups s.heap us r1) (T2 : Tups s.heap vs r2) (hu : A.units + 1 < cLine) (h : Q (.bool (decide (r1 = r2))) s) :
    wpAny (model prog w) A (compareOp .Eq (.ref a) (.ref b)) Q E s := by
  have l1 := T1.length
  have l2 := T2.length
  by_cases hl : us.length = vs.length
  · refine SeqAt.eq_listAt (isList_of x) (isList_of y) (by simpa using hl) (by omega) (fun j h1 h2 => eqItem (A := A.in1) T1 T2 (by simpa using hu) j h1 h2) ?_
    rw [show us.toArray.size = r1.length from by simpa using l1, all_eq (by omega)]
    exact h
  · refine SeqAt.eq_list_lengthsAt (isList_of x) (isList_of y) (by simpa using hl) (by omega) ?_
    rw [show decide (r1 = r2) = false from by simp; rintro rfl; omega] at h
    exact h
theorem neTups {a b : Addr} {us vs : List Value} {r1 r2 : List (Int × Str)} {Q : Value → Shared → Prop} (x : At s.heap a (LstO us)) (y : At s.heap b (LstO vs)) (T1 : Tups s.heap us r1) (T2 : Tups s.heap vs r2) (hu : A.units + 1 < cLine) (h : Q (.bool (!decide (r1 = r2))) s) :
    wpAny (model prog w) A (compareOp .NotEq (.ref a) (.ref b)) Q E s := by
  have l1 := T1.length
  have l2 := T2.length
  by_cases hl : us.length = vs.length
  · refine SeqAt.RcNeAt.lists (isList_of x) (isList_of y) (by simpa using hl) (by omega) (fun j h1 h2 => eqItem (A := A.in1) T1 T2 (by simpa using hu) j h1 h2) prog w E Q ?_
    rw [show us.toArray.size = r1.length from by simpa using l1, all_eq (by omega)]
    exact h
  · refine SeqAt.RcNeAt.lists_lengths (isList_of x) (isList_of y) (by simpa using hl) (by omega) prog w E Q ?_
    rw [show decide (r1 = r2) = false from by simp; rintro rfl; omega] at h
    exact h
theorem neSame {a b : Addr} {us : List Value} {Q : Value → Shared → Prop} (x : At s.heap a (LstO us)) (y : At s.heap b (LstO us)) (hu : A.units < cLine) (h : Q (.bool false) s) :
    wpAny (model prog w) A (compareOp .NotEq (.ref a) (.ref b)) Q E s := by
  refine SeqAt.RcNeAt.lists (e := fun _ => true) (isList_of x) (isList_of y) rfl hu (fun j h1 h2 => .same _) prog w E Q ?_
  rw [show (List.range us.toArray.size).all (fun _ => true) = true from List.all_eq_true.mpr fun _ _ => rfl]
  exact h
end
/-- a cell -/
def CelO (v : Option Value) (o : Obj) : Prop := o = { cls := .type "cell", data := .cell v }
theorem mutC {v : Option Value} : Mut (CelO v) := by rintro o rfl ⟨h | h, _⟩ <;> simp at h
section
variable {prog : Program} {w : World} {A : Around} {E : Value → Shared → Prop} {s : Shared} {R : Result → Shared → Prop}
theorem codeC_func {body : List Stmt} {env : Env}
    (h : wpC (model prog w) (A.deeper env) (execs body env) (fun f s' => R (.ok (.ret (match f with | .ret v => v | _ => .none))) s') (fun _ _ => False) s) : codeC (model prog w) A (.func body env) R s := by
  refine codeC_of_tree ?_
  show wpC _ (A.deeper env) (do point; match ← (execs body env).onRaise (leaving env) with | .ret v => ret v | _ => ret .none) _ _ s
  refine wpC_lead (wpAny_point (wpC_bind (wpC_onRaise (wpC_mono h (fun f s' h' => ?_) fun _ _ h' => h'.elim))))
  cases f <;> exact wpC_pure h'
theorem codeC_call_function {a : Addr} {args : Args} {o : Obj} {fd : FuncData} {body : List Stmt} (hroom : A.depth < recursionLimit) (ho : s.heap.get? a = some o)
    (hd' : o.data = .func fd) (hco : fd.scope.isCoroutine = false) (hgen : fd.scope.isGenerator = false) (hbody : fd.body = .stmts body) (hcd : s.heap.CodeRec fd.code fd.qualname)
    (h : wpAny (model prog w) A.in1 (bindArgs fd args) (fun binds s₁ =>
      wpAny (model prog w) A.in1 (newFunctionEnv fd.scope fd.globals fd.closure binds (fd.qualname ++ ".<locals>.") (some a) fd.code none fd.builtins)
        (fun env s₂ => s₂.heap.NoLimit ∧ codeC (model prog w) A (.func body env) R s₂) (fun e s' => R (.error e) s') s₁) (fun e s' => R (.error e) s') s) :
    codeC (model prog w) A (.call (.ref a) args) R s := by
  refine codeC_of_tree ?_
  show wpC _ A.in1 (callAny (.ref a) args) _ _ s
  simp only [callAny]
  refine wpC_lead (wpAny_load ho ?_)
  obtain ⟨c, oc, vs, tq, hc, hoc, hdc, hq⟩ := hcd
  simp only [hd', callFunction, hco, hgen, hbody, hc]
  rw [hc] at h
  refine wpC_lead (m := field (.ref c) 1) (wpAny_field hoc hdc hq (wpC_lead (wpAny_pure ?_)))
  exact wpC_lead (wpAny_mono h (fun binds s₁ h₁ => wpC_lead (wpAny_mono h₁ (fun env s₂ h₂ => wpC_lead (wpAny_enterFrame h₂.1 hroom
    (wpC_pure (And.intro rfl h₂.2)))) fun _ _ h' => h')) fun _ _ h' => h')
theorem newEnv1 {M : Model} {scope : Scope} {globals : Addr} {x y : Str} {v : Value} {qual : Str} {func : Option Addr} {code : Value} {builtins : Addr} {Q : Env → Shared → Prop} (hk : scope.kind = .function) (hx : scope.names.lookup x = some .local)
    (hcs : ∀ n, cellsFrom n scope.names [] = [(y, n)]) (hpc : ∀ h, pushCells h scope.names = h.push { cls := .type "cell", data := .cell none })
    (hQ : ∀ h₁ tk, h₁.Ns s.heap.objs.size (fun z => if z = x then some v else none) → At h₁ (s.heap.objs.size + 1) (CelO none) → Keep s.heap h₁ →
      Q (newEnv scope s.heap.objs.size globals [(y, s.heap.objs.size + 1)] qual func code none builtins) { s with heap := h₁, toks := tk }) :
    wpAny M A (newFunctionEnv scope globals [] [(x, v)] qual func code none builtins) Q E s := by
  simp only [newFunctionEnv, Option.isSome_none, Bool.false_eq_true, if_false]
  refine wpAny_bind (wpAny_alloc ?_)
  refine wpAny_bind (wpAny_layCells _ (fun name kind cells => by cases hkc : kind == NameKind.cell <;> simp [hkc]) _ _ _ _ ?_)
  rw [show ({ s with heap := s.heap.push { cls := .type "frame", data := .dict #[] } } : Shared).heap.objs.size = s.heap.objs.size + 1 from Heap.size_push .., hcs]
  dsimp only
  rw [hpc]
  refine wpAny_bind ?_
  rw [List.forIn_cons]
  have hz : (s.heap.push { cls := .type "frame", data := .dict #[] }).objs.size = s.heap.objs.size + 1 := Heap.size_push ..
  have kp : Keep s.heap ((s.heap.push { cls := .type "frame", data := .dict #[] }).push { cls := .type "cell", data := .cell none }) := (Keep.push _ _).trans (Keep.push _ _)
  refine wpAny_bind (wpAny_bind (wpAny_storeName_local (env := newEnv scope s.heap.objs.size globals [(y, s.heap.objs.size + 1)] qual func code none builtins) hx ((Heap.Ns.new s.heap (.type "frame")).keeps (Keep.push _ _)) (fun h' hn' hs' => wpAny_pure ?_) (by show (scope.kind == .class || (scope.kind == .module && _)) = false; rw [hk]; rfl)))
  dsimp only
  rw [List.forIn_nil]
  refine wpAny_pure (wpAny_pure (hQ h' _ hn' ?_ fun b o e => hs'.extBut b o (Nat.ne_of_lt (Heap.lt_size e)) (kp _ _ e)))
  refine ⟨_, hs'.extBut _ _ (Nat.ne_of_gt (Nat.lt_succ_self _)) ?_, rfl⟩
  rw [← hz]
  exact Heap.get?_push_size _ rfl
theorem enterC {name qual : Str} {params : Arguments} {body : List Stmt} {scope : Scope} {dV kV doc pm cdv ct oc v : Value} {an od : Option Addr} {osl : Array (Option Value)} {f : Addr} {x y : Str}
    (G : GG w s.heap) (ho : (hd.heap_39 w.params).lookup f = some ⟨oc, od, .func (fnOf name qual params body scope dV kV doc pm an cdv ct), osl⟩) (hcd : codeIn (hd.heap_39 w.params) cdv qual = true) (hroom : A.depth < recursionLimit)
    (hbind : bindArgs (fnOf name qual params body scope dV kV doc pm an cdv ct) ⟨[v], []⟩ = pure [(x, v)]) (hx : scope.names.lookup x = some .local)
    (hcs : ∀ n, cellsFrom n scope.names [] = [(y, n)]) (hpc : ∀ h, pushCells h scope.names = h.push { cls := .type "cell", data := .cell none })
    (h : ∀ L h₁ tk, h₁.Ns L (fun z => if z = x then some v else none) → At h₁ (L + 1) (CelO none) → Keep s.heap h₁ → s.heap.get? L = none → s.heap.get? (L + 1) = none →
      wpC (model prog w) (A.deeper { envOf qual scope L f cdv with cells := [(y, L + 1)] }) (execs body { envOf qual scope L f cdv with cells := [(y, L + 1)] }) (fun fl s' => R (.ok (.ret (match fl with | .ret v => v | _ => .none))) s') (fun _ _ => False) { s with heap := h₁, toks := tk })
    (hco : scope.isCoroutine = false := by rfl) (hgen : scope.isGenerator = false := by rfl) (hk : scope.kind = .function := by rfl) :
    codeC (model prog w) A (.call (.ref f) ⟨[v], []⟩) R s := by
  refine codeC_call_function (fd := fnOf name qual params body scope dV kV doc pm an cdv ct) (body := body) hroom (G.inK _ _ ho) rfl hco hgen rfl (codeRec_of G.inK hcd) ?_
  rw [hbind]
  have fresh : ∀ a, s.heap.objs.size ≤ a → s.heap.get? a = none := fun a ha => by
    cases e : s.heap.get? a with
    | none => rfl
    | some o' => exact absurd (Heap.lt_size e) (Nat.not_lt.mpr ha)
  refine wpAny_pure (newEnv1 (x := x) (y := y) hk hx hcs hpc fun h₁ tk hns hc kp => ⟨(G.keep kp).nl, codeC_func ?_⟩)
  exact h _ h₁ tk hns hc kp (fresh _ (Nat.le_refl _)) (fresh _ (Nat.le_succ _))
end
/-- the law's frame stands outside the base, and a code table and a cell -/
theorem Fm.absorb {B h : Heap} {L k : Addr} {m : Str → Option Value} {ps : Array Value} {cv : Option Value} (F : Fm B L m [(128, TabO ps), (k, CelO cv)] h) :
    ∃ B', Keep B B' ∧ Fm B' L m [(128, TabO ps), (k, CelO cv)] h ∧ Keep B' h ∧ Kf h B' ∧ (∀ a us, At h a (LstO us) → At B' a (LstO us)) ∧ (∀ b o, h.get? b = some o → b ≠ L → b ≠ 128 → b ≠ k → B'.get? b = some o) := by
  obtain ⟨B', k1, F', q, k2⟩ := F.rebase
  obtain ⟨B2, k3, F2, kf⟩ := F'.anew (Muts.cons mutT (Muts.cons mutC Muts.nil))
  refine ⟨B2, k1.trans k3, F2, F2.keep, kf, fun a us x => ?_, fun b o e n1 n2 n3 => k3 _ _ (q b o e n1 (by simp [n2, n3]))⟩
  obtain ⟨o, e, n, rfl⟩ := x
  refine ⟨_, k3 _ _ (q a _ e (fun z => ?_) fun z => ?_), n, rfl⟩
  · subst z
    obtain ⟨oL, _, _, hL, hd, _⟩ := F.ns
    rw [e] at hL; cases hL; cases hd
  · simp only [List.map_cons, List.map_nil, List.mem_cons, List.not_mem_nil, or_false] at z
    rcases z with rfl | rfl
    · obtain ⟨o, e', q'⟩ := F.at_ (.head _)
      rw [e] at e'; cases e'; have q' := congrArg Obj.data q'; cases q'
    · obtain ⟨o, e', q'⟩ := F.at_ (.tail _ (.head _))
      rw [e] at e'; cases e'; have q' := congrArg Obj.data q'; cases q'
theorem PS.run_map {α β : Type} (f : α → β) : ∀ (its : List (α × Int)) (p : PS α), (p.run its).map f = PS.run ⟨p.e, p.z, p.pt.map f⟩ (its.map fun q => (f q.1, q.2))
  | [], p => by
    show (if 1 < p.pt.length then p.pt else []).map f = if 1 < (p.pt.map f).length then p.pt.map f else []
    rw [List.length_map]; split <;> rfl
  | (v, c) :: its, p => by
    have e1 : (p.outs c).map f = PS.outs ⟨p.e, p.z, p.pt.map f⟩ c := by
      unfold PS.outs PS.out
      simp only [List.length_map]
      split
      · split <;> rfl
      · rfl
    have e2 : PS.flush ⟨p.e, p.z, p.pt.map f⟩ c = ⟨(p.flush c).e, (p.flush c).z, (p.flush c).pt.map f⟩ := by
      unfold PS.flush
      simp only [List.length_map]
      split <;> rfl
    have e3 : ((p.flush c).own v c).map f = PS.own ⟨(p.flush c).e, (p.flush c).z, (p.flush c).pt.map f⟩ (f v) c := by
      unfold PS.own
      dsimp only
      split
      · rfl
      · split
        · rfl
        · split <;> rfl
    have e4 : PS.next ⟨(p.flush c).e, (p.flush c).z, (p.flush c).pt.map f⟩ (f v) c = ⟨((p.flush c).next v c).e, ((p.flush c).next v c).z, ((p.flush c).next v c).pt.map f⟩ := by
      unfold PS.next
      dsimp only
      split
      · simp
      · split
        · simp
        · rfl
    show (p.outs c ++ ((p.flush c).own v c ++ ((p.flush c).next v c).run its)).map f = PS.outs ⟨p.e, p.z, p.pt.map f⟩ c ++ ((PS.flush ⟨p.e, p.z, p.pt.map f⟩ c).own (f v) c ++ ((PS.flush ⟨p.e, p.z, p.pt.map f⟩ c).next (f v) c).run (its.map fun q => (f q.1, q.2)))
    rw [List.map_append, List.map_append, e1, e2, e3, e4, PS.run_map f its]
abbrev Item := Value × Int × Str
/-- the items that are left when broken points are taken away -/
def pitems (its : List Item) : List Item := PS.run ⟨-1, 0, []⟩ (its.map fun p => (p, p.2.1))
theorem pitems_vals (its : List Item) : (pitems its).map (·.1) = PS.run ⟨-1, 0, []⟩ (its.map fun p => (p.1, p.2.1)) := by
  unfold pitems
  rw [PS.run_map]
  simp [List.map_map, Function.comp_def]
theorem pitems_rows (its : List Item) (h : ∀ p ∈ its, 0 ≤ p.2.1) : (pitems its).map (·.2) = LS.run ⟨[], [], none, 0⟩ (its.map (·.2)) := by
  have := run_eq (fun p : Item => p.2) (its.map fun p => (p, p.2.1)) (-1) 0 [] [] none 0 (fun p hp => by
    obtain ⟨q, hq, rfl⟩ := List.mem_map.mp hp
    exact ⟨h q hq, rfl⟩) ⟨fun _ => rfl, fun _ q => by cases q⟩
  simpa [pitems, List.map_map, Function.comp_def] using this
theorem pitems_sub (its : List Item) : (pitems its).Sublist its := by
  have := run_sub (its.map fun p => (p, p.2.1)) (⟨-1, 0, []⟩ : PS Item)
  simpa [pitems, List.map_map, Function.comp_def] using this
theorem pitems_again (its : List Item) (h : ∀ p ∈ its, 0 ≤ p.2.1 ∧ p.2.1 ≠ 18) (hw : whole its.length (its.map (·.2)) = LS.run ⟨[], [], none, 0⟩ (its.map (·.2))) : pitems (pitems its) = pitems its := by
  have h0 : ∀ p ∈ its, 0 ≤ p.2.1 := fun p hp => (h p hp).1
  have hr := pitems_rows its h0
  have e := run_whole its.length (its.map (·.2)) [] [] none 0 (fun r hr => by
    obtain ⟨p, hp, rfl⟩ := List.mem_map.mp hr
    exact (h p hp).2) (.inl rfl) (fun d q => by cases q)
  rw [hw] at e
  refine run_again (fun p : Item => p.2) (pitems its) (fun x hx => h0 x ((pitems_sub its).mem hx)) ?_
  rw [hr]
  simpa using e
/-- the items that filter_invalid_handles keeps -/
def hitems : Int → List Item → List Item
  | _, [] => []
  | own, (v, c, x) :: r => if c = 0 then (v, c, x) :: hitems (if x = Str.ofString "DIMSTYLE" then 105 else 5) r else if c = own ∧ isNum x = false then hitems own r else (v, c, x) :: hitems own r
theorem hitems_vals : ∀ (its : List Item) (own : Int), (hitems own its).map (·.1) = hg own its
  | [], _ => rfl
  | (v, c, x) :: r, own => by
    unfold hitems hg
    split
    · rw [List.map_cons, hitems_vals r]
    · split
      · exact hitems_vals r own
      · rw [List.map_cons, hitems_vals r]
theorem hitems_rows : ∀ (its : List Item) (own : Int), (hitems own its).map (·.2) = hnd own (its.map (·.2))
  | [], _ => rfl
  | (v, c, x) :: r, own => by
    show _ = hnd own ((c, x) :: r.map (·.2))
    unfold hitems hnd hOwn
    split
    · rename_i h
      subst h
      rw [List.map_cons, hitems_rows r]
      split
      · rw [if_pos (.inl (by decide))]; rfl
      · rw [if_pos (.inl (by decide))]; rfl
    · split
      · rename_i h1 h2
        rw [if_neg (by rintro (q | q); exact q h2.1; rw [h2.2] at q; cases q)]
        exact hitems_rows r own
      · rename_i h1 h2
        rw [if_pos (by
          by_cases q : c = own
          · exact .inr (by simpa using fun z => h2 ⟨q, z⟩)
          · exact .inl q), List.map_cons, hitems_rows r]
        rfl
theorem hitems_sub : ∀ (its : List Item) (own : Int), (hitems own its).Sublist its
  | [], _ => List.Sublist.refl _
  | (v, c, x) :: r, own => by
    unfold hitems
    split
    · exact (hitems_sub r _).cons₂ _
    · split
      · exact (hitems_sub r _).cons _
      · exact (hitems_sub r _).cons₂ _
theorem num_FF : NumOk (Str.ofString "FF") := .inl ⟨_, hex_FF, by decide +kernel⟩
theorem num_A0 : NumOk (Str.ofString "A0") := .inl ⟨_, hex_A0, by decide +kernel⟩
theorem num_none : NumOk (Str.ofString "none") := .inr ⟨nohex_none, by decide +kernel, by decide +kernel⟩
theorem num_12x : NumOk (Str.ofString "12x") := .inr ⟨nohex_12x, by decide +kernel, by decide +kernel⟩
theorem num_G : NumOk (Str.ofString "G") := .inr ⟨nohex_G, by decide +kernel, by decide +kernel⟩
theorem menu_ok : ∀ r ∈ menu1 ++ menu2, 0 ≤ r.1 ∧ r.1 ≠ 18 ∧ r.2.cps.size ≤ 100 := by decide +kernel
theorem menu_num : ∀ r ∈ menu1 ++ menu2, r.1 = 5 ∨ r.1 = 105 → NumOk r.2 := by
  intro r hr
  have : (r.1 = 5 ∨ r.1 = 105) → r.2 = Str.ofString "FF" ∨ r.2 = Str.ofString "A0" ∨ r.2 = Str.ofString "none" ∨ r.2 = Str.ofString "12x" ∨ r.2 = Str.ofString "G" :=
    (show ∀ r ∈ menu1 ++ menu2, (r.1 = 5 ∨ r.1 = 105) → r.2 = Str.ofString "FF" ∨ r.2 = Str.ofString "A0" ∨ r.2 = Str.ofString "none" ∨ r.2 = Str.ofString "12x" ∨ r.2 = Str.ofString "G" from by decide +kernel) r hr
  intro h
  rcases this h with e | e | e | e | e <;> rw [e]
  · exact num_FF
  · exact num_A0
  · exact num_none
  · exact num_12x
  · exact num_G
/-- what the law's locals name -/
structure LR (B : Heap) (m : Str → Option Value) (its : List Item) : Prop where
  rows : ∃ ra vs, m (Str.ofString "rows") = some (.ref ra) ∧ At B ra (LstO vs) ∧ Tups B vs (its.map (·.2))
  made : ∃ ma, m (Str.ofString "made") = some (.ref ma) ∧ At B ma (LstO (its.map (·.1)))
  once : ∃ oa, m (Str.ofString "once") = some (.ref oa) ∧ At B oa (LstO ((pitems its).map (·.1)))
  tags : ∀ p ∈ its, ∃ a, p.1 = .ref a ∧ TagAt B a p.2.1 p.2.2
  menu : ∀ p ∈ its, p.2 ∈ menu1 ++ menu2
  few : its.length ≤ 26
theorem LR.keep {B B' : Heap} {m : Str → Option Value} {its : List Item} (x : LR B m its) (k : Keep B B') : LR B' m its where
  rows := let ⟨a, b, c, d, e⟩ := x.rows; ⟨a, b, c, d.keep k, e.keep k⟩
  made := let ⟨a, b, c⟩ := x.made; ⟨a, b, c.keep k⟩
  once := let ⟨a, b, c⟩ := x.once; ⟨a, b, c.keep k⟩
  tags := fun p hp => let ⟨a, b, c⟩ := x.tags p hp; ⟨a, b, c.keep k⟩
  menu := x.menu
  few := x.few
abbrev ownL (L : Addr) : List (Addr × (Obj → Prop)) := [(128, TabO #[]), (L + 1, CelO none)]
abbrev envL (qual : Str) (scope : Scope) (L : Addr) (cdv : Value) : Env := { envOf qual scope L 181 cdv with cells := [(Str.ofString "codes", L + 1)] }
section
variable {prog : Program} {w : World} {A : Around} {E : Value → Shared → Prop} {s : Shared}
theorem callT {f : Addr} {args : List Value} {P : Value → Heap → Prop} {Q : Value → Shared → Prop} (c : CallT prog w A f args s.heap P) (h : ∀ v h' tk, P v h' → Q v { s with heap := h', toks := tk }) :
    codeAny (model prog w) A (.call (.ref f) ⟨args, []⟩) (fun r s' => match r with | .ok (.ret v) => Q v s' | .ok _ => False | .error e => E e s') s := c s _ rfl fun v h' tk p => h v h' tk p
theorem withBody {name qual : Str} {params : Arguments} {body : List Stmt} {scope : Scope} {dV kV doc pm cdv ct oc : Value} {an od : Option Addr} {osl : Array (Option Value)} {name' qual' : Str} {params' : Arguments} {body' : List Stmt} {scope' : Scope} {dV' kV' doc' pm' cdv' ct' oc' : Value} {an' od' : Option Addr} {osl' : Array (Option Value)} {P : List Stmt → Str → Scope → Value → Prop}
    (ho : (hd.heap_39 w.params).lookup 181 = some ⟨oc, od, .func (fnOf name qual params body scope dV kV doc pm an cdv ct), osl⟩)
    (lit : (hd.heap_39 w.params).lookup 181 = some ⟨oc', od', .func (fnOf name' qual' params' body' scope' dV' kV' doc' pm' an' cdv' ct'), osl'⟩) (h : P body' qual' scope' cdv') : P body qual scope cdv := by
  rw [lit] at ho
  have e := congrArg (fun x => x.map Obj.data) ho
  simp only [Option.map_some, Option.some.injEq, Data.func.injEq, FuncData.mk.injEq, FuncBody.stmts.injEq] at e
  obtain ⟨_, rfl, _, rfl, rfl, _, _, _, _, _, _, _, rfl, _⟩ := e
  exact h
/-- a call of filter_invalid_point_codes: a generator not yet run -/
theorem pts_call {Q : Value → Shared → Prop} {ax : Addr} {its : List (Value × Int)} (G : GG w s.heap) (hroom : A.depth < recursionLimit) (hlen : its.length ≤ 100) (hx : At s.heap ax (LstO (its.map (·.1)))) (hit : ∀ p ∈ its, Itm s.heap p.1 p.2)
    (h : ∀ L a h₁ tk cod, s.heap.get? L = none → Keep s.heap h₁ →
      GenNew prog w (fun g0 => At g0 ax (LstO (its.map (·.1))) ∧ ∀ p ∈ its, Itm g0 p.1 p.2) s.gens L a (PS.run ⟨-1, 0, []⟩ its) { s with heap := h₁, toks := tk, gens := s.gens.push (.fresh cod) } → Q (.ref a) { s with heap := h₁, toks := tk, gens := s.gens.push (.fresh cod) }) :
    codeAny (model prog w) A (.call (.ref 126) ⟨[.ref ax], []⟩) (fun r s' => match r with | .ok (.ret v) => Q v s' | .ok _ => False | .error e => E e s') s := by
  refine pts_gen G hroom hlen fun L a h₁ tk m₀ cod nL na hLa hn hk hg fs => ?_
  exact h L a h₁ tk cod nL hk ⟨⟨m₀, cod, rfl, hn, fs⟩, hg, hLa⟩
end
theorem Fm.imp {g h : Heap} {L a : Addr} {m : Str → Option Value} {l : List (Addr × (Obj → Prop))} {P P' : Obj → Prop} (F : Fm g L m ((a, P) :: l) h) (q : ∀ o, P o → P' o) : Fm g L m ((a, P') :: l) h :=
  ⟨F.ns, F.keep, F.gL, fun p hp => by
    rcases List.mem_cons.mp hp with rfl | hp
    · obtain ⟨⟨o, e, z⟩, r⟩ := F.own _ (.head _)
      exact ⟨⟨o, e, q o z⟩, r⟩
    · exact F.own p (.tail _ hp), F.nd⟩
section
variable {prog : Program} {w : World} {A : Around} {E : Value → Shared → Prop} {s : Shared} {env : Env}
/-- the statement x = [.. for .. in ..] where the name's store stands ahead of the letting go -/
theorem asgComp2 {elt target iter : Expr} {ifs : List Expr} {scope : Scope} {cl : List (Str × Addr)} {y : Str} {py pos spos : Pos} {Q : Flow → Shared → Prop} (J : Nat → Heap → List Value → Prop)
    (hsw : swapsWith (.ListComp elt [⟨target, iter, ifs, 0⟩] scope pos) (some (.Name y py)) spos.line env = pure true)
    (hclos : closureFor scope env = pure cl) (hcell : ∀ y ∈ scope.names, y.2 ≠ .cell) (hkind : scope.kind = .function) (hnames : ∀ y ∈ scope.names, y.2 = .local → scope.names.lookup y.1 = some .local) (hh : A.handled = none)
    (h : wpAny (model prog w) A (eval iter env) (fun v s₁ => ∃ ax xs g m l, v = .ref ax ∧ At s₁.heap ax (LstO xs) ∧ xs.length ≤ sizeLine ∧ Fm g env.locals m l s₁.heap ∧ J 0 s₁.heap [] ∧ (∀ i v, xs[i]? = some v → CompTurn prog w A s₁ env scope cl target elt ifs ax J i v) ∧
      ∀ D h' tk ys g', Keep s₁.heap g' → Keep (hideAll g' [env.locals]) h' → Fm g env.locals (upd m y (.ref D)) ((D, LstO ys) :: l) h' → J xs.length g' ys → Q .next { s₁ with heap := h', toks := tk }) E s)
    (hs : ∀ x, foldedSetIterable iter env x = pure x := by intro _; rfl)
    (hl : env.kindOf y = some .local := by rfl) (hp : (env.scope.kind == .class || (env.scope.kind == .module && env.locals != env.globals)) = false := by rfl) :
    wpAny (model prog w) A (exec (.Assign [.Name y py] (.ListComp elt [⟨target, iter, ifs, 0⟩] scope pos) spos) env) Q E s := by
  rw [exec_Assign_Name_used _ _ _ _ hsw]
  refine wpAny_bind (wpAny_standAt (wpAny_bind ?_))
  show wpAny _ A (do let _ ← comprehension (.ListComp elt [⟨target, iter, ifs, 0⟩] scope pos) scope env _ (newList []) false (eval iter env) (some (assign (.Name y py) env))) _ _ s
  refine wpAny_bind (wpAny_mono (wpAny_comprehension_free (use := some (assign (.Name y py) env)) (Q := fun _ s' => Q .next s') rfl hs hclos hkind hnames (wpAny_mono h (fun v s₁ h₁ => ?_) fun _ _ e => e)) (fun _ _ x => wpAny_pure (wpAny_pure x)) fun _ _ e => e)
  obtain ⟨ax, xs, g, m, l, rfl, hx, hsz, F, init, turn, hQ⟩ := h₁
  refine compBlock (RR := fun acc C => compPost (model prog w) A E (some (assign (.Name y py) env)) (fun _ s' => Q .next s') acc C) J hh hcell hkind hx hsz init turn ?_
  intro D C h' tk m' ys g' nD nC hDC F' kg hJ'
  show wpAny _ _ (assign (.Name y py) env (.ref D)) _ _ _
  have FD := F.add (kg.trans F'.keep) nD (F'.at_ (.head _))
  have hCL : C ≠ env.locals := fun e => by
    obtain ⟨oL, _, _, hL, _⟩ := F.ns
    rw [← e] at hL; rw [hL] at nC; cases nC
  refine wpAny_assign_Name (wpAny_storeName_local hl FD.ns (fun h₂ hn hs₂ => ?_) hp)
  have F2 := FD.store hn hs₂
  obtain ⟨oC, es, ep, hC, rC⟩ := F'.ns
  have nsC : h₂.Ns C m' := ⟨oC, es, ep, hs₂.extBut _ _ hCL hC, rC⟩
  refine ⟨m', nsC, fun h₃ hs₃ => ?_⟩
  have gC : g.get? C = none := none_keep F.keep nC
  have F3 := F2.other hs₃.extBut gC hCL (fun p hp => by
    rcases List.mem_cons.mp hp with rfl | hp
    · exact Ne.symm hDC
    · intro e
      obtain ⟨o, e', _⟩ := (F.own p hp).1
      rw [← e, nC] at e'; cases e')
  refine hQ D h₃ _ ys g' kg (fun b o e => ?_) F3 hJ'
  · have e' := of_hideAll _ e
    have h2 : b ≠ env.locals := fun q => by
      rw [q, hideAll_none _ (.head _)] at e; cases e
    have h1 : b ≠ C := fun q => by rw [q, F'.gL] at e'; cases e'
    exact hs₃.extBut b o h1 (hs₂.extBut b o h2 (F'.keep _ _ e'))
end

/-- the tags made so far, none of which stood in H -/
def TgJ (H g : Heap) (ys : List Value) (rs : List (Int × Str)) : Prop := ys.length = rs.length ∧ ∀ (j : Nat) y r, ys[j]? = some y → rs[j]? = some r → ∃ x dx t u, y = .ref x ∧ g.get? x = some (tagO dx r.1 t r.2 u) ∧ g.get? dx = some emptyDict ∧ H.get? x = none ∧ H.get? dx = none
theorem TgJ.nil {H g : Heap} : TgJ H g [] [] := ⟨rfl, fun j y r h => by simp at h⟩
theorem TgJ.keep {H g g' : Heap} {ys : List Value} {rs : List (Int × Str)} (x : TgJ H g ys rs) (k : Keep g g') : TgJ H g' ys rs :=
  ⟨x.1, fun j y r h1 h2 => let ⟨a, b, t, u, e, p, q, n1, n2⟩ := x.2 j y r h1 h2; ⟨a, b, t, u, e, k _ _ p, k _ _ q, n1, n2⟩⟩
theorem TgJ.snoc {H g : Heap} {ys : List Value} {rs : List (Int × Str)} {c : Int} {v : Str} {x dx : Addr} {t u : Tok} (J : TgJ H g ys rs) (p : g.get? x = some (tagO dx c t v u)) (q : g.get? dx = some emptyDict) (n1 : H.get? x = none) (n2 : H.get? dx = none) : TgJ H g (ys ++ [.ref x]) (rs ++ [(c, v)]) := by
  refine ⟨by simp [J.1], fun j y r h1 h2 => ?_⟩
  rcases Nat.lt_trichotomy j ys.length with hj | rfl | hj
  · rw [List.getElem?_append_left hj] at h1
    rw [List.getElem?_append_left (by rw [← J.1]; exact hj)] at h2
    exact J.2 j y r h1 h2
  · simp at h1
    rw [J.1] at h2
    simp at h2
    subst h1 h2
    exact ⟨x, dx, t, u, rfl, p, q, n1, n2⟩
  · rw [List.getElem?_eq_none (by simp; omega)] at h1; cases h1
section
local macro_rules | `(tactic| walk_at "GG") => `(tactic| first | assumption | exact GG.keep (by assumption) (Fm.keep (by assumption)))
local macro_rules | `(tactic| walk_at "AT") => `(tactic| first | assumption | exact Fm.at_ (by assumption) (by k_mem) | exact At.keep (by assumption) (Fm.keep (by assumption)))
local macro_rules | `(tactic| walk_at "CHG") => `(tactic| repeat (first | exact Chg.head | apply Chg.tail))
local macro_rules | `(tactic| walk_at "LIST") => `(tactic| first | exact isList_keep (by assumption) (Fm.keep (by assumption)) | exact isList_of (Fm.at_ (by assumption) (by k_mem)) | exact isList_of (by walk_at "AT"))
local macro_rules | `(tactic| walk_at "NUM") => `(tactic| first | decide | omega | (simp only [List.length_cons, List.length_nil]; omega))
local macro_rules | `(tactic| walk_at "eval Name") => `(tactic| first
  | (refine lv (by assumption) (by first | rfl | assumption) ?_)
  | (k_dflt (refine' gv ?G ?e ?_; (case G => walk_at "GG"); (case e => k_is); k_whole))
  | (k_dflt (refine' bv ?G ?e ?v ?_; (case G => walk_at "GG"); (case e => k_is); (case v => boot_by_name); k_whole)))
local macro_rules | `(tactic| walk_at "loadName") => `(tactic| (refine lvN (by assumption) (by first | rfl | assumption) ?_))
local macro_rules | `(tactic| walk_at "eval Constant int") => `(tactic| (with_reducible refine ci ?_; intro t' tk'))
local macro_rules | `(tactic| walk_at "eval Constant str") => `(tactic| (with_reducible refine cs ?_; intro t' tk'))
local macro_rules | `(tactic| walk_at "storeName") => `(tactic| (refine svT (by assumption) ?_; intro h' tk' F'))
local macro_rules | `(tactic| walk_at "binaryOp Add int int") => `(tactic| (with_reducible refine addI ?_; intro t' tk'))
local macro_rules | `(tactic| walk_at "inplaceOp Add int int") => `(tactic| (with_reducible refine iaddI ?_; intro t' tk'))
local macro_rules | `(tactic| walk_at "binaryOp Mod int int") => `(tactic| (refine modI (by omega) ?_; intro r' t' tk' hr1 hr2))
local macro_rules | `(tactic| walk_at "binaryOp FloorDiv int int") => `(tactic| (refine fdivI (by omega) (by omega) (by omega) (by omega) ?_; intro r' t' tk' hr1 hr2))
local macro_rules | `(tactic| walk_at "PART") => `(tactic| first | exact IsPart.none | exact IsPart.int _ _)
local macro_rules | `(tactic| walk_at "PICK") => `(tactic| first | exact pick_upto (by omega) | exact pick_run (by omega))
local macro_rules | `(tactic| walk_at "subscriptTail") => `(tactic| (k_dflt (first
  | ((with_reducible show wpAny _ _ (subscriptTail _ _ (Value.ref _) (Value.ref _)) _ _ _); refine' sliceL ?F ?x ?pl ?pu ?z ?e ?_; (case F => assumption); (case x => k_mem); (case pl => walk_at "PART"); (case pu => walk_at "PART"); (case z => walk_at "SZ"); (case e => walk_at "PICK"); k_whole; intro b' h' kp' F')
  | (refine' subL ?x ?a ?b ?c ?_; (case x => walk_at "AT"); (case a => walk_at "NUM"); (case b => walk_at "NUM"); (case c => first | rfl | assumption); k_whole)
  | (refine' sub2 ?x ?a ?_ ?_; (case x => walk_at "AT"); (case a => omega))
  | (refine' subM ?x ?T ?a ?b ?c ?_; (case x => walk_at "AT"); (case T => assumption); (case a => walk_at "NUM"); (case b => walk_at "NUM"); (case c => omega); k_whole; intro b' hR'))))
local macro_rules | `(tactic| walk_at "subscriptTail Subscript") => `(tactic| (k_dflt (refine' subScr ?x ?i ?a ?b ?c ?_; (case x => walk_at "LIST"); (case i => assumption); (case a => omega); (case b => omega); (case c => omega); k_whole); intro j' t'))
local macro_rules | `(tactic| walk_at "setItem") => `(tactic| (k_dflt (refine' setF ?F ?x ?a ?b ?c ?_; (case F => assumption); (case x => walk_at "CHG"); (case a => walk_at "NUM"); (case b => walk_at "NUM"); (case c => walk_at "NUM"); k_whole); intro h' F'; (try simp only [List.set_cons_zero, List.set_cons_succ, Int.reduceToNat] at F')))
local macro_rules | `(tactic| walk_at "call builtin:len") => `(tactic| (k_dflt (refine' lenI ?x ?a ?_; (case x => walk_at "LIST"); (case a => omega); k_whole); intro t' tk'))
local macro_rules | `(tactic| walk_at "SZ") => `(tactic| first | (rw [sizeLine_eq]; (try simp only [List.length_append, List.length_cons, List.length_nil, List.length_take]); omega) | size_fits)
local macro_rules | `(tactic| walk_at "callWith ref") => `(tactic| (k_dflt (refine' callG ?k1 ?k2 ?_; (case k1 => k_is); (case k2 => exact rfl))))
local macro_rules | `(tactic| walk_at "newList") => `(tactic| (refine newL (by assumption) (by walk_at "SZ") ?_; intro a' h' kp' F'))
local macro_rules | `(tactic| walk_at "newTuple") => `(tactic| (refine newT (by assumption) (by walk_at "SZ") ?_; intro a' h' kp' hat' F'))
local macro_rules | `(tactic| walk_at "eval Slice") => `(tactic| refine sliceF ?_)
local macro_rules | `(tactic| walk_at "Exists") => `(tactic| (refine ⟨_, _, _, _, by assumption, ?_⟩; intro a' h' kp' F'))
local macro_rules | `(tactic| walk_at "getMethod ref") => `(tactic| (k_dflt (first | refine methApp (by walk_at "AT") ?_ | refine methClr (by walk_at "AT") ?_)))
local macro_rules | `(tactic| walk_at "call builtin:list.append") => `(tactic| (k_dflt (refine' appL ?F ?c ?z ?_; (case F => assumption); (case c => walk_at "CHG"); (case z => walk_at "SZ"); k_whole); intro h' F'))
local macro_rules | `(tactic| walk_at "call builtin:list.clear") => `(tactic| (k_dflt (refine' clrL ?F ?c ?z ?_; (case F => assumption); (case c => walk_at "CHG"); (case z => walk_at "SZ"); k_whole); intro h' F'))
local macro_rules | `(tactic| walk_at "call type:range") => `(tactic| (refine range1 (by assumption) ?_; intro a' h' tk' kp' F'))
local macro_rules | `(tactic| walk_at "pyIter ref") => `(tactic| (k_dflt (refine' iterR ?F ?a ?b ?_; (case F => assumption); (case a => omega); (case b => omega); k_whole); intro it' h' kp' F'))
local macro_rules | `(tactic| walk_at "binaryOp Add ref ref") => `(tactic| (k_dflt (refine' addL ?F ?x ?y ?z ?_; (case F => assumption); (case x => walk_at "AT"); (case y => walk_at "AT"); (case z => walk_at "SZ"); k_whole); intro a' h' kp' F'))
local macro_rules | `(tactic| walk_at "exec For") => `(tactic| refine wpAny_For ?_)
local macro_rules | `(tactic| walk_at "DEPTH") => `(tactic| first | omega | ((try simp only [depth_deeper, depth_in1]); omega))
local macro_rules | `(tactic| walk_at "MUT") => `(tactic| repeat (first | exact Muts.nil | refine Muts.cons (by first | exact mutL | exact mutI | exact mutRI | exact mutR | exact mutS | exact mutCO) ?_))
local macro_rules | `(tactic| walk_at "CALL") => `(tactic| fail)
local macro_rules | `(tactic| walk_at "codeAny call") => `(tactic| walk_at "CALL")
local macro_rules | `(tactic| walk_at "FITS") => `(tactic| repeat (first | exact Fits.nil | exact Pull.head | apply Fits.cons | apply Pull.tail))
local macro_rules | `(tactic| walk_at "truthy ref") => `(tactic| (k_dflt (refine' truthyL ?x ?z ?_; (case x => walk_at "AT"); (case z => walk_at "SZ"); k_whole); intro tk'))
local macro_rules | `(tactic| walk_at "SETS") => `(tactic| first | exact setX (by walk_at "GG") | exact setI (by walk_at "GG") | exact setV (by walk_at "GG"))
local macro_rules | `(tactic| walk_at "compareOp In int ref") => `(tactic| (k_dflt (refine' inSet ?S ?_; (case S => walk_at "SETS"); k_whole); intro tk'))
local macro_rules | `(tactic| walk_at "compareOp NotIn int ref") => `(tactic| (k_dflt (refine' notInSet ?S ?_; (case S => walk_at "SETS"); k_whole); intro tk'))
local macro_rules | `(tactic| walk_at "compareOp In int ref") => `(tactic| (k_dflt (refine' inInts ?x ?I ?_; (case x => walk_at "AT"); (case I => assumption); k_whole)))
local macro_rules | `(tactic| walk_at "compareOp NotIn int ref") => `(tactic| (k_dflt (refine' notInInts ?x ?I ?_; (case x => walk_at "AT"); (case I => assumption); k_whole)))
local macro_rules | `(tactic| walk_at "assign Tuple") => `(tactic| (k_dflt (refine' asgT ?hh ?F ?x ?n ?st ?_; (case hh => assumption); (case F => assumption); (case x => walk_at "AT"); (case n => rfl); (case st => rfl); k_whole); intro h' kp' F'))
local macro_rules | `(tactic| walk_at "unpackItems ref") => `(tactic| (k_dflt (refine' unpI ?hh ?F ?x ?n ?_; (case hh => assumption); (case F => assumption); (case x => walk_at "AT"); (case n => rfl); k_whole); intro h' kp' F'))
local macro_rules | `(tactic| walk_at "pyIter ref") => `(tactic| (k_dflt (refine' iterL ?F ?x ?_; (case F => assumption); (case x => walk_at "AT"); k_whole); intro it' h' kp' F'))
section
variable {prog : Program} {w : World} {A : Around} {E : Value → Shared → Prop} {s : Shared} {R : Result → Shared → Prop}
theorem phaseA {name qual : Str} {params : Arguments} {body : List Stmt} {scope : Scope} {dV kV doc pm cdv ct oc : Value} {an od : Option Addr} {osl : Array (Option Value)} {g : Heap} {L scr : Addr} {m : Str → Option Value} {Q : Flow → Shared → Prop}
    (ho : (hd.heap_39 w.params).lookup 181 = some ⟨oc, od, .func (fnOf name qual params body scope dV kV doc pm an cdv ct), osl⟩)
    (G : GG w g) (F : Fm g L m (ownL L) s.heap) (hm : m (Str.ofString "script") = some (.ref scr)) (hs : Scr scr g) (hh : A.handled = none) (hroom : A.depth + 60 < recursionLimit) (hu : A.units + 100 < cLine) (hb : AllBare s.gens)
    (next : ∀ B h tk gens m its, Keep g B → Fm B L m (ownL L) h → LR B m its → AllBare gens → wpC (model prog w) A (execs (body.drop 4) (envL qual scope L cdv)) Q E { s with heap := h, toks := tk, gens := gens }) :
    wpC (model prog w) A (execs body (envL qual scope L cdv)) Q E s := by
  revert next
  refine withBody ho (by k_is) (P := fun body qual scope cdv => (∀ B h tk gens m its, Keep g B → Fm B L m (ownL L) h → LR B m its → AllBare gens → wpC (model prog w) A (execs (body.drop 4) (envL qual scope L cdv)) Q E { s with heap := h, toks := tk, gens := gens }) →
    wpC (model prog w) A (execs body (envL qual scope L cdv)) Q E s) ?_
  intro next
  refine execsC_cons (wpC.of ?_)
  k_fold
  repeat' (first | walk1 | (dsimp only; walk1))
  dsimp only
  k_unfold
  dsimp only
  clear F
  rename Fm _ _ _ _ _ => F1
  have F1 := F1.imp (P' := CO scr) (fun o q => ⟨0, 0, _, _, Int.le_refl _, Int.le_refl _, by decide, q⟩)
  refine execsC_cons (wpC.of ?_)
  k_fold
  repeat' (first | walk1 | (dsimp only; walk1))
  refine callT (drawn_ok G hs F1.keep (F1.own _ (.head _)).2.1 (F1.at_ (.head _)) hh (by walk_at "DEPTH")) ?_
  rintro _ h2 tk2 ⟨ra, vs, rfl, hra, ⟨rows, hT, hmenu⟩, hlen, hx, hc⟩
  have F2 := (F1.chgExt (l₁ := []) hx hc).fits (l' := ownL L) (by walk_at "FITS")
  obtain ⟨B, kB, F3, kBh, kf, lst, oth⟩ := F2.absorb
  have hrB := lst _ _ hra
  have hTB := hT.kf kf
  have hlr := hT.length
  clear hra hT hx hc F1 F2 kf lst oth kBh
  dsimp only
  repeat' (first | walk1 | (dsimp only; walk1))
  dsimp only
  k_unfold
  dsimp only
  clear F3
  rename Fm _ _ _ _ _ => F3
  have GB := G.keep kB
  rename Heap => h3
  refine execsC_cons (wpC.of ?_)
  refine asgComp2 (cl := []) (J := fun i g' ys => TgJ h3 g' ys (rows.take i)) rfl (closureFor_none (by decide)) (by decide) rfl (by decide) hh ?_
  k_fold
  walk1
  refine ⟨_, _, _, _, _, rfl, hrB.keep F3.keep, by walk_at "SZ", F3, .nil, ?turn, ?fin⟩
  case turn =>
    rintro i v hv C it acc ys g' m' h' tk' hJ kg F'
    obtain ⟨a', c, tx, t1, u1, hv', hrow, hat⟩ := hTB.get i (List.getElem?_eq_some_iff.mp hv).1
    rw [hv] at hv'
    cases hv'
    have hat' := hat.keep (F3.keep.trans kg)
    have Gg := GB.keep (F3.keep.trans kg)
    refine goPair hh F' (.head _) (hat'.keep F'.keep) (fun h4 tk4 F6 => ?_)
    refine wpAny_tests_nil ?_
    rw [if_pos rfl]
    k_fold
    repeat' (first | walk1 | (dsimp only; walk1))
    refine callWith_K (first := []) Gg.inK (by k_is) ?_
    repeat' (first | walk1 | (dsimp only; walk1))
    all_goals (rename Fm _ _ _ _ _ => F7)
    · exact (Gg.keep F7.keep).inK
    · refine makeTag (Gg.keep F7.keep) (by walk_at "DEPTH") fun x dx h8 tk8 k8 nx nd hx hd => ?_
      obtain ⟨g8, kg8, F9, q, _⟩ := (F7.keeps k8).rebase
      have al : ∀ b, b = C ∨ b = it ∨ b = acc → ∃ o, h4.get? b = some o := by
        rintro b (rfl | rfl | rfl)
        · obtain ⟨o, _, _, e, _⟩ := F7.ns; exact ⟨o, e⟩
        · obtain ⟨o, e, _⟩ := F7.at_ (.head _); exact ⟨o, e⟩
        · obtain ⟨o, e, _⟩ := F7.at_ (.tail _ (.head _)); exact ⟨o, e⟩
      have into : ∀ b o, h4.get? b = none → h8.get? b = some o → g8.get? b = some o := fun b o n e => by
        refine q b o e (fun z => ?_) fun z => ?_
        · obtain ⟨o', e'⟩ := al b (.inl z); rw [n] at e'; cases e'
        · simp only [List.map_cons, List.map_nil, List.mem_cons, List.not_mem_nil, or_false] at z
          obtain ⟨o', e'⟩ := al b (.inr z); rw [n] at e'; cases e'
      have k34 : Keep h3 h4 := kg.trans F7.keep
      refine ⟨g8, _, h8, tk8, rfl, kg.trans kg8, F9, ?_⟩
      show TgJ h3 g8 (ys ++ [.ref x]) (rows.take (i + 1))
      rw [List.take_succ, hrow]
      exact (hJ.keep kg8).snoc (into _ _ nx hx) (into _ _ nd hd) (none_keep k34 nx) (none_keep k34 nd)
  case fin =>
    rintro D h' tk ys g' k1 k2 F4 hJ
    have hJ : TgJ h3 g' ys rows := by
      have hJ : TgJ h3 g' ys (rows.take vs.length) := hJ
      rw [hlr, List.take_length] at hJ; exact hJ
    have al3 : ∀ b, b = L ∨ b = 128 ∨ b = L + 1 → ∃ o, h3.get? b = some o := by
      rintro b (rfl | rfl | rfl)
      · obtain ⟨o, _, _, e, _⟩ := F3.ns; exact ⟨o, e⟩
      · obtain ⟨o, e, _⟩ := F3.at_ (.head _); exact ⟨o, e⟩
      · obtain ⟨o, e, _⟩ := F3.at_ (.tail _ (.head _)); exact ⟨o, e⟩
    have F5 := F4.fits (l' := ownL L) (by walk_at "FITS")
    have hD := F4.at_ (.head _)
    obtain ⟨B2, kB2, F6, kBh, kf, lst, oth⟩ := F5.absorb
    have into : ∀ b o, h3.get? b = none → g'.get? b = some o → B2.get? b = some o := fun b o n e => by
      have ne : ∀ c, (c = L ∨ c = 128 ∨ c = L + 1) → b ≠ c := fun c hc z => by obtain ⟨o', e'⟩ := al3 c hc; rw [← z, n] at e'; cases e'
      exact oth b o (k2 _ _ (hideAll_get _ e (fun hm => ne L (.inl rfl) (List.mem_singleton.mp hm)))) (ne _ (.inl rfl)) (ne _ (.inr (.inl rfl))) (ne _ (.inr (.inr rfl)))
    have hDB := lst _ _ hD
    have z1 : (ys.zip rows).map (·.1) = ys := List.map_fst_zip (by rw [hJ.1]; exact Nat.le_refl _)
    have z2 : (ys.zip rows).map (·.2) = rows := List.map_snd_zip (by rw [hJ.1]; exact Nat.le_refl _)
    have ztag : ∀ p ∈ ys.zip rows, ∃ a, p.1 = .ref a ∧ TagAt B2 a p.2.1 p.2.2 := fun p hp => by
      obtain ⟨j, hj⟩ := List.getElem?_of_mem hp
      obtain ⟨q1, q2⟩ := List.getElem?_zip_eq_some.mp hj
      obtain ⟨x, dx, t, u, e, e1, e2, n1, n2⟩ := hJ.2 j _ _ q1 q2
      exact ⟨x, e, dx, t, u, into _ _ n1 e1, into _ _ n2 e2⟩
    have zlen : (ys.zip rows).length ≤ 26 := by rw [List.length_zip, hJ.1]; omega
    generalize hits : ys.zip rows = its at z1 z2 ztag zlen
    subst z1 z2
    have hrB2 := hrB.keep kB2
    have hTB2 := hTB.keep kB2
    have GB2 := GB.keep kB2
    clear hJ al3 F5 hD F4 kBh kf lst oth into hrB hTB GB k1 k2 F3 hits
    dsimp only
    refine execsC_cons (wpC.of ?_)
    k_fold
    repeat' (first | walk1 | (dsimp only; walk1))
    have e2 : (its.map fun p => (p.1, p.2.1)).map (·.1) = its.map (·.1) := by rw [List.map_map]; rfl
    have hP : At h' D (LstO ((its.map fun p => (p.1, p.2.1)).map (·.1))) ∧ ∀ p ∈ its.map fun p => (p.1, p.2.1), Itm h' p.1 p.2 := by
      refine ⟨by rw [e2]; exact hDB.keep F6.keep, fun p hp => ?_⟩
      obtain ⟨q, hq, rfl⟩ := List.mem_map.mp hp
      obtain ⟨x, e, T⟩ := ztag q hq
      exact ⟨x, e, .inr ⟨_, T.keep F6.keep⟩⟩
    refine pts_call (its := its.map fun p => (p.1, p.2.1)) (GB2.keep F6.keep) (by walk_at "DEPTH") (by rw [List.length_map]; omega) hP.1 hP.2 fun L1 a1 h5 tk5 cod nL1 k5 N => ?_
    repeat' (first | walk1 | (dsimp only; walk1))
    refine listOwn (g0 := h') hh (by walk_at "DEPTH") (GB2.keep F6.keep) hP ⟨N.run, N.gen, N.ne⟩ k5 nL1 ?sz fun S h6 tk6 nS hS k6 => ?_
    case sz =>
      rw [← pitems_vals, List.length_map, sizeLine_eq]
      have := (pitems_sub its).length_le
      omega
    rw [← pitems_vals] at hS
    obtain ⟨B3, kB3, F7, kBh, kf, lst, oth⟩ := (F6.keeps (keep_off k5 nL1 k6)).absorb
    have hSB := lst _ _ hS
    clear kf lst oth kBh hS k6 N hP F6
    repeat' (first | walk1 | (dsimp only; walk1))
    dsimp only
    k_unfold
    dsimp only
    clear F7
    rename Fm _ _ _ _ _ => F8
    exact next B3 _ _ _ _ its ((kB.trans kB2).trans kB3) F8 ⟨⟨ra, vs, rfl, hrB2.keep kB3, hTB2.keep kB3⟩, ⟨D, rfl, hDB.keep kB3⟩, ⟨S, rfl, hSB⟩, fun p hp => let ⟨a, e, T⟩ := ztag p hp; ⟨a, e, T.keep kB3⟩, fun p hp => hmenu _ (List.mem_map_of_mem hp), zlen⟩ (hb.push rfl)
end
end
section
local macro_rules | `(tactic| walk_at "GG") => `(tactic| first | assumption | exact GG.keep (by assumption) (Fm.keep (by assumption)))
local macro_rules | `(tactic| walk_at "AT") => `(tactic| first | assumption | exact Fm.at_ (by assumption) (by k_mem) | exact At.keep (by assumption) (Fm.keep (by assumption)))
local macro_rules | `(tactic| walk_at "CHG") => `(tactic| repeat (first | exact Chg.head | apply Chg.tail))
local macro_rules | `(tactic| walk_at "LIST") => `(tactic| first | exact isList_keep (by assumption) (Fm.keep (by assumption)) | exact isList_of (Fm.at_ (by assumption) (by k_mem)) | exact isList_of (by walk_at "AT"))
local macro_rules | `(tactic| walk_at "NUM") => `(tactic| first | decide | omega | (simp only [List.length_cons, List.length_nil]; omega))
local macro_rules | `(tactic| walk_at "eval Name") => `(tactic| first
  | (refine lv (by assumption) (by first | rfl | assumption) ?_)
  | (k_dflt (refine' gv ?G ?e ?_; (case G => walk_at "GG"); (case e => k_is); k_whole))
  | (k_dflt (refine' bv ?G ?e ?v ?_; (case G => walk_at "GG"); (case e => k_is); (case v => boot_by_name); k_whole)))
local macro_rules | `(tactic| walk_at "loadName") => `(tactic| (refine lvN (by assumption) (by first | rfl | assumption) ?_))
local macro_rules | `(tactic| walk_at "eval Constant int") => `(tactic| (with_reducible refine ci ?_; intro t' tk'))
local macro_rules | `(tactic| walk_at "eval Constant str") => `(tactic| (with_reducible refine cs ?_; intro t' tk'))
local macro_rules | `(tactic| walk_at "storeName") => `(tactic| (refine svT (by assumption) ?_; intro h' tk' F'))
local macro_rules | `(tactic| walk_at "binaryOp Add int int") => `(tactic| (with_reducible refine addI ?_; intro t' tk'))
local macro_rules | `(tactic| walk_at "inplaceOp Add int int") => `(tactic| (with_reducible refine iaddI ?_; intro t' tk'))
local macro_rules | `(tactic| walk_at "binaryOp Mod int int") => `(tactic| (refine modI (by omega) ?_; intro r' t' tk' hr1 hr2))
local macro_rules | `(tactic| walk_at "binaryOp FloorDiv int int") => `(tactic| (refine fdivI (by omega) (by omega) (by omega) (by omega) ?_; intro r' t' tk' hr1 hr2))
local macro_rules | `(tactic| walk_at "PART") => `(tactic| first | exact IsPart.none | exact IsPart.int _ _)
local macro_rules | `(tactic| walk_at "PICK") => `(tactic| first | exact pick_upto (by omega) | exact pick_run (by omega))
local macro_rules | `(tactic| walk_at "subscriptTail") => `(tactic| (k_dflt (first
  | ((with_reducible show wpAny _ _ (subscriptTail _ _ (Value.ref _) (Value.ref _)) _ _ _); refine' sliceL ?F ?x ?pl ?pu ?z ?e ?_; (case F => assumption); (case x => k_mem); (case pl => walk_at "PART"); (case pu => walk_at "PART"); (case z => walk_at "SZ"); (case e => walk_at "PICK"); k_whole; intro b' h' kp' F')
  | (refine' subL ?x ?a ?b ?c ?_; (case x => walk_at "AT"); (case a => walk_at "NUM"); (case b => walk_at "NUM"); (case c => first | rfl | assumption); k_whole)
  | (refine' sub2 ?x ?a ?_ ?_; (case x => walk_at "AT"); (case a => omega))
  | (refine' subM ?x ?T ?a ?b ?c ?_; (case x => walk_at "AT"); (case T => assumption); (case a => walk_at "NUM"); (case b => walk_at "NUM"); (case c => omega); k_whole; intro b' hR'))))
local macro_rules | `(tactic| walk_at "subscriptTail Subscript") => `(tactic| (k_dflt (refine' subScr ?x ?i ?a ?b ?c ?_; (case x => walk_at "LIST"); (case i => assumption); (case a => omega); (case b => omega); (case c => omega); k_whole); intro j' t'))
local macro_rules | `(tactic| walk_at "setItem") => `(tactic| (k_dflt (refine' setF ?F ?x ?a ?b ?c ?_; (case F => assumption); (case x => walk_at "CHG"); (case a => walk_at "NUM"); (case b => walk_at "NUM"); (case c => walk_at "NUM"); k_whole); intro h' F'; (try simp only [List.set_cons_zero, List.set_cons_succ, Int.reduceToNat] at F')))
local macro_rules | `(tactic| walk_at "call builtin:len") => `(tactic| (k_dflt (refine' lenI ?x ?a ?_; (case x => walk_at "LIST"); (case a => omega); k_whole); intro t' tk'))
local macro_rules | `(tactic| walk_at "SZ") => `(tactic| first | (rw [sizeLine_eq]; (try simp only [List.length_append, List.length_cons, List.length_nil, List.length_take]); omega) | size_fits)
local macro_rules | `(tactic| walk_at "callWith ref") => `(tactic| (k_dflt (refine' callG ?k1 ?k2 ?_; (case k1 => k_is); (case k2 => exact rfl))))
local macro_rules | `(tactic| walk_at "newList") => `(tactic| (refine newL (by assumption) (by walk_at "SZ") ?_; intro a' h' kp' F'))
local macro_rules | `(tactic| walk_at "newTuple") => `(tactic| (refine newT (by assumption) (by walk_at "SZ") ?_; intro a' h' kp' hat' F'))
local macro_rules | `(tactic| walk_at "eval Slice") => `(tactic| refine sliceF ?_)
local macro_rules | `(tactic| walk_at "Exists") => `(tactic| (refine ⟨_, _, _, _, by assumption, ?_⟩; intro a' h' kp' F'))
local macro_rules | `(tactic| walk_at "getMethod ref") => `(tactic| (k_dflt (first | refine methApp (by walk_at "AT") ?_ | refine methClr (by walk_at "AT") ?_)))
local macro_rules | `(tactic| walk_at "call builtin:list.append") => `(tactic| (k_dflt (refine' appL ?F ?c ?z ?_; (case F => assumption); (case c => walk_at "CHG"); (case z => walk_at "SZ"); k_whole); intro h' F'))
local macro_rules | `(tactic| walk_at "call builtin:list.clear") => `(tactic| (k_dflt (refine' clrL ?F ?c ?z ?_; (case F => assumption); (case c => walk_at "CHG"); (case z => walk_at "SZ"); k_whole); intro h' F'))
local macro_rules | `(tactic| walk_at "call type:range") => `(tactic| (refine range1 (by assumption) ?_; intro a' h' tk' kp' F'))
local macro_rules | `(tactic| walk_at "pyIter ref") => `(tactic| (k_dflt (refine' iterR ?F ?a ?b ?_; (case F => assumption); (case a => omega); (case b => omega); k_whole); intro it' h' kp' F'))
local macro_rules | `(tactic| walk_at "binaryOp Add ref ref") => `(tactic| (k_dflt (refine' addL ?F ?x ?y ?z ?_; (case F => assumption); (case x => walk_at "AT"); (case y => walk_at "AT"); (case z => walk_at "SZ"); k_whole); intro a' h' kp' F'))
local macro_rules | `(tactic| walk_at "exec For") => `(tactic| refine wpAny_For ?_)
local macro_rules | `(tactic| walk_at "DEPTH") => `(tactic| first | omega | ((try simp only [depth_deeper, depth_in1]); omega))
local macro_rules | `(tactic| walk_at "MUT") => `(tactic| repeat (first | exact Muts.nil | refine Muts.cons (by first | exact mutL | exact mutI | exact mutRI | exact mutR | exact mutS | exact mutCO) ?_))
local macro_rules | `(tactic| walk_at "CALL") => `(tactic| fail)
local macro_rules | `(tactic| walk_at "codeAny call") => `(tactic| walk_at "CALL")
local macro_rules | `(tactic| walk_at "FITS") => `(tactic| repeat (first | exact Fits.nil | exact Pull.head | apply Fits.cons | apply Pull.tail))
local macro_rules | `(tactic| walk_at "truthy ref") => `(tactic| (k_dflt (refine' truthyL ?x ?z ?_; (case x => walk_at "AT"); (case z => walk_at "SZ"); k_whole); intro tk'))
local macro_rules | `(tactic| walk_at "SETS") => `(tactic| first | exact setX (by walk_at "GG") | exact setI (by walk_at "GG") | exact setV (by walk_at "GG"))
local macro_rules | `(tactic| walk_at "compareOp In int ref") => `(tactic| (k_dflt (refine' inSet ?S ?_; (case S => walk_at "SETS"); k_whole); intro tk'))
local macro_rules | `(tactic| walk_at "compareOp NotIn int ref") => `(tactic| (k_dflt (refine' notInSet ?S ?_; (case S => walk_at "SETS"); k_whole); intro tk'))
local macro_rules | `(tactic| walk_at "compareOp In int ref") => `(tactic| (k_dflt (refine' inInts ?x ?I ?_; (case x => walk_at "AT"); (case I => assumption); k_whole)))
local macro_rules | `(tactic| walk_at "compareOp NotIn int ref") => `(tactic| (k_dflt (refine' notInInts ?x ?I ?_; (case x => walk_at "AT"); (case I => assumption); k_whole)))
local macro_rules | `(tactic| walk_at "assign Tuple") => `(tactic| (k_dflt (refine' asgT ?hh ?F ?x ?n ?st ?_; (case hh => assumption); (case F => assumption); (case x => walk_at "AT"); (case n => rfl); (case st => rfl); k_whole); intro h' kp' F'))
local macro_rules | `(tactic| walk_at "unpackItems ref") => `(tactic| (k_dflt (refine' unpI ?hh ?F ?x ?n ?_; (case hh => assumption); (case F => assumption); (case x => walk_at "AT"); (case n => rfl); k_whole); intro h' kp' F'))
local macro_rules | `(tactic| walk_at "pyIter ref") => `(tactic| (k_dflt (refine' iterL ?F ?x ?_; (case F => assumption); (case x => walk_at "AT"); k_whole); intro it' h' kp' F'))
local macro_rules | `(tactic| walk_at "newTuple") => `(tactic| (refine newTO (by assumption) (by walk_at "SZ") ?_; intro a' h' kp' F'))
local macro_rules | `(tactic| walk_at "getAttr ref") => `(tactic| ((with_reducible show wpAny _ _ (getAttr (Value.ref _) (PySem.Str.ofString "code") _) _ _ _); k_dflt (refine' getCodeF ?F ?G ?T ?r ?_; (case F => assumption); (case G => walk_at "GG"); (case T => exact TagAt.keep (by assumption) (Fm.keep (by assumption))); (case r => walk_at "DEPTH"); k_whole); intro t' h' tk' F'))
local macro_rules | `(tactic| walk_at "getAttr ref") => `(tactic| ((with_reducible show wpAny _ _ (getAttr (Value.ref _) (PySem.Str.ofString "value") _) _ _ _); k_dflt (refine' getValueF ?F ?G ?T ?r ?_; (case F => assumption); (case G => walk_at "GG"); (case T => exact TagAt.keep (by assumption) (Fm.keep (by assumption))); (case r => walk_at "DEPTH"); k_whole); intro t' h' tk' F'))
section
variable {prog : Program} {w : World} {A : Around} {E : Value → Shared → Prop} {s : Shared} {R : Result → Shared → Prop}
theorem phaseB {name qual : Str} {params : Arguments} {body : List Stmt} {scope : Scope} {dV kV doc pm cdv ct oc : Value} {an od : Option Addr} {osl : Array (Option Value)} {B : Heap} {L : Addr} {m : Str → Option Value} {its : List Item} {Q : Flow → Shared → Prop}
    (ho : (hd.heap_39 w.params).lookup 181 = some ⟨oc, od, .func (fnOf name qual params body scope dV kV doc pm an cdv ct), osl⟩)
    (G : GG w B) (F : Fm B L m (ownL L) s.heap) (X : LR B m its) (hh : A.handled = none) (hroom : A.depth + 60 < recursionLimit) (hu : A.units + 100 < cLine)
    (next : ∀ h tk, Fm B L m (ownL L) h → wpC (model prog w) A (execs (body.drop 5) (envL qual scope L cdv)) Q E { s with heap := h, toks := tk }) :
    wpC (model prog w) A (execs (body.drop 4) (envL qual scope L cdv)) Q E s := by
  revert next
  refine withBody ho (by k_is) (P := fun body qual scope cdv => (∀ h tk, Fm B L m (ownL L) h → wpC (model prog w) A (execs (body.drop 5) (envL qual scope L cdv)) Q E { s with heap := h, toks := tk }) →
    wpC (model prog w) A (execs (body.drop 4) (envL qual scope L cdv)) Q E s) ?_
  intro next
  obtain ⟨ra, vs, mr, hra, hT⟩ := X.rows
  obtain ⟨oa, mo, hoa⟩ := X.once
  have few := X.few
  have hsub := pitems_sub its
  have fewo : (pitems its).length ≤ 26 := Nat.le_trans hsub.length_le few
  have hT2 : ∀ p ∈ pitems its, ∃ a, p.1 = .ref a ∧ TagAt B a p.2.1 p.2.2 := fun p hp => X.tags p (hsub.mem hp)
  simp only [List.drop_succ_cons, List.drop_zero] at next ⊢
  refine execsC_cons (wpC.of ?_)
  k_fold
  repeat' (first | ((fail_if_success (with_reducible show wpAny _ _ (eval (PySem.Expr.ListComp _ _ _ _) _) _ _ _)); (fail_if_success (with_reducible show wpAny _ _ (exec (PySem.Stmt.While _ _ _ _) _) _ _ _)); walk1) | (dsimp only; (fail_if_success (with_reducible show wpAny _ _ (eval (PySem.Expr.ListComp _ _ _ _) _) _ _ _)); (fail_if_success (with_reducible show wpAny _ _ (exec (PySem.Stmt.While _ _ _ _) _) _ _ _)); walk1))
  refine compL (cl := []) (J := fun i g' ys => Tups g' ys (((pitems its).map (·.2)).take i)) (closureFor_none (by decide)) (by decide) rfl (by decide) hh ?_
  walk1
  refine ⟨oa, _, _, _, _, _, rfl, hoa.keep F.keep, by rw [List.length_map, sizeLine_eq]; omega, F, .nil, ?turn, ?fin⟩
  case turn =>
    rintro i v hv C it acc ys g' m' h' tk' hJ kg F'
    obtain ⟨p, hp, rfl⟩ : ∃ p, (pitems its)[i]? = some p ∧ p.1 = v := by simpa using hv
    obtain ⟨a', e, T⟩ := hT2 p (List.mem_of_getElem? hp)
    have T := T.keep (F.keep.trans kg)
    have Gg := G.keep (F.keep.trans kg)
    rw [e]
    refine goName F' (fun h2 tk2 F2 => ?_)
    refine wpAny_tests_nil ?_
    rw [if_pos rfl]
    k_fold
    repeat' (first | ((fail_if_success (with_reducible show wpAny _ _ (eval (PySem.Expr.ListComp _ _ _ _) _) _ _ _)); (fail_if_success (with_reducible show wpAny _ _ (exec (PySem.Stmt.While _ _ _ _) _) _ _ _)); (fail_if_success (with_reducible show Exists _)); walk1) | (dsimp only; (fail_if_success (with_reducible show wpAny _ _ (eval (PySem.Expr.ListComp _ _ _ _) _) _ _ _)); (fail_if_success (with_reducible show wpAny _ _ (exec (PySem.Stmt.While _ _ _ _) _) _ _ _)); (fail_if_success (with_reducible show Exists _)); walk1))
    (try dsimp only)
    (try k_unfold)
    (try dsimp only)
    rename Fm _ _ _ _ _ => F3
    have F3 := F3.fits (l' := [(it, IterO oa (i + 1)), (acc, LstO ys), (_, TupO [.int p.2.1 _, .str p.2.2 _])]) (by walk_at "FITS")
    have ht := F3.at_ (List.Mem.tail _ (List.Mem.tail _ (List.Mem.head _)))
    obtain ⟨g5, kg5, F4, kf5⟩ := (F3.fits (l' := [(it, IterO oa (i + 1)), (acc, LstO ys)]) (by walk_at "FITS")).anew (by walk_at "MUT")
    refine ⟨g5, _, _, _, rfl, kg.trans kg5, F4, ?_⟩
    show Tups g5 (ys ++ [_]) (((pitems its).map (·.2)).take (i + 1))
    rw [List.take_succ, List.getElem?_map, hp]
    exact (hJ.keep kg5).append (.cons (ht.kf kf5 fun _ => frzT) .nil)
  case fin =>
    rintro D h' tk ys g' k1 k2 F4 hJ
    have hJ : Tups h' ys ((pitems its).map (·.2)) := by
      have hJ : Tups g' ys (((pitems its).map (·.2)).take ((pitems its).map (·.1)).length) := hJ
      rw [show ((pitems its).map (·.1)).length = ((pitems its).map (·.2)).length from by simp, List.take_length] at hJ; exact hJ.keep k2
    have hD := F4.at_ (.head _)
    have F5 := F4.fits (l' := ownL L) (by walk_at "FITS")
    have hrow := pitems_rows its fun p hp => (menu_ok _ (X.menu p hp)).1
    clear F4 k1 k2
    repeat' (first | walk1 | (dsimp only; walk1))
    refine callT (points_ok (G.keep F5.keep) (hra.keep F5.keep) (hT.keep F5.keep) (by rw [List.length_map]; omega) hh (by walk_at "DEPTH")) ?_
    rintro _ h2 tk2 ⟨l2, us, rfl, hl2, hT3, k3⟩
    (try dsimp only)
    repeat' (first | walk1 | (dsimp only; walk1))
    refine neTups (hD.keep k3) hl2 (hJ.keep k3) hT3 (by omega) ?_
    rw [hrow, decide_eq_true rfl]
    repeat' (first | walk1 | (dsimp only; walk1))
    (try dsimp only)
    k_unfold
    (try dsimp only)
    exact next h2 _ (F5.keeps k3)
end
end
section
local macro_rules | `(tactic| walk_at "GG") => `(tactic| first | assumption | exact GG.keep (by assumption) (Fm.keep (by assumption)))
local macro_rules | `(tactic| walk_at "AT") => `(tactic| first | assumption | exact Fm.at_ (by assumption) (by k_mem) | exact At.keep (by assumption) (Fm.keep (by assumption)))
local macro_rules | `(tactic| walk_at "CHG") => `(tactic| repeat (first | exact Chg.head | apply Chg.tail))
local macro_rules | `(tactic| walk_at "LIST") => `(tactic| first | exact isList_keep (by assumption) (Fm.keep (by assumption)) | exact isList_of (Fm.at_ (by assumption) (by k_mem)) | exact isList_of (by walk_at "AT"))
local macro_rules | `(tactic| walk_at "NUM") => `(tactic| first | decide | omega | (simp only [List.length_cons, List.length_nil]; omega))
local macro_rules | `(tactic| walk_at "eval Name") => `(tactic| first
  | (refine lv (by assumption) (by first | rfl | assumption) ?_)
  | (k_dflt (refine' gv ?G ?e ?_; (case G => walk_at "GG"); (case e => k_is); k_whole))
  | (k_dflt (refine' bv ?G ?e ?v ?_; (case G => walk_at "GG"); (case e => k_is); (case v => boot_by_name); k_whole)))
local macro_rules | `(tactic| walk_at "loadName") => `(tactic| (refine lvN (by assumption) (by first | rfl | assumption) ?_))
local macro_rules | `(tactic| walk_at "eval Constant int") => `(tactic| (with_reducible refine ci ?_; intro t' tk'))
local macro_rules | `(tactic| walk_at "eval Constant str") => `(tactic| (with_reducible refine cs ?_; intro t' tk'))
local macro_rules | `(tactic| walk_at "storeName") => `(tactic| (refine svT (by assumption) ?_; intro h' tk' F'))
local macro_rules | `(tactic| walk_at "binaryOp Add int int") => `(tactic| (with_reducible refine addI ?_; intro t' tk'))
local macro_rules | `(tactic| walk_at "inplaceOp Add int int") => `(tactic| (with_reducible refine iaddI ?_; intro t' tk'))
local macro_rules | `(tactic| walk_at "binaryOp Mod int int") => `(tactic| (refine modI (by omega) ?_; intro r' t' tk' hr1 hr2))
local macro_rules | `(tactic| walk_at "binaryOp FloorDiv int int") => `(tactic| (refine fdivI (by omega) (by omega) (by omega) (by omega) ?_; intro r' t' tk' hr1 hr2))
local macro_rules | `(tactic| walk_at "PART") => `(tactic| first | exact IsPart.none | exact IsPart.int _ _)
local macro_rules | `(tactic| walk_at "PICK") => `(tactic| first | exact pick_upto (by omega) | exact pick_run (by omega))
local macro_rules | `(tactic| walk_at "subscriptTail") => `(tactic| (k_dflt (first
  | ((with_reducible show wpAny _ _ (subscriptTail _ _ (Value.ref _) (Value.ref _)) _ _ _); refine' sliceL ?F ?x ?pl ?pu ?z ?e ?_; (case F => assumption); (case x => k_mem); (case pl => walk_at "PART"); (case pu => walk_at "PART"); (case z => walk_at "SZ"); (case e => walk_at "PICK"); k_whole; intro b' h' kp' F')
  | (refine' subL ?x ?a ?b ?c ?_; (case x => walk_at "AT"); (case a => walk_at "NUM"); (case b => walk_at "NUM"); (case c => first | rfl | assumption); k_whole)
  | (refine' sub2 ?x ?a ?_ ?_; (case x => walk_at "AT"); (case a => omega))
  | (refine' subM ?x ?T ?a ?b ?c ?_; (case x => walk_at "AT"); (case T => assumption); (case a => walk_at "NUM"); (case b => walk_at "NUM"); (case c => omega); k_whole; intro b' hR'))))
local macro_rules | `(tactic| walk_at "subscriptTail Subscript") => `(tactic| (k_dflt (refine' subScr ?x ?i ?a ?b ?c ?_; (case x => walk_at "LIST"); (case i => assumption); (case a => omega); (case b => omega); (case c => omega); k_whole); intro j' t'))
local macro_rules | `(tactic| walk_at "setItem") => `(tactic| (k_dflt (refine' setF ?F ?x ?a ?b ?c ?_; (case F => assumption); (case x => walk_at "CHG"); (case a => walk_at "NUM"); (case b => walk_at "NUM"); (case c => walk_at "NUM"); k_whole); intro h' F'; (try simp only [List.set_cons_zero, List.set_cons_succ, Int.reduceToNat] at F')))
local macro_rules | `(tactic| walk_at "call builtin:len") => `(tactic| (k_dflt (refine' lenI ?x ?a ?_; (case x => walk_at "LIST"); (case a => omega); k_whole); intro t' tk'))
local macro_rules | `(tactic| walk_at "SZ") => `(tactic| first | (rw [sizeLine_eq]; (try simp only [List.length_append, List.length_cons, List.length_nil, List.length_take]); omega) | size_fits)
local macro_rules | `(tactic| walk_at "callWith ref") => `(tactic| (k_dflt (refine' callG ?k1 ?k2 ?_; (case k1 => k_is); (case k2 => exact rfl))))
local macro_rules | `(tactic| walk_at "newList") => `(tactic| (refine newL (by assumption) (by walk_at "SZ") ?_; intro a' h' kp' F'))
local macro_rules | `(tactic| walk_at "newTuple") => `(tactic| (refine newT (by assumption) (by walk_at "SZ") ?_; intro a' h' kp' hat' F'))
local macro_rules | `(tactic| walk_at "eval Slice") => `(tactic| refine sliceF ?_)
local macro_rules | `(tactic| walk_at "Exists") => `(tactic| (refine ⟨_, _, _, _, by assumption, ?_⟩; intro a' h' kp' F'))
local macro_rules | `(tactic| walk_at "getMethod ref") => `(tactic| (k_dflt (first | refine methApp (by walk_at "AT") ?_ | refine methClr (by walk_at "AT") ?_)))
local macro_rules | `(tactic| walk_at "call builtin:list.append") => `(tactic| (k_dflt (refine' appL ?F ?c ?z ?_; (case F => assumption); (case c => walk_at "CHG"); (case z => walk_at "SZ"); k_whole); intro h' F'))
local macro_rules | `(tactic| walk_at "call builtin:list.clear") => `(tactic| (k_dflt (refine' clrL ?F ?c ?z ?_; (case F => assumption); (case c => walk_at "CHG"); (case z => walk_at "SZ"); k_whole); intro h' F'))
local macro_rules | `(tactic| walk_at "call type:range") => `(tactic| (refine range1 (by assumption) ?_; intro a' h' tk' kp' F'))
local macro_rules | `(tactic| walk_at "pyIter ref") => `(tactic| (k_dflt (refine' iterR ?F ?a ?b ?_; (case F => assumption); (case a => omega); (case b => omega); k_whole); intro it' h' kp' F'))
local macro_rules | `(tactic| walk_at "binaryOp Add ref ref") => `(tactic| (k_dflt (refine' addL ?F ?x ?y ?z ?_; (case F => assumption); (case x => walk_at "AT"); (case y => walk_at "AT"); (case z => walk_at "SZ"); k_whole); intro a' h' kp' F'))
local macro_rules | `(tactic| walk_at "exec For") => `(tactic| refine wpAny_For ?_)
local macro_rules | `(tactic| walk_at "DEPTH") => `(tactic| first | omega | ((try simp only [depth_deeper, depth_in1]); omega))
local macro_rules | `(tactic| walk_at "MUT") => `(tactic| repeat (first | exact Muts.nil | refine Muts.cons (by first | exact mutL | exact mutI | exact mutRI | exact mutR | exact mutS | exact mutCO) ?_))
local macro_rules | `(tactic| walk_at "CALL") => `(tactic| fail)
local macro_rules | `(tactic| walk_at "codeAny call") => `(tactic| walk_at "CALL")
local macro_rules | `(tactic| walk_at "FITS") => `(tactic| repeat (first | exact Fits.nil | exact Pull.head | apply Fits.cons | apply Pull.tail))
local macro_rules | `(tactic| walk_at "truthy ref") => `(tactic| (k_dflt (refine' truthyL ?x ?z ?_; (case x => walk_at "AT"); (case z => walk_at "SZ"); k_whole); intro tk'))
local macro_rules | `(tactic| walk_at "SETS") => `(tactic| first | exact setX (by walk_at "GG") | exact setI (by walk_at "GG") | exact setV (by walk_at "GG"))
local macro_rules | `(tactic| walk_at "compareOp In int ref") => `(tactic| (k_dflt (refine' inSet ?S ?_; (case S => walk_at "SETS"); k_whole); intro tk'))
local macro_rules | `(tactic| walk_at "compareOp NotIn int ref") => `(tactic| (k_dflt (refine' notInSet ?S ?_; (case S => walk_at "SETS"); k_whole); intro tk'))
local macro_rules | `(tactic| walk_at "compareOp In int ref") => `(tactic| (k_dflt (refine' inInts ?x ?I ?_; (case x => walk_at "AT"); (case I => assumption); k_whole)))
local macro_rules | `(tactic| walk_at "compareOp NotIn int ref") => `(tactic| (k_dflt (refine' notInInts ?x ?I ?_; (case x => walk_at "AT"); (case I => assumption); k_whole)))
local macro_rules | `(tactic| walk_at "assign Tuple") => `(tactic| (k_dflt (refine' asgT ?hh ?F ?x ?n ?st ?_; (case hh => assumption); (case F => assumption); (case x => walk_at "AT"); (case n => rfl); (case st => rfl); k_whole); intro h' kp' F'))
local macro_rules | `(tactic| walk_at "unpackItems ref") => `(tactic| (k_dflt (refine' unpI ?hh ?F ?x ?n ?_; (case hh => assumption); (case F => assumption); (case x => walk_at "AT"); (case n => rfl); k_whole); intro h' kp' F'))
local macro_rules | `(tactic| walk_at "pyIter ref") => `(tactic| (k_dflt (refine' iterL ?F ?x ?_; (case F => assumption); (case x => walk_at "AT"); k_whole); intro it' h' kp' F'))
local macro_rules | `(tactic| walk_at "newTuple") => `(tactic| (refine newTO (by assumption) (by walk_at "SZ") ?_; intro a' h' kp' F'))
local macro_rules | `(tactic| walk_at "getAttr ref") => `(tactic| ((with_reducible show wpAny _ _ (getAttr (Value.ref _) (PySem.Str.ofString "code") _) _ _ _); k_dflt (refine' getCodeF ?F ?G ?T ?r ?_; (case F => assumption); (case G => walk_at "GG"); (case T => exact TagAt.keep (by assumption) (Fm.keep (by assumption))); (case r => walk_at "DEPTH"); k_whole); intro t' h' tk' F'))
local macro_rules | `(tactic| walk_at "getAttr ref") => `(tactic| ((with_reducible show wpAny _ _ (getAttr (Value.ref _) (PySem.Str.ofString "value") _) _ _ _); k_dflt (refine' getValueF ?F ?G ?T ?r ?_; (case F => assumption); (case G => walk_at "GG"); (case T => exact TagAt.keep (by assumption) (Fm.keep (by assumption))); (case r => walk_at "DEPTH"); k_whole); intro t' h' tk' F'))
theorem tups_of {h : Heap} : ∀ {l : List Item}, (∀ p ∈ l, ∃ a t u, p.1 = .ref a ∧ At h a (TupO [.int p.2.1 t, .str p.2.2 u])) → Tups h (l.map (·.1)) (l.map (·.2))
  | [], _ => .nil
  | (v, c, x) :: l, q => by
    obtain ⟨a, t, u, e, z⟩ := q _ (.head _)
    obtain rfl : v = .ref a := e
    exact .cons z (tups_of fun p hp => q p (.tail _ hp))
theorem zip_of {h : Heap} {vs : List Value} {rows : List (Int × Str)} (T : Tups h vs rows) : ∀ p ∈ (vs.zip rows : List Item), ∃ a t u, p.1 = .ref a ∧ At h a (TupO [.int p.2.1 t, .str p.2.2 u]) := fun p hp => by
  obtain ⟨j, hj⟩ := List.getElem?_of_mem hp
  obtain ⟨q1, q2⟩ := List.getElem?_zip_eq_some.mp hj
  obtain ⟨a, c, x, t, u, e1, e2, z⟩ := T.get j (List.getElem?_eq_some_iff.mp q1).1
  rw [q1] at e1
  rw [q2] at e2
  injection e1 with e1
  injection e2 with e2
  exact ⟨a, t, u, e1, by rw [e2]; exact z⟩
section
variable {prog : Program} {w : World} {A : Around} {E : Value → Shared → Prop} {s : Shared} {R : Result → Shared → Prop}
theorem phaseB2 {name qual : Str} {params : Arguments} {body : List Stmt} {scope : Scope} {dV kV doc pm cdv ct oc : Value} {an od : Option Addr} {osl : Array (Option Value)} {B : Heap} {L : Addr} {m : Str → Option Value} {its : List Item} {Q : Flow → Shared → Prop}
    (ho : (hd.heap_39 w.params).lookup 181 = some ⟨oc, od, .func (fnOf name qual params body scope dV kV doc pm an cdv ct), osl⟩)
    (G : GG w B) (F : Fm B L m (ownL L) s.heap) (X : LR B m its) (hh : A.handled = none) (hroom : A.depth + 60 < recursionLimit) (hu : A.units + 100 < cLine)
    (next : ∀ h tk, Fm B L m (ownL L) h → wpC (model prog w) A (execs (body.drop 6) (envL qual scope L cdv)) Q E { s with heap := h, toks := tk, gens := s.gens.push .finished }) :
    wpC (model prog w) A (execs (body.drop 5) (envL qual scope L cdv)) Q E s := by
  revert next
  refine withBody ho (by k_is) (P := fun body qual scope cdv => (∀ h tk, Fm B L m (ownL L) h → wpC (model prog w) A (execs (body.drop 6) (envL qual scope L cdv)) Q E { s with heap := h, toks := tk, gens := s.gens.push .finished }) →
    wpC (model prog w) A (execs (body.drop 5) (envL qual scope L cdv)) Q E s) ?_
  intro next
  obtain ⟨ra, vs, mr, hra, hT⟩ := X.rows
  have few := X.few
  have hlen := hT.length
  have hz := zip_of hT
  have z1 : (vs.zip (its.map (·.2))).map (·.1) = vs := List.map_fst_zip (by rw [hlen]; exact Nat.le_refl _)
  have z2 : (vs.zip (its.map (·.2))).map (·.2) = its.map (·.2) := List.map_snd_zip (by rw [hlen]; exact Nat.le_refl _)
  have zl : (vs.zip (its.map (·.2))).length ≤ 26 := by rw [List.length_zip, List.length_map]; omega
  have z0 : ∀ p ∈ (vs.zip (its.map (·.2)) : List Item), 0 ≤ p.2.1 := fun p hp => by
    have : p.2 ∈ its.map (·.2) := (List.of_mem_zip hp).2
    obtain ⟨q, hq, e⟩ := List.mem_map.mp this
    rw [← e]; exact (menu_ok _ (X.menu q hq)).1
  generalize hzz : (vs.zip (its.map (·.2)) : List Item) = zs at hz z1 z2 zl z0
  have hrow := pitems_rows zs z0
  rw [z2] at hrow
  simp only [List.drop_succ_cons, List.drop_zero] at next ⊢
  refine execsC_cons (wpC.of ?_)
  k_fold
  repeat' (first | walk1 | (dsimp only; walk1))
  have e2 : (zs.map fun p => (p.1, p.2.1)).map (·.1) = vs := by rw [List.map_map]; exact z1
  have hP : At s.heap ra (LstO ((zs.map fun p => (p.1, p.2.1)).map (·.1))) ∧ ∀ p ∈ zs.map fun p => (p.1, p.2.1), Itm s.heap p.1 p.2 := by
    refine ⟨by rw [e2]; exact hra.keep F.keep, fun p hp => ?_⟩
    obtain ⟨q, hq, rfl⟩ := List.mem_map.mp hp
    obtain ⟨a, t, u, e, T⟩ := hz q hq
    exact ⟨a, e, .inl ⟨t, _, T.keep F.keep⟩⟩
  refine pts_call (its := zs.map fun p => (p.1, p.2.1)) (G.keep F.keep) (by walk_at "DEPTH") (by rw [List.length_map]; omega) hP.1 hP.2 fun L1 a1 h5 tk5 cod nL1 k5 N => ?_
  repeat' (first | walk1 | (dsimp only; walk1))
  refine listOwn (g0 := s.heap) hh (by walk_at "DEPTH") (G.keep F.keep) hP ⟨N.run, N.gen, N.ne⟩ k5 nL1 ?sz fun S h6 tk6 nS hS k6 => ?_
  case sz =>
    rw [← pitems_vals, List.length_map, sizeLine_eq]
    have := (pitems_sub zs).length_le
    omega
  rw [← pitems_vals] at hS
  have F7 := F.keeps (keep_off k5 nL1 k6)
  have hTS : Tups h6 ((pitems zs).map (·.1)) ((pitems zs).map (·.2)) := tups_of fun p hp => let ⟨a, t, u, e, T⟩ := hz p ((pitems_sub zs).mem hp); ⟨a, t, u, e, T.keep F7.keep⟩
  clear k6 N hP k5
  repeat' (first | walk1 | (dsimp only; walk1))
  refine callT (points_ok (G.keep F7.keep) (hra.keep F7.keep) (hT.keep F7.keep) (by rw [List.length_map]; omega) hh (by walk_at "DEPTH")) ?_
  rintro _ h2 tk2 ⟨l2, us, rfl, hl2, hT3, k3⟩
  (try dsimp only)
  repeat' (first | walk1 | (dsimp only; walk1))
  refine neTups (hS.keep k3) hl2 (hTS.keep k3) hT3 (by omega) ?_
  rw [hrow, decide_eq_true rfl]
  repeat' (first | walk1 | (dsimp only; walk1))
  (try dsimp only)
  k_unfold
  (try dsimp only)
  exact next h2 _ (F7.keeps k3)
end
end
section
local macro_rules | `(tactic| walk_at "GG") => `(tactic| first | assumption | exact GG.keep (by assumption) (Fm.keep (by assumption)))
local macro_rules | `(tactic| walk_at "AT") => `(tactic| first | assumption | exact Fm.at_ (by assumption) (by k_mem) | exact At.keep (by assumption) (Fm.keep (by assumption)))
local macro_rules | `(tactic| walk_at "CHG") => `(tactic| repeat (first | exact Chg.head | apply Chg.tail))
local macro_rules | `(tactic| walk_at "LIST") => `(tactic| first | exact isList_keep (by assumption) (Fm.keep (by assumption)) | exact isList_of (Fm.at_ (by assumption) (by k_mem)) | exact isList_of (by walk_at "AT"))
local macro_rules | `(tactic| walk_at "NUM") => `(tactic| first | decide | omega | (simp only [List.length_cons, List.length_nil]; omega))
local macro_rules | `(tactic| walk_at "eval Name") => `(tactic| first
  | (refine lv (by assumption) (by first | rfl | assumption) ?_)
  | (k_dflt (refine' gv ?G ?e ?_; (case G => walk_at "GG"); (case e => k_is); k_whole))
  | (k_dflt (refine' bv ?G ?e ?v ?_; (case G => walk_at "GG"); (case e => k_is); (case v => boot_by_name); k_whole)))
local macro_rules | `(tactic| walk_at "loadName") => `(tactic| (refine lvN (by assumption) (by first | rfl | assumption) ?_))
local macro_rules | `(tactic| walk_at "eval Constant int") => `(tactic| (with_reducible refine ci ?_; intro t' tk'))
local macro_rules | `(tactic| walk_at "eval Constant str") => `(tactic| (with_reducible refine cs ?_; intro t' tk'))
local macro_rules | `(tactic| walk_at "storeName") => `(tactic| (refine svT (by assumption) ?_; intro h' tk' F'))
local macro_rules | `(tactic| walk_at "binaryOp Add int int") => `(tactic| (with_reducible refine addI ?_; intro t' tk'))
local macro_rules | `(tactic| walk_at "inplaceOp Add int int") => `(tactic| (with_reducible refine iaddI ?_; intro t' tk'))
local macro_rules | `(tactic| walk_at "binaryOp Mod int int") => `(tactic| (refine modI (by omega) ?_; intro r' t' tk' hr1 hr2))
local macro_rules | `(tactic| walk_at "binaryOp FloorDiv int int") => `(tactic| (refine fdivI (by omega) (by omega) (by omega) (by omega) ?_; intro r' t' tk' hr1 hr2))
local macro_rules | `(tactic| walk_at "PART") => `(tactic| first | exact IsPart.none | exact IsPart.int _ _)
local macro_rules | `(tactic| walk_at "PICK") => `(tactic| first | exact pick_upto (by omega) | exact pick_run (by omega))
local macro_rules | `(tactic| walk_at "subscriptTail") => `(tactic| (k_dflt (first
  | ((with_reducible show wpAny _ _ (subscriptTail _ _ (Value.ref _) (Value.ref _)) _ _ _); refine' sliceL ?F ?x ?pl ?pu ?z ?e ?_; (case F => assumption); (case x => k_mem); (case pl => walk_at "PART"); (case pu => walk_at "PART"); (case z => walk_at "SZ"); (case e => walk_at "PICK"); k_whole; intro b' h' kp' F')
  | (refine' subL ?x ?a ?b ?c ?_; (case x => walk_at "AT"); (case a => walk_at "NUM"); (case b => walk_at "NUM"); (case c => first | rfl | assumption); k_whole)
  | (refine' sub2 ?x ?a ?_ ?_; (case x => walk_at "AT"); (case a => omega))
  | (refine' subM ?x ?T ?a ?b ?c ?_; (case x => walk_at "AT"); (case T => assumption); (case a => walk_at "NUM"); (case b => walk_at "NUM"); (case c => omega); k_whole; intro b' hR'))))
local macro_rules | `(tactic| walk_at "subscriptTail Subscript") => `(tactic| (k_dflt (refine' subScr ?x ?i ?a ?b ?c ?_; (case x => walk_at "LIST"); (case i => assumption); (case a => omega); (case b => omega); (case c => omega); k_whole); intro j' t'))
local macro_rules | `(tactic| walk_at "setItem") => `(tactic| (k_dflt (refine' setF ?F ?x ?a ?b ?c ?_; (case F => assumption); (case x => walk_at "CHG"); (case a => walk_at "NUM"); (case b => walk_at "NUM"); (case c => walk_at "NUM"); k_whole); intro h' F'; (try simp only [List.set_cons_zero, List.set_cons_succ, Int.reduceToNat] at F')))
local macro_rules | `(tactic| walk_at "call builtin:len") => `(tactic| (k_dflt (refine' lenI ?x ?a ?_; (case x => walk_at "LIST"); (case a => omega); k_whole); intro t' tk'))
local macro_rules | `(tactic| walk_at "SZ") => `(tactic| first | (rw [sizeLine_eq]; (try simp only [List.length_append, List.length_cons, List.length_nil, List.length_take]); omega) | size_fits)
local macro_rules | `(tactic| walk_at "callWith ref") => `(tactic| (k_dflt (refine' callG ?k1 ?k2 ?_; (case k1 => k_is); (case k2 => exact rfl))))
local macro_rules | `(tactic| walk_at "newList") => `(tactic| (refine newL (by assumption) (by walk_at "SZ") ?_; intro a' h' kp' F'))
local macro_rules | `(tactic| walk_at "newTuple") => `(tactic| (refine newT (by assumption) (by walk_at "SZ") ?_; intro a' h' kp' hat' F'))
local macro_rules | `(tactic| walk_at "eval Slice") => `(tactic| refine sliceF ?_)
local macro_rules | `(tactic| walk_at "Exists") => `(tactic| (refine ⟨_, _, _, _, by assumption, ?_⟩; intro a' h' kp' F'))
local macro_rules | `(tactic| walk_at "getMethod ref") => `(tactic| (k_dflt (first | refine methApp (by walk_at "AT") ?_ | refine methClr (by walk_at "AT") ?_)))
local macro_rules | `(tactic| walk_at "call builtin:list.append") => `(tactic| (k_dflt (refine' appL ?F ?c ?z ?_; (case F => assumption); (case c => walk_at "CHG"); (case z => walk_at "SZ"); k_whole); intro h' F'))
local macro_rules | `(tactic| walk_at "call builtin:list.clear") => `(tactic| (k_dflt (refine' clrL ?F ?c ?z ?_; (case F => assumption); (case c => walk_at "CHG"); (case z => walk_at "SZ"); k_whole); intro h' F'))
local macro_rules | `(tactic| walk_at "call type:range") => `(tactic| (refine range1 (by assumption) ?_; intro a' h' tk' kp' F'))
local macro_rules | `(tactic| walk_at "pyIter ref") => `(tactic| (k_dflt (refine' iterR ?F ?a ?b ?_; (case F => assumption); (case a => omega); (case b => omega); k_whole); intro it' h' kp' F'))
local macro_rules | `(tactic| walk_at "binaryOp Add ref ref") => `(tactic| (k_dflt (refine' addL ?F ?x ?y ?z ?_; (case F => assumption); (case x => walk_at "AT"); (case y => walk_at "AT"); (case z => walk_at "SZ"); k_whole); intro a' h' kp' F'))
local macro_rules | `(tactic| walk_at "exec For") => `(tactic| refine wpAny_For ?_)
local macro_rules | `(tactic| walk_at "DEPTH") => `(tactic| first | omega | ((try simp only [depth_deeper, depth_in1]); omega))
local macro_rules | `(tactic| walk_at "MUT") => `(tactic| repeat (first | exact Muts.nil | refine Muts.cons (by first | exact mutL | exact mutI | exact mutRI | exact mutR | exact mutS | exact mutCO) ?_))
local macro_rules | `(tactic| walk_at "CALL") => `(tactic| fail)
local macro_rules | `(tactic| walk_at "codeAny call") => `(tactic| walk_at "CALL")
local macro_rules | `(tactic| walk_at "FITS") => `(tactic| repeat (first | exact Fits.nil | exact Pull.head | apply Fits.cons | apply Pull.tail))
local macro_rules | `(tactic| walk_at "truthy ref") => `(tactic| (k_dflt (refine' truthyL ?x ?z ?_; (case x => walk_at "AT"); (case z => walk_at "SZ"); k_whole); intro tk'))
local macro_rules | `(tactic| walk_at "SETS") => `(tactic| first | exact setX (by walk_at "GG") | exact setI (by walk_at "GG") | exact setV (by walk_at "GG"))
local macro_rules | `(tactic| walk_at "compareOp In int ref") => `(tactic| (k_dflt (refine' inSet ?S ?_; (case S => walk_at "SETS"); k_whole); intro tk'))
local macro_rules | `(tactic| walk_at "compareOp NotIn int ref") => `(tactic| (k_dflt (refine' notInSet ?S ?_; (case S => walk_at "SETS"); k_whole); intro tk'))
local macro_rules | `(tactic| walk_at "compareOp In int ref") => `(tactic| (k_dflt (refine' inInts ?x ?I ?_; (case x => walk_at "AT"); (case I => assumption); k_whole)))
local macro_rules | `(tactic| walk_at "compareOp NotIn int ref") => `(tactic| (k_dflt (refine' notInInts ?x ?I ?_; (case x => walk_at "AT"); (case I => assumption); k_whole)))
local macro_rules | `(tactic| walk_at "assign Tuple") => `(tactic| (k_dflt (refine' asgT ?hh ?F ?x ?n ?st ?_; (case hh => assumption); (case F => assumption); (case x => walk_at "AT"); (case n => rfl); (case st => rfl); k_whole); intro h' kp' F'))
local macro_rules | `(tactic| walk_at "unpackItems ref") => `(tactic| (k_dflt (refine' unpI ?hh ?F ?x ?n ?_; (case hh => assumption); (case F => assumption); (case x => walk_at "AT"); (case n => rfl); k_whole); intro h' kp' F'))
local macro_rules | `(tactic| walk_at "pyIter ref") => `(tactic| (k_dflt (refine' iterL ?F ?x ?_; (case F => assumption); (case x => walk_at "AT"); k_whole); intro it' h' kp' F'))
local macro_rules | `(tactic| walk_at "newTuple") => `(tactic| (refine newTO (by assumption) (by walk_at "SZ") ?_; intro a' h' kp' F'))
local macro_rules | `(tactic| walk_at "getAttr ref") => `(tactic| ((with_reducible show wpAny _ _ (getAttr (Value.ref _) (PySem.Str.ofString "code") _) _ _ _); k_dflt (refine' getCodeF ?F ?G ?T ?r ?_; (case F => assumption); (case G => walk_at "GG"); (case T => exact TagAt.keep (by assumption) (Fm.keep (by assumption))); (case r => walk_at "DEPTH"); k_whole); intro t' h' tk' F'))
local macro_rules | `(tactic| walk_at "getAttr ref") => `(tactic| ((with_reducible show wpAny _ _ (getAttr (Value.ref _) (PySem.Str.ofString "value") _) _ _ _); k_dflt (refine' getValueF ?F ?G ?T ?r ?_; (case F => assumption); (case G => walk_at "GG"); (case T => exact TagAt.keep (by assumption) (Fm.keep (by assumption))); (case r => walk_at "DEPTH"); k_whole); intro t' h' tk' F'))
section
variable {prog : Program} {w : World} {A : Around} {E : Value → Shared → Prop} {s : Shared} {R : Result → Shared → Prop}
theorem phaseB3 {name qual : Str} {params : Arguments} {body : List Stmt} {scope : Scope} {dV kV doc pm cdv ct oc : Value} {an od : Option Addr} {osl : Array (Option Value)} {B : Heap} {L : Addr} {m : Str → Option Value} {its : List Item} {Q : Flow → Shared → Prop}
    (ho : (hd.heap_39 w.params).lookup 181 = some ⟨oc, od, .func (fnOf name qual params body scope dV kV doc pm an cdv ct), osl⟩)
    (G : GG w B) (F : Fm B L m (ownL L) s.heap) (X : LR B m its) (hh : A.handled = none) (hroom : A.depth + 60 < recursionLimit) (hu : A.units + 100 < cLine) (hb : AllBare s.gens)
    (next : ∀ h tk gens, Fm B L m (ownL L) h → AllBare gens → wpC (model prog w) A (execs (body.drop 7) (envL qual scope L cdv)) Q E { s with heap := h, toks := tk, gens := gens }) :
    wpC (model prog w) A (execs (body.drop 6) (envL qual scope L cdv)) Q E s := by
  revert next
  refine withBody ho (by k_is) (P := fun body qual scope cdv => (∀ h tk gens, Fm B L m (ownL L) h → AllBare gens → wpC (model prog w) A (execs (body.drop 7) (envL qual scope L cdv)) Q E { s with heap := h, toks := tk, gens := gens }) →
    wpC (model prog w) A (execs (body.drop 6) (envL qual scope L cdv)) Q E s) ?_
  intro next
  obtain ⟨ra, vs, mr, hra, hT⟩ := X.rows
  obtain ⟨oa, mo, hoa⟩ := X.once
  have few := X.few
  have hsub := pitems_sub its
  have fewo : (pitems its).length ≤ 26 := Nat.le_trans hsub.length_le few
  have hT2 : ∀ p ∈ pitems its, ∃ a, p.1 = .ref a ∧ TagAt B a p.2.1 p.2.2 := fun p hp => X.tags p (hsub.mem hp)
  simp only [List.drop_succ_cons, List.drop_zero] at next ⊢
  refine execsC_cons (wpC.of ?_)
  k_fold
  repeat' (first | walk1 | (dsimp only; walk1))
  refine callT (whole_ok (G.keep F.keep) (hra.keep F.keep) (hT.keep F.keep) (by rw [List.length_map]; omega) hh (by walk_at "DEPTH")) ?_
  rintro _ h1 tk1 ⟨l1, us1, rfl, hl1, hW, k1⟩
  have F1 := F.keeps k1
  (try dsimp only)
  repeat' (first | walk1 | (dsimp only; walk1))
  refine callT (points_ok (G.keep F1.keep) (hra.keep F1.keep) (hT.keep F1.keep) (by rw [List.length_map]; omega) hh (by walk_at "DEPTH")) ?_
  rintro _ h2 tk2 ⟨l2, us, rfl, hl2, hT3, k3⟩
  have F2 := F1.keeps k3
  (try dsimp only)
  repeat' (first | walk1 | (dsimp only; walk1))
  refine eqTups (hl1.keep k3) hl2 (hW.keep k3) hT3 (by omega) ?_
  repeat' (first | walk1 | (dsimp only; walk1))
  · rename_i hw
    have hw : whole its.length (its.map (·.2)) = LS.run ⟨[], [], none, 0⟩ (its.map (·.2)) := by
      rw [List.length_map] at hw
      exact hw
    have again := pitems_again its (fun p hp => ⟨(menu_ok _ (X.menu p hp)).1, (menu_ok _ (X.menu p hp)).2.1⟩) hw
    have e2 : ((pitems its).map fun p => (p.1, p.2.1)).map (·.1) = (pitems its).map (·.1) := by rw [List.map_map]; rfl
    have hP : At h2 oa (LstO (((pitems its).map fun p => (p.1, p.2.1)).map (·.1))) ∧ ∀ p ∈ (pitems its).map fun p => (p.1, p.2.1), Itm h2 p.1 p.2 := by
      refine ⟨by rw [e2]; exact hoa.keep F2.keep, fun p hp => ?_⟩
      obtain ⟨q, hq, rfl⟩ := List.mem_map.mp hp
      obtain ⟨x, e, T⟩ := hT2 q hq
      exact ⟨x, e, .inr ⟨_, T.keep F2.keep⟩⟩
    refine pts_call (its := (pitems its).map fun p => (p.1, p.2.1)) (G.keep F2.keep) (by walk_at "DEPTH") (by rw [List.length_map]; omega) hP.1 hP.2 fun L1 a1 h5 tk5 cod nL1 k5 N => ?_
    repeat' (first | walk1 | (dsimp only; walk1))
    refine listOwn (g0 := h2) hh (by walk_at "DEPTH") (G.keep F2.keep) hP ⟨N.run, N.gen, N.ne⟩ k5 nL1 ?sz fun S h6 tk6 nS hS k6 => ?_
    case sz =>
      rw [← pitems_vals, List.length_map, sizeLine_eq]
      have := (pitems_sub (pitems its)).length_le
      omega
    rw [← pitems_vals, again] at hS
    have F7 := F2.keeps (keep_off k5 nL1 k6)
    clear k6 N hP k5
    repeat' (first | walk1 | (dsimp only; walk1))
    refine neSame hS (hoa.keep F7.keep) (by omega) ?_
    repeat' (first | walk1 | (dsimp only; walk1))
    (try dsimp only)
    k_unfold
    (try dsimp only)
    exact next h6 _ _ F7 (hb.push rfl)
  · (try dsimp only)
    k_unfold
    (try dsimp only)
    exact next h2 _ _ F2 hb
end
end
section
local macro_rules | `(tactic| walk_at "GG") => `(tactic| first | assumption | exact GG.keep (by assumption) (Fm.keep (by assumption)))
local macro_rules | `(tactic| walk_at "AT") => `(tactic| first | assumption | exact Fm.at_ (by assumption) (by k_mem) | exact At.keep (by assumption) (Fm.keep (by assumption)))
local macro_rules | `(tactic| walk_at "CHG") => `(tactic| repeat (first | exact Chg.head | apply Chg.tail))
local macro_rules | `(tactic| walk_at "LIST") => `(tactic| first | exact isList_keep (by assumption) (Fm.keep (by assumption)) | exact isList_of (Fm.at_ (by assumption) (by k_mem)) | exact isList_of (by walk_at "AT"))
local macro_rules | `(tactic| walk_at "NUM") => `(tactic| first | decide | omega | (simp only [List.length_cons, List.length_nil]; omega))
local macro_rules | `(tactic| walk_at "eval Name") => `(tactic| first
  | (refine lv (by assumption) (by first | rfl | assumption) ?_)
  | (k_dflt (refine' gv ?G ?e ?_; (case G => walk_at "GG"); (case e => k_is); k_whole))
  | (k_dflt (refine' bv ?G ?e ?v ?_; (case G => walk_at "GG"); (case e => k_is); (case v => boot_by_name); k_whole)))
local macro_rules | `(tactic| walk_at "loadName") => `(tactic| (refine lvN (by assumption) (by first | rfl | assumption) ?_))
local macro_rules | `(tactic| walk_at "eval Constant int") => `(tactic| (with_reducible refine ci ?_; intro t' tk'))
local macro_rules | `(tactic| walk_at "eval Constant str") => `(tactic| (with_reducible refine cs ?_; intro t' tk'))
local macro_rules | `(tactic| walk_at "storeName") => `(tactic| (refine svT (by assumption) ?_; intro h' tk' F'))
local macro_rules | `(tactic| walk_at "binaryOp Add int int") => `(tactic| (with_reducible refine addI ?_; intro t' tk'))
local macro_rules | `(tactic| walk_at "inplaceOp Add int int") => `(tactic| (with_reducible refine iaddI ?_; intro t' tk'))
local macro_rules | `(tactic| walk_at "binaryOp Mod int int") => `(tactic| (refine modI (by omega) ?_; intro r' t' tk' hr1 hr2))
local macro_rules | `(tactic| walk_at "binaryOp FloorDiv int int") => `(tactic| (refine fdivI (by omega) (by omega) (by omega) (by omega) ?_; intro r' t' tk' hr1 hr2))
local macro_rules | `(tactic| walk_at "PART") => `(tactic| first | exact IsPart.none | exact IsPart.int _ _)
local macro_rules | `(tactic| walk_at "PICK") => `(tactic| first | exact pick_upto (by omega) | exact pick_run (by omega))
local macro_rules | `(tactic| walk_at "subscriptTail") => `(tactic| (k_dflt (first
  | ((with_reducible show wpAny _ _ (subscriptTail _ _ (Value.ref _) (Value.ref _)) _ _ _); refine' sliceL ?F ?x ?pl ?pu ?z ?e ?_; (case F => assumption); (case x => k_mem); (case pl => walk_at "PART"); (case pu => walk_at "PART"); (case z => walk_at "SZ"); (case e => walk_at "PICK"); k_whole; intro b' h' kp' F')
  | (refine' subL ?x ?a ?b ?c ?_; (case x => walk_at "AT"); (case a => walk_at "NUM"); (case b => walk_at "NUM"); (case c => first | rfl | assumption); k_whole)
  | (refine' sub2 ?x ?a ?_ ?_; (case x => walk_at "AT"); (case a => omega))
  | (refine' subM ?x ?T ?a ?b ?c ?_; (case x => walk_at "AT"); (case T => assumption); (case a => walk_at "NUM"); (case b => walk_at "NUM"); (case c => omega); k_whole; intro b' hR'))))
local macro_rules | `(tactic| walk_at "subscriptTail Subscript") => `(tactic| (k_dflt (refine' subScr ?x ?i ?a ?b ?c ?_; (case x => walk_at "LIST"); (case i => assumption); (case a => omega); (case b => omega); (case c => omega); k_whole); intro j' t'))
local macro_rules | `(tactic| walk_at "setItem") => `(tactic| (k_dflt (refine' setF ?F ?x ?a ?b ?c ?_; (case F => assumption); (case x => walk_at "CHG"); (case a => walk_at "NUM"); (case b => walk_at "NUM"); (case c => walk_at "NUM"); k_whole); intro h' F'; (try simp only [List.set_cons_zero, List.set_cons_succ, Int.reduceToNat] at F')))
local macro_rules | `(tactic| walk_at "call builtin:len") => `(tactic| (k_dflt (refine' lenI ?x ?a ?_; (case x => walk_at "LIST"); (case a => omega); k_whole); intro t' tk'))
local macro_rules | `(tactic| walk_at "SZ") => `(tactic| first | (rw [sizeLine_eq]; (try simp only [List.length_append, List.length_cons, List.length_nil, List.length_take]); omega) | size_fits)
local macro_rules | `(tactic| walk_at "callWith ref") => `(tactic| (k_dflt (refine' callG ?k1 ?k2 ?_; (case k1 => k_is); (case k2 => exact rfl))))
local macro_rules | `(tactic| walk_at "newList") => `(tactic| (refine newL (by assumption) (by walk_at "SZ") ?_; intro a' h' kp' F'))
local macro_rules | `(tactic| walk_at "newTuple") => `(tactic| (refine newT (by assumption) (by walk_at "SZ") ?_; intro a' h' kp' hat' F'))
local macro_rules | `(tactic| walk_at "eval Slice") => `(tactic| refine sliceF ?_)
local macro_rules | `(tactic| walk_at "Exists") => `(tactic| (refine ⟨_, _, _, _, by assumption, ?_⟩; intro a' h' kp' F'))
local macro_rules | `(tactic| walk_at "getMethod ref") => `(tactic| (k_dflt (first | refine methApp (by walk_at "AT") ?_ | refine methClr (by walk_at "AT") ?_)))
local macro_rules | `(tactic| walk_at "call builtin:list.append") => `(tactic| (k_dflt (refine' appL ?F ?c ?z ?_; (case F => assumption); (case c => walk_at "CHG"); (case z => walk_at "SZ"); k_whole); intro h' F'))
local macro_rules | `(tactic| walk_at "call builtin:list.clear") => `(tactic| (k_dflt (refine' clrL ?F ?c ?z ?_; (case F => assumption); (case c => walk_at "CHG"); (case z => walk_at "SZ"); k_whole); intro h' F'))
local macro_rules | `(tactic| walk_at "call type:range") => `(tactic| (refine range1 (by assumption) ?_; intro a' h' tk' kp' F'))
local macro_rules | `(tactic| walk_at "pyIter ref") => `(tactic| (k_dflt (refine' iterR ?F ?a ?b ?_; (case F => assumption); (case a => omega); (case b => omega); k_whole); intro it' h' kp' F'))
local macro_rules | `(tactic| walk_at "binaryOp Add ref ref") => `(tactic| (k_dflt (refine' addL ?F ?x ?y ?z ?_; (case F => assumption); (case x => walk_at "AT"); (case y => walk_at "AT"); (case z => walk_at "SZ"); k_whole); intro a' h' kp' F'))
local macro_rules | `(tactic| walk_at "exec For") => `(tactic| refine wpAny_For ?_)
local macro_rules | `(tactic| walk_at "DEPTH") => `(tactic| first | omega | ((try simp only [depth_deeper, depth_in1]); omega))
local macro_rules | `(tactic| walk_at "MUT") => `(tactic| repeat (first | exact Muts.nil | refine Muts.cons (by first | exact mutL | exact mutI | exact mutRI | exact mutR | exact mutS | exact mutCO) ?_))
local macro_rules | `(tactic| walk_at "CALL") => `(tactic| fail)
local macro_rules | `(tactic| walk_at "codeAny call") => `(tactic| walk_at "CALL")
local macro_rules | `(tactic| walk_at "FITS") => `(tactic| repeat (first | exact Fits.nil | exact Pull.head | apply Fits.cons | apply Pull.tail))
local macro_rules | `(tactic| walk_at "truthy ref") => `(tactic| (k_dflt (refine' truthyL ?x ?z ?_; (case x => walk_at "AT"); (case z => walk_at "SZ"); k_whole); intro tk'))
local macro_rules | `(tactic| walk_at "SETS") => `(tactic| first | exact setX (by walk_at "GG") | exact setI (by walk_at "GG") | exact setV (by walk_at "GG"))
local macro_rules | `(tactic| walk_at "compareOp In int ref") => `(tactic| (k_dflt (refine' inSet ?S ?_; (case S => walk_at "SETS"); k_whole); intro tk'))
local macro_rules | `(tactic| walk_at "compareOp NotIn int ref") => `(tactic| (k_dflt (refine' notInSet ?S ?_; (case S => walk_at "SETS"); k_whole); intro tk'))
local macro_rules | `(tactic| walk_at "compareOp In int ref") => `(tactic| (k_dflt (refine' inInts ?x ?I ?_; (case x => walk_at "AT"); (case I => assumption); k_whole)))
local macro_rules | `(tactic| walk_at "compareOp NotIn int ref") => `(tactic| (k_dflt (refine' notInInts ?x ?I ?_; (case x => walk_at "AT"); (case I => assumption); k_whole)))
local macro_rules | `(tactic| walk_at "assign Tuple") => `(tactic| (k_dflt (refine' asgT ?hh ?F ?x ?n ?st ?_; (case hh => assumption); (case F => assumption); (case x => walk_at "AT"); (case n => rfl); (case st => rfl); k_whole); intro h' kp' F'))
local macro_rules | `(tactic| walk_at "unpackItems ref") => `(tactic| (k_dflt (refine' unpI ?hh ?F ?x ?n ?_; (case hh => assumption); (case F => assumption); (case x => walk_at "AT"); (case n => rfl); k_whole); intro h' kp' F'))
local macro_rules | `(tactic| walk_at "pyIter ref") => `(tactic| (k_dflt (refine' iterL ?F ?x ?_; (case F => assumption); (case x => walk_at "AT"); k_whole); intro it' h' kp' F'))
local macro_rules | `(tactic| walk_at "newTuple") => `(tactic| (refine newTO (by assumption) (by walk_at "SZ") ?_; intro a' h' kp' F'))
local macro_rules | `(tactic| walk_at "getAttr ref") => `(tactic| ((with_reducible show wpAny _ _ (getAttr (Value.ref _) (PySem.Str.ofString "code") _) _ _ _); k_dflt (refine' getCodeF ?F ?G ?T ?r ?_; (case F => assumption); (case G => walk_at "GG"); (case T => exact TagAt.keep (by assumption) (Fm.keep (by assumption))); (case r => walk_at "DEPTH"); k_whole); intro t' h' tk' F'))
local macro_rules | `(tactic| walk_at "getAttr ref") => `(tactic| ((with_reducible show wpAny _ _ (getAttr (Value.ref _) (PySem.Str.ofString "value") _) _ _ _); k_dflt (refine' getValueF ?F ?G ?T ?r ?_; (case F => assumption); (case G => walk_at "GG"); (case T => exact TagAt.keep (by assumption) (Fm.keep (by assumption))); (case r => walk_at "DEPTH"); k_whole); intro t' h' tk' F'))
section
variable {prog : Program} {w : World} {A : Around} {E : Value → Shared → Prop} {s : Shared} {R : Result → Shared → Prop} {env : Env}
theorem withEnv {P : Prop} {A : Around} {L : Addr} {e : Env} (h1 : A.frames = some [e]) (h2 : e.frame = some L) (h3 : e.scope.kind ≠ .module) (h : ∀ env0 : Env, A.frames = some [env0] → env0.frame = some L → env0.scope.kind ≠ .module → P) : P := h e h1 h2 h3
theorem ifC {test : Expr} {body orelse : List Stmt} {pos : Pos} {Q : Flow → Shared → Prop}
    (h : wpC (model prog w) A (isTrue test env (eval test env)) (fun b s₂ => if b = true then wpC (model prog w) A (execs body env) Q E s₂ else wpC (model prog w) A (execs orelse env) Q E s₂) E s) : wpC (model prog w) A (exec (.If test body orelse pos) env) Q E s := by
  rw [exec_If]
  refine wpC_lead (wpAny_standAt (wpC_bind (wpC_mono h (fun b s₂ h₂ => ?_) fun _ _ x => x)))
  cases b <;> exact h₂
theorem opC {vs : List Value} {m : Sem Value} {Q : Value → Shared → Prop} (h : wpAny (model prog w) A m Q E s) : wpAny (model prog w) A (operate vs m) Q E s := fun Γ p hΓ => by rw [Sem.wp_operate]; exact h Γ p hΓ
theorem cmpC {l r : Expr} {op : CmpOp} {pos : Pos} {wh : Sem Value} {Q : Bool → Shared → Prop}
    (h : wpC (model prog w) A (eval l env) (fun a s₁ => wpAny (model prog w) A (eval r env) (fun b s₂ => wpAny (model prog w) A (compareOp op a b) (fun c s₃ => ∃ v, c = .bool v ∧ Q v s₃) E s₂) E s₁) E s)
    (hm : behindInMarks op r = false := by with_unfolding_all rfl) : wpC (model prog w) A (isTrue (.Compare l [op] [r] pos) env wh) Q E s := by
  rw [isTrue_Compare1, markedBehindIn_of_false hm]
  refine wpC_bind (wpC_mono h (fun a s₁ h₁ => ?_) fun _ _ x => x)
  refine wpC_lead (wpAny_holding (wpAny_mono h₁ (fun b s₂ h₂ => ?_) fun _ _ x => x))
  refine wpC_lead (wpAny_standAt ?_)
  refine wpC_lead (opC (wpAny_mono h₂ (fun c s₃ h₃ => ?_) fun _ _ x => x))
  obtain ⟨v, rfl, hq⟩ := h₃
  exact wpC.of (wpAny_holding (wpAny_truthy_bool hq))
theorem Fm.afterK {B h h₁ h' : Heap} {L L1 : Addr} {m : Str → Option Value} {l : List (Addr × (Obj → Prop))} {oL : Obj} (F : Fm B L m l h) (hL : h.get? L = some oL) (k1 : Keep h h₁) (n1 : h.get? L1 = none) (k : Keep (hideAll h₁ [L1, L]) h') (x : At h' L (SlO oL)) : Fm B L m l h' := by
  have ou : ∀ b o, b ≠ L → h.get? b = some o → h'.get? b = some o := fun b o hb e => k _ _ (hideAll_get _ (k1 _ _ e) fun hm => by
    rcases List.mem_cons.mp hm with rfl | hm
    · rw [n1] at e; cases e
    · exact hb (List.mem_singleton.mp hm))
  obtain ⟨o, es, ep, ho, hd, r⟩ := F.ns
  rw [hL] at ho; cases ho
  obtain ⟨o', e', sl, rfl⟩ := x
  refine ⟨⟨_, es, ep, e', hd, r⟩, fun b o e => ou b o (fun q => ?_) (F.keep _ _ e), F.gL, fun p hp => ?_, F.nd⟩
  · subst q; rw [F.gL] at e; cases e
  · obtain ⟨⟨o, e, q⟩, z⟩ := F.own p hp
    exact ⟨⟨o, ou _ _ z.2 e, q⟩, z⟩
theorem phaseC {name qual : Str} {params : Arguments} {body : List Stmt} {scope : Scope} {dV kV doc pm cdv ct oc : Value} {an od : Option Addr} {osl : Array (Option Value)} {B : Heap} {L : Addr} {m : Str → Option Value} {its : List Item} {Q : Flow → Shared → Prop}
    (ho : (hd.heap_39 w.params).lookup 181 = some ⟨oc, od, .func (fnOf name qual params body scope dV kV doc pm an cdv ct), osl⟩)
    (G : GG w B) (F : Fm B L m (ownL L) s.heap) (X : LR B m its) (hh : A.handled = none) (hroom : A.depth + 60 < recursionLimit) (hu : A.units + 100 < cLine) (hfr : A.frames = some [envL qual scope L cdv])
    (next : ∀ h tk, Fm B L m (ownL L) h → wpC (model prog w) A (execs (body.drop 8) (envL qual scope L cdv)) Q E { s with heap := h, toks := tk, gens := s.gens.push .finished }) :
    wpC (model prog w) A (execs (body.drop 7) (envL qual scope L cdv)) Q E s := by
  revert next hfr
  refine withBody ho (by k_is) (P := fun body qual scope cdv => A.frames = some [envL qual scope L cdv] → (∀ h tk, Fm B L m (ownL L) h → wpC (model prog w) A (execs (body.drop 8) (envL qual scope L cdv)) Q E { s with heap := h, toks := tk, gens := s.gens.push .finished }) →
    wpC (model prog w) A (execs (body.drop 7) (envL qual scope L cdv)) Q E s) ?_
  intro hfr next
  obtain ⟨ra, vs, mr, hra, hT⟩ := X.rows
  obtain ⟨ma, mm, hma⟩ := X.made
  have few := X.few
  have hsub := hitems_sub its 5
  have fewo : (hitems 5 its).length ≤ 26 := Nat.le_trans hsub.length_le few
  have hT2 : ∀ p ∈ hitems 5 its, ∃ a, p.1 = .ref a ∧ TagAt B a p.2.1 p.2.2 := fun p hp => X.tags p (hsub.mem hp)
  have hrow := hitems_rows its 5
  have hval := hitems_vals its 5
  obtain ⟨oL, es, ep, hL, hdL, _⟩ := F.ns
  simp only [List.drop_succ_cons, List.drop_zero] at next ⊢
  refine withEnv (L := L) hfr rfl (fun q => by cases q) fun env0 hfr0 hf0 hk0 => ?_
  refine execsC_cons (ifC (cmpC ?_))
  refine compK (cl := []) (env0 := env0) (L0 := L) (o0 := oL) (P := fun g0 => At g0 ma (LstO (its.map (·.1))) ∧ ∀ p ∈ its, ∃ a, p.1 = .ref a ∧ TagAt g0 a p.2.1 p.2.2) (J := fun i g' ys => Tups g' ys (((hitems 5 its).map (·.2)).take i)) (closureFor_none (by decide)) (by decide) rfl (by decide) hh (by walk_at "DEPTH") hfr0 ⟨_, _, hdL⟩ ?_
  k_fold
  repeat' (first | walk1 | (dsimp only; walk1))
  refine hnd_gen (env0 := env0) (L0 := L) (o0 := oL) (its := its) hf0 hk0 ⟨_, _, hdL⟩ (G.keep F.keep) (by walk_at "DEPTH") (by omega) (fun p hp => menu_num _ (X.menu p hp)) fun L1 a1 h5 tk5 m₀ cod nL1 na hLa hn k5 hgn fs => ?_
  have F5 := F.keeps k5
  rw [← hval] at fs
  have neL : L1 ≠ L := fun q => by rw [q, hL] at nL1; cases nL1
  have naL : a1 ≠ L := fun q => by rw [q, hL] at na; cases na
  have kB5 : Keep B (hideAll h5 [L1, L]) := fun b o e => hideAll_get _ (F5.keep _ _ e) fun hm => by
    rcases List.mem_cons.mp hm with rfl | hm
    · rw [none_keep F.keep nL1] at e; cases e
    · have hm := List.mem_singleton.mp hm
      subst hm; rw [F.gL] at e; cases e
  refine ⟨a1, L1, B, s.gens, _, rfl, G, ⟨hma, X.tags⟩, ⟨⟨m₀, cod, rfl, hn, fs⟩, hgn, hLa⟩, F5.keep, none_keep F.keep nL1, ⟨⟨oL, k5 _ _ hL, oL.slots, rfl⟩, neL, naL, F.gL⟩, by rw [List.length_map, sizeLine_eq]; omega, .nil, fun i B1 B2 ys k j => j.kf k, ?turn, ?fin⟩
  case turn =>
    rintro i v hv C acc ys g' m' h' tk' G' hJ kg F'
    obtain ⟨p, hp, rfl⟩ : ∃ p, (hitems 5 its)[i]? = some p ∧ p.1 = v := by simpa using hv
    obtain ⟨a', e, T⟩ := hT2 p (List.mem_of_getElem? hp)
    have T := T.keep (kB5.trans kg)
    have Gg := G.keep (kB5.trans kg)
    rw [e]
    refine goName F' (fun h2 tk2 F2 => ?_)
    refine wpAny_tests_nil ?_
    rw [if_pos rfl]
    k_fold
    repeat' (first | ((fail_if_success (with_reducible show wpAny _ _ (eval (PySem.Expr.ListComp _ _ _ _) _) _ _ _)); (fail_if_success (with_reducible show wpAny _ _ (exec (PySem.Stmt.While _ _ _ _) _) _ _ _)); (fail_if_success (with_reducible show Exists _)); walk1) | (dsimp only; (fail_if_success (with_reducible show wpAny _ _ (eval (PySem.Expr.ListComp _ _ _ _) _) _ _ _)); (fail_if_success (with_reducible show wpAny _ _ (exec (PySem.Stmt.While _ _ _ _) _) _ _ _)); (fail_if_success (with_reducible show Exists _)); walk1))
    (try dsimp only)
    (try k_unfold)
    (try dsimp only)
    rename Fm _ _ _ _ _ => F3
    have F3 := F3.fits (l' := [(acc, LstO ys), (_, TupO [.int p.2.1 _, .str p.2.2 _])]) (by walk_at "FITS")
    have ht := F3.at_ (List.Mem.tail _ (List.Mem.head _))
    obtain ⟨g5, kg5, F4, kf5⟩ := (F3.fits (l' := [(acc, LstO ys)]) (by walk_at "FITS")).anew (by walk_at "MUT")
    refine ⟨g5, _, _, _, rfl, kg5, F4, ?_⟩
    show Tups g5 (ys ++ [_]) (((hitems 5 its).map (·.2)).take (i + 1))
    rw [List.take_succ, List.getElem?_map, hp]
    exact (hJ.keep kg5).append (.cons (ht.kf kf5 fun _ => frzT) .nil)
  case fin =>
    rintro D h' tk ys g' nD k1 k2 hD hx hJ
    have hJ : Tups h' ys ((hitems 5 its).map (·.2)) := by
      have hJ : Tups g' ys (((hitems 5 its).map (·.2)).take ((hitems 5 its).map (·.1)).length) := hJ
      rw [show ((hitems 5 its).map (·.1)).length = ((hitems 5 its).map (·.2)).length from by simp, List.take_length] at hJ; exact hJ.keep k2
    have F6 := F.afterK hL k5 nL1 (k1.trans k2) hx
    clear k1 k2 hx fs F5 kB5 hgn hn k5
    show wpAny _ _ _ _ _ _
    k_fold
    repeat' (first | walk1 | (dsimp only; walk1))
    refine callT (handles_ok (rows := its.map (·.2)) (G.keep F6.keep) (hra.keep F6.keep) (hT.keep F6.keep) (by rw [List.length_map]; omega) (fun r hr => ?sz) hh (by walk_at "DEPTH")) ?_
    case sz =>
      obtain ⟨p, hp, rfl⟩ := List.mem_map.mp hr
      exact (menu_ok _ (X.menu p hp)).2.2
    rintro _ h2 tk2 ⟨l2, us, rfl, hl2, hT3, k3⟩
    (try dsimp only)
    repeat' (first | walk1 | (dsimp only; walk1))
    (try k_unfold)
    (try dsimp only)
    refine neTups (hD.keep k3) hl2 (hJ.keep k3) hT3 (by omega) ?_
    rw [hrow, decide_eq_true rfl]
    refine ⟨false, rfl, ?_⟩
    rw [if_neg Bool.false_ne_true]
    refine execsC_nil ?_
    (try dsimp only)
    dsimp only at k3
    have F7 := F6.keeps k3
    exact @next h2 tk2 F7
end
end
section
local macro_rules | `(tactic| walk_at "GG") => `(tactic| first | assumption | exact GG.keep (by assumption) (Fm.keep (by assumption)))
local macro_rules | `(tactic| walk_at "AT") => `(tactic| first | assumption | exact Fm.at_ (by assumption) (by k_mem) | exact At.keep (by assumption) (Fm.keep (by assumption)))
local macro_rules | `(tactic| walk_at "CHG") => `(tactic| repeat (first | exact Chg.head | apply Chg.tail))
local macro_rules | `(tactic| walk_at "LIST") => `(tactic| first | exact isList_keep (by assumption) (Fm.keep (by assumption)) | exact isList_of (Fm.at_ (by assumption) (by k_mem)) | exact isList_of (by walk_at "AT"))
local macro_rules | `(tactic| walk_at "NUM") => `(tactic| first | decide | omega | (simp only [List.length_cons, List.length_nil]; omega))
local macro_rules | `(tactic| walk_at "eval Name") => `(tactic| first
  | (refine lv (by assumption) (by first | rfl | assumption) ?_)
  | (k_dflt (refine' gv ?G ?e ?_; (case G => walk_at "GG"); (case e => k_is); k_whole))
  | (k_dflt (refine' bv ?G ?e ?v ?_; (case G => walk_at "GG"); (case e => k_is); (case v => boot_by_name); k_whole)))
local macro_rules | `(tactic| walk_at "loadName") => `(tactic| (refine lvN (by assumption) (by first | rfl | assumption) ?_))
local macro_rules | `(tactic| walk_at "eval Constant int") => `(tactic| (with_reducible refine ci ?_; intro t' tk'))
local macro_rules | `(tactic| walk_at "eval Constant str") => `(tactic| (with_reducible refine cs ?_; intro t' tk'))
local macro_rules | `(tactic| walk_at "storeName") => `(tactic| (refine svT (by assumption) ?_; intro h' tk' F'))
local macro_rules | `(tactic| walk_at "binaryOp Add int int") => `(tactic| (with_reducible refine addI ?_; intro t' tk'))
local macro_rules | `(tactic| walk_at "inplaceOp Add int int") => `(tactic| (with_reducible refine iaddI ?_; intro t' tk'))
local macro_rules | `(tactic| walk_at "binaryOp Mod int int") => `(tactic| (refine modI (by omega) ?_; intro r' t' tk' hr1 hr2))
local macro_rules | `(tactic| walk_at "binaryOp FloorDiv int int") => `(tactic| (refine fdivI (by omega) (by omega) (by omega) (by omega) ?_; intro r' t' tk' hr1 hr2))
local macro_rules | `(tactic| walk_at "PART") => `(tactic| first | exact IsPart.none | exact IsPart.int _ _)
local macro_rules | `(tactic| walk_at "PICK") => `(tactic| first | exact pick_upto (by omega) | exact pick_run (by omega))
local macro_rules | `(tactic| walk_at "subscriptTail") => `(tactic| (k_dflt (first
  | ((with_reducible show wpAny _ _ (subscriptTail _ _ (Value.ref _) (Value.ref _)) _ _ _); refine' sliceL ?F ?x ?pl ?pu ?z ?e ?_; (case F => assumption); (case x => k_mem); (case pl => walk_at "PART"); (case pu => walk_at "PART"); (case z => walk_at "SZ"); (case e => walk_at "PICK"); k_whole; intro b' h' kp' F')
  | (refine' subL ?x ?a ?b ?c ?_; (case x => walk_at "AT"); (case a => walk_at "NUM"); (case b => walk_at "NUM"); (case c => first | rfl | assumption); k_whole)
  | (refine' sub2 ?x ?a ?_ ?_; (case x => walk_at "AT"); (case a => omega))
  | (refine' subM ?x ?T ?a ?b ?c ?_; (case x => walk_at "AT"); (case T => assumption); (case a => walk_at "NUM"); (case b => walk_at "NUM"); (case c => omega); k_whole; intro b' hR'))))
local macro_rules | `(tactic| walk_at "subscriptTail Subscript") => `(tactic| (k_dflt (refine' subScr ?x ?i ?a ?b ?c ?_; (case x => walk_at "LIST"); (case i => assumption); (case a => omega); (case b => omega); (case c => omega); k_whole); intro j' t'))
local macro_rules | `(tactic| walk_at "setItem") => `(tactic| (k_dflt (refine' setF ?F ?x ?a ?b ?c ?_; (case F => assumption); (case x => walk_at "CHG"); (case a => walk_at "NUM"); (case b => walk_at "NUM"); (case c => walk_at "NUM"); k_whole); intro h' F'; (try simp only [List.set_cons_zero, List.set_cons_succ, Int.reduceToNat] at F')))
local macro_rules | `(tactic| walk_at "call builtin:len") => `(tactic| (k_dflt (refine' lenI ?x ?a ?_; (case x => walk_at "LIST"); (case a => omega); k_whole); intro t' tk'))
local macro_rules | `(tactic| walk_at "SZ") => `(tactic| first | (rw [sizeLine_eq]; (try simp only [List.length_append, List.length_cons, List.length_nil, List.length_take]); omega) | size_fits)
local macro_rules | `(tactic| walk_at "callWith ref") => `(tactic| (k_dflt (refine' callG ?k1 ?k2 ?_; (case k1 => k_is); (case k2 => exact rfl))))
local macro_rules | `(tactic| walk_at "newList") => `(tactic| (refine newL (by assumption) (by walk_at "SZ") ?_; intro a' h' kp' F'))
local macro_rules | `(tactic| walk_at "newTuple") => `(tactic| (refine newT (by assumption) (by walk_at "SZ") ?_; intro a' h' kp' hat' F'))
local macro_rules | `(tactic| walk_at "eval Slice") => `(tactic| refine sliceF ?_)
local macro_rules | `(tactic| walk_at "Exists") => `(tactic| (refine ⟨_, _, _, _, by assumption, ?_⟩; intro a' h' kp' F'))
local macro_rules | `(tactic| walk_at "getMethod ref") => `(tactic| (k_dflt (first | refine methApp (by walk_at "AT") ?_ | refine methClr (by walk_at "AT") ?_)))
local macro_rules | `(tactic| walk_at "call builtin:list.append") => `(tactic| (k_dflt (refine' appL ?F ?c ?z ?_; (case F => assumption); (case c => walk_at "CHG"); (case z => walk_at "SZ"); k_whole); intro h' F'))
local macro_rules | `(tactic| walk_at "call builtin:list.clear") => `(tactic| (k_dflt (refine' clrL ?F ?c ?z ?_; (case F => assumption); (case c => walk_at "CHG"); (case z => walk_at "SZ"); k_whole); intro h' F'))
local macro_rules | `(tactic| walk_at "call type:range") => `(tactic| (refine range1 (by assumption) ?_; intro a' h' tk' kp' F'))
local macro_rules | `(tactic| walk_at "pyIter ref") => `(tactic| (k_dflt (refine' iterR ?F ?a ?b ?_; (case F => assumption); (case a => omega); (case b => omega); k_whole); intro it' h' kp' F'))
local macro_rules | `(tactic| walk_at "binaryOp Add ref ref") => `(tactic| (k_dflt (refine' addL ?F ?x ?y ?z ?_; (case F => assumption); (case x => walk_at "AT"); (case y => walk_at "AT"); (case z => walk_at "SZ"); k_whole); intro a' h' kp' F'))
local macro_rules | `(tactic| walk_at "exec For") => `(tactic| refine wpAny_For ?_)
local macro_rules | `(tactic| walk_at "DEPTH") => `(tactic| first | omega | ((try simp only [depth_deeper, depth_in1]); omega))
local macro_rules | `(tactic| walk_at "MUT") => `(tactic| repeat (first | exact Muts.nil | refine Muts.cons (by first | exact mutL | exact mutI | exact mutRI | exact mutR | exact mutS | exact mutCO) ?_))
local macro_rules | `(tactic| walk_at "CALL") => `(tactic| fail)
local macro_rules | `(tactic| walk_at "codeAny call") => `(tactic| walk_at "CALL")
local macro_rules | `(tactic| walk_at "FITS") => `(tactic| repeat (first | exact Fits.nil | exact Pull.head | apply Fits.cons | apply Pull.tail))
local macro_rules | `(tactic| walk_at "truthy ref") => `(tactic| (k_dflt (refine' truthyL ?x ?z ?_; (case x => walk_at "AT"); (case z => walk_at "SZ"); k_whole); intro tk'))
local macro_rules | `(tactic| walk_at "SETS") => `(tactic| first | exact setX (by walk_at "GG") | exact setI (by walk_at "GG") | exact setV (by walk_at "GG"))
local macro_rules | `(tactic| walk_at "compareOp In int ref") => `(tactic| (k_dflt (refine' inSet ?S ?_; (case S => walk_at "SETS"); k_whole); intro tk'))
local macro_rules | `(tactic| walk_at "compareOp NotIn int ref") => `(tactic| (k_dflt (refine' notInSet ?S ?_; (case S => walk_at "SETS"); k_whole); intro tk'))
local macro_rules | `(tactic| walk_at "compareOp In int ref") => `(tactic| (k_dflt (refine' inInts ?x ?I ?_; (case x => walk_at "AT"); (case I => assumption); k_whole)))
local macro_rules | `(tactic| walk_at "compareOp NotIn int ref") => `(tactic| (k_dflt (refine' notInInts ?x ?I ?_; (case x => walk_at "AT"); (case I => assumption); k_whole)))
local macro_rules | `(tactic| walk_at "assign Tuple") => `(tactic| (k_dflt (refine' asgT ?hh ?F ?x ?n ?st ?_; (case hh => assumption); (case F => assumption); (case x => walk_at "AT"); (case n => rfl); (case st => rfl); k_whole); intro h' kp' F'))
local macro_rules | `(tactic| walk_at "unpackItems ref") => `(tactic| (k_dflt (refine' unpI ?hh ?F ?x ?n ?_; (case hh => assumption); (case F => assumption); (case x => walk_at "AT"); (case n => rfl); k_whole); intro h' kp' F'))
local macro_rules | `(tactic| walk_at "pyIter ref") => `(tactic| (k_dflt (refine' iterL ?F ?x ?_; (case F => assumption); (case x => walk_at "AT"); k_whole); intro it' h' kp' F'))
section
variable {prog : Program} {w : World} {A : Around} {E : Value → Shared → Prop} {s : Shared} {R : Result → Shared → Prop} {env : Env}
/-- a cell is stored to -/
theorem stCell {M : Model} {g : Heap} {L k : Addr} {m : Str → Option Value} {l l' : List (Addr × (Obj → Prop))} {x : Str} {v0 : Option Value} {v : Value} {Q : Unit → Shared → Prop} (F : Fm g L m l s.heap) (c : Chg l k (CelO v0) (CelO (some v)) l')
    (h : ∀ h', Fm g L m l' h' → Q () { s with heap := h' })
    (hk : env.scope.kind = .function := by rfl) (hl : env.kindOf x = some .cell := by rfl) (hc : env.cells.lookup x = some k := by rfl) : wpAny M A (storeName env x v) Q E s := by
  unfold storeName
  simp only [hl, hk]
  refine wpAny_bind (wpAny_cellOf hc ?_)
  obtain ⟨o, e, q⟩ := F.at_ c.mem
  obtain rfl : o = _ := q
  unfold cellSet
  refine wpAny_bind (wpAny_load e ?_)
  dsimp only
  refine wpAny_update e ?_
  have u := Heap.get?_update_self (fun o : Obj => { o with data := .cell (some v) }) e rfl
  exact h _ (F.turn c (Heap.SameBut.update ..) ⟨{ cls := .type "cell", data := .cell (some v) }, u, rfl⟩)
theorem cellName {M : Model} {k : Addr} {x : Str} {pos : Pos} {v : Value} {Q : Value → Shared → Prop} (hv : At s.heap k (CelO (some v))) (h : Q v s)
    (hk : env.scope.kind = .function := by rfl) (hl : env.kindOf x = some .cell := by rfl) (hc : env.cells.lookup x = some k := by rfl) (hd : (x == ("__debug__" : Str)) = false := by decide) : wpAny M A (eval (.Name x pos) env) Q E s := by
  obtain ⟨o, e, q⟩ := hv
  obtain rfl : o = _ := q
  exact wpAny_Name (wpAny_loadName_cell hk hl hc ⟨_, e, rfl⟩ h) hd
end
local macro_rules | `(tactic| walk_at "newTuple") => `(tactic| (refine newTO (by assumption) (by walk_at "SZ") ?_; intro a' h' kp' F'))
local macro_rules | `(tactic| walk_at "getAttr ref") => `(tactic| ((with_reducible show wpAny _ _ (getAttr (Value.ref _) (PySem.Str.ofString "code") _) _ _ _); k_dflt (refine' getCodeF ?F ?G ?T ?r ?_; (case F => assumption); (case G => walk_at "GG"); (case T => exact TagAt.keep (by assumption) (Fm.keep (by assumption))); (case r => walk_at "DEPTH"); k_whole); intro t' h' tk' F'))
local macro_rules | `(tactic| walk_at "getAttr ref") => `(tactic| ((with_reducible show wpAny _ _ (getAttr (Value.ref _) (PySem.Str.ofString "value") _) _ _ _); k_dflt (refine' getValueF ?F ?G ?T ?r ?_; (case F => assumption); (case G => walk_at "GG"); (case T => exact TagAt.keep (by assumption) (Fm.keep (by assumption))); (case r => walk_at "DEPTH"); k_whole); intro t' h' tk' F'))
section
variable {prog : Program} {w : World} {A : Around} {E : Value → Shared → Prop} {s : Shared} {R : Result → Shared → Prop} {env : Env}
theorem phaseD {name qual : Str} {params : Arguments} {body : List Stmt} {scope : Scope} {dV kV doc pm cdv ct oc : Value} {an od : Option Addr} {osl : Array (Option Value)} {B : Heap} {L : Addr} {m : Str → Option Value} {its : List Item} {Q : Flow → Shared → Prop}
    (ho : (hd.heap_39 w.params).lookup 181 = some ⟨oc, od, .func (fnOf name qual params body scope dV kV doc pm an cdv ct), osl⟩)
    (G : GG w B) (F : Fm B L m (ownL L) s.heap) (X : LR B m its) (hh : A.handled = none) (hroom : A.depth + 60 < recursionLimit) (hu : A.units + 100 < cLine)
    (next : ∀ B' cl us h tk, Keep B B' → At B' cl (LstO us) → IntsAre us vC → Fm B' L m [(128, TabO #[]), (L + 1, CelO (some (.ref cl)))] h → wpC (model prog w) A (execs (body.drop 9) (envL qual scope L cdv)) Q E { s with heap := h, toks := tk }) :
    wpC (model prog w) A (execs (body.drop 8) (envL qual scope L cdv)) Q E s := by
  revert next
  refine withBody ho (by k_is) (P := fun body qual scope cdv => (∀ B' cl us h tk, Keep B B' → At B' cl (LstO us) → IntsAre us vC → Fm B' L m [(128, TabO #[]), (L + 1, CelO (some (.ref cl)))] h → wpC (model prog w) A (execs (body.drop 9) (envL qual scope L cdv)) Q E { s with heap := h, toks := tk }) →
    wpC (model prog w) A (execs (body.drop 8) (envL qual scope L cdv)) Q E s) ?_
  intro next
  simp only [List.drop_succ_cons, List.drop_zero] at next ⊢
  refine @execsC_cons _ _ _ _ _ _ _ _ _ (@wpC.of _ _ _ _ _ _ _ ?_)
  k_fold
  repeat' (first | walk1 | (dsimp only; walk1))
  rename Fm _ _ _ _ _ => F1
  refine stCell F1 (.tail (.tail .head)) fun h2 F2 => ?_
  have hc := F2.at_ (.head _)
  have F3 := F2.fits (l' := [(128, TabO #[]), (L + 1, CelO (some (.ref _)))]) (by walk_at "FITS")
  obtain ⟨B', kB, F4, kBh, kf, lst, oth⟩ := F3.absorb
  have hcB := lst _ _ hc
  (try dsimp only)
  (try k_unfold)
  (try dsimp only)
  exact @next B' _ _ h2 _ kB hcB (by repeat constructor) F4
end
end
section
local macro_rules | `(tactic| walk_at "GG") => `(tactic| first | assumption | exact GG.keep (by assumption) (Fm.keep (by assumption)))
local macro_rules | `(tactic| walk_at "AT") => `(tactic| first | assumption | exact Fm.at_ (by assumption) (by k_mem) | exact At.keep (by assumption) (Fm.keep (by assumption)))
local macro_rules | `(tactic| walk_at "CHG") => `(tactic| repeat (first | exact Chg.head | apply Chg.tail))
local macro_rules | `(tactic| walk_at "LIST") => `(tactic| first | exact isList_keep (by assumption) (Fm.keep (by assumption)) | exact isList_of (Fm.at_ (by assumption) (by k_mem)) | exact isList_of (by walk_at "AT"))
local macro_rules | `(tactic| walk_at "NUM") => `(tactic| first | decide | omega | (simp only [List.length_cons, List.length_nil]; omega))
local macro_rules | `(tactic| walk_at "eval Name") => `(tactic| first
  | (refine lv (by assumption) (by first | rfl | assumption) ?_)
  | (k_dflt (refine' gv ?G ?e ?_; (case G => walk_at "GG"); (case e => k_is); k_whole))
  | (k_dflt (refine' bv ?G ?e ?v ?_; (case G => walk_at "GG"); (case e => k_is); (case v => boot_by_name); k_whole)))
local macro_rules | `(tactic| walk_at "loadName") => `(tactic| (refine lvN (by assumption) (by first | rfl | assumption) ?_))
local macro_rules | `(tactic| walk_at "eval Constant int") => `(tactic| (with_reducible refine ci ?_; intro t' tk'))
local macro_rules | `(tactic| walk_at "eval Constant str") => `(tactic| (with_reducible refine cs ?_; intro t' tk'))
local macro_rules | `(tactic| walk_at "storeName") => `(tactic| (refine svT (by assumption) ?_; intro h' tk' F'))
local macro_rules | `(tactic| walk_at "binaryOp Add int int") => `(tactic| (with_reducible refine addI ?_; intro t' tk'))
local macro_rules | `(tactic| walk_at "inplaceOp Add int int") => `(tactic| (with_reducible refine iaddI ?_; intro t' tk'))
local macro_rules | `(tactic| walk_at "binaryOp Mod int int") => `(tactic| (refine modI (by omega) ?_; intro r' t' tk' hr1 hr2))
local macro_rules | `(tactic| walk_at "binaryOp FloorDiv int int") => `(tactic| (refine fdivI (by omega) (by omega) (by omega) (by omega) ?_; intro r' t' tk' hr1 hr2))
local macro_rules | `(tactic| walk_at "PART") => `(tactic| first | exact IsPart.none | exact IsPart.int _ _)
local macro_rules | `(tactic| walk_at "PICK") => `(tactic| first | exact pick_upto (by omega) | exact pick_run (by omega))
local macro_rules | `(tactic| walk_at "subscriptTail") => `(tactic| (k_dflt (first
  | ((with_reducible show wpAny _ _ (subscriptTail _ _ (Value.ref _) (Value.ref _)) _ _ _); refine' sliceL ?F ?x ?pl ?pu ?z ?e ?_; (case F => assumption); (case x => k_mem); (case pl => walk_at "PART"); (case pu => walk_at "PART"); (case z => walk_at "SZ"); (case e => walk_at "PICK"); k_whole; intro b' h' kp' F')
  | (refine' subL ?x ?a ?b ?c ?_; (case x => walk_at "AT"); (case a => walk_at "NUM"); (case b => walk_at "NUM"); (case c => first | rfl | assumption); k_whole)
  | (refine' sub2 ?x ?a ?_ ?_; (case x => walk_at "AT"); (case a => omega))
  | (refine' subM ?x ?T ?a ?b ?c ?_; (case x => walk_at "AT"); (case T => assumption); (case a => walk_at "NUM"); (case b => walk_at "NUM"); (case c => omega); k_whole; intro b' hR'))))
local macro_rules | `(tactic| walk_at "subscriptTail Subscript") => `(tactic| (k_dflt (refine' subScr ?x ?i ?a ?b ?c ?_; (case x => walk_at "LIST"); (case i => assumption); (case a => omega); (case b => omega); (case c => omega); k_whole); intro j' t'))
local macro_rules | `(tactic| walk_at "setItem") => `(tactic| (k_dflt (refine' setF ?F ?x ?a ?b ?c ?_; (case F => assumption); (case x => walk_at "CHG"); (case a => walk_at "NUM"); (case b => walk_at "NUM"); (case c => walk_at "NUM"); k_whole); intro h' F'; (try simp only [List.set_cons_zero, List.set_cons_succ, Int.reduceToNat] at F')))
local macro_rules | `(tactic| walk_at "call builtin:len") => `(tactic| (k_dflt (refine' lenI ?x ?a ?_; (case x => walk_at "LIST"); (case a => omega); k_whole); intro t' tk'))
local macro_rules | `(tactic| walk_at "SZ") => `(tactic| first | (rw [sizeLine_eq]; (try simp only [List.length_append, List.length_cons, List.length_nil, List.length_take]); omega) | size_fits)
local macro_rules | `(tactic| walk_at "callWith ref") => `(tactic| (k_dflt (refine' callG ?k1 ?k2 ?_; (case k1 => k_is); (case k2 => exact rfl))))
local macro_rules | `(tactic| walk_at "newList") => `(tactic| (refine newL (by assumption) (by walk_at "SZ") ?_; intro a' h' kp' F'))
local macro_rules | `(tactic| walk_at "newTuple") => `(tactic| (refine newT (by assumption) (by walk_at "SZ") ?_; intro a' h' kp' hat' F'))
local macro_rules | `(tactic| walk_at "eval Slice") => `(tactic| refine sliceF ?_)
local macro_rules | `(tactic| walk_at "Exists") => `(tactic| (refine ⟨_, _, _, _, by assumption, ?_⟩; intro a' h' kp' F'))
local macro_rules | `(tactic| walk_at "getMethod ref") => `(tactic| (k_dflt (first | refine methApp (by walk_at "AT") ?_ | refine methClr (by walk_at "AT") ?_)))
local macro_rules | `(tactic| walk_at "call builtin:list.append") => `(tactic| (k_dflt (refine' appL ?F ?c ?z ?_; (case F => assumption); (case c => walk_at "CHG"); (case z => walk_at "SZ"); k_whole); intro h' F'))
local macro_rules | `(tactic| walk_at "call builtin:list.clear") => `(tactic| (k_dflt (refine' clrL ?F ?c ?z ?_; (case F => assumption); (case c => walk_at "CHG"); (case z => walk_at "SZ"); k_whole); intro h' F'))
local macro_rules | `(tactic| walk_at "call type:range") => `(tactic| (refine range1 (by assumption) ?_; intro a' h' tk' kp' F'))
local macro_rules | `(tactic| walk_at "pyIter ref") => `(tactic| (k_dflt (refine' iterR ?F ?a ?b ?_; (case F => assumption); (case a => omega); (case b => omega); k_whole); intro it' h' kp' F'))
local macro_rules | `(tactic| walk_at "binaryOp Add ref ref") => `(tactic| (k_dflt (refine' addL ?F ?x ?y ?z ?_; (case F => assumption); (case x => walk_at "AT"); (case y => walk_at "AT"); (case z => walk_at "SZ"); k_whole); intro a' h' kp' F'))
local macro_rules | `(tactic| walk_at "exec For") => `(tactic| refine wpAny_For ?_)
local macro_rules | `(tactic| walk_at "DEPTH") => `(tactic| first | omega | ((try simp only [depth_deeper, depth_in1]); omega))
local macro_rules | `(tactic| walk_at "MUT") => `(tactic| repeat (first | exact Muts.nil | refine Muts.cons (by first | exact mutL | exact mutI | exact mutRI | exact mutR | exact mutS | exact mutCO) ?_))
local macro_rules | `(tactic| walk_at "CALL") => `(tactic| fail)
local macro_rules | `(tactic| walk_at "codeAny call") => `(tactic| walk_at "CALL")
local macro_rules | `(tactic| walk_at "FITS") => `(tactic| repeat (first | exact Fits.nil | exact Pull.head | apply Fits.cons | apply Pull.tail))
local macro_rules | `(tactic| walk_at "truthy ref") => `(tactic| (k_dflt (refine' truthyL ?x ?z ?_; (case x => walk_at "AT"); (case z => walk_at "SZ"); k_whole); intro tk'))
local macro_rules | `(tactic| walk_at "SETS") => `(tactic| first | exact setX (by walk_at "GG") | exact setI (by walk_at "GG") | exact setV (by walk_at "GG"))
local macro_rules | `(tactic| walk_at "compareOp In int ref") => `(tactic| (k_dflt (refine' inSet ?S ?_; (case S => walk_at "SETS"); k_whole); intro tk'))
local macro_rules | `(tactic| walk_at "compareOp NotIn int ref") => `(tactic| (k_dflt (refine' notInSet ?S ?_; (case S => walk_at "SETS"); k_whole); intro tk'))
local macro_rules | `(tactic| walk_at "compareOp In int ref") => `(tactic| (k_dflt (refine' inInts ?x ?I ?_; (case x => walk_at "AT"); (case I => assumption); k_whole)))
local macro_rules | `(tactic| walk_at "compareOp NotIn int ref") => `(tactic| (k_dflt (refine' notInInts ?x ?I ?_; (case x => walk_at "AT"); (case I => assumption); k_whole)))
local macro_rules | `(tactic| walk_at "assign Tuple") => `(tactic| (k_dflt (refine' asgT ?hh ?F ?x ?n ?st ?_; (case hh => assumption); (case F => assumption); (case x => walk_at "AT"); (case n => rfl); (case st => rfl); k_whole); intro h' kp' F'))
local macro_rules | `(tactic| walk_at "unpackItems ref") => `(tactic| (k_dflt (refine' unpI ?hh ?F ?x ?n ?_; (case hh => assumption); (case F => assumption); (case x => walk_at "AT"); (case n => rfl); k_whole); intro h' kp' F'))
local macro_rules | `(tactic| walk_at "pyIter ref") => `(tactic| (k_dflt (refine' iterL ?F ?x ?_; (case F => assumption); (case x => walk_at "AT"); k_whole); intro it' h' kp' F'))
local macro_rules | `(tactic| walk_at "newTuple") => `(tactic| (refine newTO (by assumption) (by walk_at "SZ") ?_; intro a' h' kp' F'))
local macro_rules | `(tactic| walk_at "getAttr ref") => `(tactic| ((with_reducible show wpAny _ _ (getAttr (Value.ref _) (PySem.Str.ofString "code") _) _ _ _); k_dflt (refine' getCodeF ?F ?G ?T ?r ?_; (case F => assumption); (case G => walk_at "GG"); (case T => exact TagAt.keep (by assumption) (Fm.keep (by assumption))); (case r => walk_at "DEPTH"); k_whole); intro t' h' tk' F'))
local macro_rules | `(tactic| walk_at "getAttr ref") => `(tactic| ((with_reducible show wpAny _ _ (getAttr (Value.ref _) (PySem.Str.ofString "value") _) _ _ _); k_dflt (refine' getValueF ?F ?G ?T ?r ?_; (case F => assumption); (case G => walk_at "GG"); (case T => exact TagAt.keep (by assumption) (Fm.keep (by assumption))); (case r => walk_at "DEPTH"); k_whole); intro t' h' tk' F'))
section
variable {prog : Program} {w : World} {A : Around} {E : Value → Shared → Prop} {s : Shared} {R : Result → Shared → Prop} {env : Env}
theorem codeOf_aux {h : Heap} {oc : Value} {od : Option Addr} {vs : Array Value} {osl : Array (Option Value)} (G : GG w h) (x : At h 128 (TabO #[])) (lit : (hd.heap_39 w.params).lookup 132 = some ⟨oc, od, .fields vs, osl⟩) (h0 : oc = .type "code")
    (h11 : vs[11]? = some (.ref 128)) (h18 : ∃ f t, vs.getD 18 .none = .str f t) (h7 : ∃ f t, vs.getD 7 .none = .int f t) (h9 : ∃ f, vs.getD 9 .none = .bool f) (h10 : ∃ f t, vs.getD 10 .none = .int f t) : h.IsCode 132 128 #[] ∧ h.TableAt 132 128 #[] := by
  obtain ⟨o, e, q⟩ := x
  obtain rfl : o = _ := q
  obtain ⟨a1, a2, b1⟩ := h18
  obtain ⟨c1, c2, b2⟩ := h7
  obtain ⟨d1, b3⟩ := h9
  obtain ⟨f1, f2, b4⟩ := h10
  have hl := G.inK _ _ lit
  subst h0
  exact ⟨⟨_, vs, a1, a2, c1, c2, d1, f1, f2, _, hl, rfl, by rw [Array.getD_eq_getD_getElem?, h11]; rfl, b1, b2, b3, b4, e, rfl, trivial, by decide⟩, ⟨⟨_, vs, hl, rfl, rfl, h11⟩, e⟩⟩
theorem codeOf {h : Heap} (G : GG w h) (x : At h 128 (TabO #[])) : h.IsCode 132 128 #[] ∧ h.TableAt 132 128 #[] :=
  codeOf_aux G x (by k_is) rfl rfl ⟨_, _, rfl⟩ ⟨_, _, rfl⟩ ⟨_, rfl⟩ ⟨_, _, rfl⟩
theorem Fm.afterX {B h h₁ h' : Heap} {L L1 it : Addr} {m : Str → Option Value} {l : List (Addr × (Obj → Prop))} {p0 ps : Array Value} (F : Fm B L m ((128, TabO p0) :: l) h) (x : Heap.ExtBut 128 h h₁) (p : At h₁ 128 (TabO ps)) (n1 : h.get? L1 = none) (n2 : h.get? it = none) (k : Keep (hideAll h₁ [L1, it]) h') : Fm B L m ((128, TabO ps) :: l) h' := by
  have F1 := F.chgExt (l₁ := []) x p
  have al : ∀ b o, h.get? b = some o → b ∉ [L1, it] := fun b o e hm => by
    rcases List.mem_cons.mp hm with rfl | hm
    · rw [n1] at e; cases e
    · have := List.mem_singleton.mp hm; subst this; rw [n2] at e; cases e
  obtain ⟨oL, es, ep, hL, r⟩ := F1.ns
  obtain ⟨oL0, _, _, hL0, _⟩ := F.ns
  refine ⟨⟨oL, es, ep, k _ _ (hideAll_get _ hL (al _ _ hL0)), r⟩, fun b o e => k _ _ (hideAll_get _ (F1.keep _ _ e) (al _ _ (F.keep _ _ e))), F.gL, fun q hq => ?_, F1.nd⟩
  obtain ⟨⟨o, e, z⟩, r2⟩ := F1.own q hq
  refine ⟨⟨o, k _ _ (hideAll_get _ e ?_), z⟩, r2⟩
  rcases List.mem_cons.mp hq with rfl | hq
  · obtain ⟨o', e', _⟩ := F.at_ (.head _)
    exact al _ _ e'
  · obtain ⟨o', e', _⟩ := (F.own q (.tail _ hq)).1
    exact al _ _ e'
theorem phaseE {name qual : Str} {params : Arguments} {body : List Stmt} {scope : Scope} {dV kV doc pm cdv ct oc : Value} {an od : Option Addr} {osl : Array (Option Value)} {B : Heap} {L cl : Addr} {us : List Value} {m : Str → Option Value} {its : List Item} {Q : Flow → Shared → Prop}
    (ho : (hd.heap_39 w.params).lookup 181 = some ⟨oc, od, .func (fnOf name qual params body scope dV kV doc pm an cdv ct), osl⟩)
    (G : GG w B) (hBM : BM B) (F : Fm B L m [(128, TabO #[]), (L + 1, CelO (some (.ref cl)))] s.heap) (hcl : At B cl (LstO us)) (hI : IntsAre us vC) (X : LR B m its) (hh : A.handled = none) (hroom : A.depth + 60 < recursionLimit) (hu : A.units + 100 < cLine)
    (next : ∀ h tk ps, Keep B h → At h 128 (TabO ps) → Q (.ret (.bool true)) { s with heap := h, toks := tk, gens := s.gens.push .finished }) :
    wpC (model prog w) A (execs (body.drop 9) (envL qual scope L cdv)) Q E s := by
  refine withBody ho (by k_is) (P := fun body qual scope cdv => wpC (model prog w) A (execs (body.drop 9) (envL qual scope L cdv)) Q E s) ?_
  obtain ⟨ra, vs, mr, hra, hT⟩ := X.rows
  obtain ⟨ma, mm, hma⟩ := X.made
  have few := X.few
  simp only [List.drop_succ_cons, List.drop_zero]
  refine @execsC_cons _ _ _ _ _ _ _ _ _ (@wpC.of _ _ _ _ _ _ _ ?_)
  k_fold
  repeat' (first | ((fail_if_success (with_reducible show wpAny _ _ (eval (PySem.Expr.ListComp _ _ _ _) _) _ _ _)); (fail_if_success (with_reducible show wpAny _ _ (exec (PySem.Stmt.While _ _ _ _) _) _ _ _)); walk1) | (dsimp only; (fail_if_success (with_reducible show wpAny _ _ (eval (PySem.Expr.ListComp _ _ _ _) _) _ _ _)); (fail_if_success (with_reducible show wpAny _ _ (exec (PySem.Stmt.While _ _ _ _) _) _ _ _)); walk1))
  refine compX (cl := []) (P := fun g0 => At g0 ma (LstO (its.map (·.1))) ∧ ∀ p ∈ its, ∃ a, p.1 = .ref a ∧ TagAt g0 a p.2.1 p.2.2) (J := fun i g' ys => Tups g' ys (((its.filter fun p => decide (p.2.1 ∈ vC)).map (·.2)).take i)) (closureFor_none (by decide)) (by decide) rfl (by decide) hh (by walk_at "DEPTH") ?_
  repeat' (first | walk1 | (dsimp only; walk1))
  obtain ⟨hok, htab⟩ := codeOf (G.keep F.keep) (F.at_ (.head _))
  refine xd_gen (B := B) (its := its) G hBM F.keep (F.own _ (.head _)).2.1 hma X.tags hok htab (by walk_at "DEPTH") hh fun L1 it a1 h5 tk5 m₀ cod ps nL1 nit na hLa hLi hai hn hit5 hx hp hgn fs => ?_
  have ne5 : L1 ≠ 128 := fun q => by obtain ⟨o, e, _⟩ := F.at_ (.head _); rw [q, e] at nL1; cases nL1
  have nei : it ≠ 128 := fun q => by obtain ⟨o, e, _⟩ := F.at_ (.head _); rw [q, e] at nit; cases nit
  have nB : ∀ b, s.heap.get? b = none → B.get? b = none := fun b n => none_keep F.keep n
  have kB5 : Keep B h5 := fun b o e => hx b o (fun q => by subst q; have z := (F.own _ (.head _)).2.1; rw [show B.get? 128 = none from z] at e; cases e) (F.keep _ _ e)
  have kB5' : Keep B (hideAll h5 [L1, it]) := fun b o e => hideAll_get _ (kB5 _ _ e) fun hm => by
    rcases List.mem_cons.mp hm with rfl | hm
    · rw [nB _ nL1] at e; cases e
    · have := List.mem_singleton.mp hm; subst this; rw [nB _ nit] at e; cases e
  have hsub : (its.filter fun p => decide (p.2.1 ∈ vC)).Sublist its := List.filter_sublist
  have fewo : (its.filter fun p => decide (p.2.1 ∈ vC)).length ≤ 26 := Nat.le_trans hsub.length_le few
  have hT2 : ∀ p ∈ its.filter fun p => decide (p.2.1 ∈ vC), ∃ a, p.1 = .ref a ∧ TagAt B a p.2.1 p.2.2 := fun p hp => X.tags p (hsub.mem hp)
  have hrow : (its.filter fun p => decide (p.2.1 ∈ vC)).map (·.2) = (its.map (·.2)).filter fun r => decide (r.1 ∈ vC) := by rw [List.filter_map]; rfl
  generalize hl : (its.filter fun p => decide (p.2.1 ∈ vC)) = lt at fs fewo hT2 hrow ⊢
  refine ⟨a1, L1, it, ma, B, s.gens, _, rfl, G, ⟨hma, X.tags⟩, ⟨⟨m₀, cod, rfl, hn, fs⟩, hgn, hLa⟩, kB5, nB _ nL1, ⟨hit5, hLi, hai, nB _ nit⟩, by rw [List.length_map, sizeLine_eq]; omega, .nil, fun i B1 B2 ys k j => j.kf k, ?turn, ?fin⟩
  case turn =>
    rintro i v hv C acc ys g' m' h' tk' G' hJ kg F'
    obtain ⟨p, hp, rfl⟩ : ∃ p, lt[i]? = some p ∧ p.1 = v := by simpa using hv
    obtain ⟨a', e, T⟩ := hT2 p (List.mem_of_getElem? hp)
    have T := T.keep (kB5'.trans kg)
    have Gg := G.keep (kB5'.trans kg)
    rw [e]
    refine goName F' (fun h2 tk2 F2 => ?_)
    refine wpAny_tests_nil ?_
    rw [if_pos rfl]
    k_fold
    repeat' (first | ((fail_if_success (with_reducible show wpAny _ _ (eval (PySem.Expr.ListComp _ _ _ _) _) _ _ _)); (fail_if_success (with_reducible show wpAny _ _ (exec (PySem.Stmt.While _ _ _ _) _) _ _ _)); (fail_if_success (with_reducible show Exists _)); walk1) | (dsimp only; (fail_if_success (with_reducible show wpAny _ _ (eval (PySem.Expr.ListComp _ _ _ _) _) _ _ _)); (fail_if_success (with_reducible show wpAny _ _ (exec (PySem.Stmt.While _ _ _ _) _) _ _ _)); (fail_if_success (with_reducible show Exists _)); walk1))
    (try dsimp only)
    (try k_unfold)
    (try dsimp only)
    rename Fm _ _ _ _ _ => F3
    have F3 := F3.fits (l' := [(acc, LstO ys), (_, TupO [.int p.2.1 _, .str p.2.2 _])]) (by walk_at "FITS")
    have ht := F3.at_ (List.Mem.tail _ (List.Mem.head _))
    obtain ⟨g5, kg5, F4, kf5⟩ := (F3.fits (l' := [(acc, LstO ys)]) (by walk_at "FITS")).anew (by walk_at "MUT")
    refine ⟨g5, _, _, _, rfl, kg5, F4, ?_⟩
    show Tups g5 (ys ++ [_]) ((lt.map (·.2)).take (i + 1))
    rw [List.take_succ, List.getElem?_map, hp]
    exact (hJ.keep kg5).append (.cons (ht.kf kf5 fun _ => frzT) .nil)
  case fin =>
    rintro D h' tk ys g' nD k1 k2 hD hJ
    have hJ : Tups h' ys (lt.map (·.2)) := by
      have hJ : Tups g' ys ((lt.map (·.2)).take (lt.map (·.1)).length) := hJ
      rw [show (lt.map (·.1)).length = (lt.map (·.2)).length from by simp, List.take_length] at hJ; exact hJ.keep k2
    have F6 := F.afterX hx hp nL1 nit (k1.trans k2)
    clear k1 k2 hx hp fs kB5 kB5' hgn hn hit5
    (try dsimp only)
    show wpAny _ _ _ _ _ _
    k_fold
    repeat' (first | ((fail_if_success (with_reducible show wpAny _ _ (eval (PySem.Expr.ListComp _ _ _ _) _) _ _ _)); (fail_if_success (with_reducible show wpAny _ _ (exec (PySem.Stmt.While _ _ _ _) _) _ _ _)); walk1) | (dsimp only; (fail_if_success (with_reducible show wpAny _ _ (eval (PySem.Expr.ListComp _ _ _ _) _) _ _ _)); (fail_if_success (with_reducible show wpAny _ _ (exec (PySem.Stmt.While _ _ _ _) _) _ _ _)); walk1))
    have hvl : vs.length = (its.map (·.2)).length := hT.length
    have hvl2 : vs.length ≤ 26 := by rw [hvl, List.length_map]; exact few
    refine compL (cl := [(Str.ofString "codes", L + 1)]) (J := fun i g' ys => Tups g' ys (((its.map (·.2)).take i).filter fun r => decide (r.1 ∈ vC))) (by rfl) (by decide) rfl (by decide) hh ?_
    walk1
    refine ⟨ra, _, _, _, _, _, rfl, hra.keep F6.keep, by rw [sizeLine_eq]; omega, F6, .nil, ?turn2, ?fin2⟩
    case turn2 =>
      rintro i v hv C it2 acc ys2 g' m' h2 tk' hJ2 kg F'
      obtain ⟨a', c, tx, t1, u1, hv', hrw, hat⟩ := hT.get i (List.getElem?_eq_some_iff.mp hv).1
      rw [hv] at hv'
      cases hv'
      have hat' := hat.keep (F6.keep.trans kg)
      have hcell := (F6.at_ (show (L + 1, CelO (some (.ref cl))) ∈ _ from .tail _ (.head _))).keep kg
      have hcl' := hcl.keep (F6.keep.trans kg)
      refine goName F' (fun h4 tk4 F2 => ?_)
      refine wpAny_tests_one ?_
      k_fold
      repeat' (first | ((fail_if_success (with_reducible show wpAny _ _ (eval (PySem.Expr.ListComp _ _ _ _) _) _ _ _)); (fail_if_success (with_reducible show wpAny _ _ (exec (PySem.Stmt.While _ _ _ _) _) _ _ _)); (fail_if_success (with_reducible show Exists _)); walk1) | (dsimp only; (fail_if_success (with_reducible show wpAny _ _ (eval (PySem.Expr.ListComp _ _ _ _) _) _ _ _)); (fail_if_success (with_reducible show wpAny _ _ (exec (PySem.Stmt.While _ _ _ _) _) _ _ _)); (fail_if_success (with_reducible show Exists _)); walk1))
      refine subT (k := 0) (hat'.keep F2.keep) rfl (by simp) ?_
      refine cellName (hcell.keep F2.keep) ?_
      repeat' (first | ((fail_if_success (with_reducible show wpAny _ _ (eval (PySem.Expr.ListComp _ _ _ _) _) _ _ _)); (fail_if_success (with_reducible show wpAny _ _ (exec (PySem.Stmt.While _ _ _ _) _) _ _ _)); (fail_if_success (with_reducible show Exists _)); walk1) | (dsimp only; (fail_if_success (with_reducible show wpAny _ _ (eval (PySem.Expr.ListComp _ _ _ _) _) _ _ _)); (fail_if_success (with_reducible show wpAny _ _ (exec (PySem.Stmt.While _ _ _ _) _) _ _ _)); (fail_if_success (with_reducible show Exists _)); walk1))
      all_goals (try dsimp only)
      all_goals (try k_unfold)
      all_goals (try dsimp only)
      · rename _ ∈ vC => c1
        refine ⟨g', _, _, _, rfl, kg, F2, ?_⟩
        rw [List.take_succ, hrw, List.filter_append, Option.toList_some, List.filter_cons_of_pos (by simpa using c1)]
        exact hJ2.append (.cons hat' .nil)
      · rename ¬ _ ∈ vC => c1
        refine ⟨g', _, _, _, rfl, kg, F2, ?_⟩
        rw [List.take_succ, hrw, List.filter_append, Option.toList_some, List.filter_cons_of_neg (by simpa using c1), List.filter_nil, List.append_nil]
        exact hJ2
    case fin2 =>
      rintro D2 h2 tk2 ys2 g2 k1 k2 F7 hJ2
      have hJ2 : Tups h2 ys2 ((its.map (·.2)).filter fun r => decide (r.1 ∈ vC)) := by
        have hJ2 : Tups g2 ys2 (((its.map (·.2)).take vs.length).filter fun r => decide (r.1 ∈ vC)) := hJ2
        rw [hvl, List.take_length] at hJ2; exact hJ2.keep k2
      have kk := k1.trans k2
      refine eqTups (hD.keep kk) (F7.at_ (.head _)) (hJ.keep kk) hJ2 (by omega) ?_
      rw [hrow, decide_eq_true rfl]
      (try k_unfold)
      (try dsimp only)
      exact @next h2 _ ps F7.keep (F7.at_ (.tail _ (.head _)))
end
end
section
local macro_rules | `(tactic| walk_at "GG") => `(tactic| first | assumption | exact GG.keep (by assumption) (Fm.keep (by assumption)))
local macro_rules | `(tactic| walk_at "AT") => `(tactic| first | assumption | exact Fm.at_ (by assumption) (by k_mem) | exact At.keep (by assumption) (Fm.keep (by assumption)))
local macro_rules | `(tactic| walk_at "CHG") => `(tactic| repeat (first | exact Chg.head | apply Chg.tail))
local macro_rules | `(tactic| walk_at "LIST") => `(tactic| first | exact isList_keep (by assumption) (Fm.keep (by assumption)) | exact isList_of (Fm.at_ (by assumption) (by k_mem)) | exact isList_of (by walk_at "AT"))
local macro_rules | `(tactic| walk_at "NUM") => `(tactic| first | decide | omega | (simp only [List.length_cons, List.length_nil]; omega))
local macro_rules | `(tactic| walk_at "eval Name") => `(tactic| first
  | (refine lv (by assumption) (by first | rfl | assumption) ?_)
  | (k_dflt (refine' gv ?G ?e ?_; (case G => walk_at "GG"); (case e => k_is); k_whole))
  | (k_dflt (refine' bv ?G ?e ?v ?_; (case G => walk_at "GG"); (case e => k_is); (case v => boot_by_name); k_whole)))
local macro_rules | `(tactic| walk_at "loadName") => `(tactic| (refine lvN (by assumption) (by first | rfl | assumption) ?_))
local macro_rules | `(tactic| walk_at "eval Constant int") => `(tactic| (with_reducible refine ci ?_; intro t' tk'))
local macro_rules | `(tactic| walk_at "eval Constant str") => `(tactic| (with_reducible refine cs ?_; intro t' tk'))
local macro_rules | `(tactic| walk_at "storeName") => `(tactic| (refine svT (by assumption) ?_; intro h' tk' F'))
local macro_rules | `(tactic| walk_at "binaryOp Add int int") => `(tactic| (with_reducible refine addI ?_; intro t' tk'))
local macro_rules | `(tactic| walk_at "inplaceOp Add int int") => `(tactic| (with_reducible refine iaddI ?_; intro t' tk'))
local macro_rules | `(tactic| walk_at "binaryOp Mod int int") => `(tactic| (refine modI (by omega) ?_; intro r' t' tk' hr1 hr2))
local macro_rules | `(tactic| walk_at "binaryOp FloorDiv int int") => `(tactic| (refine fdivI (by omega) (by omega) (by omega) (by omega) ?_; intro r' t' tk' hr1 hr2))
local macro_rules | `(tactic| walk_at "PART") => `(tactic| first | exact IsPart.none | exact IsPart.int _ _)
local macro_rules | `(tactic| walk_at "PICK") => `(tactic| first | exact pick_upto (by omega) | exact pick_run (by omega))
local macro_rules | `(tactic| walk_at "subscriptTail") => `(tactic| (k_dflt (first
  | ((with_reducible show wpAny _ _ (subscriptTail _ _ (Value.ref _) (Value.ref _)) _ _ _); refine' sliceL ?F ?x ?pl ?pu ?z ?e ?_; (case F => assumption); (case x => k_mem); (case pl => walk_at "PART"); (case pu => walk_at "PART"); (case z => walk_at "SZ"); (case e => walk_at "PICK"); k_whole; intro b' h' kp' F')
  | (refine' subL ?x ?a ?b ?c ?_; (case x => walk_at "AT"); (case a => walk_at "NUM"); (case b => walk_at "NUM"); (case c => first | rfl | assumption); k_whole)
  | (refine' sub2 ?x ?a ?_ ?_; (case x => walk_at "AT"); (case a => omega))
  | (refine' subM ?x ?T ?a ?b ?c ?_; (case x => walk_at "AT"); (case T => assumption); (case a => walk_at "NUM"); (case b => walk_at "NUM"); (case c => omega); k_whole; intro b' hR'))))
local macro_rules | `(tactic| walk_at "subscriptTail Subscript") => `(tactic| (k_dflt (refine' subScr ?x ?i ?a ?b ?c ?_; (case x => walk_at "LIST"); (case i => assumption); (case a => omega); (case b => omega); (case c => omega); k_whole); intro j' t'))
local macro_rules | `(tactic| walk_at "setItem") => `(tactic| (k_dflt (refine' setF ?F ?x ?a ?b ?c ?_; (case F => assumption); (case x => walk_at "CHG"); (case a => walk_at "NUM"); (case b => walk_at "NUM"); (case c => walk_at "NUM"); k_whole); intro h' F'; (try simp only [List.set_cons_zero, List.set_cons_succ, Int.reduceToNat] at F')))
local macro_rules | `(tactic| walk_at "call builtin:len") => `(tactic| (k_dflt (refine' lenI ?x ?a ?_; (case x => walk_at "LIST"); (case a => omega); k_whole); intro t' tk'))
local macro_rules | `(tactic| walk_at "SZ") => `(tactic| first | (rw [sizeLine_eq]; (try simp only [List.length_append, List.length_cons, List.length_nil, List.length_take]); omega) | size_fits)
local macro_rules | `(tactic| walk_at "callWith ref") => `(tactic| (k_dflt (refine' callG ?k1 ?k2 ?_; (case k1 => k_is); (case k2 => exact rfl))))
local macro_rules | `(tactic| walk_at "newList") => `(tactic| (refine newL (by assumption) (by walk_at "SZ") ?_; intro a' h' kp' F'))
local macro_rules | `(tactic| walk_at "newTuple") => `(tactic| (refine newT (by assumption) (by walk_at "SZ") ?_; intro a' h' kp' hat' F'))
local macro_rules | `(tactic| walk_at "eval Slice") => `(tactic| refine sliceF ?_)
local macro_rules | `(tactic| walk_at "Exists") => `(tactic| (refine ⟨_, _, _, _, by assumption, ?_⟩; intro a' h' kp' F'))
local macro_rules | `(tactic| walk_at "getMethod ref") => `(tactic| (k_dflt (first | refine methApp (by walk_at "AT") ?_ | refine methClr (by walk_at "AT") ?_)))
local macro_rules | `(tactic| walk_at "call builtin:list.append") => `(tactic| (k_dflt (refine' appL ?F ?c ?z ?_; (case F => assumption); (case c => walk_at "CHG"); (case z => walk_at "SZ"); k_whole); intro h' F'))
local macro_rules | `(tactic| walk_at "call builtin:list.clear") => `(tactic| (k_dflt (refine' clrL ?F ?c ?z ?_; (case F => assumption); (case c => walk_at "CHG"); (case z => walk_at "SZ"); k_whole); intro h' F'))
local macro_rules | `(tactic| walk_at "call type:range") => `(tactic| (refine range1 (by assumption) ?_; intro a' h' tk' kp' F'))
local macro_rules | `(tactic| walk_at "pyIter ref") => `(tactic| (k_dflt (refine' iterR ?F ?a ?b ?_; (case F => assumption); (case a => omega); (case b => omega); k_whole); intro it' h' kp' F'))
local macro_rules | `(tactic| walk_at "binaryOp Add ref ref") => `(tactic| (k_dflt (refine' addL ?F ?x ?y ?z ?_; (case F => assumption); (case x => walk_at "AT"); (case y => walk_at "AT"); (case z => walk_at "SZ"); k_whole); intro a' h' kp' F'))
local macro_rules | `(tactic| walk_at "exec For") => `(tactic| refine wpAny_For ?_)
local macro_rules | `(tactic| walk_at "DEPTH") => `(tactic| first | omega | ((try simp only [depth_deeper, depth_in1]); omega))
local macro_rules | `(tactic| walk_at "MUT") => `(tactic| repeat (first | exact Muts.nil | refine Muts.cons (by first | exact mutL | exact mutI | exact mutRI | exact mutR | exact mutS | exact mutCO) ?_))
local macro_rules | `(tactic| walk_at "CALL") => `(tactic| fail)
local macro_rules | `(tactic| walk_at "codeAny call") => `(tactic| walk_at "CALL")
local macro_rules | `(tactic| walk_at "FITS") => `(tactic| repeat (first | exact Fits.nil | exact Pull.head | apply Fits.cons | apply Pull.tail))
local macro_rules | `(tactic| walk_at "truthy ref") => `(tactic| (k_dflt (refine' truthyL ?x ?z ?_; (case x => walk_at "AT"); (case z => walk_at "SZ"); k_whole); intro tk'))
local macro_rules | `(tactic| walk_at "SETS") => `(tactic| first | exact setX (by walk_at "GG") | exact setI (by walk_at "GG") | exact setV (by walk_at "GG"))
local macro_rules | `(tactic| walk_at "compareOp In int ref") => `(tactic| (k_dflt (refine' inSet ?S ?_; (case S => walk_at "SETS"); k_whole); intro tk'))
local macro_rules | `(tactic| walk_at "compareOp NotIn int ref") => `(tactic| (k_dflt (refine' notInSet ?S ?_; (case S => walk_at "SETS"); k_whole); intro tk'))
local macro_rules | `(tactic| walk_at "compareOp In int ref") => `(tactic| (k_dflt (refine' inInts ?x ?I ?_; (case x => walk_at "AT"); (case I => assumption); k_whole)))
local macro_rules | `(tactic| walk_at "compareOp NotIn int ref") => `(tactic| (k_dflt (refine' notInInts ?x ?I ?_; (case x => walk_at "AT"); (case I => assumption); k_whole)))
local macro_rules | `(tactic| walk_at "assign Tuple") => `(tactic| (k_dflt (refine' asgT ?hh ?F ?x ?n ?st ?_; (case hh => assumption); (case F => assumption); (case x => walk_at "AT"); (case n => rfl); (case st => rfl); k_whole); intro h' kp' F'))
local macro_rules | `(tactic| walk_at "unpackItems ref") => `(tactic| (k_dflt (refine' unpI ?hh ?F ?x ?n ?_; (case hh => assumption); (case F => assumption); (case x => walk_at "AT"); (case n => rfl); k_whole); intro h' kp' F'))
local macro_rules | `(tactic| walk_at "pyIter ref") => `(tactic| (k_dflt (refine' iterL ?F ?x ?_; (case F => assumption); (case x => walk_at "AT"); k_whole); intro it' h' kp' F'))
section
variable {prog : Program} {w : World} {A : Around} {E : Value → Shared → Prop} {s : Shared} {R : Result → Shared → Prop}
theorem ns_hide {h : Heap} {a : Addr} {m : Str → Option Value} (x : h.Ns a m) (n : a ≠ 128) : (hideAll h [128]).Ns a m := by
  obtain ⟨o, es, ep, e, r⟩ := x
  exact ⟨o, es, ep, hideAll_get _ e (by simpa using n), r⟩
theorem k128 : (hd.heap_39 w.params).lookup 128 = none := by rfl
theorem GG.hide {h : Heap} (G : GG w h) : GG w (hideAll h [128]) :=
  ⟨fun a o e => hideAll_get _ (G.inK a o e) (fun hm => by rw [List.mem_singleton.mp hm, k128] at e; cases e), let ⟨mg, e⟩ := G.ns; ⟨mg, ns_hide e (by decide)⟩, let ⟨mb, e, q⟩ := G.bi; ⟨mb, ns_hide e (by decide), q⟩, by
    obtain ⟨m, e, q⟩ := G.nl
    exact ⟨m, ns_hide e (by decide), q⟩⟩
theorem BM.hide {h : Heap} (x : BM h) (t : At h 128 (TabO #[])) : BM (hideAll h [128]) := by
  obtain ⟨mg, bm, o, a, b, c, d, e, f⟩ := x
  refine ⟨mg, bm, o, ns_hide a (by decide), b, c, hideAll_get _ d (fun hm => ?_), e, f⟩
  obtain ⟨o', e', q⟩ := t
  rw [List.mem_singleton.mp hm, e'] at d
  cases d
  have q : o = _ := q
  rw [q] at e
  cases e
theorem law_body {name qual : Str} {params : Arguments} {body : List Stmt} {scope : Scope} {dV kV doc pm cdv ct oc : Value} {an od : Option Addr} {osl : Array (Option Value)} {g : Heap} {L scr : Addr} {m : Str → Option Value} {Q : Flow → Shared → Prop}
    (ho : (hd.heap_39 w.params).lookup 181 = some ⟨oc, od, .func (fnOf name qual params body scope dV kV doc pm an cdv ct), osl⟩)
    (G : GG w g) (hBM : BM g) (F : Fm g L m (ownL L) s.heap) (hm : m (Str.ofString "script") = some (.ref scr)) (hs : Scr scr g) (hh : A.handled = none) (hroom : A.depth + 60 < recursionLimit) (hu : A.units + 100 < cLine) (hfr : A.frames = some [envL qual scope L cdv]) (hb : AllBare s.gens)
    (next : ∀ h tk gens ps, Keep g h → At h 128 (TabO ps) → AllBare gens → Q (.ret (.bool true)) { s with heap := h, toks := tk, gens := gens }) :
    wpC (model prog w) A (execs body (envL qual scope L cdv)) Q E s := by
  refine phaseA ho G F hm hs hh hroom hu hb fun B h tk gens m its kB F X hb1 => ?_
  have GB := G.keep kB
  refine phaseB ho GB F X hh hroom hu fun h2 tk2 F2 => ?_
  refine phaseB2 ho GB F2 X hh hroom hu fun h3 tk3 F3 => ?_
  refine phaseB3 ho GB F3 X hh hroom hu (hb1.push rfl) fun h4 tk4 gens4 F4 hb4 => ?_
  refine phaseC ho GB F4 X hh hroom hu hfr fun h5 tk5 F5 => ?_
  refine phaseD ho GB F5 X hh hroom hu fun B6 cl us h6 tk6 kB6 hcl hI F6 => ?_
  refine phaseE ho (GB.keep kB6) (hBM.keep (kB.trans kB6)) F6 hcl hI (X.keep kB6) hh hroom hu fun h7 tk7 ps k7 h128 => ?_
  exact next h7 tk7 _ ps ((kB.trans kB6).trans k7) h128 ((hb4.push rfl).push rfl)
theorem oldK_of {h0 h : Heap} (G : GG w h0) (t : At h0 128 (TabO #[])) (k : Keep (hideAll h0 [128]) h) {ps : Array Value} (p : At h 128 (TabO ps)) : OldK h0 h := by
  have ht := (codeOf G t).2.isCodeTable
  obtain ⟨o', e', q'⟩ := p
  obtain rfl : o' = _ := q'
  refine ⟨fun b o e => ?_, fun b o e => ?_⟩
  · by_cases hb : b = 128
    · subst hb
      obtain ⟨o1, e1, q1⟩ := t
      rw [e] at e1; cases e1
      obtain rfl : o = _ := q1
      exact .inr (.inl ⟨ht, rfl, #[], ps, rfl, by simpa using e'⟩)
    · exact .inl (k _ _ (hideAll_get _ e (by simpa using hb)))
  · by_cases hb : b = 128
    · subst hb; exact ⟨_, e'⟩
    · exact ⟨o, k _ _ (hideAll_get _ e (by simpa using hb))⟩
end
end
section
local macro_rules | `(tactic| walk_at "GG") => `(tactic| first | assumption | exact GG.keep (by assumption) (Fm.keep (by assumption)))
local macro_rules | `(tactic| walk_at "AT") => `(tactic| first | assumption | exact Fm.at_ (by assumption) (by k_mem) | exact At.keep (by assumption) (Fm.keep (by assumption)))
local macro_rules | `(tactic| walk_at "CHG") => `(tactic| repeat (first | exact Chg.head | apply Chg.tail))
local macro_rules | `(tactic| walk_at "LIST") => `(tactic| first | exact isList_keep (by assumption) (Fm.keep (by assumption)) | exact isList_of (Fm.at_ (by assumption) (by k_mem)) | exact isList_of (by walk_at "AT"))
local macro_rules | `(tactic| walk_at "NUM") => `(tactic| first | decide | omega | (simp only [List.length_cons, List.length_nil]; omega))
local macro_rules | `(tactic| walk_at "eval Name") => `(tactic| first
  | (refine lv (by assumption) (by first | rfl | assumption) ?_)
  | (k_dflt (refine' gv ?G ?e ?_; (case G => walk_at "GG"); (case e => k_is); k_whole))
  | (k_dflt (refine' bv ?G ?e ?v ?_; (case G => walk_at "GG"); (case e => k_is); (case v => boot_by_name); k_whole)))
local macro_rules | `(tactic| walk_at "loadName") => `(tactic| (refine lvN (by assumption) (by first | rfl | assumption) ?_))
local macro_rules | `(tactic| walk_at "eval Constant int") => `(tactic| (with_reducible refine ci ?_; intro t' tk'))
local macro_rules | `(tactic| walk_at "eval Constant str") => `(tactic| (with_reducible refine cs ?_; intro t' tk'))
local macro_rules | `(tactic| walk_at "storeName") => `(tactic| (refine svT (by assumption) ?_; intro h' tk' F'))
local macro_rules | `(tactic| walk_at "binaryOp Add int int") => `(tactic| (with_reducible refine addI ?_; intro t' tk'))
local macro_rules | `(tactic| walk_at "inplaceOp Add int int") => `(tactic| (with_reducible refine iaddI ?_; intro t' tk'))
local macro_rules | `(tactic| walk_at "binaryOp Mod int int") => `(tactic| (refine modI (by omega) ?_; intro r' t' tk' hr1 hr2))
local macro_rules | `(tactic| walk_at "binaryOp FloorDiv int int") => `(tactic| (refine fdivI (by omega) (by omega) (by omega) (by omega) ?_; intro r' t' tk' hr1 hr2))
local macro_rules | `(tactic| walk_at "PART") => `(tactic| first | exact IsPart.none | exact IsPart.int _ _)
local macro_rules | `(tactic| walk_at "PICK") => `(tactic| first | exact pick_upto (by omega) | exact pick_run (by omega))
local macro_rules | `(tactic| walk_at "subscriptTail") => `(tactic| (k_dflt (first
  | ((with_reducible show wpAny _ _ (subscriptTail _ _ (Value.ref _) (Value.ref _)) _ _ _); refine' sliceL ?F ?x ?pl ?pu ?z ?e ?_; (case F => assumption); (case x => k_mem); (case pl => walk_at "PART"); (case pu => walk_at "PART"); (case z => walk_at "SZ"); (case e => walk_at "PICK"); k_whole; intro b' h' kp' F')
  | (refine' subL ?x ?a ?b ?c ?_; (case x => walk_at "AT"); (case a => walk_at "NUM"); (case b => walk_at "NUM"); (case c => first | rfl | assumption); k_whole)
  | (refine' sub2 ?x ?a ?_ ?_; (case x => walk_at "AT"); (case a => omega))
  | (refine' subM ?x ?T ?a ?b ?c ?_; (case x => walk_at "AT"); (case T => assumption); (case a => walk_at "NUM"); (case b => walk_at "NUM"); (case c => omega); k_whole; intro b' hR'))))
local macro_rules | `(tactic| walk_at "subscriptTail Subscript") => `(tactic| (k_dflt (refine' subScr ?x ?i ?a ?b ?c ?_; (case x => walk_at "LIST"); (case i => assumption); (case a => omega); (case b => omega); (case c => omega); k_whole); intro j' t'))
local macro_rules | `(tactic| walk_at "setItem") => `(tactic| (k_dflt (refine' setF ?F ?x ?a ?b ?c ?_; (case F => assumption); (case x => walk_at "CHG"); (case a => walk_at "NUM"); (case b => walk_at "NUM"); (case c => walk_at "NUM"); k_whole); intro h' F'; (try simp only [List.set_cons_zero, List.set_cons_succ, Int.reduceToNat] at F')))
local macro_rules | `(tactic| walk_at "call builtin:len") => `(tactic| (k_dflt (refine' lenI ?x ?a ?_; (case x => walk_at "LIST"); (case a => omega); k_whole); intro t' tk'))
local macro_rules | `(tactic| walk_at "SZ") => `(tactic| first | (rw [sizeLine_eq]; (try simp only [List.length_append, List.length_cons, List.length_nil, List.length_take]); omega) | size_fits)
local macro_rules | `(tactic| walk_at "callWith ref") => `(tactic| (k_dflt (refine' callG ?k1 ?k2 ?_; (case k1 => k_is); (case k2 => exact rfl))))
local macro_rules | `(tactic| walk_at "newList") => `(tactic| (refine newL (by assumption) (by walk_at "SZ") ?_; intro a' h' kp' F'))
local macro_rules | `(tactic| walk_at "newTuple") => `(tactic| (refine newT (by assumption) (by walk_at "SZ") ?_; intro a' h' kp' hat' F'))
local macro_rules | `(tactic| walk_at "eval Slice") => `(tactic| refine sliceF ?_)
local macro_rules | `(tactic| walk_at "Exists") => `(tactic| (refine ⟨_, _, _, _, by assumption, ?_⟩; intro a' h' kp' F'))
local macro_rules | `(tactic| walk_at "getMethod ref") => `(tactic| (k_dflt (first | refine methApp (by walk_at "AT") ?_ | refine methClr (by walk_at "AT") ?_)))
local macro_rules | `(tactic| walk_at "call builtin:list.append") => `(tactic| (k_dflt (refine' appL ?F ?c ?z ?_; (case F => assumption); (case c => walk_at "CHG"); (case z => walk_at "SZ"); k_whole); intro h' F'))
local macro_rules | `(tactic| walk_at "call builtin:list.clear") => `(tactic| (k_dflt (refine' clrL ?F ?c ?z ?_; (case F => assumption); (case c => walk_at "CHG"); (case z => walk_at "SZ"); k_whole); intro h' F'))
local macro_rules | `(tactic| walk_at "call type:range") => `(tactic| (refine range1 (by assumption) ?_; intro a' h' tk' kp' F'))
local macro_rules | `(tactic| walk_at "pyIter ref") => `(tactic| (k_dflt (refine' iterR ?F ?a ?b ?_; (case F => assumption); (case a => omega); (case b => omega); k_whole); intro it' h' kp' F'))
local macro_rules | `(tactic| walk_at "binaryOp Add ref ref") => `(tactic| (k_dflt (refine' addL ?F ?x ?y ?z ?_; (case F => assumption); (case x => walk_at "AT"); (case y => walk_at "AT"); (case z => walk_at "SZ"); k_whole); intro a' h' kp' F'))
local macro_rules | `(tactic| walk_at "exec For") => `(tactic| refine wpAny_For ?_)
local macro_rules | `(tactic| walk_at "DEPTH") => `(tactic| first | omega | ((try simp only [depth_deeper, depth_in1]); omega))
local macro_rules | `(tactic| walk_at "MUT") => `(tactic| repeat (first | exact Muts.nil | refine Muts.cons (by first | exact mutL | exact mutI | exact mutRI | exact mutR | exact mutS | exact mutCO) ?_))
local macro_rules | `(tactic| walk_at "CALL") => `(tactic| fail)
local macro_rules | `(tactic| walk_at "codeAny call") => `(tactic| walk_at "CALL")
local macro_rules | `(tactic| walk_at "FITS") => `(tactic| repeat (first | exact Fits.nil | exact Pull.head | apply Fits.cons | apply Pull.tail))
local macro_rules | `(tactic| walk_at "truthy ref") => `(tactic| (k_dflt (refine' truthyL ?x ?z ?_; (case x => walk_at "AT"); (case z => walk_at "SZ"); k_whole); intro tk'))
local macro_rules | `(tactic| walk_at "SETS") => `(tactic| first | exact setX (by walk_at "GG") | exact setI (by walk_at "GG") | exact setV (by walk_at "GG"))
local macro_rules | `(tactic| walk_at "compareOp In int ref") => `(tactic| (k_dflt (refine' inSet ?S ?_; (case S => walk_at "SETS"); k_whole); intro tk'))
local macro_rules | `(tactic| walk_at "compareOp NotIn int ref") => `(tactic| (k_dflt (refine' notInSet ?S ?_; (case S => walk_at "SETS"); k_whole); intro tk'))
local macro_rules | `(tactic| walk_at "compareOp In int ref") => `(tactic| (k_dflt (refine' inInts ?x ?I ?_; (case x => walk_at "AT"); (case I => assumption); k_whole)))
local macro_rules | `(tactic| walk_at "compareOp NotIn int ref") => `(tactic| (k_dflt (refine' notInInts ?x ?I ?_; (case x => walk_at "AT"); (case I => assumption); k_whole)))
local macro_rules | `(tactic| walk_at "assign Tuple") => `(tactic| (k_dflt (refine' asgT ?hh ?F ?x ?n ?st ?_; (case hh => assumption); (case F => assumption); (case x => walk_at "AT"); (case n => rfl); (case st => rfl); k_whole); intro h' kp' F'))
local macro_rules | `(tactic| walk_at "unpackItems ref") => `(tactic| (k_dflt (refine' unpI ?hh ?F ?x ?n ?_; (case hh => assumption); (case F => assumption); (case x => walk_at "AT"); (case n => rfl); k_whole); intro h' kp' F'))
local macro_rules | `(tactic| walk_at "pyIter ref") => `(tactic| (k_dflt (refine' iterL ?F ?x ?_; (case F => assumption); (case x => walk_at "AT"); k_whole); intro it' h' kp' F'))
section
variable {prog : Program} {w : World} {A : Around} {E : Value → Shared → Prop} {s : Shared} {R : Result → Shared → Prop}
theorem law_ok {scr : Addr} (G : GG w s.heap) (hBM : BM s.heap) (t : At s.heap 128 (TabO #[])) (hs : Scr scr s.heap) (hh : A.handled = none) (hfr : A.frames = some []) (hroom : A.depth + 70 < recursionLimit) (hu : A.units + 200 < cLine) (hb : AllBare s.gens)
    (hR : ∀ h tk gens, OldK s.heap h → AllBare gens → R (.ok (.ret (.bool true))) { s with heap := h, toks := tk, gens := gens }) :
    codeC (model prog w) A (.call (.ref 181) ⟨[.ref scr], []⟩) R s := by
  refine enterC (x := Str.ofString "script") (y := Str.ofString "codes") G (by k_is) (by k_is) (by omega) rfl rfl (fun _ => rfl) (fun _ => rfl) fun L h₁ tk hn hc hk nL nL1 => ?_
  have n128 : ∀ b, s.heap.get? b = none → b ≠ 128 := fun b n q => by obtain ⟨o, e, _⟩ := t; rw [q, e] at n; cases n
  have F : Fm (hideAll s.heap [128]) L (fun z => if z = Str.ofString "script" then some (.ref scr) else none) (ownL L) h₁ := by
    have hid : ∀ b, s.heap.get? b = none → (hideAll s.heap [128]).get? b = none := fun b n => by
      cases e : (hideAll s.heap [128]).get? b with
      | none => rfl
      | some o => rw [of_hideAll _ e] at n; cases n
    refine ⟨hn, fun b o e => hk _ _ (of_hideAll _ e), hid _ nL, fun p hp => ?_, List.nodup_cons.mpr ⟨fun hm => n128 _ nL1 (List.mem_singleton.mp hm).symm, List.nodup_cons.mpr ⟨List.not_mem_nil, List.nodup_nil⟩⟩⟩
    rcases List.mem_cons.mp hp with rfl | hp
    · exact ⟨t.keep hk, hideAll_none _ (.head _), fun q => n128 _ nL q.symm⟩
    · have hp := List.mem_singleton.mp hp
      subst hp
      exact ⟨hc, hid _ nL1, Nat.ne_of_gt (Nat.lt_succ_self L)⟩
  have hs' : Scr scr (hideAll s.heap [128]) := by
    obtain ⟨vs, ns, hl, hi, hlen⟩ := hs
    obtain ⟨o, e, r, n, d⟩ := hl
    refine ⟨vs, ns, ⟨o, hideAll_get _ e (fun hm => ?_), r, n, d⟩, hi, hlen⟩
    obtain ⟨o', e', q⟩ := t
    rw [List.mem_singleton.mp hm, e'] at e
    cases e
    have q : o = _ := q
    rw [q] at d
    cases d
  refine law_body (by k_is) (GG.hide G) (hBM.hide t) F (if_pos rfl) hs' hh (by walk_at "DEPTH") (by show A.units + 3 + 100 < cLine; omega) (Around.frames_deeper hfr) hb fun h tk gens ps k p hb => ?_
  exact hR h tk gens (oldK_of G t k p) hb
end
end
section
local macro_rules | `(tactic| walk_at "GG") => `(tactic| first | assumption | exact GG.keep (by assumption) (Fm.keep (by assumption)))
local macro_rules | `(tactic| walk_at "AT") => `(tactic| first | assumption | exact Fm.at_ (by assumption) (by k_mem) | exact At.keep (by assumption) (Fm.keep (by assumption)))
local macro_rules | `(tactic| walk_at "CHG") => `(tactic| repeat (first | exact Chg.head | apply Chg.tail))
local macro_rules | `(tactic| walk_at "LIST") => `(tactic| first | exact isList_keep (by assumption) (Fm.keep (by assumption)) | exact isList_of (Fm.at_ (by assumption) (by k_mem)) | exact isList_of (by walk_at "AT"))
local macro_rules | `(tactic| walk_at "NUM") => `(tactic| first | decide | omega | (simp only [List.length_cons, List.length_nil]; omega))
local macro_rules | `(tactic| walk_at "eval Name") => `(tactic| first
  | (refine lv (by assumption) (by first | rfl | assumption) ?_)
  | (k_dflt (refine' gv ?G ?e ?_; (case G => walk_at "GG"); (case e => k_is); k_whole))
  | (k_dflt (refine' bv ?G ?e ?v ?_; (case G => walk_at "GG"); (case e => k_is); (case v => boot_by_name); k_whole)))
local macro_rules | `(tactic| walk_at "loadName") => `(tactic| (refine lvN (by assumption) (by first | rfl | assumption) ?_))
local macro_rules | `(tactic| walk_at "eval Constant int") => `(tactic| (with_reducible refine ci ?_; intro t' tk'))
local macro_rules | `(tactic| walk_at "eval Constant str") => `(tactic| (with_reducible refine cs ?_; intro t' tk'))
local macro_rules | `(tactic| walk_at "storeName") => `(tactic| (refine svT (by assumption) ?_; intro h' tk' F'))
local macro_rules | `(tactic| walk_at "binaryOp Add int int") => `(tactic| (with_reducible refine addI ?_; intro t' tk'))
local macro_rules | `(tactic| walk_at "inplaceOp Add int int") => `(tactic| (with_reducible refine iaddI ?_; intro t' tk'))
local macro_rules | `(tactic| walk_at "binaryOp Mod int int") => `(tactic| (refine modI (by omega) ?_; intro r' t' tk' hr1 hr2))
local macro_rules | `(tactic| walk_at "binaryOp FloorDiv int int") => `(tactic| (refine fdivI (by omega) (by omega) (by omega) (by omega) ?_; intro r' t' tk' hr1 hr2))
local macro_rules | `(tactic| walk_at "PART") => `(tactic| first | exact IsPart.none | exact IsPart.int _ _)
local macro_rules | `(tactic| walk_at "PICK") => `(tactic| first | exact pick_upto (by omega) | exact pick_run (by omega))
local macro_rules | `(tactic| walk_at "subscriptTail") => `(tactic| (k_dflt (first
  | ((with_reducible show wpAny _ _ (subscriptTail _ _ (Value.ref _) (Value.ref _)) _ _ _); refine' sliceL ?F ?x ?pl ?pu ?z ?e ?_; (case F => assumption); (case x => k_mem); (case pl => walk_at "PART"); (case pu => walk_at "PART"); (case z => walk_at "SZ"); (case e => walk_at "PICK"); k_whole; intro b' h' kp' F')
  | (refine' subL ?x ?a ?b ?c ?_; (case x => walk_at "AT"); (case a => walk_at "NUM"); (case b => walk_at "NUM"); (case c => first | rfl | assumption); k_whole)
  | (refine' sub2 ?x ?a ?_ ?_; (case x => walk_at "AT"); (case a => omega))
  | (refine' subM ?x ?T ?a ?b ?c ?_; (case x => walk_at "AT"); (case T => assumption); (case a => walk_at "NUM"); (case b => walk_at "NUM"); (case c => omega); k_whole; intro b' hR'))))
local macro_rules | `(tactic| walk_at "subscriptTail Subscript") => `(tactic| (k_dflt (refine' subScr ?x ?i ?a ?b ?c ?_; (case x => walk_at "LIST"); (case i => assumption); (case a => omega); (case b => omega); (case c => omega); k_whole); intro j' t'))
local macro_rules | `(tactic| walk_at "setItem") => `(tactic| (k_dflt (refine' setF ?F ?x ?a ?b ?c ?_; (case F => assumption); (case x => walk_at "CHG"); (case a => walk_at "NUM"); (case b => walk_at "NUM"); (case c => walk_at "NUM"); k_whole); intro h' F'; (try simp only [List.set_cons_zero, List.set_cons_succ, Int.reduceToNat] at F')))
local macro_rules | `(tactic| walk_at "call builtin:len") => `(tactic| (k_dflt (refine' lenI ?x ?a ?_; (case x => walk_at "LIST"); (case a => omega); k_whole); intro t' tk'))
local macro_rules | `(tactic| walk_at "SZ") => `(tactic| first | (rw [sizeLine_eq]; (try simp only [List.length_append, List.length_cons, List.length_nil, List.length_take]); omega) | size_fits)
local macro_rules | `(tactic| walk_at "callWith ref") => `(tactic| (k_dflt (refine' callG ?k1 ?k2 ?_; (case k1 => k_is); (case k2 => exact rfl))))
local macro_rules | `(tactic| walk_at "newList") => `(tactic| (refine newL (by assumption) (by walk_at "SZ") ?_; intro a' h' kp' F'))
local macro_rules | `(tactic| walk_at "newTuple") => `(tactic| (refine newT (by assumption) (by walk_at "SZ") ?_; intro a' h' kp' hat' F'))
local macro_rules | `(tactic| walk_at "eval Slice") => `(tactic| refine sliceF ?_)
local macro_rules | `(tactic| walk_at "Exists") => `(tactic| (refine ⟨_, _, _, _, by assumption, ?_⟩; intro a' h' kp' F'))
local macro_rules | `(tactic| walk_at "getMethod ref") => `(tactic| (k_dflt (first | refine methApp (by walk_at "AT") ?_ | refine methClr (by walk_at "AT") ?_)))
local macro_rules | `(tactic| walk_at "call builtin:list.append") => `(tactic| (k_dflt (refine' appL ?F ?c ?z ?_; (case F => assumption); (case c => walk_at "CHG"); (case z => walk_at "SZ"); k_whole); intro h' F'))
local macro_rules | `(tactic| walk_at "call builtin:list.clear") => `(tactic| (k_dflt (refine' clrL ?F ?c ?z ?_; (case F => assumption); (case c => walk_at "CHG"); (case z => walk_at "SZ"); k_whole); intro h' F'))
local macro_rules | `(tactic| walk_at "call type:range") => `(tactic| (refine range1 (by assumption) ?_; intro a' h' tk' kp' F'))
local macro_rules | `(tactic| walk_at "pyIter ref") => `(tactic| (k_dflt (refine' iterR ?F ?a ?b ?_; (case F => assumption); (case a => omega); (case b => omega); k_whole); intro it' h' kp' F'))
local macro_rules | `(tactic| walk_at "binaryOp Add ref ref") => `(tactic| (k_dflt (refine' addL ?F ?x ?y ?z ?_; (case F => assumption); (case x => walk_at "AT"); (case y => walk_at "AT"); (case z => walk_at "SZ"); k_whole); intro a' h' kp' F'))
local macro_rules | `(tactic| walk_at "exec For") => `(tactic| refine wpAny_For ?_)
local macro_rules | `(tactic| walk_at "DEPTH") => `(tactic| first | omega | ((try simp only [depth_deeper, depth_in1]); omega))
local macro_rules | `(tactic| walk_at "MUT") => `(tactic| repeat (first | exact Muts.nil | refine Muts.cons (by first | exact mutL | exact mutI | exact mutRI | exact mutR | exact mutS | exact mutCO) ?_))
local macro_rules | `(tactic| walk_at "CALL") => `(tactic| fail)
local macro_rules | `(tactic| walk_at "codeAny call") => `(tactic| walk_at "CALL")
local macro_rules | `(tactic| walk_at "FITS") => `(tactic| repeat (first | exact Fits.nil | exact Pull.head | apply Fits.cons | apply Pull.tail))
local macro_rules | `(tactic| walk_at "truthy ref") => `(tactic| (k_dflt (refine' truthyL ?x ?z ?_; (case x => walk_at "AT"); (case z => walk_at "SZ"); k_whole); intro tk'))
local macro_rules | `(tactic| walk_at "SETS") => `(tactic| first | exact setX (by walk_at "GG") | exact setI (by walk_at "GG") | exact setV (by walk_at "GG"))
local macro_rules | `(tactic| walk_at "compareOp In int ref") => `(tactic| (k_dflt (refine' inSet ?S ?_; (case S => walk_at "SETS"); k_whole); intro tk'))
local macro_rules | `(tactic| walk_at "compareOp NotIn int ref") => `(tactic| (k_dflt (refine' notInSet ?S ?_; (case S => walk_at "SETS"); k_whole); intro tk'))
local macro_rules | `(tactic| walk_at "compareOp In int ref") => `(tactic| (k_dflt (refine' inInts ?x ?I ?_; (case x => walk_at "AT"); (case I => assumption); k_whole)))
local macro_rules | `(tactic| walk_at "compareOp NotIn int ref") => `(tactic| (k_dflt (refine' notInInts ?x ?I ?_; (case x => walk_at "AT"); (case I => assumption); k_whole)))
local macro_rules | `(tactic| walk_at "assign Tuple") => `(tactic| (k_dflt (refine' asgT ?hh ?F ?x ?n ?st ?_; (case hh => assumption); (case F => assumption); (case x => walk_at "AT"); (case n => rfl); (case st => rfl); k_whole); intro h' kp' F'))
local macro_rules | `(tactic| walk_at "unpackItems ref") => `(tactic| (k_dflt (refine' unpI ?hh ?F ?x ?n ?_; (case hh => assumption); (case F => assumption); (case x => walk_at "AT"); (case n => rfl); k_whole); intro h' kp' F'))
local macro_rules | `(tactic| walk_at "pyIter ref") => `(tactic| (k_dflt (refine' iterL ?F ?x ?_; (case F => assumption); (case x => walk_at "AT"); k_whole); intro it' h' kp' F'))
theorem tab_aux {w : World} {p : Program} {loose : List Str} {mean : ExcName → Option Value} {mg mb : Str → Option Value} {h : Heap} {d : DefRec} {x : Str} {f c P : Addr} {oc od : Value} {dd : Option Addr} {fd : FuncData} {osl osl2 : Array (Option Value)} {dd2 : Option Addr} {vs : Array Value} (KX : (hd.heap_39 w.params).In h) (T : Top p loose mean mg mb h)
    (hf : (recsOf p).find? (fun e => e.name == x) = some d) (e : nsIn (hd.heap_39 w.params) mainGlobals x = some (some (.ref f))) (l1 : (hd.heap_39 w.params).lookup f = some ⟨oc, dd, .func fd, osl⟩) (h1 : fd.code = .ref c)
    (l2 : (hd.heap_39 w.params).lookup c = some ⟨od, dd2, .fields vs, osl2⟩) (h2 : vs.getD 11 .none = .ref P) : At h P (TabO #[]) := by
  obtain ⟨c', P', e1, Bd⟩ := based_of_top T hf (mg_of KX T.g e) (KX _ _ l1) rfl
  rw [h1] at e1
  injection e1 with e1
  subst e1
  obtain ⟨o, vs', _, _, _, _, _, _, _, _, g1, g2, g3, _⟩ := Bd.code
  rw [KX _ _ l2] at g1
  cases g1
  cases g2
  rw [h2] at g3
  injection g3 with g3
  subst g3
  exact ⟨_, Bd.tab.2, rfl⟩
theorem top : PySem.Challenge.rw_ez0061_01.Holds := by
  refine hd ?_
  intro w s₀ s₁ mg mb G Y fa o pm cd doc dV kV ho hdd hcd hD hmg hg args vals as hpre hlay hrd hwl hlo
  have KX : (hd.heap_39 w.params).In s₁.heap := kIn_of Y
  have T := G.T
  wrow_args hpre hlay hrd hwl hlo
  rename Heap.IsList _ _ _ => hL
  rename IntsAre _ _ => hI
  rename ¬ _ < _ => hcnd
  have e181 : mg (Str.ofString "law") = some (.ref 181) := mg_of KX T.g (by k_is)
  obtain rfl : fa = 181 := by
    have z : some (Value.ref fa) = some (Value.ref 181) := hmg.symm.trans e181
    injection z with z
    injection z
  have GG0 : GG w s₁.heap := ⟨KX, ⟨mg, T.g⟩, ⟨mb, T.b, T.builtins⟩, T.nolimit⟩
  obtain ⟨bm, ob, b1, b2, b3, b4, b5, b6⟩ := T.bmain
  have hBM : BM s₁.heap := ⟨mg, bm, ob, T.g, b1, b2, b3, b4, b5, b6⟩
  have t128 : At s₁.heap 128 (TabO #[]) := tab_aux (x := Str.ofString "filter_invalid_xdata_group_codes") KX T (by rfl) (by k_is) (by k_is) rfl (by k_is) rfl
  have hlen := hI.length
  refine law_ok GG0 hBM t128 ⟨_, _, hL, hI, by omega⟩ rfl rfl (by decide) (by decide) (.of_eq hg) fun h tk gens k hb => ⟨⟨_, rfl⟩, .inl ⟨_, .bool true, [], rfl, fun _ => rfl, .bool _, ?post, fun _ => ⟨List.nodup_nil, fun a ha => nomatch ha⟩⟩, k, rfl, hb⟩
  case post => first | rfl | wrow_post
end
end Mine
theorem PySem.Challenge.cw_ez0061_01_holds : PySem.Challenge.rw_ez0061_01.Holds :=
  Mine.top
