import PyProof.Rows.All
import Wide.All
import OpenK.AllK
import Wide.FinOn
import PyProof.StrLawsIn
import PyProof.StrBlockI
import PyProof.StrLawsReplace
import PyProof.StrLawsNeg
import PyProof.Rows.StrClose3
import PySem.Challenge.RW_tv0046_01
set_option Elab.async false
set_option compiler.extract_closed false
set_option maxRecDepth 100000
set_option maxHeartbeats 8000000
set_option linter.unusedVariables false
set_option linter.unusedSimpArgs false
set_option linter.unnecessarySimpa false
section
open PySem PySem.W PyProof.Rows
namespace Mine
noncomputable abbrev hdP : Program := PySem.Challenge.rw_tv0046_01.row.prog
noncomputable def hdV : Program := PySem.W.view hdP [1, 2, 3, 4, 5, 7, 9, 10, 11, 12, 13, 14, 15, 16, 17, 18, 19, 20, 21, 22, 23, 24, 25, 26, 27, 28, 29, 30, 31, 32, 33, 34, 35, 36, 37, 38, 39, 40, 41, 42, 43, 44, 45, 46, 47, 48, 49, 50, 51, 52, 53, 54, 55, 56, 57, 58, 59, 60, 61, 63, 64, 65, 66, 67, 68, 70, 71, 72, 73, 74, 75, 76, 77, 78, 79]
noncomputable abbrev hdL : List Str := [Str.ofString "EXACT_TOKEN_TYPES"]
noncomputable abbrev hdW (w : World) (b : Bool) : World := w.withFollow "special-get-raises" b
noncomputable abbrev hdB (w : World) (os : OsState) : Shared := ⟨boot_heap w.params, Array.mk [], boot_drawn, boot_toks, os⟩
noncomputable abbrev hdS (s : Shared) := openSeen hdV hdL (importedModules hdP.main.body) (fun s => xlAt hdV [] s && recOk (RowW.records PySem.Challenge.rw_tv0046_01.row.toRowW) s) true s

theorem hd_said : PySem.Challenge.rw_tv0046_01.wellSaid = true := by
  rw [PySem.W.Fast.te9446332074065402090]
  kernel_rfl

theorem hd_opens : opening hdP = plainProg hdP.main.scope.names := by kernel_rfl
theorem hd_fence (s : Shared) : fenceModules? hdP s = some s := by kernel_rfl
theorem hd_boots (w : World) : (fencedOpening treeTable hdP w 4370).map (fun s => (s.heap, s.gens, s.drawn, s.toks)) = some (boot_heap w.params, Array.mk [], boot_drawn, boot_toks) :=
  boot_open hd_opens (by kernel_rfl) hd_fence w

/-- the run; the looks at its end in four parts, each checked with a run of its own: less memory at once -/
noncomputable abbrev hdR (w : World) (b : Bool) (os : OsState) : Option Shared := topRun treeTable hdP (hdW w b) (hdB w os).heap.objs.size ((hdB w os).heap.nsMap mainGlobals "__annotations__") 4370 (hdB w os) (topStub hdP)
noncomputable abbrev hdN (w : World) (os : OsState) (s : Shared) : Bool := staticsOk (importedModules hdP.main.body) (hdB w os).heap s.heap && namesBound hdP s.heap && gensDone s && laidKept (hdB w os).heap s.heap
noncomputable abbrev hdK (s : Shared) : Bool := s.heap.keysOk (looseW hdV hdL) ((recsOf hdV).map (·.name)) ((litsOf hdV).map (·.1)) ((clssOf hdV (looseW hdV hdL)).map (·.name))
noncomputable abbrev hdX (s : Shared) : Bool := xlAt hdV [] s && recOk (RowW.records PySem.Challenge.rw_tv0046_01.row.toRowW) s
noncomputable abbrev hdT (s : Shared) : Bool := s.heap.accountedOkI (importedModules hdP.main.body) && (s.heap.isNs mainGlobals && (s.heap.isNs builtinsNs && (tablesOk hdV s.heap && (hdX s && s.gens.size == 0))))
noncomputable abbrev hdA (s : Shared) := match hdS s with | (a, b, _, _, e, f, g, _, i) => (a, b, e, f, g, i)
noncomputable abbrev hdC (s : Shared) := match hdS s with | (_, _, _, d, _, _, _, _, _) => d
noncomputable abbrev hdE (s : Shared) := match hdS s with | (_, _, _, _, _, _, _, h, _) => h
noncomputable abbrev hdA1 := (expectedOf hdV, bltViewBooted, pinGoodD (drecsOf hdV), plainGoodE hdV (looseW hdV hdL), plainGoodD hdV hdL, clsGoodW hdV hdL)
theorem hd_both {s : Shared} (a : hdA s = hdA1) (k : hdK s = true) (t : hdT s = true) (c : hdC s = true) (e : hdE s = wideGood hdV) : hdS s = openGood hdV hdL := by
  have x : (match hdS s with | (_, _, c, _, _, _, _, _, _) => c) = true := by
    show (hdK s && s.heap.accountedOkI (importedModules hdP.main.body) && s.heap.isNs mainGlobals && s.heap.isNs builtinsNs && tablesOk hdV s.heap && hdX s && s.gens.size == 0) = true
    rw [k, Bool.true_and, Bool.and_assoc, Bool.and_assoc, Bool.and_assoc, Bool.and_assoc]
    exact t
  clear k t
  delta hdA hdA1 at a
  delta hdC at c
  delta hdE at e
  revert a c e x
  generalize hdS s = x
  obtain ⟨x1, x2, x3, x4, x5, x6, x7, x8, x9⟩ := x
  intro a c e x
  simp only [Prod.mk.injEq] at a c e x
  obtain ⟨rfl, rfl, rfl, rfl, rfl, rfl⟩ := a
  subst c e x
  rfl
theorem hd_ns (w : World) (os : OsState) : ((hdB w os).heap.isNs mainGlobals && (hdB w os).gens.size == 0) = true := by kernel_rfl
theorem hd_g1 (w : World) (os : OsState) : (hdR w false os).map (fun s => (hdN w os s, hdC s)) = some (true, true) := by
  delta hdR hdN hdC hdS
  rw [PySem.W.Fast.te14082659384304107361, PySem.W.Fast.te4187177175401517315]
  kernel_rfl
theorem hd_g2 (w : World) (os : OsState) : (hdR w false os).map (fun s => (hdK s, hdE s)) = some (true, wideGood hdV) := by
  delta hdR hdK hdE hdS
  rw [PySem.W.Fast.te14082659384304107361, PySem.W.Fast.te4187177175401517315, PySem.W.Fast.te10880121769531294198, PySem.W.Fast.te821141287760084731, PySem.W.Fast.te3399658132070893891, PySem.W.Fast.te7409074990110511671, PySem.W.Fast.te13664370479719496447]
  kernel_rfl
theorem hd_g3 (w : World) (os : OsState) : (hdR w false os).map (fun s => hdT s) = some true := by
  delta hdR hdT
  rw [PySem.W.Fast.te14082659384304107361, PySem.W.Fast.te14722251495701143533, PySem.W.Fast.te10994771534591457954]
  kernel_rfl
/-- the two worlds' runs end in one state -/
theorem hd_same (w : World) (os : OsState) : (hdR w false os).map (fun _ => hdR w true os) = (hdR w false os).map some := by
  delta hdR
  rw [PySem.W.Fast.te14082659384304107361]
  kernel_rfl
theorem hd_end (w : World) (os : OsState) : ∃ s, hdR w false os = some s ∧ hdR w true os = some s ∧ hdN w os s = true ∧ hdK s = true ∧ hdT s = true ∧ hdC s = true ∧ hdE s = wideGood hdV := by
  obtain ⟨s, e, e1⟩ := Option.map_eq_some_iff.mp (hd_g1 w os)
  obtain ⟨s2, e', e2⟩ := Option.map_eq_some_iff.mp (hd_g2 w os)
  obtain rfl : s = s2 := Option.some.inj (e.symm.trans e')
  obtain ⟨s3, e', e3⟩ := Option.map_eq_some_iff.mp (hd_g3 w os)
  obtain rfl : s = s3 := Option.some.inj (e.symm.trans e')
  have q := hd_same w os
  rw [e] at q
  exact ⟨s, e, Option.some.inj q, (Prod.mk.inj e1).1, (Prod.mk.inj e2).1, e3, (Prod.mk.inj e1).2, (Prod.mk.inj e2).2⟩
theorem hd_from {w : World} {b : Bool} {os : OsState} {s : Shared} (h : hdR w b os = some s) (n : hdN w os s = true) : topFrom treeTable hdP (hdW w b) 4370 (hdB w os) = some s := by
  unfold topFrom
  rw [hd_ns]
  show (hdR w b os).bind _ = some s
  rw [h]
  show (match hdN w os s with | true => some s | false => none) = some s
  rw [n]

theorem hd_left {α : Type} {f : Shared → α} {g : World → α} (hf : ∀ w os, (hdR w false os).map (fun s => (hdA s, f s)) = some (hdA1, g (hdW w false))) (hg : ∀ w, g (hdW w true) = g (hdW w false)) :
    LeftO hdP hdV hdL hdX f g 4370 := fun w => by
  obtain ⟨⟨h, gs, d, k, os⟩, e, e'⟩ := Option.map_eq_some_iff.mp (hd_boots w)
  obtain ⟨rfl, rfl, rfl, rfl⟩ : h = boot_heap w.params ∧ gs = Array.mk [] ∧ d = boot_drawn ∧ k = boot_toks := by simpa using e'
  unfold openEnds
  rw [e]
  show (topFrom treeTable hdP w 4370 (hdB w os)).map (fun s => (hdS s, f s)) = some (openGood hdV hdL, g w)
  obtain ⟨s, r0, r1, n, k, t, c, x⟩ := hd_end w os
  obtain ⟨s', r', e4⟩ := Option.map_eq_some_iff.mp (hf w os)
  obtain rfl : s = s' := Option.some.inj (r0.symm.trans r')
  obtain ⟨e5, e6⟩ := Prod.mk.inj e4
  have ew := World.withFollow_self w "special-get-raises"
  have key : topFrom treeTable hdP w 4370 (hdB w os) = some s ∧ g w = g (hdW w false) := by
    cases hb : w.params.followText "special-get-raises" <;> rw [hb] at ew
    · have q := hd_from r0 n
      rw [show hdW w false = w from ew] at q ⊢
      exact ⟨q, rfl⟩
    · have q := hd_from r1 n
      rw [show hdW w true = w from ew] at q
      exact ⟨q, by conv => lhs; rw [← (show hdW w true = w from ew)]
                   exact hg w⟩
  rw [key.1, key.2]
  show some (hdS s, f s) = _
  rw [hd_both e5 k t c x, e6]

theorem hd_holds (H : Hook) {d : DefRec} {kwd : List (Str × Expr)} (hdef : defOf hdV PySem.Challenge.rw_tv0046_01.row.name = some (d, kwd)) (hp : hdP.theDef PySem.Challenge.rw_tv0046_01.row.name = some (d.params, d.body, d.scope)) (hk : kwWritten? d.params.kwonlyargs d.params.kw_defaults = some kwd)
    (hf : ∀ w os, (hdR w false os).map (fun s => (hdA s, H.obs s)) = some (hdA1, H.val (hdW w false))) (hg : ∀ w, H.val (hdW w true) = H.val (hdW w false)) (hw : PySem.Challenge.rw_tv0046_01.row.toRowW.promised)
    (call : WalkO hdV hdL (XL hdV []) H.says PySem.Challenge.rw_tv0046_01.row.toRowW d kwd fun f vs => PySem.call f vs) : PySem.Challenge.rw_tv0046_01.row.Holds :=
  holds_open (q := hdV) (loose := hdL) (Xt := hdX) (XP := XL hdV []) (Yf := Hook.obs H) (Ya := Hook.val H) (YP := Hook.says H) (N := 4370) (hd_left hf hg) (Hook.of H) (Hook.keeps H)
    (fun s e => xl_of s (Bool.and_eq_true_iff.mp e).1) XL.keeps hdef hp hk (fun s e => recFacts_of (Bool.and_eq_true_iff.mp e).2) (by rfl) (row_said hd_said) (by decide +kernel) ⟨rfl, rfl, rfl, rfl, rfl, by decide +kernel⟩ hw call

local macro_rules | `(tactic| o_law) => `(tactic| refine holds_law hd_said fun said => ?_)
local macro_rules | `(tactic| o_head $H) => `(tactic| (refine hd_holds $H (by rfl) (by rfl) (by rfl) ?hf (fun w => by kernel_rfl) ?hw ?hc; (case hf => (intro w os; delta hdR hdA hdS; rw [PySem.W.Fast.te14082659384304107361, PySem.W.Fast.te4187177175401517315]; kernel_rfl))))
open_top hd for PySem.Challenge.rw_tv0046_01
end Mine
end
section
open PySem PySem.W PyProof.Rows PySem.Spec PySem.Calls
namespace Mine

noncomputable def Stop (P : Prop) : Prop := P
theorem Stop.intro {P : Prop} (h : Stop P) : P := h
theorem Stop.out {P : Prop} (h : P) : Stop P := h

noncomputable abbrev PG : Program := PySem.Challenge.rw_tv0046_01.row.prog
noncomputable abbrev LO : List Str := looseW hdV [Str.ofString "EXACT_TOKEN_TYPES"]

theorem fr_nf {h₀ h : Heap} {L : Addr} {m : Str → Option Value} (F : Fr h₀ L h m) (ps : List (Str × Value)) (h1 : ∀ p ∈ ps, m p.1 = some p.2) : Fr h₀ L h (kstB m ps) := by
  have e : kstB m ps = m := funext fun z => kstB_eq h1 fun _ => rfl
  rw [e]; exact F

/-- the state: the frame's names, the ledger -/
noncomputable def St (g : Heap) (L : Addr) (ps : List (Str × Value)) (news : List (Addr × Obj)) (s s' : Shared) : Prop :=
  ∃ (u : Str → Option Value) (h' : Heap) (tk : Nat), s' = { s with heap := h', toks := tk } ∧ Fr g L h' (kstB u ps) ∧ News g L h' news
theorem St.mk {g h' : Heap} {L : Addr} {m : Str → Option Value} {ps : List (Str × Value)} {news news' : List (Addr × Obj)} {s : Shared} {tk : Nat} (F : Fr g L h' m) (N : News g L h' news)
    (h1 : ∀ p ∈ ps, m p.1 = some p.2) (h2 : ∀ p ∈ news', p ∈ news) : St g L ps news' s { s with heap := h', toks := tk } :=
  ⟨m, h', tk, rfl, fr_nf F ps h1, fun p hp => N p (h2 p hp)⟩
theorem St.trans {g : Heap} {L : Addr} {ps : List (Str × Value)} {news : List (Addr × Obj)} {s s₁ s' : Shared} {h₁ : Heap} {t₁ : Nat} (e : s₁ = { s with heap := h₁, toks := t₁ }) (h : St g L ps news s₁ s') : St g L ps news s s' := by
  subst e; exact h

/-- an end of a turn: some datum at which the state stands -/
noncomputable def WEnd {σ : Type} (g : Heap) (L : Addr) (ps : σ → List (Str × Value)) (Led : σ → List (Addr × Obj)) (P : σ → Prop) (s s' : Shared) : Prop :=
  ∃ c, P c ∧ St g L (ps c) (Led c) s s'
theorem WEnd.mk {σ : Type} {g h' : Heap} {L : Addr} {ps : σ → List (Str × Value)} {Led : σ → List (Addr × Obj)} {P : σ → Prop} {m : Str → Option Value} {news : List (Addr × Obj)} {s : Shared} {tk : Nat} (c : σ)
    (F : Fr g L h' m) (N : News g L h' news) (h1 : ∀ p ∈ ps c, m p.1 = some p.2) (h2 : ∀ p ∈ Led c, p ∈ news) (hp : P c) : WEnd g L ps Led P s { s with heap := h', toks := tk } :=
  ⟨c, hp, St.mk F N h1 h2⟩

theorem while_ok {prog : Program} {w : World} {A : Around} {E : Value → Shared → Prop} {s : Shared} {env : Env} {test : Expr} {body : List Stmt} {pos : Pos} {Q : Flow → Shared → Prop} (I : Nat → Shared → Prop) (n : Nat) (h0 : I n s)
    (turn : ∀ n s', I n s' → wpAny (model prog w) A (isTrue test env (eval test env)) (fun b s₂ =>
      if b then wpAny (model prog w) A (execs body env) (fun f s₃ => match f with
          | .next | .cont => ∃ k, k < n ∧ I k s₃
          | .brk => Q .next s₃
          | .ret v => Q (.ret v) s₃) (fun _ _ => False) s₂
      else Q .next s₂) (fun _ _ => False) s') :
    wpAny (model prog w) A (exec (.While test body [] pos) env) Q E s := by
  refine wpAny_While (codeAny_whileLoop I (fun n s' hI => ?_) n h0)
  refine wpAny_mono (turn n s' hI) (fun b s₂ h₂ => ?_) fun _ _ h => h.elim
  cases b with
  | false =>
    simp only [Bool.false_eq_true, if_false] at h₂ ⊢
    exact wpAny_execs_nil h₂
  | true =>
    simp only [if_true] at h₂ ⊢
    refine wpAny_mono h₂ (fun f s₃ h₃ => ?_) fun _ _ h => h.elim
    cases f <;> exact h₃

theorem while_st {σ : Type} {prog : Program} {w : World} {A : Around} {E : Value → Shared → Prop} {s : Shared} {env : Env} {test : Expr} {body : List Stmt} {pos : Pos} {Q : Flow → Shared → Prop} {g : Heap} {L : Addr} {m : Str → Option Value} {news : List (Addr × Obj)}
    (ps : σ → List (Str × Value)) (Led : σ → List (Addr × Obj)) (J D : σ → Prop) (μ : σ → Nat) (c₀ : σ)
    (F : Fr g L s.heap m) (N : News g L s.heap news) (hk : ∀ p ∈ ps c₀, m p.1 = some p.2) (hn : ∀ p ∈ Led c₀, p ∈ news) (hj : J c₀)
    (turn : ∀ (c : σ) (u : Str → Option Value) (h : Heap) (tk : Nat), J c → Fr g L h (kstB u (ps c)) → News g L h (Led c) →
      wpAny (model prog w) A (isTrue test env (eval test env)) (fun b s₂ =>
        if b then wpAny (model prog w) A (execs body env) (fun f s₃ => match f with
          | .next => WEnd g L ps Led (fun c' => J c' ∧ μ c' < μ c) s s₃
          | .cont => WEnd g L ps Led (fun c' => J c' ∧ μ c' < μ c) s s₃
          | .brk => WEnd g L ps Led D s s₃
          | .ret v => Q (.ret v) s₃) (fun _ _ => False) s₂
        else WEnd g L ps Led D s s₂) (fun _ _ => False) { s with heap := h, toks := tk })
    (done : ∀ (c : σ) (u : Str → Option Value) (h : Heap) (tk : Nat), D c → Fr g L h (kstB u (ps c)) → News g L h (Led c) → Q .next { s with heap := h, toks := tk }) :
    wpAny (model prog w) A (exec (.While test body [] pos) env) Q E s := by
  have out : ∀ s', WEnd g L ps Led D s s' → Q .next s' := by
    rintro s' ⟨c, hd, u, h, tk, rfl, F', N'⟩
    exact done c u h tk hd F' N'
  refine while_ok (fun n s' => ∃ c, n = μ c ∧ J c ∧ St g L (ps c) (Led c) s s') (μ c₀) ⟨c₀, rfl, hj, ⟨m, s.heap, s.toks, rfl, fr_nf F _ hk, fun p hp => N p (hn p hp)⟩⟩ ?_
  rintro n s' ⟨c, rfl, hJ, u, h, tk, rfl, F', N'⟩
  refine wpAny_mono (turn c u h tk hJ F' N') (fun b s₂ h₂ => ?_) fun _ _ x => x
  cases b with
  | false => exact out _ h₂
  | true =>
    refine wpAny_mono h₂ (fun f s₃ h₃ => ?_) fun _ _ x => x
    cases f with
    | ret v => exact h₃
    | brk => exact out _ h₃
    | next => obtain ⟨c', ⟨hJ', hμ⟩, hs⟩ := h₃; exact ⟨_, hμ, c', rfl, hJ', hs⟩
    | cont => obtain ⟨c', ⟨hJ', hμ⟩, hs⟩ := h₃; exact ⟨_, hμ, c', rfl, hJ', hs⟩

theorem wp_execs_append {M : Model} {Γ : PySem.Ctx} {env : Env} {b : List Stmt} {Q : Flow → Pos → Shared → Prop} {E : Value → Pos → Shared → Prop} : ∀ (a : List Stmt) {p : Pos} {s : Shared},
    Sem.wp M Γ (execs a env) (fun f p' s' => match f with | .next => Sem.wp M Γ (execs b env) Q E p' s' | .cont => Q .cont p' s' | .brk => Q .brk p' s' | .ret v => Q (.ret v) p' s') E p s → Sem.wp M Γ (execs (a ++ b) env) Q E p s
  | [], _, _, h => h
  | st :: r, p, s, h => by
    rw [List.cons_append, execs_cons, Sem.wp_bind']
    rw [execs_cons, Sem.wp_bind'] at h
    refine Sem.wp_mono M Γ _ (fun f p' s' h' => ?_) (fun _ _ _ h' => h') _ _ h
    cases f with
    | next => exact wp_execs_append r h'
    | cont => exact h'
    | brk => exact h'
    | ret v => exact h'

/-- some statements, then the rest, by what holds between -/
theorem cut_st {σ : Type} {M : Model} {A : Around} {E : Value → Shared → Prop} {s : Shared} {env : Env} {a b : List Stmt} {Q : Flow → Shared → Prop} {g : Heap} {L : Addr} {m : Str → Option Value} (_F : Fr g L s.heap m)
    (ps : σ → List (Str × Value)) (Led : σ → List (Addr × Obj)) (D : σ → Prop)
    (first : wpAny M A (execs a env) (fun f s' => match f with | .next => WEnd g L ps Led D s s' | .cont => Q .cont s' | .brk => Q .brk s' | .ret v => Q (.ret v) s') E s)
    (done : ∀ (c : σ) (u : Str → Option Value) (h : Heap) (tk : Nat), D c → Fr g L h (kstB u (ps c)) → News g L h (Led c) → wpAny M A (execs b env) Q E { s with heap := h, toks := tk }) :
    wpAny M A (execs (a ++ b) env) Q E s := fun Γ p hΓ => by
  refine wp_execs_append a (Sem.wp_mono M Γ _ (fun f p' s' h' => ?_) (fun _ _ _ h' => h') _ _ (first Γ p hΓ))
  cases f with
  | next =>
    obtain ⟨c, hd, u, h, tk, rfl, F', N'⟩ := h'
    exact done c u h tk hd F' N' Γ p' hΓ
  | cont => exact h'
  | brk => exact h'
  | ret v => exact h'

/-- a for over what some walk hands out -/
theorem for_st {σ α : Type} {prog : Program} {w : World} {A : Around} {E : Value → Shared → Prop} {s : Shared} {env : Env} {x : Str} {body : List Stmt} {Q : Flow → Shared → Prop} {g : Heap} {L : Addr} {m : Str → Option Value}
    {I : Addr} {fp wr : List Addr} {n : Nat} {P : Nat → Value → Prop} {St' : Nat → Heap → Prop} (hL : env.locals = L)
    (V : α → Value → Prop) (vals : List α) (ps : σ → List (Str × Value)) (Led : σ → List (Addr × Obj)) (J : List α → σ → Prop) (c₀ : σ)
    (W : Walks prog w A I fp wr n P St') (hlen : vals.length = n) (hP : ∀ i v, i < n → P i v → ∃ a, vals[i]? = some a ∧ V a v)
    (hLf : L ∉ fp) (hwr : ∀ b ∈ wr, g.get? b = none) (hnw : ∀ p ∈ Led c₀, p.1 ∉ wr) (hfp : ∀ q ∈ Led c₀, q.1 ∉ fp) (hst : St' 0 s.heap)
    (F : Fr g L s.heap m) (N : News g L s.heap (Led c₀)) (hk : ∀ p ∈ ps c₀, m p.1 = some p.2) (hj : J [] c₀)
    (turn : ∀ (c : σ) (pre : List α) (a : α) (post : List α) (v : Value) (u : Str → Option Value) (h : Heap) (tk : Nat) (own : List (Addr × Obj)), vals = pre ++ a :: post → V a v → OwnOff own ((Led c₀).map (·.1)) → J pre c →
      Fr g L h (fun y => if y = x then some v else kstB u (ps c) y) → News g L h (Led c ++ own) →
      wpAny (model prog w) A (execs body env) (InvPostN g L (fun m' nx => ∃ c', nx = Led c' ∧ (∀ p ∈ ps c', m' p.1 = some p.2) ∧ J (pre ++ [a]) c') own ((Led c₀).map (·.1)) { s with heap := h, toks := tk } Q) E { s with heap := h, toks := tk })
    (done : ∀ (c : σ) (u : Str → Option Value) (h : Heap) (tk : Nat), J vals c → Fr g L h (kstB u (ps c)) → News g L h (Led c) → Q .next { s with heap := h, toks := tk }) :
    LoopAtV prog w A g env x body Q E (.ref I) s := by
  subst hL
  refine loop_invN (fun i m' nx => ∃ c', nx = Led c' ∧ (∀ p ∈ ps c', m' p.1 = some p.2) ∧ J (vals.take i) c') W hLf hwr hnw hfp hst F N ⟨c₀, rfl, hk, by simpa using hj⟩ ?_ ?_
  · rintro i v m₁ nx h tk own hi hp _ hoff ⟨c, rfl, h1, hJ⟩ F₁ N₁
    obtain ⟨a, ha, hv⟩ := hP i v hi hp
    have hs : vals.take (i + 1) = vals.take i ++ [a] := by simp [List.take_add_one, ha]
    have e : vals = vals.take i ++ a :: vals.drop (i + 1) := by
      have ht := List.take_append_drop (i + 1) vals
      rw [hs, List.append_assoc] at ht
      exact ht.symm
    rw [hs]
    have em : (fun y => if y = x then some v else m₁ y) = fun y => if y = x then some v else kstB m₁ (ps c) y := by
      funext y
      rw [kstB_eq h1 fun _ => rfl]
    rw [em] at F₁
    exact turn c _ a _ v m₁ h tk own e hv hoff hJ F₁ N₁
  · rintro m₁ nx h tk ⟨c, rfl, h1, hJ⟩ F₁ N₁
    rw [List.take_of_length_le (Nat.le_of_eq hlen)] at hJ
    exact done c m₁ h tk hJ (fr_nf F₁ _ h1) N₁

theorem for_end {σ : Type} {g h' : Heap} {L : Addr} {ps : σ → List (Str × Value)} {Led : σ → List (Addr × Obj)} {J : σ → Prop} {m' : Str → Option Value} {own news' : List (Addr × Obj)} {adr : List Addr} {s₁ : Shared} {tk : Nat} (c : σ)
    (F : Fr g L h' m') (N : News g L h' news') (hn : ∀ p ∈ Led c, p ∈ news') (ho : ∀ p ∈ own, p ∈ news') (ha : (Led c).map (·.1) = adr) (h1 : ∀ p ∈ ps c, m' p.1 = some p.2) (hj : J c) :
    InvEndN g L (fun m' nx => ∃ c', nx = Led c' ∧ (∀ p ∈ ps c', m' p.1 = some p.2) ∧ J c') own adr s₁ { s₁ with heap := h', toks := tk } :=
  InvEndN.intro F N ⟨c, rfl, h1, hj⟩ ha hn ho

theorem range_st {σ : Type} {prog : Program} {w : World} {A : Around} {E : Value → Shared → Prop} {s : Shared} {env : Env} {x : Str} {body : List Stmt} {Q : Flow → Shared → Prop} {g : Heap} {L : Addr} {m : Str → Option Value}
    {r : Addr} {n : Nat} {t₀ u₀ v₀ : Tok} (hL : env.locals = L) (ps : σ → List (Str × Value)) (Led : σ → List (Addr × Obj)) (J : List Nat → σ → Prop) (c₀ : σ)
    (hh : A.handled = none) (hr : IsRange s.heap r 0 (n : Int) 1 t₀ u₀ v₀) (hsmall : n < 1000000)
    (F : Fr g L s.heap m) (N : News g L s.heap (Led c₀)) (hk : ∀ p ∈ ps c₀, m p.1 = some p.2) (hj : J [] c₀)
    (turn : ∀ (c : σ) (i : Nat) (t : Tok) (u : Str → Option Value) (h : Heap) (tk : Nat) (own : List (Addr × Obj)), i < n → OwnOff own ((Led c₀).map (·.1)) → J (List.range i) c →
      Fr g L h (fun y => if y = x then some (.int (i : Int) t) else kstB u (ps c) y) → News g L h (Led c ++ own) →
      wpAny (model prog w) A (execs body env) (InvPostN g L (fun m' nx => ∃ c', nx = Led c' ∧ (∀ p ∈ ps c', m' p.1 = some p.2) ∧ J (List.range (i + 1)) c') own ((Led c₀).map (·.1)) { s with heap := h, toks := tk } Q) E { s with heap := h, toks := tk })
    (done : ∀ (c : σ) (u : Str → Option Value) (h : Heap) (tk : Nat), J (List.range n) c → Fr g L h (kstB u (ps c)) → News g L h (Led c) → Q .next { s with heap := h, toks := tk }) :
    wpAny (model prog w) A (pyIter (.ref r)) (fun it s₂ => LoopAtV prog w A g env x body Q E it s₂) E s := by
  subst hL
  have hsm : Builtin.Range.small 0 (n : Int) 1 = true := small_one (by omega) (by omega) (by omega) (by omega)
  have hn : Builtin.Range.rangeSize 0 (n : Int) 1 = (n : Int) := by have := rangeSize_nat 0 n; simpa using this
  refine wpAny_pyIter_range hr hsm ?_
  have W : Walks prog w A s.heap.objs.size [s.heap.objs.size] [s.heap.objs.size] n (fun i v => i < n ∧ ∃ t, v = .int ((0 : Int) + i * 1) t)
      (fun i h => IsRangeIter h s.heap.objs.size ((0 : Int) + (i : Nat) * 1) ((n : Int) - (i : Nat)) 1) := (Walks.range hh _ 0 1 n).bound
  refine for_st rfl (fun (i : Nat) v => ∃ t, v = .int (i : Int) t) (List.range n) ps Led J c₀ W (by simp) ?_ ?_ ?_ ?_ ?_ (by show IsRangeIter _ _ _ _ _; rw [hn]; simpa using Heap.get?_push_size _ rfl) (F.push _) (fun p hp => ⟨Heap.get?_push_of_some _ (N p hp).1, (N p hp).2⟩) hk hj ?_ ?_
  · rintro i v hi ⟨_, t, rfl⟩
    exact ⟨i, by simp [hi], t, by simp⟩
  · intro hm
    exact absurd F.ns.lt ((List.mem_singleton.mp hm) ▸ Nat.lt_irrefl _)
  · intro b hb
    rw [List.mem_singleton.mp hb]
    exact next_is_new F
  · intro p hp hI
    exact absurd (Heap.lt_size (N p hp).1) ((List.mem_singleton.mp hI) ▸ Nat.lt_irrefl _)
  · intro p hp hI
    exact absurd (Heap.lt_size (N p hp).1) ((List.mem_singleton.mp hI) ▸ Nat.lt_irrefl _)
  · rintro c pre a post v u h tk own e ⟨t, rfl⟩ hoff hJ F₁ N₁
    have hpre : pre = List.range pre.length ∧ a = pre.length ∧ pre.length < n := by
      have hl : pre.length < n := by
        have := congrArg List.length e
        simp at this; omega
      refine ⟨?_, ?_, hl⟩
      · have := congrArg (List.take pre.length) e
        simp at this
        rw [Nat.min_eq_left (Nat.le_of_lt hl)] at this
        exact this.symm
      · have := congrArg (fun l => l[pre.length]?) e
        simp [hl] at this
        exact this.symm
    obtain ⟨h1, h2, h3⟩ := hpre
    have hx : pre ++ [a] = List.range (pre.length + 1) := by rw [List.range_succ, ← h1, h2]
    have hJ' : J (List.range pre.length) c := by rw [← h1]; exact hJ
    rw [hx]
    rw [h2] at F₁
    exact turn c pre.length t u h tk own h3 hoff hJ' F₁ N₁
  · exact done
end Mine
end
section
namespace Mine
/-! the plain law of the distance's table -/
section
variable {α : Type} (c : α → α → Int)

inductive Op (α : Type) where
  | ins (y : α)
  | del (x : α)
  | sub (x y : α)
noncomputable def src : List (Op α) → List α
  | [] => []
  | .ins _ :: r => src r
  | .del x :: r => x :: src r
  | .sub x _ :: r => x :: src r
noncomputable def dst : List (Op α) → List α
  | [] => []
  | .ins y :: r => y :: dst r
  | .del _ :: r => dst r
  | .sub _ y :: r => y :: dst r
/-- c y x: the sign of the longer row first, as the code asks -/
noncomputable def cost : List (Op α) → Int
  | [] => 0
  | .ins _ :: r => 2 + cost r
  | .del _ :: r => 2 + cost r
  | .sub x y :: r => c y x + cost r
theorem src_append : ∀ a b : List (Op α), src (a ++ b) = src a ++ src b
  | [], _ => rfl
  | .ins _ :: r, b => by simp only [List.cons_append, src]; exact src_append r b
  | .del _ :: r, b => by simp only [List.cons_append, src]; rw [src_append r b]
  | .sub _ _ :: r, b => by simp only [List.cons_append, src]; rw [src_append r b]
theorem dst_append : ∀ a b : List (Op α), dst (a ++ b) = dst a ++ dst b
  | [], _ => rfl
  | .ins _ :: r, b => by simp only [List.cons_append, dst]; rw [dst_append r b]
  | .del _ :: r, b => by simp only [List.cons_append, dst]; exact dst_append r b
  | .sub _ _ :: r, b => by simp only [List.cons_append, dst]; rw [dst_append r b]
theorem cost_append : ∀ a b : List (Op α), cost c (a ++ b) = cost c a + cost c b
  | [], _ => by simp [cost]
  | .ins _ :: r, b => by simp only [List.cons_append, cost]; rw [cost_append r b]; lia
  | .del _ :: r, b => by simp only [List.cons_append, cost]; rw [cost_append r b]; lia
  | .sub _ _ :: r, b => by simp only [List.cons_append, cost]; rw [cost_append r b]; lia
theorem src_reverse (a : List (Op α)) : src a.reverse = (src a).reverse := by
  induction a with
  | nil => rfl
  | cons o r ih => rw [List.reverse_cons, src_append, ih]; cases o <;> simp [src]
theorem dst_reverse (a : List (Op α)) : dst a.reverse = (dst a).reverse := by
  induction a with
  | nil => rfl
  | cons o r ih => rw [List.reverse_cons, dst_append, ih]; cases o <;> simp [dst]
theorem cost_reverse (a : List (Op α)) : cost c a.reverse = cost c a := by
  induction a with
  | nil => rfl
  | cons o r ih => rw [List.reverse_cons, cost_append, ih]; cases o <;> simp [cost] <;> lia

/-- some way from S to W costs k or less -/
noncomputable def Al (S W : List α) (k : Int) : Prop := ∃ ops, src ops = S ∧ dst ops = W ∧ cost c ops ≤ k
variable {c}
theorem Al.append {S W S' W' : List α} {k k' : Int} : Al c S W k → Al c S' W' k' → Al c (S ++ S') (W ++ W') (k + k')
  | ⟨a, h1, h2, h3⟩, ⟨b, h4, h5, h6⟩ => ⟨a ++ b, by rw [src_append, h1, h4], by rw [dst_append, h2, h5], by rw [cost_append]; lia⟩
theorem Al.mono {S W : List α} {k k' : Int} (h : Al c S W k) (hk : k ≤ k') : Al c S W k' := let ⟨a, h1, h2, h3⟩ := h; ⟨a, h1, h2, Int.le_trans h3 hk⟩
theorem Al.rev {S W : List α} {k : Int} : Al c S W k → Al c S.reverse W.reverse k
  | ⟨a, h1, h2, h3⟩ => ⟨a.reverse, by rw [src_reverse, h1], by rw [dst_reverse, h2], by rw [cost_reverse]; exact h3⟩

structure CostOk (c : α → α → Int) : Prop where
  nonneg : ∀ x y, 0 ≤ c x y
  two : ∀ x y, c x y ≤ 2
  self : ∀ x, c x x = 0

/-- the first of W struck out -/
theorem drop_dst (C : CostOk c) {y : α} {W : List α} : ∀ ops : List (Op α), dst ops = y :: W → ∃ ops', src ops' = src ops ∧ dst ops' = W ∧ cost c ops' ≤ cost c ops + 2
  | [], h => by cases h
  | .ins z :: r, h => by
    simp only [dst, List.cons.injEq] at h
    exact ⟨r, rfl, h.2, by simp only [cost]; lia⟩
  | .del x :: r, h => by
    obtain ⟨r', h1, h2, h3⟩ := drop_dst C r h
    exact ⟨.del x :: r', by simp [src, h1], by simp [dst, h2], by simp only [cost]; lia⟩
  | .sub x z :: r, h => by
    simp only [dst, List.cons.injEq] at h
    exact ⟨.del x :: r, rfl, h.2, by have := C.nonneg z x; simp only [cost]; lia⟩
theorem drop_src (C : CostOk c) {x : α} {S : List α} : ∀ ops : List (Op α), src ops = x :: S → ∃ ops', src ops' = S ∧ dst ops' = dst ops ∧ cost c ops' ≤ cost c ops + 2
  | [], h => by cases h
  | .del z :: r, h => by
    simp only [src, List.cons.injEq] at h
    exact ⟨r, h.2, rfl, by simp only [cost]; lia⟩
  | .ins y :: r, h => by
    obtain ⟨r', h1, h2, h3⟩ := drop_src C r h
    exact ⟨.ins y :: r', by simp [src, h1], by simp [dst, h2], by simp only [cost]; lia⟩
  | .sub z y :: r, h => by
    simp only [src, List.cons.injEq] at h
    exact ⟨.ins y :: r, h.2, rfl, by have := C.nonneg y z; simp only [cost]; lia⟩
theorem Al.strike (C : CostOk c) {x : α} {S W : List α} {k : Int} : Al c (x :: S) (x :: W) k → Al c S W k := by
  rintro ⟨ops, h1, h2, h3⟩
  cases ops with
  | nil => cases h1
  | cons o r =>
    cases o with
    | ins y =>
      simp only [dst, List.cons.injEq] at h2
      simp only [src] at h1
      obtain ⟨r', e1, e2, e3⟩ := drop_src C r h1
      exact ⟨r', e1, e2.trans h2.2, by simp only [cost] at h3; lia⟩
    | del z =>
      simp only [src, List.cons.injEq] at h1
      simp only [dst] at h2
      obtain ⟨r', e1, e2, e3⟩ := drop_dst C r h2
      exact ⟨r', e1.trans h1.2, e2, by simp only [cost] at h3; lia⟩
    | sub z y =>
      simp only [src, List.cons.injEq] at h1
      simp only [dst, List.cons.injEq] at h2
      exact ⟨r, h1.2, h2.2, by have := C.nonneg y z; simp only [cost] at h3; lia⟩
theorem Al.strikes (C : CostOk c) {S W : List α} {k : Int} : ∀ p : List α, Al c (p ++ S) (p ++ W) k → Al c S W k
  | [], h => h
  | _ :: r, h => Al.strikes C r (Al.strike C h)
theorem Al.trim (C : CostOk c) {p q S W : List α} {k : Int} (h : Al c (p ++ (S ++ q)) (p ++ (W ++ q)) k) : Al c S W k := by
  have h1 := (Al.strikes C p h).rev
  rw [List.reverse_append, List.reverse_append] at h1
  have h2 := (Al.strikes C _ h1).rev
  rwa [List.reverse_reverse, List.reverse_reverse] at h2

variable (c)
noncomputable def goneB (W : List α) (x : α) : Bool := W.all fun y => decide (c y x = 2)
noncomputable def gone (S W : List α) : Int := (S.countP (goneB c W) : Nat)
structure Fine (S W : List α) (price : Int) : Prop where
  len : S.length < W.length
  al : Al c S W price
  lb : price ≤ 2 * ((W.length : Int) - S.length) + 2 * gone c S W
variable {c}
theorem gone_le (S W : List α) : gone c S W ≤ S.length := by unfold gone; have := List.countP_le_length (p := goneB c W) (l := S); lia
theorem goneB_sub {W W' : List α} {x : α} (h : ∀ y ∈ W', y ∈ W) (hg : goneB c W x = true) : goneB c W' x = true := by
  unfold goneB at *
  rw [List.all_eq_true] at *
  exact fun y hy => hg y (h y hy)
theorem gone_none (C : CostOk c) {p W : List α} (h : ∀ x ∈ p, x ∈ W) : p.countP (goneB c W) = 0 := by
  rw [List.countP_eq_zero]
  intro x hx hg
  unfold goneB at hg
  rw [List.all_eq_true] at hg
  have := of_decide_eq_true (hg x (h x hx))
  rw [C.self] at this
  lia
theorem Fine.trim (C : CostOk c) {p q S W : List α} {k : Int} (h : Fine c (p ++ (S ++ q)) (p ++ (W ++ q)) k) : Fine c S W k := by
  refine ⟨?_, h.al.trim C, ?_⟩
  · have := h.len
    simp only [List.length_append] at this; lia
  · have h1 := h.lb
    have hg : gone c (p ++ (S ++ q)) (p ++ (W ++ q)) ≤ gone c S W := by
      unfold gone
      rw [List.countP_append, List.countP_append, gone_none C (p := p) (by intro x hx; simp [hx]), gone_none C (p := q) (by intro x hx; simp [hx])]
      have : List.countP (goneB c (p ++ (W ++ q))) S ≤ List.countP (goneB c W) S := List.countP_mono_left fun x _ hx => goneB_sub (by intro y hy; simp [hy]) hx
      lia
    simp only [List.length_append] at h1; lia

theorem cost_ge (C : CostOk c) : ∀ ops : List (Op α), 2 * (((dst ops).length : Int) - (src ops).length) ≤ cost c ops
  | [] => by simp [src, dst, cost]
  | .ins _ :: r => by have := cost_ge C r; simp only [src, dst, cost, List.length_cons]; lia
  | .del _ :: r => by have := cost_ge C r; simp only [src, dst, cost, List.length_cons]; lia
  | .sub x y :: r => by have := cost_ge C r; have := C.nonneg y x; simp only [src, dst, cost, List.length_cons]; lia
theorem Fine.ge (C : CostOk c) {S W : List α} {k : Int} (h : Fine c S W k) : 2 * ((W.length : Int) - S.length) ≤ k := by
  obtain ⟨ops, h1, h2, h3⟩ := h.al
  have := cost_ge C ops
  rw [h1, h2] at this; lia
theorem Fine.empty (C : CostOk c) {S W : List α} {k : Int} (h : Fine c S W k) (e : S = []) : 2 * ((S.length : Int) + W.length) = k := by
  subst e
  have h1 := h.lb
  have h2 := h.ge C
  simp only [gone, List.countP_nil, List.length_nil] at *; lia

/-! the table -/
noncomputable def nxt (k : Nat → Int) (i : Int) (prev : Nat → Int) : Nat → Int
  | 0 => min (min (2 * i) (prev 0) + 2) (2 * i + k 0)
  | j + 1 => min (min (nxt k i prev j) (prev (j + 1)) + 2) (prev j + k (j + 1))
noncomputable def R (k : Nat → Nat → Int) : Nat → Nat → Int
  | 0, j => 2 * ((j : Int) + 1)
  | i + 1, j => nxt (k i) (i : Int) (R k i) j
noncomputable def minTo (f : Nat → Int) : Nat → Int
  | 0 => 9223372036854775807
  | j + 1 => if f j < minTo f j then f j else minTo f j
theorem minTo_le (f : Nat → Int) : ∀ (n j : Nat), j < n → minTo f n ≤ f j
  | 0, _, h => absurd h (Nat.not_lt_zero _)
  | n + 1, j, h => by
    simp only [minTo]
    by_cases e : j = n
    · subst e; split <;> lia
    · have := minTo_le f n j (by lia)
      split <;> lia
theorem le_minTo (f : Nat → Int) {b : Int} (hb : b ≤ 9223372036854775807) : ∀ n : Nat, (∀ j, j < n → b ≤ f j) → b ≤ minTo f n
  | 0, _ => hb
  | n + 1, h => by
    have h1 := h n (Nat.lt_succ_self _)
    have h2 := le_minTo f hb n fun j hj => h j (Nat.lt_succ_of_lt hj)
    simp only [minTo]; split <;> lia

variable {k : Nat → Nat → Int}
theorem R_succ_zero (i : Nat) : R k (i + 1) 0 = min (min (2 * (i : Int)) (R k i 0) + 2) (2 * (i : Int) + k i 0) := rfl
theorem R_succ_succ (i j : Nat) : R k (i + 1) (j + 1) = min (min (R k (i + 1) j) (R k i (j + 1)) + 2) (R k i j + k i (j + 1)) := rfl

theorem le_mm {x a b d : Int} (h1 : x ≤ a + 2) (h2 : x ≤ b + 2) (h3 : x ≤ d) : x ≤ min (min a b + 2) d := by lia
theorem mm_l {a b d : Int} : min (min a b + 2) d ≤ a + 2 := by lia
theorem mm_r {a b d : Int} : min (min a b + 2) d ≤ b + 2 := by lia
theorem mm_d {a b d : Int} : min (min a b + 2) d ≤ d := Int.min_le_right _ _
/-- the column's top, too -/
noncomputable def Mx (k : Nat → Nat → Int) (i : Nat) : Nat → Int
  | 0 => 2 * (i : Int)
  | j + 1 => R k i j
theorem Mx_up (i j : Nat) (h2 : ∀ i j, k i j ≤ 2) : Mx k (i + 1) j ≤ Mx k i j + 2 := by
  cases j with
  | zero => simp only [Mx]; lia
  | succ j =>
    simp only [Mx]
    cases j with
    | zero => rw [R_succ_zero]; exact mm_r
    | succ j => rw [R_succ_succ]; exact mm_r
theorem Mx_left (i j : Nat) (h2 : ∀ i j, k i j ≤ 2) : Mx k i (j + 1) ≤ Mx k i j + 2 := by
  cases i with
  | zero => cases j <;> simp only [Mx, R] <;> lia
  | succ i =>
    cases j with
    | zero => simp only [Mx]; rw [R_succ_zero]; have := h2 i 0; lia
    | succ j => simp only [Mx]; rw [R_succ_succ]; exact mm_l
theorem Mx_diag (i j : Nat) : Mx k (i + 1) (j + 1) ≤ Mx k i j + k i j := by
  cases j with
  | zero => simp only [Mx]; rw [R_succ_zero]; exact mm_d
  | succ j => simp only [Mx]; rw [R_succ_succ]; exact mm_d

theorem snoc_take {l S : List α} {x : α} {j : Nat} (h : l ++ [x] = S.take (j + 1)) (hj : j + 1 ≤ S.length) : l = S.take j ∧ S[j]? = some x := by
  have e : S[j]? = some S[j] := by simp [Nat.lt_of_succ_le hj]
  rw [List.take_add_one, e] at h
  have := List.append_inj' h rfl
  exact ⟨this.1, by rw [e]; simpa using this.2.symm⟩

/-- what each way costs at the least, by the table (ways told from behind) -/
theorem Mx_le {S W : List α} (hk : ∀ i j x y, S[j]? = some x → W[i]? = some y → k i j = c y x) (h2 : ∀ i j, k i j ≤ 2) :
    ∀ (ops : List (Op α)) (i j : Nat), (src ops).reverse = S.take j → (dst ops).reverse = W.take i → j ≤ S.length → i ≤ W.length → Mx k i j ≤ cost c ops
  | [], i, j, h1, h3, hj, hi => by
    have e1 := congrArg List.length h1
    have e2 := congrArg List.length h3
    simp [src, dst] at e1 e2
    have : j = 0 := by lia
    have : i = 0 := by lia
    subst_vars
    simp [Mx, cost]
  | .ins y :: r, i, j, h1, h3, hj, hi => by
    simp only [src] at h1
    simp only [dst, List.reverse_cons] at h3
    obtain ⟨i', rfl⟩ : ∃ i', i = i' + 1 := by
      cases i with
      | zero => simp at h3
      | succ i => exact ⟨i, rfl⟩
    obtain ⟨h3', ey⟩ := snoc_take h3 hi
    have := Mx_le hk h2 r i' j h1 h3' hj (by lia)
    have := Mx_up (k := k) i' j h2
    simp only [cost]; lia
  | .del x :: r, i, j, h1, h3, hj, hi => by
    simp only [dst] at h3
    simp only [src, List.reverse_cons] at h1
    obtain ⟨j', rfl⟩ : ∃ j', j = j' + 1 := by
      cases j with
      | zero => simp at h1
      | succ j => exact ⟨j, rfl⟩
    obtain ⟨h1', ex⟩ := snoc_take h1 hj
    have := Mx_le hk h2 r i j' h1' h3 (by lia) hi
    have := Mx_left (k := k) i j' h2
    simp only [cost]; lia
  | .sub x y :: r, i, j, h1, h3, hj, hi => by
    simp only [dst, List.reverse_cons] at h3
    simp only [src, List.reverse_cons] at h1
    obtain ⟨j', rfl⟩ : ∃ j', j = j' + 1 := by
      cases j with
      | zero => simp at h1
      | succ j => exact ⟨j, rfl⟩
    obtain ⟨i', rfl⟩ : ∃ i', i = i' + 1 := by
      cases i with
      | zero => simp at h3
      | succ i => exact ⟨i, rfl⟩
    obtain ⟨h1', ex⟩ := snoc_take h1 hj
    obtain ⟨h3', ey⟩ := snoc_take h3 hi
    have := Mx_le hk h2 r i' j' h1' h3' (by lia) (by lia)
    have := Mx_diag (k := k) i' j'
    have := hk i' j' x y ex ey
    simp only [cost]; lia

theorem gone_step {S W : List α} {j : Nat} {x : α} (hx : S[j]? = some x) : gone c (S.take (j + 1)) W = gone c (S.take j) W + (if goneB c W x = true then 1 else 0) := by
  unfold gone
  rw [List.take_add_one, hx, List.countP_append]
  simp only [Option.toList, List.countP_cons, List.countP_nil]
  split <;> simp
theorem gone_take_le (S W : List α) (j : Nat) : gone c (S.take j) W ≤ j := by
  have := gone_le (c := c) (S.take j) W
  simp only [List.length_take] at this; lia
theorem gone_nonneg (S W : List α) : 0 ≤ gone c S W := by unfold gone; lia
/-- the least that the diagonal adds -/
theorem diag_ge {S W : List α} (hk : ∀ i j x y, S[j]? = some x → W[i]? = some y → k i j = c y x) (h0 : ∀ i j, 0 ≤ k i j) {i j : Nat} (hi : i < W.length) (hj : j < S.length) :
    2 * (gone c (S.take (j + 1)) W - gone c (S.take j) W) ≤ k i j := by
  have ex : S[j]? = some S[j] := by simp [hj]
  have ey : W[i]? = some W[i] := by simp [hi]
  rw [gone_step ex]
  split
  · rename_i hg
    unfold goneB at hg
    rw [List.all_eq_true] at hg
    have := of_decide_eq_true (hg W[i] (List.getElem_mem hi))
    rw [hk i j _ _ ex ey, this]; lia
  · have := h0 i j; lia
theorem R_ge {S W : List α} (hk : ∀ i j x y, S[j]? = some x → W[i]? = some y → k i j = c y x) (h0 : ∀ i j, 0 ≤ k i j) :
    ∀ (i j : Nat), i ≤ W.length → j < S.length → 2 * ((i : Int) - ((j : Int) + 1)) + 2 * gone c (S.take (j + 1)) W ≤ R k i j := by
  intro i
  induction i with
  | zero =>
    intro j _ hj
    have := gone_take_le (c := c) S W (j + 1)
    simp only [R]; lia
  | succ i ih =>
    intro j hi hj
    induction j with
    | zero =>
      have h1 := gone_take_le (c := c) S W (0 + 1)
      have h2 := ih 0 (by lia) hj
      have h3 := diag_ge (c := c) hk h0 (i := i) (j := 0) (by lia) hj
      have h4 : gone c (S.take 0) W = 0 := by simp [gone]
      rw [R_succ_zero]
      clear ih hk h0
      refine le_mm ?_ ?_ ?_ <;> lia
    | succ j jh =>
      have h1 := jh (by lia)
      have h2 := ih (j + 1) (by lia) hj
      have h3 := ih j (by lia) (by lia)
      have h4 := diag_ge (c := c) hk h0 (i := i) (j := j + 1) (by lia) hj
      have h5 := gone_step (c := c) (S := S) (W := W) (j := j + 1) (x := S[j + 1]) (by simp [hj])
      rw [R_succ_succ]
      clear ih jh hk h0
      generalize gone c (S.take (j + 1 + 1)) W = G2 at *
      generalize gone c (S.take (j + 1)) W = G1 at *
      split at h5
      all_goals refine le_mm ?_ ?_ ?_ <;> lia

/-- the table's last place is the price -/
theorem Fine.table {S W : List α} {p : Int} (h : Fine c S W p) (hk : ∀ i j x y, S[j]? = some x → W[i]? = some y → k i j = c y x) (h0 : ∀ i j, 0 ≤ k i j) (h2 : ∀ i j, k i j ≤ 2) {n : Nat} (hn : S.length = n + 1) : R k W.length n = p := by
  obtain ⟨ops, e1, e2, e3⟩ := h.al
  have hle := Mx_le (c := c) hk h2 ops.reverse W.length (n + 1) (by rw [src_reverse, List.reverse_reverse, e1, ← hn, List.take_length]) (by rw [dst_reverse, List.reverse_reverse, e2, List.take_length]) (by lia) (Nat.le_refl _)
  rw [cost_reverse] at hle
  have hge := R_ge (c := c) hk h0 W.length n (Nat.le_refl _) (by lia)
  rw [← hn, List.take_length] at hge
  have := h.lb
  simp only [Mx] at hle
  lia

theorem R_le {i j : Nat} (h2 : ∀ i j, k i j ≤ 2) : R k i j ≤ 2 * ((i : Int) + (j : Int) + 1) := by
  have : ∀ j, Mx k i j ≤ 2 * ((i : Int) + j) := by
    intro j
    induction j with
    | zero => simp only [Mx]; lia
    | succ j ih => have := Mx_left (k := k) i j h2; lia
  have := this (j + 1)
  simp only [Mx] at this; lia
theorem R_first (h2 : ∀ i j, k i j ≤ 2) : ∀ i : Nat, 0 < i → R k i 0 ≤ 2 * (i : Int)
  | 0, h => absurd h (Nat.lt_irrefl _)
  | i + 1, _ => by rw [R_succ_zero]; have := h2 i 0; lia
/-- a row's least is no more than the next one's -/
theorem minTo_mono (h2 : ∀ i j, k i j ≤ 2) (h0 : ∀ i j, 0 ≤ k i j) {i n : Nat} (hi : 0 < i) (hn : 0 < n) (hb : (i : Int) + 1 < 1000000) : minTo (R k i) n ≤ minTo (R k (i + 1)) n := by
  have hf := R_first h2 i hi
  have hm : ∀ j, j < n → minTo (R k i) n ≤ R k i j := fun j hj => minTo_le _ n j hj
  have h00 := hm 0 hn
  refine le_minTo _ (by lia) n fun j hj => ?_
  induction j with
  | zero => rw [R_succ_zero]; have := h0 i 0; clear h0 h2 hm; refine le_mm ?_ ?_ ?_ <;> lia
  | succ j ih =>
    have a := ih (by lia)
    have b := hm j (by lia)
    have c' := hm (j + 1) hj
    have d := h0 i (j + 1)
    rw [R_succ_succ]; clear h0 h2 hm ih; refine le_mm ?_ ?_ ?_ <;> lia
theorem minTo_le_last (h2 : ∀ i j, k i j ≤ 2) (h0 : ∀ i j, 0 ≤ k i j) {n N : Nat} (hN : (N : Int) < 1000) : ∀ d i : Nat, i + d = N → 0 < i → minTo (R k i) (n + 1) ≤ R k N n
  | 0, i, e, _ => by
    have : i = N := by lia
    subst this
    exact minTo_le _ _ _ (Nat.lt_succ_self _)
  | d + 1, i, e, hi => Int.le_trans (minTo_mono h2 h0 hi (Nat.succ_pos _) (by lia)) (minTo_le_last h2 h0 hN d (i + 1) (by lia) (Nat.succ_pos _))
theorem cell_val {kk : Nat → Nat → Int} {i j : Nat} {r res dist sc : Int} (hr : r = R kk i j) (hd : dist = Mx kk i j) (hres : res = if j = 0 then 2 * (i : Int) else R kk (i + 1) (j - 1)) (hs : sc = kk i j) :
    (if dist + sc < (if r < res then r else res) + 2 then dist + sc else (if r < res then r else res) + 2) = R kk (i + 1) j := by
  have e1 : (if r < res then r else res) = min res r := by split <;> lia
  have e2 : ∀ a b : Int, (if a < b then a else b) = min b a := fun a b => by split <;> lia
  rw [e1, e2]
  subst hr hd hs
  cases j with
  | zero => rw [if_pos rfl] at hres; rw [R_succ_zero, hres]; simp [Mx]
  | succ j => rw [if_neg (Nat.succ_ne_zero _)] at hres; rw [R_succ_succ, hres]; simp [Mx]
theorem getD_set {ns : List Int} {j q : Nat} {x : Int} (h : j < ns.length) : (ns.set j x).getD q 0 = if q = j then x else ns.getD q 0 := by
  rw [List.getD_eq_getElem?_getD, List.getD_eq_getElem?_getD, List.getElem?_set]
  by_cases e : j = q
  · subst e; simp [h]
  · have : ¬ q = j := fun z => e z.symm
    simp [e, this]
end
end Mine
end
section
open PySem PyProof.Rows
namespace Mine
/-- a text's signs, each a text -/
noncomputable def signs (x : Str) : List Str := x.cps.toList.map fun n => ⟨#[n]⟩
theorem signs_length (x : Str) : (signs x).length = x.length := by simp [signs, Str.length]
theorem signs_inj {x y : Str} (h : signs x = signs y) : x = y := by
  have : x.cps.toList = y.cps.toList := by
    unfold signs at h
    have hf : Function.Injective (fun n : Nat => (⟨#[n]⟩ : Str)) := by
      intro a b e
      simpa using e
    exact List.map_inj_right (fun a b e => hf e) |>.mp h
  cases x; cases y
  simp only [Str.mk.injEq]
  exact Array.ext' this
theorem signs_get {x : Str} {i : Nat} (h : i < x.length) : (signs x)[i]? = some ⟨#[x.cps.getD i 0]⟩ := by
  unfold Str.length at h
  simp [signs, h]
theorem slice_from {x : Str} {p : Nat} (h : p ≤ x.length) : Txt.slice x (some (p : Int)) none = ⟨(x.cps.toList.drop p).toArray⟩ := by
  show StrLaws.sliceText x (some (p : Int)) none = _
  rw [StrLaws.sliceText_from ⟨by omega, by unfold Str.length at h; simp; omega⟩]
  have : (List.drop p x.cps.toList).length = ((x.cps.toList.length : Int) - (p : Int)).toNat := by
    rw [List.length_drop]; unfold Str.length at h; omega
  rw [show (p : Int).toNat = p by omega, ← this, List.take_length]
theorem signs_from {x : Str} {p : Nat} (h : p ≤ x.length) : signs (Txt.slice x (some (p : Int)) none) = (signs x).drop p := by
  rw [slice_from h]; simp [signs, List.map_drop]
theorem slice_all (x : Str) : Txt.slice x none none = x := by
  show StrLaws.sliceText x none none = _
  unfold StrLaws.sliceText
  rw [if_pos]
  rw [StrLaws.sliceIdx_none_lo, StrLaws.sliceIdx_none_hi]
  have := StrLaws.strSliceIndices_plain (a := 0) (b := x.length) (len := x.length) (Nat.zero_le _) (Nat.le_refl _)
  have e : ((0 : Nat) : Int) = 0 := rfl
  rw [e] at this
  simp [this]
theorem slice_to_neg {x : Str} {q : Nat} (h0 : 0 < q) (h : q ≤ x.length) : Txt.slice x none (some (-(q : Int))) = ⟨(x.cps.toList.take (x.length - q)).toArray⟩ := by
  have := slice_closes_to_neg (x := x) (j := -(q : Int)) (k := -(q : Int) + x.length) (by omega) (by omega) rfl
  rw [eq_of_beq this]
  have e : (-(q : Int) + x.length - 0).toNat = x.length - q := by omega
  rw [e]; simp
theorem signs_to_neg {x : Str} {q : Nat} (h0 : 0 < q) (h : q ≤ x.length) : signs (Txt.slice x none (some (-(q : Int)))) = (signs x).take (x.length - q) := by
  rw [slice_to_neg h0 h]; simp [signs, List.map_take]
theorem item_nat {x : Str} {p : Nat} (h : p < x.length) : (signs x)[p]? = some (Txt.item x (p : Int)) := by
  have hn : x.cps[p]? = some (x.cps.getD p 0) := by unfold Str.length at h; simp [h]
  have := StrLaws.at_nonneg (x := x) (i := (p : Int)) (n := x.cps.getD p 0) (by omega) (by simpa using hn)
  rw [signs_get h]
  unfold Txt.item Txt.charAt
  rw [this]; simp
theorem item_neg {x : Str} {q : Nat} (h : q < x.length) : (signs x)[x.length - (q + 1)]? = some (Txt.item x (-(q : Int) - 1)) := by
  have := item_closes_neg (x := x) (i := -(q : Int) - 1) (j := -(q : Int) - 1 + x.length) (by omega) (by omega) rfl
  rw [eq_of_beq this, signs_get (by omega)]
  have e : (-(q : Int) - 1 + x.length).toNat = x.length - (q + 1) := by omega
  rw [e]
theorem signs_eq_nil {x : Str} : signs x = [] ↔ x.length = 0 := by
  rw [← List.length_eq_zero_iff, signs_length]
theorem signs_one {x y : Str} (h : y ∈ signs x) : y.length = 1 := by
  unfold signs at h
  obtain ⟨n, _, rfl⟩ := List.mem_map.mp h
  rfl
end Mine
end
section
open PySem PySem.W PyProof.Rows PySem.Spec PySem.Calls Mine
namespace Mine
theorem joined_Sc : True := by
  w_top off
  trivial
/-- what _substitution_cost gives -/
noncomputable def substC (x y : Str) : Int := if (x == y) = true then 0 else if (Txt.lower x == Txt.lower y) = true then 1 else 2

section
variable {w : World} {mean : ExcName → Option Value} {mg mb : Str → Option Value} {dp un : Nat} {gd : Option (List Code)} {cn : Str} {cs : Scope} {a : Addr} {ccd : Value} {cl : List (Str × Addr)} {outer : List Env} {A₀ : Around} {base h₀ : Heap} {L : Addr} {m : Str → Option Value} {news : List (Addr × Obj)} {s : Shared} {Q E : Value → Shared → Prop}

theorem sc_use {x y : Str} {t u : Tok} (B : Below A₀ base outer h₀) (F : Fr h₀ L s.heap m) (X : (hd.heap_1 w.params).In h₀) (N : News h₀ L s.heap news) (T : Top hdV (looseW hdV [Str.ofString "EXACT_TOKEN_TYPES"]) mean mg mb h₀)
    (hk : cs.kind = .function) (hdp : dp + 1 < recursionLimit) (hun : un + 8 < cLine) (hx : x.length < 1000) (hy : y.length < 1000)
    (hret : ∀ (t : Tok) (h' : Heap) (tk' : Nat), Fr h₀ L h' m → News h₀ L h' news → Q (.int (substC x y) t) { s with heap := h', toks := tk' }) :
    wpAny (model PySem.Challenge.rw_tv0046_01.row.prog w) (ktrTop dp un gd cn cs L a ccd cl outer) (call (.ref 21) [.str x t, .str y u]) Q E s := by
  revert X; k_fill; intro X
  refine wpAny_call ?_
  (k_dflt cell_enter)
  rename Fr _ _ _ _ => F1
  have F2 : Fr _ _ _ (fun z => List.lookup z [(Str.ofString "ch_b", Value.str y u), (Str.ofString "ch_a", Value.str x t)]) := F1
  clear F1
  k_steps
  all_goals refine cb_retI hret ?_ (by k_asm) (by k_asm)
  all_goals simp [substC, *]
end
end Mine
end
section
open PySem PySem.W PyProof.Rows PySem.Spec PySem.Calls PyProof.V
namespace Mine
/-- a text by its signs, or a list of texts -/
inductive SeqV (led : List (Addr × Obj)) : Bool → Value → List Str → Prop
  | str (x : Str) (t : Tok) : SeqV led true (.str x t) (signs x)
  | list {a : Addr} {vs : List Value} {n : Nat} {xs : List Str} : (a, listOf (List.toArray vs) n) ∈ led → StrsAre vs xs → SeqV led false (.ref a) xs
theorem SeqV.mono {led led' : List (Addr × Obj)} {k : Bool} {v : Value} {xs : List Str} (h : SeqV led k v xs) (hs : ∀ p ∈ led, p ∈ led') : SeqV led' k v xs := by
  cases h with
  | str x t => exact .str x t
  | list hm hv => exact .list (hs _ hm) hv

theorem strs_canLayAll0 : ∀ ns : List Str, (∀ x ∈ ns, PyData.strOk x = true) → PyData.canLayAll0 (ns.map PyData.str) = true
  | [], _ => rfl
  | x :: r, h => by simp [PyData.canLayAll0, PyData.canLay0, strs_canLayAll0 r (fun y hy => h y (.tail _ hy)), h x (.head _)]
theorem strs_depthAll : ∀ ns : List Str, PyData.depthAll (ns.map PyData.str) = 0
  | [] => rfl
  | _ :: r => by simp [PyData.depthAll, PyData.depth, strs_depthAll r]
theorem shaped_strs (ns : List Str) (h : ∀ x ∈ ns, PyData.strOk x = true) : SeqAt.shaped (.list (ns.map PyData.str)) = true := by
  simp [SeqAt.shaped, PyData.canLay0, PyData.depth, strs_canLayAll0 ns h, strs_depthAll]
theorem sameAll_strs : ∀ ns ms : List Str, PySem.Spec.sameAll (ns.map PyData.str) (ms.map PyData.str) = decide (ns = ms)
  | [], [] => by simp [PySem.Spec.sameAll]
  | [], _ :: _ => by simp [PySem.Spec.sameAll]
  | _ :: _, [] => by simp [PySem.Spec.sameAll]
  | a :: r, b :: t => by
    simp only [List.map_cons, PySem.Spec.sameAll, PySem.Spec.same, sameAll_strs r t]
    by_cases h : a = b <;> by_cases h' : r = t <;> simp [h, h']
theorem same_strs (ns ms : List Str) : PySem.Spec.same (.list (ns.map PyData.str)) (.list (ms.map PyData.str)) = decide (ns = ms) := by
  simp only [PySem.Spec.same]; exact sameAll_strs ns ms

/-- None for nought -/
noncomputable def orNone (i : Int) (t : Tok) : Value := if i = 0 then .none else .int i t

section
variable {prog : Program} {w : World} {A : Around} {E : Value → Shared → Prop} {s : Shared} {g : Heap} {L : Addr} {m : Str → Option Value} {news : List (Addr × Obj)} {k : Bool} {va vb : Value} {xs ys : List Str}
theorem news_list {a : Addr} {vs : List Value} {n : Nat} (N : News g L s.heap news) (hm : (a, listOf (List.toArray vs) n) ∈ news) : s.heap.IsList a vs.toArray := ⟨_, (N _ hm).1, rfl, n, rfl⟩

theorem seq_eq {Q : Value → Shared → Prop} (hox : ∀ x ∈ xs, PyData.strOk x = true) (hoy : ∀ x ∈ ys, PyData.strOk x = true) (N : News g L s.heap news) (ha : SeqV news k va xs) (hb : SeqV news k vb ys) (hu : A.units + 64 < cLine) (h : Q (.bool (decide (xs = ys))) s) :
    wpAny (model prog w) A (compareOp .Eq va vb) Q E s := by
  cases ha with
  | str x t =>
    cases hb with
    | str y u =>
      refine eq_str ?_
      have e : (x == y) = decide (signs x = signs y) := by
        by_cases q : x = y
        · subst q; simp
        · have : signs x ≠ signs y := fun z => q (signs_inj z)
          simp [q, this]
      rw [e]; exact h
  | list hm hv =>
    cases hb with
    | list hm' hv' =>
      exact eq_dataH_same (reads_newData (news_list N hm) hv.carried) (reads_newData (news_list N hm') hv'.carried) (shaped_strs _ hox) (shaped_strs _ hoy) hu (SeqAt.noMix_of_shape (.list .str) rfl _ _ (list_map_has fun _ => rfl) (list_map_has fun _ => rfl)) (by rw [same_strs]; exact h)

theorem seq_truthy {Q : Bool → Shared → Prop} (hl : xs.length < 1000000) (N : News g L s.heap news) (ha : SeqV news k va xs) (h : ∀ tk, Q (decide (xs ≠ [])) { s with toks := tk }) : wpAny (model prog w) A (truthy va) Q E s := by
  cases ha with
  | str x t =>
    rw [signs_length] at hl
    refine P.truthy_str (by (first | lia | omega)) ?_
    have e : ((x.length : Int) != 0) = decide (signs x ≠ []) := by
      by_cases q : x.length = 0
      · have := signs_eq_nil.mpr q
        simp [q, this]
      · have q' : signs x ≠ [] := fun z => q (signs_eq_nil.mp z)
        have : (x.length : Int) ≠ 0 := by (first | lia | omega)
        simp [this, q', q]
    rw [e]; exact h _
  | list hm hv =>
    have hl' := hv.length
    refine wpAny_truthy_list (news_list N hm) (by rw [List.size_toArray, hl']; (first | lia | omega)) ?_
    rename_i a vs n
    have e : (!vs.toArray.isEmpty) = decide (xs ≠ []) := by
      cases hv <;> simp
    rw [e]; exact h _

theorem seq_len {Q : Value → Shared → Prop} (hl : xs.length < 1000000) (N : News g L s.heap news) (ha : SeqV news k va xs) (h : ∀ t tk, Q (.int xs.length t) { s with toks := tk }) : wpAny (model prog w) A (call (.builtin "len") [va]) Q E s := by
  cases ha with
  | str x t =>
    have h' := h
    rw [signs_length] at hl
    simp only [signs_length] at h'
    exact P.len_str (by (first | lia | omega)) (h' _ _)
  | list hm hv =>
    have hl' := hv.length
    refine len_list (news_list N hm) (by rw [List.size_toArray, hl']; (first | lia | omega)) ?_
    rw [List.size_toArray, hl']; exact h _ _

theorem seq_item {value slice : PySem.Expr} {i : Int} {j : Nat} {u : Tok} {x : Str} {Q : Value → Shared → Prop} (hl : xs.length < 1000000) (N : News g L s.heap news) (ha : SeqV news k va xs) (hx : xs[j]? = some x) (hi : i = j ∨ i = (j : Int) - xs.length)
    (h : ∀ t tk, Q (.str x t) { s with toks := tk })
    (hs : ∀ v, subscripted slice false v (.int i u) = operate [v, .int i u] (getItem v (.int i u)) := by intro _; with_unfolding_all rfl)
    (ht : ∀ v r, letTemporaryGo value v r = pure () := by intro _ _; with_unfolding_all rfl) :
    wpAny (model prog w) A (subscriptTail value slice va (.int i u)) Q E s := by
  obtain ⟨hj, _⟩ := List.getElem?_eq_some_iff.mp hx
  cases ha with
  | str y t =>
    rw [signs_length] at hl hj hi
    have hx' : Txt.item y i = x := by
      rcases hi with rfl | rfl
      · have := item_nat hj
        rw [hx] at this; exact (Option.some.inj this).symm
      · have := item_neg (x := y) (q := y.length - 1 - j) (by (first | lia | omega))
        rw [show y.length - (y.length - 1 - j + 1) = j by (first | lia | omega), hx] at this
        have e2 : -((y.length - 1 - j : Nat) : Int) - 1 = (j : Int) - y.length := by (first | lia | omega)
        rw [e2] at this
        exact (Option.some.inj this).symm
    refine item_str (fitsSsize_of (N := 9223372036854775808) (by (first | lia | omega)) (by (first | lia | omega)) (Int.le_refl _)) (by (first | lia | omega)) (by (first | lia | omega)) (fun _ => ?_) (hs _) (ht _)
    rw [hx']; exact h _ _
  | list hm hv =>
    have hl' := hv.length
    obtain ⟨tx, hvx⟩ := hv.get j x hx
    rcases hi with rfl | rfl
    · exact item_list (news_list N hm) (by (first | lia | omega)) (by (first | lia | omega)) (by simpa using hvx) (h _ _) (hs _) (ht _)
    · refine tail_any (news_list N hm).typeIs slot_list_getitem.lookup (wpAny_getItem_list_neg (news_list N hm) (by (first | lia | omega)) (by rw [List.size_toArray, hl']; (first | lia | omega)) (by (first | lia | omega)) ?_ (h tx s.toks)) (hs _)
      rw [List.size_toArray, hl']
      have e : ((j : Int) - xs.length + xs.length).toNat = j := by (first | lia | omega)
      rw [e]; simpa using hvx

theorem seq_item_neg {value slice : PySem.Expr} {q : Nat} {u : Tok} {Q : Value → Shared → Prop} (hl : xs.length < 1000000) (N : News g L s.heap news) (ha : SeqV news k va xs) (hq : q < xs.length)
    (h : ∀ t tk, Q (.str (xs[xs.length - (q + 1)]'(by (first | lia | omega))) t) { s with toks := tk })
    (hs : ∀ v, subscripted slice false v (.int (-(q : Int) - 1) u) = operate [v, .int (-(q : Int) - 1) u] (getItem v (.int (-(q : Int) - 1) u)) := by intro _; with_unfolding_all rfl)
    (ht : ∀ v r, letTemporaryGo value v r = pure () := by intro _ _; with_unfolding_all rfl) :
    wpAny (model prog w) A (subscriptTail value slice va (.int (-(q : Int) - 1) u)) Q E s :=
  seq_item (j := xs.length - (q + 1)) hl N ha (by simp) (Or.inr (by (first | lia | omega))) h hs ht

theorem strs_from {vs : List Value} {p : Nat} (hv : StrsAre vs xs) : StrsAre (slicePick vs.toArray (some (p : Int)) none none).toList (xs.drop p) := by
  have e : sliceBounds (some (p : Int)) none none vs.toArray.size = (((min p vs.toArray.size : Nat) : Int), ((vs.toArray.size : Nat) : Int), 1) := by
    simp only [sliceBounds, Option.getD_none, show (1 : Int) > 0 by decide, if_true, if_neg (show ¬ ((p : Int) < 0) by (first | lia | omega))]
    congr 1
    (first | lia | omega)
  rw [kmk_pick_nat _ e]
  show StrsAre ((vs.drop (min p vs.toArray.size)).take (vs.toArray.size - min p vs.toArray.size)) _
  rw [List.size_toArray, kmk_drop_min, List.take_of_length_le (by rw [List.length_drop]; (first | lia | omega))]
  exact hv.drop' _
theorem strs_to_neg {vs : List Value} {q : Nat} (h0 : 0 < q) (hv : StrsAre vs xs) : StrsAre (slicePick vs.toArray none (some (-(q : Int))) none).toList (xs.take (xs.length - q)) := by
  have e : sliceBounds none (some (-(q : Int))) none vs.toArray.size = (((0 : Nat) : Int), ((vs.toArray.size - q : Nat) : Int), 1) := by
    simp only [sliceBounds, Option.getD_none, show (1 : Int) > 0 by decide, if_true, if_pos (show -(q : Int) < 0 by (first | lia | omega))]
    congr 1
    congr 1
    (first | lia | omega)
  rw [kmk_pick_nat _ e]
  show StrsAre ((vs.drop 0).take (vs.toArray.size - q - 0)) _
  rw [List.drop_zero, Nat.sub_zero, List.size_toArray, hv.length]
  exact hv.take' _
theorem strs_all {vs : List Value} (hv : StrsAre vs xs) : StrsAre (slicePick vs.toArray none none none).toList xs := by
  have e : sliceBounds none none none vs.toArray.size = (((0 : Nat) : Int), ((vs.toArray.size : Nat) : Int), 1) := by
    simp only [sliceBounds, Option.getD_none, show (1 : Int) > 0 by decide, if_true]
    rfl
  rw [kmk_pick_nat _ e]
  show StrsAre ((vs.drop 0).take (vs.toArray.size - 0)) _
  rw [List.drop_zero, Nat.sub_zero, List.size_toArray, List.take_length]
  exact hv

theorem seq_from {value slice : PySem.Expr} {p : Nat} {u : Tok} {Q : Value → Shared → Prop} (hl : xs.length < 1000000) (hp : p ≤ xs.length) (F : Fr g L s.heap m) (N : News g L s.heap news) (ha : SeqV news k va xs)
    (h : ∀ v new h' tk, Fr g L h' m → News g L h' (new ++ news) → (∀ q ∈ news, ∀ r ∈ new, q.1 < r.1) → SeqV (new ++ news) k v (xs.drop p) → Q v { s with heap := h', toks := tk })
    (hs : ∀ v i, subscripted slice false v i = operate [i, v] (getItem v i) := by intro _ _; with_unfolding_all rfl)
    (ht : ∀ v r, letTemporaryGo value v r = pure () := by intro _ _; with_unfolding_all rfl) :
    wpAny (model prog w) A (subscriptTail value slice va (.ref s.heap.objs.size)) Q E { s with heap := s.heap.push { cls := .type "slice", data := .fields #[.int (p : Int) u, .none, .none] } } := by
  cases ha with
  | str x t =>
    rw [signs_length] at hl hp
    refine slice_strN_sn F N (fun h' t' tk F' N' => ?_) (hs _ _) (ht _) (by rw [sizeLine_eq]; (first | lia | omega))
    refine h _ [] h' tk F' (by simpa using N') (fun _ _ _ hr => nomatch hr) ?_
    rw [← signs_from hp]
    exact .str _ _
  | list hm hv =>
    have hl' := hv.length
    refine kmk_slice F N (news_list N hm) (.int _ _) .none (fun D h' F' N' hlt => ?_) (hs _ _) (ht _) (by rw [List.size_toArray, hl', sizeLine_eq]; (first | lia | omega))
    refine h _ [_] h' s.toks F' N' (fun q hq r hr => by rw [List.mem_singleton.mp hr]; exact hlt q hq) (.list (vs := (slicePick _ _ _ none).toList) (n := 0) ?_ (strs_from hv))
    rw [Array.toArray_toList]; exact .head _

theorem seq_to {value slice : PySem.Expr} {q : Nat} {u : Tok} {Q : Value → Shared → Prop} (hl : xs.length < 1000000) (hq : q ≤ xs.length) (F : Fr g L s.heap m) (N : News g L s.heap news) (ha : SeqV news k va xs)
    (h : ∀ v new h' tk, Fr g L h' m → News g L h' (new ++ news) → (∀ q ∈ news, ∀ r ∈ new, q.1 < r.1) → SeqV (new ++ news) k v (xs.take (xs.length - q)) → Q v { s with heap := h', toks := tk })
    (hs : ∀ v i, subscripted slice false v i = operate [i, v] (getItem v i) := by intro _ _; with_unfolding_all rfl)
    (ht : ∀ v r, letTemporaryGo value v r = pure () := by intro _ _; with_unfolding_all rfl) :
    wpAny (model prog w) A (subscriptTail value slice va (.ref s.heap.objs.size)) Q E { s with heap := s.heap.push { cls := .type "slice", data := .fields #[.none, orNone (-(q : Int)) u, .none] } } := by
  rcases Nat.eq_zero_or_pos q with rfl | h0
  · have e : orNone (-((0 : Nat) : Int)) u = .none := rfl
    rw [e]
    rw [Nat.sub_zero, List.take_length] at h
    cases ha with
    | str x t =>
      rw [signs_length] at hl hq
      refine slice_strN_nn F N (fun h' t' tk F' N' => ?_) (hs _ _) (ht _) (by rw [sizeLine_eq]; (first | lia | omega))
      refine h _ [] h' tk F' (by simpa using N') (fun _ _ _ hr => nomatch hr) ?_
      rw [slice_all]
      exact .str _ _
    | list hm hv =>
      have hl' := hv.length
      refine kmk_slice F N (news_list N hm) .none .none (fun D h' F' N' hlt => ?_) (hs _ _) (ht _) (by rw [List.size_toArray, hl', sizeLine_eq]; (first | lia | omega))
      refine h _ [_] h' s.toks F' N' (fun q hq r hr => by rw [List.mem_singleton.mp hr]; exact hlt q hq) (.list (vs := (slicePick _ _ _ none).toList) (n := 0) ?_ (strs_all hv))
      rw [Array.toArray_toList]; exact .head _
  · have e : orNone (-(q : Int)) u = .int (-(q : Int)) u := by unfold orNone; rw [if_neg (by (first | lia | omega))]
    rw [e]
    cases ha with
    | str x t =>
      rw [signs_length] at hl hq
      refine slice_strN_ns F N (fun h' t' tk F' N' => ?_) (hs _ _) (ht _) (by rw [sizeLine_eq]; (first | lia | omega))
      refine h _ [] h' tk F' (by simpa using N') (fun _ _ _ hr => nomatch hr) ?_
      rw [signs_length, ← signs_to_neg h0 hq]
      exact .str _ _
    | list hm hv =>
      have hl' := hv.length
      refine kmk_slice F N (news_list N hm) .none (.int _ _) (fun D h' F' N' hlt => ?_) (hs _ _) (ht _) (by rw [List.size_toArray, hl', sizeLine_eq]; (first | lia | omega))
      refine h _ [_] h' s.toks F' N' (fun q hq r hr => by rw [List.mem_singleton.mp hr]; exact hlt q hq) (.list (vs := (slicePick _ _ _ none).toList) (n := 0) ?_ (strs_to_neg h0 hv))
      rw [Array.toArray_toList]; exact .head _

theorem or_none {cn : Str} {cs : Scope} {a : Addr} {ccd : Value} {cl : List (Str × Addr)} {x : Str} {p1 p2 p3 : Pos} {kk : Nat} {i : Int} {t : Tok} {Q : Value → Shared → Prop} (F : Fr g L s.heap m) (hv : m x = some (.int i t)) (h : Q (orNone i t) s)
    (hk : cs.kind = .function := by rfl) (hx : (envX cn cs L a ccd cl).kindOf x = some .local := by rfl) (hd : (x == ("__debug__" : Str)) = false := by decide) :
    wpAny (model prog w) A (eval (.BoolOp .Or [.Name x p1, .Constant .none kk p2] p3) (envX cn cs L a ccd cl)) Q E s := by
  refine BoolOp_or (nameX_L F hv (truthy_int ?_) hk hx hd)
  unfold orNone at h
  by_cases e : i = 0
  · subst e
    simp only [bne_self_eq_false, Bool.false_eq_true, if_false]
    exact BoolOp_one (wpAny_Constant_none h)
  · rw [if_neg e] at h
    have : (i != 0) = true := by simpa using e
    simp only [this, if_true]
    exact h
theorem gen2 {h : Heap} {led led1 led2 : List (Addr × Obj)} (N : News g L h led) (Sa : SeqV led1 k va xs) (h1 : ∀ p ∈ led1, p ∈ led) (Sb : SeqV led2 k vb ys) (h2 : ∀ p ∈ led2, p ∈ led) (h3 : ∀ p ∈ news, p ∈ led) :
    ∃ l va' vb', va' = va ∧ vb' = vb ∧ News g L h l ∧ SeqV l k va' xs ∧ SeqV l k vb' ys ∧ ∀ p ∈ news, p ∈ l := ⟨led, va, vb, rfl, rfl, N, Sa.mono h1, Sb.mono h2, h3⟩
/-- range(2, 2 (n + 1), 2) as a list -/
theorem list_evens {r : Addr} {n : Nat} {t u v : Tok} {Q : Value → Shared → Prop} (hn : n ≤ 40) (hh : A.handled = none) (F : Fr g L s.heap m) (N : News g L s.heap news) (hr : IsRange s.heap r 2 (2 * ((n : Int) + 1)) 2 t u v)
    (h : ∀ D (ys : List Value) (c : Nat) h' tk, Fr g L h' m → News g L h' ((D, listOf (List.toArray ys) c) :: news) → (∀ p ∈ news, p.1 < D) → IntsAre ys ((List.range n).map fun (j : Nat) => 2 * ((j : Int) + 1)) → Q (.ref D) { s with heap := h', toks := tk }) :
    wpAny (model prog w) A (call (.type "list") [.ref r]) Q E s := by
  have all : ∀ k : Fin 41, Builtin.Range.small 2 (2 * ((k.1 : Int) + 1)) 2 = true ∧ Builtin.Range.rangeSize 2 (2 * ((k.1 : Int) + 1)) 2 = (k.1 : Int) := by decide +kernel
  obtain ⟨h1, h2⟩ := all ⟨n, by (first | lia | omega)⟩
  refine list_rangeD hh F N hr h1 h2 (by (first | lia | omega)) fun h' tk ys F' N' hk hnew hl hpl hca => ?_
  obtain ⟨⟨c, hc⟩, hne⟩ := id hpl
  refine h s.heap.objs.size ys c h' tk F' ?_ (fun p hp => Heap.lt_size (N p hp).1) ?_
  · intro p hp
    rcases List.mem_cons.mp hp with rfl | hp
    · exact ⟨hc, hpl.ne_locals F', hnew⟩
    · exact N' p hp
  · have e : (rangeInts 2 2 n) = (List.range n).map fun (j : Nat) => 2 * ((j : Int) + 1) := by
      unfold rangeInts
      exact List.map_congr_left fun i _ => by (first | lia | omega)
    rw [← e]
    generalize rangeInts 2 2 n = zs at hca
    clear hl hpl hc hne
    induction zs generalizing ys with
    | nil => cases hca; exact .nil
    | cons z r ih =>
      cases hca with
      | cons h1 h2 =>
        cases h1 with
        | int _ t => exact .cons _ _ (ih _ h2)
theorem min2 {a b : Int} {t u : Tok} {Q : Value → Shared → Prop} (hh : A.handled = none) (F : Fr g L s.heap m) (N : News g L s.heap news)
    (h : ∀ t' h' tk, Fr g L h' m → News g L h' news → Q (.int (min a b) t') { s with heap := h', toks := tk }) :
    wpAny (model prog w) A (call (.builtin "min") [.int a t, .int b u]) Q E s :=
  min_two_N hh F N fun h' tk F' N' => by
    have e : (if b < a then b else a) = min a b := by split <;> (first | lia | omega)
    rw [e]; exact h _ h' tk F' N'
end
theorem offs {l own : List (Addr × Obj)} {D : Addr} {o : Obj} (h1 : ∀ p ∈ l, p.1 < D) (h2 : OwnOff own (((D, o) :: l).map (·.1))) : ∀ p ∈ l ++ own, p.1 ≠ D := fun p hp =>
  (List.mem_append.mp hp).elim (fun h => Nat.ne_of_lt (h1 p h)) fun h => h2 p h D (.head _)
theorem offs2 {l own : List (Addr × Obj)} {D : Addr} {o : Obj} (h1 : ∀ p ∈ l, p.1 ≠ D) (h2 : OwnOff own (((D, o) :: l).map (·.1))) : ∀ p ∈ l ++ own, p.1 ≠ D := fun p hp =>
  (List.mem_append.mp hp).elim (fun h => h1 p h) fun h => h2 p h D (.head _)
/-- what the table's step asks -/
noncomputable def kc (c : Str → Str → Int) (X Y : List Str) (i j : Nat) : Int := match Y[i]?, X[j]? with
  | some y, some x => c y x
  | _, _ => 0
set_option genInjectivity false in
set_option genSizeOf false in
/-- the table's row as it stands while it is turned -/
structure O3 where
  ys : List Value
  ns : List Int
  c : Nat
  res : Int
  tr : Tok
  dist : Int
  td : Tok
  mn : Int
  tm : Tok
set_option genInjectivity false in
set_option genSizeOf false in
/-- the state between the trimming and the table -/
structure M2 where
  l : List (Addr × Obj)
  va : Value
  vb : Value
  X : List Str
  Y : List Str
end Mine
end
local macro_rules | `(tactic| tb_rel) => `(tactic| first | assumption | exact List.Mem.head _ | (refine List.mem_append_right _ ?_; tb_rel) | (refine List.mem_append_left _ ?_; tb_rel) | (refine List.mem_cons_of_mem _ ?_; tb_rel))
local macro_rules | `(tactic| ktr_rel) => `(tactic| (intro p9 hp9; tb_rel))
section
open PySem PySem.W PyProof.Rows PySem.Spec PySem.Calls Mine
namespace Mine
theorem joined_Lev1 : True := by
  w_top off
  trivial
local macro_rules | `(tactic| walk_at "exec While BoolOp cons nil") => `(tactic| (refine Stop.intro ?_))
local macro_rules | `(tactic| walk_at "InvEndN") => `(tactic| (refine Stop.intro ?_))
local macro_rules | `(tactic| walk_at "pyIter ref") => `(tactic| (refine Stop.intro ?_))
local macro_rules | `(tactic| walk_at "exec For Name Call cons nil") => `(tactic| (refine Stop.intro ?_))
theorem costOk : CostOk substC where
  nonneg x y := by unfold substC; split; (first | lia | omega); split <;> (first | lia | omega)
  two x y := by unfold substC; split; (first | lia | omega); split <;> (first | lia | omega)
  self x := by simp [substC]
theorem kc_ok (X Y : List Str) : (∀ i j x y, X[j]? = some x → Y[i]? = some y → kc substC X Y i j = substC y x) ∧ (∀ i j, 0 ≤ kc substC X Y i j) ∧ (∀ i j, kc substC X Y i j ≤ 2) := by
  refine ⟨fun i j x y h1 h2 => by unfold kc; rw [h1, h2], fun i j => ?_, fun i j => ?_⟩
  · unfold kc; split
    · exact costOk.nonneg _ _
    · (first | lia | omega)
  · unfold kc; split
    · exact costOk.two _ _
    · (first | lia | omega)
theorem item_at {xs : List Str} {j : Nat} (h : j < xs.length) : xs[j]? = some (xs[j]'h) := by simp [h]
theorem small_get {xs : List Str} {b : Nat} (h : ∀ x ∈ xs, x.length < b) {i : Nat} (hi : i < xs.length) : (xs[i]'hi).length < b := h _ (List.getElem_mem hi)
theorem lt_of_drop_ne {xs : List Str} {p : Nat} (h : xs.drop p ≠ []) : p < xs.length := by
  apply Nat.lt_of_not_le
  intro q
  exact h (List.drop_of_length_le q)
theorem lt_of_take_ne {xs : List Str} {q : Nat} (h : xs.take (xs.length - q) ≠ []) : q < xs.length := by
  apply Nat.lt_of_not_le
  intro z
  exact h (by rw [Nat.sub_eq_zero_of_le z]; rfl)


local macro_rules | `(tactic| ktr_unf) => `(tactic| first | assumption | (refine SeqV.mono (by assumption) ?_; ktr_rel))
local macro_rules | `(tactic| tb_start) => `(tactic| first | exact small_get (by assumption) _ | exact lt_of_drop_ne (by assumption) | exact lt_of_take_ne (by assumption) | ((try simp only [List.length_drop, List.length_take]); omega))
local macro_rules | `(tactic| walk_at "truthy") => `(tactic| (k_here; refine' seq_truthy ?hl ?N ?ha ?_; (case N => k_asm); (case ha => ktr_unf); (case hl => tb_start); intro tk9; (try dsimp only)))
local macro_rules | `(tactic| walk_at "compareOp Eq") => `(tactic| (k_here; refine' seq_eq ?hx ?hy ?N ?ha ?hb ?hu ?_; (case N => k_asm); (case ha | hb => ktr_unf); (case hx | hy => assumption); (case hu => ktr_units)))
local macro_rules | `(tactic| walk_at "call builtin:len") => `(tactic| (k_here; refine' seq_len ?hl ?N ?ha ?_; (case N => k_asm); (case ha => ktr_unf); (case hl => tb_start); intro t9 tk9; (try dsimp only)))
local macro_rules | `(tactic| walk_at "subscriptTail Name Name int") => `(tactic| (k_here; refine' seq_item (s := ⟨_, _, _, _, _⟩) ?hl ?N ?ha (item_at ?hx) (Or.inl rfl) ?_; (case N => k_asm); (case ha => ktr_unf); (case hl | hx => tb_start); intro t9 tk9; (try dsimp only)))
local macro_rules | `(tactic| walk_at "subscriptTail Name BinOp int") => `(tactic| (k_here; refine' seq_item_neg (s := ⟨_, _, _, _, _⟩) ?hl ?N ?ha ?hx ?_; (case N => k_asm); (case ha => ktr_unf); (case hl | hx => tb_start); intro t9 tk9; (try dsimp only)))
local macro_rules | `(tactic| walk_at "call type:list") => `(tactic| (k_here; (with_reducible rename IsRange _ _ _ _ _ _ _ _ => R9); (with_unfolding_all refine' list_evens ?hn ?hh ?F ?N R9 ?_); (case hh => rfl); (case F | N => k_asm); (case hn => tb_start); intro D9 ys9 c9 h9 tk9 F' N' lt9 I9; (try dsimp only); (try k_sweep)))
local macro_rules | `(tactic| walk_at "call builtin:min") => `(tactic| (k_here; (with_reducible show wpAny _ _ (call (Value.builtin _) [Value.int _ _, Value.int _ _]) _ _ _); refine' min2 ?hh ?F ?N ?_; (case hh => rfl); (case F | N => k_asm); intro t9 h9 tk9 F' N'; (try dsimp only); (try k_sweep)))
local macro_rules | `(tactic| walk_at "call ref") => `(tactic| (k_here; refine' sc_use ?B ?F ?X ?N ?T ?hk ?hd ?hu ?hx ?hy ?_; (case B | F | X | N | T => k_asm); (case hk => rfl); (case hd => first | assumption | ktr_room); (case hu => first | assumption | ktr_units); (case hx | hy => tb_start); intro t9 h9 tk9 F' N'; (try dsimp only); (try k_sweep)))
local macro_rules | `(tactic| walk_at "setItem ref int") => `(tactic| (k_here; k_dflt (refine' ksa_set ?k1 ?k2 (Upd.head ?k3) ?k4 ?k5 ?k6 ?k7 ?_; (case k1 | k2 => k_asm); (case k3 => assumption); (case k4 => with_reducible assumption); (case k5 | k6 | k7 => omega)); intro h9 F' N' hi9 hl9 hs9; (try dsimp only); (try k_sweep)))
local macro_rules | `(tactic| walk_at "eval BoolOp") => `(tactic| (k_here; k_dflt (refine' or_none ?F ?v ?_ ?a ?b; (case F => k_asm); (case a | b | v => rfl))))
local macro_rules | `(tactic| walk_at "subscriptTail Name Slice ref") => `(tactic| (k_here; refine' seq_from (s := ⟨_, _, _, _, _⟩) ?hl ?hp ?F ?N ?ha ?_; (case F | N => k_asm); (case ha => ktr_unf); (case hl | hp => tb_start); intro v9 new9 h9 tk9 F' N' lt9 S9; (try dsimp only); (try k_sweep)))
local macro_rules | `(tactic| walk_at "subscriptTail Name Slice ref") => `(tactic| (k_here; (with_reducible show wpAny _ _ (subscriptTail _ (Expr.Slice none (some _) none _) _ _) _ _ _); refine' seq_to (s := ⟨_, _, _, _, _⟩) ?hl ?hp ?F ?N ?ha ?_; (case F | N => k_asm); (case ha => ktr_unf); (case hl | hp => tb_start); intro v9 new9 h9 tk9 F' N' lt9 S9; (try dsimp only); (try k_sweep)))
section
variable {w : World} {mean : ExcName → Option Value} {mg mb : Str → Option Value} {dp un : Nat} {gd : Option (List Code)} {cn : Str} {cs : Scope} {a : Addr} {ccd : Value} {cl : List (Str × Addr)} {outer : List Env} {A₀ : Around} {base h₀ : Heap} {L : Addr} {m : Str → Option Value} {news : List (Addr × Obj)} {s : Shared} {Q E : Value → Shared → Prop}

theorem lev_use {k : Bool} {va vb : Value} {xs ys : List Str} {mx : Int} {v : Tok} {price : Int} (B : Below A₀ base outer h₀) (F : Fr h₀ L s.heap m) (X : (hd.heap_1 w.params).In h₀) (N : News h₀ L s.heap news) (T : Top hdV (looseW hdV [Str.ofString "EXACT_TOKEN_TYPES"]) mean mg mb h₀)
    (hk : cs.kind = .function) (hdp : dp + 2 < recursionLimit) (hun : un + 100 < cLine) (ha : SeqV news k va xs) (hb : SeqV news k vb ys) (hlx : xs.length ≤ 40) (hly : ys.length ≤ 40) (hox : ∀ x ∈ xs, PyData.strOk x = true) (hoy : ∀ x ∈ ys, PyData.strOk x = true)
    (hp : (xs = ys ∧ price = 0) ∨ Fine substC xs ys price ∨ Fine substC ys xs price) (hmx : price - 1 ≤ mx) (hsm : mx < 1000000) (hwx : ∀ x ∈ xs, x.length < 1000) (hwy : ∀ x ∈ ys, x.length < 1000)
    (hret : ∀ (t : Tok) (h' : Heap) (tk' : Nat), Fr h₀ L h' m → News h₀ L h' news → Q (.int price t) { s with heap := h', toks := tk' }) :
    wpAny (model PySem.Challenge.rw_tv0046_01.row.prog w) (ktrTop dp un gd cn cs L a ccd cl outer) (call (.ref 28) [va, vb, .int mx v]) Q E s := by
  revert X; k_fill; intro X
  refine wpAny_call ?_
  (k_dflt cell_enter)
  rename Fr _ _ _ _ => F1
  have F2 : Fr _ _ _ (fun z => List.lookup z [(Str.ofString "max_cost", Value.int mx v), (Str.ofString "b", vb), (Str.ofString "a", va)]) := F1
  clear F1
  k_steps
  · refine cb_retI hret ?_ (by k_asm) (by k_asm)
    have e : xs = ys := by assumption
    rcases hp with ⟨_, h⟩ | h | h
    · exact h.symm
    · have := h.len; rw [e] at this; (first | lia | omega)
    · have := h.len; rw [e] at this; (first | lia | omega)
  unfold Stop
  rename Fr _ _ _ _ => F3
  rename News _ _ _ _ => N3
  refine while_st (σ := Nat × Tok) (fun c => [(Str.ofString "a", va), (Str.ofString "b", vb), (Str.ofString "max_cost", .int mx v), (Str.ofString "pre", .int (c.1 : Nat) c.2)]) (fun _ => news)
    (fun c => c.1 ≤ xs.length ∧ c.1 ≤ ys.length ∧ xs.take c.1 = ys.take c.1) (fun c => c.1 ≤ xs.length ∧ c.1 ≤ ys.length ∧ xs.take c.1 = ys.take c.1) (fun c => xs.length - c.1) (0, _)
    F3 N3 (by kst_all) (fun p hp => hp) (by simp) ?_ ?_
  · clear F3 N3
    rintro ⟨p, tp⟩ uu hh tk' ⟨hpx, hpy, he⟩ F3 N3
    dsimp only at hpx hpy he F3 N3 ⊢
    k_steps
    · rename Fr _ _ _ _ => F4
      rename News _ _ _ _ => N4
      rename (_ == _) = true => hi
      have h1 : p < xs.length := by tb_start
      have h2 : p < ys.length := by tb_start
      refine WEnd.mk (p + 1, _) F4 N4 (by kst_all) (by ktr_rel) ⟨⟨h1, h2, ?_⟩, by dsimp only; (first | lia | omega)⟩
      dsimp only
      rw [List.take_add_one, List.take_add_one, he, item_at h1, item_at h2, eq_of_beq hi]
    all_goals (rename Fr _ _ _ _ => F4; rename News _ _ _ _ => N4; exact WEnd.mk (p, _) F4 N4 (by kst_all) (by ktr_rel) ⟨hpx, hpy, he⟩)
  clear F3 N3
  rintro ⟨p, tp⟩ uu hh tk' ⟨hpx, hpy, he⟩ F3 N3
  dsimp only at hpx hpy he F3 N3 ⊢
  k_steps
  unfold Stop
  rename Fr _ _ _ _ => F4
  rename News _ _ _ _ => N4
  rename SeqV _ _ _ (List.drop p xs) => Sa
  rename SeqV _ _ _ (List.drop p ys) => Sb
  obtain ⟨l1, va1, vb1, e1, e2, N5, Sa1, Sb1, hsub⟩ := gen2 (news := news) N4 Sa (by ktr_rel) Sb (by ktr_rel) (by ktr_rel)
  subst e1 e2
  clear N4 Sa Sb
  have hxs : xs = xs.take p ++ xs.drop p := (List.take_append_drop _ _).symm
  have hys : ys = xs.take p ++ ys.drop p := by rw [he, List.take_append_drop]
  have lx : (xs.drop p).length ≤ 40 := by simp; (first | lia | omega)
  have ly : (ys.drop p).length ≤ 40 := by simp; (first | lia | omega)
  generalize xs.drop p = X1 at *
  generalize ys.drop p = Y1 at *
  generalize xs.take p = P at hxs hys
  clear he hpx hpy
  refine while_st (σ := Nat × Tok) (fun c => [(Str.ofString "a", va1), (Str.ofString "b", vb1), (Str.ofString "max_cost", .int mx v), (Str.ofString "post", .int (-(c.1 : Int)) c.2)]) (fun _ => l1)
    (fun c => c.1 ≤ X1.length ∧ c.1 ≤ Y1.length ∧ X1.drop (X1.length - c.1) = Y1.drop (Y1.length - c.1)) (fun c => c.1 ≤ X1.length ∧ c.1 ≤ Y1.length ∧ X1.drop (X1.length - c.1) = Y1.drop (Y1.length - c.1)) (fun c => X1.length - c.1) (0, _)
    F4 N5 (by kst_all) (fun p hp => hp) ⟨Nat.zero_le _, Nat.zero_le _, by simp⟩ ?_ ?_
  · clear F4 N5
    rintro ⟨q, tq⟩ uu hh tk' ⟨hpx, hpy, he⟩ F3 N3
    dsimp only at hpx hpy he F3 N3 ⊢
    k_steps
    · rename Fr _ _ _ _ => F4
      rename News _ _ _ _ => N4
      rename (_ == _) = true => hi
      have h1 : q < X1.length := by tb_start
      have h2 : q < Y1.length := by tb_start
      have e : -(q : Int) - 1 = -((q + 1 : Nat) : Int) := by (first | lia | omega)
      rw [e] at F4
      refine WEnd.mk (q + 1, _) F4 N4 (by kst_all) (by ktr_rel) ⟨⟨h1, h2, ?_⟩, by dsimp only; (first | lia | omega)⟩
      dsimp only
      rw [List.drop_eq_getElem_cons (show X1.length - (q + 1) < X1.length by (first | lia | omega)), List.drop_eq_getElem_cons (show Y1.length - (q + 1) < Y1.length by (first | lia | omega)), eq_of_beq hi]
      rw [show X1.length - (q + 1) + 1 = X1.length - q by (first | lia | omega), show Y1.length - (q + 1) + 1 = Y1.length - q by (first | lia | omega), he]
    all_goals (rename Fr _ _ _ _ => F4; rename News _ _ _ _ => N4; exact WEnd.mk (q, _) F4 N4 (by kst_all) (by ktr_rel) ⟨hpx, hpy, he⟩)
  clear F4 N5
  rintro ⟨q, tq⟩ uu hh tk' ⟨hpx, hpy, he⟩ F3 N3
  dsimp only at hpx hpy he F3 N3 ⊢
  have hwx1 : ∀ x ∈ X1, x.length < 1000 := fun x hx => hwx x (by rw [hxs]; exact List.mem_append_right _ hx)
  have hwy1 : ∀ x ∈ Y1, x.length < 1000 := fun x hx => hwy x (by rw [hys]; exact List.mem_append_right _ hx)
  have hp1 : Fine substC X1 Y1 price ∨ Fine substC Y1 X1 price := by
    rcases hp with ⟨e, _⟩ | h | h
    · exact absurd e (by assumption)
    · rw [hxs, hys] at h
      exact .inl (Fine.trim (q := []) costOk (by simpa using h))
    · rw [hxs, hys] at h
      exact .inr (Fine.trim (q := []) costOk (by simpa using h))
  refine cut_st (σ := M2) (a := [_, _]) F3 (fun c => [(Str.ofString "a", c.va), (Str.ofString "b", c.vb), (Str.ofString "max_cost", .int mx v)]) (fun c => c.l)
    (fun c => SeqV c.l k c.va c.X ∧ SeqV c.l k c.vb c.Y ∧ (c.X.length ≤ 40 ∧ c.Y.length ≤ 40) ∧ (Fine substC c.X c.Y price ∨ Fine substC c.Y c.X price) ∧ (∀ p ∈ news, p ∈ c.l) ∧ (∀ x ∈ c.X, x.length < 1000) ∧ (∀ x ∈ c.Y, x.length < 1000)) ?_ ?_
  · k_steps
    rename Fr _ _ _ _ => F5
    rename News _ _ _ _ => N5
    rename SeqV _ _ _ (List.take _ X1) => Sa
    rename SeqV _ _ _ (List.take _ Y1) => Sb
    refine WEnd.mk ⟨_, _, _, _, _⟩ F5 N5 (by kst_all) (fun _ h => h) ⟨Sa.mono (by ktr_rel), Sb.mono (by ktr_rel), ⟨by simp; (first | lia | omega), by simp; (first | lia | omega)⟩, ?_, fun p hp => List.mem_append_right _ (List.mem_append_right _ (hsub p hp)), fun x hx => hwx1 x (List.mem_of_mem_take hx), fun x hx => hwy1 x (List.mem_of_mem_take hx)⟩
    dsimp only
    have h1 : X1 = X1.take (X1.length - q) ++ X1.drop (X1.length - q) := (List.take_append_drop _ _).symm
    have h2 : Y1 = Y1.take (Y1.length - q) ++ X1.drop (X1.length - q) := by rw [he, List.take_append_drop]
    rcases hp1 with h | h
    · exact .inl (Fine.trim (p := []) (q := X1.drop (X1.length - q)) costOk (by rw [List.nil_append, List.nil_append, ← h1, ← h2]; exact h))
    · exact .inr (Fine.trim (p := []) (q := X1.drop (X1.length - q)) costOk (by rw [List.nil_append, List.nil_append, ← h1, ← h2]; exact h))
  clear hp1 hp hwx hwy hwx1 hwy1 hxs hys hpx hpy he lx ly F3 N3 Sa1 Sb1 hsub
  rintro ⟨l2, va2, vb2, X2, Y2⟩ uu hh tk' ⟨Sa2, Sb2, ⟨lx, ly⟩, hp, hsub2, hwx, hwy⟩ F4 N4
  dsimp only at Sa2 Sb2 lx ly hp hsub2 hwx hwy F4 N4
  refine cut_st (σ := M2) (a := [_, _, _]) F4 (fun c => [(Str.ofString "a", c.va), (Str.ofString "b", c.vb), (Str.ofString "max_cost", .int mx v)]) (fun c => c.l)
    (fun c => SeqV c.l k c.va c.X ∧ SeqV c.l k c.vb c.Y ∧ (c.X.length ≤ 40 ∧ c.Y.length ≤ 40) ∧ (Fine substC c.X c.Y price) ∧ (∀ p ∈ news, p ∈ c.l) ∧ c.X ≠ [] ∧ (∀ x ∈ c.X, x.length < 1000) ∧ (∀ x ∈ c.Y, x.length < 1000)) ?_ ?_
  · have hlen : (X2.length < Y2.length ∧ Fine substC X2 Y2 price) ∨ (Y2.length < X2.length ∧ Fine substC Y2 X2 price) := by
      rcases hp with h | h
      · exact .inl ⟨h.len, h⟩
      · exact .inr ⟨h.len, h⟩
    k_steps
    · rename Fr _ _ _ _ => F5
      rename News _ _ _ _ => N5
      rcases hlen with ⟨h1, h⟩ | ⟨h1, h⟩
      · (first | lia | omega)
      exact WEnd.mk ⟨l2, _, _, Y2, X2⟩ F5 N5 (by kst_all) (by ktr_rel) ⟨Sb2, Sa2, ⟨ly, lx⟩, h, hsub2, by assumption, hwy, hwx⟩
    · rename Fr _ _ _ _ => F5
      rename News _ _ _ _ => N5
      rcases hlen with ⟨h1, h⟩ | ⟨h1, h⟩
      · exact WEnd.mk ⟨l2, _, _, X2, Y2⟩ F5 N5 (by kst_all) (by ktr_rel) ⟨Sa2, Sb2, ⟨lx, ly⟩, h, hsub2, by assumption, hwx, hwy⟩
      · (first | lia | omega)
    · refine cb_retI hret ?_ (by k_asm) (cb_drop (by assumption) hsub2)
      have e : Y2 = [] := Classical.not_not.mp (by assumption)
      rcases hlen with ⟨h1, h⟩ | ⟨h1, h⟩
      · rw [e] at h1; exact absurd h1 (Nat.not_lt_zero _)
      · have := h.empty costOk e; (first | lia | omega)
    · refine cb_retI hret ?_ (by k_asm) (cb_drop (by assumption) hsub2)
      have e : X2 = [] := Classical.not_not.mp (by assumption)
      rcases hlen with ⟨h1, h⟩ | ⟨h1, h⟩
      · have := h.empty costOk e; (first | lia | omega)
      · rw [e] at h1; exact absurd h1 (Nat.not_lt_zero _)
  clear Sa2 Sb2 lx ly hp hsub2 hwx hwy F4 N4
  rintro ⟨l2, va2, vb2, X2, Y2⟩ uu hh tk' ⟨Sa2, Sb2, ⟨lx, ly⟩, hp, hsub2, hne, hwx, hwy⟩ F4 N4
  dsimp only at Sa2 Sb2 lx ly hp hsub2 hne hwx hwy F4 N4
  have hge := hp.ge costOk
  k_steps
  · refine cb_retI hret ?_ (by k_asm) (cb_drop (by assumption) hsub2)
    (first | lia | omega)
  unfold Stop
  obtain ⟨n, hn⟩ : ∃ n, X2.length = n + 1 := by
    cases X2 with
    | nil => exact absurd rfl hne
    | cons x r => exact ⟨r.length, rfl⟩
  obtain ⟨hk1, hk0, hk2⟩ := kc_ok X2 Y2
  generalize hkk : kc substC X2 Y2 = kk at hk1 hk0 hk2
  have htab := hp.table hk1 hk0 hk2 hn
  have hNpos : X2.length < Y2.length := hp.len
  rename Fr _ _ _ _ => F5
  refine For_invVF F5 rfl rfl ?_
  k_steps
  unfold Stop
  rename Fr _ _ _ _ => F6
  rename News _ _ _ _ => N6
  rename IsRange _ _ _ _ _ _ _ _ => R6
  rename (∀ p ∈ l2, Prod.fst p < _) => lD
  rename IntsAre _ _ => I6
  refine range_st (σ := O3) (by exact rfl) (fun c => [(Str.ofString "a", va2), (Str.ofString "b", vb2), (Str.ofString "max_cost", .int mx v), (Str.ofString "row", .ref _), (Str.ofString "result", .int c.res c.tr)]) (fun c => (_, listOf (List.toArray c.ys) c.c) :: l2)
    (fun pre c => (IntsAre c.ys c.ns ∧ c.ns.length = n + 1 ∧ ∀ q, q < n + 1 → c.ns.getD q 0 = R kk pre.length q) ∧ (pre.length = Y2.length → c.res = price)) ⟨_, _, _, _, _, 0, 0, 0, 0⟩ rfl R6 (by (first | lia | omega)) F6 N6 (by kst_all) ⟨⟨I6, by simp [hn], fun q hq => by
      dsimp only
      rw [hn]
      simp [List.getD_eq_getElem?_getD, hq, R]⟩, fun e => absurd e (by simp; (first | lia | omega))⟩ ?_ ?_
  · rintro ⟨ys, ns, c, res, tr, _, _, _, _⟩ i ti uu h1 tk1 own hi hoff ⟨⟨I7, hl7, hq7⟩, _⟩ F7 N7
    dsimp only at I7 hl7 hq7 F7 N7 hoff
    rw [List.length_range] at hq7
    clear F6 N6 R6 I6
    k_steps
    unfold Stop
    rename Fr _ _ _ _ => F8
    refine For_invVF F8 rfl rfl ?_
    k_steps
    unfold Stop
    rename Fr _ _ _ _ => F9
    rename News _ _ _ _ => N9
    rename IsRange _ _ _ _ _ _ _ _ => R9
    have hD1 := offs lD hoff
    have N9' : News _ _ _ ((_, listOf (List.toArray ys) c) :: (l2 ++ own)) := N9
    refine range_st (σ := O3) (by exact rfl) (fun c => [(Str.ofString "a", va2), (Str.ofString "b", vb2), (Str.ofString "max_cost", .int mx v), (Str.ofString "row", .ref _), (Str.ofString "result", .int c.res c.tr), (Str.ofString "distance", .int c.dist c.td), (Str.ofString "minimum", .int c.mn c.tm), (Str.ofString "bchar", .str Y2[i] _), (Str.ofString "bindex", .int i ti)]) (fun c => (_, listOf (List.toArray c.ys) c.c) :: (l2 ++ own))
      (fun pre c => IntsAre c.ys c.ns ∧ c.ns.length = n + 1 ∧ (∀ q, q < n + 1 → c.ns.getD q 0 = if q < pre.length then R kk (i + 1) q else R kk i q) ∧ c.dist = Mx kk i pre.length ∧ c.res = (if pre.length = 0 then 2 * (i : Int) else R kk (i + 1) (pre.length - 1)) ∧ c.mn = minTo (R kk (i + 1)) pre.length)
      ⟨ys, ns, c, _, _, _, _, _, _⟩ rfl R9 (by (first | lia | omega)) F9 N9' (by kst_all) ⟨I7, hl7, fun q hq => by dsimp only; rw [hq7 q hq]; simp, by simp [Mx]; (first | lia | omega), by simp; (first | lia | omega), by simp [minTo]⟩ ?_ ?_
    · clear F9 N9 N9' R9 I7 hl7 hq7
      rintro ⟨ys2, ns2, c2, res2, tr2, dist2, td2, mn2, tm2⟩ j tj uu h2 tk2 own2 hj hoff2 ⟨I8, hl8, hq8, hd8, hr8, hm8⟩ F10 N10
      dsimp only at I8 hl8 hq8 hd8 hr8 hm8 hoff2 F10 N10
      rw [List.length_range] at hq8 hd8 hr8 hm8
      have hD2 := offs2 hD1 hoff2
      have N11 : News _ _ _ ((_, listOf (List.toArray ys2) c2) :: (l2 ++ own ++ own2)) := N10
      clear N10
      have hjn : j < n + 1 := by (first | lia | omega)
      have ej : (j : Int).toNat = j := by (first | lia | omega)
      have hV := cell_val (kk := kk) (i := i) (j := j) (r := ns2.getD (j : Int).toNat 0) (res := res2) (dist := dist2) (sc := substC Y2[i] X2[j]) (by rw [ej, hq8 j hjn]; simp) hd8 hr8 (hk1 i j _ _ (item_at hj) (item_at hi)).symm
      have hset : ∀ q, q < n + 1 → (ns2.set j (R kk (i + 1) j)).getD q 0 = if q < j + 1 then R kk (i + 1) q else R kk i q := by
        intro q hq
        rw [getD_set (by (first | lia | omega)), hq8 q hq]
        by_cases e1 : q = j
        · subst e1; simp
        · by_cases e2 : q < j
          · simp [e1, e2, Nat.lt_succ_of_lt e2]
          · simp [e1, e2, show ¬ q < j + 1 by (first | lia | omega)]
      k_steps
      all_goals unfold Stop
      all_goals rename Fr _ _ _ _ => F12
      all_goals rename News _ _ _ _ => N12
      all_goals rename IntsAre _ (List.set _ _ _) => I12
      all_goals rw [hV, ej] at I12
      all_goals rw [hV] at F12
      all_goals rw [hV, ej] at N12
      · rename (_ < mn2) => hlt
        rw [hV, hm8] at hlt
        refine for_end ⟨_, _, _, _, _, _, _, _, _⟩ F12 N12 (List.forall_mem_cons.mpr ⟨.head _, fun p hp => .tail _ (List.mem_append_left _ hp)⟩) (fun p hp => .tail _ (List.mem_append_right _ hp)) (by rfl) (by kst_all) ⟨I12, by simp [hl8], ?_, ?_, ?_, ?_⟩
        · rw [List.length_range]; exact hset
        · dsimp only
          rw [List.length_range, ej, hq8 j hjn]; simp [Mx]
        · dsimp only
          rw [List.length_range]; simp
        · dsimp only
          rw [List.length_range]
          simp only [minTo]; rw [if_pos hlt]
      · rename (¬ (_ < mn2)) => hlt
        rw [hV, hm8] at hlt
        refine for_end ⟨_, _, _, _, _, _, _, _, _⟩ F12 N12 (List.forall_mem_cons.mpr ⟨.head _, fun p hp => .tail _ (List.mem_append_left _ hp)⟩) (fun p hp => .tail _ (List.mem_append_right _ hp)) (by rfl) (by kst_all) ⟨I12, by simp [hl8], ?_, ?_, ?_, ?_⟩
        · rw [List.length_range]; exact hset
        · dsimp only
          rw [List.length_range, ej, hq8 j hjn]; simp [Mx]
        · dsimp only
          rw [List.length_range]; simp
        · dsimp only
          rw [List.length_range]
          simp only [minTo]; rw [if_neg hlt]; exact hm8
    · clear F9 N9 N9' R9 I7 hl7 hq7
      rintro ⟨ys2, ns2, c2, res2, tr2, dist2, td2, mn2, tm2⟩ uu h2 tk2 ⟨I8, hl8, hq8, hd8, hr8, hm8⟩ F10 N10
      dsimp only at I8 hl8 hq8 hd8 hr8 hm8 F10 N10 ⊢
      rw [List.length_range] at hq8 hd8 hr8 hm8
      have hmin := minTo_le_last (k := kk) hk2 hk0 (n := n) (N := Y2.length) (by (first | lia | omega)) (Y2.length - (i + 1)) (i + 1) (by (first | lia | omega)) (Nat.succ_pos _)
      rw [htab, ← hn, ← hm8] at hmin
      k_steps
      · refine cb_retI hret ?_ (by k_asm) (cb_drop (by assumption) (fun p hp => List.mem_cons_of_mem _ (List.mem_append_left _ (hsub2 p hp))))
        (first | lia | omega)
      · unfold Stop
        rename Fr _ _ _ _ => F12
        rename News _ _ _ _ => N12
        refine for_end ⟨ys2, ns2, c2, res2, _, 0, 0, 0, 0⟩ F12 N12 (List.forall_mem_cons.mpr ⟨.head _, fun p hp => .tail _ (List.mem_append_left _ hp)⟩) (fun p hp => .tail _ (List.mem_append_right _ hp)) (by rfl) (by kst_all) ⟨⟨I8, hl8, ?_⟩, ?_⟩
        · intro q hq
          dsimp only
          rw [hq8 q hq, List.length_range, if_pos (by (first | lia | omega))]
        · intro e
          rw [List.length_range] at e
          dsimp only
          rw [hr8, if_neg (by (first | lia | omega)), e, hn]
          simpa using htab
  · rintro ⟨ys, ns, c, res, tr, _, _, _, _⟩ uu h1 tk1 ⟨_, hres⟩ F7 N7
    dsimp only at hres F7 N7
    have hres := hres (by simp)
    subst hres
    dsimp only
    k_steps
    exact cb_retI hret rfl (by k_asm) (cb_drop (by assumption) (fun p hp => List.mem_cons_of_mem _ (hsub2 p hp)))
end
end Mine
end
section
open PySem PyProof.Rows
namespace Mine
/-- each sign c of l turned into z -/
noncomputable def sub1 (c : Nat) (z l : List Nat) : List Nat := l.flatMap fun d => if d = c then z else [d]
theorem sub1_append (c : Nat) (z a b : List Nat) : sub1 c z (a ++ b) = sub1 c z a ++ sub1 c z b := by simp [sub1]
theorem sub1_free {c : Nat} {z l : List Nat} (h : c ∉ l) : sub1 c z l = l := by
  induction l with
  | nil => rfl
  | cons d r ih =>
    have h1 : ¬ d = c := fun e => h (e ▸ List.mem_cons_self ..)
    have h2 : c ∉ r := fun m => h (List.mem_cons_of_mem _ m)
    show (if d = c then z else [d]) ++ sub1 c z r = d :: r
    rw [if_neg h1, ih h2]; rfl
theorem sub1_join (c : Nat) (z : Str) : ∀ parts : List Str, (∀ p ∈ parts, c ∉ p.cps.toList) → sub1 c z.cps.toList (Str.join ⟨#[c]⟩ parts).cps.toList = (Str.join z parts).cps.toList
  | [], _ => rfl
  | [p], h => sub1_free (h p (List.mem_singleton.mpr rfl))
  | p :: q :: r, h => by
    have ih := sub1_join c z (q :: r) fun a ha => h a (List.mem_cons_of_mem _ ha)
    show sub1 c z.cps.toList (p ++ ⟨#[c]⟩ ++ Str.join ⟨#[c]⟩ (q :: r)).cps.toList = (p ++ z ++ Str.join z (q :: r)).cps.toList
    simp only [Str.cps_append, Array.toList_append]
    rw [sub1_append, sub1_append, ih, sub1_free (h p (List.mem_cons_self ..))]
    show p.cps.toList ++ sub1 c z.cps.toList [c] ++ _ = _
    simp [sub1]
theorem contains_one (x : Str) (c : Nat) : Txt.contains x ⟨#[c]⟩ = decide (c ∈ x.cps.toList) := StrLaws.found_one x c
/-- the text as «if c in text: text = text.replace(c, z)» leaves it -/
noncomputable def rep (c z x : Str) : Str := if Txt.contains x c = true then Txt.replace x c z else x
theorem rep_one (c : Nat) (z x : Str) : (rep ⟨#[c]⟩ z x).cps.toList = sub1 c z.cps.toList x.cps.toList := by
  unfold rep
  split
  · rw [StrLaws.replace_one, ← sub1_join c z _ (StrLaws.split_free x c), StrLaws.join_split]
  · rename_i h
    rw [contains_one] at h
    rw [sub1_free (by simpa using h)]
theorem sub1_length {c : Nat} {z : List Nat} {k : Nat} (hk : 1 ≤ k) (hz : z.length ≤ k) (l : List Nat) : (sub1 c z l).length ≤ k * l.length := by
  induction l with
  | nil => simp [sub1]
  | cons d r ih =>
    show ((if d = c then z else [d]) ++ sub1 c z r).length ≤ _
    rw [List.length_append, List.length_cons, Nat.mul_succ]
    split
    · (first | lia | omega)
    · simp only [List.length_cons, List.length_nil]; (first | lia | omega)
theorem rep_length {c : Nat} {z x : Str} (h1 : z.length ≤ 5) : (rep ⟨#[c]⟩ z x).length ≤ 5 * x.length := by
  have := sub1_length (c := c) (k := 5) (by (first | lia | omega)) (show z.cps.toList.length ≤ 5 from by simpa [Str.length] using h1) x.cps.toList
  rw [← rep_one] at this
  simpa [Str.length] using this
/-- none of the signs that the later tests ask for -/
noncomputable def Clean (x : Str) : Prop := ∀ d ∈ x.cps.toList, d ≠ 34 ∧ d ≠ 13 ∧ d ≠ 10 ∧ d ≠ 9
theorem Clean.no {x : Str} (h : Clean x) {c : Nat} (hc : c = 34 ∨ c = 13 ∨ c = 10 ∨ c = 9) : Txt.contains x ⟨#[c]⟩ = false := by
  rw [contains_one]
  simp only [decide_eq_false_iff_not]
  intro hm
  have := h c hm
  (first | lia | omega)
theorem Clean.rep {x z : Str} (h : Clean x) (hz : Clean z) (c : Nat) : Clean (rep ⟨#[c]⟩ z x) := by
  intro d hd
  rw [rep_one] at hd
  unfold sub1 at hd
  obtain ⟨e, he, hd⟩ := List.mem_flatMap.mp hd
  split at hd
  · exact hz d hd
  · rw [List.mem_singleton.mp hd]; exact h e he
/-- the three marks -/
noncomputable def rAmp (x : Str) : Str := rep (Str.ofString "&") (Str.ofString "&amp;") x
noncomputable def rLt (x : Str) : Str := rep (Str.ofString "<") (Str.ofString "&lt;") x
noncomputable def rGt (x : Str) : Str := rep (Str.ofString ">") (Str.ofString "&gt;") x
theorem s_amp : Str.ofString "&" = ⟨#[38]⟩ := by decide +kernel
theorem s_lt : Str.ofString "<" = ⟨#[60]⟩ := by decide +kernel
theorem s_gt : Str.ofString ">" = ⟨#[62]⟩ := by decide +kernel
theorem cl_amp {x : Str} (h : Clean x) : Clean (rAmp x) := by unfold rAmp; rw [s_amp]; exact h.rep (by unfold Clean; decide +kernel) 38
theorem cl_lt {x : Str} (h : Clean x) : Clean (rLt x) := by unfold rLt; rw [s_lt]; exact h.rep (by unfold Clean; decide +kernel) 60
theorem cl_gt {x : Str} (h : Clean x) : Clean (rGt x) := by unfold rGt; rw [s_gt]; exact h.rep (by unfold Clean; decide +kernel) 62
theorem cr_amp {x : Str} (h : Clean x) : Clean (rep (Str.ofString "&") (Str.ofString "&amp;") x) := cl_amp h
theorem cr_lt {x : Str} (h : Clean x) : Clean (rep (Str.ofString "<") (Str.ofString "&lt;") x) := cl_lt h
theorem cr_gt {x : Str} (h : Clean x) : Clean (rep (Str.ofString ">") (Str.ofString "&gt;") x) := cl_gt h
theorem len_amp (x : Str) : (rAmp x).length ≤ 5 * x.length := by unfold rAmp; rw [s_amp]; exact rep_length (by decide +kernel)
theorem len_lt (x : Str) : (rLt x).length ≤ 5 * x.length := by unfold rLt; rw [s_lt]; exact rep_length (by decide +kernel)
theorem len_gt (x : Str) : (rGt x).length ≤ 5 * x.length := by unfold rGt; rw [s_gt]; exact rep_length (by decide +kernel)
theorem no34 {x : Str} (h : Clean x) : Txt.contains x (Str.ofString "\"") = false := by rw [show Str.ofString "\"" = ⟨#[34]⟩ from by decide +kernel]; exact h.no (by decide)
theorem no13 {x : Str} (h : Clean x) : Txt.contains x (Str.ofString "\r") = false := by rw [show Str.ofString "\r" = ⟨#[13]⟩ from by decide +kernel]; exact h.no (by decide)
theorem no10 {x : Str} (h : Clean x) : Txt.contains x (Str.ofString "\n") = false := by rw [show Str.ofString "\n" = ⟨#[10]⟩ from by decide +kernel]; exact h.no (by decide)
theorem no9 {x : Str} (h : Clean x) : Txt.contains x (Str.ofString "\t") = false := by rw [show Str.ofString "\t" = ⟨#[9]⟩ from by decide +kernel]; exact h.no (by decide)
/-- what the hand's escape makes of a clean text -/
noncomputable def escW : Nat → Str → Str
  | 2, x => rGt (rAmp x)
  | 4, x => rLt (rAmp x)
  | _, x => rGt (rLt (rAmp x))
end Mine
end
section
open PySem PySem.W PyProof.Rows PySem.Spec PySem.Calls Mine
namespace Mine
section
variable {prog : Program} {w : World} {A : Around} {E : Value → Shared → Prop} {s : Shared} {g : Heap} {L : Addr} {m : Str → Option Value} {news : List (Addr × Obj)}
  {cn : Str} {cs : Scope} {a : Addr} {ccd : Value} {cl : List (Str × Addr)}

theorem rep_if {x c z n : Str} {t : Tok} {k1 k2 k3 : Nat} {p1 p2 p3 p4 p5 p6 p7 p8 p9 p10 p11 : Pos} {Q : Flow → Shared → Prop} (F : Fr g L s.heap m) (N : News g L s.heap news) (hm : m n = some (.str x t)) (hx : x.length ≤ 1000000) (hz : z.length ≤ 14)
    (h : ∀ t' h' tk, Fr g L h' (fun y => if y = n then some (.str (rep c z x) t') else m y) → News g L h' news → Q .next { s with heap := h', toks := tk })
    (hcz : (c == z) = false)
    (hl : (p6.endLine == p9.line) = true := by rfl)
    (hs : swapsWith (.Call (.Attribute (.Name n p5) (Str.ofString "replace") p6) [.Constant (.str c) k2 p7, .Constant (.str z) k3 p8] [] p9) (some (.Name n p4)) p10.line (envX cn cs L a ccd cl) = pure false := by rfl)
    (hb : behindInMarks .In (Expr.Name n p2) = false := by with_unfolding_all rfl)
    (hk : cs.kind = .function := by rfl) (hx' : (envX cn cs L a ccd cl).kindOf n = some .local := by rfl) (hd : (n == ("__debug__" : Str)) = false := by decide) :
    wpAny (model prog w) A (exec (.If (.Compare (.Constant (.str c) k1 p1) [.In] [.Name n p2] p3) [.Assign [.Name n p4] (.Call (.Attribute (.Name n p5) (Str.ofString "replace") p6) [.Constant (.str c) k2 p7, .Constant (.str z) k3 p8] [] p9) p10] [] p11) (envX cn cs L a ccd cl)) Q E s := by
  unfold rep at h
  refine wpAny_If (wpAny_isTrue_Compare1 (wpAny_Constant_str (nameX_L F hm (SB.contains (wpAny_truthy_bool ?_)) hk hx' hd)) hb)
  cases hc : Txt.contains x c with
  | false =>
    rw [hc] at h
    simp only [Bool.false_eq_true, if_false] at h ⊢
    refine wpAny_execs_nil (h t s.heap _ ?_ N)
    have e : (fun y => if y = n then some (Value.str x t) else m y) = m := by
      funext y
      by_cases q : y = n
      · subst q; rw [if_pos rfl, hm]
      · rw [if_neg q]
    rw [e]; exact F
  | true =>
    rw [hc] at h
    simp only [if_true] at h ⊢
    refine wpAny_execs_cons (wpAny_Assign_Name ?_ hs)
    refine Call_method2 rfl rfl hl (nameX_L F hm ?_ hk hx' hd)
    refine ⟨"str", "str.replace", PySem.F.plainAttrs_str, PySem.F.slot_str_replace, PySem.F.type_str_replace, typeIs_str _ _ _, (fun _ e => nomatch e), ?_⟩
    show wpAny _ _ (callWith p9 (.builtin "str.replace") [.str x t] (backTo p9 (starEach [Expr.Constant (.str c) k2 p7, Expr.Constant (.str z) k3 p8] (envX cn cs L a ccd cl))) []) _ _ _
    refine callWith_method1 (spliced_more (wpAny_Constant_str (spliced_more (wpAny_Constant_str (spliced_none ?_)))))
    refine SC.replaceW (Nat.succ_ne_zero _) (Nat.succ_ne_zero _) (Nat.ne_of_lt (Nat.lt_succ_self _)) hcz (by omega) hz fun t' k => ?_
    refine storeX_L F N (fun h' F' N' => ?_) hk hx'
    exact wpAny_execs_nil (h t' h' _ F' N')
theorem rep_no {x c n : Str} {t : Tok} {k1 : Nat} {p1 p2 p3 p11 : Pos} {body : List Stmt} {Q : Flow → Shared → Prop} (F : Fr g L s.heap m) (hm : m n = some (.str x t)) (hc : Txt.contains x c = false)
    (h : Q .next { s with toks := s.toks + 1 })
    (hb : behindInMarks .In (Expr.Name n p2) = false := by with_unfolding_all rfl)
    (hk : cs.kind = .function := by rfl) (hx' : (envX cn cs L a ccd cl).kindOf n = some .local := by rfl) (hd : (n == ("__debug__" : Str)) = false := by decide) :
    wpAny (model prog w) A (exec (.If (.Compare (.Constant (.str c) k1 p1) [.In] [.Name n p2] p3) body [] p11) (envX cn cs L a ccd cl)) Q E s := by
  refine wpAny_If (wpAny_isTrue_Compare1 (wpAny_Constant_str (nameX_L F hm (SB.contains (wpAny_truthy_bool ?_)) hk hx' hd)) hb)
  rw [hc]
  simp only [Bool.false_eq_true, if_false]
  exact wpAny_execs_nil h
end
end Mine
end
section
open PySem PySem.W PyProof.Rows PySem.Spec PySem.Calls Mine
namespace Mine
theorem joined_Es1 : True := by
  w_top off
  trivial
local macro_rules | `(tactic| tb_start) => `(tactic| (repeat (first | with_reducible assumption | with_reducible refine cr_amp ?_ | with_reducible refine cr_lt ?_ | with_reducible refine cr_gt ?_)))
local macro_rules | `(tactic| walk_at "exec If") => `(tactic| (k_here; k_dflt (refine' rep_if ?F ?N ?hm ?hx ?hz ?_ ?hcz; (case F | N => k_asm); (case hm => rfl); (case hx => omega); (case hz | hcz => decide +kernel)); intro t9 h9 tk9 F' N'; (try dsimp only); (try k_sweep)))
local macro_rules | `(tactic| walk_at "exec If") => `(tactic| (k_here; k_dflt (refine' rep_no ?F ?hm ?hc ?_; (case F => k_asm); (case hm => rfl); (case hc => first | ((with_reducible refine no34 ?_); tb_start) | ((with_reducible refine no13 ?_); tb_start) | ((with_reducible refine no10 ?_); tb_start) | ((with_reducible refine no9 ?_); tb_start)))))
section
variable {w : World} {mean : ExcName → Option Value} {mg mb : Str → Option Value} {dp un : Nat} {gd : Option (List Code)} {cn : Str} {cs : Scope} {a : Addr} {ccd : Value} {cl : List (Str × Addr)} {outer : List Env} {A₀ : Around} {base h₀ : Heap} {L : Addr} {m : Str → Option Value} {news : List (Addr × Obj)} {s : Shared} {Q E : Value → Shared → Prop}
theorem es0_use {x : Str} {t : Tok} (B : Below A₀ base outer h₀) (F : Fr h₀ L s.heap m) (X : (hd.heap_1 w.params).In h₀) (N : News h₀ L s.heap news) (T : Top hdV (looseW hdV [Str.ofString "EXACT_TOKEN_TYPES"]) mean mg mb h₀)
    (hk : cs.kind = .function) (hdp : dp + 1 < recursionLimit) (hun : un + 8 < cLine) (hx : x.length < 1000) (hcl : Clean x)
    (hret : ∀ (t : Tok) (h' : Heap) (tk' : Nat), Fr h₀ L h' m → News h₀ L h' news → Q (.str (escW 0 x) t) { s with heap := h', toks := tk' }) :
    wpAny (model PySem.Challenge.rw_tv0046_01.row.prog w) (ktrTop dp un gd cn cs L a ccd cl outer) (call (.ref 66) [.str x t]) Q E s := by
  revert X; k_fill; intro X
  refine wpAny_call ?_
  (k_dflt cell_enter)
  have l1 := len_amp x
  have l2 := len_lt (rAmp x)
  simp only [rAmp, rLt] at l1 l2
  rename Fr _ _ _ _ => F1
  have F2 : Fr _ _ _ (fun z => List.lookup z [(Str.ofString "text", Value.str x t)]) := F1
  clear F1
  k_steps
  exact cb_retS hret rfl (by k_asm) (by k_asm)
theorem es1_use {x : Str} {t : Tok} (B : Below A₀ base outer h₀) (F : Fr h₀ L s.heap m) (X : (hd.heap_1 w.params).In h₀) (N : News h₀ L s.heap news) (T : Top hdV (looseW hdV [Str.ofString "EXACT_TOKEN_TYPES"]) mean mg mb h₀)
    (hk : cs.kind = .function) (hdp : dp + 1 < recursionLimit) (hun : un + 8 < cLine) (hx : x.length < 1000) (hcl : Clean x)
    (hret : ∀ (t : Tok) (h' : Heap) (tk' : Nat), Fr h₀ L h' m → News h₀ L h' news → Q (.str (escW 1 x) t) { s with heap := h', toks := tk' }) :
    wpAny (model PySem.Challenge.rw_tv0046_01.row.prog w) (ktrTop dp un gd cn cs L a ccd cl outer) (call (.ref 73) [.str x t]) Q E s := by
  revert X; k_fill; intro X
  refine wpAny_call ?_
  (k_dflt cell_enter)
  have l1 := len_amp x
  have l2 := len_lt (rAmp x)
  simp only [rAmp, rLt] at l1 l2
  rename Fr _ _ _ _ => F1
  have F2 : Fr _ _ _ (fun z => List.lookup z [(Str.ofString "text", Value.str x t)]) := F1
  clear F1
  k_steps
  exact cb_retS hret rfl (by k_asm) (by k_asm)
theorem es2_use {x : Str} {t : Tok} (B : Below A₀ base outer h₀) (F : Fr h₀ L s.heap m) (X : (hd.heap_1 w.params).In h₀) (N : News h₀ L s.heap news) (T : Top hdV (looseW hdV [Str.ofString "EXACT_TOKEN_TYPES"]) mean mg mb h₀)
    (hk : cs.kind = .function) (hdp : dp + 1 < recursionLimit) (hun : un + 8 < cLine) (hx : x.length < 1000) (hcl : Clean x)
    (hret : ∀ (t : Tok) (h' : Heap) (tk' : Nat), Fr h₀ L h' m → News h₀ L h' news → Q (.str (escW 2 x) t) { s with heap := h', toks := tk' }) :
    wpAny (model PySem.Challenge.rw_tv0046_01.row.prog w) (ktrTop dp un gd cn cs L a ccd cl outer) (call (.ref 80) [.str x t]) Q E s := by
  revert X; k_fill; intro X
  refine wpAny_call ?_
  (k_dflt cell_enter)
  have l1 := len_amp x
  have l2 := len_lt (rAmp x)
  simp only [rAmp, rLt] at l1 l2
  rename Fr _ _ _ _ => F1
  have F2 : Fr _ _ _ (fun z => List.lookup z [(Str.ofString "text", Value.str x t)]) := F1
  clear F1
  k_steps
  exact cb_retS hret rfl (by k_asm) (by k_asm)
theorem es3_use {x : Str} {t : Tok} (B : Below A₀ base outer h₀) (F : Fr h₀ L s.heap m) (X : (hd.heap_1 w.params).In h₀) (N : News h₀ L s.heap news) (T : Top hdV (looseW hdV [Str.ofString "EXACT_TOKEN_TYPES"]) mean mg mb h₀)
    (hk : cs.kind = .function) (hdp : dp + 1 < recursionLimit) (hun : un + 8 < cLine) (hx : x.length < 1000) (hcl : Clean x)
    (hret : ∀ (t : Tok) (h' : Heap) (tk' : Nat), Fr h₀ L h' m → News h₀ L h' news → Q (.str (escW 3 x) t) { s with heap := h', toks := tk' }) :
    wpAny (model PySem.Challenge.rw_tv0046_01.row.prog w) (ktrTop dp un gd cn cs L a ccd cl outer) (call (.ref 87) [.str x t]) Q E s := by
  revert X; k_fill; intro X
  refine wpAny_call ?_
  (k_dflt cell_enter)
  have l1 := len_amp x
  have l2 := len_lt (rAmp x)
  simp only [rAmp, rLt] at l1 l2
  rename Fr _ _ _ _ => F1
  have F2 : Fr _ _ _ (fun z => List.lookup z [(Str.ofString "text", Value.str x t)]) := F1
  clear F1
  k_steps
  exact cb_retS hret rfl (by k_asm) (by k_asm)
theorem es4_use {x : Str} {t : Tok} (B : Below A₀ base outer h₀) (F : Fr h₀ L s.heap m) (X : (hd.heap_1 w.params).In h₀) (N : News h₀ L s.heap news) (T : Top hdV (looseW hdV [Str.ofString "EXACT_TOKEN_TYPES"]) mean mg mb h₀)
    (hk : cs.kind = .function) (hdp : dp + 1 < recursionLimit) (hun : un + 8 < cLine) (hx : x.length < 1000) (hcl : Clean x)
    (hret : ∀ (t : Tok) (h' : Heap) (tk' : Nat), Fr h₀ L h' m → News h₀ L h' news → Q (.str (escW 4 x) t) { s with heap := h', toks := tk' }) :
    wpAny (model PySem.Challenge.rw_tv0046_01.row.prog w) (ktrTop dp un gd cn cs L a ccd cl outer) (call (.ref 94) [.str x t]) Q E s := by
  revert X; k_fill; intro X
  refine wpAny_call ?_
  (k_dflt cell_enter)
  have l1 := len_amp x
  have l2 := len_lt (rAmp x)
  simp only [rAmp, rLt] at l1 l2
  rename Fr _ _ _ _ => F1
  have F2 : Fr _ _ _ (fun z => List.lookup z [(Str.ofString "text", Value.str x t)]) := F1
  clear F1
  k_steps
  exact cb_retS hret rfl (by k_asm) (by k_asm)
end
end Mine
end
section
open PySem PySem.W PyProof.Rows PySem.Spec PySem.Calls Mine
namespace Mine
theorem joined_Wr : True := by
  w_top off
  trivial
local macro_rules | `(tactic| walk_at "call ref") => `(tactic| (refine Stop.intro ?_))
section
variable {w : World} {mean : ExcName → Option Value} {mg mb : Str → Option Value} {dp un : Nat} {gd : Option (List Code)} {cn : Str} {cs : Scope} {a : Addr} {ccd : Value} {cl : List (Str × Addr)} {outer : List Env} {A₀ : Around} {base h₀ : Heap} {L : Addr} {m : Str → Option Value} {news : List (Addr × Obj)} {s : Shared} {Q E : Value → Shared → Prop}
theorem written_use {x : Str} {t u : Tok} {h : Nat} (B : Below A₀ base outer h₀) (F : Fr h₀ L s.heap m) (X : (hd.heap_1 w.params).In h₀) (N : News h₀ L s.heap news) (T : Top hdV (looseW hdV [Str.ofString "EXACT_TOKEN_TYPES"]) mean mg mb h₀)
    (hk : cs.kind = .function) (hdp : dp + 2 < recursionLimit) (hun : un + 16 < cLine) (hx : x.length < 1000) (hcl : Clean x) (hh : h < 5)
    (hret : ∀ (t : Tok) (h' : Heap) (tk' : Nat), Fr h₀ L h' m → News h₀ L h' news → Q (.str (escW h x) t) { s with heap := h', toks := tk' }) :
    wpAny (model PySem.Challenge.rw_tv0046_01.row.prog w) (ktrTop dp un gd cn cs L a ccd cl outer) (call (.ref 115) [.str x t, .int (h : Int) u]) Q E s := by
  revert X; k_fill; intro X
  refine wpAny_call ?_
  (k_dflt cell_enter)
  rename Fr _ _ _ _ => F1
  have F2 : Fr _ _ _ (fun y => List.lookup y [(Str.ofString "hand", Value.int (h : Int) u), (Str.ofString "text", Value.str x t)]) := F1
  clear F1
  have hc : h = 0 ∨ h = 1 ∨ h = 2 ∨ h = 3 ∨ h = 4 := by omega
  rcases hc with rfl | rfl | rfl | rfl | rfl
  all_goals (have F3 := F2; clear F2; k_steps; unfold Stop; (first | (refine' es0_use ?B ?F ?X ?N ?T ?hk ?hd ?hu ?hx ?hy ?_; (case B => k_asm); (case F => k_asm); (case X => k_asm); (case N => k_asm); (case T => k_asm); (case hk => rfl); (case hd => first | assumption | ktr_room); (case hu => first | assumption | ktr_units); (case hx => assumption); (case hy => assumption); intro t9 h9 tk9 F' N'; (try dsimp only); (try k_sweep)) | (refine' es1_use ?B ?F ?X ?N ?T ?hk ?hd ?hu ?hx ?hy ?_; (case B => k_asm); (case F => k_asm); (case X => k_asm); (case N => k_asm); (case T => k_asm); (case hk => rfl); (case hd => first | assumption | ktr_room); (case hu => first | assumption | ktr_units); (case hx => assumption); (case hy => assumption); intro t9 h9 tk9 F' N'; (try dsimp only); (try k_sweep)) | (refine' es2_use ?B ?F ?X ?N ?T ?hk ?hd ?hu ?hx ?hy ?_; (case B => k_asm); (case F => k_asm); (case X => k_asm); (case N => k_asm); (case T => k_asm); (case hk => rfl); (case hd => first | assumption | ktr_room); (case hu => first | assumption | ktr_units); (case hx => assumption); (case hy => assumption); intro t9 h9 tk9 F' N'; (try dsimp only); (try k_sweep)) | (refine' es3_use ?B ?F ?X ?N ?T ?hk ?hd ?hu ?hx ?hy ?_; (case B => k_asm); (case F => k_asm); (case X => k_asm); (case N => k_asm); (case T => k_asm); (case hk => rfl); (case hd => first | assumption | ktr_room); (case hu => first | assumption | ktr_units); (case hx => assumption); (case hy => assumption); intro t9 h9 tk9 F' N'; (try dsimp only); (try k_sweep)) | (refine' es4_use ?B ?F ?X ?N ?T ?hk ?hd ?hu ?hx ?hy ?_; (case B => k_asm); (case F => k_asm); (case X => k_asm); (case N => k_asm); (case T => k_asm); (case hk => rfl); (case hd => first | assumption | ktr_room); (case hu => first | assumption | ktr_units); (case hx => assumption); (case hy => assumption); intro t9 h9 tk9 F' N'; (try dsimp only); (try k_sweep))); k_steps; exact cb_retS hret rfl (by k_asm) (cb_drop (by assumption) (fun p hp => List.mem_cons_of_mem _ hp)))
end
end Mine
end
section
open PySem PySem.W PyProof.Rows PySem.Spec PySem.Calls Mine
namespace Mine
theorem joined_Ha : True := by
  w_top off
  trivial
/-- the hands that a sum calls -/
noncomputable def handsF (z : Int) : List Int := if (z.fdiv 5).fmod 6 = 0 then [z.fmod 5] else [z.fmod 5, (z.fdiv 5).fmod 6 - 1]
section
variable {w : World} {mean : ExcName → Option Value} {mg mb : Str → Option Value} {dp un : Nat} {gd : Option (List Code)} {cn : Str} {cs : Scope} {a : Addr} {ccd : Value} {cl : List (Str × Addr)} {outer : List Env} {A₀ : Around} {base h₀ : Heap} {L : Addr} {m : Str → Option Value} {news : List (Addr × Obj)} {s : Shared} {Q E : Value → Shared → Prop}
theorem hands_use {z : Int} {t : Tok} (B : Below A₀ base outer h₀) (F : Fr h₀ L s.heap m) (X : (hd.heap_1 w.params).In h₀) (N : News h₀ L s.heap news) (T : Top hdV (looseW hdV [Str.ofString "EXACT_TOKEN_TYPES"]) mean mg mb h₀)
    (hk : cs.kind = .function) (hdp : dp + 1 < recursionLimit) (hun : un + 8 < cLine)
    (hret : ∀ (D : Addr) (ys : List Value) (c : Nat) (h' : Heap) (tk' : Nat), Fr h₀ L h' m → News h₀ L h' ((D, listOf (List.toArray ys) c) :: news) → (∀ p ∈ news, p.1 < D) → IntsAre ys (handsF z) → Q (.ref D) { s with heap := h', toks := tk' }) :
    wpAny (model PySem.Challenge.rw_tv0046_01.row.prog w) (ktrTop dp un gd cn cs L a ccd cl outer) (call (.ref 108) [.int z t]) Q E s := by
  revert X; k_fill; intro X
  refine wpAny_call ?_
  (k_dflt cell_enter)
  rename Fr _ _ _ _ => F1
  have F2 : Fr _ _ _ (fun y => List.lookup y [(Str.ofString "wish", Value.int z t)]) := F1
  clear F1
  k_steps
  · rename (z.fdiv 5).fmod 6 ≠ 0 => hz
    rename News h₀ _ _ _ => kN
    rename Fr h₀ _ _ _ => kF
    exact hret _ _ _ _ _ kF kN (by assumption) (by unfold handsF; rw [if_neg hz]; exact .cons _ _ (.cons _ _ .nil))
  · rename (z.fdiv 5).fmod 6 = 0 => hz
    rename News h₀ _ _ _ => kN
    rename Fr h₀ _ _ _ => kF
    exact hret _ _ _ _ _ kF kN (by assumption) (by unfold handsF; rw [if_pos hz]; exact .cons _ _ .nil)
end
end Mine
end
section
open PySem PySem.W PyProof.Rows PySem.Spec PySem.Calls Mine
namespace Mine
theorem joined_Tu : True := by
  w_top off
  trivial
local macro_rules | `(tactic| walk_at "InvEndN") => `(tactic| (refine Stop.intro ?_))
local macro_rules | `(tactic| walk_at "LeaveK") => `(tactic| (refine Stop.intro ?_))
local macro_rules | `(tactic| walk_at "pyIter ref") => `(tactic| (refine Stop.intro ?_))
local macro_rules | `(tactic| walk_at "exec For Name Call cons nil") => `(tactic| (refine Stop.intro ?_))
/-- the signs that each hand writes -/
noncomputable def marksL : List Str := ["&<>", "&<>", "&>", "&<>", "&<"].map Str.ofString
/-- how often a sign is written -/
noncomputable def turnsF (x : Str) : List Int → Int
  | [] => 0
  | h :: r => if Txt.contains (marksL.getD h.toNat ⟨#[]⟩) x = true then (r.length : Int) + 1 else turnsF x r
theorem turns_skip {x : Str} : ∀ {i : Nat} {hs : List Int}, i ≤ hs.length → (∀ j, j < i → Txt.contains (marksL.getD (hs.getD j 0).toNat ⟨#[]⟩) x = false) → turnsF x hs = turnsF x (hs.drop i)
  | 0, _, _, _ => rfl
  | _ + 1, [], h, _ => absurd h (by simp)
  | i + 1, h :: r, hl, hh => by
    have h0 := hh 0 (Nat.succ_pos _)
    simp only [List.getD_cons_zero] at h0
    show (if Txt.contains (marksL.getD h.toNat ⟨#[]⟩) x = true then (r.length : Int) + 1 else turnsF x r) = turnsF x (r.drop i)
    rw [h0]
    simp only [Bool.false_eq_true, if_false]
    exact turns_skip (by simpa using hl) fun j hj => by simpa using hh (j + 1) (Nat.succ_lt_succ hj)
theorem cb_retG {h₀ g : Heap} {L L' : Addr} {m m' : Str → Option Value} {news news' : List (Addr × Obj)} {R : Result → Shared → Prop} {v : Value} {H : Heap} {s' : Shared}
    (G : GSub H g (news.map (·.1))) (N0 : News h₀ L H news) (F' : Fr g L' s'.heap m') (N' : News g L' s'.heap news') (hs : ∀ p ∈ news, p ∈ news')
    (h : Fr h₀ L s'.heap m → News h₀ L s'.heap news → InElt H s'.heap → R (.ok (.ret v)) s') : LeaveK h₀ L m g R v s' :=
  leaveK_ F' (fun p hp => N' p (hs p hp)) fun F N => h F N (elt_after (InElt.start _) G N0 F' N' hs)
section
variable {prog : Program} {w : World} {A : Around} {E : Value → Shared → Prop} {s : Shared} {g : Heap} {L : Addr} {m : Str → Option Value} {news : List (Addr × Obj)} {va vb : Value} {ns : List Int} {vs : List Value} {n : Nat} {a : Addr}
theorem ints_len {Q : Value → Shared → Prop} (hl : ns.length < 1000000) (N : News g L s.heap news) (hm : (a, listOf (List.toArray vs) n) ∈ news) (hv : IntsAre vs ns) (h : ∀ t tk, Q (.int ns.length t) { s with toks := tk }) : wpAny (model prog w) A (call (.builtin "len") [.ref a]) Q E s := by
  have hl' := hv.length
  refine len_list (news_list N hm) (by rw [List.size_toArray, hl']; (first | lia | omega)) ?_
  rw [List.size_toArray, hl']; exact h _ _
theorem ints_item {value slice : PySem.Expr} {j : Nat} {u : Tok} {Q : Value → Shared → Prop} (hl : ns.length < 1000000) (N : News g L s.heap news) (hm : (a, listOf (List.toArray vs) n) ∈ news) (hv : IntsAre vs ns) (hj : j < ns.length)
    (h : ∀ t tk, Q (.int (ns.getD j 0) t) { s with toks := tk })
    (hs : ∀ v, subscripted slice false v (.int j u) = operate [v, .int j u] (getItem v (.int j u)) := by intro _; with_unfolding_all rfl)
    (ht : ∀ v r, letTemporaryGo value v r = pure () := by intro _ _; with_unfolding_all rfl) :
    wpAny (model prog w) A (subscriptTail value slice (.ref a) (.int j u)) Q E s := by
  have hl' := hv.length
  obtain ⟨tx, hvx⟩ := hv.get j (ns.getD j 0) (by simp [List.getD_eq_getElem?_getD, hj])
  exact item_list (news_list N hm) (by (first | lia | omega)) (by (first | lia | omega)) (by simpa using hvx) (h _ _) (hs _) (ht _)
end
section
variable {w : World} {mean : ExcName → Option Value} {mg mb : Str → Option Value} {dp un : Nat} {gd : Option (List Code)} {cn : Str} {cs : Scope} {a : Addr} {ccd : Value} {cl : List (Str × Addr)} {outer : List Env} {A₀ : Around} {base h₀ : Heap} {L : Addr} {m : Str → Option Value} {news : List (Addr × Obj)} {s : Shared} {Q E : Value → Shared → Prop}


local macro_rules | `(tactic| walk_at "call builtin:len") => `(tactic| (k_here; refine' ints_len ?hl ?N ?hm ?hv ?_; (case N => k_asm); (case hm => tb_rel); (case hv => assumption); (case hl => omega); intro t9 tk9; (try dsimp only)))
local macro_rules | `(tactic| walk_at "subscriptTail Name Name ref int") => `(tactic| (k_here; refine' ints_item (s := ⟨_, _, _, _, _⟩) ?hl ?N ?hm ?hv ?hj ?_; (case N => k_asm); (case hm => tb_rel); (case hv => assumption); (case hl | hj => omega); intro t9 tk9; (try dsimp only)))
theorem strs_gen {g h : Heap} {L D : Addr} {vs : List Value} {n : Nat} {xs : List Str} {news : List (Addr × Obj)} (N : News g L h ((D, listOf (List.toArray vs) n) :: news)) (hv : StrsAre vs xs) :
    ∃ vs' n', StrsAre vs' xs ∧ News g L h ((D, listOf (List.toArray vs') n') :: news) := ⟨vs, n, hv, N⟩
theorem seq_head {g h : Heap} {L D : Addr} {vs : List Value} {n : Nat} {xs : List Str} {news : List (Addr × Obj)} (N : News g L h ((D, listOf (List.toArray vs) n) :: news)) (hv : StrsAre vs xs) (own : List (Addr × Obj)) :
    SeqV (((D, listOf (List.toArray vs) n) :: news) ++ own) false (.ref D) xs := .list (.head _) hv
theorem marks_at {j : Int} (h : 0 ≤ j ∧ j < 5) : marksL[j.toNat]? = some (marksL.getD j.toNat ⟨#[]⟩) := by
  have : j.toNat < marksL.length := by have : marksL.length = 5 := rfl; (first | lia | omega)
  simp [List.getD_eq_getElem?_getD, this]
local macro_rules | `(tactic| walk_at "subscriptTail Name Subscript ref int") => `(tactic| (k_here; refine' seq_item (s := ⟨_, _, _, _, _⟩) ?hl ?N ?ha (marks_at ?hx) (Or.inl (Int.toNat_of_nonneg ?hy).symm) ?_; (case N => k_asm); (case ha => assumption); (case hl => decide); (case hx => assumption); (case hy => omega); intro t9 tk9; (try dsimp only)))
theorem turns_use {x : Str} {t : Tok} {Dh : Addr} {vs : List Value} {hs : List Int} {c : Nat} (B : Below A₀ base outer h₀) (F : Fr h₀ L s.heap m) (X : (hd.heap_1 w.params).In h₀) (N : News h₀ L s.heap news) (T : Top hdV (looseW hdV [Str.ofString "EXACT_TOKEN_TYPES"]) mean mg mb h₀)
    (hk : cs.kind = .function) (hdp : dp + 1 < recursionLimit) (hun : un + 8 < cLine) (hm : (Dh, listOf (List.toArray vs) c) ∈ news) (hv : IntsAre vs hs) (hl : hs.length < 1000) (hb : ∀ h ∈ hs, 0 ≤ h ∧ h < 5)
    (hret : ∀ (t : Tok) (h' : Heap) (tk' : Nat), Fr h₀ L h' m → News h₀ L h' news → InElt s.heap h' → Q (.int (turnsF x hs) t) { s with heap := h', toks := tk' }) :
    wpAny (model PySem.Challenge.rw_tv0046_01.row.prog w) (ktrTop dp un gd cn cs L a ccd cl outer) (call (.ref 122) [.str x t, .ref Dh]) Q E s := by
  have hret' : ∀ (z : Int) (t : Tok) (h' : Heap) (tk' : Nat), z = turnsF x hs → Fr h₀ L h' m → News h₀ L h' news → InElt s.heap h' → Q (.int z t) { s with heap := h', toks := tk' } := by
    rintro _ t h' tk' rfl; exact hret t h' tk'
  revert X; k_fill; intro X
  refine wpAny_call ?_
  (k_dflt ((refine' code_defG ?k1 ?k2 ?k3 ?k4 ?k5 ?kA ?kF ?kK ?k6 ?k7 ?k8 ?k9 ?kB ?_ ?c2 ?c3 ?c4 ?c5; (case kA => exact rfl); (case kF => exact rfl); (case kK => first | exact rfl | assumption); (case k1 => k_asm); (case k2 => k_asm); (case k3 => k_asm); (case k4 => k_asm); (case k5 => k_asm); (case k6 => k_is); (case k7 => k_is); (case k8 => first | k_room | ktr_room | (refine Nat.lt_of_succ_lt ?_; assumption)); (case k9 => first | exact BindsTo.of_eq rfl | exact binds_K (by k_in) rfl (by k_is) rfl rfl rfl); (case c5 => decide); (case kB => exact locs rfl); (case c2 => exact rfl); (case c3 => exact rfl); (case c4 => exact rfl); intro g' L' h' FG' F' N' B' X' T' kG'; (try dsimp only); (try k_lift B'); (try k_fold))))
  rename Fr _ _ _ _ => F1
  have F2 : Fr _ _ _ (fun y => List.lookup y [(Str.ofString "hands", Value.ref Dh), (Str.ofString "sign", Value.str x t)]) := F1
  clear F1
  k_steps
  unfold Stop
  rename Fr _ _ _ _ => F5
  refine For_invVF F5 rfl rfl ?_
  k_steps
  unfold Stop
  rename Fr _ _ _ _ => F6
  rename News _ _ _ _ => N6
  rename IsRange _ _ _ _ _ _ _ _ => R6
  rename (∀ p ∈ news, Prod.fst p < _) => lD
  have hlen := hv.length
  obtain ⟨v5, c5, S5, N5⟩ := strs_gen (xs := marksL) N6 (.cons _ _ (.cons _ _ (.cons _ _ (.cons _ _ (.cons _ _ .nil)))))
  clear N6
  refine range_st (σ := Nat) (by exact rfl) (fun _ => [(Str.ofString "hands", Value.ref Dh), (Str.ofString "sign", Value.str x t), (Str.ofString "marks", .ref _)]) (fun c => (_, listOf (List.toArray v5) c5) :: news)
    (fun pre _ => ∀ j, j < pre.length → Txt.contains (marksL.getD (hs.getD j 0).toNat ⟨#[]⟩) x = false) 0 rfl R6 (by (first | lia | omega)) F6 N5 (by kst_all) (fun j hj => absurd hj (by simp)) ?_ ?_
  · rintro c0 i ti uu h1 tk1 own hi hoff hpre F7 N7
    dsimp only [kstB] at F7
    rw [List.length_range] at hpre
    have Sm := seq_head N5 S5 own
    have hb1 : 0 ≤ hs.getD i 0 ∧ hs.getD i 0 < 5 := hb _ (by simp [List.getD_eq_getElem?_getD, hi])
    clear N5
    have e0 : hs.getD i 0 = hs[i] := by simp [List.getD_eq_getElem?_getD, hi]
    k_steps
    · unfold Stop
      rename Fr _ _ _ _ => F8
      rename News _ _ _ _ => N8
      rename List.isEmpty _ = _ => hc
      refine for_end 0 F8 N8 (by ktr_rel) (by ktr_rel) (by rfl) (by kst_all) ?_
      intro j hj
      rw [List.length_range] at hj
      by_cases e : j = i
      · subst e
        show (!_) = _
        rw [hc]; rfl
      · exact hpre j (by (first | lia | omega))
    · unfold Stop
      rename Fr _ _ _ _ => F8
      rename News _ _ _ _ => N8
      rename List.isEmpty _ = _ => hc
      refine cb_retG (s' := ⟨_, _, _, _, _⟩) (by assumption) N F8 N8 (by ktr_rel) fun F' N' I' => ?_
      have ht : (hs.length : Int) - i = turnsF x hs := by
        rw [turns_skip (Nat.le_of_lt hi) hpre, List.drop_eq_getElem_cons hi]
        show _ = if Txt.contains (marksL.getD (hs[i]'hi).toNat ⟨#[]⟩) x = true then ((hs.drop (i + 1)).length : Int) + 1 else _
        rw [if_pos ?_]
        · rw [List.length_drop]; (first | lia | omega)
        · rw [← e0]
          show (!_) = _
          rw [hc]; rfl
      exact hret' _ _ _ _ ht F' N' I'
  · rintro c0 uu h1 tk1 hpre F7 N7
    dsimp only [kstB] at F7
    rw [List.length_range] at hpre
    clear N5
    k_steps
    unfold Stop
    rename Fr _ _ _ _ => F8
    rename News _ _ _ _ => N8
    refine cb_retG (s' := ⟨_, _, _, _, _⟩) (by assumption) N F8 N8 (by ktr_rel) fun F' N' I' => ?_
    have ht : turnsF x hs = 0 := by rw [turns_skip (Nat.le_refl _) hpre, List.drop_length]; rfl
    exact hret' _ _ _ _ ht.symm F' N' I'
end
end Mine
end
section
open PySem PySem.W PyProof.Rows PySem.Spec PySem.Calls Mine
namespace Mine
theorem joined_Te : True := by
  w_top off
  trivial
local macro_rules | `(tactic| walk_at "LeaveK") => `(tactic| (refine Stop.intro ?_))


section
variable {w : World} {mean : ExcName → Option Value} {mg mb : Str → Option Value} {dp un : Nat} {gd : Option (List Code)} {cn : Str} {cs : Scope} {a : Addr} {ccd : Value} {cl : List (Str × Addr)} {outer : List Env} {A₀ : Around} {base h₀ : Heap} {L : Addr} {m : Str → Option Value} {news : List (Addr × Obj)} {s : Shared} {Q E : Value → Shared → Prop}
theorem term_use {t : Tok} {n : Int} (B : Below A₀ base outer h₀) (F : Fr h₀ L s.heap m) (X : (hd.heap_1 w.params).In h₀) (N : News h₀ L s.heap news) (T : Top hdV (looseW hdV [Str.ofString "EXACT_TOKEN_TYPES"]) mean mg mb h₀)
    (hk : cs.kind = .function) (hdp : dp + 1 < recursionLimit) (hun : un + 8 < cLine)
    (hret : ∀ (h' : Heap) (tk' : Nat), Fr h₀ L h' m → News h₀ L h' news → InElt s.heap h' → Q (.bool (decide (n < 256))) { s with heap := h', toks := tk' }) :
    wpAny (model PySem.Challenge.rw_tv0046_01.row.prog w) (ktrTop dp un gd cn cs L a ccd cl outer) (call (.ref 45) [.int n t]) Q E s := by
  have hret' : ∀ (z : Bool) (h' : Heap) (tk' : Nat), z = decide (n < 256) → Fr h₀ L h' m → News h₀ L h' news → InElt s.heap h' → Q (.bool z) { s with heap := h', toks := tk' } := by
    rintro _ h' tk' rfl; exact hret h' tk'
  clear hret
  revert X; k_fill; intro X
  refine wpAny_call ?_
  (k_dflt ((refine' code_defG ?k1 ?k2 ?k3 ?k4 ?k5 ?kA ?kF ?kK ?k6 ?k7 ?k8 ?k9 ?kB ?_ ?c2 ?c3 ?c4 ?c5; (case kA => exact rfl); (case kF => exact rfl); (case kK => first | exact rfl | assumption); (case k1 => k_asm); (case k2 => k_asm); (case k3 => k_asm); (case k4 => k_asm); (case k5 => k_asm); (case k6 => k_is); (case k7 => k_is); (case k8 => first | k_room | ktr_room | (refine Nat.lt_of_succ_lt ?_; assumption)); (case k9 => first | exact BindsTo.of_eq rfl | exact binds_K (by k_in) rfl (by k_is) rfl rfl rfl); (case c5 => decide); (case kB => exact locs rfl); (case c2 => exact rfl); (case c3 => exact rfl); (case c4 => exact rfl); intro g' L' h' FG' F' N' B' X' T' kG'; (try dsimp only); (try k_lift B'); (try k_fold))))
  rename Fr _ _ _ _ => F1
  have F2 : Fr _ _ _ (fun y => List.lookup y [(Str.ofString "x", Value.int n t)]) := F1
  clear F1
  k_steps
  all_goals unfold Stop
  all_goals rename Fr _ _ _ _ => F8
  all_goals rename News _ _ _ _ => N8
  all_goals refine cb_retG (s' := ⟨_, _, _, _, _⟩) (by assumption) N F8 N8 (by ktr_rel) fun F' N' I' => ?_
  all_goals exact hret' _ _ _ (by first | rfl | simp [*]) F' N' I'
theorem nonterm_use {t : Tok} {n : Int} (B : Below A₀ base outer h₀) (F : Fr h₀ L s.heap m) (X : (hd.heap_1 w.params).In h₀) (N : News h₀ L s.heap news) (T : Top hdV (looseW hdV [Str.ofString "EXACT_TOKEN_TYPES"]) mean mg mb h₀)
    (hk : cs.kind = .function) (hdp : dp + 1 < recursionLimit) (hun : un + 8 < cLine)
    (hret : ∀ (h' : Heap) (tk' : Nat), Fr h₀ L h' m → News h₀ L h' news → InElt s.heap h' → Q (.bool (decide (256 ≤ n))) { s with heap := h', toks := tk' }) :
    wpAny (model PySem.Challenge.rw_tv0046_01.row.prog w) (ktrTop dp un gd cn cs L a ccd cl outer) (call (.ref 52) [.int n t]) Q E s := by
  have hret' : ∀ (z : Bool) (h' : Heap) (tk' : Nat), z = decide (256 ≤ n) → Fr h₀ L h' m → News h₀ L h' news → InElt s.heap h' → Q (.bool z) { s with heap := h', toks := tk' } := by
    rintro _ h' tk' rfl; exact hret h' tk'
  clear hret
  revert X; k_fill; intro X
  refine wpAny_call ?_
  (k_dflt ((refine' code_defG ?k1 ?k2 ?k3 ?k4 ?k5 ?kA ?kF ?kK ?k6 ?k7 ?k8 ?k9 ?kB ?_ ?c2 ?c3 ?c4 ?c5; (case kA => exact rfl); (case kF => exact rfl); (case kK => first | exact rfl | assumption); (case k1 => k_asm); (case k2 => k_asm); (case k3 => k_asm); (case k4 => k_asm); (case k5 => k_asm); (case k6 => k_is); (case k7 => k_is); (case k8 => first | k_room | ktr_room | (refine Nat.lt_of_succ_lt ?_; assumption)); (case k9 => first | exact BindsTo.of_eq rfl | exact binds_K (by k_in) rfl (by k_is) rfl rfl rfl); (case c5 => decide); (case kB => exact locs rfl); (case c2 => exact rfl); (case c3 => exact rfl); (case c4 => exact rfl); intro g' L' h' FG' F' N' B' X' T' kG'; (try dsimp only); (try k_lift B'); (try k_fold))))
  rename Fr _ _ _ _ => F1
  have F2 : Fr _ _ _ (fun y => List.lookup y [(Str.ofString "x", Value.int n t)]) := F1
  clear F1
  k_steps
  all_goals unfold Stop
  all_goals rename Fr _ _ _ _ => F8
  all_goals rename News _ _ _ _ => N8
  all_goals refine cb_retG (s' := ⟨_, _, _, _, _⟩) (by assumption) N F8 N8 (by ktr_rel) fun F' N' I' => ?_
  all_goals exact hret' _ _ _ (by first | rfl | simp [*]) F' N' I'
end
end Mine
end
section
open PySem PySem.W PyProof.Rows PySem.Spec PySem.Calls Mine
namespace Mine
theorem joined_Sp : True := by
  w_top off
  trivial
local macro_rules | `(tactic| walk_at "LeaveK") => `(tactic| (refine Stop.intro ?_))


local macro_rules | `(tactic| walk_at "truthy bool") => `(tactic| (refine Stop.intro ?_))
/-- a sign as it stands after its turns -/
noncomputable def spelledF (x : Str) (n : Int) : Str := if n = 0 then x else Str.ofString "&" ++ (if n = 2 then Str.ofString "amp;" else Str.ofString "") ++ (if x = Str.ofString "&" then Str.ofString "amp;" else if x = Str.ofString "<" then Str.ofString "lt;" else Str.ofString "gt;")
section
variable {w : World} {mean : ExcName → Option Value} {mg mb : Str → Option Value} {dp un : Nat} {gd : Option (List Code)} {cn : Str} {cs : Scope} {a : Addr} {ccd : Value} {cl : List (Str × Addr)} {outer : List Env} {A₀ : Around} {base h₀ : Heap} {L : Addr} {m : Str → Option Value} {news : List (Addr × Obj)} {s : Shared} {Q E : Value → Shared → Prop}
theorem spelled_use {x : Str} {t u : Tok} {n : Int} (B : Below A₀ base outer h₀) (F : Fr h₀ L s.heap m) (X : (hd.heap_1 w.params).In h₀) (N : News h₀ L s.heap news) (T : Top hdV (looseW hdV [Str.ofString "EXACT_TOKEN_TYPES"]) mean mg mb h₀)
    (hk : cs.kind = .function) (hdp : dp + 1 < recursionLimit) (hun : un + 8 < cLine) (hx : n = 0 ∨ ((x = Str.ofString "&" ∨ x = Str.ofString "<" ∨ x = Str.ofString ">") ∧ (n = 1 ∨ n = 2)))
    (hret : ∀ (t : Tok) (h' : Heap) (tk' : Nat), Fr h₀ L h' m → News h₀ L h' news → InElt s.heap h' → Q (.str (spelledF x n) t) { s with heap := h', toks := tk' }) :
    wpAny (model PySem.Challenge.rw_tv0046_01.row.prog w) (ktrTop dp un gd cn cs L a ccd cl outer) (call (.ref 129) [.str x t, .int n u]) Q E s := by
  have hret' : ∀ (z : Str) (t : Tok) (h' : Heap) (tk' : Nat), z = spelledF x n → Fr h₀ L h' m → News h₀ L h' news → InElt s.heap h' → Q (.str z t) { s with heap := h', toks := tk' } := by
    rintro _ t h' tk' rfl; exact hret t h' tk'
  clear hret
  revert X; k_fill; intro X
  refine wpAny_call ?_
  (k_dflt ((refine' code_defG ?k1 ?k2 ?k3 ?k4 ?k5 ?kA ?kF ?kK ?k6 ?k7 ?k8 ?k9 ?kB ?_ ?c2 ?c3 ?c4 ?c5; (case kA => exact rfl); (case kF => exact rfl); (case kK => first | exact rfl | assumption); (case k1 => k_asm); (case k2 => k_asm); (case k3 => k_asm); (case k4 => k_asm); (case k5 => k_asm); (case k6 => k_is); (case k7 => k_is); (case k8 => first | k_room | ktr_room | (refine Nat.lt_of_succ_lt ?_; assumption)); (case k9 => first | exact BindsTo.of_eq rfl | exact binds_K (by k_in) rfl (by k_is) rfl rfl rfl); (case c5 => decide); (case kB => exact locs rfl); (case c2 => exact rfl); (case c3 => exact rfl); (case c4 => exact rfl); intro g' L' h' FG' F' N' B' X' T' kG'; (try dsimp only); (try k_lift B'); (try k_fold))))
  rename Fr _ _ _ _ => F1
  rename News _ _ _ _ => N1
  have F2 : Fr _ _ _ (fun y => List.lookup y [(Str.ofString "turns", Value.int n u), (Str.ofString "sign", Value.str x t)]) := F1
  clear F1
  k_steps
  unfold Stop
  refine wpAny_truthy_bool ?_
  rcases hx with rfl | ⟨hx, hn⟩
  · rw [if_pos (show ((0 : Int) == 0) = true from rfl)]
    k_steps
    unfold Stop
    rename Fr _ _ _ _ => F8
    rename News _ _ _ _ => N8
    refine cb_retG (s' := ⟨_, _, _, _, _⟩) (by assumption) N F8 N8 (by ktr_rel) fun F' N' I' => ?_
    exact hret' _ _ _ _ (by simp [spelledF]) F' N' I'
  rw [if_neg (show ¬ ((n == 0) = true) by simp; (first | lia | omega))]
  rcases hx with rfl | rfl | rfl <;> rcases hn with rfl | rfl
  all_goals k_steps
  all_goals unfold Stop
  all_goals rename Fr _ _ _ _ => F8
  all_goals rename News _ _ _ _ => N8
  all_goals refine cb_retG (s' := ⟨_, _, _, _, _⟩) (by assumption) N F8 N8 (by ktr_rel) fun F' N' I' => ?_
  all_goals exact hret' _ _ _ _ (by decide +kernel) F' N' I'
end
end Mine
end
section
open PySem PySem.W PyProof.Rows PySem.Spec PySem.Calls PyProof.V
namespace Mine
noncomputable def Leaf (P : Prop) : Prop := P
theorem Leaf.intro {P : Prop} (h : P) : Leaf P := h
/-- what a value hands out when it is iterated -/
noncomputable def Src {α : Type} (prog : Program) (w : World) (A : Around) (as : List α) (V : α → Value → Prop) (xv : Value) (s₁ : Shared) : Prop :=
  ∀ (E : Value → Shared → Prop) (Q : Value → Shared → Prop), (∀ (o : Obj) (fp : List Addr) (P : Nat → Value → Prop) (St : Nat → Heap → Prop), Walks prog w A s₁.heap.objs.size fp [s₁.heap.objs.size] as.length P St → St 0 (s₁.heap.push o) →
      (∀ b ∈ fp, b < (s₁.heap.push o).objs.size) → (∀ i v, P i v → ∃ a, as[i]? = some a ∧ V a v) → Q (.ref s₁.heap.objs.size) { s₁ with heap := s₁.heap.push o }) →
    wpAny (model prog w) A (pyIter xv) Q E s₁
noncomputable def strV (a : Str) (v : Value) : Prop := ∃ t, v = .str a t
noncomputable def intV (a : Int) (v : Value) : Prop := ∃ t, v = .int a t
noncomputable def natV (a : Nat) (v : Value) : Prop := ∃ t, v = .int (a : Int) t
theorem strV_inj {a b : Str} {v : Value} (h : strV a v) (h' : strV b v) : a = b := by obtain ⟨t, rfl⟩ := h; obtain ⟨u, e⟩ := h'; cases e; rfl
theorem intV_inj {a b : Int} {v : Value} (h : intV a v) (h' : intV b v) : a = b := by obtain ⟨t, rfl⟩ := h; obtain ⟨u, e⟩ := h'; cases e; rfl
theorem natV_inj {a b : Nat} {v : Value} (h : natV a v) (h' : natV b v) : a = b := by obtain ⟨t, rfl⟩ := h; obtain ⟨u, e⟩ := h'; injection e with e1 e2; omega
section
variable {prog : Program} {w : World} {A : Around} {s : Shared}
theorem Src.str {x : Str} {t : Tok} (hh : A.handled = none) : Src prog w A (signs x) strV (.str x t) s := fun E Q h =>
  wpAny_pyIter_str fun o St W h0 => h o [s.heap.objs.size] (SignAt x) St (by
    have hl : (signs x).length = x.cps.size := by rw [signs_length]; rfl
    rw [hl]; exact W A hh) h0 (fun b hb => by rw [List.mem_singleton.mp hb, Heap.size_push]; exact Nat.lt_succ_self _) (fun i v hv => by
      obtain ⟨c, u, hc, rfl⟩ := hv
      exact ⟨⟨#[c]⟩, by simpa [signs] using hc, u, rfl⟩)
theorem Src.list {α : Type} {a : Addr} {vs : List Value} {as : List α} {V : α → Value → Prop} (hh : A.handled = none) (hl : s.heap.IsList a vs.toArray) (hn : vs.length = as.length) (hv : ∀ (i : Nat) v, vs[i]? = some v → ∃ a, as[i]? = some a ∧ V a v) : Src prog w A as V (.ref a) s := fun E Q h => by
  have hlt : a < s.heap.objs.size := by obtain ⟨_, e, _⟩ := hl; exact Heap.lt_size e
  refine wpAny_pyIter_list hl (h _ [s.heap.objs.size, a] (fun i v => vs.toArray[i]? = some v) (fun i h => h.IsListIter s.heap.objs.size a i ∧ h.IsList a vs.toArray) (by rw [← hn]; exact Walks.list hh _ _ (Nat.ne_of_lt hlt) vs.toArray) ⟨⟨_, Heap.get?_push_size _ rfl, rfl, rfl⟩, hl.push _⟩ ?_ ?_)
  · intro b hb
    rw [Heap.size_push]
    rcases List.mem_cons.mp hb with rfl | hb
    · exact Nat.lt_succ_self _
    · rw [List.mem_singleton.mp hb]; exact Nat.lt_succ_of_lt hlt
  · intro i v e; exact hv i v (by simpa using e)
theorem Src.tuple {α : Type} {a : Addr} {vs : List Value} {as : List α} {V : α → Value → Prop} (hh : A.handled = none) (hl : s.heap.IsTuple a vs.toArray) (hn : vs.length = as.length) (hv : ∀ (i : Nat) v, vs[i]? = some v → ∃ a, as[i]? = some a ∧ V a v) : Src prog w A as V (.ref a) s := fun E Q h => by
  have hlt : a < s.heap.objs.size := by obtain ⟨_, e, _⟩ := hl; exact Heap.lt_size e
  refine wpAny_pyIter_tuple hl (h _ [s.heap.objs.size, a] (fun i v => vs.toArray[i]? = some v) (fun i h => h.IsTupleIter s.heap.objs.size a i ∧ h.IsTuple a vs.toArray) (by rw [← hn]; exact Walks.tuple hh _ _ (Nat.ne_of_lt hlt) vs.toArray) ⟨⟨_, Heap.get?_push_size _ rfl, rfl, rfl⟩, ?_⟩ ?_ ?_)
  · obtain ⟨o, e, r⟩ := hl
    exact ⟨o, Heap.get?_push_of_some _ e, r⟩
  · intro b hb
    rw [Heap.size_push]
    rcases List.mem_cons.mp hb with rfl | hb
    · exact Nat.lt_succ_self _
    · rw [List.mem_singleton.mp hb]; exact Nat.lt_succ_of_lt hlt
  · intro i v e; exact hv i v (by simpa using e)
theorem Src.range {r : Addr} {n : Nat} {t u v : Tok} (hh : A.handled = none) (hr : IsRange s.heap r 0 (n : Int) 1 t u v) (hn : n < 1000000) : Src prog w A (List.range n) natV (.ref r) s := fun E Q h => by
  have hsm : Builtin.Range.small 0 (n : Int) 1 = true := small_one (by omega) (by omega) (by omega) (by omega)
  have hz : Builtin.Range.rangeSize 0 (n : Int) 1 = (n : Int) := by have := rangeSize_nat 0 n; simpa using this
  refine wpAny_pyIter_range hr hsm (h _ [s.heap.objs.size] (fun i v => i < n ∧ ∃ t, v = .int ((0 : Int) + i * 1) t) (fun i h => IsRangeIter h s.heap.objs.size ((0 : Int) + (i : Nat) * 1) ((n : Int) - (i : Nat)) 1) (by
    rw [List.length_range]; exact (Walks.range hh _ 0 1 n).bound) ?_ ?_ ?_)
  · show IsRangeIter _ _ _ _ _
    rw [hz]; simpa using Heap.get?_push_size _ rfl
  · intro b hb
    rw [List.mem_singleton.mp hb, Heap.size_push]; exact Nat.lt_succ_self _
  · rintro i v ⟨hi, t, rfl⟩
    exact ⟨i, by simp [hi], t, by simp⟩
end

theorem Paired.of_get {α : Type} {V : α → Value → Prop} : ∀ {as : List α} {vs : List Value}, vs.length = as.length → (∀ (j : Nat) v, vs[j]? = some v → ∃ a, as[j]? = some a ∧ V a v) → Paired V as vs
  | [], [], _, _ => .nil
  | [], _ :: _, h, _ => by simp at h
  | _ :: _, [], h, _ => by simp at h
  | a :: as, v :: vs, h, hg => by
    obtain ⟨a', ha, hv⟩ := hg 0 v rfl
    cases ha
    exact .cons hv (Paired.of_get (by simpa using h) fun j u hu => hg (j + 1) u hu)
theorem Paired.src {α : Type} {V : α → Value → Prop} {pz : α → Bool} {G : α → Value → Prop} {p : Value → Bool} (hV : ∀ a b v, V a v → V b v → a = b) (hp : ∀ a v, V a v → p v = pz a) :
    ∀ {as : List α} {vs ys : List Value}, Paired V as vs → Paired (fun v y => ∃ a, V a v ∧ G a y) (vs.filter p) ys → Paired G (as.filter pz) ys
  | _, _, ys, .nil, h => by
    simp only [List.filter_nil] at h
    cases h
    exact .nil
  | _, _, ys, .cons (a := a) (b := b) hv t, h => by
    simp only [List.filter_cons, hp _ _ hv] at h
    simp only [List.filter_cons]
    cases hz : pz a with
    | false =>
      rw [hz] at h
      simp only [Bool.false_eq_true, if_false] at h ⊢
      exact Paired.src hV hp t h
    | true =>
      rw [hz] at h
      simp only [if_true] at h ⊢
      cases h with
      | cons h1 h2 =>
        obtain ⟨a', ha, hg⟩ := h1
        cases hV _ _ _ hv ha
        exact .cons hg (Paired.src hV hp t h2)

section
variable {prog : Program} {w : World} {A : Around} {E : Value → Shared → Prop} {s : Shared} {env : Env}
/-- a comprehension's iterable as it was found -/
noncomputable def CIter {α : Type} (prog : Program) (w : World) (A : Around) (env : Env) (scope : Scope) (cl : List (Str × Addr)) (x : Str) (ifs : List PySem.Expr) (elt : PySem.Expr) (V : α → Value → Prop) (pz : α → Bool) (G : α → Value → Prop)
    (up : Addr → (Str → Option Value) → Str → Option Value) (fin : Addr → Shared → Prop) (xv : Value) (s₁ : Shared) : Prop :=
  ∃ (as : List α) (h₀ : Heap) (m : Str → Option Value) (news : List (Addr × Obj)), as.length ≤ sizeLine ∧ Src prog w A as V xv s₁ ∧ Fr h₀ env.locals s₁.heap m ∧ News h₀ env.locals s₁.heap news ∧
    (∀ C a v s₂ m₂ E', s₁.heap.objs.size ≤ C → a ∈ as → V a v → s₂.heap.Ns (compEnvC scope cl C env).locals m₂ → m₂ x = some v → Fr h₀ env.locals s₂.heap m → News h₀ env.locals s₂.heap news → InElt s₂.heap s₂.heap →
      wpAny (model prog w) A (forIn ifs true fun c r => if r = true then do let ok ← isTrue c (compEnvC scope cl C env) (eval c (compEnvC scope cl C env)); pure (ForInStep.yield ok) else pure (ForInStep.yield r))
        (fun ok s₃ => Leaf (ok = pz a ∧ Keeps s₂ s₃)) E' s₂) ∧
    (∀ C a v s₂ m₂ E', s₁.heap.objs.size ≤ C → a ∈ as → V a v → pz a = true → s₂.heap.Ns (compEnvC scope cl C env).locals m₂ → m₂ x = some v → Fr h₀ env.locals s₂.heap m → News h₀ env.locals s₂.heap news → InElt s₂.heap s₂.heap →
      wpAny (model prog w) A (eval elt (compEnvC scope cl C env)) (fun y s₃ => Leaf (G a y ∧ Keeps s₂ s₃)) E' s₂) ∧
    (∀ (D : Addr) (ys : List Value) (c : Nat) (h' : Heap) (tk : Nat), Fr h₀ env.locals h' (up D m) → News h₀ env.locals h' ((D, listOf (List.toArray ys) c) :: news) → (∀ p ∈ news, p.1 ≠ D) → Paired G (as.filter pz) ys → fin D { s₁ with heap := h', toks := tk })

theorem comp_eval {α : Type} {elt iter : PySem.Expr} {x : Str} {px : Pos} {ifs : List PySem.Expr} {scope : Scope} {cl : List (Str × Addr)} {pos : Pos} {Q : Value → Shared → Prop} (V : α → Value → Prop) (pz : α → Bool) (G : α → Value → Prop) (hV : ∀ a b v, V a v → V b v → a = b)
    (hclos : closureFor scope env = pure cl) (hcell : ∀ y ∈ scope.names, y.2 ≠ .cell) (hkind : scope.kind = .function)
    (hnames : ∀ y ∈ scope.names, y.2 = .local → scope.names.lookup y.1 = some .local) (hx : scope.names.lookup x = some .local)
    (h : wpAny (model prog w) A (eval iter env) (CIter prog w A env scope cl x ifs elt V pz G (fun _ m => m) (fun D s => Q (.ref D) s)) E s)
    (hs : ∀ x, foldedSetIterable iter env x = pure x := by intro _; rfl) :
    wpAny (model prog w) A (eval (.ListComp elt [⟨.Name x px, iter, ifs, 0⟩] scope pos) env) Q E s := by
  classical
  have hp : ∀ a v, V a v → (decide (∃ b, V b v ∧ pz b = true)) = pz a := fun a v hv => by
    cases hz : pz a with
    | true => exact decide_eq_true ⟨a, hv, hz⟩
    | false => exact decide_eq_false fun ⟨b, hb, e⟩ => by rw [hV _ _ _ hb hv, hz] at e; cases e
  refine wpAny_ListComp_free (fun v => decide (∃ b, V b v ∧ pz b = true)) (fun v y => ∃ a, V a v ∧ G a y) hclos hcell hkind hnames hx (wpAny_mono h (fun xv s₁ h₁ => ?_) fun _ _ e => e) hs
  obtain ⟨as, h₀, m, news, hsz, S, F, N, ht, he, hf⟩ := h₁
  refine S _ _ fun o fp P St W h0 hfp hP => ⟨_, fp, [s₁.heap.objs.size], as.length, P, St, rfl, W, hsz, h0, hfp, ⟨?_, ?_⟩, ?_⟩
  · intro C i v s₃ m₃ E' hC hPv hn hm hk _
    obtain ⟨a, ha, hv⟩ := hP i v hPv
    have up : ∀ b o', s₁.heap.get? b = some o' → s₃.heap.get? b = some o' := fun b o' e => hk b o' (fun hb => by rw [List.mem_singleton.mp hb] at e; exact Nat.lt_irrefl _ (Heap.lt_size e)) (Heap.get?_push_of_some _ e)
    show wpAny _ _ _ (fun ok s₄ => ok = decide _ ∧ Keeps s₃ s₄) _ _
    rw [hp a v hv]
    exact ht C a v s₃ m₃ E' (Nat.le_of_succ_le (by simpa [Heap.size_push] using hC)) (List.mem_of_getElem? ha) hv hn hm (F.keeps up) (N.grown up) (InElt.start _)
  · intro C i v s₃ m₃ E' hC hPv hpv hn hm hk _
    obtain ⟨a, ha, hv⟩ := hP i v hPv
    have up : ∀ b o', s₁.heap.get? b = some o' → s₃.heap.get? b = some o' := fun b o' e => hk b o' (fun hb => by rw [List.mem_singleton.mp hb] at e; exact Nat.lt_irrefl _ (Heap.lt_size e)) (Heap.get?_push_of_some _ e)
    have hpv' : pz a = true := by rw [← hp a v hv]; exact hpv
    exact wpAny_mono (he C a v s₃ m₃ E' (Nat.le_of_succ_le (by simpa [Heap.size_push] using hC)) (List.mem_of_getElem? ha) hv hpv' hn hm (F.keeps up) (N.grown up) (InElt.start _)) (fun y s₄ h₄ => ⟨⟨a, hv, h₄.1⟩, h₄.2⟩) fun _ _ e => e
  · intro D h' tk ys vs hD hlD hplD hlen hPv hF hk
    have up : ∀ b o', s₁.heap.get? b = some o' → h'.get? b = some o' := fun b o' e => hk b o' (fun hb => by rw [List.mem_singleton.mp hb] at e; exact Nat.lt_irrefl _ (Heap.lt_size e)) (Heap.get?_push_of_some _ e)
    have hD₁ : s₁.heap.get? D = none := by
      cases q : s₁.heap.get? D with
      | none => rfl
      | some o' => rw [Heap.get?_push_of_some _ q] at hD; cases hD
    obtain ⟨c, hc⟩ := hplD
    refine hf D ys.toList c h' tk (F.keeps up) ?_ ?_ (Paired.src hV hp (Paired.of_get hlen fun j v hj => hP j v (hPv j v hj)) hF)
    · intro q hq
      rcases List.mem_cons.mp hq with rfl | hq
      · refine ⟨by rw [hc], ?_, ?_⟩
        · rintro rfl
          obtain ⟨oL, _, _, hL, _⟩ := F.ns
          rw [hL] at hD₁; cases hD₁
        · cases q : h₀.get? D with
          | none => rfl
          | some o' => rw [F.keep _ _ q] at hD₁; cases hD₁
      · exact (N.grown up) q hq
    · rintro q hq rfl
      rw [(N q hq).1] at hD₁; cases hD₁

theorem comp_assign {α : Type} {elt iter : PySem.Expr} {x y : Str} {px py : Pos} {ifs : List PySem.Expr} {scope : Scope} {cl : List (Str × Addr)} {pos spos : Pos} {Q : Flow → Shared → Prop} (V : α → Value → Prop) (pz : α → Bool) (G : α → Value → Prop) (hV : ∀ a b v, V a v → V b v → a = b)
    (hsw : swapsWith (.ListComp elt [⟨.Name x px, iter, ifs, 0⟩] scope pos) (some (.Name y py)) spos.line env = pure true)
    (hclos : closureFor scope env = pure cl) (hcell : ∀ y ∈ scope.names, y.2 ≠ .cell) (hkind : scope.kind = .function)
    (hnames : ∀ y ∈ scope.names, y.2 = .local → scope.names.lookup y.1 = some .local) (hx : scope.names.lookup x = some .local)
    (hy : env.kindOf y = some .local) (hpp : (env.scope.kind == .class || (env.scope.kind == .module && env.locals != env.globals)) = false)
    (h : wpAny (model prog w) A (eval iter env) (CIter prog w A env scope cl x ifs elt V pz G (fun D m z => if z = y then some (.ref D) else m z) (fun _ s => Q .next s)) E s)
    (hs : ∀ x, foldedSetIterable iter env x = pure x := by intro _; rfl) :
    wpAny (model prog w) A (exec (.Assign [.Name y py] (.ListComp elt [⟨.Name x px, iter, ifs, 0⟩] scope pos) spos) env) Q E s := by
  classical
  have hp : ∀ a v, V a v → (decide (∃ b, V b v ∧ pz b = true)) = pz a := fun a v hv => by
    cases hz : pz a with
    | true => exact decide_eq_true ⟨a, hv, hz⟩
    | false => exact decide_eq_false fun ⟨b, hb, e⟩ => by rw [hV _ _ _ hb hv, hz] at e; cases e
  refine wpAny_Assign_ListComp_free (fun v => decide (∃ b, V b v ∧ pz b = true)) (fun v y => ∃ a, V a v ∧ G a y) hsw hclos hcell hkind hnames hx hy hpp (wpAny_mono h (fun xv s₁ h₁ => ?_) fun _ _ e => e) hs
  obtain ⟨as, h₀, m, news, hsz, S, F, N, ht, he, hf⟩ := h₁
  have hLlt : env.locals < s₁.heap.objs.size := F.ns.lt
  refine S _ _ fun o fp P St W h0 hfp hP => ⟨_, fp, [s₁.heap.objs.size], as.length, P, St, m, rfl, W, hsz, h0, hfp, (fun hb => by rw [List.mem_singleton.mp hb] at hLlt; exact Nat.lt_irrefl _ hLlt), (F.push _).ns, ⟨?_, ?_⟩, ?_⟩
  · intro C i v s₃ m₃ E' hC hPv hn hm hk _
    obtain ⟨a, ha, hv⟩ := hP i v hPv
    have up : ∀ b o', s₁.heap.get? b = some o' → s₃.heap.get? b = some o' := fun b o' e => hk b o' (fun hb => by rw [List.mem_singleton.mp hb] at e; exact Nat.lt_irrefl _ (Heap.lt_size e)) (Heap.get?_push_of_some _ e)
    show wpAny _ _ _ (fun ok s₄ => ok = decide _ ∧ Keeps s₃ s₄) _ _
    rw [hp a v hv]
    exact ht C a v s₃ m₃ E' (Nat.le_of_succ_le (by simpa [Heap.size_push] using hC)) (List.mem_of_getElem? ha) hv hn hm (F.keeps up) (N.grown up) (InElt.start _)
  · intro C i v s₃ m₃ E' hC hPv hpv hn hm hk _
    obtain ⟨a, ha, hv⟩ := hP i v hPv
    have up : ∀ b o', s₁.heap.get? b = some o' → s₃.heap.get? b = some o' := fun b o' e => hk b o' (fun hb => by rw [List.mem_singleton.mp hb] at e; exact Nat.lt_irrefl _ (Heap.lt_size e)) (Heap.get?_push_of_some _ e)
    have hpv' : pz a = true := by rw [← hp a v hv]; exact hpv
    exact wpAny_mono (he C a v s₃ m₃ E' (Nat.le_of_succ_le (by simpa [Heap.size_push] using hC)) (List.mem_of_getElem? ha) hv hpv' hn hm (F.keeps up) (N.grown up) (InElt.start _)) (fun y s₄ h₄ => ⟨⟨a, hv, h₄.1⟩, h₄.2⟩) fun _ _ e => e
  · intro D h' tk ys vs hD hlD hplD hlen hPv hF hns hk
    have up : ∀ b o', b ≠ env.locals → s₁.heap.get? b = some o' → h'.get? b = some o' := fun b o' hb e => hk b o' hb (fun hb => by rw [List.mem_singleton.mp hb] at e; exact Nat.lt_irrefl _ (Heap.lt_size e)) (Heap.get?_push_of_some _ e)
    have hD₁ : s₁.heap.get? D = none := by
      cases q : s₁.heap.get? D with
      | none => rfl
      | some o' => rw [Heap.get?_push_of_some _ q] at hD; cases hD
    obtain ⟨c, hc⟩ := hplD
    have hLn : ∀ b o', h₀.get? b = some o' → b ≠ env.locals := by
      rintro b o' e rfl
      exact Nat.lt_irrefl _ (Nat.lt_of_lt_of_le (Heap.lt_size e) F.above)
    refine hf D ys.toList c h' tk ⟨hns, fun b o' e => up b o' (hLn b o' e) (F.keep b o' e), F.above⟩ ?_ ?_ (Paired.src hV hp (Paired.of_get hlen fun j v hj => hP j v (hPv j v hj)) hF)
    · intro q hq
      rcases List.mem_cons.mp hq with rfl | hq
      · refine ⟨by rw [hc], ?_, ?_⟩
        · rintro rfl
          obtain ⟨oL, _, _, hL, _⟩ := F.ns
          rw [hL] at hD₁; cases hD₁
        · cases q : h₀.get? D with
          | none => rfl
          | some o' => rw [F.keep _ _ q] at hD₁; cases hD₁
      · exact ⟨up _ _ (N q hq).2.1 (N q hq).1, (N q hq).2⟩
    · rintro q hq rfl
      rw [(N q hq).1] at hD₁; cases hD₁
end
end Mine
end
section
open PySem PySem.W PyProof.Rows PySem.Spec PySem.Calls PyProof.V
namespace Mine
/-- a for over a list of texts, whatever its target -/
theorem turns_st {σ : Type} {prog : Program} {w : World} {A : Around} {E : Value → Shared → Prop} {s : Shared} {env : Env} {target : PySem.Expr} {body : List Stmt} {Q : Flow → Shared → Prop} {g : Heap} {L : Addr} {m : Str → Option Value}
    {ax : Addr} {vs : List Value} {α : Type} {V : α → Value → Prop} {vals : List α} (hL : env.locals = L) (ps : σ → List (Str × Value)) (Led : σ → List (Addr × Obj)) (J : List α → σ → Prop) (c₀ : σ)
    (hh : A.handled = none) (hl : s.heap.IsList ax vs.toArray) (hn : vs.length = vals.length) (hv : ∀ (i : Nat) v, vs[i]? = some v → ∃ a, vals[i]? = some a ∧ V a v) (hxL : L ≠ ax)
    (F : Fr g L s.heap m) (N : News g L s.heap (Led c₀)) (hk : ∀ p ∈ ps c₀, m p.1 = some p.2) (hj : J [] c₀)
    (turn : ∀ (c : σ) (pre : List α) (a : α) (post : List α) (v : Value) (u : Str → Option Value) (h : Heap) (tk : Nat) (own : List (Addr × Obj)), vals = pre ++ a :: post → V a v → (∀ p ∈ own, p.1 = ax ∨ ∀ b ∈ (Led c₀).map (·.1), p.1 ≠ b) → J pre c →
      Fr g L h (kstB u (ps c)) → News g L h (Led c ++ own) →
      wpAny (model prog w) A (assign target env v) (fun _ s₃ => wpAny (model prog w) A (execs body env) (InvPostN g L (fun m' nx => ∃ c', nx = Led c' ∧ (∀ p ∈ ps c', m' p.1 = some p.2) ∧ J (pre ++ [a]) c') own ((Led c₀).map (·.1)) { s with heap := h, toks := tk } Q) E s₃) E { s with heap := h, toks := tk })
    (done : ∀ (c : σ) (u : Str → Option Value) (h : Heap) (tk : Nat), J vals c → Fr g L h (kstB u (ps c)) → News g L h (Led c) → Q .next { s with heap := h, toks := tk }) :
    wpAny (model prog w) A (pyIter (.ref ax)) (fun it s₂ => TurnsAt prog w A g env target body Q E it s₂) E s := by
  subst hL
  have hlt : ax < s.heap.objs.size := by obtain ⟨_, e, _⟩ := hl; exact Heap.lt_size e
  have hne : ax ≠ s.heap.objs.size := Nat.ne_of_lt hlt
  have hI : ∀ p ∈ Led c₀, p.1 ≠ s.heap.objs.size := fun p hp => Nat.ne_of_lt (Heap.lt_size (N p hp).1)
  refine wpAny_pyIter_list hl ⟨s.heap.objs.size, [s.heap.objs.size, ax], [s.heap.objs.size], vs.toArray.size, _, _, _, m, Led c₀, fun i m' nx => (nx.map (·.1) = (Led c₀).map (·.1)) ∧ ∃ c', nx = Led c' ∧ (∀ p ∈ ps c', m' p.1 = some p.2) ∧ J (vals.take i) c', rfl,
    KTurns.ofWalks (Walks.list hh s.heap.objs.size ax hne vs.toArray) (fun i v s Q E st q => letGo_listiter st.1 q), ?_, ?_, ?_, ⟨⟨_, Heap.get?_push_size _ rfl, rfl, rfl⟩, hl.push _⟩, F.push _, (fun p hp => ⟨Heap.get?_push_of_some _ (N p hp).1, (N p hp).2⟩), ⟨rfl, c₀, rfl, hk, by simpa using hj⟩, ?_, ?_⟩
  · intro hm
    rcases List.mem_cons.mp hm with e | hm
    · exact absurd F.ns.lt (e ▸ Nat.lt_irrefl _)
    · exact hxL (List.mem_singleton.mp hm)
  · intro b hb
    rw [List.mem_singleton.mp hb]
    exact next_is_new F
  · intro p hp hb
    exact hI p hp (List.mem_singleton.mp hb)
  · rintro i v m₁ nx h tk own hi hp ⟨hadr, c, rfl, h1, hJ⟩ hw ho₁ ho₂ ho₃ st F₁ N₁
    have hp' : vs[i]? = some v := by simpa using hp
    obtain ⟨a, ha, hva⟩ := hv i v hp'
    have hs : vals.take (i + 1) = vals.take i ++ [a] := by simp [List.take_add_one, ha]
    have e : vals = vals.take i ++ a :: vals.drop (i + 1) := by
      have ht := List.take_append_drop (i + 1) vals
      rw [hs, List.append_assoc] at ht
      exact ht.symm
    dsimp only
    rw [hs]
    refine wpAny_mono (turn c _ a _ v m₁ h tk own e hva (fun p hp => ?_) hJ (fr_nf F₁ _ h1) (fun p hp => N₁ p (by
      rcases List.mem_append.mp hp with hp | hp
      · exact List.mem_append_right _ hp
      · exact List.mem_append_left _ hp))) (fun _ s₃ h₃ => wpAny_mono h₃ (fun f s₄ h₄ => ?_) fun _ _ e => e) fun _ _ e => e
    · have := ho₁ p hp
      rcases List.mem_cons.mp this with q | q
      · right
        intro b hb q'
        obtain ⟨z, hz, rfl⟩ := List.mem_map.mp hb
        exact hI z hz (q'.symm.trans q)
      · left; exact List.mem_singleton.mp q
    · have fin : ∀ s₄, InvEndN g env.locals (fun m' nx => ∃ c', nx = Led c' ∧ (∀ p ∈ ps c', m' p.1 = some p.2) ∧ J (vals.take i ++ [a]) c') own ((Led c₀).map (·.1)) { s with heap := h, toks := tk } s₄ →
          LoopStepU g env.locals [s.heap.objs.size] own (fun m' nx => (nx.map (·.1) = (Led c₀).map (·.1)) ∧ ∃ c', nx = Led c' ∧ (∀ p ∈ ps c', m' p.1 = some p.2) ∧ J (vals.take i ++ [a]) c') { s with heap := h, toks := tk } .next s₄ := by
        rintro s₄ ⟨h', tk', m', news', nx, rfl, F', N', hn', ho', ha', hj'⟩
        refine LoopStepU.intro F' (fun p hp => N' p ?_) (fun p hp hb => ?_) ⟨ha', hj'⟩
        · rcases List.mem_append.mp hp with hp | hp
          · exact ho' p hp
          · exact hn' p hp
        · have hm : p.1 ∈ (Led c₀).map (·.1) := ha' ▸ List.mem_map_of_mem hp
          obtain ⟨z, hz, hz'⟩ := List.mem_map.mp hm
          exact hI z hz (hz'.trans (List.mem_singleton.mp hb))
      cases f with
      | ret v => exact .ret h₄
      | brk => exact .brk h₄
      | next => exact .next (fin _ h₄)
      | cont => exact .cont (fin _ h₄)
  · rintro h tk m₁ nx F₁ N₁ hw ⟨_, c, rfl, h1, hJ⟩
    rw [List.take_of_length_le (by simp [hn])] at hJ
    exact done c m₁ h tk hJ (fr_nf F₁ _ h1) N₁
section
variable {M : Model} {A : Around} {E : Value → Shared → Prop} {s : Shared} {h₀ : Heap} {L c : Addr} {m : Str → Option Value} {news : List (Addr × Obj)} {cl : List (Str × Addr)} {env : Env} {x : Str} {v : Value} {v₀ : Option Value} {o : Obj}
/-- a cell is stored: the ledger anew -/
theorem cell_store {Q : Unit → Shared → Prop} (rest : List (Addr × Obj)) (F : Fr h₀ L s.heap m) (N : News h₀ L s.heap news) (hc : env.cells.lookup x = some c) (hm : (c, o) ∈ news) (hd : o.data = .cell v₀)
    (hr : ∀ p ∈ rest, p ∈ news) (hne : ∀ p ∈ rest, p.1 ≠ c)
    (h : ∀ h' o', Fr h₀ L h' m → News h₀ L h' ((c, o') :: rest) → o'.data = .cell (some v) → Q () { s with heap := h' })
    (hk : env.scope.kind = .function := by rfl) (hx : env.kindOf x = some .cell := by rfl) : wpAny M A (storeName env x v) Q E s := by
  have hmem := N (c, o) hm
  refine wpAny_storeName_cell hk hx hc ⟨o, hmem.1, hd⟩ fun h' hv hs => ?_
  obtain ⟨o', ho', hd'⟩ := hv
  refine h h' o' ⟨F.ns.sameBut hs (Ne.symm hmem.2.1), fun b ob e => (hs.2 b (fun q => ?_)).trans (F.keep b ob e), F.above⟩ ?_ hd'
  · rw [q, hmem.2.2] at e; cases e
  · intro p hp
    rcases List.mem_cons.mp hp with rfl | hp
    · exact ⟨ho', hmem.2⟩
    · exact ⟨(hs.2 _ (hne p hp)).trans (N p (hr p hp)).1, (N p (hr p hp)).2⟩
end
end Mine
end
section
open PySem PySem.W PyProof.Rows PySem.Spec PySem.Calls Mine
namespace Mine
theorem joined_Pr : True := by
  w_top off
  trivial
local macro_rules | `(tactic| walk_at "LeaveK") => `(tactic| (refine Stop.intro ?_))
local macro_rules | `(tactic| walk_at "exec For Name Name cons nil") => `(tactic| (refine Stop.intro ?_))
local macro_rules | `(tactic| walk_at "pyIter ref") => `(tactic| (refine Stop.intro ?_))
local macro_rules | `(tactic| walk_at "InvEndN") => `(tactic| (refine Stop.intro ?_))
local macro_rules | `(tactic| walk_at "CIter") => `(tactic| (refine Stop.intro ?_))
local macro_rules | `(tactic| walk_at "Leaf") => `(tactic| (refine Stop.intro ?_))
local macro_rules | `(tactic| walk_at "exec Assign cons ListComp") => `(tactic| (refine Stop.intro ?_))
local macro_rules | `(tactic| walk_at "eval ListComp") => `(tactic| (refine Stop.intro ?_))
theorem cell_stop {M : Model} {A : Around} {E : Value → Shared → Prop} {s : Shared} {env : Env} {x : Str} {v : Value} {Q : Unit → Shared → Prop} (h : Stop (wpAny M A (storeName env x v) Q E s)) (_hx : env.kindOf x = some .cell := by rfl) : wpAny M A (storeName env x v) Q E s := h
local macro_rules | `(tactic| walk_at "storeName") => `(tactic| (k_here; with_unfolding_all refine cell_stop ?_ (by rfl)))
/-- the turns of a word's signs -/
noncomputable def turnsL (hs : List Int) (x : Str) : List Int := (signs x).map fun z => turnsF z hs
/-- how many of a word's < and > are gone -/
noncomputable def goneF (hs : List Int) (x : Str) : List Nat := (List.range (signs x).length).filter fun k => decide (0 < (turnsL hs x).getD k 0) && (Txt.item x (k : Int) != Str.ofString "&")
set_option genInjectivity false in
set_option genSizeOf false in
/-- the row of prices while the words pass -/
structure PC where
  ow : Obj
  ot : Obj
  vw : Option Value
  vt : Option Value
  ys : List Value
  n : Nat
/-- the third price of a word -/
noncomputable def p2F (hs : List Int) (x : Str) : Int :=
  if (turnsL hs x).any (fun t => decide (0 < t)) = true then 2 * (2 * (turnsL hs x).sum + ((turnsL hs x).length : Int) - ((turnsL hs x).count 0 : Int) + (if 1 < ((turnsL hs x).count 0 : Int) then 1 else ((turnsL hs x).count 0 : Int))) - (if x = Str.ofString "&" then 2 else 0) else 0
noncomputable def prL (hs : List Int) (pre : List Str) : List Int :=
  [(pre.map fun x => 8 * (turnsL hs x).sum).sum, (pre.map fun x => 2 * (turnsL hs x).sum + 2 * ((goneF hs x).length : Int)).sum, (pre.map fun x => p2F hs x).sum]
theorem prL_snoc (hs : List Int) (pre : List Str) (z : Str) : prL hs (pre ++ [z]) = [(pre.map fun x => 8 * (turnsL hs x).sum).sum + 8 * (turnsL hs z).sum, (pre.map fun x => 2 * (turnsL hs x).sum + 2 * ((goneF hs x).length : Int)).sum + (2 * (turnsL hs z).sum + 2 * ((goneF hs z).length : Int)), (pre.map fun x => p2F hs x).sum + p2F hs z] := by
  unfold prL
  simp only [List.map_append, List.sum_append, List.map_cons, List.map_nil, List.sum_cons, List.sum_nil, Int.add_zero]
theorem p2F_amp {hs : List Int} {x : Str} (h : (turnsL hs x).any (fun t => decide (0 < t)) = true) (e : x = Str.ofString "&") : p2F hs x = 2 * (2 * (turnsL hs x).sum + ((turnsL hs x).length : Int) - ((turnsL hs x).count 0 : Int) + (if 1 < ((turnsL hs x).count 0 : Int) then 1 else ((turnsL hs x).count 0 : Int))) - 2 := by
  unfold p2F
  rw [if_pos h, if_pos e]
theorem p2F_other {hs : List Int} {x : Str} (h : (turnsL hs x).any (fun t => decide (0 < t)) = true) (e : ¬ x = Str.ofString "&") : p2F hs x = 2 * (2 * (turnsL hs x).sum + ((turnsL hs x).length : Int) - ((turnsL hs x).count 0 : Int) + (if 1 < ((turnsL hs x).count 0 : Int) then 1 else ((turnsL hs x).count 0 : Int))) - 0 := by
  unfold p2F
  rw [if_pos h, if_neg e]
theorem any_pos_of {l : List Int} {M : Int} (hm : M ∈ l) (h : 0 < M) : l.any (fun t => decide (0 < t)) = true := List.any_eq_true.mpr ⟨M, hm, decide_eq_true h⟩
theorem any_pos_none {l : List Int} {M : Int} (hb : ∀ a ∈ l, a ≤ M) (h : ¬ 0 < M) : l.any (fun t => decide (0 < t)) = false := by
  rw [List.any_eq_false]
  intro a ha
  have := hb a ha
  simp only [decide_eq_true_eq]
  omega
section
variable {w : World} {mean : ExcName → Option Value} {mg mb : Str → Option Value} {dp un : Nat} {gd : Option (List Code)} {cn : Str} {cs : Scope} {a : Addr} {ccd : Value} {cl : List (Str × Addr)} {outer : List Env} {A₀ : Around} {base h₀ : Heap} {L : Addr} {m : Str → Option Value} {news : List (Addr × Obj)} {s : Shared} {Q E : Value → Shared → Prop}


local macro_rules | `(tactic| walk_at "call ref") => `(tactic| (k_here; refine' turns_use ?B ?F ?X ?N ?T ?hk ?hd ?hu ?hm ?hv ?hl ?hb ?_; (case B | F | X | N | T => k_asm); (case hk => rfl); (case hd => first | assumption | ktr_room); (case hu => first | assumption | ktr_units); (case hm => tb_rel); (case hv | hl | hb => assumption); intro t9 h9 tk9 F' N' I'; (try dsimp only); (try k_sweep)))
section
variable {prog : Program} {w : World} {A : Around} {E : Value → Shared → Prop} {s : Shared} {h₀ : Heap} {L D : Addr} {m : Str → Option Value} {news : List (Addr × Obj)} {vs : List Value} {ns : List Int} {n : Nat} {k x : Int} {t u : Tok}
theorem ints_get {Q : Value → Shared → Prop} (N : News h₀ L s.heap news) (hm : (D, listOf (List.toArray vs) n) ∈ news) (hi : IntsAre vs ns) (h0 : 0 ≤ k) (h1 : k < ns.length) (hfit : ns.length < 1000000) (h : ∀ t', Q (.int (ns.getD k.toNat 0) t') s) :
    wpAny (model prog w) A (getItem (.ref D) (.int k t)) Q E s := by
  obtain ⟨tx, hvx⟩ := hi.get k.toNat (ns.getD k.toNat 0) (by
    have : k.toNat < ns.length := by omega
    simp [List.getD_eq_getElem?_getD, this])
  exact wpAny_getItem_list (news_list N hm) h0 (by omega) (by simpa using hvx) (h tx)
theorem vals_len {Q : Value → Shared → Prop} (hl : vs.length < 1000000) (N : News h₀ L s.heap news) (hm : (D, listOf (List.toArray vs) n) ∈ news) (h : ∀ t tk, Q (.int vs.length t) { s with toks := tk }) : wpAny (model prog w) A (call (.builtin "len") [.ref D]) Q E s := by
  refine len_list (news_list N hm) (by rw [List.size_toArray]; omega) ?_
  rw [List.size_toArray]; exact h _ _
theorem ints_put {Q : Unit → Shared → Prop} (rest : List (Addr × Obj)) (F : Fr h₀ L s.heap m) (N : News h₀ L s.heap news) (hm : (D, listOf (List.toArray vs) n) ∈ news) (hi : IntsAre vs ns) (h0 : 0 ≤ k) (h1 : k < ns.length) (hfit : ns.length < 1000000)
    (hr : ∀ p ∈ rest, p ∈ news) (hne : ∀ p ∈ rest, p.1 ≠ D) (h : ∀ h' vs', Fr h₀ L h' m → News h₀ L h' ((D, listOf (List.toArray vs') n) :: rest) → IntsAre vs' (ns.set k.toNat x) → Q () { s with heap := h' }) :
    wpAny (model prog w) A (setItem (.ref D) (.int k t) (.int x u)) Q E s := by
  refine ksa_set (news := (D, listOf (List.toArray vs) n) :: rest) F (fun p hp => ?_) (Upd.head hne) hi h0 h1 (by omega) fun h' F' N' hi' _ _ => h h' _ F' N' hi'
  rcases List.mem_cons.mp hp with rfl | hp
  · exact N _ hm
  · exact N p (hr p hp)
end
theorem paired_length {α : Type} {G : α → Value → Prop} : ∀ {as : List α} {ys : List Value}, Paired G as ys → ys.length = as.length := by
  intro as ys h
  induction h with
  | nil => rfl
  | cons _ _ ih => exact congrArg (· + 1) ih
theorem ints_of_paired {α : Type} {f : α → Int} : ∀ {as : List α} {ys : List Value}, Paired (fun a v => intV (f a) v) as ys → IntsAre ys (as.map f) := by
  intro as ys h
  induction h with
  | nil => exact .nil
  | cons h t ih =>
    obtain ⟨u, rfl⟩ := h
    exact .cons _ _ ih
local macro_rules | `(tactic| walk_at "subscriptTail Name Name ref int") => `(tactic| (k_here; refine' ints_item (s := ⟨_, _, _, _, _⟩) ?hl ?N ?hm ?hv ?hj ?_; (case N => k_asm); (case hm => tb_rel); (case hv => assumption); (case hl | hj => omega); intro t9 tk9; (try dsimp only)))
local macro_rules | `(tactic| walk_at "getItem ref int") => `(tactic| (k_here; refine' ints_get ?N ?hm ?hi ?h0 ?h1 ?hf ?_; (case N => k_asm); (case hm => tb_rel); (case hi => assumption); (case h0 => decide); (case h1 => (show _ < ((3 : Nat) : Int); decide)); (case hf => (show 3 < 1000000; decide)); intro t9; (try dsimp only)))
local macro_rules | `(tactic| walk_at "setItem ref int") => `(tactic| (refine Stop.intro ?_))
local macro_rules | `(tactic| walk_at "call builtin:len") => `(tactic| (k_here; refine' vals_len ?hl ?N ?hm ?_; (case N => k_asm); (case hm => tb_rel); (case hl => omega); intro t9 tk9; (try dsimp only)))
theorem prices_use {x y : Str} {t u : Tok} {Dp Dh : Addr} {vs : List Value} {hs : List Int} {c e : Nat} (B : Below A₀ base outer h₀) (F : Fr h₀ L s.heap m) (X : (hd.heap_1 w.params).In h₀) (N : News h₀ L s.heap news) (T : Top hdV (looseW hdV [Str.ofString "EXACT_TOKEN_TYPES"]) mean mg mb h₀)
    (hk : cs.kind = .function) (hlx : 0 < x.length ∧ x.length < 1000) (hly : 0 < y.length ∧ y.length < 1000) (hdp : dp + 2 < recursionLimit) (hun : un + 16 < cLine) (hmp : (Dp, listOf (List.toArray [.str x t, .str y u]) e) ∈ news) (hm : (Dh, listOf (List.toArray vs) c) ∈ news) (hv : IntsAre vs hs) (hl : hs.length < 1000) (hb : ∀ h ∈ hs, 0 ≤ h ∧ h < 5)
    (hret : ∀ (D : Addr) (ys : List Value) (c : Nat) (h' : Heap) (tk' : Nat), Fr h₀ L h' m → News h₀ L h' ((D, listOf (List.toArray ys) c) :: news) → (∀ p ∈ news, p.1 ≠ D) → IntsAre ys (prL hs [x, y]) → Q (.ref D) { s with heap := h', toks := tk' }) :
    wpAny (model PySem.Challenge.rw_tv0046_01.row.prog w) (ktrTop dp un gd cn cs L a ccd cl outer) (call (.ref 151) [.ref Dp, .ref Dh]) Q E s := by
  revert X; k_fill; intro X
  refine wpAny_call ?_
  (k_dflt ((refine' code_defC ?k1 ?k2 ?k3 ?k4 ?k5 ?kA ?kF ?kK ?k6 ?k7 ?k8 ?k9 ?kB ?kD ?_ ?c2 ?c3 ?c4; (case kA => exact rfl); (case kF => exact rfl); (case kK => first | exact rfl | assumption); (case k1 => k_asm); (case k2 => k_asm); (case k3 => k_asm); (case k4 => k_asm); (case k5 => k_asm); (case k6 => k_is); (case k7 => k_is); (case k8 => first | k_room | ktr_room | (refine Nat.lt_of_succ_lt ?_; assumption)); (case k9 => first | exact BindsTo.of_eq rfl | exact binds_K (by k_in) rfl (by k_is) rfl rfl rfl); (case kB => exact rfl); (case kD => decide +kernel); (case c2 => exact rfl); (case c3 => exact rfl); (case c4 => exact rfl); k_whole; intro g2 L2 h2 tk2 cells2 FG F2 N2 Y2 B2 X2 T2 lN; (try k_lt lN); k_cells Y2; (try simp only [List.cons_append, List.nil_append] at N2); (try dsimp only); (try k_lift B2); (try k_fold))))
  k_steps
  unfold Stop
  rename Fr _ _ _ _ => F5
  refine For_turns F5 ?_
  k_steps
  unfold Stop
  rename News _ _ _ _ => N5
  rename_i oA oB oC dA dB dC Dr hx lD tkx
  have dH : oC.data = .cell (some (.ref Dh)) := dC
  have dW : ∃ v, oB.data = .cell v := ⟨_, dB⟩
  have dT : ∃ v, oA.data = .cell v := ⟨_, dA⟩
  clear dA dB dC
  have dl : ∀ p ∈ news, p.1 < L2 + 1 := fun p hp => Nat.lt_succ_of_lt (lN p hp)
  have d1 : ∀ p ∈ news, p.1 ≠ L2 + 1 := fun p hp => Nat.ne_of_lt (dl p hp)
  have d2 : ∀ p ∈ news, p.1 ≠ L2 + 1 + 1 := fun p hp => Nat.ne_of_lt (Nat.lt_succ_of_lt (dl p hp))
  have d3 : ∀ p ∈ news, p.1 ≠ L2 + 1 + 1 + 1 := fun p hp => Nat.ne_of_lt (Nat.lt_succ_of_lt (Nat.lt_succ_of_lt (dl p hp)))
  have dP : ∀ p ∈ news, p.1 ≠ Dr := fun p hp => Nat.ne_of_lt (Nat.lt_trans (dl p hp) lD.2.2.1)
  have e1 : L2 + 1 + 1 + 1 ≠ Dr := Nat.ne_of_lt lD.1
  have e2 : L2 + 1 + 1 ≠ Dr := Nat.ne_of_lt lD.2.1
  have e3 : L2 + 1 ≠ Dr := Nat.ne_of_lt lD.2.2.1
  clear lN lD dl
  have hpl := (N5 _ (List.mem_cons_of_mem _ (List.mem_cons_of_mem _ (List.mem_cons_of_mem _ (List.mem_cons_of_mem _ hmp)))))
  refine turns_st (σ := PC) (V := strV) (vals := [x, y]) (vs := [.str x t, .str y u]) (by exact rfl) (fun c => [(Str.ofString "pair", .ref Dp), (Str.ofString "prices", .ref Dr)])
    (fun c => (Dr, listOf (List.toArray c.ys) c.n) :: (L2 + 1 + 1 + 1, c.ot) :: (L2 + 1 + 1, c.ow) :: (L2 + 1, oC) :: news)
    (fun pre c => c.ow.data = .cell c.vw ∧ c.ot.data = .cell c.vt ∧ IntsAre c.ys (prL hs pre)) ⟨oB, oA, _, _, _, _⟩ rfl ⟨_, hpl.1, rfl, _, rfl⟩ rfl ?_ hpl.2.1.symm F5 N5 (by kst_all) ⟨Classical.choose_spec dW, Classical.choose_spec dT, ?_⟩ ?_ ?_
  · intro i v hv
    cases i with
    | zero => cases hv; exact ⟨x, rfl, t, rfl⟩
    | succ i => cases i with
      | zero => cases hv; exact ⟨y, rfl, u, rfl⟩
      | succ i => simp at hv
  · exact .cons _ _ (.cons _ _ (.cons _ _ .nil))
  · rintro ⟨ow, ot, vw, vt, ys, n⟩ pre z post v uu h1 tk1 own hvals ⟨tz, rfl⟩ hoff ⟨hw, ht, hy⟩ F7 N7
    dsimp only [kstB] at hw ht hy hoff N7 F7
    have hz : 0 < z.length ∧ z.length < 1000 := by
      have hmem : z ∈ [x, y] := by rw [hvals]; simp
      rcases List.mem_cons.mp hmem with rfl | hmem
      · exact hlx
      · rw [List.mem_singleton.mp hmem]; exact hly
    have off : ∀ b, b ∈ [Dr, L2 + 1 + 1 + 1, L2 + 1 + 1, L2 + 1] → Dp ≠ b → ∀ p ∈ own, p.1 ≠ b := fun b hb hd p hp => (hoff p hp).elim (fun e => e ▸ hd) (fun h => h b (show b ∈ [Dr, L2 + 1 + 1 + 1, L2 + 1 + 1, L2 + 1] ++ news.map (fun q : Addr × Obj => q.1) from List.mem_append_left _ hb))
    k_steps
    unfold Stop
    refine cell_store ((Dr, listOf (List.toArray ys) n) :: (L2 + 1 + 1 + 1, ot) :: (L2 + 1, oC) :: (news ++ own)) F7 N7 (by rfl) (List.mem_append_left _ (List.mem_cons_of_mem _ (List.mem_cons_of_mem _ (.head _)))) hw ?_ ?_ ?_ (by rfl) (by rfl)
    · (intro p hp; simp only [List.mem_cons, List.mem_append, List.cons_append, List.not_mem_nil, or_false] at hp ⊢; (repeat' (with_reducible refine Or.elim hp (fun hp => ?_) (fun hp => ?_))); all_goals simp only [hp, true_or, or_true])
    · refine List.forall_mem_cons.mpr ⟨Ne.symm e2, List.forall_mem_cons.mpr ⟨Ne.symm (Nat.ne_of_lt (Nat.lt_succ_self _)), List.forall_mem_cons.mpr ⟨Nat.ne_of_lt (Nat.lt_succ_self _), fun p hp => ?_⟩⟩⟩
      exact (List.mem_append.mp hp).elim (d2 p) (off _ (.tail _ (.tail _ (.head _))) (d2 _ hmp) p)
    intro h2 ow2 F8 N8 hw2
    clear F7 N7 hw
    k_steps
    unfold Stop
    refine wpAny_Assign_Name (comp_eval strV (fun _ => true) (fun a v => intV (turnsF a hs) v) (fun _ _ _ => strV_inj) (by rfl) (by decide) (by rfl) (by decide) (by rfl) ?_) (by rfl)
    k_steps
    unfold Stop
    refine ⟨signs z, _, _, _, ?_, Src.str (by rfl), F8, N8, ?_, ?_, ?_⟩
    · rw [signs_length, sizeLine_eq]; omega
    · intro C a1 v1 s2 m2 E2 hC ha1 hv1 hns hm2 F9 N9 cE
      exact wpAny_pure ⟨rfl, _, _, rfl, fun _ _ e => e⟩
    · rintro C a1 _ s2 m2 E2 hC ha1 ⟨ta, rfl⟩ _ hns hm2 F9 N9 cE
      k_steps
      unfold Stop
      exact ⟨⟨_, rfl⟩, _, _, rfl, by assumption⟩
    intro D2 ys2 n2 h3 tk3 F9 N9 hD2 hG
    have I2 : IntsAre ys2 (turnsL hs z) := by
      rw [show (signs z).filter (fun _ => true) = signs z from by simp] at hG
      exact ints_of_paired hG
    clear hG F8 N8
    k_steps
    unfold Stop
    refine cell_store ((L2 + 1 + 1, ow2) :: (Dr, listOf (List.toArray ys) n) :: (L2 + 1, oC) :: (D2, listOf (List.toArray ys2) n2) :: (news ++ own)) F9 N9 (by rfl) (List.mem_cons_of_mem _ (List.mem_cons_of_mem _ (List.mem_cons_of_mem _ (.head _)))) ht ?_ ?_ ?_ (by rfl) (by rfl)
    · (intro p hp; simp only [List.mem_cons, List.mem_append, List.cons_append, List.not_mem_nil, or_false] at hp ⊢; (repeat' (with_reducible refine Or.elim hp (fun hp => ?_) (fun hp => ?_))); all_goals simp only [hp, true_or, or_true])
    · refine List.forall_mem_cons.mpr ⟨Nat.ne_of_lt (Nat.lt_succ_self _), List.forall_mem_cons.mpr ⟨Ne.symm e1, List.forall_mem_cons.mpr ⟨Nat.ne_of_lt (Nat.lt_succ_of_lt (Nat.lt_succ_self _)), List.forall_mem_cons.mpr ⟨Ne.symm (hD2 (L2 + 1 + 1 + 1, ot) (.tail _ (.tail _ (.head _)))), fun p hp => ?_⟩⟩⟩⟩
      exact (List.mem_append.mp hp).elim (d3 p) (off _ (.tail _ (.head _)) (d3 _ hmp) p)
    intro h4 ot2 F10 N10 ht2
    clear F9 N9 ht
    k_steps
    unfold Stop
    refine comp_assign natV (fun k => decide (0 < (turnsL hs z).getD k 0) && (Txt.item z (k : Int) != Str.ofString "&")) (fun a v => natV a v) (fun _ _ _ => natV_inj) (by rfl) (by rfl) (by decide) (by rfl) (by decide) (by rfl) (by rfl) (by rfl) ?_
    k_steps
    unfold Stop
    rename Fr _ _ _ _ => F11
    rename News _ _ _ _ => N11
    rename IsRange _ _ _ _ _ _ _ _ => R11
    have hl2 : (turnsL hs z).length = z.length := by simp [turnsL, signs_length]
    refine ⟨List.range z.length, _, _, _, ?_, Src.range (by rfl) R11 (by omega), F11, N11, ?_, ?_, ?_⟩
    · rw [List.length_range, sizeLine_eq]; omega
    · rintro C k _ s2 m2 E2 hC hk1 ⟨tk9, rfl⟩ hns hm2 F12 N12 cE
      have hkz : k < z.length := List.mem_range.mp hk1
      k_steps
      all_goals unfold Stop
      all_goals refine ⟨?_, _, _, rfl, fun _ _ e => e⟩
      all_goals simp only [Int.toNat_natCast] at *
      all_goals show _ = (decide (0 < (turnsL hs z).getD k 0) && (Txt.item z (k : Int) != Str.ofString "&"))
      · rename (0 < _) => q1
        rename ((_ != _) = true) => q2
        rw [decide_eq_true q1, q2]; rfl
      · rename (0 < _) => q1
        rename ((_ != _) = false) => q2
        rw [decide_eq_true q1, q2]; rfl
      · rename (¬ (0 < _)) => q1
        rw [decide_eq_false q1]; rfl
    · rintro C k _ s2 m2 E2 hC hk1 ⟨tk9, rfl⟩ _ hns hm2 F12 N12 cE
      k_steps
      unfold Stop
      exact ⟨⟨_, rfl⟩, _, _, rfl, fun _ _ e => e⟩
    intro D3 ys3 n3 h5 tk5 F12 N12 hD3 hG3
    have I3 : ys3.length = (goneF hs z).length := by
      have e : (List.range z.length).filter (fun k => decide (0 < (turnsL hs z).getD k 0) && (Txt.item z (k : Int) != Str.ofString "&")) = goneF hs z := by unfold goneF; rw [signs_length]
      rw [e] at hG3
      exact paired_length hG3
    have k3 : ys3.length < 1000 := by
      have h1 : (goneF hs z).length ≤ z.length := by
        unfold goneF
        refine Nat.le_trans (List.length_filter_le _ _) ?_
        rw [List.length_range, signs_length]; exact Nat.le_refl _
      omega
    have k2 : ys2.length = z.length := I2.length.trans hl2
    clear hG3
    have hrest : ∀ p ∈ (D3, listOf (List.toArray ys3) n3) :: (L2 + 1 + 1 + 1, ot2) :: (L2 + 1 + 1, ow2) :: (L2 + 1, oC) :: (D2, listOf (List.toArray ys2) n2) :: (news ++ own), p.1 ≠ Dr := by
      refine List.forall_mem_cons.mpr ⟨Ne.symm (hD3 (Dr, _) (.tail _ (.tail _ (.head _)))), List.forall_mem_cons.mpr ⟨e1, List.forall_mem_cons.mpr ⟨e2, List.forall_mem_cons.mpr ⟨e3, List.forall_mem_cons.mpr ⟨Ne.symm (hD2 (Dr, _) (.tail _ (.head _))), fun p hp => ?_⟩⟩⟩⟩⟩
      exact (List.mem_append.mp hp).elim (dP p) (off Dr (.head _) (dP _ hmp) p)
    k_steps
    unfold Stop
    rename Fr _ _ _ _ => F13
    rename News _ _ _ _ => N13
    refine ints_put _ F13 N13 (by tb_rel) hy (by decide) (by show _ < ((3 : Nat) : Int); decide) (by show 3 < 1000000; decide) (fun p hp => ?_) hrest ?_
    · revert p; (intro p hp; simp only [List.mem_cons, List.mem_append, List.cons_append, List.not_mem_nil, or_false] at hp ⊢; (repeat' (with_reducible refine Or.elim hp (fun hp => ?_) (fun hp => ?_))); all_goals simp only [hp, true_or, or_true])
    intro h6 vs6 F14 N14 I6
    k_steps
    unfold Stop
    clear F13 N13 F14 N14
    rename Fr _ _ _ _ => F15
    rename News _ _ _ _ => N15
    refine ints_put _ F15 N15 (by tb_rel) I6 (by decide) (by show _ < ((3 : Nat) : Int); decide) (by show 3 < 1000000; decide) (fun p hp => ?_) hrest ?_
    · revert p; (intro p hp; simp only [List.mem_cons, List.mem_append, List.cons_append, List.not_mem_nil, or_false] at hp ⊢; (repeat' (with_reducible refine Or.elim hp (fun hp => ?_) (fun hp => ?_))); all_goals simp only [hp, true_or, or_true])
    intro h7 vs7 F16 N16 I7
    have hne : turnsL hs z ≠ [] := by
      intro q
      rw [q] at hl2
      have := hz.1
      rw [← hl2] at this
      exact Nat.lt_irrefl _ this
    clear I6
    k_steps
    all_goals unfold Stop
    · rename Fr _ _ _ _ => F17
      rename News _ _ _ _ => N17
      rename (z == Str.ofString "&") = true => qz
      rename (_ ∈ turnsL hs z) => qm
      rename (0 < _) => q0
      have ep := p2F_amp (any_pos_of qm q0) (eq_of_beq qz)
      refine ints_put _ F17 N17 (by tb_rel) I7 (by decide) (by show _ < ((3 : Nat) : Int); decide) (by show 3 < 1000000; decide) (fun p hp => ?_) hrest ?_
      · revert p; (intro p hp; simp only [List.mem_cons, List.mem_append, List.cons_append, List.not_mem_nil, or_false] at hp ⊢; (repeat' (with_reducible refine Or.elim hp (fun hp => ?_) (fun hp => ?_))); all_goals simp only [hp, true_or, or_true])
      intro h8 vs8 F18 N18 I8
      k_steps
      unfold Stop
      rename Fr _ _ _ _ => F19
      rename News _ _ _ _ => N19
      refine for_end ⟨ow2, ot2, _, _, vs8, n⟩ F19 N19 (by (intro p hp; simp only [List.mem_cons, List.mem_append, List.cons_append, List.not_mem_nil, or_false] at hp ⊢; (repeat' (with_reducible refine Or.elim hp (fun hp => ?_) (fun hp => ?_))); all_goals simp only [hp, true_or, or_true])) (by (intro p hp; simp only [List.mem_cons, List.mem_append, List.cons_append, List.not_mem_nil, or_false] at hp ⊢; (repeat' (with_reducible refine Or.elim hp (fun hp => ?_) (fun hp => ?_))); all_goals simp only [hp, true_or, or_true])) (by rfl) (by kst_all) ⟨hw2, ht2, ?_⟩
      rw [prL_snoc, ep, ← I3]
      exact I8
    · rename Fr _ _ _ _ => F17
      rename News _ _ _ _ => N17
      rename (z == Str.ofString "&") = false => qz
      rename (_ ∈ turnsL hs z) => qm
      rename (0 < _) => q0
      have ep := p2F_other (any_pos_of qm q0) (fun e => by rw [e, beq_self_eq_true] at qz; cases qz)
      refine ints_put _ F17 N17 (by tb_rel) I7 (by decide) (by show _ < ((3 : Nat) : Int); decide) (by show 3 < 1000000; decide) (fun p hp => ?_) hrest ?_
      · revert p; (intro p hp; simp only [List.mem_cons, List.mem_append, List.cons_append, List.not_mem_nil, or_false] at hp ⊢; (repeat' (with_reducible refine Or.elim hp (fun hp => ?_) (fun hp => ?_))); all_goals simp only [hp, true_or, or_true])
      intro h8 vs8 F18 N18 I8
      k_steps
      unfold Stop
      rename Fr _ _ _ _ => F19
      rename News _ _ _ _ => N19
      refine for_end ⟨ow2, ot2, _, _, vs8, n⟩ F19 N19 (by (intro p hp; simp only [List.mem_cons, List.mem_append, List.cons_append, List.not_mem_nil, or_false] at hp ⊢; (repeat' (with_reducible refine Or.elim hp (fun hp => ?_) (fun hp => ?_))); all_goals simp only [hp, true_or, or_true])) (by (intro p hp; simp only [List.mem_cons, List.mem_append, List.cons_append, List.not_mem_nil, or_false] at hp ⊢; (repeat' (with_reducible refine Or.elim hp (fun hp => ?_) (fun hp => ?_))); all_goals simp only [hp, true_or, or_true])) (by rfl) (by kst_all) ⟨hw2, ht2, ?_⟩
      rw [prL_snoc, ep, ← I3]
      exact I8
    · rename Fr _ _ _ _ => F19
      rename News _ _ _ _ => N19
      rename (∀ a ∈ turnsL hs z, a ≤ _) => qm
      rename (¬ (0 < _)) => q0
      have ep : p2F hs z = 0 := by
        unfold p2F
        rw [any_pos_none qm q0]; rfl
      refine for_end ⟨ow2, ot2, _, _, vs7, n⟩ F19 N19 (by (intro p hp; simp only [List.mem_cons, List.mem_append, List.cons_append, List.not_mem_nil, or_false] at hp ⊢; (repeat' (with_reducible refine Or.elim hp (fun hp => ?_) (fun hp => ?_))); all_goals simp only [hp, true_or, or_true])) (by (intro p hp; simp only [List.mem_cons, List.mem_append, List.cons_append, List.not_mem_nil, or_false] at hp ⊢; (repeat' (with_reducible refine Or.elim hp (fun hp => ?_) (fun hp => ?_))); all_goals simp only [hp, true_or, or_true])) (by rfl) (by kst_all) ⟨hw2, ht2, ?_⟩
      rw [prL_snoc, ep, ← I3, Int.add_zero]
      exact I7
  · rintro ⟨ow, ot, vw, vt, ys, n⟩ uu h1 tk1 ⟨hw, ht, hy⟩ F7 N7
    dsimp only [kstB] at hw ht hy N7 F7
    clear N5
    k_steps
    unfold Stop
    rename Fr _ _ _ _ => F8
    rename News _ _ _ _ => N8
    refine leaveK_ (news' := (Dr, listOf (List.toArray ys) n) :: news) F8 (fun p hp => N8 p ?_) fun kF kN => hret _ _ _ _ _ kF kN dP hy
    revert p; (intro p hp; simp only [List.mem_cons, List.mem_append, List.cons_append, List.not_mem_nil, or_false] at hp ⊢; (repeat' (with_reducible refine Or.elim hp (fun hp => ?_) (fun hp => ?_))); all_goals simp only [hp, true_or, or_true])
end
end Mine
end
section
open PySem PySem.W PyProof.Rows PySem.Spec PySem.Calls PyProof.V
namespace Mine
/-- a for over a text's codes -/
theorem text_st {σ : Type} {prog : Program} {w : World} {A : Around} {E : Value → Shared → Prop} {s : Shared} {env : Env} {x : Str} {body : List Stmt} {Q : Flow → Shared → Prop} {g : Heap} {L : Addr} {m : Str → Option Value}
    {z : Str} {tz : Tok} (hL : env.locals = L) (ps : σ → List (Str × Value)) (Led : σ → List (Addr × Obj)) (J : List Nat → σ → Prop) (c₀ : σ)
    (hh : A.handled = none)
    (F : Fr g L s.heap m) (N : News g L s.heap (Led c₀)) (hk : ∀ p ∈ ps c₀, m p.1 = some p.2) (hj : J [] c₀)
    (turn : ∀ (c : σ) (pre : List Nat) (d : Nat) (post : List Nat) (t : Tok) (u : Str → Option Value) (h : Heap) (tk : Nat) (own : List (Addr × Obj)), z.cps.toList = pre ++ d :: post → OwnOff own ((Led c₀).map (·.1)) → J pre c →
      Fr g L h (fun y => if y = x then some (.str ⟨#[d]⟩ t) else kstB u (ps c) y) → News g L h (Led c ++ own) →
      wpAny (model prog w) A (execs body env) (InvPostN g L (fun m' nx => ∃ c', nx = Led c' ∧ (∀ p ∈ ps c', m' p.1 = some p.2) ∧ J (pre ++ [d]) c') own ((Led c₀).map (·.1)) { s with heap := h, toks := tk } Q) E { s with heap := h, toks := tk })
    (done : ∀ (c : σ) (u : Str → Option Value) (h : Heap) (tk : Nat), J z.cps.toList c → Fr g L h (kstB u (ps c)) → News g L h (Led c) → Q .next { s with heap := h, toks := tk }) :
    wpAny (model prog w) A (pyIter (.str z tz)) (fun it s₂ => LoopAtV prog w A g env x body Q E it s₂) E s := by
  subst hL
  refine wpAny_pyIter_str fun o St W h0 => ?_
  refine for_st rfl (fun (d : Nat) v => ∃ t, v = .str ⟨#[d]⟩ t) z.cps.toList ps Led J c₀ (W A hh) (by simp) ?_ ?_ ?_ ?_ ?_ h0 (F.push _) (fun p hp => ⟨Heap.get?_push_of_some _ (N p hp).1, (N p hp).2⟩) hk hj ?_ ?_
  · rintro i v hi ⟨c, u, hc, rfl⟩
    exact ⟨c, by simpa using hc, u, rfl⟩
  · intro hm
    exact absurd F.ns.lt ((List.mem_singleton.mp hm) ▸ Nat.lt_irrefl _)
  · intro b hb
    rw [List.mem_singleton.mp hb]
    exact next_is_new F
  · intro p hp hI
    exact absurd (Heap.lt_size (N p hp).1) ((List.mem_singleton.mp hI) ▸ Nat.lt_irrefl _)
  · intro p hp hI
    exact absurd (Heap.lt_size (N p hp).1) ((List.mem_singleton.mp hI) ▸ Nat.lt_irrefl _)
  · rintro c pre a post v u h tk own e ⟨t, rfl⟩ hoff hJ F₁ N₁
    exact turn c pre a post t u h tk own e hoff hJ F₁ N₁
  · exact done
section
variable {prog : Program} {w : World} {A : Around} {E : Value → Shared → Prop} {s : Shared} {h₀ : Heap} {L D : Addr} {m : Str → Option Value} {news : List (Addr × Obj)} {vs : List Value} {ns : List Int} {n : Nat} {k x y : Int} {t u : Tok}
theorem ints_snoc_set {v : Value} {vs : List Value} (h : IntsAre vs (ns ++ [y])) (hx : v = .int x u) : IntsAre (vs.set ns.length v) (ns ++ [x]) := by
  subst hx
  have := ints_set (x := x) (u := u) h ns.length
  rwa [show (ns ++ [y]).set ns.length x = ns ++ [x] from by simp] at this
/-- the last item is stored -/
theorem ints_setlast {Q : Unit → Shared → Prop} (rest : List (Addr × Obj)) (F : Fr h₀ L s.heap m) (N : News h₀ L s.heap news) (hm : (D, listOf (List.toArray vs) n) ∈ news) (hi : IntsAre vs (ns ++ [y])) (hfit : ns.length < 1000000)
    (hr : ∀ p ∈ rest, p ∈ news) (hne : ∀ p ∈ rest, p.1 ≠ D) (h : ∀ h' vs', Fr h₀ L h' m → News h₀ L h' ((D, listOf (List.toArray vs') n) :: rest) → IntsAre vs' (ns ++ [x]) → Q () { s with heap := h' }) :
    wpAny (model prog w) A (setItem (.ref D) (.int (-1) t) (.int x u)) Q E s := by
  have hl := hi.length
  rw [List.length_append, List.length_singleton] at hl
  have hs : (List.toArray vs).size = ns.length + 1 := by rw [List.size_toArray]; exact hl
  have N' : News h₀ L s.heap ([] ++ (D, listOf (List.toArray vs) n) :: rest) := fun p hp => by
    rcases List.mem_cons.mp hp with rfl | hp
    · exact N _ hm
    · exact N p (hr p hp)
  have z := N _ hm
  have ej : ((-1 : Int) + (List.toArray vs).size).toNat = ns.length := by rw [hs]; (first | lia | omega)
  refine ki_setBack z.1 (by decide) (by rw [hs]; (first | lia | omega)) (by decide) (h _ (vs.set ns.length (.int x u)) (F.change (Heap.SameBut.update ..) z.2.1 z.2.2) ?_ (ints_snoc_set hi rfl))
  refine ki_turn _ N' (fun _ h => nomatch h) hne ?_ ?_
  · rw [ej]
    apply Array.toList_inj.mp
    simp
  · simp
theorem ints_getlast {Q : Value → Shared → Prop} (N : News h₀ L s.heap news) (hm : (D, listOf (List.toArray vs) n) ∈ news) (hi : IntsAre vs (ns ++ [y])) (hfit : ns.length < 1000000) (h : ∀ t', Q (.int y t') s) :
    wpAny (model prog w) A (getItem (.ref D) (.int (-1) t)) Q E s := by
  have hl := hi.length
  rw [List.length_append, List.length_singleton] at hl
  have hs : (List.toArray vs).size = ns.length + 1 := by rw [List.size_toArray]; exact hl
  obtain ⟨tx, hvx⟩ := hi.get ns.length y (by simp)
  have ej : ((-1 : Int) + (List.toArray vs).size).toNat = ns.length := by rw [hs]; (first | lia | omega)
  refine wpAny_getItem_list_neg (news_list N hm) (by decide) (by rw [hs]; (first | lia | omega)) (by decide) ?_ (h tx)
  rw [ej]; simpa using hvx
theorem ints_last {value slice : PySem.Expr} {Q : Value → Shared → Prop} (N : News h₀ L s.heap news) (hm : (D, listOf (List.toArray vs) n) ∈ news) (hi : IntsAre vs (ns ++ [y])) (hfit : ns.length < 1000000) (h : ∀ t', Q (.int y t') s)
    (hs : ∀ v, subscripted slice false v (.int (-1) u) = operate [v, .int (-1) u] (getItem v (.int (-1) u)) := by intro _; with_unfolding_all rfl) :
    wpAny (model prog w) A (subscriptTail value slice (.ref D) (.int (-1) u)) Q E s :=
  tail_any (news_list N hm).typeIs slot_list_getitem.lookup (ints_getlast N hm hi hfit h) (hs _)
/-- all but the last number -/
theorem ints_cutlast {value slice : PySem.Expr} {Q : Value → Shared → Prop} (hfit : ns.length < 1000000) (F : Fr h₀ L s.heap m) (N : News h₀ L s.heap news) (hm : (D, listOf (List.toArray vs) n) ∈ news) (hi : IntsAre vs (ns ++ [y]))
    (h : ∀ D' vs' h', Fr h₀ L h' m → News h₀ L h' ((D', listOf (List.toArray vs') 0) :: news) → (∀ q ∈ news, q.1 < D') → IntsAre vs' ns → Q (.ref D') { s with heap := h' })
    (hs : ∀ v i, subscripted slice false v i = operate [i, v] (getItem v i) := by intro _ _; with_unfolding_all rfl)
    (ht : ∀ v r, letTemporaryGo value v r = pure () := by intro _ _; with_unfolding_all rfl) :
    wpAny (model prog w) A (subscriptTail value slice (.ref D) (.ref s.heap.objs.size)) Q E { s with heap := s.heap.push { cls := .type "slice", data := .fields #[.none, .int (-1) u, .none] } } := by
  have hl := hi.length
  rw [List.length_append, List.length_singleton] at hl
  refine kmk_slice F N (news_list N hm) .none (.int _ _) (fun D' h' F' N' hlt => ?_) (hs _ _) (ht _) (by rw [List.size_toArray, hl, sizeLine_eq]; (first | lia | omega))
  refine h D' (slicePick vs.toArray none (some (-1)) none).toList h' F' ?_ hlt ?_
  · rw [Array.toArray_toList]; exact N'
  · have e : sliceBounds none (some (-1)) none vs.toArray.size = (((0 : Nat) : Int), ((vs.toArray.size - 1 : Nat) : Int), 1) := by
      simp only [sliceBounds, Option.getD_none, show (1 : Int) > 0 by decide, if_true, if_pos (show (-1 : Int) < 0 by decide)]
      congr 1
      congr 1
      rw [List.size_toArray, hl]
      (first | lia | omega)
    rw [kmk_pick_nat _ e]
    show IntsAre ((vs.drop 0).take (vs.toArray.size - 1 - 0)) _
    rw [List.drop_zero, Nat.sub_zero, List.size_toArray, hl, Nat.add_sub_cancel]
    have := hi.take ns.length
    rwa [List.take_left'] at this
    rfl
/-- a number is appended -/
theorem ints_app {Q : Value → Shared → Prop} (rest : List (Addr × Obj)) (F : Fr h₀ L s.heap m) (N : News h₀ L s.heap news) (hm : (D, listOf (List.toArray vs) n) ∈ news) (hi : IntsAre vs ns) (hfit : ns.length < 1000000)
    (hr : ∀ p ∈ rest, p ∈ news) (hne : ∀ p ∈ rest, p.1 ≠ D) (h : ∀ h' vs' n', Fr h₀ L h' m → News h₀ L h' ((D, listOf (List.toArray vs') n') :: rest) → IntsAre vs' (ns ++ [x]) → Q .none { s with heap := h' }) :
    wpAny (model prog w) A (call (.builtin "list.append") [.ref D, .int x u]) Q E s := by
  have N' : News h₀ L s.heap ((D, listOf (List.toArray vs) n) :: rest) := fun p hp => by
    rcases List.mem_cons.mp hp with rfl | hp
    · exact N _ hm
    · exact N p (hr p hp)
  refine append_K F N' (Upd.head hne) (fun h' F' N'' => h h' (vs ++ [.int x u]) (n + 1) F' ?_ (hi.append (.cons _ _ .nil))) (by rw [List.size_toArray, hi.length, sizeLine_eq]; (first | lia | omega))
  rw [List.push_toArray] at N''
  exact N''
theorem strs_append : ∀ {vs ws : List Value} {ns ms : List Str}, StrsAre vs ns → StrsAre ws ms → StrsAre (vs ++ ws) (ns ++ ms) := by
  intro vs ws ns ms h h2
  induction h with
  | nil => exact h2
  | cons n t _ ih => exact .cons n t ih
theorem strs_app {x : Str} {vs : List Value} {ns : List Str} {Q : Value → Shared → Prop} (rest : List (Addr × Obj)) (F : Fr h₀ L s.heap m) (N : News h₀ L s.heap news) (hm : (D, listOf (List.toArray vs) n) ∈ news) (hi : StrsAre vs ns) (hfit : ns.length < 1000000)
    (hr : ∀ p ∈ rest, p ∈ news) (hne : ∀ p ∈ rest, p.1 ≠ D) (h : ∀ h' vs' n', Fr h₀ L h' m → News h₀ L h' ((D, listOf (List.toArray vs') n') :: rest) → StrsAre vs' (ns ++ [x]) → Q .none { s with heap := h' }) :
    wpAny (model prog w) A (call (.builtin "list.append") [.ref D, .str x u]) Q E s := by
  have N' : News h₀ L s.heap ((D, listOf (List.toArray vs) n) :: rest) := fun p hp => by
    rcases List.mem_cons.mp hp with rfl | hp
    · exact N _ hm
    · exact N p (hr p hp)
  refine append_K F N' (Upd.head hne) (fun h' F' N'' => h h' (vs ++ [.str x u]) (n + 1) F' ?_ (strs_append hi (.cons _ _ .nil))) (by rw [List.size_toArray, hi.length, sizeLine_eq]; (first | lia | omega))
  rw [List.push_toArray] at N''
  exact N''
end
/-- a list is given back, the rest of the ledger left -/
theorem leave_sub {h₀ g : Heap} {L L' : Addr} {m m' : Str → Option Value} {news rest : List (Addr × Obj)} {R : Result → Shared → Prop} {v : Value} {s' : Shared} {p0 : Addr × Obj}
    (F' : Fr g L' s'.heap m') (N' : News g L' s'.heap (p0 :: rest)) (hs : ∀ p ∈ news, p ∈ rest)
    (h : Fr h₀ L s'.heap m → News h₀ L s'.heap (p0 :: news) → R (.ok (.ret v)) s') : LeaveK h₀ L m g R v s' :=
  leaveK_ (news' := p0 :: news) F' (fun p hp => N' p ((List.mem_cons.mp hp).elim (fun e => e ▸ .head _) fun hp => .tail _ (hs p hp))) fun F N => h F N
end Mine
end
section
open PySem PySem.W PyProof.Rows PySem.Spec PySem.Calls PyProof.V
namespace Mine
/-- a list's iterator at a place -/
noncomputable def LIter (o : Obj) (D : Addr) (i : Nat) : Prop := o.cls = .type "list_iterator" ∧ o.data = .fields #[.ref D, .int i 0]
section
variable {prog : Program} {w : World} {A : Around} {E : Value → Shared → Prop} {s : Shared} {h₀ : Heap} {L D it : Addr} {m : Str → Option Value} {news : List (Addr × Obj)} {vs : List Value} {n i : Nat} {io : Obj} {x : Value}
theorem get_none_of_le {h : Heap} {a : Addr} (hle : h.objs.size ≤ a) : h.get? a = none := by
  cases q : h.get? a with
  | none => rfl
  | some o => exact absurd (Heap.lt_size q) (Nat.not_lt.mpr hle)
theorem iter_list {Q : Value → Shared → Prop} (F : Fr h₀ L s.heap m) (N : News h₀ L s.heap news) (hm : (D, listOf (List.toArray vs) n) ∈ news)
    (h : ∀ (I : Addr) h' oI, Fr h₀ L h' m → News h₀ L h' ((I, oI) :: news) → (∀ p ∈ news, p.1 < I) → LIter oI D 0 → Q (.ref I) { s with heap := h' }) :
    wpAny (model prog w) A (call (.builtin "iter") [.ref D]) Q E s := by
  refine call_function_entry (by decide +kernel) (by decide +kernel) kdk_entry_iter (kdk_args_iter _) ?_
  unfold Builtin.«iter»
  refine wpAny_bind (m := someArgs "iter" 1 2 _) (wpAny_of_eq (a := [Value.ref D]) (by first | rfl | kernel_rfl!) ?_)
  show wpAny _ _ (pyIter (.ref D) >>= _) _ _ _
  refine wpAny_bind (wpAny_pyIter_list (news_list N hm) ?_)
  exact wpAny_pure ⟨_, rfl, h _ _ _ (F.push _) (News.push F N _ rfl) (fun q hq => Heap.lt_size (N q hq).1) ⟨rfl, rfl⟩⟩
theorem li_special {items : Array Value} {Q : Option Value → Shared → Prop} (hit : s.heap.IsListIter it D i)
    (hl : s.heap.IsList D items) (hx : items[i]? = some x)
    (hQ : ∀ h', h'.IsListIter it D (i + 1) → Heap.SameBut it s.heap h' → Q (some x) { s with heap := h' }) :
    wpAny (model prog w) A (callSpecial? (.ref it) (Str.ofString "__next__")) Q E s := by
  obtain ⟨o, ho, hc, hd⟩ := id hit
  obtain ⟨ol, hol, _, nl, hdl⟩ := hl
  refine wpAny_callSpecial?_slot (name := Str.ofString "__next__") hit.typeIs slot_listiter_next
    (wpAny_call_entry slot_listiter_next hit.typeIs entry_listiter_next ?_ (args_listiter_next _))
  show wpAny _ _ (field (.ref it) 0 >>= _) _ _ s
  refine wpAny_bind (wpAny_field ho hd (x := .ref D) rfl ?_)
  show wpAny _ _ (if (Value.ref D == Value.none) = true then _ else _) _ _ s
  rw [if_neg (show ¬ ((Value.ref D == Value.none) = true) from Bool.false_ne_true)]
  show wpAny _ _ (field (.ref it) 1 >>= _) _ _ s
  refine wpAny_bind (wpAny_field ho hd (x := .int i 0) rfl ?_)
  show wpAny _ _ (seqItems? (.ref D) >>= _) _ _ s
  refine wpAny_bind (wpAny_seqItems hol hdl ?_)
  simp only [Int.toNat_natCast, hx]
  refine wpAny_bind (wpAny_setField ho hd (by simp) (wpAny_pure ⟨x, rfl, hQ _ ?_ (Heap.SameBut.update ..)⟩))
  exact ⟨_, Heap.get?_update_self _ ho (Obj.isFreed_of_fields (Obj.data_mapFields hd _)), (Obj.cls_mapFields ..).trans hc, by
    rw [Obj.data_mapFields hd]; simp [rawInt]⟩
theorem next_item {Q : Value → Shared → Prop} (rest : List (Addr × Obj)) (F : Fr h₀ L s.heap m) (N : News h₀ L s.heap news) (hm : (it, io) ∈ news) (hi : LIter io D i) (hl : (D, listOf (List.toArray vs) n) ∈ news) (hx : vs[i]? = some x)
    (hr : ∀ p ∈ rest, p ∈ news) (hne : ∀ p ∈ rest, p.1 ≠ it)
    (h : ∀ h' o', Fr h₀ L h' m → News h₀ L h' ((it, o') :: rest) → LIter o' D (i + 1) → Q x { s with heap := h' }) :
    wpAny (model prog w) A (call (.builtin "next") [.ref it]) Q E s := by
  have hp := N (it, io) hm
  have hit : s.heap.IsListIter it D i := ⟨io, hp.1, hi.1, hi.2⟩
  refine call_function_entry (by decide +kernel) (by decide +kernel) kdk_entry_next (kdk_args_next _) ?_
  unfold Builtin.«next»
  refine wpAny_bind (m := someArgs "next" 1 2 _) (wpAny_of_eq (a := [Value.ref it]) (by first | rfl | kernel_rfl!) ?_)
  dsimp only
  refine wpAny_bind (wpAny_specialOf (name := Str.ofString "__next__") hit.typeIs slot_listiter_next.lookup ?_)
  refine wpAny_ite_split (fun hab => absurd hab (by decide)) (fun _ => ?_)
  refine wpAny_bind (li_special hit (news_list N hl) (by simpa using hx) fun h' hit' hs => ?_)
  obtain ⟨o', ho', hc', hd'⟩ := hit'
  refine wpAny_pure ⟨_, rfl, h h' o' (F.change hs hp.2.1 hp.2.2) ?_ ⟨hc', hd'⟩⟩
  intro p hp'
  rcases List.mem_cons.mp hp' with rfl | hp'
  · exact ⟨ho', hp.2⟩
  · exact ⟨(hs.2 _ (hne p hp')).trans (N p (hr p hp')).1, (N p (hr p hp')).2⟩
theorem next_end {Q : Value → Shared → Prop} (rest : List (Addr × Obj)) (hh : A.handled = none) (F : Fr h₀ L s.heap m) (N : News h₀ L s.heap news) (hm : (it, io) ∈ news) (hi : LIter io D i) (hl : (D, listOf (List.toArray vs) n) ∈ news) (hx : vs[i]? = none)
    (hr : ∀ p ∈ rest, p ∈ news) (hne : ∀ p ∈ rest, p.1 ≠ it)
    (h : ∀ h1 h' e tk, Fr h₀ L h1 m → News h₀ L h1 rest → Heap.MadeExc h1 h' e "StopIteration" [] → E (.ref e) { s with heap := h', toks := tk }) :
    wpAny (model prog w) A (call (.builtin "next") [.ref it]) Q E s := by
  have hp := N (it, io) hm
  have hit : s.heap.IsListIter it D i := ⟨io, hp.1, hi.1, hi.2⟩
  refine call_function_entry (by decide +kernel) (by decide +kernel) kdk_entry_next (kdk_args_next _) ?_
  unfold Builtin.«next»
  refine wpAny_bind (m := someArgs "next" 1 2 _) (wpAny_of_eq (a := [Value.ref it]) (by first | rfl | kernel_rfl!) ?_)
  dsimp only
  refine wpAny_bind (wpAny_specialOf (name := Str.ofString "__next__") hit.typeIs slot_listiter_next.lookup ?_)
  refine wpAny_ite_split (fun hab => absurd hab (by decide)) (fun _ => ?_)
  refine wpAny_bind ?_
  obtain ⟨o, ho, hc, hd⟩ := id hit
  obtain ⟨ol, hol, _, nl, hdl⟩ := news_list N hl
  refine wpAny_callSpecial?_slot (name := Str.ofString "__next__") hit.typeIs slot_listiter_next
    (wpAny_call_entry slot_listiter_next hit.typeIs entry_listiter_next ?_ (args_listiter_next _))
  show wpAny _ _ (field (.ref it) 0 >>= _) _ _ s
  refine wpAny_bind (wpAny_field ho hd (x := .ref D) rfl ?_)
  show wpAny _ _ (if (Value.ref D == Value.none) = true then _ else _) _ _ s
  rw [if_neg (show ¬ ((Value.ref D == Value.none) = true) from Bool.false_ne_true)]
  show wpAny _ _ (field (.ref it) 1 >>= _) _ _ s
  refine wpAny_bind (wpAny_field ho hd (x := .int i 0) rfl ?_)
  show wpAny _ _ (seqItems? (.ref D) >>= _) _ _ s
  refine wpAny_bind (wpAny_seqItems hol hdl ?_)
  have hx' : (List.toArray vs)[i]? = none := by simpa using hx
  simp only [Int.toNat_natCast, hx']
  refine wpAny_bind (wpAny_rule (wpAny_bind (wpAny_setField ho hd (by simp) ?_)))
  show wpAny _ _ (newExc (.type "StopIteration") [] >>= _) _ _ _
  refine wpAny_bind ?_
  simp only [newExc, newTuple]
  refine wpAny_bind (wpAny_newObj_type ?_ (by size_fits))
  refine wpAny_bind (m := firstArgMember _ _) (wpAny_of_eq (a := Value.none) (by first | rfl | (simp only [firstArgMember]; rfl)) ?_)
  refine wpAny_newObj_type ?_ (by size_fits)
  simp only [raiseNew]
  refine wpAny_bind (wpAny_handled ?_)
  first | rw [show A.in1.handled = none from hh] | rw [hh]
  refine wpAny_bind (wpAny_pure (wpAny_throw ?_))
  have hs : Heap.SameBut it s.heap _ := Heap.SameBut.update s.heap it (Obj.mapFields (·.setIfInBounds 0 .none))
  refine h _ _ _ _ (F.change hs hp.2.1 hp.2.2) (fun p hp' => ⟨(hs.2 _ (hne p hp')).trans (N p (hr p hp')).1, (N p (hr p hp')).2⟩) ?_
  refine ⟨fun b o e => Heap.get?_push_of_some _ (Heap.get?_push_of_some _ e), ?_, _, Heap.get?_push_size _ rfl, ?_, ?_⟩
  · exact get_none_of_le (by rw [Heap.size_push]; exact Nat.le_succ _)
  · exact get_none_of_le (Nat.le_refl _)
  · exact Heap.get?_push_of_some _ (Heap.get?_push_size _ rfl)
end
theorem while_okE {prog : Program} {w : World} {A : Around} {E : Value → Shared → Prop} {s : Shared} {env : Env} {test : Expr} {body : List Stmt} {pos : Pos} {Q : Flow → Shared → Prop} (hE : PassesOwn (model prog w) A env E) (I : Nat → Shared → Prop) (n : Nat) (h0 : I n s)
    (turn : ∀ n s', I n s' → wpAny (model prog w) A (isTrue test env (eval test env)) (fun b s₂ =>
      if b then wpAny (model prog w) A (execs body env) (fun f s₃ => match f with
          | .next | .cont => ∃ k, k < n ∧ I k s₃
          | .brk => Q .next s₃
          | .ret v => Q (.ret v) s₃) E s₂
      else Q .next s₂) E s') :
    wpAny (model prog w) A (exec (.While test body [] pos) env) Q E s := by
  refine wpAny_While (codeAny_whileLoop I (fun n s' hI => ?_) n h0)
  refine wpAny_mono (turn n s' hI) (fun b s₂ h₂ => ?_) hE
  cases b with
  | false =>
    simp only [Bool.false_eq_true, if_false] at h₂ ⊢
    exact wpAny_execs_nil h₂
  | true =>
    simp only [if_true] at h₂ ⊢
    refine wpAny_mono h₂ (fun f s₃ h₃ => ?_) hE
    cases f <;> exact h₃
theorem while_stE {σ : Type} {prog : Program} {w : World} {A : Around} {E : Value → Shared → Prop} {s : Shared} {env : Env} {test : Expr} {body : List Stmt} {pos : Pos} {Q : Flow → Shared → Prop} {g : Heap} {L : Addr} {m : Str → Option Value} {news : List (Addr × Obj)} (hE : PassesOwn (model prog w) A env E)
    (ps : σ → List (Str × Value)) (Led : σ → List (Addr × Obj)) (J D : σ → Prop) (μ : σ → Nat) (c₀ : σ)
    (F : Fr g L s.heap m) (N : News g L s.heap news) (hk : ∀ p ∈ ps c₀, m p.1 = some p.2) (hn : ∀ p ∈ Led c₀, p ∈ news) (hj : J c₀)
    (turn : ∀ (c : σ) (u : Str → Option Value) (h : Heap) (tk : Nat), J c → Fr g L h (kstB u (ps c)) → News g L h (Led c) →
      wpAny (model prog w) A (isTrue test env (eval test env)) (fun b s₂ =>
        if b then wpAny (model prog w) A (execs body env) (fun f s₃ => match f with
          | .next => WEnd g L ps Led (fun c' => J c' ∧ μ c' < μ c) s s₃
          | .cont => WEnd g L ps Led (fun c' => J c' ∧ μ c' < μ c) s s₃
          | .brk => WEnd g L ps Led D s s₃
          | .ret v => Q (.ret v) s₃) E s₂
        else WEnd g L ps Led D s s₂) E { s with heap := h, toks := tk })
    (done : ∀ (c : σ) (u : Str → Option Value) (h : Heap) (tk : Nat), D c → Fr g L h (kstB u (ps c)) → News g L h (Led c) → Q .next { s with heap := h, toks := tk }) :
    wpAny (model prog w) A (exec (.While test body [] pos) env) Q E s := by
  have out : ∀ s', WEnd g L ps Led D s s' → Q .next s' := by
    rintro s' ⟨c, hd, u, h, tk, rfl, F', N'⟩
    exact done c u h tk hd F' N'
  refine while_okE hE (fun n s' => ∃ c, n = μ c ∧ J c ∧ St g L (ps c) (Led c) s s') (μ c₀) ⟨c₀, rfl, hj, ⟨m, s.heap, s.toks, rfl, fr_nf F _ hk, fun p hp => N p (hn p hp)⟩⟩ ?_
  rintro n s' ⟨c, rfl, hJ, u, h, tk, rfl, F', N'⟩
  refine wpAny_mono (turn c u h tk hJ F' N') (fun b s₂ h₂ => ?_) fun _ _ x => x
  cases b with
  | false => exact out _ h₂
  | true =>
    refine wpAny_mono h₂ (fun f s₃ h₃ => ?_) fun _ _ x => x
    cases f with
    | ret v => exact h₃
    | brk => exact out _ h₃
    | next => obtain ⟨c', ⟨hJ', hμ⟩, hs⟩ := h₃; exact ⟨_, hμ, c', rfl, hJ', hs⟩
    | cont => obtain ⟨c', ⟨hJ', hμ⟩, hs⟩ := h₃; exact ⟨_, hμ, c', rfl, hJ', hs⟩
end Mine
end
section
open PySem PySem.W PyProof.Rows PySem.Spec PySem.Calls Mine
namespace Mine
theorem joined_Va : True := by
  w_top off
  trivial
local macro_rules | `(tactic| walk_at "InvEndN") => `(tactic| (refine Stop.intro ?_))
local macro_rules | `(tactic| walk_at "LeaveK") => `(tactic| (refine Stop.intro ?_))
local macro_rules | `(tactic| walk_at "pyIter str") => `(tactic| (refine Stop.intro ?_))
local macro_rules | `(tactic| walk_at "exec For Name Name cons nil") => `(tactic| (refine Stop.intro ?_))
local macro_rules | `(tactic| walk_at "setItem ref int") => `(tactic| (refine Stop.intro ?_))
local macro_rules | `(tactic| walk_at "getItem ref int") => `(tactic| (refine Stop.intro ?_))
local macro_rules | `(tactic| walk_at "subscriptTail Name UnaryOp ref int") => `(tactic| (refine Stop.intro ?_))
local macro_rules | `(tactic| walk_at "subscriptTail Name Constant ref int") => `(tactic| (refine Stop.intro ?_))
local macro_rules | `(tactic| walk_at "call builtin:list.append") => `(tactic| (refine Stop.intro ?_))
/-- the numbers that a text's codes spell -/
noncomputable def numF : Int → List Nat → List Int
  | _, [] => []
  | a, c :: r => if c / 64 = 0 then (a * 64 + (c % 64 : Nat)) :: numF 0 r else numF (a * 64 + (c % 64 : Nat)) r
theorem fm64 (d : Nat) : ((d : Int)).fmod 64 = ((d % 64 : Nat) : Int) := by
  rw [Int.fmod_eq_emod_of_nonneg _ (by decide)]; rfl
theorem fd64 (d : Nat) : ((d : Int)).fdiv 64 = ((d / 64 : Nat) : Int) := by
  rw [Int.fdiv_eq_ediv_of_nonneg _ (by decide)]; rfl
set_option genInjectivity false in
set_option genSizeOf false in
/-- the row of values while the signs pass -/
structure VC where
  ys : List Value
  n : Nat
  dn : List Int
  ac : Int
section
variable {w : World} {mean : ExcName → Option Value} {mg mb : Str → Option Value} {dp un : Nat} {gd : Option (List Code)} {cn : Str} {cs : Scope} {a : Addr} {ccd : Value} {cl : List (Str × Addr)} {outer : List Env} {A₀ : Around} {base h₀ : Heap} {L : Addr} {m : Str → Option Value} {news : List (Addr × Obj)} {s : Shared} {Q E : Value → Shared → Prop}
theorem values_use {x : Str} {t : Tok} (B : Below A₀ base outer h₀) (F : Fr h₀ L s.heap m) (X : (hd.heap_1 w.params).In h₀) (N : News h₀ L s.heap news) (T : Top hdV (looseW hdV [Str.ofString "EXACT_TOKEN_TYPES"]) mean mg mb h₀)
    (hk : cs.kind = .function) (hx : x.length < 1000) (hdp : dp + 1 < recursionLimit) (hun : un + 8 < cLine)
    (hret : ∀ (D : Addr) (ys : List Value) (c : Nat) (h' : Heap) (tk' : Nat), Fr h₀ L h' m → News h₀ L h' ((D, listOf (List.toArray ys) c) :: news) → (∀ p ∈ news, p.1 < D) → IntsAre ys (numF 0 x.cps.toList) → Q (.ref D) { s with heap := h', toks := tk' }) :
    wpAny (model PySem.Challenge.rw_tv0046_01.row.prog w) (ktrTop dp un gd cn cs L a ccd cl outer) (call (.ref 141) [.str x t]) Q E s := by
  revert X; k_fill; intro X
  refine wpAny_call ?_
  (k_dflt cell_enter)
  rename Fr _ _ _ _ => F1
  have F2 : Fr _ _ _ (fun y => List.lookup y [(Str.ofString "text", Value.str x t)]) := F1
  clear F1
  k_steps
  unfold Stop
  rename Fr _ _ _ _ => F3
  refine For_invVF F3 rfl rfl ?_
  k_steps
  unfold Stop
  rename Fr _ _ _ _ => F4
  rename News _ _ _ _ => N4
  rename (∀ p ∈ news, Prod.fst p < _) => lD
  refine text_st (σ := VC) (by exact rfl) (fun c => [(Str.ofString "text", Value.str x t), (Str.ofString "values", .ref _)]) (fun c => (_, listOf (List.toArray c.ys) c.n) :: news)
    (fun pre c => IntsAre c.ys (c.dn ++ [c.ac]) ∧ c.dn.length ≤ pre.length ∧ ∀ rest, numF 0 (pre ++ rest) = c.dn ++ numF c.ac rest) ⟨_, _, [], 0⟩ rfl F4 N4 (by kst_all) ⟨.cons _ _ .nil, Nat.le_refl _, fun _ => rfl⟩ ?_ ?_
  · rintro ⟨ys, n, dn, ac⟩ pre d post td uu h1 tk1 own hvals hoff ⟨hy, hlen, hnum⟩ F5 N5
    dsimp only [kstB] at F5 hy hlen hnum N5 hoff
    have h0 : ∀ p ∈ news ++ own, p.1 ≠ _ := fun p hp => (List.mem_append.mp hp).elim (fun hp => Nat.ne_of_lt (lD p hp)) (fun hp => hoff p hp _ (.head _))
    have lx : dn.length < 1000 := by
      have := congrArg List.length hvals
      rw [List.length_append, List.length_cons] at this
      have e : x.cps.toList.length = x.length := rfl
      (first | lia | omega)
    k_steps
    unfold Stop
    refine ints_last N5 (.head _) hy (by (first | lia | omega)) fun t9 => ?_
    k_steps
    unfold Stop
    rename Fr _ _ _ _ => F6
    rename News _ _ _ _ => N6
    refine ints_setlast (news ++ own) F6 N6 (.head _) hy (by (first | lia | omega)) (fun p hp => .tail _ hp) h0 fun h7 vs7 F7 N7 I7 => ?_
    rw [fm64] at I7
    k_steps
    all_goals unfold Stop
    · rename (_ = 0) => q0
      rw [fd64] at q0
      refine ints_app (news ++ own) F7 N7 (.head _) I7 (by rw [List.length_append, List.length_singleton]; (first | lia | omega)) (fun p hp => .tail _ hp) h0 fun h8 vs8 n8 F8 N8 I8 => ?_
      k_steps
      unfold Stop
      rename Fr _ _ _ _ => F9
      rename News _ _ _ _ => N9
      refine for_end ⟨vs8, n8, dn ++ [ac * 64 + (d % 64 : Nat)], 0⟩ F9 N9 (by (intro p hp; simp only [List.mem_cons, List.mem_append, List.cons_append, List.not_mem_nil, or_false] at hp ⊢; (repeat' (with_reducible refine Or.elim hp (fun hp => ?_) (fun hp => ?_))); all_goals simp only [hp, true_or, or_true])) (by (intro p hp; simp only [List.mem_cons, List.mem_append, List.cons_append, List.not_mem_nil, or_false] at hp ⊢; (repeat' (with_reducible refine Or.elim hp (fun hp => ?_) (fun hp => ?_))); all_goals simp only [hp, true_or, or_true])) (by rfl) (by kst_all) ⟨I8, ?_, fun rest => ?_⟩
      · simp only [List.length_append, List.length_singleton]; (first | lia | omega)
      · dsimp only
        rw [List.append_assoc, hnum, List.append_assoc]
        show dn ++ (if d / 64 = 0 then (ac * 64 + (d % 64 : Nat)) :: numF 0 rest else _) = _
        rw [if_pos (by (first | lia | omega))]; rfl
    · rename (_ ≠ 0) => q0
      rw [fd64] at q0
      rename Fr _ _ _ _ => F9
      rename News _ _ _ _ => N9
      refine for_end ⟨vs7, n, dn, ac * 64 + (d % 64 : Nat)⟩ F9 N9 (by (intro p hp; simp only [List.mem_cons, List.mem_append, List.cons_append, List.not_mem_nil, or_false] at hp ⊢; (repeat' (with_reducible refine Or.elim hp (fun hp => ?_) (fun hp => ?_))); all_goals simp only [hp, true_or, or_true])) (by (intro p hp; simp only [List.mem_cons, List.mem_append, List.cons_append, List.not_mem_nil, or_false] at hp ⊢; (repeat' (with_reducible refine Or.elim hp (fun hp => ?_) (fun hp => ?_))); all_goals simp only [hp, true_or, or_true])) (by rfl) (by kst_all) ⟨I7, ?_, fun rest => ?_⟩
      · simp only [List.length_append, List.length_singleton]; (first | lia | omega)
      · dsimp only
        rw [List.append_assoc, hnum]
        show dn ++ (if d / 64 = 0 then _ else numF (ac * 64 + (d % 64 : Nat)) rest) = _
        rw [if_neg (by (first | lia | omega))]
  · rintro ⟨ys, n, dn, ac⟩ uu h1 tk1 ⟨hy, hlen, hnum⟩ F5 N5
    dsimp only [kstB] at F5 hy hlen hnum N5
    have lx : dn.length < 1000 := by
      have e : x.cps.toList.length = x.length := rfl
      (first | lia | omega)
    k_steps
    unfold Stop
    rename IntsAre _ _ => I6
    rename Fr _ _ _ _ => F6
    rename News _ _ _ _ => N6
    rename (_ < _ ∧ AllLt _ news) => l6
    rw [show List.take ((dn ++ [ac]).length - 1) (dn ++ [ac]) = dn from by simp] at I6
    refine leave_sub F6 N6 (fun p hp => .tail _ hp) fun kF kN => hret _ _ _ _ _ kF kN (fun p hp => kst_ltOf l6.2 p hp) ?_
    have := hnum []
    simp only [List.append_nil, numF] at this
    rw [this]; exact I6
end
end Mine
end
section
open PySem PySem.W PyProof.Rows PySem.Spec PySem.Calls Mine
namespace Mine
theorem joined_Nu : True := by
  w_top off
  trivial
local macro_rules | `(tactic| walk_at "LeaveK") => `(tactic| (refine Stop.intro ?_))
local macro_rules | `(tactic| walk_at "call builtin:next") => `(tactic| (refine Stop.intro ?_))
local macro_rules | `(tactic| walk_at "exec While BinOp cons nil") => `(tactic| (refine Stop.intro ?_))
local macro_rules | `(tactic| walk_at "exec While") => `(tactic| (refine Stop.intro ?_))
/-- one number's reading -/
noncomputable def vparse : Int → List Nat → Option (Int × List Nat)
  | _, [] => none
  | a, c :: r => if c / 64 = 0 then some (a * 64 + (c % 64 : Nat), r) else vparse (a * 64 + (c % 64 : Nat)) r
theorem numF_parse : ∀ (a : Int) (l : List Nat), numF a l = match vparse a l with | none => [] | some (v, r) => v :: numF 0 r
  | _, [] => rfl
  | a, c :: r => by
    rw [numF, vparse]
    by_cases h : c / 64 = 0
    · rw [if_pos h, if_pos h]
    · rw [if_neg h, if_neg h]; exact numF_parse _ r
theorem and63 : ∀ c, c < 128 → Builtin.bitAnd ((c : Nat) : Int) 63 = ((c % 64 : Nat) : Int) := by decide +kernel
theorem and64 : ∀ c, c < 128 → Builtin.bitAnd ((c : Nat) : Int) 64 = ((c / 64 * 64 : Nat) : Int) := by decide +kernel
theorem or64 {a x : Int} (ha : 0 ≤ a) (hx : 0 ≤ x) (hx1 : x < 64) : Builtin.bitOr (a * 64) x = a * 64 + x := by
  rw [bitOr_and, bitAnd_pp (by (first | lia | omega)) hx]
  have h1 := Nat.shiftLeft_add_eq_or_of_lt (show x.toNat < 2 ^ 6 by (first | lia | omega)) a.toNat
  have h2 := nat_or_add_and (a.toNat <<< 6) x.toNat
  have h3 : (a * 64).toNat = a.toNat <<< 6 := by rw [Nat.shiftLeft_eq]; (first | lia | omega)
  rw [h3]
  have : (a.toNat <<< 6 &&& x.toNat) = 0 := by (first | lia | omega)
  rw [this]; (first | lia | omega)
theorem fits6 {val : Int} {j : Nat} (h0 : 0 ≤ val) (h1 : val.toNat < 2 ^ (6 * j)) (hj : j ≤ 1000) : (Builtin.Int.intBits val : Int) + 6 ≤ 2 ^ 27 := by
  have h2 : Builtin.Int.intBits val ≤ 6 * j := PySem.intBits_le_iff.mpr (by rw [show val.natAbs = val.toNat from by (first | lia | omega)]; exact h1)
  have e : (2 : Int) ^ 27 = 134217728 := by decide
  rw [e]; (first | lia | omega)
theorem grow6 {val : Int} {j x : Nat} (h0 : 0 ≤ val) (h1 : val.toNat < 2 ^ (6 * j)) (hx : x < 64) : 0 ≤ val * 64 + (x : Int) ∧ (val * 64 + (x : Int)).toNat < 2 ^ (6 * (j + 1)) := by
  have e : 2 ^ (6 * (j + 1)) = 2 ^ (6 * j) * 64 := by rw [show 6 * (j + 1) = 6 * j + 6 from rfl, Nat.pow_add]
  rw [e]
  generalize 2 ^ (6 * j) = k at *
  (first | lia | omega)
set_option genInjectivity false in
set_option genSizeOf false in
structure NC where
  o : Obj
  j : Nat
  val : Int
  tv : Tok
  b : Nat
  tb : Tok
section
variable {w : World} {mean : ExcName → Option Value} {mg mb : Str → Option Value} {dp un : Nat} {gd : Option (List Code)} {cn : Str} {cs : Scope} {a : Addr} {ccd : Value} {cl : List (Str × Addr)} {outer : List Env} {A₀ : Around} {base h₀ : Heap} {L : Addr} {m : Str → Option Value} {news : List (Addr × Obj)} {s : Shared} {Q E : Value → Shared → Prop}
theorem varint_use {it D : Addr} {io : Obj} {vs : List Value} {ks r : List Nat} {i n : Nat} {v : Int} (B : Below A₀ base outer h₀) (F : Fr h₀ L s.heap m) (X : (hd.heap_1 w.params).In h₀) (N : News h₀ L s.heap ((it, io) :: news)) (T : Top hdV (looseW hdV [Str.ofString "EXACT_TOKEN_TYPES"]) mean mg mb h₀)
    (hk : cs.kind = .function) (hne : ∀ p ∈ news, p.1 ≠ it) (hm : (D, listOf (List.toArray vs) n) ∈ news) (hi : LIter io D i) (hv : IntsAre vs (ks.map Int.ofNat)) (hb : ∀ c ∈ ks, c < 128) (hlen : ks.length < 1000) (hp : vparse 0 (ks.drop i) = some (v, r)) (hdp : dp + 1 < recursionLimit) (hun : un + 8 < cLine)
    (hret : ∀ (t : Tok) (o' : Obj) (j : Nat) (h' : Heap) (tk' : Nat), i < j → j ≤ ks.length → ks.drop j = r → LIter o' D j → Fr h₀ L h' m → News h₀ L h' ((it, o') :: news) → Q (.int v t) { s with heap := h', toks := tk' }) :
    wpAny (model PySem.Challenge.rw_tv0046_01.row.prog w) (ktrTop dp un gd cn cs L a ccd cl outer) (call (.ref 35) [.ref it]) Q E s := by
  revert X; k_fill; intro X
  refine wpAny_call ?_
  (k_dflt cell_enter)
  rename Fr _ _ _ _ => F1
  have F2 : Fr _ _ _ (fun y => List.lookup y [(Str.ofString "iterator", Value.ref it)]) := F1
  clear F1
  k_steps
  unfold Stop
  rename News _ _ _ _ => N2
  have hil : i < ks.length := by
    apply Nat.lt_of_not_le
    intro q
    rw [List.drop_of_length_le q] at hp
    cases hp
  have lv : vs.length = ks.length := by have := hv.length; rwa [List.length_map] at this
  have item : ∀ j (h : j < ks.length), ∃ t, vs[j]? = some (.int (ks[j] : Nat) t) := fun j h => hv.get j _ (by simp [h])
  obtain ⟨t1, e1⟩ := item i hil
  refine next_item news F2 N2 (.head _) hi (.tail _ hm) e1 (fun p hp => .tail _ hp) hne fun h3 o3 F3 N3 I3 => ?_
  k_steps
  unfold Stop
  rename Fr _ _ _ _ => F4
  rename News _ _ _ _ => N4
  have hb1 : ks[i] < 128 := hb _ (List.getElem_mem hil)
  rw [List.drop_eq_getElem_cons hil, vparse] at hp
  rw [and63 _ hb1] at F4
  have g0 := grow6 (val := 0) (j := i) (x := ks[i] % 64) (Int.le_refl _) (Nat.two_pow_pos _) (Nat.mod_lt _ (by decide))
  rw [Int.zero_mul, Int.zero_add] at g0 hp
  refine while_st (σ := NC) (fun c => [(Str.ofString "iterator", .ref it), (Str.ofString "b", .int (c.b : Nat) c.tb), (Str.ofString "val", .int c.val c.tv)]) (fun c => (it, c.o) :: news)
    (fun c => LIter c.o D c.j ∧ i < c.j ∧ c.j ≤ ks.length ∧ c.b < 128 ∧ (0 ≤ c.val ∧ c.val.toNat < 2 ^ (6 * c.j)) ∧ (if c.b / 64 = 0 then some (c.val, ks.drop c.j) else vparse c.val (ks.drop c.j)) = some (v, r))
    (fun c => LIter c.o D c.j ∧ i < c.j ∧ c.j ≤ ks.length ∧ c.val = v ∧ ks.drop c.j = r) (fun c => ks.length - c.j) ⟨_, _, _, _, _, _⟩
    F4 N4 (by kst_all) (by (intro p hp; simp only [List.mem_cons, List.mem_append, List.cons_append, List.not_mem_nil, or_false] at hp ⊢; (repeat' (with_reducible refine Or.elim hp (fun hp => ?_) (fun hp => ?_))); all_goals simp only [hp, true_or, or_true])) ⟨I3, Nat.lt_succ_self _, hil, hb1, g0, hp⟩ ?_ ?_
  · clear F4 N4 g0 hp e1
    rintro ⟨o, j, val, tv, b, tb⟩ uu h5 tk5 ⟨hI, hij, hjl, hb5, hv5, hp5⟩ F5 N5
    dsimp only [kstB] at hI hij hjl hb5 hv5 hp5 F5 N5 ⊢
    k_steps
    · rename (Builtin.bitAnd _ 64 ≠ 0) => q
      rw [and64 _ hb5] at q
      have q' : ¬ b / 64 = 0 := fun e => q (by rw [e]; rfl)
      rw [if_neg q'] at hp5
      refine ilshift_int (by decide) (fits6 hv5.1 hv5.2 (by (first | lia | omega))) ?_
      k_steps
      unfold Stop
      rename Fr _ _ _ _ => F6
      rename News _ _ _ _ => N6
      have hjk : j < ks.length := by
        apply Nat.lt_of_not_le
        intro z
        rw [List.drop_of_length_le z] at hp5
        cases hp5
      obtain ⟨t1, e1⟩ := item j hjk
      refine next_item news F6 N6 (.head _) hI (.tail _ hm) e1 (fun p hp => .tail _ hp) hne fun h7 o7 F7 N7 I7 => ?_
      k_steps
      rename Fr _ _ _ _ => F8
      rename News _ _ _ _ => N8
      have hb8 : ks[j] < 128 := hb _ (List.getElem_mem hjk)
      have g8 := grow6 hv5.1 hv5.2 (Nat.mod_lt ks[j] (show 64 > 0 by decide))
      rw [List.drop_eq_getElem_cons hjk, vparse] at hp5
      rw [and63 _ hb8, show (2 : Int) ^ (6 : Int).toNat = 64 from rfl, or64 hv5.1 (by (first | lia | omega)) (by (first | lia | omega))] at F8
      refine WEnd.mk ⟨o7, j + 1, _, _, _, _⟩ F8 N8 (by kst_all) (by (intro p hp; simp only [List.mem_cons, List.mem_append, List.cons_append, List.not_mem_nil, or_false] at hp ⊢; (repeat' (with_reducible refine Or.elim hp (fun hp => ?_) (fun hp => ?_))); all_goals simp only [hp, true_or, or_true])) ⟨⟨I7, by dsimp only; (first | lia | omega), hjk, hb8, g8, hp5⟩, by dsimp only; (first | lia | omega)⟩
    · rename (Builtin.bitAnd _ 64 = 0) => q
      rw [and64 _ hb5] at q
      have q' : b / 64 = 0 := by (first | lia | omega)
      rw [if_pos q'] at hp5
      rename Fr _ _ _ _ => F6
      rename News _ _ _ _ => N6
      have e1 : val = v ∧ List.drop j ks = r := by
        injection hp5 with hp5
        injection hp5 with h1 h2
        exact ⟨h1, h2⟩
      exact WEnd.mk ⟨o, j, val, tv, b, tb⟩ F6 N6 (by kst_all) (by (intro p hp; simp only [List.mem_cons, List.mem_append, List.cons_append, List.not_mem_nil, or_false] at hp ⊢; (repeat' (with_reducible refine Or.elim hp (fun hp => ?_) (fun hp => ?_))); all_goals simp only [hp, true_or, or_true])) ⟨hI, hij, hjl, e1.1, e1.2⟩
  · clear F4 N4 g0 hp e1
    rintro ⟨o, j, val, tv, b, tb⟩ uu h5 tk5 ⟨hI, hij, hjl, hv5, hp5⟩ F5 N5
    dsimp only [kstB] at hI hij hjl hv5 hp5 F5 N5 ⊢
    k_steps
    unfold Stop
    rename Fr _ _ _ _ => F6
    rename News _ _ _ _ => N6
    subst hv5
    refine leaveK_ (news' := (it, o) :: news) F6 (fun p hp => N6 p ?_) fun kF kN => hret _ _ _ _ _ hij hjl hp5 hI kF kN
    revert p; (intro p hp; simp only [List.mem_cons, List.mem_append, List.cons_append, List.not_mem_nil, or_false] at hp ⊢; (repeat' (with_reducible refine Or.elim hp (fun hp => ?_) (fun hp => ?_))); all_goals simp only [hp, true_or, or_true])
end
end Mine
end
section
open PySem PySem.W PyProof.Rows PySem.Spec PySem.Calls
namespace Mine
section
variable {prog : Program} {w : World} {A₀ A : Around} {s : Shared} {base h₀ : Heap} {L : Addr} {m : Str → Option Value} {env : Env} {news : List (Addr × Obj)} {K : Frag} {p : Program} {loose : List Str} {mean : ExcName → Option Value} {mg mb : Str → Option Value}
    {R : Result → Shared → Prop} {name qual : Str} {params : Arguments} {body : List Stmt} {scope : Scope} {dV kV doc pm cdv ct oc : Value} {an od : Option Addr} {osl : Array (Option Value)} {f : Addr} {args : Args} {binds : List (Str × Value)}
/-- a def with a try is entered from the law itself -/
theorem enter_try (B : Below A₀ base [] h₀) (F : Fr h₀ L s.heap m) (X₀ : K.In h₀) (N : News h₀ L s.heap news) (T : Top p loose mean mg mb h₀) (hA : A.frames = some [env]) (hf : env.frame = some L) (hke : env.scope.kind = .function)
    (ho : K.lookup f = some ⟨oc, od, .func (fnOf name qual params body scope dV kV doc pm an cdv ct), osl⟩) (hcd : codeIn K cdv qual = true) (hroom : A.depth < recursionLimit)
    (hbind : BindsTo s (fnOf name qual params body scope dV kV doc pm an cdv ct) args binds) (hloc : ∀ y ∈ binds, scope.names.lookup y.1 = some .local)
    (h : ∀ g L' h₁, Fr h₀ L g m → Fr g L' h₁ (fun y => binds.reverse.lookup y) → News g L' h₁ news → Below A base [env] g → K.In g → Top p loose mean mg mb g → KtsDicts ([env].filterMap (·.frame)) g →
      wpAny (model prog w) (A.deeper (envOf qual scope L' f cdv)) (execs body (envOf qual scope L' f cdv))
        (fun fl s' => LeaveS0 ([env].filterMap (·.frame)) h₀ L m g R (match fl with | .ret v => v | _ => .none) s')
        (fun e s' => wpAny (model prog w) (A.deeper (envOf qual scope L' f cdv)) (leaving (envOf qual scope L' f cdv) e) (fun _ s'' => R (.error e) s'') (fun e' s'' => R (.error e') s'') s')
        { s with heap := h₁, toks := s.toks + binds.length })
    (hco : scope.isCoroutine = false) (hgen : scope.isGenerator = false) (hk : scope.kind = .function)
    (hcell : ∀ x ∈ scope.names, x.2 ≠ .cell) : codeAny (model prog w) A (.call (.ref f) args) R s := by
  obtain ⟨FG, BG, st, _⟩ := groundX (R := R) B F N hA hf hke
  have hfr : [env].filterMap (·.frame) = [L] := by simp [hf]
  have nL₀ : h₀.get? L = none := kts_self F
  refine codeAny_call_def (fd := fnX name qual params body scope [] dV kV doc pm an cdv ct) (body := body) (binds := binds) hroom ((X₀.keeps F.keep) _ _ ho) rfl (T.nolimit.keeps F.keep) (codeRec_of (X₀.keeps F.keep) hcd) rfl hbind hcell hloc (fun h₁ hns hk₁ => ?_) hco hgen hk
  obtain ⟨oL, es, ep, hL, hLd, hLk, hLf⟩ := id FG.ns
  refine wpAny_mono (h _ s.heap.objs.size h₁ FG ⟨hns, fun b o e => hk₁ b o (of_hideAll _ e), Nat.le_of_eq (hideAll_size _ _)⟩
    (fun p hp => ⟨hk₁ _ _ (N p hp).1, Nat.ne_of_lt (Heap.lt_size (N p hp).1), hideAll_none _ (List.mem_map_of_mem hp)⟩) BG (X₀.keeps st) (T.keeps st) (fun b hb => ?_)) (fun fl s' hl => ?_) fun _ _ y => y
  · rw [hfr, List.mem_singleton] at hb
    subst hb
    exact ⟨oL, es, ep, hL, hLd⟩
  · obtain ⟨g', L', m', news', T', F', N', k⟩ := hl
    rw [hfr] at T'
    obtain ⟨sl, hs⟩ := T'.up hL
    refine k ⟨⟨_, es, ep, F'.keep _ _ hs, hLd, hLk, hLf⟩, fun b o e => F'.keep b o (T'.other b o (st b o e) fun q => ?_), F.above⟩ fun p hp => ⟨(N' p hp).1, fun q => ?_, ?_⟩
    · rw [List.mem_singleton.mp q, nL₀] at e
      cases e
    · have := (N' p hp).2.2
      rw [q, hs] at this
      cases this
    · cases q : h₀.get? p.1 with
      | none => rfl
      | some o =>
        obtain ⟨sl', hs'⟩ := T'.up (st _ _ q)
        have := (N' p hp).2.2
        rw [hs'] at this
        cases this
end
end Mine
end
section
open PySem PySem.W PyProof.Rows PySem.Spec PySem.Calls Mine
namespace Mine
theorem joined_Nb : True := by
  w_top off
  trivial
local macro_rules | `(tactic| walk_at "LeaveK") => `(tactic| (refine Stop.intro ?_))
local macro_rules | `(tactic| walk_at "LeaveS0") => `(tactic| (refine Stop.intro ?_))
local macro_rules | `(tactic| walk_at "leaving ref") => `(tactic| (refine Stop.intro ?_))
local macro_rules | `(tactic| walk_at "noteFrame ref") => `(tactic| (refine Stop.intro ?_))
local macro_rules | `(tactic| walk_at "call builtin:next") => `(tactic| (refine Stop.intro ?_))
local macro_rules | `(tactic| walk_at "call builtin:iter") => `(tactic| (refine Stop.intro ?_))
local macro_rules | `(tactic| walk_at "call builtin:list.append") => `(tactic| (refine Stop.intro ?_))
local macro_rules | `(tactic| walk_at "exec While") => `(tactic| (refine Stop.intro ?_))
local macro_rules | `(tactic| walk_at "exec While Constant cons nil") => `(tactic| (refine Stop.intro ?_))
local macro_rules | `(tactic| walk_at "CIter") => `(tactic| (refine Stop.intro ?_))
local macro_rules | `(tactic| walk_at "Leaf") => `(tactic| (refine Stop.intro ?_))
local macro_rules | `(tactic| walk_at "eval ListComp") => `(tactic| (refine Stop.intro ?_))
local macro_rules | `(tactic| walk_at "call ref") => `(tactic| (refine Stop.intro ?_))
/-- a row of codes that ends a number -/
noncomputable def Ends (l : List Nat) : Prop := ∀ c, l.getLast? = some c → c / 64 = 0
theorem vparse_some : ∀ (a : Int) (l : List Nat), Ends l → l ≠ [] → ∃ v r, vparse a l = some (v, r) ∧ Ends r
  | _, [], _, h => absurd rfl h
  | a, c :: r, he, _ => by
    rw [vparse]
    by_cases h : c / 64 = 0
    · rw [if_pos h]
      refine ⟨_, _, rfl, fun d hd => he d ?_⟩
      rw [List.getLast?_cons, hd]; rfl
    · rw [if_neg h]
      cases r with
      | nil => exact absurd (he c rfl) h
      | cons d t => exact vparse_some _ (d :: t) (fun e he' => he e (by rw [List.getLast?_cons, he']; rfl)) (by simp)
/-- a sign's code -/
noncomputable def codeOf (x : Str) : Int := (x.cps.getD 0 0 : Nat)
theorem codes_signs (x : Str) : (signs x).map codeOf = x.cps.toList.map Int.ofNat := by
  unfold signs
  rw [List.map_map]
  rfl
theorem paired_ints {α : Type} {f : α → Int} : ∀ {as : List α} {ys : List Value}, Paired (fun a v => intV (f a) v) as ys → IntsAre ys (as.map f)
  | _, _, .nil => .nil
  | _, _, .cons (a := a) h t => by
    obtain ⟨u, rfl⟩ := h
    exact .cons _ _ (paired_ints t)
set_option genInjectivity false in
set_option genSizeOf false in
structure NL where
  o : Obj
  j : Nat
  ys : List Value
  n : Nat
  dn : List Int
section
variable {w : World} {mean : ExcName → Option Value} {mg mb : Str → Option Value} {dp un : Nat} {gd : Option (List Code)} {cn : Str} {cs : Scope} {a : Addr} {ccd : Value} {cl : List (Str × Addr)} {outer : List Env} {A₀ : Around} {base h₀ : Heap} {L : Addr} {m : Str → Option Value} {news : List (Addr × Obj)} {s : Shared} {Q E : Value → Shared → Prop}
theorem numbers_use {x : Str} {t : Tok} (B : Below A₀ h₀ [] h₀) (F : Fr h₀ L s.heap m) (X : (hd.heap_1 w.params).In h₀) (N : News h₀ L s.heap news) (T : Top hdV (looseW hdV [Str.ofString "EXACT_TOKEN_TYPES"]) mean mg mb h₀)
    (hk : cs.kind = .function) (hx : x.length < 1000) (hb : ∀ c ∈ x.cps.toList, c < 128) (he : Ends x.cps.toList) (hdp : dp + 2 < recursionLimit) (hun : un + 16 < cLine)
    (hret : ∀ (D : Addr) (ys : List Value) (c : Nat) (h' : Heap) (tk' : Nat), Fr h₀ L h' m → News h₀ L h' ((D, listOf (List.toArray ys) c) :: news) → (∀ p ∈ news, p.1 < D) → IntsAre ys (numF 0 x.cps.toList) → Q (.ref D) { s with heap := h', toks := tk' }) :
    wpAny (model PySem.Challenge.rw_tv0046_01.row.prog w) (ktrTop dp un gd cn cs L a ccd cl []) (call (.ref 134) [.str x t]) Q E s := by
  revert X; k_fill; intro X
  refine wpAny_call ?_
  (k_dflt ((refine' enter_try ?k1 ?k2 ?k3 ?k4 ?k5 ?kA ?kF ?kK ?k6 ?k7 ?k8 ?k9 ?kB ?_ ?c2 ?c3 ?c4 ?c5; (case kA => exact rfl); (case kF => exact rfl); (case kK => first | exact rfl | assumption); (case k1 => k_asm); (case k2 => k_asm); (case k3 => k_asm); (case k4 => k_asm); (case k5 => k_asm); (case k6 => k_is); (case k7 => k_is); (case k8 => first | k_room | ktr_room | (refine Nat.lt_of_succ_lt ?_; assumption)); (case k9 => first | exact BindsTo.of_eq rfl | exact binds_K (by k_in) rfl (by k_is) rfl rfl rfl); (case c5 => decide); (case kB => exact locs rfl); (case c2 => exact rfl); (case c3 => exact rfl); (case c4 => exact rfl); intro g' L' h' FG' F' N' B' X' T' D'; (try dsimp only); (try k_lift B'); (try k_fold))))
  rename KtsDicts _ _ => DD
  rename Fr _ _ _ _ => F1
  have F2 : Fr _ _ _ (fun y => List.lookup y [(Str.ofString "text", Value.str x t)]) := F1
  clear F1
  k_steps
  unfold Stop
  rename News _ _ _ _ => N2
  refine comp_eval strV (fun _ => true) (fun a v => intV (codeOf a) v) (fun _ _ _ => strV_inj) (by rfl) (by decide) (by rfl) (by decide) (by rfl) ?_
  k_steps
  unfold Stop
  refine ⟨signs x, _, _, _, ?_, Src.str (by rfl), F2, N2, ?_, ?_, ?_⟩
  · rw [signs_length, sizeLine_eq]; (first | lia | omega)
  · intro C a1 v1 s2 m2 E2 hC ha1 hv1 hns hm2 F9 N9 cE
    exact wpAny_pure ⟨rfl, _, _, rfl, fun _ _ e => e⟩
  · rintro C a1 _ s2 m2 E2 hC ha1 ⟨ta, rfl⟩ _ hns hm2 F9 N9 cE
    obtain ⟨d, hd, rfl⟩ := List.mem_map.mp ha1
    k_steps
    unfold Stop
    exact ⟨⟨_, rfl⟩, _, _, rfl, fun _ _ e => e⟩
  intro D ys n h3 tk3 F3 N3 hD hG
  have I3 : IntsAre ys (x.cps.toList.map Int.ofNat) := by
    rw [show (signs x).filter (fun _ => true) = signs x from by simp] at hG
    have := paired_ints hG
    rwa [codes_signs] at this
  clear hG
  k_steps
  unfold Stop
  refine iter_list F3 N3 (.head _) fun it h4 oI F4 N4 lt4 I4 => ?_
  k_steps
  unfold Stop
  rename Fr _ _ _ _ => F5
  rename News _ _ _ _ => N5
  rename (it < _ ∧ _ < _ ∧ AllLt _ news) => l5
  rename_i D2 h5 tk5
  have ltD2 := kst_ltOf l5.2.2
  have ne1 : ∀ p ∈ (D, listOf (List.toArray ys) n) :: news, p.1 ≠ it := fun p hp => Nat.ne_of_lt (lt4 p hp)
  have ne2 : ∀ p ∈ (it, oI) :: (D, listOf (List.toArray ys) n) :: news, p.1 ≠ D2 := List.forall_mem_cons.mpr ⟨Nat.ne_of_lt l5.1, List.forall_mem_cons.mpr ⟨Nat.ne_of_lt l5.2.1, fun p hp => Nat.ne_of_lt (ltD2 p hp)⟩⟩
  have hks : x.cps.toList.length < 1000 := hx
  generalize hK : x.cps.toList = ks at *
  refine while_stE (σ := NL) ?hE (fun c => [(Str.ofString "text", Value.str x t), (Str.ofString "octets", .ref it), (Str.ofString "numbers", .ref D2)]) (fun c => (D2, listOf (List.toArray c.ys) c.n) :: (it, c.o) :: (D, listOf (List.toArray ys) n) :: news)
    (fun c => LIter c.o D c.j ∧ c.j ≤ ks.length ∧ IntsAre c.ys c.dn ∧ numF 0 ks = c.dn ++ numF 0 (ks.drop c.j) ∧ Ends (ks.drop c.j) ∧ c.dn.length ≤ c.j) (fun _ => False) (fun c => ks.length - c.j) ⟨oI, 0, [], 0, []⟩
    F5 N5 (by kst_all) (fun _ hp => hp) ⟨I4, Nat.zero_le _, .nil, rfl, he, Nat.le_refl _⟩ ?_ (fun _ _ _ _ hf => hf.elim)
  case hE => first | passes_own | with_unfolding_all passes_own
  rintro ⟨o, j, ys2, n2, dn⟩ uu h6 tk6 ⟨hI, hjl, hy, hnum, hends, hlen⟩ F6 N6
  dsimp only [kstB] at hI hjl hy hnum hends hlen F6 N6 ⊢
  by_cases hnil : ks.drop j = []
  · k_steps
    unfold Stop
    refine wpAny_call ?_
    (k_dflt ((refine' code_defG ?k1 ?k2 ?k3 ?k4 ?k5 ?kA ?kF ?kK ?k6 ?k7 ?k8 ?k9 ?kB ?_ ?c2 ?c3 ?c4 ?c5; (case kA => exact rfl); (case kF => exact rfl); (case kK => first | exact rfl | assumption); (case k1 => k_asm); (case k2 => k_asm); (case k3 => k_asm); (case k4 => k_asm); (case k5 => k_asm); (case k6 => k_is); (case k7 => k_is); (case k8 => first | k_room | ktr_room | (refine Nat.lt_of_succ_lt ?_; assumption)); (case k9 => first | exact BindsTo.of_eq rfl | exact binds_K (by k_in) rfl (by k_is) rfl rfl rfl); (case c5 => decide); (case kB => exact locs rfl); (case c2 => exact rfl); (case c3 => exact rfl); (case c4 => exact rfl); intro g' L' h' FG' F' N' B' X' T' kG'; (try dsimp only); (try k_lift B'); (try k_fold))))
    k_steps
    unfold Stop
    rename News _ _ _ _ => N7
    rename Fr _ _ _ _ => F7
    refine next_end ((D2, listOf (List.toArray ys2) n2) :: (D, listOf (List.toArray ys) n) :: news) (by rfl) F7 N7 (.tail _ (.head _)) hI (.tail _ (.tail _ (.head _))) ?_ ?_ ?_ fun h8 h9 e9 tk9 F8 N8 ME => ?_
    · have hl := I3.length
      rw [List.length_map] at hl
      exact List.getElem?_eq_none (by rw [hl]; exact List.drop_eq_nil_iff.mp hnil)
    · (intro p hp; simp only [List.mem_cons, List.mem_append, List.cons_append, List.not_mem_nil, or_false] at hp ⊢; (repeat' (with_reducible refine Or.elim hp (fun hp => ?_) (fun hp => ?_))); all_goals simp only [hp, true_or, or_true])
    · exact List.forall_mem_cons.mpr ⟨Ne.symm (ne2 (it, oI) (.head _)), ne1⟩
    k_steps
    unfold Stop
    refine leave_raiseS (by assumption) (Heap.MadeExc.of ME) F8 N8 fun h10 t10 R10 _ U10 => ?_
    dsimp only
    refine caught_S0 (T' := "StopIteration") R10 (by assumption) (by assumption) U10 X T (by assumption) KtsTurn.refl (by k_is) (by decide +kernel) (by decide) (by rw [isSubtype_type]; kernel_rfl) (by rw [isSubtype_type]; kernel_rfl) (by rw [isSubtype_type]; kernel_rfl) fun h11 g11 news11 T11 F11 N11 _ N12 B11 X11 Y11 D11 => ?_
    k_steps
    unfold Stop
    rename Fr _ _ _ _ => F13
    refine leaveS0_ (news' := (D2, listOf (List.toArray ys2) n2) :: news) F13 (fun p hp => N12 p ?_) T11 fun kF kN => hret _ _ _ _ _ kF kN ltD2 ?_
    · revert p; (intro p hp; simp only [List.mem_cons, List.mem_append, List.cons_append, List.not_mem_nil, or_false] at hp ⊢; (repeat' (with_reducible refine Or.elim hp (fun hp => ?_) (fun hp => ?_))); all_goals simp only [hp, true_or, or_true])
    · rw [hnum, hnil]
      simpa [numF] using hy
  · obtain ⟨v, r, hp, hr⟩ := vparse_some 0 _ hends hnil
    k_steps
    unfold Stop
    rename Fr _ _ _ _ => F7
    rename News _ _ _ _ => N7
    have N7' : News _ _ _ ((it, o) :: (D2, listOf (List.toArray ys2) n2) :: (D, listOf (List.toArray ys) n) :: news) := fun p hp => N7 p (by revert p; (intro p hp; simp only [List.mem_cons, List.mem_append, List.cons_append, List.not_mem_nil, or_false] at hp ⊢; (repeat' (with_reducible refine Or.elim hp (fun hp => ?_) (fun hp => ?_))); all_goals simp only [hp, true_or, or_true]))
    refine varint_use (by assumption) F7 (by assumption) N7' (by assumption) (by rfl) (List.forall_mem_cons.mpr ⟨Ne.symm (ne2 (it, oI) (.head _)), ne1⟩) (.tail _ (.head _)) hI I3 hb hks hp (by first | assumption | ktr_room) (by first | assumption | ktr_units) fun t8 o8 j8 h8 tk8 hij hjl8 hr8 I8 F8 N8 => ?_
    k_steps
    unfold Stop
    refine ints_app ((it, o8) :: (D, listOf (List.toArray ys) n) :: news) F8 N8 (.tail _ (.head _)) hy (by (first | lia | omega)) (by (intro p hp; simp only [List.mem_cons, List.mem_append, List.cons_append, List.not_mem_nil, or_false] at hp ⊢; (repeat' (with_reducible refine Or.elim hp (fun hp => ?_) (fun hp => ?_))); all_goals simp only [hp, true_or, or_true])) (List.forall_mem_cons.mpr ⟨ne2 (it, oI) (.head _), fun p hp => ne2 p (.tail _ hp)⟩) fun h9 vs9 n9 F9 N9 I9 => ?_
    k_steps
    rename Fr _ _ _ _ => F10
    rename News _ _ _ _ => N10
    refine WEnd.mk ⟨o8, j8, vs9, n9, dn ++ [v]⟩ F10 N10 (by kst_all) (by (intro p hp; simp only [List.mem_cons, List.mem_append, List.cons_append, List.not_mem_nil, or_false] at hp ⊢; (repeat' (with_reducible refine Or.elim hp (fun hp => ?_) (fun hp => ?_))); all_goals simp only [hp, true_or, or_true])) ⟨⟨I8, hjl8, I9, ?_, ?_, ?_⟩, ?_⟩
    · dsimp only
      rw [hnum, numF_parse, hp, hr8, List.append_assoc]; rfl
    · dsimp only
      rw [hr8]; exact hr
    · dsimp only
      rw [List.length_append, List.length_singleton]; (first | lia | omega)
    · dsimp only
      (first | lia | omega)
end
end Mine
end
section
open PySem PySem.W PyProof.Rows PySem.Spec PySem.Calls PyProof.V Mine
namespace Mine
theorem joined_Tk : True := by
  w_top off
  trivial
local macro_rules | `(tactic| walk_at "LeaveK") => `(tactic| (refine Stop.intro ?_))
local macro_rules | `(tactic| walk_at "call builtin:list.append") => `(tactic| (refine Stop.intro ?_))
local macro_rules | `(tactic| walk_at "exec While") => `(tactic| (refine Stop.intro ?_))
local macro_rules | `(tactic| walk_at "exec While Compare cons nil") => `(tactic| (refine Stop.intro ?_))
local macro_rules | `(tactic| walk_at "exec While Call cons nil") => `(tactic| (refine Stop.intro ?_))
local macro_rules | `(tactic| walk_at "CIter") => `(tactic| (refine Stop.intro ?_))
local macro_rules | `(tactic| walk_at "Leaf") => `(tactic| (refine Stop.intro ?_))
local macro_rules | `(tactic| walk_at "exec Assign cons ListComp") => `(tactic| (refine Stop.intro ?_))
local macro_rules | `(tactic| walk_at "eval ListComp") => `(tactic| (refine Stop.intro ?_))
local macro_rules | `(tactic| walk_at "compareOp Eq ref ref") => `(tactic| (refine Stop.intro ?_))
local macro_rules | `(tactic| walk_at "subscriptTail Name Constant ref int") => `(tactic| (refine Stop.intro ?_))
local macro_rules | `(tactic| walk_at "compareOp In str ref") => `(tactic| (refine Stop.intro ?_))
local macro_rules | `(tactic| walk_at "subscriptTail Name Subscript ref str") => `(tactic| (refine Stop.intro ?_))
theorem keptElt {h₀ H : Heap} {L : Addr} {m : Str → Option Value} {news : List (Addr × Obj)} : KeptH (fun h => (Fr h₀ L h m ∧ News h₀ L h news) ∧ InElt H h) :=
  fun h ob a => ⟨keptFrN h ob a.1, fun b o e => Heap.get?_push_of_some _ (a.2 b o e)⟩
theorem slice_elt {prog : Program} {w : World} {A : Around} {E : Value → Shared → Prop} {s : Shared} {value slice : PySem.Expr} {x : Str} {t : Tok} {h₀ H : Heap} {L : Addr} {m : Str → Option Value} {news : List (Addr × Obj)} {Q : Value → Shared → Prop} {i j : Int} {ui uj : Tok} (hF : Fr h₀ L s.heap m) (hN : News h₀ L s.heap news) (hK : InElt H s.heap) (hx : x.length < 1000)
    (h : ∀ h' t' k, Fr h₀ L h' m → News h₀ L h' news → InElt H h' → Q (.str (Txt.slice x (some i) (some j)) t') { s with heap := h', toks := k })
    (hs : subscripted slice false (.str x t) (.ref s.heap.objs.size) = operate [.ref s.heap.objs.size, .str x t] (getItem (.str x t) (.ref s.heap.objs.size)) := by with_unfolding_all rfl)
    (ht : ∀ r, letTemporaryGo value (.str x t) r = pure () := by intro _; with_unfolding_all rfl) :
    wpAny (model prog w) A (subscriptTail value slice (.str x t) (.ref s.heap.objs.size)) Q E { s with heap := s.heap.push { cls := .type "slice", data := .fields #[.int i ui, .int j uj, .none] } } :=
  tail_of_ItemOn (SBH.sliceItem_ss keptElt ⟨⟨hF, hN⟩, hK⟩ (fun h' t' k a => h h' t' k a.1.1 a.1.2 a.2) (by rw [sizeLine_eq]; (first | lia | omega))) hs ht
local macro_rules | `(tactic| walk_at "subscriptTail Name Slice str ref") => `(tactic| (k_here; refine' slice_elt (s := ⟨_, _, _, _, _⟩) ?hF ?hN ?hK ?hx ?_; (case hF | hN => k_asm); (case hK | hx => assumption); intro h9 t9 k9 F' N' K'; (try dsimp only)))

theorem cell_stop2 {M : Model} {A : Around} {E : Value → Shared → Prop} {s : Shared} {env : Env} {x : Str} {v : Value} {Q : Unit → Shared → Prop} (h : Stop (wpAny M A (storeName env x v) Q E s)) (_hx : env.kindOf x = some .cell := by rfl) : wpAny M A (storeName env x v) Q E s := h
local macro_rules | `(tactic| walk_at "storeName") => `(tactic| (k_here; with_unfolding_all refine cell_stop2 ?_ (by rfl)))
/-- the letters -/
noncomputable def isA (c : Nat) : Bool := (decide (65 ≤ c) && decide (c ≤ 90)) || (decide (97 ≤ c) && decide (c ≤ 122))
/-- the table of exact tokens, by codes -/
noncomputable def tabT : List (List Nat × Int) := [([33], 54), ([33, 61], 28), ([37], 24), ([37, 61], 40), ([38], 19), ([38, 61], 41), ([40], 7), ([41], 8), ([42], 16), ([42, 42], 35), ([42, 42, 61], 46), ([42, 61], 38), ([43], 14), ([43, 61], 36), ([44], 12), ([45], 15), ([45, 61], 37), ([45, 62], 51), ([46], 23), ([46, 46, 46], 52), ([47], 17), ([47, 47], 47), ([47, 47, 61], 48), ([47, 61], 39), ([58], 11), ([58, 61], 53), ([59], 13), ([60], 20), ([60, 60], 33), ([60, 60, 61], 44), ([60, 61], 29), ([61], 22), ([61, 61], 27), ([62], 21), ([62, 61], 30), ([62, 62], 34), ([62, 62, 61], 45), ([64], 49), ([64, 61], 50), ([91], 9), ([93], 10), ([94], 32), ([94, 61], 43), ([123], 25), ([124], 18), ([124, 61], 42), ([125], 26), ([126], 31)]
noncomputable def tabF (l : List Nat) : Option Int := tabT.lookup l
/-- what the tokens' walk reads -/
inductive TokR : List Nat → List Int → Prop
  | nil : TokR [] []
  | blank {r : List Nat} {ts : List Int} : TokR r ts → TokR (32 :: r) ts
  | name {c d : Nat} {w r : List Nat} {ts : List Int} : isA c = true → (∀ e ∈ w, isA e = true) → isA d = false → TokR (d :: r) ts → TokR (c :: (w ++ d :: r)) (1 :: ts)
  | op {c n : Nat} {r : List Nat} {v : Int} {ts : List Int} : isA c = false → c ≠ 32 → 0 < n → n ≤ 3 → n ≤ (c :: r).length → tabF ((c :: r).take n) = some v → (∀ m, n < m → m ≤ 3 → tabF ((c :: r).take m) = none) → TokR ((c :: r).drop n) ts → TokR (c :: r) (v :: ts)
noncomputable def strI (n : Int) : Str := Str.ofString (toString n)
theorem item_get {x : Str} {p s e : Nat} {l : List Nat} (hl : x.cps.toList.drop p = l) (hs : l[s]? = some e) : Txt.item x ((p : Int) + (s : Int)) = ⟨#[e]⟩ := by
  have h1 : x.cps.toList[p + s]? = some e := by rw [← hs, ← hl, List.getElem?_drop]
  have h2 : p + s < x.length := (List.getElem?_eq_some_iff.mp h1).1
  have h3 := item_nat h2
  rw [signs_get h2] at h3
  have h4 : x.cps.getD (p + s) 0 = e := by
    have : x.cps[p + s]? = some e := by simpa using h1
    rw [Array.getD_eq_getD_getElem?, this]; rfl
  rw [h4] at h3
  have := Option.some.inj h3
  rw [this]; simp
theorem item_drop {x : Str} {p c : Nat} {r : List Nat} (hl : x.cps.toList.drop p = c :: r) : Txt.item x (p : Int) = ⟨#[c]⟩ := by
  have := item_get (s := 0) hl rfl
  simpa using this
theorem alpha_is : ∀ c, c < 128 → Txt.isalpha ⟨#[c]⟩ = isA c := by decide +kernel
theorem one_ne {c : Nat} (h : c ≠ 32) : ((⟨#[c]⟩ : Str) != Str.ofString " ") = true := by
  have : Str.ofString " " = ⟨#[32]⟩ := by decide +kernel
  rw [this]
  simp [h]
theorem name_end (c d : Nat) (w r : List Nat) : (c :: (w ++ d :: r))[w.length + 1]? = some d := by simp
theorem name_mid (c d : Nat) (w r : List Nat) {s : Nat} (h1 : 1 ≤ s) (h2 : s < w.length + 1) : ∃ e, e ∈ w ∧ (c :: (w ++ d :: r))[s]? = some e := by
  obtain ⟨k, rfl⟩ : ∃ k, s = k + 1 := ⟨s - 1, by (first | lia | omega)⟩
  have hk : k < w.length := by (first | lia | omega)
  refine ⟨w[k], List.getElem_mem hk, ?_⟩
  rw [List.getElem?_cons_succ, List.getElem?_append_left hk, List.getElem?_eq_getElem hk]
noncomputable def tabD : List (PyData × PyData) := tabT.map fun p => (PyData.str ⟨p.1.toArray⟩, PyData.int p.2)
theorem lookup_tab (l : List Nat) : ∀ T : List (List Nat × Int), PySem.Spec.lookup (PyData.str ⟨l.toArray⟩) (T.map fun p => (PyData.str ⟨p.1.toArray⟩, PyData.int p.2)) = (T.lookup l).map PyData.int
  | [] => rfl
  | (a, b) :: r => by
    rw [List.map_cons, List.lookup_cons]
    show (if PySem.Spec.same (PyData.str ⟨a.toArray⟩) (PyData.str ⟨l.toArray⟩) = true then _ else _) = _
    by_cases h : l = a
    · subst h
      simp [PySem.Spec.same]
    · have h1 : (l == a) = false := by simpa using h
      have h2 : ¬ PySem.Spec.same (PyData.str ⟨a.toArray⟩) (PyData.str ⟨l.toArray⟩) = true := by
        simp [PySem.Spec.same]
        exact fun e => h e.symm
      rw [if_neg h2, h1]
      exact lookup_tab l r
theorem tab_at {prog : Program} {w : World} {h : Heap} (X : (hd.heap_1 w.params).In h) : StrTab prog w h 36 tabD := by
  have := kt_tab_in (a := 36) (D := tabT.map fun p => ((⟨p.1.toArray⟩ : Str), PyData.int p.2)) prog w X (by kernel_rfl) (by decide) (by kernel_rfl)
  rw [List.map_map] at this
  exact this
theorem tab_in {prog : Program} {w : World} {A : Around} {E : Value → Shared → Prop} {s : Shared} {g : Heap} {L : Addr} {m : Str → Option Value} {l : List Nat} {t : Tok} {Q : Value → Shared → Prop} (X : (hd.heap_1 w.params).In g) (F : Fr g L s.heap m)
    (h : ∀ tk, Q (.bool (tabF l).isSome) { s with toks := tk }) : wpAny (model prog w) A (compareOp .In (.str ⟨l.toArray⟩ t) (.ref 36)) Q E s := by
  refine in_strTab (D := tabD) ((tab_at X).ofFr F) ?_
  unfold tabD
  rw [lookup_tab]
  rw [Option.isSome_map]
  exact h _
theorem tab_item {prog : Program} {w : World} {A : Around} {E : Value → Shared → Prop} {s : Shared} {g : Heap} {L : Addr} {m : Str → Option Value} {value slice : PySem.Expr} {l : List Nat} {v : Int} {t : Tok} {Q : Value → Shared → Prop} (X : (hd.heap_1 w.params).In g) (F : Fr g L s.heap m) (hl : tabF l = some v)
    (h : ∀ t' tk, Q (.int v t') { s with toks := tk })
    (hs : subscripted slice false (.ref 36) (.str ⟨l.toArray⟩ t) = operate [.ref 36, .str ⟨l.toArray⟩ t] (getItem (.ref 36) (.str ⟨l.toArray⟩ t)) := by with_unfolding_all rfl) :
    wpAny (model prog w) A (subscriptTail value slice (.ref 36) (.str ⟨l.toArray⟩ t)) Q E s := by
  refine item_tab_any (D := tabD) same_str (strKind_is prog w ⟨l.toArray⟩ t) ((tab_at X).ofFr F) (dv := .int v) ?_ (fun v' hv' => ?_) hs
  · unfold tabD
    rw [lookup_tab]
    unfold tabF at hl
    rw [hl]; rfl
  · obtain ⟨t', rfl⟩ := Flat.int_inv hv'
    exact h t' _
theorem slice_drop {x : Str} {p n : Nat} {l : List Nat} (hp : p ≤ x.length) (hl : x.cps.toList.drop p = l) : Txt.slice x (some (p : Int)) (some ((p : Int) + (n : Int))) = ⟨(l.take n).toArray⟩ := by
  show StrLaws.sliceText x (some (p : Int)) (some ((p : Int) + (n : Int))) = _
  by_cases hb : p + n ≤ x.length
  · have e : (p : Int) + (n : Int) = ((p + n : Nat) : Int) := by (first | lia | omega)
    rw [e, StrLaws.sliceText_nat x (Nat.le_add_right _ _) hb, hl, Nat.add_sub_cancel_left]
  · have e : StrLaws.sliceText x (some (p : Int)) (some ((p : Int) + (n : Int))) = StrLaws.sliceText x (some (p : Int)) (some (x.length : Int)) := by
      have a1 : ¬ ((p : Int) + (n : Int) < 0) := by (first | lia | omega)
      have a2 : ¬ ((x.length : Int) < 0) := by (first | lia | omega)
      have e1 : max (0 : Int) (min ((p : Int) + (n : Int)) (x.length : Int)) = x.length := by (first | lia | omega)
      have e2 : max (0 : Int) (min (x.length : Int) (x.length : Int)) = x.length := by (first | lia | omega)
      have e3 : Builtin.Str.strSliceIndices (some (p : Int)) (some ((p : Int) + (n : Int))) 1 x.length = Builtin.Str.strSliceIndices (some (p : Int)) (some (x.length : Int)) 1 x.length := by
        simp [Builtin.Str.strSliceIndices, a1, a2, e1, e2]
      unfold StrLaws.sliceText
      rw [e3]
    rw [e, StrLaws.sliceText_nat x hp (Nat.le_refl _), hl]
    have hll : l.length = x.length - p := by rw [← hl, List.length_drop]; rfl
    rw [List.take_of_length_le (by (first | lia | omega)), List.take_of_length_le (by (first | lia | omega))]
theorem tab_small {l : List Nat} {v : Int} (h : tabF l = some v) : 0 ≤ v ∧ v < 100 := by
  have hall : tabT.all (fun p => decide (0 ≤ p.2) && decide (p.2 < 100)) = true := by decide +kernel
  have key : ∀ T : List (List Nat × Int), T.all (fun p => decide (0 ≤ p.2) && decide (p.2 < 100)) = true → T.lookup l = some v → 0 ≤ v ∧ v < 100 := by
    intro T
    induction T with
    | nil => intro _ h; cases h
    | cons p r ih =>
      intro ha hl
      rw [List.all_cons, Bool.and_eq_true] at ha
      obtain ⟨a, b⟩ := p
      rw [List.lookup_cons] at hl
      split at hl
      · cases hl
        simpa using ha.1
      · exact ih ha.2 hl
  exact key _ hall h
theorem sizes_of {l : List Nat} {m : Nat} {v : Int} (h3 : 0 < m) (h4 : m ≤ 3) (h5 : tabF (l.take m) = some v) (h6 : ∀ k, m < k → k ≤ 3 → tabF (l.take k) = none) : ∃ rest, [3, 2, 1].filter (fun k => (tabF (l.take k)).isSome) = m :: rest := by
  have : m = 1 ∨ m = 2 ∨ m = 3 := by (first | lia | omega)
  rcases this with rfl | rfl | rfl
  · exact ⟨[], by simp only [List.filter_cons, h6 3 (by decide) (by decide), h6 2 (by decide) (by decide), h5]; rfl⟩
  · exact ⟨_, by simp only [List.filter_cons, h6 3 (by decide) (by decide), h5]; rfl⟩
  · exact ⟨_, by simp only [List.filter_cons, h5]; rfl⟩
theorem ints_first {prog : Program} {w : World} {A : Around} {E : Value → Shared → Prop} {s : Shared} {g : Heap} {L a : Addr} {news : List (Addr × Obj)} {vs : List Value} {n : Nat} {y : Int} {ns : List Int} {value slice : PySem.Expr} {u : Tok} {Q : Value → Shared → Prop} (N : News g L s.heap news) (hm : (a, listOf (List.toArray vs) n) ∈ news) (hv : IntsAre vs (y :: ns))
    (h : ∀ t tk, Q (.int y t) { s with toks := tk })
    (hs : ∀ v, subscripted slice false v (.int 0 u) = operate [v, .int 0 u] (getItem v (.int 0 u)) := by intro _; with_unfolding_all rfl)
    (ht : ∀ v r, letTemporaryGo value v r = pure () := by intro _ _; with_unfolding_all rfl) :
    wpAny (model prog w) A (subscriptTail value slice (.ref a) (.int 0 u)) Q E s := by
  obtain ⟨tx, hvx⟩ := hv.get 0 y rfl
  exact item_list (news_list N hm) (by decide) (by decide) (by simpa using hvx) (h _ _) (hs _) (ht _)
set_option genInjectivity false in
set_option genSizeOf false in
structure TC where
  ok : Obj
  ys : List Value
  n : Nat
  dn : List Int
  p : Nat
  tp : Tok
section
variable {w : World} {mean : ExcName → Option Value} {mg mb : Str → Option Value} {dp un : Nat} {gd : Option (List Code)} {cn : Str} {cs : Scope} {a : Addr} {ccd : Value} {cl : List (Str × Addr)} {outer : List Env} {A₀ : Around} {base h₀ : Heap} {L : Addr} {m : Str → Option Value} {news : List (Addr × Obj)} {s : Shared} {Q E : Value → Shared → Prop}
theorem tokens_use {x : Str} {t : Tok} (B : Below A₀ base outer h₀) (F : Fr h₀ L s.heap m) (X : (hd.heap_1 w.params).In h₀) (N : News h₀ L s.heap news) (T : Top hdV (looseW hdV [Str.ofString "EXACT_TOKEN_TYPES"]) mean mg mb h₀)
    (hk : cs.kind = .function) (hx : x.length < 1000) (hdp : dp + 1 < recursionLimit) (hun : un + 100 < cLine) (hb : ∀ c ∈ x.cps.toList, c < 128) {ts : List Int} (htok : TokR x.cps.toList ts)
    (hret : ∀ (D : Addr) (ys : List Value) (c : Nat) (h' : Heap) (tk' : Nat), Fr h₀ L h' m → News h₀ L h' ((D, listOf (List.toArray ys) c) :: news) → (∀ p ∈ news, p.1 < D) → StrsAre ys (ts.map strI) → Q (.ref D) { s with heap := h', toks := tk' }) :
    wpAny (model PySem.Challenge.rw_tv0046_01.row.prog w) (ktrTop dp un gd cn cs L a ccd cl outer) (call (.ref 146) [.str x t]) Q E s := by
  revert X; k_fill; intro X
  refine wpAny_call ?_
  (k_dflt ((refine' code_defC ?k1 ?k2 ?k3 ?k4 ?k5 ?kA ?kF ?kK ?k6 ?k7 ?k8 ?k9 ?kB ?kD ?_ ?c2 ?c3 ?c4; (case kA => exact rfl); (case kF => exact rfl); (case kK => first | exact rfl | assumption); (case k1 => k_asm); (case k2 => k_asm); (case k3 => k_asm); (case k4 => k_asm); (case k5 => k_asm); (case k6 => k_is); (case k7 => k_is); (case k8 => first | k_room | ktr_room | (refine Nat.lt_of_succ_lt ?_; assumption)); (case k9 => first | exact BindsTo.of_eq rfl | exact binds_K (by k_in) rfl (by k_is) rfl rfl rfl); (case kB => exact rfl); (case kD => decide +kernel); (case c2 => exact rfl); (case c3 => exact rfl); (case c4 => exact rfl); k_whole; intro g2 L2 h2 tk2 cells2 FG F2 N2 Y2 B2 X2 T2 lN; (try k_lt lN); k_cells Y2; (try simp only [List.cons_append, List.nil_append] at N2); (try dsimp only); (try k_lift B2); (try k_fold))))
  k_steps
  unfold Stop
  rename Fr _ _ _ _ => F5
  rename News _ _ _ _ => N5
  rename (_ < _ ∧ _ < _ ∧ AllLt _ news) => l5
  rename_i oK oT dK dT Dr hx5 hy5
  have cT : oT.data = .cell (some (.str x t)) := dT
  have cK : ∃ v, oK.data = .cell v := ⟨_, dK⟩
  clear dT dK
  have ltD := kst_ltOf l5.2.2
  have e2 : L2 + 1 + 1 ≠ Dr := Nat.ne_of_lt l5.1
  have e1 : L2 + 1 ≠ Dr := Nat.ne_of_lt l5.2.1
  have d2 : ∀ p ∈ news, p.1 ≠ L2 + 1 + 1 := fun p hp => Nat.ne_of_lt (Nat.lt_succ_of_lt (Nat.lt_succ_of_lt (lN p hp)))
  have dD : ∀ p ∈ news, p.1 ≠ Dr := fun p hp => Nat.ne_of_lt (ltD p hp)
  obtain ⟨vK, cK⟩ := cK
  refine cell_store ((Dr, listOf (List.toArray []) 0) :: (L2 + 1, oT) :: news) F5 N5 (by rfl) (.tail _ (.head _)) cK (by (intro p hp; simp only [List.mem_cons, List.mem_append, List.cons_append, List.not_mem_nil, or_false] at hp ⊢; (repeat' (with_reducible refine Or.elim hp (fun hp => ?_) (fun hp => ?_))); all_goals simp only [hp, true_or, or_true])) (List.forall_mem_cons.mpr ⟨Ne.symm e2, List.forall_mem_cons.mpr ⟨Nat.ne_of_lt (Nat.lt_succ_self _), d2⟩⟩) ?_ (by rfl) (by rfl)
  intro h6 oK6 F6 N6 cK6
  clear F5 N5 cK
  k_steps
  unfold Stop
  refine while_st (σ := TC) (fun c => [(Str.ofString "tokens", .ref Dr)]) (fun c => (Dr, listOf (List.toArray c.ys) c.n) :: (L2 + 1 + 1, c.ok) :: (L2 + 1, oT) :: news)
    (fun c => c.ok.data = .cell (some (.int (c.p : Nat) c.tp)) ∧ c.p ≤ x.length ∧ StrsAre c.ys (c.dn.map strI) ∧ c.dn.length ≤ c.p ∧ ∃ r, TokR (x.cps.toList.drop c.p) r ∧ ts = c.dn ++ r) (fun c => StrsAre c.ys (ts.map strI)) (fun c => x.length - c.p) ⟨oK6, [], 0, [], 0, _⟩
    F6 N6 (by kst_all) (by (intro p hp; simp only [List.mem_cons, List.mem_append, List.cons_append, List.not_mem_nil, or_false] at hp ⊢; (repeat' (with_reducible refine Or.elim hp (fun hp => ?_) (fun hp => ?_))); all_goals simp only [hp, true_or, or_true])) ⟨cK6, Nat.zero_le _, .nil, Nat.le_refl _, ts, htok, rfl⟩ ?_ ?_
  · rintro ⟨ok, ys, n, dn, p, tp⟩ uu h7 tk7 ⟨hc, hpl, hy, hdl, r, hr, hts⟩ F7 N7
    dsimp only [kstB] at hc hpl hy hdl F7 N7 ⊢
    by_cases hp : p < x.length
    · have hK : Dr ≠ L2 + 1 + 1 := Ne.symm e2
      have hrest : ∀ (o : Obj), ∀ q ∈ (Dr, o) :: (L2 + 1, oT) :: news, q.1 ≠ L2 + 1 + 1 := fun o => List.forall_mem_cons.mpr ⟨hK, List.forall_mem_cons.mpr ⟨Nat.ne_of_lt (Nat.lt_succ_self _), d2⟩⟩
      have hrest2 : ∀ q ∈ (L2 + 1 + 1, ok) :: (L2 + 1, oT) :: news, q.1 ≠ Dr := List.forall_mem_cons.mpr ⟨e2, List.forall_mem_cons.mpr ⟨e1, dD⟩⟩
      generalize hl : x.cps.toList.drop p = l at hr
      have hll : l.length = x.length - p := by rw [← hl, List.length_drop]; rfl
      have hlb : ∀ e ∈ l, e < 128 := fun e he => hb e (by rw [← hl] at he; exact List.mem_of_mem_drop he)
      k_steps
      · unfold Stop
        rename Txt.isalpha _ = true => qa
        cases hr with
        | nil => simp at hll; (first | lia | omega)
        | blank h => rw [item_drop hl, alpha_is _ (by decide)] at qa; exact absurd qa (by decide)
        | op h1 => rw [item_drop hl, alpha_is _ (hlb _ (.head _)), h1] at qa; cases qa
        | @name c d w r ts' h1 h2 h3 h4 =>
          have hl3 : p + (w.length + 2) ≤ x.length := by
            simp only [List.length_cons, List.length_append] at hll; (first | lia | omega)
          rename Fr _ _ _ _ => F8
          rename News _ _ _ _ => N8
          refine while_st (σ := Nat × Tok) (fun c => [(Str.ofString "tokens", .ref Dr), (Str.ofString "size", .int (c.1 : Nat) c.2)]) (fun c => (Dr, listOf (List.toArray ys) n) :: (L2 + 1 + 1, ok) :: (L2 + 1, oT) :: news)
            (fun c => 1 ≤ c.1 ∧ c.1 ≤ w.length + 1) (fun c => c.1 = w.length + 1) (fun c => w.length + 1 - c.1) (1, _) F8 N8 (by kst_all) (by (intro p hp; simp only [List.mem_cons, List.mem_append, List.cons_append, List.not_mem_nil, or_false] at hp ⊢; (repeat' (with_reducible refine Or.elim hp (fun hp => ?_) (fun hp => ?_))); all_goals simp only [hp, true_or, or_true])) ⟨Nat.le_refl _, by dsimp only; (first | lia | omega)⟩ ?_ ?_
          · rintro ⟨sz, tsz⟩ u9 h9 tk9 ⟨hs1, hs2⟩ F9 N9
            dsimp only [kstB] at hs1 hs2 F9 N9 ⊢
            k_steps
            · rename Txt.isalpha (Txt.item x ((p : Int) + (sz : Int))) = true => q9
              rename Fr _ _ _ _ => F10
              rename News _ _ _ _ => N10
              have hs3 : sz ≤ w.length := by
                apply Nat.le_of_not_lt
                intro z
                have e : sz = w.length + 1 := by (first | lia | omega)
                rw [item_get hl (by rw [e]; exact name_end c d w r), alpha_is _ (hlb d (.tail _ (List.mem_append_right _ (.head _)))), h3] at q9
                cases q9
              exact WEnd.mk (sz + 1, _) F10 N10 (by kst_all) (by (intro p hp; simp only [List.mem_cons, List.mem_append, List.cons_append, List.not_mem_nil, or_false] at hp ⊢; (repeat' (with_reducible refine Or.elim hp (fun hp => ?_) (fun hp => ?_))); all_goals simp only [hp, true_or, or_true])) ⟨⟨by dsimp only; (first | lia | omega), by dsimp only; (first | lia | omega)⟩, by dsimp only; (first | lia | omega)⟩
            · rename Txt.isalpha (Txt.item x ((p : Int) + (sz : Int))) = false => q9
              rename Fr _ _ _ _ => F10
              rename News _ _ _ _ => N10
              have hs3 : sz = w.length + 1 := by
                apply Nat.le_antisymm hs2
                apply Nat.le_of_not_lt
                intro z
                obtain ⟨e, he, hg⟩ := name_mid c d w r hs1 z
                rw [item_get hl hg, alpha_is _ (hlb e (.tail _ (List.mem_append_left _ he))), h2 e he] at q9
                cases q9
              exact WEnd.mk (sz, tsz) F10 N10 (by kst_all) (by (intro p hp; simp only [List.mem_cons, List.mem_append, List.cons_append, List.not_mem_nil, or_false] at hp ⊢; (repeat' (with_reducible refine Or.elim hp (fun hp => ?_) (fun hp => ?_))); all_goals simp only [hp, true_or, or_true])) hs3
          · rintro ⟨sz, tsz⟩ u9 h9 tk9 hsz F9 N9
            dsimp only [kstB] at hsz F9 N9 ⊢
            subst hsz
            k_steps
            unfold Stop
            refine strs_app (x := strI 1) ((L2 + 1 + 1, ok) :: (L2 + 1, oT) :: news) F9 N9 (.head _) hy (by rw [List.length_map]; (first | lia | omega)) (by (intro p hp; simp only [List.mem_cons, List.mem_append, List.cons_append, List.not_mem_nil, or_false] at hp ⊢; (repeat' (with_reducible refine Or.elim hp (fun hp => ?_) (fun hp => ?_))); all_goals simp only [hp, true_or, or_true])) hrest2 fun h10 vs10 n10 F10 N10 I10 => ?_
            k_steps
            unfold Stop
            rename Fr _ _ _ _ => F11
            rename News _ _ _ _ => N11
            refine cell_store ((Dr, listOf (List.toArray vs10) n10) :: (L2 + 1, oT) :: news) F11 N11 (by rfl) (.tail _ (.head _)) hc (by (intro p hp; simp only [List.mem_cons, List.mem_append, List.cons_append, List.not_mem_nil, or_false] at hp ⊢; (repeat' (with_reducible refine Or.elim hp (fun hp => ?_) (fun hp => ?_))); all_goals simp only [hp, true_or, or_true])) (hrest _) ?_ (by rfl) (by rfl)
            intro h12 ok12 F12 N12 c12
            k_steps
            rename Fr _ _ _ _ => F13
            rename News _ _ _ _ => N13
            refine WEnd.mk ⟨ok12, vs10, n10, dn ++ [1], p + (w.length + 1), _⟩ F13 N13 (by kst_all) (by (intro p hp; simp only [List.mem_cons, List.mem_append, List.cons_append, List.not_mem_nil, or_false] at hp ⊢; (repeat' (with_reducible refine Or.elim hp (fun hp => ?_) (fun hp => ?_))); all_goals simp only [hp, true_or, or_true])) ⟨⟨c12, by dsimp only; (first | lia | omega), by rw [List.map_append]; exact I10, by dsimp only; rw [List.length_append, List.length_singleton]; (first | lia | omega), _, ?_, by dsimp only; rw [hts, List.append_assoc]; rfl⟩, by dsimp only; (first | lia | omega)⟩
            dsimp only
            rw [← List.drop_drop, hl, List.drop_succ_cons, List.drop_left' rfl]; exact h4
      · unfold Stop
        rename Txt.isalpha _ = false => qa
        rename (_ != _) = true => qb
        cases hr with
        | nil => simp at hll; (first | lia | omega)
        | blank h => rw [item_drop hl] at qb; exact absurd qb (by decide +kernel)
        | name h1 => rw [item_drop hl, alpha_is _ (hlb _ (.head _)), h1] at qa; cases qa
        | @op c m r v ts' h1 h2 h3 h4 h8 h5 h6 h7 =>
          refine comp_assign natV (fun m => (tabF ((c :: r).take m)).isSome) (fun a v => natV a v) (fun _ _ _ => natV_inj) (by rfl) (by rfl) (by decide) (by rfl) (by decide) (by rfl) (by rfl) (by rfl) ?_
          k_steps
          unfold Stop
          rename Fr _ _ _ _ => F9
          rename News _ _ _ _ => N9
          refine ⟨[3, 2, 1], _, _, _, ?_, Src.tuple (vs := [.int 3 _, .int 2 _, .int 1 _]) (by rfl) ⟨_, (N9 _ (.head _)).1, rfl, _, rfl⟩ rfl ?_, F9, N9, ?_, ?_, ?_⟩
          · rw [sizeLine_eq]; decide
          · intro i v hv
            match i, hv with
            | 0, hv => cases hv; exact ⟨3, rfl, _, rfl⟩
            | 1, hv => cases hv; exact ⟨2, rfl, _, rfl⟩
            | 2, hv => cases hv; exact ⟨1, rfl, _, rfl⟩
            | i + 3, hv => simp at hv
          · rintro C a1 _ s2 m2 E2 hC ha1 ⟨ta, rfl⟩ hns hm2 F9 N9 cE
            k_steps
            unfold Stop
            rename Fr _ _ _ _ => F20
            rw [slice_drop (Nat.le_of_lt hp) hl]
            refine tab_in X2 F20 fun tk20 => ?_
            k_steps
            unfold Stop
            exact ⟨rfl, _, _, rfl, by assumption⟩
          · rintro C a1 _ s2 m2 E2 hC ha1 ⟨ta, rfl⟩ _ hns hm2 F9 N9 cE
            k_steps
            unfold Stop
            exact ⟨⟨_, rfl⟩, _, _, rfl, fun _ _ e => e⟩
          intro D10 ys10 n10 h10 tk10 F10 N10 hD10 hG10
          obtain ⟨rest, hf⟩ := sizes_of h3 h4 h5 h6
          rw [hf] at hG10
          have I10 : IntsAre ys10 ((m : Int) :: rest.map Int.ofNat) := paired_ints (f := Int.ofNat) hG10
          k_steps
          unfold Stop
          rename Fr _ _ _ _ => F11
          rename News _ _ _ _ => N11
          refine eq_intsK (news_list N11 (by tb_rel)) I10 (news_list (vs := []) N11 (.head _)) .nil (by ktr_units) ?_
          rw [decide_eq_false (by simp)]
          k_steps
          unfold Stop
          rename Fr _ _ _ _ => F12
          rename News _ _ _ _ => N12
          refine ints_first N12 (by tb_rel) I10 fun t13 tk13 => ?_
          k_steps
          unfold Stop
          rename Fr _ _ _ _ => F14
          rename News _ _ _ _ => N14
          rw [slice_drop (Nat.le_of_lt hp) hl]
          refine tab_item X2 F14 h5 fun t15 tk15 => ?_
          have hv := tab_small h5
          k_steps
          unfold Stop
          refine strs_app (x := strI v) ((L2 + 1 + 1, ok) :: (L2 + 1, oT) :: news) F14 N14 (by tb_rel) hy (by rw [List.length_map]; (first | lia | omega)) (by (intro p hp; simp only [List.mem_cons, List.mem_append, List.cons_append, List.not_mem_nil, or_false] at hp ⊢; (repeat' (with_reducible refine Or.elim hp (fun hp => ?_) (fun hp => ?_))); all_goals simp only [hp, true_or, or_true])) hrest2 fun h17 vs17 n17 F17 N17 I17 => ?_
          k_steps
          unfold Stop
          rename Fr _ _ _ _ => F18
          rename News _ _ _ _ => N18
          refine cell_store ((Dr, listOf (List.toArray vs17) n17) :: (L2 + 1, oT) :: news) F18 N18 (by rfl) (.tail _ (.head _)) hc (by (intro p hp; simp only [List.mem_cons, List.mem_append, List.cons_append, List.not_mem_nil, or_false] at hp ⊢; (repeat' (with_reducible refine Or.elim hp (fun hp => ?_) (fun hp => ?_))); all_goals simp only [hp, true_or, or_true])) (hrest _) ?_ (by rfl) (by rfl)
          intro h19 ok19 F19 N19 c19
          k_steps
          rename Fr _ _ _ _ => F20
          rename News _ _ _ _ => N20
          refine WEnd.mk ⟨ok19, vs17, n17, dn ++ [v], p + m, _⟩ F20 N20 (by kst_all) (by (intro p hp; simp only [List.mem_cons, List.mem_append, List.cons_append, List.not_mem_nil, or_false] at hp ⊢; (repeat' (with_reducible refine Or.elim hp (fun hp => ?_) (fun hp => ?_))); all_goals simp only [hp, true_or, or_true])) ⟨⟨c19, ?_, by rw [List.map_append]; exact I17, by dsimp only; rw [List.length_append, List.length_singleton]; (first | lia | omega), _, ?_, by dsimp only; rw [hts, List.append_assoc]; rfl⟩, by dsimp only; (first | lia | omega)⟩
          · dsimp only
            rw [hll] at h8; (first | lia | omega)
          · dsimp only
            rw [← List.drop_drop, hl]; exact h7
      · unfold Stop
        rename Txt.isalpha _ = false => qa
        rename (_ != _) = false => qb
        cases hr with
        | nil => simp at hll; (first | lia | omega)
        | name h1 => rw [item_drop hl, alpha_is _ (hlb _ (.head _)), h1] at qa; cases qa
        | op _ h2 =>
          rw [item_drop hl] at qb
          exact absurd (one_ne h2) (by rw [qb]; decide)
        | @blank r ts' h =>
          rename Fr _ _ _ _ => F8
          rename News _ _ _ _ => N8
          refine cell_store ((Dr, listOf (List.toArray ys) n) :: (L2 + 1, oT) :: news) F8 N8 (by rfl) (.tail _ (.head _)) hc (by (intro p hp; simp only [List.mem_cons, List.mem_append, List.cons_append, List.not_mem_nil, or_false] at hp ⊢; (repeat' (with_reducible refine Or.elim hp (fun hp => ?_) (fun hp => ?_))); all_goals simp only [hp, true_or, or_true])) (hrest _) ?_ (by rfl) (by rfl)
          intro h9 ok9 F9 N9 c9
          k_steps
          rename Fr _ _ _ _ => F10
          rename News _ _ _ _ => N10
          refine WEnd.mk ⟨ok9, ys, n, dn, p + 1, _⟩ F10 N10 (by kst_all) (by (intro p hp; simp only [List.mem_cons, List.mem_append, List.cons_append, List.not_mem_nil, or_false] at hp ⊢; (repeat' (with_reducible refine Or.elim hp (fun hp => ?_) (fun hp => ?_))); all_goals simp only [hp, true_or, or_true])) ⟨⟨c9, hp, hy, Nat.le_succ_of_le hdl, _, ?_, hts⟩, ?_⟩
          · dsimp only
            rw [← List.drop_drop, hl]; exact h
          · dsimp only; (first | lia | omega)
    · have hp' : p = x.length := Nat.le_antisymm hpl (Nat.le_of_not_lt hp)
      have e0 : x.cps.toList.drop p = [] := List.drop_of_length_le (by rw [hp']; exact Nat.le_refl _)
      rw [e0] at hr
      cases hr
      rw [List.append_nil] at hts
      k_steps
      · rename Fr _ _ _ _ => F8
        rename News _ _ _ _ => N8
        exact WEnd.mk ⟨ok, ys, n, dn, p, tp⟩ F8 N8 (by kst_all) (by (intro p hp; simp only [List.mem_cons, List.mem_append, List.cons_append, List.not_mem_nil, or_false] at hp ⊢; (repeat' (with_reducible refine Or.elim hp (fun hp => ?_) (fun hp => ?_))); all_goals simp only [hp, true_or, or_true])) (by rw [hts]; exact hy)
  · rintro ⟨ok, ys, n, dn, p, tp⟩ uu h7 tk7 hy F7 N7
    dsimp only [kstB] at hy F7 N7 ⊢
    k_steps
    unfold Stop
    rename Fr _ _ _ _ => F8
    rename News _ _ _ _ => N8
    refine leave_sub F8 N8 (by (intro p hp; simp only [List.mem_cons, List.mem_append, List.cons_append, List.not_mem_nil, or_false] at hp ⊢; (repeat' (with_reducible refine Or.elim hp (fun hp => ?_) (fun hp => ?_))); all_goals simp only [hp, true_or, or_true])) fun kF kN => hret _ _ _ _ _ kF kN ltD hy
end
end Mine
end
section
open PySem PySem.W PyProof.Rows PySem.Spec PySem.Calls Mine
namespace Mine
theorem joined_Op : True := by
  w_top off
  trivial
/-- the words -/
noncomputable def opsL : List Str := ["(", ")", "[", "]", ":", ",", ";", "+", "-", "*", "/", "|", "&", "<", ">", "=", ".", "%", "{", "}", "==", "!=", "<=", ">=", "~", "^", "<<", ">>", "**", "+=", "-=", "*=", "/=", "%=", "&=", "|=", "^=", "<<=", ">>=", "**=", "//", "//=", "@", "@=", "->", "...", ":=", "!"].map Str.ofString
theorem split_ops : Txt.split (Str.ofString "( ) [ ] : , ; + - * / | & < > = . % { } == != <= >= ~ ^ << >> ** += -= *= /= %= &= |= ^= <<= >>= **= // //= @ @= -> ... := !") (Str.ofString " ") = opsL := by decide +kernel
local macro_rules | `(tactic| walk_at "LeaveK") => `(tactic| (refine Stop.intro ?_))
section
variable {w : World} {mean : ExcName → Option Value} {mg mb : Str → Option Value} {dp un : Nat} {gd : Option (List Code)} {cn : Str} {cs : Scope} {a : Addr} {ccd : Value} {cl : List (Str × Addr)} {outer : List Env} {A₀ : Around} {base h₀ : Heap} {L : Addr} {m : Str → Option Value} {news : List (Addr × Obj)} {s : Shared} {Q E : Value → Shared → Prop}
theorem ops_use (B : Below A₀ base outer h₀) (F : Fr h₀ L s.heap m) (X : (hd.heap_1 w.params).In h₀) (N : News h₀ L s.heap news) (T : Top hdV (looseW hdV [Str.ofString "EXACT_TOKEN_TYPES"]) mean mg mb h₀)
    (hk : cs.kind = .function) (hdp : dp + 1 < recursionLimit) (hun : un + 8 < cLine)
    (hret : ∀ (D : Addr) (ys : List Value) (c : Nat) (h' : Heap) (tk' : Nat), Fr h₀ L h' m → News h₀ L h' ((D, listOf (List.toArray ys) c) :: news) → (∀ p ∈ news, p.1 < D) → StrsAre ys opsL → Q (.ref D) { s with heap := h', toks := tk' }) :
    wpAny (model PySem.Challenge.rw_tv0046_01.row.prog w) (ktrTop dp un gd cn cs L a ccd cl outer) (call (.ref 101) []) Q E s := by
  revert X; k_fill; intro X
  refine wpAny_call ?_
  (k_dflt cell_enter)
  rename Fr _ _ _ _ => F1
  have F2 : Fr _ _ _ (fun y => List.lookup y []) := F1
  clear F1
  k_steps
  unfold Stop
  rename StrsAre _ _ => S1
  rename Fr _ _ _ _ => F3
  rename News _ _ _ _ => N3
  rename List.map _ _ = _ => e1
  rename (∀ p ∈ news, Prod.fst p < _) => lt1
  rw [e1, split_ops] at S1
  exact leaveK_ F3 N3 fun kF kN => hret _ _ _ _ _ kF kN lt1 S1
end
end Mine
end
section
open PySem PySem.W PyProof.Rows Mine
namespace Mine
/-! the plain law: words as rows of codes -/
noncomputable def mk (h c : Nat) : Bool := decide (c = 38) || (decide (c = 60) && decide (h ≠ 2)) || (decide (c = 62) && decide (h ≠ 4))
noncomputable def escC (h c : Nat) : List Nat := if mk h c = true then (if c = 38 then [38, 97, 109, 112, 59] else if c = 60 then [38, 108, 116, 59] else [38, 103, 116, 59]) else [c]
noncomputable def wr : List Nat → List Nat → List Nat
  | [], l => l
  | h :: r, l => wr r (l.flatMap (escC h))
theorem wr_append : ∀ (hs : List Nat) (a b : List Nat), wr hs (a ++ b) = wr hs a ++ wr hs b
  | [], _, _ => rfl
  | h :: r, a, b => by
    show wr r ((a ++ b).flatMap (escC h)) = _
    rw [List.flatMap_append]
    exact wr_append r _ _
noncomputable def turnsC (c : Nat) : List Nat → Nat
  | [] => 0
  | h :: r => if mk h c = true then r.length + 1 else turnsC c r
/-- the class of a hand -/
noncomputable def clsH (h : Nat) : Nat := if h = 2 then 2 else if h = 4 then 4 else 0
theorem mk_cls (h c : Nat) : mk (clsH h) c = mk h c := by
  unfold mk clsH
  by_cases h2 : h = 2
  · simp [h2]
  · by_cases h4 : h = 4
    · simp [h4]
    · simp [h2, h4]
theorem escC_cls (h : Nat) : escC (clsH h) = escC h := by
  funext c
  unfold escC
  rw [mk_cls]
theorem wr_cls : ∀ (hs : List Nat) (l : List Nat), wr (hs.map clsH) l = wr hs l
  | [], _ => rfl
  | h :: r, l => by
    show wr (r.map clsH) (l.flatMap (escC (clsH h))) = wr r (l.flatMap (escC h))
    rw [escC_cls]
    exact wr_cls r _
theorem turnsC_cls (c : Nat) : ∀ hs : List Nat, turnsC c (hs.map clsH) = turnsC c hs
  | [] => rfl
  | h :: r => by
    show (if mk (clsH h) c = true then (r.map clsH).length + 1 else turnsC c (r.map clsH)) = if mk h c = true then r.length + 1 else turnsC c r
    rw [mk_cls, turnsC_cls c r, List.length_map]
/-- the classes of hands -/
noncomputable def handsC : List (List Nat) := [[0], [2], [4], [0, 0], [0, 2], [0, 4], [2, 0], [2, 2], [2, 4], [4, 0], [4, 2], [4, 4]]
theorem sub1_eq (c : Nat) (z l : List Nat) : sub1 c z l = l.flatMap fun d => if d = c then z else [d] := rfl
theorem flat_flat (f g : Nat → List Nat) (l : List Nat) : (l.flatMap f).flatMap g = l.flatMap fun d => (f d).flatMap g := List.flatMap_assoc
theorem s_amp5 : (Str.ofString "&amp;").cps.toList = [38, 97, 109, 112, 59] := by decide +kernel
theorem s_lt4 : (Str.ofString "&lt;").cps.toList = [38, 108, 116, 59] := by decide +kernel
theorem s_gt4 : (Str.ofString "&gt;").cps.toList = [38, 103, 116, 59] := by decide +kernel
theorem rAmp_codes (x : Str) : (rAmp x).cps.toList = x.cps.toList.flatMap fun d => if d = 38 then [38, 97, 109, 112, 59] else [d] := by
  unfold rAmp; rw [s_amp, rep_one, s_amp5]; rfl
theorem rLt_codes (x : Str) : (rLt x).cps.toList = x.cps.toList.flatMap fun d => if d = 60 then [38, 108, 116, 59] else [d] := by
  unfold rLt; rw [s_lt, rep_one, s_lt4]; rfl
theorem rGt_codes (x : Str) : (rGt x).cps.toList = x.cps.toList.flatMap fun d => if d = 62 then [38, 103, 116, 59] else [d] := by
  unfold rGt; rw [s_gt, rep_one, s_gt4]; rfl
theorem escW_codes (h : Nat) (x : Str) : (escW h x).cps.toList = x.cps.toList.flatMap (escC h) := by
  have e2 : ∀ d, h = 2 → (if d = 38 then [38, 97, 109, 112, 59] else [d]).flatMap (fun d => if d = 62 then [38, 103, 116, 59] else [d]) = escC h d := by
    intro d e; subst e
    by_cases h1 : d = 38
    · subst h1; rfl
    · by_cases h3 : d = 62
      · subst h3; rfl
      · simp [escC, mk, h1, h3]
  have e4 : ∀ d, h = 4 → (if d = 38 then [38, 97, 109, 112, 59] else [d]).flatMap (fun d => if d = 60 then [38, 108, 116, 59] else [d]) = escC h d := by
    intro d e; subst e
    by_cases h1 : d = 38
    · subst h1; rfl
    · by_cases h3 : d = 60
      · subst h3; rfl
      · simp [escC, mk, h1, h3]
  have e0 : ∀ d, h ≠ 2 → h ≠ 4 → ((if d = 38 then [38, 97, 109, 112, 59] else [d]).flatMap (fun d => if d = 60 then [38, 108, 116, 59] else [d])).flatMap (fun d => if d = 62 then [38, 103, 116, 59] else [d]) = escC h d := by
    intro d n2 n4
    by_cases h1 : d = 38
    · subst h1; simp [escC, mk]
    · by_cases h3 : d = 60
      · subst h3; simp [escC, mk, n2]
      · by_cases h5 : d = 62
        · subst h5; simp [escC, mk, n4]
        · simp [escC, mk, h1, h3, h5]
  unfold escW
  split
  · rw [rGt_codes, rAmp_codes, flat_flat]
    congr 1; funext d; exact e2 d rfl
  · rw [rLt_codes, rAmp_codes, flat_flat]
    congr 1; funext d; exact e4 d rfl
  · rename_i n2 n4
    rw [rGt_codes, rLt_codes, rAmp_codes, flat_flat, flat_flat]
    congr 1; funext d
    have := e0 d (fun e => n2 e) (fun e => n4 e)
    rw [flat_flat] at this
    exact this
end Mine
end
section
open PySem PySem.W PyProof.Rows Mine
namespace Mine
section
variable {α : Type} {G : α → Bool}
/-- S stands in W, but for what is gone -/
inductive Emb (G : α → Bool) : List α → List α → Prop
  | nil : Emb G [] []
  | skip {S W : List α} {y : α} : Emb G S W → Emb G S (y :: W)
  | take {S W : List α} {x y : α} : (x = y ∨ G x = true) → Emb G S W → Emb G (x :: S) (y :: W)
theorem Emb.append {S W S' W' : List α} (h : Emb G S W) (h' : Emb G S' W') : Emb G (S ++ S') (W ++ W') := by
  induction h with
  | nil => exact h'
  | skip _ ih => exact .skip ih
  | take e _ ih => exact .take e ih
noncomputable def embF [DecidableEq α] (G : α → Bool) : List α → List α → Bool
  | [], _ => true
  | _ :: _, [] => false
  | x :: S, y :: W => if x = y ∨ G x = true then embF G S W else embF G (x :: S) W
theorem emb_nil : ∀ W : List α, Emb G [] W
  | [] => .nil
  | _ :: r => .skip (emb_nil r)
theorem embF_emb [DecidableEq α] : ∀ (W S : List α), embF G S W = true → Emb G S W
  | W, [], _ => emb_nil W
  | [], _ :: _, h => by simp [embF] at h
  | y :: W, x :: S, h => by
    unfold embF at h
    split at h
    · exact .take (by assumption) (embF_emb W S h)
    · exact .skip (embF_emb W (x :: S) h)
theorem Emb.al {c : Str → Str → Int} (C : CostOk c) (f : α → Str) {S W : List α} (h : Emb G S W) : Al c (S.map f) (W.map f) (2 * ((W.length : Int) - S.length) + 2 * (S.countP G : Int)) := by
  induction h with
  | nil => exact ⟨[], rfl, rfl, by simp [cost]⟩
  | @skip S W y _ ih =>
    obtain ⟨ops, h1, h2, h3⟩ := ih
    refine ⟨.ins (f y) :: ops, by simp [src, h1], by simp [dst, h2], ?_⟩
    simp only [cost, List.length_cons]
    (first | lia | omega)
  | @take S W x y e _ ih =>
    obtain ⟨ops, h1, h2, h3⟩ := ih
    refine ⟨.sub (f x) (f y) :: ops, by simp [src, h1], by simp [dst, h2], ?_⟩
    simp only [cost, List.length_cons, List.countP_cons]
    rcases e with rfl | e
    · have := C.self (f x)
      have h4 : (0 : Int) ≤ ((if G x = true then 1 else 0 : Nat) : Int) := by (first | lia | omega)
      (first | lia | omega)
    · rw [if_pos e]
      have := C.two (f y) (f x)
      (first | lia | omega)
theorem Emb.fine {c : Str → Str → Int} (C : CostOk c) (f : α → Str) {S W : List α} (h : Emb G S W) (hlen : S.length < W.length) (hg : ∀ x ∈ S, G x = true → ∀ y ∈ W, c (f y) (f x) = 2) :
    Fine c (S.map f) (W.map f) (2 * ((W.length : Int) - S.length) + 2 * (S.countP G : Int)) := by
  refine ⟨by simpa using hlen, h.al C f, ?_⟩
  have : S.countP G ≤ (S.map f).countP (goneB c (W.map f)) := by
    rw [List.countP_map]
    refine List.countP_mono_left fun x hx hG => ?_
    show goneB c (W.map f) (f x) = true
    unfold goneB
    rw [List.all_eq_true]
    intro y' hy'
    obtain ⟨y, hy, rfl⟩ := List.mem_map.mp hy'
    exact decide_eq_true (hg x hx hG y hy)
  unfold gone
  rw [List.length_map, List.length_map]
  (first | lia | omega)
/-- one word's row -/
noncomputable def rowOk [DecidableEq α] (g S W : List α) (p : Int) : Bool :=
  embF (fun x => decide (x ∈ g)) S W && W.all (fun y => !decide (y ∈ g)) && decide (p = 2 * ((W.length : Int) - S.length) + 2 * ((S.countP fun x => decide (x ∈ g)) : Int)) && (decide (S.length < W.length) || decide (S = W))
theorem rowOk_two [DecidableEq α] (C : CostOk substC) (f : α → Str) {g S W S' W' : List α} {p p' : Int} (h : rowOk g S W p = true) (h' : rowOk g S' W' p' = true)
    (hne : ∀ x ∈ g, ∀ y ∈ W ++ W', y ≠ x → substC (f y) (f x) = 2) : (S ++ S' = W ++ W' ∧ p + p' = 0) ∨ Fine substC ((S ++ S').map f) ((W ++ W').map f) (p + p') := by
  unfold rowOk at h h'
  simp only [Bool.and_eq_true, Bool.or_eq_true, decide_eq_true_eq, List.all_eq_true, Bool.not_eq_true', decide_eq_false_iff_not] at h h'
  obtain ⟨⟨⟨e1, a1⟩, q1⟩, l1⟩ := h
  obtain ⟨⟨⟨e2, a2⟩, q2⟩, l2⟩ := h'
  have av : ∀ y ∈ W ++ W', y ∉ g := fun y hy => (List.mem_append.mp hy).elim (a1 y) (a2 y)
  have E := (embF_emb _ _ e1).append (embF_emb _ _ e2)
  have le1 : S.length ≤ W.length := by rcases l1 with l | l; (first | lia | omega); rw [l]; exact Nat.le_refl _
  have le2 : S'.length ≤ W'.length := by rcases l2 with l | l; (first | lia | omega); rw [l]; exact Nat.le_refl _
  by_cases hq : S = W ∧ S' = W'
  · left
    refine ⟨by rw [hq.1, hq.2], ?_⟩
    have z1 : (S.countP fun x => decide (x ∈ g)) = 0 := by
      rw [List.countP_eq_zero]; intro x hx
      rw [hq.1] at hx
      simpa using a1 x hx
    have z2 : (S'.countP fun x => decide (x ∈ g)) = 0 := by
      rw [List.countP_eq_zero]; intro x hx
      rw [hq.2] at hx
      simpa using a2 x hx
    rw [q1, q2, z1, z2, hq.1, hq.2]; (first | lia | omega)
  · right
    have hl : (S ++ S').length < (W ++ W').length := by
      rw [List.length_append, List.length_append]
      rcases l1 with l | l
      · (first | lia | omega)
      · rcases l2 with l' | l'
        · (first | lia | omega)
        · exact absurd ⟨l, l'⟩ hq
    have := E.fine C f hl (fun x hx hG y hy => hne x (of_decide_eq_true hG) y hy (fun e => av y hy (e ▸ of_decide_eq_true hG)))
    have ep : p + p' = 2 * (((W ++ W').length : Int) - (S ++ S').length) + 2 * (((S ++ S').countP fun x => decide (x ∈ g)) : Int) := by
      rw [q1, q2, List.countP_append, List.length_append, List.length_append]
      simp only [Int.natCast_add]
      (first | lia | omega)
    rw [ep]; exact this
end
/-- letters in front -/
noncomputable def spanA : List Nat → List Nat × List Nat
  | [] => ([], [])
  | d :: r => if isA d = true then (d :: (spanA r).1, (spanA r).2) else ([], d :: r)
theorem spanA_spec : ∀ l : List Nat, (spanA l).1 ++ (spanA l).2 = l ∧ (∀ e ∈ (spanA l).1, isA e = true) ∧ ∀ d r, (spanA l).2 = d :: r → isA d = false
  | [] => ⟨rfl, fun _ h => (nomatch h), fun _ _ h => (nomatch h)⟩
  | d :: r => by
    obtain ⟨h1, h2, h3⟩ := spanA_spec r
    unfold spanA
    by_cases h : isA d = true
    · rw [if_pos h]
      refine ⟨by show d :: ((spanA r).1 ++ (spanA r).2) = _; rw [h1], fun e he => ?_, h3⟩
      rcases List.mem_cons.mp he with rfl | he
      · exact h
      · exact h2 e he
    · rw [if_neg h]
      refine ⟨rfl, fun _ h => (nomatch h), fun d' r' e => ?_⟩
      cases e
      simpa using h
/-- the first of three sizes that stands in the table -/
noncomputable def firstTok (l : List Nat) : List Nat → Option (Nat × Int)
  | [] => none
  | k :: ks => if k ≤ l.length then (match tabF (l.take k) with | some v => some (k, v) | none => firstTok l ks) else if 32 ∈ l then firstTok l ks else none
noncomputable def tokF : Nat → List Nat → Option (List Int)
  | 0, _ => none
  | _ + 1, [] => some []
  | n + 1, c :: r =>
    if isA c = true then (match (spanA r).2 with | [] => none | d :: r' => (tokF n (d :: r')).map (1 :: ·))
    else if c = 32 then tokF n r
    else match firstTok (c :: r) [3, 2, 1] with | none => none | some (k, v) => (tokF n ((c :: r).drop k)).map (v :: ·)
theorem tab_none {l : List Nat} (h : 32 ∈ l) : tabF l = none := by
  have hall : tabT.all (fun p => decide (32 ∉ p.1)) = true := by decide +kernel
  have key : ∀ T : List (List Nat × Int), T.all (fun p => decide (32 ∉ p.1)) = true → T.lookup l = none := by
    intro T
    induction T with
    | nil => intro _; rfl
    | cons p r ih =>
      intro ha
      rw [List.all_cons, Bool.and_eq_true] at ha
      obtain ⟨a, b⟩ := p
      rw [List.lookup_cons]
      split
      · rename_i e
        have : l = a := by simpa using e
        subst this
        exact absurd h (of_decide_eq_true ha.1)
      · exact ih ha.2
  exact key _ hall
theorem take_app {l b : List Nat} {m : Nat} (h : m ≤ l.length) : (l ++ b).take m = l.take m := by
  rw [List.take_append_of_le_length h]
theorem tab_app_none {l b : List Nat} {m : Nat} (h : (m ≤ l.length ∧ tabF (l.take m) = none) ∨ (l.length < m ∧ 32 ∈ l)) : tabF ((l ++ b).take m) = none := by
  rcases h with ⟨h1, h2⟩ | ⟨h1, h2⟩
  · rw [take_app h1]; exact h2
  · refine tab_none ?_
    rw [List.take_append]
    refine List.mem_append_left _ ?_
    rw [List.take_of_length_le (Nat.le_of_lt h1)]; exact h2
theorem firstTok_spec {l : List Nat} : ∀ {ks : List Nat} {k : Nat} {v : Int}, firstTok l ks = some (k, v) → k ∈ ks ∧ k ≤ l.length ∧ tabF (l.take k) = some v ∧ ∃ pre post, ks = pre ++ k :: post ∧ ∀ m ∈ pre, (m ≤ l.length ∧ tabF (l.take m) = none) ∨ (l.length < m ∧ 32 ∈ l)
  | [], _, _, h => by simp [firstTok] at h
  | k' :: ks, k, v, h => by
    unfold firstTok at h
    split at h
    · rename_i hle
      split at h
      · rename_i v' hv
        cases h
        exact ⟨.head _, hle, hv, [], ks, rfl, fun _ hm => (nomatch hm)⟩
      · rename_i hv
        obtain ⟨a, b, c, pre, post, e, d⟩ := firstTok_spec h
        refine ⟨.tail _ a, b, c, k' :: pre, post, by rw [e]; rfl, fun m hm => ?_⟩
        rcases List.mem_cons.mp hm with rfl | hm
        · exact .inl ⟨hle, hv⟩
        · exact d m hm
    · rename_i hle
      split at h
      · rename_i hb
        obtain ⟨a, b, c, pre, post, e, d⟩ := firstTok_spec h
        refine ⟨.tail _ a, b, c, k' :: pre, post, by rw [e]; rfl, fun m hm => ?_⟩
        rcases List.mem_cons.mp hm with rfl | hm
        · exact .inr ⟨Nat.lt_of_not_le hle, hb⟩
        · exact d m hm
      · cases h
theorem tokF_tokR {b : List Nat} {us : List Int} (hb : TokR b us) : ∀ (n : Nat) (a : List Nat) (ts : List Int), tokF n a = some ts → TokR (a ++ b) (ts ++ us)
  | 0, _, _, h => by simp [tokF] at h
  | n + 1, [], ts, h => by
    simp only [tokF] at h
    cases h
    exact hb
  | n + 1, c :: r, ts, h => by
    unfold tokF at h
    split at h
    · rename_i hc
      obtain ⟨h1, h2, h3⟩ := spanA_spec r
      split at h
      · cases h
      · rename_i d r' e
        obtain ⟨t, ht, rfl⟩ := Option.map_eq_some_iff.mp h
        have := tokF_tokR hb n (d :: r') t ht
        rw [← h1, e]
        show TokR (c :: ((spanA r).1 ++ d :: r' ++ b)) (1 :: (t ++ us))
        rw [List.append_assoc]
        exact .name hc h2 (h3 d r' e) this
    · rename_i hc
      split at h
      · rename_i h32
        subst h32
        exact .blank (tokF_tokR hb n r ts h)
      · rename_i h32
        split at h
        · cases h
        · rename_i k v e
          obtain ⟨t, ht, rfl⟩ := Option.map_eq_some_iff.mp h
          obtain ⟨a1, a2, a3, pre, post, a4, a5⟩ := firstTok_spec e
          have hk : 0 < k ∧ k ≤ 3 := by
            simp only [List.mem_cons, List.not_mem_nil, or_false] at a1
            (first | lia | omega)
          have ih := tokF_tokR hb n ((c :: r).drop k) t ht
          show TokR (c :: (r ++ b)) (v :: (t ++ us))
          refine .op (n := k) (by simpa using hc) h32 hk.1 hk.2 ?_ ?_ ?_ ?_
          · have : (c :: (r ++ b)).length = (c :: r).length + b.length := by simp; (first | lia | omega)
            (first | lia | omega)
          · show tabF (((c :: r) ++ b).take k) = some v
            rw [take_app a2]; exact a3
          · intro m hm1 hm2
            show tabF (((c :: r) ++ b).take m) = none
            refine tab_app_none (a5 m ?_)
            have hcases : (k = 3 ∧ False) ∨ (k = 2 ∧ m = 3) ∨ (k = 1 ∧ m = 2) ∨ (k = 1 ∧ m = 3) := by (first | lia | omega)
            match pre, a4 with
            | [], a4 => simp at a4; (first | lia | omega)
            | [x], a4 => simp at a4; simp; (first | lia | omega)
            | [x, y], a4 => simp at a4; simp; (first | lia | omega)
            | x :: y :: z :: w, a4 => simp at a4
          · show TokR (((c :: r) ++ b).drop k) _
            rw [List.drop_append_of_le_length a2]; exact ih
theorem tokF_tokR0 {n : Nat} {a : List Nat} {ts : List Int} (h : tokF n a = some ts) : TokR a ts := by
  have := tokF_tokR TokR.nil n a ts h
  simpa using this
/-- the words and their tokens -/
noncomputable def opsT : List (List Nat × Int) := [([40], 7), ([41], 8), ([91], 9), ([93], 10), ([58], 11), ([44], 12), ([59], 13), ([43], 14), ([45], 15), ([42], 16), ([47], 17), ([124], 18), ([38], 19), ([60], 20), ([62], 21), ([61], 22), ([46], 23), ([37], 24), ([123], 25), ([125], 26), ([61, 61], 27), ([33, 61], 28), ([60, 61], 29), ([62, 61], 30), ([126], 31), ([94], 32), ([60, 60], 33), ([62, 62], 34), ([42, 42], 35), ([43, 61], 36), ([45, 61], 37), ([42, 61], 38), ([47, 61], 39), ([37, 61], 40), ([38, 61], 41), ([124, 61], 42), ([94, 61], 43), ([60, 60, 61], 44), ([62, 62, 61], 45), ([42, 42, 61], 46), ([47, 47], 47), ([47, 47, 61], 48), ([64], 49), ([64, 61], 50), ([45, 62], 51), ([46, 46, 46], 52), ([58, 61], 53), ([33], 54)]
end Mine
end
section
open PySem PySem.W PyProof.Rows Mine
namespace Mine
noncomputable def sumT (hs w : List Nat) : Nat := (w.map fun c => turnsC c hs).sum
noncomputable def gonesC (hs w : List Nat) : Nat := w.countP fun c => decide (0 < turnsC c hs) && decide (c ≠ 38)
noncomputable def cnt0 (hs w : List Nat) : Nat := w.countP fun c => decide (turnsC c hs = 0)
noncomputable def p2C (hs w : List Nat) : Int := if w.any (fun c => decide (0 < turnsC c hs)) = true then 2 * (2 * (sumT hs w : Int) + (w.length : Int) - (cnt0 hs w : Int) + (if 1 < (cnt0 hs w : Int) then 1 else (cnt0 hs w : Int))) - (if w = [38] then 2 else 0) else 0
noncomputable def g0 (hs : List Nat) : List Nat := [60, 62].filter fun c => decide (0 < turnsC c hs)
noncomputable def g1 (hs : List Nat) : List Int := (g0 hs).map Int.ofNat
/-- the marked words and their tokens -/
noncomputable def markT : List (List Nat × Int) := [([38], 19), ([60], 20), ([62], 21), ([60, 61], 29), ([62, 61], 30), ([60, 60], 33), ([62, 62], 34), ([38, 61], 41), ([60, 60, 61], 44), ([62, 62, 61], 45), ([45, 62], 51)]
noncomputable def g2 (hs : List Nat) : List Int := (markT.filter fun p => decide (p.1 ≠ [38]) && p.1.any fun c => decide (0 < turnsC c hs)).map (·.2)
noncomputable def lowC (c : Nat) : Bool := decide (c < 128) && !(decide (65 ≤ c) && decide (c ≤ 90))
noncomputable def fitC (n : Int) : Bool := decide (0 ≤ n) && decide (n < 10000000000)
noncomputable def wordOk (hs : List Nat) (p : List Nat × Int) : Bool :=
  rowOk (g0 hs) (p.1 ++ [32]) (wr hs (p.1 ++ [32])) (8 * (sumT hs p.1 : Int)) &&
  rowOk (g1 hs) (numF 0 (p.1 ++ [32])) (numF 0 (wr hs (p.1 ++ [32]))) (2 * (sumT hs p.1 : Int) + 2 * (gonesC hs p.1 : Int)) &&
  decide (tokF 40 (p.1 ++ [32]) = some [p.2]) &&
  (match (if wr hs (p.1 ++ [32]) = p.1 ++ [32] then some [p.2] else tokF 40 (wr hs (p.1 ++ [32]))) with | none => false | some tW => rowOk (g2 hs) [p.2] tW (p2C hs p.1) && tW.all fitC && decide (tW.length ≤ 20)) &&
  decide ((wr hs (p.1 ++ [32])).length ≤ 20) && (p.1 ++ [32]).all lowC && (wr hs (p.1 ++ [32])).all lowC && (numF 0 (p.1 ++ [32])).all fitC && (numF 0 (wr hs (p.1 ++ [32]))).all fitC &&
  decide ((numF 0 (wr hs (p.1 ++ [32]))).length ≤ 20) && decide ((numF 0 (wr hs (p.1 ++ [32]))).countP (fun n => decide (256 ≤ n)) = (numF 0 (p.1 ++ [32])).countP (fun n => decide (256 ≤ n)) + sumT hs p.1) &&
  decide ((wr hs (p.1 ++ [32])).getLast? = some 32) && decide (p.1 ≠ []) && fitC p.2
theorem words_ok : ∀ hs ∈ handsC, ∀ p ∈ opsT, wordOk hs p = true := by decide +kernel
end Mine
end
section
open PySem PySem.W PyProof.Rows PyProof.V Mine
namespace Mine
noncomputable def markL : List Str := ["&", "<", ">", "<=", ">=", "<<", ">>", "&=", "<<=", ">>=", "->"].map Str.ofString
noncomputable def plainT (x y : Str) : Str := x ++ Str.ofString " " ++ y ++ Str.ofString " "
theorem markL_len : ∀ x ∈ markL, x.length ≤ 3 := by decide +kernel
theorem opsL_len : ∀ x ∈ opsL, x.length ≤ 3 := by decide +kernel
theorem markL_ops : ∀ x ∈ markL, x ∈ opsL := by decide +kernel
theorem escC_len (h c : Nat) : (escC h c).length ≤ 5 := by
  unfold escC
  split
  · split
    · decide
    · split <;> decide
  · simp
theorem flat_len {f : Nat → List Nat} {k : Nat} (hf : ∀ c, (f c).length ≤ k) : ∀ l : List Nat, (l.flatMap f).length ≤ k * l.length
  | [] => by simp
  | c :: r => by
    have := flat_len hf r
    have h1 := hf c
    rw [List.flatMap_cons, List.length_append, List.length_cons, Nat.mul_succ]
    omega
theorem escW_len (h : Nat) (x : Str) : (escW h x).length ≤ 5 * x.length := by
  have := flat_len (escC_len h) x.cps.toList
  rw [← escW_codes] at this
  exact this
theorem escW_clean {h : Nat} {x : Str} (hx : Clean x) : Clean (escW h x) := by
  unfold escW
  split
  · exact cl_gt (cl_amp hx)
  · exact cl_lt (cl_amp hx)
  · exact cl_gt (cl_lt (cl_amp hx))
theorem handsF_mem {z h : Int} (hh : h ∈ handsF z) : 0 ≤ h ∧ h < 5 := by
  have h1 := Int.fmod_nonneg_of_pos z (show (0 : Int) < 5 by decide)
  have h2 := Int.fmod_lt_of_pos z (show (0 : Int) < 5 by decide)
  have h3 := Int.fmod_nonneg_of_pos (z.fdiv 5) (show (0 : Int) < 6 by decide)
  have h4 := Int.fmod_lt_of_pos (z.fdiv 5) (show (0 : Int) < 6 by decide)
  unfold handsF at hh
  split at hh
  · rw [List.mem_singleton] at hh; omega
  · simp only [List.mem_cons, List.not_mem_nil, or_false] at hh
    omega
theorem handsF_len (z : Int) : 1 ≤ (handsF z).length ∧ (handsF z).length ≤ 2 := by
  unfold handsF
  split
  · exact ⟨Nat.le_refl 1, Nat.le_succ 1⟩
  · exact ⟨Nat.le_succ 1, Nat.le_refl 2⟩
/-- the text as the hands write it -/
noncomputable def writeL (hs : List Int) (x : Str) : Str := hs.foldl (fun x h => escW h.toNat x) x
theorem writeL_snoc (hs : List Int) (h : Int) (x : Str) : writeL (hs ++ [h]) x = escW h.toNat (writeL hs x) := by
  unfold writeL
  rw [List.foldl_append]; rfl
theorem writeL_codes : ∀ (hs : List Int) (x : Str), (writeL hs x).cps.toList = wr (hs.map Int.toNat) x.cps.toList
  | [], _ => rfl
  | h :: r, x => by
    show (writeL r (escW h.toNat x)).cps.toList = wr (r.map Int.toNat) (x.cps.toList.flatMap (escC h.toNat))
    rw [writeL_codes r, escW_codes]
/-- the classes of the hands that a sum calls -/
noncomputable def hcls (hs : List Int) : List Nat := (hs.map Int.toNat).map clsH
theorem cls_or (n : Nat) : clsH n = 0 ∨ clsH n = 2 ∨ clsH n = 4 := by
  unfold clsH
  split
  · exact .inr (.inl rfl)
  · split
    · exact .inr (.inr rfl)
    · exact .inl rfl
theorem hcls_mem (z : Int) : hcls (handsF z) ∈ handsC := by
  unfold handsF hcls
  split
  · show [clsH (z.fmod 5).toNat] ∈ handsC
    rcases cls_or (z.fmod 5).toNat with h | h | h <;> (rw [h]; decide)
  · show [clsH (z.fmod 5).toNat, clsH ((z.fdiv 5).fmod 6 - 1).toNat] ∈ handsC
    rcases cls_or (z.fmod 5).toNat with h | h | h <;> rcases cls_or ((z.fdiv 5).fmod 6 - 1).toNat with h' | h' | h' <;> (rw [h, h']; decide)
theorem write_cls (hs : List Int) (x : Str) : (writeL hs x).cps.toList = wr (hcls hs) x.cps.toList := by
  rw [writeL_codes, hcls, wr_cls]
theorem contains_sign (m : Str) (c : Nat) : Txt.contains m ⟨#[c]⟩ = decide (c ∈ m.cps.toList) := contains_one m c
theorem marks_mk : ∀ h, h < 5 → ∀ c : Nat, Txt.contains (marksL.getD h ⟨#[]⟩) ⟨#[c]⟩ = mk h c := by
  intro h hh c
  rw [contains_sign]
  have e : ∀ h, h < 5 → (marksL.getD h ⟨#[]⟩).cps.toList = if h = 2 then [38, 62] else if h = 4 then [38, 60] else [38, 60, 62] := by decide +kernel
  rw [e h hh]
  unfold mk
  by_cases h2 : h = 2
  · subst h2; simp
  · by_cases h4 : h = 4
    · subst h4; simp
    · simp [h2, h4, Bool.or_assoc]
theorem turnsF_C (c : Nat) : ∀ hs : List Int, (∀ h ∈ hs, 0 ≤ h ∧ h < 5) → turnsF ⟨#[c]⟩ hs = (turnsC c (hs.map Int.toNat) : Nat)
  | [], _ => rfl
  | h :: r, hb => by
    have ih := turnsF_C c r fun h' hh => hb h' (.tail _ hh)
    have h5 : h.toNat < 5 := by have := hb h (.head _); omega
    show (if Txt.contains (marksL.getD h.toNat ⟨#[]⟩) ⟨#[c]⟩ = true then (r.length : Int) + 1 else turnsF ⟨#[c]⟩ r) = ((if mk h.toNat c = true then (r.map Int.toNat).length + 1 else turnsC c (r.map Int.toNat) : Nat) : Int)
    rw [marks_mk _ h5, ih, List.length_map]
    split <;> simp
theorem turnsF_cls (c : Nat) {z : Int} : turnsF ⟨#[c]⟩ (handsF z) = (turnsC c (hcls (handsF z)) : Nat) := by
  rw [turnsF_C c _ fun h hh => handsF_mem hh, hcls, turnsC_cls]
end Mine
end
section
open PySem PySem.W PyProof.Rows PyProof.V Mine
namespace Mine
/-- a word's token -/
noncomputable def tokOf (x : Str) : Int := 7 + (opsL.idxOf x : Nat)
theorem ops_tok : ∀ x ∈ opsL, (x.cps.toList, tokOf x) ∈ opsT := by decide +kernel
/-- a word's chunk -/
noncomputable def chunk (x : Str) : List Nat := x.cps.toList ++ [32]
theorem blank_codes : (Str.ofString " ").cps.toList = [32] := by decide +kernel
theorem plain_codes (x y : Str) : (plainT x y).cps.toList = chunk x ++ chunk y := by
  unfold plainT chunk
  simp only [Str.cps_append, Array.toList_append, blank_codes, List.append_assoc]
theorem numF_append : ∀ (a : Int) (l m : List Nat), Ends l → l ≠ [] → numF a (l ++ m) = numF a l ++ numF 0 m
  | _, [], _, _, h => absurd rfl h
  | a, c :: r, m, he, _ => by
    show numF a (c :: (r ++ m)) = numF a (c :: r) ++ numF 0 m
    rw [numF, numF]
    by_cases h : c / 64 = 0
    · rw [if_pos h, if_pos h]
      cases r with
      | nil => rfl
      | cons d t =>
        rw [numF_append 0 (d :: t) m (fun e he' => he e (by rw [List.getLast?_cons, he']; rfl)) (by simp)]
        rfl
    · rw [if_neg h, if_neg h]
      cases r with
      | nil => exact absurd (he c rfl) h
      | cons d t => exact numF_append _ (d :: t) m (fun e he' => he e (by rw [List.getLast?_cons, he']; rfl)) (by simp)
theorem ends_of {l : List Nat} (h : l.getLast? = some 32) : Ends l := fun c hc => by
  rw [h] at hc
  cases hc
  decide
theorem ends_append {l m : List Nat} (h : m.getLast? = some 32) : Ends (l ++ m) := ends_of (by rw [List.getLast?_append, h]; rfl)
/-- what a word's facts say -/
structure WFacts (cs : List Nat) (x : Str) where
  tW : List Int
  r0 : rowOk (g0 cs) (chunk x) (wr cs (chunk x)) (8 * (sumT cs x.cps.toList : Int)) = true
  r1 : rowOk (g1 cs) (numF 0 (chunk x)) (numF 0 (wr cs (chunk x))) (2 * (sumT cs x.cps.toList : Int) + 2 * (gonesC cs x.cps.toList : Int)) = true
  t0 : tokF 40 (chunk x) = some [tokOf x]
  t1 : tokF 40 (wr cs (chunk x)) = some tW
  r2 : rowOk (g2 cs) [tokOf x] tW (p2C cs x.cps.toList) = true
  fT : ∀ n ∈ tW, fitC n = true
  lT : tW.length ≤ 20
  lW : (wr cs (chunk x)).length ≤ 20
  cS : ∀ c ∈ chunk x, lowC c = true
  cW : ∀ c ∈ wr cs (chunk x), lowC c = true
  nS : ∀ n ∈ numF 0 (chunk x), fitC n = true
  nW : ∀ n ∈ numF 0 (wr cs (chunk x)), fitC n = true
  lN : (numF 0 (wr cs (chunk x))).length ≤ 20
  ct : (numF 0 (wr cs (chunk x))).countP (fun n => decide (256 ≤ n)) = (numF 0 (chunk x)).countP (fun n => decide (256 ≤ n)) + sumT cs x.cps.toList
  last : (wr cs (chunk x)).getLast? = some 32
  ne : x.cps.toList ≠ []
  fx : fitC (tokOf x) = true
theorem word_facts {cs : List Nat} (hc : cs ∈ handsC) {x : Str} (hx : x ∈ opsL) : Nonempty (WFacts cs x) := by
  have h := words_ok cs hc _ (ops_tok x hx)
  unfold wordOk at h
  simp only [Bool.and_eq_true, decide_eq_true_eq, List.all_eq_true] at h
  obtain ⟨⟨⟨⟨⟨⟨⟨⟨⟨⟨⟨⟨⟨h1, h2⟩, h3⟩, h4⟩, h5⟩, h6⟩, h7⟩, h8⟩, h9⟩, h10⟩, h11⟩, h12⟩, h13⟩, h14⟩ := h
  split at h4
  · cases h4
  · rename_i tW e
    simp only [Bool.and_eq_true, decide_eq_true_eq, List.all_eq_true] at h4
    have e : tokF 40 (wr cs (chunk x)) = some tW := by
      split at e
      · rename_i hW
        show tokF 40 (wr cs (x.cps.toList ++ [32])) = some tW
        rw [hW]
        exact h3.trans e
      · exact e
    exact ⟨⟨tW, h1, h2, h3, e, h4.1.1, h4.1.2, h4.2, h5, h6, h7, h8, h9, h10, h11, h12, h13, h14⟩⟩
/-! prices -/
theorem signs_map {β : Type} (f : Str → β) (x : Str) : (signs x).map f = x.cps.toList.map fun c => f ⟨#[c]⟩ := by
  unfold signs
  rw [List.map_map]; rfl
theorem turnsL_codes (z : Int) (x : Str) : turnsL (handsF z) x = x.cps.toList.map fun c => ((turnsC c (hcls (handsF z)) : Nat) : Int) := by
  unfold turnsL
  rw [signs_map]
  congr 1
  funext c
  exact turnsF_cls c
theorem sum_cast (l : List Nat) (f : Nat → Nat) : (l.map fun c => ((f c : Nat) : Int)).sum = ((l.map f).sum : Nat) := by
  induction l with
  | nil => rfl
  | cons a r ih => simp only [List.map_cons, List.sum_cons, ih, Int.natCast_add]
theorem sum_turns (z : Int) (x : Str) : (turnsL (handsF z) x).sum = (sumT (hcls (handsF z)) x.cps.toList : Nat) := by
  rw [turnsL_codes, sum_cast]; rfl
theorem amp_iff (x : Str) : x = Str.ofString "&" ↔ x.cps.toList = [38] := by
  have e : Str.ofString "&" = ⟨#[38]⟩ := by decide +kernel
  rw [e]
  constructor
  · rintro rfl; rfl
  · intro h
    cases x with
    | mk a =>
      congr 1
      exact Array.toList_inj.mp h
theorem count_map (l : List Nat) (f : Nat → Nat) : ((l.map fun c => ((f c : Nat) : Int)).count 0) = l.countP fun c => decide (f c = 0) := by
  induction l with
  | nil => rfl
  | cons a r ih =>
    rw [List.map_cons, List.count_cons, List.countP_cons, ih]
    congr 1
    by_cases h : f a = 0
    · simp [h]
    · have : ¬ ((f a : Nat) : Int) = 0 := by (first | lia | omega)
      simp [h, this]
theorem p2_codes (z : Int) (x : Str) : p2F (handsF z) x = p2C (hcls (handsF z)) x.cps.toList := by
  unfold p2F p2C
  have e1 : (turnsL (handsF z) x).any (fun t => decide (0 < t)) = x.cps.toList.any fun c => decide (0 < turnsC c (hcls (handsF z))) := by
    rw [turnsL_codes, List.any_map]
    congr 1
    funext c
    simp
  have e2 : (turnsL (handsF z) x).count 0 = cnt0 (hcls (handsF z)) x.cps.toList := by
    rw [turnsL_codes, count_map]; rfl
  have e3 : (turnsL (handsF z) x).length = x.cps.toList.length := by rw [turnsL_codes, List.length_map]
  rw [e1, sum_turns, e2, e3]
  by_cases h : x = Str.ofString "&"
  · rw [if_pos h, if_pos ((amp_iff x).mp h)]
  · rw [if_neg h, if_neg (fun e => h ((amp_iff x).mpr e))]
theorem filter_range {q : Nat → Bool} : ∀ (l : List Nat) (p : Nat → Bool), (∀ k (h : k < l.length), p k = q l[k]) → ((List.range l.length).filter p).length = l.countP q
  | [], p, _ => rfl
  | a :: r, p, h => by
    rw [List.length_cons, List.range_succ_eq_map, List.filter_cons, List.countP_cons]
    have h0 := h 0 (Nat.succ_pos _)
    rw [List.getElem_cons_zero] at h0
    have ih := filter_range r (fun k => p (k + 1)) fun k hk => h (k + 1) (Nat.succ_lt_succ hk)
    have e : ((List.map Nat.succ (List.range r.length)).filter p).length = r.countP q := by
      rw [List.filter_map, List.length_map]
      exact ih
    rw [h0]
    cases q a with
    | true => simp [e]
    | false => simp [e]
theorem gone_codes (z : Int) (x : Str) : (goneF (handsF z) x).length = gonesC (hcls (handsF z)) x.cps.toList := by
  unfold goneF gonesC
  rw [signs_length]
  refine filter_range x.cps.toList _ fun k hk => ?_
  have hk' : k < x.length := hk
  have e1 : (turnsL (handsF z) x).getD k 0 = ((turnsC x.cps.toList[k] (hcls (handsF z)) : Nat) : Int) := by
    rw [turnsL_codes, List.getD_eq_getElem?_getD, List.getElem?_map, List.getElem?_eq_getElem hk]; rfl
  have e2 : Txt.item x (k : Int) = ⟨#[x.cps.toList[k]]⟩ := by
    have := item_get (x := x) (p := 0) (s := k) (l := x.cps.toList) rfl (List.getElem?_eq_getElem hk)
    rw [show ((0 : Nat) : Int) + (k : Int) = (k : Int) by (first | lia | omega)] at this
    exact this
  have e3 : (Txt.item x (k : Int) != Str.ofString "&") = decide (x.cps.toList[k] ≠ 38) := by
    have e : Str.ofString "&" = ⟨#[38]⟩ := by decide +kernel
    rw [e2, e]
    by_cases h : x.cps.toList[k] = 38
    · simp [h]
    · simp [h]
  show (decide (0 < (turnsL (handsF z) x).getD k 0) && (Txt.item x (k : Int) != Str.ofString "&")) = _
  rw [e1, e3]
  congr 1
  exact decide_eq_decide.mpr (by (first | lia | omega))
/-! spelled -/
theorem spelled_id (c n : Nat) (h : n = 0) : (spelledF ⟨#[c]⟩ (n : Int)).cps.toList = [c] := by
  subst h; rfl
theorem wr_plain : ∀ (cs : List Nat) (c : Nat), turnsC c cs = 0 → wr cs [c] = [c]
  | [], _, _ => rfl
  | h :: r, c, ht => by
    unfold turnsC at ht
    split at ht
    · (first | lia | omega)
    · rename_i hm
      show wr r ([c].flatMap (escC h)) = [c]
      have e : [c].flatMap (escC h) = [c] := by
        rw [List.flatMap_cons, List.flatMap_nil, List.append_nil]
        unfold escC
        rw [if_neg hm]
      rw [e]
      exact wr_plain r c ht
theorem turns_marks {c : Nat} {cs : List Nat} (h : turnsC c cs ≠ 0) : c = 38 ∨ c = 60 ∨ c = 62 := by
  induction cs with
  | nil => exact absurd rfl h
  | cons a r ih =>
    unfold turnsC at h
    split at h
    · rename_i hm
      unfold mk at hm
      simp only [Bool.or_eq_true, Bool.and_eq_true, decide_eq_true_eq] at hm
      (first | lia | omega)
    · exact ih h
theorem spelled_marks : ∀ cs ∈ handsC, ∀ c ∈ [38, 60, 62], (spelledF ⟨#[c]⟩ ((turnsC c cs : Nat) : Int)).cps.toList = wr cs [c] := by decide +kernel
theorem turns_le : ∀ cs ∈ handsC, ∀ c ∈ [38, 60, 62], turnsC c cs ≤ 2 := by decide +kernel
theorem spelled_C {cs : List Nat} (hc : cs ∈ handsC) (c : Nat) : (spelledF ⟨#[c]⟩ ((turnsC c cs : Nat) : Int)).cps.toList = wr cs [c] := by
  by_cases h : turnsC c cs = 0
  · rw [wr_plain cs c h, h]; rfl
  · refine spelled_marks cs hc c ?_
    have := turns_marks h
    simp only [List.mem_cons, List.not_mem_nil, or_false]
    exact this
theorem wr_flat : ∀ (cs l : List Nat), wr cs l = l.flatMap fun c => wr cs [c]
  | cs, [] => by
    rw [List.flatMap_nil]
    induction cs with
    | nil => rfl
    | cons h r ih => exact ih
  | cs, c :: r => by
    rw [List.flatMap_cons, ← wr_flat cs r, ← wr_append]; rfl
theorem join_codes : ∀ parts : List Str, (Str.join (Str.ofString "") parts).cps.toList = parts.flatMap fun p => p.cps.toList
  | [] => rfl
  | [p] => by simp [Str.join]
  | p :: q :: r => by
    have ih := join_codes (q :: r)
    show (p ++ Str.ofString "" ++ Str.join (Str.ofString "") (q :: r)).cps.toList = _
    simp only [Str.cps_append, Array.toList_append]
    rw [ih, show (Str.ofString "").cps.toList = [] from by decide +kernel]
    simp only [List.flatMap_cons, List.append_nil]
theorem spelled_all (z : Int) (x : Str) : Str.join (Str.ofString "") ((signs x).map fun s => spelledF s (turnsF s (handsF z))) = writeL (handsF z) x := by
  have e : (Str.join (Str.ofString "") ((signs x).map fun s => spelledF s (turnsF s (handsF z)))).cps.toList = (writeL (handsF z) x).cps.toList := by
    rw [join_codes, write_cls, wr_flat, signs_map, List.flatMap_map]
    congr 1
    funext c
    show (spelledF ⟨#[c]⟩ (turnsF ⟨#[c]⟩ (handsF z))).cps.toList = _
    rw [turnsF_cls]
    exact spelled_C (hcls_mem z) c
  generalize Str.join (Str.ofString "") ((signs x).map fun s => spelledF s (turnsF s (handsF z))) = a at e
  generalize writeL (handsF z) x = b at e
  cases a; cases b
  simp only [Str.mk.injEq]
  exact Array.toList_inj.mp e
theorem spelled_pre (z : Int) (c : Nat) : turnsF ⟨#[c]⟩ (handsF z) = 0 ∨ (((⟨#[c]⟩ : Str) = Str.ofString "&" ∨ (⟨#[c]⟩ : Str) = Str.ofString "<" ∨ (⟨#[c]⟩ : Str) = Str.ofString ">") ∧ (turnsF ⟨#[c]⟩ (handsF z) = 1 ∨ turnsF ⟨#[c]⟩ (handsF z) = 2)) := by
  rw [turnsF_cls]
  by_cases h : turnsC c (hcls (handsF z)) = 0
  · left; (first | lia | omega)
  · right
    have hm := turns_marks h
    have hl := turns_le _ (hcls_mem z) c (by simp only [List.mem_cons, List.not_mem_nil, or_false]; exact hm)
    refine ⟨?_, by (first | lia | omega)⟩
    rcases hm with rfl | rfl | rfl
    · exact .inl (by decide +kernel)
    · exact .inr (.inl (by decide +kernel))
    · exact .inr (.inr (by decide +kernel))
/-! the rows -/
theorem lo_low {c : Nat} (h : lowC c = true) : c < 128 ∧ ¬ (65 ≤ c ∧ c ≤ 90) := by
  unfold lowC at h
  simp only [Bool.and_eq_true, Bool.not_eq_true', decide_eq_true_eq] at h
  refine ⟨h.1, fun hh => ?_⟩
  have := h.2
  simp [hh.1, hh.2] at this
theorem lower_low {x : Str} (h : ∀ c ∈ x.cps.toList, lowC c = true) : Txt.lower x = x := by
  rw [lower_ascii fun c hc => (lo_low (h c hc)).1]
  have e : x.cps.map lo1 = x.cps := by
    apply Array.toList_inj.mp
    rw [Array.toList_map]
    have : ∀ l : List Nat, (∀ c ∈ l, lowC c = true) → l.map lo1 = l := by
      intro l
      induction l with
      | nil => intro _; rfl
      | cons a r ih =>
        intro hl
        have ha := lo_low (hl a (.head _))
        rw [List.map_cons, ih fun c hc => hl c (.tail _ hc)]
        congr 1
        unfold lo1
        split
        · (first | lia | omega)
        · rfl
    exact this _ h
  rw [e]
theorem subst_ne {x y : Str} (hx : ∀ c ∈ x.cps.toList, lowC c = true) (hy : ∀ c ∈ y.cps.toList, lowC c = true) (h : x ≠ y) : substC x y = 2 := by
  unfold substC
  rw [lower_low hx, lower_low hy]
  have : (x == y) = false := by simpa using h
  rw [this]; rfl
end Mine
end
section
open PySem PySem.W PySem.W.KIN PyProof.Rows PyProof.V Mine
namespace Mine
theorem fit_pos {n : Int} (h : fitC n = true) : 0 ≤ n ∧ n < 10000000000 := by
  unfold fitC at h
  simpa using h
theorem strI_codes {n : Int} (h : 0 ≤ n) : (strI n).cps.toList = (Nat.toDigits 10 n.toNat).map Char.toNat := by
  obtain ⟨m, rfl⟩ := Int.eq_ofNat_of_zero_le h
  exact KIN.signs_num m
theorem strI_digit {n : Int} (h : 0 ≤ n) : ∀ c ∈ (strI n).cps.toList, 48 ≤ c ∧ c ≤ 57 := by
  intro c hc
  rw [strI_codes h] at hc
  obtain ⟨ch, hch, e⟩ := List.mem_map.mp hc
  have r := digit_range (Nat.isDigit_of_mem_toDigits (by decide) (by decide) hch)
  rw [← e]
  exact r
theorem strI_low {n : Int} (h : 0 ≤ n) : ∀ c ∈ (strI n).cps.toList, lowC c = true := by
  intro c hc
  have := strI_digit h c hc
  unfold lowC
  simp only [Bool.and_eq_true, Bool.not_eq_true', decide_eq_true_eq]
  refine ⟨by (first | lia | omega), ?_⟩
  have : ¬ 65 ≤ c := by (first | lia | omega)
  simp [this]
theorem strI_inj {a b : Int} (ha : 0 ≤ a) (hb : 0 ≤ b) (h : strI a = strI b) : a = b := by
  have h1 := strI_codes ha
  rw [h, strI_codes hb] at h1
  have h2 := congrArg PySem.NumText.digitsVal h1
  rw [KIN.val_back, KIN.val_back] at h2
  (first | lia | omega)
theorem strI_len {n : Int} (h : fitC n = true) : (strI n).length ≤ 10 := KT.len_num (fit_pos h).1 (fit_pos h).2
theorem strI_ok {n : Int} (h : 0 ≤ n) : PyData.strOk (strI n) = true := by
  unfold PyData.strOk
  rw [← Array.all_toList, List.all_eq_true]
  intro c hc
  have := strI_digit h c hc
  exact decide_eq_true (by (first | lia | omega))
theorem sign_ok {c : Nat} (h : lowC c = true) : PyData.strOk ⟨#[c]⟩ = true := by
  have := (lo_low h).1
  unfold PyData.strOk
  rw [← Array.all_toList, List.all_eq_true]
  intro d hd
  have : d = c := by simpa using hd
  subst this
  exact decide_eq_true (by (first | lia | omega))
theorem sign_low {c : Nat} (h : lowC c = true) : ∀ d ∈ (⟨#[c]⟩ : Str).cps.toList, lowC d = true := by
  intro d hd
  have : d = c := by simpa using hd
  subst this; exact h
theorem rowOk_le {α : Type} [DecidableEq α] {g S W : List α} {p : Int} (h : rowOk g S W p = true) : p ≤ 2 * (W.length : Int) + 2 * S.length ∧ S.length ≤ W.length := by
  unfold rowOk at h
  simp only [Bool.and_eq_true, Bool.or_eq_true, decide_eq_true_eq] at h
  obtain ⟨⟨⟨e1, a1⟩, q1⟩, l1⟩ := h
  have hc : (S.countP fun x => decide (x ∈ g)) ≤ S.length := List.countP_le_length
  have hl : S.length ≤ W.length := by rcases l1 with l | l; (first | lia | omega); rw [l]; exact Nat.le_refl _
  exact ⟨by rw [q1]; (first | lia | omega), hl⟩
noncomputable def RowFact (S W : List Str) (p : Int) : Prop := (S = W ∧ p = 0) ∨ Fine substC S W p
/-- all that the law's run asks -/
structure PlainFacts (P Q : Str) (z : Int) (tw : List Int) (p0 p1 p2 : Int) : Prop where
  lowP : ∀ c ∈ (plainT P Q).cps.toList, lowC c = true
  lowW : ∀ c ∈ (writeL (handsF z) (plainT P Q)).cps.toList, lowC c = true
  lenP : (plainT P Q).length ≤ 40
  lenW : (writeL (handsF z) (plainT P Q)).length ≤ 40
  endP : Ends (plainT P Q).cps.toList
  endW : Ends (writeL (handsF z) (plainT P Q)).cps.toList
  tokP : TokR (plainT P Q).cps.toList [tokOf P, tokOf Q]
  tokW : TokR (writeL (handsF z) (plainT P Q)).cps.toList tw
  fitT : fitC (tokOf P) = true ∧ fitC (tokOf Q) = true ∧ (∀ n ∈ tw, fitC n = true) ∧ tw.length ≤ 40
  fitP : (∀ n ∈ numF 0 (plainT P Q).cps.toList, fitC n = true) ∧ (numF 0 (plainT P Q).cps.toList).length ≤ 40
  fitW : (∀ n ∈ numF 0 (writeL (handsF z) (plainT P Q)).cps.toList, fitC n = true) ∧ (numF 0 (writeL (handsF z) (plainT P Q)).cps.toList).length ≤ 40
  prices : prL (handsF z) [P, Q] = [p0, p1, p2]
  count : 8 * (((numF 0 (writeL (handsF z) (plainT P Q)).cps.toList).countP (fun n => decide (256 ≤ n)) : Int) - ((numF 0 (plainT P Q).cps.toList).countP (fun n => decide (256 ≤ n)) : Int)) = p0
  row0 : RowFact (signs (plainT P Q)) (signs (writeL (handsF z) (plainT P Q))) p0
  row1 : RowFact ((numF 0 (plainT P Q).cps.toList).map strI) ((numF 0 (writeL (handsF z) (plainT P Q)).cps.toList).map strI) p1
  row2 : RowFact ([tokOf P, tokOf Q].map strI) (tw.map strI) p2
  small : p0 ≤ 1000 ∧ p1 ≤ 1000 ∧ p2 ≤ 1000
theorem chunk_last (x : Str) : (chunk x).getLast? = some 32 := by unfold chunk; simp
theorem chunk_ne (x : Str) : chunk x ≠ [] := by unfold chunk; simp
theorem ne_of_last {l : List Nat} (h : l.getLast? = some 32) : l ≠ [] := by
  rintro rfl
  cases h
theorem markT_pos : ∀ p ∈ markT, 0 ≤ p.2 := by decide +kernel
theorem plain_facts {P Q : Str} (hP : P ∈ opsL) (hQ : Q ∈ opsL) (z : Int) : ∃ tw p0 p1 p2, PlainFacts P Q z tw p0 p1 p2 := by
  have hc := hcls_mem z
  obtain ⟨f⟩ := word_facts hc hP
  obtain ⟨g⟩ := word_facts hc hQ
  have ec := plain_codes P Q
  have ew : (writeL (handsF z) (plainT P Q)).cps.toList = wr (hcls (handsF z)) (chunk P) ++ wr (hcls (handsF z)) (chunk Q) := by
    rw [write_cls, ec, wr_append]
  have en : numF 0 (plainT P Q).cps.toList = numF 0 (chunk P) ++ numF 0 (chunk Q) := by
    rw [ec]; exact numF_append 0 _ _ (ends_of (chunk_last P)) (chunk_ne P)
  have em : numF 0 (writeL (handsF z) (plainT P Q)).cps.toList = numF 0 (wr (hcls (handsF z)) (chunk P)) ++ numF 0 (wr (hcls (handsF z)) (chunk Q)) := by
    rw [ew]; exact numF_append 0 _ _ (ends_of f.last) (ne_of_last f.last)
  have q0 := rowOk_le f.r0
  have q0' := rowOk_le g.r0
  have q1 := rowOk_le f.r1
  have q1' := rowOk_le g.r1
  have q2 := rowOk_le f.r2
  have q2' := rowOk_le g.r2
  have b1 := f.lW
  have b2 := g.lW
  have b3 := f.lN
  have b4 := g.lN
  have b5 := f.lT
  have b6 := g.lT
  have lW : (writeL (handsF z) (plainT P Q)).cps.toList.length ≤ 40 := by rw [ew, List.length_append]; (first | lia | omega)
  have lP : (plainT P Q).cps.toList.length ≤ 40 := by rw [ec, List.length_append]; (first | lia | omega)
  have cW : ∀ c ∈ wr (hcls (handsF z)) (chunk P) ++ wr (hcls (handsF z)) (chunk Q), lowC c = true := fun c hc => (List.mem_append.mp hc).elim (f.cW c) (g.cW c)
  have nW : ∀ c ∈ numF 0 (wr (hcls (handsF z)) (chunk P)) ++ numF 0 (wr (hcls (handsF z)) (chunk Q)), fitC c = true := fun c hc => (List.mem_append.mp hc).elim (f.nW c) (g.nW c)
  have tW : ∀ n ∈ f.tW ++ g.tW, fitC n = true := fun n hn => (List.mem_append.mp hn).elim (f.fT n) (g.fT n)
  have g0m : ∀ x ∈ g0 (hcls (handsF z)), x = 60 ∨ x = 62 := fun x hx => by
    unfold g0 at hx
    have := (List.mem_filter.mp hx).1
    simpa using this
  refine ⟨f.tW ++ g.tW, _, _, _, ⟨?_, ?_, lP, lW, ?_, ?_, ?_, ?_, ⟨f.fx, g.fx, tW, by rw [List.length_append]; (first | lia | omega)⟩, ⟨?_, ?_⟩, ⟨by rw [em]; exact nW, by rw [em, List.length_append]; (first | lia | omega)⟩, rfl, ?_, ?_, ?_, ?_, ?_⟩⟩
  · rw [ec]; exact fun c hc => (List.mem_append.mp hc).elim (f.cS c) (g.cS c)
  · rw [ew]; exact cW
  · rw [ec]; exact ends_append (chunk_last Q)
  · rw [ew]; exact ends_append g.last
  · rw [ec]
    exact tokF_tokR (tokF_tokR0 g.t0) 40 _ _ f.t0
  · rw [ew]
    exact tokF_tokR (tokF_tokR0 g.t1) 40 _ _ f.t1
  · rw [en]; exact fun c hc => (List.mem_append.mp hc).elim (f.nS c) (g.nS c)
  · rw [en, List.length_append]; (first | lia | omega)
  · rw [en, em, List.countP_append, List.countP_append, f.ct, g.ct]
    show _ = 8 * (turnsL (handsF z) P).sum + (8 * (turnsL (handsF z) Q).sum + 0)
    rw [sum_turns, sum_turns]
    simp only [Int.natCast_add]
    (first | lia | omega)
  · have := rowOk_two costOk (fun c : Nat => (⟨#[c]⟩ : Str)) f.r0 g.r0 fun x hx y hy hne => subst_ne (sign_low (cW y hy)) (sign_low (by rcases g0m x hx with rfl | rfl <;> decide)) (fun e => hne (by simpa using e))
    have e : (8 * (turnsL (handsF z) P).sum + (8 * (turnsL (handsF z) Q).sum + 0)) = 8 * (sumT (hcls (handsF z)) P.cps.toList : Int) + 8 * (sumT (hcls (handsF z)) Q.cps.toList : Int) := by
      rw [sum_turns, sum_turns, Int.add_zero]
    show RowFact ((plainT P Q).cps.toList.map fun c => (⟨#[c]⟩ : Str)) ((writeL (handsF z) (plainT P Q)).cps.toList.map fun c => (⟨#[c]⟩ : Str)) (8 * (turnsL (handsF z) P).sum + (8 * (turnsL (handsF z) Q).sum + 0))
    rw [e, ec, ew]
    rcases this with ⟨h1, h2⟩ | h
    · exact .inl ⟨by rw [h1], h2⟩
    · exact .inr h
  · have := rowOk_two costOk strI f.r1 g.r1 fun x hx y hy hne => by
      have hx0 : 0 ≤ x := by
        obtain ⟨c, _, rfl⟩ := List.mem_map.mp hx
        exact Int.natCast_nonneg c
      have hy0 := (fit_pos (nW y hy)).1
      exact subst_ne (strI_low hy0) (strI_low hx0) (fun e => hne (strI_inj hy0 hx0 e))
    have e : ((2 * (turnsL (handsF z) P).sum + 2 * ((goneF (handsF z) P).length : Int)) + ((2 * (turnsL (handsF z) Q).sum + 2 * ((goneF (handsF z) Q).length : Int)) + 0)) = (2 * (sumT (hcls (handsF z)) P.cps.toList : Int) + 2 * (gonesC (hcls (handsF z)) P.cps.toList : Int)) + (2 * (sumT (hcls (handsF z)) Q.cps.toList : Int) + 2 * (gonesC (hcls (handsF z)) Q.cps.toList : Int)) := by
      rw [sum_turns, sum_turns, gone_codes, gone_codes, Int.add_zero]
    show RowFact _ _ ((2 * (turnsL (handsF z) P).sum + 2 * ((goneF (handsF z) P).length : Int)) + ((2 * (turnsL (handsF z) Q).sum + 2 * ((goneF (handsF z) Q).length : Int)) + 0))
    rw [e, en, em]
    rcases this with ⟨h1, h2⟩ | h
    · exact .inl ⟨by rw [h1], h2⟩
    · exact .inr h
  · have := rowOk_two costOk strI f.r2 g.r2 fun x hx y hy hne => by
      have hx0 : 0 ≤ x := by
        unfold g2 at hx
        obtain ⟨p, hp, rfl⟩ := List.mem_map.mp hx
        exact markT_pos p (List.mem_filter.mp hp).1
      have hy0 := (fit_pos (tW y hy)).1
      exact subst_ne (strI_low hy0) (strI_low hx0) (fun e => hne (strI_inj hy0 hx0 e))
    have e : p2F (handsF z) P + (p2F (handsF z) Q + 0) = p2C (hcls (handsF z)) P.cps.toList + p2C (hcls (handsF z)) Q.cps.toList := by
      rw [p2_codes, p2_codes, Int.add_zero]
    show RowFact _ _ (p2F (handsF z) P + (p2F (handsF z) Q + 0))
    rw [e]
    rcases this with ⟨h1, h2⟩ | h
    · refine .inl ⟨?_, h2⟩
      have h3 : [tokOf P, tokOf Q] = f.tW ++ g.tW := h1
      rw [h3]
    · exact .inr h
  · refine ⟨?_, ?_, ?_⟩
    · show 8 * (turnsL (handsF z) P).sum + (8 * (turnsL (handsF z) Q).sum + 0) ≤ 1000
      rw [sum_turns, sum_turns]; (first | lia | omega)
    · show (2 * (turnsL (handsF z) P).sum + 2 * ((goneF (handsF z) P).length : Int)) + ((2 * (turnsL (handsF z) Q).sum + 2 * ((goneF (handsF z) Q).length : Int)) + 0) ≤ 1000
      rw [sum_turns, sum_turns, gone_codes, gone_codes]; (first | lia | omega)
    · show p2F (handsF z) P + (p2F (handsF z) Q + 0) ≤ 1000
      rw [p2_codes, p2_codes]
      simp only [List.length_cons, List.length_nil] at q2 q2'
      (first | lia | omega)
end Mine
end
section
open PySem PySem.W PyProof.Rows PySem.Spec PySem.Calls PyProof.V Mine
namespace Mine
theorem cell_stop3 {M : Model} {A : Around} {E : Value → Shared → Prop} {s : Shared} {env : Env} {x : Str} {v : Value} {Q : Unit → Shared → Prop} (h : Stop (wpAny M A (storeName env x v) Q E s)) (_hx : env.kindOf x = some .cell := by rfl) : wpAny M A (storeName env x v) Q E s := h
/-- a frame's names, the rest unnamed -/
theorem fr_slim {h₀ h : Heap} {L : Addr} {m : Str → Option Value} (F : Fr h₀ L h m) (ps : List (Str × Value)) (h1 : ∀ p ∈ ps, m p.1 = some p.2) : ∃ u, Fr h₀ L h (kstB u ps) := ⟨m, fr_nf F ps h1⟩
noncomputable def pzM (x : Str) : Bool := Txt.contains x (Str.ofString "&") || (Txt.contains x (Str.ofString "<") || Txt.contains x (Str.ofString ">"))
theorem ops_marked : opsL.filter pzM = markL := by decide +kernel
theorem paired_strs : ∀ {as : List Str} {ys : List Value}, Paired strV as ys → StrsAre ys as := by
  intro as ys h
  induction h with
  | nil => exact .nil
  | cons h t ih =>
    obtain ⟨u, rfl⟩ := h
    exact .cons _ _ ih
theorem paired_strsF {α : Type} {f : α → Str} : ∀ {as : List α} {ys : List Value}, Paired (fun a v => strV (f a) v) as ys → StrsAre ys (as.map f) := by
  intro as ys h
  induction h with
  | nil => exact .nil
  | cons h t ih =>
    obtain ⟨u, rfl⟩ := h
    exact .cons _ _ ih
theorem strs_src : ∀ {vs : List Value} {xs : List Str}, StrsAre vs xs → ∀ (i : Nat) v, vs[i]? = some v → ∃ a, xs[i]? = some a ∧ strV a v := by
  intro vs xs hi
  induction hi with
  | nil => intro i v h; cases h
  | cons x t r ih =>
    intro i v h
    cases i with
    | zero => exact ⟨x, rfl, t, (Option.some.inj h).symm⟩
    | succ i => exact ih i v h
theorem strs_mod {prog : Program} {w : World} {A : Around} {E : Value → Shared → Prop} {s : Shared} {g : Heap} {L a : Addr} {news : List (Addr × Obj)} {vs : List Value} {n : Nat} {xs : List Str} {value slice : PySem.Expr} {i : Int} {u : Tok} {Q : Value → Shared → Prop} (N : News g L s.heap news) (hm : (a, listOf (List.toArray vs) n) ∈ news) (hv : StrsAre vs xs) (h0 : 0 ≤ i) (hi : i < xs.length) (hl : xs.length < 1000000)
    (h : ∀ x t tk, x ∈ xs → Q (.str x t) { s with toks := tk })
    (hs : ∀ v, subscripted slice false v (.int i u) = operate [v, .int i u] (getItem v (.int i u)) := by intro _; with_unfolding_all rfl)
    (ht : ∀ v r, letTemporaryGo value v r = pure () := by intro _ _; with_unfolding_all rfl) :
    wpAny (model prog w) A (subscriptTail value slice (.ref a) (.int i u)) Q E s := by
  have hj : i.toNat < xs.length := by (first | lia | omega)
  refine seq_item (k := false) (j := i.toNat) (x := xs[i.toNat]) hl N (.list hm hv) (by simp [hj]) (Or.inl (by (first | lia | omega))) (fun t tk => h _ t tk (List.getElem_mem hj)) hs ht
theorem slice3_ints {prog : Program} {w : World} {A : Around} {E : Value → Shared → Prop} {s : Shared} {g : Heap} {L l : Addr} {m : Str → Option Value} {news : List (Addr × Obj)} {vs : List Value} {ns : List Int} {value slice : PySem.Expr} {a b : Int} {ta tb : Tok} {ops : List Value} {Q : Value → Shared → Prop} (F : Fr g L s.heap m) (N : News g L s.heap news) (hl : s.heap.IsList l vs.toArray) (hI : IntsAre vs ns) (hlen : ns.length ≤ 1000) (h0 : b ≠ 0)
    (h : ∀ D vs' ms h', Fr g L h' m → News g L h' ((D, listOf (List.toArray vs') 0) :: news) → IntsAre vs' ms → Q (.ref D) { s with heap := h' })
    (hs : subscripted slice false (.ref l) (.ref s.heap.objs.size) = operate ops (getItem (.ref l) (.ref s.heap.objs.size)) := by with_unfolding_all rfl)
    (ht : ∀ r, letTemporaryGo value (.ref l) r = pure () := by intro _; with_unfolding_all rfl) :
    wpAny (model prog w) A (subscriptTail value slice (.ref l) (.ref s.heap.objs.size)) Q E { s with heap := s.heap.push { cls := .type "slice", data := .fields #[.int a ta, .none, .int b tb] } } := by
  refine slice_list3 F N hl (.int _ _) .none (.int _ _) (fun e => h0 (Option.some.inj e)) (fun h' F' N' => h _ (slicePick vs.toArray (some a) none (some b)).toList _ h' F' ?_ (hI.pick _ _ _)) hs ht (by rw [List.size_toArray, hI.length, sizeLine_eq]; (first | lia | omega))
  rw [Array.toArray_toList]; exact N'
theorem fmod_pos (a : Int) {b : Int} (h : 0 < b) : 0 ≤ a.fmod b ∧ a.fmod b < b := ⟨Int.fmod_nonneg_of_pos a h, Int.fmod_lt_of_pos a h⟩
theorem news_ne {g h : Heap} {L a b : Addr} {o o' : Obj} {news : List (Addr × Obj)} (N : News g L h news) (ha : (a, o) ∈ news) (hb : (b, o') ∈ news) (hne : o ≠ o') : a ≠ b := by
  rintro rfl
  have h1 := (N _ ha).1
  rw [(N _ hb).1] at h1
  exact hne (Option.some.inj h1).symm
theorem list_ne_cell {vs : Array Value} {n : Nat} {o : Obj} {v : Option Value} (h : o.data = .cell v) : listOf vs n ≠ o := fun e => by
  rw [← e] at h
  cases h
theorem plain_len {P Q : Str} (hP : P ∈ opsL) (hQ : Q ∈ opsL) : (plainT P Q).length ≤ 8 * 5 ^ 0 := by
  have h1 := opsL_len P hP
  have h2 := opsL_len Q hQ
  have h3 : (Str.ofString " ").length = 1 := by decide +kernel
  unfold plainT
  rw [Str.length_append, Str.length_append, Str.length_append, h3]
  (first | lia | omega)
theorem ops_clean : ∀ x ∈ opsL, ∀ c ∈ x.cps.toList, 32 ≤ c ∧ c ≠ 34 := by decide +kernel
theorem plain_clean {P Q : Str} (hP : P ∈ opsL) (hQ : Q ∈ opsL) : Clean (plainT P Q) := fun d hd => by
  rw [plain_codes] at hd
  unfold chunk at hd
  simp only [List.mem_append, List.mem_singleton] at hd
  rcases hd with (hd | hd) | hd | hd
  · have := ops_clean P hP d hd; (first | lia | omega)
  · (first | lia | omega)
  · have := ops_clean Q hQ d hd; (first | lia | omega)
  · (first | lia | omega)
theorem ints_src : ∀ {vs : List Value} {xs : List Int}, IntsAre vs xs → ∀ (i : Nat) v, vs[i]? = some v → ∃ a, xs[i]? = some a ∧ intV a v := by
  intro vs xs hi
  induction hi with
  | nil => intro i v h; cases h
  | cons x t r ih =>
    intro i v h
    cases i with
    | zero => exact ⟨x, rfl, t, (Option.some.inj h).symm⟩
    | succ i => exact ih i v h
theorem join_len (parts : List Str) : (parts.map (·.length)).sum = (Str.join (Str.ofString "") parts).cps.toList.length := by
  rw [join_codes, List.length_flatMap]
  rfl
theorem join_txt (xs : List Str) : Txt.join (Str.ofString "") xs = Str.join (Str.ofString "") xs := StrLaws.glued_eq_join _ xs
theorem join_strs {prog : Program} {w : World} {A : Around} {E : Value → Shared → Prop} {s : Shared} {g : Heap} {L D : Addr} {news : List (Addr × Obj)} {vs : List Value} {n : Nat} {xs : List Str} {t : Tok} {Q : Value → Shared → Prop} (N : News g L s.heap news) (hm : (D, listOf (List.toArray vs) n) ∈ news) (hv : StrsAre vs xs) (hlen : (xs.map (·.length)).sum + xs.length * (Str.ofString "").length ≤ 16777216)
    (h : ∀ t' tk, Q (.str (Str.join (Str.ofString "") xs) t') { s with toks := tk }) : wpAny (model prog w) A (call (.builtin "str.join") [.str (Str.ofString "") t, .ref D]) Q E s := by
  obtain ⟨l, rfl, hl⟩ := strsAre_values hv
  exact SC.join (news_list N hm) hl (joinOk_of hlen) (by rw [join_txt]; exact h)
noncomputable def isS (k : Str) : Value → Bool
  | .str b _ => b == k
  | _ => false
theorem strs_is : ∀ {vs : List Value} {xs : List Str}, StrsAre vs xs → ∀ y ∈ vs, ∃ b u, y = .str b u := by
  intro vs xs hi
  induction hi with
  | nil => intro y h; exact nomatch h
  | cons x t r ih =>
    intro y h
    rcases List.mem_cons.mp h with rfl | h
    · exact ⟨x, t, rfl⟩
    · exact ih y h
theorem strs_isS {k : Str} : ∀ {vs : List Value} {xs : List Str}, StrsAre vs xs → ∀ (j : Nat) (h : j < vs.length) (h' : j < xs.length), isS k vs[j] = (xs[j] == k) := by
  intro vs xs hi
  induction hi with
  | nil => intro j h _; exact absurd h (Nat.not_lt_zero _)
  | cons x t r ih =>
    intro j h h'
    cases j with
    | zero => rfl
    | succ j => exact ih j (Nat.lt_of_succ_lt_succ h) (Nat.lt_of_succ_lt_succ h')
theorem idxOf_le (xs : List Str) (k : Str) (j : Nat) (h : j < xs.length) (e : xs[j] = k) : xs.idxOf k ≤ j := by
  induction xs generalizing j with
  | nil => exact absurd h (Nat.not_lt_zero _)
  | cons a r ih =>
    rw [List.idxOf_cons]
    cases hb : a == k with
    | true => simp
    | false =>
      cases j with
      | zero =>
        have : a = k := e
        subst this
        simp at hb
      | succ j =>
        have := ih j (Nat.lt_of_succ_lt_succ h) e
        simp only [cond_false]
        (first | lia | omega)
theorem index_strs {prog : Program} {w : World} {A : Around} {E : Value → Shared → Prop} {s : Shared} {g : Heap} {L D : Addr} {news : List (Addr × Obj)} {vs : List Value} {n : Nat} {xs : List Str} {k : Str} {t : Tok} {Q : Value → Shared → Prop} (N : News g L s.heap news) (hm : (D, listOf (List.toArray vs) n) ∈ news) (hv : StrsAre vs xs) (hk : k ∈ xs) (hl : xs.length < 1000000)
    (h : ∀ t' tk, Q (.int (xs.idxOf k : Nat) t') { s with toks := tk }) : wpAny (model prog w) A (call (.builtin "list.index") [.ref D, .str k t]) Q E s := by
  have hlen := hv.length
  have hj : xs.idxOf k < xs.length := List.idxOf_lt_length_iff.mpr hk
  refine call_meets PySem.F.slot_list_index ⟨_, (N _ hm).1, rfl⟩ PySem.F.entry_list_index (PySem.F.args_list_index_2 _ _)
    (SeqAt.list_indexAt D vs.toArray n none #[] (.str k t) (isS k) (xs.idxOf k) (by simpa [hlen] using hj) (by (first | lia | omega)) ?_ ?_) ⟨(N _ hm).1, fun y hy => ?_, h _ _⟩
  · show isS k vs[xs.idxOf k] = true
    rw [strs_isS hv _ (by (first | lia | omega)) hj]
    simpa using List.getElem_idxOf hj
  · intro j hjs hlt
    have hjs' : j < vs.length := by simpa using hjs
    show isS k vs[j] = false
    rw [strs_isS hv j hjs' (by (first | lia | omega))]
    cases hb : xs[j] == k with
    | false => rfl
    | true =>
      have h1 : xs.idxOf k ≤ j := idxOf_le xs k j (by (first | lia | omega)) (by simpa using hb)
      (first | lia | omega)
  · obtain ⟨b, u, rfl⟩ := strs_is hv y (by simpa using hy)
    exact SeqAt.EqAt.str_str b u k t
set_option genInjectivity false in
set_option genSizeOf false in
structure LS where
  oW : Obj
  oH : Obj
  Dw : Addr
  yw : List Value
  nw : Nat
  Dp : Addr
  tp : Tok
  tq : Tok
  np : Nat
  Dh : Addr
  yh : List Value
  nh : Nat
  P : Str
  Q : Str
  z : Int
  pt : Tok

section
variable {prog : Program} {w : World} {A : Around} {E : Value → Shared → Prop} {s : Shared} {g : Heap} {L D D' : Addr} {news : List (Addr × Obj)} {vs us : List Value} {n n' : Nat} {xs ys : List Str}
theorem ne_strs {Q : Value → Shared → Prop} (N : News g L s.heap news) (hm : (D, listOf (List.toArray vs) n) ∈ news) (hm' : (D', listOf (List.toArray us) n') ∈ news) (hv : StrsAre vs xs) (hv' : StrsAre us ys) (hox : ∀ x ∈ xs, PyData.strOk x = true) (hoy : ∀ x ∈ ys, PyData.strOk x = true) (hu : A.units + 64 < cLine)
    (h : Q (.bool (!decide (xs = ys))) s) : wpAny (model prog w) A (compareOp .NotEq (.ref D) (.ref D')) Q E s :=
  ne_dataH_same (reads_newData (news_list N hm) hv.carried) (reads_newData (news_list N hm') hv'.carried) (shaped_strs _ hox) (shaped_strs _ hoy) hu (SeqAt.noMix_of_shape (.list .str) rfl _ _ (list_map_has fun _ => rfl) (list_map_has fun _ => rfl)) (by rw [same_strs]; exact h)
end
set_option genInjectivity false in
set_option genSizeOf false in
structure LD where
  Dp : Addr
  vp : List Value
  np : Nat
  Dn : Addr
  vn : List Value
  nn : Nat
  Df : Addr
  vf : List Value
  nf : Nat
theorem ops_pos : ∀ x ∈ opsL, 0 < x.length := by decide +kernel
theorem never_both (a : Int) : (decide (a < 256) == decide (256 ≤ a)) = false := by
  by_cases h : a < 256
  · rw [decide_eq_true h, decide_eq_false (by (first | lia | omega))]; rfl
  · rw [decide_eq_false h, decide_eq_true (by (first | lia | omega))]; rfl
noncomputable def isB : Value → Bool
  | .bool b => b == true
  | _ => false
theorem countP_bools {α : Type} {q : α → Bool} : ∀ {as : List α} {vs : List Value}, Paired (fun a v => v = .bool (q a)) as vs → vs.countP isB = as.countP q := by
  intro as vs h
  induction h with
  | nil => rfl
  | @cons a _ _ _ h t ih =>
    subst h
    rw [List.countP_cons, List.countP_cons, ih]
    congr 1
    show (if (q a == true) = true then 1 else 0) = _
    cases q a <;> rfl
theorem bools_is {α : Type} {q : α → Bool} : ∀ {as : List α} {vs : List Value}, Paired (fun a v => v = .bool (q a)) as vs → ∀ y ∈ vs, ∃ b, y = .bool b := by
  intro as vs h
  induction h with
  | nil => intro y h; exact nomatch h
  | cons h t ih =>
    intro y hy
    rcases List.mem_cons.mp hy with rfl | hy
    · exact ⟨_, h⟩
    · exact ih y hy
theorem count_bools {prog : Program} {w : World} {A : Around} {E : Value → Shared → Prop} {s : Shared} {g : Heap} {L D : Addr} {news : List (Addr × Obj)} {vs : List Value} {n : Nat} {α : Type} {q : α → Bool} {as : List α} {Q : Value → Shared → Prop} (N : News g L s.heap news) (hm : (D, listOf (List.toArray vs) n) ∈ news) (hG : Paired (fun a v => v = .bool (q a)) as vs)
    (h : ∀ t' tk, Q (.int (as.countP q : Nat) t') { s with toks := tk }) : wpAny (model prog w) A (call (.builtin "list.count") [.ref D, .bool true]) Q E s := by
  refine call_meets PySem.F.slot_list_count ⟨_, (N _ hm).1, rfl⟩ PySem.F.entry_list_count (PySem.F.args_list_count_2 _ _)
    (SeqAt.list_countAt D vs.toArray n none #[] (.bool true) isB) ⟨(N _ hm).1, fun y hy => ?_, ?_⟩
  · obtain ⟨b, rfl⟩ := bools_is hG y (by simpa using hy)
    exact SeqAt.EqAt.bool_bool b true
  · have e : vs.toArray.toList.countP isB = as.countP q := countP_bools hG
    rw [e]
    exact h _ _
set_option genInjectivity false in
set_option genSizeOf false in
structure LE where
  Rr : Addr
  nr : Nat
  Ra : Addr
  na : Nat
  ta : Tok
  tb : Tok
  Rb : Addr
  nb : Nat
  Rc : Addr
  nc : Nat
  D1 : Addr
  v1 : List Value
  n1 : Nat
  D2 : Addr
  v2 : List Value
  n2 : Nat
  D3 : Addr
  v3 : List Value
  n3 : Nat
  D4 : Addr
  v4 : List Value
  n4 : Nat
  sd : Int
  ts : Tok
theorem RowFact.nonneg {S W : List Str} {p : Int} (h : RowFact S W p) : 0 ≤ p := by
  rcases h with ⟨_, h⟩ | h
  · (first | lia | omega)
  · have h1 := h.ge costOk
    have h2 := h.len
    (first | lia | omega)
theorem RowFact.fwd {S W : List Str} {p : Int} (h : RowFact S W p) : (S = W ∧ p = 0) ∨ Fine substC S W p ∨ Fine substC W S p := by
  rcases h with h | h
  · exact .inl h
  · exact .inr (.inl h)
theorem RowFact.bwd {S W : List Str} {p : Int} (h : RowFact S W p) : (W = S ∧ p = 0) ∨ Fine substC W S p ∨ Fine substC S W p := by
  rcases h with ⟨h1, h2⟩ | h
  · exact .inl ⟨h1.symm, h2⟩
  · exact .inr (.inr h)
/-- an item of a written list -/
theorem at_item {prog : Program} {w : World} {A : Around} {E : Value → Shared → Prop} {s : Shared} {g : Heap} {L a : Addr} {news : List (Addr × Obj)} {vs : List Value} {n : Nat} {x : Value} {i : Int} {value slice : PySem.Expr} {u : Tok} {Q : Value → Shared → Prop} (N : News g L s.heap news) (hm : (a, listOf (List.toArray vs) n) ∈ news) (h0 : 0 ≤ i) (h1 : i < 1000) (hx : vs[i.toNat]? = some x)
    (h : ∀ tk, Q x { s with toks := tk })
    (hs : ∀ v, subscripted slice false v (.int i u) = operate [v, .int i u] (getItem v (.int i u)) := by intro _; with_unfolding_all rfl) :
    wpAny (model prog w) A (subscriptTail value slice (.ref a) (.int i u)) Q E s :=
  tail_any (news_list N hm).typeIs slot_list_getitem.lookup (wpAny_getItem_list (news_list N hm) h0 (by (first | lia | omega)) (by simpa using hx) (h s.toks)) (hs _)
theorem signs_okL {x : Str} (h : ∀ c ∈ x.cps.toList, lowC c = true) : ∀ s ∈ signs x, PyData.strOk s = true := by
  intro s hs
  obtain ⟨c, hc, rfl⟩ := List.mem_map.mp hs
  exact sign_ok (h c hc)
theorem signs_short {x : Str} : ∀ s ∈ signs x, s.length < 1000 := by
  intro s hs
  rw [signs_one hs]; decide
theorem nums_ok {l : List Int} (h : ∀ n ∈ l, fitC n = true) : ∀ s ∈ l.map strI, PyData.strOk s = true := by
  intro s hs
  obtain ⟨c, hc, rfl⟩ := List.mem_map.mp hs
  exact strI_ok (fit_pos (h c hc)).1
theorem nums_short {l : List Int} (h : ∀ n ∈ l, fitC n = true) : ∀ s ∈ l.map strI, s.length < 1000 := by
  intro s hs
  obtain ⟨c, hc, rfl⟩ := List.mem_map.mp hs
  have := strI_len (h c hc)
  (first | lia | omega)
theorem pair_fit {a b : Int} (ha : fitC a = true) (hb : fitC b = true) : ∀ n ∈ [a, b], fitC n = true := by
  intro n hn
  simp only [List.mem_cons, List.not_mem_nil, or_false] at hn
  rcases hn with rfl | rfl
  · exact ha
  · exact hb
end Mine
end
section
open PySem PySem.W PyProof.Rows PySem.Spec PySem.Calls PyProof.V Mine
namespace Mine
theorem joined_LawAll : True := by
  w_top off
  trivial
local macro_rules | `(tactic| walk_at "call ref") => `(tactic| (refine Stop.intro ?_))
local macro_rules | `(tactic| walk_at "pyIter ref") => `(tactic| (refine Stop.intro ?_))
local macro_rules | `(tactic| walk_at "pyIter str") => `(tactic| (refine Stop.intro ?_))
local macro_rules | `(tactic| walk_at "exec For Name Name cons nil") => `(tactic| (refine Stop.intro ?_))
local macro_rules | `(tactic| walk_at "exec For Name Call cons nil") => `(tactic| (refine Stop.intro ?_))
local macro_rules | `(tactic| walk_at "InvEndN") => `(tactic| (refine Stop.intro ?_))
local macro_rules | `(tactic| walk_at "CIter") => `(tactic| (refine Stop.intro ?_))
local macro_rules | `(tactic| walk_at "Leaf") => `(tactic| (refine Stop.intro ?_))
local macro_rules | `(tactic| walk_at "exec Assign cons ListComp") => `(tactic| (refine Stop.intro ?_))
local macro_rules | `(tactic| walk_at "eval ListComp") => `(tactic| (refine Stop.intro ?_))
local macro_rules | `(tactic| walk_at "storeName") => `(tactic| (k_here; with_unfolding_all refine cell_stop3 ?_ (by rfl)))

local macro_rules | `(tactic| walk_at "subscriptTail Name Slice ref ref") => `(tactic| (refine Stop.intro ?_))
local macro_rules | `(tactic| walk_at "call builtin:sum") => `(tactic| (refine Stop.intro ?_))
local macro_rules | `(tactic| walk_at "subscriptTail Name BinOp ref int") => `(tactic| (refine Stop.intro ?_))
local macro_rules | `(tactic| walk_at "binaryOp Add str str") => `(tactic| (refine Stop.intro ?_))
local macro_rules | `(tactic| walk_at "subscriptTail Name Constant ref int") => `(tactic| (refine Stop.intro ?_))
local macro_rules | `(tactic| walk_at "call builtin:str.join") => `(tactic| (refine Stop.intro ?_))
local macro_rules | `(tactic| walk_at "call builtin:list.index") => `(tactic| (refine Stop.intro ?_))
local macro_rules | `(tactic| walk_at "compareOp NotEq ref ref") => `(tactic| (refine Stop.intro ?_))
local macro_rules | `(tactic| walk_at "subscriptTail Name Name ref int") => `(tactic| (refine Stop.intro ?_))
local macro_rules | `(tactic| walk_at "subscriptTail Subscript Name ref int") => `(tactic| (refine Stop.intro ?_))
local macro_rules | `(tactic| walk_at "subscriptTail Subscript BinOp ref int") => `(tactic| (refine Stop.intro ?_))
local macro_rules | `(tactic| walk_at "subscriptTail Subscript Name Name Name ref int") => `(tactic| (refine Stop.intro ?_))
local macro_rules | `(tactic| walk_at "subscriptTail Subscript") => `(tactic| (refine Stop.intro ?_))
local macro_rules | `(tactic| walk_at "subscriptTail") => `(tactic| (refine Stop.intro ?_))
local macro_rules | `(tactic| walk_at "subscriptTail Subscript Name Name BinOp ref int") => `(tactic| (refine Stop.intro ?_))
theorem law_all : PySem.Challenge.rw_tv0046_01.Holds := by
  refine hd (by
    k_go0
    (all_goals try k_fold)
    rename Frag.In _ _ => X0
    rename Top _ _ _ _ _ _ => T0
    rename Below _ _ _ _ => B0
    rename IntsAre _ _ => hI
    rename Heap.IsList _ _ _ => hL
    rename Fr _ _ _ _ => F0
    rename News _ _ _ _ => N0
    rename (¬ ((63 : Nat) : Int) < _) => hlen
    obtain ⟨u0, F1⟩ := fr_slim F0 [(Str.ofString "script", .ref _)] (by kst_all)
    clear F0
    rename_i w s0 s1 mg mb G Y fa o pm doc ho hg X V GL B TE TW w9 w8 M w7 w6 hcd ns hs hlay0 hL1 hr1 hl2 w4 w3 sc vs w0 ra w1 r0 hr hcond hD h1 tk1 oH oW dH dW X9
    have hgood : ∀ (h' : Heap) (tk' : Nat) (m' : Str → Option Value), Fr s1.heap s1.heap.objs.size h' m' → qk (.ret (.bool true)) { s1 with heap := h', toks := tk' } := by
      intro h' tk' m' F'
      k_steps
    have hek : PassesOwn _ _ _ ek := PySem.PassesOwn.leaving
    dsimp only at hek
    clear_value qk ek
    obtain ⟨vW, cW⟩ : ∃ v, oW.data = .cell v := ⟨_, dW⟩
    obtain ⟨vH, cH⟩ : ∃ v, oH.data = .cell v := ⟨_, dH⟩
    clear dW dH hD X9 G Y ho hg X V GL B TE TW M hcd hs hlay0 hL1 hr1 hl2 ra w1 r0 hr hcond
    dsimp only
    have B1 : Below callerA s1.heap [] s1.heap := B0
    clear B0
    generalize hL0 : s1.heap.objs.size = L at *
    refine cut_st (σ := LS) (a := [_, _, _, _, _]) F1 (fun c => [(Str.ofString "script", .ref sc), (Str.ofString "pair", .ref c.Dp), (Str.ofString "plain", .str (plainT c.P c.Q) c.pt)]) (fun c => [(c.Dp, listOf (List.toArray [.str c.P c.tp, .str c.Q c.tq]) c.np), (c.Dh, listOf (List.toArray c.yh) c.nh), (L + 1 + 1, c.oH), (c.Dw, listOf (List.toArray c.yw) c.nw), (L + 1, c.oW)])
      (fun c => c.oW.data = .cell (some (.ref c.Dw)) ∧ c.oH.data = .cell (some (.ref c.Dh)) ∧ StrsAre c.yw opsL ∧ IntsAre c.yh (handsF c.z) ∧ c.P ∈ markL ∧ c.Q ∈ opsL) ?_ ?_
    · k_steps
      unfold Stop
      refine ops_use B1 F1 X0 N0 T0 (by rfl) (by decide +kernel) (by decide +kernel) fun Dw yw nw h2 tk2 F2 N2 lt2 I2 => ?_
      k_steps
      unfold Stop
      have nW : ∀ q ∈ [(Dw, listOf (List.toArray yw) nw), (L + 1 + 1, oH)], q.1 ≠ L + 1 := by
        intro q hq
        rcases List.mem_cons.mp hq with rfl | hq
        · exact Ne.symm (Nat.ne_of_lt (lt2 _ (.tail _ (.head _))))
        · rw [List.mem_singleton.mp hq]; exact Ne.symm (Nat.ne_of_lt (Nat.lt_succ_self _))
      refine cell_store [(Dw, listOf (List.toArray yw) nw), (L + 1 + 1, oH)] F2 N2 (by rfl) (.tail _ (.tail _ (.head _))) cW (by (intro p hp; simp only [List.mem_cons, List.mem_append, List.cons_append, List.not_mem_nil, or_false] at hp ⊢; (repeat' (with_reducible refine Or.elim hp (fun hp => ?_) (fun hp => ?_))); all_goals simp only [hp, true_or, or_true])) nW ?_ (by rfl) (by rfl)
      intro h3 oW3 F3 N3 cW3
      clear F1 N0 F2 N2 cW
      k_steps
      unfold Stop
      refine comp_assign strV pzM strV (fun _ _ _ => strV_inj) (by rfl) (by rfl) (by decide) (by rfl) (by decide) (by rfl) (by rfl) (by rfl) ?_
      k_steps
      unfold Stop
      refine ⟨opsL, _, _, _, ?_, Src.list (by rfl) (news_list N3 (.tail _ (.head _))) I2.length (strs_src I2), F3, N3, ?_, ?_, ?_⟩
      · rw [sizeLine_eq]; decide
      · rintro C a1 _ s2 m2 E2 hC ha1 ⟨ta, rfl⟩ hns hm2 F9 N9 cE
        k_steps
        all_goals unfold Stop
        all_goals refine ⟨?_, _, _, rfl, fun _ _ e => e⟩
        all_goals show _ = ((!(Builtin.Str.occurrences a1 (Str.ofString "&") 0 a1.length 1).isEmpty) || ((!(Builtin.Str.occurrences a1 (Str.ofString "<") 0 a1.length 1).isEmpty) || (!(Builtin.Str.occurrences a1 (Str.ofString ">") 0 a1.length 1).isEmpty)))
        · rename (Builtin.Str.occurrences a1 (Str.ofString "&") 0 a1.length 1).isEmpty = true => q1
          rename (Builtin.Str.occurrences a1 (Str.ofString "<") 0 a1.length 1).isEmpty = true => q2
          rename (Builtin.Str.occurrences a1 (Str.ofString ">") 0 a1.length 1).isEmpty = true => q3
          rw [q1, q2, q3]; rfl
        · rename (Builtin.Str.occurrences a1 (Str.ofString "&") 0 a1.length 1).isEmpty = true => q1
          rename (Builtin.Str.occurrences a1 (Str.ofString "<") 0 a1.length 1).isEmpty = true => q2
          rename (Builtin.Str.occurrences a1 (Str.ofString ">") 0 a1.length 1).isEmpty = false => q3
          rw [q1, q2, q3]; rfl
        · rename (Builtin.Str.occurrences a1 (Str.ofString "&") 0 a1.length 1).isEmpty = true => q1
          rename (Builtin.Str.occurrences a1 (Str.ofString "<") 0 a1.length 1).isEmpty = false => q2
          rw [q1, q2]; rfl
        · rename (Builtin.Str.occurrences a1 (Str.ofString "&") 0 a1.length 1).isEmpty = false => q1
          rw [q1]; rfl
      · rintro C a1 _ s2 m2 E2 hC ha1 ⟨ta, rfl⟩ _ hns hm2 F9 N9 cE
        k_steps
        unfold Stop
        exact ⟨⟨_, rfl⟩, _, _, rfl, fun _ _ e => e⟩
      intro D4 ys4 n4 h4 tk4 F4 N4 hD4 hG4
      rw [ops_marked] at hG4
      have I4 : StrsAre ys4 markL := paired_strs hG4
      k_steps
      unfold Stop
      have hlen3 : ns.length ≤ 1000 := by (first | lia | omega)
      have hlst : ∀ (h : Heap) (m : Str → Option Value), Fr s1.heap L h m → h.IsList sc vs.toArray := fun h m F => by
        obtain ⟨o, e, r⟩ := hL
        exact ⟨o, F.keep _ _ e, r⟩
      rename Fr _ _ _ _ => F5
      rename News _ _ _ _ => N5
      refine slice3_ints (s := ⟨_, _, _, _, _⟩) F5 N5 (hlst _ _ F5) hI hlen3 (by decide) fun D6 vs6 ms6 h6 F6 N6 I6 => ?_
      k_steps
      unfold Stop
      refine LSm.sum_ints F6 N6 (by rfl) (news_list N6 (.head _)) I6 fun h7 tk7 t7 F7 N7 => ?_
      k_steps
      unfold Stop
      have lm : markL.length = 11 := rfl
      have lo : opsL.length = 48 := rfl
      refine strs_mod (s := ⟨_, _, _, _, _⟩) N7 (by tb_rel) I4 (fmod_pos _ (by decide)).1 (by rw [lm]; exact (fmod_pos _ (by decide)).2) (by rw [lm]; decide) fun P tp8 tk8 hP => ?_
      k_steps
      unfold Stop
      rename Fr _ _ _ _ => F8
      rename News _ _ _ _ => N8
      refine slice3_ints (s := ⟨_, _, _, _, _⟩) F8 N8 (hlst _ _ F8) hI hlen3 (by decide) fun D9 vs9 ms9 h9 F9 N9 I9 => ?_
      k_steps
      unfold Stop
      refine LSm.sum_ints F9 N9 (by rfl) (news_list N9 (.head _)) I9 fun h10 tk10 t10 F10 N10 => ?_
      k_steps
      unfold Stop
      refine strs_mod (s := ⟨_, _, _, _, _⟩) N10 (by tb_rel) I2 (fmod_pos _ (by decide)).1 (by rw [lo]; exact (fmod_pos _ (by decide)).2) (by rw [lo]; decide) fun Q tq11 tk11 hQ => ?_
      k_steps
      unfold Stop
      rename Fr _ _ _ _ => F12
      rename News _ _ _ _ => N12
      refine slice3_ints (s := ⟨_, _, _, _, _⟩) F12 N12 (hlst _ _ F12) hI hlen3 (by decide) fun D13 vs13 ms13 h13 F13 N13 I13 => ?_
      k_steps
      unfold Stop
      refine LSm.sum_ints F13 N13 (by rfl) (news_list N13 (.head _)) I13 fun h14 tk14 t14 F14 N14 => ?_
      k_steps
      unfold Stop
      refine hands_use B1 F14 X0 N14 T0 (by rfl) (by decide +kernel) (by decide +kernel) fun Dh yh nh h15 tk15 F15 N15 lt15 I15 => ?_
      k_steps
      unfold Stop
      rename_i Dp ha15 hb15 hc15 ly15 hz15
      refine cell_store [(Dh, listOf (List.toArray yh) nh), (Dp, listOf (List.toArray [.str P tp8, .str Q tq11]) 0), (L + 1, oW3), (Dw, listOf (List.toArray yw) nw)] F15 N15 (by rfl) (by tb_rel) cH (by (intro p hp; simp only [List.mem_cons, List.mem_append, List.cons_append, List.not_mem_nil, or_false] at hp ⊢; (repeat' (with_reducible refine Or.elim hp (fun hp => ?_) (fun hp => ?_))); all_goals simp only [hp, true_or, or_true])) ?_ ?_ (by rfl) (by rfl)
      · intro q hq
        simp only [List.mem_cons, List.not_mem_nil, or_false] at hq
        rcases hq with rfl | rfl | rfl | rfl
        · exact Ne.symm (Nat.ne_of_lt (lt15 (L + 1 + 1, oH) (by tb_rel)))
        · exact news_ne N15 (by tb_rel) (by tb_rel) (list_ne_cell cH)
        · exact Nat.ne_of_lt (Nat.lt_succ_self _)
        · exact news_ne N15 (by tb_rel) (by tb_rel) (list_ne_cell cH)
      intro h16 oH16 F16 N16 cH16
      have lP : P.length ≤ 3 := markL_len P hP
      have lQ : Q.length ≤ 3 := opsL_len Q hQ
      clear F15 N15 lt15
      k_steps
      unfold Stop
      have Sp : SeqV [(L + 1 + 1, oH16), (Dh, listOf (List.toArray yh) nh), (Dp, listOf (List.toArray [.str P tp8, .str Q tq11]) 0), (L + 1, oW3), (Dw, listOf (List.toArray yw) nw)] false (.ref Dp) [P, Q] := .list (vs := [.str P tp8, .str Q tq11]) (n := 0) (by tb_rel) (.cons _ _ (.cons _ _ .nil))
      refine seq_item (s := ⟨_, _, _, _, _⟩) (xs := [P, Q]) (j := 0) (x := P) (by show 2 < 1000000; decide) N16 Sp rfl (Or.inl rfl) fun t17 tk17 => ?_
      k_steps
      unfold Stop
      have l1 : (Str.ofString " ").length = 1 := by decide +kernel
      refine SB.add (fun t18 tk18 => ?_) (hsz := by rw [sizeLine_eq, l1]; (first | lia | omega))
      k_steps
      unfold Stop
      refine seq_item (s := ⟨_, _, _, _, _⟩) (xs := [P, Q]) (j := 1) (x := Q) (by show 2 < 1000000; decide) N16 Sp rfl (Or.inl rfl) fun t19 tk19 => ?_
      k_steps
      unfold Stop
      refine SB.add (fun t20 tk20 => ?_) (hsz := by rw [sizeLine_eq, Str.length_append, l1]; (first | lia | omega))
      k_steps
      unfold Stop
      refine SB.add (fun t21 tk21 => ?_) (hsz := by rw [sizeLine_eq, Str.length_append, Str.length_append, l1]; (first | lia | omega))
      k_steps
      rename Fr _ _ _ _ => F22
      rename News _ _ _ _ => N22
      exact WEnd.mk ⟨oW3, oH16, Dw, yw, nw, Dp, tp8, tq11, 0, Dh, yh, nh, P, Q, _, t21⟩ F22 N22 (by kst_all) (by (intro p hp; simp only [List.mem_cons, List.mem_append, List.cons_append, List.not_mem_nil, or_false] at hp ⊢; (repeat' (with_reducible refine Or.elim hp (fun hp => ?_) (fun hp => ?_))); all_goals simp only [hp, true_or, or_true])) ⟨cW3, cH16, I2, I15, hP, hQ⟩
    · clear F1 N0 cW cH vW vH oW oH
      rintro ⟨oW, oH, Dw, yw, nw, Dp, tp, tq, np, Dh, yh, nh, P, Q, z, pt⟩ ua ha tka ⟨cW, cH, IW, IH, hP, hQ⟩ Fa Na
      dsimp only at cW cH IW IH hP hQ Fa Na
      have hPo := markL_ops P hP
      obtain ⟨tw, p0, p1, p2, PF⟩ := plain_facts hPo hQ z
      have hcl : Clean (plainT P Q) := plain_clean hPo hQ
      refine cut_st (σ := Str × Tok) (a := [_, _]) Fa (fun c => [(Str.ofString "script", .ref sc), (Str.ofString "pair", .ref Dp), (Str.ofString "plain", .str (plainT P Q) pt), (Str.ofString "written", .str c.1 c.2)]) (fun c => [(Dp, listOf (List.toArray [.str P tp, .str Q tq]) np), (Dh, listOf (List.toArray yh) nh), (L + 1 + 1, oH), (Dw, listOf (List.toArray yw) nw), (L + 1, oW)])
        (fun c => c.1 = writeL (handsF z) (plainT P Q)) ?_ ?_
      · k_steps
        unfold Stop
        rename Fr _ _ _ _ => F2
        refine For_turns F2 ?_
        k_steps
        unfold Stop
        rename Fr _ _ _ _ => F3
        rename News _ _ _ _ => N3
        refine turns_st (σ := Str × Tok) (V := intV) (vals := handsF z) (vs := yh) (by exact rfl) (fun c => [(Str.ofString "script", .ref sc), (Str.ofString "pair", .ref Dp), (Str.ofString "plain", .str (plainT P Q) pt), (Str.ofString "written", .str c.1 c.2)])
          (fun c => [(Dp, listOf (List.toArray [.str P tp, .str Q tq]) np), (Dh, listOf (List.toArray yh) nh), (L + 1 + 1, oH), (Dw, listOf (List.toArray yw) nw), (L + 1, oW)])
          (fun pre c => c.1 = writeL pre (plainT P Q) ∧ Clean c.1 ∧ c.1.length ≤ 8 * 5 ^ pre.length) (plainT P Q, _) rfl (news_list N3 (.tail _ (.head _))) IH.length (ints_src IH) (Ne.symm (N3 _ (.tail _ (.head _))).2.1) F3 N3 (by kst_all) ⟨rfl, hcl, plain_len hPo hQ⟩ ?_ ?_
        · rintro ⟨W, wt⟩ pre a post v uu h4 tk4 own hvals ⟨ta, rfl⟩ hoff ⟨hW, hC, hl⟩ F5 N5
          dsimp only [kstB] at hW hC hl F5 N5
          have ha := handsF_mem (z := z) (h := a) (by rw [hvals]; simp)
          have hpl : pre.length ≤ 1 := by
            have h1 := congrArg List.length hvals
            have h2 := (handsF_len z).2
            rw [List.length_append, List.length_cons] at h1
            (first | lia | omega)
          have hl2 : W.length ≤ 40 := by
            have : 8 * 5 ^ pre.length ≤ 8 * 5 ^ 1 := Nat.mul_le_mul_left _ (Nat.pow_le_pow_right (by decide) hpl)
            (first | lia | omega)
          obtain ⟨n, rfl⟩ := Int.eq_ofNat_of_zero_le ha.1
          k_steps
          unfold Stop
          rename Fr _ _ _ _ => F6
          rename News _ _ _ _ => N6
          refine written_use B1 F6 X0 N6 T0 (by rfl) (by decide +kernel) (by decide +kernel) (by (first | lia | omega)) hC (by (first | lia | omega)) fun t7 h7 tk7 F7 N7 => ?_
          k_steps
          unfold Stop
          rename Fr _ _ _ _ => F8
          rename News _ _ _ _ => N8
          refine for_end (escW n W, _) F8 N8 (by (intro p hp; simp only [List.mem_cons, List.mem_append, List.cons_append, List.not_mem_nil, or_false] at hp ⊢; (repeat' (with_reducible refine Or.elim hp (fun hp => ?_) (fun hp => ?_))); all_goals simp only [hp, true_or, or_true])) (by (intro p hp; simp only [List.mem_cons, List.mem_append, List.cons_append, List.not_mem_nil, or_false] at hp ⊢; (repeat' (with_reducible refine Or.elim hp (fun hp => ?_) (fun hp => ?_))); all_goals simp only [hp, true_or, or_true])) (by rfl) (by kst_all) ⟨?_, escW_clean hC, ?_⟩
          · dsimp only
            rw [writeL_snoc, hW]; rfl
          · have := escW_len n W
            rw [List.length_append, List.length_singleton, Nat.pow_succ]
            dsimp only
            (first | lia | omega)
        · rintro ⟨W, wt⟩ uu h4 tk4 ⟨hW, _, _⟩ F5 N5
          dsimp only [kstB] at hW F5 N5
          k_steps
          rename Fr _ _ _ _ => F6
          rename News _ _ _ _ => N6
          exact WEnd.mk (W, wt) F6 N6 (by kst_all) (by (intro p hp; simp only [List.mem_cons, List.mem_append, List.cons_append, List.not_mem_nil, or_false] at hp ⊢; (repeat' (with_reducible refine Or.elim hp (fun hp => ?_) (fun hp => ?_))); all_goals simp only [hp, true_or, or_true])) hW
      · clear Fa Na
        rintro ⟨W, wt⟩ ub hb tkb hW Fb Nb
        dsimp only at hW Fb Nb
        subst hW
        refine cut_st (σ := Nat) (a := [_, _]) Fb (fun _ => [(Str.ofString "script", .ref sc), (Str.ofString "pair", .ref Dp), (Str.ofString "plain", .str (plainT P Q) pt), (Str.ofString "written", .str (writeL (handsF z) (plainT P Q)) wt)]) (fun _ => [(Dp, listOf (List.toArray [.str P tp, .str Q tq]) np), (Dh, listOf (List.toArray yh) nh), (L + 1 + 1, oH), (Dw, listOf (List.toArray yw) nw), (L + 1, oW)])
          (fun _ => True) ?_ ?_
        · k_steps
          unfold Stop
          refine comp_eval strV (fun _ => true) (fun a v => strV (spelledF a (turnsF a (handsF z))) v) (fun _ _ _ => strV_inj) (by rfl) (by decide) (by rfl) (by decide) (by rfl) ?_
          k_steps
          unfold Stop
          refine ⟨signs (plainT P Q), _, _, _, ?_, Src.str (by rfl), Fb, Nb, ?_, ?_, ?_⟩
          · rw [signs_length, sizeLine_eq]; have := PF.lenP; (first | lia | omega)
          · intro C a1 v1 s2 m2 E2 hC ha1 hv1 hns hm2 F9 N9 cE
            exact wpAny_pure ⟨rfl, _, _, rfl, fun _ _ e => e⟩
          · rintro C a1 _ s2 m2 E2 hC ha1 ⟨ta, rfl⟩ _ hns hm2 F9 N9 cE
            obtain ⟨d, hd, rfl⟩ := List.mem_map.mp ha1
            k_steps
            unfold Stop
            refine turns_use (s := ⟨_, _, _, _, _⟩) B1 F9 X0 N9 T0 (by rfl) (by decide +kernel) (by decide +kernel) (.tail _ (.head _)) IH (by have := (handsF_len z).2; (first | lia | omega)) (fun h hh => handsF_mem hh) fun t10 h10 tk10 F10 N10 I10 => ?_
            k_steps
            unfold Stop
            refine spelled_use (s := ⟨_, _, _, _, _⟩) B1 F10 X0 N10 T0 (by rfl) (by decide +kernel) (by decide +kernel) (spelled_pre z d) fun t11 h11 tk11 F11 N11 I11 => ?_
            k_steps
            unfold Stop
            exact ⟨⟨_, rfl⟩, _, _, rfl, fun b o e => I11 b o (I10 b o e)⟩
          intro D3 ys3 n3 h3 tk3 F3 N3 hD3 hG3
          have I3 : StrsAre ys3 ((signs (plainT P Q)).map fun a => spelledF a (turnsF a (handsF z))) := by
            rw [show (signs (plainT P Q)).filter (fun _ => true) = signs (plainT P Q) from by simp] at hG3
            exact paired_strsF hG3
          have hjl : (((signs (plainT P Q)).map fun a => spelledF a (turnsF a (handsF z))).map (·.length)).sum ≤ 40 := by
            rw [join_len, spelled_all]
            exact PF.lenW
          k_steps
          unfold Stop
          refine join_strs N3 (.head _) I3 (by
            rw [List.length_map, signs_length, show (Str.ofString "").length = 0 from by decide +kernel]; (first | lia | omega)) fun t4 tk4 => ?_
          rw [spelled_all]
          k_steps
          · rename (_ != _) = true => q
            rw [bne_self_eq_false] at q
            cases q
          unfold Stop
          refine tokens_use B1 F3 X0 N3 T0 (by rfl) (by have := PF.lenP; (first | lia | omega)) (by decide +kernel) (by decide +kernel) (fun c hc => (lo_low (PF.lowP c hc)).1) PF.tokP fun D6 ys6 n6 h6 tk6 F6 N6 lt6 I6 => ?_
          k_steps
          unfold Stop
          refine comp_eval strV (fun _ => true) (fun a v => strV (strI (tokOf a)) v) (fun _ _ _ => strV_inj) (by rfl) (by decide) (by rfl) (by decide) (by rfl) ?_
          k_steps
          unfold Stop
          refine ⟨[P, Q], _, _, _, ?_, Src.list (vs := [.str P tp, .str Q tq]) (by rfl) (news_list N6 (by tb_rel)) rfl (strs_src (.cons _ _ (.cons _ _ .nil))), F6, N6, ?_, ?_, ?_⟩
          · show 2 ≤ sizeLine
            rw [sizeLine_eq]; decide
          · intro C a1 v1 s2 m2 E2 hC ha1 hv1 hns hm2 F9 N9 cE
            exact wpAny_pure ⟨rfl, _, _, rfl, fun _ _ e => e⟩
          · rintro C a1 _ s2 m2 E2 hC ha1 ⟨ta, rfl⟩ _ hns hm2 F9 N9 cE
            have hao : a1 ∈ opsL := by
              simp only [List.mem_cons, List.not_mem_nil, or_false] at ha1
              rcases ha1 with rfl | rfl
              · exact hPo
              · exact hQ
            k_steps
            unfold Stop
            refine index_strs (s := ⟨_, _, _, _, _⟩) N9 (by tb_rel) IW hao (by show 48 < 1000000; decide) fun t10 tk10 => ?_
            have hlt : opsL.idxOf a1 < 48 := List.idxOf_lt_length_iff.mpr hao
            have htk : strI (tokOf a1) = strI (7 + (opsL.idxOf a1 : Nat)) := rfl
            rw [htk]
            clear htk hao
            generalize opsL.idxOf a1 = j at hlt ⊢
            k_steps
            unfold Stop
            exact ⟨⟨_, rfl⟩, _, _, rfl, fun _ _ e => e⟩
          intro D7 ys7 n7 h7 tk7 F7 N7 hD7 hG7
          have I7 : StrsAre ys7 ([P, Q].map fun a => strI (tokOf a)) := paired_strsF hG7
          k_steps
          unfold Stop
          have hok : ∀ x ∈ [tokOf P, tokOf Q].map strI, PyData.strOk x = true := by
            intro x hx
            simp only [List.map_cons, List.map_nil, List.mem_cons, List.not_mem_nil, or_false] at hx
            rcases hx with rfl | rfl
            · exact strI_ok (fit_pos PF.fitT.1).1
            · exact strI_ok (fit_pos PF.fitT.2.1).1
          refine ne_strs N7 (by tb_rel) (by tb_rel) I6 (ys := [tokOf P, tokOf Q].map strI) I7 hok hok (by first | units_room | ktr_units) ?_
          rw [decide_eq_true rfl]
          k_steps
          rename Fr _ _ _ _ => F8
          rename News _ _ _ _ => N8
          exact WEnd.mk 0 F8 N8 (by kst_all) (by (intro p hp; simp only [List.mem_cons, List.mem_append, List.cons_append, List.not_mem_nil, or_false] at hp ⊢; (repeat' (with_reducible refine Or.elim hp (fun hp => ?_) (fun hp => ?_))); all_goals simp only [hp, true_or, or_true])) trivial
        · clear Fb Nb
          rintro _ uc hc tkc _ Fc Nc
          try dsimp only at Fc Nc
          have lP1 := ops_pos P hPo
          have lP2 := opsL_len P hPo
          have lQ1 := ops_pos Q hQ
          have lQ2 := opsL_len Q hQ
          have lh := (handsF_len z).2
          have lpl := PF.lenP
          have lwl := PF.lenW
          refine cut_st (σ := LD) (a := [_, _, _, _, _, _]) Fc (fun c => [(Str.ofString "script", .ref sc), (Str.ofString "plain", .str (plainT P Q) pt), (Str.ofString "written", .str (writeL (handsF z) (plainT P Q)) wt), (Str.ofString "prices", .ref c.Dp), (Str.ofString "near", .ref c.Dn), (Str.ofString "far", .ref c.Df)]) (fun c => [(c.Dp, listOf (List.toArray c.vp) c.np), (c.Dn, listOf (List.toArray c.vn) c.nn), (c.Df, listOf (List.toArray c.vf) c.nf)])
            (fun c => IntsAre c.vp [p0, p1, p2] ∧ IntsAre c.vn (numF 0 (plainT P Q).cps.toList) ∧ IntsAre c.vf (numF 0 (writeL (handsF z) (plainT P Q)).cps.toList)) ?_ ?_
          · k_steps
            unfold Stop
            refine prices_use B1 Fc X0 Nc T0 (by rfl) ⟨lP1, by (first | lia | omega)⟩ ⟨lQ1, by (first | lia | omega)⟩ (by decide +kernel) (by decide +kernel) (by tb_rel) (by tb_rel) IH (by (first | lia | omega)) (fun h hh => handsF_mem hh) fun D2 vs2 n2 h2 tk2 F2 N2 ne2 I2 => ?_
            rw [PF.prices] at I2
            k_steps
            unfold Stop
            rename Fr _ _ _ _ => F3
            rename News _ _ _ _ => N3
            refine numbers_use B1 F3 X0 N3 T0 (by rfl) (by (first | lia | omega)) (fun c hc => (lo_low (PF.lowP c hc)).1) PF.endP (by decide +kernel) (by decide +kernel) fun D4 vs4 n4 h4 tk4 F4 N4 lt4 I4 => ?_
            k_steps
            unfold Stop
            rename Fr _ _ _ _ => F5
            rename News _ _ _ _ => N5
            refine numbers_use B1 F5 X0 N5 T0 (by rfl) (by (first | lia | omega)) (fun c hc => (lo_low (PF.lowW c hc)).1) PF.endW (by decide +kernel) (by decide +kernel) fun D6 vs6 n6 h6 tk6 F6 N6 lt6 I6 => ?_
            k_steps
            unfold Stop
            rename Fr _ _ _ _ => F7
            rename News _ _ _ _ => N7
            refine values_use B1 F7 X0 N7 T0 (by rfl) (by (first | lia | omega)) (by decide +kernel) (by decide +kernel) fun D8 vs8 n8 h8 tk8 F8 N8 lt8 I8 => ?_
            k_steps
            unfold Stop
            refine ne_intsK (news_list N8 (by tb_rel)) I4 (news_list N8 (by tb_rel)) I8 (by first | units_room | ktr_units) ?_
            rw [decide_eq_true rfl]
            k_steps
            unfold Stop
            refine values_use B1 F8 X0 N8 T0 (by rfl) (by (first | lia | omega)) (by decide +kernel) (by decide +kernel) fun D9 vs9 n9 h9 tk9 F9 N9 lt9 I9 => ?_
            k_steps
            unfold Stop
            refine ne_intsK (news_list N9 (by tb_rel)) I6 (news_list N9 (by tb_rel)) I9 (by first | units_room | ktr_units) ?_
            rw [decide_eq_true rfl]
            k_steps
            unfold Stop
            refine comp_eval intV (fun _ => false) intV (fun _ _ _ => intV_inj) (by rfl) (by decide) (by rfl) (by decide) (by rfl) ?_
            k_steps
            have nl : (numF 0 (plainT P Q).cps.toList).length ≤ 40 := PF.fitP.2
            have fl : (numF 0 (writeL (handsF z) (plainT P Q)).cps.toList).length ≤ 40 := PF.fitW.2
            refine kmk_add_ints F9 N9 (news_list N9 (by tb_rel)) (news_list N9 (by tb_rel)) I4 I6 (fun D10 vs10 h10 F10 N10 lt10 I10 => ?_) (by rw [sizeLine_eq]; (first | lia | omega))
            refine ⟨numF 0 (plainT P Q).cps.toList ++ numF 0 (writeL (handsF z) (plainT P Q)).cps.toList, _, _, _, ?_, Src.list (by rfl) (news_list N10 (.head _)) I10.length (ints_src I10), F10, N10, ?_, ?_, ?_⟩
            · rw [List.length_append, sizeLine_eq]; (first | lia | omega)
            · rintro C a1 _ s2 m2 E2 hC ha1 ⟨ta, rfl⟩ hns hm2 F11 N11 cE
              k_steps
              unfold Stop
              refine term_use (s := ⟨_, _, _, _, _⟩) B1 F11 X0 N11 T0 (by rfl) (by decide +kernel) (by decide +kernel) fun h12 tk12 F12 N12 I12 => ?_
              have hns2 := Heap.Ns.keeps hns I12
              k_steps
              unfold Stop
              refine nonterm_use (s := ⟨_, _, _, _, _⟩) B1 F12 X0 N12 T0 (by rfl) (by decide +kernel) (by decide +kernel) fun h13 tk13 F13 N13 I13 => ?_
              k_steps
              unfold Stop
              exact ⟨never_both a1, _, _, rfl, fun b o e => I13 b o (I12 b o e)⟩
            · rintro C a1 _ s2 m2 E2 hC ha1 ⟨ta, rfl⟩ hpz hns hm2 F11 N11 cE
              cases hpz
            intro D14 ys14 n14 h14 tk14 F14 N14 hD14 hG14
            have I14 : IntsAre ys14 [] := by
              rw [show (numF 0 (plainT P Q).cps.toList ++ numF 0 (writeL (handsF z) (plainT P Q)).cps.toList).filter (fun _ => false) = [] from by simp] at hG14
              cases hG14
              exact .nil
            k_steps
            unfold Stop
            rename Fr _ _ _ _ => F15
            rename News _ _ _ _ => N15
            refine ne_intsK (news_list N15 (by tb_rel)) I14 (news_list (vs := []) N15 (.head _)) .nil (by first | units_room | ktr_units) ?_
            rw [decide_eq_true rfl]
            k_steps
            unfold Stop
            refine comp_eval intV (fun _ => true) (fun a v => v = .bool (decide (256 ≤ a))) (fun _ _ _ => intV_inj) (by rfl) (by decide) (by rfl) (by decide) (by rfl) ?_
            k_steps
            unfold Stop
            refine ⟨numF 0 (writeL (handsF z) (plainT P Q)).cps.toList, _, _, _, ?_, Src.list (by rfl) (news_list N15 (by tb_rel)) I6.length (ints_src I6), F15, N15, ?_, ?_, ?_⟩
            · rw [sizeLine_eq]; (first | lia | omega)
            · intro C a1 v1 s2 m2 E2 hC ha1 hv1 hns hm2 F9 N9 cE
              exact wpAny_pure ⟨rfl, _, _, rfl, fun _ _ e => e⟩
            · rintro C a1 _ s2 m2 E2 hC ha1 ⟨ta, rfl⟩ _ hns hm2 F11 N11 cE
              k_steps
              unfold Stop
              refine nonterm_use (s := ⟨_, _, _, _, _⟩) B1 F11 X0 N11 T0 (by rfl) (by decide +kernel) (by decide +kernel) fun h13 tk13 F13 N13 I13 => ?_
              k_steps
              unfold Stop
              exact ⟨rfl, _, _, rfl, I13⟩
            intro D16 ys16 n16 h16 tk16 F16 N16 hD16 hG16
            rw [show (numF 0 (writeL (handsF z) (plainT P Q)).cps.toList).filter (fun _ => true) = numF 0 (writeL (handsF z) (plainT P Q)).cps.toList from by simp] at hG16
            k_steps
            refine count_bools N16 (.head _) hG16 fun t17 tk17 => ?_
            k_steps
            unfold Stop
            refine comp_eval intV (fun _ => true) (fun a v => v = .bool (decide (256 ≤ a))) (fun _ _ _ => intV_inj) (by rfl) (by decide) (by rfl) (by decide) (by rfl) ?_
            k_steps
            unfold Stop
            refine ⟨numF 0 (plainT P Q).cps.toList, _, _, _, ?_, Src.list (by rfl) (news_list N16 (by tb_rel)) I4.length (ints_src I4), F16, N16, ?_, ?_, ?_⟩
            · rw [sizeLine_eq]; (first | lia | omega)
            · intro C a1 v1 s2 m2 E2 hC ha1 hv1 hns hm2 F9 N9 cE
              exact wpAny_pure ⟨rfl, _, _, rfl, fun _ _ e => e⟩
            · rintro C a1 _ s2 m2 E2 hC ha1 ⟨ta, rfl⟩ _ hns hm2 F11 N11 cE
              k_steps
              unfold Stop
              refine nonterm_use (s := ⟨_, _, _, _, _⟩) B1 F11 X0 N11 T0 (by rfl) (by decide +kernel) (by decide +kernel) fun h13 tk13 F13 N13 I13 => ?_
              k_steps
              unfold Stop
              exact ⟨rfl, _, _, rfl, I13⟩
            intro D18 ys18 n18 h18 tk18 F18 N18 hD18 hG18
            rw [show (numF 0 (plainT P Q).cps.toList).filter (fun _ => true) = numF 0 (plainT P Q).cps.toList from by simp] at hG18
            k_steps
            refine count_bools N18 (.head _) hG18 fun t19 tk19 => ?_
            k_steps
            unfold Stop
            refine ints_first (s := ⟨_, _, _, _, _⟩) N18 (by tb_rel) I2 fun t20 tk20 => ?_
            k_steps
            · rename (_ ≠ p0) => q
              exact absurd PF.count q
            · rename Fr _ _ _ _ => F21
              rename News _ _ _ _ => N21
              exact WEnd.mk ⟨D2, vs2, n2, D4, vs4, n4, D6, vs6, n6⟩ F21 N21 (by kst_all) (by (intro p hp; simp only [List.mem_cons, List.mem_append, List.cons_append, List.not_mem_nil, or_false] at hp ⊢; (repeat' (with_reducible refine Or.elim hp (fun hp => ?_) (fun hp => ?_))); all_goals simp only [hp, true_or, or_true])) ⟨I2, I4, I6⟩
          · clear Fc Nc
            rintro ⟨Dp, vp, np, Dn, vn, nn, Df, vf, nf⟩ ud hd2 tkd ⟨Ip, In, If⟩ Fd Nd
            dsimp only at Ip In If Fd Nd
            have nl : (numF 0 (plainT P Q).cps.toList).length ≤ 40 := PF.fitP.2
            have fl : (numF 0 (writeL (handsF z) (plainT P Q)).cps.toList).length ≤ 40 := PF.fitW.2
            refine cut_st (σ := LE) (a := [_, _]) Fd (fun c => [(Str.ofString "script", .ref sc), (Str.ofString "prices", .ref Dp), (Str.ofString "rows", .ref c.Rr), (Str.ofString "side", .int c.sd c.ts)])
              (fun c => [(c.Rr, listOf (List.toArray [.ref c.Ra, .ref c.Rb, .ref c.Rc]) c.nr), (c.Ra, listOf (List.toArray [.str (plainT P Q) c.ta, .str (writeL (handsF z) (plainT P Q)) c.tb]) c.na), (c.Rb, listOf (List.toArray [.ref c.D1, .ref c.D2]) c.nb), (c.Rc, listOf (List.toArray [.ref c.D3, .ref c.D4]) c.nc),
                (c.D1, listOf (List.toArray c.v1) c.n1), (c.D2, listOf (List.toArray c.v2) c.n2), (c.D3, listOf (List.toArray c.v3) c.n3), (c.D4, listOf (List.toArray c.v4) c.n4), (Dp, listOf (List.toArray vp) np)])
              (fun c => StrsAre c.v1 ((numF 0 (plainT P Q).cps.toList).map strI) ∧ StrsAre c.v2 ((numF 0 (writeL (handsF z) (plainT P Q)).cps.toList).map strI) ∧ StrsAre c.v3 ([tokOf P, tokOf Q].map strI) ∧ StrsAre c.v4 (tw.map strI) ∧ (c.sd = 0 ∨ c.sd = 1)) ?_ ?_
            · k_steps
              unfold Stop
              refine comp_eval intV (fun _ => true) (fun a v => strV (strI a) v) (fun _ _ _ => intV_inj) (by rfl) (by decide) (by rfl) (by decide) (by rfl) ?_
              k_steps
              unfold Stop
              rename Fr _ _ _ _ => F2
              rename News _ _ _ _ => N2
              refine ⟨numF 0 (plainT P Q).cps.toList, _, _, _, ?_, Src.list (by rfl) (news_list N2 (by tb_rel)) In.length (ints_src In), F2, N2, ?_, ?_, ?_⟩
              · rw [sizeLine_eq]; (first | lia | omega)
              · intro C a1 v1 s2 m2 E2 hC ha1 hv1 hns hm2 F9 N9 cE
                exact wpAny_pure ⟨rfl, _, _, rfl, fun _ _ e => e⟩
              · rintro C a1 _ s2 m2 E2 hC ha1 ⟨ta, rfl⟩ _ hns hm2 F11 N11 cE
                have hfit := fit_pos (PF.fitP.1 a1 ha1)
                have hfit1 := hfit.1
                have hfit2 := hfit.2
                k_steps
                unfold Stop
                exact ⟨⟨_, rfl⟩, _, _, rfl, fun _ _ e => e⟩
              intro D4 ys4 n4 h4 tk4 F4 N4 hD4 hG4
              rw [show (numF 0 (plainT P Q).cps.toList).filter (fun _ => true) = numF 0 (plainT P Q).cps.toList from by simp] at hG4
              have I4 := paired_strsF hG4
              k_steps
              unfold Stop
              refine comp_eval intV (fun _ => true) (fun a v => strV (strI a) v) (fun _ _ _ => intV_inj) (by rfl) (by decide) (by rfl) (by decide) (by rfl) ?_
              k_steps
              unfold Stop
              refine ⟨numF 0 (writeL (handsF z) (plainT P Q)).cps.toList, _, _, _, ?_, Src.list (by rfl) (news_list N4 (by tb_rel)) If.length (ints_src If), F4, N4, ?_, ?_, ?_⟩
              · rw [sizeLine_eq]; (first | lia | omega)
              · intro C a1 v1 s2 m2 E2 hC ha1 hv1 hns hm2 F9 N9 cE
                exact wpAny_pure ⟨rfl, _, _, rfl, fun _ _ e => e⟩
              · rintro C a1 _ s2 m2 E2 hC ha1 ⟨ta, rfl⟩ _ hns hm2 F11 N11 cE
                have hfit := fit_pos (PF.fitW.1 a1 ha1)
                have hfit1 := hfit.1
                have hfit2 := hfit.2
                k_steps
                unfold Stop
                exact ⟨⟨_, rfl⟩, _, _, rfl, fun _ _ e => e⟩
              intro D6 ys6 n6 h6 tk6 F6 N6 hD6 hG6
              rw [show (numF 0 (writeL (handsF z) (plainT P Q)).cps.toList).filter (fun _ => true) = numF 0 (writeL (handsF z) (plainT P Q)).cps.toList from by simp] at hG6
              have I6 := paired_strsF hG6
              k_steps
              unfold Stop
              rename Fr _ _ _ _ => F7
              rename News _ _ _ _ => N7
              refine tokens_use B1 F7 X0 N7 T0 (by rfl) (by (first | lia | omega)) (by decide +kernel) (by decide +kernel) (fun c hc => (lo_low (PF.lowP c hc)).1) PF.tokP fun D8 ys8 n8 h8 tk8 F8 N8 lt8 I8 => ?_
              k_steps
              unfold Stop
              refine tokens_use B1 F8 X0 N8 T0 (by rfl) (by (first | lia | omega)) (by decide +kernel) (by decide +kernel) (fun c hc => (lo_low (PF.lowW c hc)).1) PF.tokW fun D9 ys9 n9 h9 tk9 F9 N9 lt9 I9 => ?_
              k_steps
              rename Fr _ _ _ _ => F10
              rename News _ _ _ _ => N10
              rename_i Ra x1 x2 Rb x3 x4 Rc x5 x6 Rr x7 x8 x9 x10 x11
              have hsd := fmod_pos (ns.length : Int) (show (0 : Int) < 2 by decide)
              refine WEnd.mk ⟨Rr, 0, Ra, 0, pt, wt, Rb, 0, Rc, 0, D4, ys4, n4, D6, ys6, n6, D8, ys8, n8, D9, ys9, n9, (ns.length : Int).fmod 2, _⟩ F10 N10 (by kst_all) (by (intro p hp; simp only [List.mem_cons, List.mem_append, List.cons_append, List.not_mem_nil, or_false] at hp ⊢; (repeat' (with_reducible refine Or.elim hp (fun hp => ?_) (fun hp => ?_))); all_goals simp only [hp, true_or, or_true])) ⟨I4, I6, I8, I9, by dsimp only; (first | lia | omega)⟩
            · clear Fd Nd
              rintro ⟨Rr, nr, Ra, na, ta, tb, Rb, nb, Rc, nc, D1, v1, n1, D2, v2, n2, D3, v3, n3, D4, v4, n4, sd, ts⟩ ue he tke ⟨J1, J2, J3, J4, hsd⟩ Fe Ne
              dsimp only at J1 J2 J3 J4 hsd Fe Ne
              have hf := fmod_pos (ns.length : Int) (show (0 : Int) < 3 by decide)
              have hnl : ns.length ≤ 63 := by (first | lia | omega)
              k_steps
              unfold Stop
              refine For_invVF Fe rfl rfl ?_
              k_steps
              unfold Stop
              rename Fr _ _ _ _ => F2
              rename News _ _ _ _ => N2
              rename IsRange _ _ _ _ _ _ _ _ => R2
              refine range_st (σ := Nat) (n := 3) (by exact rfl) (fun c => [(Str.ofString "script", .ref sc), (Str.ofString "prices", .ref Dp), (Str.ofString "rows", .ref Rr), (Str.ofString "side", .int sd ts)])
                (fun c => [(Rr, listOf (List.toArray [.ref Ra, .ref Rb, .ref Rc]) nr), (Ra, listOf (List.toArray [.str (plainT P Q) ta, .str (writeL (handsF z) (plainT P Q)) tb]) na), (Rb, listOf (List.toArray [.ref D1, .ref D2]) nb), (Rc, listOf (List.toArray [.ref D3, .ref D4]) nc),
                  (D1, listOf (List.toArray v1) n1), (D2, listOf (List.toArray v2) n2), (D3, listOf (List.toArray v3) n3), (D4, listOf (List.toArray v4) n4), (Dp, listOf (List.toArray vp) np)])
                (fun _ _ => True) 0 rfl R2 (by decide) F2 N2 (by kst_all) trivial ?_ ?_
              · rintro _ i ti uu h3 tk3 own hi hoff _ F3 N3
                dsimp only [kstB] at F3 N3
                obtain ⟨R, nR, va, vb, xa, xb, kd, p, hR, hRm, hpi, hsa, hsb, hrf, hp1, hla, hlb, hoa, hob, hwa, hwb⟩ : ∃ (R : Addr) (nR : Nat) (va vb : Value) (xa xb : List Str) (kd : Bool) (p : Int), ([.ref Ra, .ref Rb, .ref Rc] : List Value)[i]? = some (.ref R) ∧
                    (R, listOf (List.toArray [va, vb]) nR) ∈ [(Rr, listOf (List.toArray [.ref Ra, .ref Rb, .ref Rc]) nr), (Ra, listOf (List.toArray [.str (plainT P Q) ta, .str (writeL (handsF z) (plainT P Q)) tb]) na), (Rb, listOf (List.toArray [.ref D1, .ref D2]) nb), (Rc, listOf (List.toArray [.ref D3, .ref D4]) nc),
                      (D1, listOf (List.toArray v1) n1), (D2, listOf (List.toArray v2) n2), (D3, listOf (List.toArray v3) n3), (D4, listOf (List.toArray v4) n4), (Dp, listOf (List.toArray vp) np)] ++ own ∧ [p0, p1, p2][i]? = some p ∧
                    SeqV ([(Rr, listOf (List.toArray [.ref Ra, .ref Rb, .ref Rc]) nr), (Ra, listOf (List.toArray [.str (plainT P Q) ta, .str (writeL (handsF z) (plainT P Q)) tb]) na), (Rb, listOf (List.toArray [.ref D1, .ref D2]) nb), (Rc, listOf (List.toArray [.ref D3, .ref D4]) nc),
                      (D1, listOf (List.toArray v1) n1), (D2, listOf (List.toArray v2) n2), (D3, listOf (List.toArray v3) n3), (D4, listOf (List.toArray v4) n4), (Dp, listOf (List.toArray vp) np)] ++ own) kd va xa ∧
                    SeqV ([(Rr, listOf (List.toArray [.ref Ra, .ref Rb, .ref Rc]) nr), (Ra, listOf (List.toArray [.str (plainT P Q) ta, .str (writeL (handsF z) (plainT P Q)) tb]) na), (Rb, listOf (List.toArray [.ref D1, .ref D2]) nb), (Rc, listOf (List.toArray [.ref D3, .ref D4]) nc),
                      (D1, listOf (List.toArray v1) n1), (D2, listOf (List.toArray v2) n2), (D3, listOf (List.toArray v3) n3), (D4, listOf (List.toArray v4) n4), (Dp, listOf (List.toArray vp) np)] ++ own) kd vb xb ∧
                    RowFact xa xb p ∧ p ≤ 1000 ∧ xa.length ≤ 40 ∧ xb.length ≤ 40 ∧ (∀ x ∈ xa, PyData.strOk x = true) ∧ (∀ x ∈ xb, PyData.strOk x = true) ∧ (∀ x ∈ xa, x.length < 1000) ∧ (∀ x ∈ xb, x.length < 1000) := by
                  have hcase : i = 0 ∨ i = 1 ∨ i = 2 := by (first | lia | omega)
                  rcases hcase with rfl | rfl | rfl
                  · exact ⟨Ra, na, _, _, _, _, true, p0, rfl, by tb_rel, rfl, .str _ _, .str _ _, PF.row0, PF.small.1, by rw [signs_length]; exact PF.lenP, by rw [signs_length]; exact PF.lenW, signs_okL PF.lowP, signs_okL PF.lowW, signs_short, signs_short⟩
                  · exact ⟨Rb, nb, _, _, _, _, false, p1, rfl, by tb_rel, rfl, .list (by tb_rel) J1, .list (by tb_rel) J2, PF.row1, PF.small.2.1, by rw [List.length_map]; exact nl, by rw [List.length_map]; exact fl, nums_ok PF.fitP.1, nums_ok PF.fitW.1, nums_short PF.fitP.1, nums_short PF.fitW.1⟩
                  · exact ⟨Rc, nc, _, _, _, _, false, p2, rfl, by tb_rel, rfl, .list (by tb_rel) J3, .list (by tb_rel) J4, PF.row2, PF.small.2.2, by show 2 ≤ 40; decide, by rw [List.length_map]; exact PF.fitT.2.2.2, nums_ok (pair_fit PF.fitT.1 PF.fitT.2.1), nums_ok PF.fitT.2.2.1, nums_short (pair_fit PF.fitT.1 PF.fitT.2.1), nums_short PF.fitT.2.2.1⟩
                have hp0 := hrf.nonneg
                have hi0 : (0 : Int) ≤ (i : Int) := Int.natCast_nonneg i
                have hi3 : (i : Int) < 3 := by (first | lia | omega)
                have hpd : ([p0, p1, p2] : List Int).getD i 0 = p := by rw [List.getD_eq_getElem?_getD, hpi]; rfl
                k_steps
                unfold Stop
                refine at_item (s := ⟨_, _, _, _, _⟩) N3 (by tb_rel) hi0 (by (first | lia | omega)) (by rw [Int.toNat_natCast]; exact hR) fun tk4 => ?_
                k_steps
                unfold Stop
                refine at_item (s := ⟨_, _, _, _, _⟩) (x := if sd = 0 then va else vb) N3 hRm (by (first | lia | omega)) (by (first | lia | omega)) (by rcases hsd with rfl | rfl <;> rfl) fun tk5 => ?_
                k_steps
                unfold Stop
                refine at_item (s := ⟨_, _, _, _, _⟩) N3 (by tb_rel) hi0 (by (first | lia | omega)) (by rw [Int.toNat_natCast]; exact hR) fun tk6 => ?_
                k_steps
                unfold Stop
                refine at_item (s := ⟨_, _, _, _, _⟩) (x := if sd = 0 then vb else va) N3 hRm (by (first | lia | omega)) (by (first | lia | omega)) (by rcases hsd with rfl | rfl <;> rfl) fun tk7 => ?_
                k_steps
                unfold Stop
                refine ints_item (s := ⟨_, _, _, _, _⟩) (by show 3 < 1000000; decide) N3 (by tb_rel) Ip hi fun t8 tk8 => ?_
                rw [hpd]
                k_steps
                unfold Stop
                obtain ⟨X, Y, S1, S2, hp', l1, l2, o1, o2, w1, w2⟩ : ∃ X Y : List Str, SeqV ([(Rr, listOf (List.toArray [.ref Ra, .ref Rb, .ref Rc]) nr), (Ra, listOf (List.toArray [.str (plainT P Q) ta, .str (writeL (handsF z) (plainT P Q)) tb]) na), (Rb, listOf (List.toArray [.ref D1, .ref D2]) nb), (Rc, listOf (List.toArray [.ref D3, .ref D4]) nc),
                      (D1, listOf (List.toArray v1) n1), (D2, listOf (List.toArray v2) n2), (D3, listOf (List.toArray v3) n3), (D4, listOf (List.toArray v4) n4), (Dp, listOf (List.toArray vp) np)] ++ own) kd (if sd = 0 then va else vb) X ∧
                    SeqV ([(Rr, listOf (List.toArray [.ref Ra, .ref Rb, .ref Rc]) nr), (Ra, listOf (List.toArray [.str (plainT P Q) ta, .str (writeL (handsF z) (plainT P Q)) tb]) na), (Rb, listOf (List.toArray [.ref D1, .ref D2]) nb), (Rc, listOf (List.toArray [.ref D3, .ref D4]) nc),
                      (D1, listOf (List.toArray v1) n1), (D2, listOf (List.toArray v2) n2), (D3, listOf (List.toArray v3) n3), (D4, listOf (List.toArray v4) n4), (Dp, listOf (List.toArray vp) np)] ++ own) kd (if sd = 0 then vb else va) Y ∧
                    ((X = Y ∧ p = 0) ∨ Fine substC X Y p ∨ Fine substC Y X p) ∧ X.length ≤ 40 ∧ Y.length ≤ 40 ∧ (∀ x ∈ X, PyData.strOk x = true) ∧ (∀ x ∈ Y, PyData.strOk x = true) ∧ (∀ x ∈ X, x.length < 1000) ∧ (∀ x ∈ Y, x.length < 1000) := by
                  rcases hsd with rfl | rfl
                  · exact ⟨xa, xb, hsa, hsb, hrf.fwd, hla, hlb, hoa, hob, hwa, hwb⟩
                  · exact ⟨xb, xa, hsb, hsa, hrf.bwd, hlb, hla, hob, hoa, hwb, hwa⟩
                refine lev_use B1 F3 X0 N3 T0 (by rfl) (by decide +kernel) (by decide +kernel) S1 S2 l1 l2 o1 o2 hp' (by (first | lia | omega)) (by (first | lia | omega)) w1 w2 fun t9 h9 tk9 F9 N9 => ?_
                k_steps
                unfold Stop
                rename Fr _ _ _ _ => F10
                rename News _ _ _ _ => N10
                refine ints_item (s := ⟨_, _, _, _, _⟩) (by show 3 < 1000000; decide) N10 (by tb_rel) Ip hi fun t11 tk11 => ?_
                rw [hpd]
                k_steps
                · rename (_ != _) = true => q
                  rw [bne_self_eq_false] at q
                  cases q
                · unfold Stop
                  rename Fr _ _ _ _ => F12
                  rename News _ _ _ _ => N12
                  exact for_end 0 F12 N12 (by (intro p hp; simp only [List.mem_cons, List.mem_append, List.cons_append, List.not_mem_nil, or_false] at hp ⊢; (repeat' (with_reducible refine Or.elim hp (fun hp => ?_) (fun hp => ?_))); all_goals simp only [hp, true_or, or_true])) (by (intro p hp; simp only [List.mem_cons, List.mem_append, List.cons_append, List.not_mem_nil, or_false] at hp ⊢; (repeat' (with_reducible refine Or.elim hp (fun hp => ?_) (fun hp => ?_))); all_goals simp only [hp, true_or, or_true])) (by rfl) (by kst_all) trivial
              · rintro _ uu h3 tk3 _ F3 N3
                dsimp only [kstB] at F3 N3
                k_steps
                rename Fr _ _ _ _ => F4
                exact hgood _ _ _ F4)
end Mine
end
theorem PySem.Challenge.cw_tv0046_01_holds : PySem.Challenge.rw_tv0046_01.Holds :=
  Mine.law_all
