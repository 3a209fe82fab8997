import PyProof.Rows.All
import Wide.All
import OpenK.AllK
import Wide.FinOn
import Lean
import PySem.Challenge.RW_pe0219_01
set_option Elab.async false
set_option compiler.extract_closed false
set_option genSizeOf false
section PartTopX
open PySem PySem.W PyProof.Rows PySem.Calls
set_option maxRecDepth 100000
set_option maxHeartbeats 8000000
namespace Mine
section
local macro_rules | `(tactic| o_head $H) => `(tactic| (have h9 := $H; assumption))
theorem hd : PySem.Challenge.rw_pe0219_01.row.Holds → PySem.Challenge.rw_pe0219_01.row.Holds := by
  intro h
  w_on
  k_head
end
theorem hl0 : (PySem.Challenge.rw_pe0219_01.row.wellSaid = true → PySem.Challenge.rw_pe0219_01.row.Holds) → PySem.Challenge.rw_pe0219_01.Holds := by
  intro h
  w_on
  o_law
  exact h (by assumption)
noncomputable def vw : Program := view PySem.Challenge.pw_pe0219_01 [0, 2, 3, 4, 5, 6, 7, 8, 9, 11, 13, 14, 15, 16, 17]
noncomputable abbrev ls : List Str := [Str.ofString "ONE_THIRD", Str.ofString "ONE_SIXTH", Str.ofString "TWO_THIRD", Str.ofString "Whitespace"]
noncomputable abbrev lv : List (Str × WData) := [(Str.ofString "ONE_THIRD", WData.float 4599676419421066581), (Str.ofString "ONE_SIXTH", WData.float 4595172819793696085), (Str.ofString "TWO_THIRD", WData.float 4604180019048437077)]
noncomputable abbrev asL : List Addr := [2, 3, 15, 17, 18, 20, 21, 22, 24, 25, 27, 28, 29, 31, 32, 34, 35, 36, 38, 39, 41, 42, 43, 45, 46, 48, 49, 50, 52, 53, 55, 56, 67, 69, 70, 72, 73, 74, 76, 77, 79, 80, 81, 83, 84, 86, 87, 88, 90, 91, 93, 94, 95, 97, 98, 100, 101, 102, 104, 105, 107, 108, 109, 111, 112, 114, 115, 116, 117, 118, 119, 120, 123, 125, 126, 128, 129, 130, 133, 134, 135, 138, 139, 140, 142, 143, 145, 146, 147, 150, 151]
theorem hk (P : Params) : asL = (hd.heap_1 P).map (·.1) := by kernel_rfl
noncomputable abbrev HH : Hook := kHook hd.heap_1 asL hk
noncomputable abbrev XT (s : Shared) : Bool := xlAt vw lv s && recOk (RowW.records (OpenRow.toRowW PySem.Challenge.rw_pe0219_01.row)) s
theorem left_by {p q : Program} {loose : List Str} {Xt : Shared → Bool} {α : Type} {Yf : Shared → α} {Ya : World → α} {N : Nat} {g0 : Bool} (row : String)
    (e : opening p = plainProg p.main.scope.names) (hN : Nat.ble 600 N = true) (f : ∀ s, fenceModules? p s = some s)
    (ns : ∀ P : Params, ((boot_heap P).isNs mainGlobals && (#[] : Array GenState).size == 0) = true)
    (h : ∀ (b : Bool) (w : World) (os : OsState), (topRun treeTable p (w.withFollow row b) (boot_heap (w.withFollow row b).params).objs.size ((boot_heap (w.withFollow row b).params).nsMap mainGlobals "__annotations__") N
        ⟨boot_heap (w.withFollow row b).params, #[], boot_drawn, boot_toks, os⟩ (topStub p)).map
      (fun s => (staticsOk (importedModules p.main.body) (boot_heap (w.withFollow row b).params) s.heap && namesBound p s.heap && gensDone s && laidKept (boot_heap (w.withFollow row b).params) s.heap,
        openSeen q loose (importedModules p.main.body) Xt g0 s, Yf s)) = some (true, openGood q loose, Ya (w.withFollow row b))) : LeftO p q loose Xt Yf Ya N g0 := fun w => by
  obtain ⟨⟨hp, gs, d, k, os⟩, a, b⟩ := Option.map_eq_some_iff.mp (boot_open e hN f w)
  obtain ⟨rfl, rfl, rfl, rfl⟩ : hp = boot_heap w.params ∧ gs = #[] ∧ d = boot_drawn ∧ k = boot_toks := by simpa using b
  have z := h (w.params.followText row) w os
  rw [World.withFollow_self] at z
  obtain ⟨s, z1, z2⟩ := Option.map_eq_some_iff.mp z
  obtain ⟨l1, l2, l3⟩ : _ ∧ _ ∧ _ := by simpa only [Prod.mk.injEq] using z2
  unfold openEnds
  rw [a]
  have t : topFrom treeTable p w N ⟨boot_heap w.params, #[], boot_drawn, boot_toks, os⟩ = some s := by
    unfold topFrom
    dsimp only
    rw [ns w.params, z1]
    show (match staticsOk (importedModules p.main.body) (boot_heap w.params) s.heap && namesBound p s.heap && gensDone s && laidKept (boot_heap w.params) s.heap with | true => _ | false => _) = _
    rw [l1]
  show (topFrom treeTable p w N _).map _ = _
  rw [t]
  exact congrArg some (Prod.ext l2 l3)
/-- what one run of the top leaves, for one value of the world's row -/
noncomputable abbrev RunsTo (b : Bool) (w : World) (os : OsState) : Prop := (topRun treeTable PySem.Challenge.pw_pe0219_01 (w.withFollow "special-get-raises" b) (boot_heap (w.withFollow "special-get-raises" b).params).objs.size ((boot_heap (w.withFollow "special-get-raises" b).params).nsMap mainGlobals "__annotations__") 1972
        ⟨boot_heap (w.withFollow "special-get-raises" b).params, #[], boot_drawn, boot_toks, os⟩ (topStub PySem.Challenge.pw_pe0219_01)).map
      (fun s => (staticsOk (importedModules PySem.Challenge.pw_pe0219_01.main.body) (boot_heap (w.withFollow "special-get-raises" b).params) s.heap && namesBound PySem.Challenge.pw_pe0219_01 s.heap && gensDone s && laidKept (boot_heap (w.withFollow "special-get-raises" b).params) s.heap,
        openSeen vw ls (importedModules PySem.Challenge.pw_pe0219_01.main.body) XT true s, HH.obs s)) = some (true, openGood vw ls, HH.val (w.withFollow "special-get-raises" b))
theorem run_f (w : World) (os : OsState) : RunsTo false w os := by
  unfold RunsTo
  rw [PySem.W.Fast.te14082659384304107361, PySem.W.Fast.te14364793385576792824, PySem.W.Fast.te3856636096459784209, PySem.W.Fast.te4187177175401517315, PySem.W.Fast.te5923862056798008813, PySem.W.Fast.te8920871248978507458]
  kernel_rfl
theorem run_t (w : World) (os : OsState) : RunsTo true w os := by
  unfold RunsTo
  rw [PySem.W.Fast.te14082659384304107361, PySem.W.Fast.te14364793385576792824, PySem.W.Fast.te3856636096459784209, PySem.W.Fast.te4187177175401517315, PySem.W.Fast.te5923862056798008813, PySem.W.Fast.te8920871248978507458]
  kernel_rfl
theorem left : LeftO PySem.Challenge.pw_pe0219_01 vw ls XT HH.obs HH.val 1972 :=
  left_by "special-get-raises" rfl rfl (fun _ => rfl) (fun _ => by kernel_rfl) (fun b w os => by cases b; exact run_f w os; exact run_t w os)
theorem top {d : DefRec} {kwd : List (Str × Expr)} (hdef : defOf vw (OpenLaw.row PySem.Challenge.rw_pe0219_01).name = some (d, kwd)) (hp : (OpenLaw.row PySem.Challenge.rw_pe0219_01).prog.theDef (OpenLaw.row PySem.Challenge.rw_pe0219_01).name = some (d.params, d.body, d.scope))
    (hk1 : kwWritten? d.params.kwonlyargs d.params.kw_defaults = some kwd)
    (call : WalkO vw ls (XL vw lv) HH.says (OpenLaw.row PySem.Challenge.rw_pe0219_01).toRowW d kwd fun f vs => PySem.call f vs) : PySem.Challenge.rw_pe0219_01.Holds := by
  refine hl0 fun said => ?_
  refine holds_open (q := vw) (loose := ls) (Xt := XT) (XP := XL vw lv) (Yf := HH.obs) (Ya := HH.val) (YP := HH.says) (N := 1972) left (Hook.of HH) (Hook.keeps HH) (fun s e => xl_of s (Bool.and_eq_true_iff.mp e).1) XL.keeps hdef hp hk1 (fun s e => recFacts_of (Bool.and_eq_true_iff.mp e).2) rfl said (by first | k_qdec | decide +kernel) ⟨rfl, rfl, rfl, rfl, rfl, by decide +kernel⟩ ?hw call
  case hw => w_witness2
end Mine
end PartTopX
section PartBase
open PySem PySem.W PyProof.Rows PySem.Calls
set_option maxRecDepth 100000
set_option maxHeartbeats 8000000
namespace Mine
noncomputable abbrev prog : Program := PySem.Challenge.rw_pe0219_01.row.prog
noncomputable abbrev lo : List Str := looseW vw [Str.ofString "ONE_THIRD", Str.ofString "ONE_SIXTH", Str.ofString "TWO_THIRD", Str.ofString "Whitespace"]

/-- what lies at h lies there still -/
noncomputable def Ext (h h' : Heap) : Prop := ∀ b o, h.get? b = some o → h'.get? b = some o
/-- what lies at h lies in the ledger or in g -/
noncomputable def Split (h : Heap) (objs : List (Addr × Obj)) (g : Heap) : Prop := ∀ b o, h.get? b = some o → (b, o) ∈ objs ∨ g.get? b = some o

theorem Ext.refl (h : Heap) : Ext h h := fun _ _ e => e
theorem Ext.trans {h h' h'' : Heap} (a : Ext h h') (b : Ext h' h'') : Ext h h'' := fun x o e => b x o (a x o e)
theorem Ext.fr {h₀ h h' : Heap} {L : Addr} {m : Str → Option Value} (e : Ext h h') (F : Fr h₀ L h m) : Fr h₀ L h' m := by
  obtain ⟨⟨oL, es, ep, hL, hLd, hLk, hLf⟩, keep, above⟩ := F
  exact ⟨⟨oL, es, ep, e _ _ hL, hLd, hLk, hLf⟩, fun b o q => e b o (keep b o q), above⟩
theorem Ext.news {h₀ h h' : Heap} {L : Addr} {news : List (Addr × Obj)} (e : Ext h h') (N : News h₀ L h news) : News h₀ L h' news :=
  fun p hp => ⟨e _ _ (N p hp).1, (N p hp).2⟩
/-- a new object onto the caller's ledger -/
theorem Ext.more {h₀ h h' : Heap} {L a : Addr} {m : Str → Option Value} {o : Obj} {news : List (Addr × Obj)} (e : Ext h h') (F : Fr h₀ L h m) (N : News h₀ L h news) (hn : h.get? a = none) (ho : h'.get? a = some o) :
    News h₀ L h' ((a, o) :: news) := by
  intro p hp
  rcases List.mem_cons.mp hp with rfl | hp
  · refine ⟨ho, fun q => ?_, ?_⟩
    · obtain ⟨oL, es, ep, hL, _⟩ := F.ns
      have q' : a = L := q
      rw [q'] at hn
      rw [hL] at hn
      cases hn
    · cases q : h₀.get? a with
      | none => rfl
      | some x =>
        have := F.keep _ _ q
        rw [hn] at this
        cases this
  · exact ⟨e _ _ (N p hp).1, (N p hp).2⟩
theorem Ext.apart {h₀ h : Heap} {L a : Addr} {news : List (Addr × Obj)} (N : News h₀ L h news) (hn : h.get? a = none) : ∀ p ∈ news, p.1 ≠ a := fun p hp q => by
  have := (N p hp).1
  rw [q, hn] at this
  cases this

theorem split_hide {h₀ h : Heap} {L : Addr} {objs : List (Addr × Obj)} (N : News h₀ L h objs) : Split h objs (hideAll h (objs.map (·.1))) := fun b o e => by
  by_cases q : b ∈ objs.map (·.1)
  · obtain ⟨p, hp, rfl⟩ := List.mem_map.mp q
    have := (N p hp).1
    rw [e] at this
    cases this
    exact .inl hp
  · exact .inr (hideAll_get _ e q)
theorem Split.ext {h g h' : Heap} {objs news' : List (Addr × Obj)} {L' : Addr} {m' : Str → Option Value} (S : Split h objs g) (F : Fr g L' h' m') (N : News g L' h' news') (hs : ∀ p ∈ objs, p ∈ news') : Ext h h' := fun b o e => by
  rcases S b o e with q | q
  · exact (N _ (hs _ q)).1
  · exact F.keep b o q
theorem Split.new {h g h' : Heap} {objs news' : List (Addr × Obj)} {L' a : Addr} {o : Obj} (S : Split h objs g) (N : News g L' h' news') (ha : (a, o) ∈ news') (hs : ∀ p ∈ objs, p.1 ≠ a) : h.get? a = none ∧ h'.get? a = some o := by
  refine ⟨?_, (N _ ha).1⟩
  cases q : h.get? a with
  | none => rfl
  | some x =>
    rcases S a x q with z | z
    · exact absurd rfl (hs _ z)
    · rw [(N _ ha).2.2] at z
      cases z

section
variable {w : World} {A A₀ : Around} {s : Shared} {K : Frag} {L : Addr} {h₀ base : Heap} {m mg mb : Str → Option Value} {news : List (Addr × Obj)} {p : Program} {loose : List Str} {mean : ExcName → Option Value}
theorem code_defE {prog : Program} {env : Env} {outer : List Env} {R : Result → Shared → Prop} {name qual : Str} {params : Arguments} {body : List Stmt} {scope : Scope} {dV kV doc pm cdv ct oc : Value} {an od : Option Addr} {osl : Array (Option Value)} {f : Addr} {args : Args} {binds : List (Str × Value)}
    (B : Below A₀ base outer h₀) (F : Fr h₀ L s.heap m) (X₀ : K.In h₀) (N : News h₀ L s.heap news) (T : Top p loose mean mg mb h₀) (hA : A.frames = some (env :: outer)) (hf : env.frame = some L) (hke : env.scope.kind = .function)
    (ho : K.lookup f = some ⟨oc, od, .func (fnOf name qual params body scope dV kV doc pm an cdv ct), osl⟩) (hcd : codeIn K cdv qual = true) (hroom : A.depth < recursionLimit)
    (hbind : BindsTo s (fnOf name qual params body scope dV kV doc pm an cdv ct) args binds) (hloc : ∀ y ∈ binds, scope.names.lookup y.1 = some .local)
    (h : ∀ g L' h₁, Split s.heap news g → Fr h₀ L g m → Fr g L' h₁ (fun y => binds.reverse.lookup y) → News g L' h₁ news → Below A base (env :: outer) g → K.In g → Top p loose mean mg mb g →
      wpAny (model prog w) (A.deeper (envOf qual scope L' f cdv)) (execs body (envOf qual scope L' f cdv))
        (fun fl s' => LeaveK h₀ L m g R (match fl with | .ret v => v | _ => .none) s')
        (fun e s' => wpAny (model prog w) (A.deeper (envOf qual scope L' f cdv)) (leaving (envOf qual scope L' f cdv) e) (fun _ s'' => R (.error e) s'') (fun e' s'' => R (.error e') s'') s')
        { s with heap := h₁, toks := s.toks + binds.length })
    (hco : scope.isCoroutine = false) (hgen : scope.isGenerator = false) (hk : scope.kind = .function)
    (hcell : ∀ x ∈ scope.names, x.2 ≠ .cell) : codeAny (model prog w) A (.call (.ref f) args) R s := by
  obtain ⟨FG, BG, st, lv⟩ := groundX (R := R) B F N hA hf hke
  refine codeAny_call_def (fd := fnX name qual params body scope [] dV kV doc pm an cdv ct) (body := body) (binds := binds) hroom ((X₀.keeps F.keep) _ _ ho) rfl (T.nolimit.keeps F.keep) (codeRec_of (X₀.keeps F.keep) hcd) rfl hbind hcell hloc (fun h₁ hns hk₁ => ?_) hco hgen hk
  exact wpAny_mono (h _ s.heap.objs.size h₁ (split_hide N) FG ⟨hns, fun b o e => hk₁ b o (of_hideAll _ e), Nat.le_of_eq (hideAll_size _ _)⟩
    (fun p hp => ⟨hk₁ _ _ (N p hp).1, Nat.ne_of_lt (Heap.lt_size (N p hp).1), hideAll_none _ (List.mem_map_of_mem hp)⟩) BG (X₀.keeps st) (T.keeps st)) (fun fl s' hl => lv _ _ hl) fun _ _ y => y
end
/-- a def's contract: it only adds to the heap -/
noncomputable def Ctr (w : World) (d u : Nat) (f : Addr) (vs : List Value) (objs : List (Addr × Obj)) (Post : Heap → Value → Heap → Prop) : Prop :=
  ∀ (mean : ExcName → Option Value) (mg mb : Str → Option Value) (dp un : Nat) (gd : Option (List Code)) (cn : Str) (cs : Scope) (a : Addr) (ccd : Value) (cl : List (Str × Addr)) (outer : List Env) (A₀ : Around) (base h₀ : Heap) (L : Addr) (m : Str → Option Value) (s : Shared) (Q E : Value → Shared → Prop),
    Below A₀ base outer h₀ → Fr h₀ L s.heap m → (hd.heap_1 w.params).In h₀ → News h₀ L s.heap objs → Top vw lo mean mg mb h₀ → cs.kind = .function → dp + d < recursionLimit → un + u < cLine →
    (∀ v h' tk', Ext s.heap h' → Post s.heap v h' → Q v { s with heap := h', toks := tk' }) →
    wpAny (model prog w) (ktrTop dp un gd cn cs L a ccd cl outer) (call (.ref f) vs) Q E s

end Mine
end PartBase
section PartToks
open PySem PySem.W PyProof.Rows PySem.Calls
namespace Mine
/-- a run never takes a token back -/
theorem runs_toks {M : Model} {Γ : Ctx} {p : Pos} {t : Sem Fin} {fs : List Frame} {s : Shared} {e : End} {s' : Shared} (h : Runs M Γ p t fs s e s') : s.toks ≤ s'.toks := by
  induction h with
  | done => exact Nat.le_refl _
  | raise => exact Nat.le_refl _
  | yield => exact Nat.le_refl _
  | fresh _ ih => exact Nat.le_of_succ_le ih
  | call _ _ a b => exact Nat.le_trans a b
  | resumeFresh _ _ _ _ a b => exact Nat.le_trans a b
  | resumeSuspended _ _ _ _ a b => exact Nat.le_trans a b
  | segRet _ _ a b => exact Nat.le_trans a b
  | segGen _ _ a b => exact Nat.le_trans a b
  | segSuspGen _ _ _ _ a b => exact Nat.le_trans a b
  | _ => assumption
theorem wakes_toks {M : Model} {Γ : Ctx} {p : Pos} {g : Nat} {r : Resume} {s : Shared} {res : GenResult} {s' : Shared} (h : Wakes M Γ p g r s res s') : s.toks ≤ s'.toks := by
  unfold Wakes at h
  split at h
  · exact h.elim
  · split at h
    · obtain ⟨e₁, s₁, hr, _, _, rfl⟩ := h
      have q := runs_toks hr
      exact q
    · obtain ⟨_, rfl⟩ := h; exact Nat.le_refl _
    · obtain ⟨_, rfl⟩ := h; exact Nat.le_refl _
  · obtain ⟨e₁, s₁, hr, _, _, rfl⟩ := h
    have q := runs_toks hr
    exact q
  · obtain ⟨_, rfl⟩ := h; exact Nat.le_refl _
  · obtain ⟨_, rfl⟩ := h; exact Nat.le_refl _
theorem wp_since {α : Type} {M : Model} {Γ : Ctx} (n : Nat) (t : Sem α) {Q : α → Pos → Shared → Prop} {E : Value → Pos → Shared → Prop} : ∀ (p : Pos) (s : Shared), n ≤ s.toks →
    Sem.wp M Γ t (fun a p s' => n ≤ s'.toks → Q a p s') (fun e p s' => n ≤ s'.toks → E e p s') p s → Sem.wp M Γ t Q E p s := by
  induction t with
  | pure a => intro p s hn h; exact h hn
  | raise a => intro p s hn h; exact h hn
  | unsupported => intro p s hn h; exact h
  | finish => intro p s hn h; exact h
  | rule _ k ih => intro p s hn h; exact ih _ p s hn h
  | «at» _ k ih => intro p s hn h; exact ih _ _ s hn h
  | load a q k ih => intro p s hn h; obtain ⟨o, ho, h⟩ := h; exact ⟨o, ho, ih _ p s hn h⟩
  | update a q f k ih => intro p s hn h; exact ⟨h.1, ih _ p _ hn h.2⟩
  | loadIfAlive a k ih => intro p s hn h; exact ih _ p s hn h
  | point _ k ih => intro p s hn h; exact ih _ p s hn h
  | register => intro p s hn h; exact h
  | alloc o k ih => intro p s hn h; exact ih _ p _ hn h
  | fresh k ih => intro p s hn h; exact ih _ p _ (Nat.le_succ_of_le hn) h
  | ask k ih => intro p s hn h; exact ih _ p s hn h
  | choose src m k ih => intro p s hn h; exact ⟨h.1, ih _ p _ hn h.2⟩
  | os q l k ih => intro p s hn h; exact ih _ p _ hn h
  | call c hd g l k ih =>
    intro p s hn h
    obtain ⟨r, s', hr, h⟩ := h
    exact ⟨r, s', hr, ih _ p s' (Nat.le_trans hn (runs_toks hr)) h⟩
  | handled own k ih => intro p s hn h; exact ih _ p s hn h
  | genState g k ih => intro p s hn h; obtain ⟨st, hs, h⟩ := h; exact ⟨st, hs, ih _ p s hn h⟩
  | newGen c k ih => intro p s hn h; exact ih _ p _ hn h
  | resume g r l k ih =>
    intro p s hn h
    obtain ⟨res, s', hw, h⟩ := h
    exact ⟨res, s', hw, ih _ p s' (Nat.le_trans hn (wakes_toks hw)) h⟩
  | yield => intro p s hn h; exact h
  | stack k ih => intro p s hn h; exact ih _ p s hn h
  | fork => intro p s hn h; exact h
  | thread k ih => intro p s hn h; exact ih _ p s hn h
  | await => intro p s hn h; exact h
theorem wpAny_since {α : Type} {M : Model} {A : Around} {t : Sem α} {Q : α → Shared → Prop} {E : Value → Shared → Prop} {s : Shared}
    (h : wpAny M A t (fun a s' => s.toks ≤ s'.toks → Q a s') (fun e s' => s.toks ≤ s'.toks → E e s') s) : wpAny M A t Q E s :=
  fun Γ p hΓ => wp_since s.toks t p s (Nat.le_refl _) (h Γ p hΓ)
/-- the tokens' number may be forgotten but for its sign -/
theorem gen_toks {α : Type} {M : Model} {A : Around} {t : Sem α} {Q : α → Shared → Prop} {E : Value → Shared → Prop} {h : Heap} {g : Array GenState} {d : Drawn} {k : Nat} {os : OsState}
    (x : ∀ tk, 0 < tk → wpAny M A t Q E ⟨h, g, d, tk, os⟩) : wpAny M A t Q E ⟨h, g, d, k + 1, os⟩ := x _ (Nat.succ_pos _)
theorem strip {p : Prop} (h : p) : p := h
end Mine
end PartToks
section PartFltA
open PySem PySem.W PyProof.Rows PySem.Calls
set_option maxRecDepth 100000
set_option maxHeartbeats 8000000
namespace Mine
noncomputable def max3 (a b c : UInt64) : UInt64 :=
  let p := if (Float64.cmp a b == some .lt) = true then b else a
  if (Float64.cmp p c == some .lt) = true then c else p
noncomputable def min3 (a b c : UInt64) : UInt64 :=
  let p := if (Float64.cmp b a == some .lt) = true then b else a
  if (Float64.cmp c p == some .lt) = true then c else p
section
variable {w : World} {A : Around} {E : Value → Shared → Prop} {s : Shared} {Q : Value → Shared → Prop} {x y z : UInt64} {t u k : Tok} {h₀ : Heap} {L : Addr} {m : Str → Option Value} {news : List (Addr × Obj)}
theorem max3_ff {prog : Program} (hh : A.handled = none) (F : Fr h₀ L s.heap m) (N : News h₀ L s.heap news)
    (h : ∀ h' tk v, Fr h₀ L h' m → News h₀ L h' news → Q (.float (max3 x y z) v) { s with heap := h', toks := tk }) :
    wpAny (model prog w) A (call (.builtin "max") [.float x t, .float y u, .float z k]) Q E s := by
  have hT : (s.heap.push { cls := .type "tuple", data := .seq #[.float x t, .float y u, .float z k] }).IsTuple s.heap.objs.size #[.float x t, .float y u, .float z k] := ⟨_, Heap.get?_push_size _ rfl, rfl, 0, rfl⟩
  refine call_max_three (wpAny_pyIter_tuple hT ?_)
  have hsz : (s.heap.push { cls := .type "tuple", data := .seq #[.float x t, .float y u, .float z k] }).objs.size = s.heap.objs.size + 1 := Heap.size_push ..
  refine ⟨_, [_, s.heap.objs.size], [_], _, _, _, _, rfl, Walks.tuple (A := A.in1) hh _ s.heap.objs.size (by rw [hsz]; exact Nat.ne_of_lt (Nat.lt_succ_self _)) #[.float x t, .float y u, .float z k],
    ⟨⟨_, Heap.get?_push_size _ rfl, rfl, rfl⟩, hT.push _⟩, fun c hc => ?_, by simp, Flt.cmpOf_gt #[.float x t, .float y u, .float z k] (by intro v hv; simp at hv; rcases hv with rfl | rfl | rfl <;> exact .float _ _), fun v h' tk hP hk => ?_⟩
  · show c < ((s.heap.push _).push _).objs.size
    rw [Heap.size_push, hsz]
    rcases List.mem_cons.mp hc with rfl | hc
    · rw [hsz]; exact Nat.lt_succ_self _
    · rcases List.mem_cons.mp hc with rfl | hc
      · exact Nat.lt_succ_of_lt (Nat.lt_succ_self _)
      · cases hc
  · have hold : ∀ c o, s.heap.get? c = some o → h'.get? c = some o := fun c o e => by
      refine hk c o (fun hm => ?_) (Heap.get?_push_of_some _ (Heap.get?_push_of_some _ e))
      rcases List.mem_cons.mp hm with e1 | hm
      · have := Heap.lt_size e; rw [e1, hsz] at this; exact Nat.lt_irrefl _ (Nat.lt_of_succ_lt this)
      · cases hm
    have kp := fun tok => h h' tk tok (Ext.fr hold F) (Ext.news hold N)
    have hv : ∃ tok, v = .float (max3 x y z) tok := by
      unfold max3
      by_cases h1 : Float64.cmp x y = some .lt
      · by_cases h2 : Float64.cmp y z = some .lt <;> simp [argBest, Flt.ltV, h1, h2] at hP ⊢ <;> exact ⟨_, hP.symm⟩
      · by_cases h2 : Float64.cmp x z = some .lt <;> simp [argBest, Flt.ltV, h1, h2] at hP ⊢ <;> exact ⟨_, hP.symm⟩
    obtain ⟨tok, rfl⟩ := hv
    exact kp tok
theorem min3_ff {prog : Program} (hh : A.handled = none) (F : Fr h₀ L s.heap m) (N : News h₀ L s.heap news)
    (h : ∀ h' tk v, Fr h₀ L h' m → News h₀ L h' news → Q (.float (min3 x y z) v) { s with heap := h', toks := tk }) :
    wpAny (model prog w) A (call (.builtin "min") [.float x t, .float y u, .float z k]) Q E s := by
  have hT : (s.heap.push { cls := .type "tuple", data := .seq #[.float x t, .float y u, .float z k] }).IsTuple s.heap.objs.size #[.float x t, .float y u, .float z k] := ⟨_, Heap.get?_push_size _ rfl, rfl, 0, rfl⟩
  refine call_min_three (wpAny_pyIter_tuple hT ?_)
  have hsz : (s.heap.push { cls := .type "tuple", data := .seq #[.float x t, .float y u, .float z k] }).objs.size = s.heap.objs.size + 1 := Heap.size_push ..
  refine ⟨_, [_, s.heap.objs.size], [_], _, _, _, _, rfl, Walks.tuple (A := A.in1) hh _ s.heap.objs.size (by rw [hsz]; exact Nat.ne_of_lt (Nat.lt_succ_self _)) #[.float x t, .float y u, .float z k],
    ⟨⟨_, Heap.get?_push_size _ rfl, rfl, rfl⟩, hT.push _⟩, fun c hc => ?_, by simp, Flt.cmpOf_lt #[.float x t, .float y u, .float z k] (by intro v hv; simp at hv; rcases hv with rfl | rfl | rfl <;> exact .float _ _), fun v h' tk hP hk => ?_⟩
  · show c < ((s.heap.push _).push _).objs.size
    rw [Heap.size_push, hsz]
    rcases List.mem_cons.mp hc with rfl | hc
    · rw [hsz]; exact Nat.lt_succ_self _
    · rcases List.mem_cons.mp hc with rfl | hc
      · exact Nat.lt_succ_of_lt (Nat.lt_succ_self _)
      · cases hc
  · have hold : ∀ c o, s.heap.get? c = some o → h'.get? c = some o := fun c o e => by
      refine hk c o (fun hm => ?_) (Heap.get?_push_of_some _ (Heap.get?_push_of_some _ e))
      rcases List.mem_cons.mp hm with e1 | hm
      · have := Heap.lt_size e; rw [e1, hsz] at this; exact Nat.lt_irrefl _ (Nat.lt_of_succ_lt this)
      · cases hm
    have kp := fun tok => h h' tk tok (Ext.fr hold F) (Ext.news hold N)
    have hv : ∃ tok, v = .float (min3 x y z) tok := by
      unfold min3
      by_cases h1 : Float64.cmp y x = some .lt
      · by_cases h2 : Float64.cmp z y = some .lt <;> simp [argBest, Flt.ltV, h1, h2] at hP ⊢ <;> exact ⟨_, hP.symm⟩
      · by_cases h2 : Float64.cmp z x = some .lt <;> simp [argBest, Flt.ltV, h1, h2] at hP ⊢ <;> exact ⟨_, hP.symm⟩
    obtain ⟨tok, rfl⟩ := hv
    exact kp tok
end
end Mine
end PartFltA
section PartTupNe
open PySem PySem.W PyProof.Rows PySem.Calls
set_option maxRecDepth 100000
namespace Mine
theorem isSame_flt {prog : Program} {w : World} {A : Around} {E : Value → Shared → Prop} {s : Shared} {a : UInt64} {t u : Tok} {Q : Bool → Shared → Prop} (ht : t ≠ 0) (hu : u ≠ 0) {mc : Str → Option Value} (hc : s.heap.Ns cStatics mc) (hm : mc sharingNotToldKey = none)
    (h : ∀ b, Q b s) : wpAny (model prog w) A (isSame (.float a t) (.float a u)) Q E s := by
  show wpAny (model prog w) A (isSame.created (a == a && !Float64.isNaN a) t u) Q E s
  unfold isSame.created
  have hz : (t == 0 || u == 0) = false := by
    rw [Bool.or_eq_false_iff]
    exact ⟨beq_eq_false_iff_ne.mpr ht, beq_eq_false_iff_ne.mpr hu⟩
  rw [hz]
  simp only [Bool.false_eq_true, if_false]
  refine wpAny_ite_split (fun _ => wpAny_pure (h _)) fun _ => ?_
  refine wpAny_ite_split (fun _ => wpAny_pure (h _)) fun _ => ?_
  have nt : ∀ (x : Tok) (Q' : Bool → Shared → Prop), Q' false s → wpAny (model prog w) A (sharingNotTold x) Q' E s := fun x Q' hq => by
    unfold sharingNotTold
    refine wpAny_bind (wpAny_nsGet hc ?_)
    rw [hm]
    exact wpAny_pure hq
  refine wpAny_bind (nt t _ ?_)
  simp only [Bool.false_eq_true, if_false]
  refine wpAny_bind (nt u _ ?_)
  simp only [Bool.false_eq_true, if_false]
  exact wpAny_bind (wpAny_rule (wpAny_bind (wpAny_askSetting (wpAny_pure (h _)))))
theorem eqAt_flt {A : Around} {s : Shared} {a : UInt64} {t u : Tok} (ht : t ≠ 0) (hu : u ≠ 0) {mc : Str → Option Value} (hc : s.heap.Ns cStatics mc) (hm : mc sharingNotToldKey = none) (hn : (Float64.cmp a a == some .eq) = true) :
    SeqAt.EqAt A s (.float a t) (.float a u) true := fun prog w E Q hq => by
  unfold eqBool
  refine wpAny_holding ?_
  refine wpAny_ite_split (fun _ => wpAny_bind (wpAny_rule (wpAny_pure hq))) fun _ => ?_
  refine wpAny_bind (isSame_flt ht hu hc hm fun b => ?_)
  cases b with
  | true => exact wpAny_pure hq
  | false =>
    refine wpAny_bind (AutoFloatOps.eq_0 ?_)
    rw [hn]
    exact wpAny_truthy_bool hq
/-- two tuples of the same three floats -/
theorem tup3_ne {prog : Program} {w : World} {A : Around} {E : Value → Shared → Prop} {s : Shared} {Q : Value → Shared → Prop} {K : Frag} {h₀ : Heap} {L p q : Addr} {m : Str → Option Value} {news : List (Addr × Obj)} {x y z : UInt64} {t1 t2 t3 u1 u2 u3 : Tok} {oc : Obj}
    (F : Fr h₀ L s.heap m) (X : K.In h₀) (N : News h₀ L s.heap news) (hp : (p, ({ cls := .type "tuple", data := .seq #[.float x t1, .float y t2, .float z t3] } : Obj)) ∈ news) (hq : (q, ({ cls := .type "tuple", data := .seq #[.float x u1, .float y u2, .float z u3] } : Obj)) ∈ news)
    (hc : K.lookup cStatics = some oc) (hoc : oc.data = .dict #[] 0) (h1 : t1 ≠ 0) (h2 : t2 ≠ 0) (h3 : t3 ≠ 0) (g1 : u1 ≠ 0) (g2 : u2 ≠ 0) (g3 : u3 ≠ 0)
    (n1 : (Float64.cmp x x == some .eq) = true) (n2 : (Float64.cmp y y == some .eq) = true) (n3 : (Float64.cmp z z == some .eq) = true) (hu : A.units < cLine) (h : Q (.bool false) s) :
    wpAny (model prog w) A (compareOp .NotEq (.ref p) (.ref q)) Q E s := by
  have ns : s.heap.Ns cStatics (fun _ => none) := ⟨oc, #[], 0, F.keep _ _ (X _ _ hc), hoc, by intro e he; simp at he, by intro n; rfl⟩
  have ip : s.heap.IsTuple p #[.float x t1, .float y t2, .float z t3] := ⟨_, (N _ hp).1, rfl, 0, rfl⟩
  have iq : s.heap.IsTuple q #[.float x u1, .float y u2, .float z u3] := ⟨_, (N _ hq).1, rfl, 0, rfl⟩
  have r := SeqAt.RcNeAt.tuples (A := A) (e := fun _ => true) ip iq hu fun j a b => by
    have hj : j < 3 := a
    match j, hj with
    | 0, _ => exact eqAt_flt h1 g1 ns rfl n1
    | 1, _ => exact eqAt_flt h2 g2 ns rfl n2
    | 2, _ => exact eqAt_flt h3 g3 ns rfl n3
  exact r prog w E Q h
end Mine
end PartTupNe
section PartEnds
open PySem PySem.W PyProof.Rows PySem.Calls
set_option maxRecDepth 100000
set_option maxHeartbeats 8000000
namespace Mine
noncomputable abbrev tupOf (vs : List Value) : Obj := { cls := .type "tuple", data := .seq vs.toArray }
noncomputable abbrev PFlt (x : UInt64) : Heap → Value → Heap → Prop := fun _ v _ => ∃ t, v = .float x t
noncomputable abbrev PInt (x : Int) : Heap → Value → Heap → Prop := fun _ v _ => ∃ t, v = .int x t
noncomputable abbrev PBool (b : Bool) : Heap → Value → Heap → Prop := fun _ v _ => v = .bool b
/-- a new tuple of three floats -/
noncomputable abbrev PTup3 (x y z : UInt64) : Heap → Value → Heap → Prop := fun h v h' => ∃ p t1 t2 t3, v = .ref p ∧ h.get? p = none ∧ h'.get? p = some (tupOf [.float x t1, .float y t2, .float z t3])
/-- the same, of three tokens that are not nought -/
noncomputable abbrev PTup3n (x y z : UInt64) : Heap → Value → Heap → Prop := fun h v h' => ∃ p t1 t2 t3, t1 ≠ 0 ∧ t2 ≠ 0 ∧ t3 ≠ 0 ∧ v = .ref p ∧ h.get? p = none ∧ h'.get? p = some (tupOf [.float x t1, .float y t2, .float z t3])
/-- the same, of a first token that is not nought -/
noncomputable abbrev PTup3h (x y z : UInt64) : Heap → Value → Heap → Prop := fun h v h' => ∃ p t1 t2 t3, t1 ≠ 0 ∧ v = .ref p ∧ h.get? p = none ∧ h'.get? p = some (tupOf [.float x t1, .float y t2, .float z t3])
section
variable {w : World} {s : Shared} {Q E : Value → Shared → Prop} {g h' : Heap} {objs news' : List (Addr × Obj)} {L' : Addr} {m' : Str → Option Value} {tk : Nat}
theorem end_flt {x y : UInt64} {t : Tok} (ret : ∀ v h' tk', Ext s.heap h' → PFlt x s.heap v h' → Q v { s with heap := h', toks := tk' }) (S : Split s.heap objs g) (F : Fr g L' h' m') (N : News g L' h' news') (hs : ∀ p ∈ objs, p ∈ news') (e : y = x) :
    Q (.float y t) { s with heap := h', toks := tk } := by
  subst e
  exact ret _ _ _ (S.ext F N hs) ⟨_, rfl⟩
theorem end_int {x y : Int} {t : Tok} (ret : ∀ v h' tk', Ext s.heap h' → PInt x s.heap v h' → Q v { s with heap := h', toks := tk' }) (S : Split s.heap objs g) (F : Fr g L' h' m') (N : News g L' h' news') (hs : ∀ p ∈ objs, p ∈ news') (e : y = x) :
    Q (.int y t) { s with heap := h', toks := tk } := by
  subst e
  exact ret _ _ _ (S.ext F N hs) ⟨_, rfl⟩
theorem end_bool {x y : Bool} (ret : ∀ v h' tk', Ext s.heap h' → PBool x s.heap v h' → Q v { s with heap := h', toks := tk' }) (S : Split s.heap objs g) (F : Fr g L' h' m') (N : News g L' h' news') (hs : ∀ p ∈ objs, p ∈ news') (e : y = x) :
    Q (.bool y) { s with heap := h', toks := tk } := by
  subst e
  exact ret _ _ _ (S.ext F N hs) rfl
theorem end_tup3 {x y z x' y' z' : UInt64} {t1 t2 t3 : Tok} {D : Addr} (ret : ∀ v h' tk', Ext s.heap h' → PTup3 x y z s.heap v h' → Q v { s with heap := h', toks := tk' }) (S : Split s.heap objs g) (F : Fr g L' h' m') (N : News g L' h' news') (hs : ∀ p ∈ objs, p ∈ news')
    (ha : (D, tupOf [.float x' t1, .float y' t2, .float z' t3]) ∈ news') (hne : ∀ p ∈ objs, p.1 ≠ D) (e1 : x' = x) (e2 : y' = y) (e3 : z' = z) :
    Q (.ref D) { s with heap := h', toks := tk } := by
  subst e1 e2 e3
  obtain ⟨a, b⟩ := S.new N ha hne
  exact ret _ _ _ (S.ext F N hs) ⟨_, _, _, _, rfl, a, b⟩
theorem end_tup3n {x y z x' y' z' : UInt64} {t1 t2 t3 : Tok} {D : Addr} (ret : ∀ v h' tk', Ext s.heap h' → PTup3n x y z s.heap v h' → Q v { s with heap := h', toks := tk' }) (S : Split s.heap objs g) (F : Fr g L' h' m') (N : News g L' h' news') (hs : ∀ p ∈ objs, p ∈ news')
    (ha : (D, tupOf [.float x' t1, .float y' t2, .float z' t3]) ∈ news') (hne : ∀ p ∈ objs, p.1 ≠ D) (e1 : x' = x) (e2 : y' = y) (e3 : z' = z) (n1 : @Ne Nat t1 0) (n2 : @Ne Nat t2 0) (n3 : @Ne Nat t3 0) :
    Q (.ref D) { s with heap := h', toks := tk } := by
  subst e1 e2 e3
  obtain ⟨a, b⟩ := S.new N ha hne
  exact ret _ _ _ (S.ext F N hs) ⟨_, _, _, _, n1, n2, n3, rfl, a, b⟩
theorem end_tup3h {x y z x' y' z' : UInt64} {t1 t2 t3 : Tok} {D : Addr} (ret : ∀ v h' tk', Ext s.heap h' → PTup3h x y z s.heap v h' → Q v { s with heap := h', toks := tk' }) (S : Split s.heap objs g) (F : Fr g L' h' m') (N : News g L' h' news') (hs : ∀ p ∈ objs, p ∈ news')
    (ha : (D, tupOf [.float x' t1, .float y' t2, .float z' t3]) ∈ news') (hne : ∀ p ∈ objs, p.1 ≠ D) (e1 : x' = x) (e2 : y' = y) (e3 : z' = z) (n1 : @Ne Nat t1 0) :
    Q (.ref D) { s with heap := h', toks := tk } := by
  subst e1 e2 e3
  obtain ⟨a, b⟩ := S.new N ha hne
  exact ret _ _ _ (S.ext F N hs) ⟨_, _, _, _, n1, rfl, a, b⟩
end
section
variable {w : World} {d u : Nat} {f : Addr} {vs : List Value} {objs : List (Addr × Obj)} {Post : Heap → Value → Heap → Prop}
  {mean : ExcName → Option Value} {mg mb : Str → Option Value} {dp un : Nat} {gd : Option (List Code)} {cn : Str} {cs : Scope} {a : Addr} {ccd : Value} {cl : List (Str × Addr)} {outer : List Env} {A₀ : Around} {base h₀ : Heap} {L : Addr} {m : Str → Option Value} {s : Shared} {Q E : Value → Shared → Prop} {news : List (Addr × Obj)}
theorem use_any (C : Ctr w d u f vs objs Post) (B : Below A₀ base outer h₀) (F : Fr h₀ L s.heap m) (X : (hd.heap_1 w.params).In h₀) (N : News h₀ L s.heap news) (T : Top vw lo mean mg mb h₀) (hk : cs.kind = .function)
    (hN : ∀ p ∈ objs, p ∈ news) (hdp : dp + d < recursionLimit) (hun : un + u < cLine)
    (k : ∀ v h' tk', Fr h₀ L h' m → News h₀ L h' news → Ext s.heap h' → Post s.heap v h' → Q v { s with heap := h', toks := tk' }) :
    wpAny (model prog w) (ktrTop dp un gd cn cs L a ccd cl outer) (call (.ref f) vs) Q E s :=
  C mean mg mb dp un gd cn cs a ccd cl outer A₀ base h₀ L m s Q E B F X (fun p hp => N p (hN p hp)) T hk hdp hun fun v h' tk' e P => k v h' tk' (e.fr F) (e.news N) e P
theorem use_flt {x : UInt64} (C : Ctr w d u f vs objs (PFlt x)) (B : Below A₀ base outer h₀) (F : Fr h₀ L s.heap m) (X : (hd.heap_1 w.params).In h₀) (N : News h₀ L s.heap news) (T : Top vw lo mean mg mb h₀) (hk : cs.kind = .function)
    (hN : ∀ p ∈ objs, p ∈ news) (hdp : dp + d < recursionLimit) (hun : un + u < cLine)
    (k : ∀ t h' tk', Fr h₀ L h' m → News h₀ L h' news → Q (.float x t) { s with heap := h', toks := tk' }) :
    wpAny (model prog w) (ktrTop dp un gd cn cs L a ccd cl outer) (call (.ref f) vs) Q E s :=
  use_any C B F X N T hk hN hdp hun fun v h' tk' F' N' _ P => by obtain ⟨t, rfl⟩ := P; exact k t h' tk' F' N'
theorem use_int {x : Int} (C : Ctr w d u f vs objs (PInt x)) (B : Below A₀ base outer h₀) (F : Fr h₀ L s.heap m) (X : (hd.heap_1 w.params).In h₀) (N : News h₀ L s.heap news) (T : Top vw lo mean mg mb h₀) (hk : cs.kind = .function)
    (hN : ∀ p ∈ objs, p ∈ news) (hdp : dp + d < recursionLimit) (hun : un + u < cLine)
    (k : ∀ t h' tk', Fr h₀ L h' m → News h₀ L h' news → Q (.int x t) { s with heap := h', toks := tk' }) :
    wpAny (model prog w) (ktrTop dp un gd cn cs L a ccd cl outer) (call (.ref f) vs) Q E s :=
  use_any C B F X N T hk hN hdp hun fun v h' tk' F' N' _ P => by obtain ⟨t, rfl⟩ := P; exact k t h' tk' F' N'
theorem use_bool {x : Bool} (C : Ctr w d u f vs objs (PBool x)) (B : Below A₀ base outer h₀) (F : Fr h₀ L s.heap m) (X : (hd.heap_1 w.params).In h₀) (N : News h₀ L s.heap news) (T : Top vw lo mean mg mb h₀) (hk : cs.kind = .function)
    (hN : ∀ p ∈ objs, p ∈ news) (hdp : dp + d < recursionLimit) (hun : un + u < cLine)
    (k : ∀ h' tk', Fr h₀ L h' m → News h₀ L h' news → Q (.bool x) { s with heap := h', toks := tk' }) :
    wpAny (model prog w) (ktrTop dp un gd cn cs L a ccd cl outer) (call (.ref f) vs) Q E s :=
  use_any C B F X N T hk hN hdp hun fun v h' tk' F' N' _ P => by cases P; exact k h' tk' F' N'
theorem use_tup3 {x y z : UInt64} (C : Ctr w d u f vs objs (PTup3 x y z)) (B : Below A₀ base outer h₀) (F : Fr h₀ L s.heap m) (X : (hd.heap_1 w.params).In h₀) (N : News h₀ L s.heap news) (T : Top vw lo mean mg mb h₀) (hk : cs.kind = .function)
    (hN : ∀ p ∈ objs, p ∈ news) (hdp : dp + d < recursionLimit) (hun : un + u < cLine)
    (k : ∀ p t1 t2 t3 h' tk', Fr h₀ L h' m → News h₀ L h' ((p, tupOf [.float x t1, .float y t2, .float z t3]) :: news) → (∀ q ∈ news, q.1 ≠ p) → Q (.ref p) { s with heap := h', toks := tk' }) :
    wpAny (model prog w) (ktrTop dp un gd cn cs L a ccd cl outer) (call (.ref f) vs) Q E s :=
  use_any C B F X N T hk hN hdp hun fun v h' tk' F' N' e P => by
    obtain ⟨p, t1, t2, t3, rfl, a, b⟩ := P
    exact k p t1 t2 t3 h' tk' F' (e.more F N a b) (Ext.apart N a)
theorem use_tup3n {x y z : UInt64} (C : Ctr w d u f vs objs (PTup3n x y z)) (B : Below A₀ base outer h₀) (F : Fr h₀ L s.heap m) (X : (hd.heap_1 w.params).In h₀) (N : News h₀ L s.heap news) (T : Top vw lo mean mg mb h₀) (hk : cs.kind = .function)
    (hN : ∀ p ∈ objs, p ∈ news) (hdp : dp + d < recursionLimit) (hun : un + u < cLine)
    (k : ∀ p t1 t2 t3 h' tk', Fr h₀ L h' m → News h₀ L h' ((p, tupOf [.float x t1, .float y t2, .float z t3]) :: news) → (∀ q ∈ news, q.1 ≠ p) → (@Ne Nat t1 0) → (@Ne Nat t2 0) → (@Ne Nat t3 0) → s.toks ≤ tk' → Q (.ref p) { s with heap := h', toks := tk' }) :
    wpAny (model prog w) (ktrTop dp un gd cn cs L a ccd cl outer) (call (.ref f) vs) Q E s :=
  wpAny_since (use_any C B F X N T hk hN hdp hun fun v h' tk' F' N' e P hs => by
    obtain ⟨p, t1, t2, t3, n1, n2, n3, rfl, a, b⟩ := P
    exact k p t1 t2 t3 h' tk' F' (e.more F N a b) (Ext.apart N a) n1 n2 n3 hs)
theorem use_tup3h {x y z : UInt64} (C : Ctr w d u f vs objs (PTup3h x y z)) (B : Below A₀ base outer h₀) (F : Fr h₀ L s.heap m) (X : (hd.heap_1 w.params).In h₀) (N : News h₀ L s.heap news) (T : Top vw lo mean mg mb h₀) (hk : cs.kind = .function)
    (hN : ∀ p ∈ objs, p ∈ news) (hdp : dp + d < recursionLimit) (hun : un + u < cLine)
    (k : ∀ p t1 t2 t3 h' tk', Fr h₀ L h' m → News h₀ L h' ((p, tupOf [.float x t1, .float y t2, .float z t3]) :: news) → (∀ q ∈ news, q.1 ≠ p) → (@Ne Nat t1 0) → s.toks ≤ tk' → Q (.ref p) { s with heap := h', toks := tk' }) :
    wpAny (model prog w) (ktrTop dp un gd cn cs L a ccd cl outer) (call (.ref f) vs) Q E s :=
  wpAny_since (use_any C B F X N T hk hN hdp hun fun v h' tk' F' N' e P hs => by
    obtain ⟨p, t1, t2, t3, n1, rfl, a, b⟩ := P
    exact k p t1 t2 t3 h' tk' F' (e.more F N a b) (Ext.apart N a) n1 hs)
end
end Mine
end PartEnds
section PartPure
open PySem PySem.W PyProof.Rows PySem.Calls
namespace Mine
noncomputable def vF (m1 m2 hue : UInt64) : UInt64 :=
  if (Float64.cmp (Float64.divmod hue 4607182418800017408).2 4595172819793696085 == some .lt) = true then Float64.add m1 (Float64.mul (Float64.mul (Float64.sub m2 m1) (Float64.divmod hue 4607182418800017408).2) 4618441417868443648)
  else if (Float64.cmp (Float64.divmod hue 4607182418800017408).2 4602678819172646912 == some .lt) = true then m2
  else if (Float64.cmp (Float64.divmod hue 4607182418800017408).2 4604180019048437077 == some .lt) = true then Float64.add m1 (Float64.mul (Float64.mul (Float64.sub m2 m1) (Float64.sub 4604180019048437077 (Float64.divmod hue 4607182418800017408).2)) 4618441417868443648)
  else m1
noncomputable abbrev rgF (r g b : UInt64) : UInt64 := Float64.sub (max3 r g b) (min3 r g b)
noncomputable abbrev dcF (x r g b : UInt64) : UInt64 := Float64.div (Float64.sub (max3 r g b) x) (rgF r g b)
noncomputable def hueF (r g b : UInt64) : UInt64 :=
  (Float64.divmod (Float64.div (
    if (Float64.cmp r (max3 r g b) == some .eq) = true then Float64.sub (dcF b r g b) (dcF g r g b)
    else if (Float64.cmp g (max3 r g b) == some .eq) = true then Float64.sub (Float64.add 4611686018427387904 (dcF r r g b)) (dcF b r g b)
    else Float64.sub (Float64.add 4616189618054758400 (dcF g r g b)) (dcF r r g b)) 4618441417868443648) 4607182418800017408).2
noncomputable def lgtF (r g b : UInt64) : UInt64 := Float64.div (Float64.add (max3 r g b) (min3 r g b)) 4611686018427387904
noncomputable def satF (r g b : UInt64) : UInt64 :=
  if (Float64.cmp (lgtF r g b) 4602678819172646912 == some .lt || Float64.cmp (lgtF r g b) 4602678819172646912 == some .eq) = true then Float64.div (rgF r g b) (Float64.add (max3 r g b) (min3 r g b))
  else Float64.div (rgF r g b) (Float64.sub (Float64.sub 4611686018427387904 (max3 r g b)) (min3 r g b))
noncomputable def m2F (l s : UInt64) : UInt64 :=
  if (Float64.cmp l 4602678819172646912 == some .lt || Float64.cmp l 4602678819172646912 == some .eq) = true then Float64.mul l (Float64.add 4607182418800017408 s) else Float64.sub (Float64.add l s) (Float64.mul l s)
noncomputable def m1F (l s : UInt64) : UInt64 := Float64.sub (Float64.mul 4611686018427387904 l) (m2F l s)
noncomputable abbrev h6F (h : UInt64) : UInt64 := Float64.mul h 4618441417868443648
noncomputable abbrev hiF (h : UInt64) : Int := Flt.toInt Float64.truncOf (h6F h)
noncomputable abbrev hfF (h : UInt64) : UInt64 := Float64.sub (h6F h) (Float64.ofInt (hiF h))
noncomputable abbrev pF (s v : UInt64) : UInt64 := Float64.mul v (Float64.sub 4607182418800017408 s)
noncomputable abbrev qF (h s v : UInt64) : UInt64 := Float64.mul v (Float64.sub 4607182418800017408 (Float64.mul s (hfF h)))
noncomputable abbrev tF (h s v : UInt64) : UInt64 := Float64.mul v (Float64.sub 4607182418800017408 (Float64.mul s (Float64.sub 4607182418800017408 (hfF h))))
/-- the six ways of hsv_to_rgb -/
noncomputable def sixF (i : Int) (a0 a1 a2 a3 a4 a5 : UInt64) : UInt64 :=
  if i = 0 then a0 else if i = 1 then a1 else if i = 2 then a2 else if i = 3 then a3 else if i = 4 then a4 else a5
noncomputable def hsvR (h s v : UInt64) : UInt64 := sixF ((hiF h).fmod 6) v (qF h s v) (pF s v) (pF s v) (tF h s v) v
noncomputable def hsvG (h s v : UInt64) : UInt64 := sixF ((hiF h).fmod 6) (tF h s v) v v (qF h s v) (pF s v) (pF s v)
noncomputable def hsvB (h s v : UInt64) : UInt64 := sixF ((hiF h).fmod 6) (pF s v) (pF s v) (tF h s v) v v (qF h s v)
end Mine
end PartPure
section PartEndsL
open PySem PySem.W PyProof.Rows PySem.Calls
set_option maxRecDepth 100000
set_option maxHeartbeats 8000000
namespace Mine
/-- a new list of three ints -/
noncomputable abbrev PList3 (x y z : Int) : Heap → Value → Heap → Prop := fun h v h' => ∃ p t1 t2 t3, v = .ref p ∧ h.get? p = none ∧ h'.get? p = some (listOf #[.int x t1, .int y t2, .int z t3] 0)
section
variable {w : World} {s : Shared} {Q E : Value → Shared → Prop} {g h' : Heap} {objs news' : List (Addr × Obj)} {L' : Addr} {m' : Str → Option Value} {tk : Nat}
theorem end_list3 {x y z x' y' z' : Int} {t1 t2 t3 : Tok} {D : Addr} (ret : ∀ v h' tk', Ext s.heap h' → PList3 x y z s.heap v h' → Q v { s with heap := h', toks := tk' }) (S : Split s.heap objs g) (F : Fr g L' h' m') (N : News g L' h' news') (hs : ∀ p ∈ objs, p ∈ news')
    (ha : (D, listOf #[.int x' t1, .int y' t2, .int z' t3] 0) ∈ news') (hne : ∀ p ∈ objs, p.1 ≠ D) (e1 : x' = x) (e2 : y' = y) (e3 : z' = z) :
    Q (.ref D) { s with heap := h', toks := tk } := by
  subst e1 e2 e3
  obtain ⟨a, b⟩ := S.new N ha hne
  exact ret _ _ _ (S.ext F N hs) ⟨_, _, _, _, rfl, a, b⟩
end
section
variable {w : World} {d u : Nat} {f : Addr} {vs : List Value} {objs : List (Addr × Obj)} {Post : Heap → Value → Heap → Prop}
  {mean : ExcName → Option Value} {mg mb : Str → Option Value} {dp un : Nat} {gd : Option (List Code)} {cn : Str} {cs : Scope} {a : Addr} {ccd : Value} {cl : List (Str × Addr)} {outer : List Env} {A₀ : Around} {base h₀ : Heap} {L : Addr} {m : Str → Option Value} {s : Shared} {Q E : Value → Shared → Prop} {news : List (Addr × Obj)}
theorem use_list3 {x y z : Int} (C : Ctr w d u f vs objs (PList3 x y z)) (B : Below A₀ base outer h₀) (F : Fr h₀ L s.heap m) (X : (hd.heap_1 w.params).In h₀) (N : News h₀ L s.heap news) (T : Top vw lo mean mg mb h₀) (hk : cs.kind = .function)
    (hN : ∀ p ∈ objs, p ∈ news) (hdp : dp + d < recursionLimit) (hun : un + u < cLine)
    (k : ∀ p t1 t2 t3 h' tk', Fr h₀ L h' m → News h₀ L h' ((p, listOf #[.int x t1, .int y t2, .int z t3] 0) :: news) → (∀ q ∈ news, q.1 ≠ p) → Q (.ref p) { s with heap := h', toks := tk' }) :
    wpAny (model prog w) (ktrTop dp un gd cn cs L a ccd cl outer) (call (.ref f) vs) Q E s :=
  use_any C B F X N T hk hN hdp hun fun v h' tk' F' N' e P => by
    obtain ⟨p, t1, t2, t3, rfl, a, b⟩ := P
    exact k p t1 t2 t3 h' tk' F' (e.more F N a b) (Ext.apart N a)
end
end Mine
end PartEndsL
section PartBaseC
open PySem PySem.W PyProof.Rows PySem.Calls
set_option maxRecDepth 100000
set_option maxHeartbeats 8000000
namespace Mine
section
variable {w : World} {A A₀ : Around} {s : Shared} {K : Frag} {L : Addr} {h₀ base : Heap} {m mg mb : Str → Option Value} {news : List (Addr × Obj)} {p : Program} {loose : List Str} {mean : ExcName → Option Value}
theorem code_defCE {prog : Program} {env : Env} {outer : List Env} {R : Result → Shared → Prop} {name qual : Str} {params : Arguments} {body : List Stmt} {scope : Scope} {dV kV doc pm cdv ct oc : Value} {an od : Option Addr} {osl : Array (Option Value)} {f : Addr} {args : Args} {binds : List (Str × Value)}
    (B : Below A₀ base outer h₀) (F : Fr h₀ L s.heap m) (X₀ : K.In h₀) (N : News h₀ L s.heap news) (T : Top p loose mean mg mb h₀) (hA : A.frames = some (env :: outer)) (hf : env.frame = some L) (hke : env.scope.kind = .function)
    (ho : K.lookup f = some ⟨oc, od, .func (fnOf name qual params body scope dV kV doc pm an cdv ct), osl⟩) (hcd : codeIn K cdv qual = true) (hroom : A.depth < recursionLimit)
    (hbind : BindsTo s (fnOf name qual params body scope dV kV doc pm an cdv ct) args binds) (hkind : (binds.all fun y => scope.names.lookup y.1 == some .local || scope.names.lookup y.1 == some .cell) = true)
    (hnd : ((cellsFrom 0 scope.names []).map (·.1)).Nodup)
    (h : ∀ g L' h₁ tk cells, Split s.heap news g → Fr h₀ L g m → Fr g L' h₁ (bindL (envOfC qual scope L' f cdv).kindOf binds fun _ => none) → News g L' h₁ (cells ++ news) →
      CellsAre (bindC (envOfC qual scope L' f cdv).kindOf binds fun _ => none) (cellsFrom (L' + 1) scope.names []) cells → Below A base (env :: outer) g → K.In g → Top p loose mean mg mb g → (∀ p ∈ news, p.1 < L') →
      wpAny (model prog w) (A.deeper (envOfC qual scope L' f cdv)) (execs body (envOfC qual scope L' f cdv))
        (fun fl s' => LeaveK h₀ L m g R (match fl with | .ret v => v | _ => .none) s')
        (fun e s' => wpAny (model prog w) (A.deeper (envOfC qual scope L' f cdv)) (leaving (envOfC qual scope L' f cdv) e) (fun _ s'' => R (.error e) s'') (fun e' s'' => R (.error e') s'') s')
        { s with heap := h₁, toks := tk })
    (hco : scope.isCoroutine = false) (hgen : scope.isGenerator = false) (hk : scope.kind = .function) : codeAny (model prog w) A (.call (.ref f) args) R s := by
  obtain ⟨FG, BG, st, lv⟩ := groundX (R := R) B F N hA hf hke
  refine codeAny_call_function hroom ((X₀.keeps F.keep) _ _ ho) rfl hco hgen rfl (codeRec_of (X₀.keeps F.keep) hcd) (hbind _ _ _ _ ?_)
  refine wpAny_newFunctionEnv_cells hk (kindsX hkind _) fun env' he s' x => ?_
  subst he
  refine ⟨(T.nolimit.keeps F.keep).keeps x.toInCall.keep, codeAny_func ?_⟩
  obtain ⟨h₁, tk, rfl, _⟩ := x.done
  have hk₁ := x.toInCall.keep
  obtain ⟨cells, NC, Y⟩ := Cl.news (h₀ := s.heap) (Nat.le_refl _) fun n c hm => ⟨x.cell n c (lookup_of_mem_nodup (cellsFrom_names scope.names 0 (s.heap.objs.size + 1) [] [] rfl ▸ hnd) hm), x.above n c hm⟩
  refine wpAny_mono (h _ s.heap.objs.size h₁ tk cells (split_hide N) FG ⟨x.toInCall.ns, fun b o e => hk₁ b o (of_hideAll _ e), Nat.le_of_eq (hideAll_size _ _)⟩ (fun p hp => ?_) Y BG (X₀.keeps st) (T.keeps st) (fun p hp => Heap.lt_size (N p hp).1)) (fun fl s' hl => lv _ _ hl) fun _ _ y => y
  rcases List.mem_append.mp hp with hp | hp
  · refine ⟨(NC p hp).1, (NC p hp).2.1, ?_⟩
    cases q : (hideAll s.heap (news.map (·.1))).get? p.1 with
    | none => rfl
    | some o => have := of_hideAll _ q; rw [(NC p hp).2.2] at this; cases this
  · exact ⟨hk₁ _ _ (N p hp).1, Nat.ne_of_lt (Heap.lt_size (N p hp).1), hideAll_none _ (List.mem_map_of_mem hp)⟩
end
end Mine
end PartBaseC
section PartCV
open PySem PySem.W PyProof.Rows PySem.Calls
set_option maxRecDepth 100000
set_option maxHeartbeats 8000000
namespace Mine

theorem v_ctr (w : World) (m1 m2 hue : UInt64) (t1 t2 t3 : Tok) : Ctr w 1 8 42 [.float m1 t1, .float m2 t2, .float hue t3] [] (PFlt (vF m1 m2 hue)) := by
  intro mean mg mb dp un gd cn cs a ccd cl outer A₀ base h₀ L m s Q E B F X N T hk hdp hun ret
  refine wpAny_call ?_
  k_dflt (refine' code_defE ?k1 ?k2 ?k3 ?k4 ?k5 ?kA ?kF ?kK ?k6 ?k7 ?k8 ?k9 ?kB ?_ ?c2 ?c3 ?c4 ?c5; (case kA => exact rfl); (case kF => exact rfl); (case kK => assumption); (case k1 => k_asm); (case k2 => k_asm); (case k3 => k_asm); (case k4 => k_asm); (case k5 => k_asm); (case k6 => k_is); (case k7 => k_is); (case k8 => ktr_room); (case k9 => exact BindsTo.of_eq rfl); (case c5 => decide); (case kB => exact locs rfl); (case c2 => exact rfl); (case c3 => exact rfl); (case c4 => exact rfl); k_whole)
  intro g1 L1 h1 S1 FG1 F1 N1 B1 X1 T1
  clear F N FG1
  (try dsimp only)
  (try k_lift B1)
  (try k_fold)
  k_steps
  all_goals (refine end_flt ret S1 (by assumption) (by assumption) (by simp) ?_; simp [vF, *]; done)
end Mine
end PartCV
section PartCAi
open PySem PySem.W PyProof.Rows PySem.Calls
set_option maxRecDepth 100000
set_option maxHeartbeats 8000000
namespace Mine

theorem hsv_ctr (w : World) (r g b : UInt64) (t1 t2 t3 : Tok) (hne : (Float64.cmp (min3 r g b) (max3 r g b) == some Ordering.eq) = false) (hz1 : ¬ Float64.isZero (max3 r g b) = true) (hz2 : ¬ Float64.isZero (Float64.sub (max3 r g b) (min3 r g b)) = true) :
    Ctr w 1 8 49 [.float r t1, .float g t2, .float b t3] [] (PTup3h (hueF r g b) (Float64.div (rgF r g b) (max3 r g b)) (max3 r g b)) := by
  intro mean mg mb dp un gd cn cs a ccd cl outer A₀ base h₀ L m s Q E B F X N T hk hdp hun ret
  refine wpAny_call ?_
  k_dflt (refine' code_defE ?k1 ?k2 ?k3 ?k4 ?k5 ?kA ?kF ?kK ?k6 ?k7 ?k8 ?k9 ?kB ?_ ?c2 ?c3 ?c4 ?c5; (case kA => exact rfl); (case kF => exact rfl); (case kK => assumption); (case k1 => k_asm); (case k2 => k_asm); (case k3 => k_asm); (case k4 => k_asm); (case k5 => k_asm); (case k6 => k_is); (case k7 => k_is); (case k8 => ktr_room); (case k9 => exact BindsTo.of_eq rfl); (case c5 => decide); (case kB => exact locs rfl); (case c2 => exact rfl); (case c3 => exact rfl); (case c4 => exact rfl); k_whole)
  intro g1 L1 h1 S1 FG1 F1 N1 B1 X1 T1
  clear F N FG1
  (try dsimp only)
  (try k_lift B1)
  (try k_fold)
  repeat' (first | ((with_reducible show wpAny _ _ (execs _ _) _ _ { heap := _, gens := _, drawn := _, toks := _ + 1, os := _ }); refine gen_toks ?_; intro tkp htkp) | ((with_reducible show wpAny _ _ (call _ [Value.float _ _, Value.float _ _, Value.float _ _]) _ _ _); (rename News _ _ _ _ => N'); (rename Fr _ _ _ _ => F'); refine min3_ff rfl F' N' ?_; clear N'; intro _ _ _ _ _) | ((with_reducible show wpAny _ _ (call _ [Value.float _ _, Value.float _ _, Value.float _ _]) _ _ _); (rename News _ _ _ _ => N'); (rename Fr _ _ _ _ => F'); refine max3_ff rfl F' N' ?_; clear N'; intro _ _ _ _ _) | (k_unfold; (try dsimp only)) | (k_end; wrow_close) | walk1 | (dsimp only; walk1) | (leave1; walk_say "STEP leave1"; try dsimp only) | fail "no step")
  all_goals (refine end_tup3h ret S1 (by assumption) (by assumption) (by simp) (by k_mem) (by simp) ?_ rfl rfl (by omega); simp [hueF, *]; done)
end Mine
end PartCAi
section PartCBi
open PySem PySem.W PyProof.Rows PySem.Calls
set_option maxRecDepth 100000
set_option maxHeartbeats 8000000
namespace Mine

theorem hls_ctr (w : World) (r g b : UInt64) (t1 t2 t3 : Tok) (hne : (Float64.cmp (min3 r g b) (max3 r g b) == some Ordering.eq) = false) (hz2 : ¬ Float64.isZero (Float64.sub (max3 r g b) (min3 r g b)) = true)
    (hz3 : ¬ Float64.isZero (Float64.add (max3 r g b) (min3 r g b)) = true) (hz4 : ¬ Float64.isZero (Float64.sub (Float64.sub 4611686018427387904 (max3 r g b)) (min3 r g b)) = true) :
    Ctr w 1 8 28 [.float r t1, .float g t2, .float b t3] [] (PTup3n (hueF r g b) (lgtF r g b) (satF r g b)) := by
  intro mean mg mb dp un gd cn cs a ccd cl outer A₀ base h₀ L m s Q E B F X N T hk hdp hun ret
  refine wpAny_call ?_
  k_dflt (refine' code_defE ?k1 ?k2 ?k3 ?k4 ?k5 ?kA ?kF ?kK ?k6 ?k7 ?k8 ?k9 ?kB ?_ ?c2 ?c3 ?c4 ?c5; (case kA => exact rfl); (case kF => exact rfl); (case kK => assumption); (case k1 => k_asm); (case k2 => k_asm); (case k3 => k_asm); (case k4 => k_asm); (case k5 => k_asm); (case k6 => k_is); (case k7 => k_is); (case k8 => ktr_room); (case k9 => exact BindsTo.of_eq rfl); (case c5 => decide); (case kB => exact locs rfl); (case c2 => exact rfl); (case c3 => exact rfl); (case c4 => exact rfl); k_whole)
  intro g1 L1 h1 S1 FG1 F1 N1 B1 X1 T1
  clear F N FG1
  (try dsimp only)
  (try k_lift B1)
  (try k_fold)
  repeat' (first | ((with_reducible show wpAny _ _ (execs _ _) _ _ { heap := _, gens := _, drawn := _, toks := _ + 1, os := _ }); refine gen_toks ?_; intro tkp htkp) | ((with_reducible show wpAny _ _ (call _ [Value.float _ _, Value.float _ _, Value.float _ _]) _ _ _); (rename News _ _ _ _ => N'); (rename Fr _ _ _ _ => F'); refine min3_ff rfl F' N' ?_; clear N'; intro _ _ _ _ _) | ((with_reducible show wpAny _ _ (call _ [Value.float _ _, Value.float _ _, Value.float _ _]) _ _ _); (rename News _ _ _ _ => N'); (rename Fr _ _ _ _ => F'); refine max3_ff rfl F' N' ?_; clear N'; intro _ _ _ _ _) | (k_unfold; (try dsimp only)) | (k_end; wrow_close) | walk1 | (dsimp only; walk1) | (leave1; walk_say "STEP leave1"; try dsimp only) | fail "no step")
  all_goals (refine end_tup3n ret S1 (by assumption) (by assumption) (by simp) (by k_mem) (by simp) ?_ rfl ?_ (by omega) (by omega) (by omega) <;> first | (simp [hueF, *]; done) | (simp [satF, lgtF, *]; done))
end Mine
end PartCBi
section PartCCi
open PySem PySem.W PyProof.Rows PySem.Calls
set_option maxRecDepth 100000
set_option maxHeartbeats 8000000
namespace Mine

theorem hlsrgb_ctr (w : World) (h l s : UInt64) (t1 t2 t3 : Tok) (hs : (Float64.cmp s 0 == some Ordering.eq) = false) :
    Ctr w 2 16 35 [.float h t1, .float l t2, .float s t3] [] (PTup3 (vF (m1F l s) (m2F l s) (Float64.add h 4599676419421066581)) (vF (m1F l s) (m2F l s) h) (vF (m1F l s) (m2F l s) (Float64.sub h 4599676419421066581))) := by
  intro mean mg mb dp un gd cn cs a ccd cl outer A₀ base h₀ L m s1 Q E B F X N T hk hdp hun ret
  refine wpAny_call ?_
  k_dflt (refine' code_defE ?k1 ?k2 ?k3 ?k4 ?k5 ?kA ?kF ?kK ?k6 ?k7 ?k8 ?k9 ?kB ?_ ?c2 ?c3 ?c4 ?c5; (case kA => exact rfl); (case kF => exact rfl); (case kK => assumption); (case k1 => k_asm); (case k2 => k_asm); (case k3 => k_asm); (case k4 => k_asm); (case k5 => k_asm); (case k6 => k_is); (case k7 => k_is); (case k8 => ktr_room); (case k9 => exact BindsTo.of_eq rfl); (case c5 => decide); (case kB => exact locs rfl); (case c2 => exact rfl); (case c3 => exact rfl); (case c4 => exact rfl); k_whole)
  intro g1 L1 h1 S1 FG1 F1 N1 B1 X1 T1
  clear F N FG1
  (try dsimp only)
  (try k_lift B1)
  (try k_fold)
  repeat' (first | ((with_reducible show wpAny _ _ (call (Value.ref 42) _) _ _ _); k_dflt (refine' use_flt (v_ctr _ _ _ _ _ _ _) ?k1 ?k2 ?k3 ?k4 ?k5 ?kK ?kN ?kd ?ku ?_; (case k1 => k_asm); (case k2 => k_asm); (case k3 => k_asm); (case k4 => k_asm); (case k5 => k_asm); (case kK => first | exact rfl | assumption); (case kN => simp); (case kd => ktr_room); (case ku => ktr_units); k_whole); intro t9 h9 tk9 F9 N9; (try dsimp only); (try k_fold)) | (k_unfold; (try dsimp only)) | (k_end; wrow_close) | walk1 | (dsimp only; walk1) | (leave1; walk_say "STEP leave1"; try dsimp only) | fail "no step")
  all_goals (refine end_tup3 ret S1 (by assumption) (by assumption) (by simp) (by k_mem) (by simp) ?_ ?_ ?_ <;> (simp [m1F, m2F, *]; done))
end Mine
end PartCCi
section PartCD
open PySem PySem.W PyProof.Rows PySem.Calls
set_option maxRecDepth 100000
set_option maxHeartbeats 8000000
namespace Mine

theorem rgb_ctr (w : World) (h s v : UInt64) (t1 t2 t3 : Tok) (hs : (Float64.cmp s 0 == some Ordering.eq) = false) (hf : Float64.isFinite (Float64.mul h 4618441417868443648) = true) (hi : (Flt.toInt Float64.truncOf (Float64.mul h 4618441417868443648)).natAbs < 2 ^ 1024 - 2 ^ 970) :
    Ctr w 1 8 56 [.float h t1, .float s t2, .float v t3] [] (PTup3 (hsvR h s v) (hsvG h s v) (hsvB h s v)) := by
  intro mean mg mb dp un gd cn cs a ccd cl outer A₀ base h₀ L m s1 Q E B F X N T hk hdp hun ret
  refine wpAny_call ?_
  k_dflt (refine' code_defE ?k1 ?k2 ?k3 ?k4 ?k5 ?kA ?kF ?kK ?k6 ?k7 ?k8 ?k9 ?kB ?_ ?c2 ?c3 ?c4 ?c5; (case kA => exact rfl); (case kF => exact rfl); (case kK => assumption); (case k1 => k_asm); (case k2 => k_asm); (case k3 => k_asm); (case k4 => k_asm); (case k5 => k_asm); (case k6 => k_is); (case k7 => k_is); (case k8 => ktr_room); (case k9 => exact BindsTo.of_eq rfl); (case c5 => decide); (case kB => exact locs rfl); (case c2 => exact rfl); (case c3 => exact rfl); (case c4 => exact rfl); k_whole)
  intro g1 L1 h1 S1 FG1 F1 N1 B1 X1 T1
  clear F N FG1
  (try dsimp only)
  (try k_lift B1)
  (try k_fold)
  k_steps
  all_goals first
    | (refine end_tup3 ret S1 (by assumption) (by assumption) (by simp) (by k_mem) (by simp) ?_ ?_ ?_ <;> first | rfl | (simp [hsvR, hsvG, hsvB, sixF, *]; done))
    | (exfalso; have q1 := Int.fmod_nonneg_of_pos (Flt.toInt Float64.truncOf (Float64.mul h 4618441417868443648)) (b := 6) (by decide); have q2 := Int.fmod_lt_of_pos (Flt.toInt Float64.truncOf (Float64.mul h 4618441417868443648)) (b := 6) (by decide); omega)
end Mine
end PartCD
section PartCS0
open PySem PySem.W PyProof.Rows PySem.Calls
set_option maxRecDepth 100000
set_option maxHeartbeats 8000000
namespace Mine

theorem step0_ctr (w : World) (r g b n : Int) (t1 t2 t3 t4 : Tok) (l : Addr) (e : Nat) (hn : 1 ≤ n) (hc : b = 0 ∧ r = n ∧ 0 ≤ g ∧ g < n) :
    Ctr w 1 8 129 [.ref l, .int n t4] [(l, listOf #[.int r t1, .int g t2, .int b t3] e)] (PList3 r (g + 1) b) := by
  obtain ⟨c1, c2, c3, c4⟩ := hc
  intro mean mg mb dp un gd cn cs a ccd cl outer A₀ base h₀ L m s Q E B F X N T hk hdp hun ret
  refine wpAny_call ?_
  k_dflt (refine' code_defE ?k1 ?k2 ?k3 ?k4 ?k5 ?kA ?kF ?kK ?k6 ?k7 ?k8 ?k9 ?kB ?_ ?c2 ?c3 ?c4 ?c5; (case kA => exact rfl); (case kF => exact rfl); (case kK => assumption); (case k1 => k_asm); (case k2 => k_asm); (case k3 => k_asm); (case k4 => k_asm); (case k5 => k_asm); (case k6 => k_is); (case k7 => k_is); (case k8 => ktr_room); (case k9 => exact BindsTo.of_eq rfl); (case c5 => decide); (case kB => exact locs rfl); (case c2 => exact rfl); (case c3 => exact rfl); (case c4 => exact rfl); k_whole)
  intro g1 L1 h1 S1 FG1 F1 N1 B1 X1 T1
  clear F N FG1
  (try dsimp only)
  (try k_lift B1)
  (try k_fold)
  k_steps
  all_goals (refine end_list3 ret S1 (by assumption) (by assumption) (by intro p hp; simp at hp; subst hp; k_mem) (by k_mem) (by intro p hp; simp at hp; subst hp; k_ne) ?_ ?_ ?_ <;> first | rfl | omega)
end Mine
end PartCS0
section PartCS1
open PySem PySem.W PyProof.Rows PySem.Calls
set_option maxRecDepth 100000
set_option maxHeartbeats 8000000
namespace Mine

theorem step1_ctr (w : World) (r g b n : Int) (t1 t2 t3 t4 : Tok) (l : Addr) (e : Nat) (hn : 1 ≤ n) (hc : b = 0 ∧ g = n ∧ 0 < r ∧ r ≤ n) :
    Ctr w 1 8 129 [.ref l, .int n t4] [(l, listOf #[.int r t1, .int g t2, .int b t3] e)] (PList3 (r - 1) g b) := by
  obtain ⟨c1, c2, c3, c4⟩ := hc
  intro mean mg mb dp un gd cn cs a ccd cl outer A₀ base h₀ L m s Q E B F X N T hk hdp hun ret
  refine wpAny_call ?_
  k_dflt (refine' code_defE ?k1 ?k2 ?k3 ?k4 ?k5 ?kA ?kF ?kK ?k6 ?k7 ?k8 ?k9 ?kB ?_ ?c2 ?c3 ?c4 ?c5; (case kA => exact rfl); (case kF => exact rfl); (case kK => assumption); (case k1 => k_asm); (case k2 => k_asm); (case k3 => k_asm); (case k4 => k_asm); (case k5 => k_asm); (case k6 => k_is); (case k7 => k_is); (case k8 => ktr_room); (case k9 => exact BindsTo.of_eq rfl); (case c5 => decide); (case kB => exact locs rfl); (case c2 => exact rfl); (case c3 => exact rfl); (case c4 => exact rfl); k_whole)
  intro g1 L1 h1 S1 FG1 F1 N1 B1 X1 T1
  clear F N FG1
  (try dsimp only)
  (try k_lift B1)
  (try k_fold)
  k_steps
  all_goals (refine end_list3 ret S1 (by assumption) (by assumption) (by intro p hp; simp at hp; subst hp; k_mem) (by k_mem) (by intro p hp; simp at hp; subst hp; k_ne) ?_ ?_ ?_ <;> first | rfl | omega)
end Mine
end PartCS1
section PartCS2
open PySem PySem.W PyProof.Rows PySem.Calls
set_option maxRecDepth 100000
set_option maxHeartbeats 8000000
namespace Mine

theorem step2_ctr (w : World) (r g b n : Int) (t1 t2 t3 t4 : Tok) (l : Addr) (e : Nat) (hn : 1 ≤ n) (hc : r = 0 ∧ g = n ∧ 0 ≤ b ∧ b < n) :
    Ctr w 1 8 129 [.ref l, .int n t4] [(l, listOf #[.int r t1, .int g t2, .int b t3] e)] (PList3 r g (b + 1)) := by
  obtain ⟨c1, c2, c3, c4⟩ := hc
  intro mean mg mb dp un gd cn cs a ccd cl outer A₀ base h₀ L m s Q E B F X N T hk hdp hun ret
  refine wpAny_call ?_
  k_dflt (refine' code_defE ?k1 ?k2 ?k3 ?k4 ?k5 ?kA ?kF ?kK ?k6 ?k7 ?k8 ?k9 ?kB ?_ ?c2 ?c3 ?c4 ?c5; (case kA => exact rfl); (case kF => exact rfl); (case kK => assumption); (case k1 => k_asm); (case k2 => k_asm); (case k3 => k_asm); (case k4 => k_asm); (case k5 => k_asm); (case k6 => k_is); (case k7 => k_is); (case k8 => ktr_room); (case k9 => exact BindsTo.of_eq rfl); (case c5 => decide); (case kB => exact locs rfl); (case c2 => exact rfl); (case c3 => exact rfl); (case c4 => exact rfl); k_whole)
  intro g1 L1 h1 S1 FG1 F1 N1 B1 X1 T1
  clear F N FG1
  (try dsimp only)
  (try k_lift B1)
  (try k_fold)
  k_steps
  all_goals (refine end_list3 ret S1 (by assumption) (by assumption) (by intro p hp; simp at hp; subst hp; k_mem) (by k_mem) (by intro p hp; simp at hp; subst hp; k_ne) ?_ ?_ ?_ <;> first | rfl | omega)
end Mine
end PartCS2
section PartCS3
open PySem PySem.W PyProof.Rows PySem.Calls
set_option maxRecDepth 100000
set_option maxHeartbeats 8000000
namespace Mine

theorem step3_ctr (w : World) (r g b n : Int) (t1 t2 t3 t4 : Tok) (l : Addr) (e : Nat) (hn : 1 ≤ n) (hc : r = 0 ∧ b = n ∧ 0 < g ∧ g ≤ n) :
    Ctr w 1 8 129 [.ref l, .int n t4] [(l, listOf #[.int r t1, .int g t2, .int b t3] e)] (PList3 r (g - 1) b) := by
  obtain ⟨c1, c2, c3, c4⟩ := hc
  intro mean mg mb dp un gd cn cs a ccd cl outer A₀ base h₀ L m s Q E B F X N T hk hdp hun ret
  refine wpAny_call ?_
  k_dflt (refine' code_defE ?k1 ?k2 ?k3 ?k4 ?k5 ?kA ?kF ?kK ?k6 ?k7 ?k8 ?k9 ?kB ?_ ?c2 ?c3 ?c4 ?c5; (case kA => exact rfl); (case kF => exact rfl); (case kK => assumption); (case k1 => k_asm); (case k2 => k_asm); (case k3 => k_asm); (case k4 => k_asm); (case k5 => k_asm); (case k6 => k_is); (case k7 => k_is); (case k8 => ktr_room); (case k9 => exact BindsTo.of_eq rfl); (case c5 => decide); (case kB => exact locs rfl); (case c2 => exact rfl); (case c3 => exact rfl); (case c4 => exact rfl); k_whole)
  intro g1 L1 h1 S1 FG1 F1 N1 B1 X1 T1
  clear F N FG1
  (try dsimp only)
  (try k_lift B1)
  (try k_fold)
  k_steps
  all_goals (refine end_list3 ret S1 (by assumption) (by assumption) (by intro p hp; simp at hp; subst hp; k_mem) (by k_mem) (by intro p hp; simp at hp; subst hp; k_ne) ?_ ?_ ?_ <;> first | rfl | omega)
end Mine
end PartCS3
section PartCS4
open PySem PySem.W PyProof.Rows PySem.Calls
set_option maxRecDepth 100000
set_option maxHeartbeats 8000000
namespace Mine

theorem step4_ctr (w : World) (r g b n : Int) (t1 t2 t3 t4 : Tok) (l : Addr) (e : Nat) (hn : 1 ≤ n) (hc : g = 0 ∧ b = n ∧ 0 ≤ r ∧ r < n) :
    Ctr w 1 8 129 [.ref l, .int n t4] [(l, listOf #[.int r t1, .int g t2, .int b t3] e)] (PList3 (r + 1) g b) := by
  obtain ⟨c1, c2, c3, c4⟩ := hc
  intro mean mg mb dp un gd cn cs a ccd cl outer A₀ base h₀ L m s Q E B F X N T hk hdp hun ret
  refine wpAny_call ?_
  k_dflt (refine' code_defE ?k1 ?k2 ?k3 ?k4 ?k5 ?kA ?kF ?kK ?k6 ?k7 ?k8 ?k9 ?kB ?_ ?c2 ?c3 ?c4 ?c5; (case kA => exact rfl); (case kF => exact rfl); (case kK => assumption); (case k1 => k_asm); (case k2 => k_asm); (case k3 => k_asm); (case k4 => k_asm); (case k5 => k_asm); (case k6 => k_is); (case k7 => k_is); (case k8 => ktr_room); (case k9 => exact BindsTo.of_eq rfl); (case c5 => decide); (case kB => exact locs rfl); (case c2 => exact rfl); (case c3 => exact rfl); (case c4 => exact rfl); k_whole)
  intro g1 L1 h1 S1 FG1 F1 N1 B1 X1 T1
  clear F N FG1
  (try dsimp only)
  (try k_lift B1)
  (try k_fold)
  k_steps
  all_goals (refine end_list3 ret S1 (by assumption) (by assumption) (by intro p hp; simp at hp; subst hp; k_mem) (by k_mem) (by intro p hp; simp at hp; subst hp; k_ne) ?_ ?_ ?_ <;> first | rfl | omega)
end Mine
end PartCS4
section PartCS5
open PySem PySem.W PyProof.Rows PySem.Calls
set_option maxRecDepth 100000
set_option maxHeartbeats 8000000
namespace Mine

theorem step5_ctr (w : World) (r g b n : Int) (t1 t2 t3 t4 : Tok) (l : Addr) (e : Nat) (hn : 1 ≤ n) (hc : g = 0 ∧ r = n ∧ 0 < b ∧ b ≤ n) :
    Ctr w 1 8 129 [.ref l, .int n t4] [(l, listOf #[.int r t1, .int g t2, .int b t3] e)] (PList3 r g (b - 1)) := by
  obtain ⟨c1, c2, c3, c4⟩ := hc
  intro mean mg mb dp un gd cn cs a ccd cl outer A₀ base h₀ L m s Q E B F X N T hk hdp hun ret
  refine wpAny_call ?_
  k_dflt (refine' code_defE ?k1 ?k2 ?k3 ?k4 ?k5 ?kA ?kF ?kK ?k6 ?k7 ?k8 ?k9 ?kB ?_ ?c2 ?c3 ?c4 ?c5; (case kA => exact rfl); (case kF => exact rfl); (case kK => assumption); (case k1 => k_asm); (case k2 => k_asm); (case k3 => k_asm); (case k4 => k_asm); (case k5 => k_asm); (case k6 => k_is); (case k7 => k_is); (case k8 => ktr_room); (case k9 => exact BindsTo.of_eq rfl); (case c5 => decide); (case kB => exact locs rfl); (case c2 => exact rfl); (case c3 => exact rfl); (case c4 => exact rfl); k_whole)
  intro g1 L1 h1 S1 FG1 F1 N1 B1 X1 T1
  clear F N FG1
  (try dsimp only)
  (try k_lift B1)
  (try k_fold)
  k_steps
  all_goals (refine end_list3 ret S1 (by assumption) (by assumption) (by intro p hp; simp at hp; subst hp; k_mem) (by k_mem) (by intro p hp; simp at hp; subst hp; k_ne) ?_ ?_ ?_ <;> first | rfl | omega)
end Mine
end PartCS5
section PartRd0
open PySem PySem.W PyProof.Rows PySem.Calls
set_option maxRecDepth 100000
set_option maxHeartbeats 8000000
namespace Mine
/-- abs(x) * 2 ** 30 >= 1 -/
noncomputable def farF (x : UInt64) : Bool := Float64.cmpInt (Float64.mul (Float64.abs x) (Float64.ofInt (2 ^ Int.toNat 30))) 1 == some Ordering.gt || Float64.cmpInt (Float64.mul (Float64.abs x) (Float64.ofInt (2 ^ Int.toNat 30))) 1 == some Ordering.eq
/-- 6 * size * hue + 0.5 -/
noncomputable def plF (n : Int) (H : UInt64) : UInt64 := Float64.add (Float64.mul (Float64.ofInt (6 * n)) H) 4602678819172646912
theorem ne_of_eqF {x y : UInt64} (h : (Float64.cmp x y == some Ordering.eq) = true) : (Float64.cmp x y != some Ordering.eq) = false := by
  rw [bne, h]; rfl
/-- the float of a quotient of ints -/
noncomputable def frF (a b : Int) : UInt64 := Float64.ofFrac (decide (a < 0) != decide (b < 0)) a.natAbs b.natAbs
section
variable {w : World} {A : Around} {E : Value → Shared → Prop} {s : Shared} {Q : Value → Shared → Prop} {t u : Tok}
theorem div_ii_is {prog : Program} {a b : Int} {x : UInt64} (hA : A.handled = none) (e : frF a b = x) (hb : b ≠ 0) (hi : a.natAbs < 1000000) (h : Q (.float x s.toks) { s with toks := s.toks + 1 }) : wpAny (model prog w) A (binaryOp .Div (.int a t) (.int b u)) Q E s := by
  subst e
  refine Flt.div_ii_fits hA (Nat.lt_of_lt_of_le hi ?_) (fun q => absurd q hb) fun _ _ => h
  exact Nat.le_trans (show 1000000 ≤ 2 ^ 20 by decide) (Nat.pow_le_pow_right (by decide) (by decide))
theorem min2_is {prog : Program} {h₀ : Heap} {L : Addr} {m : Str → Option Value} {news : List (Addr × Obj)} {a b : Int} (hh : A.handled = none) (F : Fr h₀ L s.heap m) (N : News h₀ L s.heap news)
    (h : ∀ h' tk v, s.toks ≤ tk → Fr h₀ L h' m → News h₀ L h' news → Q (.int (if b < a then b else a) v) { s with heap := h', toks := tk }) :
    wpAny (model prog w) A (call (.builtin "min") [.int a t, .int b u]) Q E s :=
  wpAny_since (min_two_N hh F N fun h' tk F' N' hs => h h' tk _ hs F' N')
end
theorem hsv_ctr' (w : World) {r g b x y z : UInt64} {t1 t2 t3 : Tok} (hne : (Float64.cmp (min3 r g b) (max3 r g b) == some Ordering.eq) = false) (hz1 : ¬ Float64.isZero (max3 r g b) = true) (hz2 : ¬ Float64.isZero (Float64.sub (max3 r g b) (min3 r g b)) = true)
    (e1 : hueF r g b = x) (e2 : Float64.div (rgF r g b) (max3 r g b) = y) (e3 : max3 r g b = z) : Ctr w 1 8 49 [.float r t1, .float g t2, .float b t3] [] (PTup3h x y z) := by
  have := hsv_ctr w r g b t1 t2 t3 hne hz1 hz2
  rw [e1, e2, e3] at this
  exact this
theorem hls_ctr' (w : World) {r g b x y z : UInt64} {t1 t2 t3 : Tok} (hne : (Float64.cmp (min3 r g b) (max3 r g b) == some Ordering.eq) = false) (hz2 : ¬ Float64.isZero (Float64.sub (max3 r g b) (min3 r g b)) = true)
    (hz3 : ¬ Float64.isZero (Float64.add (max3 r g b) (min3 r g b)) = true) (hz4 : ¬ Float64.isZero (Float64.sub (Float64.sub 4611686018427387904 (max3 r g b)) (min3 r g b)) = true)
    (e1 : hueF r g b = x) (e2 : lgtF r g b = y) (e3 : satF r g b = z) : Ctr w 1 8 28 [.float r t1, .float g t2, .float b t3] [] (PTup3n x y z) := by
  have := hls_ctr w r g b t1 t2 t3 hne hz2 hz3 hz4
  rw [e1, e2, e3] at this
  exact this
end Mine
end PartRd0
section PartCRi
open PySem PySem.W PyProof.Rows PySem.Calls
set_option maxRecDepth 100000
set_option maxHeartbeats 8000000
namespace Mine
local macro_rules | `(tactic| walk_at "eval ListComp") => `(tactic| (k_here; lcf_look; lcg_calm; k_dflt (refine LCg.ListComp_U (F₀ := by k_asm) (by with_unfolding_all rfl) (by decide) (by rfl) (by decide) (by rfl) ?_); k_dflt lcg_toSrc))
local macro_rules | `(tactic| walk_at "CompSrc") => `(tactic| (k_here; k_dflt (refine LCg.CompSrc.ledger (by rfl) (by k_asm) (by k_asm) (by k_mem) (by first | size_fits | exact Nat.le_of_ble_eq_true rfl) ?_; intro g'; lcg_lit)))

theorem read_ctr (w : World) (r g b n lw p : Int) (t1 t2 t3 t4 t5 : Tok) (l : Addr) (e : Nat) (R G Bl H Sh V Lg D : UInt64)
    (hn : 1 ≤ n ∧ n ≤ 4) (hlw : 0 ≤ lw ∧ lw ≤ 11) (hr : 0 ≤ r ∧ r ≤ n) (hg : 0 ≤ g ∧ g ≤ n) (hb : 0 ≤ b ∧ b ≤ n)
    (hR : frF (lw + r) 16 = R) (hG : frF (lw + g) 16 = G) (hB : frF (lw + b) 16 = Bl)
    (hD : frF n (if 32 - 2 * lw - n < 2 * lw + n then 32 - 2 * lw - n else 2 * lw + n) = D) (hLg : frF (2 * lw + n) 32 = Lg) (hSh : frF n (lw + n) = Sh) (hV : frF (lw + n) 16 = V)
    (hne : (Float64.cmp (min3 R G Bl) (max3 R G Bl) == some Ordering.eq) = false) (hz1 : ¬ Float64.isZero (max3 R G Bl) = true) (hz2 : ¬ Float64.isZero (Float64.sub (max3 R G Bl) (min3 R G Bl)) = true)
    (hz3 : ¬ Float64.isZero (Float64.add (max3 R G Bl) (min3 R G Bl)) = true) (hz4 : ¬ Float64.isZero (Float64.sub (Float64.sub 4611686018427387904 (max3 R G Bl)) (min3 R G Bl)) = true)
    (eH : hueF R G Bl = H) (eSh : Float64.div (rgF R G Bl) (max3 R G Bl) = Sh) (eV : max3 R G Bl = V) (eLg : lgtF R G Bl = Lg) (eD : satF R G Bl = D)
    (cH : (Float64.cmp H H == some Ordering.eq) = true) (cSh : (Float64.cmp Sh Sh == some Ordering.eq) = true) (cV : (Float64.cmp V V == some Ordering.eq) = true) (cLg : (Float64.cmp Lg Lg == some Ordering.eq) = true) (cD : (Float64.cmp D D == some Ordering.eq) = true)
    (hfin : Float64.isFinite (plF n H) = true) (hp : Flt.toInt Float64.truncOf (plF n H) = p) (hpb : p.natAbs < 1000) (hcl : farF (Float64.sub (Float64.mul (Float64.ofInt (6 * n)) H) (Float64.ofInt p)) = false) :
    Ctr w 2 20 139 [.ref l, .int lw t5, .int n t4] [(l, listOf #[.int r t1, .int g t2, .int b t3] e)] (PInt p) := by
  have cSh' := ne_of_eqF cSh
  have cV' := ne_of_eqF cV
  have hpb' : (Flt.toInt Float64.truncOf (plF n H)).natAbs < 2 ^ 1024 - 2 ^ 970 := by
    rw [hp]
    exact Nat.lt_of_lt_of_le hpb (Nat.le_of_ble_eq_true (by rfl))
  rw [← hp] at hcl
  unfold farF plF at hcl
  unfold plF at hfin hp hpb'
  intro mean mg mb dp un gd cn cs a ccd cl outer A₀ base h₀ L m s Q E B F X N T hk hdp hun ret
  refine wpAny_call ?_
  k_dflt (refine' code_defCE ?k1 ?k2 ?k3 ?k4 ?k5 ?kA ?kF ?kK ?k6 ?k7 ?k8 ?k9 ?kB ?kD ?_ ?c2 ?c3 ?c4; (case kA => exact rfl); (case kF => exact rfl); (case kK => assumption); (case k1 => k_asm); (case k2 => k_asm); (case k3 => k_asm); (case k4 => k_asm); (case k5 => k_asm); (case k6 => k_is); (case k7 => k_is); (case k8 => ktr_room); (case k9 => exact BindsTo.of_eq rfl); (case kB => exact rfl); (case kD => decide +kernel); (case c2 => exact rfl); (case c3 => exact rfl); (case c4 => exact rfl); k_whole)
  intro g1 L1 h1 tk1 cells1 S1 FG1 F1 N1 Y1 B1 X1 T1 l1
  (try k_lt l1)
  k_cells Y1
  (try simp only [List.cons_append, List.nil_append] at N1)
  clear F N FG1
  (try dsimp only)
  (try k_lift B1)
  (try k_fold)
  repeat' (first | ((with_reducible show wpAny _ _ (call (Value.ref 28) _) _ _ _); k_dflt (refine' use_tup3n (hls_ctr' _ (by with_reducible assumption) (by with_reducible assumption) (by with_reducible assumption) (by with_reducible assumption) (by with_reducible assumption) (by with_reducible assumption) (by with_reducible assumption)) ?k1 ?k2 ?k3 ?k4 ?k5 ?kK ?kN ?kd ?ku ?_; (case k1 => k_asm); (case k2 => k_asm); (case k3 => k_asm); (case k4 => k_asm); (case k5 => k_asm); (case kK => first | exact rfl | assumption); (case kN => simp); (case kd => ktr_room); (case ku => ktr_units); k_whole); intro p9 s9 t9 u9 h9 tk9 F9 N9 l9 n9 i9 j9 k9; (try dsimp only at k9); (clear l9); (try dsimp only); (try k_fold)) | ((with_reducible show wpAny _ _ (call (Value.ref 49) _) _ _ _); k_dflt (refine' use_tup3h (hsv_ctr' _ (by with_reducible assumption) (by with_reducible assumption) (by with_reducible assumption) (by with_reducible assumption) (by with_reducible assumption) (by with_reducible assumption)) ?k1 ?k2 ?k3 ?k4 ?k5 ?kK ?kN ?kd ?ku ?_; (case k1 => k_asm); (case k2 => k_asm); (case k3 => k_asm); (case k4 => k_asm); (case k5 => k_asm); (case kK => first | exact rfl | assumption); (case kN => simp); (case kd => ktr_room); (case ku => ktr_units); k_whole); intro p9 s9 t9 u9 h9 tk9 F9 N9 l9 n9 k9; (try dsimp only at k9); (clear l9); (try dsimp only); (try k_fold)) | ((with_reducible show wpAny _ _ (execs _ _) _ _ { heap := _, gens := _, drawn := _, toks := _ + 1, os := _ }); refine gen_toks ?_; intro tkp htkp) | ((with_reducible show wpAny _ _ (compareOp CmpOp.NotEq (Value.ref _) (Value.ref _)) _ _ _); k_dflt (refine' tup3_ne ?k1 ?k2 ?k3 ?k4 ?k5 ?k6 ?k7 ?a1 ?a2 ?a3 ?b1 ?b2 ?b3 ?n1 ?n2 ?n3 ?ku ?_; (case k1 => k_asm); (case k2 => k_asm); (case k3 => k_asm); (case k4 => k_mem); (case k5 => k_mem); (case k6 => k_is); (case k7 => rfl); (case a1 => refine neN ?_; omega); (case a2 => refine neN ?_; omega); (case a3 => refine neN ?_; omega); (case b1 => refine neN ?_; omega); (case b2 => refine neN ?_; omega); (case b3 => refine neN ?_; omega); (case n1 => with_reducible assumption); (case n2 => with_reducible assumption); (case n3 => with_reducible assumption); (case ku => ktr_units))) | ((with_reducible show wpAny _ _ (call _ [Value.int _ _, Value.int _ _]) _ _ _); (rename News _ _ _ _ => N'); (rename Fr _ _ _ _ => F'); k_dflt (refine min2_is rfl F' N' ?_); clear N'; intro h9 tk9 v9 k9 F9 N9; (try dsimp only at k9); try dsimp only) | ((with_reducible show wpAny _ _ (binaryOp Operator.Div (Value.int _ _) (Value.int _ _)) _ _ _); k_dflt (refine div_ii_is rfl (by with_reducible assumption) (by omega) (by omega) ?_); try dsimp only) | ((with_reducible show wpAny _ _ (compareOp CmpOp.NotEq (Value.ref _) (Value.ref _)) _ _ _); k_dflt (refine' tup3_ne ?k1 ?k2 ?k3 ?k4 ?k5 ?k6 ?k7 ?a1 ?a2 ?a3 ?b1 ?b2 ?b3 ?n1 ?n2 ?n3 ?ku ?_; (case k1 => k_asm); (case k2 => k_asm); (case k3 => k_asm); (case k4 => k_mem); (case k5 => k_mem); (case k6 => k_is); (case k7 => rfl); (case a1 => refine neN ?_; omega); (case a2 => refine neN ?_; omega); (case a3 => refine neN ?_; omega); (case b1 => refine neN ?_; omega); (case b2 => refine neN ?_; omega); (case b3 => refine neN ?_; omega); (case n1 => with_reducible assumption); (case n2 => with_reducible assumption); (case n3 => with_reducible assumption); (case ku => ktr_units))) | (k_unfold; (try dsimp only)) | (k_end; wrow_close) | walk1 | (dsimp only; walk1) | (leave1; walk_say "STEP leave1"; try dsimp only) | fail "no step")
  all_goals first
    | (refine end_int ret S1 (by assumption) (by assumption) (by intro q hq; simp at hq; subst hq; k_mem) ?_; exact hp)
    | trace_state
end Mine
end PartCRi
section PartSh0
open PySem PySem.W PyProof.Rows PySem.Calls
set_option maxRecDepth 100000
set_option maxHeartbeats 8000000
namespace Mine
theorem rgb_ctr' (w : World) {h s v x y z : UInt64} {t1 t2 t3 : Tok} (hs : (Float64.cmp s 0 == some Ordering.eq) = false) (hf : Float64.isFinite (Float64.mul h 4618441417868443648) = true) (hi : (hiF h).natAbs < 1000)
    (e1 : hsvR h s v = x) (e2 : hsvG h s v = y) (e3 : hsvB h s v = z) : Ctr w 1 8 56 [.float h t1, .float s t2, .float v t3] [] (PTup3 x y z) := by
  have := rgb_ctr w h s v t1 t2 t3 hs hf (Nat.lt_of_lt_of_le hi (Nat.le_of_ble_eq_true (by rfl)))
  rw [e1, e2, e3] at this
  exact this
theorem hlsrgb_ctr' (w : World) {h l s x y z : UInt64} {t1 t2 t3 : Tok} (hs : (Float64.cmp s 0 == some Ordering.eq) = false)
    (e1 : vF (m1F l s) (m2F l s) (Float64.add h 4599676419421066581) = x) (e2 : vF (m1F l s) (m2F l s) h = y) (e3 : vF (m1F l s) (m2F l s) (Float64.sub h 4599676419421066581) = z) : Ctr w 2 16 35 [.float h t1, .float l t2, .float s t3] [] (PTup3 x y z) := by
  have := hlsrgb_ctr w h l s t1 t2 t3 hs
  rw [e1, e2, e3] at this
  exact this
theorem item_l3 {prog : Program} {w : World} {A : Around} {E : Value → Shared → Prop} {s : Shared} {value slice : PySem.Expr} {h₀ : Heap} {L l : Addr} {news : List (Addr × Obj)} {its : Array Value} {e : Nat} {k : Int} {u : Tok} {v : Value} {Q : Value → Shared → Prop}
    (N : News h₀ L s.heap news) (hm : (l, listOf its e) ∈ news) (h0 : 0 ≤ k) (hhi : k < 2 ^ 63) (hx : its[k.toNat]? = some v) (h : Q v s)
    (hs : subscripted slice false (.ref l) (.int k u) = operate [.ref l, .int k u] (getItem (.ref l) (.int k u)) := by with_unfolding_all rfl) :
    wpAny (model prog w) A (subscriptTail value slice (.ref l) (.int k u)) Q E s :=
  have hl : s.heap.IsList l its := ⟨_, (N _ hm).1, rfl, e, rfl⟩
  tail_any hl.typeIs slot_list_getitem.lookup (wpAny_getItem_list hl h0 hhi hx h) hs
theorem item_l3_0 {prog : Program} {w : World} {A : Around} {E : Value → Shared → Prop} {s : Shared} {value slice : PySem.Expr} {h₀ : Heap} {L l : Addr} {news : List (Addr × Obj)} {a b c : Value} {e : Nat} {k : Int} {u : Tok} {Q : Value → Shared → Prop}
    (N : News h₀ L s.heap news) (hm : (l, listOf #[a, b, c] e) ∈ news) (hk : k = 0) (h : Q a s)
    (hs : subscripted slice false (.ref l) (.int k u) = operate [.ref l, .int k u] (getItem (.ref l) (.int k u)) := by with_unfolding_all rfl) :
    wpAny (model prog w) A (subscriptTail value slice (.ref l) (.int k u)) Q E s := item_l3 N hm (by subst hk; decide) (by subst hk; decide) (by subst hk; rfl) h hs
theorem item_l3_1 {prog : Program} {w : World} {A : Around} {E : Value → Shared → Prop} {s : Shared} {value slice : PySem.Expr} {h₀ : Heap} {L l : Addr} {news : List (Addr × Obj)} {a b c : Value} {e : Nat} {k : Int} {u : Tok} {Q : Value → Shared → Prop}
    (N : News h₀ L s.heap news) (hm : (l, listOf #[a, b, c] e) ∈ news) (hk : k = 1) (h : Q b s)
    (hs : subscripted slice false (.ref l) (.int k u) = operate [.ref l, .int k u] (getItem (.ref l) (.int k u)) := by with_unfolding_all rfl) :
    wpAny (model prog w) A (subscriptTail value slice (.ref l) (.int k u)) Q E s := item_l3 N hm (by subst hk; decide) (by subst hk; decide) (by subst hk; rfl) h hs
theorem item_l3_2 {prog : Program} {w : World} {A : Around} {E : Value → Shared → Prop} {s : Shared} {value slice : PySem.Expr} {h₀ : Heap} {L l : Addr} {news : List (Addr × Obj)} {a b c : Value} {e : Nat} {k : Int} {u : Tok} {Q : Value → Shared → Prop}
    (N : News h₀ L s.heap news) (hm : (l, listOf #[a, b, c] e) ∈ news) (hk : k = 2) (h : Q c s)
    (hs : subscripted slice false (.ref l) (.int k u) = operate [.ref l, .int k u] (getItem (.ref l) (.int k u)) := by with_unfolding_all rfl) :
    wpAny (model prog w) A (subscriptTail value slice (.ref l) (.int k u)) Q E s := item_l3 N hm (by subst hk; decide) (by subst hk; decide) (by subst hk; rfl) h hs
/-- 16 * x - low - part -/
noncomputable def offF (x : UInt64) (lw r : Int) : UInt64 := Float64.sub (Float64.sub (Float64.mul (Float64.ofInt 16) x) (Float64.ofInt lw)) (Float64.ofInt r)
end Mine
end PartSh0
section PartCWi
open PySem PySem.W PyProof.Rows PySem.Calls
set_option maxRecDepth 100000
set_option maxHeartbeats 8000000
namespace Mine
local macro_rules | `(tactic| walk_at "subscriptTail Name Name ref int") => `(tactic| (k_here; (with_reducible show wpAny _ _ (subscriptTail _ _ (Value.ref _) (Value.int _ _)) _ _ _); first | (with_unfolding_all refine' item_l3_0 ?k1 ?k2 ?k3 ?_ ?k6; (case k3 => decide); (case k1 => k_asm); (case k2 => k_mem); (case k6 => with_unfolding_all rfl); k_whole) | (with_unfolding_all refine' item_l3_1 ?k1 ?k2 ?k3 ?_ ?k6; (case k3 => decide); (case k1 => k_asm); (case k2 => k_mem); (case k6 => with_unfolding_all rfl); k_whole) | (with_unfolding_all refine' item_l3_2 ?k1 ?k2 ?k3 ?_ ?k6; (case k3 => decide); (case k1 => k_asm); (case k2 => k_mem); (case k6 => with_unfolding_all rfl); k_whole)))

theorem shown_ctr (w : World) (r g b n lw wy : Int) (t1 t2 t3 t4 t5 t6 : Tok) (l : Addr) (e : Nat) (Hu Sh V Lg D x1 x2 x3 y1 y2 y3 : UInt64)
    (hn : 1 ≤ n ∧ n ≤ 4) (hlw : 0 ≤ lw ∧ lw ≤ 11) (hwy : 0 ≤ wy ∧ wy ≤ 100) (hr : 0 ≤ r ∧ r ≤ n) (hg : 0 ≤ g ∧ g ≤ n) (hb : 0 ≤ b ∧ b ≤ n)
    (hHu : frF wy (6 * n) = Hu) (hD : frF n (if 32 - 2 * lw - n < 2 * lw + n then 32 - 2 * lw - n else 2 * lw + n) = D) (hLg : frF (2 * lw + n) 32 = Lg) (hSh : frF n (lw + n) = Sh) (hV : frF (lw + n) 16 = V)
    (zSh : (Float64.cmp Sh 0 == some Ordering.eq) = false) (zD : (Float64.cmp D 0 == some Ordering.eq) = false) (hfi : Float64.isFinite (Float64.mul Hu 4618441417868443648) = true) (hhi : (hiF Hu).natAbs < 1000)
    (e1 : hsvR Hu Sh V = x1) (e2 : hsvG Hu Sh V = x2) (e3 : hsvB Hu Sh V = x3)
    (f1 : vF (m1F Lg D) (m2F Lg D) (Float64.add Hu 4599676419421066581) = y1) (f2 : vF (m1F Lg D) (m2F Lg D) Hu = y2) (f3 : vF (m1F Lg D) (m2F Lg D) (Float64.sub Hu 4599676419421066581) = y3)
    (c1 : farF (offF x1 lw r) = false) (c2 : farF (offF x2 lw g) = false) (c3 : farF (offF x3 lw b) = false)
    (d1 : farF (offF y1 lw r) = false) (d2 : farF (offF y2 lw g) = false) (d3 : farF (offF y3 lw b) = false) :
    Ctr w 3 24 146 [.int wy t6, .ref l, .int lw t5, .int n t4] [(l, listOf #[.int r t1, .int g t2, .int b t3] e)] (PBool true) := by
  unfold farF offF at c1 c2 c3 d1 d2 d3
  intro mean mg mb dp un gd cn cs a ccd cl outer A₀ base h₀ L m s Q E B F X N T hk hdp hun ret
  refine wpAny_call ?_
  k_dflt (refine' code_defE ?k1 ?k2 ?k3 ?k4 ?k5 ?kA ?kF ?kK ?k6 ?k7 ?k8 ?k9 ?kB ?_ ?c2 ?c3 ?c4 ?c5; (case kA => exact rfl); (case kF => exact rfl); (case kK => assumption); (case k1 => k_asm); (case k2 => k_asm); (case k3 => k_asm); (case k4 => k_asm); (case k5 => k_asm); (case k6 => k_is); (case k7 => k_is); (case k8 => ktr_room); (case k9 => exact BindsTo.of_eq rfl); (case c5 => decide); (case kB => exact locs rfl); (case c2 => exact rfl); (case c3 => exact rfl); (case c4 => exact rfl); k_whole)
  intro g1 L1 h1 S1 FG1 F1 N1 B1 X1 T1
  clear F N FG1
  (try dsimp only)
  (try k_lift B1)
  (try k_fold)
  repeat' (first | ((with_reducible show wpAny _ _ (call (Value.ref 35) _) _ _ _); k_dflt (refine' use_tup3 (hlsrgb_ctr' _ (by with_reducible assumption) (by with_reducible assumption) (by with_reducible assumption) (by with_reducible assumption)) ?k1 ?k2 ?k3 ?k4 ?k5 ?kK ?kN ?kd ?ku ?_; (case k1 => k_asm); (case k2 => k_asm); (case k3 => k_asm); (case k4 => k_asm); (case k5 => k_asm); (case kK => first | exact rfl | assumption); (case kN => simp); (case kd => ktr_room); (case ku => ktr_units); k_whole); intro p9 s9 t9 u9 h9 tk9 F9 N9 l9; (clear l9); (try dsimp only); (try k_fold)) | ((with_reducible show wpAny _ _ (call (Value.ref 56) _) _ _ _); k_dflt (refine' use_tup3 (rgb_ctr' _ (by with_reducible assumption) (by with_reducible assumption) (by with_reducible assumption) (by with_reducible assumption) (by with_reducible assumption) (by with_reducible assumption)) ?k1 ?k2 ?k3 ?k4 ?k5 ?kK ?kN ?kd ?ku ?_; (case k1 => k_asm); (case k2 => k_asm); (case k3 => k_asm); (case k4 => k_asm); (case k5 => k_asm); (case kK => first | exact rfl | assumption); (case kN => simp); (case kd => ktr_room); (case ku => ktr_units); k_whole); intro p9 s9 t9 u9 h9 tk9 F9 N9 l9; (clear l9); (try dsimp only); (try k_fold)) | ((with_reducible show wpAny _ _ (execs _ _) _ _ { heap := _, gens := _, drawn := _, toks := _ + 1, os := _ }); refine gen_toks ?_; intro tkp htkp) | ((with_reducible show wpAny _ _ (binaryOp Operator.Div (Value.int _ _) (Value.int _ _)) _ _ _); k_dflt (refine div_ii_is rfl (by with_reducible assumption) (by omega) (by omega) ?_); try dsimp only) | (k_unfold; (try dsimp only)) | (k_end; wrow_close) | walk1 | (dsimp only; walk1) | (leave1; walk_say "STEP leave1"; try dsimp only) | fail "no step")
  all_goals first
    | (refine end_bool ret S1 (by assumption) (by assumption) (by intro q hq; simp at hq; subst hq; k_mem) ?_; rfl)
    | trace_state
end Mine
end PartCWi
section PartWheel
open PySem PySem.W PyProof.Rows PySem.Calls
set_option maxRecDepth 100000
set_option maxHeartbeats 8000000
namespace Mine
/-- the wheel's parts at place q, 0 ≤ q < 6 n -/
noncomputable def rQ (n q : Nat) : Nat := if q < n then n else if q < 2 * n then 2 * n - q else if q < 4 * n then 0 else if q < 5 * n then q - 4 * n else n
noncomputable def gQ (n q : Nat) : Nat := if q < n then q else if q < 3 * n then n else if q < 4 * n then 4 * n - q else 0
noncomputable def bQ (n q : Nat) : Nat := if q < 2 * n then 0 else if q < 3 * n then q - 2 * n else if q < 5 * n then n else 6 * n - q
noncomputable abbrev rW (n W : Nat) : Nat := rQ n (W % (6 * n))
noncomputable abbrev gW (n W : Nat) : Nat := gQ n (W % (6 * n))
noncomputable abbrev bW (n W : Nat) : Nat := bQ n (W % (6 * n))
noncomputable def nxQ (n q : Nat) : Nat := if q + 1 = 6 * n then 0 else q + 1
set_option synthInstance.maxSize 100000 in
set_option synthInstance.maxHeartbeats 1000000 in
theorem wheelQ : ∀ n < 5, 1 ≤ n → ∀ q < 6 * n,
    (bQ n q = 0 ∧ rQ n q = n ∧ gQ n q < n ∧ rQ n (nxQ n q) = rQ n q ∧ gQ n (nxQ n q) = gQ n q + 1 ∧ bQ n (nxQ n q) = bQ n q) ∨
    (bQ n q = 0 ∧ gQ n q = n ∧ 0 < rQ n q ∧ rQ n q ≤ n ∧ rQ n (nxQ n q) + 1 = rQ n q ∧ gQ n (nxQ n q) = gQ n q ∧ bQ n (nxQ n q) = bQ n q) ∨
    (rQ n q = 0 ∧ gQ n q = n ∧ bQ n q < n ∧ rQ n (nxQ n q) = rQ n q ∧ gQ n (nxQ n q) = gQ n q ∧ bQ n (nxQ n q) = bQ n q + 1) ∨
    (rQ n q = 0 ∧ bQ n q = n ∧ 0 < gQ n q ∧ gQ n q ≤ n ∧ rQ n (nxQ n q) = rQ n q ∧ gQ n (nxQ n q) + 1 = gQ n q ∧ bQ n (nxQ n q) = bQ n q) ∨
    (gQ n q = 0 ∧ bQ n q = n ∧ rQ n q < n ∧ rQ n (nxQ n q) = rQ n q + 1 ∧ gQ n (nxQ n q) = gQ n q ∧ bQ n (nxQ n q) = bQ n q) ∨
    (gQ n q = 0 ∧ rQ n q = n ∧ 0 < bQ n q ∧ bQ n q ≤ n ∧ rQ n (nxQ n q) = rQ n q ∧ gQ n (nxQ n q) = gQ n q ∧ bQ n (nxQ n q) + 1 = bQ n q) := by decide
theorem nxW {n W : Nat} (hn : 1 ≤ n) : (W + 1) % (6 * n) = nxQ n (W % (6 * n)) := by
  unfold nxQ
  have h6 : 0 < 6 * n := by omega
  have hlt := Nat.mod_lt W h6
  have e : (W + 1) % (6 * n) = (W % (6 * n) + 1) % (6 * n) := by rw [Nat.mod_add_mod]
  rw [e]
  split
  · rename_i h; rw [h, Nat.mod_self]
  · exact Nat.mod_eq_of_lt (by omega)
theorem PList3.of {x y z x' y' z' : Int} (e1 : x' = x) (e2 : y' = y) (e3 : z' = z) : PList3 x' y' z' = PList3 x y z := by rw [e1, e2, e3]
theorem step_ctr (w : World) (n W : Nat) (t1 t2 t3 t4 : Tok) (l : Addr) (e : Nat) (hn : 1 ≤ n ∧ n ≤ 4) :
    Ctr w 1 8 129 [.ref l, .int n t4] [(l, listOf #[.int (rW n W) t1, .int (gW n W) t2, .int (bW n W) t3] e)] (PList3 (rW n (W + 1)) (gW n (W + 1)) (bW n (W + 1))) := by
  have h6 : 0 < 6 * n := by omega
  have hq := wheelQ n (by omega) hn.1 (W % (6 * n)) (Nat.mod_lt W h6)
  rw [← nxW hn.1] at hq
  show Ctr w 1 8 129 [.ref l, .int n t4] [(l, listOf #[.int (rQ n (W % (6 * n)) : Nat) t1, .int (gQ n (W % (6 * n)) : Nat) t2, .int (bQ n (W % (6 * n)) : Nat) t3] e)] (PList3 (rQ n ((W + 1) % (6 * n)) : Nat) (gQ n ((W + 1) % (6 * n)) : Nat) (bQ n ((W + 1) % (6 * n)) : Nat))
  generalize rQ n (W % (6 * n)) = r at *
  generalize gQ n (W % (6 * n)) = g at *
  generalize bQ n (W % (6 * n)) = b at *
  generalize rQ n ((W + 1) % (6 * n)) = r' at *
  generalize gQ n ((W + 1) % (6 * n)) = g' at *
  generalize bQ n ((W + 1) % (6 * n)) = b' at *
  have hn' : (1 : Int) ≤ (n : Int) := by omega
  rcases hq with hq | hq | hq | hq | hq | hq
  · rw [← PList3.of (x' := (r : Int)) (y' := (g : Int) + 1) (z' := (b : Int)) (by omega) (by omega) (by omega)]
    exact step0_ctr w _ _ _ _ t1 t2 t3 t4 l e hn' ⟨by omega, by omega, by omega, by omega⟩
  · rw [← PList3.of (x' := (r : Int) - 1) (y' := (g : Int)) (z' := (b : Int)) (by omega) (by omega) (by omega)]
    exact step1_ctr w _ _ _ _ t1 t2 t3 t4 l e hn' ⟨by omega, by omega, by omega, by omega⟩
  · rw [← PList3.of (x' := (r : Int)) (y' := (g : Int)) (z' := (b : Int) + 1) (by omega) (by omega) (by omega)]
    exact step2_ctr w _ _ _ _ t1 t2 t3 t4 l e hn' ⟨by omega, by omega, by omega, by omega⟩
  · rw [← PList3.of (x' := (r : Int)) (y' := (g : Int) - 1) (z' := (b : Int)) (by omega) (by omega) (by omega)]
    exact step3_ctr w _ _ _ _ t1 t2 t3 t4 l e hn' ⟨by omega, by omega, by omega, by omega⟩
  · rw [← PList3.of (x' := (r : Int) + 1) (y' := (g : Int)) (z' := (b : Int)) (by omega) (by omega) (by omega)]
    exact step4_ctr w _ _ _ _ t1 t2 t3 t4 l e hn' ⟨by omega, by omega, by omega, by omega⟩
  · rw [← PList3.of (x' := (r : Int)) (y' := (g : Int)) (z' := (b : Int) - 1) (by omega) (by omega) (by omega)]
    exact step5_ctr w _ _ _ _ t1 t2 t3 t4 l e hn' ⟨by omega, by omega, by omega, by omega⟩
end Mine
end PartWheel
section PartEn0
open PySem PySem.W PyProof.Rows PySem.Calls
set_option maxRecDepth 100000
set_option maxHeartbeats 8000000
namespace Mine
/-- a goal that the walk leaves alone -/
noncomputable def Hold (P : Prop) : Prop := P
theorem hold {P : Prop} (h : Hold P) : P := h
theorem Hold.of {P : Prop} (h : P) : Hold P := h
end Mine
end PartEn0
section PartEn1
open PySem PySem.W PyProof.Rows PySem.Calls PyProof.Rows.LCg
set_option maxRecDepth 100000
set_option maxHeartbeats 8000000
namespace Mine
noncomputable def TupIn (ax : Addr) (its : Array Value) (news : List (Addr × Obj)) : Prop := (ax, ({ cls := .type "tuple", data := .seq its } : Obj)) ∈ news
section
variable {prog : Program} {w : World} {A : Around} {E : Value → Shared → Prop} {s : Shared} {h₀ : Heap} {L : Addr} {m : Str → Option Value} {env : Env} {news : List (Addr × Obj)}
/-- name = [elt for x in a tuple of the ledger] -/
theorem asg_comp_tup {elt iter : PySem.Expr} {x y : Str} {px py : Pos} {scope : Scope} {cl : List (Str × Addr)} {pos spos : Pos} {Q : Flow → Shared → Prop} {ax : Addr} {its : Array Value} (F : Fr h₀ L s.heap m) (N : News h₀ L s.heap news) (hm : TupIn ax its news) (hh : A.handled = none) (hsz : its.size ≤ sizeLine) (hLe : env.locals = L)
    (hsw : swapsWith (.ListComp elt [⟨.Name x px, iter, [], 0⟩] scope pos) (some (.Name y py)) spos.line env = pure true)
    (hclos : closureFor scope env = pure cl) (hcell : ∀ z ∈ scope.names, z.2 ≠ .cell) (hkind : scope.kind = .function)
    (hnames : ∀ z ∈ scope.names, z.2 = .local → scope.names.lookup z.1 = some .local) (hx : scope.names.lookup x = some .local)
    (hy : env.kindOf y = some .local) (hp : (env.scope.kind == .class || (env.scope.kind == .module && env.locals != env.globals)) = false)
    (hit : ∀ Q' : Value → Shared → Prop, Q' (.ref ax) s → wpAny (model prog w) A (eval iter env) Q' E s)
    (hs : ∀ x, foldedSetIterable iter env x = pure x)
    (R : ∀ g, CompRest prog w A h₀ L m env elt x scope cl { s with heap := g } (TupIn ax its) (fun i v => its[i]? = some v) (FinA h₀ L m { s with heap := g } y Q) its.size 0 [] news) :
    wpAny (model prog w) A (exec (.Assign [.Name y py] (.ListComp elt [⟨.Name x px, iter, [], 0⟩] scope pos) spos) env) Q E s := by
  subst hLe
  rw [exec_Assign_Name_used _ _ _ _ hsw]
  refine wpAny_bind (wpAny_standAt (wpAny_bind ?_))
  show wpAny _ A (do let _ ← comprehension (.ListComp elt [⟨.Name x px, iter, [], 0⟩] scope pos) scope env _ (newList []) false (eval iter env) (some (assign (.Name y py) env))) _ _ s
  refine wpAny_bind (wpAny_mono (wpAny_comprehension_free (use := some (assign (.Name y py) env)) (Q := fun _ s' => Q .next s') rfl hs hclos hkind hnames (hit _ ?_)) (fun _ s' hq => wpAny_pure (wpAny_pure hq)) fun _ _ e => e)
  have hl : s.heap.IsTuple ax its := ⟨_, (N _ hm).1, rfl, 0, rfl⟩
  have hlt : ax < s.heap.objs.size := Heap.lt_size (N _ hm).1
  refine wpAny_pyIter_tuple hl ?_
  have up : ∀ b o, s.heap.get? b = some o → (s.heap.push { cls := .type "tuple_iterator", data := .fields #[.ref ax, .int 0 0] }).get? b = some o := fun b o e => Heap.get?_push_of_some _ e
  refine block_U (S := TupIn ax its) (Walks.tuple hh s.heap.objs.size ax (Nat.ne_of_lt hlt) its) hsz (fun i h st => by obtain ⟨o, e, _⟩ := st.1; exact ⟨o, e⟩)
    (fun i h h' o nw st e e' k N' S' => ⟨by obtain ⟨o', q, r⟩ := st.1; rw [e] at q; cases q; exact ⟨o, e', r⟩, ⟨_, (N' _ S').1, rfl, 0, rfl⟩⟩) hcell hkind hx ⟨⟨_, Heap.get?_push_size _ rfl, rfl, rfl⟩, hl.push _⟩ (fun b hb => ?_)
    (F.keeps up) (N.grown up) (Nat.ne_of_lt F.ns.lt) (next_is_new F) (fun p hp => Nat.ne_of_lt (Heap.lt_size (N p hp).1)) hm (R _) ?_
  · show b < (s.heap.push _).objs.size
    rw [Heap.size_push]
    rcases List.mem_cons.mp hb with rfl | hb
    · exact Nat.lt_succ_self _
    · rw [List.mem_singleton.mp hb]; exact Nat.lt_succ_of_lt hlt
  · intro D C h' tk m' ys news' F' N' o1 hn hC₀ hD₀ hCL hDL hCD offC fin
    show wpAny _ A (assign (.Name y py) env (.ref D)) _ _ _
    refine wpAny_assign_Name (wpAny_storeName_local hy F'.ns (fun h₂ hn₂ hs₂ => ?_) hp)
    have hL₀ : h₀.get? env.locals = none := Heap.get?_none_of_le F'.above
    have F₂ : Fr h₀ env.locals h₂ (fun z => if z = y then some (.ref D) else m z) := ⟨hn₂, fun b o e => hs₂.extBut b o (fun q => by rw [q, hL₀] at e; cases e) (F'.keep b o e), F'.above⟩
    refine ⟨m', hn.sameBut hs₂ hCL, fun h'' hs'' => fin D h'' _ (F₂.change hs'' hCL hC₀) (fun p hp => ?_) o1⟩
    have z : h₂.get? p.1 = some p.2 := hs₂.extBut _ _ (N' p hp).2.1 (N' p hp).1
    refine ⟨hs''.extBut _ _ ?_ z, (N' p hp).2⟩
    rcases List.mem_cons.mp hp with rfl | hp
    · exact Ne.symm hCD
    · exact offC p hp
end
end Mine
end PartEn1
section PartEn2
open PySem PySem.W PyProof.Rows PySem.Calls PyProof.Rows.LCg
set_option maxRecDepth 100000
set_option maxHeartbeats 8000000
namespace Mine
noncomputable def CornerIs (st : Nat) (c0 c1 c2 : Int) : Prop := ∀ n : Nat, 1 ≤ n → n ≤ 4 → (n : Int) * c0 = rW n (st * n) ∧ (n : Int) * c1 = gW n (st * n) ∧ (n : Int) * c2 = bW n (st * n)
theorem corner_of {st : Nat} {c0 c1 c2 : Int} (h : ∀ n < 5, 1 ≤ n → ((n : Nat) : Int) * c0 = rW n (st * n) ∧ (n : Int) * c1 = gW n (st * n) ∧ (n : Int) * c2 = bW n (st * n)) : CornerIs st c0 c1 c2 := fun n a b => h n (by omega) a
section
variable {prog : Program} {w : World} {A : Around} {E : Value → Shared → Prop} {s : Shared} {h₀ : Heap} {L : Addr} {news : List (Addr × Obj)}
theorem pick6 {value slice : PySem.Expr} {Q : Value → Shared → Prop} {l d0 d1 d2 d3 d4 d5 : Addr} {e st : Nat} {u a0 b0 e0 a1 b1 e1 a2 b2 e2 a3 b3 e3 a4 b4 e4 a5 b5 e5 : Tok} (hst : st < 6)
    (N : News h₀ L s.heap news) (hl : (l, listOf #[.ref d0, .ref d1, .ref d2, .ref d3, .ref d4, .ref d5] e) ∈ news)
    (h0 : (d0, tupOf [.int 1 a0, .int 0 b0, .int 0 e0]) ∈ news) (h1 : (d1, tupOf [.int 1 a1, .int 1 b1, .int 0 e1]) ∈ news) (h2 : (d2, tupOf [.int 0 a2, .int 1 b2, .int 0 e2]) ∈ news)
    (h3 : (d3, tupOf [.int 0 a3, .int 1 b3, .int 1 e3]) ∈ news) (h4 : (d4, tupOf [.int 0 a4, .int 0 b4, .int 1 e4]) ∈ news) (h5 : (d5, tupOf [.int 1 a5, .int 0 b5, .int 1 e5]) ∈ news)
    {ka : Addr} {ko : Obj} {cv : Option Value} (hkd : ko.data = .cell cv) (hk : (ka, ko) ∈ news)
    (h : ∀ D c0 c1 c2 u0 u1 u2, News h₀ L s.heap [(D, tupOf [.int c0 u0, .int c1 u1, .int c2 u2]), (ka, ko)] → CornerIs st c0 c1 c2 → (0 ≤ c0 ∧ c0 ≤ 1) → (0 ≤ c1 ∧ c1 ≤ 1) → (0 ≤ c2 ∧ c2 ≤ 1) → Q (.ref D) s)
    (hs : subscripted slice false (.ref l) (.int st u) = operate [.ref l, .int st u] (getItem (.ref l) (.int st u)) := by with_unfolding_all rfl) :
    wpAny (model prog w) A (subscriptTail value slice (.ref l) (.int st u)) Q E s := by
  have one : ∀ p, p ∈ news → News h₀ L s.heap [p, (ka, ko)] := fun p hp q hq => by
    rcases List.mem_cons.mp hq with rfl | hq
    · exact N _ hp
    · rw [List.mem_singleton.mp hq]; exact N _ hk
  have hl' : s.heap.IsList l #[.ref d0, .ref d1, .ref d2, .ref d3, .ref d4, .ref d5] := ⟨_, (N _ hl).1, rfl, e, rfl⟩
  have key : ∀ v, (#[Value.ref d0, .ref d1, .ref d2, .ref d3, .ref d4, .ref d5] : Array Value)[((st : Int)).toNat]? = some v → Q v s → wpAny (model prog w) A (subscriptTail value slice (.ref l) (.int st u)) Q E s := fun v hv hq =>
    tail_any hl'.typeIs slot_list_getitem.lookup (wpAny_getItem_list hl' (by omega) (by omega) hv hq) hs
  match st, hst with
  | 0, _ => exact key _ rfl (h _ _ _ _ _ _ _ (one _ h0) (corner_of (by decide)) (by decide) (by decide) (by decide))
  | 1, _ => exact key _ rfl (h _ _ _ _ _ _ _ (one _ h1) (corner_of (by decide)) (by decide) (by decide) (by decide))
  | 2, _ => exact key _ rfl (h _ _ _ _ _ _ _ (one _ h2) (corner_of (by decide)) (by decide) (by decide) (by decide))
  | 3, _ => exact key _ rfl (h _ _ _ _ _ _ _ (one _ h3) (corner_of (by decide)) (by decide) (by decide) (by decide))
  | 4, _ => exact key _ rfl (h _ _ _ _ _ _ _ (one _ h4) (corner_of (by decide)) (by decide) (by decide) (by decide))
  | 5, _ => exact key _ rfl (h _ _ _ _ _ _ _ (one _ h5) (corner_of (by decide)) (by decide) (by decide) (by decide))
theorem mul_small {a b : Int} {t u : Tok} {Q : Value → Shared → Prop} (ha : -1000 ≤ a ∧ a ≤ 1000) (h : Q (.int (a * b) s.toks) { s with toks := s.toks + 1 }) : wpAny (model prog w) A (binaryOp .Mult (.int a t) (.int b u)) Q E s :=
  PyProof.Rows.mul_int h (IntMulOk.of_left (intBits_le_64 (by omega) (by omega)))
end
end Mine
end PartEn2
section PartEn3
open PySem PySem.W PyProof.Rows PySem.Calls PyProof.Rows.LCg
set_option maxRecDepth 100000
set_option maxHeartbeats 8000000
namespace Mine
section
variable {prog : Program} {w : World} {A : Around} {E : Value → Shared → Prop} {s : Shared} {env : Env} {h₀ : Heap} {x : Str} {body : List Stmt} {Q : Flow → Shared → Prop}
/-- a turn's end: the iterator and the ledger stand -/
noncomputable def TurnEnd (h₀ : Heap) (L : Addr) (J : (Str → Option Value) → List (Addr × Obj) → Prop) (I : Addr) (oI : Obj) (s₁ : Shared) (Q : Flow → Shared → Prop) (f : Flow) (s₂ : Shared) : Prop :=
  match f with
  | .ret v => Q (.ret v) s₂
  | .brk => Q .next s₂
  | _ => ∃ h' tk m' news', s₂ = { s₁ with heap := h', toks := tk } ∧ Fr h₀ L h' m' ∧ News h₀ L h' ((I, oI) :: news') ∧ (∀ p ∈ news', @Ne Nat p.1 I) ∧ J m' news'
/-- a loop over a list that stood ahead of the call, by what holds of the names and of the ledger -/
theorem iterJ {l : Addr} {vs : List Value} {m₀ : Str → Option Value} {news : List (Addr × Obj)} (J : Nat → (Str → Option Value) → List (Addr × Obj) → Prop)
    (hh : A.handled = none) (hl : h₀.IsList l vs.toArray) (F : Fr h₀ env.locals s.heap m₀) (N : News h₀ env.locals s.heap news) (hj : J 0 m₀ news)
    (turn : ∀ i v m₁ news₁ h tk I oI, vs[i]? = some v → J i m₁ news₁ → (∀ p ∈ news₁, @Ne Nat p.1 I) → Fr h₀ env.locals h (fun y => if y = x then some v else m₁ y) → News h₀ env.locals h ((I, oI) :: news₁) →
      wpAny (model prog w) A (execs body env) (TurnEnd h₀ env.locals (J (i + 1)) I oI { s with heap := h, toks := tk } Q) E { s with heap := h, toks := tk })
    (done : ∀ m₁ news₁ h tk, J vs.length m₁ news₁ → Fr h₀ env.locals h m₁ → News h₀ env.locals h news₁ → Q .next { s with heap := h, toks := tk }) :
    wpAny (model prog w) A (pyIter (.ref l)) (fun it s₂ => LoopAtV prog w A h₀ env x body Q E it s₂) E s := by
  have hls : s.heap.IsList l vs.toArray := hl.at fun o e => F.keep l o e
  obtain ⟨ol, hol, _⟩ := id hl
  have hlt : l < h₀.objs.size := Heap.lt_size hol
  have hne : l ≠ s.heap.objs.size := Nat.ne_of_lt (Nat.lt_trans (Nat.lt_of_lt_of_le hlt F.above) F.ns.lt)
  refine wpAny_pyIter_list hls ?_
  have W := Walks.list (prog := prog) (w := w) hh s.heap.objs.size l hne vs.toArray
  have hlen : vs.toArray.size = vs.length := by simp
  rw [hlen] at W
  refine ⟨_, _, _, vs.length, _, _, m₀, news, J, rfl, W, ?_, ?_, ?_, ⟨⟨_, Heap.get?_push_size _ rfl, rfl, rfl⟩, hls.at fun o e => Heap.get?_push_of_some _ e⟩, F.push _, (fun p hp => ⟨Heap.get?_push_of_some _ (N p hp).1, (N p hp).2⟩), hj, ?_, ?_⟩
  · intro hm
    rcases List.mem_cons.mp hm with e | hm
    · exact absurd F.ns.lt (e ▸ Nat.lt_irrefl _)
    · exact absurd (Nat.lt_of_lt_of_le hlt F.above) ((List.mem_singleton.mp hm) ▸ Nat.lt_irrefl _)
  · intro b hb
    rw [List.mem_singleton.mp hb]
    exact next_is_new F
  · intro p hp hI
    exact absurd (Heap.lt_size (N p hp).1) ((List.mem_singleton.mp hI) ▸ Nat.lt_irrefl _)
  · rintro i v m₁ news₁ s₁ own ⟨hh', tk', rfl⟩ hin hP hJ hoff hown hat hall hst F₁ N₁
    obtain ⟨⟨oI, heI, _⟩, _⟩ := hst
    have hI₀ : h₀.get? s.heap.objs.size = none := next_is_new F
    have mI := hall s.heap.objs.size (by simp) hI₀ oI heI
    have NI : News h₀ env.locals hh' ((s.heap.objs.size, oI) :: news₁) := fun p hp => by
      rcases List.mem_cons.mp hp with rfl | hp
      · exact N₁ _ (List.mem_append_left _ mI)
      · exact N₁ p (List.mem_append_right _ hp)
    refine wpAny_mono (turn i v m₁ news₁ hh' tk' s.heap.objs.size oI (by simpa using hP) hJ (fun p hp e => hoff p hp (by rw [List.mem_singleton]; exact e)) F₁ NI) (fun f s₂ p => ?_) fun _ _ e => e
    have fin : (∃ h' tk m' news', s₂ = { s with heap := h', toks := tk } ∧ Fr h₀ env.locals h' m' ∧ News h₀ env.locals h' ((s.heap.objs.size, oI) :: news') ∧ (∀ p ∈ news', @Ne Nat p.1 s.heap.objs.size) ∧ J (i + 1) m' news') →
        LoopStepU h₀ env.locals [s.heap.objs.size] own (J (i + 1)) { s with heap := hh', toks := tk' } .next s₂ := by
      rintro ⟨h', tk, m', news', e, F', N', hn, hm⟩
      refine ⟨rfl, h', tk, m', news', e, F', fun p hp => ?_, fun p hp hq => hn p hp (List.mem_singleton.mp hq), hm⟩
      rcases List.mem_append.mp hp with hp | hp
      · have h1 := (N₁ p (List.mem_append_left _ hp))
        rcases List.mem_cons.mp (hown p hp) with q | q
        · have e2 : p.2 = oI := by have := hat p hp; rw [q] at this; exact Option.some.inj (this.symm.trans heI)
          have := N' (s.heap.objs.size, oI) (List.mem_cons_self)
          have e3 : p = (s.heap.objs.size, oI) := Prod.ext q e2
          rw [e3]; exact this
        · have h2 := List.mem_singleton.mp q
          have h3 := h1.2.2
          rw [h2, hol] at h3
          cases h3
      · exact N' p (List.mem_cons_of_mem _ hp)
    cases f with
    | ret v => exact .ret p
    | brk => exact .brk p
    | next => exact .next (fin p)
    | cont => exact .cont (fin p)
  · rintro h' tk m' news' F' N' _ hJ
    exact done m' news' h' tk hJ F' N'
end
end Mine
end PartEn3
section PartEn4
open PySem PySem.W PyProof.Rows PySem.Calls PyProof.Rows.LCg
set_option maxRecDepth 100000
set_option maxHeartbeats 8000000
namespace Mine
section
variable {prog : Program} {w : World} {A : Around} {E : Value → Shared → Prop} {s : Shared} {h₀ : Heap} {L e z : Addr} {news : List (Addr × Obj)} {its : Array Value} {ep : Nat} {Q : Value → Shared → Prop}
theorem ne_nil_pos (N : News h₀ L s.heap news) (h1 : (e, listOf its ep) ∈ news) (h2 : (z, listOf #[] 0) ∈ news) (hs : its.size ≠ 0) (hu : A.units < cLine) (h : Q (.bool true) s) :
    wpAny (model prog w) A (compareOp .NotEq (.ref e) (.ref z)) Q E s :=
  SeqAt.RcNeAt.lists_lengths (l := e) (b := z) (items := its) (items2 := #[]) ⟨_, (N _ h1).1, rfl, ep, rfl⟩ ⟨_, (N _ h2).1, rfl, 0, rfl⟩ (by simpa using hs) hu prog w E Q h
theorem ne_nil_zero (N : News h₀ L s.heap news) (h1 : (e, listOf its ep) ∈ news) (h2 : (z, listOf #[] 0) ∈ news) (hs : its.size = 0) (hu : A.units < cLine) (h : Q (.bool false) s) :
    wpAny (model prog w) A (compareOp .NotEq (.ref e) (.ref z)) Q E s := by
  have r := SeqAt.RcNeAt.lists (A := A) (s := s) (l := e) (b := z) (items := its) (items2 := #[]) (e := fun _ => true) ⟨_, (N _ h1).1, rfl, ep, rfl⟩ ⟨_, (N _ h2).1, rfl, 0, rfl⟩ (by simpa using hs) hu (fun j a _ => absurd a (by omega))
  exact r prog w E Q (by rw [hs]; exact h)
end
/-- the walker's way behind i rows -/
noncomputable def wA (n st : Nat) (bs : List Nat) : Nat → Nat
  | 0 => st * n
  | i + 1 => (if i = 0 then st * n else (wA n st bs i / n + 1) * n) + bs.getD i 0
noncomputable abbrev ab3 (n W : Nat) (t1 t2 t3 : Tok) : Array Value := #[.int (rW n W) t1, .int (gW n W) t2, .int (bW n W) t3]
/-- an entry of ends -/
noncomputable def Entry (n W : Nat) (v : Option Value) (news : List (Addr × Obj)) : Prop :=
  ∃ p l t t1 t2 t3 el, v = some (.ref p) ∧ (p, tupOf [.int ((W / (6 * n) : Nat) : Int) t, .ref l]) ∈ news ∧ (l, listOf (ab3 n W t1 t2 t3) el) ∈ news
theorem Entry.mono {n W : Nat} {v : Option Value} {news news' : List (Addr × Obj)} (h : Entry n W v news) (hs : ∀ p ∈ news, p ∈ news') : Entry n W v news' := by
  obtain ⟨p, l, t, t1, t2, t3, el, a, b, c⟩ := h
  exact ⟨p, l, t, t1, t2, t3, el, a, hs _ b, hs _ c⟩
/-- what holds in the midst of a turn of _law_ends: the walker stands at W, T turns are told -/
noncomputable def MidJ (n W T : Nat) (c : Addr × Obj) (e : Addr) (items : List Value) (ep : Nat) (keep : List (Addr × Obj)) (m : Str → Option Value) (news : List (Addr × Obj)) : Prop :=
  ∃ la ea t1 t2 t3 tt rest, (∀ p ∈ rest, @Ne Nat p.1 e) ∧ @Ne Nat la e ∧ @Ne Nat c.1 e ∧ m (Str.ofString "above") = some (.ref la) ∧ m (Str.ofString "turns") = some (.int (T : Int) tt) ∧ m (Str.ofString "ends") = some (.ref e) ∧
    news = (e, listOf items.toArray ep) :: (la, listOf (ab3 n W t1 t2 t3) ea) :: c :: rest ∧ (∀ p ∈ keep, p ∈ (la, listOf (ab3 n W t1 t2 t3) ea) :: rest)
/-- what holds between the turns of _law_ends -/
noncomputable def EndsInv (n st : Nat) (bs : List Nat) (c : Addr × Obj) (i : Nat) (m : Str → Option Value) (news : List (Addr × Obj)) : Prop :=
  ∃ e items ep keep, MidJ n (wA n st bs i) (wA n st bs i / (6 * n)) c e items ep keep m news ∧ items.length = i ∧ ∀ j < i, Entry n (wA n st bs (j + 1)) items[j]? keep
/-- red is reached just where a turn is told -/
theorem redQ : ∀ n < 5, 1 ≤ n → ∀ q < 6 * n, (rQ n q = n ∧ gQ n q = 0 ∧ bQ n q = 0) ↔ q = 0 := by decide
theorem red_iff {n W : Nat} (hn : 1 ≤ n ∧ n ≤ 4) : (rW n W = n ∧ gW n W = 0 ∧ bW n W = 0) ↔ W % (6 * n) = 0 := redQ n (by omega) hn.1 _ (Nat.mod_lt _ (by omega))
theorem turn_told {n W : Nat} (hn : 1 ≤ n ∧ n ≤ 4) : (W + 1) / (6 * n) = if (W + 1) % (6 * n) = 0 then W / (6 * n) + 1 else W / (6 * n) := by
  have h6 : 0 < 6 * n := by omega
  rw [Nat.succ_div]
  by_cases h : 6 * n ∣ W + 1
  · rw [if_pos h, if_pos (Nat.mod_eq_zero_of_dvd h)]
  · rw [if_neg h, if_neg (fun q => h (Nat.dvd_of_mod_eq_zero q)), Nat.add_zero]
theorem map3 {m : Str → Option Value} {a t e : Str} {va vt ve : Value} (h1 : m a = some va) (h2 : m t = some vt) (h3 : m e = some ve) : m = fun z => if z = a then some va else if z = t then some vt else if z = e then some ve else m z := by
  funext z
  by_cases q1 : z = a
  · rw [if_pos q1, q1, h1]
  · by_cases q2 : z = t
    · rw [if_neg q1, if_pos q2, q2, h2]
    · by_cases q3 : z = e
      · rw [if_neg q1, if_neg q2, if_pos q3, q3, h3]
      · rw [if_neg q1, if_neg q2, if_neg q3]
theorem reorder4 {h₀ h : Heap} {L : Addr} {a b c d : Addr × Obj} (N : News h₀ L h [a, b, c, d]) : News h₀ L h [a, b, d, c] := fun p hp => N p (by simp at hp ⊢; rcases hp with h | h | h | h <;> simp [h])
end Mine
end PartEn4
section PartEn5
open PySem PySem.W PyProof.Rows PySem.Calls PyProof.Rows.LCg
set_option maxRecDepth 100000
set_option maxHeartbeats 8000000
namespace Mine
section
variable {prog : Program} {w : World} {A : Around} {E : Value → Shared → Prop} {s : Shared} {env : Env} {h₀ : Heap} {x : Str} {body : List Stmt} {Q : Flow → Shared → Prop}
/-- a loop over a range by ones, by what holds of the names and of the ledger -/
theorem iterR {r : Addr} {a b : Int} {t u v : Tok} {k : Nat} {m₀ : Str → Option Value} {news : List (Addr × Obj)} (J : Nat → (Str → Option Value) → List (Addr × Obj) → Prop)
    (hh : A.handled = none) (hr : IsRange s.heap r a b 1 t u v) (hsm : Builtin.Range.small a b 1 = true) (hk : Builtin.Range.rangeSize a b 1 = ((k : Nat) : Int)) (F : Fr h₀ env.locals s.heap m₀) (N : News h₀ env.locals s.heap news) (hj : J 0 m₀ news)
    (turn : ∀ i t m₁ news₁ h tk I oI, i < k → J i m₁ news₁ → (∀ p ∈ news₁, @Ne Nat p.1 I) → Fr h₀ env.locals h (fun y => if y = x then some (.int (a + (i : Int)) t) else m₁ y) → News h₀ env.locals h ((I, oI) :: news₁) →
      wpAny (model prog w) A (execs body env) (TurnEnd h₀ env.locals (J (i + 1)) I oI { s with heap := h, toks := tk } Q) E { s with heap := h, toks := tk })
    (done : ∀ m₁ news₁ h tk, J k m₁ news₁ → Fr h₀ env.locals h m₁ → News h₀ env.locals h news₁ → Q .next { s with heap := h, toks := tk }) :
    wpAny (model prog w) A (pyIter (.ref r)) (fun it s₂ => LoopAtV prog w A h₀ env x body Q E it s₂) E s := by
  refine wpAny_pyIter_range hr hsm ?_
  have W := range_walks (prog := prog) (w := w) (I := s.heap.objs.size) hh a k
  refine ⟨_, _, _, k, _, _, m₀, news, J, rfl, W, ?_, ?_, ?_, (by show IsRangeIter _ _ _ _ _; rw [hk]; simpa using Heap.get?_push_size _ rfl), F.push _, (fun p hp => ⟨Heap.get?_push_of_some _ (N p hp).1, (N p hp).2⟩), hj, ?_, ?_⟩
  · intro hm
    exact absurd F.ns.lt ((List.mem_singleton.mp hm) ▸ Nat.lt_irrefl _)
  · intro b hb
    rw [List.mem_singleton.mp hb]
    exact next_is_new F
  · intro p hp hI
    exact absurd (Heap.lt_size (N p hp).1) ((List.mem_singleton.mp hI) ▸ Nat.lt_irrefl _)
  · rintro i v m₁ news₁ s₁ own ⟨hh', tk', rfl⟩ hin hP hJ hoff hown hat hall hst F₁ N₁
    obtain ⟨tv, rfl⟩ := hP
    obtain ⟨oI, heI⟩ : ∃ oI, hh'.get? s.heap.objs.size = some oI := ⟨_, hst⟩
    have hI₀ : h₀.get? s.heap.objs.size = none := next_is_new F
    have mI := hall s.heap.objs.size (by simp) hI₀ oI heI
    have NI : News h₀ env.locals hh' ((s.heap.objs.size, oI) :: news₁) := fun p hp => by
      rcases List.mem_cons.mp hp with rfl | hp
      · exact N₁ _ (List.mem_append_left _ mI)
      · exact N₁ p (List.mem_append_right _ hp)
    refine wpAny_mono (turn i tv m₁ news₁ hh' tk' s.heap.objs.size oI hin hJ (fun p hp e => hoff p hp (by rw [List.mem_singleton]; exact e)) F₁ NI) (fun f s₂ p => ?_) fun _ _ e => e
    have fin : (∃ h' tk m' news', s₂ = { s with heap := h', toks := tk } ∧ Fr h₀ env.locals h' m' ∧ News h₀ env.locals h' ((s.heap.objs.size, oI) :: news') ∧ (∀ p ∈ news', @Ne Nat p.1 s.heap.objs.size) ∧ J (i + 1) m' news') →
        LoopStepU h₀ env.locals [s.heap.objs.size] own (J (i + 1)) { s with heap := hh', toks := tk' } .next s₂ := by
      rintro ⟨h', tk, m', news', e, F', N', hn, hm⟩
      refine ⟨rfl, h', tk, m', news', e, F', fun p hp => ?_, fun p hp hq => hn p hp (List.mem_singleton.mp hq), hm⟩
      rcases List.mem_append.mp hp with hp | hp
      · have q := List.mem_singleton.mp (hown p hp)
        have e2 := hat p hp
        rw [q] at e2
        have e3 : p = (s.heap.objs.size, oI) := Prod.ext q (Option.some.inj (e2.symm.trans heI))
        rw [e3]; exact N' _ List.mem_cons_self
      · exact N' p (List.mem_cons_of_mem _ hp)
    cases f with
    | ret v => exact .ret p
    | brk => exact .brk p
    | next => exact .next (fin p)
    | cont => exact .cont (fin p)
  · rintro h' tk m' news' F' N' _ hJ
    exact done m' news' h' tk hJ F' N'
end
end Mine
end PartEn5
section PartEn6
open PySem PySem.W PyProof.Rows PySem.Calls PyProof.Rows.LCg
set_option maxRecDepth 100000
set_option maxHeartbeats 8000000
namespace Mine
/-- a statement, then the rest, by what holds between them -/
theorem execs_seq {M : Model} {A : Around} {env : Env} {E : Value → Shared → Prop} {s : Shared} {st : Stmt} {rest : List Stmt} {Q : Flow → Shared → Prop} (R : Shared → Prop)
    (h1 : wpAny M A (exec st env) (fun f s' => f = .next ∧ R s') E s) (h2 : ∀ s', R s' → wpAny M A (execs rest env) Q E s') : wpAny M A (execs (st :: rest) env) Q E s :=
  wpAny_execs_cons (wpAny_mono h1 (fun f s' h => by obtain ⟨rfl, r⟩ := h; exact h2 s' r) fun _ _ e => e)
/-- in the midst of a turn, the iterator beside -/
noncomputable def MidS (h₀ : Heap) (L : Addr) (I : Addr) (oI : Obj) (J : (Str → Option Value) → List (Addr × Obj) → Prop) (s₁ s' : Shared) : Prop :=
  ∃ h' tk m' news', s' = { s₁ with heap := h', toks := tk } ∧ Fr h₀ L h' m' ∧ News h₀ L h' ((I, oI) :: news') ∧ (∀ p ∈ news', @Ne Nat p.1 I) ∧ J m' news'
theorem map4 {m : Str → Option Value} {a t e b : Str} {va vt ve vb : Value} (h1 : m a = some va) (h2 : m t = some vt) (h3 : m e = some ve) (h4 : m b = some vb) : m = fun z => if z = b then some vb else if z = a then some va else if z = t then some vt else if z = e then some ve else m z := by
  funext z
  by_cases q : z = b
  · rw [if_pos q, q, h4]
  · rw [if_neg q]; exact congrFun (map3 h1 h2 h3) z
theorem range_few : ∀ b : Nat, b ≤ 3 → Builtin.Range.small 0 (b : Int) 1 = true ∧ Builtin.Range.rangeSize 0 (b : Int) 1 = (b : Int)
  | 0, _ => ⟨by decide +kernel, by decide +kernel⟩
  | 1, _ => ⟨by decide +kernel, by decide +kernel⟩
  | 2, _ => ⟨by decide +kernel, by decide +kernel⟩
  | 3, _ => ⟨by decide +kernel, by decide +kernel⟩
  | _ + 4, h => absurd h (by omega)
/-- what holds between the turns of the inner loop, the outer iterator beside -/
noncomputable def InJ (I : Addr) (oI : Obj) (J : (Str → Option Value) → List (Addr × Obj) → Prop) (m : Str → Option Value) (news : List (Addr × Obj)) : Prop := ∃ news', news = (I, oI) :: news' ∧ (∀ p ∈ news', @Ne Nat p.1 I) ∧ J m news'
end Mine
end PartEn6
section PartEn7
open PySem PySem.W PyProof.Rows PySem.Calls PyProof.Rows.LCg
set_option maxRecDepth 100000
set_option maxHeartbeats 8000000
namespace Mine
theorem eq3_ints {prog : Program} {w : World} {A : Around} {E : Value → Shared → Prop} {s : Shared} {h₀ : Heap} {L a b : Addr} {news : List (Addr × Obj)} {e1 e2 : Nat} {x1 y1 z1 x2 y2 z2 : Int} {t1 t2 t3 u1 u2 u3 : Tok} {Q : Value → Shared → Prop}
    (N : News h₀ L s.heap news) (h1 : (a, listOf #[.int x1 t1, .int y1 t2, .int z1 t3] e1) ∈ news) (h2 : (b, listOf #[.int x2 u1, .int y2 u2, .int z2 u3] e2) ∈ news) (hu : A.units < cLine)
    (ht : (x1 = x2 ∧ y1 = y2 ∧ z1 = z2) → Q (.bool true) s) (hf : ¬ (x1 = x2 ∧ y1 = y2 ∧ z1 = z2) → Q (.bool false) s) :
    wpAny (model prog w) A (compareOp .Eq (.ref a) (.ref b)) Q E s := by
  have i1 : s.heap.IsList a #[.int x1 t1, .int y1 t2, .int z1 t3] := ⟨_, (N _ h1).1, rfl, e1, rfl⟩
  have i2 : s.heap.IsList b #[.int x2 u1, .int y2 u2, .int z2 u3] := ⟨_, (N _ h2).1, rfl, e2, rfl⟩
  refine SeqAt.eq_listAt (e := fun j => match j with | 0 => x1 == x2 | 1 => y1 == y2 | _ => z1 == z2) i1 i2 rfl hu (fun j a b => ?_) ?_
  · have hj : j < 3 := a
    match j, hj with
    | 0, _ => exact (MeetsSeq.EqGives.int x1 x2 t1 u1).at _ _
    | 1, _ => exact (MeetsSeq.EqGives.int y1 y2 t2 u2).at _ _
    | 2, _ => exact (MeetsSeq.EqGives.int z1 z2 t3 u3).at _ _
  · show Q (.bool ((x1 == x2) && ((y1 == y2) && ((z1 == z2) && true)))) s
    by_cases c : x1 = x2 ∧ y1 = y2 ∧ z1 = z2
    · obtain ⟨a1, a2, a3⟩ := id c
      have := ht c
      rw [beq_iff_eq.mpr a1, beq_iff_eq.mpr a2, beq_iff_eq.mpr a3]
      exact this
    · have q : ((x1 == x2) && ((y1 == y2) && ((z1 == z2) && true))) = false := by
        cases hq : ((x1 == x2) && ((y1 == y2) && ((z1 == z2) && true))) with
        | false => rfl
        | true => exact absurd (by simpa using hq) c
      rw [q]; exact hf c
theorem close_turn {g h' : Heap} {L I I2 e pn lc : Addr} {oI oI2 : Obj} {c : Addr × Obj} {items : List Value} {ep ec n W' T' : Nat} {t1 t2 t3 tt : Tok} {C : Obj} {rest keep all : List (Addr × Obj)} {m' : Str → Option Value} {s₁ : Shared} {tk : Nat} {Q : Flow → Shared → Prop}
    (F : Fr g L h' m') (N : News g L h' all) (hsub : ∀ p ∈ (I2, oI2) :: (I, oI) :: (e, listOf items.toArray ep) :: (pn, listOf (ab3 n W' t1 t2 t3) ec) :: c :: (lc, C) :: rest, p ∈ all)
    (hI2 : @Ne Nat I I2 ∧ @Ne Nat e I2 ∧ @Ne Nat lc I2 ∧ @Ne Nat c.1 I2 ∧ ∀ p ∈ rest, @Ne Nat p.1 I2) (hI : @Ne Nat e I ∧ @Ne Nat lc I ∧ @Ne Nat c.1 I ∧ ∀ p ∈ rest, @Ne Nat p.1 I)
    (hp2 : @Ne Nat pn I2) (hp1 : @Ne Nat pn I) (hpe : @Ne Nat pn e) (off : ∀ p ∈ rest, @Ne Nat p.1 e) (lce : @Ne Nat lc e) (ce : @Ne Nat c.1 e)
    (ma : m' (Str.ofString "above") = some (.ref pn)) (mt : m' (Str.ofString "turns") = some (.int (T' : Int) tt)) (me : m' (Str.ofString "ends") = some (.ref e)) (hkeep : ∀ p ∈ keep, p ∈ (lc, C) :: rest) :
    TurnEnd g L (InJ I oI (MidJ n W' T' c e items ep keep)) I2 oI2 s₁ Q .next { s₁ with heap := h', toks := tk } := by
  refine ⟨h', tk, m', (I, oI) :: (e, listOf items.toArray ep) :: (pn, listOf (ab3 n W' t1 t2 t3) ec) :: c :: (lc, C) :: rest, rfl, F, fun p hp => N p (hsub p hp), ?_, _, rfl, ?_, pn, ec, t1, t2, t3, tt, (lc, C) :: rest, ?_, hpe, ce, ma, mt, me, rfl, fun p hp => List.mem_cons_of_mem _ (hkeep p hp)⟩
  · simp only [List.forall_mem_cons]
    exact ⟨hI2.1, hI2.2.1, hp2, hI2.2.2.2.1, hI2.2.2.1, hI2.2.2.2.2⟩
  · simp only [List.forall_mem_cons]
    exact ⟨hI.1, hp1, hI.2.2.1, hI.2.1, hI.2.2.2⟩
  · simp only [List.forall_mem_cons]
    exact ⟨lce, off⟩
theorem neNat {news : List (Addr × Obj)} {p : Addr} (h : ∀ q ∈ news, q.1 ≠ p) : ∀ q ∈ news, @Ne Nat q.1 p := h
theorem told_yes {n W : Nat} (hn : 1 ≤ n ∧ n ≤ 4) (c : ((rW n (W + 1) : Nat) : Int) = (n : Int) ∧ ((gW n (W + 1) : Nat) : Int) = 0 ∧ ((bW n (W + 1) : Nat) : Int) = 0) : (((W + 1) / (6 * n) : Nat) : Int) = ((W / (6 * n) : Nat) : Int) + 1 := by
  have q := (red_iff (W := W + 1) hn).mp ⟨by omega, by omega, by omega⟩
  rw [turn_told hn, if_pos q]; rfl
theorem told_no {n W : Nat} (hn : 1 ≤ n ∧ n ≤ 4) (c : ¬ (((rW n (W + 1) : Nat) : Int) = (n : Int) ∧ ((gW n (W + 1) : Nat) : Int) = 0 ∧ ((bW n (W + 1) : Nat) : Int) = 0)) : (((W + 1) / (6 * n) : Nat) : Int) = ((W / (6 * n) : Nat) : Int) := by
  have q : ¬ (W + 1) % (6 * n) = 0 := fun h => c (by obtain ⟨a, b, d⟩ := (red_iff (W := W + 1) hn).mpr h; exact ⟨by omega, by omega, by omega⟩)
  rw [turn_told hn, if_neg q]
end Mine
end PartEn7
section PartEn8
open PySem PySem.W PyProof.Rows PySem.Calls PyProof.Rows.LCg
set_option maxRecDepth 100000
set_option maxHeartbeats 8000000
namespace Mine
/-- the end of a turn of _law_ends, behind the append -/
theorem close_app {g h' : Heap} {L I e D lb : Addr} {oI : Obj} {c : Addr × Obj} {items : List Value} {ep' eb n st i W : Nat} {bs : List Nat} {q1 q2 q3 qt : Tok} {rest keep all : List (Addr × Obj)} {m' : Str → Option Value} {s₁ : Shared} {tk : Nat} {Q : Flow → Shared → Prop}
    (hW : W = wA n st bs (i + 1)) (F : Fr g L h' m') (N : News g L h' all)
    (hsub : ∀ p ∈ (I, oI) :: (e, listOf (items.toArray.push (.ref D)) ep') :: (lb, listOf (ab3 n W q1 q2 q3) eb) :: c :: (D, tupOf [.int ((W / (6 * n) : Nat) : Int) qt, .ref lb]) :: rest, p ∈ all)
    (hI : @Ne Nat e I ∧ @Ne Nat lb I ∧ @Ne Nat c.1 I ∧ ∀ p ∈ rest, @Ne Nat p.1 I) (hD : @Ne Nat D I) (hDe : @Ne Nat D e) (off : ∀ p ∈ rest, @Ne Nat p.1 e) (lbe : @Ne Nat lb e) (ce : @Ne Nat c.1 e)
    (ma : m' (Str.ofString "above") = some (.ref lb)) (mt : m' (Str.ofString "turns") = some (.int ((W / (6 * n) : Nat) : Int) qt)) (me : m' (Str.ofString "ends") = some (.ref e))
    (hkeep : ∀ p ∈ keep, p ∈ (lb, listOf (ab3 n W q1 q2 q3) eb) :: rest) (hlen : items.length = i) (hent : ∀ j < i, Entry n (wA n st bs (j + 1)) items[j]? keep) :
    TurnEnd g L (EndsInv n st bs c (i + 1)) I oI s₁ Q .next { s₁ with heap := h', toks := tk } := by
  subst hW
  have ep0 : items.toArray.push (Value.ref D) = (items ++ [Value.ref D]).toArray := by simp
  rw [ep0] at hsub
  refine ⟨h', tk, m', (e, listOf (items ++ [Value.ref D]).toArray ep') :: (lb, listOf (ab3 n (wA n st bs (i + 1)) q1 q2 q3) eb) :: c :: (D, tupOf [Value.int ((wA n st bs (i + 1) / (6 * n) : Nat) : Int) qt, Value.ref lb]) :: rest, rfl, F, fun p hp => N p (hsub p hp), ?_,
    e, items ++ [Value.ref D], ep', (D, tupOf [Value.int ((wA n st bs (i + 1) / (6 * n) : Nat) : Int) qt, Value.ref lb]) :: (lb, listOf (ab3 n (wA n st bs (i + 1)) q1 q2 q3) eb) :: keep, ⟨lb, eb, q1, q2, q3, qt, (D, tupOf [Value.int ((wA n st bs (i + 1) / (6 * n) : Nat) : Int) qt, Value.ref lb]) :: rest, ?_, lbe, ce, ma, mt, me, rfl, ?_⟩, by simp [hlen], fun j hj => ?_⟩
  · simp only [List.forall_mem_cons]
    exact ⟨hI.1, hI.2.1, hI.2.2.1, hD, hI.2.2.2⟩
  · simp only [List.forall_mem_cons]
    exact ⟨hDe, off⟩
  · simp only [List.forall_mem_cons]
    refine ⟨by simp, by simp, fun p hp => ?_⟩
    rcases List.mem_cons.mp (hkeep p hp) with q | q
    · rw [q]; simp
    · simp [q]
  · rcases Nat.lt_or_ge j i with q | q
    · have r := (hent j q).mono (news' := (D, tupOf [Value.int ((wA n st bs (i + 1) / (6 * n) : Nat) : Int) qt, Value.ref lb]) :: (lb, listOf (ab3 n (wA n st bs (i + 1)) q1 q2 q3) eb) :: keep) fun p hp => List.mem_cons_of_mem _ (List.mem_cons_of_mem _ hp)
      rw [List.getElem?_append_left (by omega)]
      exact r
    · have e : j = i := by omega
      subst e
      refine ⟨D, lb, qt, q1, q2, q3, eb, ?_, by simp, by simp⟩
      rw [List.getElem?_append_right (by omega)]
      simp [hlen]
end Mine
end PartEn8
section PartEn9
open PySem PySem.W PyProof.Rows PySem.Calls PyProof.Rows.LCg
set_option maxRecDepth 100000
set_option maxHeartbeats 8000000
namespace Mine
/-- what holds between the turns of the while: k steps are left to the next multiple -/
noncomputable def WhJ (n W0 : Nat) (I : Addr) (oI : Obj) (c : Addr × Obj) (e : Addr) (items : List Value) (ep : Nat) (keep : List (Addr × Obj)) (vb : Value) (k : Nat) (m : Str → Option Value) (news : List (Addr × Obj)) : Prop :=
  ∃ W, W0 < W ∧ W + k = (W0 / n + 1) * n ∧ InJ I oI (fun m news => MidJ n W (W0 / (6 * n)) c e items ep keep m news ∧ m (Str.ofString "blanks") = some vb) m news
/-- the one part that is neither all down nor all up -/
theorem midQ : ∀ n < 5, 1 ≤ n → ∀ q < 6 * n, ((0 < rQ n q ∧ rQ n q < n) ∨ (0 < gQ n q ∧ gQ n q < n) ∨ (0 < bQ n q ∧ bQ n q < n)) ↔ q % n ≠ 0 := by decide
theorem mid_iff {n W : Nat} (hn : 1 ≤ n ∧ n ≤ 4) : ((0 < rW n W ∧ rW n W < n) ∨ (0 < gW n W ∧ gW n W < n) ∨ (0 < bW n W ∧ bW n W < n)) ↔ W % n ≠ 0 := by
  rw [midQ n (by omega) hn.1 _ (Nat.mod_lt _ (by omega)), Nat.mod_mod_of_dvd W (Nat.dvd_mul_left n 6)]
/-- between two multiples -/
theorem between {n W0 W k : Nat} (hn : 1 ≤ n) (h1 : W0 < W) (h2 : W + k = (W0 / n + 1) * n) : W % n ≠ 0 ↔ 0 < k := by
  have a := Nat.div_add_mod W0 n
  have b := Nat.mod_lt W0 (show 0 < n by omega)
  have e : (W0 / n + 1) * n = n * (W0 / n + 1) := Nat.mul_comm _ _
  rw [e] at h2
  have e2 : n * (W0 / n + 1) = n * (W0 / n) + n := Nat.mul_succ _ _
  constructor
  · intro h
    rcases Nat.eq_zero_or_pos k with q | q
    · exfalso; apply h
      have : W = n * (W0 / n + 1) := by omega
      rw [this]; exact Nat.mul_mod_right _ _
    · exact q
  · intro h q
    have d := Nat.div_add_mod W n
    rw [q, Nat.add_zero] at d
    have l1 : n * (W0 / n) < n * (W / n) := by omega
    have l2 : n * (W / n) < n * (W0 / n + 1) := by omega
    have l3 := Nat.lt_of_mul_lt_mul_left l1
    have l4 := Nat.lt_of_mul_lt_mul_left l2
    omega
end Mine
end PartEn9
section PartEn10
open PySem PySem.W PyProof.Rows PySem.Calls PyProof.Rows.LCg
set_option maxRecDepth 100000
set_option maxHeartbeats 8000000
namespace Mine
section
variable {prog : Program} {w : World} {A : Around} {E : Value → Shared → Prop} {Q : Flow → Shared → Prop} {s : Shared} {env : Env} {g : Heap} {L : Addr}
/-- the while of _law_ends -/
theorem while_go {test : PySem.Expr} {body : List Stmt} {pos : Pos} {m : Str → Option Value} {all : List (Addr × Obj)} {n W0 : Nat} {I e pn la : Addr} {oI C : Obj} {c : Addr × Obj} {items : List Value} {ep ec : Nat} {t1 t2 t3 tt : Tok} {rest keep : List (Addr × Obj)} {vb : Value}
    (hn : 1 ≤ n) (F : Fr g L s.heap m) (N : News g L s.heap all) (hsub : ∀ p ∈ (I, oI) :: (e, listOf items.toArray ep) :: (pn, listOf (ab3 n (W0 + 1) t1 t2 t3) ec) :: c :: (la, C) :: rest, p ∈ all)
    (hI : @Ne Nat e I ∧ @Ne Nat la I ∧ @Ne Nat c.1 I ∧ ∀ p ∈ rest, @Ne Nat p.1 I) (hp1 : @Ne Nat pn I) (hpe : @Ne Nat pn e) (off : ∀ p ∈ rest, @Ne Nat p.1 e) (lae : @Ne Nat la e) (ce : @Ne Nat c.1 e)
    (ma : m (Str.ofString "above") = some (.ref pn)) (mt : m (Str.ofString "turns") = some (.int ((W0 / (6 * n) : Nat) : Int) tt)) (me : m (Str.ofString "ends") = some (.ref e)) (mb : m (Str.ofString "blanks") = some vb) (hkeep : ∀ p ∈ keep, p ∈ (la, C) :: rest)
    (turn : ∀ k m₁ news₁ h₁ tk₁, Fr g L h₁ m₁ → News g L h₁ news₁ → WhJ n W0 I oI c e items ep keep vb k m₁ news₁ →
      wpAny (model prog w) A (isTrue test env (eval test env)) (fun b s₂ =>
        if b = true then wpAny (model prog w) A (execs body env) (WhileStep g L s (WhJ n W0 I oI c e items ep keep vb) k) E s₂ else Q .next s₂) E { s with heap := h₁, toks := tk₁ })
    (hE : PassesOwn (model prog w) A env E := by passes_own) :
    wpAny (model prog w) A (exec (.While test body [] pos) env) Q E s := by
  have hlt : W0 + 1 ≤ (W0 / n + 1) * n := by
    have a := Nat.div_add_mod W0 n
    have b := Nat.mod_lt W0 (show 0 < n by omega)
    have e : (W0 / n + 1) * n = n * (W0 / n) + n := by rw [Nat.mul_comm, Nat.mul_succ]
    omega
  refine While_inv (WhJ n W0 I oI c e items ep keep vb) (n₀ := (W0 / n + 1) * n - (W0 + 1)) F (cb_drop N hsub) ?_ turn hE
  refine ⟨W0 + 1, Nat.lt_succ_self _, by omega, _, rfl, ?_, ⟨pn, ec, t1, t2, t3, tt, (la, C) :: rest, ?_, hpe, ce, ma, mt, me, rfl, fun p hp => List.mem_cons_of_mem _ (hkeep p hp)⟩, mb⟩
  · simp only [List.forall_mem_cons]
    exact ⟨hI.1, hp1, hI.2.2.1, hI.2.1, hI.2.2.2⟩
  · simp only [List.forall_mem_cons]
    exact ⟨lae, off⟩
/-- a turn's end of the while -/
theorem while_end {m : Str → Option Value} {all : List (Addr × Obj)} {n W0 W k : Nat} {I e pn la : Addr} {oI C : Obj} {c : Addr × Obj} {items : List Value} {ep ec tk : Nat} {t1 t2 t3 tt : Tok} {rest keep : List (Addr × Obj)} {vb : Value} {h' : Heap}
    (F : Fr g L h' m) (N : News g L h' all) (hsub : ∀ p ∈ (I, oI) :: (e, listOf items.toArray ep) :: (pn, listOf (ab3 n (W + 1) t1 t2 t3) ec) :: c :: (la, C) :: rest, p ∈ all)
    (hI : @Ne Nat e I ∧ @Ne Nat la I ∧ @Ne Nat c.1 I ∧ ∀ p ∈ rest, @Ne Nat p.1 I) (hp1 : @Ne Nat pn I) (hpe : @Ne Nat pn e) (off : ∀ p ∈ rest, @Ne Nat p.1 e) (lae : @Ne Nat la e) (ce : @Ne Nat c.1 e)
    (ma : m (Str.ofString "above") = some (.ref pn)) (mt : m (Str.ofString "turns") = some (.int ((W0 / (6 * n) : Nat) : Int) tt)) (me : m (Str.ofString "ends") = some (.ref e)) (mb : m (Str.ofString "blanks") = some vb) (hkeep : ∀ p ∈ keep, p ∈ (la, C) :: rest)
    (hW : W0 < W) (hk : W + k = (W0 / n + 1) * n) (h0 : 0 < k) :
    WhileStep g L s (WhJ n W0 I oI c e items ep keep vb) k .next { s with heap := h', toks := tk } := by
  refine WhileStep.intro (n' := k - 1) F (cb_drop N hsub) (by omega) ?_
  refine ⟨W + 1, by omega, by omega, _, rfl, ?_, ⟨pn, ec, t1, t2, t3, tt, (la, C) :: rest, ?_, hpe, ce, ma, mt, me, rfl, fun p hp => List.mem_cons_of_mem _ (hkeep p hp)⟩, mb⟩
  · simp only [List.forall_mem_cons]
    exact ⟨hI.1, hp1, hI.2.2.1, hI.2.1, hI.2.2.2⟩
  · simp only [List.forall_mem_cons]
    exact ⟨lae, off⟩
end
end Mine
end PartEn10
section PartEn11
open PySem PySem.W PyProof.Rows PySem.Calls PyProof.Rows.LCg
set_option maxRecDepth 100000
set_option maxHeartbeats 8000000
namespace Mine
section
variable {prog : Program} {w : World} {A : Around} {s : Shared} {h₀ : Heap} {L : Addr} {m : Str → Option Value} {env : Env}
/-- a comprehension with a test, by what holds between its turns -/
theorem compT_inv {ct elt : PySem.Expr} {x : Str} {scope : Scope} {cl : List (Str × Addr)} {S : List (Addr × Obj) → Prop} {P : Nat → Value → Prop} {Fin : List Value → List (Addr × Obj) → Prop} {n : Nat}
    (J : Nat → List Value → List (Addr × Obj) → Prop)
    (turn : ∀ i v ys news I oI C oC D m₂ h tk (E' : Value → Shared → Prop), i < n → P i v → J i ys news → NsObj oC m₂ → m₂ x = some v → Fr h₀ L h m → News h₀ L h ((I, oI) :: (C, oC) :: (D, lst ys) :: news) → Off3 I C D news → ((@Ne Nat I C) ∧ (@Ne Nat I D) ∧ (@Ne Nat C D)) →
      wpAny (model prog w) A (isTrue ct (compEnvC scope cl C env) (eval ct (compEnvC scope cl C env))) (fun ok s' => if ok = true then
        wpAny (model prog w) A (eval elt (compEnvC scope cl C env)) (CompEnd h₀ L m { s with heap := h, toks := tk } I oI C oC D (lst ys) S (fun y news' => J (i + 1) (ys ++ [y]) news')) E' s'
        else CompEnd h₀ L m { s with heap := h, toks := tk } I oI C oC D (lst ys) S (fun _ news' => J (i + 1) ys news') Value.none s') E' { s with heap := h, toks := tk })
    (fin : ∀ ys news, J n ys news → Fin ys news) : ∀ k i ys news, i + k = n → J i ys news → LCt.CompRestT prog w A h₀ L m env ct elt x scope cl s S P Fin k i ys news
  | 0, i, ys, news, e, j => LCt.CompRestT.zero (fin ys news (by rw [← e]; exact j))
  | k + 1, i, ys, news, e, j => LCt.CompRestT.succ fun v I oI C oC D m₂ h tk E' hP hC hx F N off ne => by
    have hrec := compT_inv J turn fin k (i + 1)
    have ie : i + 1 + k = n := by omega
    refine wpAny_mono (turn i v ys news I oI C oC D m₂ h tk E' (by omega) hP j hC hx F N off ne) (fun ok s' q => ?_) fun _ _ e => e
    by_cases c : ok = true
    · rw [if_pos c] at q ⊢
      refine wpAny_mono q (fun y s'' z => ?_) fun _ _ e => e
      obtain ⟨h', tk', news', a, b, c, d, e, f⟩ := z
      exact ⟨h', tk', news', a, b, c, d, e, hrec _ _ ie f⟩
    · rw [if_neg c] at q ⊢
      obtain ⟨h', tk', news', a, b, c, d, e, f⟩ := q
      exact ⟨h', tk', news', a, b, c, d, e, hrec _ _ ie f⟩
/-- a comprehension without a test, by what holds between its turns -/
theorem compU_inv {elt : PySem.Expr} {x : Str} {scope : Scope} {cl : List (Str × Addr)} {S : List (Addr × Obj) → Prop} {P : Nat → Value → Prop} {Fin : List Value → List (Addr × Obj) → Prop} {n : Nat}
    (J : Nat → List Value → List (Addr × Obj) → Prop)
    (turn : ∀ i v ys news I oI C oC D m₂ h tk (E' : Value → Shared → Prop), i < n → P i v → J i ys news → NsObj oC m₂ → m₂ x = some v → Fr h₀ L h m → News h₀ L h ((I, oI) :: (C, oC) :: (D, lst ys) :: news) → Off3 I C D news → ((@Ne Nat I C) ∧ (@Ne Nat I D) ∧ (@Ne Nat C D)) →
      wpAny (model prog w) A (eval elt (compEnvC scope cl C env)) (CompEnd h₀ L m { s with heap := h, toks := tk } I oI C oC D (lst ys) S (fun y news' => J (i + 1) (ys ++ [y]) news')) E' { s with heap := h, toks := tk })
    (fin : ∀ ys news, J n ys news → Fin ys news) : ∀ k i ys news, i + k = n → J i ys news → CompRest prog w A h₀ L m env elt x scope cl s S P Fin k i ys news
  | 0, i, ys, news, e, j => fin ys news (by rw [← e]; exact j)
  | k + 1, i, ys, news, e, j => fun v I oI C oC D m₂ h tk E' hP hC hx F N off ne => by
    have hrec := compU_inv J turn fin k (i + 1)
    have ie : i + 1 + k = n := by omega
    refine wpAny_mono (turn i v ys news I oI C oC D m₂ h tk E' (by omega) hP j hC hx F N off ne) (fun y s'' z => ?_) fun _ _ e => e
    obtain ⟨h', tk', news', a, b, c, d, e, f⟩ := z
    exact ⟨h', tk', news', a, b, c, d, e, hrec _ _ ie f⟩
end
/-- the wheel's parts by number -/
noncomputable def pQ (n W : Nat) : Nat → Nat
  | 0 => rW n W
  | 1 => gW n W
  | _ => bW n W
/-- one of the first i parts is neither all down nor all up -/
noncomputable def midI (n W i : Nat) : Prop := ∃ j < i, 0 < pQ n W j ∧ pQ n W j < n
theorem midI3 {n W : Nat} (hn : 1 ≤ n ∧ n ≤ 4) : midI n W 3 ↔ W % n ≠ 0 := by
  rw [← mid_iff hn]
  constructor
  · rintro ⟨j, hj, a⟩
    match j, hj with
    | 0, _ => exact .inl a
    | 1, _ => exact .inr (.inl a)
    | 2, _ => exact .inr (.inr a)
  · rintro (a | a | a)
    · exact ⟨0, by omega, a⟩
    · exact ⟨1, by omega, a⟩
    · exact ⟨2, by omega, a⟩
theorem midI_succ {n W i : Nat} : midI n W (i + 1) ↔ midI n W i ∨ (0 < pQ n W i ∧ pQ n W i < n) := by
  constructor
  · rintro ⟨j, hj, a⟩
    rcases Nat.lt_or_ge j i with q | q
    · exact .inl ⟨j, q, a⟩
    · have : j = i := by omega
      subst this; exact .inr a
  · rintro (⟨j, hj, a⟩ | a)
    · exact ⟨j, by omega, a⟩
    · exact ⟨i, by omega, a⟩
/-- what holds between the turns of the while's comprehension -/
noncomputable def TestJ (n W : Nat) (news : List (Addr × Obj)) (i : Nat) (ys : List Value) (news' : List (Addr × Obj)) : Prop := news' = news ∧ (ys.length ≠ 0 ↔ midI n W i)
theorem ab3_at {n W i : Nat} {t1 t2 t3 : Tok} {v : Value} (h : (ab3 n W t1 t2 t3)[i]? = some v) : ∃ t, v = .int (pQ n W i : Nat) t := by
  match i, h with
  | 0, h => exact ⟨t1, (Option.some.inj h).symm⟩
  | 1, h => exact ⟨t2, (Option.some.inj h).symm⟩
  | 2, h => exact ⟨t3, (Option.some.inj h).symm⟩
  | i + 3, h => simp at h
end Mine
end PartEn11
section PartEn12
open PySem PySem.W PyProof.Rows PySem.Calls PyProof.Rows.LCg
set_option maxRecDepth 100000
set_option maxHeartbeats 8000000
namespace Mine
/-- the while's test is told; all else stands -/
noncomputable def TestEnd (g : Heap) (L : Addr) (m : Str → Option Value) (news : List (Addr × Obj)) (P : Prop) (s₁ : Shared) (b : Bool) (s₂ : Shared) : Prop :=
  ∃ h' tk, s₂ = { s₁ with heap := h', toks := tk } ∧ Fr g L h' m ∧ News g L h' news ∧ (b = true ↔ P)
theorem test_turn {n W i : Nat} {ys : List Value} {news news' : List (Addr × Obj)} {v : Value} (h : TestJ n W news i ys news') (c : 0 < pQ n W i ∧ pQ n W i < n) : TestJ n W news (i + 1) (ys ++ [v]) news' :=
  ⟨h.1, by rw [midI_succ]; simp [c]⟩
theorem test_skip {n W i : Nat} {ys : List Value} {news news' : List (Addr × Obj)} (h : TestJ n W news i ys news') (c : ¬ (0 < pQ n W i ∧ pQ n W i < n)) : TestJ n W news (i + 1) ys news' :=
  ⟨h.1, by rw [midI_succ, h.2]; simp [c]⟩
theorem test_mid {M : Model} {A : Around} {t : Sem Bool} {Q : Bool → Shared → Prop} {E : Value → Shared → Prop} {s : Shared} {g : Heap} {L : Addr} {m : Str → Option Value} {news : List (Addr × Obj)} (P : Prop) (_F : Fr g L s.heap m) (_N : News g L s.heap news)
    (h1 : wpAny M A t (TestEnd g L m news P s) E s) (h2 : ∀ b h' tk, Fr g L h' m → News g L h' news → (b = true ↔ P) → Q b { s with heap := h', toks := tk }) : wpAny M A t Q E s :=
  wpAny_mono h1 (fun b s₂ z => by obtain ⟨h', tk, rfl, F', N', c⟩ := z; exact h2 b h' tk F' N' c) fun _ _ e => e
end Mine
end PartEn12
section PartEn13
open PySem PySem.W PyProof.Rows PySem.Calls PyProof.Rows.LCg
set_option maxRecDepth 100000
set_option maxHeartbeats 8000000
namespace Mine
theorem told_w {n W0 W : Nat} (hn : 1 ≤ n ∧ n ≤ 4) (hW : W = (W0 / n + 1) * n) : W / (6 * n) = if W % (6 * n) = 0 then W0 / (6 * n) + 1 else W0 / (6 * n) := by
  have e1 : W0 / (6 * n) = W0 / n / 6 := by rw [Nat.mul_comm, Nat.div_div_eq_div_mul]
  have e2 : W / (6 * n) = (W0 / n + 1) / 6 := by rw [hW, Nat.mul_div_mul_right _ _ (show 0 < n by omega)]
  have e3 : W % (6 * n) = (W0 / n + 1) % 6 * n := by rw [hW, Nat.mul_mod_mul_right]
  rw [e1, e2, e3]
  generalize W0 / n = q
  split
  · rename_i h
    have : (q + 1) % 6 = 0 := by rcases Nat.mul_eq_zero.mp h with h | h <;> omega
    omega
  · rename_i h
    have : (q + 1) % 6 ≠ 0 := fun z => h (by rw [z, Nat.zero_mul])
    omega
theorem toldw_yes {n W0 W : Nat} (hn : 1 ≤ n ∧ n ≤ 4) (hW : W = (W0 / n + 1) * n) (c : ((rW n W : Nat) : Int) = (n : Int) ∧ ((gW n W : Nat) : Int) = 0 ∧ ((bW n W : Nat) : Int) = 0) : ((W / (6 * n) : Nat) : Int) = ((W0 / (6 * n) : Nat) : Int) + 1 := by
  have q := (red_iff (W := W) hn).mp ⟨by omega, by omega, by omega⟩
  rw [told_w hn hW, if_pos q]; rfl
theorem toldw_no {n W0 W : Nat} (hn : 1 ≤ n ∧ n ≤ 4) (hW : W = (W0 / n + 1) * n) (c : ¬ (((rW n W : Nat) : Int) = (n : Int) ∧ ((gW n W : Nat) : Int) = 0 ∧ ((bW n W : Nat) : Int) = 0)) : ((W / (6 * n) : Nat) : Int) = ((W0 / (6 * n) : Nat) : Int) := by
  have q : ¬ W % (6 * n) = 0 := fun h => c (by obtain ⟨a, b, d⟩ := (red_iff (W := W) hn).mpr h; exact ⟨by omega, by omega, by omega⟩)
  rw [told_w hn hW, if_neg q]
/-- behind the tab of a turn of _law_ends -/
theorem close_first {g h' : Heap} {L I e lc : Addr} {oI : Obj} {c : Addr × Obj} {items : List Value} {ep ec n st i W : Nat} {bs : List Nat} {t1 t2 t3 tt : Tok} {rest keep all : List (Addr × Obj)} {m' : Str → Option Value} {s₁ : Shared} {tk : Nat} {vb : Value}
    (h0 : 0 < i) (hW : W = (wA n st bs i / n + 1) * n) (F : Fr g L h' m') (N : News g L h' all)
    (hsub : ∀ p ∈ (I, oI) :: (e, listOf items.toArray ep) :: (lc, listOf (ab3 n W t1 t2 t3) ec) :: c :: rest, p ∈ all)
    (hI : @Ne Nat e I ∧ @Ne Nat lc I ∧ @Ne Nat c.1 I ∧ ∀ p ∈ rest, @Ne Nat p.1 I) (off : ∀ p ∈ rest, @Ne Nat p.1 e) (lce : @Ne Nat lc e) (ce : @Ne Nat c.1 e)
    (ma : m' (Str.ofString "above") = some (.ref lc)) (mt : m' (Str.ofString "turns") = some (.int (W / (6 * n) : Nat) tt)) (me : m' (Str.ofString "ends") = some (.ref e)) (mb : m' (Str.ofString "blanks") = some vb)
    (hkeep : ∀ p ∈ keep, p ∈ (lc, listOf (ab3 n W t1 t2 t3) ec) :: rest) :
    Flow.next = Flow.next ∧ MidS g L I oI (fun m' news' => MidJ n (if i = 0 then st * n else (wA n st bs i / n + 1) * n) ((if i = 0 then st * n else (wA n st bs i / n + 1) * n) / (6 * n)) c e items ep keep m' news' ∧ m' (Str.ofString "blanks") = some vb) s₁ { s₁ with heap := h', toks := tk } := by
  rw [if_neg (by omega), ← hW]
  refine ⟨rfl, h', tk, m', _, rfl, F, fun p hp => N p (hsub p hp), ?_, ⟨lc, ec, t1, t2, t3, tt, rest, off, lce, ce, ma, mt, me, rfl, hkeep⟩, mb⟩
  simp only [List.forall_mem_cons]
  exact hI
/-- an entry of ends, told of the heap -/
noncomputable def EntryH (n W : Nat) (v : Option Value) (h h' : Heap) : Prop :=
  ∃ p l t t1 t2 t3 el, v = some (.ref p) ∧ h.get? p = none ∧ h.get? l = none ∧ h'.get? p = some (tupOf [.int ((W / (6 * n) : Nat) : Int) t, .ref l]) ∧ h'.get? l = some (listOf (ab3 n W t1 t2 t3) el)
/-- what _law_ends gives back -/
noncomputable def PEnds (n st : Nat) (bs : List Nat) (k : Nat) (h : Heap) (v : Value) (h' : Heap) : Prop :=
  ∃ e items ep, v = .ref e ∧ h.get? e = none ∧ h'.get? e = some (listOf (List.toArray items) ep) ∧ items.length = k ∧ ∀ j < k, EntryH n (wA n st bs (j + 1)) items[j]? h h'
theorem ends_post {n st k : Nat} {bs : List Nat} {h h' g : Heap} {L e : Addr} {all keep : List (Addr × Obj)} {items : List Value} {ep : Nat} (S : Split h [] g) (N : News g L h' all) (he : (e, listOf items.toArray ep) ∈ all) (hk : ∀ p ∈ keep, p ∈ all) (hl : items.length = k)
    (hent : ∀ j < k, Entry n (wA n st bs (j + 1)) items[j]? keep) : PEnds n st bs k h (.ref e) h' := by
  have new : ∀ p ∈ all, h.get? p.1 = none ∧ h'.get? p.1 = some p.2 := fun p hp => S.new N (a := p.1) (o := p.2) hp (by simp)
  refine ⟨e, items, ep, rfl, (new _ he).1, (new _ he).2, hl, fun j hj => ?_⟩
  obtain ⟨p, l, t, t1, t2, t3, el, a, b, c⟩ := hent j hj
  exact ⟨p, l, t, t1, t2, t3, el, a, (new _ (hk _ b)).1, (new _ (hk _ c)).1, (new _ (hk _ b)).2, (new _ (hk _ c)).2⟩
end Mine
end PartEn13
section PartWh0
open PySem PySem.W PyProof.Rows PySem.Calls PyProof.Rows.LCg
set_option maxRecDepth 100000
set_option maxHeartbeats 8000000
namespace Mine
section
variable {prog : Program} {w : World} {A : Around} {E : Value → Shared → Prop} {s : Shared} {K : Frag} {C L : Addr} {h₀ : Heap} {m : Str → Option Value} {news : List (Addr × Obj)} {Q : Value → Shared → Prop}
/-- a class of the text called: the heap only grows -/
theorem call_clsE {pos : List Value} {kw : List (Str × Value)} {fI : Addr} (F : Fr h₀ L s.heap m) (X₀ : K.In h₀) (N : News h₀ L s.heap news) (hm : makesIn K C = true) (hi : findIn K (.ref C) "__init__" = some (some (.ref fI))) (hf : isFn K (.ref fI) = true)
    (h : ∀ x dx h', Ext s.heap h' → s.heap.get? x = none → s.heap.get? dx = none → Fr h₀ L h' m → News h₀ L h' ((x, instObj C dx) :: (dx, dictOf [] 0) :: news) → @LT.lt Nat _ dx x →
      codeAny (model prog w) (A.under (.builtin "type.__call__" ⟨.ref C :: pos, kw⟩)) (.call (.ref fI) ⟨.ref x :: pos, kw⟩) (InitBack x fun r s' => match r with | .ok (.ret v) => Q v s' | .ok _ => False | .error e => E e s') { s with heap := h' }) :
    wpAny (model prog w) A (call (.ref C) pos kw) Q E s := by
  refine wpAny_call ?_
  have X : K.In s.heap := X₀.keeps F.keep
  obtain ⟨hh, g, d, t, os⟩ := s
  have nn : ∀ a, hh.objs.size ≤ a → hh.get? a = none := fun a ha => by
    cases e : hh.get? a with
    | none => rfl
    | some o => exact absurd (Heap.lt_size e) (Nat.not_lt.mpr ha)
  refine make_core (makes_of X hm) (looks_findIn X hi) (fun self => bind_fn X self (beq_iff_eq.mp hf)) (.inl rfl) (h _ hh.objs.size _ (fun b o e => Heap.get?_push_of_some _ (Heap.get?_push_of_some _ e)) (nn _ (Nat.le_succ _)) (nn _ (Nat.le_refl _)) ((F.push _).push _) ?_ (Nat.lt_succ_self _))
  have := (N.push F emptyDict).push (F.push _) (instObj C hh.objs.size)
  rwa [Heap.size_push] at this
end
section
variable {prog : Program} {w : World} {A : Around} {E : Value → Shared → Prop} {s : Shared} {env : Env} {h₀ : Heap} {x : Str} {body : List Stmt} {Q : Flow → Shared → Prop}
/-- a loop over a text's signs, by what holds of the names and of the ledger -/
theorem iterS {tx : Str} {tt : Tok} {m₀ : Str → Option Value} {news : List (Addr × Obj)} (J : Nat → (Str → Option Value) → List (Addr × Obj) → Prop)
    (hh : A.handled = none) (F : Fr h₀ env.locals s.heap m₀) (N : News h₀ env.locals s.heap news) (hj : J 0 m₀ news)
    (turn : ∀ i c u m₁ news₁ h tk I oI, i < tx.cps.size → tx.cps[i]? = some c → J i m₁ news₁ → (∀ p ∈ news₁, @Ne Nat p.1 I) → Fr h₀ env.locals h (fun y => if y = x then some (.str ⟨#[c]⟩ u) else m₁ y) → News h₀ env.locals h ((I, oI) :: news₁) →
      wpAny (model prog w) A (execs body env) (TurnEnd h₀ env.locals (J (i + 1)) I oI { s with heap := h, toks := tk } Q) E { s with heap := h, toks := tk })
    (done : ∀ m₁ news₁ h tk, J tx.cps.size m₁ news₁ → Fr h₀ env.locals h m₁ → News h₀ env.locals h news₁ → Q .next { s with heap := h, toks := tk }) :
    wpAny (model prog w) A (pyIter (.str tx tt)) (fun it s₂ => LoopAtV prog w A h₀ env x body Q E it s₂) E s := by
  have key : ∀ (tn : String) (o : Obj), Walks prog w A s.heap.objs.size [s.heap.objs.size] [s.heap.objs.size] tx.cps.size (SignAt tx) (fun i h => h.IsStrIter s.heap.objs.size tn tx tt i) → (s.heap.push o).IsStrIter s.heap.objs.size tn tx tt 0 →
      LoopAtV prog w A h₀ env x body Q E (.ref s.heap.objs.size) { s with heap := s.heap.push o } := by
    intro tn o W hst
    refine ⟨_, _, _, tx.cps.size, _, _, m₀, news, J, rfl, W, ?_, ?_, ?_, hst, F.push _, (fun p hp => ⟨Heap.get?_push_of_some _ (N p hp).1, (N p hp).2⟩), hj, ?_, ?_⟩
    · intro hm
      exact absurd F.ns.lt ((List.mem_singleton.mp hm) ▸ Nat.lt_irrefl _)
    · intro b hb
      rw [List.mem_singleton.mp hb]
      exact next_is_new F
    · intro p hp hI
      exact absurd (Heap.lt_size (N p hp).1) ((List.mem_singleton.mp hI) ▸ Nat.lt_irrefl _)
    · rintro i v m₁ news₁ s₁ own ⟨hh', tk', rfl⟩ hin hP hJ hoff hown hat hall hst' F₁ N₁
      obtain ⟨c, u, hc, rfl⟩ := hP
      obtain ⟨oI, heI, _⟩ := hst'
      have hI₀ : h₀.get? s.heap.objs.size = none := next_is_new F
      have mI := hall s.heap.objs.size (by simp) hI₀ oI heI
      have NI : News h₀ env.locals hh' ((s.heap.objs.size, oI) :: news₁) := fun p hp => by
        rcases List.mem_cons.mp hp with rfl | hp
        · exact N₁ _ (List.mem_append_left _ mI)
        · exact N₁ p (List.mem_append_right _ hp)
      refine wpAny_mono (turn i c u m₁ news₁ hh' tk' s.heap.objs.size oI hin hc hJ (fun p hp e => hoff p hp (by rw [List.mem_singleton]; exact e)) F₁ NI) (fun f s₂ p => ?_) fun _ _ e => e
      have fin : (∃ h' tk m' news', s₂ = { s with heap := h', toks := tk } ∧ Fr h₀ env.locals h' m' ∧ News h₀ env.locals h' ((s.heap.objs.size, oI) :: news') ∧ (∀ p ∈ news', @Ne Nat p.1 s.heap.objs.size) ∧ J (i + 1) m' news') →
          LoopStepU h₀ env.locals [s.heap.objs.size] own (J (i + 1)) { s with heap := hh', toks := tk' } .next s₂ := by
        rintro ⟨h', tk, m', news', e, F', N', hn, hm⟩
        refine ⟨rfl, h', tk, m', news', e, F', fun p hp => ?_, fun p hp hq => hn p hp (List.mem_singleton.mp hq), hm⟩
        rcases List.mem_append.mp hp with hp | hp
        · have q := List.mem_singleton.mp (hown p hp)
          have e2 := hat p hp
          rw [q] at e2
          have e3 : p = (s.heap.objs.size, oI) := Prod.ext q (Option.some.inj (e2.symm.trans heI))
          rw [e3]; exact N' _ List.mem_cons_self
        · exact N' p (List.mem_cons_of_mem _ hp)
      cases f with
      | ret v => exact .ret p
      | brk => exact .brk p
      | next => exact .next (fin p)
      | cont => exact .cont (fin p)
    · rintro h' tk m' news' F' N' _ hJ
      exact done m' news' h' tk hJ F' N'
  cases ha : tx.cps.all (· < 128)
  · exact wpAny_pyIter_wide ha (key _ _ (Walks.strWide hh _ tx tt) ⟨_, Heap.get?_push_size _ rfl, rfl, rfl⟩)
  · exact wpAny_pyIter_ascii ha (key _ _ (Walks.strAscii hh _ tx tt) ⟨_, Heap.get?_push_size _ rfl, rfl, rfl⟩)
end
end Mine
end PartWh0
section PartWh1
open PySem PySem.W PyProof.Rows PySem.Calls PyProof.Rows.LCg
set_option maxRecDepth 100000
set_option maxHeartbeats 8000000
namespace Mine
/-- one more run of b blanks ahead of a tab -/
noncomputable def bump (cs : List Int) (b : Int) : List Int :=
  if (cs.length : Int) ≤ b then (cs ++ (List.replicate (b - cs.length + 1).toNat [(0 : Int)]).flatten).set b.toNat ((cs ++ (List.replicate (b - cs.length + 1).toNat [(0 : Int)]).flatten).getD b.toNat 0 + 1)
  else cs.set b.toNat (cs.getD b.toNat 0 + 1)
structure Sc where
  cs : List Int
  b : Int
  nt : Int
  n : Int
noncomputable def stp (σ : Sc) (c : Nat) : Sc := if c = 32 then ⟨σ.cs, σ.b + 1, σ.nt, σ.n + 1⟩ else ⟨bump σ.cs σ.b, 0, σ.nt + 1, σ.n + 1⟩
/-- what Whitespace.__init__ counts -/
noncomputable def scan (l : List Nat) : Sc := l.foldl stp ⟨[], 0, 0, 0⟩
theorem scan_snoc (l : List Nat) (c : Nat) : scan (l ++ [c]) = stp (scan l) c := by simp [scan]
theorem bump_length {cs : List Int} {b : Int} : (bump cs b).length = if (cs.length : Int) ≤ b then b.toNat + 1 else cs.length := by
  unfold bump
  split
  · rw [List.length_set, List.length_append, KM.len_rep]
    simp only [List.length_cons, List.length_nil]
    omega
  · simp
theorem scan_bound_aux : ∀ (l : List Nat) (σ : Sc) (k : Nat), (0 ≤ σ.b ∧ σ.b ≤ k ∧ σ.cs.length ≤ k ∧ 0 ≤ σ.nt ∧ σ.nt ≤ k ∧ 0 ≤ σ.n ∧ σ.n ≤ k) → (0 ≤ (l.foldl stp σ).b ∧ (l.foldl stp σ).b ≤ k + l.length ∧ (l.foldl stp σ).cs.length ≤ k + l.length ∧ 0 ≤ (l.foldl stp σ).nt ∧ (l.foldl stp σ).nt ≤ k + l.length ∧ 0 ≤ (l.foldl stp σ).n ∧ (l.foldl stp σ).n ≤ k + l.length)
  | [], σ, k, h => by simpa using h
  | c :: r, σ, k, h => by
    have := scan_bound_aux r (stp σ c) (k + 1) (by
      unfold stp
      split
      · refine ⟨?_, ?_, ?_, ?_, ?_, ?_, ?_⟩ <;> dsimp only <;> omega
      · refine ⟨?_, ?_, ?_, ?_, ?_, ?_, ?_⟩ <;> dsimp only
        · omega
        · omega
        · rw [bump_length]; split <;> omega
        all_goals omega)
    simp only [List.foldl_cons, List.length_cons]
    refine ⟨this.1, ?_, ?_, this.2.2.2.1, ?_, this.2.2.2.2.2.1, ?_⟩ <;> omega
theorem scan_bound (l : List Nat) : 0 ≤ (scan l).b ∧ (scan l).b ≤ l.length ∧ (scan l).cs.length ≤ l.length ∧ 0 ≤ (scan l).nt ∧ (scan l).nt ≤ l.length ∧ 0 ≤ (scan l).n ∧ (scan l).n ≤ l.length := by
  have := scan_bound_aux l ⟨[], 0, 0, 0⟩ 0 (by simp)
  simpa [scan] using this
theorem map1 {m : Str → Option Value} {a : Str} {va : Value} (h : m a = some va) (z : Str) : (if z = a then some va else m z) = m z := by
  by_cases q : z = a
  · rw [if_pos q, q, h]
  · rw [if_neg q]
theorem map7 {m : Str → Option Value} {a1 a2 a3 a4 a5 a6 a7 : Str} {v1 v2 v3 v4 v5 v6 v7 : Value} (h1 : m a1 = some v1) (h2 : m a2 = some v2) (h3 : m a3 = some v3) (h4 : m a4 = some v4) (h5 : m a5 = some v5) (h6 : m a6 = some v6) (h7 : m a7 = some v7) :
    m = fun z => if z = a1 then some v1 else if z = a2 then some v2 else if z = a3 then some v3 else if z = a4 then some v4 else if z = a5 then some v5 else if z = a6 then some v6 else if z = a7 then some v7 else m z := by
  funext z
  rw [map1 h7, map1 h6, map1 h5, map1 h4, map1 h3, map1 h2, map1 h1]
/-- what holds between the turns of Whitespace.__init__'s loop -/
noncomputable def InitJ (l : List Nat) (x0 d0 : Addr) (oD : Obj) (tS tT : Tok) (i : Nat) (m : Str → Option Value) (news : List (Addr × Obj)) : Prop :=
  i ≤ l.length ∧ ∃ lc vs e tb tn tnt, news = [(lc, listOf (List.toArray vs) e), (x0, instObj 118 d0), (d0, oD)] ∧ IntsAre vs (scan (l.take i)).cs ∧ @Ne Nat lc x0 ∧ @Ne Nat lc d0 ∧
    m (Str.ofString "count") = some (.ref lc) ∧ m (Str.ofString "b") = some (.int (scan (l.take i)).b tb) ∧ m (Str.ofString "n") = some (.int (scan (l.take i)).n tn) ∧ m (Str.ofString "nt") = some (.int (scan (l.take i)).nt tnt) ∧
    m (Str.ofString "self") = some (.ref x0) ∧ m (Str.ofString "S") = some (.str (Str.ofString " ") tS) ∧ m (Str.ofString "T") = some (.str (Str.ofString "\t") tT)
theorem codes_at {tx : Str} {l : List Nat} {i c : Nat} (hl : tx.cps.toList = l ++ [120]) (hc : tx.cps[i]? = some c) (hi : i ≤ l.length) : (i < l.length ∧ l[i]? = some c ∧ l.take (i + 1) = l.take i ++ [c]) ∨ (i = l.length ∧ c = 120 ∧ l.take i = l) := by
  rw [← Array.getElem?_toList, hl] at hc
  rcases Nat.lt_or_ge i l.length with q | q
  · rw [List.getElem?_append_left q] at hc
    exact .inl ⟨q, hc, by rw [List.take_add_one, hc]; rfl⟩
  · have e : i = l.length := by omega
    subst e
    rw [List.getElem?_append_right (Nat.le_refl _)] at hc
    simp at hc
    exact .inr ⟨rfl, hc.symm, by simp⟩
theorem codes_size {tx : Str} {l : List Nat} (hl : tx.cps.toList = l ++ [120]) : tx.cps.size = l.length + 1 := by
  rw [← Array.length_toList, hl]; simp
theorem init_turn {g h' : Heap} {L I x0 d0 lc : Addr} {oI oD : Obj} {tS tT tb tn tnt : Tok} {l : List Nat} {i e : Nat} {vs : List Value} {cs' : List Int} {b' nt' n' : Int} {all : List (Addr × Obj)} {m' : Str → Option Value} {s₁ : Shared} {tk : Nat} {Q : Flow → Shared → Prop}
    (hi : i < l.length) (hs : scan (l.take (i + 1)) = ⟨cs', b', nt', n'⟩) (F : Fr g L h' m') (N : News g L h' all) (hvs : IntsAre vs cs') (h1 : (I, oI) ∈ all) (h2 : (lc, listOf vs.toArray e) ∈ all) (h3 : (x0, instObj 118 d0) ∈ all) (h4 : (d0, oD) ∈ all)
    (hI : @Ne Nat lc I ∧ @Ne Nat x0 I ∧ @Ne Nat d0 I) (ne1 : @Ne Nat lc x0) (ne2 : @Ne Nat lc d0)
    (e1 : m' (Str.ofString "count") = some (.ref lc)) (e2 : m' (Str.ofString "b") = some (.int b' tb)) (e3 : m' (Str.ofString "n") = some (.int n' tn)) (e4 : m' (Str.ofString "nt") = some (.int nt' tnt))
    (e5 : m' (Str.ofString "self") = some (.ref x0)) (e6 : m' (Str.ofString "S") = some (.str (Str.ofString " ") tS)) (e7 : m' (Str.ofString "T") = some (.str (Str.ofString "\t") tT)) :
    TurnEnd g L (InitJ l x0 d0 oD tS tT (i + 1)) I oI s₁ Q .next { s₁ with heap := h', toks := tk } := by
  refine ⟨h', tk, m', [(lc, listOf vs.toArray e), (x0, instObj 118 d0), (d0, oD)], rfl, F, fun p hp => N p ?_, ?_, hi, lc, vs, e, tb, tn, tnt, rfl, by rw [hs]; exact hvs, ne1, ne2, e1, by rw [hs]; exact e2, by rw [hs]; exact e3, by rw [hs]; exact e4, e5, e6, e7⟩
  · simp only [List.mem_cons, List.not_mem_nil, or_false] at hp
    rcases hp with rfl | rfl | rfl | rfl <;> assumption
  · simp only [List.forall_mem_cons]
    exact ⟨hI.1, hI.2.1, hI.2.2, by intro p hp; cases hp⟩
theorem bump_in {cs : List Int} {b : Int} (h : b < cs.length) : bump cs b = cs.set b.toNat (cs.getD b.toNat 0 + 1) := by
  unfold bump; rw [if_neg (by omega)]
theorem bump_out {cs : List Int} {b : Int} (h : (cs.length : Int) ≤ b) : bump cs b = (cs ++ (List.replicate (b - cs.length + 1).toNat [(0 : Int)]).flatten).set b.toNat ((cs ++ (List.replicate (b - cs.length + 1).toNat [(0 : Int)]).flatten).getD b.toNat 0 + 1) := by
  unfold bump; rw [if_pos h]
theorem tuple_of {prog : Program} {w : World} {A : Around} {E : Value → Shared → Prop} {s : Shared} {h₀ : Heap} {L l : Addr} {m : Str → Option Value} {news : List (Addr × Obj)} {vs : List Value} {e : Nat} {Q : Value → Shared → Prop} (F : Fr h₀ L s.heap m) (N : News h₀ L s.heap news) (hm : (l, listOf vs.toArray e) ∈ news) (hz : vs.length ≤ 1000)
    (h : ∀ D h', Fr h₀ L h' m → News h₀ L h' ((D, tupOf vs) :: news) → (∀ p ∈ news, p.1 < D) → Q (.ref D) { s with heap := h' }) : wpAny (model prog w) A (call (.type "tuple") [.ref l]) Q E s :=
  kde_tupleOf (items := vs.toArray) (zs := vs) F N (News.isList N hm) (by rw [List.size_toArray]; omega) (by simp) h
/-- what a Whitespace is made of -/
noncomputable def whiteObjs (P : Params) (x d q c : Addr) (vs : List Value) (b nt n : Int) (tx : Str) (is : Bool) (k1 k2 k3 k4 k5 t1 t2 t3 t4 : Tok) : List (Addr × Obj) :=
  [(x, instObj 118 d), (d, dictOf [⟨PyData.keyHash P (Str.ofString "raw"), .str (Str.ofString "raw") k1, .str tx t1⟩, ⟨PyData.keyHash P (Str.ofString "n"), .str (Str.ofString "n") k2, .int n t2⟩, ⟨PyData.keyHash P (Str.ofString "nt"), .str (Str.ofString "nt") k3, .int nt t3⟩,
    ⟨PyData.keyHash P (Str.ofString "norm"), .str (Str.ofString "norm") k4, .ref q⟩, ⟨PyData.keyHash P (Str.ofString "is_simple"), .str (Str.ofString "is_simple") k5, .bool is⟩] 5), (q, tupOf [.ref c, .int b t4]), (c, tupOf vs)]
/-- what Whitespace(text) gives back -/
noncomputable def PWhite (P : Params) (σ : Sc) (h : Heap) (v : Value) (h' : Heap) : Prop :=
  ∃ x d q c vs tx is k1 k2 k3 k4 k5 t1 t2 t3 t4, v = .ref x ∧ IntsAre vs σ.cs ∧ ∀ p ∈ whiteObjs P x d q c vs σ.b σ.nt σ.n tx is k1 k2 k3 k4 k5 t1 t2 t3 t4, h.get? p.1 = none ∧ h'.get? p.1 = some p.2
theorem scan_tab_in {l : List Nat} {i : Nat} {ns : List Int} {b nt nn : Int} (q3 : l.take (i + 1) = l.take i ++ [9]) (hσ : scan (l.take i) = ⟨ns, b, nt, nn⟩) (qb : b < ns.length) : scan (l.take (i + 1)) = ⟨ns.set b.toNat (ns.getD b.toNat 0 + 1), 0, nt + 1, nn + 1⟩ := by
  rw [q3, scan_snoc, hσ]; exact congrArg (fun z => Sc.mk z _ _ _) (bump_in qb)
theorem scan_tab_out {l : List Nat} {i : Nat} {ns : List Int} {b nt nn : Int} (q3 : l.take (i + 1) = l.take i ++ [9]) (hσ : scan (l.take i) = ⟨ns, b, nt, nn⟩) (qb : (ns.length : Int) ≤ b) :
    scan (l.take (i + 1)) = ⟨(ns ++ (List.replicate (b - ns.length + 1).toNat [(0 : Int)]).flatten).set b.toNat ((ns ++ (List.replicate (b - ns.length + 1).toNat [(0 : Int)]).flatten).getD b.toNat 0 + 1), 0, nt + 1, nn + 1⟩ := by
  rw [q3, scan_snoc, hσ]; exact congrArg (fun z => Sc.mk z _ _ _) (bump_out qb)
theorem init_ext {h h0 g h' : Heap} {x0 d0 L : Addr} {o1 o2 : Obj} {m : Str → Option Value} (e0 : Ext h h0) (nx : h.get? x0 = none) (nd : h.get? d0 = none) (S : Split h0 [(x0, o1), (d0, o2)] g) (F : Fr g L h' m) : Ext h h' := fun b o e => by
  rcases S b o (e0 b o e) with q | q
  · simp only [List.mem_cons, List.not_mem_nil, or_false, Prod.mk.injEq] at q
    rcases q with ⟨rfl, _⟩ | ⟨rfl, _⟩
    · rw [nx] at e; cases e
    · rw [nd] at e; cases e
  · exact F.keep b o q
theorem init_new {h h0 g h' : Heap} {x0 d0 L : Addr} {o1 o2 : Obj} {all : List (Addr × Obj)} (e0 : Ext h h0) (nx : h.get? x0 = none) (nd : h.get? d0 = none) (S : Split h0 [(x0, o1), (d0, o2)] g) (N : News g L h' all) (p : Addr × Obj) (hp : p ∈ all) : h.get? p.1 = none ∧ h'.get? p.1 = some p.2 := by
  refine ⟨?_, (N p hp).1⟩
  cases q : h.get? p.1 with
  | none => rfl
  | some o =>
    rcases S p.1 o (e0 _ _ q) with z | z
    · simp only [List.mem_cons, List.not_mem_nil, or_false, Prod.mk.injEq] at z
      rcases z with ⟨z, _⟩ | ⟨z, _⟩
      · rw [z, nx] at q; cases q
      · rw [z, nd] at q; cases q
    · rw [(N p hp).2.2] at z; cases z
theorem init_post {P : Params} {h h0 g h' : Heap} {x0 d0 q c L : Addr} {o1 o2 : Obj} {all : List (Addr × Obj)} {vs : List Value} {b nt n : Int} {tx : Str} {is : Bool} {k1 k2 k3 k4 k5 t1 t2 t3 t4 : Tok} {σ : Sc} {ns : List Int} (hσ : σ = ⟨ns, b, nt, n⟩) (hvs : IntsAre vs ns)
    (e0 : Ext h h0) (nx : h.get? x0 = none) (nd : h.get? d0 = none) (S : Split h0 [(x0, o1), (d0, o2)] g) (N : News g L h' all)
    (a1 : (x0, instObj 118 d0) ∈ all) (a2 : (d0, dictOf [⟨PyData.keyHash P (Str.ofString "raw"), .str (Str.ofString "raw") k1, .str tx t1⟩, ⟨PyData.keyHash P (Str.ofString "n"), .str (Str.ofString "n") k2, .int n t2⟩, ⟨PyData.keyHash P (Str.ofString "nt"), .str (Str.ofString "nt") k3, .int nt t3⟩,
    ⟨PyData.keyHash P (Str.ofString "norm"), .str (Str.ofString "norm") k4, .ref q⟩, ⟨PyData.keyHash P (Str.ofString "is_simple"), .str (Str.ofString "is_simple") k5, .bool is⟩] 5) ∈ all) (a3 : (q, tupOf [.ref c, .int b t4]) ∈ all) (a4 : (c, tupOf vs) ∈ all) : PWhite P σ h (.ref x0) h' := by
  subst hσ
  refine ⟨x0, d0, q, c, vs, tx, is, k1, k2, k3, k4, k5, t1, t2, t3, t4, rfl, hvs, fun p hp => init_new e0 nx nd S N p ?_⟩
  simp only [whiteObjs, List.mem_cons, List.not_mem_nil, or_false] at hp
  rcases hp with rfl | rfl | rfl | rfl <;> assumption
end Mine
end PartWh1
section PartCI
open PySem PySem.W PyProof.Rows PySem.Calls
set_option maxRecDepth 100000
set_option maxHeartbeats 8000000
namespace Mine

theorem white_ctr (w : World) (tx : Str) (tk0 : Tok) (l : List Nat) (hl : tx.cps.toList = l ++ [120]) (hc : ∀ c ∈ l, c = 32 ∨ c = 9) (hz : l.length ≤ 1000) : Ctr w 2 40 118 [.str tx tk0] [] (PWhite w.params (scan l)) := by
  intro mean mg mb dp un gd cn cs a ccd cl outer A₀ base h₀ L m s Q E B F X N T hk hdp hun ret
  k_dflt (refine' call_clsE ?k1 ?k2 ?k3 ?k4 ?k5 ?k6 ?_; (case k1 => k_asm); (case k2 => k_asm); (case k3 => k_asm); (case k4 => k_is); (case k5 => k_is); (case k6 => k_is); k_whole)
  intro x0 d0 h0 ext0 nx0 nd0 F0 N0 lt0
  clear F N
  k_dflt (refine' code_defE ?k1 ?k2 ?k3 ?k4 ?k5 ?kA ?kF ?kK ?k6 ?k7 ?k8 ?k9 ?kB ?_ ?c2 ?c3 ?c4 ?c5; (case kA => exact rfl); (case kF => exact rfl); (case kK => assumption); (case k1 => k_asm); (case k2 => k_asm); (case k3 => k_asm); (case k4 => k_asm); (case k5 => k_asm); (case k6 => k_is); (case k7 => k_is); (case k8 => ktr_room); (case k9 => exact BindsTo.of_eq rfl); (case c5 => decide); (case kB => exact locs rfl); (case c2 => exact rfl); (case c3 => exact rfl); (case c4 => exact rfl); k_whole)
  intro g1 L1 h1 S1 FG1 F1 N1 B1 X1 T1
  clear F0 N0 FG1
  (try dsimp only)
  (try k_lift B1)
  (try k_fold)
  repeat' ((fail_if_success (with_reducible show Hold _)); first | ((with_reducible show wpAny _ _ (exec (Stmt.For _ _ _ _ _) _) _ _ _); refine hold ?_) | (k_unfold; (try dsimp only)) | (k_end; wrow_close) | walk1 | (dsimp only; walk1) | (leave1; walk_say "STEP leave1"; try dsimp only) | fail "no step")
  refine Hold.of ?_
  refine For_invV g1 (by rfl) (by rfl) ?_ (by intro _; rfl) (by passes_own)
  repeat' ((fail_if_success (with_reducible show Hold _)); first | ((with_reducible show wpAny _ _ (pyIter (Value.str _ _)) _ _ _); refine hold ?_) | (k_unfold; (try dsimp only)) | (k_end; wrow_close) | walk1 | (dsimp only; walk1) | (leave1; walk_say "STEP leave1"; try dsimp only) | fail "no step")
  refine Hold.of ?_
  rename News _ _ _ _ => NN
  rename Fr _ _ _ _ => FF
  refine' iterS (InitJ l x0 d0 (dictOf [⟨_, _, _⟩] 1) _ _) (by rfl) FF (cb_drop NN ?sub) ⟨Nat.zero_le _, _, [], _, _, _, _, rfl, .nil, ?ne1, ?ne2, by rfl, by rfl, by rfl, by rfl, by rfl, by rfl, by rfl⟩ ?turn ?done
  case sub => refine' List.forall_mem_cons.mpr ⟨?_, List.forall_mem_cons.mpr ⟨?_, List.forall_mem_cons.mpr ⟨?_, ?_⟩⟩⟩ <;> first | k_mem | (intro p hp; cases hp)
  case ne1 => (refine neN ?_; omega)
  case ne2 => (refine neN ?_; omega)
  case done =>
    rintro m1 news1 h tk ⟨hle, _⟩
    exact absurd hle (by rw [codes_size hl]; omega)
  case turn =>
    clear NN FF
    intro i c u m1 news1 h tk I oI hi hci hJ hI F1 N1
    obtain ⟨hle, lc, vs, e, tb, tn, tnt, rfl, hvs, ne1, ne2, e1, e2, e3, e4, e5, e6, e7⟩ := hJ
    have bd := scan_bound (l.take i)
    have hlt : (l.take i).length ≤ 1000 := by rw [List.length_take]; omega
    simp only [List.forall_mem_cons] at hI
    rw [map7 e1 e2 e3 e4 e5 e6 e7] at F1
    rcases codes_at hl hci hle with ⟨q1, q2, q3⟩ | ⟨q1, rfl, q3⟩
    · have hc' := hc c (List.mem_of_getElem? q2)
      generalize hσ : scan (l.take i) = σ at *
      obtain ⟨ns, b, nt, nn⟩ := σ
      dsimp only at *
      rcases hc' with rfl | rfl
      · have hs' : scan (l.take (i + 1)) = ⟨ns, b + 1, nt, nn + 1⟩ := by rw [q3, scan_snoc, hσ]; rfl
        (try dsimp only)
        repeat' ((fail_if_success (with_reducible show Hold _)); first | ((with_reducible show TurnEnd _ _ _ _ _ _ _ Flow.next _); refine hold ?_) | (k_unfold; (try dsimp only)) | (k_end; wrow_close) | walk1 | (dsimp only; walk1) | (leave1; walk_say "STEP leave1"; try dsimp only) | fail "no step")
        refine Hold.of ?_
        rename News _ _ _ _ => NE
        rename Fr _ _ _ _ => FE
        refine' init_turn q1 hs' FE NE (by with_reducible assumption) (by k_mem) ?h2 (by k_mem) (by k_mem) ⟨?n1, ?n2, ?n3⟩ ?n4 ?n5 (by rfl) (by rfl) (by rfl) (by rfl) (by rfl) (by rfl) (by rfl)
        case h2 => k_mem
        case n1 => (refine neN ?_; omega)
        case n2 => (refine neN ?_; omega)
        case n3 => (refine neN ?_; omega)
        case n4 => (refine neN ?_; omega)
        case n5 => (refine neN ?_; omega)
      · have hvl := hvs.length
        have hva : vs.toArray.size = ns.length := by rw [List.size_toArray]; exact hvl
        rcases Int.lt_or_le b ns.length with qb | qb
        · have hs' := scan_tab_in q3 hσ qb
          (try dsimp only)
          repeat' ((fail_if_success (with_reducible show Hold _)); first | ((with_reducible show TurnEnd _ _ _ _ _ _ _ Flow.next _); refine hold ?_) | (k_unfold; (try dsimp only)) | (k_end; wrow_close) | walk1 | (dsimp only; walk1) | (leave1; walk_say "STEP leave1"; try dsimp only) | fail "no step")
          refine Hold.of ?_
          rename News _ _ _ _ => NE
          rename Fr _ _ _ _ => FE
          refine' init_turn q1 hs' FE NE (by with_reducible assumption) (by k_mem) ?h2 (by k_mem) (by k_mem) ⟨?n1, ?n2, ?n3⟩ ?n4 ?n5 (by rfl) (by rfl) (by rfl) (by rfl) (by rfl) (by rfl) (by rfl)
          case h2 => k_mem
          case n1 => (refine neN ?_; omega)
          case n2 => (refine neN ?_; omega)
          case n3 => (refine neN ?_; omega)
          case n4 => (refine neN ?_; omega)
          case n5 => (refine neN ?_; omega)
        · have hs' := scan_tab_out q3 hσ qb
          (try dsimp only)
          repeat' ((fail_if_success (with_reducible show Hold _)); first | ((with_reducible show TurnEnd _ _ _ _ _ _ _ Flow.next _); refine hold ?_) | (k_unfold; (try dsimp only)) | (k_end; wrow_close) | walk1 | (dsimp only; walk1) | (leave1; walk_say "STEP leave1"; try dsimp only) | fail "no step")
          refine Hold.of ?_
          rename News _ _ _ _ => NE
          rename Fr _ _ _ _ => FE
          refine' init_turn q1 hs' FE NE (by with_reducible assumption) (by k_mem) ?h2 (by k_mem) (by k_mem) ⟨?n1, ?n2, ?n3⟩ ?n4 ?n5 (by rfl) (by rfl) (by rfl) (by rfl) (by rfl) (by rfl) (by rfl)
          case h2 => k_mem
          case n1 => (refine neN ?_; omega)
          case n2 => (refine neN ?_; omega)
          case n3 => (refine neN ?_; omega)
          case n4 => (refine neN ?_; omega)
          case n5 => (refine neN ?_; omega)
    · generalize hσ : scan (l.take i) = σ at *
      obtain ⟨ns, b, nt, nn⟩ := σ
      dsimp only at *
      have hvl := hvs.length
      have hva : vs.toArray.size = ns.length := by rw [List.size_toArray]; exact hvl
      repeat' ((fail_if_success (with_reducible show Hold _)); first | ((with_reducible show TurnEnd _ _ _ _ _ _ _ Flow.brk _); unfold TurnEnd; dsimp only) | ((with_reducible show Q _ _); refine hold ?_) | ((with_reducible show wpAny _ _ (call (Value.type _) [Value.ref _]) _ _ _); k_dflt (refine' tuple_of ?k1 ?k2 ?k3 ?k4 ?_; (case k1 => k_asm); (case k2 => k_asm); (case k3 => k_mem); (case k4 => omega); k_whole); intro D' h' F' N' l1; (try k_lt l1)) | (k_unfold; (try dsimp only)) | (k_end; wrow_close) | walk1 | (dsimp only; walk1) | (leave1; walk_say "STEP leave1"; try dsimp only) | fail "no step")
      refine Hold.of ?_
      rw [q3] at hσ
      rename News g1 _ _ _ => NE
      rename Fr g1 _ _ _ => FE
      exact ret _ _ _ (init_ext ext0 nx0 nd0 S1 FE) (init_post hσ hvs ext0 nx0 nd0 S1 NE (by k_mem) (by k_mem) (by k_mem) (by k_mem))
end Mine
end PartCI
section PartCEi
open PySem PySem.W PyProof.Rows PySem.Calls
set_option maxRecDepth 100000
set_option maxHeartbeats 8000000
namespace Mine
local macro_rules | `(tactic| walk_at "subscriptTail") => `(tactic| (k_here; (with_reducible show wpAny _ _ (subscriptTail _ _ (Value.ref _) (Value.int _ _)) _ _ _); (with_reducible rename News _ _ _ _ => N'); (with_unfolding_all refine' pick6 ?k0 N' ?kl ?h0 ?h1 ?h2 ?h3 ?h4 ?h5 ?hkd ?hk ?_ ?ks; (case hkd => with_reducible assumption); (case hk => k_mem); (case k0 => with_reducible assumption); (case kl => k_mem); (case h0 => k_mem); (case h1 => k_mem); (case h2 => k_mem); (case h3 => k_mem); (case h4 => k_mem); (case h5 => k_mem); (case ks => with_unfolding_all rfl); k_whole); clear N'; intro D9 c7 c8 c9 u7 u8 u9 N9 C9 i7 i8 i9))
local macro_rules | `(tactic| lcg_src) => `(tactic| (unfold TupIn; k_mem))
local macro_rules | `(tactic| k_all) => `(tactic| assumption)
theorem ends_ctr (w : World) (n st : Nat) (bs : List Nat) (vs : List Value) (t1 t2 : Tok) (lr : Addr) (hn : 1 ≤ n ∧ n ≤ 4) (hst : st < 6) (hbs : ∀ i v, vs[i]? = some v → ∃ t : Tok, v = Value.int ((bs.getD i 0 : Nat) : Int) t) (hb3 : ∀ i, bs.getD i 0 ≤ 3) (hvs : vs.length ≤ 1000) :
  ∀ (mean : ExcName → Option Value) (mg mb : Str → Option Value) (dp un : Nat) (gd : Option (List Code)) (cn : Str) (cs : Scope) (a : Addr) (ccd : Value) (cl : List (Str × Addr)) (outer : List Env) (A₀ : Around) (base h₀ : Heap) (L : Addr) (m : Str → Option Value) (s : Shared) (Q E : Value → Shared → Prop),
    Below A₀ base outer h₀ → Fr h₀ L s.heap m → (hd.heap_1 w.params).In h₀ → News h₀ L s.heap [] → Top vw lo mean mg mb h₀ → cs.kind = .function → dp + 2 < recursionLimit → un + 40 < cLine → s.heap.IsList lr vs.toArray →
    (∀ v h' tk', Ext s.heap h' → PEnds n st bs vs.length s.heap v h' → Q v { s with heap := h', toks := tk' }) →
    wpAny (model prog w) (ktrTop dp un gd cn cs L a ccd cl outer) (call (.ref 134) [.ref lr, .int st t1, .int n t2]) Q E s := by
  intro mean mg mb dp un gd cn cs a ccd cl outer A₀ base h₀ L m s Q E B F X N T hk hdp hun hrows ret
  refine wpAny_call ?_
  k_dflt (refine' code_defCE ?k1 ?k2 ?k3 ?k4 ?k5 ?kA ?kF ?kK ?k6 ?k7 ?k8 ?k9 ?kB ?kD ?_ ?c2 ?c3 ?c4; (case kA => exact rfl); (case kF => exact rfl); (case kK => assumption); (case k1 => k_asm); (case k2 => k_asm); (case k3 => k_asm); (case k4 => k_asm); (case k5 => k_asm); (case k6 => k_is); (case k7 => k_is); (case k8 => ktr_room); (case k9 => exact BindsTo.of_eq rfl); (case kB => exact rfl); (case kD => decide +kernel); (case c2 => exact rfl); (case c3 => exact rfl); (case c4 => exact rfl); k_whole)
  intro g1 L1 h1 tk1 cells1 S1 FG1 F1 N1 Y1 B1 X1 T1 l1
  (try k_lt l1)
  k_cells Y1
  (try simp only [List.cons_append, List.nil_append] at N1)
  clear F N FG1
  (try dsimp only)
  (try k_lift B1)
  (try k_fold)
  repeat' ((fail_if_success (with_reducible show Hold _)); first | ((with_reducible show wpAny _ _ (call (Value.ref 129) _) _ _ _); k_dflt (refine' use_list3 (step_ctr _ _ _ _ _ _ _ _ _ (by with_reducible assumption)) ?k1 ?k2 ?k3 ?k4 ?k5 ?kK ?kN ?kd ?ku ?_; (case k1 => k_asm); (case k2 => k_asm); (case k3 => k_asm); (case k4 => k_asm); (case k5 => k_asm); (case kK => first | exact rfl | assumption); (case kN => (intro q hq; simp only [List.mem_singleton] at hq; subst hq; k_mem)); (case kd => ktr_room); (case ku => ktr_units); k_whole); intro p9 s9 t9 u9 h9 tk9 F9 N9 l9; (replace l9 := neNat l9); (try simp only [List.forall_mem_cons] at l9); (try dsimp only); (try k_fold)) | ((with_reducible show wpAny _ _ (compareOp CmpOp.Eq (Value.ref _) (Value.ref _)) _ _ _); k_dflt (refine' eq3_ints ?k1 ?k2 ?k3 ?k4 (fun c9 => ?_) (fun c9 => ?_); (case k1 => k_asm); (case k2 => k_mem); (case k3 => k_mem); (case k4 => ktr_units))) | ((with_reducible show wpAny _ _ (compareOp CmpOp.NotEq (Value.ref _) (Value.ref _)) _ _ _); k_dflt (first | (refine' ne_nil_pos ?k1 ?k2 ?k3 ?k4 ?k5 ?_; (case k4 => with_reducible assumption); (case k1 => k_asm); (case k2 => k_mem); (case k3 => k_mem); (case k5 => ktr_units)) | (refine' ne_nil_zero ?k1 ?k2 ?k3 ?k4 ?k5 ?_; (case k4 => with_reducible assumption); (case k1 => k_asm); (case k2 => k_mem); (case k3 => k_mem); (case k5 => ktr_units)))) | ((with_reducible show wpAny _ _ (call (Value.builtin "list.append") _) _ _ _); k_dflt (refine' append_K ?k1 ?k2 ?k3 ?_ ?z; (case k1 => k_asm); (case k2 => k_asm); (case k3 => k_upd); (case z => with_reducible assumption); k_whole); intro h' F' N'; (try k_sweep)) | ((with_reducible show wpAny _ _ (execs _ _) _ _ { heap := _, gens := _, drawn := _, toks := _ + 1, os := _ }); refine gen_toks ?_; intro tkp htkp) | ((with_reducible show wpAny _ _ (binaryOp Operator.Mult (Value.int _ _) (Value.int _ _)) _ _ _); k_dflt (refine mul_small (by omega) ?_); try dsimp only) | ((with_reducible show wpAny _ _ (exec (Stmt.Assign _ (PySem.Expr.ListComp _ _ _ _) _) _) _ _ _); k_dflt (refine' asg_comp_tup ?F ?N ?hm ?hh ?hsz ?hLe ?hsw ?hclos ?hcell ?hkind ?hnames ?hx ?hy ?hp ?hit ?hs ?R; (case F => k_asm); (case N => k_asm); (case hit => (intro Q' h'; exact nameX_L (by k_asm) (by rfl) h' (by rfl) (by rfl))); (case hm => (unfold TupIn; k_mem)); (case hh => exact rfl); (case hsz => exact Nat.le_of_ble_eq_true rfl); (case hLe => exact rfl); (case hsw => with_unfolding_all rfl); (case hclos => with_unfolding_all rfl); (case hcell => decide); (case hkind => exact rfl); (case hnames => decide); (case hx => exact rfl); (case hy => exact rfl); (case hp => exact rfl); (case hs => (intro _; rfl))); (intro g'; k_dflt lcg_lit)) | ((with_reducible show wpAny _ _ (exec (Stmt.For _ _ _ _ _) _) _ _ _); refine hold ?_) | (k_unfold; (try dsimp only)) | (k_end; wrow_close) | walk1 | (dsimp only; walk1) | (leave1; walk_say "STEP leave1"; try dsimp only) | fail "no step")
  refine Hold.of ?_
  have hr1 : g1.IsList lr vs.toArray := by
    obtain ⟨o, ho, r⟩ := hrows
    exact ⟨o, (S1 lr o ho).resolve_left (by simp), r⟩
  rename News _ _ _ _ => NN
  rename Fr _ _ _ _ => FF
  rename PySem.Obj.data _ = Data.cell _ => dc
  rename CornerIs _ _ _ _ => hco
  refine For_invV g1 (by rfl) (by rfl) ?_ (by intro _; rfl) (by passes_own)
  refine nameX_L FF (by rfl) ?_ (by rfl) (by rfl)
  obtain ⟨co, dc', NC⟩ : ∃ co : PySem.Obj, co.data = Data.cell (some (Value.int n t2)) ∧ News g1 L1 _ [_, _, _, (L1 + 1, co)] := ⟨_, dc, NN⟩
  refine iterJ (EndsInv n st bs (L1 + 1, co)) (by rfl) hr1 FF (reorder4 NC) ?start ?turn ?done
  case start =>
    obtain ⟨a1, a2, a3⟩ := hco n hn.1 hn.2
    have z : st * n / (6 * n) = 0 := Nat.div_eq_of_lt (Nat.mul_lt_mul_of_pos_right hst (by omega))
    rw [a1, a2, a3]
    refine' ⟨_, [], 0, [], ⟨_, 3, _, _, _, _, [_], ?o1, ?o2, ?o3, by rfl, ?mt, by rfl, by rfl, ?o4⟩, rfl, fun j hj => absurd hj (Nat.not_lt_zero _)⟩
    case mt => exact congrArg (fun x : Nat => some (Value.int (x : Int) _)) z.symm
    case o4 => simp
    case o2 => (refine neN ?_; omega)
    case o3 => (refine neN ?_; dsimp only; omega)
    case o1 => (intro p hp; simp only [List.mem_singleton] at hp; subst hp; refine neN ?_; dsimp only; omega)
  case done =>
    clear NN FF dc NC hco
    rintro m1 news1 h tk ⟨e, items, ep, keep, ⟨la, ea, s1, s2, s3, tt, rest, off, lae, ce, ma, mt, me, rfl, hkeep⟩, hlen, hent⟩ F1 N1
    rw [map3 ma mt me] at F1
    (try dsimp only)
    repeat' ((fail_if_success (with_reducible show Hold _)); first | ((with_reducible show wpAny _ _ (call (Value.ref 129) _) _ _ _); k_dflt (refine' use_list3 (step_ctr _ _ _ _ _ _ _ _ _ (by with_reducible assumption)) ?k1 ?k2 ?k3 ?k4 ?k5 ?kK ?kN ?kd ?ku ?_; (case k1 => k_asm); (case k2 => k_asm); (case k3 => k_asm); (case k4 => k_asm); (case k5 => k_asm); (case kK => first | exact rfl | assumption); (case kN => (intro q hq; simp only [List.mem_singleton] at hq; subst hq; k_mem)); (case kd => ktr_room); (case ku => ktr_units); k_whole); intro p9 s9 t9 u9 h9 tk9 F9 N9 l9; (replace l9 := neNat l9); (try simp only [List.forall_mem_cons] at l9); (try dsimp only); (try k_fold)) | ((with_reducible show wpAny _ _ (compareOp CmpOp.Eq (Value.ref _) (Value.ref _)) _ _ _); k_dflt (refine' eq3_ints ?k1 ?k2 ?k3 ?k4 (fun c9 => ?_) (fun c9 => ?_); (case k1 => k_asm); (case k2 => k_mem); (case k3 => k_mem); (case k4 => ktr_units))) | ((with_reducible show wpAny _ _ (compareOp CmpOp.NotEq (Value.ref _) (Value.ref _)) _ _ _); k_dflt (first | (refine' ne_nil_pos ?k1 ?k2 ?k3 ?k4 ?k5 ?_; (case k4 => with_reducible assumption); (case k1 => k_asm); (case k2 => k_mem); (case k3 => k_mem); (case k5 => ktr_units)) | (refine' ne_nil_zero ?k1 ?k2 ?k3 ?k4 ?k5 ?_; (case k4 => with_reducible assumption); (case k1 => k_asm); (case k2 => k_mem); (case k3 => k_mem); (case k5 => ktr_units)))) | ((with_reducible show wpAny _ _ (call (Value.builtin "list.append") _) _ _ _); k_dflt (refine' append_K ?k1 ?k2 ?k3 ?_ ?z; (case k1 => k_asm); (case k2 => k_asm); (case k3 => k_upd); (case z => with_reducible assumption); k_whole); intro h' F' N'; (try k_sweep)) | ((with_reducible show wpAny _ _ (execs _ _) _ _ { heap := _, gens := _, drawn := _, toks := _ + 1, os := _ }); refine gen_toks ?_; intro tkp htkp) | ((with_reducible show wpAny _ _ (binaryOp Operator.Mult (Value.int _ _) (Value.int _ _)) _ _ _); k_dflt (refine mul_small (by omega) ?_); try dsimp only) | ((with_reducible show wpAny _ _ (exec (Stmt.Assign _ (PySem.Expr.ListComp _ _ _ _) _) _) _ _ _); k_dflt (refine' asg_comp_tup ?F ?N ?hm ?hh ?hsz ?hLe ?hsw ?hclos ?hcell ?hkind ?hnames ?hx ?hy ?hp ?hit ?hs ?R; (case F => k_asm); (case N => k_asm); (case hit => (intro Q' h'; exact nameX_L (by k_asm) (by rfl) h' (by rfl) (by rfl))); (case hm => (unfold TupIn; k_mem)); (case hh => exact rfl); (case hsz => exact Nat.le_of_ble_eq_true rfl); (case hLe => exact rfl); (case hsw => with_unfolding_all rfl); (case hclos => with_unfolding_all rfl); (case hcell => decide); (case hkind => exact rfl); (case hnames => decide); (case hx => exact rfl); (case hy => exact rfl); (case hp => exact rfl); (case hs => (intro _; rfl))); (intro g'; k_dflt lcg_lit)) | ((with_reducible show Q _ _); refine hold ?_) | (k_unfold; (try dsimp only)) | (k_end; wrow_close) | walk1 | (dsimp only; walk1) | (leave1; walk_say "STEP leave1"; try dsimp only) | fail "no step")
    refine Hold.of ?_
    refine ret _ _ _ (S1.ext F1 N1 (by simp)) (ends_post S1 N1 (e := e) (ep := ep) (keep := keep) List.mem_cons_self ?_ hlen hent)
    intro p hp
    rcases List.mem_cons.mp (hkeep p hp) with q | q
    · rw [q]; k_mem
    · (repeat (first | exact q | apply List.mem_cons_of_mem))
  case turn =>
    clear NN FF dc NC hco
    intro i v m1 news1 h tk I oI hv hJ hI F1 N1
    obtain ⟨e, items, ep, keep, ⟨la, ea, s1, s2, s3, tt, rest, off, lae, ce, ma, mt, me, rfl, hkeep⟩, hlen, hent⟩ := hJ
    obtain ⟨tv, rfl⟩ := hbs i v hv
    have hb := hb3 i
    rw [map3 ma mt me] at F1
    simp only [List.forall_mem_cons] at hI
    have hsz : items.toArray.size = i := by simp [hlen]
    have hil : i < vs.length := by
      rcases Nat.lt_or_ge i vs.length with q | q
      · exact q
      · rw [List.getElem?_eq_none q] at hv; cases hv
    have hsl : items.toArray.size ≤ sizeLine := by rw [hsz]; exact Nat.le_trans (Nat.le_of_lt hil) (Nat.le_trans hvs (Nat.le_of_ble_eq_true rfl))
    refine execs_seq (MidS g1 L1 I oI (fun m' news' => MidJ n (if i = 0 then st * n else (wA n st bs i / n + 1) * n) ((if i = 0 then st * n else (wA n st bs i / n + 1) * n) / (6 * n)) (L1 + 1, co) e items ep keep m' news' ∧ m' (Str.ofString "blanks") = some (.int ((bs.getD i 0 : Nat) : Int) tv)) s) ?first ?rest
    case first =>
      rcases Nat.eq_zero_or_pos i with h0 | h0
      · have hs0 : items.toArray.size = 0 := by omega
        clear hsz hil
        (try dsimp only)
        repeat' ((fail_if_success (with_reducible show Hold _)); first | ((with_reducible show wpAny _ _ (call (Value.ref 129) _) _ _ _); k_dflt (refine' use_list3 (step_ctr _ _ _ _ _ _ _ _ _ (by with_reducible assumption)) ?k1 ?k2 ?k3 ?k4 ?k5 ?kK ?kN ?kd ?ku ?_; (case k1 => k_asm); (case k2 => k_asm); (case k3 => k_asm); (case k4 => k_asm); (case k5 => k_asm); (case kK => first | exact rfl | assumption); (case kN => (intro q hq; simp only [List.mem_singleton] at hq; subst hq; k_mem)); (case kd => ktr_room); (case ku => ktr_units); k_whole); intro p9 s9 t9 u9 h9 tk9 F9 N9 l9; (replace l9 := neNat l9); (try simp only [List.forall_mem_cons] at l9); (try dsimp only); (try k_fold)) | ((with_reducible show wpAny _ _ (compareOp CmpOp.Eq (Value.ref _) (Value.ref _)) _ _ _); k_dflt (refine' eq3_ints ?k1 ?k2 ?k3 ?k4 (fun c9 => ?_) (fun c9 => ?_); (case k1 => k_asm); (case k2 => k_mem); (case k3 => k_mem); (case k4 => ktr_units))) | ((with_reducible show wpAny _ _ (compareOp CmpOp.NotEq (Value.ref _) (Value.ref _)) _ _ _); k_dflt (first | (refine' ne_nil_pos ?k1 ?k2 ?k3 ?k4 ?k5 ?_; (case k4 => with_reducible assumption); (case k1 => k_asm); (case k2 => k_mem); (case k3 => k_mem); (case k5 => ktr_units)) | (refine' ne_nil_zero ?k1 ?k2 ?k3 ?k4 ?k5 ?_; (case k4 => with_reducible assumption); (case k1 => k_asm); (case k2 => k_mem); (case k3 => k_mem); (case k5 => ktr_units)))) | ((with_reducible show wpAny _ _ (call (Value.builtin "list.append") _) _ _ _); k_dflt (refine' append_K ?k1 ?k2 ?k3 ?_ ?z; (case k1 => k_asm); (case k2 => k_asm); (case k3 => k_upd); (case z => with_reducible assumption); k_whole); intro h' F' N'; (try k_sweep)) | ((with_reducible show wpAny _ _ (execs _ _) _ _ { heap := _, gens := _, drawn := _, toks := _ + 1, os := _ }); refine gen_toks ?_; intro tkp htkp) | ((with_reducible show wpAny _ _ (binaryOp Operator.Mult (Value.int _ _) (Value.int _ _)) _ _ _); k_dflt (refine mul_small (by omega) ?_); try dsimp only) | ((with_reducible show wpAny _ _ (exec (Stmt.Assign _ (PySem.Expr.ListComp _ _ _ _) _) _) _ _ _); k_dflt (refine' asg_comp_tup ?F ?N ?hm ?hh ?hsz ?hLe ?hsw ?hclos ?hcell ?hkind ?hnames ?hx ?hy ?hp ?hit ?hs ?R; (case F => k_asm); (case N => k_asm); (case hit => (intro Q' h'; exact nameX_L (by k_asm) (by rfl) h' (by rfl) (by rfl))); (case hm => (unfold TupIn; k_mem)); (case hh => exact rfl); (case hsz => exact Nat.le_of_ble_eq_true rfl); (case hLe => exact rfl); (case hsw => with_unfolding_all rfl); (case hclos => with_unfolding_all rfl); (case hcell => decide); (case hkind => exact rfl); (case hnames => decide); (case hx => exact rfl); (case hy => exact rfl); (case hp => exact rfl); (case hs => (intro _; rfl))); (intro g'; k_dflt lcg_lit)) | ((with_reducible show (_ = Flow.next ∧ _)); refine hold ?_) | (k_unfold; (try dsimp only)) | (k_end; wrow_close) | walk1 | (dsimp only; walk1) | (leave1; walk_say "STEP leave1"; try dsimp only) | fail "no step")
        refine Hold.of ?_
        rename News _ _ _ _ => NE
        rename Fr _ _ _ _ => FE
        subst h0
        exact ⟨rfl, _, _, _, _, rfl, FE, fun p hp => NE p (List.mem_cons_of_mem _ hp), (by simp only [List.forall_mem_cons]; exact hI), ⟨la, ea, s1, s2, s3, tt, rest, off, lae, ce, by rfl, by rfl, by rfl, rfl, hkeep⟩, by rfl⟩
      · have hs1 : items.toArray.size ≠ 0 := by omega
        clear hsz hil
        (try dsimp only)
        repeat' ((fail_if_success (with_reducible show Hold _)); first | ((with_reducible show wpAny _ _ (call (Value.ref 129) _) _ _ _); k_dflt (refine' use_list3 (step_ctr _ _ _ _ _ _ _ _ _ (by with_reducible assumption)) ?k1 ?k2 ?k3 ?k4 ?k5 ?kK ?kN ?kd ?ku ?_; (case k1 => k_asm); (case k2 => k_asm); (case k3 => k_asm); (case k4 => k_asm); (case k5 => k_asm); (case kK => first | exact rfl | assumption); (case kN => (intro q hq; simp only [List.mem_singleton] at hq; subst hq; k_mem)); (case kd => ktr_room); (case ku => ktr_units); k_whole); intro p9 s9 t9 u9 h9 tk9 F9 N9 l9; (replace l9 := neNat l9); (try simp only [List.forall_mem_cons] at l9); (try dsimp only); (try k_fold)) | ((with_reducible show wpAny _ _ (compareOp CmpOp.Eq (Value.ref _) (Value.ref _)) _ _ _); k_dflt (refine' eq3_ints ?k1 ?k2 ?k3 ?k4 (fun c9 => ?_) (fun c9 => ?_); (case k1 => k_asm); (case k2 => k_mem); (case k3 => k_mem); (case k4 => ktr_units))) | ((with_reducible show wpAny _ _ (compareOp CmpOp.NotEq (Value.ref _) (Value.ref _)) _ _ _); k_dflt (first | (refine' ne_nil_pos ?k1 ?k2 ?k3 ?k4 ?k5 ?_; (case k4 => with_reducible assumption); (case k1 => k_asm); (case k2 => k_mem); (case k3 => k_mem); (case k5 => ktr_units)) | (refine' ne_nil_zero ?k1 ?k2 ?k3 ?k4 ?k5 ?_; (case k4 => with_reducible assumption); (case k1 => k_asm); (case k2 => k_mem); (case k3 => k_mem); (case k5 => ktr_units)))) | ((with_reducible show wpAny _ _ (call (Value.builtin "list.append") _) _ _ _); k_dflt (refine' append_K ?k1 ?k2 ?k3 ?_ ?z; (case k1 => k_asm); (case k2 => k_asm); (case k3 => k_upd); (case z => with_reducible assumption); k_whole); intro h' F' N'; (try k_sweep)) | ((with_reducible show wpAny _ _ (execs _ _) _ _ { heap := _, gens := _, drawn := _, toks := _ + 1, os := _ }); refine gen_toks ?_; intro tkp htkp) | ((with_reducible show wpAny _ _ (binaryOp Operator.Mult (Value.int _ _) (Value.int _ _)) _ _ _); k_dflt (refine mul_small (by omega) ?_); try dsimp only) | ((with_reducible show wpAny _ _ (exec (Stmt.Assign _ (PySem.Expr.ListComp _ _ _ _) _) _) _ _ _); k_dflt (refine' asg_comp_tup ?F ?N ?hm ?hh ?hsz ?hLe ?hsw ?hclos ?hcell ?hkind ?hnames ?hx ?hy ?hp ?hit ?hs ?R; (case F => k_asm); (case N => k_asm); (case hit => (intro Q' h'; exact nameX_L (by k_asm) (by rfl) h' (by rfl) (by rfl))); (case hm => (unfold TupIn; k_mem)); (case hh => exact rfl); (case hsz => exact Nat.le_of_ble_eq_true rfl); (case hLe => exact rfl); (case hsw => with_unfolding_all rfl); (case hclos => with_unfolding_all rfl); (case hcell => decide); (case hkind => exact rfl); (case hnames => decide); (case hx => exact rfl); (case hy => exact rfl); (case hp => exact rfl); (case hs => (intro _; rfl))); (intro g'; k_dflt lcg_lit)) | ((with_reducible show (_ = Flow.next ∧ _)); refine hold ?_) | ((with_reducible show wpAny _ _ (exec (Stmt.While _ _ _ _) _) _ _ _); refine hold ?_) | (k_unfold; (try dsimp only)) | (k_end; wrow_close) | walk1 | (dsimp only; walk1) | (leave1; walk_say "STEP leave1"; try dsimp only) | fail "no step")
        refine Hold.of ?_
        rename News _ _ _ _ => NW
        rename Fr _ _ _ _ => FW
        refine' while_go (la := la) hn.1 FW NW ?hsubW hI ?hp1 ?hpe off lae ce (by rfl) (by rfl) (by rfl) (by rfl) hkeep ?turnW (by passes_own)
        case hsubW => refine' List.forall_mem_cons.mpr ⟨?_, List.forall_mem_cons.mpr ⟨?_, List.forall_mem_cons.mpr ⟨?_, List.forall_mem_cons.mpr ⟨?_, List.forall_mem_cons.mpr ⟨?_, ?_⟩⟩⟩⟩⟩ <;> first | k_mem | (intro p hp; repeat (first | exact hp | apply List.mem_cons_of_mem))
        case hp1 => (refine neN ?_; omega)
        case hpe => (refine neN ?_; omega)
        case turnW =>
          clear NW FW
          intro k m2 news2 h2 tk2 F2 N2 hJ2
          obtain ⟨W, hW, hWk, news3, rfl, hI3, ⟨lc, ec, p1, p2, p3, pt, rest3, off3, lce, ce3, ma3, mt3, me3, rfl, hkeep3⟩, mb3⟩ := hJ2
          rw [map4 ma3 mt3 me3 mb3] at F2
          simp only [List.forall_mem_cons] at hI3
          refine test_mid (0 < k) F2 N2 ?test ?go
          case go =>
            clear F2 N2
            intro b h5 tk5 F5 N5 hb5
            cases b with
            | true =>
              have hk0 := hb5.mp rfl
              simp only [if_true]
              (try dsimp only)
              repeat' ((fail_if_success (with_reducible show Hold _)); first | ((with_reducible show wpAny _ _ (call (Value.ref 129) _) _ _ _); k_dflt (refine' use_list3 (step_ctr _ _ _ _ _ _ _ _ _ (by with_reducible assumption)) ?k1 ?k2 ?k3 ?k4 ?k5 ?kK ?kN ?kd ?ku ?_; (case k1 => k_asm); (case k2 => k_asm); (case k3 => k_asm); (case k4 => k_asm); (case k5 => k_asm); (case kK => first | exact rfl | assumption); (case kN => (intro q hq; simp only [List.mem_singleton] at hq; subst hq; k_mem)); (case kd => ktr_room); (case ku => ktr_units); k_whole); intro p9 s9 t9 u9 h9 tk9 F9 N9 l9; (replace l9 := neNat l9); (try simp only [List.forall_mem_cons] at l9); (try dsimp only); (try k_fold)) | ((with_reducible show wpAny _ _ (compareOp CmpOp.Eq (Value.ref _) (Value.ref _)) _ _ _); k_dflt (refine' eq3_ints ?k1 ?k2 ?k3 ?k4 (fun c9 => ?_) (fun c9 => ?_); (case k1 => k_asm); (case k2 => k_mem); (case k3 => k_mem); (case k4 => ktr_units))) | ((with_reducible show wpAny _ _ (compareOp CmpOp.NotEq (Value.ref _) (Value.ref _)) _ _ _); k_dflt (first | (refine' ne_nil_pos ?k1 ?k2 ?k3 ?k4 ?k5 ?_; (case k4 => with_reducible assumption); (case k1 => k_asm); (case k2 => k_mem); (case k3 => k_mem); (case k5 => ktr_units)) | (refine' ne_nil_zero ?k1 ?k2 ?k3 ?k4 ?k5 ?_; (case k4 => with_reducible assumption); (case k1 => k_asm); (case k2 => k_mem); (case k3 => k_mem); (case k5 => ktr_units)))) | ((with_reducible show wpAny _ _ (call (Value.builtin "list.append") _) _ _ _); k_dflt (refine' append_K ?k1 ?k2 ?k3 ?_ ?z; (case k1 => k_asm); (case k2 => k_asm); (case k3 => k_upd); (case z => with_reducible assumption); k_whole); intro h' F' N'; (try k_sweep)) | ((with_reducible show wpAny _ _ (execs _ _) _ _ { heap := _, gens := _, drawn := _, toks := _ + 1, os := _ }); refine gen_toks ?_; intro tkp htkp) | ((with_reducible show wpAny _ _ (binaryOp Operator.Mult (Value.int _ _) (Value.int _ _)) _ _ _); k_dflt (refine mul_small (by omega) ?_); try dsimp only) | ((with_reducible show wpAny _ _ (exec (Stmt.Assign _ (PySem.Expr.ListComp _ _ _ _) _) _) _ _ _); k_dflt (refine' asg_comp_tup ?F ?N ?hm ?hh ?hsz ?hLe ?hsw ?hclos ?hcell ?hkind ?hnames ?hx ?hy ?hp ?hit ?hs ?R; (case F => k_asm); (case N => k_asm); (case hit => (intro Q' h'; exact nameX_L (by k_asm) (by rfl) h' (by rfl) (by rfl))); (case hm => (unfold TupIn; k_mem)); (case hh => exact rfl); (case hsz => exact Nat.le_of_ble_eq_true rfl); (case hLe => exact rfl); (case hsw => with_unfolding_all rfl); (case hclos => with_unfolding_all rfl); (case hcell => decide); (case hkind => exact rfl); (case hnames => decide); (case hx => exact rfl); (case hy => exact rfl); (case hp => exact rfl); (case hs => (intro _; rfl))); (intro g'; k_dflt lcg_lit)) | ((with_reducible show WhileStep _ _ _ _ _ _ _); refine hold ?_) | (k_unfold; (try dsimp only)) | (k_end; wrow_close) | walk1 | (dsimp only; walk1) | (leave1; walk_say "STEP leave1"; try dsimp only) | fail "no step")
              refine Hold.of ?_
              rename News _ _ _ _ => NE
              rename Fr _ _ _ _ => FE
              refine' while_end (la := lc) FE NE ?hsub2 hI3 ?hp12 ?hpe2 off3 lce ce3 (by rfl) (by rfl) (by rfl) (by rfl) hkeep3 hW hWk hk0
              case hsub2 => refine' List.forall_mem_cons.mpr ⟨?_, List.forall_mem_cons.mpr ⟨?_, List.forall_mem_cons.mpr ⟨?_, List.forall_mem_cons.mpr ⟨?_, List.forall_mem_cons.mpr ⟨?_, ?_⟩⟩⟩⟩⟩ <;> first | k_mem | (intro p hp; repeat (first | exact hp | apply List.mem_cons_of_mem))
              case hp12 => (refine neN ?_; omega)
              case hpe2 => (refine neN ?_; omega)
            | false =>
              have hk0 : ¬ 0 < k := fun q => by have := hb5.mpr q; cases this
              have hWe : W = (wA n st bs i / n + 1) * n := by omega
              simp only [Bool.false_eq_true, if_false]
              (try dsimp only)
              repeat' ((fail_if_success (with_reducible show Hold _)); first | ((with_reducible show wpAny _ _ (call (Value.ref 129) _) _ _ _); k_dflt (refine' use_list3 (step_ctr _ _ _ _ _ _ _ _ _ (by with_reducible assumption)) ?k1 ?k2 ?k3 ?k4 ?k5 ?kK ?kN ?kd ?ku ?_; (case k1 => k_asm); (case k2 => k_asm); (case k3 => k_asm); (case k4 => k_asm); (case k5 => k_asm); (case kK => first | exact rfl | assumption); (case kN => (intro q hq; simp only [List.mem_singleton] at hq; subst hq; k_mem)); (case kd => ktr_room); (case ku => ktr_units); k_whole); intro p9 s9 t9 u9 h9 tk9 F9 N9 l9; (replace l9 := neNat l9); (try simp only [List.forall_mem_cons] at l9); (try dsimp only); (try k_fold)) | ((with_reducible show wpAny _ _ (compareOp CmpOp.Eq (Value.ref _) (Value.ref _)) _ _ _); k_dflt (refine' eq3_ints ?k1 ?k2 ?k3 ?k4 (fun c9 => ?_) (fun c9 => ?_); (case k1 => k_asm); (case k2 => k_mem); (case k3 => k_mem); (case k4 => ktr_units))) | ((with_reducible show wpAny _ _ (compareOp CmpOp.NotEq (Value.ref _) (Value.ref _)) _ _ _); k_dflt (first | (refine' ne_nil_pos ?k1 ?k2 ?k3 ?k4 ?k5 ?_; (case k4 => with_reducible assumption); (case k1 => k_asm); (case k2 => k_mem); (case k3 => k_mem); (case k5 => ktr_units)) | (refine' ne_nil_zero ?k1 ?k2 ?k3 ?k4 ?k5 ?_; (case k4 => with_reducible assumption); (case k1 => k_asm); (case k2 => k_mem); (case k3 => k_mem); (case k5 => ktr_units)))) | ((with_reducible show wpAny _ _ (call (Value.builtin "list.append") _) _ _ _); k_dflt (refine' append_K ?k1 ?k2 ?k3 ?_ ?z; (case k1 => k_asm); (case k2 => k_asm); (case k3 => k_upd); (case z => with_reducible assumption); k_whole); intro h' F' N'; (try k_sweep)) | ((with_reducible show wpAny _ _ (execs _ _) _ _ { heap := _, gens := _, drawn := _, toks := _ + 1, os := _ }); refine gen_toks ?_; intro tkp htkp) | ((with_reducible show wpAny _ _ (binaryOp Operator.Mult (Value.int _ _) (Value.int _ _)) _ _ _); k_dflt (refine mul_small (by omega) ?_); try dsimp only) | ((with_reducible show wpAny _ _ (exec (Stmt.Assign _ (PySem.Expr.ListComp _ _ _ _) _) _) _ _ _); k_dflt (refine' asg_comp_tup ?F ?N ?hm ?hh ?hsz ?hLe ?hsw ?hclos ?hcell ?hkind ?hnames ?hx ?hy ?hp ?hit ?hs ?R; (case F => k_asm); (case N => k_asm); (case hit => (intro Q' h'; exact nameX_L (by k_asm) (by rfl) h' (by rfl) (by rfl))); (case hm => (unfold TupIn; k_mem)); (case hh => exact rfl); (case hsz => exact Nat.le_of_ble_eq_true rfl); (case hLe => exact rfl); (case hsw => with_unfolding_all rfl); (case hclos => with_unfolding_all rfl); (case hcell => decide); (case hkind => exact rfl); (case hnames => decide); (case hx => exact rfl); (case hy => exact rfl); (case hp => exact rfl); (case hs => (intro _; rfl))); (intro g'; k_dflt lcg_lit)) | ((with_reducible show (_ = Flow.next ∧ _)); refine hold ?_) | (k_unfold; (try dsimp only)) | (k_end; wrow_close) | walk1 | (dsimp only; walk1) | (leave1; walk_say "STEP leave1"; try dsimp only) | fail "no step")
              all_goals refine Hold.of ?_
              all_goals (
                rename News _ _ _ _ => NE
                rename Fr _ _ _ _ => FE
                refine' close_first (lc := lc) h0 hWe FE NE ?hsub3 hI3 off3 lce ce3 (by rfl) ?mt3 (by rfl) (by rfl) hkeep3
                case hsub3 => refine' List.forall_mem_cons.mpr ⟨?_, List.forall_mem_cons.mpr ⟨?_, List.forall_mem_cons.mpr ⟨?_, List.forall_mem_cons.mpr ⟨?_, ?_⟩⟩⟩⟩ <;> first | k_mem | (intro p hp; repeat (first | exact hp | apply List.mem_cons_of_mem))
                case mt3 => first | exact congrArg (fun x => some (Value.int x _)) (toldw_yes hn hWe (by with_reducible assumption)).symm | exact congrArg (fun x => some (Value.int x _)) (toldw_no hn hWe (by with_reducible assumption)).symm)
          case test =>
            (try dsimp only)
            repeat' ((fail_if_success (with_reducible show Hold _)); first | ((with_reducible show wpAny _ _ (call (Value.ref 129) _) _ _ _); k_dflt (refine' use_list3 (step_ctr _ _ _ _ _ _ _ _ _ (by with_reducible assumption)) ?k1 ?k2 ?k3 ?k4 ?k5 ?kK ?kN ?kd ?ku ?_; (case k1 => k_asm); (case k2 => k_asm); (case k3 => k_asm); (case k4 => k_asm); (case k5 => k_asm); (case kK => first | exact rfl | assumption); (case kN => (intro q hq; simp only [List.mem_singleton] at hq; subst hq; k_mem)); (case kd => ktr_room); (case ku => ktr_units); k_whole); intro p9 s9 t9 u9 h9 tk9 F9 N9 l9; (replace l9 := neNat l9); (try simp only [List.forall_mem_cons] at l9); (try dsimp only); (try k_fold)) | ((with_reducible show wpAny _ _ (compareOp CmpOp.Eq (Value.ref _) (Value.ref _)) _ _ _); k_dflt (refine' eq3_ints ?k1 ?k2 ?k3 ?k4 (fun c9 => ?_) (fun c9 => ?_); (case k1 => k_asm); (case k2 => k_mem); (case k3 => k_mem); (case k4 => ktr_units))) | ((with_reducible show wpAny _ _ (compareOp CmpOp.NotEq (Value.ref _) (Value.ref _)) _ _ _); k_dflt (first | (refine' ne_nil_pos ?k1 ?k2 ?k3 ?k4 ?k5 ?_; (case k4 => with_reducible assumption); (case k1 => k_asm); (case k2 => k_mem); (case k3 => k_mem); (case k5 => ktr_units)) | (refine' ne_nil_zero ?k1 ?k2 ?k3 ?k4 ?k5 ?_; (case k4 => with_reducible assumption); (case k1 => k_asm); (case k2 => k_mem); (case k3 => k_mem); (case k5 => ktr_units)))) | ((with_reducible show wpAny _ _ (call (Value.builtin "list.append") _) _ _ _); k_dflt (refine' append_K ?k1 ?k2 ?k3 ?_ ?z; (case k1 => k_asm); (case k2 => k_asm); (case k3 => k_upd); (case z => with_reducible assumption); k_whole); intro h' F' N'; (try k_sweep)) | ((with_reducible show wpAny _ _ (execs _ _) _ _ { heap := _, gens := _, drawn := _, toks := _ + 1, os := _ }); refine gen_toks ?_; intro tkp htkp) | ((with_reducible show wpAny _ _ (binaryOp Operator.Mult (Value.int _ _) (Value.int _ _)) _ _ _); k_dflt (refine mul_small (by omega) ?_); try dsimp only) | ((with_reducible show wpAny _ _ (exec (Stmt.Assign _ (PySem.Expr.ListComp _ _ _ _) _) _) _ _ _); k_dflt (refine' asg_comp_tup ?F ?N ?hm ?hh ?hsz ?hLe ?hsw ?hclos ?hcell ?hkind ?hnames ?hx ?hy ?hp ?hit ?hs ?R; (case F => k_asm); (case N => k_asm); (case hit => (intro Q' h'; exact nameX_L (by k_asm) (by rfl) h' (by rfl) (by rfl))); (case hm => (unfold TupIn; k_mem)); (case hh => exact rfl); (case hsz => exact Nat.le_of_ble_eq_true rfl); (case hLe => exact rfl); (case hsw => with_unfolding_all rfl); (case hclos => with_unfolding_all rfl); (case hcell => decide); (case hkind => exact rfl); (case hnames => decide); (case hx => exact rfl); (case hy => exact rfl); (case hp => exact rfl); (case hs => (intro _; rfl))); (intro g'; k_dflt lcg_lit)) | ((with_reducible show LCt.CompRestT _ _ _ _ _ _ _ _ _ _ _ _ _ _ _ _ _ _ _ _); refine hold ?_) | ((with_reducible show TestEnd _ _ _ _ _ _ _ _); refine hold ?_) | (k_unfold; (try dsimp only)) | (k_end; wrow_close) | walk1 | (dsimp only; walk1) | (leave1; walk_say "STEP leave1"; try dsimp only) | fail "no step")
            refine Hold.of ?_
            refine compT_inv (TestJ n W _) ?turnT ?finT 3 0 [] _ rfl ⟨rfl, by simp [midI]⟩
            case turnT =>
              clear F2 N2
              intro i2 v2 ys2 news4 I2 oI2 C2 oC2 D2 mC2 h4 tk4 E4 hi2 hv2 hJT hC2 hx2 F4 N4 off4 ne4
              obtain ⟨tz, rfl⟩ := ab3_at hv2
              have hJ0 := hJT
              obtain ⟨rfl, hys⟩ := hJT
              have off0 := off4
              (try simp only [LCg.Off3, and_true] at off4)
              (try dsimp only)
              repeat' ((fail_if_success (with_reducible show Hold _)); first | ((with_reducible show wpAny _ _ (call (Value.ref 129) _) _ _ _); k_dflt (refine' use_list3 (step_ctr _ _ _ _ _ _ _ _ _ (by with_reducible assumption)) ?k1 ?k2 ?k3 ?k4 ?k5 ?kK ?kN ?kd ?ku ?_; (case k1 => k_asm); (case k2 => k_asm); (case k3 => k_asm); (case k4 => k_asm); (case k5 => k_asm); (case kK => first | exact rfl | assumption); (case kN => (intro q hq; simp only [List.mem_singleton] at hq; subst hq; k_mem)); (case kd => ktr_room); (case ku => ktr_units); k_whole); intro p9 s9 t9 u9 h9 tk9 F9 N9 l9; (replace l9 := neNat l9); (try simp only [List.forall_mem_cons] at l9); (try dsimp only); (try k_fold)) | ((with_reducible show wpAny _ _ (compareOp CmpOp.Eq (Value.ref _) (Value.ref _)) _ _ _); k_dflt (refine' eq3_ints ?k1 ?k2 ?k3 ?k4 (fun c9 => ?_) (fun c9 => ?_); (case k1 => k_asm); (case k2 => k_mem); (case k3 => k_mem); (case k4 => ktr_units))) | ((with_reducible show wpAny _ _ (compareOp CmpOp.NotEq (Value.ref _) (Value.ref _)) _ _ _); k_dflt (first | (refine' ne_nil_pos ?k1 ?k2 ?k3 ?k4 ?k5 ?_; (case k4 => with_reducible assumption); (case k1 => k_asm); (case k2 => k_mem); (case k3 => k_mem); (case k5 => ktr_units)) | (refine' ne_nil_zero ?k1 ?k2 ?k3 ?k4 ?k5 ?_; (case k4 => with_reducible assumption); (case k1 => k_asm); (case k2 => k_mem); (case k3 => k_mem); (case k5 => ktr_units)))) | ((with_reducible show wpAny _ _ (call (Value.builtin "list.append") _) _ _ _); k_dflt (refine' append_K ?k1 ?k2 ?k3 ?_ ?z; (case k1 => k_asm); (case k2 => k_asm); (case k3 => k_upd); (case z => with_reducible assumption); k_whole); intro h' F' N'; (try k_sweep)) | ((with_reducible show wpAny _ _ (execs _ _) _ _ { heap := _, gens := _, drawn := _, toks := _ + 1, os := _ }); refine gen_toks ?_; intro tkp htkp) | ((with_reducible show wpAny _ _ (binaryOp Operator.Mult (Value.int _ _) (Value.int _ _)) _ _ _); k_dflt (refine mul_small (by omega) ?_); try dsimp only) | ((with_reducible show wpAny _ _ (exec (Stmt.Assign _ (PySem.Expr.ListComp _ _ _ _) _) _) _ _ _); k_dflt (refine' asg_comp_tup ?F ?N ?hm ?hh ?hsz ?hLe ?hsw ?hclos ?hcell ?hkind ?hnames ?hx ?hy ?hp ?hit ?hs ?R; (case F => k_asm); (case N => k_asm); (case hit => (intro Q' h'; exact nameX_L (by k_asm) (by rfl) h' (by rfl) (by rfl))); (case hm => (unfold TupIn; k_mem)); (case hh => exact rfl); (case hsz => exact Nat.le_of_ble_eq_true rfl); (case hLe => exact rfl); (case hsw => with_unfolding_all rfl); (case hclos => with_unfolding_all rfl); (case hcell => decide); (case hkind => exact rfl); (case hnames => decide); (case hx => exact rfl); (case hy => exact rfl); (case hp => exact rfl); (case hs => (intro _; rfl))); (intro g'; k_dflt lcg_lit)) | ((with_reducible show LCg.CompEnd _ _ _ _ _ _ _ _ _ _ _ _ _ _); refine hold ?_) | (k_unfold; (try dsimp only)) | (k_end; wrow_close) | walk1 | (dsimp only; walk1) | (leave1; walk_say "STEP leave1"; try dsimp only) | fail "no step")
              all_goals refine Hold.of ?_
              all_goals (
                rename News _ _ _ _ => NE
                rename Fr _ _ _ _ => FE
                first
                  | (refine LCg.CompEnd.intro FE NE _ (fun p hp => ?_) off0 ?_ (test_turn hJ0 ⟨by omega, by omega⟩); (repeat (first | exact hp | apply List.mem_cons_of_mem)); exact .inr ⟨_, by k_mem, rfl, _, rfl⟩)
                  | (refine LCg.CompEnd.intro FE NE _ (fun p hp => ?_) off0 ?_ (test_skip hJ0 (by omega)); (repeat (first | exact hp | apply List.mem_cons_of_mem)); exact .inr ⟨_, by k_mem, rfl, _, rfl⟩))
            case finT =>
              rintro ys5 news5 ⟨rfl, hys⟩
              rw [midI3 hn, between hn.1 hW hWk] at hys
              rcases Nat.eq_zero_or_pos k with hk0 | hk0
              · have hs0 : ys5.toArray.size = 0 := by simp only [List.size_toArray]; omega
                clear F2 N2
                (try dsimp only)
                repeat' ((fail_if_success (with_reducible show Hold _)); first | ((with_reducible show wpAny _ _ (call (Value.ref 129) _) _ _ _); k_dflt (refine' use_list3 (step_ctr _ _ _ _ _ _ _ _ _ (by with_reducible assumption)) ?k1 ?k2 ?k3 ?k4 ?k5 ?kK ?kN ?kd ?ku ?_; (case k1 => k_asm); (case k2 => k_asm); (case k3 => k_asm); (case k4 => k_asm); (case k5 => k_asm); (case kK => first | exact rfl | assumption); (case kN => (intro q hq; simp only [List.mem_singleton] at hq; subst hq; k_mem)); (case kd => ktr_room); (case ku => ktr_units); k_whole); intro p9 s9 t9 u9 h9 tk9 F9 N9 l9; (replace l9 := neNat l9); (try simp only [List.forall_mem_cons] at l9); (try dsimp only); (try k_fold)) | ((with_reducible show wpAny _ _ (compareOp CmpOp.Eq (Value.ref _) (Value.ref _)) _ _ _); k_dflt (refine' eq3_ints ?k1 ?k2 ?k3 ?k4 (fun c9 => ?_) (fun c9 => ?_); (case k1 => k_asm); (case k2 => k_mem); (case k3 => k_mem); (case k4 => ktr_units))) | ((with_reducible show wpAny _ _ (compareOp CmpOp.NotEq (Value.ref _) (Value.ref _)) _ _ _); k_dflt (first | (refine' ne_nil_pos ?k1 ?k2 ?k3 ?k4 ?k5 ?_; (case k4 => with_reducible assumption); (case k1 => k_asm); (case k2 => k_mem); (case k3 => k_mem); (case k5 => ktr_units)) | (refine' ne_nil_zero ?k1 ?k2 ?k3 ?k4 ?k5 ?_; (case k4 => with_reducible assumption); (case k1 => k_asm); (case k2 => k_mem); (case k3 => k_mem); (case k5 => ktr_units)))) | ((with_reducible show wpAny _ _ (call (Value.builtin "list.append") _) _ _ _); k_dflt (refine' append_K ?k1 ?k2 ?k3 ?_ ?z; (case k1 => k_asm); (case k2 => k_asm); (case k3 => k_upd); (case z => with_reducible assumption); k_whole); intro h' F' N'; (try k_sweep)) | ((with_reducible show wpAny _ _ (execs _ _) _ _ { heap := _, gens := _, drawn := _, toks := _ + 1, os := _ }); refine gen_toks ?_; intro tkp htkp) | ((with_reducible show wpAny _ _ (binaryOp Operator.Mult (Value.int _ _) (Value.int _ _)) _ _ _); k_dflt (refine mul_small (by omega) ?_); try dsimp only) | ((with_reducible show wpAny _ _ (exec (Stmt.Assign _ (PySem.Expr.ListComp _ _ _ _) _) _) _ _ _); k_dflt (refine' asg_comp_tup ?F ?N ?hm ?hh ?hsz ?hLe ?hsw ?hclos ?hcell ?hkind ?hnames ?hx ?hy ?hp ?hit ?hs ?R; (case F => k_asm); (case N => k_asm); (case hit => (intro Q' h'; exact nameX_L (by k_asm) (by rfl) h' (by rfl) (by rfl))); (case hm => (unfold TupIn; k_mem)); (case hh => exact rfl); (case hsz => exact Nat.le_of_ble_eq_true rfl); (case hLe => exact rfl); (case hsw => with_unfolding_all rfl); (case hclos => with_unfolding_all rfl); (case hcell => decide); (case hkind => exact rfl); (case hnames => decide); (case hx => exact rfl); (case hy => exact rfl); (case hp => exact rfl); (case hs => (intro _; rfl))); (intro g'; k_dflt lcg_lit)) | ((with_reducible show TestEnd _ _ _ _ _ _ _ _); refine hold ?_) | (k_unfold; (try dsimp only)) | (k_end; wrow_close) | walk1 | (dsimp only; walk1) | (leave1; walk_say "STEP leave1"; try dsimp only) | fail "no step")
                refine Hold.of ?_
                rename News _ _ _ _ => NE
                rename Fr _ _ _ _ => FE
                refine ⟨_, _, rfl, FE, fun p hp => NE p (List.mem_cons_of_mem _ (List.mem_cons_of_mem _ hp)), ?_⟩
                first
                  | exact ⟨fun q => Bool.noConfusion q, fun q => absurd q (by omega)⟩
                  | exact ⟨fun _ => hk0, fun _ => rfl⟩
              · have hs0 : ys5.toArray.size ≠ 0 := by simp only [List.size_toArray]; omega
                clear F2 N2
                (try dsimp only)
                repeat' ((fail_if_success (with_reducible show Hold _)); first | ((with_reducible show wpAny _ _ (call (Value.ref 129) _) _ _ _); k_dflt (refine' use_list3 (step_ctr _ _ _ _ _ _ _ _ _ (by with_reducible assumption)) ?k1 ?k2 ?k3 ?k4 ?k5 ?kK ?kN ?kd ?ku ?_; (case k1 => k_asm); (case k2 => k_asm); (case k3 => k_asm); (case k4 => k_asm); (case k5 => k_asm); (case kK => first | exact rfl | assumption); (case kN => (intro q hq; simp only [List.mem_singleton] at hq; subst hq; k_mem)); (case kd => ktr_room); (case ku => ktr_units); k_whole); intro p9 s9 t9 u9 h9 tk9 F9 N9 l9; (replace l9 := neNat l9); (try simp only [List.forall_mem_cons] at l9); (try dsimp only); (try k_fold)) | ((with_reducible show wpAny _ _ (compareOp CmpOp.Eq (Value.ref _) (Value.ref _)) _ _ _); k_dflt (refine' eq3_ints ?k1 ?k2 ?k3 ?k4 (fun c9 => ?_) (fun c9 => ?_); (case k1 => k_asm); (case k2 => k_mem); (case k3 => k_mem); (case k4 => ktr_units))) | ((with_reducible show wpAny _ _ (compareOp CmpOp.NotEq (Value.ref _) (Value.ref _)) _ _ _); k_dflt (first | (refine' ne_nil_pos ?k1 ?k2 ?k3 ?k4 ?k5 ?_; (case k4 => with_reducible assumption); (case k1 => k_asm); (case k2 => k_mem); (case k3 => k_mem); (case k5 => ktr_units)) | (refine' ne_nil_zero ?k1 ?k2 ?k3 ?k4 ?k5 ?_; (case k4 => with_reducible assumption); (case k1 => k_asm); (case k2 => k_mem); (case k3 => k_mem); (case k5 => ktr_units)))) | ((with_reducible show wpAny _ _ (call (Value.builtin "list.append") _) _ _ _); k_dflt (refine' append_K ?k1 ?k2 ?k3 ?_ ?z; (case k1 => k_asm); (case k2 => k_asm); (case k3 => k_upd); (case z => with_reducible assumption); k_whole); intro h' F' N'; (try k_sweep)) | ((with_reducible show wpAny _ _ (execs _ _) _ _ { heap := _, gens := _, drawn := _, toks := _ + 1, os := _ }); refine gen_toks ?_; intro tkp htkp) | ((with_reducible show wpAny _ _ (binaryOp Operator.Mult (Value.int _ _) (Value.int _ _)) _ _ _); k_dflt (refine mul_small (by omega) ?_); try dsimp only) | ((with_reducible show wpAny _ _ (exec (Stmt.Assign _ (PySem.Expr.ListComp _ _ _ _) _) _) _ _ _); k_dflt (refine' asg_comp_tup ?F ?N ?hm ?hh ?hsz ?hLe ?hsw ?hclos ?hcell ?hkind ?hnames ?hx ?hy ?hp ?hit ?hs ?R; (case F => k_asm); (case N => k_asm); (case hit => (intro Q' h'; exact nameX_L (by k_asm) (by rfl) h' (by rfl) (by rfl))); (case hm => (unfold TupIn; k_mem)); (case hh => exact rfl); (case hsz => exact Nat.le_of_ble_eq_true rfl); (case hLe => exact rfl); (case hsw => with_unfolding_all rfl); (case hclos => with_unfolding_all rfl); (case hcell => decide); (case hkind => exact rfl); (case hnames => decide); (case hx => exact rfl); (case hy => exact rfl); (case hp => exact rfl); (case hs => (intro _; rfl))); (intro g'; k_dflt lcg_lit)) | ((with_reducible show TestEnd _ _ _ _ _ _ _ _); refine hold ?_) | (k_unfold; (try dsimp only)) | (k_end; wrow_close) | walk1 | (dsimp only; walk1) | (leave1; walk_say "STEP leave1"; try dsimp only) | fail "no step")
                refine Hold.of ?_
                rename News _ _ _ _ => NE
                rename Fr _ _ _ _ => FE
                refine ⟨_, _, rfl, FE, fun p hp => NE p (List.mem_cons_of_mem _ (List.mem_cons_of_mem _ hp)), ?_⟩
                first
                  | exact ⟨fun q => Bool.noConfusion q, fun q => absurd q (by omega)⟩
                  | exact ⟨fun _ => hk0, fun _ => rfl⟩
    case rest =>
      rintro s' ⟨h9, tk9, m9, news9, rfl, F9, N9, hI9, ⟨lb, eb, q1, q2, q3, qt, rest9, off9, lbe, ce9, ma9, mt9, me9, rfl, hkeep9⟩, mb9⟩
      generalize hWe : (if i = 0 then st * n else (wA n st bs i / n + 1) * n) = W at *
      clear F1 N1 ma mt me hI off lae hkeep hsz hil
      refine execs_seq (MidS g1 L1 I oI (MidJ n (W + bs.getD i 0) ((W + bs.getD i 0) / (6 * n)) (L1 + 1, co) e items ep keep) s) ?loop ?app
      case app =>
        clear F9 N9 hI9 off9 lbe ma9 mt9 me9 mb9 hkeep9
        rintro s' ⟨h9, tk9, m9, news9, rfl, F9, N9, hI9, ⟨lb, eb, q1, q2, q3, qt, rest9, off9, lbe, ce9, ma9, mt9, me9, rfl, hkeep9⟩⟩
        rw [map3 ma9 mt9 me9] at F9
        simp only [List.forall_mem_cons] at hI9
        (try dsimp only)
        repeat' ((fail_if_success (with_reducible show Hold _)); first | ((with_reducible show wpAny _ _ (call (Value.ref 129) _) _ _ _); k_dflt (refine' use_list3 (step_ctr _ _ _ _ _ _ _ _ _ (by with_reducible assumption)) ?k1 ?k2 ?k3 ?k4 ?k5 ?kK ?kN ?kd ?ku ?_; (case k1 => k_asm); (case k2 => k_asm); (case k3 => k_asm); (case k4 => k_asm); (case k5 => k_asm); (case kK => first | exact rfl | assumption); (case kN => (intro q hq; simp only [List.mem_singleton] at hq; subst hq; k_mem)); (case kd => ktr_room); (case ku => ktr_units); k_whole); intro p9 s9 t9 u9 h9 tk9 F9 N9 l9; (replace l9 := neNat l9); (try simp only [List.forall_mem_cons] at l9); (try dsimp only); (try k_fold)) | ((with_reducible show wpAny _ _ (compareOp CmpOp.Eq (Value.ref _) (Value.ref _)) _ _ _); k_dflt (refine' eq3_ints ?k1 ?k2 ?k3 ?k4 (fun c9 => ?_) (fun c9 => ?_); (case k1 => k_asm); (case k2 => k_mem); (case k3 => k_mem); (case k4 => ktr_units))) | ((with_reducible show wpAny _ _ (compareOp CmpOp.NotEq (Value.ref _) (Value.ref _)) _ _ _); k_dflt (first | (refine' ne_nil_pos ?k1 ?k2 ?k3 ?k4 ?k5 ?_; (case k4 => with_reducible assumption); (case k1 => k_asm); (case k2 => k_mem); (case k3 => k_mem); (case k5 => ktr_units)) | (refine' ne_nil_zero ?k1 ?k2 ?k3 ?k4 ?k5 ?_; (case k4 => with_reducible assumption); (case k1 => k_asm); (case k2 => k_mem); (case k3 => k_mem); (case k5 => ktr_units)))) | ((with_reducible show wpAny _ _ (call (Value.builtin "list.append") _) _ _ _); k_dflt (refine' append_K ?k1 ?k2 ?k3 ?_ ?z; (case k1 => k_asm); (case k2 => k_asm); (case k3 => k_upd); (case z => with_reducible assumption); k_whole); intro h' F' N'; (try k_sweep)) | ((with_reducible show wpAny _ _ (execs _ _) _ _ { heap := _, gens := _, drawn := _, toks := _ + 1, os := _ }); refine gen_toks ?_; intro tkp htkp) | ((with_reducible show wpAny _ _ (binaryOp Operator.Mult (Value.int _ _) (Value.int _ _)) _ _ _); k_dflt (refine mul_small (by omega) ?_); try dsimp only) | ((with_reducible show wpAny _ _ (exec (Stmt.Assign _ (PySem.Expr.ListComp _ _ _ _) _) _) _ _ _); k_dflt (refine' asg_comp_tup ?F ?N ?hm ?hh ?hsz ?hLe ?hsw ?hclos ?hcell ?hkind ?hnames ?hx ?hy ?hp ?hit ?hs ?R; (case F => k_asm); (case N => k_asm); (case hit => (intro Q' h'; exact nameX_L (by k_asm) (by rfl) h' (by rfl) (by rfl))); (case hm => (unfold TupIn; k_mem)); (case hh => exact rfl); (case hsz => exact Nat.le_of_ble_eq_true rfl); (case hLe => exact rfl); (case hsw => with_unfolding_all rfl); (case hclos => with_unfolding_all rfl); (case hcell => decide); (case hkind => exact rfl); (case hnames => decide); (case hx => exact rfl); (case hy => exact rfl); (case hp => exact rfl); (case hs => (intro _; rfl))); (intro g'; k_dflt lcg_lit)) | ((with_reducible show TurnEnd _ _ _ _ _ _ _ _ _); refine hold ?_) | (k_unfold; (try dsimp only)) | (k_end; wrow_close) | walk1 | (dsimp only; walk1) | (leave1; walk_say "STEP leave1"; try dsimp only) | fail "no step")
        refine Hold.of ?_
        rename News _ _ _ _ => NE
        rename Fr _ _ _ _ => FE
        refine' close_app (lb := lb) (W := W + bs.getD i 0) (by rw [← hWe]; rfl) FE NE ?hsub ?hI ?hD ?hDe off9 lbe ce9 (by rfl) (by rfl) (by rfl) hkeep9 hlen hent
        case hsub => refine' List.forall_mem_cons.mpr ⟨?_, List.forall_mem_cons.mpr ⟨?_, List.forall_mem_cons.mpr ⟨?_, List.forall_mem_cons.mpr ⟨?_, List.forall_mem_cons.mpr ⟨?_, ?_⟩⟩⟩⟩⟩ <;> first | k_mem | (intro p hp; repeat (first | exact hp | apply List.mem_cons_of_mem))
        case hI => exact ⟨hI9.1, hI9.2.1, hI9.2.2.1, hI9.2.2.2⟩
        case hD => (refine neN ?_; omega)
        case hDe => (refine neN ?_; omega)
      case loop =>
        refine For_invV g1 (by rfl) (by rfl) ?_ (by intro _; rfl) (by passes_own)
        rw [map4 ma9 mt9 me9 mb9] at F9
        (try dsimp only)
        repeat' ((fail_if_success (with_reducible show Hold _)); first | ((with_reducible show wpAny _ _ (call (Value.ref 129) _) _ _ _); k_dflt (refine' use_list3 (step_ctr _ _ _ _ _ _ _ _ _ (by with_reducible assumption)) ?k1 ?k2 ?k3 ?k4 ?k5 ?kK ?kN ?kd ?ku ?_; (case k1 => k_asm); (case k2 => k_asm); (case k3 => k_asm); (case k4 => k_asm); (case k5 => k_asm); (case kK => first | exact rfl | assumption); (case kN => (intro q hq; simp only [List.mem_singleton] at hq; subst hq; k_mem)); (case kd => ktr_room); (case ku => ktr_units); k_whole); intro p9 s9 t9 u9 h9 tk9 F9 N9 l9; (replace l9 := neNat l9); (try simp only [List.forall_mem_cons] at l9); (try dsimp only); (try k_fold)) | ((with_reducible show wpAny _ _ (compareOp CmpOp.Eq (Value.ref _) (Value.ref _)) _ _ _); k_dflt (refine' eq3_ints ?k1 ?k2 ?k3 ?k4 (fun c9 => ?_) (fun c9 => ?_); (case k1 => k_asm); (case k2 => k_mem); (case k3 => k_mem); (case k4 => ktr_units))) | ((with_reducible show wpAny _ _ (compareOp CmpOp.NotEq (Value.ref _) (Value.ref _)) _ _ _); k_dflt (first | (refine' ne_nil_pos ?k1 ?k2 ?k3 ?k4 ?k5 ?_; (case k4 => with_reducible assumption); (case k1 => k_asm); (case k2 => k_mem); (case k3 => k_mem); (case k5 => ktr_units)) | (refine' ne_nil_zero ?k1 ?k2 ?k3 ?k4 ?k5 ?_; (case k4 => with_reducible assumption); (case k1 => k_asm); (case k2 => k_mem); (case k3 => k_mem); (case k5 => ktr_units)))) | ((with_reducible show wpAny _ _ (call (Value.builtin "list.append") _) _ _ _); k_dflt (refine' append_K ?k1 ?k2 ?k3 ?_ ?z; (case k1 => k_asm); (case k2 => k_asm); (case k3 => k_upd); (case z => with_reducible assumption); k_whole); intro h' F' N'; (try k_sweep)) | ((with_reducible show wpAny _ _ (execs _ _) _ _ { heap := _, gens := _, drawn := _, toks := _ + 1, os := _ }); refine gen_toks ?_; intro tkp htkp) | ((with_reducible show wpAny _ _ (binaryOp Operator.Mult (Value.int _ _) (Value.int _ _)) _ _ _); k_dflt (refine mul_small (by omega) ?_); try dsimp only) | ((with_reducible show wpAny _ _ (exec (Stmt.Assign _ (PySem.Expr.ListComp _ _ _ _) _) _) _ _ _); k_dflt (refine' asg_comp_tup ?F ?N ?hm ?hh ?hsz ?hLe ?hsw ?hclos ?hcell ?hkind ?hnames ?hx ?hy ?hp ?hit ?hs ?R; (case F => k_asm); (case N => k_asm); (case hit => (intro Q' h'; exact nameX_L (by k_asm) (by rfl) h' (by rfl) (by rfl))); (case hm => (unfold TupIn; k_mem)); (case hh => exact rfl); (case hsz => exact Nat.le_of_ble_eq_true rfl); (case hLe => exact rfl); (case hsw => with_unfolding_all rfl); (case hclos => with_unfolding_all rfl); (case hcell => decide); (case hkind => exact rfl); (case hnames => decide); (case hx => exact rfl); (case hy => exact rfl); (case hp => exact rfl); (case hs => (intro _; rfl))); (intro g'; k_dflt lcg_lit)) | ((with_reducible show wpAny _ _ (pyIter (Value.ref _)) _ _ _); refine hold ?_) | (k_unfold; (try dsimp only)) | (k_end; wrow_close) | walk1 | (dsimp only; walk1) | (leave1; walk_say "STEP leave1"; try dsimp only) | fail "no step")
        refine Hold.of ?_
        rename News _ _ _ _ => NR
        rename Fr _ _ _ _ => FR
        rename IsRange _ _ _ _ _ _ _ _ => hrg
        obtain ⟨rs, rk⟩ := range_few _ hb
        refine iterR (fun j => InJ I oI (MidJ n (W + j) ((W + j) / (6 * n)) (L1 + 1, co) e items ep keep)) (by rfl) hrg rs rk FR NR ?start2 ?turn2 ?done2
        case start2 => exact ⟨_, rfl, hI9, lb, eb, q1, q2, q3, qt, rest9, off9, lbe, ce9, by rfl, by rfl, by rfl, rfl, hkeep9⟩
        case done2 =>
          rintro m2 news2 h2 tk2 ⟨news3, rfl, hI3, J3⟩ F2 N2
          exact ⟨rfl, _, _, _, _, rfl, F2, N2, hI3, J3⟩
        case turn2 =>
          clear NR FR hrg ma9 mt9 me9 mb9 off9 lbe hkeep9 hI9
          rintro j tj m2 news2 h2 tk2 I2 oI2 hj ⟨news3, rfl, hI3, ⟨lc, ec, p1, p2, p3, pt, rest3, off3, lce, ce3, ma3, mt3, me3, rfl, hkeep3⟩⟩ hI2 F2 N2
          rw [map3 ma3 mt3 me3] at F2
          simp only [List.forall_mem_cons] at hI2 hI3
          (try dsimp only)
          repeat' ((fail_if_success (with_reducible show Hold _)); first | ((with_reducible show wpAny _ _ (call (Value.ref 129) _) _ _ _); k_dflt (refine' use_list3 (step_ctr _ _ _ _ _ _ _ _ _ (by with_reducible assumption)) ?k1 ?k2 ?k3 ?k4 ?k5 ?kK ?kN ?kd ?ku ?_; (case k1 => k_asm); (case k2 => k_asm); (case k3 => k_asm); (case k4 => k_asm); (case k5 => k_asm); (case kK => first | exact rfl | assumption); (case kN => (intro q hq; simp only [List.mem_singleton] at hq; subst hq; k_mem)); (case kd => ktr_room); (case ku => ktr_units); k_whole); intro p9 s9 t9 u9 h9 tk9 F9 N9 l9; (replace l9 := neNat l9); (try simp only [List.forall_mem_cons] at l9); (try dsimp only); (try k_fold)) | ((with_reducible show wpAny _ _ (compareOp CmpOp.Eq (Value.ref _) (Value.ref _)) _ _ _); k_dflt (refine' eq3_ints ?k1 ?k2 ?k3 ?k4 (fun c9 => ?_) (fun c9 => ?_); (case k1 => k_asm); (case k2 => k_mem); (case k3 => k_mem); (case k4 => ktr_units))) | ((with_reducible show wpAny _ _ (compareOp CmpOp.NotEq (Value.ref _) (Value.ref _)) _ _ _); k_dflt (first | (refine' ne_nil_pos ?k1 ?k2 ?k3 ?k4 ?k5 ?_; (case k4 => with_reducible assumption); (case k1 => k_asm); (case k2 => k_mem); (case k3 => k_mem); (case k5 => ktr_units)) | (refine' ne_nil_zero ?k1 ?k2 ?k3 ?k4 ?k5 ?_; (case k4 => with_reducible assumption); (case k1 => k_asm); (case k2 => k_mem); (case k3 => k_mem); (case k5 => ktr_units)))) | ((with_reducible show wpAny _ _ (call (Value.builtin "list.append") _) _ _ _); k_dflt (refine' append_K ?k1 ?k2 ?k3 ?_ ?z; (case k1 => k_asm); (case k2 => k_asm); (case k3 => k_upd); (case z => with_reducible assumption); k_whole); intro h' F' N'; (try k_sweep)) | ((with_reducible show wpAny _ _ (execs _ _) _ _ { heap := _, gens := _, drawn := _, toks := _ + 1, os := _ }); refine gen_toks ?_; intro tkp htkp) | ((with_reducible show wpAny _ _ (binaryOp Operator.Mult (Value.int _ _) (Value.int _ _)) _ _ _); k_dflt (refine mul_small (by omega) ?_); try dsimp only) | ((with_reducible show wpAny _ _ (exec (Stmt.Assign _ (PySem.Expr.ListComp _ _ _ _) _) _) _ _ _); k_dflt (refine' asg_comp_tup ?F ?N ?hm ?hh ?hsz ?hLe ?hsw ?hclos ?hcell ?hkind ?hnames ?hx ?hy ?hp ?hit ?hs ?R; (case F => k_asm); (case N => k_asm); (case hit => (intro Q' h'; exact nameX_L (by k_asm) (by rfl) h' (by rfl) (by rfl))); (case hm => (unfold TupIn; k_mem)); (case hh => exact rfl); (case hsz => exact Nat.le_of_ble_eq_true rfl); (case hLe => exact rfl); (case hsw => with_unfolding_all rfl); (case hclos => with_unfolding_all rfl); (case hcell => decide); (case hkind => exact rfl); (case hnames => decide); (case hx => exact rfl); (case hy => exact rfl); (case hp => exact rfl); (case hs => (intro _; rfl))); (intro g'; k_dflt lcg_lit)) | ((with_reducible show TurnEnd _ _ _ _ _ _ _ _ _); refine hold ?_) | (k_unfold; (try dsimp only)) | (k_end; wrow_close) | walk1 | (dsimp only; walk1) | (leave1; walk_say "STEP leave1"; try dsimp only) | fail "no step")
          all_goals refine Hold.of ?_
          all_goals (
            rename News _ _ _ _ => NE
            rename Fr _ _ _ _ => FE
            refine' close_turn (lc := lc) FE NE ?hsub ?hI2 ?hI ?hp2 ?hp1 ?hpe off3 lce ce3 (by rfl) ?mt (by rfl) hkeep3
            case hsub => refine' List.forall_mem_cons.mpr ⟨?_, List.forall_mem_cons.mpr ⟨?_, List.forall_mem_cons.mpr ⟨?_, List.forall_mem_cons.mpr ⟨?_, List.forall_mem_cons.mpr ⟨?_, List.forall_mem_cons.mpr ⟨?_, ?_⟩⟩⟩⟩⟩⟩ <;> first | k_mem | (intro p hp; repeat (first | exact hp | apply List.mem_cons_of_mem))
            case hI2 => exact ⟨hI2.1, hI2.2.1, hI2.2.2.1, hI2.2.2.2.1, hI2.2.2.2.2⟩
            case hI => exact ⟨hI3.1, hI3.2.1, hI3.2.2.1, hI3.2.2.2⟩
            case hp2 => (refine neN ?_; omega)
            case hp1 => (refine neN ?_; omega)
            case hpe => (refine neN ?_; omega)
            case mt => first | exact congrArg (fun x => some (Value.int x _)) (told_yes hn (by with_reducible assumption)).symm | exact congrArg (fun x => some (Value.int x _)) (told_no hn (by with_reducible assumption)).symm)
end Mine
end PartCEi
section PartMe0
open PySem PySem.W PyProof.Rows PySem.Calls PyProof.Rows.LCg
set_option maxRecDepth 100000
set_option maxHeartbeats 8000000
namespace Mine
section
variable {prog : Program} {w : World} {A : Around} {E : Value → Shared → Prop} {s : Shared} {h₀ : Heap} {L c : Addr} {news : List (Addr × Obj)} {vs : List Value} {cs : List Int} {Q : Value → Shared → Prop}
theorem len_tupL (N : News h₀ L s.heap news) (hm : (c, tupOf vs) ∈ news) (hv : IntsAre vs cs) (hz : cs.length ≤ 1000) (h : ∀ t tk, Q (.int cs.length t) { s with toks := tk }) :
    wpAny (model prog w) A (call (.builtin "len") [.ref c]) Q E s := by
  have hl := hv.length
  have e : vs.toArray.size = cs.length := by rw [List.size_toArray]; exact hl
  refine len_tuple (items := vs.toArray) ⟨_, (N _ hm).1, rfl, 0, rfl⟩ (by rw [e]; omega) ?_
  rw [e]
  exact h _ _
theorem item_tupL {value slice : PySem.Expr} {k : Int} {u : Tok} (N : News h₀ L s.heap news) (hm : (c, tupOf vs) ∈ news) (hv : IntsAre vs cs) (hz : cs.length ≤ 1000) (h0 : 0 ≤ k) (h1 : k < cs.length) (h : ∀ t, Q (.int (cs.getD k.toNat 0) t) s)
    (hs : subscripted slice false (.ref c) (.int k u) = operate [.ref c, .int k u] (getItem (.ref c) (.int k u)) := by with_unfolding_all rfl) :
    wpAny (model prog w) A (subscriptTail value slice (.ref c) (.int k u)) Q E s := by
  have ht : IsTup s.heap c vs.toArray := ⟨_, (N _ hm).1, rfl, 0, rfl⟩
  have hl := hv.length
  have hn : k < ((vs.toArray.size : Nat) : Int) := by rw [List.size_toArray, hl]; exact h1
  have hk : k.toNat < cs.length := by omega
  obtain ⟨x, t, e1, e2⟩ := IntsAre.at hv k.toNat vs[k.toNat] (by rw [List.getElem?_eq_getElem (by omega)])
  have ex : cs.getD k.toNat 0 = x := by rw [List.getD_eq_getElem?_getD, e2]; rfl
  have ev : vs.toArray[k.toNat]? = some (Value.int x t) := by rw [← e1]; simp
  refine tail_any ht.typeIs slot_tuple_getitem.lookup (getItem_tuple ht (by omega) (by omega) (seqIndex_of h0 hn) ev ?_) hs
  rw [← ex]; exact h t
end
/-- what indent_level's loop adds up -/
noncomputable def ilN (n : Nat) (cs : List Int) : Nat → Int
  | 0 => 0
  | j + 1 => ilN n cs j + (((n : Int) + (j : Int)).fdiv n) * cs.getD (((n : Int) + (j : Int)).toNat) 0
/-- what indent_level gives back -/
noncomputable def indN (n : Nat) (cs : List Int) (b nt : Int) : Int := b + n * (ilN n cs ((cs.length : Int) - n).toNat + nt)
theorem fd_small {n j k : Nat} (hn : 1 ≤ n ∧ n ≤ 4) (hj : n + j ≤ k) (hk : k ≤ 1000) : -1000 ≤ ((n : Int) + (j : Int)).fdiv n ∧ ((n : Int) + (j : Int)).fdiv n ≤ 1000 := by
  rw [Int.fdiv_eq_ediv_of_nonneg _ (by omega)]
  have e : ((n : Int) + (j : Int)) / (n : Int) = (((n + j) / n : Nat) : Int) := by simp
  rw [e]
  have := Nat.div_le_self (n + j) n
  generalize (n + j) / n = q at *
  omega
theorem map5 {m : Str → Option Value} {a1 a2 a3 a4 a5 : Str} {v1 v2 v3 v4 v5 : Value} (h1 : m a1 = some v1) (h2 : m a2 = some v2) (h3 : m a3 = some v3) (h4 : m a4 = some v4) (h5 : m a5 = some v5) :
    m = fun z => if z = a1 then some v1 else if z = a2 then some v2 else if z = a3 then some v3 else if z = a4 then some v4 else if z = a5 then some v5 else m z := by
  funext z
  rw [map1 h5, map1 h4, map1 h3, map1 h2, map1 h1]
/-- what holds between the turns of indent_level's loop -/
noncomputable def IndJ (x c : Addr) (n : Nat) (b : Int) (cs : List Int) (tn tb : Tok) (objs : List (Addr × Obj)) (i : Nat) (m : Str → Option Value) (news : List (Addr × Obj)) : Prop :=
  news = objs ∧ ∃ t, m (Str.ofString "il") = some (.int (ilN n cs i) t) ∧ m (Str.ofString "trailing") = some (.int b tb) ∧ m (Str.ofString "count") = some (.ref c) ∧ m (Str.ofString "tabsize") = some (.int n tn) ∧ m (Str.ofString "self") = some (.ref x)
end Mine
end PartMe0
section PartMi1
open PySem PySem.W PyProof.Rows PySem.Calls
set_option maxRecDepth 100000
set_option maxHeartbeats 8000000
namespace Mine

theorem indent_ctr (w : World) (n : Nat) (tn : Tok) (x d q c : Addr) (vs : List Value) (cs : List Int) (b nt nn : Int) (tx : Str) (is : Bool) (k1 k2 k3 k4 k5 t1 t2 t3 t4 : Tok) (hn : 1 ≤ n ∧ n ≤ 4) (hvs : IntsAre vs cs) (hz : cs.length ≤ 1000) :
    Ctr w 2 20 87 [.ref x, .int n tn] (whiteObjs w.params x d q c vs b nt nn tx is k1 k2 k3 k4 k5 t1 t2 t3 t4) (PInt (indN n cs b nt)) := by
  unfold whiteObjs
  intro mean mg mb dp un gd cn ks a ccd cl outer A₀ base h₀ L m s Q E B F X N T hk hdp hun ret
  refine wpAny_call ?_
  k_dflt (refine' code_defE ?k1 ?k2 ?k3 ?k4 ?k5 ?kA ?kF ?kK ?k6 ?k7 ?k8 ?k9 ?kB ?_ ?c2 ?c3 ?c4 ?c5; (case kA => exact rfl); (case kF => exact rfl); (case kK => assumption); (case k1 => k_asm); (case k2 => k_asm); (case k3 => k_asm); (case k4 => k_asm); (case k5 => k_asm); (case k6 => k_is); (case k7 => k_is); (case k8 => ktr_room); (case k9 => exact BindsTo.of_eq rfl); (case c5 => decide); (case kB => exact locs rfl); (case c2 => exact rfl); (case c3 => exact rfl); (case c4 => exact rfl); k_whole)
  intro g1 L1 h1 S1 FG1 F1 N1 B1 X1 T1
  clear F N FG1
  (try dsimp only)
  (try k_lift B1)
  (try k_fold)
  --For_invV g1 (by rfl) (by rfl) ?_ (by intro _; rfl) (by passes_own)
  repeat' ((fail_if_success (with_reducible show Hold _)); first | ((with_reducible show wpAny _ _ (exec (Stmt.For _ _ _ _ _) _) _ _ _); refine hold ?_) | (k_unfold; (try dsimp only)) | (k_end; wrow_close) | walk1 | (dsimp only; walk1) | (leave1; walk_say "STEP leave1"; try dsimp only) | fail "no step")
  refine Hold.of ?_
  refine For_invV g1 (by rfl) (by rfl) ?_ (by intro _; rfl) (by passes_own)
  repeat' ((fail_if_success (with_reducible show Hold _)); first | ((with_reducible show wpAny _ _ (pyIter (Value.ref _)) _ _ _); refine hold ?_) | ((with_reducible show wpAny _ _ (call (Value.builtin "len") [Value.ref _]) _ _ _); refine len_tupL (by with_reducible assumption) (by k_mem) (by with_reducible assumption) (by with_reducible assumption) (fun t9 tk9 => ?_)) | (k_unfold; (try dsimp only)) | (k_end; wrow_close) | walk1 | (dsimp only; walk1) | (leave1; walk_say "STEP leave1"; try dsimp only) | fail "no step")
  refine Hold.of ?_
  rename News _ _ _ _ => NN
  rename Fr _ _ _ _ => FF
  rename IsRange _ _ _ _ _ _ _ _ => hrg
  refine iterR (IndJ x c n b cs tn t4 (whiteObjs w.params x d q c vs b nt nn tx is k1 k2 k3 k4 k5 t1 t2 t3 t4)) (by rfl) hrg (small_one (by omega) (by omega) (by omega) (by omega)) (rangeSize_nat _ _) FF NN ?start ?turn ?done
  case start => exact ⟨rfl, _, by rfl, by rfl, by rfl, by rfl, by rfl⟩
  case done =>
    clear NN FF hrg
    rintro m1 news1 h tk ⟨rfl, ti, e1, e2, e3, e4, e5⟩ F1 N1
    unfold whiteObjs at N1
    rw [map5 e1 e2 e3 e4 e5] at F1
    repeat' ((fail_if_success (with_reducible show Hold _)); first | ((with_reducible show wpAny _ _ (binaryOp Operator.Mult (Value.int _ _) (Value.int _ _)) _ _ _); k_dflt (refine mul_small (by first | with_reducible assumption | omega) ?_); try dsimp only) | (k_unfold; (try dsimp only)) | (k_end; wrow_close) | walk1 | (dsimp only; walk1) | (leave1; walk_say "STEP leave1"; try dsimp only) | fail "no step")
    all_goals (refine end_int ret S1 (by assumption) (by assumption) (by simp) ?_; rfl)
  case turn =>
    clear NN FF hrg
    rintro i ti m1 news1 h tk I oI hi ⟨rfl, tl, e1, e2, e3, e4, e5⟩ hI F1 N1
    unfold whiteObjs at N1
    rw [map5 e1 e2 e3 e4 e5] at F1
    have hq := fd_small (j := i) (k := cs.length) hn (by omega) hz
    unfold whiteObjs at hI
    simp only [List.forall_mem_cons] at hI
    repeat' ((fail_if_success (with_reducible show Hold _)); first | ((with_reducible show wpAny _ _ (binaryOp Operator.Mult (Value.int _ _) (Value.int _ _)) _ _ _); k_dflt (refine mul_small (by first | with_reducible assumption | omega) ?_); try dsimp only) | ((with_reducible show wpAny _ _ (subscriptTail _ _ (Value.ref _) (Value.int _ _)) _ _ _); (with_unfolding_all refine' item_tupL ?k1 ?k2 ?k3 ?k4 ?k5 ?k6 (fun t9 => ?_) ?k7; (case k1 => with_reducible assumption); (case k2 => k_mem); (case k3 => with_reducible assumption); (case k4 => with_reducible assumption); (case k5 => omega); (case k6 => omega); (case k7 => with_unfolding_all rfl))) | ((with_reducible show TurnEnd _ _ _ _ _ _ _ _ _); refine hold ?_) | (k_unfold; (try dsimp only)) | (k_end; wrow_close) | walk1 | (dsimp only; walk1) | (leave1; walk_say "STEP leave1"; try dsimp only) | fail "no step")
    all_goals refine Hold.of ?_
    rename News _ _ _ _ => NE
    rename Fr _ _ _ _ => FE
    exact ⟨_, _, _, _, rfl, FE, NE, by simp only [List.forall_mem_cons]; exact hI, rfl, _, by rfl, by rfl, by rfl, by rfl, by rfl⟩
end Mine
end PartMi1
section PartMe1
open PySem PySem.W PyProof.Rows PySem.Calls PyProof.Rows.LCg
set_option maxRecDepth 100000
set_option maxHeartbeats 8000000
namespace Mine
theorem readsAll_ints {h : Heap} : ∀ {vs : List Value} {ns : List Int}, IntsAre vs ns → ∃ as, ReadsAll h vs (ns.map PyData.int) as
  | _, _, .nil => ⟨_, .nil⟩
  | _, _, .cons n t r => by
    obtain ⟨as, x⟩ := readsAll_ints (h := h) r
    exact ⟨_, .cons (.int n t) x⟩
section
variable {prog : Program} {w : World} {A : Around} {E : Value → Shared → Prop} {s : Shared} {h₀ : Heap} {L q c q' c' : Addr} {news : List (Addr × Obj)} {vs vs' : List Value} {cs cs' : List Int} {b b' : Int} {t t' : Tok} {Q : Value → Shared → Prop}
theorem norm_reads (N : News h₀ L s.heap news) (h1 : (q, tupOf [.ref c, .int b t]) ∈ news) (h2 : (c, tupOf vs) ∈ news) (hv : IntsAre vs cs) : ∃ as, Reads s.heap (.ref q) (.tuple [.tuple (cs.map PyData.int), .int b]) as := by
  obtain ⟨as, x⟩ := readsAll_ints (h := s.heap) hv
  exact ⟨_, .tuple (N _ h1).1 rfl rfl (.cons (.tuple (N _ h2).1 rfl rfl x) (.cons (.int _ _) .nil))⟩
theorem norm_shaped (cs : List Int) (b : Int) : SeqAt.shaped (.tuple [.tuple (cs.map PyData.int), .int b]) = true := by
  simp [SeqAt.shaped, PyData.canLay0, PyData.canLayAll0, PyData.depth, PyData.depthAll, ke_canLayAll0, ke_depthAll]
theorem eq_norm (N : News h₀ L s.heap news) (h1 : (q, tupOf [.ref c, .int b t]) ∈ news) (h2 : (c, tupOf vs) ∈ news) (hv : IntsAre vs cs) (h3 : (q', tupOf [.ref c', .int b' t']) ∈ news) (h4 : (c', tupOf vs') ∈ news) (hv' : IntsAre vs' cs')
    (hu : A.units + 64 < cLine) (h : Q (.bool (decide (cs = cs') && decide (b = b'))) s) : wpAny (model prog w) A (compareOp .Eq (.ref q) (.ref q')) Q E s := by
  obtain ⟨as, x⟩ := norm_reads N h1 h2 hv
  obtain ⟨bs, y⟩ := norm_reads N h3 h4 hv'
  refine SeqAt.compareEq_shaped x y (norm_shaped _ _) (norm_shaped _ _) hu ?_
  have e : PyData.eqv (.tuple [.tuple (cs.map PyData.int), .int b]) (.tuple [.tuple (cs'.map PyData.int), .int b']) = (decide (cs = cs') && decide (b = b')) := by
    simp only [PyData.eqv, PyData.eqvAll, ked_eqvAll, Bool.and_true]
    rfl
  rw [e]
  exact h
end
/-- the greater one, as max tells it -/
noncomputable def mx (a b : Int) : Int := if a < b then b else a
/-- the sizes at which two whites part -/
noncomputable def witL (f g : Nat → Int) : Nat → List (Int × Int × Int)
  | 0 => []
  | i + 1 => if f (i + 1) = g (i + 1) then witL f g i else witL f g i ++ [(((i + 1 : Nat) : Int), f (i + 1), g (i + 1))]
/-- tuples of three ints on the ledger -/
noncomputable def Trips (L : List (Int × Int × Int)) (items : List Value) (keep : List (Addr × Obj)) : Prop :=
  items.length = L.length ∧ ∀ j (hj : j < L.length), ∃ p t1 t2 t3, items[j]? = some (.ref p) ∧ (p, tupOf [.int L[j].1 t1, .int L[j].2.1 t2, .int L[j].2.2 t3]) ∈ keep
theorem Trips.nil {keep : List (Addr × Obj)} : Trips [] [] keep := ⟨rfl, fun j hj => absurd hj (Nat.not_lt_zero _)⟩
theorem Trips.snoc {L : List (Int × Int × Int)} {items : List Value} {keep keep' : List (Addr × Obj)} {p : Addr} {a b c : Int} {t1 t2 t3 : Tok} (T : Trips L items keep) (hk : ∀ q ∈ keep, q ∈ keep') (hp : (p, tupOf [.int a t1, .int b t2, .int c t3]) ∈ keep') :
    Trips (L ++ [(a, b, c)]) (items ++ [.ref p]) keep' := by
  refine ⟨by simp [T.1], fun j hj => ?_⟩
  rcases Nat.lt_or_ge j L.length with q | q
  · obtain ⟨p', u1, u2, u3, e1, e2⟩ := T.2 j q
    refine ⟨p', u1, u2, u3, ?_, ?_⟩
    · rw [List.getElem?_append_left (by rw [T.1]; exact q)]; exact e1
    · rw [List.getElem_append_left q]; exact hk _ e2
  · have e : j = L.length := by simp at hj; omega
    subst e
    refine ⟨p, t1, t2, t3, ?_, ?_⟩
    · rw [← T.1]; simp
    · simpa using hp
theorem Trips.mono {L : List (Int × Int × Int)} {items : List Value} {keep keep' : List (Addr × Obj)} (T : Trips L items keep) (hk : ∀ q ∈ keep, q ∈ keep') : Trips L items keep' :=
  ⟨T.1, fun j hj => by obtain ⟨p, u1, u2, u3, e1, e2⟩ := T.2 j hj; exact ⟨p, u1, u2, u3, e1, hk _ e2⟩⟩
/-- what not_equal_witness gives back -/
noncomputable def PWit (L : List (Int × Int × Int)) (h : Heap) (v : Value) (h' : Heap) : Prop :=
  ∃ e items ep keep, v = .ref e ∧ h.get? e = none ∧ h'.get? e = some (listOf (List.toArray items) ep) ∧ Trips L items keep ∧ ∀ p ∈ keep, h.get? p.1 = none ∧ h'.get? p.1 = some p.2
end Mine
end PartMe1
section PartMi2
open PySem PySem.W PyProof.Rows PySem.Calls
set_option maxRecDepth 100000
set_option maxHeartbeats 8000000
namespace Mine

theorem longest_ctr (w : World) (x d q c : Addr) (vs : List Value) (cs : List Int) (b nt nn : Int) (tx : Str) (is : Bool) (k1 k2 k3 k4 k5 t1 t2 t3 t4 : Tok) (hvs : IntsAre vs cs) (hz : cs.length ≤ 1000) :
    Ctr w 2 20 80 [.ref x] (whiteObjs w.params x d q c vs b nt nn tx is k1 k2 k3 k4 k5 t1 t2 t3 t4) (PInt (mx ((cs.length : Int) - 1) b)) := by
  unfold whiteObjs
  intro mean mg mb dp un gd cn ks a ccd cl outer A₀ base h₀ L m s Q E B F X N T hk hdp hun ret
  refine wpAny_call ?_
  k_dflt (refine' code_defE ?k1 ?k2 ?k3 ?k4 ?k5 ?kA ?kF ?kK ?k6 ?k7 ?k8 ?k9 ?kB ?_ ?c2 ?c3 ?c4 ?c5; (case kA => exact rfl); (case kF => exact rfl); (case kK => assumption); (case k1 => k_asm); (case k2 => k_asm); (case k3 => k_asm); (case k4 => k_asm); (case k5 => k_asm); (case k6 => k_is); (case k7 => k_is); (case k8 => ktr_room); (case k9 => exact BindsTo.of_eq rfl); (case c5 => decide); (case kB => exact locs rfl); (case c2 => exact rfl); (case c3 => exact rfl); (case c4 => exact rfl); k_whole)
  intro g1 L1 h1 S1 FG1 F1 N1 B1 X1 T1
  clear F N FG1
  (try dsimp only)
  (try k_lift B1)
  (try k_fold)
  repeat' ((fail_if_success (with_reducible show Hold _)); first | ((with_reducible show wpAny _ _ (call (Value.builtin "len") [Value.ref _]) _ _ _); refine len_tupL (by with_reducible assumption) (by k_mem) (by with_reducible assumption) (by with_reducible assumption) (fun t9 tk9 => ?_)) | (k_unfold; (try dsimp only)) | (k_end; wrow_close) | walk1 | (dsimp only; walk1) | (leave1; walk_say "STEP leave1"; try dsimp only) | fail "no step")
  all_goals (refine end_int ret S1 (by assumption) (by assumption) (by simp) ?_; rfl)
theorem equal_ctr (w : World) (x d q c : Addr) (vs : List Value) (cs : List Int) (b nt nn : Int) (tx : Str) (is : Bool) (k1 k2 k3 k4 k5 t1 t2 t3 t4 : Tok) (x' d' q' c' : Addr) (vs' : List Value) (cs' : List Int) (b' nt' nn' : Int) (tx' : Str) (is' : Bool) (k1' k2' k3' k4' k5' t1' t2' t3' t4' : Tok) (hvs : IntsAre vs cs) (hvs' : IntsAre vs' cs') :
    Ctr w 2 100 94 [.ref x, .ref x'] ((whiteObjs w.params x d q c vs b nt nn tx is k1 k2 k3 k4 k5 t1 t2 t3 t4) ++ (whiteObjs w.params x' d' q' c' vs' b' nt' nn' tx' is' k1' k2' k3' k4' k5' t1' t2' t3' t4')) (PBool (decide (cs = cs') && decide (b = b'))) := by
  unfold whiteObjs
  simp only [List.cons_append, List.nil_append]
  intro mean mg mb dp un gd cn ks a ccd cl outer A₀ base h₀ L m s Q E B F X N T hk hdp hun ret
  refine wpAny_call ?_
  k_dflt (refine' code_defE ?k1 ?k2 ?k3 ?k4 ?k5 ?kA ?kF ?kK ?k6 ?k7 ?k8 ?k9 ?kB ?_ ?c2 ?c3 ?c4 ?c5; (case kA => exact rfl); (case kF => exact rfl); (case kK => assumption); (case k1 => k_asm); (case k2 => k_asm); (case k3 => k_asm); (case k4 => k_asm); (case k5 => k_asm); (case k6 => k_is); (case k7 => k_is); (case k8 => ktr_room); (case k9 => exact BindsTo.of_eq rfl); (case c5 => decide); (case kB => exact locs rfl); (case c2 => exact rfl); (case c3 => exact rfl); (case c4 => exact rfl); k_whole)
  intro g1 L1 h1 S1 FG1 F1 N1 B1 X1 T1
  clear F N FG1
  (try dsimp only)
  (try k_lift B1)
  (try k_fold)
  repeat' ((fail_if_success (with_reducible show Hold _)); first | ((with_reducible show wpAny _ _ (compareOp CmpOp.Eq (Value.ref _) (Value.ref _)) _ _ _); (with_unfolding_all refine' eq_norm ?k1 ?k2 ?k3 ?k4 ?k5 ?k6 ?k7 ?ku ?_; (case k1 => with_reducible assumption); (case k2 => k_mem); (case k3 => k_mem); (case k4 => with_reducible assumption); (case k5 => k_mem); (case k6 => k_mem); (case k7 => with_reducible assumption); (case ku => ktr_units))) | (k_unfold; (try dsimp only)) | (k_end; wrow_close) | walk1 | (dsimp only; walk1) | (leave1; walk_say "STEP leave1"; try dsimp only) | fail "no step")
  all_goals (refine end_bool ret S1 (by assumption) (by assumption) (by simp) ?_; rfl)
end Mine
end PartMi2
section PartMe2
open PySem PySem.W PyProof.Rows PySem.Calls PyProof.Rows.LCg
set_option maxRecDepth 100000
set_option maxHeartbeats 8000000
namespace Mine
/-- what holds between the turns of not_equal_witness's loop -/
noncomputable def WitJ (x x' : Addr) (f g : Nat → Int) (objs : List (Addr × Obj)) (i : Nat) (m : Str → Option Value) (news : List (Addr × Obj)) : Prop :=
  ∃ e items ep keep, news = (e, listOf (List.toArray items) ep) :: (objs ++ keep) ∧ (∀ p ∈ objs, @Ne Nat p.1 e) ∧ (∀ p ∈ keep, @Ne Nat p.1 e) ∧ (∀ p ∈ objs, ∀ q ∈ keep, @Ne Nat p.1 q.1) ∧ Trips (witL f g i) items keep ∧
    m (Str.ofString "a") = some (.ref e) ∧ m (Str.ofString "self") = some (.ref x) ∧ m (Str.ofString "other") = some (.ref x')
section
variable {h₀ h' : Heap} {L I e x x' : Addr} {oI : Obj} {objs keep all : List (Addr × Obj)} {items : List Value} {ep i : Nat} {f g : Nat → Int} {m' : Str → Option Value} {s₁ : Shared} {tk : Nat} {Q : Flow → Shared → Prop}
theorem wit_close (F : Fr h₀ L h' m') (N : News h₀ L h' all) (hsub : ∀ p ∈ (I, oI) :: (e, listOf (List.toArray items) ep) :: (objs ++ keep), p ∈ all)
    (hI : @Ne Nat e I) (oI1 : ∀ p ∈ objs, @Ne Nat p.1 I) (oI2 : ∀ p ∈ keep, @Ne Nat p.1 I) (off1 : ∀ p ∈ objs, @Ne Nat p.1 e) (off2 : ∀ p ∈ keep, @Ne Nat p.1 e) (apt : ∀ p ∈ objs, ∀ q ∈ keep, @Ne Nat p.1 q.1) (T : Trips (witL f g (i + 1)) items keep)
    (ma : m' (Str.ofString "a") = some (.ref e)) (ms : m' (Str.ofString "self") = some (.ref x)) (mo : m' (Str.ofString "other") = some (.ref x')) :
    TurnEnd h₀ L (WitJ x x' f g objs (i + 1)) I oI s₁ Q .next { s₁ with heap := h', toks := tk } := by
  refine ⟨h', tk, m', (e, listOf (List.toArray items) ep) :: (objs ++ keep), rfl, F, fun p hp => N p (hsub p hp), ?_, e, items, ep, keep, rfl, off1, off2, apt, T, ma, ms, mo⟩
  intro p hp
  rcases List.mem_cons.mp hp with rfl | hp
  · exact hI
  · rcases List.mem_append.mp hp with hp | hp
    · exact oI1 p hp
    · exact oI2 p hp
theorem wit_app {D : Addr} {a b c : Int} {t1 t2 t3 : Tok} (F : Fr h₀ L h' m') (N : News h₀ L h' all) (hsub : ∀ p ∈ (I, oI) :: (e, listOf (items.toArray.push (.ref D)) ep) :: (objs ++ ((D, tupOf [.int a t1, .int b t2, .int c t3]) :: keep)), p ∈ all)
    (hI : @Ne Nat e I) (oI1 : ∀ p ∈ objs, @Ne Nat p.1 I) (oI2 : ∀ p ∈ keep, @Ne Nat p.1 I) (hDI : @Ne Nat D I) (hDe : @Ne Nat D e) (off1 : ∀ p ∈ objs, @Ne Nat p.1 e) (off2 : ∀ p ∈ keep, @Ne Nat p.1 e) (apt : ∀ p ∈ objs, ∀ q ∈ keep, @Ne Nat p.1 q.1) (hDo : ∀ p ∈ objs, @Ne Nat p.1 D)
    (T : Trips (witL f g i) items keep) (hw : witL f g (i + 1) = witL f g i ++ [(a, b, c)])
    (ma : m' (Str.ofString "a") = some (.ref e)) (ms : m' (Str.ofString "self") = some (.ref x)) (mo : m' (Str.ofString "other") = some (.ref x')) :
    TurnEnd h₀ L (WitJ x x' f g objs (i + 1)) I oI s₁ Q .next { s₁ with heap := h', toks := tk } := by
  have e0 : items.toArray.push (Value.ref D) = (items ++ [Value.ref D]).toArray := by simp
  rw [e0] at hsub
  refine wit_close F N hsub hI oI1 (List.forall_mem_cons.mpr ⟨hDI, oI2⟩) off1 (List.forall_mem_cons.mpr ⟨hDe, off2⟩) (fun p hp => List.forall_mem_cons.mpr ⟨hDo p hp, apt p hp⟩) ?_ ma ms mo
  rw [hw]
  exact T.snoc (fun q hq => List.mem_cons_of_mem _ hq) List.mem_cons_self
end
theorem witL_len (f g : Nat → Int) : ∀ i, (witL f g i).length ≤ i
  | 0 => Nat.le_refl _
  | i + 1 => by
    have := witL_len f g i
    unfold witL
    split
    · omega
    · simp; omega
theorem witL_skip {f g : Nat → Int} {i : Nat} (h : f (i + 1) = g (i + 1)) : witL f g (i + 1) = witL f g i := by simp [witL, h]
theorem witL_app {f g : Nat → Int} {i : Nat} (h : ¬ f (i + 1) = g (i + 1)) : witL f g (i + 1) = witL f g i ++ [(((i + 1 : Nat) : Int), f (i + 1), g (i + 1))] := by simp [witL, h]
theorem wit_post {L : List (Int × Int × Int)} {h h' g : Heap} {L1 e : Addr} {objs all keep : List (Addr × Obj)} {items : List Value} {ep : Nat} (S : Split h objs g) (N : News g L1 h' all) (he : (e, listOf (List.toArray items) ep) ∈ all) (hk : ∀ p ∈ keep, p ∈ all)
    (off1 : ∀ p ∈ objs, @Ne Nat p.1 e) (off2 : ∀ p ∈ objs, ∀ q ∈ keep, @Ne Nat p.1 q.1) (T : Trips L items keep) : PWit L h (.ref e) h' :=
  ⟨e, items, ep, keep, rfl, (S.new N he off1).1, (S.new N he off1).2, T, fun p hp => S.new N (a := p.1) (o := p.2) (hk p hp) fun r hr => off2 r hr p hp⟩
end Mine
end PartMe2
section PartMi3
open PySem PySem.W PyProof.Rows PySem.Calls
set_option maxRecDepth 100000
set_option maxHeartbeats 8000000
namespace Mine
local macro_rules | `(tactic| k_all) => `(tactic| assumption)

theorem indent_ctr' (w : World) (n : Nat) (tn : Tok) (x d q c : Addr) (vs : List Value) (cs : List Int) (b nt nn : Int) (tx : Str) (is : Bool) (k1 k2 k3 k4 k5 t1 t2 t3 t4 : Tok) (hn : 1 ≤ n ∧ n ≤ 4) (hvs : IntsAre vs cs) (hz : cs.length ≤ 1000) {z : Int} (e : indN n cs b nt = z) :
    Ctr w 2 20 87 [.ref x, .int n tn] (whiteObjs w.params x d q c vs b nt nn tx is k1 k2 k3 k4 k5 t1 t2 t3 t4) (PInt z) := by
  rw [← e]; exact indent_ctr w n tn x d q c vs cs b nt nn tx is k1 k2 k3 k4 k5 t1 t2 t3 t4 hn hvs hz
theorem witness_ctr (w : World) (n : Nat) (f g : Nat → Int) (x d q c : Addr) (vs : List Value) (cs : List Int) (b nt nn : Int) (tx : Str) (is : Bool) (k1 k2 k3 k4 k5 t1 t2 t3 t4 : Tok) (x' d' q' c' : Addr) (vs' : List Value) (cs' : List Int) (b' nt' nn' : Int) (tx' : Str) (is' : Bool) (k1' k2' k3' k4' k5' t1' t2' t3' t4' : Tok) (hvs : IntsAre vs cs) (hvs' : IntsAre vs' cs') (hz : cs.length ≤ 1000) (hz' : cs'.length ≤ 1000) (hf : ∀ i, indN i cs b nt = f i) (hg : ∀ i, indN i cs' b' nt' = g i) (hn4 : n ≤ 4) (hn : mx (mx ((cs.length : Int) - 1) b) (mx ((cs'.length : Int) - 1) b') + 1 = n) :
    Ctr w 4 60 101 [.ref x, .ref x'] ((whiteObjs w.params x d q c vs b nt nn tx is k1 k2 k3 k4 k5 t1 t2 t3 t4) ++ (whiteObjs w.params x' d' q' c' vs' b' nt' nn' tx' is' k1' k2' k3' k4' k5' t1' t2' t3' t4')) (PWit (witL f g n)) := by
  have hn1 : (if mx ((cs.length : Int) - 1) b < mx ((cs'.length : Int) - 1) b' then mx ((cs'.length : Int) - 1) b' else mx ((cs.length : Int) - 1) b) + 1 = n := hn
  replace hn4 : Hold (n ≤ 4) := hn4
  unfold whiteObjs
  simp only [List.cons_append, List.nil_append]
  intro mean mg mb dp un gd cn ks a ccd cl outer A₀ base h₀ L m s Q E B F X N T hk hdp hun ret
  refine wpAny_call ?_
  k_dflt (refine' code_defE ?k1 ?k2 ?k3 ?k4 ?k5 ?kA ?kF ?kK ?k6 ?k7 ?k8 ?k9 ?kB ?_ ?c2 ?c3 ?c4 ?c5; (case kA => exact rfl); (case kF => exact rfl); (case kK => assumption); (case k1 => k_asm); (case k2 => k_asm); (case k3 => k_asm); (case k4 => k_asm); (case k5 => k_asm); (case k6 => k_is); (case k7 => k_is); (case k8 => ktr_room); (case k9 => exact BindsTo.of_eq rfl); (case c5 => decide); (case kB => exact locs rfl); (case c2 => exact rfl); (case c3 => exact rfl); (case c4 => exact rfl); k_whole)
  intro g1 L1 h1 S1 FG1 F1 N1 B1 X1 T1
  clear F N FG1
  (try dsimp only)
  (try k_lift B1)
  (try k_fold)
  repeat' ((fail_if_success (with_reducible show Hold _)); first | ((with_reducible show wpAny _ _ (exec (Stmt.For _ _ _ _ _) _) _ _ _); refine hold ?_) | ((with_reducible show wpAny _ _ (call (Value.ref 80) _) _ _ _); (show wpAny _ _ (call (Value.ref 80) [Value.ref x]) _ _ _); k_dflt (refine' use_int (longest_ctr _ x d q c vs cs b nt nn tx is k1 k2 k3 k4 k5 t1 t2 t3 t4 (by with_reducible assumption) hz) ?k1 ?k2 ?k3 ?k4 ?k5 ?kK ?kN ?kd ?ku ?_; (case k1 => k_asm); (case k2 => k_asm); (case k3 => k_asm); (case k4 => k_asm); (case k5 => k_asm); (case kK => first | exact rfl | assumption); (case kN => (intro p hp; unfold whiteObjs at hp; revert p hp; refine' List.forall_mem_cons.mpr ⟨?_, List.forall_mem_cons.mpr ⟨?_, List.forall_mem_cons.mpr ⟨?_, List.forall_mem_cons.mpr ⟨?_, fun _ h => nomatch h⟩⟩⟩⟩ <;> k_mem)); (case kd => ktr_room); (case ku => ktr_units); k_whole); intro t9 h9 tk9 F9 N9; (try dsimp only); (try k_fold)) | ((with_reducible show wpAny _ _ (call (Value.ref 80) _) _ _ _); (show wpAny _ _ (call (Value.ref 80) [Value.ref x']) _ _ _); k_dflt (refine' use_int (longest_ctr _ x' d' q' c' vs' cs' b' nt' nn' tx' is' k1' k2' k3' k4' k5' t1' t2' t3' t4' (by with_reducible assumption) hz') ?k1 ?k2 ?k3 ?k4 ?k5 ?kK ?kN ?kd ?ku ?_; (case k1 => k_asm); (case k2 => k_asm); (case k3 => k_asm); (case k4 => k_asm); (case k5 => k_asm); (case kK => first | exact rfl | assumption); (case kN => (intro p hp; unfold whiteObjs at hp; revert p hp; refine' List.forall_mem_cons.mpr ⟨?_, List.forall_mem_cons.mpr ⟨?_, List.forall_mem_cons.mpr ⟨?_, List.forall_mem_cons.mpr ⟨?_, fun _ h => nomatch h⟩⟩⟩⟩ <;> k_mem)); (case kd => ktr_room); (case ku => ktr_units); k_whole); intro t9 h9 tk9 F9 N9; (try dsimp only); (try k_fold)) | (k_unfold; (try dsimp only)) | (k_end; wrow_close) | walk1 | (dsimp only; walk1) | (leave1; walk_say "STEP leave1"; try dsimp only) | fail "no step")
  refine Hold.of ?_
  refine For_invV g1 (by rfl) (by rfl) ?_ (by intro _; rfl) (by passes_own)
  repeat' ((fail_if_success (with_reducible show Hold _)); first | ((with_reducible show wpAny _ _ (pyIter (Value.ref _)) _ _ _); refine hold ?_) | (k_unfold; (try dsimp only)) | (k_end; wrow_close) | walk1 | (dsimp only; walk1) | (leave1; walk_say "STEP leave1"; try dsimp only) | fail "no step")
  refine Hold.of ?_
  replace hn4 := hold hn4
  rename News _ _ _ _ => NN
  rename Fr _ _ _ _ => FF
  rename IsRange _ _ _ _ _ _ _ _ => hrg
  have hk9 : ((if mx ((cs.length : Int) - 1) b < mx ((cs'.length : Int) - 1) b' then mx ((cs'.length : Int) - 1) b' else mx ((cs.length : Int) - 1) b) + 1 + 1 - 1).toNat = n := by omega
  refine iterR (WitJ x x' f g ((whiteObjs w.params x d q c vs b nt nn tx is k1 k2 k3 k4 k5 t1 t2 t3 t4) ++ (whiteObjs w.params x' d' q' c' vs' b' nt' nn' tx' is' k1' k2' k3' k4' k5' t1' t2' t3' t4'))) (by rfl) hrg (small_one (by omega) (by omega) (by omega) (by omega)) ((rangeSize_nat _ _).trans (congrArg Int.ofNat hk9)) FF NN ?start ?turn ?done
  case start =>
    refine ⟨_, [], 0, [], rfl, ?_, (fun p hp => nomatch hp), (fun p _ q hq => nomatch hq), Trips.nil, by rfl, by rfl, by rfl⟩
    unfold whiteObjs
    simp only [List.cons_append, List.nil_append]
    refine' List.forall_mem_cons.mpr ⟨?_, List.forall_mem_cons.mpr ⟨?_, List.forall_mem_cons.mpr ⟨?_, List.forall_mem_cons.mpr ⟨?_, List.forall_mem_cons.mpr ⟨?_, List.forall_mem_cons.mpr ⟨?_, List.forall_mem_cons.mpr ⟨?_, List.forall_mem_cons.mpr ⟨?_, ?_⟩⟩⟩⟩⟩⟩⟩⟩ <;> first | (intro p hp; nomatch hp) | (refine neN ?_; dsimp only; omega)
  case done =>
    clear NN FF hrg
    rintro m1 news1 h tk ⟨e, items, ep, keep, rfl, off1, off2, apt, T, ma, ms, mo⟩ F1 N1
    unfold whiteObjs at N1 off1 apt
    simp only [List.cons_append, List.nil_append] at N1 off1 apt
    rw [map3 ma ms mo] at F1
    repeat' ((fail_if_success (with_reducible show Hold _)); first | ((with_reducible show Q _ _); refine hold ?_) | (k_unfold; (try dsimp only)) | (k_end; wrow_close) | walk1 | (dsimp only; walk1) | (leave1; walk_say "STEP leave1"; try dsimp only) | fail "no step")
    refine Hold.of ?_
    refine ret _ _ _ (S1.ext (by assumption) (by assumption) ?_) (wit_post (ep := ep) S1 (by assumption) ?_ ?_ off1 apt T)
    · refine' List.forall_mem_cons.mpr ⟨?_, List.forall_mem_cons.mpr ⟨?_, List.forall_mem_cons.mpr ⟨?_, List.forall_mem_cons.mpr ⟨?_, List.forall_mem_cons.mpr ⟨?_, List.forall_mem_cons.mpr ⟨?_, List.forall_mem_cons.mpr ⟨?_, List.forall_mem_cons.mpr ⟨?_, ?_⟩⟩⟩⟩⟩⟩⟩⟩ <;> first | (intro p hp; nomatch hp) | k_mem
    · k_mem
    · (intro p hp; repeat (first | exact hp | apply List.mem_cons_of_mem))
  case turn =>
    clear NN FF hrg
    rintro i ti m1 news1 h tk I oI hi ⟨e, items, ep, keep, rfl, off1, off2, apt, T, ma, ms, mo⟩ hI F1 N1
    have hi4 : 1 ≤ i + 1 ∧ i + 1 ≤ 4 := by omega
    have hlen : items.toArray.size ≤ sizeLine := by
      rw [List.size_toArray, T.1]
      exact Nat.le_trans (witL_len f g i) (Nat.le_trans (show i ≤ 1000 by omega) (Nat.le_of_ble_eq_true rfl))
    have hoff := List.forall_mem_append.mpr ⟨off1, off2⟩
    have heI := hI _ List.mem_cons_self
    replace hI : Hold _ := hI
    replace off1 : Hold _ := off1
    replace apt : Hold _ := apt
    replace hk9 : Hold _ := hk9
    replace hn1 : Hold _ := hn1
    replace hn : Hold _ := hn
    unfold whiteObjs at N1 hoff
    simp only [List.cons_append, List.nil_append] at N1 hoff
    rw [map3 ma ms mo, show (1 : Int) + (i : Int) = ((i + 1 : Nat) : Int) by omega] at F1
    repeat' ((fail_if_success (with_reducible show Hold _)); first | ((with_reducible show TurnEnd _ _ _ _ _ _ _ _ _); refine hold ?_) | ((with_reducible show wpAny _ _ (call (Value.ref 87) _) _ _ _); (show wpAny _ _ (call (Value.ref 87) [Value.ref x, Value.int (((i + 1 : Nat) : Int)) _]) _ _ _); k_dflt (refine' use_int (indent_ctr' _ (i + 1) _ x d q c vs cs b nt nn tx is k1 k2 k3 k4 k5 t1 t2 t3 t4 hi4 (by with_reducible assumption) hz (hf (i + 1))) ?k1 ?k2 ?k3 ?k4 ?k5 ?kK ?kN ?kd ?ku ?_; (case k1 => k_asm); (case k2 => k_asm); (case k3 => k_asm); (case k4 => k_asm); (case k5 => k_asm); (case kK => first | exact rfl | assumption); (case kN => (intro p hp; unfold whiteObjs at hp; revert p hp; refine' List.forall_mem_cons.mpr ⟨?_, List.forall_mem_cons.mpr ⟨?_, List.forall_mem_cons.mpr ⟨?_, List.forall_mem_cons.mpr ⟨?_, fun _ h => nomatch h⟩⟩⟩⟩ <;> k_mem)); (case kd => ktr_room); (case ku => ktr_units); k_whole); intro t9 h9 tk9 F9 N9; (try dsimp only); (try k_fold)) | ((with_reducible show wpAny _ _ (call (Value.ref 87) _) _ _ _); (show wpAny _ _ (call (Value.ref 87) [Value.ref x', Value.int (((i + 1 : Nat) : Int)) _]) _ _ _); k_dflt (refine' use_int (indent_ctr' _ (i + 1) _ x' d' q' c' vs' cs' b' nt' nn' tx' is' k1' k2' k3' k4' k5' t1' t2' t3' t4' hi4 (by with_reducible assumption) hz' (hg (i + 1))) ?k1 ?k2 ?k3 ?k4 ?k5 ?kK ?kN ?kd ?ku ?_; (case k1 => k_asm); (case k2 => k_asm); (case k3 => k_asm); (case k4 => k_asm); (case k5 => k_asm); (case kK => first | exact rfl | assumption); (case kN => (intro p hp; unfold whiteObjs at hp; revert p hp; refine' List.forall_mem_cons.mpr ⟨?_, List.forall_mem_cons.mpr ⟨?_, List.forall_mem_cons.mpr ⟨?_, List.forall_mem_cons.mpr ⟨?_, fun _ h => nomatch h⟩⟩⟩⟩ <;> k_mem)); (case kd => ktr_room); (case ku => ktr_units); k_whole); intro t9 h9 tk9 F9 N9; (try dsimp only); (try k_fold)) | ((with_reducible show wpAny _ _ (call (Value.builtin "list.append") _) _ _ _); k_dflt (refine' append_K ?k1 ?k2 ?k3 ?_ ?z; (case k1 => k_asm); (case k2 => k_asm); (case k3 => k_upd); (case z => with_reducible assumption); k_whole); intro h' F' N'; (try k_sweep)) | (k_unfold; (try dsimp only)) | (k_end; wrow_close) | walk1 | (dsimp only; walk1) | (leave1; walk_say "STEP leave1"; try dsimp only) | fail "no step")
    all_goals refine Hold.of ?_
    all_goals (
      rename News _ _ _ _ => NE
      rename Fr _ _ _ _ => FE
      replace hI := hold hI
      replace off1 := hold off1
      replace apt := hold apt
      have hI2 := List.forall_mem_append.mp (List.forall_mem_cons.mp hI).2
      first
        | (have hw := witL_skip (f := f) (g := g) (i := i) (by omega)
           refine wit_close (keep := keep) (ep := ep) FE NE ?hsub heI hI2.1 hI2.2 off1 off2 apt (hw ▸ T) (by rfl) (by rfl) (by rfl)
           unfold whiteObjs
           simp only [List.cons_append, List.nil_append]
           refine' List.forall_mem_cons.mpr ⟨?_, List.forall_mem_cons.mpr ⟨?_, List.forall_mem_cons.mpr ⟨?_, List.forall_mem_cons.mpr ⟨?_, List.forall_mem_cons.mpr ⟨?_, List.forall_mem_cons.mpr ⟨?_, List.forall_mem_cons.mpr ⟨?_, List.forall_mem_cons.mpr ⟨?_, List.forall_mem_cons.mpr ⟨?_, List.forall_mem_cons.mpr ⟨?_, ?_⟩⟩⟩⟩⟩⟩⟩⟩⟩⟩ <;> first | k_mem | (intro p hp; repeat (first | exact hp | apply List.mem_cons_of_mem)))
        | (have hw := witL_app (f := f) (g := g) (i := i) (by omega)
           refine' wit_app (keep := keep) FE NE ?hsub heI hI2.1 hI2.2 ?hDI ?hDe off1 off2 apt ?hDo T hw (by rfl) (by rfl) (by rfl)
           case hsub =>
             unfold whiteObjs
             simp only [List.cons_append, List.nil_append]
             refine' List.forall_mem_cons.mpr ⟨?_, List.forall_mem_cons.mpr ⟨?_, List.forall_mem_cons.mpr ⟨?_, List.forall_mem_cons.mpr ⟨?_, List.forall_mem_cons.mpr ⟨?_, List.forall_mem_cons.mpr ⟨?_, List.forall_mem_cons.mpr ⟨?_, List.forall_mem_cons.mpr ⟨?_, List.forall_mem_cons.mpr ⟨?_, List.forall_mem_cons.mpr ⟨?_, List.forall_mem_cons.mpr ⟨?_, ?_⟩⟩⟩⟩⟩⟩⟩⟩⟩⟩⟩ <;> first | k_mem | (intro p hp; repeat (first | exact hp | apply List.mem_cons_of_mem))
           case hDI => (refine neN ?_; omega)
           case hDe => (refine neN ?_; omega)
           case hDo => (unfold whiteObjs; simp only [List.cons_append, List.nil_append, List.forall_mem_cons]; refine ⟨?_, ?_, ?_, ?_, ?_, ?_, ?_, ?_, fun p hp => nomatch hp⟩ <;> (refine neN ?_; omega))))
end Mine
end PartMi3
section PartLa0
open PySem PySem.W PyProof.Rows PySem.Calls PyProof.Rows.LCg
set_option maxRecDepth 100000
set_option maxHeartbeats 8000000
namespace Mine
theorem wp_cut {M : Model} {Γ : Ctx} {env : Env} {E : Value → Pos → Shared → Prop} {Q : Flow → Pos → Shared → Prop} (R : Shared → Prop) : ∀ (n : Nat) (body : List Stmt) (p : Pos) (s : Shared),
    Sem.wp M Γ (execs (body.take n) env) (fun f _ s' => f = .next ∧ R s') E p s → (∀ p' s', R s' → Sem.wp M Γ (execs (body.drop n) env) Q E p' s') → Sem.wp M Γ (execs body env) Q E p s
  | 0, body, p, s, h1, h2 => h2 p s h1.2
  | n + 1, [], p, s, h1, h2 => h2 p s h1.2
  | n + 1, st :: r, p, s, h1, h2 => by
    rw [List.take_succ_cons, execs_cons, Sem.wp_bind'] at h1
    rw [execs_cons, Sem.wp_bind']
    refine Sem.wp_mono M Γ _ (fun f p' s' h => ?_) (fun _ _ _ h => h) p s h1
    cases f with
    | next => exact wp_cut R n r p' s' h h2
    | brk => exact absurd h.1 (by intro q; cases q)
    | cont => exact absurd h.1 (by intro q; cases q)
    | ret v => exact absurd h.1 (by intro q; cases q)
/-- the first n statements, then the rest, by what holds between them -/
theorem execs_cut {M : Model} {A : Around} {env : Env} {E : Value → Shared → Prop} {Q : Flow → Shared → Prop} (n : Nat) (R : Shared → Prop) {body : List Stmt} {s : Shared}
    (h1 : wpAny M A (execs (body.take n) env) (fun f s' => f = .next ∧ R s') E s) (h2 : ∀ s', R s' → wpAny M A (execs (body.drop n) env) Q E s') : wpAny M A (execs body env) Q E s :=
  fun Γ p hΓ => wp_cut R n body p s (h1 Γ p hΓ) fun p' s' hr => h2 s' hr Γ p' hΓ
/-- the rows' ints -/
noncomputable abbrev rowsOf (tl : List Nat) : List Nat := 1 :: 3 :: tl
/-- behind the first four statements of law -/
noncomputable def LawA (g : Heap) (L : Addr) (c : Addr × Obj) (s₁ s' : Shared) : Prop :=
  ∃ h tk m r us tl st lw t1 t2, s' = { s₁ with heap := h, toks := tk } ∧ 0 < tk ∧ Fr g L h m ∧ News g L h [(r, listOf (List.toArray us) 0), c] ∧ tl.length ≤ 4 ∧ (∀ b ∈ tl, b ≤ 3) ∧ IntsAre us ((rowsOf tl).map fun b : Nat => (b : Int)) ∧ st < 6 ∧ lw < 12 ∧
    m (Str.ofString "rows") = some (.ref r) ∧ m (Str.ofString "start") = some (.int (st : Nat) t1) ∧ m (Str.ofString "low") = some (.int (lw : Nat) t2)
theorem law_cutA {M : Model} {A : Around} {env : Env} {E : Value → Shared → Prop} {Q : Flow → Shared → Prop} {g : Heap} {L : Addr} {m : Str → Option Value} {c : Addr × Obj} {body : List Stmt} {s : Shared} (_F : Fr g L s.heap m) (_N : News g L s.heap [c])
    (h1 : wpAny M A (execs (body.take 4) env) (fun f s' => f = .next ∧ LawA g L c s s') E s) (h2 : ∀ s', LawA g L c s s' → wpAny M A (execs (body.drop 4) env) Q E s') : wpAny M A (execs body env) Q E s := execs_cut 4 _ h1 h2
theorem add13 {prog : Program} {w : World} {A : Around} {E : Value → Shared → Prop} {s : Shared} {h₀ : Heap} {L l b : Addr} {m : Str → Option Value} {news : List (Addr × Obj)} {ys : List Value} {ms : List Int} {t1 t2 : Tok} {e n : Nat} {Q : Value → Shared → Prop} (F : Fr h₀ L s.heap m) (N : News h₀ L s.heap news)
    (h1 : (l, listOf #[.int 1 t1, .int 3 t2] e) ∈ news) (h2 : (b, listOf (List.toArray ys) n) ∈ news) (hj : IntsAre ys ms) (hz : ms.length ≤ 1000)
    (h : ∀ D us h', Fr h₀ L h' m → News h₀ L h' ((D, listOf (List.toArray us) 0) :: news) → (∀ p ∈ news, p.1 < D) → IntsAre us ([1, 3] ++ ms) → Q (.ref D) { s with heap := h' }) : wpAny (model prog w) A (binaryOp .Add (.ref l) (.ref b)) Q E s :=
  kmk_add_ints (vs := [.int 1 t1, .int 3 t2]) (ns := [1, 3]) F N ⟨_, (N _ h1).1, rfl, e, rfl⟩ ⟨_, (N _ h2).1, rfl, n, rfl⟩ (.cons _ _ (.cons _ _ .nil)) hj h (by simp only [List.length_cons, List.length_nil]; exact Nat.le_trans (show 2 + ms.length ≤ 1002 by omega) (Nat.le_of_ble_eq_true rfl))
theorem rows_ints (ns : List Int) : [1, 3] ++ ns.map (fun a => a.fmod 4) = (rowsOf (ns.map fun a => (a.fmod 4).toNat)).map fun b : Nat => (b : Int) := by
  simp only [rowsOf, List.cons_append, List.nil_append, List.map_cons, List.map_map]
  refine congrArg (fun z => (1 : Int) :: 3 :: z) (List.map_congr_left fun a _ => ?_)
  have := Int.fmod_nonneg_of_pos a (b := 4) (by decide)
  simp only [Function.comp]
  omega
theorem lawA_intro {g h : Heap} {L r : Addr} {c : Addr × Obj} {s₁ : Shared} {tk : Nat} {m : Str → Option Value} {us : List Value} {ns : List Int} {hp lw : Int} {t1 t2 : Tok} {all : List (Addr × Obj)} (htk : 0 < tk) (F : Fr g L h m) (N : News g L h all)
    (h1 : (r, listOf (List.toArray us) 0) ∈ all) (h2 : c ∈ all) (hi : IntsAre us ([1, 3] ++ (ns.take 4).map (fun a => a.fmod 4)))
    (e1 : m (Str.ofString "rows") = some (.ref r)) (e2 : m (Str.ofString "start") = some (.int (hp.fmod 6) t1)) (e3 : m (Str.ofString "low") = some (.int (lw.fmod 12) t2)) :
    LawA g L c s₁ { s₁ with heap := h, toks := tk } := by
  have a1 := Int.fmod_nonneg_of_pos hp (b := 6) (by decide)
  have a2 := Int.fmod_lt_of_pos hp (b := 6) (by decide)
  have b1 := Int.fmod_nonneg_of_pos lw (b := 12) (by decide)
  have b2 := Int.fmod_lt_of_pos lw (b := 12) (by decide)
  refine ⟨h, tk, m, r, us, (ns.take 4).map fun a => (a.fmod 4).toNat, (hp.fmod 6).toNat, (lw.fmod 12).toNat, t1, t2, rfl, htk, F, ?_, by simp; omega, ?_, ?_, by omega, by omega, e1, ?_, ?_⟩
  · intro p hp
    simp only [List.mem_cons, List.not_mem_nil, or_false] at hp
    rcases hp with rfl | rfl
    · exact N _ h1
    · exact N _ h2
  · intro b hb
    obtain ⟨a, _, rfl⟩ := List.mem_map.mp hb
    have := Int.fmod_lt_of_pos a (b := 4) (by decide)
    have := Int.fmod_nonneg_of_pos a (b := 4) (by decide)
    omega
  · rw [rows_ints] at hi; exact hi
  · rw [Int.toNat_of_nonneg a1]; exact e2
  · rw [Int.toNat_of_nonneg b1]; exact e3
end Mine
end PartLa0
section PartLa1
open PySem PySem.W PyProof.Rows PySem.Calls PyProof.Rows.LCg
set_option maxRecDepth 100000
set_option maxHeartbeats 8000000
namespace Mine
/-- a text of b blanks -/
noncomputable def blk (b : Nat) : Str := ⟨(List.replicate b 32).toArray⟩
section
variable {prog : Program} {w : World} {A : Around} {E : Value → Shared → Prop} {s : Shared} {Q : Value → Shared → Prop} {t u : Tok}
theorem str_times : ∀ {b : Nat} (_ : b ≤ 3) (_ : ∀ t' tk, Q (.str (blk b) t') { s with toks := tk }), wpAny (model prog w) A (binaryOp .Mult (.str (Str.ofString " ") t) (.int (b : Nat) u)) Q E s
  | 0, _, h => P.mul_str (by decide) (fun q => absurd q (by decide)) (fun q => absurd q (by decide)) (by rw [if_pos (by decide)]; exact ⟨by decide, h _ _⟩)
  | 1, _, h => P.mul_str (by decide) (fun _ q => absurd q (by decide)) (fun _ q => absurd q (by decide)) (by rw [if_neg (by decide), if_pos (by decide)]; exact h _ _)
  | 2, _, h => P.mul_str (by decide) (fun _ _ => by decide) (fun _ _ => by decide) (by rw [if_neg (by decide), if_neg (by decide)]; exact ⟨by decide, h _ _⟩)
  | 3, _, h => P.mul_str (by decide) (fun _ _ => by decide) (fun _ _ => by decide) (by rw [if_neg (by decide), if_neg (by decide)]; exact ⟨by decide, h _ _⟩)
  | _ + 4, q, _ => absurd q (by omega)
end
theorem pick_upto {vs : List Value} {y : Int} (h : 0 ≤ y) : (slicePick vs.toArray none (some y) none).toList = vs.take y.toNat := by
  have e : sliceBounds none (some y) none vs.toArray.size = (((0 : Nat) : Int), ((min y.toNat vs.toArray.size : Nat) : Int), 1) := by
    simp only [sliceBounds, Option.getD_none, show (1 : Int) > 0 by decide, if_true, if_neg (show ¬ (y < 0) by omega)]
    congr 1
    congr 1
    omega
  rw [kmk_pick_nat _ e]
  show ((vs.drop 0).take (min y.toNat vs.toArray.size - 0)) = _
  rw [List.drop_zero, Nat.sub_zero, List.size_toArray, kmk_take_min]
/-- a line's beginning: the rows, a tab between any two -/
noncomputable def lineOf : List Nat → List Nat
  | [] => []
  | [b] => List.replicate b 32
  | b :: c :: r => List.replicate b 32 ++ 9 :: lineOf (c :: r)
theorem tab_cps : (Str.ofString "\t").cps.toList = [9] := by decide +kernel
theorem x_cps : (Str.ofString "x").cps.toList = [120] := by decide +kernel
theorem cps_append (x y : Str) : (x ++ y).cps.toList = x.cps.toList ++ y.cps.toList := by
  show (x.cps ++ y.cps).toList = _
  simp
theorem join_line : ∀ bs : List Nat, (Txt.join (Str.ofString "\t") (bs.map blk)).cps.toList = lineOf bs
  | bs => by
    show (Builtin.Str.glued (Str.ofString "\t") (bs.map blk)).cps.toList = lineOf bs
    rw [StrLaws.glued_eq_join]
    induction bs with
    | nil => rfl
    | cons b r ih =>
      cases r with
      | nil => simp [Str.join, blk, lineOf]
      | cons c r =>
        show (blk b ++ Str.ofString "\t" ++ Str.join (Str.ofString "\t") ((c :: r).map blk)).cps.toList = _
        rw [cps_append, cps_append, ih, tab_cps]
        simp [blk, lineOf]
theorem line_codes : ∀ bs : List Nat, ∀ c ∈ lineOf bs, c = 32 ∨ c = 9
  | [], c, h => by simp [lineOf] at h
  | [b], c, h => by simp [lineOf] at h; exact .inl h.2
  | b :: b' :: r, c, h => by
    simp only [lineOf, List.mem_append, List.mem_cons, List.mem_replicate] at h
    rcases h with h | h | h
    · exact .inl h.2
    · exact .inr h
    · exact line_codes (b' :: r) c h
theorem line_len : ∀ bs : List Nat, (∀ b ∈ bs, b ≤ 3) → (lineOf bs).length ≤ 4 * bs.length
  | [], _ => by simp [lineOf]
  | [b], h => by have := h b (by simp); simp [lineOf]; omega
  | b :: b' :: r, h => by
    have h1 := h b (by simp)
    have h2 := line_len (b' :: r) (fun z hz => h z (List.mem_cons_of_mem _ hz))
    simp only [lineOf, List.length_append, List.length_replicate, List.length_cons] at h2 ⊢
    omega
/-- behind pieces -/
noncomputable def LawB (g : Heap) (L ca r : Addr) (us : List Value) (tl : List Nat) (st lw : Nat) (s₁ s' : Shared) : Prop :=
  ∃ h tk m pc ps e co t1 t2, s' = { s₁ with heap := h, toks := tk } ∧ Fr g L h m ∧ News g L h [(pc, listOf (List.toArray ps) e), (r, listOf (List.toArray us) 0), (ca, co)] ∧ co.data = .cell (some (.ref pc)) ∧ StrsAre ps ((rowsOf tl).map blk) ∧
    m (Str.ofString "rows") = some (.ref r) ∧ m (Str.ofString "start") = some (.int (st : Nat) t1) ∧ m (Str.ofString "low") = some (.int (lw : Nat) t2)
theorem law_cutB {M : Model} {A : Around} {env : Env} {E : Value → Shared → Prop} {Q : Flow → Shared → Prop} {g : Heap} {L ca r : Addr} {m : Str → Option Value} {us : List Value} {co : Obj} {tl : List Nat} {st lw : Nat} {body : List Stmt} {s : Shared} (_F : Fr g L s.heap m) (_N : News g L s.heap [(r, listOf (List.toArray us) 0), (ca, co)])
    (h1 : wpAny M A (execs (body.take 1) env) (fun f s' => f = .next ∧ LawB g L ca r us tl st lw s s') E s) (h2 : ∀ s', LawB g L ca r us tl st lw s s' → wpAny M A (execs (body.drop 1) env) Q E s') : wpAny M A (execs body env) Q E s := execs_cut 1 _ h1 h2
/-- what holds between the turns of pieces' comprehension -/
noncomputable def BlkJ (bs : List Nat) (news : List (Addr × Obj)) (i : Nat) (ys : List Value) (news' : List (Addr × Obj)) : Prop := news' = news ∧ StrsAre ys ((bs.take i).map blk)
theorem blk_turn {bs : List Nat} {news news' : List (Addr × Obj)} {i b : Nat} {ys : List Value} {t : Tok} (h : BlkJ bs news i ys news') (hb : bs[i]? = some b) : BlkJ bs news (i + 1) (ys ++ [.str (blk b) t]) news' :=
  ⟨h.1, by rw [List.take_add_one, hb]; simpa using StrsAre.append' h.2 (.cons (blk b) t .nil)⟩
theorem nat_at {us : List Value} {bs : List Nat} (h : IntsAre us (bs.map fun b : Nat => (b : Int))) {i : Nat} {v : Value} (hv : us.toArray[i]? = some v) : ∃ (b : Nat) (t : Tok), v = .int (b : Nat) t ∧ bs[i]? = some b := by
  obtain ⟨n, t, e1, e2⟩ := IntsAre.at h i v (by simpa using hv)
  rw [List.getElem?_map] at e2
  cases q : bs[i]? with
  | none => rw [q] at e2; cases e2
  | some b => rw [q] at e2; cases e2; exact ⟨b, t, e1, rfl⟩
theorem rows3 {tl : List Nat} (h : ∀ b ∈ tl, b ≤ 3) : ∀ b ∈ rowsOf tl, b ≤ 3 := by
  intro b hb
  simp only [rowsOf, List.mem_cons] at hb
  rcases hb with rfl | rfl | hb
  · omega
  · omega
  · exact h b hb
end Mine
end PartLa1
section PartLa2
open PySem PySem.W PyProof.Rows PySem.Calls PyProof.Rows.LCg
set_option maxRecDepth 100000
set_option maxHeartbeats 8000000
namespace Mine
theorem Ext.mores {h₀ h h' : Heap} {L : Addr} {m : Str → Option Value} {ob news : List (Addr × Obj)} (e : Ext h h') (F : Fr h₀ L h m) (N : News h₀ L h news) (hp : ∀ p ∈ ob, h.get? p.1 = none ∧ h'.get? p.1 = some p.2) : News h₀ L h' (ob ++ news) := fun p hq => by
  rcases List.mem_append.mp hq with q | q
  · exact (Ext.more (a := p.1) (o := p.2) e F N (hp p q).1 (hp p q).2) p List.mem_cons_self
  · exact e.news N p q
theorem Ext.aparts {h₀ h h' : Heap} {L : Addr} {ob news : List (Addr × Obj)} (N : News h₀ L h news) (hp : ∀ p ∈ ob, h.get? p.1 = none ∧ h'.get? p.1 = some p.2) : ∀ p ∈ news, ∀ q ∈ ob, @Ne Nat p.1 q.1 := fun p h1 q h2 z => by
  have a := (N p h1).1
  have b := (hp q h2).1
  have z' : p.1 = q.1 := z
  rw [z', b] at a
  cases a
/-- a Whitespace on the ledger -/
noncomputable def WhiteAt (P : Params) (σ : Sc) (v : Option Value) (keep : List (Addr × Obj)) : Prop :=
  ∃ x d q c vs tx is k1 k2 k3 k4 k5 t1 t2 t3 t4, v = some (.ref x) ∧ IntsAre vs σ.cs ∧ ∀ p ∈ whiteObjs P x d q c vs σ.b σ.nt σ.n tx is k1 k2 k3 k4 k5 t1 t2 t3 t4, p ∈ keep
theorem WhiteAt.mono {P : Params} {σ : Sc} {v : Option Value} {keep keep' : List (Addr × Obj)} (h : WhiteAt P σ v keep) (hs : ∀ p ∈ keep, p ∈ keep') : WhiteAt P σ v keep' := by
  obtain ⟨x, d, q, c, vs, tx, is, k1, k2, k3, k4, k5, t1, t2, t3, t4, a, b, e⟩ := h
  exact ⟨x, d, q, c, vs, tx, is, k1, k2, k3, k4, k5, t1, t2, t3, t4, a, b, fun p hp => hs p (e p hp)⟩
noncomputable def WhitesAre (P : Params) (bs : List Nat) (ys : List Value) (keep : List (Addr × Obj)) (i : Nat) : Prop := ys.length = i ∧ ∀ j < i, WhiteAt P (scan (lineOf (bs.take (j + 1)))) ys[j]? keep
theorem WhitesAre.snoc {P : Params} {bs : List Nat} {ys : List Value} {keep keep' : List (Addr × Obj)} {i : Nat} {v : Value} (h : WhitesAre P bs ys keep i) (hs : ∀ p ∈ keep, p ∈ keep') (hv : WhiteAt P (scan (lineOf (bs.take (i + 1)))) (some v) keep') : WhitesAre P bs (ys ++ [v]) keep' (i + 1) := by
  refine ⟨by simp [h.1], fun j hj => ?_⟩
  rcases Nat.lt_or_ge j i with q | q
  · rw [List.getElem?_append_left (by rw [h.1]; exact q)]
    exact (h.2 j q).mono hs
  · have e : j = i := by omega
    subst e
    rw [← h.1, List.getElem?_concat_length, h.1]
    exact hv
section
variable {w : World} {mean : ExcName → Option Value} {mg mb : Str → Option Value} {dp un : Nat} {gd : Option (List Code)} {cn : Str} {cs : Scope} {a : Addr} {ccd : Value} {cl : List (Str × Addr)} {outer : List Env} {A₀ : Around} {base h₀ : Heap} {L : Addr} {m : Str → Option Value} {s : Shared} {Q E : Value → Shared → Prop} {news : List (Addr × Obj)}
theorem use_white {tx : Str} {tk0 : Tok} {l : List Nat} (hl : tx.cps.toList = l ++ [120]) (hc : ∀ c ∈ l, c = 32 ∨ c = 9) (hz : l.length ≤ 1000) (B : Below A₀ base outer h₀) (F : Fr h₀ L s.heap m) (X : (hd.heap_1 w.params).In h₀) (N : News h₀ L s.heap news) (T : Top vw lo mean mg mb h₀) (hk : cs.kind = .function)
    (hdp : dp + 2 < recursionLimit) (hun : un + 40 < cLine)
    (k : ∀ x ob h' tk', Fr h₀ L h' m → WhiteAt w.params (scan l) (some (.ref x)) ob → News h₀ L h' (ob ++ news) → (∀ p ∈ news, ∀ q ∈ ob, @Ne Nat p.1 q.1) → Q (.ref x) { s with heap := h', toks := tk' }) :
    wpAny (model prog w) (ktrTop dp un gd cn cs L a ccd cl outer) (call (.ref 118) [.str tx tk0]) Q E s :=
  use_any (white_ctr w tx tk0 l hl hc hz) B F X N T hk (fun p hp => nomatch hp) hdp hun fun v h' tk' F' N' e P => by
    obtain ⟨x, d, q, c, vs, tx', is, k1, k2, k3, k4, k5, t1, t2, t3, t4, rfl, hi, hp⟩ := P
    exact k x _ h' tk' F' ⟨x, d, q, c, vs, tx', is, k1, k2, k3, k4, k5, t1, t2, t3, t4, rfl, hi, fun p hp => hp⟩ (e.mores F N hp) (Ext.aparts N hp)
end
/-- what holds between the turns of whites' comprehension -/
noncomputable def WhsJ (P : Params) (bs : List Nat) (objs : List (Addr × Obj)) (i : Nat) (ys : List Value) (news : List (Addr × Obj)) : Prop := ∃ keep, news = objs ++ keep ∧ WhitesAre P bs ys keep i
theorem whs_end {P : Params} {h₀ h' : Heap} {L I C D x : Addr} {oI oC : Obj} {m : Str → Option Value} {s₁ : Shared} {bs : List Nat} {objs keep ob all : List (Addr × Obj)} {i tk : Nat} {ys : List Value}
    (F : Fr h₀ L h' m) (N : News h₀ L h' all) (hsub : ∀ p ∈ ob ++ ((I, oI) :: (C, oC) :: (D, lst ys) :: (objs ++ keep)), p ∈ all) (hap : ∀ p ∈ (I, oI) :: (C, oC) :: (D, lst ys) :: (objs ++ keep), ∀ q ∈ ob, @Ne Nat p.1 q.1) (off : Off3 I C D (objs ++ keep))
    (hw : WhitesAre P bs ys keep i) (hx : WhiteAt P (scan (lineOf (bs.take (i + 1)))) (some (.ref x)) ob) :
    CompEnd h₀ L m s₁ I oI C oC D (lst ys) (fun _ => True) (fun y news' => WhsJ P bs objs (i + 1) (ys ++ [y]) news') (.ref x) { s₁ with heap := h', toks := tk } := by
  refine LCg.CompEnd.intro F N (objs ++ (ob ++ keep)) (fun p hp => hsub p ?_) (Off3.of fun p hp => ?_) trivial ⟨ob ++ keep, rfl, hw.snoc (fun p hp => List.mem_append_right _ hp) (hx.mono fun p hp => List.mem_append_left _ hp)⟩
  · simp only [List.mem_cons, List.mem_append] at hp ⊢
    rcases hp with h | h | h | h | h | h <;> simp [h]
  · have old := off.mem p
    rcases List.mem_append.mp hp with q | q
    · exact old (List.mem_append_left _ q)
    · rcases List.mem_append.mp q with q | q
      · exact ⟨fun z => hap (I, oI) (by simp) p q z.symm, fun z => hap (C, oC) (by simp) p q z.symm, fun z => hap (D, lst ys) (by simp) p q z.symm⟩
      · exact old (List.mem_append_right _ q)
/-- behind whites -/
noncomputable def LawC (P : Params) (g : Heap) (L ca r pc : Addr) (us ps : List Value) (e : Nat) (co : Obj) (tl : List Nat) (st lw : Nat) (s₁ s' : Shared) : Prop :=
  ∃ h tk m wl ws e2 keep t1 t2, s' = { s₁ with heap := h, toks := tk } ∧ Fr g L h m ∧ News g L h ((wl, listOf (List.toArray ws) e2) :: (pc, listOf (List.toArray ps) e) :: (r, listOf (List.toArray us) 0) :: (ca, co) :: keep) ∧ WhitesAre P (rowsOf tl) ws keep (rowsOf tl).length ∧
    m (Str.ofString "rows") = some (.ref r) ∧ m (Str.ofString "start") = some (.int (st : Nat) t1) ∧ m (Str.ofString "low") = some (.int (lw : Nat) t2) ∧ m (Str.ofString "whites") = some (.ref wl)
theorem law_cutC {P : Params} {M : Model} {A : Around} {env : Env} {E : Value → Shared → Prop} {Q : Flow → Shared → Prop} {g : Heap} {L ca r pc : Addr} {m : Str → Option Value} {us ps : List Value} {e : Nat} {co : Obj} {tl : List Nat} {st lw : Nat} {body : List Stmt} {s : Shared} (_X : (hd.heap_1 P).In g) (_F : Fr g L s.heap m)
    (_N : News g L s.heap [(pc, listOf (List.toArray ps) e), (r, listOf (List.toArray us) 0), (ca, co)])
    (h1 : wpAny M A (execs (body.take 1) env) (fun f s' => f = .next ∧ LawC P g L ca r pc us ps e co tl st lw s s') E s) (h2 : ∀ s', LawC P g L ca r pc us ps e co tl st lw s s' → wpAny M A (execs (body.drop 1) env) Q E s') : wpAny M A (execs body env) Q E s := execs_cut 1 _ h1 h2
end Mine
end PartLa2
section PartLa3
open PySem PySem.W PyProof.Rows PySem.Calls PyProof.Rows.LCg
set_option maxRecDepth 100000
set_option maxHeartbeats 8000000
namespace Mine
section
variable {prog : Program} {w : World} {A : Around} {E : Value → Shared → Prop} {s : Shared} {Q : Value → Shared → Prop} {t u : Tok} {h₀ : Heap} {L D : Addr} {news : List (Addr × Obj)}
theorem slice_take {l : Addr} {m : Str → Option Value} {vs : List Value} {y : Int} {e : Nat} {value slice : PySem.Expr} (F : Fr h₀ L s.heap m) (N : News h₀ L s.heap news) (hm : (l, listOf (List.toArray vs) e) ∈ news) (h0 : 0 ≤ y) (hz : vs.length ≤ 1000)
    (h : ∀ D h', Fr h₀ L h' m → News h₀ L h' ((D, listOf (List.toArray (vs.take y.toNat)) 0) :: news) → (∀ p ∈ news, p.1 < D) → Q (.ref D) { s with heap := h' })
    (hs : subscripted slice false (.ref l) (.ref s.heap.objs.size) = operate [.ref s.heap.objs.size, .ref l] (getItem (.ref l) (.ref s.heap.objs.size))) (ht : ∀ r, letTemporaryGo value (.ref l) r = pure ()) :
    wpAny (model prog w) A (subscriptTail value slice (.ref l) (.ref s.heap.objs.size)) Q E { s with heap := s.heap.push { cls := .type "slice", data := .fields #[.none, .int y t, .none] } } :=
  kmk_slice_lit (its := vs.toArray) F N ⟨_, (N _ hm).1, rfl, e, rfl⟩ .none (.int _ _) (pick_upto h0) h hs ht (by rw [List.size_toArray]; exact Nat.le_trans hz (Nat.le_of_ble_eq_true rfl))
theorem slice_rev {l : Addr} {m : Str → Option Value} {vs : List Value} {e : Nat} {value slice : PySem.Expr} {ops : List Value} (F : Fr h₀ L s.heap m) (N : News h₀ L s.heap news) (hm : (l, listOf (List.toArray vs) e) ∈ news) (hz : vs.length ≤ 1000)
    (h : ∀ D h', Fr h₀ L h' m → News h₀ L h' ((D, listOf (List.toArray vs.reverse) 0) :: news) → (∀ p ∈ news, p.1 < D) → Q (.ref D) { s with heap := h' })
    (hs : subscripted slice false (.ref l) (.ref s.heap.objs.size) = operate ops (getItem (.ref l) (.ref s.heap.objs.size))) (ht : ∀ r, letTemporaryGo value (.ref l) r = pure ()) :
    wpAny (model prog w) A (subscriptTail value slice (.ref l) (.ref s.heap.objs.size)) Q E { s with heap := s.heap.push { cls := .type "slice", data := .fields #[.none, .none, .int (-1) t] } } :=
  krv_lit (its := vs.toArray) (zs := vs.reverse) F N ⟨_, (N _ hm).1, rfl, e, rfl⟩ (.int _ _) rfl h hs ht (by rw [List.size_toArray]; exact Nat.le_trans hz (Nat.le_of_ble_eq_true rfl))
theorem blk_sum : ∀ (cs : List Nat), (∀ b ∈ cs, b ≤ 3) → ((cs.map blk).map (·.length)).sum ≤ 3 * cs.length
  | [], _ => by simp
  | b :: r, h => by
    have := blk_sum r fun z hz => h z (List.mem_cons_of_mem _ hz)
    have := h b (by simp)
    simp only [List.map_cons, List.sum_cons, List.length_cons]
    have e : (blk b).length = b := by simp [blk, Str.length]
    omega
theorem join_lst {zs : List Value} {e : Nat} {cs : List Nat} (N : News h₀ L s.heap news) (hm : (D, listOf (List.toArray zs) e) ∈ news) (hz : StrsAre zs (cs.map blk)) (hb : ∀ b ∈ cs, b ≤ 3) (hl : cs.length ≤ 10)
    (h : ∀ tx t' tk, tx.cps.toList = lineOf cs → Q (.str tx t') { s with toks := tk }) : wpAny (model prog w) A (call (.builtin "str.join") [.str (Str.ofString "\t") t, .ref D]) Q E s := by
  have q := blk_sum cs hb
  refine join_listC (items := zs.toArray) ⟨_, (N _ hm).1, rfl, e, rfl⟩ (by simpa using hz) (by decide) ?_ fun t' tk => h _ t' tk (join_line cs)
  rw [List.length_map]
  omega
theorem add_x {tx : Str} {l : List Nat} (h1 : tx.cps.toList = l) (hz : l.length ≤ 1000) (h : ∀ ty t' tk, ty.cps.toList = l ++ [120] → Q (.str ty t') { s with toks := tk }) :
    wpAny (model prog w) A (binaryOp .Add (.str tx t) (.str (Str.ofString "x") u)) Q E s := by
  refine PyProof.Rows.add_str (fun t' tk => h _ t' tk (by rw [cps_append, h1, x_cps])) ?_
  have e : tx.length = l.length := by rw [← h1]; simp [Str.length]
  rw [e]
  exact Nat.le_trans (Nat.add_le_add hz (show (Str.ofString "x").length ≤ 1 by decide +kernel)) (Nat.le_of_ble_eq_true rfl)
end
theorem rows_len {tl : List Nat} (h : tl.length ≤ 4) : (rowsOf tl).length ≤ 6 := by simp; omega
theorem line_len' {tl cs : List Nat} (h : tl.length ≤ 4) (hb : ∀ b ∈ tl, b ≤ 3) (hc : ∀ b ∈ cs, b ∈ rowsOf tl) (hl : cs.length ≤ 6) : (lineOf cs).length ≤ 1000 :=
  Nat.le_trans (line_len cs fun b q => rows3 hb b (hc b q)) (by omega)
end Mine
end PartLa3
section PartLa4
open PySem PySem.W PyProof.Rows PySem.Calls PyProof.Rows.LCg
set_option maxRecDepth 100000
set_option maxHeartbeats 8000000
namespace Mine
theorem entries_list {n k : Nat} {W : Nat → Nat} {items : List Value} {h h' : Heap} : (∀ j < k, EntryH n (W j) items[j]? h h') → ∃ ek : List (Addr × Obj), (∀ p ∈ ek, h.get? p.1 = none ∧ h'.get? p.1 = some p.2) ∧ ∀ j < k, Entry n (W j) items[j]? ek := by
  induction k with
  | zero => exact fun _ => ⟨[], (fun p hp => nomatch hp), fun j hj => absurd hj (Nat.not_lt_zero _)⟩
  | succ k ih =>
    intro x
    obtain ⟨ek, a, b⟩ := ih fun j hj => x j (Nat.lt_succ_of_lt hj)
    obtain ⟨p, l, t, t1, t2, t3, el, e, n1, n2, s1, s2⟩ := x k (Nat.lt_succ_self _)
    refine ⟨(p, tupOf [.int ((W k / (6 * n) : Nat) : Int) t, .ref l]) :: (l, listOf (ab3 n (W k) t1 t2 t3) el) :: ek, ?_, fun j hj => ?_⟩
    · simp only [List.forall_mem_cons]
      exact ⟨⟨n1, s1⟩, ⟨n2, s2⟩, a⟩
    · rcases Nat.lt_or_ge j k with q | q
      · exact (b j q).mono fun p hp => by simp [hp]
      · have z : j = k := by omega
        subst z
        exact ⟨p, l, t, t1, t2, t3, el, e, by simp, by simp⟩
section
variable {w : World} {mean : ExcName → Option Value} {mg mb : Str → Option Value} {dp un : Nat} {gd : Option (List Code)} {cn : Str} {cs : Scope} {a : Addr} {ccd : Value} {cl : List (Str × Addr)} {outer : List Env} {A₀ : Around} {base h₀ : Heap} {L : Addr} {m : Str → Option Value} {s : Shared} {Q E : Value → Shared → Prop} {pre rest : List (Addr × Obj)}
theorem use_ends {n st lr e0 : Nat} {bs : List Nat} {vs : List Value} {t1 t2 : Tok} (hr : (lr, listOf (List.toArray vs) e0) ∈ pre ++ rest) (hn : 1 ≤ n ∧ n ≤ 4) (hst : st < 6) (hv : IntsAre vs (bs.map fun b : Nat => (b : Int))) (hb : ∀ b ∈ bs, b ≤ 3) (hl : bs.length ≤ 6) (h0 : 0 < bs.length)
    (B : Below A₀ base outer h₀) (F : Fr h₀ L s.heap m) (X : (hd.heap_1 w.params).In h₀) (N : News h₀ L s.heap (pre ++ rest)) (T : Top vw lo mean mg mb h₀) (hk : cs.kind = .function) (hdp : dp + 2 < recursionLimit) (hun : un + 40 < cLine)
    (k : ∀ e items ep ek h' tk', Fr h₀ L h' m → News h₀ L h' ((e, listOf (List.toArray items) ep) :: (pre ++ (ek ++ rest))) → items.length = bs.length → (∀ j < bs.length, Entry n (wA n st bs (j + 1)) items[j]? ek) → Entry n (wA n st bs bs.length) items[bs.length - 1]? ek → (∀ p ∈ pre ++ rest, @Ne Nat p.1 e) → (∀ p ∈ pre ++ rest, ∀ q ∈ ek, @Ne Nat p.1 q.1) →
      Q (.ref e) { s with heap := h', toks := tk' }) :
    wpAny (model prog w) (ktrTop dp un gd cn cs L a ccd cl outer) (call (.ref 134) [.ref lr, .int (st : Nat) t1, .int (n : Nat) t2]) Q E s := by
  have hlen : vs.length = bs.length := by rw [hv.length, List.length_map]
  refine ends_ctr w n st bs vs t1 t2 lr hn hst (fun i v hi => ?_) (fun i => ?_) (by omega) mean mg mb dp un gd cn cs a ccd cl outer A₀ base h₀ L m s Q E B F X (fun p hp => nomatch hp) T hk hdp hun ⟨_, (N _ hr).1, rfl, e0, rfl⟩ fun v h' tk' ext P => ?_
  · obtain ⟨b, t, e1, e2⟩ := nat_at hv (v := v) (i := i) (by simpa using hi)
    exact ⟨t, by rw [e1, List.getD_eq_getElem?_getD, e2]; rfl⟩
  · rw [List.getD_eq_getElem?_getD]
    cases q : bs[i]? with
    | none => exact Nat.zero_le _
    | some b => exact hb b (List.mem_of_getElem? q)
  · rw [hlen] at P
    obtain ⟨e, items, ep, rfl, e1, e2, e3, e4⟩ := P
    obtain ⟨ek, a1, a2⟩ := entries_list e4
    refine k e items ep ek h' tk' (ext.fr F) (fun p hp => ?_) e3 a2 (by have := a2 (bs.length - 1) (by omega); rwa [Nat.sub_add_cancel h0] at this) (Ext.apart N e1) (Ext.aparts N a1)
    have M := ext.mores F N (ob := (e, listOf (List.toArray items) ep) :: ek) (List.forall_mem_cons.mpr ⟨⟨e1, e2⟩, a1⟩)
    refine M p ?_
    simp only [List.mem_cons, List.mem_append] at hp ⊢
    rcases hp with h | h | h | h <;> simp [h]
end
section
variable {prog : Program} {w : World} {A : Around} {E : Value → Shared → Prop} {s : Shared} {h₀ : Heap} {L l : Addr} {news : List (Addr × Obj)} {items : List Value} {e j : Nat} {k : Int} {u : Tok} {v : Value} {Q : Value → Shared → Prop} {value slice : PySem.Expr}
theorem item_any (N : News h₀ L s.heap news) (hm : (l, listOf (List.toArray items) e) ∈ news) (hj : (0 ≤ k ∧ k.toNat = j) ∨ (k = -1 ∧ j + 1 = items.length)) (hx : items[j]? = some v) (hz : items.length ≤ 1000) (h : Q v s)
    (hs : subscripted slice false (.ref l) (.int k u) = operate [.ref l, .int k u] (getItem (.ref l) (.int k u))) : wpAny (model prog w) A (subscriptTail value slice (.ref l) (.int k u)) Q E s := by
  have hl : s.heap.IsList l items.toArray := ⟨_, (N _ hm).1, rfl, e, rfl⟩
  have hlt : j < items.length := by
    rcases Nat.lt_or_ge j items.length with q | q
    · exact q
    · rw [List.getElem?_eq_none q] at hx; cases hx
  rcases hj with ⟨h0, h1⟩ | ⟨h0, h1⟩
  · exact tail_any hl.typeIs slot_list_getitem.lookup (wpAny_getItem_list hl h0 (by omega) (by rw [h1]; simpa using hx) h) hs
  · refine tail_any hl.typeIs slot_list_getitem.lookup (wpAny_getItem_list_neg hl (by omega) (by rw [List.size_toArray]; omega) (by omega) ?_ h) hs
    have : (k + (items.toArray.size : Int)).toNat = j := by rw [List.size_toArray]; omega
    rw [this]; simpa using hx
theorem item_entry {n W : Nat} {ek : List (Addr × Obj)} (N : News h₀ L s.heap news) (hm : (l, listOf (List.toArray items) e) ∈ news) (hj : (0 ≤ k ∧ k.toNat = j) ∨ (k = -1 ∧ j + 1 = items.length)) (hx : Entry n W items[j]? ek) (hk : ∀ p ∈ ek, p ∈ news) (hz : items.length ≤ 1000)
    (h : ∀ p lb t t1 t2 t3 el, News h₀ L s.heap ((p, tupOf [.int ((W / (6 * n) : Nat) : Int) t, .ref lb]) :: (lb, listOf (ab3 n W t1 t2 t3) el) :: news) → Q (.ref p) s)
    (hs : subscripted slice false (.ref l) (.int k u) = operate [.ref l, .int k u] (getItem (.ref l) (.int k u))) : wpAny (model prog w) A (subscriptTail value slice (.ref l) (.int k u)) Q E s := by
  obtain ⟨p, lb, t, t1, t2, t3, el, e1, e2, e3⟩ := hx
  refine item_any N hm hj e1 hz (h p lb t t1 t2 t3 el fun z hz => ?_) hs
  rcases List.mem_cons.mp hz with rfl | hz
  · exact N _ (hk _ e2)
  · rcases List.mem_cons.mp hz with rfl | hz
    · exact N _ (hk _ e3)
    · exact N z hz
theorem item_white {P : Params} {σ : Sc} {kp : List (Addr × Obj)} (N : News h₀ L s.heap news) (hm : (l, listOf (List.toArray items) e) ∈ news) (hj : (0 ≤ k ∧ k.toNat = j) ∨ (k = -1 ∧ j + 1 = items.length)) (hw : WhiteAt P σ items[j]? kp) (hk : ∀ p ∈ kp, p ∈ news) (hz : items.length ≤ 1000)
    (h : ∀ x d q c vs tx is k1 k2 k3 k4 k5 t1 t2 t3 t4, IntsAre vs σ.cs → News h₀ L s.heap (whiteObjs P x d q c vs σ.b σ.nt σ.n tx is k1 k2 k3 k4 k5 t1 t2 t3 t4 ++ news) → Q (.ref x) s)
    (hs : subscripted slice false (.ref l) (.int k u) = operate [.ref l, .int k u] (getItem (.ref l) (.int k u))) : wpAny (model prog w) A (subscriptTail value slice (.ref l) (.int k u)) Q E s := by
  obtain ⟨x, d, q, c, vs, tx, is, k1, k2, k3, k4, k5, t1, t2, t3, t4, a, b, f⟩ := hw
  refine item_any N hm hj a hz (h x d q c vs tx is k1 k2 k3 k4 k5 t1 t2 t3 t4 b fun z hz => ?_) hs
  rcases List.mem_append.mp hz with hz | hz
  · exact N z (hk z (f z hz))
  · exact N z hz
end
theorem mem_lift {kp t news : List (Addr × Obj)} (a : ∀ p ∈ kp, p ∈ t) (b : ∀ p ∈ t, p ∈ news) : ∀ p ∈ kp, p ∈ news := fun p hp => b p (a p hp)
theorem map4' {m : Str → Option Value} {a1 a2 a3 a4 : Str} {v1 v2 v3 v4 : Value} (h1 : m a1 = some v1) (h2 : m a2 = some v2) (h3 : m a3 = some v3) (h4 : m a4 = some v4) : m = fun z => if z = a1 then some v1 else if z = a2 then some v2 else if z = a3 then some v3 else if z = a4 then some v4 else m z := by
  funext z
  rw [map1 h4, map1 h3, map1 h2, map1 h1]
theorem map6 {m : Str → Option Value} {a1 a2 a3 a4 a5 a6 : Str} {v1 v2 v3 v4 v5 v6 : Value} (h1 : m a1 = some v1) (h2 : m a2 = some v2) (h3 : m a3 = some v3) (h4 : m a4 = some v4) (h5 : m a5 = some v5) (h6 : m a6 = some v6) : m = fun z => if z = a1 then some v1 else if z = a2 then some v2 else if z = a3 then some v3 else if z = a4 then some v4 else if z = a5 then some v5 else if z = a6 then some v6 else m z := by
  funext z
  rw [map1 h6, map1 h5, map1 h4, map1 h3, map1 h2, map1 h1]
/-- the walker's whole way over the rows, less the start -/
noncomputable def wayF (st : Nat) (bs : List Nat) (n : Nat) : Int := (wA n st bs bs.length : Int) - (st : Int) * (n : Int)
/-- what holds between the turns of law's loop over the sizes -/
noncomputable def SizeJ (ca r pc wl : Addr) (us ps ws : List Value) (e e2 : Nat) (co : Obj) (keep : List (Addr × Obj)) (tl : List Nat) (st lw i : Nat) (t1 t2 : Tok) (m : Str → Option Value) (news : List (Addr × Obj)) : Prop :=
  ∃ ul items ep rest, news = (ul, listOf (List.toArray items) ep) :: (wl, listOf (List.toArray ws) e2) :: (pc, listOf (List.toArray ps) e) :: (r, listOf (List.toArray us) 0) :: (ca, co) :: rest ∧ (∀ p ∈ (wl, listOf (List.toArray ws) e2) :: (pc, listOf (List.toArray ps) e) :: (r, listOf (List.toArray us) 0) :: (ca, co) :: rest, @Ne Nat p.1 ul) ∧
    (∀ p ∈ keep, p ∈ rest) ∧ Trips (witL (wayF st (rowsOf tl)) (wayF st (rowsOf tl).reverse) i) items rest ∧
    m (Str.ofString "rows") = some (.ref r) ∧ m (Str.ofString "start") = some (.int (st : Nat) t1) ∧ m (Str.ofString "low") = some (.int (lw : Nat) t2) ∧ m (Str.ofString "whites") = some (.ref wl) ∧ m (Str.ofString "unlike") = some (.ref ul)
/-- behind law's loop over the sizes -/
noncomputable def LawD (g : Heap) (L ca r pc wl : Addr) (us ps ws : List Value) (e e2 : Nat) (co : Obj) (keep : List (Addr × Obj)) (tl : List Nat) (st lw : Nat) (s₁ s' : Shared) : Prop :=
  ∃ h tk m news t1 t2, s' = { s₁ with heap := h, toks := tk } ∧ Fr g L h m ∧ News g L h news ∧ SizeJ ca r pc wl us ps ws e e2 co keep tl st lw 4 t1 t2 m news
theorem law_cutD {M : Model} {A : Around} {env : Env} {E : Value → Shared → Prop} {Q : Flow → Shared → Prop} {g : Heap} {L ca r pc wl : Addr} {m : Str → Option Value} {us ps ws : List Value} {e e2 : Nat} {co : Obj} {keep : List (Addr × Obj)} {tl : List Nat} {st lw : Nat} {body : List Stmt} {s : Shared} (_F : Fr g L s.heap m)
    (_N : News g L s.heap ((wl, listOf (List.toArray ws) e2) :: (pc, listOf (List.toArray ps) e) :: (r, listOf (List.toArray us) 0) :: (ca, co) :: keep))
    (h1 : wpAny M A (execs (body.take 2) env) (fun f s' => f = .next ∧ LawD g L ca r pc wl us ps ws e e2 co keep tl st lw s s') E s) (h2 : ∀ s', LawD g L ca r pc wl us ps ws e e2 co keep tl st lw s s' → wpAny M A (execs (body.drop 2) env) Q E s') : wpAny M A (execs body env) Q E s := execs_cut 2 _ h1 h2
end Mine
end PartLa4
section PartFz0s
open PySem
set_option maxRecDepth 100000
namespace Mine
noncomputable def fc {α : Type} (x : Nat) (f : Nat → α) : α := @Nat.rec (fun _ => α) (f 0) (fun k _ => f (Nat.succ k)) x
theorem fc_eq {α : Type} (x : Nat) (f : Nat → α) : fc x f = f x := by cases x <;> rfl
noncomputable def exN (x : Nat) : Nat := Nat.mod (Nat.div x 4503599627370496) 2048
noncomputable def frN (x : Nat) : Nat := Nat.mod x 4503599627370496
noncomputable def mN (x : Nat) : Nat := cond (Nat.beq (exN x) 0) (frN x) (Nat.add 4503599627370496 (frN x))
noncomputable def EN (x : Nat) : Nat := cond (Nat.beq (exN x) 0) 1 (exN x)
noncomputable def sN (x : Nat) : Bool := Nat.beq (Nat.div x 9223372036854775808) 1
noncomputable def heQ (q r d : Nat) : Nat :=
  Nat.add q (cond (or (Nat.blt d (Nat.mul 2 r)) (and (Nat.beq (Nat.mul 2 r) d) (Nat.beq (Nat.mod q 2) 1))) 1 0)
noncomputable def heN (n d : Nat) : Nat := fc n fun n => fc d fun d => fc (Nat.div n d) fun q => fc (Nat.mod n d) fun r => heQ q r d
noncomputable def rm2 (n d E : Nat) : Nat := fc (Nat.add (Nat.mul E 4503599627370496) (heN (Nat.mul n (Nat.pow 2 (Nat.sub 1074 E))) (Nat.mul d (Nat.pow 2 (Nat.sub E 1074))))) fun v =>
  cond (Nat.ble 9218868437227405312 v) 9218868437227405312 v
noncomputable def rm1 (n d ln ld : Nat) : Nat := fc (Nat.sub (Nat.sub (Nat.add 1074 ln) ld) (cond (Nat.ble (Nat.mul d (Nat.pow 2 (Nat.sub ln ld))) (Nat.mul n (Nat.pow 2 (Nat.sub ld ln)))) 52 53)) fun E => rm2 n d E
/-- a binary logarithm, by halves of its digits -/
noncomputable def lgS (k P n a : Nat) (f : Nat → Nat → Nat) : Nat := cond (Nat.ble P n) (fc (Nat.div n P) fun n' => f n' (Nat.add a k)) (f n a)
noncomputable def lg64 (n a : Nat) : Nat := lgS 64 18446744073709551616 n a fun n a => lgS 32 4294967296 n a fun n a => lgS 16 65536 n a fun n a => lgS 8 256 n a fun n a => lgS 4 16 n a fun n a => lgS 2 4 n a fun n a => lgS 1 2 n a fun n a => Nat.add a (cond (Nat.blt n 2) 0 (Nat.log2 n))
noncomputable def lgN (n : Nat) : Nat := cond (Nat.blt n 340282366920938463463374607431768211456) (lg64 n 0) (lgS 1024 179769313486231590772930519078902473361797697894230657273430081157732675805500963132708477322407536021120113879871393357658789768814416622492847430639474124377767893424865485276302219601246094119453082952085005768838150682342462881473913110540827237163350510684586298239947245938479716304835356329624224137216 n 0 fun n a => lgS 512 13407807929942597099574024998205846127479365820592393377723561443721764030073546976801874298166903427690031858186486050853753882811946569946433649006084096 n a fun n a => lgS 256 115792089237316195423570985008687907853269984665640564039457584007913129639936 n a fun n a => lgS 128 340282366920938463463374607431768211456 n a fun n a => lg64 n a)
theorem log2_step (n : Nat) : ∀ k, 2 ^ k ≤ n → Nat.log2 n = k + Nat.log2 (n / 2 ^ k)
  | 0, _ => by simp
  | k + 1, h => by
    have h1 : 2 ^ k ≤ n := Nat.le_trans (Nat.pow_le_pow_right (by omega) (Nat.le_succ k)) h
    rw [log2_step n k h1]
    have h2 : 2 ≤ n / 2 ^ k := by
      rw [Nat.le_div_iff_mul_le (Nat.pow_pos (by omega))]
      rw [Nat.pow_succ] at h
      omega
    rw [Nat.log2_def (n / 2 ^ k), if_pos h2, Nat.div_div_eq_div_mul, ← Nat.pow_succ]
    generalize Nat.log2 (n / 2 ^ (k + 1)) = z
    show k + (z + 1) = k + 1 + z
    omega
theorem lgS_eq {k P n a : Nat} {f : Nat → Nat → Nat} (hP : P = 2 ^ k) (hf : ∀ n a, f n a = a + Nat.log2 n) : lgS k P n a f = a + Nat.log2 n := by
  subst hP
  unfold lgS
  cases h : Nat.ble (2 ^ k) n with
  | true =>
    rw [cond_true, fc_eq, hf]
    have e := log2_step n k (Nat.le_of_ble_eq_true h)
    show a + k + Nat.log2 (n / 2 ^ k) = _
    omega
  | false => rw [cond_false, hf]
theorem lg64_eq (n a : Nat) : lg64 n a = a + Nat.log2 n := by
  unfold lg64
  refine lgS_eq (by decide) fun n a => lgS_eq (by decide) fun n a => lgS_eq (by decide) fun n a => lgS_eq (by decide) fun n a => lgS_eq (by decide) fun n a => lgS_eq (by decide) fun n a => lgS_eq (by decide) fun n a => ?_
  cases h : Nat.blt n 2 with
  | true =>
    have h' : n < 2 := by simpa using h
    rw [cond_true, Nat.log2_def, if_neg (by omega)]
  | false => rfl
theorem lg_eq (n : Nat) : lgN n = Nat.log2 n := by
  have key : ∀ a, 0 + a = a := Nat.zero_add
  unfold lgN
  cases Nat.blt n 340282366920938463463374607431768211456 with
  | true => rw [cond_true, lg64_eq, key]
  | false =>
    rw [cond_false]
    refine (lgS_eq (by decide +kernel) fun n a => lgS_eq (by decide +kernel) fun n a => lgS_eq (by decide +kernel) fun n a => lgS_eq (by decide +kernel) fun n a => lg64_eq n a).trans (key _)
noncomputable def rmN (n d : Nat) : Nat := fc n fun n => fc d fun d => cond (Nat.beq n 0) 0 (fc (lgN n) fun ln => fc (lgN d) fun ld => rm1 n d ln ld)
/-- the same, of a power of two below -/
noncomputable def rmP (n j : Nat) : Nat := fc n fun n => fc j fun j => cond (Nat.beq n 0) 0 (fc (lgN n) fun ln => fc (Nat.pow 2 j) fun d => rm1 n d ln j)
noncomputable def pkN (s : Bool) (m : Nat) : Nat := cond s (Nat.add 9223372036854775808 m) m
theorem beqN (a b : Nat) : Nat.beq a b = decide (a = b) := by rw [Bool.eq_iff_iff, Nat.beq_eq, decide_eq_true_eq]
theorem bleN (a b : Nat) : Nat.ble a b = decide (a ≤ b) := by rw [Bool.eq_iff_iff, Nat.ble_eq, decide_eq_true_eq]
theorem bltN (a b : Nat) : Nat.blt a b = decide (a < b) := by rw [Bool.eq_iff_iff, Nat.blt_eq, decide_eq_true_eq]
theorem he_eq (n d : Nat) : Float64.halfEven n d = heN n d := by
  simp only [Float64.halfEven, heN, fc_eq, heQ, beqN, bltN]
  show (if (decide (2 * (n % d) > d) || (2 * (n % d) == d && n / d % 2 == 1)) = true then n / d + 1 else n / d) = n / d + (cond (decide (d < 2 * (n % d)) || decide (2 * (n % d) = d) && decide (n / d % 2 = 1)) 1 0)
  have e1 : (2 * (n % d) == d) = decide (2 * (n % d) = d) := by rw [Bool.eq_iff_iff, beq_iff_eq, decide_eq_true_eq]
  have e2 : (n / d % 2 == 1) = decide (n / d % 2 = 1) := by rw [Bool.eq_iff_iff, beq_iff_eq, decide_eq_true_eq]
  have e3 : decide (2 * (n % d) > d) = decide (d < 2 * (n % d)) := rfl
  rw [e1, e2, e3]
  cases (decide (d < 2 * (n % d)) || decide (2 * (n % d) = d) && decide (n / d % 2 = 1)) <;> rfl
theorem shift_nat (n d a b : Nat) : Float64.shift n d ((a : Int) - (b : Int)) = (n * 2 ^ (a - b), d * 2 ^ (b - a)) := by
  unfold Float64.shift
  by_cases h : b ≤ a
  · rw [if_pos (by omega)]
    have e1 : ((a : Int) - (b : Int)).toNat = a - b := by omega
    have e2 : b - a = 0 := by omega
    rw [e1, e2, Nat.pow_zero, Nat.mul_one]
  · rw [if_neg (by omega)]
    have e1 : (-((a : Int) - (b : Int))).toNat = b - a := by omega
    have e2 : a - b = 0 := by omega
    rw [e1, e2, Nat.pow_zero, Nat.mul_one]
theorem max_cut {ln ld c : Nat} {x : Int} (hx : x = (ln : Int) - (ld : Int) - (c : Int)) : max x (-1074) = ((1074 + ln - ld - c : Nat) : Int) - 1074 := by
  rcases Nat.le_total (ld + c) (1074 + ln) with h | h
  · rw [Int.max_eq_left (by omega)]; omega
  · rw [Int.max_eq_right (by omega)]; omega
theorem rm_eq (n d : Nat) : Float64.roundMag n d = rmN n d := by
  unfold Float64.roundMag
  simp only [rmN, fc_eq, beqN, lg_eq]
  by_cases h0 : n = 0
  · subst h0; rfl
  · rw [if_neg (by simpa using h0), decide_eq_false h0]
    show _ = rm1 n d (Nat.log2 n) (Nat.log2 d)
    generalize Nat.log2 n = ln
    generalize Nat.log2 d = ld
    have e0 : -((ln : Int) - (ld : Int)) = (ld : Int) - (ln : Int) := by omega
    simp only [e0, shift_nat]
    simp only [rm1, rm2, fc_eq, bleN]
    have key : ∀ c : Nat, (c = 52 ∨ c = 53) → ∀ x : Int, x = (ln : Int) - (ld : Int) - (c : Int) →
        min Float64.infMag ((max x (-1074) + 1074).toNat * 2 ^ 52 + Float64.halfEven (Float64.shift n d (-(max x (-1074)))).1 (Float64.shift n d (-(max x (-1074)))).2) =
        (cond (decide (9218868437227405312 ≤ Nat.add (Nat.mul (Nat.sub (Nat.sub (Nat.add 1074 ln) ld) c) 4503599627370496) (heN (Nat.mul n (Nat.pow 2 (Nat.sub 1074 (Nat.sub (Nat.sub (Nat.add 1074 ln) ld) c)))) (Nat.mul d (Nat.pow 2 (Nat.sub (Nat.sub (Nat.sub (Nat.add 1074 ln) ld) c) 1074)))))) 9218868437227405312
          (Nat.add (Nat.mul (Nat.sub (Nat.sub (Nat.add 1074 ln) ld) c) 4503599627370496) (heN (Nat.mul n (Nat.pow 2 (Nat.sub 1074 (Nat.sub (Nat.sub (Nat.add 1074 ln) ld) c)))) (Nat.mul d (Nat.pow 2 (Nat.sub (Nat.sub (Nat.sub (Nat.add 1074 ln) ld) c) 1074)))))) := by
      intro c hc x hx
      show _ = cond (decide (9218868437227405312 ≤ (1074 + ln - ld - c) * 4503599627370496 + heN (n * 2 ^ (1074 - (1074 + ln - ld - c))) (d * 2 ^ ((1074 + ln - ld - c) - 1074)))) 9218868437227405312 ((1074 + ln - ld - c) * 4503599627370496 + heN (n * 2 ^ (1074 - (1074 + ln - ld - c))) (d * 2 ^ ((1074 + ln - ld - c) - 1074)))
      have e3 : max x (-1074) = ((1074 + ln - ld - c : Nat) : Int) - 1074 := max_cut hx
      have e1 : (max x (-1074) + 1074).toNat = 1074 + ln - ld - c := by rw [e3, Int.sub_add_cancel, Int.toNat_natCast]
      have e2 : -(max x (-1074)) = ((1074 : Nat) : Int) - ((1074 + ln - ld - c : Nat) : Int) := by rw [e3, Int.neg_sub]; rfl
      rw [e1, e2, shift_nat, he_eq]
      show min 9218868437227405312 _ = _
      generalize (1074 + ln - ld - c) * 4503599627370496 + heN (n * 2 ^ (1074 - (1074 + ln - ld - c))) (d * 2 ^ ((1074 + ln - ld - c) - 1074)) = v
      by_cases hv : 9218868437227405312 ≤ v
      · rw [decide_eq_true hv, Nat.min_eq_left hv]; rfl
      · rw [decide_eq_false hv, Nat.min_eq_right (by omega)]; rfl
    by_cases hc : d * 2 ^ (ln - ld) ≤ n * 2 ^ (ld - ln)
    · have hd : decide ((Nat.mul d (Nat.pow 2 (Nat.sub ln ld))) ≤ (Nat.mul n (Nat.pow 2 (Nat.sub ld ln)))) = true := decide_eq_true hc
      rw [hd]
      have := key 52 (.inl rfl) ((ln : Int) - (ld : Int) - 52) rfl
      rw [if_pos (show n * 2 ^ (ld - ln) ≥ d * 2 ^ (ln - ld) from hc)]
      exact this
    · have hd : decide ((Nat.mul d (Nat.pow 2 (Nat.sub ln ld))) ≤ (Nat.mul n (Nat.pow 2 (Nat.sub ld ln)))) = false := decide_eq_false hc
      rw [hd]
      have := key 53 (.inr rfl) ((ln : Int) - (ld : Int) - 53) rfl
      rw [if_neg (show ¬ n * 2 ^ (ld - ln) ≥ d * 2 ^ (ln - ld) from hc)]
      exact this
theorem rmP_eq (n j : Nat) : rmP n j = rmN n (2 ^ j) := by
  simp only [rmP, rmN, fc_eq, lg_eq]
  rw [Nat.log2_two_pow]
  rfl
end Mine
end PartFz0s
section PartFz1s
open PySem
set_option maxRecDepth 100000
namespace Mine
theorem pack_eq (s : Bool) (m : Nat) : Float64.pack s m = UInt64.ofNat (pkN s m) := by
  cases s
  · show UInt64.ofNat (0 + m) = UInt64.ofNat m
    rw [Nat.zero_add]
  · rfl
theorem ofFrac_eq (s : Bool) (n d : Nat) : Float64.ofFrac s n d = UInt64.ofNat (pkN s (rmN n d)) := by
  unfold Float64.ofFrac; rw [rm_eq, pack_eq]
theorem ofBin_eq (s : Bool) (m E K : Nat) : Float64.ofBin s m ((E : Int) - (K : Int)) = UInt64.ofNat (pkN s (rmN (m * 2 ^ (E - K)) (2 ^ (K - E)))) := by
  unfold Float64.ofBin
  rw [shift_nat, Nat.one_mul]
  exact ofFrac_eq _ _ _
theorem rm_le (n d : Nat) : rmN n d ≤ 9218868437227405312 := by
  simp only [rmN, rm1, rm2, fc_eq, bleN, beqN]
  by_cases h : n = 0
  · rw [decide_eq_true h]; exact Nat.zero_le _
  · rw [decide_eq_false h, cond_false]
    generalize Nat.add _ (heN _ _) = v
    by_cases c : 9218868437227405312 ≤ v
    · rw [decide_eq_true c]; exact Nat.le_refl _
    · rw [decide_eq_false c]
      show v ≤ _
      omega
theorem pk_lt (s : Bool) {m : Nat} (h : m ≤ 9218868437227405312) : pkN s m < 18446744073709551616 := by
  cases s
  · show m < _; omega
  · show 9223372036854775808 + m < _; omega
/-- x is the pattern of the finite float X -/
structure Rp (x : Nat) (X : UInt64) : Prop where
  lt : x < 18446744073709551616
  fin : exN x ≠ 2047
  eq : X = UInt64.ofNat x
theorem toNat_of {x : Nat} (h : x < 18446744073709551616) : (UInt64.ofNat x).toNat = x := by
  rw [UInt64.toNat_ofNat']; exact Nat.mod_eq_of_lt h
theorem Rp.dec {x : Nat} {X : UInt64} (h : Rp x X) : Float64.decode X = .fin (sN x) (mN x) ((EN x : Int) - (1075 : Nat)) := by
  obtain ⟨h1, h2, rfl⟩ := h
  unfold Float64.decode
  rw [toNat_of h1]
  have e1 : x / 2 ^ 52 % 2048 = exN x := rfl
  have e2 : x % 2 ^ 52 = frN x := rfl
  have e3 : (x / 2 ^ 63 == 1) = sN x := by
    rw [Bool.eq_iff_iff, beq_iff_eq, sN, beqN, decide_eq_true_eq]; rfl
  simp only [e1, e2, e3]
  rw [if_neg (by simpa using h2)]
  unfold mN EN
  by_cases h0 : exN x = 0
  · rw [if_pos (by simpa using h0), beqN, decide_eq_true h0]
    rfl
  · rw [if_neg (by simpa using h0), beqN, decide_eq_false h0]
    rfl
/-- a made pattern, tried and handed on -/
noncomputable def chkF (z : Nat) (k : Nat → Bool) : Bool := fc z fun z => cond (Nat.blt (Nat.mod z 9223372036854775808) 9218868437227405312) (k z) false
theorem ex_of {z : Nat} (h : z % 9223372036854775808 < 9218868437227405312) : exN z ≠ 2047 := by
  show z / 4503599627370496 % 2048 ≠ 2047
  omega
theorem chkF_s {z : Nat} {Z : UInt64} {k : Nat → Bool} (hz : z < 18446744073709551616) (e : Z = UInt64.ofNat z) (h : chkF z k = true) : ∃ z, Rp z Z ∧ k z = true := by
  rw [chkF, fc_eq, bltN] at h
  by_cases c : Nat.mod z 9223372036854775808 < 9218868437227405312
  · rw [decide_eq_true c] at h
    exact ⟨z, ⟨hz, ex_of c, e⟩, h⟩
  · rw [decide_eq_false c] at h; cases h
noncomputable def fmul (x y : Nat) : Nat := fc x fun x => fc y fun y => fc (Nat.add (EN x) (EN y)) fun E => pkN (xor (sN x) (sN y)) (rmP (Nat.mul (Nat.mul (mN x) (mN y)) (Nat.pow 2 (Nat.sub E 2150))) (Nat.sub 2150 E))
noncomputable def fbin (s : Bool) (m E : Nat) : Nat := pkN s (rmP (Nat.mul m (Nat.pow 2 (Nat.sub E 1075))) (Nat.sub 1075 E))
noncomputable def add3 (s t : Bool) (a b E : Nat) : Nat :=
 fc a fun a => fc b fun b =>
  cond (xor s t)
   (cond (Nat.beq a b) 0 (cond (Nat.blt a b) (fbin t (Nat.sub b a) E) (fbin s (Nat.sub a b) E)))
   (cond (Nat.beq (Nat.add a b) 0) (pkN s 0) (fbin s (Nat.add a b) E))
noncomputable def fadd' (x y : Nat) (s t : Bool) : Nat := fc (EN x) fun e => fc (EN y) fun f =>
  cond (Nat.ble e f) (add3 s t (mN x) (Nat.mul (mN y) (Nat.pow 2 (Nat.sub f e))) e)
   (add3 s t (Nat.mul (mN x) (Nat.pow 2 (Nat.sub e f))) (mN y) f)
noncomputable def fdiv (x y : Nat) : Nat := fc x fun x => fc y fun y => pkN (xor (sN x) (sN y)) (rmN (Nat.mul (mN x) (Nat.pow 2 (Nat.sub (EN x) (EN y)))) (Nat.mul (mN y) (Nat.pow 2 (Nat.sub (EN y) (EN x)))))
theorem xor_ne (a b : Bool) : (a != b) = (xor a b) := by cases a <;> cases b <;> rfl
theorem mul_eq {x y : Nat} {X Y : UInt64} (hx : Rp x X) (hy : Rp y Y) : Float64.mul X Y = UInt64.ofNat (fmul x y) := by
  unfold Float64.mul
  rw [hx.dec, hy.dec]
  show Float64.ofBin (sN x != sN y) (mN x * mN y) (((EN x : Int) - (1075 : Nat)) + ((EN y : Int) - (1075 : Nat))) = _
  have e : ((EN x : Int) - (1075 : Nat)) + ((EN y : Int) - (1075 : Nat)) = ((EN x + EN y : Nat) : Int) - (2150 : Nat) := by push_cast; omega
  rw [e, ofBin_eq, xor_ne]
  simp only [fmul, fc_eq, rmP_eq]
  rfl
theorem bin_eq (s : Bool) (m E : Nat) : Float64.ofBin s m ((E : Int) - (1075 : Nat)) = UInt64.ofNat (fbin s m E) := by
  rw [fbin, rmP_eq]; exact ofBin_eq s m E 1075
theorem add3_eq (s t : Bool) (a b E : Nat) (g : Int) (hg : g = (E : Int) - (1075 : Nat)) :
    (if (Float64.sgn s a + Float64.sgn t b == 0) = true then Float64.zero (s && t) else Float64.ofBin (decide (Float64.sgn s a + Float64.sgn t b < 0)) (Float64.sgn s a + Float64.sgn t b).natAbs g) = UInt64.ofNat (add3 s t a b E) := by
  subst hg
  simp only [add3, fc_eq, beqN, bltN]
  unfold Float64.sgn Float64.zero
  cases s <;> cases t <;> simp only [Bool.false_eq_true, if_false, if_true, Bool.xor_false, Bool.xor_true, Bool.not_false, Bool.not_true, cond_true, cond_false, Bool.and_self, Bool.and_false, Bool.and_true, Bool.false_and]
  · by_cases h : a + b = 0
    · rw [if_pos (by rw [beq_iff_eq]; omega), decide_eq_true (show Nat.add a b = 0 from h)]
      rw [cond_true]; exact pack_eq _ _
    · rw [if_neg (by rw [beq_iff_eq]; omega), decide_eq_false (show ¬ Nat.add a b = 0 from h), cond_false]
      rw [decide_eq_false (show ¬ ((a : Int) + (b : Int) < 0) by omega), show ((a : Int) + (b : Int)).natAbs = a + b by omega]
      exact bin_eq _ _ _
  · by_cases h : a = b
    · rw [if_pos (by rw [beq_iff_eq]; omega), decide_eq_true h]
      rw [cond_true]; exact pack_eq false 0
    · rw [if_neg (by rw [beq_iff_eq]; omega), decide_eq_false h, cond_false]
      by_cases l : a < b
      · rw [decide_eq_true l, decide_eq_true (show ((a : Int) + -(b : Int) < 0) by omega), show ((a : Int) + -(b : Int)).natAbs = b - a by omega, cond_true]
        exact bin_eq _ _ _
      · rw [decide_eq_false l, decide_eq_false (show ¬ ((a : Int) + -(b : Int) < 0) by omega), show ((a : Int) + -(b : Int)).natAbs = a - b by omega, cond_false]
        exact bin_eq _ _ _
  · by_cases h : a = b
    · rw [if_pos (by rw [beq_iff_eq]; omega), decide_eq_true h]
      rw [cond_true]; exact pack_eq false 0
    · rw [if_neg (by rw [beq_iff_eq]; omega), decide_eq_false h, cond_false]
      by_cases l : a < b
      · rw [decide_eq_true l, decide_eq_false (show ¬ (-(a : Int) + (b : Int) < 0) by omega), show (-(a : Int) + (b : Int)).natAbs = b - a by omega, cond_true]
        exact bin_eq _ _ _
      · rw [decide_eq_false l, decide_eq_true (show (-(a : Int) + (b : Int) < 0) by omega), show (-(a : Int) + (b : Int)).natAbs = a - b by omega, cond_false]
        exact bin_eq _ _ _
  · by_cases h : a + b = 0
    · rw [if_pos (by rw [beq_iff_eq]; omega), decide_eq_true (show Nat.add a b = 0 from h)]
      rw [cond_true]; exact pack_eq _ _
    · rw [if_neg (by rw [beq_iff_eq]; omega), decide_eq_false (show ¬ Nat.add a b = 0 from h), cond_false]
      rw [decide_eq_true (show (-(a : Int) + -(b : Int) < 0) by omega), show (-(a : Int) + -(b : Int)).natAbs = a + b by omega]
      exact bin_eq _ _ _
theorem align_eq (s t : Bool) (m k Ex Ey : Nat) : Float64.align s m ((Ex : Int) - (1075 : Nat)) t k ((Ey : Int) - (1075 : Nat)) = (Float64.sgn s (m * 2 ^ (Ex - Ey)), Float64.sgn t (k * 2 ^ (Ey - Ex)), ((min Ex Ey : Nat) : Int) - (1075 : Nat)) := by
  unfold Float64.align
  have e3 : min ((Ex : Int) - (1075 : Nat)) ((Ey : Int) - (1075 : Nat)) = ((min Ex Ey : Nat) : Int) - (1075 : Nat) := by
    rcases Nat.le_total Ex Ey with h | h
    · rw [Nat.min_eq_left h, Int.min_eq_left (Int.sub_le_sub_right (Int.ofNat_le.mpr h) _)]
    · rw [Nat.min_eq_right h, Int.min_eq_right (Int.sub_le_sub_right (Int.ofNat_le.mpr h) _)]
  have cut : ∀ a b : Nat, (((a : Int) - (1075 : Nat)) - ((min a b : Nat) - (1075 : Nat))).toNat = a - b := fun a b => by
    rw [show (((a : Int) - (1075 : Nat)) - ((min a b : Nat) - (1075 : Nat))) = (a : Int) - (min a b : Nat) by generalize (min a b) = c; omega]
    rcases Nat.le_total a b with h | h
    · rw [Nat.min_eq_left h, Int.sub_self, Nat.sub_eq_zero_of_le h]; rfl
    · rw [Nat.min_eq_right h, ← Int.ofNat_sub h]; rfl
  have e1 : (((Ex : Int) - (1075 : Nat)) - min ((Ex : Int) - (1075 : Nat)) ((Ey : Int) - (1075 : Nat))).toNat = Ex - Ey := by rw [e3, cut]
  have e2 : (((Ey : Int) - (1075 : Nat)) - min ((Ex : Int) - (1075 : Nat)) ((Ey : Int) - (1075 : Nat))).toNat = Ey - Ex := by rw [e3, Nat.min_comm, cut]
  simp only [e1, e2]
  rw [e3]
theorem add_dec {x y : Nat} {X Y : UInt64} {s t : Bool} (hx : Float64.decode X = .fin s (mN x) ((EN x : Int) - (1075 : Nat))) (hy : Float64.decode Y = .fin t (mN y) ((EN y : Int) - (1075 : Nat))) : Float64.add X Y = UInt64.ofNat (fadd' x y s t) := by
  unfold Float64.add
  rw [hx, hy]
  dsimp only
  rw [align_eq]
  have h2 := add3_eq s t (mN x * 2 ^ (EN x - EN y)) (mN y * 2 ^ (EN y - EN x)) (min (EN x) (EN y)) _ rfl
  refine Eq.trans h2 ?_
  simp only [fadd', fc_eq, bleN]
  by_cases h : EN x ≤ EN y
  · rw [decide_eq_true h, Nat.min_eq_left h, Nat.sub_eq_zero_of_le h, Nat.pow_zero, Nat.mul_one]
    rfl
  · have h' : EN y ≤ EN x := by omega
    rw [decide_eq_false h, Nat.min_eq_right h', Nat.sub_eq_zero_of_le h', Nat.pow_zero, Nat.mul_one]
    rfl
theorem add_eq {x y : Nat} {X Y : UInt64} (hx : Rp x X) (hy : Rp y Y) : Float64.add X Y = UInt64.ofNat (fadd' x y (sN x) (sN y)) := add_dec hx.dec hy.dec
end Mine
end PartFz1s
section PartFz2
open PySem
set_option maxRecDepth 100000
namespace Mine
theorem xor63 {y : Nat} (h : y < 9223372036854775808) : y ^^^ 9223372036854775808 = 9223372036854775808 + y := by
  apply Nat.eq_of_testBit_eq
  intro i
  have hp : (9223372036854775808 : Nat) = 2 ^ 63 := by decide
  rw [hp] at h ⊢
  rw [Nat.testBit_xor, Nat.testBit_two_pow]
  rcases Nat.lt_trichotomy i 63 with q | q | q
  · rw [Nat.testBit_two_pow_add_gt q, decide_eq_false (by omega)]; simp
  · subst q
    rw [Nat.testBit_two_pow_add_eq, Nat.testBit_lt_two_pow h]; simp
  · have h2 : y < 2 ^ i := Nat.lt_trans h (Nat.pow_lt_pow_right (by omega) q)
    have h3 : 2 ^ 63 + y < 2 ^ i := by
      have : 2 ^ 64 ≤ 2 ^ i := Nat.pow_le_pow_right (by omega) (by omega)
      have e : (2 : Nat) ^ 64 = 2 ^ 63 + 2 ^ 63 := by decide
      omega
    rw [Nat.testBit_lt_two_pow h2, Nat.testBit_lt_two_pow h3, decide_eq_false (by omega)]; rfl
noncomputable def ngN (y : Nat) : Nat := if y < 9223372036854775808 then 9223372036854775808 + y else y - 9223372036854775808
theorem xor63' {y : Nat} (h : y < 18446744073709551616) : y ^^^ 9223372036854775808 = ngN y := by
  unfold ngN
  by_cases c : y < 9223372036854775808
  · rw [if_pos c]; exact xor63 c
  · rw [if_neg c]
    obtain ⟨z, rfl⟩ : ∃ z, y = 9223372036854775808 + z := ⟨y - 9223372036854775808, by omega⟩
    have hz : z < 9223372036854775808 := by omega
    rw [← xor63 hz, Nat.xor_assoc, Nat.xor_self, Nat.xor_zero, xor63 hz]
    omega
theorem ng_lt {y : Nat} (h : y < 18446744073709551616) : ngN y < 18446744073709551616 := by unfold ngN; split <;> omega
theorem ng_fr {y : Nat} (h : y < 18446744073709551616) : frN (ngN y) = frN y := by
  show ngN y % 4503599627370496 = y % 4503599627370496
  unfold ngN; split <;> omega
theorem ng_ex {y : Nat} (h : y < 18446744073709551616) : exN (ngN y) = exN y := by
  show ngN y / 4503599627370496 % 2048 = y / 4503599627370496 % 2048
  unfold ngN; split <;> omega
theorem ng_s {y : Nat} (h : y < 18446744073709551616) : sN (ngN y) = !sN y := by
  have e : ∀ z : Nat, sN z = decide (z / 9223372036854775808 = 1) := fun z => beqN _ _
  rw [e, e]
  unfold ngN
  by_cases c : y < 9223372036854775808
  · rw [if_pos c, decide_eq_true (by omega), decide_eq_false (by omega)]; rfl
  · rw [if_neg c, decide_eq_false (by omega), decide_eq_true (by omega)]; rfl
theorem not_nan {y : Nat} {Y : UInt64} (h : Rp y Y) : Float64.isNaN Y = false := by unfold Float64.isNaN; rw [h.dec]
theorem neg_rp {y : Nat} {Y : UInt64} (h : Rp y Y) : Rp (ngN y) (Float64.neg Y) := by
  refine ⟨ng_lt h.lt, by rw [ng_ex h.lt]; exact h.fin, ?_⟩
  unfold Float64.neg
  rw [not_nan h, if_neg (by decide), h.eq]
  apply UInt64.toNat_inj.mp
  rw [UInt64.toNat_xor, toNat_of h.lt, toNat_of (ng_lt h.lt)]
  exact xor63' h.lt
theorem ng_m {y : Nat} (h : y < 18446744073709551616) : mN (ngN y) = mN y := by unfold mN; rw [ng_ex h, ng_fr h]
theorem ng_E {y : Nat} (h : y < 18446744073709551616) : EN (ngN y) = EN y := by unfold EN; rw [ng_ex h]
theorem sub_eq {x y : Nat} {X Y : UInt64} (hx : Rp x X) (hy : Rp y Y) : Float64.sub X Y = UInt64.ofNat (fadd' x y (sN x) (not (sN y))) := by
  unfold Float64.sub
  have d := (neg_rp hy).dec
  rw [ng_m hy.lt, ng_E hy.lt, ng_s hy.lt] at d
  exact add_dec hx.dec d
theorem div_eq {x y : Nat} {X Y : UInt64} (hx : Rp x X) (hy : Rp y Y) (h0 : mN y ≠ 0) : Float64.div X Y = UInt64.ofNat (fdiv x y) := by
  unfold Float64.div
  rw [hx.dec, hy.dec]
  dsimp only
  rw [if_neg (by simpa using h0)]
  have e : ((EN x : Int) - (1075 : Nat)) - ((EN y : Int) - (1075 : Nat)) = (EN x : Int) - (EN y : Int) := by omega
  rw [e, shift_nat, xor_ne]
  dsimp only
  rw [ofFrac_eq]
  simp only [fdiv, fc_eq]
  rfl
/-- the remainder by 1.0, of a sign -/
noncomputable def fmo (x : Nat) : Nat := fc (EN x) fun E => cond (Nat.ble E 1023)
  (fbin (sN x) (Nat.mod (mN x) (Nat.mul 4503599627370496 (Nat.pow 2 (Nat.sub 1023 E)))) E)
  (fbin (sN x) (Nat.mod (Nat.mul (mN x) (Nat.pow 2 (Nat.sub E 1023))) 4503599627370496) 1023)
theorem one_rp : Rp 4607182418800017408 4607182418800017408 := ⟨by decide, by decide, rfl⟩
theorem fmo_eq {x : Nat} {X : UInt64} (hx : Rp x X) : Float64.fmod X 4607182418800017408 = UInt64.ofNat (fmo x) := by
  unfold Float64.fmod
  rw [hx.dec, one_rp.dec]
  dsimp only
  have h0 : mN 4607182418800017408 = 4503599627370496 := by decide
  have h1 : EN 4607182418800017408 = 1023 := by decide
  rw [h0, h1, if_neg (by decide), align_eq]
  dsimp only [Float64.sgn]
  simp only [Bool.false_eq_true, if_false, Int.toNat_natCast]
  simp only [fmo, fc_eq, bleN]
  by_cases h : EN x ≤ 1023
  · rw [decide_eq_true h, Nat.min_eq_left h, Nat.sub_eq_zero_of_le h, Nat.pow_zero, Nat.mul_one]
    exact bin_eq _ _ _
  · have h' : 1023 ≤ EN x := by omega
    rw [decide_eq_false h, Nat.min_eq_right h', Nat.sub_eq_zero_of_le h', Nat.pow_zero, Nat.mul_one]
    exact bin_eq _ _ _
end Mine
end PartFz2
section PartFz3
open PySem
set_option maxRecDepth 100000
namespace Mine
theorem fmul_lt (x y : Nat) : fmul x y < 18446744073709551616 := by simp only [fmul, fc_eq, rmP_eq]; exact pk_lt _ (rm_le _ _)
theorem fbin_lt (s : Bool) (m E : Nat) : fbin s m E < 18446744073709551616 := by rw [fbin, rmP_eq]; exact pk_lt _ (rm_le _ _)
theorem fdiv_lt (x y : Nat) : fdiv x y < 18446744073709551616 := by simp only [fdiv, fc_eq]; exact pk_lt _ (rm_le _ _)
theorem cond_lt {c : Bool} {a b n : Nat} (ha : a < n) (hb : b < n) : cond c a b < n := by cases c <;> assumption
theorem add3_lt (s t : Bool) (a b E : Nat) : add3 s t a b E < 18446744073709551616 := by
  simp only [add3, fc_eq]
  exact cond_lt (cond_lt (by decide) (cond_lt (fbin_lt _ _ _) (fbin_lt _ _ _))) (cond_lt (pk_lt _ (by decide)) (fbin_lt _ _ _))
theorem fadd_lt (x y : Nat) (s t : Bool) : fadd' x y s t < 18446744073709551616 := by
  simp only [fadd', fc_eq]
  exact cond_lt (add3_lt _ _ _ _ _) (add3_lt _ _ _ _ _)
theorem fmo_lt (x : Nat) : fmo x < 18446744073709551616 := by
  simp only [fmo, fc_eq]
  exact cond_lt (fbin_lt _ _ _) (fbin_lt _ _ _)
noncomputable def mulC (x y : Nat) (k : Nat → Bool) : Bool := chkF (fmul x y) k
noncomputable def addC (x y : Nat) (k : Nat → Bool) : Bool := chkF (fadd' x y (sN x) (sN y)) k
noncomputable def subC (x y : Nat) (k : Nat → Bool) : Bool := chkF (fadd' x y (sN x) (not (sN y))) k
noncomputable def divC (x y : Nat) (k : Nat → Bool) : Bool := cond (Nat.beq (mN y) 0) false (chkF (fdiv x y) k)
noncomputable def frC (a b : Nat) (k : Nat → Bool) : Bool := chkF (rmN a b) k
noncomputable def intC (a : Nat) (k : Nat → Bool) : Bool := chkF (rmN a 1) k
noncomputable def nzC (x : Nat) (k : Bool) : Bool := cond (Nat.beq (mN x) 0) false k
noncomputable def fracC (x : Nat) (k : Nat → Bool) : Bool := chkF (fmo x) fun m => cond (Nat.beq (mN m) 0) (k 0) (cond (sN m) (addC m 4607182418800017408 k) (k m))
noncomputable def ltC (x y : Nat) (k : Bool → Bool) : Bool := cond (or (sN x) (sN y)) false (k (Nat.blt (Nat.mul (mN x) (Nat.pow 2 (Nat.sub (EN x) (EN y)))) (Nat.mul (mN y) (Nat.pow 2 (Nat.sub (EN y) (EN x))))))
noncomputable def eqC (x y : Nat) (k : Bool → Bool) : Bool := cond (or (sN x) (sN y)) false (k (Nat.beq (Nat.mul (mN x) (Nat.pow 2 (Nat.sub (EN x) (EN y)))) (Nat.mul (mN y) (Nat.pow 2 (Nat.sub (EN y) (EN x))))))
noncomputable def trC (x : Nat) (k : Nat → Bool) : Bool := cond (sN x) false (fc (Nat.div (Nat.mul (mN x) (Nat.pow 2 (Nat.sub (EN x) 1075))) (Nat.pow 2 (Nat.sub 1075 (EN x)))) k)
noncomputable def nfarC (x : Nat) : Bool := mulC (Nat.mod x 9223372036854775808) 4742290407621132288 fun z => cond (sN z) false (Nat.blt (Nat.mul (mN z) (Nat.pow 2 (Nat.sub (EN z) 1075))) (Nat.pow 2 (Nat.sub 1075 (EN z))))
section
variable {x y : Nat} {X Y : UInt64} {k : Nat → Bool}
theorem mulC_s (hx : Rp x X) (hy : Rp y Y) (h : mulC x y k = true) : ∃ z, Rp z (Float64.mul X Y) ∧ k z = true := chkF_s (fmul_lt _ _) (mul_eq hx hy) h
theorem addC_s (hx : Rp x X) (hy : Rp y Y) (h : addC x y k = true) : ∃ z, Rp z (Float64.add X Y) ∧ k z = true := chkF_s (fadd_lt _ _ _ _) (add_eq hx hy) h
theorem subC_s (hx : Rp x X) (hy : Rp y Y) (h : subC x y k = true) : ∃ z, Rp z (Float64.sub X Y) ∧ k z = true := chkF_s (fadd_lt _ _ _ _) (sub_eq hx hy) h
theorem divC_s (hx : Rp x X) (hy : Rp y Y) (h : divC x y k = true) : ∃ z, Rp z (Float64.div X Y) ∧ k z = true := by
  rw [divC, beqN] at h
  by_cases c : mN y = 0
  · rw [decide_eq_true c] at h; cases h
  · rw [decide_eq_false c] at h
    exact chkF_s (fdiv_lt _ _) (div_eq hx hy c) h
theorem frC_s {a b : Nat} (h : frC a b k = true) : ∃ z, Rp z (frF (a : Int) (b : Int)) ∧ k z = true := by
  refine chkF_s (Nat.lt_of_le_of_lt (rm_le _ _) (by decide)) ?_ h
  unfold frF
  rw [decide_eq_false (show ¬ ((a : Int) < 0) by omega), decide_eq_false (show ¬ ((b : Int) < 0) by omega), Int.natAbs_natCast, Int.natAbs_natCast]
  exact ofFrac_eq _ _ _
theorem intC_s {a : Nat} (h : intC a k = true) : ∃ z, Rp z (Float64.ofInt (a : Int)) ∧ k z = true := by
  refine chkF_s (Nat.lt_of_le_of_lt (rm_le _ _) (by decide)) ?_ h
  unfold Float64.ofInt
  rw [decide_eq_false (show ¬ ((a : Int) < 0) by omega), Int.natAbs_natCast]
  exact ofFrac_eq _ _ _
theorem zero_is (hx : Rp x X) : Float64.isZero X = decide (mN x = 0) := by
  unfold Float64.isZero
  rw [hx.dec]
  generalize mN x = m
  cases m with
  | zero => rfl
  | succ m => rfl
theorem nzC_s {b : Bool} (hx : Rp x X) (h : nzC x b = true) : (¬ Float64.isZero X = true) ∧ b = true := by
  rw [nzC, beqN] at h
  rw [zero_is hx]
  by_cases c : mN x = 0
  · rw [decide_eq_true c] at h; cases h
  · rw [decide_eq_false c] at h ⊢
    exact ⟨by decide, h⟩
theorem cmp_ord {a b : Nat} : (some (compare (a : Int) (b : Int)) == some Ordering.lt) = Nat.blt a b ∧ (some (compare (a : Int) (b : Int)) == some Ordering.eq) = Nat.beq a b := by
  rw [bltN, beqN]
  have e : compare (a : Int) (b : Int) = if a < b then .lt else if a = b then .eq else .gt := by
    show compareOfLessAndEq (a : Int) (b : Int) = _
    unfold compareOfLessAndEq
    rcases Nat.lt_trichotomy a b with q | q | q
    · rw [if_pos (by omega), if_pos q]
    · rw [if_neg (by omega), if_pos (by omega), if_neg (by omega), if_pos q]
    · rw [if_neg (by omega), if_neg (by omega), if_neg (by omega), if_neg (by omega)]
  rw [e]
  rcases Nat.lt_trichotomy a b with q | q | q
  · rw [if_pos q, decide_eq_true q, decide_eq_false (by omega)]; exact ⟨rfl, rfl⟩
  · rw [if_neg (by omega), if_pos q, decide_eq_false (by omega), decide_eq_true q]; exact ⟨rfl, rfl⟩
  · rw [if_neg (by omega), if_neg (by omega), decide_eq_false (by omega), decide_eq_false (by omega)]; exact ⟨rfl, rfl⟩
theorem cmp_is (hx : Rp x X) (hy : Rp y Y) (sx : sN x = false) (sy : sN y = false) : Float64.cmp X Y = some (compare ((mN x * 2 ^ (EN x - EN y) : Nat) : Int) ((mN y * 2 ^ (EN y - EN x) : Nat) : Int)) := by
  unfold Float64.cmp
  rw [hx.dec, hy.dec, sx, sy]
  dsimp only
  rw [align_eq]
  rfl
theorem ltC_s {k : Bool → Bool} (hx : Rp x X) (hy : Rp y Y) (h : ltC x y k = true) : ∃ b, (Float64.cmp X Y == some .lt) = b ∧ k b = true := by
  unfold ltC at h
  cases sx : sN x with
  | true => rw [sx] at h; cases h
  | false =>
    cases sy : sN y with
    | true => rw [sx, sy] at h; cases h
    | false =>
      rw [sx, sy] at h
      exact ⟨_, by rw [cmp_is hx hy sx sy]; exact cmp_ord.1, h⟩
theorem eqC_s {k : Bool → Bool} (hx : Rp x X) (hy : Rp y Y) (h : eqC x y k = true) : ∃ b, (Float64.cmp X Y == some .eq) = b ∧ k b = true := by
  unfold eqC at h
  cases sx : sN x with
  | true => rw [sx] at h; cases h
  | false =>
    cases sy : sN y with
    | true => rw [sx, sy] at h; cases h
    | false =>
      rw [sx, sy] at h
      exact ⟨_, by rw [cmp_is hx hy sx sy]; exact cmp_ord.2, h⟩
theorem self_eq (hx : Rp x X) : (Float64.cmp X X == some .eq) = true := by
  unfold Float64.cmp
  rw [hx.dec]
  dsimp only
  rw [align_eq]
  dsimp only
  generalize Float64.sgn (sN x) (mN x * 2 ^ (EN x - EN x)) = i
  have e : compare i i = .eq := by
    show compareOfLessAndEq i i = _
    unfold compareOfLessAndEq
    rw [if_neg (Int.lt_irrefl i), if_pos rfl]
  rw [e]; rfl
theorem zero_rp : Rp 0 0 := ⟨by decide, by decide, rfl⟩
theorem lt_zero (hx : Rp x X) (h0 : mN x ≠ 0) : Float64.lt X (Float64.zero false) = sN x := by
  have hz : Float64.decode (Float64.zero false) = .fin false 0 (((1 : Nat) : Int) - (1075 : Nat)) := by
    rw [show Float64.zero false = 0 by decide +kernel]
    exact zero_rp.dec
  unfold Float64.lt Float64.cmp
  rw [hx.dec, hz]
  dsimp only
  rw [align_eq]
  dsimp only
  rw [Nat.zero_mul]
  have hp : 0 < mN x * 2 ^ (EN x - 1) := Nat.mul_pos (by omega) (Nat.pow_pos (by omega))
  generalize mN x * 2 ^ (EN x - 1) = a at hp
  show (some (compareOfLessAndEq (Float64.sgn (sN x) a) (0 : Int)) == some .lt) = sN x
  unfold compareOfLessAndEq Float64.sgn
  cases sN x
  · simp only [Bool.false_eq_true, if_false]
    rw [if_neg (by omega), if_neg (by omega)]; rfl
  · simp only [if_true]
    rw [if_pos (by omega)]; rfl
theorem frac_is : (Float64.divmod X 4607182418800017408).2 = if Float64.isZero (Float64.fmod X 4607182418800017408) = true then Float64.copysign (Float64.zero false) 4607182418800017408
    else if (Float64.lt 4607182418800017408 (Float64.zero false) != Float64.lt (Float64.fmod X 4607182418800017408) (Float64.zero false)) = true then Float64.add (Float64.fmod X 4607182418800017408) 4607182418800017408 else Float64.fmod X 4607182418800017408 := by
  unfold Float64.divmod
  dsimp only
  split
  · rfl
  · split
    · rfl
    · rfl
theorem fracC_s (hx : Rp x X) (h : fracC x k = true) : ∃ z, Rp z (Float64.divmod X 4607182418800017408).2 ∧ k z = true := by
  obtain ⟨m, hm, h⟩ := chkF_s (fmo_lt x) (fmo_eq hx) h
  rw [frac_is, zero_is hm]
  rw [beqN] at h
  by_cases c : mN m = 0
  · rw [decide_eq_true c] at h ⊢
    rw [if_pos rfl, show Float64.copysign (Float64.zero false) 4607182418800017408 = 0 by decide +kernel]
    exact ⟨0, zero_rp, h⟩
  · rw [decide_eq_false c] at h ⊢
    rw [if_neg (by decide), lt_zero hm c, show Float64.lt 4607182418800017408 (Float64.zero false) = false by decide +kernel]
    cases sm : sN m with
    | true =>
      rw [sm] at h
      exact addC_s hm one_rp h
    | false =>
      rw [sm] at h
      exact ⟨m, hm, h⟩
theorem trC_s (hx : Rp x X) (h : trC x k = true) : ∃ n : Nat, Flt.toInt Float64.truncOf X = (n : Int) ∧ Float64.isFinite X = true ∧ k n = true := by
  unfold trC at h
  cases sx : sN x with
  | true => rw [sx] at h; cases h
  | false =>
    rw [sx, cond_false, fc_eq] at h
    refine ⟨_, ?_, ?_, h⟩
    · unfold Flt.toInt
      rw [hx.dec, sx]
      show Float64.floorOf false (mN x) _ = _
      unfold Float64.floorOf Float64.sgn
      simp only [Bool.false_eq_true, if_false]
      show _ = (((mN x * 2 ^ (EN x - 1075)) / 2 ^ (1075 - EN x) : Nat) : Int)
      by_cases c : 1075 ≤ EN x
      · rw [if_pos (by omega), Nat.sub_eq_zero_of_le c, Nat.pow_zero, Nat.div_one]
        have e : ((EN x : Int) - (1075 : Nat)).toNat = EN x - 1075 := by omega
        rw [e]; push_cast; rfl
      · rw [if_neg (by omega), Nat.sub_eq_zero_of_le (show EN x ≤ 1075 by omega), Nat.pow_zero, Nat.mul_one]
        have e : (-((EN x : Int) - (1075 : Nat))).toNat = 1075 - EN x := by omega
        rw [e, Int.fdiv_eq_ediv_of_nonneg _ (by exact Int.pow_nonneg (by omega))]
        push_cast; rfl
    · unfold Float64.isFinite; rw [hx.dec]
theorem abs_rp (hx : Rp x X) : Rp (x % 9223372036854775808) (Float64.abs X) := by
  refine ⟨by omega, ?_, ?_⟩
  · have := hx.fin
    show x % 9223372036854775808 / 4503599627370496 % 2048 ≠ 2047
    have e : exN x = x / 4503599627370496 % 2048 := rfl
    rw [e] at this
    omega
  · unfold Float64.abs
    rw [not_nan hx, if_neg (by decide), hx.eq, toNat_of hx.lt, pack_eq]
    rfl
theorem c30_rp : Rp 4742290407621132288 (Float64.ofInt (2 ^ Int.toNat 30)) := ⟨by decide, by decide, by decide +kernel⟩
theorem nfarC_s (hx : Rp x X) (h : nfarC x = true) : farF X = false := by
  obtain ⟨z, hz, h⟩ := mulC_s (abs_rp hx) c30_rp h
  cases sz : sN z with
  | true => rw [sz] at h; cases h
  | false =>
    rw [sz, cond_false, bltN, decide_eq_true_eq] at h
    have h' : mN z * 2 ^ (EN z - 1075) < 2 ^ (1075 - EN z) := h
    have key : Float64.cmpInt (Float64.mul (Float64.abs X) (Float64.ofInt (2 ^ Int.toNat 30))) 1 = some .lt := by
      unfold Float64.cmpInt
      rw [hz.dec, sz]
      unfold Float64.sgn
      simp only [Bool.false_eq_true, if_false]
      by_cases c : 1075 ≤ EN z
      · rw [if_pos (by omega)]
        have e : ((EN z : Int) - (1075 : Nat)).toNat = EN z - 1075 := by omega
        rw [Nat.sub_eq_zero_of_le c, Nat.pow_zero] at h'
        rw [e]
        show some (compareOfLessAndEq ((mN z : Int) * 2 ^ (EN z - 1075)) 1) = _
        unfold compareOfLessAndEq
        have : ((mN z * 2 ^ (EN z - 1075) : Nat) : Int) < 1 := by omega
        push_cast at this
        rw [if_pos this]
      · rw [if_neg (by omega)]
        have e : (-((EN z : Int) - (1075 : Nat))).toNat = 1075 - EN z := by omega
        rw [Nat.sub_eq_zero_of_le (show EN z ≤ 1075 by omega), Nat.pow_zero, Nat.mul_one] at h'
        rw [e]
        show some (compareOfLessAndEq (mN z : Int) (1 * 2 ^ (1075 - EN z))) = _
        unfold compareOfLessAndEq
        have : ((mN z : Nat) : Int) < ((2 ^ (1075 - EN z) : Nat) : Int) := by exact_mod_cast h'
        push_cast at this
        rw [if_pos (by rw [Int.one_mul]; exact this)]
    unfold farF
    rw [key]; rfl
end
end Mine
end PartFz3
section PartFz4s
open PySem PySem.W PyProof.Rows PySem.Calls
set_option maxRecDepth 100000
namespace Mine
theorem half_rp : Rp 4602678819172646912 4602678819172646912 := ⟨by decide, by decide, rfl⟩
theorem two_rp : Rp 4611686018427387904 4611686018427387904 := ⟨by decide, by decide, rfl⟩
theorem four_rp : Rp 4616189618054758400 4616189618054758400 := ⟨by decide, by decide, rfl⟩
theorem six_rp : Rp 4618441417868443648 4618441417868443648 := ⟨by decide, by decide, rfl⟩
theorem third_rp : Rp 4599676419421066581 4599676419421066581 := ⟨by decide, by decide, rfl⟩
theorem sixth_rp : Rp 4595172819793696085 4595172819793696085 := ⟨by decide, by decide, rfl⟩
theorem two3_rp : Rp 4604180019048437077 4604180019048437077 := ⟨by decide, by decide, rfl⟩
theorem c16_rp : Rp 4625196817309499392 (Float64.ofInt 16) := ⟨by decide, by decide, by decide +kernel⟩
theorem sel_rp {x y : Nat} {X Y : UInt64} {B c : Bool} (e : B = c) (hx : Rp x X) (hy : Rp y Y) : Rp (cond c x y) (if B = true then X else Y) := by
  subst e; cases B
  · exact hy
  · exact hx
noncomputable def hue3 (e1 e2 : Bool) (rc gc bc : Nat) (k : Nat → Bool) : Bool :=
  cond e1 (subC bc gc k) (cond e2 (addC 4611686018427387904 rc fun u => subC u bc k) (addC 4616189618054758400 gc fun u => subC u rc k))
noncomputable def readC4 (n lw q dd mx rg sm t2 H : Nat) : Bool :=
  frC n (Nat.add lw n) fun Sh => frC (Nat.add lw n) 16 fun V => frC (Nat.add (Nat.mul 2 lw) n) 32 fun Lg => frC n dd fun D =>
  divC rg mx fun s1 => divC sm 4611686018427387904 fun l1 =>
  ltC l1 4602678819172646912 fun d1 => eqC l1 4602678819172646912 fun d2 => (divC rg (cond (or d1 d2) sm t2)) fun D1 =>
  cond (Nat.beq s1 Sh) (cond (Nat.beq mx V) (cond (Nat.beq l1 Lg) (cond (Nat.beq D1 D) (
  intC (Nat.mul 6 n) fun N6 => mulC N6 H fun u => addC u 4602678819172646912 fun pl => trC pl fun p => cond (Nat.beq p q) (intC q fun P => subC u P fun df => nfarC df) false) false) false) false) false
noncomputable def readC3 (n lw q dd R G B mx rg sm t2 : Nat) : Bool :=
  subC mx B fun a1 => divC a1 rg fun bc => subC mx G fun a2 => divC a2 rg fun gc => subC mx R fun a3 => divC a3 rg fun rc =>
  eqC R mx fun e1 => eqC G mx fun e2 => hue3 e1 e2 rc gc bc fun h0 => divC h0 4618441417868443648 fun h1 => fracC h1 fun H => readC4 n lw q dd mx rg sm t2 H
noncomputable def readC2 (n lw q dd R G B mx mn : Nat) : Bool :=
  eqC mn mx fun c => cond c false (nzC mx (subC mx mn fun rg => nzC rg (addC mx mn fun sm => nzC sm (subC 4611686018427387904 mx fun t => subC t mn fun t2 => nzC t2 (readC3 n lw q dd R G B mx rg sm t2)))))
noncomputable def readC1 (n lw q dd R G B : Nat) : Bool :=
  ltC R G fun c1 => fc (cond c1 G R) fun p1 => ltC p1 B fun c2 => fc (cond c2 B p1) fun mx =>
  ltC G R fun c3 => fc (cond c3 G R) fun p2 => ltC B p2 fun c4 => fc (cond c4 B p2) fun mn => readC2 n lw q dd R G B mx mn
noncomputable def readC (n lw r g b q dd : Nat) : Bool :=
  frC (Nat.add lw r) 16 fun R => frC (Nat.add lw g) 16 fun G => frC (Nat.add lw b) 16 fun B => readC1 n lw q dd R G B
theorem hue3_s {rc gc bc : Nat} {RC GC BC : UInt64} {B1 B2 e1 e2 : Bool} {k : Nat → Bool} (h1 : B1 = e1) (h2 : B2 = e2) (hr : Rp rc RC) (hg : Rp gc GC) (hb : Rp bc BC) (h : hue3 e1 e2 rc gc bc k = true) :
    ∃ z, Rp z (if B1 = true then Float64.sub BC GC else if B2 = true then Float64.sub (Float64.add 4611686018427387904 RC) BC else Float64.sub (Float64.add 4616189618054758400 GC) RC) ∧ k z = true := by
  subst h1 h2
  cases B1
  · cases B2
    · obtain ⟨u, hu, h⟩ := addC_s (k := fun u => subC u rc k) four_rp hg h
      exact subC_s hu hr h
    · obtain ⟨u, hu, h⟩ := addC_s (k := fun u => subC u bc k) two_rp hr h
      exact subC_s hu hb h
  · exact subC_s hb hg h
theorem cond_s {c b : Bool} (h : cond c b false = true) : c = true ∧ b = true := by cases c; cases h; exact ⟨rfl, h⟩
theorem ncond_s {c b : Bool} (h : cond c false b = true) : c = false ∧ b = true := by cases c; exact ⟨rfl, h⟩; cases h
theorem same_rp {x y : Nat} {X Y : UInt64} (hx : Rp x X) (hy : Rp y Y) (h : Nat.beq x y = true) : X = Y := by rw [hx.eq, hy.eq, Nat.eq_of_beq_eq_true h]
/-- what min tells of the depth's divisor -/
noncomputable def dmN (n lw : Nat) : Nat := if 32 - 2 * lw - n < 2 * lw + n then 32 - 2 * lw - n else 2 * lw + n
theorem dm_eq {n lw : Nat} (hn : n ≤ 4) (hlw : lw < 12) : (if 32 - 2 * (lw : Int) - (n : Int) < 2 * (lw : Int) + (n : Int) then 32 - 2 * (lw : Int) - (n : Int) else 2 * (lw : Int) + (n : Int)) = ((dmN n lw : Nat) : Int) := by
  unfold dmN
  by_cases c : 32 - 2 * lw - n < 2 * lw + n
  · rw [if_pos (by omega), if_pos c]; omega
  · rw [if_neg (by omega), if_neg c]; omega
theorem ite_div (c : Bool) (x a b : UInt64) : (if c = true then Float64.div x a else Float64.div x b) = Float64.div x (if c = true then a else b) := by cases c <;> rfl
theorem readC_s (w : World) {n lw r g b q : Nat} (t1 t2 t3 t4 t5 : Tok) (l : Addr) (e : Nat) (hn : 1 ≤ n ∧ n ≤ 4) (hlw : lw < 12) (hr : r ≤ n) (hg : g ≤ n) (hb : b ≤ n) (hq : q < 1000) (h : readC n lw r g b q (dmN n lw) = true) :
    Ctr w 2 20 139 [.ref l, .int (lw : Nat) t5, .int (n : Nat) t4] [(l, listOf #[.int (r : Nat) t1, .int (g : Nat) t2, .int (b : Nat) t3] e)] (PInt (q : Nat)) := by
  unfold readC at h
  obtain ⟨R, hR, h⟩ := frC_s h
  obtain ⟨G, hG, h⟩ := frC_s h
  obtain ⟨B, hB, h⟩ := frC_s h
  unfold readC1 at h
  obtain ⟨c1, k1, h⟩ := ltC_s hR hG h
  rw [fc_eq] at h
  have m1 := sel_rp k1 hG hR
  obtain ⟨c2, k2, h⟩ := ltC_s m1 hB h
  rw [fc_eq] at h
  have hmx : Rp _ (max3 _ _ _) := sel_rp k2 hB m1
  obtain ⟨c3, k3, h⟩ := ltC_s hG hR h
  rw [fc_eq] at h
  have m2 := sel_rp k3 hG hR
  obtain ⟨c4, k4, h⟩ := ltC_s hB m2 h
  rw [fc_eq] at h
  have hmn : Rp _ (min3 _ _ _) := sel_rp k4 hB m2
  generalize cond c2 B (cond c1 G R) = mx at h hmx
  generalize cond c4 B (cond c3 G R) = mn at h hmn
  unfold readC2 at h
  obtain ⟨c, hne, h⟩ := eqC_s hmn hmx h
  obtain ⟨rfl, h⟩ := ncond_s h
  obtain ⟨z1, h⟩ := nzC_s hmx h
  obtain ⟨rg, hrg, h⟩ := subC_s hmx hmn h
  obtain ⟨z2, h⟩ := nzC_s hrg h
  obtain ⟨sm, hsm, h⟩ := addC_s hmx hmn h
  obtain ⟨z3, h⟩ := nzC_s hsm h
  obtain ⟨t, ht, h⟩ := subC_s two_rp hmx h
  obtain ⟨t2', ht2, h⟩ := subC_s ht hmn h
  obtain ⟨z4, h⟩ := nzC_s ht2 h
  unfold readC3 at h
  obtain ⟨a1, ha1, h⟩ := subC_s hmx hB h
  obtain ⟨bc, hbc, h⟩ := divC_s ha1 hrg h
  obtain ⟨a2, ha2, h⟩ := subC_s hmx hG h
  obtain ⟨gc, hgc, h⟩ := divC_s ha2 hrg h
  obtain ⟨a3, ha3, h⟩ := subC_s hmx hR h
  obtain ⟨rc, hrc, h⟩ := divC_s ha3 hrg h
  obtain ⟨e1, he1, h⟩ := eqC_s hR hmx h
  obtain ⟨e2, he2, h⟩ := eqC_s hG hmx h
  obtain ⟨h0, hh0, h⟩ := hue3_s he1 he2 hrc hgc hbc h
  obtain ⟨h1, hh1, h⟩ := divC_s hh0 six_rp h
  obtain ⟨H, hH, h⟩ := fracC_s hh1 h
  unfold readC4 at h
  obtain ⟨Sh, hSh, h⟩ := frC_s h
  obtain ⟨V, hV, h⟩ := frC_s h
  obtain ⟨Lg, hLg, h⟩ := frC_s h
  obtain ⟨D, hD, h⟩ := frC_s h
  obtain ⟨s1, hs1, h⟩ := divC_s hrg hmx h
  obtain ⟨l1, hl1, h⟩ := divC_s hsm two_rp h
  obtain ⟨d1, hd1, h⟩ := ltC_s hl1 half_rp h
  obtain ⟨d2, hd2, h⟩ := eqC_s hl1 half_rp h
  obtain ⟨D1, hD1, h⟩ := divC_s hrg (sel_rp (congr (congrArg or hd1) hd2) hsm ht2) h
  obtain ⟨y1, h⟩ := cond_s h
  obtain ⟨y2, h⟩ := cond_s h
  obtain ⟨y3, h⟩ := cond_s h
  obtain ⟨y4, h⟩ := cond_s h
  obtain ⟨N6, hN6, h⟩ := intC_s h
  obtain ⟨u, hu, h⟩ := mulC_s hN6 hH h
  obtain ⟨pl, hpl, h⟩ := addC_s hu half_rp h
  obtain ⟨p, hp, hfin, h⟩ := trC_s hpl h
  obtain ⟨y5, h⟩ := cond_s h
  obtain ⟨P, hP, h⟩ := intC_s h
  obtain ⟨df, hdf, h⟩ := subC_s hu hP h
  have hcl := nfarC_s hdf h
  have hp' := hp.trans (congrArg Int.ofNat (Nat.eq_of_beq_eq_true y5))
  have sD := same_rp hD1 hD y4
  refine read_ctr w r g b n lw q t1 t2 t3 t4 t5 l e _ _ _ _ _ _ _ _ ⟨by omega, by omega⟩ ⟨by omega, by omega⟩ ⟨by omega, by omega⟩ ⟨by omega, by omega⟩ ⟨by omega, by omega⟩ rfl rfl rfl (by rw [dm_eq hn.2 hlw]) rfl rfl rfl hne z1 z2 z3 z4 rfl (same_rp hs1 hSh y1) (same_rp hmx hV y2) (same_rp hl1 hLg y3) ?_ (self_eq hH) (self_eq hSh) (self_eq hV) (self_eq hLg) (self_eq hD) hfin hp' (by omega) hcl
  rw [← sD]
  exact ite_div _ _ _ _
end Mine
end PartFz4s
section PartFz5s
open PySem PySem.W PyProof.Rows PySem.Calls
set_option maxRecDepth 100000
namespace Mine
noncomputable def vC (m1 m2 hue : Nat) (k : Nat → Bool) : Bool :=
  fracC hue fun H => ltC H 4595172819793696085 fun a => cond a (subC m2 m1 fun d => mulC d H fun u => mulC u 4618441417868443648 fun v => addC m1 v k)
    (ltC H 4602678819172646912 fun b => cond b (k m2) (ltC H 4604180019048437077 fun c => cond c (subC m2 m1 fun d => subC 4604180019048437077 H fun e => mulC d e fun u => mulC u 4618441417868443648 fun v => addC m1 v k) (k m1)))
theorem vC_s {m1 m2 hue : Nat} {M1 M2 HU : UInt64} {k : Nat → Bool} (h1 : Rp m1 M1) (h2 : Rp m2 M2) (hh : Rp hue HU) (h : vC m1 m2 hue k = true) : ∃ z, Rp z (vF M1 M2 HU) ∧ k z = true := by
  unfold vC at h
  obtain ⟨H, hH, h⟩ := fracC_s hh h
  obtain ⟨a, ha, h⟩ := ltC_s hH sixth_rp h
  unfold vF
  rw [ha]
  cases a with
  | true =>
    rw [if_pos rfl]
    obtain ⟨d, hd, h⟩ := subC_s (k := fun d => mulC d H fun u => mulC u 4618441417868443648 fun v => addC m1 v k) h2 h1 h
    obtain ⟨u, hu, h⟩ := mulC_s hd hH h
    obtain ⟨v, hv, h⟩ := mulC_s hu six_rp h
    exact addC_s h1 hv h
  | false =>
    rw [if_neg (by decide)]
    obtain ⟨b, hb, h⟩ := ltC_s (k := fun b => cond b (k m2) (ltC H 4604180019048437077 fun c => cond c (subC m2 m1 fun d => subC 4604180019048437077 H fun e => mulC d e fun u => mulC u 4618441417868443648 fun v => addC m1 v k) (k m1))) hH half_rp h
    rw [hb]
    cases b with
    | true => rw [if_pos rfl]; exact ⟨m2, h2, h⟩
    | false =>
      rw [if_neg (by decide)]
      obtain ⟨c, hc, h⟩ := ltC_s (k := fun c => cond c (subC m2 m1 fun d => subC 4604180019048437077 H fun e => mulC d e fun u => mulC u 4618441417868443648 fun v => addC m1 v k) (k m1)) hH two3_rp h
      rw [hc]
      cases c with
      | true =>
        rw [if_pos rfl]
        obtain ⟨d, hd, h⟩ := subC_s (k := fun d => subC 4604180019048437077 H fun e => mulC d e fun u => mulC u 4618441417868443648 fun v => addC m1 v k) h2 h1 h
        obtain ⟨e, he, h⟩ := subC_s two3_rp hH h
        obtain ⟨u, hu, h⟩ := mulC_s hd he h
        obtain ⟨v, hv, h⟩ := mulC_s hu six_rp h
        exact addC_s h1 hv h
      | false => rw [if_neg (by decide)]; exact ⟨m1, h1, h⟩
noncomputable def offC (x LW P : Nat) : Bool := mulC 4625196817309499392 x fun u => subC u LW fun v => subC v P fun w => nfarC w
theorem offC_s {x LW P lw r : Nat} {X : UInt64} (hx : Rp x X) (hl : Rp LW (Float64.ofInt (lw : Int))) (hp : Rp P (Float64.ofInt (r : Int))) (h : offC x LW P = true) : farF (offF X (lw : Int) (r : Int)) = false := by
  obtain ⟨u, hu, h⟩ := mulC_s c16_rp hx h
  obtain ⟨v, hv, h⟩ := subC_s hu hl h
  obtain ⟨w, hw, h⟩ := subC_s hv hp h
  exact nfarC_s hw h
noncomputable def sixN (i a0 a1 a2 a3 a4 a5 : Nat) : Nat := cond (Nat.beq i 0) a0 (cond (Nat.beq i 1) a1 (cond (Nat.beq i 2) a2 (cond (Nat.beq i 3) a3 (cond (Nat.beq i 4) a4 a5))))
theorem sixN_s {i a0 a1 a2 a3 a4 a5 : Nat} {A0 A1 A2 A3 A4 A5 : UInt64} (h0 : Rp a0 A0) (h1 : Rp a1 A1) (h2 : Rp a2 A2) (h3 : Rp a3 A3) (h4 : Rp a4 A4) (h5 : Rp a5 A5) : Rp (sixN i a0 a1 a2 a3 a4 a5) (sixF (i : Int) A0 A1 A2 A3 A4 A5) := by
  unfold sixN sixF
  simp only [beqN]
  by_cases c0 : i = 0
  · rw [decide_eq_true c0, if_pos (by omega)]; exact h0
  rw [decide_eq_false c0, if_neg (by omega), cond_false]
  by_cases c1 : i = 1
  · rw [decide_eq_true c1, if_pos (by omega)]; exact h1
  rw [decide_eq_false c1, if_neg (by omega), cond_false]
  by_cases c2 : i = 2
  · rw [decide_eq_true c2, if_pos (by omega)]; exact h2
  rw [decide_eq_false c2, if_neg (by omega), cond_false]
  by_cases c3 : i = 3
  · rw [decide_eq_true c3, if_pos (by omega)]; exact h3
  rw [decide_eq_false c3, if_neg (by omega), cond_false]
  by_cases c4 : i = 4
  · rw [decide_eq_true c4, if_pos (by omega)]; exact h4
  rw [decide_eq_false c4, if_neg (by omega), cond_false]
  exact h5
noncomputable def shownC5 (Hu LW PR PG PB m1 m2 : Nat) : Bool :=
  addC Hu 4599676419421066581 fun h1 => vC m1 m2 h1 fun y1 => cond (offC y1 LW PR) (vC m1 m2 Hu fun y2 => cond (offC y2 LW PG) (subC Hu 4599676419421066581 fun h3 => vC m1 m2 h3 fun y3 => offC y3 LW PB) false) false
noncomputable def shownC4 (Hu Lg D LW PR PG PB : Nat) : Bool :=
  ltC Lg 4602678819172646912 fun d1 => eqC Lg 4602678819172646912 fun d2 =>
  (addC 4607182418800017408 D fun u1 => mulC Lg u1 fun w1 => addC Lg D fun u2 => mulC Lg D fun u3 => subC u2 u3 fun w2 => fc (cond (or d1 d2) w1 w2) fun m2 =>
  mulC 4611686018427387904 Lg fun x2 => subC x2 m2 fun m1 => shownC5 Hu LW PR PG PB m1 m2)
noncomputable def shownC3 (Hu Lg D LW PR PG PB i V P Q T : Nat) : Bool :=
  fc (Nat.mod i 6) fun j =>
  cond (offC (sixN j V Q P P T V) LW PR) (cond (offC (sixN j T V V Q P P) LW PG) (cond (offC (sixN j P P T V V Q) LW PB) (shownC4 Hu Lg D LW PR PG PB) false) false) false
noncomputable def shownC2 (Hu Sh V Lg D LW PR PG PB i hf : Nat) : Bool :=
  subC 4607182418800017408 Sh fun p0 => mulC V p0 fun P => mulC Sh hf fun q0 => subC 4607182418800017408 q0 fun q1 => mulC V q1 fun Q => subC 4607182418800017408 hf fun t0 => mulC Sh t0 fun t1 => subC 4607182418800017408 t1 fun t2 => mulC V t2 fun T => shownC3 Hu Lg D LW PR PG PB i V P Q T
noncomputable def shownC1 (lw r g b Hu Sh V Lg D : Nat) : Bool :=
  intC lw fun LW => intC r fun PR => intC g fun PG => intC b fun PB =>
  mulC Hu 4618441417868443648 fun h6 => trC h6 fun i => cond (Nat.blt i 1000) (intC i fun I => subC h6 I fun hf => shownC2 Hu Sh V Lg D LW PR PG PB i hf) false
noncomputable def shownC (n lw r g b W dd : Nat) : Bool :=
  frC W (Nat.mul 6 n) fun Hu => frC n (Nat.add lw n) fun Sh => frC (Nat.add lw n) 16 fun V => frC (Nat.add (Nat.mul 2 lw) n) 32 fun Lg => frC n dd fun D =>
  eqC Sh 0 fun z1 => cond z1 false (eqC D 0 fun z2 => cond z2 false (shownC1 lw r g b Hu Sh V Lg D))
theorem shownC_s (w : World) {n lw r g b W : Nat} (t1 t2 t3 t4 t5 t6 : Tok) (l : Addr) (e : Nat) (wy : Int) (hy : wy = (W : Int)) (hn : 1 ≤ n ∧ n ≤ 4) (hlw : lw < 12) (hW : W ≤ 100) (hr : r ≤ n) (hg : g ≤ n) (hb : b ≤ n) (h : shownC n lw r g b W (dmN n lw) = true) :
    Ctr w 3 24 146 [.int wy t6, .ref l, .int (lw : Nat) t5, .int (n : Nat) t4] [(l, listOf #[.int (r : Nat) t1, .int (g : Nat) t2, .int (b : Nat) t3] e)] (PBool true) := by
  subst hy
  unfold shownC at h
  obtain ⟨Hu, hHu, h⟩ := frC_s h
  obtain ⟨Sh, hSh, h⟩ := frC_s h
  obtain ⟨V, hV, h⟩ := frC_s h
  obtain ⟨Lg, hLg, h⟩ := frC_s h
  obtain ⟨D, hD, h⟩ := frC_s h
  obtain ⟨z1, hz1, h⟩ := eqC_s hSh zero_rp h
  (try dsimp only at h)
  have hq := ncond_s h
  clear h
  obtain ⟨rfl, h⟩ := hq
  obtain ⟨z2, hz2, h⟩ := eqC_s hD zero_rp h
  (try dsimp only at h)
  have hq := ncond_s h
  clear h
  obtain ⟨rfl, h⟩ := hq
  unfold shownC1 at h
  obtain ⟨LW, hLW, h⟩ := intC_s h
  obtain ⟨PR, hPR, h⟩ := intC_s h
  obtain ⟨PG, hPG, h⟩ := intC_s h
  obtain ⟨PB, hPB, h⟩ := intC_s h
  obtain ⟨h6, hh6, h⟩ := mulC_s hHu six_rp h
  obtain ⟨i, hi, hfi, h⟩ := trC_s hh6 h
  (try dsimp only at h)
  obtain ⟨bi, h⟩ := cond_s h
  rw [bltN, decide_eq_true_eq] at bi
  obtain ⟨I, hI, h⟩ := intC_s h
  obtain ⟨hf, hhf, h⟩ := subC_s hh6 hI h
  unfold shownC2 at h
  obtain ⟨p0, hp0, h⟩ := subC_s one_rp hSh h
  obtain ⟨P, hP, h⟩ := mulC_s hV hp0 h
  obtain ⟨q0, hq0, h⟩ := mulC_s hSh hhf h
  obtain ⟨q1, hq1, h⟩ := subC_s one_rp hq0 h
  obtain ⟨Q, hQ, h⟩ := mulC_s hV hq1 h
  obtain ⟨t0', ht0, h⟩ := subC_s one_rp hhf h
  obtain ⟨t1', ht1, h⟩ := mulC_s hSh ht0 h
  obtain ⟨t2', ht2, h⟩ := subC_s one_rp ht1 h
  obtain ⟨T, hT, h⟩ := mulC_s hV ht2 h
  unfold shownC3 at h
  rw [fc_eq] at h
  (try dsimp only at h)
  obtain ⟨o1, h⟩ := cond_s h
  obtain ⟨o2, h⟩ := cond_s h
  obtain ⟨o3, h⟩ := cond_s h
  unfold shownC4 at h
  obtain ⟨d1, hd1, h⟩ := ltC_s hLg half_rp h
  obtain ⟨d2, hd2, h⟩ := eqC_s hLg half_rp h
  obtain ⟨u1, hu1, h⟩ := addC_s one_rp hD h
  obtain ⟨w1, hw1, h⟩ := mulC_s hLg hu1 h
  obtain ⟨u2, hu2, h⟩ := addC_s hLg hD h
  obtain ⟨u3, hu3, h⟩ := mulC_s hLg hD h
  obtain ⟨w2, hw2, h⟩ := subC_s hu2 hu3 h
  rw [fc_eq] at h
  have hm2 : Rp _ (m2F _ _) := sel_rp (congr (congrArg or hd1) hd2) hw1 hw2
  generalize cond (or d1 d2) w1 w2 = m2 at h hm2
  obtain ⟨x2, hx2, h⟩ := mulC_s two_rp hLg h
  obtain ⟨m1, hm1, h⟩ := subC_s hx2 hm2 h
  unfold shownC5 at h
  obtain ⟨h1, hh1, h⟩ := addC_s hHu third_rp h
  obtain ⟨y1, hy1, h⟩ := vC_s hm1 hm2 hh1 h
  (try dsimp only at h)
  obtain ⟨o4, h⟩ := cond_s h
  obtain ⟨y2, hy2, h⟩ := vC_s hm1 hm2 hHu h
  (try dsimp only at h)
  obtain ⟨o5, h⟩ := cond_s h
  obtain ⟨h3, hh3, h⟩ := subC_s hHu third_rp h
  obtain ⟨y3, hy3, o6⟩ := vC_s hm1 hm2 hh3 h
  have hi' : hiF (frF (W : Int) ((Nat.mul 6 n : Nat) : Int)) = (i : Int) := hi
  have hj : (hiF (frF (W : Int) ((Nat.mul 6 n : Nat) : Int))).fmod 6 = ((Nat.mod i 6 : Nat) : Int) := by
    rw [hi', Int.fmod_eq_emod_of_nonneg _ (by decide)]
    rfl
  rw [← hi'] at hQ hT
  have s1 : Rp (sixN (Nat.mod i 6) V Q P P T V) (hsvR (frF (W : Int) ((Nat.mul 6 n : Nat) : Int)) (frF (n : Int) ((Nat.add lw n : Nat) : Int)) (frF ((Nat.add lw n : Nat) : Int) ((16 : Nat) : Int))) := by unfold hsvR; rw [hj]; exact sixN_s hV hQ hP hP hT hV
  have s2 : Rp (sixN (Nat.mod i 6) T V V Q P P) (hsvG (frF (W : Int) ((Nat.mul 6 n : Nat) : Int)) (frF (n : Int) ((Nat.add lw n : Nat) : Int)) (frF ((Nat.add lw n : Nat) : Int) ((16 : Nat) : Int))) := by unfold hsvG; rw [hj]; exact sixN_s hT hV hV hQ hP hP
  have s3 : Rp (sixN (Nat.mod i 6) P P T V V Q) (hsvB (frF (W : Int) ((Nat.mul 6 n : Nat) : Int)) (frF (n : Int) ((Nat.add lw n : Nat) : Int)) (frF ((Nat.add lw n : Nat) : Int) ((16 : Nat) : Int))) := by unfold hsvB; rw [hj]; exact sixN_s hP hP hT hV hV hQ
  refine shown_ctr w r g b n lw W t1 t2 t3 t4 t5 t6 l e _ _ _ _ _ _ _ _ _ _ _ ⟨by omega, by omega⟩ ⟨by omega, by omega⟩ ⟨by omega, by omega⟩ ⟨by omega, by omega⟩ ⟨by omega, by omega⟩ ⟨by omega, by omega⟩ rfl (by rw [dm_eq hn.2 hlw]) rfl rfl rfl hz1 hz2 hfi (by have e9 : (hiF (frF (W : Int) ((Nat.mul 6 n : Nat) : Int))).natAbs < 1000 := (by rw [hi']; omega); exact e9) rfl rfl rfl rfl rfl rfl
    (offC_s s1 hLW hPR o1) (offC_s s2 hLW hPG o2) (offC_s s3 hLW hPB o3) (offC_s hy1 hLW hPR o4) (offC_s hy2 hLW hPG o5) (offC_s hy3 hLW hPB o6)
end Mine
end PartFz5s
section PartPf0
open PySem PySem.W PyProof.Rows PySem.Calls PyProof.Rows.LCg
set_option maxRecDepth 100000
set_option maxHeartbeats 8000000
namespace Mine
/-- all lists of at most k rows below 4 -/
noncomputable def tails : Nat → List (List Nat)
  | 0 => [[]]
  | k + 1 => [] :: (tails k).flatMap fun t => [0 :: t, 1 :: t, 2 :: t, 3 :: t]
theorem mem_tails : ∀ (k : Nat) (tl : List Nat), tl.length ≤ k → (∀ b ∈ tl, b ≤ 3) → tl ∈ tails k
  | 0, [], _, _ => by simp [tails]
  | 0, _ :: _, h, _ => by simp at h
  | k + 1, [], _, _ => by simp [tails]
  | k + 1, b :: r, h, hb => by
    have q := mem_tails k r (by simpa using h) fun z hz => hb z (List.mem_cons_of_mem _ hz)
    have hb0 := hb b (by simp)
    simp only [tails, List.mem_cons, List.mem_flatMap, List.not_mem_nil, or_false]
    refine .inr ⟨r, q, ?_⟩
    rcases b with _ | _ | _ | _ | b
    · exact .inl rfl
    · exact .inr (.inl rfl)
    · exact .inr (.inr (.inl rfl))
    · exact .inr (.inr (.inr rfl))
    · omega
theorem wA_st (n st : Nat) (bs : List Nat) (hn : 1 ≤ n) : ∀ i, wA n st bs i = st * n + wA n 0 bs i
  | 0 => by simp [wA]
  | i + 1 => by
    have ih := wA_st n st bs hn i
    simp only [wA]
    by_cases h : i = 0
    · rw [if_pos h, if_pos h]; omega
    · rw [if_neg h, if_neg h, ih]
      have e : (st * n + wA n 0 bs i) / n = st + wA n 0 bs i / n := by
        rw [Nat.add_comm, Nat.add_mul_div_right _ _ (by omega), Nat.add_comm]
      rw [e, Nat.add_assoc st, Nat.add_mul]
      omega
theorem wA_take (n st m : Nat) (bs : List Nat) : ∀ i, i ≤ m → wA n st (bs.take m) i = wA n st bs i
  | 0, _ => rfl
  | i + 1, h => by
    have ih := wA_take n st m bs i (by omega)
    have e : (bs.take m).getD i 0 = bs.getD i 0 := by
      rw [List.getD_eq_getElem?_getD, List.getD_eq_getElem?_getD, List.getElem?_take, if_pos (by omega)]
    simp only [wA, ih, e]
/-- what is to be shown of one list of rows -/
noncomputable def rowChk (bs : List Nat) : Bool :=
  [1, 2, 3, 4].all fun n => decide (indN n (scan (lineOf bs)).cs (scan (lineOf bs)).b (scan (lineOf bs)).nt = (wA n 0 bs bs.length : Int)) && decide (wA n 0 bs bs.length ≤ 5 * ((3 / n + 1) * n) + 3)
noncomputable def tailChk (tl : List Nat) : Bool := rowChk (rowsOf tl) && rowChk (rowsOf tl).reverse
theorem rowChk1 : rowChk [1] = true := by decide +kernel
theorem tails_ok : (tails 4).all tailChk = true := by decide +kernel
theorem rowChk_of {bs : List Nat} (h : rowChk bs = true) {n : Nat} (hn : 1 ≤ n ∧ n ≤ 4) : indN n (scan (lineOf bs)).cs (scan (lineOf bs)).b (scan (lineOf bs)).nt = (wA n 0 bs bs.length : Int) ∧ wA n 0 bs bs.length ≤ 5 * ((3 / n + 1) * n) + 3 := by
  have hm : n ∈ [1, 2, 3, 4] := by
    rcases n with _ | _ | _ | _ | _ | n
    · omega
    · simp
    · simp
    · simp
    · simp
    · omega
  have := List.all_eq_true.mp h n hm
  rw [Bool.and_eq_true, decide_eq_true_eq, decide_eq_true_eq] at this
  exact this
theorem tail_of {tl : List Nat} (htl : tl.length ≤ 4) (hb : ∀ b ∈ tl, b ≤ 3) : rowChk (rowsOf tl) = true ∧ rowChk (rowsOf tl).reverse = true := by
  have := List.all_eq_true.mp tails_ok tl (mem_tails 4 tl htl hb)
  rw [tailChk, Bool.and_eq_true] at this
  exact this
theorem prefix_of {tl : List Nat} (htl : tl.length ≤ 4) (hb : ∀ b ∈ tl, b ≤ 3) (j : Nat) : rowChk ((rowsOf tl).take (j + 1)) = true := by
  rcases j with _ | j
  · exact rowChk1
  · have e : (rowsOf tl).take (j + 1 + 1) = rowsOf (tl.take j) := by
      simp only [rowsOf, List.take_succ_cons]
    rw [e]
    exact (tail_of (by rw [List.length_take]; omega) fun b q => hb b (List.mem_of_mem_take q)).1
theorem ind_way {n st j : Nat} {tl : List Nat} (hn : 1 ≤ n ∧ n ≤ 4) (htl : tl.length ≤ 4) (hb : ∀ b ∈ tl, b ≤ 3) (hj : j < (rowsOf tl).length) :
    indN n (scan (lineOf ((rowsOf tl).take (j + 1)))).cs (scan (lineOf ((rowsOf tl).take (j + 1)))).b (scan (lineOf ((rowsOf tl).take (j + 1)))).nt = (wA n st (rowsOf tl) (j + 1) : Int) - (st : Int) * (n : Int) := by
  have h := (rowChk_of (prefix_of htl hb j) hn).1
  have el : ((rowsOf tl).take (j + 1)).length = j + 1 := by rw [List.length_take]; omega
  rw [h, el, wA_take n 0 (j + 1) (rowsOf tl) (j + 1) (Nat.le_refl _), wA_st n st (rowsOf tl) hn.1]
  push_cast
  omega
/-- as far as a walker comes -/
noncomputable def wTop (n : Nat) : Nat := 5 * n + 5 * ((3 / n + 1) * n) + 3
theorem way_top {n st j : Nat} {tl : List Nat} (hn : 1 ≤ n ∧ n ≤ 4) (hst : st < 6) (htl : tl.length ≤ 4) (hb : ∀ b ∈ tl, b ≤ 3) (hj : j < (rowsOf tl).length) : wA n st (rowsOf tl) (j + 1) ≤ wTop n := by
  have h := (rowChk_of (prefix_of htl hb j) hn).2
  have el : ((rowsOf tl).take (j + 1)).length = j + 1 := by rw [List.length_take]; omega
  rw [el, wA_take n 0 (j + 1) (rowsOf tl) (j + 1) (Nat.le_refl _)] at h
  rw [wA_st n st (rowsOf tl) hn.1, wTop]
  have := Nat.mul_le_mul_right n (show st ≤ 5 by omega)
  omega
theorem way_free {n st : Nat} {bs : List Nat} (hn : 1 ≤ n) : wayF st bs n = (wA n 0 bs bs.length : Int) := by
  rw [wayF, wA_st n st bs hn]
  push_cast
  omega
theorem witL_congr {f g f' g' : Nat → Int} : ∀ n, (∀ i, 1 ≤ i → i ≤ n → f i = f' i ∧ g i = g' i) → witL f g n = witL f' g' n
  | 0, _ => rfl
  | n + 1, h => by
    have a := h (n + 1) (by omega) (Nat.le_refl _)
    have b := witL_congr n fun i h1 h2 => h i h1 (by omega)
    simp only [witL, a.1, a.2, b]
end Mine
end PartPf0
section PartFz6s
open PySem PySem.W PyProof.Rows PySem.Calls
set_option maxRecDepth 100000
namespace Mine
noncomputable def readAll (n lw : Nat) : Bool := (List.range (6 * n)).all fun q => readC n lw (rQ n q) (gQ n q) (bQ n q) q (dmN n lw)
noncomputable def showAll (n lw : Nat) : Bool := (List.range (wTop n + 1)).all fun W => shownC n lw (rW n W) (gW n W) (bW n W) W (dmN n lw)
theorem rd1 : (List.range 12).all (readAll 1) = true := by decide +kernel
theorem rd2 : (List.range 12).all (readAll 2) = true := by decide +kernel
theorem rd3 : (List.range 12).all (readAll 3) = true := by decide +kernel
theorem rd4 : (List.range 12).all (readAll 4) = true := by decide +kernel
theorem sh1 : (List.range 12).all (showAll 1) = true := by decide +kernel
theorem sh2 : (List.range 12).all (showAll 2) = true := by decide +kernel
theorem sh3 : (List.range 12).all (showAll 3) = true := by decide +kernel
theorem sh4 : (List.range 12).all (showAll 4) = true := by decide +kernel
theorem rQ_le {n q : Nat} : rQ n q ≤ n := by unfold rQ; (repeat' split) <;> omega
theorem gQ_le {n q : Nat} : gQ n q ≤ n := by unfold gQ; (repeat' split) <;> omega
theorem bQ_le {n q : Nat} (h : q < 6 * n) : bQ n q ≤ n := by unfold bQ; (repeat' split) <;> omega
theorem readAll_of {n lw : Nat} (hn : 1 ≤ n ∧ n ≤ 4) (hlw : lw < 12) : readAll n lw = true := by
  have hm : lw ∈ List.range 12 := List.mem_range.mpr hlw
  rcases n with _ | _ | _ | _ | _ | n
  · omega
  · exact List.all_eq_true.mp rd1 lw hm
  · exact List.all_eq_true.mp rd2 lw hm
  · exact List.all_eq_true.mp rd3 lw hm
  · exact List.all_eq_true.mp rd4 lw hm
  · omega
theorem showAll_of {n lw : Nat} (hn : 1 ≤ n ∧ n ≤ 4) (hlw : lw < 12) : showAll n lw = true := by
  have hm : lw ∈ List.range 12 := List.mem_range.mpr hlw
  rcases n with _ | _ | _ | _ | _ | n
  · omega
  · exact List.all_eq_true.mp sh1 lw hm
  · exact List.all_eq_true.mp sh2 lw hm
  · exact List.all_eq_true.mp sh3 lw hm
  · exact List.all_eq_true.mp sh4 lw hm
  · omega
theorem read_at (w : World) (n W lw : Nat) (t1 t2 t3 t4 t5 : Tok) (l : Addr) (e : Nat) (hn : 1 ≤ n ∧ n ≤ 4) (hlw : lw < 12) :
    Ctr w 2 20 139 [.ref l, .int (lw : Nat) t5, .int (n : Nat) t4] [(l, listOf (ab3 n W t1 t2 t3) e)] (PInt ((W % (6 * n) : Nat) : Int)) := by
  have hq := Nat.mod_lt W (show 0 < 6 * n by omega)
  exact readC_s w t1 t2 t3 t4 t5 l e hn hlw rQ_le gQ_le (bQ_le hq) (by omega) (List.all_eq_true.mp (readAll_of hn hlw) (W % (6 * n)) (List.mem_range.mpr hq))
theorem wTop_le {n : Nat} (hn : 1 ≤ n ∧ n ≤ 4) : wTop n ≤ 100 := by
  rcases n with _ | _ | _ | _ | _ | n
  · omega
  · decide
  · decide
  · decide
  · decide
  · omega
theorem shown_at (w : World) (n W lw : Nat) (wy : Int) (t1 t2 t3 t4 t5 t6 : Tok) (l : Addr) (e : Nat) (hn : 1 ≤ n ∧ n ≤ 4) (hlw : lw < 12) (hW : W ≤ wTop n) (hy : wy = (W : Int)) :
    Ctr w 3 24 146 [.int wy t6, .ref l, .int (lw : Nat) t5, .int (n : Nat) t4] [(l, listOf (ab3 n W t1 t2 t3) e)] (PBool true) := by
  have hq := Nat.mod_lt W (show 0 < 6 * n by omega)
  exact shownC_s w t1 t2 t3 t4 t5 t6 l e wy hy hn hlw (Nat.le_trans hW (wTop_le hn)) rQ_le gQ_le (bQ_le hq) (List.all_eq_true.mp (showAll_of hn hlw) W (List.mem_range.mpr (by omega)))
end Mine
end PartFz6s
section PartLa5
open PySem PySem.W PyProof.Rows PySem.Calls PyProof.Rows.LCg
set_option maxRecDepth 100000
set_option maxHeartbeats 8000000
namespace Mine
section
variable {prog : Program} {w : World} {A : Around} {E : Value → Shared → Prop} {s : Shared} {a b : Int} {t u : Tok} {Q : Value → Shared → Prop}
theorem ne_eq_ints (e : a = b) (h : Q (.bool false) s) : wpAny (model prog w) A (compareOp .NotEq (.int a t) (.int b u)) Q E s :=
  SeqAt.RcNeAt.int_int a t b u prog w E Q (by rw [beq_iff_eq.mpr e]; exact h)
end
theorem read_eq {n W : Nat} {z y : Int} (hy : y = (W : Int)) (hz : z = 6 * (n : Int) * ((W / (6 * n) : Nat) : Int)) : ((W % (6 * n) : Nat) : Int) = y - z := by
  have := Nat.div_add_mod W (6 * n)
  have e : ((6 * n * (W / (6 * n)) + W % (6 * n) : Nat) : Int) = (W : Int) := by rw [this]
  rw [hy, hz, ← e]
  push_cast
  omega
/-- what holds between the turns of law's inner loop -/
noncomputable def RowJ (objs : List (Addr × Obj)) (r wl ul el : Addr) (n st lw : Nat) (t1 t2 tn : Tok) (m : Str → Option Value) (news : List (Addr × Obj)) : Prop :=
  news = objs ∧ m (Str.ofString "rows") = some (.ref r) ∧ m (Str.ofString "start") = some (.int (st : Nat) t1) ∧ m (Str.ofString "low") = some (.int (lw : Nat) t2) ∧ m (Str.ofString "whites") = some (.ref wl) ∧ m (Str.ofString "unlike") = some (.ref ul) ∧ m (Str.ofString "ends") = some (.ref el) ∧ m (Str.ofString "size") = some (.int (n : Nat) tn)
theorem append_ref {prog : Program} {w : World} {A : Around} {E : Value → Shared → Prop} {s : Shared} {h₀ : Heap} {L D dx : Addr} {m : Str → Option Value} {news : List (Addr × Obj)} {its : Array Value} {n : Nat} {ox : Obj} {Q : Value → Shared → Prop} (keep : List (Addr × Obj)) (F : Fr h₀ L s.heap m) (N : News h₀ L s.heap news) (hm : (D, listOf its n) ∈ news)
    (hx : (dx, ox) ∈ news) (hk : ∀ p ∈ keep, p ∈ news) (hdx : @Ne Nat dx D) (hne : ∀ p ∈ keep, @Ne Nat p.1 D) (hz : its.size ≤ 1000)
    (h : ∀ h', Fr h₀ L h' m → News h₀ L h' ((D, listOf (its.push (.ref dx)) (n + 1)) :: (dx, ox) :: keep) → Q .none { s with heap := h' }) : wpAny (model prog w) A (call (.builtin "list.append") [.ref D, .ref dx]) Q E s := by
  refine append_K (news := (D, listOf its n) :: (dx, ox) :: keep) (news' := (D, listOf (its.push (.ref dx)) (n + 1)) :: (dx, ox) :: keep) F ?_ (Upd.head (List.forall_mem_cons.mpr ⟨hdx, hne⟩)) h (Nat.le_trans hz (Nat.le_of_ble_eq_true rfl))
  exact List.forall_mem_cons.mpr ⟨N _ hm, List.forall_mem_cons.mpr ⟨N _ hx, fun p hp => N p (hk p hp)⟩⟩
section
variable {h₀ h' : Heap} {L I ul ca r pc wl : Addr} {oI : Obj} {us ps ws items : List Value} {e e2 ep : Nat} {co : Obj} {keep rest all : List (Addr × Obj)} {tl : List Nat} {st lw i : Nat} {t1 t2 : Tok} {m' : Str → Option Value} {s₁ : Shared} {tk : Nat} {Q : Flow → Shared → Prop}
theorem size_close (F : Fr h₀ L h' m') (N : News h₀ L h' all)
    (hsub : ∀ p ∈ (I, oI) :: (ul, listOf (List.toArray items) ep) :: (wl, listOf (List.toArray ws) e2) :: (pc, listOf (List.toArray ps) e) :: (r, listOf (List.toArray us) 0) :: (ca, co) :: rest, p ∈ all) (huI : @Ne Nat ul I)
    (hI : ∀ p ∈ (wl, listOf (List.toArray ws) e2) :: (pc, listOf (List.toArray ps) e) :: (r, listOf (List.toArray us) 0) :: (ca, co) :: rest, @Ne Nat p.1 I) (off : ∀ p ∈ (wl, listOf (List.toArray ws) e2) :: (pc, listOf (List.toArray ps) e) :: (r, listOf (List.toArray us) 0) :: (ca, co) :: rest, @Ne Nat p.1 ul)
    (hkeep : ∀ p ∈ keep, p ∈ rest) (T : Trips (witL (wayF st (rowsOf tl)) (wayF st (rowsOf tl).reverse) (i + 1)) items rest)
    (e1 : m' (Str.ofString "rows") = some (.ref r)) (e3 : m' (Str.ofString "start") = some (.int (st : Nat) t1)) (e4 : m' (Str.ofString "low") = some (.int (lw : Nat) t2)) (e5 : m' (Str.ofString "whites") = some (.ref wl)) (e6 : m' (Str.ofString "unlike") = some (.ref ul)) :
    TurnEnd h₀ L (SizeJ ca r pc wl us ps ws e e2 co keep tl st lw (i + 1) t1 t2) I oI s₁ Q .next { s₁ with heap := h', toks := tk } :=
  ⟨h', tk, m', _, rfl, F, fun p hp => N p (hsub p hp), List.forall_mem_cons.mpr ⟨huI, hI⟩, ul, items, ep, rest, rfl, off, hkeep, T, e1, e3, e4, e5, e6⟩
theorem four {P : Addr × Obj → Prop} {a b c d x : Addr × Obj} {rest : List (Addr × Obj)} (h : ∀ p ∈ a :: b :: c :: d :: rest, P p) (hx : P x) : ∀ p ∈ a :: b :: c :: d :: x :: rest, P p := by
  simp only [List.forall_mem_cons] at h ⊢
  exact ⟨h.1, h.2.1, h.2.2.1, h.2.2.2.1, hx, h.2.2.2.2⟩
theorem size_app {D : Addr} {x y z : Int} {u1 u2 u3 : Tok} (F : Fr h₀ L h' m') (N : News h₀ L h' all)
    (hsub : ∀ p ∈ (I, oI) :: (ul, listOf (items.toArray.push (.ref D)) ep) :: (wl, listOf (List.toArray ws) e2) :: (pc, listOf (List.toArray ps) e) :: (r, listOf (List.toArray us) 0) :: (ca, co) :: (D, tupOf [.int x u1, .int y u2, .int z u3]) :: rest, p ∈ all) (huI : @Ne Nat ul I)
    (hI : ∀ p ∈ (wl, listOf (List.toArray ws) e2) :: (pc, listOf (List.toArray ps) e) :: (r, listOf (List.toArray us) 0) :: (ca, co) :: rest, @Ne Nat p.1 I) (off : ∀ p ∈ (wl, listOf (List.toArray ws) e2) :: (pc, listOf (List.toArray ps) e) :: (r, listOf (List.toArray us) 0) :: (ca, co) :: rest, @Ne Nat p.1 ul)
    (hDI : @Ne Nat D I) (hDu : @Ne Nat D ul) (hkeep : ∀ p ∈ keep, p ∈ rest) (T : Trips (witL (wayF st (rowsOf tl)) (wayF st (rowsOf tl).reverse) i) items rest)
    (hw : witL (wayF st (rowsOf tl)) (wayF st (rowsOf tl).reverse) (i + 1) = witL (wayF st (rowsOf tl)) (wayF st (rowsOf tl).reverse) i ++ [(x, y, z)])
    (e1 : m' (Str.ofString "rows") = some (.ref r)) (e3 : m' (Str.ofString "start") = some (.int (st : Nat) t1)) (e4 : m' (Str.ofString "low") = some (.int (lw : Nat) t2)) (e5 : m' (Str.ofString "whites") = some (.ref wl)) (e6 : m' (Str.ofString "unlike") = some (.ref ul)) :
    TurnEnd h₀ L (SizeJ ca r pc wl us ps ws e e2 co keep tl st lw (i + 1) t1 t2) I oI s₁ Q .next { s₁ with heap := h', toks := tk } := by
  have e0 : items.toArray.push (Value.ref D) = (items ++ [Value.ref D]).toArray := by simp
  rw [e0] at hsub
  refine size_close F N hsub huI (four hI hDI) (four off hDu) (fun p hp => List.mem_cons_of_mem _ (hkeep p hp)) ?_ e1 e3 e4 e5 e6
  rw [hw]
  exact T.snoc (fun q hq => List.mem_cons_of_mem _ hq) List.mem_cons_self
end
theorem allLt_ne {d : Addr} : ∀ {l : List (Addr × Obj)}, AllLt d l → ∀ p ∈ l, @Ne Nat p.1 d
  | [], _, _, h => nomatch h
  | a :: r, x, p, h => by
    rcases List.mem_cons.mp h with rfl | h
    · exact Nat.ne_of_lt x.1
    · exact allLt_ne x.2 p h
theorem way_of {n st W : Nat} : 6 * (n : Int) * ((W / (6 * n) : Nat) : Int) + ((W % (6 * n) : Nat) : Int) - (st : Int) * (n : Int) = (W : Int) - (st : Int) * (n : Int) := by
  have := Nat.div_add_mod W (6 * n)
  have e : ((6 * n * (W / (6 * n)) + W % (6 * n) : Nat) : Int) = (W : Int) := by rw [this]
  rw [← e]
  push_cast
  omega
/-- one size's verdict, told from the sums -/
theorem size_wit {st i : Nat} {bs bs' : List Nat} {y z : Int} (hy : y = (wA (i + 1) st bs bs.length : Int) - (st : Int) * ((i + 1 : Nat) : Int)) (hz : z = (wA (i + 1) st bs' bs'.length : Int) - (st : Int) * ((i + 1 : Nat) : Int)) :
    witL (wayF st bs) (wayF st bs') (i + 1) = if y = z then witL (wayF st bs) (wayF st bs') i else witL (wayF st bs) (wayF st bs') i ++ [(((i + 1 : Nat) : Int), y, z)] := by
  subst hy hz
  rfl
end Mine
end PartLa5
section PartLa6
open PySem PySem.W PyProof.Rows PySem.Calls PyProof.Rows.LCg
set_option maxRecDepth 100000
set_option maxHeartbeats 8000000
namespace Mine
theorem strs_rev : ∀ {vs : List Value} {ys : List Str}, StrsAre vs ys → StrsAre vs.reverse ys.reverse
  | _, _, .nil => .nil
  | _, _, .cons y t r => by
    rw [List.reverse_cons, List.reverse_cons]
    exact StrsAre.append' (strs_rev r) (.cons y t .nil)
section
variable {w : World} {mean : ExcName → Option Value} {mg mb : Str → Option Value} {dp un : Nat} {gd : Option (List Code)} {cn : Str} {cs : Scope} {a : Addr} {ccd : Value} {cl : List (Str × Addr)} {outer : List Env} {A₀ : Around} {base h₀ : Heap} {L : Addr} {m : Str → Option Value} {s : Shared} {Q E : Value → Shared → Prop} {news : List (Addr × Obj)}
theorem use_white2 {tx : Str} {tk0 : Tok} {l : List Nat} {σ : Sc} (hσ : scan l = σ) (hl : tx.cps.toList = l ++ [120]) (hc : ∀ c ∈ l, c = 32 ∨ c = 9) (hz : l.length ≤ 1000) (B : Below A₀ base outer h₀) (F : Fr h₀ L s.heap m) (X : (hd.heap_1 w.params).In h₀) (N : News h₀ L s.heap news) (T : Top vw lo mean mg mb h₀) (hk : cs.kind = .function)
    (hdp : dp + 2 < recursionLimit) (hun : un + 40 < cLine)
    (k : ∀ x d q c vs tx is k1 k2 k3 k4 k5 t1 t2 t3 t4 h' tk', Fr h₀ L h' m → IntsAre vs σ.cs → News h₀ L h' (whiteObjs w.params x d q c vs σ.b σ.nt σ.n tx is k1 k2 k3 k4 k5 t1 t2 t3 t4 ++ news) → Q (.ref x) { s with heap := h', toks := tk' }) :
    wpAny (model prog w) (ktrTop dp un gd cn cs L a ccd cl outer) (call (.ref 118) [.str tx tk0]) Q E s :=
  use_any (white_ctr w tx tk0 l hl hc hz) B F X N T hk (fun p hp => nomatch hp) hdp hun fun v h' tk' F' N' e P => by
    rw [hσ] at P
    obtain ⟨x, d, q, c, vs, tx', is, k1, k2, k3, k4, k5, t1, t2, t3, t4, rfl, hi, hp⟩ := P
    exact k x d q c vs tx' is k1 k2 k3 k4 k5 t1 t2 t3 t4 h' tk' F' hi (e.mores F N hp)
theorem use_wit {d u : Nat} {f : Addr} {vs : List Value} {objs : List (Addr × Obj)} {L' : List (Int × Int × Int)} (C : Ctr w d u f vs objs (PWit L')) (B : Below A₀ base outer h₀) (F : Fr h₀ L s.heap m) (X : (hd.heap_1 w.params).In h₀) (N : News h₀ L s.heap news) (T : Top vw lo mean mg mb h₀) (hk : cs.kind = .function)
    (hN : ∀ p ∈ objs, p ∈ news) (hdp : dp + d < recursionLimit) (hun : un + u < cLine)
    (k : ∀ e items ep kp h' tk', Fr h₀ L h' m → Trips L' items kp → (∀ p ∈ kp, h'.get? p.1 = some p.2) → News h₀ L h' ((e, listOf (List.toArray items) ep) :: news) → Q (.ref e) { s with heap := h', toks := tk' }) :
    wpAny (model prog w) (ktrTop dp un gd cn cs L a ccd cl outer) (call (.ref f) vs) Q E s :=
  use_any C B F X N T hk hN hdp hun fun v h' tk' F' N' e P => by
    obtain ⟨el, items, ep, kp, rfl, e1, e2, T, hp⟩ := P
    exact k el items ep kp h' tk' F' T (fun p h => (hp p h).2) (e.mores F N (ob := [(el, listOf (List.toArray items) ep)]) (List.forall_mem_cons.mpr ⟨⟨e1, e2⟩, fun p hp => nomatch hp⟩))
end
section
variable {prog : Program} {w : World} {A : Around} {E : Value → Shared → Prop} {s : Shared} {h₀ : Heap} {L l : Addr} {news : List (Addr × Obj)} {items : List Value} {e j : Nat} {k : Int} {u : Tok} {v : Value} {Q : Value → Shared → Prop} {value slice : PySem.Expr}
theorem item_ints {ns : List Int} {z : Int} (N : News h₀ L s.heap news) (hm : (l, listOf (List.toArray items) e) ∈ news) (hj : (0 ≤ k ∧ k.toNat = j) ∨ (k = -1 ∧ j + 1 = items.length)) (hi : IntsAre items ns) (hx : ns[j]? = some z) (hz : items.length ≤ 1000) (h : ∀ t, Q (.int z t) s)
    (hs : subscripted slice false (.ref l) (.int k u) = operate [.ref l, .int k u] (getItem (.ref l) (.int k u))) : wpAny (model prog w) A (subscriptTail value slice (.ref l) (.int k u)) Q E s := by
  obtain ⟨t, ht⟩ := hi.get j z hx
  exact item_any N hm hj ht hz (h t) hs
theorem eq_ints {a b : Int} {t u : Tok} {z : Bool} (e : decide (a = b) = z) (h : Q (.bool z) s) : wpAny (model prog w) A (compareOp .Eq (.int a t) (.int b u)) Q E s :=
  SeqAt.RcAt.int_int a t b u prog w E Q (by rw [← e] at h; exact h)
/-- the data of a list of tuples -/
noncomputable def tripD (L : List (Int × Int × Int)) : PyData := .list (L.map fun x => .tuple [.int x.1, .int x.2.1, .int x.2.2])
theorem trips_all {h : Heap} {kp : List (Addr × Obj)} (hN : ∀ p ∈ kp, h.get? p.1 = some p.2) : ∀ {L : List (Int × Int × Int)} {its : List Value}, Trips L its kp → ∃ as, ReadsAll h its (L.map fun x => PyData.tuple [.int x.1, .int x.2.1, .int x.2.2]) as
  | [], its, T => by
    have : its = [] := List.eq_nil_of_length_eq_zero T.1
    subst this
    exact ⟨_, .nil⟩
  | (a, b, c) :: L, [], T => by have := T.1; simp at this
  | (a, b, c) :: L, v :: its, T => by
    obtain ⟨p, t1, t2, t3, e1, e2⟩ := T.2 0 (by simp)
    simp at e1 e2
    subst e1
    obtain ⟨as, r⟩ := trips_all hN (L := L) (its := its) ⟨by have := T.1; simpa using this, fun j hj => by
      obtain ⟨p, u1, u2, u3, f1, f2⟩ := T.2 (j + 1) (by simp; omega)
      exact ⟨p, u1, u2, u3, by simpa using f1, by simpa using f2⟩⟩
    exact ⟨_, .cons (.tuple (hN _ e2) rfl rfl (.cons (.int _ _) (.cons (.int _ _) (.cons (.int _ _) .nil)))) r⟩
theorem trip_can : ∀ L : List (Int × Int × Int), PyData.canLayAll0 (L.map fun x => PyData.tuple [.int x.1, .int x.2.1, .int x.2.2]) = true ∧ PyData.depthAll (L.map fun x => PyData.tuple [.int x.1, .int x.2.1, .int x.2.2]) ≤ 1
  | [] => by simp [PyData.canLayAll0, PyData.depthAll]
  | x :: L => by
    have := trip_can L
    simp only [List.map_cons, PyData.canLayAll0, PyData.depthAll, PyData.canLay0, PyData.depth, this.1, Bool.and_true, true_and]
    have h2 := this.2
    simp
    omega
theorem trip_shaped (L : List (Int × Int × Int)) : SeqAt.shaped (tripD L) = true := by
  have := trip_can L
  simp only [SeqAt.shaped, tripD, PyData.canLay0, PyData.depth, this.1, Bool.true_and, decide_eq_true_eq]
  have h2 := this.2
  omega
theorem trip_eqv : ∀ L : List (Int × Int × Int), PyData.eqvAll (L.map fun x => PyData.tuple [.int x.1, .int x.2.1, .int x.2.2]) (L.map fun x => PyData.tuple [.int x.1, .int x.2.1, .int x.2.2]) = true
  | [] => by simp [PyData.eqvAll]
  | x :: L => by
    simp only [List.map_cons, PyData.eqvAll, PyData.eqv, trip_eqv L]
    simp
theorem eq_trips {l2 : Addr} {items2 : List Value} {e2 : Nat} {L1 L2 : List (Int × Int × Int)} {kp kp2 : List (Addr × Obj)} (N : News h₀ L s.heap news) (h1 : (l, listOf (List.toArray items) e) ∈ news) (h2 : (l2, listOf (List.toArray items2) e2) ∈ news) (T1 : Trips L1 items kp) (T2 : Trips L2 items2 kp2)
    (k1 : ∀ p ∈ kp, s.heap.get? p.1 = some p.2) (k2 : ∀ p ∈ kp2, p ∈ news) (hL : L1 = L2) (hu : A.units + 64 < cLine) (h : Q (.bool true) s) : wpAny (model prog w) A (compareOp .Eq (.ref l) (.ref l2)) Q E s := by
  subst hL
  obtain ⟨as, r1⟩ := trips_all (h := s.heap) k1 T1
  obtain ⟨bs, r2⟩ := trips_all (h := s.heap) (fun p hp => (N p (k2 p hp)).1) T2
  refine SeqAt.compareEq_shaped (da := tripD L1) (db := tripD L1) (.list (N _ h1).1 rfl rfl r1) (.list (N _ h2).1 rfl rfl r2) (trip_shaped _) (trip_shaped _) hu ?_
  have : PyData.eqv (tripD L1) (tripD L1) = true := by simp only [tripD, PyData.eqv]; exact trip_eqv L1
  rw [this]
  exact h
theorem eq_nil {z2 : Addr} {b : Bool} (N : News h₀ L s.heap news) (h1 : (l, listOf (List.toArray items) e) ∈ news) (h2 : (z2, listOf #[] 0) ∈ news) (hu : A.units < cLine) (hb : decide (items.length = 0) = b) (h : Q (.bool b) s) :
    wpAny (model prog w) A (compareOp .Eq (.ref l) (.ref z2)) Q E s := by
  subst hb
  have i1 : s.heap.IsList l items.toArray := ⟨_, (N _ h1).1, rfl, e, rfl⟩
  have i2 : s.heap.IsList z2 #[] := ⟨_, (N _ h2).1, rfl, 0, rfl⟩
  by_cases q : items.length = 0
  · have : items = [] := List.eq_nil_of_length_eq_zero q
    subst this
    exact SeqAt.eq_listAt (e := fun _ => true) i1 i2 rfl hu (fun j a _ => absurd a (Nat.not_lt_zero _)) h
  · refine SeqAt.eq_list_lengthsAt i1 i2 (by simpa using q) hu ?_
    rw [decide_eq_false q] at h
    exact h
end
theorem isnot_same {M : Model} {A : Around} {E : Value → Shared → Prop} {s : Shared} {z z' : Bool} {Q : Value → Shared → Prop} (e : z' = z) (h : Q (.bool false) s) : wpAny M A (compareOp .IsNot (.bool z) (.bool z')) Q E s := by
  subst e
  exact wpAny_isNot_self rfl h
theorem row_cmp {ns : List Int} {la : Int} {z9 : Bool} {k : Int} {j : Nat} (h0 : ns[0]? = some 1) (hl : ns[j]? = some la) (hz : decide ((1 : Int) = la) = z9) (hk : k.toNat = j) : (ns.getD (Int.toNat 0) 0 == ns.getD k.toNat 0) = z9 := by
  rw [hk, List.getD_eq_getElem?_getD, List.getD_eq_getElem?_getD, hl, show Int.toNat 0 = 0 from rfl, h0, ← hz]
  rfl
/-- the last row -/
noncomputable def lastI (tl : List Nat) : Int := ((rowsOf tl).getD ((rowsOf tl).length - 1) 0 : Nat)
theorem last_at (tl : List Nat) : ((rowsOf tl).map fun b : Nat => (b : Int))[(rowsOf tl).length - 1]? = some (lastI tl) := by
  rw [List.getElem?_map, lastI, List.getD_eq_getElem?_getD]
  have h : (rowsOf tl).length - 1 < (rowsOf tl).length := by simp
  rw [List.getElem?_eq_getElem h]
  rfl
theorem first_at (tl : List Nat) : ((rowsOf tl).map fun b : Nat => (b : Int))[0]? = some 1 := rfl
theorem equal_ctr' (w : World) (x d q c : Addr) (vs : List Value) (cs : List Int) (b nt nn : Int) (tx : Str) (is : Bool) (k1 k2 k3 k4 k5 t1 t2 t3 t4 : Tok) (x' d' q' c' : Addr) (vs' : List Value) (cs' : List Int) (b' nt' nn' : Int) (tx' : Str) (is' : Bool) (k1' k2' k3' k4' k5' t1' t2' t3' t4' : Tok)
    (hvs : IntsAre vs cs) (hvs' : IntsAre vs' cs') {z : Bool} (hz : (decide (cs = cs') && decide (b = b')) = z) :
    Ctr w 2 100 94 [.ref x, .ref x'] (whiteObjs w.params x d q c vs b nt nn tx is k1 k2 k3 k4 k5 t1 t2 t3 t4 ++ whiteObjs w.params x' d' q' c' vs' b' nt' nn' tx' is' k1' k2' k3' k4' k5' t1' t2' t3' t4') (PBool z) := by
  rw [← hz]
  exact equal_ctr w x d q c vs cs b nt nn tx is k1 k2 k3 k4 k5 t1 t2 t3 t4 x' d' q' c' vs' cs' b' nt' nn' tx' is' k1' k2' k3' k4' k5' t1' t2' t3' t4' hvs hvs'
theorem witness_ctr' (w : World) (x d q c : Addr) (vs : List Value) (cs : List Int) (b nt nn : Int) (tx : Str) (is : Bool) (k1 k2 k3 k4 k5 t1 t2 t3 t4 : Tok) (x' d' q' c' : Addr) (vs' : List Value) (cs' : List Int) (b' nt' nn' : Int) (tx' : Str) (is' : Bool) (k1' k2' k3' k4' k5' t1' t2' t3' t4' : Tok)
    (hvs : IntsAre vs cs) (hvs' : IntsAre vs' cs') (hz : cs.length ≤ 1000) (hz' : cs'.length ≤ 1000) (hn : mx (mx ((cs.length : Int) - 1) b) (mx ((cs'.length : Int) - 1) b') + 1 = ((4 : Nat) : Int))
    {L : List (Int × Int × Int)} (hL : witL (fun i => indN i cs b nt) (fun i => indN i cs' b' nt') 4 = L) :
    Ctr w 4 60 101 [.ref x, .ref x'] (whiteObjs w.params x d q c vs b nt nn tx is k1 k2 k3 k4 k5 t1 t2 t3 t4 ++ whiteObjs w.params x' d' q' c' vs' b' nt' nn' tx' is' k1' k2' k3' k4' k5' t1' t2' t3' t4') (PWit L) := by
  rw [← hL]
  exact witness_ctr w 4 (fun i => indN i cs b nt) (fun i => indN i cs' b' nt') x d q c vs cs b nt nn tx is k1 k2 k3 k4 k5 t1 t2 t3 t4 x' d' q' c' vs' cs' b' nt' nn' tx' is' k1' k2' k3' k4' k5' t1' t2' t3' t4' hvs hvs' hz hz' (fun _ => rfl) (fun _ => rfl) (by omega) hn
end Mine
end PartLa6
section PartLa7
open PySem PySem.W PyProof.Rows PySem.Calls PyProof.Rows.LCg
set_option maxRecDepth 100000
set_option maxHeartbeats 8000000
namespace Mine
/-- what is to be shown of the rows and the rows turned about -/
noncomputable def sameChk (tl : List Nat) : Bool :=
  decide ((decide ((scan (lineOf (rowsOf tl))).cs = (scan (lineOf (rowsOf tl).reverse)).cs) && decide ((scan (lineOf (rowsOf tl))).b = (scan (lineOf (rowsOf tl).reverse)).b)) = decide ((1 : Int) = lastI tl)) &&
  (decide (mx (mx (((scan (lineOf (rowsOf tl))).cs.length : Int) - 1) (scan (lineOf (rowsOf tl))).b) (mx (((scan (lineOf (rowsOf tl).reverse)).cs.length : Int) - 1) (scan (lineOf (rowsOf tl).reverse)).b) + 1 = ((4 : Nat) : Int)) &&
  decide (decide ((witL (fun n => (wA n 0 (rowsOf tl) (rowsOf tl).length : Int)) (fun n => (wA n 0 (rowsOf tl).reverse (rowsOf tl).reverse.length : Int)) 4).length = 0) = decide ((1 : Int) = lastI tl)))
theorem same_ok : (tails 4).all sameChk = true := by decide +kernel
theorem same_of {tl : List Nat} (htl : tl.length ≤ 4) (hb : ∀ b ∈ tl, b ≤ 3) : sameChk tl = true := List.all_eq_true.mp same_ok tl (mem_tails 4 tl htl hb)
theorem pure_same {tl : List Nat} (htl : tl.length ≤ 4) (hb3 : ∀ b ∈ tl, b ≤ 3) :
    (decide ((scan (lineOf (rowsOf tl))).cs = (scan (lineOf (rowsOf tl).reverse)).cs) && decide ((scan (lineOf (rowsOf tl))).b = (scan (lineOf (rowsOf tl).reverse)).b)) = decide ((1 : Int) = lastI tl) := by
  have := same_of htl hb3
  rw [sameChk, Bool.and_eq_true] at this
  exact of_decide_eq_true this.1
theorem pure_four {tl : List Nat} (htl : tl.length ≤ 4) (hb3 : ∀ b ∈ tl, b ≤ 3) :
    mx (mx (((scan (lineOf (rowsOf tl))).cs.length : Int) - 1) (scan (lineOf (rowsOf tl))).b) (mx (((scan (lineOf (rowsOf tl).reverse)).cs.length : Int) - 1) (scan (lineOf (rowsOf tl).reverse)).b) + 1 = ((4 : Nat) : Int) := by
  have := same_of htl hb3
  rw [sameChk, Bool.and_eq_true, Bool.and_eq_true] at this
  exact of_decide_eq_true this.2.1
theorem pure_unlike {tl : List Nat} {st : Nat} (htl : tl.length ≤ 4) (hb3 : ∀ b ∈ tl, b ≤ 3) :
    decide ((witL (wayF st (rowsOf tl)) (wayF st (rowsOf tl).reverse) 4).length = 0) = decide ((1 : Int) = lastI tl) := by
  have := same_of htl hb3
  rw [sameChk, Bool.and_eq_true, Bool.and_eq_true] at this
  rw [witL_congr 4 fun i h1 _ => ⟨way_free h1, way_free h1⟩]
  exact of_decide_eq_true this.2.2
theorem pure_wit {tl : List Nat} {st : Nat} (htl : tl.length ≤ 4) (hb3 : ∀ b ∈ tl, b ≤ 3) :
    witL (fun i => indN i (scan (lineOf (rowsOf tl))).cs (scan (lineOf (rowsOf tl))).b (scan (lineOf (rowsOf tl))).nt) (fun i => indN i (scan (lineOf (rowsOf tl).reverse)).cs (scan (lineOf (rowsOf tl).reverse)).b (scan (lineOf (rowsOf tl).reverse)).nt) 4 =
      witL (wayF st (rowsOf tl)) (wayF st (rowsOf tl).reverse) 4 := by
  have q := tail_of htl hb3
  refine witL_congr 4 fun i h1 h2 => ⟨?_, ?_⟩
  · rw [way_free h1]; exact (rowChk_of q.1 ⟨h1, h2⟩).1
  · rw [way_free h1]; exact (rowChk_of q.2 ⟨h1, h2⟩).1
end Mine
end PartLa7
section PartLf_all
open PySem PySem.W PyProof.Rows PySem.Calls
set_option maxRecDepth 100000
set_option maxHeartbeats 8000000
namespace Mine
local macro_rules | `(tactic| walk_at "subscriptTail Name Slice ref ref") => `(tactic| (k_here; k_dflt (first | ((with_reducible show wpAny _ _ (subscriptTail _ (PySem.Expr.Slice none (some _) none _) (Value.ref _) (Value.ref _)) _ _ _); refine' slice_take ?F ?N ?l ?e ?z ?_ ?s ?t; (case F => k_asm); (case N => k_asm); (case l => k_mem); (case e => omega); (case z => with_reducible assumption); (case s => with_unfolding_all rfl); (case t => kmk_pure)) | ((with_reducible show wpAny _ _ (subscriptTail _ (PySem.Expr.Slice none none (some _) _) (Value.ref _) (Value.ref _)) _ _ _); refine' slice_rev ?F ?N ?l ?z ?_ ?s ?t; (case F => k_asm); (case N => k_asm); (case l => k_mem); (case z => with_reducible assumption); (case s => with_unfolding_all rfl); (case t => kmk_pure))); intro D' h' F' N' l1; (try k_lt l1); (try k_sweep)))
local macro_rules | `(tactic| walk_at "subscriptTail") => `(tactic| (k_here; (with_reducible show wpAny _ _ (subscriptTail _ _ (Value.ref _) (Value.int _ _)) _ _ _); (with_reducible rename News _ _ _ _ => N'); first
  | ((with_unfolding_all refine' item_entry N' ?k1 ?k2 ?k4 ?k5 ?k6 ?_ ?k7; (case k1 => k_mem); (case k4 => with_reducible assumption); (case k2 => omega); (case k6 => with_reducible assumption); (case k5 => exact mem_lift (by with_reducible assumption) (by intro p hp; repeat (first | exact hp | apply List.mem_cons_of_mem))); (case k7 => with_unfolding_all rfl)); clear N'; intro p9 lb9 u0 u1 u2 u3 el9 N9)
  | ((with_unfolding_all refine' item_white N' ?k1 ?k2 ?k4 ?k5 ?k6 ?_ ?k7; (case k1 => k_mem); (case k4 => with_reducible assumption); (case k2 => omega); (case k6 => with_reducible assumption); (case k5 => exact mem_lift (by with_reducible assumption) (by intro p hp; repeat (first | exact hp | apply List.mem_cons_of_mem))); (case k7 => with_unfolding_all rfl)); clear N'; intro x9 d9 q9 c9 vs9 tx9 is9 k1 k2 k3 k4 k5 u1 u2 u3 u4 hv9 N9; simp only [whiteObjs, List.cons_append, List.nil_append] at N9)
  | ((with_unfolding_all refine' item_ints N' ?k1 ?k2 ?k3 ?k4 ?k5 (fun t9 => ?_) ?k7; (case k1 => k_mem); (case k3 => with_reducible assumption); (case k4 => with_reducible assumption); (case k2 => omega); (case k5 => with_reducible assumption); (case k7 => with_unfolding_all rfl)))))

theorem law1 : PySem.Challenge.rw_pe0219_01.Holds := top (by rfl) (by rfl) (by rfl) (by
  k_go0
  all_goals (try k_fold)
  rename News _ _ _ _ => NN
  rename Fr _ _ _ _ => FF
  rename Frag.In _ _ => KX
  rename World => w
  rename Shared => S1
  refine law_cutA FF NN ?A ?rest
  case A =>
    (try dsimp only [List.take])
    (try k_fold)
    repeat' ((fail_if_success (with_reducible show Hold _)); first | ((with_reducible show (_ = Flow.next ∧ _)); refine hold ?_) | ((with_reducible show wpAny _ _ (binaryOp Operator.Add (Value.ref _) (Value.ref _)) _ _ _); refine strip ?_; gn_on; (with_reducible rename Fr _ _ _ _ => F'); (with_reducible rename News _ _ _ _ => N'); (with_unfolding_all refine add13 F' N' (by k_mem) (by k_mem) (by with_reducible assumption) (by simp only [List.length_map, List.length_take]; omega) ?_); clear F' N'; intro D' ws' h' F' N' l1 hI'; (try k_lt l1)) | ((with_reducible show wpAny _ _ (execs _ _) _ _ { heap := _, gens := _, drawn := _, toks := _ + 1, os := _ }); refine gen_toks ?_; intro tkp htkp) | (k_unfold; (try dsimp only)) | (k_end; wrow_close) | walk1 | (dsimp only; walk1) | (leave1; walk_say "STEP leave1"; try dsimp only) | fail "no step")
    refine Hold.of ?_
    rename News _ _ _ _ => NE
    rename Fr _ _ _ _ => FE
    rename IntsAre _ ([1, 3] ++ _) => hI9
    exact ⟨rfl, lawA_intro (by with_reducible assumption) FE NE (by k_mem) (by k_mem) hI9 (by rfl) (by rfl) (by rfl)⟩
  clear FF NN
  rintro s' ⟨h, tk, m, r, us, tl, st, lw, t1, t2, rfl, htk, FF, NN, htl, hb3, hus, hst, hlw, e1, e2, e3⟩
  (try dsimp only [List.drop])
  (try k_fold)
  refine law_cutB (tl := tl) (st := st) (lw := lw) FF NN ?B ?restB
  case B =>
    (try dsimp only [List.take])
    (try k_fold)
    rw [map3 e1 e2 e3] at FF
    repeat' ((fail_if_success (with_reducible show Hold _)); first | ((with_reducible show wpAny _ _ (eval (Expr.ListComp _ _ _ _) _) _ _ _); refine hold ?_) | ((with_reducible show wpAny _ _ (execs _ _) _ _ { heap := _, gens := _, drawn := _, toks := _ + 1, os := _ }); refine gen_toks ?_; intro tkp htkp) | (k_unfold; (try dsimp only)) | (k_end; wrow_close) | walk1 | (dsimp only; walk1) | (leave1; walk_say "STEP leave1"; try dsimp only) | fail "no step")
    refine Hold.of ?_
    k_dflt (refine LCg.ListComp_U (F₀ := by k_asm) (by with_unfolding_all rfl) (by decide) (by rfl) (by decide) (by rfl) ?_)
    repeat' ((fail_if_success (with_reducible show Hold _)); first | ((with_reducible show LCg.CompSrc _ _ _ _ _ _ _ _ _ _ _ _ _ _); refine hold ?_) | (k_unfold; (try dsimp only)) | (k_end; wrow_close) | walk1 | (dsimp only; walk1) | (leave1; walk_say "STEP leave1"; try dsimp only) | fail "no step")
    refine Hold.of ?_
    rename News _ _ _ _ => NE
    rename Fr _ _ _ _ => FE
    refine LCg.CompSrc.ledger (by rfl) FE NE (by k_mem) (by rw [List.size_toArray, hus.length, List.length_map]; exact Nat.le_trans (show (rowsOf tl).length ≤ 1000 by simp; omega) (Nat.le_of_ble_eq_true rfl)) ?_
    intro g'
    refine compU_inv (BlkJ (rowsOf tl) _) ?turn ?fin _ 0 [] _ (Nat.zero_add _) ⟨rfl, .nil⟩
    case turn =>
      clear FE NE
      intro i v ys news I oI C oC D m2 h2 tk2 E' hi hv hJ hC hx F2 N2 off ne
      obtain ⟨b, tb, rfl, hb⟩ := nat_at hus hv
      have hb' := rows3 hb3 b (List.mem_of_getElem? hb)
      have hJ0 := hJ
      obtain ⟨rfl, hys⟩ := hJ
      have off0 := off
      (try simp only [LCg.Off3, and_true] at off)
      (try dsimp only)
      repeat' ((fail_if_success (with_reducible show Hold _)); first | ((with_reducible show LCg.CompEnd _ _ _ _ _ _ _ _ _ _ _ _ _ _); refine hold ?_) | ((with_reducible show wpAny _ _ (binaryOp Operator.Mult (Value.str _ _) (Value.int _ _)) _ _ _); with_unfolding_all refine str_times (by with_reducible assumption) (fun t9 tk9 => ?_)) | (k_unfold; (try dsimp only)) | (k_end; wrow_close) | walk1 | (dsimp only; walk1) | (leave1; walk_say "STEP leave1"; try dsimp only) | fail "no step")
      refine Hold.of ?_
      rename News _ _ _ _ => NE
      rename Fr _ _ _ _ => FE
      exact LCg.CompEnd.intro FE NE _ (fun p hp => hp) off0 (.inr ⟨_, by k_mem, rfl, _, rfl⟩) (blk_turn hJ0 hb)
    case fin =>
      clear FE NE
      rintro ys news ⟨rfl, hys⟩
      rw [List.size_toArray, hus.length, List.length_map, List.take_length] at hys
      intro D h2 tk2 F2 N2 o1
      (try simp only [LCg.Off1, and_true] at o1)
      (try dsimp only)
      repeat' ((fail_if_success (with_reducible show Hold _)); first | ((with_reducible show (_ = Flow.next ∧ _)); refine hold ?_) | ((with_reducible show wpAny _ _ (execs _ _) _ _ { heap := _, gens := _, drawn := _, toks := _ + 1, os := _ }); refine gen_toks ?_; intro tkp htkp) | (k_unfold; (try dsimp only)) | (k_end; wrow_close) | walk1 | (dsimp only; walk1) | (leave1; walk_say "STEP leave1"; try dsimp only) | fail "no step")
      refine Hold.of ?_
      rename News _ _ _ _ => NE
      rename Fr _ _ _ _ => FE
      rename PySem.Obj.data _ = Data.cell _ => dc
      refine ⟨rfl, _, _, _, D, ys, ys.length, _, t1, t2, rfl, FE, fun p hp => NE p ?_, dc, hys, by rfl, by rfl, by rfl⟩
      revert p hp
      refine' List.forall_mem_cons.mpr ⟨?_, List.forall_mem_cons.mpr ⟨?_, List.forall_mem_cons.mpr ⟨?_, fun p hp => nomatch hp⟩⟩⟩ <;> k_mem
  clear FF NN htk e1 e2 e3
  rintro s' ⟨h, tk, m, pc, ps, e, co, t1, t2, rfl, FF, NN, dc, hps, e1, e2, e3⟩
  (try dsimp only [List.drop])
  (try k_fold)
  refine law_cutC (tl := tl) (st := st) (lw := lw) KX FF NN ?C ?restC
  case C =>
    (try dsimp only [List.take])
    (try k_fold)
    rw [map3 e1 e2 e3] at FF
    repeat' ((fail_if_success (with_reducible show Hold _)); first | ((with_reducible show wpAny _ _ (exec (Stmt.Assign _ (PySem.Expr.ListComp _ _ _ _) _) _) _ _ _); refine hold ?_) | ((with_reducible show wpAny _ _ (execs _ _) _ _ { heap := _, gens := _, drawn := _, toks := _ + 1, os := _ }); refine gen_toks ?_; intro tkp htkp) | (k_unfold; (try dsimp only)) | (k_end; wrow_close) | walk1 | (dsimp only; walk1) | (leave1; walk_say "STEP leave1"; try dsimp only) | fail "no step")
    refine Hold.of ?_
    k_dflt (refine LCg.Assign_ListComp_U (F₀ := by k_asm) (by rfl) (by with_unfolding_all rfl) (by with_unfolding_all rfl) (by decide) (by rfl) (by decide) (by rfl) (by rfl) (by rfl) ?_)
    repeat' ((fail_if_success (with_reducible show Hold _)); first | ((with_reducible show LCg.CompSrc _ _ _ _ _ _ _ _ _ _ _ _ _ _); refine hold ?_) | (k_unfold; (try dsimp only)) | (k_end; wrow_close) | walk1 | (dsimp only; walk1) | (leave1; walk_say "STEP leave1"; try dsimp only) | fail "no step")
    refine Hold.of ?_
    rename News _ _ _ _ => NE
    rename Fr _ _ _ _ => FE
    rename IsRange _ _ _ _ _ _ _ _ => hrg
    have hn9 : (rowsOf tl).length ≤ 6 := rows_len htl
    refine LCg.CompSrc.range (n := (rowsOf tl).length) (by rfl) FE NE hrg (small_one (by omega) (by omega) (by rw [List.length_map]; omega) (by rw [List.length_map]; omega)) ((rangeSize_nat _ _).trans (by rw [List.length_map]; omega)) (Nat.le_trans (show (rowsOf tl).length ≤ 1000 by omega) (Nat.le_of_ble_eq_true rfl)) ?_
    intro g'
    refine compU_inv (WhsJ w.params (rowsOf tl) [(pc, listOf (List.toArray ps) e), (r, listOf (List.toArray us) 0), (_, co)]) ?turn ?fin _ 0 [] _ (Nat.zero_add _) ⟨[], rfl, rfl, fun j hj => absurd hj (Nat.not_lt_zero _)⟩
    case turn =>
      clear FE NE hrg
      rintro i v ys news I oI C oC D m2 h2 tk2 E' hi ⟨t0, rfl⟩ ⟨keep, rfl, hws⟩ hC hx F2 N2 off ne
      have off0 := off
      have hcl : ((rowsOf tl).take (i + 1)).length ≤ 10 := by rw [List.length_take]; omega
      have hcb : ∀ b ∈ (rowsOf tl).take (i + 1), b ≤ 3 := fun b q => rows3 hb3 b (List.mem_of_mem_take q)
      have hll : (lineOf ((rowsOf tl).take (i + 1))).length ≤ 1000 := Nat.le_trans (line_len _ hcb) (by omega)
      have hsz : ps.length ≤ 1000 := by rw [hps.length, List.length_map]; omega
      (try simp only [LCg.Off3, and_true, List.cons_append, List.nil_append] at off)
      (try simp only [List.cons_append, List.nil_append] at N2)
      (try dsimp only)
      repeat' ((fail_if_success (with_reducible show Hold _)); first | ((with_reducible show LCg.CompEnd _ _ _ _ _ _ _ _ _ _ _ _ _ _); refine hold ?_) | ((with_reducible show wpAny _ _ (call (Value.builtin "str.join") _) _ _ _); (with_reducible rename News _ _ _ _ => N'); (with_unfolding_all refine join_lst (cs := (rowsOf tl).take (i + 1)) N' (by k_mem) (by rw [show ((0 : Int) + (i : Int) + 1).toNat = i + 1 by omega, List.map_take]; exact hps.take' (i + 1)) (by with_reducible assumption) (by with_reducible assumption) ?_); intro tx9 t9 tk9 htx) | ((with_reducible show wpAny _ _ (binaryOp Operator.Add (Value.str _ _) (Value.str _ _)) _ _ _); (with_unfolding_all refine add_x (by with_reducible assumption) (by with_reducible assumption) ?_); intro ty9 t9 tk9 hty) | ((with_reducible show wpAny _ _ (call (Value.ref 118) [Value.str _ _]) _ _ _); k_dflt (refine' use_white (by with_reducible assumption) (line_codes _) (by with_reducible assumption) ?k1 ?k2 ?k3 ?k4 ?k5 ?kK ?kd ?ku ?_; (case k1 => k_asm); (case k2 => k_asm); (case k3 => k_asm); (case k4 => k_asm); (case k5 => k_asm); (case kK => first | exact rfl | assumption); (case kd => ktr_room); (case ku => ktr_units); k_whole); intro x9 ob9 h9 tk9 F9 W9 N9 A9; (try dsimp only)) | (k_unfold; (try dsimp only)) | (k_end; wrow_close) | walk1 | (dsimp only; walk1) | (leave1; walk_say "STEP leave1"; try dsimp only) | fail "no step")
      refine Hold.of ?_
      exact whs_end (keep := keep) F9 N9 (fun p hp => (List.mem_append.mp hp).elim (fun q => List.mem_append_left _ q) fun q => List.mem_append_right _ (List.mem_cons_of_mem _ q)) (fun p hp => A9 p (List.mem_cons_of_mem _ hp)) off0 hws W9
    case fin =>
      clear FE NE hrg
      rintro ys news ⟨keep, rfl, hws⟩
      intro D h2 tk2 F2 N2 o1
      clear o1
      (try dsimp only)
      repeat' ((fail_if_success (with_reducible show Hold _)); first | ((with_reducible show (_ = Flow.next ∧ _)); refine hold ?_) | ((with_reducible show wpAny _ _ (execs _ _) _ _ { heap := _, gens := _, drawn := _, toks := _ + 1, os := _ }); refine gen_toks ?_; intro tkp htkp) | (k_unfold; (try dsimp only)) | (k_end; wrow_close) | walk1 | (dsimp only; walk1) | (leave1; walk_say "STEP leave1"; try dsimp only) | fail "no step")
      refine Hold.of ?_
      rename News _ _ _ _ => NE
      rename Fr _ _ _ _ => FE
      exact ⟨rfl, _, _, _, D, ys, _, keep, t1, t2, rfl, FE, NE, hws, by rfl, by rfl, by rfl, by rfl⟩
  clear FF NN e1 e2 e3
  rintro s' ⟨h, tk, m, wl, ws, e2, keep, t1, t2, rfl, FF, NN, hws, m1, m2, m3, m4⟩
  (try dsimp only [List.drop])
  (try k_fold)
  refine law_cutD (tl := tl) (st := st) (lw := lw) FF NN ?D ?restD
  case D =>
    (try dsimp only [List.take])
    (try k_fold)
    rw [map4' m1 m2 m3 m4] at FF
    repeat' ((fail_if_success (with_reducible show Hold _)); first | ((with_reducible show wpAny _ _ (exec (Stmt.For _ _ _ _ _) _) _ _ _); refine hold ?_) | ((with_reducible show wpAny _ _ (execs _ _) _ _ { heap := _, gens := _, drawn := _, toks := _ + 1, os := _ }); refine gen_toks ?_; intro tkp htkp) | (k_unfold; (try dsimp only)) | (k_end; wrow_close) | walk1 | (dsimp only; walk1) | (leave1; walk_say "STEP leave1"; try dsimp only) | fail "no step")
    refine Hold.of ?_
    refine For_invV S1.heap (by rfl) (by rfl) ?_ (by intro _; rfl) (by passes_own)
    repeat' ((fail_if_success (with_reducible show Hold _)); first | ((with_reducible show wpAny _ _ (pyIter (Value.ref _)) _ _ _); refine hold ?_) | (k_unfold; (try dsimp only)) | (k_end; wrow_close) | walk1 | (dsimp only; walk1) | (leave1; walk_say "STEP leave1"; try dsimp only) | fail "no step")
    refine Hold.of ?_
    rename News _ _ _ _ => NE
    rename Fr _ _ _ _ => FE
    rename IsRange _ _ _ _ _ _ _ _ => hrg
    refine iterR (fun i => SizeJ (S1.heap.objs.size + 1) r pc wl us ps ws e e2 co keep tl st lw i t1 t2) (k := 4) (by rfl) hrg (by decide) (by decide) FE NE ?start ?turn ?done
    case start =>
      rename @LT.lt Nat _ wl _ ∧ _ => l9
      refine ⟨_, [], 0, keep, rfl, ?_, fun p hp => hp, Trips.nil, by rfl, by rfl, by rfl, by rfl, by rfl⟩
      simp only [List.forall_mem_cons]
      exact ⟨Nat.ne_of_lt l9.1, Nat.ne_of_lt l9.2.1, Nat.ne_of_lt l9.2.2.1, Nat.ne_of_lt l9.2.2.2.1, allLt_ne l9.2.2.2.2⟩
    case done =>
      clear NE FE hrg
      intro m3 news3 h3 tk3 hJ F3 N3
      (try dsimp only)
      (try k_fold)
      repeat' ((fail_if_success (with_reducible show Hold _)); first | ((with_reducible show (_ = Flow.next ∧ _)); refine hold ?_) | ((with_reducible show wpAny _ _ (execs _ _) _ _ { heap := _, gens := _, drawn := _, toks := _ + 1, os := _ }); refine gen_toks ?_; intro tkp htkp) | (k_unfold; (try dsimp only)) | (k_end; wrow_close) | walk1 | (dsimp only; walk1) | (leave1; walk_say "STEP leave1"; try dsimp only) | fail "no step")
      refine Hold.of ?_
      exact ⟨rfl, _, _, _, _, t1, t2, rfl, F3, N3, hJ⟩
    case turn =>
      clear NE FE hrg
      rintro i ti m1 news1 h tk I oI hi ⟨ul, items, ep, rest, rfl, off, hkeep, T, e1, e3, e4, e5, e6⟩ hI F1 N1
      have hn4 : 1 ≤ i + 1 ∧ i + 1 ≤ 4 := by omega
      have hb4 := rows3 hb3
      have hl4 := rows_len htl
      have h04 : 0 < (rowsOf tl).length := by simp
      have hvr : IntsAre us.reverse ((rowsOf tl).reverse.map fun b : Nat => (b : Int)) := by rw [List.map_reverse]; exact IntsAre.reverse hus
      have hbr : ∀ b ∈ (rowsOf tl).reverse, b ≤ 3 := fun b q => hb4 b (List.mem_reverse.mp q)
      have hlr : (rowsOf tl).reverse.length ≤ 6 := by rw [List.length_reverse]; exact hl4
      have h0r : 0 < (rowsOf tl).reverse.length := by rw [List.length_reverse]; exact h04
      have husl : us.length ≤ 1000 := by rw [hus.length, List.length_map]; omega
      rw [map5 e1 e3 e4 e5 e6, show (1 : Int) + (i : Int) = ((i + 1 : Nat) : Int) by omega] at F1
      replace off : Hold _ := off
      replace hI : Hold _ := hI
      (try dsimp only)
      (try k_fold)
      repeat' ((fail_if_success (with_reducible show Hold _)); first | ((with_reducible show wpAny _ _ (exec (Stmt.For _ _ _ _ _) _) _ _ _); refine hold ?_) | ((with_reducible show wpAny _ _ (execs _ _) _ _ { heap := _, gens := _, drawn := _, toks := _ + 1, os := _ }); refine gen_toks ?_; intro tkp htkp) | ((with_reducible show wpAny _ _ (call (Value.ref 134) _) _ _ _); (with_reducible rename News _ _ _ _ => N'); k_dflt (refine' use_ends (pre := [(I, oI), (ul, listOf (List.toArray items) ep), (wl, listOf (List.toArray ws) e2), (pc, listOf (List.toArray ps) e), (r, listOf (List.toArray us) 0), (S1.heap.objs.size + 1, co)]) (rest := rest) (st := st) (n := i + 1) (bs := rowsOf tl) (e0 := 0) ?kr hn4 hst ?kv ?kb ?kl ?kp ?k1 ?k2 ?k3 N' ?k5 ?kK ?kd ?ku ?_; (case k1 => k_asm); (case k2 => k_asm); (case k3 => k_asm); (case k5 => k_asm); (case kr => k_mem); (case kv => with_reducible assumption); (case kb => with_reducible assumption); (case kl => with_reducible assumption); (case kp => with_reducible assumption); (case kK => first | exact rfl | assumption); (case kd => ktr_room); (case ku => ktr_units); k_whole); clear N'; intro el its epe ek h9 tk9 F9 N9 hil hent hentl oe oek; (try simp only [List.cons_append, List.nil_append] at N9)) | (k_unfold; (try dsimp only)) | (k_end; wrow_close) | walk1 | (dsimp only; walk1) | (leave1; walk_say "STEP leave1"; try dsimp only) | fail "no step")
      refine Hold.of ?_

      refine For_invV S1.heap (by rfl) (by rfl) ?_ (by intro _; rfl) (by passes_own)
      repeat' ((fail_if_success (with_reducible show Hold _)); first | ((with_reducible show wpAny _ _ (pyIter (Value.ref _)) _ _ _); refine hold ?_) | (k_unfold; (try dsimp only)) | (k_end; wrow_close) | walk1 | (dsimp only; walk1) | (leave1; walk_say "STEP leave1"; try dsimp only) | fail "no step")
      refine Hold.of ?_
      rename News _ _ _ _ => NE
      rename Fr _ _ _ _ => FE
      rename IsRange _ _ _ _ _ _ _ _ => hrg
      refine iterR (k := (rowsOf tl).length) (fun _ => RowJ ([(el, listOf (List.toArray its) epe), (I, oI), (ul, listOf (List.toArray items) ep), (wl, listOf (List.toArray ws) e2), (pc, listOf (List.toArray ps) e), (r, listOf (List.toArray us) 0), (S1.heap.objs.size + 1, co)] ++ (ek ++ rest)) r wl ul el (i + 1) st lw t1 t2 ti) (by rfl) hrg (small_one (by omega) (by omega) (by rw [List.length_map]; omega) (by rw [List.length_map]; omega)) ((rangeSize_nat _ _).trans (by rw [List.length_map]; omega)) FE NE ?start2 ?turn2 ?done2
      case start2 => exact ⟨rfl, by rfl, by rfl, by rfl, by rfl, by rfl, by rfl, by rfl⟩
      case turn2 =>
        clear NE FE hrg
        rintro j tj m2 news2 h2 tk2 I2 oI2 hj ⟨rfl, y1, y2, y3, y4, y5, y6, y7⟩ hI2 F2 N2
        have hent9 := hent j hj
        have hind := ind_way (st := st) hn4 htl hb3 hj
        have htop := way_top hn4 hst htl hb3 hj
        have hwh9 := hws.2 j hj
        have hsz9 : (scan (lineOf ((rowsOf tl).take (j + 1)))).cs.length ≤ 1000 := by
          have a1 := (scan_bound (lineOf ((rowsOf tl).take (j + 1)))).2.2.1
          have a2 := line_len ((rowsOf tl).take (j + 1)) fun b q => rows3 hb3 b (List.mem_of_mem_take q)
          rw [List.length_take] at a2
          omega
        have hkk : ∀ p ∈ keep, p ∈ ek ++ rest := fun p hp => List.mem_append_right _ (hkeep p hp)
        have hee : ∀ p ∈ ek, p ∈ ek ++ rest := fun p hp => List.mem_append_left _ hp
        clear hkeep
        generalize wA (i + 1) st (rowsOf tl) (j + 1) = W at hent9 hind htop
        generalize scan (lineOf ((rowsOf tl).take (j + 1))) = σ at hind hwh9 hsz9
        have hwl : ws.length ≤ 1000 := by rw [hws.1]; omega
        have hil' : its.length ≤ 1000 := by omega
        replace hI2 : Hold _ := hI2
        replace oe : Hold _ := oe
        replace oek : Hold _ := oek
        rw [map7 y1 y2 y3 y4 y5 y6 y7] at F2
        simp only [List.cons_append, List.nil_append] at N2
        (try dsimp only)
        (try k_fold)
        repeat' ((fail_if_success (with_reducible show Hold _)); first | ((with_reducible show TurnEnd _ _ _ _ _ _ _ _ _); refine hold ?_) | ((with_reducible show wpAny _ _ (execs _ _) _ _ { heap := _, gens := _, drawn := _, toks := _ + 1, os := _ }); refine gen_toks ?_; intro tkp htkp) | ((with_reducible show wpAny _ _ (call (Value.ref 87) _) _ _ _); k_dflt (refine' use_int (indent_ctr' w (i + 1) _ _ _ _ _ _ σ.cs σ.b σ.nt σ.n _ _ _ _ _ _ _ _ _ _ _ hn4 ?kI hsz9 hind) ?k1 ?k2 ?k3 ?k4 ?k5 ?kK ?kN ?kd ?ku ?_; (case k1 => k_asm); (case k2 => k_asm); (case k3 => k_asm); (case k4 => k_asm); (case k5 => k_asm); (case kK => first | exact rfl | assumption); (case kN => (intro p hp; unfold whiteObjs at hp; revert p hp; refine' List.forall_mem_cons.mpr ⟨?_, List.forall_mem_cons.mpr ⟨?_, List.forall_mem_cons.mpr ⟨?_, List.forall_mem_cons.mpr ⟨?_, fun _ h => nomatch h⟩⟩⟩⟩ <;> k_mem)); (case kI => with_reducible assumption); (case kd => ktr_room); (case ku => ktr_units); k_whole); intro t9 h9 tk9 F9 N9; (try dsimp only)) | ((with_reducible show wpAny _ _ (call (Value.ref 139) _) _ _ _); k_dflt (refine' use_int (read_at w (i + 1) W lw _ _ _ _ _ _ _ hn4 hlw) ?k1 ?k2 ?k3 ?k4 ?k5 ?kK ?kN ?kd ?ku ?_; (case k1 => k_asm); (case k2 => k_asm); (case k3 => k_asm); (case k4 => k_asm); (case k5 => k_asm); (case kK => first | exact rfl | assumption); (case kN => (intro q hq; simp only [List.mem_singleton] at hq; subst hq; k_mem)); (case kd => ktr_room); (case ku => ktr_units); k_whole); intro t9 h9 tk9 F9 N9; (try dsimp only)) | ((with_reducible show wpAny _ _ (call (Value.ref 146) _) _ _ _); k_dflt (refine' use_bool (shown_at w (i + 1) W lw _ _ _ _ _ _ _ _ _ hn4 hlw htop ?ky) ?k1 ?k2 ?k3 ?k4 ?k5 ?kK ?kN ?kd ?ku ?_; (case k1 => k_asm); (case k2 => k_asm); (case k3 => k_asm); (case k4 => k_asm); (case k5 => k_asm); (case kK => first | exact rfl | assumption); (case kN => (intro q hq; simp only [List.mem_singleton] at hq; subst hq; k_mem)); (case ky => omega); (case kd => ktr_room); (case ku => ktr_units); k_whole); intro h9 tk9 F9 N9; (try dsimp only)) | ((with_reducible show wpAny _ _ (compareOp CmpOp.NotEq (Value.int _ _) (Value.int _ _)) _ _ _); with_unfolding_all refine ne_eq_ints (read_eq (n := i + 1) (W := W) (by omega) rfl) ?_) | (k_unfold; (try dsimp only)) | (k_end; wrow_close) | walk1 | (dsimp only; walk1) | (leave1; walk_say "STEP leave1"; try dsimp only) | fail "no step")
        refine Hold.of ?_
        rename News _ _ _ _ => NE
        rename Fr _ _ _ _ => FE
        refine ⟨_, _, _, _, rfl, FE, fun p hp => NE p ?_, hold hI2, rfl, by rfl, by rfl, by rfl, by rfl, by rfl, by rfl, by rfl⟩
        revert p hp
        simp only [List.cons_append, List.nil_append]
        refine' List.forall_mem_cons.mpr ⟨?_, List.forall_mem_cons.mpr ⟨?_, List.forall_mem_cons.mpr ⟨?_, List.forall_mem_cons.mpr ⟨?_, List.forall_mem_cons.mpr ⟨?_, List.forall_mem_cons.mpr ⟨?_, List.forall_mem_cons.mpr ⟨?_, List.forall_mem_cons.mpr ⟨?_, ?_⟩⟩⟩⟩⟩⟩⟩⟩ <;> first | k_mem | (intro p hp; repeat (first | exact hp | apply List.mem_cons_of_mem | apply List.mem_append_right))
      case done2 =>
        clear NE FE hrg
        rintro m2 news2 h2 tk2 ⟨rfl, y1, y2, y3, y4, y5, y6, y7⟩ F2 N2
        clear oe oek hent
        have hil' : its.length ≤ 1000 := by omega
        have huI := (hold hI) _ List.mem_cons_self
        have hkul := (List.forall_mem_cons (p := fun p : Addr × PySem.Obj => @Ne Nat p.1 ul) (a := (I, oI))).mpr ⟨fun z => huI z.symm, hold off⟩
        replace hkul : Hold _ := hkul
        have hitl : items.toArray.size ≤ 1000 := by
          rw [List.size_toArray, T.1]
          have := witL_len (wayF st (rowsOf tl)) (wayF st (rowsOf tl).reverse) i
          omega
        rw [map7 y1 y2 y3 y4 y5 y6 y7] at F2
        simp only [List.cons_append, List.nil_append] at N2
        (try dsimp only)
        (try k_fold)
        repeat' ((fail_if_success (with_reducible show Hold _)); first | ((with_reducible show TurnEnd _ _ _ _ _ _ _ _ _); refine hold ?_) | ((with_reducible show wpAny _ _ (execs _ _) _ _ { heap := _, gens := _, drawn := _, toks := _ + 1, os := _ }); refine gen_toks ?_; intro tkp htkp) | ((with_reducible show wpAny _ _ (call (Value.ref 134) _) _ _ _); (with_reducible rename News _ _ _ _ => N'); k_dflt (refine' use_ends (pre := [(_, _), (el, listOf (List.toArray its) epe), (I, oI), (ul, listOf (List.toArray items) ep), (wl, listOf (List.toArray ws) e2), (pc, listOf (List.toArray ps) e), (r, listOf (List.toArray us) 0), (S1.heap.objs.size + 1, co)]) (rest := ek ++ rest) (st := st) (n := i + 1) (bs := (rowsOf tl).reverse) (e0 := 0) ?kr hn4 hst ?kv ?kb ?kl ?kp ?k1 ?k2 ?k3 N' ?k5 ?kK ?kd ?ku ?_; (case k1 => k_asm); (case k2 => k_asm); (case k3 => k_asm); (case k5 => k_asm); (case kr => k_mem); (case kv => with_reducible assumption); (case kb => with_reducible assumption); (case kl => with_reducible assumption); (case kp => with_reducible assumption); (case kK => first | exact rfl | assumption); (case kd => ktr_room); (case ku => ktr_units); k_whole); clear N'; intro eb itb epb ekb h9 tk9 F9 N9 hilb hent9 hentb oe9 oek9; clear hent9 oe9 oek9; (try simp only [List.cons_append, List.nil_append] at N9); (have heb : ∀ p ∈ ekb, p ∈ ekb ++ (ek ++ rest) := fun p hp => List.mem_append_left _ hp); (have hee : ∀ p ∈ ek, p ∈ ekb ++ (ek ++ rest) := fun p hp => List.mem_append_right _ (List.mem_append_left _ hp)); have hitb : itb.length ≤ 1000 := by omega) | ((with_reducible show wpAny _ _ (call (Value.ref 139) _) _ _ _); k_dflt (refine' use_int (read_at w (i + 1) _ lw _ _ _ _ _ _ _ hn4 hlw) ?k1 ?k2 ?k3 ?k4 ?k5 ?kK ?kN ?kd ?ku ?_; (case k1 => k_asm); (case k2 => k_asm); (case k3 => k_asm); (case k4 => k_asm); (case k5 => k_asm); (case kK => first | exact rfl | assumption); (case kN => (intro q hq; simp only [List.mem_singleton] at hq; subst hq; k_mem)); (case kd => ktr_room); (case ku => ktr_units); k_whole); intro t9 h9 tk9 F9 N9; (try dsimp only)) | ((with_reducible show wpAny _ _ (call (Value.builtin "list.append") _) _ _ _); (with_reducible rename Fr _ _ _ _ => F'); (with_reducible rename News _ _ _ _ => N'); (with_unfolding_all refine' append_ref ((I, oI) :: (wl, listOf (List.toArray ws) e2) :: (pc, listOf (List.toArray ps) e) :: (r, listOf (List.toArray us) 0) :: (S1.heap.objs.size + 1, co) :: rest) F' N' ?km ?kx ?kk ?kd (hold hkul) hitl ?_; (case km => k_mem); (case kx => k_mem); (case kd => k_ne); (case kk => refine' List.forall_mem_cons.mpr ⟨?_, List.forall_mem_cons.mpr ⟨?_, List.forall_mem_cons.mpr ⟨?_, List.forall_mem_cons.mpr ⟨?_, List.forall_mem_cons.mpr ⟨?_, ?_⟩⟩⟩⟩⟩ <;> first | k_mem | (intro p hp; repeat (first | exact hp | apply List.mem_cons_of_mem | apply List.mem_append_right)))); clear F' N'; intro h9 F9 N9) | (k_unfold; (try dsimp only)) | (k_end; wrow_close) | walk1 | (dsimp only; walk1) | (leave1; walk_say "STEP leave1"; try dsimp only) | fail "no step")
        all_goals refine Hold.of ?_
        all_goals (
          rename News _ _ _ _ => NE
          rename Fr _ _ _ _ => FE
          have hw := size_wit (i := i) (st := st) (bs := rowsOf tl) (bs' := (rowsOf tl).reverse) way_of way_of
          have hI9 := (List.forall_mem_cons.mp (hold hI)).2
          first
            | (rw [if_pos (by first | assumption | omega)] at hw
               refine' size_close (items := items) FE NE ?hsub huI hI9 (hold off) hkeep (by rw [hw]; exact T) (by rfl) (by rfl) (by rfl) (by rfl) (by rfl)
               case hsub => (refine' List.forall_mem_cons.mpr ⟨?_, List.forall_mem_cons.mpr ⟨?_, List.forall_mem_cons.mpr ⟨?_, List.forall_mem_cons.mpr ⟨?_, List.forall_mem_cons.mpr ⟨?_, List.forall_mem_cons.mpr ⟨?_, ?_⟩⟩⟩⟩⟩⟩ <;> first | k_mem | (intro p hp; repeat (first | exact hp | apply List.mem_cons_of_mem | apply List.mem_append_right))))
            | (rw [if_neg (by first | assumption | omega)] at hw
               refine' size_app (items := items) FE NE ?hsub huI hI9 (hold off) ?hDI ?hDu hkeep T hw (by rfl) (by rfl) (by rfl) (by rfl) (by rfl)
               case hsub => (refine' List.forall_mem_cons.mpr ⟨?_, List.forall_mem_cons.mpr ⟨?_, List.forall_mem_cons.mpr ⟨?_, List.forall_mem_cons.mpr ⟨?_, List.forall_mem_cons.mpr ⟨?_, List.forall_mem_cons.mpr ⟨?_, List.forall_mem_cons.mpr ⟨?_, ?_⟩⟩⟩⟩⟩⟩⟩ <;> first | k_mem | (intro p hp; repeat (first | exact hp | apply List.mem_cons_of_mem | apply List.mem_append_right)))
               case hDI => k_ne
               case hDu => k_ne))
  clear FF NN m1 m2 m3 m4
  rintro s' ⟨h, tk, m, news, t1, t2, rfl, FF, NN, ul, items, ep, rest, rfl, off, hkeep, T, e1, e3, e4, e5, e6⟩
  (try dsimp only [List.drop])
  (try k_fold)
  have hsm := pure_same htl hb3
  have hfo := pure_four htl hb3
  have hun := pure_unlike (st := st) htl hb3
  have hwi := pure_wit (st := st) htl hb3
  have hla := last_at tl
  have hfi := first_at tl
  have h04 : 0 < (rowsOf tl).length := by simp
  have hl4 := rows_len htl
  have hwl9 := hws.2 ((rowsOf tl).length - 1) (by omega)
  rw [Nat.sub_add_cancel h04, List.take_length] at hwl9
  have hb4 := rows3 hb3
  have hcb : ∀ b ∈ (rowsOf tl).reverse, b ≤ 3 := fun b q => hb4 b (List.mem_reverse.mp q)
  have hcl : (rowsOf tl).reverse.length ≤ 10 := by rw [List.length_reverse]; omega
  have hll : (lineOf (rowsOf tl).reverse).length ≤ 1000 := Nat.le_trans (line_len _ hcb) (by omega)
  have hll' : (lineOf (rowsOf tl)).length ≤ 1000 := Nat.le_trans (line_len _ hb4) (by omega)
  have hsz := Nat.le_trans (scan_bound (lineOf (rowsOf tl))).2.2.1 hll'
  have hsz' := Nat.le_trans (scan_bound (lineOf (rowsOf tl).reverse)).2.2.1 hll
  clear hll'
  obtain ⟨σ', hσ'⟩ : ∃ σ', scan (lineOf (rowsOf tl).reverse) = σ' := ⟨_, rfl⟩
  rw [hσ'] at hsm hfo hwi hsz'
  generalize scan (lineOf (rowsOf tl)) = σ at hsm hfo hwi hsz hwl9
  generalize hz9 : decide ((1 : Int) = lastI tl) = z9 at hsm hun
  have hun9 : decide (items.length = 0) = z9 := by rw [T.1]; exact hun
  generalize lastI tl = la at hz9 hla
  have hpl : ps.length ≤ 1000 := by rw [hps.length, List.length_map]; omega
  have hwl : ws.length ≤ 1000 := by rw [hws.1]; omega
  have hwe := hws.1
  have hul : us.length ≤ 1000 := by rw [hus.length, List.length_map]; omega
  have hue : us.length = (rowsOf tl).length := by rw [hus.length, List.length_map]
  clear hun
  rw [map5 e1 e3 e4 e5 e6] at FF
  repeat' ((fail_if_success (with_reducible show Hold _)); first | ((with_reducible show wpAny _ _ (execs _ _) _ _ { heap := _, gens := _, drawn := _, toks := _ + 1, os := _ }); refine gen_toks ?_; intro tkp htkp) | ((with_reducible show wpAny _ _ (call (Value.builtin "str.join") _) _ _ _); (with_reducible rename News _ _ _ _ => N'); (with_unfolding_all refine join_lst (cs := (rowsOf tl).reverse) N' (by k_mem) (by rw [List.map_reverse]; exact strs_rev hps) (by with_reducible assumption) (by with_reducible assumption) ?_); intro tx9 t9 tk9 htx) | ((with_reducible show wpAny _ _ (binaryOp Operator.Add (Value.str _ _) (Value.str _ _)) _ _ _); (with_unfolding_all refine add_x (by with_reducible assumption) (by with_reducible assumption) ?_); intro ty9 t9 tk9 hty) | ((with_reducible show wpAny _ _ (call (Value.ref 118) [Value.str _ _]) _ _ _); k_dflt (refine' use_white2 hσ' (by with_reducible assumption) (line_codes _) (by with_reducible assumption) ?k1 ?k2 ?k3 ?k4 ?k5 ?kK ?kd ?ku ?_; (case k1 => k_asm); (case k2 => k_asm); (case k3 => k_asm); (case k4 => k_asm); (case k5 => k_asm); (case kK => first | exact rfl | assumption); (case kd => ktr_room); (case ku => ktr_units); k_whole); intro x8 d8 q8 c8 vs8 tx8 is8 k1 k2 k3 k4 k5 u1 u2 u3 u4 h9 tk9 F9 hv8 N9; simp only [whiteObjs, List.cons_append, List.nil_append] at N9; (try dsimp only)) | ((with_reducible show wpAny _ _ (call (Value.ref 94) _) _ _ _); k_dflt (refine' use_bool (equal_ctr' w _ _ _ _ _ σ.cs σ.b σ.nt σ.n _ _ _ _ _ _ _ _ _ _ _ _ _ _ _ _ σ'.cs σ'.b σ'.nt σ'.n _ _ _ _ _ _ _ _ _ _ _ ?kI ?kJ hsm) ?k1 ?k2 ?k3 ?k4 ?k5 ?kK ?kN ?kd ?ku ?_; (case k1 => k_asm); (case k2 => k_asm); (case k3 => k_asm); (case k4 => k_asm); (case k5 => k_asm); (case kK => first | exact rfl | assumption); (case kN => (intro p hp; unfold whiteObjs at hp; simp only [List.cons_append, List.nil_append] at hp; revert p hp; refine' List.forall_mem_cons.mpr ⟨?_, List.forall_mem_cons.mpr ⟨?_, List.forall_mem_cons.mpr ⟨?_, List.forall_mem_cons.mpr ⟨?_, List.forall_mem_cons.mpr ⟨?_, List.forall_mem_cons.mpr ⟨?_, List.forall_mem_cons.mpr ⟨?_, List.forall_mem_cons.mpr ⟨?_, fun _ h => nomatch h⟩⟩⟩⟩⟩⟩⟩⟩ <;> k_mem)); (case kI => with_reducible assumption); (case kJ => with_reducible assumption); (case kd => ktr_room); (case ku => ktr_units); k_whole); intro h9 tk9 F9 N9; (try dsimp only)) | ((with_reducible show wpAny _ _ (call (Value.ref 101) _) _ _ _); k_dflt (refine' use_wit (witness_ctr' w _ _ _ _ _ σ.cs σ.b σ.nt σ.n _ _ _ _ _ _ _ _ _ _ _ _ _ _ _ _ σ'.cs σ'.b σ'.nt σ'.n _ _ _ _ _ _ _ _ _ _ _ ?kI ?kJ hsz hsz' hfo hwi) ?k1 ?k2 ?k3 ?k4 ?k5 ?kK ?kN ?kd ?ku ?_; (case k1 => k_asm); (case k2 => k_asm); (case k3 => k_asm); (case k4 => k_asm); (case k5 => k_asm); (case kK => first | exact rfl | assumption); (case kN => (intro p hp; unfold whiteObjs at hp; simp only [List.cons_append, List.nil_append] at hp; revert p hp; refine' List.forall_mem_cons.mpr ⟨?_, List.forall_mem_cons.mpr ⟨?_, List.forall_mem_cons.mpr ⟨?_, List.forall_mem_cons.mpr ⟨?_, List.forall_mem_cons.mpr ⟨?_, List.forall_mem_cons.mpr ⟨?_, List.forall_mem_cons.mpr ⟨?_, List.forall_mem_cons.mpr ⟨?_, fun _ h => nomatch h⟩⟩⟩⟩⟩⟩⟩⟩ <;> k_mem)); (case kI => with_reducible assumption); (case kJ => with_reducible assumption); (case kd => ktr_room); (case ku => ktr_units); k_whole); intro e9 its9 ep9 kp9 h9 tk9 F9 T9 kk9 N9; (try dsimp only)) | ((with_reducible show wpAny _ _ (compareOp CmpOp.Eq (Value.int _ _) (Value.int _ _)) _ _ _); with_unfolding_all refine eq_ints hz9 ?_) | ((with_reducible show wpAny _ _ (compareOp CmpOp.IsNot (Value.bool _) (Value.bool _)) _ _ _); first | refine isnot_same (row_cmp hfi hla hz9 (by simp only [List.length_map]; omega)) ?_ | refine isnot_same rfl ?_) | ((with_reducible show wpAny _ _ (compareOp CmpOp.Eq (Value.ref _) (Value.ref _)) _ _ _); (with_reducible rename News _ _ _ _ => N'); first | ((with_reducible rename Trips _ _ kp9 => T9); (with_unfolding_all refine' eq_trips N' ?k1 ?k2 T9 T kk9 ?k4 rfl ?k5 ?_); (case k1 => k_mem); (case k2 => k_mem); (case k4 => (intro p hp; repeat (first | exact hp | apply List.mem_cons_of_mem | apply List.mem_append_right))); (case k5 => ktr_units)) | ((with_unfolding_all refine' eq_nil N' ?k1 ?k2 ?k3 hun9 ?_); (case k1 => k_mem); (case k2 => k_mem); (case k3 => ktr_units))) | (k_unfold; (try dsimp only)) | (k_end; wrow_close) | walk1 | (dsimp only; walk1) | (leave1; walk_say "STEP leave1"; try dsimp only) | fail "no step")
  done)
end Mine
end PartLf_all
theorem PySem.Challenge.cw_pe0219_01_holds : PySem.Challenge.rw_pe0219_01.Holds := by
  exact Mine.law1
