import PyProof.Rows.All
import Wide.All
import OpenK.AllK
import Wide.FinOn
import PySem.Challenge.RW_pe0167_02
open PySem PySem.W PySem.Calls PyProof.Rows
set_option Elab.async false
set_option compiler.extract_closed false
set_option genInjectivity false
set_option genSizeOfSpec false
set_option maxRecDepth 100000
namespace Mine
noncomputable def vw : Program := { Challenge.pw_pe0167_02 with main := { Challenge.pw_pe0167_02.main with body := [0, 2, 4, 6, 7, 8, 9, 10, 11, 12, 13, 14, 15].filterMap fun i => Challenge.pw_pe0167_02.main.body[i]? } }
/-- topFrom over the library's quick copies of the run and its tables -/
noncomputable def topQ (p : Program) (w : World) (N : Nat) (s₀ : Shared) : Option Shared :=
  match s₀.heap.isNs mainGlobals && s₀.gens.size == 0 with
  | true => (PySem.W.Fast.tw14082659384304107361 PySem.W.Fast.tw14364793385576792824 p w s₀.heap.objs.size (s₀.heap.nsMap mainGlobals "__annotations__") N s₀ (topStub p)).bind fun s₁ => match staticsOk (importedModules p.main.body) s₀.heap s₁.heap && namesBound p s₁.heap && gensDone s₁ && laidKept s₀.heap s₁.heap with
      | true => some s₁
      | false => none
  | false => none
theorem topQ_eq (p : Program) (w : World) (N : Nat) (s : Shared) : topFrom treeTable p w N s = topQ p w N s := by
  unfold topFrom topQ
  rw [PySem.W.Fast.te14082659384304107361, PySem.W.Fast.te14364793385576792824]
  rfl
theorem left_of {p q : Program} {loose : List Str} {Xt : Shared → Bool} {α : Type} {Yf : Shared → α} {Ya : World → α} {N : Nat} (e : opening p = plainProg p.main.scope.names) (hN : Nat.ble 600 N = true) (f : ∀ s, fenceModules? p s = some s) (row : String)
    (h : ∀ (b : Bool) (w : World) (os : OsState), (topQ p (w.withFollow row b) N ⟨boot_heap w.params, Array.mk [], boot_drawn, boot_toks, os⟩).map (fun s => PySem.W.Fast.tw4187177175401517315 q loose (importedModules p.main.body) Xt true s) = some (openGood q loose))
    (y : ∀ (b : Bool) (w : World) (os : OsState), (topQ p (w.withFollow row b) N ⟨boot_heap w.params, Array.mk [], boot_drawn, boot_toks, os⟩).map Yf = some (Ya (w.withFollow row b))) :
    LeftO p q loose Xt Yf Ya N true := fun w => by
  obtain ⟨s, a, b⟩ := Option.map_eq_some_iff.mp (boot_open (p := p) e hN f w)
  obtain ⟨hh, hg, hd, ht⟩ : s.heap = boot_heap w.params ∧ s.gens = Array.mk [] ∧ s.drawn = boot_drawn ∧ s.toks = boot_toks := by simpa using b
  have es : s = ⟨boot_heap w.params, Array.mk [], boot_drawn, boot_toks, s.os⟩ := by cases s; simp_all
  unfold openEnds
  rw [a]
  have k := h (w.params.followText row) w s.os
  have z := y (w.params.followText row) w s.os
  rw [World.withFollow_self w row] at k z
  obtain ⟨s', k1, k2⟩ := Option.map_eq_some_iff.mp k
  rw [k1] at z
  show (topFrom treeTable p w N s).map _ = _
  rw [es, topQ_eq, k1, PySem.W.Fast.te4187177175401517315]
  show some (_, Yf s') = _
  rw [k2, Option.some.inj z]
noncomputable abbrev row1 : OpenRow := Challenge.rw_pe0167_02.row
noncomputable def xt1 (s : Shared) : Bool := xlAt vw [] s && recOk (RowW.records row1.toRowW) s
theorem seen_f (w : World) (os : OsState) : (topQ Challenge.pw_pe0167_02 (w.withFollow "special-get-raises" false) 3000 ⟨boot_heap w.params, Array.mk [], boot_drawn, boot_toks, os⟩).map (fun s => PySem.W.Fast.tw4187177175401517315 vw [Str.ofString "Whitespace"] (importedModules Challenge.pw_pe0167_02.main.body) xt1 true s) = some (openGood vw [Str.ofString "Whitespace"]) := by kernel_rfl
theorem seen_t (w : World) (os : OsState) : (topQ Challenge.pw_pe0167_02 (w.withFollow "special-get-raises" true) 3000 ⟨boot_heap w.params, Array.mk [], boot_drawn, boot_toks, os⟩).map (fun s => PySem.W.Fast.tw4187177175401517315 vw [Str.ofString "Whitespace"] (importedModules Challenge.pw_pe0167_02.main.body) xt1 true s) = some (openGood vw [Str.ofString "Whitespace"]) := by kernel_rfl
theorem said1 : Challenge.rw_pe0167_02.wellSaid = true := by kernel_rfl
local macro_rules | `(tactic| o_law) => `(tactic| refine holds_law said1 fun said => ?_)
local macro_rules | `(tactic| o_head $H) => `(tactic| (
  refine holds_open (q := vw) (loose := [Str.ofString "Whitespace"]) (Xt := xt1) (XP := XL vw []) (Yf := Hook.obs $H) (Ya := Hook.val $H) (YP := Hook.says $H) (N := 3000) ?hl (Hook.of $H) (Hook.keeps $H) (fun s e => xl_of s (Bool.and_eq_true_iff.mp e).1) XL.keeps (by rfl) (by rfl) (by rfl) (fun s e => recFacts_of (Bool.and_eq_true_iff.mp e).2) (by rfl) (by first | assumption | decide +kernel) (by decide +kernel) ⟨rfl, rfl, rfl, rfl, rfl, by decide +kernel⟩ ?hw ?hc
  (case hl => exact left_of (by kernel_rfl) (by kernel_rfl) (fun _ => by kernel_rfl) "special-get-raises" (fun b => Bool.rec seen_f seen_t b) (fun b => Bool.rec (fun _ _ => by kernel_rfl) (fun _ _ => by kernel_rfl) b))))
set_option maxRecDepth 100000 in
set_option maxHeartbeats 4000000 in
open_top hd for PySem.Challenge.rw_pe0167_02
end Mine
namespace Mine

/-- the heap but for the addresses in M stands as it was -/
noncomputable def Kept (h h' : Heap) (M : List Addr) : Prop := ∀ b o, h.get? b = some o → b ∉ M → h'.get? b = some o

/-- what a call leaves: all but M is kept; the ledger news' holds, each of its objects is of M or new -/
structure Ends (h h' : Heap) (M : List Addr) (news' : List (Addr × Obj)) : Prop where
  kept : Kept h h' M
  has : ∀ p ∈ news', h'.get? p.1 = some p.2 ∧ (p.1 ∈ M ∨ h.get? p.1 = none)

/-- the written part and the top's facts, at a heap that lies under all -/
structure Gd (K : Frag) (lo : List Str) (mean : ExcName → Option Value) (mg mb : Str → Option Value) (b : Heap) : Prop where
  X : K.In b
  T : Top topProg lo mean mg mb b
theorem Gd.keeps {K : Frag} {lo : List Str} {mean : ExcName → Option Value} {mg mb : Str → Option Value} {b h : Heap} (G : Gd K lo mean mg mb b) (k : ∀ x o, b.get? x = some o → h.get? x = some o) : Gd K lo mean mg mb h :=
  ⟨G.X.keeps k, G.T.keeps k⟩

/-- the ledger at a heap, over the ground b₀ -/
noncomputable def Led (b₀ h : Heap) (l : List (Addr × Obj)) : Prop := ∀ p ∈ l, h.get? p.1 = some p.2 ∧ b₀.get? p.1 = none
noncomputable def Over (b₀ h : Heap) : Prop := ∀ b o, b₀.get? b = some o → h.get? b = some o

theorem Led.nil {b₀ h : Heap} : Led b₀ h [] := fun _ hp => nomatch hp
theorem Led.cons {b₀ h : Heap} {a : Addr} {o : Obj} {r : List (Addr × Obj)} (e : h.get? a = some o) (hg : b₀.get? a = none) (N : Led b₀ h r) : Led b₀ h ((a, o) :: r) := fun p hp => by
  rcases List.mem_cons.mp hp with rfl | hp
  · exact ⟨e, hg⟩
  · exact N p hp
section
variable {prog : Program} {w : World} {A : Around} {s : Shared} {R : Result → Shared → Prop} {K : Frag} {lo : List Str} {mean : ExcName → Option Value} {mg mb : Str → Option Value} {b₀ : Heap}
theorem enter
    {name qual : Str} {params : Arguments} {body : List Stmt} {scope : Scope} {dV kV doc pm cdv ct oc : Value} {an od : Option Addr} {osl : Array (Option Value)}
    {f : Addr} {args : Args} {binds : List (Str × Value)}
    (news : List (Addr × Obj)) (G : Gd K lo mean mg mb b₀) (hb : Over b₀ s.heap) (hN : Led b₀ s.heap news)
    (ho : K.lookup f = some ⟨oc, od, .func (fnOf name qual params body scope dV kV doc pm an cdv ct), osl⟩) (hcd : codeIn K cdv qual = true) (hroom : A.depth < recursionLimit)
    (hbind : BindsTo s (fnOf name qual params body scope dV kV doc pm an cdv ct) args binds) (hloc : ∀ y ∈ binds, scope.names.lookup y.1 = some .local)
    (hcell : ∀ x ∈ scope.names, x.2 ≠ .cell)
    (h : ∀ g L h₁ tk, Fr g L h₁ (fun y => binds.reverse.lookup y) → News g L h₁ news → K.In g → Top topProg lo mean mg mb g →
      (∀ b o, s.heap.get? b = some o → b ∉ news.map (·.1) → g.get? b = some o) →
      wpAny (model prog w) (A.deeper (envOf qual scope L f cdv)) (execs body (envOf qual scope L f cdv))
        (fun fl s' => R (.ok (.ret (match fl with | .ret v => v | _ => .none))) s') (fun _ _ => False)
        { s with heap := h₁, toks := tk })
    (hco : scope.isCoroutine = false := by rfl) (hgen : scope.isGenerator = false := by rfl) (hk : scope.kind = .function := by rfl) :
    codeAny (model prog w) A (.call (.ref f) args) R s := by
  have hs : ∀ b o, b₀.get? b = some o → (hideAll s.heap (news.map (·.1))).get? b = some o := fun b o e => hideAll_get _ (hb b o e) fun q => by
    obtain ⟨p, hp, rfl⟩ := List.mem_map.mp q
    rw [(hN p hp).2] at e; cases e
  have G' := G.keeps hs
  have kp : ∀ b o, (hideAll s.heap (news.map (·.1))).get? b = some o → s.heap.get? b = some o := fun b o e => of_hideAll _ e
  have X' : K.In s.heap := G'.X.keeps kp
  refine codeAny_call_def (fd := fnOf name qual params body scope dV kV doc pm an cdv ct) (body := body) (binds := binds) hroom (X' _ _ ho) rfl (G'.T.nolimit.keeps kp) (codeRec_of X' hcd) rfl hbind hcell hloc (fun h₁ hns hk₁ => ?_) hco hgen hk
  exact wpAny_mono (h _ _ h₁ _ ⟨hns, fun b o e => hk₁ b o (kp b o e), Nat.le_of_eq (hideAll_size _ _)⟩ (fun p hp => ⟨hk₁ _ _ (hN p hp).1, Nat.ne_of_lt (Heap.lt_size (hN p hp).1), hideAll_none _ (List.mem_map_of_mem hp)⟩)
    G'.X G'.T (fun b o e n => hideAll_get _ e n)) (fun _ _ x => x) fun _ _ x => x.elim
end

section
variable {g h h' : Heap} {L : Addr} {m : Str → Option Value} {M : List Addr} {news news' rest : List (Addr × Obj)}
/-- a call's end, as its caller is told -/
theorem ends_of (F : Fr g L h' m) (N : News g L h' news') (hg : ∀ b o, h.get? b = some o → b ∉ M → g.get? b = some o) : Ends h h' M news' := by
  refine ⟨fun b o e n => F.keep b o (hg b o e n), fun p hp => ⟨(N p hp).1, ?_⟩⟩
  by_cases q : p.1 ∈ M
  · exact .inl q
  · refine .inr ?_
    cases e : h.get? p.1 with
    | none => rfl
    | some o => have := hg _ _ e q; rw [(N p hp).2.2] at this; cases this
theorem Ends.fr (E : Ends h h' M news') (F : Fr g L h m) (N : News g L h news) (hM : ∀ a ∈ M, a ∈ news.map (·.1)) : Fr g L h' m := by
  have off : ∀ a ∈ M, a ≠ L ∧ g.get? a = none := fun a ha => by
    obtain ⟨p, hp, rfl⟩ := List.mem_map.mp (hM a ha)
    exact ⟨(N p hp).2.1, (N p hp).2.2⟩
  obtain ⟨oL, es, ep, hL, r⟩ := F.ns
  exact ⟨⟨oL, es, ep, E.kept _ _ hL fun q => (off _ q).1 rfl, r⟩, fun b o e => E.kept _ _ (F.keep b o e) (fun q => by rw [(off _ q).2] at e; cases e), F.above⟩
theorem Ends.led (E : Ends h h' M news') (F : Fr g L h m) (N : News g L h news) (hM : ∀ a ∈ M, a ∈ news.map (·.1)) (hr : ∀ p ∈ rest, p ∈ news ∧ p.1 ∉ M) : News g L h' (news' ++ rest) := by
  have off : ∀ a ∈ M, a ≠ L ∧ g.get? a = none := fun a ha => by
    obtain ⟨p, hp, rfl⟩ := List.mem_map.mp (hM a ha)
    exact ⟨(N p hp).2.1, (N p hp).2.2⟩
  intro p hp
  rcases List.mem_append.mp hp with hp | hp
  · refine ⟨(E.has p hp).1, ?_⟩
    rcases (E.has p hp).2 with q | q
    · exact off _ q
    · refine ⟨fun e => ?_, ?_⟩
      · obtain ⟨oL, es, ep, hL, r⟩ := F.ns
        rw [e, hL] at q; cases q
      · cases e : g.get? p.1 with
        | none => rfl
        | some o => rw [F.keep _ _ e] at q; cases q
  · exact ⟨E.kept _ _ (N p (hr p hp).1).1 (hr p hp).2, (N p (hr p hp).1).2⟩
theorem news_sub (N : News g L h news) (hs : ∀ p ∈ news', p ∈ news) : News g L h news' := fun p hp => N p (hs p hp)
theorem inst_gn {x C dx : Addr} {od : Obj} (F : Fr g L h m) (e : g.get? x = some (instObj C dx)) (N : News g L h news) (h2 : (dx, od) ∈ news) : InstAt h x (instObj C dx) C (some od) :=
  ⟨F.keep _ _ e, rfl, rfl, (N _ h2).1⟩
theorem inst_gg {x C dx : Addr} {od : Obj} (F : Fr g L h m) (e : g.get? x = some (instObj C dx)) (h2 : g.get? dx = some od) : InstAt h x (instObj C dx) C (some od) :=
  ⟨F.keep _ _ e, rfl, rfl, F.keep _ _ h2⟩
end

end Mine
namespace Mine
section
variable {prog : Program} {w : World} {A : Around} {s : Shared} {R : Result → Shared → Prop} {K : Frag} {lo : List Str} {mean : ExcName → Option Value} {mg mb : Str → Option Value} {b₀ : Heap}
/-- a def some of whose names are cells -/
theorem enterC
    {name qual : Str} {params : Arguments} {body : List Stmt} {scope : Scope} {dV kV doc pm cdv ct oc : Value} {an od : Option Addr} {osl : Array (Option Value)}
    {f : Addr} {args : Args} {binds : List (Str × Value)}
    (news : List (Addr × Obj)) (G : Gd K lo mean mg mb b₀) (hb : Over b₀ s.heap) (hN : Led b₀ s.heap news)
    (ho : K.lookup f = some ⟨oc, od, .func (fnOf name qual params body scope dV kV doc pm an cdv ct), osl⟩) (hcd : codeIn K cdv qual = true) (hroom : A.depth < recursionLimit)
    (hbind : BindsTo s (fnOf name qual params body scope dV kV doc pm an cdv ct) args binds)
    (hkind : (binds.all fun y => scope.names.lookup y.1 == some .local || scope.names.lookup y.1 == some .cell) = true)
    (hnd : ((cellsFrom 0 scope.names []).map (·.1)).Nodup)
    (h : ∀ g L h₁ tk cells, Fr g L h₁ (bindL (envOfC qual scope L f cdv).kindOf binds fun _ => none) → News g L h₁ (cells ++ news) →
      CellsAre (bindC (envOfC qual scope L f cdv).kindOf binds fun _ => none) (cellsFrom (L + 1) scope.names []) cells → K.In g → Top topProg lo mean mg mb g →
      (∀ p ∈ news, p.1 < L) → (∀ b o, s.heap.get? b = some o → b ∉ news.map (·.1) → g.get? b = some o) →
      wpAny (model prog w) (A.deeper (envOfC qual scope L f cdv)) (execs body (envOfC qual scope L f cdv))
        (fun fl s' => R (.ok (.ret (match fl with | .ret v => v | _ => .none))) s') (fun _ _ => False)
        { s with heap := h₁, toks := tk })
    (hco : scope.isCoroutine = false := by rfl) (hgen : scope.isGenerator = false := by rfl) (hk : scope.kind = .function := by rfl) :
    codeAny (model prog w) A (.call (.ref f) args) R s := by
  have hs : ∀ b o, b₀.get? b = some o → (hideAll s.heap (news.map (·.1))).get? b = some o := fun b o e => hideAll_get _ (hb b o e) fun q => by
    obtain ⟨p, hp, rfl⟩ := List.mem_map.mp q
    rw [(hN p hp).2] at e; cases e
  have G' := G.keeps hs
  have kp : ∀ b o, (hideAll s.heap (news.map (·.1))).get? b = some o → s.heap.get? b = some o := fun b o e => of_hideAll _ e
  have X' : K.In s.heap := G'.X.keeps kp
  refine codeAny_call_function hroom (X' _ _ ho) rfl hco hgen rfl (codeRec_of X' hcd) (hbind _ _ _ _ ?_)
  refine wpAny_newFunctionEnv_cells hk (kindsX hkind _) fun env' he s' x => ?_
  subst he
  refine ⟨(G'.T.nolimit.keeps kp).keeps x.toInCall.keep, codeAny_func ?_⟩
  obtain ⟨h₁, tk, rfl, _⟩ := x.done
  have hk₁ := x.toInCall.keep
  obtain ⟨cells, NC, Y⟩ := Cl.news (h₀ := s.heap) (Nat.le_refl _) fun n c hm => ⟨x.cell n c (lookup_of_mem_nodup (cellsFrom_names scope.names 0 (s.heap.objs.size + 1) [] [] rfl ▸ hnd) hm), x.above n c hm⟩
  refine wpAny_mono (h _ s.heap.objs.size h₁ tk cells ⟨x.toInCall.ns, fun b o e => hk₁ b o (kp b o e), Nat.le_of_eq (hideAll_size _ _)⟩ (fun p hp => ?_) Y G'.X G'.T (fun p hp => Heap.lt_size (hN p hp).1) (fun b o e n => hideAll_get _ e n)) (fun _ _ x => x) fun _ _ x => x.elim
  rcases List.mem_append.mp hp with hp | hp
  · refine ⟨(NC p hp).1, (NC p hp).2.1, ?_⟩
    cases q : (hideAll s.heap (news.map (·.1))).get? p.1 with
    | none => rfl
    | some o => have := of_hideAll _ q; rw [(NC p hp).2.2] at this; cases this
  · exact ⟨hk₁ _ _ (hN p hp).1, Nat.ne_of_lt (Heap.lt_size (hN p hp).1), hideAll_none _ (List.mem_map_of_mem hp)⟩

/-- a lambda that closes over cells -/
theorem enterE
    {name qual : Str} {params : Arguments} {body : PySem.Expr} {scope : Scope} {cl : List (Str × Addr)} {pm ctv : Value} {c' f : Addr} {args : Args} {binds : List (Str × Value)}
    (news : List (Addr × Obj)) (G : Gd K lo mean mg mb b₀) (hb : Over b₀ s.heap) (hN : Led b₀ s.heap news)
    (ho : s.heap.get? f = some (kla_obj name qual params body scope cl pm c' ctv)) (hcd : s.heap.CodeRec (.ref c') qual) (hroom : A.depth < recursionLimit)
    (hbind : bindArgs (kla_fn name qual params body scope cl pm (.ref c') ctv) args = pure binds) (hloc : ∀ y ∈ binds, scope.names.lookup y.1 = some .local)
    (hcell : ∀ x ∈ scope.names, x.2 ≠ .cell)
    (h : ∀ g L h₁ tk, Fr g L h₁ (fun y => binds.reverse.lookup y) → News g L h₁ news → K.In g → Top topProg lo mean mg mb g →
      (∀ b o, s.heap.get? b = some o → b ∉ news.map (·.1) → g.get? b = some o) →
      wpAny (model prog w) (A.deeper (envX qual scope L f (.ref c') cl)) (eval body (envX qual scope L f (.ref c') cl))
        (fun v s' => R (.ok (.ret v)) s') (fun _ _ => False)
        { s with heap := h₁, toks := tk })
    (hco : scope.isCoroutine = false := by rfl) (hgen : scope.isGenerator = false := by rfl) (hk : scope.kind = .function := by rfl) :
    codeAny (model prog w) A (.call (.ref f) args) R s := by
  have hs : ∀ b o, b₀.get? b = some o → (hideAll s.heap (news.map (·.1))).get? b = some o := fun b o e => hideAll_get _ (hb b o e) fun q => by
    obtain ⟨p, hp, rfl⟩ := List.mem_map.mp q
    rw [(hN p hp).2] at e; cases e
  have G' := G.keeps hs
  have kp : ∀ b o, (hideAll s.heap (news.map (·.1))).get? b = some o → s.heap.get? b = some o := fun b o e => of_hideAll _ e
  refine kla_callFunE hroom ho rfl hco hgen rfl hcd ?_
  rw [hbind]
  refine wpAny_pure (wpAny_newFunctionEnv hcell hloc (fun h₁ hns hsb => ⟨(G'.T.nolimit.keeps kp).fresh _ hsb, ?_⟩) hk)
  show codeAny _ _ (.expr body (envX qual scope s.heap.objs.size f (.ref c') cl)) _ _
  have hk₁ : ∀ b o, s.heap.get? b = some o → h₁.get? b = some o := fun b o e => hsb.extBut b o (Nat.ne_of_lt (Heap.lt_size e)) (Heap.get?_push_of_some _ e)
  exact kla_codeExpr (wpAny_mono (h _ s.heap.objs.size h₁ _ ⟨hns, fun b o e => hk₁ b o (kp b o e), Nat.le_of_eq (hideAll_size _ _)⟩
    (fun p hp => ⟨hk₁ _ _ (hN p hp).1, Nat.ne_of_lt (Heap.lt_size (hN p hp).1), hideAll_none _ (List.mem_map_of_mem hp)⟩) G'.X G'.T (fun b o e n => hideAll_get _ e n)) (fun _ _ x => x) fun _ _ x => x.elim)
end
end Mine
namespace Mine
/-- a fact kept out of sight -/
structure Hid (p : Prop) : Prop where
  out : p
theorem sub_one_of {i n : Nat} (h : i < n) : n - i = n - (i + 1) + 1 := by omega
theorem lt_nat {i n : Nat} (h : i < ((n : Int) - 0).toNat) : i < n := by rwa [Int.sub_zero] at h

/-- none of the ledger's addresses is I -/
noncomputable def AllNe (I : Nat) : List (Addr × Obj) → Prop
  | [] => True
  | p :: r => @Ne Nat p.1 I ∧ AllNe I r
theorem AllNe.mem {I : Nat} : ∀ {l : List (Addr × Obj)}, AllNe I l → ∀ p ∈ l, p.1 ≠ I
  | [], _, _, h => nomatch h
  | _ :: _, x, p, h => by
    rcases List.mem_cons.mp h with rfl | h
    · exact x.1
    · exact AllNe.mem x.2 p h
theorem AllNe.of {I : Nat} : ∀ {l : List (Addr × Obj)}, (∀ p ∈ l, p.1 ≠ I) → AllNe I l
  | [], _ => trivial
  | _ :: _, h => ⟨h _ List.mem_cons_self, AllNe.of fun p hp => h p (List.mem_cons_of_mem _ hp)⟩

theorem know {g h : Heap} {L : Addr} {m : Str → Option Value} {x : Str} {v : Value} (F : Fr g L h m) (e : m x = some v) : Fr g L h (fun y => if y = x then some v else m y) := by
  have : (fun y => if y = x then some v else m y) = m := by
    funext y
    by_cases q : y = x
    · rw [if_pos q, q, e]
    · rw [if_neg q]
  rw [this]; exact F

section
variable {prog : Program} {w : World} {A : Around} {E : Value → Shared → Prop} {s : Shared} {env : Env} {g : Heap} {L : Addr} {m : Str → Option Value} {news : List (Addr × Obj)} {Q : Flow → Shared → Prop}

noncomputable def ForSrc (prog : Program) (w : World) (A : Around) (env : Env) (tgt : PySem.Expr) (body : List Stmt) (Q : Flow → Shared → Prop) (xv : Value) (s₁ : Shared) : Prop :=
  wpAny (model prog w) A (pyIter xv) (fun it s₂ => codeAny (model prog w) A (.forLoop tgt it body [] env) (fun r s' => match r with | .ok f => Q f s' | .error _ => False) s₂) (fun _ _ => False) s₁

theorem for_exec {tgt iter : PySem.Expr} {body : List Stmt} {pos : Pos} (h : wpAny (model prog w) A (eval iter env) (ForSrc prog w A env tgt body Q) E s)
    (hs : ∀ x, foldedSetIterable iter env x = pure x := by intro _; rfl) : wpAny (model prog w) A (exec (.For tgt iter body [] pos) env) Q E s :=
  wpAny_For (wpAny_mono h (fun _ _ hx => wpAny_mono hx (fun _ _ hc => codeAny_mono hc fun r _ q => by cases r with | ok f => exact q | error _ => exact q.elim) fun _ _ q => q.elim) fun _ _ e => e) hs

/-- a turn's end -/
noncomputable def Turn (g : Heap) (L I : Addr) (oI : Obj) (s : Shared) (Jn : (Str → Option Value) → List (Addr × Obj) → Prop) (Q : Flow → Shared → Prop) (f : Flow) (s₂ : Shared) : Prop :=
  match f with
  | .ret v => Q (.ret v) s₂
  | .brk => Q .next s₂
  | _ => ∃ h' tk m₂ news₂, s₂ = { s with heap := h', toks := tk } ∧ Fr g L h' m₂ ∧ News g L h' ((I, oI) :: news₂) ∧ AllNe I news₂ ∧ Jn m₂ news₂

theorem turn_next {I : Addr} {oI : Obj} {Jn : (Str → Option Value) → List (Addr × Obj) → Prop} {h' : Heap} {tk : Nat} {m₂ : Str → Option Value} {all : List (Addr × Obj)} (F : Fr g L h' m₂) (N : News g L h' all) (news₂ : List (Addr × Obj))
    (hs : ∀ p ∈ (I, oI) :: news₂, p ∈ all) (ho : AllNe I news₂) (hj : Jn m₂ news₂) : Turn g L I oI s Jn Q .next { s with heap := h', toks := tk } :=
  ⟨h', tk, m₂, news₂, rfl, F, fun p hp => N p (hs p hp), ho, hj⟩
theorem for_walk {x : Str} {px : Pos} {body : List Stmt} {I : Addr} {fp : List Addr} {n : Nat} {P : Nat → Value → Prop} {St : Nat → Heap → Prop}
    (W : Walks prog w A I fp [I] n P St) (hfp : ∀ b ∈ fp, b ≠ I → ∃ o, g.get? b = some o) (hIo : ∀ i h, St i h → ∃ o, h.get? I = some o)
    (hL : env.locals = L) (hx : env.kindOf x = some .local) (hp : (env.scope.kind == .class || (env.scope.kind == .module && env.locals != env.globals)) = false)
    (hIL : I ≠ L) (hIg : g.get? I = none) (hIn : ∀ p ∈ news, p.1 ≠ I) (hst : St 0 s.heap) (F : Fr g L s.heap m) (N : News g L s.heap news)
    (J : Nat → (Str → Option Value) → List (Addr × Obj) → Prop) (h0 : J 0 m news)
    (turn : ∀ i v m₁ news₁ h tk oI, i < n → P i v → J i m₁ news₁ → AllNe I news₁ → Fr g L h (fun y => if y = x then some v else m₁ y) → News g L h ((I, oI) :: news₁) →
      wpAny (model prog w) A (execs body env) (Turn g L I oI s (J (i + 1)) Q) (fun _ _ => False) { s with heap := h, toks := tk })
    (done : ∀ h tk m' news', Fr g L h m' → News g L h news' → J n m' news' → Q .next { s with heap := h, toks := tk }) :
    codeAny (model prog w) A (.forLoop (.Name x px) (.ref I) body [] env) (fun r s' => match r with | .ok f => Q f s' | .error _ => False) s := by
  subst hL
  have hIf : I ∈ fp := W.sub I (List.mem_singleton.mpr rfl)
  have old : ∀ b o, g.get? b = some o → b ∉ [I] := fun b o e hb => by rw [List.mem_singleton.mp hb, hIg] at e; cases e
  have hLw : env.locals ∉ [I] := fun h => hIL (List.mem_singleton.mp h).symm
  refine codeAny_forLoop
    (fun k s' => ∃ h' tk m' news' i, s' = { s with heap := h', toks := tk } ∧ St i h' ∧ Fr g env.locals h' m' ∧ News g env.locals h' news' ∧ (∀ p ∈ news', p.1 ≠ I) ∧ J i m' news' ∧ i ≤ n ∧ k = n + 1 - i) ?_ (n + 1)
    ⟨s.heap, s.toks, m, news, 0, rfl, hst, F, N, hIn, h0, Nat.zero_le _, rfl⟩
  rintro k s' ⟨h', tk, m', news', i, rfl, hst', F', N', hnw', hJ, hi, rfl⟩
  have next : ∀ h₁ : Heap, (∀ b o, b ∉ [I] → h'.get? b = some o → h₁.get? b = some o) → Fr g env.locals h₁ m' ∧ News g env.locals h₁ news' := fun h₁ hk₁ =>
    ⟨⟨F'.ns.at' fun o e => hk₁ _ o hLw e, fun b o e => hk₁ b o (old b o e) (F'.keep b o e), F'.above⟩, fun p hp => ⟨hk₁ _ _ (fun q => hnw' p hp (List.mem_singleton.mp q)) (N' p hp).1, (N' p hp).2⟩⟩
  by_cases hlt : i < n
  · refine W.item i _ _ _ hlt hst' fun v h₁ tk₁ hP hst₁ hk₁ => ?_
    obtain ⟨F₁, N₁⟩ := next h₁ hk₁
    refine wpAny_assign_Name (wpAny_storeName_local hx F₁.ns (fun h₂ hn₂ hs₂ => ?_) hp)
    have F₂ := F₁.set hn₂ hs₂
    obtain ⟨oI, hoI⟩ := hIo _ _ hst₁
    have hoI₂ : h₂.get? I = some oI := (hs₂.2 I hIL).trans hoI
    have N₂ : News g env.locals h₂ ((I, oI) :: news') := fun p hp => by
      rcases List.mem_cons.mp hp with rfl | hp
      · exact ⟨hoI₂, hIL, hIg⟩
      · exact N₁.set hs₂ p hp
    refine wpAny_mono (turn i v m' news' h₂ _ oI hlt hP hJ (.of hnw') F₂ N₂) (fun f s₃ h₃ => ?_) fun _ _ e => e.elim
    have fin : (∃ h₄ tk₄ m₂ news₂, s₃ = { s with heap := h₄, toks := tk₄ } ∧ Fr g env.locals h₄ m₂ ∧ News g env.locals h₄ ((I, oI) :: news₂) ∧ AllNe I news₂ ∧ J (i + 1) m₂ news₂) →
        ∃ m, m < n + 1 - i ∧ ∃ h' tk m' news' i, s₃ = { s with heap := h', toks := tk } ∧ St i h' ∧ Fr g env.locals h' m' ∧ News g env.locals h' news' ∧ (∀ p ∈ news', p.1 ≠ I) ∧ J i m' news' ∧ i ≤ n ∧ m = n + 1 - i := by
      rintro ⟨h₄, tk₄, m₂, news₂, rfl, F₄, N₄, ho₄, hJ₄⟩
      refine ⟨n + 1 - (i + 1), by omega, h₄, tk₄, m₂, news₂, i + 1, rfl, ?_, F₄, fun p hp => N₄ p (.tail _ hp), ho₄.mem, hJ₄, hlt, rfl⟩
      refine W.frame _ _ _ hst₁ fun b hb o e => ?_
      by_cases q : b = I
      · subst q
        rw [hoI] at e; cases e
        exact (N₄ _ (.head _)).1
      · obtain ⟨o', ho'⟩ := hfp b hb q
        have e₁ := F₁.keep b o' ho'
        rw [e] at e₁; cases e₁
        exact F₄.keep b o ho'
    cases f with
    | ret v => exact h₃
    | brk => exact h₃
    | next => exact fin h₃
    | cont => exact fin h₃
  · have hin : i = n := by omega
    subst hin
    refine W.done _ _ _ hst' fun h₁ tk₁ hk₁ => wpAny_execs_nil ?_
    obtain ⟨F₁, N₁⟩ := next h₁ hk₁
    exact done h₁ tk₁ m' news' F₁ N₁ hJ

theorem for_list {x : Str} {px : Pos} {body : List Stmt} {ax : Addr} {its : List Value} (hh : A.handled = none) (hl : g.IsList ax its.toArray)
    (hL : env.locals = L) (hx : env.kindOf x = some .local) (hp : (env.scope.kind == .class || (env.scope.kind == .module && env.locals != env.globals)) = false)
    (F : Fr g L s.heap m) (N : News g L s.heap news)
    (J : Nat → (Str → Option Value) → List (Addr × Obj) → Prop) (h0 : J 0 m news)
    (turn : ∀ i v m₁ news₁ h tk I oI h₀, i < its.length → its[i]? = some v → J i m₁ news₁ → AllNe I news₁ → Fr g L h (fun y => if y = x then some v else m₁ y) → News g L h ((I, oI) :: news₁) →
      wpAny (model prog w) A (execs body env) (Turn g L I oI { s with heap := h₀ } (J (i + 1)) Q) (fun _ _ => False) { s with heap := h, toks := tk })
    (done : ∀ h tk m' news', Fr g L h m' → News g L h news' → J its.length m' news' → Q .next { s with heap := h, toks := tk }) :
    ForSrc prog w A env (.Name x px) body Q (.ref ax) s := by
  have hls : s.heap.IsList ax its.toArray := hl.at fun o e => F.keep ax o e
  obtain ⟨ol, hol, _⟩ := id hl
  have hlt : ax < s.heap.objs.size := Heap.lt_size (F.keep _ _ hol)
  unfold ForSrc
  refine wpAny_pyIter_list hls ?_
  have W := Walks.list (prog := prog) (w := w) hh s.heap.objs.size ax (Nat.ne_of_lt hlt) its.toArray
  have up : ∀ b o, s.heap.get? b = some o → (s.heap.push { cls := .type "list_iterator", data := .fields #[.ref ax, .int 0 0] }).get? b = some o := fun b o e => Heap.get?_push_of_some _ e
  refine for_walk (m := m) (news := news) W (fun b hb hne => ?_) (fun i h st => ?_) hL hx hp (Nat.ne_of_gt F.ns.lt) (next_is_new F) (fun p hp => Nat.ne_of_lt (Heap.lt_size (N p hp).1)) ⟨⟨_, Heap.get?_push_size _ rfl, rfl, rfl⟩, hls.push _⟩ (F.keeps up) (N.grown up) J h0 ?_ ?_
  · rcases List.mem_cons.mp hb with q | hb
    · exact absurd q hne
    · rw [List.mem_singleton.mp hb]; exact ⟨_, hol⟩
  · obtain ⟨o, e, _⟩ := st.1; exact ⟨o, e⟩
  · intro i v m₁ news₁ h tk oI hi hP hJ hoff F₁ N₁
    exact turn i v m₁ news₁ h tk _ oI _ (by simpa using hi) (by simpa using hP) hJ hoff F₁ N₁
  · intro h tk m' news' F' N' hJ
    exact done h tk m' news' F' N' (by simpa using hJ)

theorem for_str {x : Str} {px : Pos} {body : List Stmt} {u : Str} {tu : Tok} (hh : A.handled = none)
    (hL : env.locals = L) (hx : env.kindOf x = some .local) (hp : (env.scope.kind == .class || (env.scope.kind == .module && env.locals != env.globals)) = false)
    (F : Fr g L s.heap m) (N : News g L s.heap news)
    (J : Nat → (Str → Option Value) → List (Addr × Obj) → Prop) (h0 : J 0 m news)
    (turn : ∀ i c tc m₁ news₁ h tk I oI h₀, i < u.cps.size → u.cps[i]? = some c → J i m₁ news₁ → AllNe I news₁ → Fr g L h (fun y => if y = x then some (.str ⟨#[c]⟩ tc) else m₁ y) → News g L h ((I, oI) :: news₁) →
      wpAny (model prog w) A (execs body env) (Turn g L I oI { s with heap := h₀ } (J (i + 1)) Q) (fun _ _ => False) { s with heap := h, toks := tk })
    (done : ∀ h tk m' news', Fr g L h m' → News g L h news' → J u.cps.size m' news' → Q .next { s with heap := h, toks := tk }) :
    ForSrc prog w A env (.Name x px) body Q (.str u tu) s := by
  unfold ForSrc
  have up : ∀ o b o', s.heap.get? b = some o' → (s.heap.push o).get? b = some o' := fun o b o' e => Heap.get?_push_of_some _ e
  cases ha : u.cps.all (· < 128)
  · refine wpAny_pyIter_wide ha ?_
    refine for_walk (m := m) (news := news) (Walks.strWide hh _ u tu) (fun b hb hne => absurd (List.mem_singleton.mp hb) hne) (fun i h st => by obtain ⟨o, e, _⟩ := st; exact ⟨o, e⟩) hL hx hp (Nat.ne_of_gt F.ns.lt) (next_is_new F)
      (fun p hp => Nat.ne_of_lt (Heap.lt_size (N p hp).1)) ⟨_, Heap.get?_push_size _ rfl, rfl, rfl⟩ (F.keeps (up _)) (N.grown (up _)) J h0 ?_ ?_
    · rintro i v m₁ news₁ h tk oI hi ⟨c, tc, hc, rfl⟩ hJ hoff F₁ N₁
      exact turn i c tc m₁ news₁ h tk _ oI _ hi hc hJ hoff F₁ N₁
    · intro h tk m' news' F' N' hJ
      exact done h tk m' news' F' N' hJ
  · refine wpAny_pyIter_ascii ha ?_
    refine for_walk (m := m) (news := news) (Walks.strAscii hh _ u tu) (fun b hb hne => absurd (List.mem_singleton.mp hb) hne) (fun i h st => by obtain ⟨o, e, _⟩ := st; exact ⟨o, e⟩) hL hx hp (Nat.ne_of_gt F.ns.lt) (next_is_new F)
      (fun p hp => Nat.ne_of_lt (Heap.lt_size (N p hp).1)) ⟨_, Heap.get?_push_size _ rfl, rfl, rfl⟩ (F.keeps (up _)) (N.grown (up _)) J h0 ?_ ?_
    · rintro i v m₁ news₁ h tk oI hi ⟨c, tc, hc, rfl⟩ hJ hoff F₁ N₁
      exact turn i c tc m₁ news₁ h tk _ oI _ hi hc hJ hoff F₁ N₁
    · intro h tk m' news' F' N' hJ
      exact done h tk m' news' F' N' hJ

theorem for_range {x : Str} {px : Pos} {body : List Stmt} {r : Addr} {a b c : Int} {t u v : Tok} {n : Nat} (hh : A.handled = none)
    (hr : IsRange s.heap r a b c t u v) (hsm : Builtin.Range.small a b c = true) (hn : Builtin.Range.rangeSize a b c = ((n : Nat) : Int))
    (hL : env.locals = L) (hx : env.kindOf x = some .local) (hp : (env.scope.kind == .class || (env.scope.kind == .module && env.locals != env.globals)) = false)
    (F : Fr g L s.heap m) (N : News g L s.heap news)
    (J : Nat → (Str → Option Value) → List (Addr × Obj) → Prop) (h0 : J 0 m news)
    (turn : ∀ i tc m₁ news₁ h tk I oI h₀, i < n → J i m₁ news₁ → AllNe I news₁ → Fr g L h (fun y => if y = x then some (.int (a + (i : Int) * c) tc) else m₁ y) → News g L h ((I, oI) :: news₁) →
      wpAny (model prog w) A (execs body env) (Turn g L I oI { s with heap := h₀ } (J (i + 1)) Q) (fun _ _ => False) { s with heap := h, toks := tk })
    (done : ∀ h tk m' news', Fr g L h m' → News g L h news' → J n m' news' → Q .next { s with heap := h, toks := tk }) :
    ForSrc prog w A env (.Name x px) body Q (.ref r) s := by
  unfold ForSrc
  refine wpAny_pyIter_range hr hsm ?_
  have up : ∀ o b o', s.heap.get? b = some o' → (s.heap.push o).get? b = some o' := fun o b o' e => Heap.get?_push_of_some _ e
  refine for_walk (m := m) (news := news) (Walks.range hh _ a c n) (fun b hb hne => absurd (List.mem_singleton.mp hb) hne) (fun i h st => ⟨_, st⟩) hL hx hp (Nat.ne_of_gt F.ns.lt) (next_is_new F)
    (fun p hp => Nat.ne_of_lt (Heap.lt_size (N p hp).1)) (by show IsRangeIter _ _ _ _ _; rw [hn]; simpa using Heap.get?_push_size _ rfl) (F.keeps (up _)) (N.grown (up _)) J h0 ?_ ?_
  · rintro i v m₁ news₁ h tk oI hi ⟨tc, rfl⟩ hJ hoff F₁ N₁
    exact turn i tc m₁ news₁ h tk _ oI _ hi hJ hoff F₁ N₁
  · intro h tk m' news' F' N' hJ
    exact done h tk m' news' F' N' hJ
end
end Mine
namespace Mine
section
variable {prog : Program} {w : World} {A : Around} {s : Shared} {env : Env} {Q Q' : Flow → Shared → Prop}
theorem ForSrc.mono {tgt : PySem.Expr} {body : List Stmt} {xv : Value} (h : ForSrc prog w A env tgt body Q' xv s) (k : ∀ f s', Q' f s' → Q f s') : ForSrc prog w A env tgt body Q xv s :=
  wpAny_mono h (fun _ _ hc => codeAny_mono hc fun r _ q => by cases r with | ok f => exact k _ _ q | error _ => exact q) fun _ _ e => e
end
end Mine
namespace Mine
noncomputable abbrev Ar (dp : Nat) (fr : Option (List Env)) (gd : Option (List Code)) (un : Nat) : Around := { handled := none, depth := dp, frames := fr, guards := gd, units := un }
end Mine
namespace Mine
section
variable {prog : Program} {w : World} {A : Around} {E : Value → Shared → Prop} {s : Shared} {g : Heap} {L : Addr} {m : Str → Option Value} {news : List (Addr × Obj)}
theorem tupleOf_c {l : Addr} {its : List Value} {n : Nat} {Q : Value → Shared → Prop} (F : Fr g L s.heap m) (N : News g L s.heap news) (hm : (l, listOf its.toArray n) ∈ news) (hz : its.length ≤ sizeLine)
    (h : ∀ D h', Fr g L h' m → News g L h' ((D, ({ cls := .type "tuple", data := .seq its.toArray } : Obj)) :: news) → (∀ p ∈ news, p.1 < D) → Q (.ref D) { s with heap := h' }) : wpAny (model prog w) A (call (.type "tuple") [.ref l]) Q E s := by
  refine call_tuple_list (News.isList N hm) (fun h' hk => ?_) (by simpa using hz)
  have F' : Fr g L h' m := F.keeps hk
  have N' : News g L h' news := fun p hp => ⟨hk _ _ (N p hp).1, (N p hp).2⟩
  exact h _ _ (F'.push _) (N'.push F' _) fun p hp => Heap.lt_size (N' p hp).1
end
end Mine
namespace Mine
section
variable {M : Model} {A : Around} {E : Value → Shared → Prop} {s : Shared} {env : Env} {Q : Flow → Shared → Prop} {h : Heap} {tk : Nat}
theorem execs_n {st : Stmt} {rest : List Stmt}
    (k : ∀ tk, wpAny M A (exec st env) (fun f s' => match f with | .next => wpAny M A (execs rest env) Q E s' | f => Q f s') E { s with heap := h, toks := tk }) :
    wpAny M A (execs (st :: rest) env) Q E { s with heap := h, toks := tk } := wpAny_execs_cons (k tk)
end
end Mine
namespace Mine
section
variable {prog : Program} {w : World} {A : Around} {E : Value → Shared → Prop} {s : Shared} {g : Heap} {L : Addr} {m : Str → Option Value} {news : List (Addr × Obj)}
theorem len_tupI {t : Addr} {vs : List Value} {ns : List Int} {Q : Value → Shared → Prop} (F : Fr g L s.heap m) (ht : IsTup g t vs.toArray) (hi : IntsAre vs ns) (hl : ns.length ≤ 2097152)
    (h : ∀ t' tk', Q (.int ns.length t') { s with toks := tk' }) : wpAny (model prog w) A (call (.builtin "len") [.ref t]) Q E s := by
  have e : vs.toArray.size = ns.length := by simp [hi.length]
  refine PyProof.Rows.len_tuple (Fr.tup F ht) (by rw [e]; omega) ?_
  rw [e]
  exact h _ _
end
end Mine
namespace Mine
section
variable {prog : Program} {w : World} {A : Around} {s : Shared} {env : Env} {g : Heap} {L : Addr} {m : Str → Option Value} {news : List (Addr × Obj)} {Q : Flow → Shared → Prop}
theorem for_up {x : Str} {px : Pos} {body : List Stmt} {r : Addr} {a b : Int} {t u v : Tok} (hh : A.handled = none)
    (hr : IsRange s.heap r a b 1 t u v) (hb : -(2 ^ 62) ≤ a ∧ a < 2 ^ 62 ∧ -(2 ^ 62) ≤ b ∧ b < 2 ^ 62)
    (hL : env.locals = L) (hx : env.kindOf x = some .local) (hp : (env.scope.kind == .class || (env.scope.kind == .module && env.locals != env.globals)) = false)
    (F : Fr g L s.heap m) (N : News g L s.heap news)
    (J : Nat → (Str → Option Value) → List (Addr × Obj) → Prop) (h0 : J 0 m news)
    (turn : ∀ i tc m₁ news₁ h tk I oI h₀, i < (b - a).toNat → J i m₁ news₁ → AllNe I news₁ → Fr g L h (fun y => if y = x then some (.int (a + (i : Int)) tc) else m₁ y) → News g L h ((I, oI) :: news₁) →
      wpAny (model prog w) A (execs body env) (Turn g L I oI { s with heap := h₀ } (J (i + 1)) Q) (fun _ _ => False) { s with heap := h, toks := tk })
    (done : ∀ h tk m' news', Fr g L h m' → News g L h news' → J (b - a).toNat m' news' → Q .next { s with heap := h, toks := tk }) :
    ForSrc prog w A env (.Name x px) body Q (.ref r) s := by
  refine for_range hh hr (small_one hb.1 hb.2.1 hb.2.2.1 hb.2.2.2) (PyProof.Rows.rangeSize_nat a b) hL hx hp F N J h0 ?_ done
  intro i tc m₁ news₁ h tk I oI h₀ hi hJ hne F₁ N₁
  rw [Int.mul_one] at F₁
  exact turn i tc m₁ news₁ h tk I oI h₀ hi hJ hne F₁ N₁
end
end Mine
namespace Mine
section
variable {g h h' : Heap} {L : Addr} {m : Str → Option Value} {news : List (Addr × Obj)}
theorem Ends.fr0 (E : Ends h h' [] []) (F : Fr g L h m) : Fr g L h' m := E.fr (news := []) F News.nil fun _ ha => nomatch ha
theorem Ends.led0 (E : Ends h h' [] []) (N : News g L h news) : News g L h' news := fun p hp => ⟨E.kept _ _ (N p hp).1 (fun q => nomatch q), (N p hp).2⟩
end
end Mine
namespace Mine
/-- a goal that the walk leaves alone -/
noncomputable def Hold (P : Prop) : Prop := P
theorem Hold.out {P : Prop} (h : Hold P) : P := h
theorem Hold.in {P : Prop} (h : P) : Hold P := h
section
variable {M : Model} {A : Around} {E : Value → Shared → Prop} {s : Shared} {env : Env} {Q : Flow → Shared → Prop}
/-- what a statement leaves when it goes on (J), or when it gives back -/
noncomputable def Cut (J : Shared → Prop) (Q : Flow → Shared → Prop) (f : Flow) (s' : Shared) : Prop := match f with
  | .next => J s'
  | f => Q f s'
theorem cut {st : Stmt} (J : Shared → Prop) (h1 : wpAny M A (exec st env) (Cut J Q) E s) (h2 : ∀ s', J s' → Q .next s') : wpAny M A (exec st env) Q E s :=
  wpAny_mono h1 (fun f s' q => by cases f with | next => exact h2 s' q | brk => exact q | cont => exact q | ret v => exact q) fun _ _ e => e
end
end Mine
namespace Mine
theorem cut_ret {J : Shared → Prop} {Q : Flow → Shared → Prop} {v : Value} {s' : Shared} (h : Q (.ret v) s') : Cut J Q (.ret v) s' := h
theorem cut_next {J : Shared → Prop} {Q : Flow → Shared → Prop} {s' : Shared} (h : J s') : Cut J Q .next s' := h
theorem turn_ret {g : Heap} {L I : Addr} {oI : Obj} {s : Shared} {Jn : (Str → Option Value) → List (Addr × Obj) → Prop} {Q : Flow → Shared → Prop} {v : Value} {s₂ : Shared} (h : Q (.ret v) s₂) : Turn g L I oI s Jn Q (.ret v) s₂ := h
end Mine
namespace Mine
/-- no address of M is one of the ledger's -/
noncomputable def AllOff (rest : List (Addr × Obj)) : List Addr → Prop
  | [] => True
  | a :: r => AllNe a rest ∧ AllOff rest r
theorem AllOff.mem {rest : List (Addr × Obj)} : ∀ {M : List Addr}, AllOff rest M → ∀ p ∈ rest, p.1 ∉ M
  | [], _, _, _, h => nomatch h
  | a :: r, x, p, hp, h => by
    rcases List.mem_cons.mp h with q | h
    · exact x.1.mem p hp q
    · exact AllOff.mem x.2 p hp h
section
variable {g h h' : Heap} {L : Addr} {m : Str → Option Value} {news mu rest news' : List (Addr × Obj)} {M : List Addr}
theorem Ends.out (E : Ends h h' M news') (F : Fr g L h m) (N : News g L h (mu ++ rest)) (hM : mu.map (·.1) = M) (hr : AllOff rest M) : Fr g L h' m ∧ News g L h' (news' ++ rest) := by
  have hM' : ∀ a ∈ M, a ∈ (mu ++ rest).map (·.1) := fun a ha => by rw [← hM] at ha; rw [List.map_append]; exact List.mem_append_left _ ha
  exact ⟨E.fr F N hM', E.led F N hM' fun p hp => ⟨List.mem_append_right _ hp, hr.mem p hp⟩⟩
theorem led_of {l : List (Addr × Obj)} (N : News g L h news) (hs : ∀ p ∈ l, p ∈ news) : Led g h l := fun p hp => ⟨(N p (hs p hp)).1, (N p (hs p hp)).2.2⟩
/-- what is new is none of what stood -/
theorem Ends.ne (E : Ends h h' M news') {a b : Nat} {o o' : Obj} (ha : (a, o) ∈ news') (hM : a ∉ M) (hb : h.get? b = some o') : @Ne Nat a b := fun q => by
  rcases (E.has _ ha).2 with e | e
  · exact hM e
  · rw [show (a : Nat) = b from q, hb] at e; cases e
end
end Mine
namespace Mine
section
variable {M : Model} {A : Around} {E : Value → Shared → Prop} {s : Shared} {g : Heap} {L a : Addr} {m : Str → Option Value} {cn : Str} {cs : Scope} {ccd : Value} {cl : List (Str × Addr)}
  {x : Str} {pos : Pos} {v : Value} {Q : Value → Shared → Prop} {c : Addr} {o : Obj}
theorem nameF_g (F : Fr g L s.heap m) (hc : cl.lookup x = some c) (hg : g.get? c = some o) (hd : o.data = .cell (some v)) (h : Q v s)
    (hk : cs.kind = .function := by rfl) (hx : (envX cn cs L a ccd cl).kindOf x = some .free := by rfl) (hb : (x == ("__debug__" : Str)) = false := by decide) (hn : (x == ("__classdict__" : Str)) = false := by decide) :
    wpAny M A (eval (.Name x pos) (envX cn cs L a ccd cl)) Q E s := wpAny_Name (wpAny_loadName_free hk hx hc ⟨o, F.keep _ _ hg, hd⟩ h hn) hb
end
theorem ne_obj {h : Heap} {a b : Nat} {o o' : Obj} (h1 : h.get? a = some o) (h2 : h.get? b = some o') (hne : o.data ≠ o'.data) : @Ne Nat a b := fun q => by
  subst q; rw [h1] at h2; cases h2; exact hne rfl
end Mine
namespace Mine
section
variable {M : Model} {A : Around} {E : Value → Shared → Prop} {s : Shared} {env : Env} {pos : Pos} {a : Addr} {fd : FuncData} {first : List Value} {Q : Value → Shared → Prop}
theorem callWith_g {e : PySem.Expr} {rest : List PySem.Expr} (o : Obj) (ho : o.data = .func fd)
    (h : wpAny M A (spliced (backTo pos (starEach (e :: rest) env))) (fun vs s₁ => s₁.heap.get? a = some o ∧ wpAny M A (call (.ref a) (first ++ vs)) Q E s₁) E s)
    (he : starEach (e :: rest) env = (false, eval e env) :: starEach rest env := by rfl) :
    wpAny M A (callWith pos (.ref a) first (backTo pos (starEach (e :: rest) env)) []) Q E s := by
  rw [he] at h ⊢
  exact callWith_function (o := o) (fd := fd) (evalArgs_plain (wpAny_mono h (fun vs s' q => ⟨⟨q.1, ho⟩, q.2⟩) fun _ _ x => x))
end
end Mine
namespace Mine
theorem Ends.offNew {g h h' : Heap} {L : Addr} {all news' : List (Addr × Obj)} {M : List Addr} (E : Ends h h' M news') (N : News g L h all) {a : Nat} {o : Obj} (ha : (a, o) ∈ news') (hM : a ∉ M) : AllNe a all :=
  .of fun p hp => Ne.symm (E.ne ha hM (N p hp).1)
end Mine
set_option maxRecDepth 100000
namespace Mine
theorem slot_cit_next : Slot "callable_iterator" "__next__" "callable_iterator.__next__" :=
  .of (owner := "callable_iterator") (n := "__next__") (by rw [typeLookup_type, builtinLookup_eq_fast]; kernel_rfl) (by decide +kernel) (by decide +kernel) (by decide +kernel)
    (by first | exact .inl (by decide +kernel) | exact .inr (by decide +kernel)) (by rw [isSubtype_type]; kernel_rfl)
theorem slot_cit_iter : Slot "callable_iterator" "__iter__" "callable_iterator.__iter__" :=
  .of (owner := "callable_iterator") (n := "__iter__") (by rw [typeLookup_type, builtinLookup_eq_fast]; kernel_rfl) (by decide +kernel) (by decide +kernel) (by decide +kernel)
    (by first | exact .inl (by decide +kernel) | exact .inr (by decide +kernel)) (by rw [isSubtype_type]; kernel_rfl)
theorem entry_cit_next : entryFor table "callable_iterator.__next__" = some Builtin.«callable_iterator.__next__» := entryFor_of_fast (by kernel_rfl)
theorem entry_cit_iter : entryFor table "callable_iterator.__iter__" = some Builtin.«dict_keyiterator.__iter__» :=
  entryFor_alias (id' := "dict_keyiterator.__iter__") (by kernel_rfl) rfl (by decide +kernel) (by kernel_rfl)
theorem args_cit_next (a : Value) : argsOk "callable_iterator.__next__" ⟨[a], []⟩ := by unfold argsOk; kernel_rfl
theorem args_cit_iter (a : Value) : argsOk "callable_iterator.__iter__" ⟨[a], []⟩ := by unfold argsOk; kernel_rfl
section
variable {M : Model} {A : Around} {E : Value → Shared → Prop} {s : Shared}
theorem wpAny_callBorrowed {f : Value} {pos : List Value} {Q : Value → Shared → Prop}
    (hc : codeAny M A (.call f ⟨pos, []⟩) (fun r s' => match r with | .ok (.ret v) => Q v s' | .ok _ => False | .error e => E e s') s) : wpAny M A (callBorrowed f pos) Q E s := fun Γ p hΓ => by
  unfold callBorrowed
  rw [Sem.wp_call]
  refine wpCode_mono (fun r s' h => ?_) (hc _ p rfl (hΓ.enter _ none p (by intro x; cases x)))
  rcases r with e | (_ | _ | _ | v)
  · exact h
  · exact h
  · exact h
  · exact h
  · exact h
end
end Mine
namespace Mine
noncomputable abbrev citObj (f sent : Value) (b : Bool) : Obj := { cls := .type "callable_iterator", data := .fields #[f, sent, .bool b] }
section
variable {prog : Program} {w : World} {A : Around} {E : Value → Shared → Prop} {s : Shared}
theorem borrows {q f : Addr} {self : Value} {fo : Obj} {fd : FuncData} {Q : Bool → Shared → Prop} (hq : s.heap.get? q = some (methodObj (.ref f) self)) (hf : s.heap.get? f = some fo) (hfd : fo.data = .func fd) (h : Q true s) :
    wpAny (model prog w) A (borrowsExactly (.ref q)) Q E s := by
  unfold borrowsExactly
  refine wpAny_bind (wpAny_load hq ?_)
  show wpAny _ _ (load f >>= _) _ _ s
  refine wpAny_bind (wpAny_load hf ?_)
  rw [hfd]
  exact wpAny_pure h
theorem eqBool_str {x y : Str} {t u : Tok} {Q : Bool → Shared → Prop} (h : Q (x == y) s) : wpAny (model prog w) A (eqBool (.str x t) (.str y u)) Q E s := by
  unfold eqBool
  refine wpAny_holding ?_
  by_cases e : (Value.str x t == Value.str y u) = true
  · have e' : x = y := by
      have := eq_of_beq e
      cases this; rfl
    subst e'
    rw [if_pos e]
    refine wpAny_bind (wpAny_rule (wpAny_pure ?_))
    simpa using h
  · rw [if_neg e]
    show wpAny _ _ (compareOp .Eq (.str x t) (.str y u) >>= truthOfDropped) Q E s
    exact wpAny_bind (PyProof.Rows.eq_str (wpAny_pure h))
end
end Mine
namespace Mine
section
variable {prog : Program} {w : World} {A : Around} {E : Value → Shared → Prop} {s : Shared}
theorem next_cit {it q f : Addr} {self : Value} {fo : Obj} {fd : FuncData} {t0 : Tok} {Q : Option Value → Shared → Prop} (hh : A.handled = none)
    (hit : s.heap.get? it = some (citObj (.ref q) (.str (Str.ofString "") t0) false)) (hq : s.heap.get? q = some (methodObj (.ref f) self)) (hf : s.heap.get? f = some fo) (hfd : fo.data = .func fd)
    (hc : codeAny (model prog w) A.in1 (.call (.ref f) ⟨[self], []⟩) (fun r s' => ∃ ch t, r = .ok (.ret (.str ch t)) ∧ s'.heap.get? it = some (citObj (.ref q) (.str (Str.ofString "") t0) false) ∧ s'.heap.get? q = some (methodObj (.ref f) self) ∧ s'.heap.get? f = some fo ∧
      (ch ≠ Str.ofString "" → Q (some (.str ch t)) s') ∧ (ch = Str.ofString "" → ∀ h', Heap.ExtBut it s'.heap h' → Q none { s' with heap := h' })) s) :
    wpAny (model prog w) A (pyNext (.ref it)) Q E s := by
  have hT : s.TypeIs (.ref it) "callable_iterator" := ⟨_, hit, rfl⟩
  unfold pyNext
  refine wpAny_bind (wpAny_attempt (wpAny_callSpecial?_slot (name := Str.ofString "__next__") hT slot_cit_next (wpAny_call_entry slot_cit_next hT entry_cit_next ?_ (args_cit_next _))))
  unfold Builtin.«callable_iterator.__next__»
  refine wpAny_bind (wpAny_pure ?_)
  refine wpAny_bind (wpAny_field hit rfl (x := .bool false) rfl ?_)
  show wpAny _ _ (field (.ref it) 0 >>= _) _ _ s
  refine wpAny_bind (wpAny_field hit rfl (x := .ref q) rfl ?_)
  refine wpAny_bind (wpAny_attempt ?_)
  unfold callOutOfASlot
  refine wpAny_bind (borrows hq hf hfd ?_)
  show wpAny _ _ (callBorrowed (.ref q) []) _ _ s
  refine wpAny_callBorrowed (method_call hq (codeAny_mono hc fun r s' hr => ?_))
  obtain ⟨ch, t, rfl, hit', hq', hf', k1, k2⟩ := hr
  show wpAny _ _ (field (.ref it) 2 >>= _) _ _ s'
  refine wpAny_bind (wpAny_field hit' rfl (x := .bool false) rfl ?_)
  show wpAny _ _ (field (.ref it) 1 >>= _) _ _ s'
  refine wpAny_bind (wpAny_field hit' rfl (x := .str (Str.ofString "") t0) rfl ?_)
  refine wpAny_bind (wpAny_holding (eqBool_str ?_))
  by_cases e : ch = Str.ofString ""
  · subst e
    have k3 := k2 rfl
    clear k1 k2 hc
    rw [show ((Str.ofString "" == Str.ofString "") : Bool) = true from beq_self_eq_true _]
    show wpAny _ _ (rule _ >>= _) _ _ s'
    refine wpAny_bind (wpAny_rule ?_)
    refine wpAny_bind ?_
    show wpAny _ _ (field (.ref it) 0 >>= _) _ _ s'
    refine wpAny_bind (wpAny_field hit' rfl (x := .ref q) rfl ?_)
    refine wpAny_bind ?_
    show wpAny _ _ (borrowsExactly (.ref q) >>= _) _ _ s'
    refine wpAny_bind (borrows hq' hf' hfd ?_)
    refine wpAny_pure ?_
    refine wpAny_bind (wpAny_setField_rec hit' (by show 0 < 3; decide) fun h1 o1 b1 => ?_)
    refine wpAny_bind (wpAny_setField_rec o1 (by show 1 < 3; decide) fun h2 o2 b2 => ?_)
    refine wpAny_setField_rec o2 (by show 2 < 3; decide) fun h3 o3 b3 => ?_
    dsimp only at b1 b2 b3 ⊢
    have b4 : Heap.SameBut it s'.heap h3 := (b1.trans b2).trans b3
    clear o1 o2 o3 b1 b2 b3
    show wpAny _ _ (newExc (.type "StopIteration") [] >>= _) _ _ _
    refine wpAny_bind ?_
    simp only [newExc, newTuple]
    refine wpAny_bind (wpAny_newObj_type ?_ (by size_fits))
    refine wpAny_bind (m := firstArgMember _ _) (wpAny_of_eq (a := Value.none) (by first | rfl | (simp only [firstArgMember]; rfl)) ?_)
    refine wpAny_newObj_type ?_ (by size_fits)
    simp only [raiseNew]
    refine wpAny_bind (wpAny_handled ?_)
    rw [show A.in1.handled = none from hh]
    refine wpAny_bind (wpAny_pure (wpAny_throw ?_))
    refine wpAny_bind (wpAny_isInstance (T := "StopIteration") (b := true) ⟨_, Heap.get?_push_size _ rfl, rfl⟩ isSubtype_stop ?_)
    exact wpAny_pure (k3 _ ((b4.extBut.push _).push _))
  · rw [show ((Str.ofString "" == ch) : Bool) = false from beq_eq_false_iff_ne.mpr (fun q => e q.symm)]
    show wpAny _ _ (ret (.str ch t)) _ _ s'
    exact wpAny_pure ⟨_, rfl, wpAny_pure (k1 e)⟩
end
end Mine
namespace Mine
theorem kind_iter : builtinKind "iter" = none := by decide +kernel
theorem plain_iter : plainId "iter" = true := by decide +kernel
theorem entry_iter : entryFor table "iter" = some Builtin.«iter» := entryFor_of_fast (by kernel_rfl)
theorem args_iter2 (a b : Value) : argsOk "iter" ⟨[a, b], []⟩ := by unfold argsOk; kernel_rfl
theorem look_method_call : typeLookup (.type "method") (Str.ofString "__call__") = pure (some (.builtin "method.__call__")) := by rw [typeLookup_type, builtinLookup_eq_fast]; kernel_rfl
section
variable {prog : Program} {w : World} {A : Around} {E : Value → Shared → Prop} {s : Shared} {g : Heap} {L : Addr} {m : Str → Option Value} {news : List (Addr × Obj)}
theorem iter2_c {q : Addr} {f self sent : Value} {Q : Value → Shared → Prop} (F : Fr g L s.heap m) (N : News g L s.heap news) (hq : (q, methodObj f self) ∈ news)
    (h : ∀ I h', Fr g L h' m → News g L h' ((I, citObj (.ref q) sent false) :: news) → (∀ p ∈ news, p.1 < I) → Q (.ref I) { s with heap := h' }) : wpAny (model prog w) A (call (.builtin "iter") [.ref q, sent]) Q E s := by
  have hq' := (N _ hq).1
  refine Calls.call_function_entry kind_iter plain_iter entry_iter (args_iter2 _ _) ?_
  unfold Builtin.«iter»
  refine wpAny_bind (wpAny_pure ?_)
  have hT : s.TypeIs (.ref q) "method" := ⟨_, hq', rfl⟩
  refine wpAny_bind (wpAny_specialOf hT look_method_call ?_)
  show wpAny _ _ (rule _ >>= _) _ _ s
  refine wpAny_bind (wpAny_rule ?_)
  refine wpAny_bind (wpAny_newObj_type ?_ (by size_fits))
  exact wpAny_pure ⟨_, rfl, h _ _ (F.push _) (N.push F _) fun p hp => Heap.lt_size (N p hp).1⟩
theorem iter_cit {it : Addr} {f sent : Value} {b : Bool} {Q : Value → Shared → Prop} (hit : s.heap.get? it = some (citObj f sent b)) (h : Q (.ref it) s) : wpAny (model prog w) A (pyIter (.ref it)) Q E s := by
  have hT : s.TypeIs (.ref it) "callable_iterator" := ⟨_, hit, rfl⟩
  refine wpAny_pyIter_slot hT slot_cit_iter (wpAny_call_entry slot_cit_iter hT entry_cit_iter ?_ (args_cit_iter _))
  show wpAny _ _ (ret (.ref it)) _ _ s
  exact wpAny_pure ⟨_, rfl, "callable_iterator", _, hT, slot_cit_next.lookup, h⟩
end
/-- a turn's end, by an invariant over the whole state -/
noncomputable def TurnI (I : Nat → Shared → Prop) (n : Nat) (Q : Flow → Shared → Prop) (f : Flow) (s₃ : Shared) : Prop := match f with
  | .ret v => Q (.ret v) s₃
  | .brk => Q .next s₃
  | _ => ∃ m, m < n ∧ I m s₃
section
variable {prog : Program} {w : World} {A : Around} {s : Shared} {env : Env} {Q : Flow → Shared → Prop}
theorem forI {target : PySem.Expr} {it : Value} {body : List Stmt} (I : Nat → Shared → Prop)
    (turn : ∀ n s, I n s → wpAny (model prog w) A (pyNext it) (fun r s₁ => match r with
      | none => Q .next s₁
      | some v => wpAny (model prog w) A (assign target env v) (fun _ s₂ => wpAny (model prog w) A (execs body env) (TurnI I n Q) (fun _ _ => False) s₂) (fun _ _ => False) s₁) (fun _ _ => False) s)
    (n : Nat) (h : I n s) (ht : ∀ v, letOwnedTupleGo target it v = pure () := by intro _; rfl) :
    codeAny (model prog w) A (.forLoop target it body [] env) (fun r s' => match r with | .ok f => Q f s' | .error _ => False) s := by
  refine codeAny_forLoop I (fun n s hI => ?_) n h ht
  refine wpAny_mono (turn n s hI) (fun r s₁ h₁ => ?_) fun _ _ e => e.elim
  cases r with
  | none => exact wpAny_execs_nil h₁
  | some v =>
    refine wpAny_mono h₁ (fun _ s₂ h₂ => wpAny_mono h₂ (fun f s₃ h₃ => ?_) fun _ _ e => e.elim) fun _ _ e => e.elim
    cases f with
    | ret v => exact h₃
    | brk => exact h₃
    | next => exact h₃
    | cont => exact h₃
end
end Mine
namespace Mine
section
variable {prog : Program} {w : World} {A : Around} {E : Value → Shared → Prop} {s : Shared} {g : Heap} {L : Addr} {m : Str → Option Value} {news news' : List (Addr × Obj)}
theorem truthy_nil {l : Addr} {n : Nat} {Q : Bool → Shared → Prop} (N : News g L s.heap news) (hm : (l, listOf #[] n) ∈ news) (h : ∀ tk, Q false { s with toks := tk }) : wpAny (model prog w) A (truthy (.ref l)) Q E s :=
  wpAny_truthy_list (News.isList N hm) (by decide) (h _)
theorem truthy_cons {l : Addr} {v : Value} {vs : List Value} {n : Nat} {Q : Bool → Shared → Prop} (N : News g L s.heap news) (hm : (l, listOf (v :: vs).toArray n) ∈ news) (hl : vs.length ≤ 1000000) (h : ∀ tk, Q true { s with toks := tk }) : wpAny (model prog w) A (truthy (.ref l)) Q E s := by
  refine wpAny_truthy_list (News.isList N hm) (by simp; omega) ?_
  have e : ((v :: vs).toArray.size != 0) = true := by simp
  first | exact e ▸ h _ | (simp; exact h _)
theorem pop_c {l : Addr} {p q : List Value} {v : Value} {n : Nat} {i : Int} {u : Tok} {Q : Value → Shared → Prop} (F : Fr g L s.heap m) (N : News g L s.heap news) (hi : i = p.length) (hl : (p ++ v :: q).length ≤ 1000000)
    (U : Upd l (listOf (p ++ v :: q).toArray n) (listOf (p ++ q).toArray (n + 1)) news news')
    (h : ∀ h', Fr g L h' m → News g L h' news' → Q v { s with heap := h' }) : wpAny (model prog w) A (call (.builtin "list.pop") [.ref l, .int i u]) Q E s := by
  have hz : (p ++ v :: q).length ≤ sizeLine := by rw [sizeLine_eq]; omega
  have hs : p.length < (p ++ v :: q).toArray.size := by simp
  subst hi
  refine kl_popAt (its := (p ++ v :: q).toArray) (p := p) (q := q) (k := p.length) (y := v) F N ?_ ?_ ?_ U hz h
  · simp only [Builtin.List.listFitsIndex]
    simp at hl ⊢
    omega
  · unfold seqIndex?
    have e1 : ¬ ((p.length : Int) < 0) := by omega
    have e2 : (decide (0 ≤ (p.length : Int)) && decide ((p.length : Int) < ((p ++ v :: q).toArray.size : Nat))) = true := by simp only [Bool.and_eq_true, decide_eq_true_eq]; omega
    dsimp only
    rw [if_neg e1, if_pos e2]
    simp
  · dsimp only
    clear hz hs hl U
    induction p with
    | nil => rfl
    | cons x r ih => simp [kl_cut, ih]
theorem pop0 {l : Addr} {v : Value} {vs : List Value} {n : Nat} {u : Tok} {Q : Value → Shared → Prop} (F : Fr g L s.heap m) (N : News g L s.heap news) (hl : vs.length ≤ 1000000 - 1) (U : Upd l (listOf (v :: vs).toArray n) (listOf vs.toArray (n + 1)) news news')
    (h : ∀ h', Fr g L h' m → News g L h' news' → Q v { s with heap := h' }) : wpAny (model prog w) A (call (.builtin "list.pop") [.ref l, .int 0 u]) Q E s :=
  pop_c (p := []) (i := 0) F N rfl (by simp; omega) U h
end
end Mine
namespace Mine
section
variable {prog : Program} {w : World} {A : Around} {E : Value → Shared → Prop} {s : Shared} {g : Heap} {L : Addr} {m : Str → Option Value}
theorem setItem_D {D : Addr} {o : Obj} {rest : List (Addr × Obj)} {kvs : List (Str × Value)} {k : Str} {t : Tok} {v : Value} {Q : Unit → Shared → Prop} (F : Fr g L s.heap m) (N : News g L s.heap ((D, o) :: rest)) (hne : AllNe D rest) (hd : o.IsDictOf (PySem.strKind prog w) kvs) (hsz : kvs.length ≤ 1000)
    (h : ∀ h' o', Fr g L h' m → News g L h' ((D, o') :: rest) → o'.IsDictOf (PySem.strKind prog w) (stored kvs k v) → Q () { s with heap := h', toks := s.toks + 1 }) : wpAny (model prog w) A (setItem (.ref D) (.str k t) v) Q E s := by
  have hm := N (D, o) (.head _)
  refine wpAny_setItem_pairs (hsz := by rw [sizeLine_eq]; omega) (strKind_is _ _ _ _) (Heap.dictOf_iff.mpr ⟨o, hm.1, hd⟩) fun h' hmm hs => ?_
  obtain ⟨o', ho', hd'⟩ := Heap.dictOf_iff.mp hmm
  exact h h' o' (F.change hs hm.2.1 hm.2.2) (News.setIn (own := []) N (fun _ q => nomatch q) hne.mem hs ho') hd'
theorem item_g {D : Addr} {o : Obj} {kvs : List (Str × Value)} {k : Str} {t : Tok} {v : Value} {value slice : PySem.Expr} {Q : Value → Shared → Prop} (F : Fr g L s.heap m) (hD : g.get? D = some o) (hd : o.IsDictOf (PySem.strKind prog w) kvs) (hl : valueAt kvs k = some v) (h : ∀ tk, Q v { s with toks := tk })
    (hs : subscripted slice false (.ref D) (.str k t) = operate [.ref D, .str k t] (getItem (.ref D) (.str k t)) := by with_unfolding_all rfl) (hg : ∀ r, letTemporaryGo value (.ref D) r = pure () := by intro _; with_unfolding_all rfl) :
    wpAny (model prog w) A (subscriptTail value slice (.ref D) (.str k t)) Q E s :=
  have hD := Heap.dictOf_iff.mpr ⟨o, F.keep _ _ hD, hd⟩
  subscriptTail_builtin hD.typeIs slot_dict_getitem.lookup (wpAny_getItem_of (strKind_is _ _ _ _) hD.mapOf hl (h _)) hs hg
theorem len_g {D : Addr} {o : Obj} {kvs : List (Str × Value)} {Q : Value → Shared → Prop} (F : Fr g L s.heap m) (hD : g.get? D = some o) (hd : o.IsDictOf (PySem.strKind prog w) kvs) (lo : (D == sysModules) = false) (hz : kvs.length ≤ 1000) (h : ∀ t tk, Q (.int kvs.length t) { s with toks := tk }) :
    wpAny (model prog w) A (call (.builtin "len") [.ref D]) Q E s := call_len_dict lo (Heap.dictOf_iff.mpr ⟨o, F.keep _ _ hD, hd⟩) (by omega) (h _ _)
theorem stored_new {kvs : List (Str × Value)} {k : Str} {v : Value} (h : k ∉ kvs.map (·.1)) : stored kvs k v = kvs ++ [(k, v)] := by
  unfold stored
  rw [if_neg]
  simp only [List.any_eq_true, decide_eq_true_eq, not_exists, not_and]
  intro p hp e
  exact h (e ▸ List.mem_map_of_mem hp)
end
end Mine
namespace Mine
theorem Ends.new2 {h h' : Heap} {x d a : Nat} {o : Obj} {E : List (Addr × Obj)} (En : Ends h h' [x, d] E) (ha : h.get? a = some o) (h1 : @Ne Nat a x) (h2 : @Ne Nat a d) : ∀ p ∈ E, p.1 ≠ a := fun p hp q => by
  rcases (En.has p hp).2 with e | e
  · rw [q] at e
    rcases List.mem_cons.mp e with e | e
    · exact h1 e
    · exact h2 (List.mem_singleton.mp e)
  · rw [q, ha] at e; cases e
end Mine
set_option maxRecDepth 100000
namespace Mine
section
variable {prog : Program} {w : World} {A : Around} {E : Value → Shared → Prop} {s : Shared} {h₀ : Heap} {L : Addr} {m : Str → Option Value} {env : Env}
/-- a comprehension's turns, by an invariant -/
theorem comp_inv {elt : PySem.Expr} {x : Str} {scope : Scope} {cl : List (Str × Addr)} {S : List (Addr × Obj) → Prop} {P : Nat → Value → Prop} {Fin : List Value → List (Addr × Obj) → Prop} {n : Nat} (J : Nat → List Value → List (Addr × Obj) → Prop)
    (turn : ∀ i ys news, i < n → J i ys news → ∀ v I oI C oC D m₂ h tk (E' : Value → Shared → Prop), P i v → LCg.NsObj oC m₂ → m₂ x = some v → Fr h₀ L h m → News h₀ L h ((I, oI) :: (C, oC) :: (D, LCg.lst ys) :: news) → LCg.Off3 I C D news → ((@Ne Nat I C) ∧ (@Ne Nat I D) ∧ (@Ne Nat C D)) →
      wpAny (model prog w) A (eval elt (compEnvC scope cl C env)) (LCg.CompEnd h₀ L m { s with heap := h, toks := tk } I oI C oC D (LCg.lst ys) S (fun y news' => J (i + 1) (ys ++ [y]) news')) E' { s with heap := h, toks := tk })
    (fin : ∀ ys news, J n ys news → Fin ys news) {news : List (Addr × Obj)} (h0 : J 0 [] news) : LCg.CompRest prog w A h₀ L m env elt x scope cl s S P Fin n 0 [] news := by
  have key : ∀ k i ys news, i + k = n → J i ys news → LCg.CompRest prog w A h₀ L m env elt x scope cl s S P Fin k i ys news := by
    intro k
    induction k with
    | zero => intro i ys news hi hJ; obtain rfl : i = n := hi; exact fin ys news hJ
    | succ k ih =>
      intro i ys news hi hJ
      refine LCg.CompRest.succ fun v I oI C oC D m₂ h tk E' hP hN hx F N o3 hne => ?_
      refine wpAny_mono (turn i ys news (by omega) hJ v I oI C oC D m₂ h tk E' hP hN hx F N o3 hne) (fun y s₂ h₂ => ?_) fun _ _ e => e
      obtain ⟨h', tk', news', e, F', N', o', hS, hj⟩ := h₂
      exact ⟨h', tk', news', e, F', N', o', hS, ih (i + 1) _ _ (by omega) hj⟩
  exact key n 0 [] news (by omega) h0
/-- a comprehension over a text -/
theorem ListComp_S {elt iter : PySem.Expr} {x : Str} {px : Pos} {scope : Scope} {cl : List (Str × Addr)} {pos : Pos} {Q : Value → Shared → Prop}
    (hclos : closureFor scope env = pure cl) (hcell : ∀ y ∈ scope.names, y.2 ≠ .cell) (hkind : scope.kind = .function)
    (hnames : ∀ y ∈ scope.names, y.2 = .local → scope.names.lookup y.1 = some .local) (hx : scope.names.lookup x = some .local) (hh : A.handled = none)
    (h : wpAny (model prog w) A (eval iter env) (fun xv s₁ => ∃ u tu news, xv = .str u tu ∧ Fr h₀ L s₁.heap m ∧ News h₀ L s₁.heap news ∧ u.cps.size ≤ sizeLine ∧
      ∀ g, LCg.CompRest prog w A h₀ L m env elt x scope cl { s₁ with heap := g } (fun _ => True) (fun i v => ∃ c t, u.cps[i]? = some c ∧ v = .str ⟨#[c]⟩ t) (LCg.FinE h₀ L m { s₁ with heap := g } Q) u.cps.size 0 [] news) E s)
    (hs : ∀ x, foldedSetIterable iter env x = pure x := by intro _; rfl) :
    wpAny (model prog w) A (eval (.ListComp elt [⟨.Name x px, iter, [], 0⟩] scope pos) env) Q E s := by
  rw [eval_ListComp]
  refine wpAny_comprehension_free (use := none) rfl hs hclos hkind hnames (wpAny_mono h (fun xv s₁ h₁ => ?_) fun _ _ e => e)
  obtain ⟨u, tu, news, rfl, F, N, hsz, R⟩ := h₁
  have fin : ∀ (s₂ : Shared) D C h tk m' ys news', Fr h₀ L h m → News h₀ L h ((D, LCg.lst ys) :: news') → LCg.Off1 D news' → h.Ns C m' → h₀.get? C = none → h₀.get? D = none → C ≠ L → D ≠ L → C ≠ D → (∀ p ∈ news', p.1 ≠ C) → LCg.FinE h₀ L m s₂ Q ys news' →
      ∃ m', h.Ns C m' ∧ ∀ h'', Heap.SameBut C h h'' → Q (.ref D) { s₂ with heap := h'', toks := tk } := by
    intro s₂ D C h tk m' ys news' F' N' o1 hn hC₀ hD₀ hCL hDL hCD offC fin
    refine ⟨m', hn, fun h'' hs'' => fin D h'' tk (F'.change hs'' hCL hC₀) (fun p hp => ?_) o1⟩
    refine ⟨hs''.extBut _ _ ?_ (N' p hp).1, (N' p hp).2⟩
    rcases List.mem_cons.mp hp with rfl | hp
    · exact Ne.symm hCD
    · exact offC p hp
  cases ha : u.cps.all (· < 128)
  · refine wpAny_pyIter_wide ha ?_
    refine LCg.block_U (Walks.strWide hh _ u tu) hsz (fun i h st => by obtain ⟨o, e, _⟩ := st; exact ⟨o, e⟩) (fun i h h' o nw st e e' _ _ _ => by obtain ⟨o', q, r⟩ := st; rw [e] at q; cases q; exact ⟨o, e', r⟩) hcell hkind hx ⟨_, Heap.get?_push_size _ rfl, rfl, rfl⟩ (fun b hb => ?_)
      (F.keeps fun _ _ e => Heap.get?_push_of_some _ e) (N.grown fun _ _ e => Heap.get?_push_of_some _ e) (Nat.ne_of_lt F.ns.lt) (next_is_new F) (fun p hp => Nat.ne_of_lt (Heap.lt_size (N p hp).1)) trivial (R _) ?_
    · rw [List.mem_singleton.mp hb]
      show s₁.heap.objs.size < (s₁.heap.push _).objs.size
      rw [Heap.size_push]; exact Nat.lt_succ_self _
    · intro D C h tk m' ys news' F' N' o1 hn hC₀ hD₀ hCL hDL hCD offC f
      exact fin _ D C h tk m' ys news' F' N' o1 hn hC₀ hD₀ hCL hDL hCD offC f
  · refine wpAny_pyIter_ascii ha ?_
    refine LCg.block_U (Walks.strAscii hh _ u tu) hsz (fun i h st => by obtain ⟨o, e, _⟩ := st; exact ⟨o, e⟩) (fun i h h' o nw st e e' _ _ _ => by obtain ⟨o', q, r⟩ := st; rw [e] at q; cases q; exact ⟨o, e', r⟩) hcell hkind hx ⟨_, Heap.get?_push_size _ rfl, rfl, rfl⟩ (fun b hb => ?_)
      (F.keeps fun _ _ e => Heap.get?_push_of_some _ e) (N.grown fun _ _ e => Heap.get?_push_of_some _ e) (Nat.ne_of_lt F.ns.lt) (next_is_new F) (fun p hp => Nat.ne_of_lt (Heap.lt_size (N p hp).1)) trivial (R _) ?_
    · rw [List.mem_singleton.mp hb]
      show s₁.heap.objs.size < (s₁.heap.push _).objs.size
      rw [Heap.size_push]; exact Nat.lt_succ_self _
    · intro D C h tk m' ys news' F' N' o1 hn hC₀ hD₀ hCL hDL hCD offC f
      exact fin _ D C h tk m' ys news' F' N' o1 hn hC₀ hD₀ hCL hDL hCD offC f
end
end Mine
namespace Mine
section
variable {prog : Program} {w : World} {A : Around} {E : Value → Shared → Prop} {s : Shared} {x y : Str} {t u : Tok} {Q : Value → Shared → Prop}
end
end Mine
set_option maxRecDepth 100000
namespace Mine
section
variable {prog : Program} {w : World} {A : Around} {E : Value → Shared → Prop} {s : Shared} {g : Heap} {L : Addr} {m : Str → Option Value} {news : List (Addr × Obj)}
end
theorem getD_in {l : List Int} {i : Nat} (h : i < l.length) : l.getD i 0 = l[i] := by simp [List.getD, h]
/-- figures take a row apart -/
noncomputable def rowGo : Nat → List Int → List Int → List Int
  | k + 1, left, f :: r => left.getD (f.fmod left.length).toNat 0 :: rowGo k (left.eraseIdx (f.fmod left.length).toNat) r
  | _, _, _ => []
end Mine
namespace Mine
/-- what Whitespace keeps of a text -/
structure Wst where
  cnt : List Int
  b : Nat
  n : Nat
  nt : Nat
noncomputable def padTo (cnt : List Int) (b : Nat) : List Int := if b < cnt.length then cnt else cnt ++ List.replicate (b - cnt.length + 1) 0
noncomputable def bump (cnt : List Int) (b : Nat) : List Int := (padTo cnt b).set b ((padTo cnt b).getD b 0 + 1)
noncomputable def wsRun : List Nat → Wst → Wst
  | [], q => q
  | c :: r, q => if c = 32 then wsRun r { q with n := q.n + 1, b := q.b + 1 } else if c = 9 then wsRun r ⟨bump q.cnt q.b, 0, q.n + 1, q.nt + 1⟩ else q

theorem chr_eq {c k : Nat} {t : String} (e : Str.ofString t = ⟨#[k]⟩) (h : ((⟨#[c]⟩ : Str) == Str.ofString t) = true) : c = k := by
  rw [e] at h
  have := eq_of_beq h
  simpa using this
theorem chr_ne {c k : Nat} {t : String} (e : Str.ofString t = ⟨#[k]⟩) (h : ((⟨#[c]⟩ : Str) == Str.ofString t) = false) : c ≠ k := by
  rintro rfl
  rw [e] at h
  simp at h
theorem drop_at {a : Array Nat} {i c : Nat} (h : a[i]? = some c) : a.toList.drop i = c :: a.toList.drop (i + 1) := by
  have h' : a.toList[i]? = some c := by simpa using h
  obtain ⟨hi, e⟩ := List.getElem?_eq_some_iff.mp h'
  rw [List.drop_eq_getElem_cons hi, e]
theorem flat_rep {α : Type} (n : Nat) (a : α) : (List.replicate n [a]).flatten = List.replicate n a := by
  induction n with
  | zero => rfl
  | succ n ih => rw [List.replicate_succ, List.flatten_cons, ih, List.replicate_succ]; rfl
theorem padTo_len (cnt : List Int) (b : Nat) : (padTo cnt b).length ≤ max cnt.length (b + 1) := by
  unfold padTo; split
  · omega
  · simp; omega
theorem bump_len (cnt : List Int) (b : Nat) : (bump cnt b).length ≤ max cnt.length (b + 1) := by
  unfold bump; rw [List.length_set]; exact padTo_len cnt b
theorem bump_hi {cnt : List Int} {b : Nat} (h : ((cnt.length : Nat) : Int) ≤ (b : Int)) :
    (cnt ++ (List.replicate ((b : Int) - cnt.length + 1).toNat [0]).flatten).set ((b : Int).toNat) ((cnt ++ (List.replicate ((b : Int) - cnt.length + 1).toNat [0]).flatten).getD ((b : Int).toNat) 0 + 1) = bump cnt b := by
  unfold bump padTo
  rw [if_neg (by omega), flat_rep, show ((b : Int) - cnt.length + 1).toNat = b - cnt.length + 1 by omega, Int.toNat_natCast]
theorem bump_lo {cnt : List Int} {b : Nat} (h : ¬ ((cnt.length : Nat) : Int) ≤ (b : Int)) :
    cnt.set ((b : Int).toNat) (cnt.getD ((b : Int).toNat) 0 + 1) = bump cnt b := by
  unfold bump padTo
  rw [if_pos (by omega), Int.toNat_natCast]
end Mine
namespace Mine
/-- the loop's sum in indent_level -/
noncomputable def ilSum (cnt : List Int) (ts : Int) : Nat → Int
  | 0 => 0
  | k + 1 => ilSum cnt ts k + Int.fdiv (ts + k) ts * cnt.getD (ts + k).toNat 0
noncomputable def ilOf (q : Wst) (ts : Int) : Int := q.b + ts * (ilSum q.cnt ts (((q.cnt.length : Int) - ts).toNat) + q.nt)
end Mine
namespace Mine
noncomputable def longOf (q : Wst) : Int := if (q.b : Int) > (q.cnt.length : Int) - 1 then q.b else q.cnt.length - 1
end Mine
namespace Mine
theorem fdiv_bd {a b : Int} (ha : 0 ≤ a) (hb : 1 ≤ b) : 0 ≤ a.fdiv b ∧ a.fdiv b ≤ a := by
  rw [Int.fdiv_eq_ediv_of_nonneg _ (by omega)]
  exact ⟨Int.ediv_nonneg ha (by omega), Int.ediv_le_self b ha⟩
end Mine
namespace Mine
noncomputable def topOf (p q : Wst) : Int := (if longOf q > longOf p then longOf q else longOf p) + 1
/-- Whitespace.less -/
noncomputable def lessOf (p q : Wst) : Bool :=
  if q.n ≤ p.n then false
  else if p.cnt.length ≤ 1 ∧ q.cnt.length ≤ 1 then decide (p.nt ≤ q.nt)
  else (List.range ((topOf p q + 1 - 2).toNat)).all fun i => decide (ilOf p (2 + i) < ilOf q (2 + i))
theorem lessOf_1 {p q : Wst} (h : (q.n : Int) ≤ p.n) : lessOf p q = false := by
  unfold lessOf; rw [if_pos (by omega)]
theorem lessOf_2 {p q : Wst} (h : ¬ (q.n : Int) ≤ p.n) (h1 : (p.cnt.length : Int) ≤ 1) (h2 : (q.cnt.length : Int) ≤ 1) : lessOf p q = decide ((p.nt : Int) ≤ q.nt) := by
  unfold lessOf
  rw [if_neg (by omega), if_pos ⟨by omega, by omega⟩]
  by_cases e : p.nt ≤ q.nt
  · simp [e]
  · simp [e]
theorem lessOf_3 {p q : Wst} (h : ¬ (q.n : Int) ≤ p.n) (h1 : ¬ ((p.cnt.length : Int) ≤ 1 ∧ (q.cnt.length : Int) ≤ 1)) {i : Nat} (hi : i < (topOf p q + 1 - 2).toNat) (hc : ilOf q (2 + i) ≤ ilOf p (2 + i)) : lessOf p q = false := by
  unfold lessOf
  rw [if_neg (by omega), if_neg (fun c => h1 ⟨by omega, by omega⟩)]
  rw [List.all_eq_false]
  exact ⟨i, List.mem_range.mpr hi, by simpa using hc⟩
theorem lessOf_4 {p q : Wst} (h : ¬ (q.n : Int) ≤ p.n) (h1 : ¬ ((p.cnt.length : Int) ≤ 1 ∧ (q.cnt.length : Int) ≤ 1)) (hc : ∀ i : Nat, i < (topOf p q + 1 - 2).toNat → ilOf p (2 + i) < ilOf q (2 + i)) : lessOf p q = true := by
  unfold lessOf
  rw [if_neg (by omega), if_neg (fun c => h1 ⟨by omega, by omega⟩)]
  rw [List.all_eq_true]
  intro i hi
  simpa using hc i (List.mem_range.mp hi)
end Mine
namespace Mine
noncomputable def isWs (c : Nat) : Bool := c == 10 || c == 9 || c == 13 || c == 32
noncomputable abbrev S (l : List Nat) : Str := ⟨l.toArray⟩
theorem S_app (a b : List Nat) : S a ++ S b = S (a ++ b) := by
  show Str.append _ _ = _
  simp [Str.append]
theorem S_len (a : List Nat) : (S a).length = a.length := by simp [Str.length]
/-- how many line ends -/
noncomputable def nls (l : List Nat) : Nat := l.count 10
/-- reading on within quotes: what is read, and what is left -/
inductive QTo : List Nat → List Nat → List Nat → Prop
  | fin {r : List Nat} : QTo (34 :: r) [] r
  | esc {c : Nat} {l t r : List Nat} : QTo l t r → QTo (92 :: c :: l) (c :: t) r
  | chr {c : Nat} {l t r : List Nat} : c ≠ 34 → c ≠ 92 → QTo l t r → QTo (c :: l) (c :: t) r
inductive UTo : List Nat → List Nat → List Nat → Prop
  | fin {c : Nat} {r : List Nat} : isWs c = true → UTo (c :: r) [] r
  | esc {c : Nat} {l t r : List Nat} : UTo l t r → UTo (92 :: c :: l) (c :: t) r
  | chr {c : Nat} {l t r : List Nat} : isWs c = false → c ≠ 92 → UTo l t r → UTo (c :: l) (c :: t) r
/-- a word read off a text -/
inductive TTo : List Nat → List Nat → List Nat → Prop
  | ws {c : Nat} {l t r : List Nat} : isWs c = true → TTo l t r → TTo (c :: l) t r
  | quo {l t r : List Nat} : QTo l t r → TTo (34 :: l) t r
  | esc {c : Nat} {l t r : List Nat} : UTo l t r → TTo (92 :: c :: l) (c :: t) r
  | eof : TTo [] [] []
end Mine
namespace Mine
open PySem.Builtin.Str
theorem chAt_some {x : Str} {i c : Nat} (h : x.cps[i]? = some c) : Txt.slice x (some (i : Int)) (some ((i : Int) + 1)) = ⟨#[c]⟩ := by
  obtain ⟨hi, e⟩ := Array.getElem?_eq_some_iff.mp h
  have hl : i + 1 ≤ x.length := hi
  have e1 := StrLaws.sliced_plain x (a := i) (b := i + 1) (by omega) hl
  have e2 := StrLaws.strSliceIndices_plain (a := i) (b := i + 1) (len := x.length) (by omega) hl
  rw [show (((i + 1 : Nat)) : Int) = (i : Int) + 1 by omega] at e1 e2
  have e3 : (x.cps.toList.drop i).take (i + 1 - i) = [c] := by
    rw [List.drop_eq_getElem_cons (by simpa using hi), show i + 1 - i = 1 by omega]
    simp [e]
  unfold Txt.slice
  split
  · rename_i hc
    rw [e2] at hc
    have hx : x.length = 1 := by simp at hc; omega
    have hi0 : i = 0 := by omega
    subst hi0
    obtain ⟨a⟩ := x
    have : a.size = 1 := hx
    congr 1
    apply Array.ext
    · simp [this]
    · intro k h1 h2
      have : k = 0 := by simp at h2; omega
      subst this
      simpa using e
  · rw [e1, e3]
theorem chAt_none {x : Str} {i : Nat} (h : x.cps[i]? = none) : Txt.slice x (some (i : Int)) (some ((i : Int) + 1)) = Str.ofString "" := by
  have hi : x.length ≤ i := by simpa [Str.length] using h
  have e : strSliceIndices (some (i : Int)) (some ((i : Int) + 1)) 1 x.length = [] := by
    have h1 : ¬ ((i : Int) < 0) := by omega
    have h2 : ¬ ((i : Int) + 1 < 0) := by omega
    have e1 : max (0 : Int) (min (i : Int) (x.length : Int)) = x.length := by omega
    have e2 : max (0 : Int) (min ((i : Int) + 1) (x.length : Int)) = x.length := by omega
    simp only [strSliceIndices, sliceRange, h1, h2, if_false, e1, e2, show ((1 : Int) > 0) = True from by simp, if_true]
    simp
  unfold Txt.slice
  rw [e]
  split
  · rename_i hc
    have hx : x.length = 0 := by simp at hc; omega
    obtain ⟨a⟩ := x
    have ha : a.size = 0 := hx
    rw [Array.size_eq_zero_iff.mp ha]
    decide +kernel
  · rw [List.filterMap_nil]; decide +kernel
end Mine
namespace Mine
theorem TTo.inv {c : Nat} {l t r : List Nat} (h : TTo (c :: l) t r) : (isWs c = true ∧ TTo l t r) ∨ (c = 34 ∧ QTo l t r) ∨ (c = 92 ∧ ∃ d l' t', l = d :: l' ∧ t = d :: t' ∧ UTo l' t' r) := by
  generalize e : c :: l = x at h
  cases h with
  | ws a b => cases e; exact .inl ⟨a, b⟩
  | quo a => cases e; exact .inr (.inl ⟨rfl, a⟩)
  | esc a => cases e; exact .inr (.inr ⟨rfl, _, _, _, rfl, rfl, a⟩)
  | eof => cases e
theorem QTo.inv {c : Nat} {l t r : List Nat} (h : QTo (c :: l) t r) : (c = 34 ∧ t = [] ∧ r = l) ∨ (c = 92 ∧ ∃ d l' t', l = d :: l' ∧ t = d :: t' ∧ QTo l' t' r) ∨ (c ≠ 34 ∧ c ≠ 92 ∧ ∃ t', t = c :: t' ∧ QTo l t' r) := by
  generalize e : c :: l = x at h
  cases h with
  | fin => cases e; exact .inl ⟨rfl, rfl, rfl⟩
  | esc a => cases e; exact .inr (.inl ⟨rfl, _, _, _, rfl, rfl, a⟩)
  | chr a b d => cases e; exact .inr (.inr ⟨a, b, _, rfl, d⟩)
theorem UTo.inv {c : Nat} {l t r : List Nat} (h : UTo (c :: l) t r) : (isWs c = true ∧ t = [] ∧ r = l) ∨ (c = 92 ∧ ∃ d l' t', l = d :: l' ∧ t = d :: t' ∧ UTo l' t' r) ∨ (isWs c = false ∧ c ≠ 92 ∧ ∃ t', t = c :: t' ∧ UTo l t' r) := by
  generalize e : c :: l = x at h
  cases h with
  | fin a => cases e; exact .inl ⟨a, rfl, rfl⟩
  | esc a => cases e; exact .inr (.inl ⟨rfl, _, _, _, rfl, rfl, a⟩)
  | chr a b d => cases e; exact .inr (.inr ⟨a, b, _, rfl, d⟩)
theorem QTo.len {l t r : List Nat} (h : QTo l t r) : t.length ≤ l.length := by induction h <;> simp <;> omega
theorem UTo.len {l t r : List Nat} (h : UTo l t r) : t.length ≤ l.length := by induction h <;> simp <;> omega
theorem TTo.len {l t r : List Nat} (h : TTo l t r) : t.length ≤ l.length := by
  induction h with
  | ws _ _ ih => simp; omega
  | quo a => have := a.len; simp; omega
  | esc a => have := a.len; simp; omega
  | eof => simp
theorem nls_cons (c : Nat) (l : List Nat) : ((nls (c :: l) : Nat) : Int) = (if c = 10 then 1 else 0) + (nls l : Nat) := by
  unfold nls
  rw [List.count_cons]
  by_cases h : c = 10
  · subst h; simp; omega
  · simp [h]
theorem S_nil (u : Str) : u ++ S [] = u := by
  show Str.append _ _ = _
  simp [Str.append]
theorem nil_S (t : List Nat) : Str.ofString "" ++ S t = S t := by
  rw [show Str.ofString "" = S [] by decide +kernel, S_app]; rfl
theorem app_cons (u : Str) (c : Nat) (t : List Nat) : (u ++ ⟨#[c]⟩) ++ S t = u ++ S (c :: t) := by
  show Str.append (Str.append _ _) _ = Str.append _ _
  simp [Str.append]
theorem size_le {u : Str} {t2 t : List Nat} (h : u ++ S t2 = S t) : u.cps.size + t2.length = t.length := by
  have := congrArg (fun x : Str => x.cps.size) h
  change (Str.append u (S t2)).cps.size = _ at this
  simpa [Str.append] using this
theorem cps_of_drop {a : Array Nat} {i c : Nat} {l : List Nat} (h : a.toList.drop i = c :: l) : a[i]? = some c ∧ a.toList.drop (i + 1) = l := by
  have e : a.toList[i]? = some c := by
    have := congrArg (fun x => x[0]?) h
    simpa using this
  refine ⟨by simpa using e, ?_⟩
  have := congrArg List.tail h
  simpa using this
theorem mem_ws (ch : Nat) : decide (ch ∈ [10, 9, 13, 32]) = isWs ch := by
  unfold isWs
  by_cases h1 : ch = 10
  · subst h1; rfl
  by_cases h2 : ch = 9
  · subst h2; rfl
  by_cases h3 : ch = 13
  · subst h3; rfl
  by_cases h4 : ch = 32
  · subst h4; rfl
  · rw [decide_eq_false (by simp only [List.mem_cons, List.not_mem_nil, or_false, not_or]; exact ⟨h1, h2, h3, h4⟩), beq_false_of_ne h1, beq_false_of_ne h2, beq_false_of_ne h3, beq_false_of_ne h4]
    rfl
noncomputable def nl1 (c : Nat) : Int := if c = 10 then 1 else 0
theorem nls_nl1 (c : Nat) (l : List Nat) : ((nls (c :: l) : Nat) : Int) = nl1 c + (nls l : Nat) := nls_cons c l
end Mine
namespace Mine
/-- words read off a text, one by one -/
inductive Reads : List Nat → List Str → List Nat → Prop
  | nil {l : List Nat} : Reads l [] l
  | cons {l t r r' : List Nat} {us : List Str} : TTo l t r → Reads r us r' → Reads l (S t :: us) r'
/-- a round: one is held, the others pass -/
noncomputable def rnd (lt : Str → Str → Bool) (held : Str) : List Str → Str × List Str
  | [] => (held, [])
  | u :: r => if lt held u then ((rnd lt u r).1, held :: (rnd lt u r).2) else ((rnd lt held r).1, u :: (rnd lt held r).2)
theorem rnd_len (lt : Str → Str → Bool) : ∀ (r : List Str) (held : Str), (rnd lt held r).2.length = r.length
  | [], _ => rfl
  | u :: r, held => by
    unfold rnd
    split
    · simp [rnd_len lt r u]
    · simp [rnd_len lt r held]
/-- the rounds of _law_gone -/
noncomputable def goneOf (lt : Str → Str → Bool) : Nat → List Str → List Str
  | n + 1, u :: r => (rnd lt u r).1 :: goneOf lt n (rnd lt u r).2
  | _, _ => []
end Mine
namespace Mine
noncomputable def minL : List Int → Int
  | [] => 0
  | [a] => a
  | a :: b :: r => if a ≤ minL (b :: r) then a else minL (b :: r)
theorem minL_mem : ∀ {l : List Int}, l ≠ [] → minL l ∈ l
  | [], h => absurd rfl h
  | [a], _ => List.mem_singleton.mpr rfl
  | a :: b :: r, _ => by
    unfold minL
    split
    · exact .head _
    · exact .tail _ (minL_mem (by simp))
theorem minL_le : ∀ {l : List Int}, ∀ a ∈ l, minL l ≤ a
  | [], _, h => nomatch h
  | [b], a, h => by cases List.mem_singleton.mp h; exact Int.le_refl _
  | b :: c :: r, a, h => by
    unfold minL
    rcases List.mem_cons.mp h with rfl | h
    · split <;> omega
    · have := minL_le (l := c :: r) a h
      split <;> omega
theorem minL_eq {l : List Int} {M : Int} (hm : M ∈ l) (hl : ∀ a ∈ l, M ≤ a) : M = minL l :=
  Int.le_antisymm (hl _ (minL_mem (List.ne_nil_of_mem hm))) (minL_le _ hm)
/-- a number goes into rising rows; the cell that opens -/
noncomputable def ins : Int → List (List Int) → Nat → List (List Int) × (Nat × Nat)
  | n, [], i => ([[n]], (i, 0))
  | n, r :: rs, i =>
    if n < r.getLastD 0 then
      let q := ins (minL (r.filter fun x => decide (n < x))) rs (i + 1)
      (r.set (r.idxOf (minL (r.filter fun x => decide (n < x)))) n :: q.1, q.2)
    else ((r ++ [n]) :: rs, (i, r.length))
noncomputable def cellsOf : List Int → List (List Int) → List (Nat × Nat)
  | [], _ => []
  | n :: r, rows => (ins n rows 0).2 :: cellsOf r (ins n rows 0).1
end Mine
namespace Mine
noncomputable def maxL : List Int → Int
  | [] => 0
  | [a] => a
  | a :: b :: r => if maxL (b :: r) ≤ a then a else maxL (b :: r)
theorem maxL_mem : ∀ {l : List Int}, l ≠ [] → maxL l ∈ l
  | [], h => absurd rfl h
  | [a], _ => List.mem_singleton.mpr rfl
  | a :: b :: r, _ => by
    unfold maxL
    split
    · exact .head _
    · exact .tail _ (maxL_mem (by simp))
theorem maxL_le : ∀ {l : List Int}, ∀ a ∈ l, a ≤ maxL l
  | [], _, h => nomatch h
  | [b], a, h => by cases List.mem_singleton.mp h; exact Int.le_refl _
  | b :: c :: r, a, h => by
    unfold maxL
    rcases List.mem_cons.mp h with rfl | h
    · split <;> omega
    · have := maxL_le (l := c :: r) a h
      split <;> omega
theorem maxL_eq {l : List Int} {M : Int} (hm : M ∈ l) (hl : ∀ a ∈ l, a ≤ M) : M = maxL l :=
  Int.le_antisymm (maxL_le _ hm) (hl _ (maxL_mem (List.ne_nil_of_mem hm)))
end Mine
open PySem PySem.W PySem.Calls PyProof.Rows PySem.SeqAt
set_option maxRecDepth 100000
namespace Mine
section
variable {prog : Program} {w : World} {A : Around} {E : Value → Shared → Prop} {s : Shared} {g : Heap} {L : Addr} {m : Str → Option Value} {news : List (Addr × Obj)}
theorem lenV {l : Addr} {vs : List Value} {n : Nat} {Q : Value → Shared → Prop} (N : News g L s.heap news) (hm : (l, listOf vs.toArray n) ∈ news) (hz : vs.length ≤ 1000000)
    (h : ∀ t tk, Q (.int vs.length t) { s with toks := tk }) : wpAny (model prog w) A (call (.builtin "len") [.ref l]) Q E s := by
  refine PyProof.Rows.len_list (News.isList N hm) (by simp; omega) ?_
  rw [show ((vs.toArray.size : Nat) : Int) = (vs.length : Int) by simp]
  exact h _ _
theorem itemV {l : Addr} {vs : List Value} {n : Nat} {k : Int} {u : Tok} {v : Value} {value slice : PySem.Expr} {Q : Value → Shared → Prop} (N : News g L s.heap news) (hm : (l, listOf vs.toArray n) ∈ news) (h0 : 0 ≤ k) (hk : k < 1000000) (hx : vs[k.toNat]? = some v) (h : Q v s)
    (hs : subscripted slice false (.ref l) (.int k u) = operate [.ref l, .int k u] (getItem (.ref l) (.int k u)) := by with_unfolding_all rfl) (hg : ∀ r, letTemporaryGo value (.ref l) r = pure () := by intro _; with_unfolding_all rfl) :
    wpAny (model prog w) A (subscriptTail value slice (.ref l) (.int k u)) Q E s :=
  have hl := News.isList N hm
  subscriptTail_builtin hl.typeIs slot_list_getitem.lookup (wpAny_getItem_list hl h0 (by omega) (by simpa using hx) h) hs hg
theorem ints_last {vs : List Value} {ns : List Int} (hi : IntsAre vs ns) : ns ≠ [] → ∃ t, vs[vs.length - 1]? = some (.int (ns.getLastD 0) t) := by
  induction hi with
  | nil => intro h; exact absurd rfl h
  | cons k t r ih =>
    intro _
    cases r with
    | nil => exact ⟨t, rfl⟩
    | cons k' t' r' =>
      obtain ⟨u, e⟩ := ih (by simp)
      refine ⟨u, ?_⟩
      simp only [List.length_cons, Nat.add_sub_cancel] at e ⊢
      rw [List.getElem?_cons_succ, e]
      rfl
theorem itemLast {l : Addr} {vs : List Value} {ns : List Int} {n : Nat} {u : Tok} {value slice : PySem.Expr} {Q : Value → Shared → Prop} (N : News g L s.heap news) (hm : (l, listOf vs.toArray n) ∈ news) (hi : IntsAre vs ns) (hne : ns ≠ []) (h : ∀ t, Q (.int (ns.getLastD 0) t) s)
    (hs : subscripted slice false (.ref l) (.int (-1) u) = operate [.ref l, .int (-1) u] (getItem (.ref l) (.int (-1) u)) := by with_unfolding_all rfl) (hg : ∀ r, letTemporaryGo value (.ref l) r = pure () := by intro _; with_unfolding_all rfl) :
    wpAny (model prog w) A (subscriptTail value slice (.ref l) (.int (-1) u)) Q E s := by
  have hl := News.isList N hm
  obtain ⟨t, e⟩ := ints_last hi hne
  have hlen := hi.length
  have hpos : 0 < ns.length := List.length_pos_iff.mpr hne
  refine subscriptTail_builtin hl.typeIs slot_list_getitem.lookup (wpAny_getItem_list_neg (x := .int (ns.getLastD 0) t) hl (by decide) (by simp; omega) (by decide) ?_ (h t)) hs hg
  rw [show ((-1 : Int) + (vs.toArray.size : Nat)).toNat = vs.length - 1 by simp; omega]
  simpa using e
theorem indexI {l : Addr} {vs : List Value} {ns : List Int} {n : Nat} {k : Int} {t : Tok} {Q : Value → Shared → Prop} (N : News g L s.heap news) (hm : (l, listOf vs.toArray n) ∈ news) (hi : IntsAre vs ns) (hk : k ∈ ns) (hz : ns.length ≤ 1000000) (h : ∀ t tk, Q (.int (ns.idxOf k : Nat) t) { s with toks := tk }) :
    wpAny (model prog w) A (call (.builtin "list.index") [.ref l, .int k t]) Q E s := by
  have ho := (N _ hm).1
  have hlen := hi.length
  have hj : ns.idxOf k < ns.length := List.idxOf_lt_length_iff.mpr hk
  refine call_meets PySem.F.slot_list_index ⟨_, ho, rfl⟩ PySem.F.entry_list_index (PySem.F.args_list_index_2 _ _)
    (list_indexAt l vs.toArray n none #[] (.int k t) (isInt k) (ns.idxOf k) (by simpa [hlen] using hj) (by omega) ?_ ?_) ⟨ho, fun y hy => (eq_isInt k t hi y (by simpa using hy)).at _ _, h _ _⟩
  · show isInt k vs[ns.idxOf k] = true
    rw [isInt_at k hi _ (by omega) hj]
    simpa using List.getElem_idxOf hj
  · intro j hjs hlt
    show isInt k vs[j] = false
    rw [isInt_at k hi j (by simpa using hjs) (by omega)]
    exact ne_of_lt_idxOf hlt _
end
end Mine
namespace Mine
/-- a row of ints that the call has made -/
structure RowO where
  a : Nat
  us : List Value
  c : Nat
  ns : List Int
noncomputable abbrev RowO.led (r : RowO) : Addr × Obj := (r.a, listOf r.us.toArray r.c)
noncomputable abbrev rowsLed (rows : List RowO) : List (Addr × Obj) := rows.map RowO.led
noncomputable abbrev refsOf (rows : List RowO) : List Value := rows.map fun r => .ref r.a
noncomputable abbrev intsOf (rows : List RowO) : List (List Int) := rows.map (·.ns)
/-- a pair of ints that the call has made -/
structure CellO where
  a : Nat
  i : Nat
  j : Nat
  ti : Tok
  tj : Tok
noncomputable abbrev pairObj (u v : Value) : Obj := { cls := .type "tuple", data := .seq #[u, v] }
noncomputable abbrev CellO.led (c : CellO) : Addr × Obj := (c.a, pairObj (.int c.i c.ti) (.int c.j c.tj))
noncomputable abbrev cellsLed (cs : List CellO) : List (Addr × Obj) := cs.map CellO.led
noncomputable abbrev cellRefs (cs : List CellO) : List Value := cs.map fun c => .ref c.a
noncomputable abbrev pairsOf (cs : List CellO) : List (Nat × Nat) := cs.map fun c => (c.i, c.j)
/-- the rows are lists of ints, none is empty, all are short -/
noncomputable def RowsOk (t : Nat) (rows : List RowO) : Prop := ∀ r ∈ rows, IntsAre r.us r.ns ∧ r.ns ≠ [] ∧ r.ns.length ≤ t
theorem AllNe.app {a : Nat} {x y : List (Addr × Obj)} (h1 : AllNe a x) (h2 : AllNe a y) : AllNe a (x ++ y) := .of fun p hp => by
  rcases List.mem_append.mp hp with h | h
  · exact h1.mem p h
  · exact h2.mem p h
theorem AllNe.left {a : Nat} {x y : List (Addr × Obj)} (h : AllNe a (x ++ y)) : AllNe a x := .of fun p hp => h.mem p (List.mem_append_left _ hp)
theorem AllNe.right {a : Nat} {x y : List (Addr × Obj)} (h : AllNe a (x ++ y)) : AllNe a y := .of fun p hp => h.mem p (List.mem_append_right _ hp)
/-- no two of the ledger's addresses are one -/
noncomputable def Apt : List (Addr × Obj) → Prop
  | [] => True
  | p :: r => AllNe p.1 r ∧ Apt r
theorem Apt.nodup : ∀ {l : List (Addr × Obj)}, Apt l ↔ (l.map (·.1)).Nodup
  | [] => by simp [Apt]
  | p :: r => by
    rw [Apt, Apt.nodup, List.map_cons, List.nodup_cons]
    refine and_congr_left' ⟨fun h q => ?_, fun h => .of fun q hq e => h (e ▸ List.mem_map_of_mem hq)⟩
    obtain ⟨x, hx, e⟩ := List.mem_map.mp q
    exact h.mem x hx e
theorem Apt.perm {l l' : List (Addr × Obj)} (h : Apt l) (p : (l.map (·.1)).Perm (l'.map (·.1))) : Apt l' := Apt.nodup.mpr (p.nodup_iff.mp (Apt.nodup.mp h))
end Mine
namespace Mine
theorem ints_item {vs : List Value} {ns : List Int} (hi : IntsAre vs ns) : ∀ {i : Nat} {v : Value}, vs[i]? = some v → ∃ t, v = .int (ns.getD i 0) t ∧ i < ns.length := by
  induction hi with
  | nil => intro i v h; simp at h
  | cons k t r ih =>
    intro i v h
    cases i with
    | zero => simp at h; exact ⟨t, h.symm, Nat.zero_lt_succ _⟩
    | succ i =>
      obtain ⟨u, e, hl⟩ := ih (by simpa using h)
      exact ⟨u, by simpa using e, Nat.succ_lt_succ hl⟩
end Mine
namespace Mine
theorem rowsLed_fst (rows : List RowO) : (rowsLed rows).map (·.1) = rows.map (·.a) := by rw [List.map_map]; rfl
theorem rowsLed_mid (pre post : List RowO) (r : RowO) (E : List (Addr × Obj)) : (rowsLed (pre ++ r :: post) ++ E).Perm (r.led :: (rowsLed pre ++ (rowsLed post ++ E))) := by
  rw [rowsLed, List.map_append, List.map_cons, List.append_assoc, List.cons_append]
  exact List.perm_middle
theorem apt_row {p q : Addr × Obj} {pre post : List RowO} {r : RowO} {E : List (Addr × Obj)} (h : Apt (p :: q :: (rowsLed (pre ++ r :: post) ++ E))) : Apt (p :: q :: r.led :: (rowsLed pre ++ (rowsLed post ++ E))) :=
  h.perm ((((rowsLed_mid pre post r E).cons q).cons p).map _)
theorem apt_while {R cN Cl I : Nat} {oR oR' oN oN' oC oI : Obj} {rows rows' : List RowO} {cl : List (Addr × Obj)} (ap : Apt ((R, oR) :: (cN, oN) :: (Cl, oC) :: (rowsLed rows ++ cl))) (hI : AllNe I ((R, oR) :: (cN, oN) :: (Cl, oC) :: (rowsLed rows ++ cl))) (e : rows'.map (·.a) = rows.map (·.a)) :
    Apt ((R, oR') :: (cN, oN') :: (rowsLed rows' ++ (Cl, oC) :: (I, oI) :: cl)) := by
  have h : Apt ((I, oI) :: (R, oR) :: (cN, oN) :: (Cl, oC) :: (rowsLed rows ++ cl)) := ⟨hI, ap⟩
  refine h.perm ?_
  simp only [List.map_cons, List.map_append, rowsLed_fst, e]
  refine (List.Perm.swap ..).trans (List.Perm.cons _ ((List.Perm.swap ..).trans (List.Perm.cons _ ?_)))
  refine .trans ?_ (List.perm_middle).symm
  refine (List.Perm.swap ..).trans (List.Perm.cons _ ?_)
  exact (List.perm_middle).symm
theorem row_at {rows : List RowO} {i : Nat} (h : i < rows.length) : ∃ pre r post, rows = pre ++ r :: post ∧ pre.length = i :=
  ⟨rows.take i, rows[i], rows.drop (i + 1), by rw [List.getElem_cons_drop]; exact (List.take_append_drop i rows).symm, by rw [List.length_take]; omega⟩
theorem ref_at {as : List Nat} {pre post : List RowO} {r : RowO} (h : (pre ++ r :: post).map (·.a) = as) : (as.map Value.ref)[((pre.length : Nat) : Int).toNat]? = some (.ref r.a) := by
  rw [← h, Int.toNat_natCast, List.getElem?_map, List.getElem?_map, List.getElem?_append_right (Nat.le_refl _), Nat.sub_self]
  rfl
end Mine
namespace Mine
section
variable {prog : Program} {w : World} {A : Around} {E : Value → Shared → Prop} {s : Shared} {h₀ : Heap} {L : Addr} {m : Str → Option Value} {env : Env}
/-- the turns of a comprehension with a test, by an invariant -/
theorem compT_inv {ct elt : PySem.Expr} {x : Str} {scope : Scope} {cl : List (Str × Addr)} {S : List (Addr × Obj) → Prop} {P : Nat → Value → Prop} {Fin : List Value → List (Addr × Obj) → Prop} {n : Nat} (J : Nat → List Value → List (Addr × Obj) → Prop)
    (turn : ∀ i ys news, i < n → J i ys news → ∀ v I oI C oC D m₂ h tk (E' : Value → Shared → Prop), P i v → LCg.NsObj oC m₂ → m₂ x = some v → Fr h₀ L h m → News h₀ L h ((I, oI) :: (C, oC) :: (D, LCg.lst ys) :: news) → LCg.Off3 I C D news → ((@Ne Nat I C) ∧ (@Ne Nat I D) ∧ (@Ne Nat C D)) →
      wpAny (model prog w) A (isTrue ct (compEnvC scope cl C env) (eval ct (compEnvC scope cl C env))) (fun ok s' => if ok = true then
        wpAny (model prog w) A (eval elt (compEnvC scope cl C env)) (LCg.CompEnd h₀ L m { s with heap := h, toks := tk } I oI C oC D (LCg.lst ys) S (fun y news' => J (i + 1) (ys ++ [y]) news')) E' s'
        else LCg.CompEnd h₀ L m { s with heap := h, toks := tk } I oI C oC D (LCg.lst ys) S (fun _ news' => J (i + 1) ys news') Value.none s') E' { s with heap := h, toks := tk })
    (fin : ∀ ys news, J n ys news → Fin ys news) {news : List (Addr × Obj)} (h0 : J 0 [] news) : LCt.CompRestT prog w A h₀ L m env ct elt x scope cl s S P Fin n 0 [] news := by
  have key : ∀ k i ys news, i + k = n → J i ys news → LCt.CompRestT prog w A h₀ L m env ct elt x scope cl s S P Fin k i ys news := by
    intro k
    induction k with
    | zero => intro i ys news hi hJ; obtain rfl : i = n := hi; exact fin ys news hJ
    | succ k ih =>
      intro i ys news hi hJ
      refine LCt.CompRestT.succ fun v I oI C oC D m₂ h tk E' hP hN hx F N o3 hne => ?_
      refine wpAny_mono (turn i ys news (by omega) hJ v I oI C oC D m₂ h tk E' hP hN hx F N o3 hne) (fun ok s₂ h₂ => ?_) fun _ _ e => e
      cases ok with
      | true =>
        simp only [if_true] at h₂ ⊢
        refine wpAny_mono h₂ (fun y s₃ h₃ => ?_) fun _ _ e => e
        obtain ⟨h', tk', news', e, F', N', o', hS, hj⟩ := h₃
        exact ⟨h', tk', news', e, F', N', o', hS, ih (i + 1) _ _ (by omega) hj⟩
      | false =>
        simp only [Bool.false_eq_true, if_false] at h₂ ⊢
        obtain ⟨h', tk', news', e, F', N', o', hS, hj⟩ := h₂
        exact ⟨h', tk', news', e, F', N', o', hS, ih (i + 1) _ _ (by omega) hj⟩
  exact key n 0 [] news (by omega) h0
end
/-- a comprehension that keeps some of a list's ints -/
structure FiltJ (rn : List Int) (p : Int → Bool) (news : List (Addr × Obj)) (i : Nat) (ys : List Value) (news' : List (Addr × Obj)) : Prop where
  e : news' = news
  hy : IntsAre ys ((rn.take i).filter p)
theorem take_one {rn : List Int} {i : Nat} (h : i < rn.length) : rn.take (i + 1) = rn.take i ++ [rn.getD i 0] := by
  rw [List.take_succ_eq_append_getElem h, getD_in h]
theorem FiltJ.yes {rn : List Int} {p : Int → Bool} {news : List (Addr × Obj)} {i : Nat} {ys : List Value} {news' : List (Addr × Obj)} {t : Tok} (h : FiltJ rn p news i ys news') (hi : i < rn.length) (hp : p (rn.getD i 0) = true) : FiltJ rn p news (i + 1) (ys ++ [.int (rn.getD i 0) t]) news' :=
  ⟨h.e, by rw [take_one hi, List.filter_append, List.filter_cons, hp]; exact h.hy.append (.cons _ _ .nil)⟩
theorem FiltJ.no {rn : List Int} {p : Int → Bool} {news : List (Addr × Obj)} {i : Nat} {ys : List Value} {news' : List (Addr × Obj)} (h : FiltJ rn p news i ys news') (hi : i < rn.length) (hp : p (rn.getD i 0) = false) : FiltJ rn p news (i + 1) ys news' :=
  ⟨h.e, by rw [take_one hi, List.filter_append, List.filter_cons, hp, List.filter_nil]; simpa using h.hy⟩
end Mine
namespace Mine
theorem last_mem : ∀ {l : List Int}, l ≠ [] → l.getLastD 0 ∈ l
  | [], h => absurd rfl h
  | [a], _ => List.mem_singleton.mpr rfl
  | a :: b :: r, _ => .tail _ (last_mem (l := b :: r) (by simp))
theorem last_filter {l : List Int} {n : Int} (h : l ≠ []) (h1 : n < l.getLastD 0) : 0 < (l.filter fun x => decide (n < x)).length :=
  List.length_pos_iff.mpr (List.ne_nil_of_mem (List.mem_filter.mpr ⟨last_mem h, decide_eq_true h1⟩))
end Mine
namespace Mine
theorem rowsOk_set {t : Nat} {pre post : List RowO} {r r' : RowO} (ok : RowsOk t (pre ++ r :: post)) (h : IntsAre r'.us r'.ns) (e : r'.ns.length = r.ns.length) : RowsOk t (pre ++ r' :: post) := by
  obtain ⟨_, b, c⟩ := ok r (by simp)
  intro q hq
  rcases List.mem_append.mp hq with hq | hq
  · exact ok q (List.mem_append_left _ hq)
  · rcases List.mem_cons.mp hq with rfl | hq
    · refine ⟨h, fun z => ?_, e ▸ c⟩
      rw [z] at e
      exact b (List.length_eq_zero_iff.mp e.symm)
    · exact ok q (List.mem_append_right _ (.tail _ hq))
end Mine
namespace Mine
section
variable {prog : Program} {w : World} {A : Around} {E : Value → Shared → Prop} {s : Shared} {g : Heap} {L : Addr} {m : Str → Option Value} {news news' : List (Addr × Obj)}
theorem appendV {l : Addr} {vs : List Value} {n : Nat} {x : Value} {Q : Value → Shared → Prop} (F : Fr g L s.heap m) (N : News g L s.heap news) (U : Upd l (listOf vs.toArray n) (listOf (vs ++ [x]).toArray (n + 1)) news news') (hz : vs.length ≤ 1000000)
    (h : ∀ h', Fr g L h' m → News g L h' news' → Q .none { s with heap := h' }) : wpAny (model prog w) A (call (.builtin "list.append") [.ref l, x]) Q E s :=
  append_K F N (by rw [List.push_toArray]; exact U) h (by rw [sizeLine_eq, List.size_toArray]; omega)
end
end Mine
namespace Mine
theorem cut' {M : Model} {A : Around} {E : Value → Shared → Prop} {s : Shared} {env : Env} {Q : Flow → Shared → Prop} {st : Stmt} (J : Shared → Prop) (h1 : wpAny M A (exec st env) (Cut J Q) E s) (h2 : ∀ s', J s' → Hold (Q .next s')) : wpAny M A (exec st env) Q E s := cut J h1 h2
end Mine
namespace Mine
theorem led_out (rows : List RowO) (a b : Addr × Obj) (E : List (Addr × Obj)) : (rowsLed rows ++ a :: b :: E).Perm (a :: b :: (rowsLed rows ++ E)) :=
  List.perm_middle.trans (List.perm_middle.cons a)
theorem apt_out {p q a b : Addr × Obj} {rows : List RowO} {E : List (Addr × Obj)} (h : Apt (p :: q :: (rowsLed rows ++ a :: b :: E))) : Apt (p :: q :: a :: b :: (rowsLed rows ++ E)) :=
  h.perm ((((led_out rows a b E).cons q).cons p).map _)
theorem ref_new {as : List Nat} {i D : Nat} (h : i = as.length) : (as.map Value.ref ++ [Value.ref D])[((i : Nat) : Int).toNat]? = some (.ref D) := by
  subst h
  simp
end Mine
namespace Mine
theorem AllNe.ofAllLt {D : Nat} : ∀ {l : List (Addr × Obj)}, AllLt D l → AllNe D l
  | [], _ => trivial
  | _ :: _, h => ⟨Nat.ne_of_lt h.1, AllNe.ofAllLt h.2⟩
end Mine
namespace Mine
theorem cellsLed_fst (cs : List CellO) : (cellsLed cs).map (·.1) = cs.map (·.a) := by rw [List.map_map]; rfl
theorem apt_grow {l l' : List (Addr × Obj)} (h : Apt l) (e : ∀ a : Nat, (l.map (·.1)).count a = (l'.map (·.1)).count a) : Apt l' := h.perm (List.perm_iff_count.mpr e)
theorem apt_new {D : Nat} {o : Obj} {l : List (Addr × Obj)} (h : Apt l) (hD : AllLt D l) : Apt ((D, o) :: l) := ⟨AllNe.ofAllLt hD, h⟩
end Mine
namespace Mine
theorem led_mid4 {p q a b : Addr × Obj} (pre post : List RowO) (r : RowO) (E : List (Addr × Obj)) : (p :: q :: a :: b :: (rowsLed (pre ++ r :: post) ++ E)).Perm (p :: q :: a :: b :: r.led :: (rowsLed pre ++ (rowsLed post ++ E))) :=
  ((((rowsLed_mid pre post r E).cons b).cons a).cons q).cons p
theorem row_nth {pre post : List RowO} {r : RowO} : (pre ++ r :: post)[pre.length]? = some r := by
  rw [List.getElem?_append_right (Nat.le_refl _), Nat.sub_self]; rfl
end Mine
namespace Mine
end Mine
namespace Mine
/-- how many numbers stand in the rows -/
noncomputable def sz (rows : List (List Int)) : Nat := (rows.map List.length).sum
end Mine
open PySem PySem.W PySem.Calls PyProof.Rows PySem.SeqAt
set_option maxRecDepth 100000
namespace Mine
section
variable {prog : Program} {w : World} {A : Around} {E : Value → Shared → Prop} {s : Shared} {env : Env} {g : Heap} {L : Addr} {m : Str → Option Value} {news : List (Addr × Obj)} {Q : Flow → Shared → Prop}
/-- a loop over a list of pairs; the list stands in the ground, the pairs in the ledger -/
theorem for_pairs {x x₂ : Str} {px px₂ tp : Pos} {tk : Nat} {body : List Stmt} {ax : Addr} {its : List Value} (hh : A.handled = none) (hl : g.IsList ax its.toArray)
    (hL : env.locals = L) (hx : env.kindOf x = some .local) (hx₂ : env.kindOf x₂ = some .local) (hp : (env.scope.kind == .class || (env.scope.kind == .module && env.locals != env.globals)) = false)
    (F : Fr g L s.heap m) (N : News g L s.heap news)
    (J : Nat → (Str → Option Value) → List (Addr × Obj) → Prop) (h0 : J 0 m news)
    (turn : ∀ i v m₁ news₁, i < its.length → its[i]? = some v → J i m₁ news₁ → ∃ (t : Addr) (v₁ v₂ : Value), v = .ref t ∧ (t, pairObj v₁ v₂) ∈ news₁ ∧
      ∀ h tk I oI h₀, AllNe I news₁ → Fr g L h (fun y => if y = x₂ then some v₂ else if y = x then some v₁ else m₁ y) → News g L h ((I, oI) :: news₁) →
      wpAny (model prog w) A (execs body env) (Turn g L I oI { s with heap := h₀ } (J (i + 1)) Q) (fun _ _ => False) { s with heap := h, toks := tk })
    (done : ∀ h tk m' news', Fr g L h m' → News g L h news' → J its.length m' news' → Q .next { s with heap := h, toks := tk }) :
    ForSrc prog w A env (.Tuple [.Name x px, .Name x₂ px₂] tk tp) body Q (.ref ax) s := by
  subst hL
  have hls : s.heap.IsList ax its.toArray := hl.at fun o e => F.keep ax o e
  obtain ⟨ol, hol, _⟩ := id hl
  have hlt : ax < s.heap.objs.size := Heap.lt_size (F.keep _ _ hol)
  unfold ForSrc
  refine wpAny_pyIter_list hls ?_
  generalize hI : s.heap.objs.size = I
  have W := Walks.list (prog := prog) (w := w) hh I ax (Nat.ne_of_lt (hI ▸ hlt)) its.toArray
  have hsz : its.toArray.size = its.length := List.size_toArray ..
  have up : ∀ b o, s.heap.get? b = some o → (s.heap.push { cls := .type "list_iterator", data := .fields #[.ref ax, .int 0 0] }).get? b = some o := fun b o e => Heap.get?_push_of_some _ e
  have hIL : I ≠ env.locals := hI ▸ Nat.ne_of_gt F.ns.lt
  have hIg : g.get? I = none := hI ▸ next_is_new F
  have old : ∀ b o, g.get? b = some o → b ∉ [I] := fun b o e hb => by rw [List.mem_singleton.mp hb, hIg] at e; cases e
  have hLw : env.locals ∉ [I] := fun h => hIL (List.mem_singleton.mp h).symm
  refine codeAny_forLoop_any
    (fun k s' => ∃ h' tk m' news' i, s' = { s with heap := h', toks := tk } ∧ (h'.IsListIter I ax i ∧ h'.IsList ax its.toArray) ∧ Fr g env.locals h' m' ∧ News g env.locals h' news' ∧ (∀ p ∈ news', p.1 ≠ I) ∧ J i m' news' ∧ i ≤ its.length ∧ k = its.length + 1 - i) ?_ (its.length + 1)
    ⟨s.heap.push { cls := .type "list_iterator", data := .fields #[.ref ax, .int 0 0] }, s.toks, m, news, 0, rfl, ⟨⟨_, hI ▸ Heap.get?_push_size _ rfl, rfl, rfl⟩, hls.push _⟩, F.keeps up, N.grown up, fun p hp => hI ▸ Nat.ne_of_lt (Heap.lt_size (N p hp).1), h0, Nat.zero_le _, rfl⟩
  rintro k s' ⟨h', tk', m', news', i, rfl, hst', F', N', hnw', hJ, hi, rfl⟩
  have next : ∀ h₁ : Heap, (∀ b o, b ∉ [I] → h'.get? b = some o → h₁.get? b = some o) → Fr g env.locals h₁ m' ∧ News g env.locals h₁ news' := fun h₁ hk₁ =>
    ⟨⟨F'.ns.at' fun o e => hk₁ _ o hLw e, fun b o e => hk₁ b o (old b o e) (F'.keep b o e), F'.above⟩, fun p hp => ⟨hk₁ _ _ (fun q => hnw' p hp (List.mem_singleton.mp q)) (N' p hp).1, (N' p hp).2⟩⟩
  by_cases hlt' : i < its.length
  · refine W.item i _ _ _ (hsz ▸ hlt') hst' fun v h₁ tk₁ hP hst₁ hk₁ => ?_
    obtain ⟨F₁, N₁⟩ := next h₁ hk₁
    obtain ⟨t, v₁, v₂, rfl, hmt, T⟩ := turn i v m' news' hlt' (by simpa using hP) hJ
    have ht : IsTup h₁ t #[v₁, v₂] := ⟨_, (N₁ _ hmt).1, rfl, _, rfl⟩
    refine wpAny_letOwnedTupleGo_listiter hst₁.1 ?_
    refine assign_Tuple_tuple hh ht rfl rfl fun h₅ he => ?_
    have he' : ∀ b o, h₁.get? b = some o → h₅.get? b = some o := fun b o e => he b o (Nat.ne_of_lt (Heap.lt_size e)) e
    refine assignInOrder_cons (wpAny_assign_Name (wpAny_storeName_local hx (F₁.keeps he').ns (fun h₂ hn₂ hs₂ => ?_) hp))
    have F₂ := (F₁.keeps he').set hn₂ hs₂
    refine assignInOrder_cons (wpAny_assign_Name (wpAny_storeName_local hx₂ F₂.ns (fun h₃ hn₃ hs₃ => ?_) hp))
    have F₃ := F₂.set hn₃ hs₃
    refine assignInOrder_nil ?_
    obtain ⟨oI, hoI, hoI2⟩ := hst₁.1
    have hoI₃ : h₃.get? I = some oI := (hs₃.2 I hIL).trans ((hs₂.2 I hIL).trans (he' _ _ hoI))
    have N₃ : News g env.locals h₃ ((I, oI) :: news') := fun p hp => by
      rcases List.mem_cons.mp hp with rfl | hp
      · exact ⟨hoI₃, hIL, hIg⟩
      · exact ((N₁.grown he').set hs₂).set hs₃ p hp
    refine wpAny_mono (T h₃ _ I oI s.heap (.of hnw') F₃ N₃) (fun f s₃ h₃ => ?_) fun _ _ e => e.elim
    have fin : (∃ h₄ tk₄ m₂ news₂, s₃ = { s with heap := h₄, toks := tk₄ } ∧ Fr g env.locals h₄ m₂ ∧ News g env.locals h₄ ((I, oI) :: news₂) ∧ AllNe I news₂ ∧ J (i + 1) m₂ news₂) →
        ∃ m, m < its.length + 1 - i ∧ ∃ h' tk m' news' i, s₃ = { s with heap := h', toks := tk } ∧ (h'.IsListIter I ax i ∧ h'.IsList ax its.toArray) ∧ Fr g env.locals h' m' ∧ News g env.locals h' news' ∧ (∀ p ∈ news', p.1 ≠ I) ∧ J i m' news' ∧ i ≤ its.length ∧ m = its.length + 1 - i := by
      rintro ⟨h₄, tk₄, m₂, news₂, rfl, F₄, N₄, ho₄, hJ₄⟩
      exact ⟨its.length + 1 - (i + 1), by omega, h₄, tk₄, m₂, news₂, i + 1, rfl, ⟨⟨oI, (N₄ _ (.head _)).1, hoI2⟩, hl.at fun o e => F₄.keep ax o e⟩, F₄, fun p hp => N₄ p (.tail _ hp), ho₄.mem, hJ₄, hlt', rfl⟩
    cases f with
    | ret v => exact h₃
    | brk => exact h₃
    | next => exact fin h₃
    | cont => exact fin h₃
  · have hin : i = its.length := by omega
    subst hin
    refine W.done _ _ _ (by rw [hsz]; exact hst') fun h₁ tk₁ hk₁ => wpAny_execs_nil ?_
    obtain ⟨F₁, N₁⟩ := next h₁ hk₁
    exact done h₁ tk₁ m' news' F₁ N₁ hJ
end
section
variable {prog : Program} {w : World} {A : Around} {E : Value → Shared → Prop} {s : Shared} {h₀ : Heap} {L : Addr} {m : Str → Option Value} {env : Env}
/-- the turns of a comprehension over pairs, by an invariant -/
theorem compP_inv {elt : PySem.Expr} {x x₂ : Str} {scope : Scope} {cl : List (Str × Addr)} {S : List (Addr × Obj) → Prop} {P : Nat → Value → Prop} {Fin : List Value → List (Addr × Obj) → Prop} {n : Nat} (J : Nat → List Value → List (Addr × Obj) → Prop)
    (turn : ∀ i ys news, i < n → J i ys news → ∀ v, P i v → ∃ (t : Addr) (v₁ v₂ : Value), v = .ref t ∧ (t, pairObj v₁ v₂) ∈ news ∧
      ∀ I oI C oC D m₂ h tk (E' : Value → Shared → Prop), LCg.NsObj oC m₂ → m₂ x = some v₁ → m₂ x₂ = some v₂ → Fr h₀ L h m → News h₀ L h ((I, oI) :: (C, oC) :: (D, LCg.lst ys) :: news) → LCg.Off3 I C D news → ((@Ne Nat I C) ∧ (@Ne Nat I D) ∧ (@Ne Nat C D)) →
      wpAny (model prog w) A (eval elt (compEnvC scope cl C env)) (LCg.CompEnd h₀ L m { s with heap := h, toks := tk } I oI C oC D (LCg.lst ys) S (fun y news' => J (i + 1) (ys ++ [y]) news')) E' { s with heap := h, toks := tk })
    (fin : ∀ ys news, J n ys news → Fin ys news) {news : List (Addr × Obj)} (h0 : J 0 [] news) : LCp.CompRestP prog w A h₀ L m env elt x x₂ scope cl s S P Fin n 0 [] news := by
  have key : ∀ k i ys news, i + k = n → J i ys news → LCp.CompRestP prog w A h₀ L m env elt x x₂ scope cl s S P Fin k i ys news := by
    intro k
    induction k with
    | zero => intro i ys news hi hJ; obtain rfl : i = n := hi; exact fin ys news hJ
    | succ k ih =>
      intro i ys news hi hJ
      refine LCp.CompRestP.succ fun v hP => ?_
      obtain ⟨t, v₁, v₂, e, hm, T⟩ := turn i ys news (by omega) hJ v hP
      refine ⟨t, _, v₁, v₂, _, e, hm, rfl, rfl, fun I oI C oC D m₂ h tk E' hN hx hx₂ F N o3 hne => ?_⟩
      refine wpAny_mono (T I oI C oC D m₂ h tk E' hN hx hx₂ F N o3 hne) (fun y s₂ h₂ => ?_) fun _ _ e => e
      obtain ⟨h', tk', news', e, F', N', o', hS, hj⟩ := h₂
      exact ⟨h', tk', news', e, F', N', o', hS, ih (i + 1) _ _ (by omega) hj⟩
  exact key n 0 [] news (by omega) h0
end
end Mine
namespace Mine
/-- a comprehension that takes an int off each pair -/
structure PairJ (cls : List CellO) (f : CellO → Int) (news : List (Addr × Obj)) (i : Nat) (ys : List Value) (news' : List (Addr × Obj)) : Prop where
  e : news' = news
  hy : IntsAre ys ((cls.take i).map f)
theorem cell_at {cls : List CellO} {i : Nat} {v : Value} (h : (cellRefs cls)[i]? = some v) : ∃ c, cls[i]? = some c ∧ v = .ref c.a ∧ c.led ∈ cellsLed cls := by
  rw [List.getElem?_map] at h
  obtain ⟨c, hc, rfl⟩ := Option.map_eq_some_iff.mp h
  exact ⟨c, hc, rfl, List.mem_map_of_mem (List.mem_of_getElem? hc)⟩
theorem PairJ.next {cls : List CellO} {f : CellO → Int} {news : List (Addr × Obj)} {i : Nat} {ys : List Value} {news' : List (Addr × Obj)} {t : Tok} {c : CellO} (h : PairJ cls f news i ys news') (hc : cls[i]? = some c) : PairJ cls f news (i + 1) (ys ++ [.int (f c) t]) news' := by
  obtain ⟨hi, rfl⟩ := List.getElem?_eq_some_iff.mp hc
  refine ⟨h.e, ?_⟩
  rw [List.take_succ_eq_append_getElem hi, List.map_append]
  exact h.hy.append (.cons _ _ .nil)
end Mine
namespace Mine
theorem max_bd {cls : List CellO} {f : CellO → Nat} {M : Int} (h : M ∈ cls.map fun c => (f c : Int)) {b : Nat} (hb : ∀ c ∈ cls, f c ≤ b) : 0 ≤ M ∧ M ≤ b := by
  obtain ⟨c, hc, rfl⟩ := List.mem_map.mp h
  have := hb c hc
  omega
end Mine
namespace Mine
/-- the lead of a cell, as signs -/
noncomputable def leadP (pl : Bool) (H W RN rest : Int) (i j : Nat) : List Nat :=
  (if pl then List.replicate (i + rest.fmod 3).toNat 9 ++ List.replicate ((if 1 > H then 1 else H) * j).toNat 32
  else
    let ps := List.replicate ((if 1 > W then 1 else W) * i).toNat [9] ++ List.replicate j (List.replicate RN.toNat 32 ++ [9]) ++ [List.replicate (rest.fmod 3).toNat 32 ++ [9]]
    let t := ((rest + i + 2 * j).fmod ps.length).toNat
    (ps.drop t ++ ps.take t).flatten) ++ List.replicate ((rest.fdiv 6).fmod 2).toNat 32
end Mine
namespace Mine
theorem run_bd {H W RN rest : Int} (h0 : 0 ≤ H) (h1 : H ≤ 7) (h2 : 0 ≤ W) (h3 : W ≤ 7) (e : RN = (if 0 > H * W - 1 then 0 else H * W - 1) + (rest.fdiv 3).fmod 2) : 0 ≤ RN ∧ RN ≤ 50 := by
  have a := Int.fmod_nonneg_of_pos (rest.fdiv 3) (b := 2) (by decide)
  have b := Int.fmod_lt_of_pos (rest.fdiv 3) (b := 2) (by decide)
  have c : H * W ≤ 49 := by
    have := Int.mul_le_mul h1 h3 h2 (by decide)
    omega
  rw [e]
  split <;> omega
end Mine
namespace Mine
theorem mul_bd {a : Int} {b : Nat} (h0 : 0 ≤ a) (h1 : a ≤ 7) (hb : b ≤ 7) : 0 ≤ a * (b : Int) ∧ a * (b : Int) ≤ 49 := by
  have := Int.mul_le_mul h1 (show (b : Int) ≤ 7 by omega) (Int.natCast_nonneg b) (by decide)
  exact ⟨Int.mul_nonneg h0 (Int.natCast_nonneg b), by omega⟩
end Mine
namespace Mine
theorem strs_snoc {cls : List CellO} {f : CellO → Str} {i : Nat} {c : CellO} {ovs : List Value} {t : Tok} (ho : StrsAre ovs ((cls.take i).map f)) (hc : cls[i]? = some c) : StrsAre (ovs ++ [.str (f c) t]) ((cls.take (i + 1)).map f) := by
  obtain ⟨hi, rfl⟩ := List.getElem?_eq_some_iff.mp hc
  rw [List.take_succ_eq_append_getElem hi, List.map_append]
  exact ho.append' (.cons _ _ .nil)
end Mine
open PySem PySem.W PySem.Calls PyProof.Rows PySem.SeqAt
set_option maxRecDepth 100000
namespace Mine
theorem str_of_list {x : Str} {l : List Nat} (h : x.cps.toList = l) : x = S l := by
  obtain ⟨a⟩ := x
  show Str.mk a = Str.mk l.toArray
  rw [← h, Array.toArray_toList]
theorem mul_S (c : Nat) (k : Int) : Txt.mul (S [c]) k = S (List.replicate k.toNat c) := str_of_list (mul_one_list c k)
section
variable {prog : Program} {w : World} {A : Around} {E : Value → Shared → Prop} {s : Shared} {g : Heap} {L : Addr} {m : Str → Option Value} {news : List (Addr × Obj)}
theorem mulS {x : Str} {c : Nat} {k : Int} {t u : Tok} {Q : Value → Shared → Prop} (hx : x = S [c]) (h0 : 0 ≤ k) (h1 : k ≤ 1000) (h : ∀ t tk, Q (.str (S (List.replicate k.toNat c)) t) { s with toks := tk }) : wpAny (model prog w) A (binaryOp .Mult (.str x t) (.int k u)) Q E s := by
  subst hx
  refine KXi.mul (n := 1) rfl (by decide) (by omega) (by omega) fun t' tk _ _ => ?_
  rw [mul_S]
  exact h t' tk
theorem addS {a b : List Nat} {t u : Tok} {Q : Value → Shared → Prop} (hz : a.length + b.length ≤ 1000000) (h : ∀ t tk, Q (.str (S (a ++ b)) t) { s with toks := tk }) : wpAny (model prog w) A (binaryOp .Add (.str (S a) t) (.str (S b) u)) Q E s :=
  PyProof.Rows.add_str (fun t' tk => by rw [S_app]; exact h t' tk) (by rw [sizeLine_eq, S_len, S_len]; omega)
theorem iaddS {a b : List Nat} {t u : Tok} {Q : Value → Shared → Prop} (hz : a.length + b.length ≤ 1000000) (h : ∀ t tk, Q (.str (S (a ++ b)) t) { s with toks := tk }) : wpAny (model prog w) A (inplaceOp .Add (.str (S a) t) (.str (S b) u)) Q E s :=
  PyProof.Rows.iadd_str (fun t' tk => by rw [S_app]; exact h t' tk) (by rw [sizeLine_eq, S_len, S_len]; omega)
theorem mulV {l : Addr} {vs : List Value} {n : Nat} {k : Int} {u : Tok} {Q : Value → Shared → Prop} (F : Fr g L s.heap m) (N : News g L s.heap news) (hm : (l, listOf vs.toArray n) ∈ news) (h0 : 0 ≤ k) (h1 : k ≤ 1000) (hz : vs.length ≤ 1000)
    (h : ∀ D h', Fr g L h' m → News g L h' ((D, listOf (List.replicate k.toNat vs).flatten.toArray 0) :: news) → (∀ p ∈ news, p.1 < D) → Q (.ref D) { s with heap := h' }) : wpAny (model prog w) A (binaryOp .Mult (.ref l) (.int k u)) Q E s := by
  have hs : vs.length * k.toNat ≤ 2 ^ 24 := by
    have : vs.length * k.toNat ≤ 1000 * 1000 := Nat.mul_le_mul hz (by omega)
    omega
  refine PyProof.Rows.mul_list F N (N _ hm).1 (by omega) (by omega) (by rw [List.size_toArray]; exact hs) fun h' F' N' => ?_
  rw [listMul_foldl_if] at N'
  exact h _ h' F' N' fun p hp => Heap.lt_size (N p hp).1
theorem addV {l b : Addr} {vs ws : List Value} {n n' : Nat} {Q : Value → Shared → Prop} (F : Fr g L s.heap m) (N : News g L s.heap news) (hm : (l, listOf vs.toArray n) ∈ news) (hm' : (b, listOf ws.toArray n') ∈ news) (hz : vs.length + ws.length ≤ 1000000)
    (h : ∀ D h', Fr g L h' m → News g L h' ((D, listOf (vs ++ ws).toArray 0) :: news) → (∀ p ∈ news, p.1 < D) → Q (.ref D) { s with heap := h' }) : wpAny (model prog w) A (binaryOp .Add (.ref l) (.ref b)) Q E s :=
  PyProof.Rows.add_lists (hsz := by rw [sizeLine_eq]; omega) F N (News.isList N hm) (News.isList N hm') fun h' F' N' => h _ h' F' N' fun p hp => Heap.lt_size (N p hp).1
end
end Mine
namespace Mine
theorem join_S : ∀ ps : List (List Nat), Str.join (S []) (ps.map S) = S ps.flatten
  | [] => rfl
  | [p] => by simp [Str.join]
  | p :: q :: r => by
    rw [List.map_cons, List.map_cons, Str.join, ← List.map_cons, join_S (q :: r), S_app, S_app]
    · simp
    · simp
theorem sum_S (ps : List (List Nat)) : ((ps.map S).map (·.length)).sum = ps.flatten.length := by
  induction ps with
  | nil => rfl
  | cons p r ih => simp only [List.map_cons, List.sum_cons, List.flatten_cons, List.length_append, ih, S_len]
section
variable {prog : Program} {w : World} {A : Around} {E : Value → Shared → Prop} {s : Shared} {g : Heap} {L : Addr} {m : Str → Option Value} {news : List (Addr × Obj)}
theorem joinS {l : Addr} {vs : List Value} {n : Nat} {x : Str} {t : Tok} {ps : List (List Nat)} {Q : Value → Shared → Prop} (N : News g L s.heap news) (hm : (l, listOf vs.toArray n) ∈ news) (hx : x = S []) (hi : StrsAre vs (ps.map S)) (hz : ps.flatten.length ≤ 1000000) (h : ∀ t tk, Q (.str (S ps.flatten) t) { s with toks := tk }) :
    wpAny (model prog w) A (call (.builtin "str.join") [.str x t, .ref l]) Q E s := by
  subst hx
  refine PyProof.Rows.join_list (News.isList N hm) hi ?_ fun t' tk => ?_
  · rw [sum_S, show (S []).length = 0 from rfl]; omega
  · rw [show Txt.join (S []) (ps.map S) = S ps.flatten from (PySem.StrLaws.glued_eq_join _ _).trans (join_S ps)]
    exact h t' tk
theorem sliceFrom {l : Addr} {vs : List Value} {n : Nat} {k : Int} {u : Tok} {value slice : PySem.Expr} {Q : Value → Shared → Prop} (F : Fr g L s.heap m) (N : News g L s.heap news) (hm : (l, listOf vs.toArray n) ∈ news) (h0 : 0 ≤ k) (h1 : k ≤ vs.length) (hz : vs.length ≤ 1000000)
    (h : ∀ D h', Fr g L h' m → News g L h' ((D, listOf (vs.drop k.toNat).toArray 0) :: news) → (∀ p ∈ news, p.1 < D) → Q (.ref D) { s with heap := h' })
    (hs : subscripted slice false (.ref l) (.ref s.heap.objs.size) = operate [.ref s.heap.objs.size, .ref l] (getItem (.ref l) (.ref s.heap.objs.size)) := by with_unfolding_all rfl) (ht : ∀ r, letTemporaryGo value (.ref l) r = pure () := by intro _; with_unfolding_all rfl) :
    wpAny (model prog w) A (subscriptTail value slice (.ref l) (.ref s.heap.objs.size)) Q E { s with heap := s.heap.push { cls := .type "slice", data := .fields #[.int k u, .none, .none] } } := by
  refine slice_list (hsz := by rw [sizeLine_eq, List.size_toArray]; omega) F N (News.isList N hm) (.int _ _) .none (fun h' F' N' => ?_) hs ht
  obtain ⟨a, rfl⟩ := Int.eq_ofNat_of_zero_le h0
  rw [slicePick_from _ _ (by rw [List.size_toArray]; omega)] at N'
  exact h _ h' F' N' fun p hp => Nat.lt_succ_of_lt (Heap.lt_size (N p hp).1)
theorem sliceUpto {l : Addr} {vs : List Value} {n : Nat} {k : Int} {u : Tok} {value slice : PySem.Expr} {Q : Value → Shared → Prop} (F : Fr g L s.heap m) (N : News g L s.heap news) (hm : (l, listOf vs.toArray n) ∈ news) (h0 : 0 ≤ k) (h1 : k ≤ vs.length) (hz : vs.length ≤ 1000000)
    (h : ∀ D h', Fr g L h' m → News g L h' ((D, listOf (vs.take k.toNat).toArray 0) :: news) → (∀ p ∈ news, p.1 < D) → Q (.ref D) { s with heap := h' })
    (hs : subscripted slice false (.ref l) (.ref s.heap.objs.size) = operate [.ref s.heap.objs.size, .ref l] (getItem (.ref l) (.ref s.heap.objs.size)) := by with_unfolding_all rfl) (ht : ∀ r, letTemporaryGo value (.ref l) r = pure () := by intro _; with_unfolding_all rfl) :
    wpAny (model prog w) A (subscriptTail value slice (.ref l) (.ref s.heap.objs.size)) Q E { s with heap := s.heap.push { cls := .type "slice", data := .fields #[.none, .int k u, .none] } } := by
  refine slice_list (hsz := by rw [sizeLine_eq, List.size_toArray]; omega) F N (News.isList N hm) .none (.int _ _) (fun h' F' N' => ?_) hs ht
  obtain ⟨a, rfl⟩ := Int.eq_ofNat_of_zero_le h0
  rw [slicePick_upto _ _ (by rw [List.size_toArray]; omega)] at N'
  exact h _ h' F' N' fun p hp => Nat.lt_succ_of_lt (Heap.lt_size (N p hp).1)
end
end Mine
namespace Mine
section
variable {prog : Program} {w : World} {A : Around} {E : Value → Shared → Prop} {s : Shared} {g : Heap} {L : Addr} {m : Str → Option Value} {news : List (Addr × Obj)}
theorem mulV1 {l : Addr} {v : Value} {n : Nat} {k : Int} {u : Tok} {Q : Value → Shared → Prop} (F : Fr g L s.heap m) (N : News g L s.heap news) (hm : (l, listOf [v].toArray n) ∈ news) (h0 : 0 ≤ k) (h1 : k ≤ 1000)
    (h : ∀ D h', Fr g L h' m → News g L h' ((D, listOf (List.replicate k.toNat v).toArray 0) :: news) → (∀ p ∈ news, p.1 < D) → Q (.ref D) { s with heap := h' }) : wpAny (model prog w) A (binaryOp .Mult (.ref l) (.int k u)) Q E s :=
  mulV F N hm h0 h1 (by simp) fun D h' F' N' l1 => h D h' F' (by rw [flat_rep] at N'; exact N') l1
end
end Mine
namespace Mine
section
variable {prog : Program} {w : World} {A : Around} {E : Value → Shared → Prop} {s : Shared}
theorem addSr {a b : List Nat} {y : Str} {t u : Tok} {Q : Value → Shared → Prop} (hy : y = S b) (hz : a.length + b.length ≤ 1000000) (h : ∀ t tk, Q (.str (S (a ++ b)) t) { s with toks := tk }) : wpAny (model prog w) A (binaryOp .Add (.str (S a) t) (.str y u)) Q E s := by
  subst hy; exact addS hz h
end
end Mine
namespace Mine
section
variable {prog : Program} {w : World} {A : Around} {E : Value → Shared → Prop} {s : Shared} {g : Heap} {L : Addr} {news : List (Addr × Obj)}
theorem lenP {l : Addr} {vs : List Value} {n : Nat} {Q : Value → Shared → Prop} (N : News g L s.heap news) (hm : (l, listOf vs.toArray n) ∈ news) (hp : 0 < vs.length) (hz : vs.length ≤ 1000000)
    (h : ∀ t tk, 0 < (vs.length : Int) → Q (.int vs.length t) { s with toks := tk }) : wpAny (model prog w) A (call (.builtin "len") [.ref l]) Q E s := lenV N hm hz fun t tk => h t tk (by omega)
end
end Mine
namespace Mine
theorem strs_rep {x : Str} {t : Tok} : ∀ k : Nat, StrsAre (List.replicate k (.str x t)) (List.replicate k x)
  | 0 => .nil
  | k + 1 => .cons _ _ (strs_rep k)
theorem pieces_are {a b : Nat} {x y : List Nat} {z : Str} {t1 t2 t3 : Tok} (hz : z = S [9]) (k : Nat) :
    StrsAre ((List.replicate a (Value.str z t1) ++ List.replicate b (Value.str (S x) t2) ++ [Value.str (S y) t3]).drop k ++ (List.replicate a (Value.str z t1) ++ List.replicate b (Value.str (S x) t2) ++ [Value.str (S y) t3]).take k)
      (((List.replicate a [9] ++ List.replicate b x ++ [y]).drop k ++ (List.replicate a [9] ++ List.replicate b x ++ [y]).take k).map S) := by
  subst hz
  have h : StrsAre (List.replicate a (Value.str (S [9]) t1) ++ List.replicate b (Value.str (S x) t2) ++ [Value.str (S y) t3]) ((List.replicate a [9] ++ List.replicate b x ++ [y]).map S) := by
    rw [List.map_append, List.map_append, List.map_replicate, List.map_replicate]
    exact ((strs_rep a).append' (strs_rep b)).append' (.cons _ _ .nil)
  rw [List.map_append, List.map_drop, List.map_take]
  exact (StrsAre.drop' h k).append' (StrsAre.take' h k)
theorem rot_len (ps : List (List Nat)) (k : Nat) : (ps.drop k ++ ps.take k).flatten.length = ps.flatten.length := by
  rw [List.flatten_append, List.length_append, Nat.add_comm, ← List.length_append, ← List.flatten_append, List.take_append_drop]
theorem pieces_len (a b : Nat) (x y : List Nat) : (List.replicate a [9] ++ List.replicate b x ++ [y]).flatten.length = a + b * x.length + y.length := by
  simp; omega
end Mine
namespace Mine
theorem pieces_short {a b k : Nat} {x y : List Nat} (ha : a ≤ 49) (hb : b ≤ 7) (hx : x.length ≤ 51) (hy : y.length ≤ 3) :
    ((List.replicate a [9] ++ List.replicate b x ++ [y]).drop k ++ (List.replicate a [9] ++ List.replicate b x ++ [y]).take k).flatten.length ≤ 1000 := by
  rw [rot_len, pieces_len]
  have : b * x.length ≤ 7 * 51 := Nat.mul_le_mul hb hx
  omega
theorem leadP_false {H W RN rest : Int} {i j n : Nat} (hn : n = ((if 1 > W then 1 else W) * i).toNat + j + 1) :
    leadP false H W RN rest i j =
      ((List.replicate ((if 1 > W then 1 else W) * i).toNat [9] ++ List.replicate (j : Int).toNat (List.replicate RN.toNat 32 ++ [9]) ++ [List.replicate (rest.fmod 3).toNat 32 ++ [9]]).drop ((rest + i + 2 * j).fmod n).toNat ++
        (List.replicate ((if 1 > W then 1 else W) * i).toNat [9] ++ List.replicate (j : Int).toNat (List.replicate RN.toNat 32 ++ [9]) ++ [List.replicate (rest.fmod 3).toNat 32 ++ [9]]).take ((rest + i + 2 * j).fmod n).toNat).flatten ++ List.replicate ((rest.fdiv 6).fmod 2).toNat 32 := by
  have e : (List.replicate ((if 1 > W then 1 else W) * i).toNat [9] ++ List.replicate j (List.replicate RN.toNat 32 ++ [9]) ++ [List.replicate (rest.fmod 3).toNat 32 ++ [9]]).length = n := by
    rw [hn]; simp only [List.length_append, List.length_replicate, List.length_cons, List.length_nil]
  simp only [leadP, e, Int.toNat_natCast, Bool.false_eq_true, if_false]
end Mine
namespace Mine
theorem joinX {prog : Program} {w : World} {A : Around} {E : Value → Shared → Prop} {s : Shared} {g : Heap} {L : Addr} {news : List (Addr × Obj)} {l : Addr} {vs : List Value} {n : Nat} {x : Str} {t : Tok} {ps : List (List Nat)} {Q : Value → Shared → Prop} (N : News g L s.heap news) (hm : (l, listOf vs.toArray n) ∈ news) (hx : x = S []) (hi : StrsAre vs (ps.map S)) (hz : ps.flatten.length ≤ 1000)
    (h : ∀ t tk X, X = ps.flatten → X.length ≤ 1000 → Q (.str (S X) t) { s with toks := tk }) : wpAny (model prog w) A (call (.builtin "str.join") [.str x t, .ref l]) Q E s :=
  joinS N hm hx hi (Nat.le_trans hz (by decide)) fun t tk => h t tk _ rfl hz
end Mine
open PySem PySem.W PySem.Calls PyProof.Rows PySem.SeqAt
set_option maxRecDepth 100000
namespace Mine
theorem lit0 : Str.ofString "" = S [] := by decide +kernel
theorem lit34 : Str.ofString "\"" = S [34] := by decide +kernel
theorem lit92 : Str.ofString "\\" = S [92] := by decide +kernel
theorem lit32 : Str.ofString " " = S [32] := by decide +kernel
theorem lit10 : Str.ofString "\n" = S [10] := by decide +kernel
theorem lit910 : Str.ofString "\t\n" = S [9, 10] := by decide +kernel
section
variable {prog : Program} {w : World} {A : Around} {E : Value → Shared → Prop} {s : Shared} {g : Heap} {L : Addr} {m : Str → Option Value} {news : List (Addr × Obj)}
theorem addG {a b : List Nat} {x y : Str} {t u : Tok} {Q : Value → Shared → Prop} (hx : x = S a) (hy : y = S b) (hz : a.length + b.length ≤ 1000000) (h : ∀ t tk, Q (.str (S (a ++ b)) t) { s with toks := tk }) : wpAny (model prog w) A (binaryOp .Add (.str x t) (.str y u)) Q E s := by
  subst hx hy; exact addS hz h
theorem iaddG {a b : List Nat} {x y : Str} {t u : Tok} {Q : Value → Shared → Prop} (hx : x = S a) (hy : y = S b) (hz : a.length + b.length ≤ 1000000) (h : ∀ t tk, Q (.str (S (a ++ b)) t) { s with toks := tk }) : wpAny (model prog w) A (inplaceOp .Add (.str x t) (.str y u)) Q E s := by
  subst hx hy; exact iaddS hz h
theorem itemG {l : Addr} {vs : List Value} {k : Int} {u : Tok} {v : Value} {value slice : PySem.Expr} {Q : Value → Shared → Prop} (F : Fr g L s.heap m) (hl : g.IsList l vs.toArray) (h0 : 0 ≤ k) (hk : k < 1000000) (hx : vs[k.toNat]? = some v) (h : Q v s)
    (hs : subscripted slice false (.ref l) (.int k u) = operate [.ref l, .int k u] (getItem (.ref l) (.int k u)) := by with_unfolding_all rfl) (hg : ∀ r, letTemporaryGo value (.ref l) r = pure () := by intro _; with_unfolding_all rfl) :
    wpAny (model prog w) A (subscriptTail value slice (.ref l) (.int k u)) Q E s :=
  have hl := F.lst hl
  subscriptTail_builtin hl.typeIs slot_list_getitem.lookup (wpAny_getItem_list hl h0 (by omega) (by simpa using hx) h) hs hg
end
/-- a word as _law_written writes it -/
noncomputable def sepP (k : Int) : List Nat := if k = 0 then [32] else if k = 1 then [10] else [9, 10]
noncomputable def chunkP (f : Int) (k : Nat) (x : List Nat) : List Nat :=
  let kind := (f + k).fmod 3
  let mark := if kind = 1 then [] else [34]
  (mark ++ (if kind = 0 then x else (x.map fun c => [92, c]).flatten) ++ mark) ++ sepP ((f.fdiv 3 + k).fmod 3)
noncomputable def writtenP (fs : List Int) (ws : List (List Nat)) : Nat → List Nat
  | 0 => []
  | i + 1 => writtenP fs ws i ++ chunkP (fs.getD i 0) i (ws.getD i [])
theorem chunk_len (f : Int) (k : Nat) (x : List Nat) : (chunkP f k x).length ≤ 2 * x.length + 4 := by
  have e : ((x.map fun c => [92, c]).flatten).length = 2 * x.length := by
    induction x with
    | nil => rfl
    | cons a r ih => simp only [List.map_cons, List.flatten_cons, List.length_append, ih, List.length_cons, List.length_nil]; omega
  have e2 : (sepP ((f.fdiv 3 + k).fmod 3)).length ≤ 2 := by unfold sepP; split <;> (try split) <;> simp
  unfold chunkP
  simp only [List.length_append]
  split <;> split <;> simp only [List.length_nil, List.length_cons, e] <;> omega
theorem words_at {ws : List (List Nat)} {vs : List Value} (h : StrsAre vs (ws.map S)) {i : Nat} (hi : i < ws.length) : ∃ t, vs[i]? = some (.str (S (ws.getD i [])) t) := by
  have hl := h.len_eq
  rw [List.length_map] at hl
  obtain ⟨u, tu, e, hu⟩ := StrsAre.item h i vs[i] (List.getElem?_eq_getElem (by omega))
  rw [List.getElem?_map, List.getElem?_eq_getElem hi] at hu
  refine ⟨tu, ?_⟩
  rw [List.getElem?_eq_getElem (by omega), e]
  have : S (ws[i]) = u := by simpa using hu
  rw [← this]
  simp [List.getD, hi]
end Mine
namespace Mine
theorem lenG {prog : Program} {w : World} {A : Around} {E : Value → Shared → Prop} {s : Shared} {g : Heap} {L : Addr} {m : Str → Option Value} {l : Addr} {vs : List Value} {Q : Value → Shared → Prop} (F : Fr g L s.heap m) (hl : g.IsList l vs.toArray) (hz : vs.length ≤ 1000000)
    (h : ∀ t tk, Q (.int vs.length t) { s with toks := tk }) : wpAny (model prog w) A (call (.builtin "len") [.ref l]) Q E s := by
  refine PyProof.Rows.len_list (F.lst hl) (by simp; omega) ?_
  rw [show ((vs.toArray.size : Nat) : Int) = (vs.length : Int) by simp]
  exact h _ _
theorem chunk0 {f : Int} {k : Nat} {x : List Nat} (h : (f + k).fmod 3 = 0) : chunkP f k x = ([34] ++ x ++ [34]) ++ sepP ((f.fdiv 3 + k).fmod 3) := by simp [chunkP, h]
theorem chunk1 {f : Int} {k : Nat} {x : List Nat} (h : (f + k).fmod 3 = 1) : chunkP f k x = ([] ++ (x.map fun c => [92, c]).flatten ++ []) ++ sepP ((f.fdiv 3 + k).fmod 3) := by simp [chunkP, h]
theorem chunk2 {f : Int} {k : Nat} {x : List Nat} (h0 : (f + k).fmod 3 ≠ 0) (h1 : (f + k).fmod 3 ≠ 1) : chunkP f k x = ([34] ++ (x.map fun c => [92, c]).flatten ++ [34]) ++ sepP ((f.fdiv 3 + k).fmod 3) := by simp [chunkP, h0, h1]
end Mine
namespace Mine
section
variable {fs : List Int} {ws : List (List Nat)} {i : Nat} {X1 sp : List Nat} {e : Int}
theorem wr_next (hX : X1 = writtenP fs ws i) (hz : X1.length ≤ 3000 * i) (hw : (ws.getD i []).length ≤ 1200) {Y : List Nat} (hY : Y = chunkP (fs.getD i 0) i (ws.getD i [])) : (X1 ++ Y) = writtenP fs ws (i + 1) ∧ (X1 ++ Y).length ≤ 3000 * (i + 1) := by
  have := chunk_len (fs.getD i 0) i (ws.getD i [])
  refine ⟨by rw [hX, hY]; rfl, ?_⟩
  rw [List.length_append, hY]
  omega
theorem wr0 (hX : X1 = writtenP fs ws i) (hz : X1.length ≤ 3000 * i) (hw : (ws.getD i []).length ≤ 1200) (hk : (fs.getD (0 + (i : Int)).toNat 0 + (0 + (i : Int))).fmod 3 = 0) (he : ((fs.getD (0 + (i : Int)).toNat 0).fdiv 3 + (0 + (i : Int))).fmod 3 = e) (hs : sepP e = sp) :
    (X1 ++ ([34] ++ ws.getD i [] ++ [34] ++ sp)) = writtenP fs ws (i + 1) ∧ (X1 ++ ([34] ++ ws.getD i [] ++ [34] ++ sp)).length ≤ 3000 * (i + 1) := by
  simp only [Int.zero_add, Int.toNat_natCast] at hk he
  exact wr_next hX hz hw (by rw [chunk0 hk, he, hs])
theorem wr1 {B : List Nat} (hX : X1 = writtenP fs ws i) (hz : X1.length ≤ 3000 * i) (hw : (ws.getD i []).length ≤ 1200) (hB : B = ((ws.getD i []).map fun c => [92, c]).flatten) (hk : (fs.getD (0 + (i : Int)).toNat 0 + (0 + (i : Int))).fmod 3 = 1) (he : ((fs.getD (0 + (i : Int)).toNat 0).fdiv 3 + (0 + (i : Int))).fmod 3 = e) (hs : sepP e = sp) :
    (X1 ++ ([] ++ B ++ [] ++ sp)) = writtenP fs ws (i + 1) ∧ (X1 ++ ([] ++ B ++ [] ++ sp)).length ≤ 3000 * (i + 1) := by
  simp only [Int.zero_add, Int.toNat_natCast] at hk he
  exact wr_next hX hz hw (by rw [chunk1 hk, he, hs, hB])
theorem wr2 {B : List Nat} (hX : X1 = writtenP fs ws i) (hz : X1.length ≤ 3000 * i) (hw : (ws.getD i []).length ≤ 1200) (hB : B = ((ws.getD i []).map fun c => [92, c]).flatten) (hk0 : (fs.getD (0 + (i : Int)).toNat 0 + (0 + (i : Int))).fmod 3 ≠ 0) (hk : (fs.getD (0 + (i : Int)).toNat 0 + (0 + (i : Int))).fmod 3 ≠ 1) (he : ((fs.getD (0 + (i : Int)).toNat 0).fdiv 3 + (0 + (i : Int))).fmod 3 = e) (hs : sepP e = sp) :
    (X1 ++ ([34] ++ B ++ [34] ++ sp)) = writtenP fs ws (i + 1) ∧ (X1 ++ ([34] ++ B ++ [34] ++ sp)).length ≤ 3000 * (i + 1) := by
  simp only [Int.zero_add, Int.toNat_natCast] at hk0 hk he
  exact wr_next hX hz hw (by rw [chunk2 hk0 hk, he, hs, hB])
end
/-- the signs of a word, each behind a backslash -/
structure EscJ (x : List Nat) (news : List (Addr × Obj)) (i : Nat) (ys : List Value) (news' : List (Addr × Obj)) : Prop where
  e : news' = news
  hy : StrsAre ys (((x.take i).map fun c => [92, c]).map S)
theorem EscJ.next {x : List Nat} {news : List (Addr × Obj)} {i c : Nat} {ys : List Value} {news' : List (Addr × Obj)} {t : Tok} (h : EscJ x news i ys news') (hc : (S x).cps[i]? = some c) : EscJ x news (i + 1) (ys ++ [.str (S ([92] ++ [c])) t]) news' := by
  have hc' : x[i]? = some c := by simpa using hc
  obtain ⟨hi, rfl⟩ := List.getElem?_eq_some_iff.mp hc'
  refine ⟨h.e, ?_⟩
  rw [List.take_succ_eq_append_getElem hi, List.map_append, List.map_append]
  exact h.hy.append' (.cons _ _ .nil)
theorem esc_len (x : List Nat) : ((x.map fun c => [92, c]).flatten).length = 2 * x.length := by
  induction x with
  | nil => rfl
  | cons a r ih => simp only [List.map_cons, List.flatten_cons, List.length_append, ih, List.length_cons, List.length_nil]; omega
theorem joinY {prog : Program} {w : World} {A : Around} {E : Value → Shared → Prop} {s : Shared} {g : Heap} {L : Addr} {news : List (Addr × Obj)} {l : Addr} {vs : List Value} {n : Nat} {x : Str} {t : Tok} {ps : List (List Nat)} {Q : Value → Shared → Prop} (N : News g L s.heap news) (hm : (l, listOf vs.toArray n) ∈ news) (hx : x = S []) (hi : StrsAre vs (ps.map S)) (hz : ps.flatten.length ≤ 3000)
    (h : ∀ t tk X, X = ps.flatten → X.length ≤ 3000 → Q (.str (S X) t) { s with toks := tk }) : wpAny (model prog w) A (call (.builtin "str.join") [.str x t, .ref l]) Q E s :=
  joinS N hm hx hi (Nat.le_trans hz (by decide)) fun t tk => h t tk _ rfl hz
end Mine
namespace Mine
theorem ListComp_SF {prog : Program} {w : World} {A : Around} {E : Value → Shared → Prop} {s : Shared} {h₀ : Heap} {L : Addr} {m : Str → Option Value} {env : Env} {elt iter : PySem.Expr} {x : Str} {px : Pos} {scope : Scope} {cl : List (Str × Addr)} {pos : Pos} {Q : Value → Shared → Prop} (_F₀ : Fr h₀ L s.heap m)
    (hclos : closureFor scope env = pure cl) (hcell : ∀ y ∈ scope.names, y.2 ≠ .cell) (hkind : scope.kind = .function)
    (hnames : ∀ y ∈ scope.names, y.2 = .local → scope.names.lookup y.1 = some .local) (hx : scope.names.lookup x = some .local) (hh : A.handled = none)
    (h : wpAny (model prog w) A (eval iter env) (fun xv s₁ => Hold (∃ u tu news, xv = .str u tu ∧ Fr h₀ L s₁.heap m ∧ News h₀ L s₁.heap news ∧ u.cps.size ≤ sizeLine ∧
      ∀ g, LCg.CompRest prog w A h₀ L m env elt x scope cl { s₁ with heap := g } (fun _ => True) (fun i v => ∃ c t, u.cps[i]? = some c ∧ v = .str ⟨#[c]⟩ t) (LCg.FinE h₀ L m { s₁ with heap := g } Q) u.cps.size 0 [] news)) E s)
    (hs : ∀ x, foldedSetIterable iter env x = pure x := by intro _; rfl) :
    wpAny (model prog w) A (eval (.ListComp elt [⟨.Name x px, iter, [], 0⟩] scope pos) env) Q E s :=
  ListComp_S hclos hcell hkind hnames hx hh h hs
end Mine
open PySem PySem.W PySem.Calls PyProof.Rows PySem.SeqAt
set_option maxRecDepth 100000
namespace Mine
/-- the figures of a script, as far as they are made -/
structure FigJ (news : List (Addr × Obj)) (i : Nat) (ys : List Value) (news' : List (Addr × Obj)) : Prop where
  e : news' = news
  hy : ∃ fs : List Int, IntsAre ys fs ∧ fs.length = i ∧ ∀ f ∈ fs, 0 ≤ f ∧ f < 2520
theorem FigJ.next {news : List (Addr × Obj)} {i : Nat} {ys : List Value} {news' : List (Addr × Obj)} {a : Int} {t : Tok} (h : FigJ news i ys news') : FigJ news (i + 1) (ys ++ [.int (a.fmod 2520) t]) news' := by
  obtain ⟨fs, h1, h2, h3⟩ := h.hy
  refine ⟨h.e, fs ++ [a.fmod 2520], h1.append (.cons _ _ .nil), by rw [List.length_append, h2]; rfl, fun f hf => ?_⟩
  rcases List.mem_append.mp hf with hf | hf
  · exact h3 f hf
  · cases List.mem_singleton.mp hf
    exact ⟨Int.fmod_nonneg_of_pos _ (by decide), Int.fmod_lt_of_pos _ (by decide)⟩
end Mine
namespace Mine
theorem ints_of_all : ∀ {l : List Value}, (∀ x ∈ l, ∃ k t, x = Value.int k t) → ∃ ms, IntsAre l ms
  | [], _ => ⟨[], .nil⟩
  | x :: r, h => by
    obtain ⟨k, t, rfl⟩ := h x (.head _)
    obtain ⟨ms, hm⟩ := ints_of_all fun y hy => h y (.tail _ hy)
    exact ⟨k :: ms, .cons k t hm⟩
theorem ints_all {vs : List Value} {ns : List Int} (h : IntsAre vs ns) : ∀ x ∈ vs, ∃ k t, x = Value.int k t := by
  induction h with
  | nil => intro x hx; cases hx
  | cons k t r ih =>
    intro x hx
    rcases List.mem_cons.mp hx with rfl | hx
    · exact ⟨k, t, rfl⟩
    · exact ih x hx
theorem pick_ints {vs : List Value} {ns : List Int} {lo hi st : Option Int} (h : IntsAre vs ns) : ∃ ms, IntsAre (slicePick vs.toArray lo hi st).toList ms := by
  refine ints_of_all fun x hx => ?_
  unfold slicePick at hx
  rw [List.toList_toArray] at hx
  obtain ⟨i, -, e⟩ := List.mem_filterMap.mp hx
  exact ints_all h x (by simpa using Array.mem_of_getElem? e)
section
variable {prog : Program} {w : World} {A : Around} {E : Value → Shared → Prop} {s : Shared} {g : Heap} {L : Addr} {m : Str → Option Value} {news : List (Addr × Obj)}
theorem sumPick {l : Addr} {vs : List Value} {ns : List Int} {lo hi st : Option Int} {Q : Value → Shared → Prop} (F : Fr g L s.heap m) (N : News g L s.heap news) (hh : A.handled = none) (hm : (l, listOf (slicePick vs.toArray lo hi st) 0) ∈ news) (hi' : IntsAre vs ns)
    (h : ∀ h' t tk X, Fr g L h' m → News g L h' news → Q (.int X t) { s with heap := h', toks := tk }) : wpAny (model prog w) A (call (.builtin "sum") [.ref l]) Q E s := by
  obtain ⟨ms, hms⟩ := pick_ints (lo := lo) (hi := hi) (st := st) hi'
  have hl : s.heap.IsList l (slicePick vs.toArray lo hi st).toList.toArray := by rw [Array.toArray_toList]; exact ⟨_, (N _ hm).1, rfl, _, rfl⟩
  exact PyProof.Rows.LSm.sum_ints F N hh hl hms fun h' tk t' F' N' => h h' t' tk _ F' N'
end
end Mine
namespace Mine
end Mine
namespace Mine
theorem Ends.allNe {h h' : Heap} {x : Addr × Obj} {l news : List (Addr × Obj)} {g : Heap} {L : Addr} (E : Ends h h' [] (x :: l)) (N : News g L h news) {p : Addr × Obj} (hp : p ∈ news) : AllNe p.1 l := .of fun _ hq => E.ne (.tail _ hq) (by simp) (N p hp).1
theorem News.swap {g h : Heap} {L : Addr} {x : Addr × Obj} {l r : List (Addr × Obj)} (N : News g L h (x :: (l ++ r))) : News g L h (x :: (r ++ l)) := news_sub N fun p hp => by
  rcases List.mem_cons.mp hp with hp | hp
  · exact hp ▸ .head _
  · rcases List.mem_append.mp hp with hp | hp
    · exact .tail _ (List.mem_append_right _ hp)
    · exact .tail _ (List.mem_append_left _ hp)
end Mine
namespace Mine
theorem ne_cell {g h : Heap} {L a b : Addr} {o o' : Obj} {v : Option Value} {news : List (Addr × Obj)} (N : News g L h news) (hp : (a, o) ∈ news) (hq : (b, o') ∈ news) (hd : o'.data = .cell v) (hn : ∀ v, o.data ≠ .cell v) : a ≠ b := fun q => by
  have h1 := (N _ hp).1
  have h2 := (N _ hq).1
  dsimp only at h1 h2
  rw [q, h2] at h1
  cases h1
  exact hn _ hd
end Mine
namespace Mine
theorem AllOff.of {rest : List (Addr × Obj)} : ∀ {M : List Addr}, (∀ p ∈ rest, p.1 ∉ M) → AllOff rest M
  | [], _ => trivial
  | _ :: _, h => ⟨.of fun p hp q => h p hp (q ▸ .head _), .of fun p hp q => h p hp (.tail _ q)⟩
/-- no object of the ledger is a pair -/
noncomputable def NoPair : List (Addr × Obj) → Prop
  | [] => True
  | p :: r => (∀ u v, p.2 ≠ pairObj u v) ∧ NoPair r
theorem NoPair.mem : ∀ {l : List (Addr × Obj)}, NoPair l → ∀ p ∈ l, ∀ u v, p.2 ≠ pairObj u v
  | [], _, _, h => nomatch h
  | _ :: _, x, p, h => by
    rcases List.mem_cons.mp h with rfl | h
    · exact x.1
    · exact NoPair.mem x.2 p h
theorem nopair_cell {o : Obj} {v : Option Value} (h : o.data = .cell v) : ∀ u v, o ≠ pairObj u v := fun u v e => by rw [e] at h; cases h
theorem cells_off {g h : Heap} {L : Addr} {cs : List CellO} {rest : List (Addr × Obj)} (N : News g L h (cellsLed cs ++ rest)) (hr : NoPair rest) : AllOff rest ((cellsLed cs).map (·.1)) := .of fun p hp q => by
  obtain ⟨c, hc, e⟩ := List.mem_map.mp q
  obtain ⟨k, -, rfl⟩ := List.mem_map.mp hc
  have h1 := (N _ (List.mem_append_left _ hc)).1
  have h2 := (N _ (List.mem_append_right _ hp)).1
  rw [e, h2] at h1
  exact hr.mem p hp _ _ (Option.some.inj h1)
theorem News.turn {g h : Heap} {L : Addr} {l : List (Addr × Obj)} (k : Nat) (N : News g L h l) : News g L h (l.drop k ++ l.take k) := news_sub N fun p hp => by
  rcases List.mem_append.mp hp with hp | hp
  · exact List.mem_of_mem_drop hp
  · exact List.mem_of_mem_take hp
end Mine
namespace Mine
theorem nopair_list {a : Array Value} {c : Nat} : ∀ u v, listOf a c ≠ pairObj u v := fun u v e => by
  have h := congrArg Obj.cls e
  injection h with h
  exact absurd h (by decide)
end Mine
open PySem PySem.W PySem.Calls PyProof.Rows PySem.SeqAt
set_option maxRecDepth 100000
namespace Mine
/-- the words: a lead and a letter each -/
noncomputable def wordsP : Nat → List (List Nat) → List (List Nat)
  | _, [] => []
  | k, l :: r => (l ++ [97 + k]) :: wordsP (k + 1) r
theorem wordsP_len : ∀ (k : Nat) (l : List (List Nat)), (wordsP k l).length = l.length
  | _, [] => rfl
  | k, _ :: r => congrArg (· + 1) (wordsP_len (k + 1) r)
theorem wordsP_snoc : ∀ (k : Nat) (l : List (List Nat)) (x : List Nat), wordsP k (l ++ [x]) = wordsP k l ++ [x ++ [97 + (k + l.length)]]
  | _, [], _ => rfl
  | k, a :: r, x => by
    show (a ++ [97 + k]) :: wordsP (k + 1) (r ++ [x]) = _
    rw [wordsP_snoc (k + 1) r x, show k + 1 + r.length = k + (r.length + 1) by omega]; rfl
structure WdJ (ld : List (List Nat)) (news : List (Addr × Obj)) (i : Nat) (ys : List Value) (news' : List (Addr × Obj)) : Prop where
  e : news' = news
  hy : StrsAre ys ((wordsP 0 (ld.take i)).map S)
theorem WdJ.next {ld : List (List Nat)} {news : List (Addr × Obj)} {i : Nat} {ys : List Value} {news' : List (Addr × Obj)} {t : Tok} (h : WdJ ld news i ys news') (hi : i < ld.length) : WdJ ld news (i + 1) (ys ++ [.str (S (ld.getD i [] ++ [97 + i])) t]) news' := by
  refine ⟨h.e, ?_⟩
  rw [List.take_succ_eq_append_getElem hi, wordsP_snoc, List.map_append, List.length_take, show 0 + min i ld.length = i by omega, List.getD, List.getElem?_eq_getElem hi]
  exact h.hy.append' (.cons _ _ .nil)
theorem leadAt {ld : List (List Nat)} {i : Nat} (h : i < ld.length) : (List.map S ld).getD (0 + (i : Int)).toNat Str.empty = S (ld.getD i []) := by
  rw [show (0 + (i : Int)).toNat = i by omega, List.getD, List.getElem?_map, List.getD, List.getElem?_eq_getElem h]; rfl
theorem letterAt10 {i : Nat} (h : i < 10) : Txt.item (Str.ofString "abcdefghij") (0 + (i : Int)) = S [97 + i] := by
  have := show ∀ i : Fin 10, Txt.item (Str.ofString "abcdefghij") (0 + ((i : Nat) : Int)) = S [97 + (i : Nat)] by decide +kernel
  exact this ⟨i, h⟩
theorem getD_len {ld : List (List Nat)} {b : Nat} (h : ∀ x ∈ ld, x.length ≤ b) (i : Nat) : (ld.getD i []).length ≤ b := by
  rw [List.getD]
  cases e : ld[i]? with
  | none => exact Nat.zero_le _
  | some x => exact h x (List.mem_of_getElem? e)
theorem words_bd {ld : List (List Nat)} {b : Nat} (h : ∀ x ∈ ld, x.length ≤ b) (k : Nat) : ∀ x ∈ wordsP k ld, x.length ≤ b + 1 := by
  induction ld generalizing k with
  | nil => exact fun _ h => nomatch h
  | cons a r ih =>
    intro x hx
    rcases List.mem_cons.mp hx with rfl | hx
    · rw [List.length_append]; exact Nat.add_le_add_right (h a (.head _)) 1
    · exact ih (fun y hy => h y (.tail _ hy)) _ x hx
theorem written_len {fs : List Int} {ws : List (List Nat)} (h : ∀ x ∈ ws, x.length ≤ 1200) : ∀ k, (writtenP fs ws k).length ≤ 3000 * k
  | 0 => Nat.zero_le _
  | k + 1 => by
    have h1 := written_len (fs := fs) h k
    have h2 := chunk_len (fs.getD k 0) k (ws.getD k [])
    have h3 := getD_len h k
    show (writtenP fs ws k ++ chunkP (fs.getD k 0) k (ws.getD k [])).length ≤ _
    rw [List.length_append]
    omega
theorem triples_no {ps : Array Value} {u : Str} {t : Tok} (h : TriplesOk ps.toList) (e : ps[1]? = some (.str u t)) : False := by
  obtain ⟨l⟩ := ps
  change TriplesOk l at h
  have e' : l[1]? = some (Value.str u t) := by simpa using e
  match l, h, e' with
  | .int _ _ :: .int _ _ :: _ :: _, _, e' => simp at e'
theorem cc_ne {h : Heap} {a b : Nat} {o : Obj} {ps : Array Value} {u : Str} (h1 : h.get? a = some o) (h2 : h.get? b = some (tabObj ps)) (hps : TriplesOk ps.toList) (hoc : ∃ vs t, o.data = .fields vs ∧ vs[1]? = some (.str u t)) : @Ne Nat a b := fun q => by
  subst q
  rw [h1] at h2
  cases h2
  obtain ⟨vs, t, e1, e2⟩ := hoc
  cases e1
  exact triples_no hps e2
/-- what stood is none of what is new -/
theorem Ends.allOld {g h h' : Heap} {L : Addr} {all news' : List (Addr × Obj)} {M : List Addr} (E : Ends h h' M news') (N : News g L h all) {p : Addr × Obj} (hp : p ∈ all) (hM : p.1 ∉ M) : AllNe p.1 news' :=
  .of fun q hq e => by
    rcases (E.has _ hq).2 with k | k
    · exact hM (e ▸ k)
    · rw [e, (N p hp).1] at k; cases k
end Mine
namespace Mine
theorem S_inj {a b : List Nat} (h : S a = S b) : a = b := by
  have := congrArg (fun x : Str => x.cps.toList) h
  simpa using this
theorem words_last : ∀ (l : List (List Nat)) (k : Nat), ∀ x ∈ wordsP k l, ∃ y j, x = y ++ [97 + j] ∧ k ≤ j
  | [], _, _, h => nomatch h
  | a :: r, k, x, h => by
    rcases List.mem_cons.mp h with rfl | h
    · exact ⟨a, k, rfl, Nat.le_refl _⟩
    · obtain ⟨y, j, e, hj⟩ := words_last r (k + 1) x h
      exact ⟨y, j, e, by omega⟩
theorem words_nodup : ∀ (l : List (List Nat)) (k : Nat), ((wordsP k l).map S).Nodup
  | [], _ => List.nodup_nil
  | a :: r, k => by
    show (S (a ++ [97 + k]) :: (wordsP (k + 1) r).map S).Nodup
    refine List.nodup_cons.mpr ⟨fun h => ?_, words_nodup r (k + 1)⟩
    obtain ⟨x, hx, e⟩ := List.mem_map.mp h
    obtain ⟨y, j, e2, hj⟩ := words_last r (k + 1) x hx
    have e3 := S_inj e
    rw [e2] at e3
    have := (List.append_inj' e3 rfl).2
    simp at this
    omega
theorem wsRun_bd : ∀ (l : List Nat) (q : Wst) (m : Nat), q.cnt.length ≤ m → q.b < m + 1 → (wsRun l q).cnt.length ≤ m + l.length ∧ (wsRun l q).b ≤ m + l.length
  | [], q, m, h1, h2 => ⟨h1, Nat.le_of_lt_succ h2⟩
  | c :: r, q, m, h1, h2 => by
    unfold wsRun
    split
    · have := wsRun_bd r { q with n := q.n + 1, b := q.b + 1 } (m + 1) (by show q.cnt.length ≤ _; omega) (by show q.b + 1 < _; omega)
      rw [List.length_cons]; omega
    · split
      · have hb := bump_len q.cnt q.b
        have := wsRun_bd r ⟨bump q.cnt q.b, 0, q.n + 1, q.nt + 1⟩ (m + 1) (by show (bump q.cnt q.b).length ≤ _; omega) (by show 0 < _; omega)
        rw [List.length_cons]; omega
      · rw [List.length_cons]; omega
theorem valueAt_of {kvs : List (Str × Value)} (hnd : (kvs.map (·.1)).Nodup) {p : Str × Value} (hp : p ∈ kvs) : valueAt kvs p.1 = some p.2 := by
  induction kvs with
  | nil => cases hp
  | cons a r ih =>
    rw [List.map_cons, List.nodup_cons] at hnd
    unfold valueAt
    rw [List.find?_cons]
    rcases List.mem_cons.mp hp with rfl | hp'
    · simp
    · have hne : a.1 ≠ p.1 := fun q => hnd.1 (by rw [q]; exact List.mem_map_of_mem hp')
      rw [show decide (a.1 = p.1) = false from decide_eq_false hne]
      exact ih hnd.2 hp'
/-- a comprehension that turns each int of a list -/
structure MapJ (ns : List Int) (f : Int → Int) (news : List (Addr × Obj)) (i : Nat) (ys : List Value) (news' : List (Addr × Obj)) : Prop where
  e : news' = news
  hy : IntsAre ys ((ns.take i).map f)
end Mine
open PySem PySem.W PySem.Calls PyProof.Rows PySem.SeqAt
set_option maxRecDepth 100000
namespace Mine
section
variable {prog : Program} {w : World} {A : Around} {E : Value → Shared → Prop} {s : Shared} {g : Heap} {L : Addr} {m : Str → Option Value} {news : List (Addr × Obj)}
theorem pair_eqAt {A : Around} {c d : CellO} (h1 : s.heap.get? c.a = some c.led.2) (h2 : s.heap.get? d.a = some d.led.2) (hu : A.units < cLine) : EqAt A s (.ref c.a) (.ref d.a) (decide ((c.i, c.j) = (d.i, d.j))) := by
  by_cases q : c.a = d.a
  · rw [q, h2] at h1
    have e : d.led.2 = c.led.2 := Option.some.inj h1
    have e2 : d.i = c.i ∧ d.j = c.j := by
      have := congrArg Obj.data e
      injection this with this _
      have := congrArg Array.toList this
      injection this with x y
      injection y with y _
      injection x with x _
      injection y with y _
      exact ⟨by omega, by omega⟩
    rw [q, decide_eq_true (by rw [e2.1, e2.2])]
    exact EqAt.same _
  · have := RcAt.tuples (A := A) (s := s) (e := fun j => if j = 0 then ((c.i : Int) == (d.i : Int)) else ((c.j : Int) == (d.j : Int))) (l := c.a) (b := d.a) ⟨_, h1, rfl, _, rfl⟩ ⟨_, h2, rfl, _, rfl⟩ hu (fun j k1 k2 => by
      have hj : j < 2 := k1
      rcases (show j = 0 ∨ j = 1 by omega) with rfl | rfl
      · exact EqAt.int_int _ _ _ _
      · exact EqAt.int_int _ _ _ _)
    have e : ((List.range (min (#[Value.int c.i c.ti, Value.int c.j c.tj] : Array Value).size (#[Value.int d.i d.ti, Value.int d.j d.tj] : Array Value).size)).all (fun j => if j = 0 then ((c.i : Int) == (d.i : Int)) else ((c.j : Int) == (d.j : Int))) && (#[Value.int c.i c.ti, Value.int c.j c.tj] : Array Value).size == (#[Value.int d.i d.ti, Value.int d.j d.tj] : Array Value).size) = decide ((c.i, c.j) = (d.i, d.j)) := by
      show ((List.range 2).all _ && true) = _
      rw [Bool.and_true, show List.range 2 = [0, 1] from rfl]
      simp only [List.all_cons, List.all_nil, if_true, Bool.and_true]
      by_cases h : (c.i, c.j) = (d.i, d.j)
      · rw [decide_eq_true h]
        injection h with x y
        rw [x, y]; simp
      · rw [decide_eq_false h]
        by_cases x : c.i = d.i
        · have y : c.j ≠ d.j := fun y => h (by rw [x, y])
          have : ¬ ((c.j : Int) = d.j) := by omega
          simp [this]
        · have : ¬ ((c.i : Int) = d.i) := by omega
          simp [this]
    rw [e] at this
    exact EqAt.of_refs q this
/-- a pair's place in a list of pairs -/
theorem indexC {l : Addr} {cls : List CellO} {d : CellO} {n : Nat} {Q : Value → Shared → Prop} (N : News g L s.heap news) (hm : (l, listOf (cellRefs cls).toArray n) ∈ news) (hc : ∀ p ∈ cellsLed cls, p ∈ news) (hd : d.led ∈ news) (hin : (d.i, d.j) ∈ pairsOf cls) (hz : cls.length ≤ 1000000) (hu : A.units + 1 < cLine)
    (h : ∀ t tk, Q (.int ((pairsOf cls).idxOf (d.i, d.j) : Nat) t) { s with toks := tk }) : wpAny (model prog w) A (call (.builtin "list.index") [.ref l, .ref d.a]) Q E s := by
  have ho := (N _ hm).1
  have h2 := (N _ hd).1
  have hlen : (pairsOf cls).length = cls.length := List.length_map ..
  have hj : (pairsOf cls).idxOf (d.i, d.j) < (pairsOf cls).length := List.idxOf_lt_length_iff.mpr hin
  obtain ⟨e, he⟩ : ∃ e : Value → Bool, e = fun v => cls.any fun c => v == Value.ref c.a && decide ((c.i, c.j) = (d.i, d.j)) := ⟨_, rfl⟩
  have key : ∀ c ∈ cls, e (.ref c.a) = decide ((c.i, c.j) = (d.i, d.j)) := fun c hcc => by
    rw [he]
    dsimp only
    by_cases q : (c.i, c.j) = (d.i, d.j)
    · rw [decide_eq_true q]
      exact List.any_eq_true.mpr ⟨c, hcc, by rw [decide_eq_true q]; simp⟩
    · rw [decide_eq_false q, List.any_eq_false]
      intro c' hc' k
      rw [Bool.and_eq_true] at k
      have k1 : c.a = c'.a := by have := eq_of_beq k.1; injection this
      have k2 := of_decide_eq_true k.2
      have x1 := (N _ (hc _ (List.mem_map_of_mem (f := CellO.led) hcc))).1
      have x2 := (N _ (hc _ (List.mem_map_of_mem (f := CellO.led) hc'))).1
      dsimp only at x1 x2
      rw [k1, x2] at x1
      have e3 : c'.led.2 = c.led.2 := Option.some.inj x1
      refine q ?_
      rw [← k2]
      have := congrArg Obj.data e3
      injection this with this _
      have := congrArg Array.toList this
      injection this with x y
      injection y with y _
      injection x with x _
      injection y with y _
      rw [show c.i = c'.i by omega, show c.j = c'.j by omega]
  have at_ : ∀ k (hk : k < cls.length), ((cellRefs cls).toArray)[k]'(by simpa using hk) = Value.ref (cls[k]).a := fun k hk => by simp
  refine call_meets PySem.F.slot_list_index ⟨_, ho, rfl⟩ PySem.F.entry_list_index (PySem.F.args_list_index_2 _ _)
    (list_indexAt l (cellRefs cls).toArray n none #[] (.ref d.a) e ((pairsOf cls).idxOf (d.i, d.j)) (by simp only [List.size_toArray, List.length_map]; omega) (by omega) ?_ ?_) ⟨ho, fun y hy => ?_, h _ _⟩
  · rw [at_ _ (by omega), key _ (List.getElem_mem _)]
    refine decide_eq_true ?_
    have := List.getElem_idxOf hj
    rw [List.getElem_map] at this
    exact this
  · intro k hk hlt
    have hk' : k < cls.length := by simpa using hk
    rw [at_ _ hk', key _ (List.getElem_mem _)]
    refine decide_eq_false fun q => ?_
    have := List.not_of_lt_findIdx (p := fun x => x == (d.i, d.j)) (xs := pairsOf cls) (i := k) hlt
    rw [List.getElem_map, q] at this
    simp at this
  · obtain ⟨c, hcc, rfl⟩ := List.mem_map.mp (by simpa using hy : y ∈ cellRefs cls)
    rw [key c hcc]
    exact pair_eqAt (N _ (hc _ (List.mem_map_of_mem (f := CellO.led) hcc))).1 h2 hu
theorem strs_eqAt {A : Around} : ∀ {vs ws : List Value} {gs : List Str}, StrsAre vs gs → StrsAre ws gs → ∀ j (h1 : j < vs.length) (h2 : j < ws.length), EqAt A s vs[j] ws[j] true
  | _, _, _, .nil, .nil, _, h1, _ => absurd h1 (Nat.not_lt_zero _)
  | _, _, _, .cons x t r, .cons _ t' r', 0, _, _ => by
    have := EqAt.str_str (A := A) (s := s) x t x t'
    rw [beq_self_eq_true] at this
    exact this
  | _, _, _, .cons _ _ r, .cons _ _ r', j + 1, h1, h2 => strs_eqAt r r' j (Nat.lt_of_succ_lt_succ h1) (Nat.lt_of_succ_lt_succ h2)
/-- two lists of the same texts are not unlike -/
theorem neStrs {l b : Addr} {vs ws : List Value} {gs : List Str} {n n' : Nat} {Q : Value → Shared → Prop} (N : News g L s.heap news) (h1 : (l, listOf vs.toArray n) ∈ news) (h2 : (b, listOf ws.toArray n') ∈ news) (hv : StrsAre vs gs) (hw : StrsAre ws gs) (hu : A.units < cLine)
    (h : Q (.bool false) s) : wpAny (model prog w) A (compareOp .NotEq (.ref l) (.ref b)) Q E s := by
  have e1 := hv.len_eq
  have e2 := hw.len_eq
  have := RcNeAt.lists (A := A) (s := s) (e := fun _ => true) (News.isList N h1) (News.isList N h2) (by simp only [List.size_toArray]; omega) hu (fun j k1 k2 => by
    simp only [List.getElem_toArray]
    exact strs_eqAt hv hw j (by simpa using k1) (by simpa using k2))
  refine this prog w E Q ?_
  rw [show (!(List.range vs.toArray.size).all fun _ => true) = false by simp]
  exact h
end
theorem idx_lt {cls : List CellO} {x : Nat × Nat} (h : x ∈ pairsOf cls) : (pairsOf cls).idxOf x < cls.length := by
  have := List.idxOf_lt_length_iff.mpr h
  rw [List.length_map] at this
  exact this
theorem nls_nil : nls [] = 0 := rfl
theorem cnt_nls : ∀ l : List Nat, PyProof.Rows.cnt 10 l = (nls l : Nat)
  | [] => rfl
  | c :: r => by rw [PyProof.Rows.cnt_cons, cnt_nls r, nls_cons]
theorem count_nl (l : List Nat) : (Txt.count (S l) (Str.ofString "\n") : Int) = (nls l : Nat) := by
  rw [lit10, show (S [10] : Str) = ⟨#[10]⟩ from rfl, PyProof.Rows.count_cnt]
  exact cnt_nls l
section
variable {prog : Program} {w : World} {A : Around} {E : Value → Shared → Prop} {s : Shared} {g : Heap} {L : Addr} {news : List (Addr × Obj)}
theorem eq3 {l b : Addr} {n n' : Nat} {a1 a2 a3 b1 b2 b3 : Value} {Q : Value → Shared → Prop} (N : News g L s.heap news) (h1 : (l, listOf #[a1, a2, a3] n) ∈ news) (h2 : (b, listOf #[b1, b2, b3] n') ∈ news) (hu : A.units < cLine)
    (e1 : EqAt A.in1 s a1 b1 true) (e2 : EqAt A.in1 s a2 b2 true) (e3 : EqAt A.in1 s a3 b3 true) (h : Q (.bool true) s) : wpAny (model prog w) A (compareOp .Eq (.ref l) (.ref b)) Q E s := by
  refine eq_listAt (e := fun _ => true) ⟨_, (N _ h1).1, rfl, _, rfl⟩ ⟨_, (N _ h2).1, rfl, _, rfl⟩ rfl hu (fun j k1 k2 => ?_) h
  have hj : j < 3 := k1
  rcases (show j = 0 ∨ j = 1 ∨ j = 2 by omega) with rfl | rfl | rfl
  · exact e1
  · exact e2
  · exact e3
theorem eqI {A : Around} {s : Shared} {a b : Int} {t u : Tok} (h : a = b) : EqAt A s (.int a t) (.int b u) true := by
  subst h
  have := EqAt.int_int (A := A) (s := s) a t a u
  rwa [beq_self_eq_true] at this
theorem eqS {A : Around} {s : Shared} {a b : Str} {t u : Tok} (h : a = b) : EqAt A s (.str a t) (.str b u) true := by
  subst h
  have := EqAt.str_str (A := A) (s := s) a t a u
  rwa [beq_self_eq_true] at this
end
theorem News.join {g h : Heap} {L : Addr} {a b : List (Addr × Obj)} (x : News g L h a) (y : News g L h b) : News g L h (a ++ b) := fun p hp => by
  rcases List.mem_append.mp hp with hp | hp
  · exact x p hp
  · exact y p hp
theorem leadP_len {pl : Bool} {H W RN rest : Int} {i j : Nat} (hH : 0 ≤ H) (hH7 : H ≤ 7) (hW : 0 ≤ W) (hW7 : W ≤ 7) (hR : 0 ≤ RN) (hR5 : RN ≤ 50) (hi : i ≤ 7) (hj : j ≤ 7) : (leadP pl H W RN rest i j).length ≤ 1000 := by
  have r3 := Int.fmod_nonneg_of_pos rest (b := 3) (by decide)
  have r3' := Int.fmod_lt_of_pos rest (b := 3) (by decide)
  have r6 := Int.fmod_nonneg_of_pos (rest.fdiv 6) (b := 2) (by decide)
  have r6' := Int.fmod_lt_of_pos (rest.fdiv 6) (b := 2) (by decide)
  unfold leadP
  rw [List.length_append, List.length_replicate]
  cases pl with
  | true =>
    simp only [if_true, List.length_append, List.length_replicate]
    have h1 := mul_bd (a := if 1 > H then 1 else H) (b := j) (by split <;> omega) (by split <;> omega) hj
    omega
  | false =>
    simp only [Bool.false_eq_true, if_false]
    rw [rot_len, pieces_len]
    have h1 := mul_bd (a := if 1 > W then 1 else W) (b := i) (by split <;> omega) (by split <;> omega) hi
    simp only [List.length_append, List.length_replicate, List.length_cons, List.length_nil]
    have h2 : j * (RN.toNat + (0 + 1)) ≤ 7 * 51 := Nat.mul_le_mul hj (by omega)
    omega
end Mine
namespace Mine
noncomputable def ltP (u v : Str) : Bool := lessOf (wsRun u.cps.toList ⟨[], 0, 0, 0⟩) (wsRun v.cps.toList ⟨[], 0, 0, 0⟩)
end Mine
namespace Mine
noncomputable abbrev Tab := List (List Nat)
noncomputable def bmp (n : Nat) (l : List Nat) : Option (List Nat × Nat) :=
  @List.rec Nat (fun _ => Option (List Nat × Nat)) none (fun a r ih => @Bool.rec (fun _ => Option (List Nat × Nat)) (@Option.rec (List Nat × Nat) (fun _ => Option (List Nat × Nat)) none (fun p => @Prod.rec (List Nat) Nat (fun _ => Option (List Nat × Nat)) (fun s b => some (a :: s, b)) p) ih) (some (n :: r, a)) (Nat.blt n a)) l
noncomputable def insB (n : Nat) (T : Tab) (i : Nat) : Tab × (Nat × Nat) :=
  @List.rec (List Nat) (fun _ => Nat → Nat → Tab × (Nat × Nat)) (fun n i => ([[n]], (i, 0))) (fun r rs ih n i => @Option.rec (List Nat × Nat) (fun _ => Tab × (Nat × Nat)) ((r ++ [n]) :: rs, (i, r.length)) (fun p => @Prod.rec (List Nat) Nat (fun _ => Tab × (Nat × Nat)) (fun s b => @Prod.rec Tab (Nat × Nat) (fun _ => Tab × (Nat × Nat)) (fun q c => (s :: q, c)) (ih b (Nat.succ i))) p) (bmp n r)) T n i
noncomputable def zc (r : List Nat) (cs : Tab) : Tab :=
  @List.rec Nat (fun _ => Tab → Tab) (fun cs => cs) (fun a _ ih cs => @List.rec (List Nat) (fun _ => Tab) ([a] :: ih []) (fun c cs _ => (a :: c) :: ih cs) cs) r cs
noncomputable def tr (T : Tab) : Tab := @List.rec (List Nat) (fun _ => Tab) [] (fun r _ ih => zc r ih) T
noncomputable def colB (y : Nat) (T : Tab) : Tab × (Nat × Nat) := @Prod.rec Tab (Nat × Nat) (fun _ => Tab × (Nat × Nat)) (fun q c => (tr q, (c.2, c.1))) (insB y (tr T) 0)
noncomputable def skip (x v : Nat) : Nat := @Bool.rec (fun _ => Nat) (Nat.add v 1) v (Nat.blt v x)
noncomputable def mapL (f : Nat → Nat) (l : List Nat) : List Nat := @List.rec Nat (fun _ => List Nat) [] (fun a _ ih => f a :: ih) l
noncomputable def mapT (f : Nat → Nat) (T : Tab) : Tab := @List.rec (List Nat) (fun _ => Tab) [] (fun r _ ih => mapL f r :: ih) T
noncomputable def eqL (r s : List Nat) : Bool :=
  @List.rec Nat (fun _ => List Nat → Bool) (fun s => @List.rec Nat (fun _ => Bool) true (fun _ _ _ => false) s) (fun a _ ih s => @List.rec Nat (fun _ => Bool) false (fun b s _ => @Bool.rec (fun _ => Bool) false (ih s) (Nat.beq a b)) s) r s
noncomputable def eqT (r s : Tab) : Bool :=
  @List.rec (List Nat) (fun _ => Tab → Bool) (fun s => @List.rec (List Nat) (fun _ => Bool) true (fun _ _ _ => false) s) (fun a _ ih s => @List.rec (List Nat) (fun _ => Bool) false (fun b s _ => @Bool.rec (fun _ => Bool) false (ih s) (eqL a b)) s) r s
noncomputable def andB (a b : Bool) : Bool := @Bool.rec (fun _ => Bool) false b a
noncomputable def nw (c d : Nat × Nat) : Bool := andB (Nat.ble c.1 d.1) (Nat.ble c.2 d.2)
noncomputable def eqC (c d : Nat × Nat) : Bool := andB (Nat.beq c.1 d.1) (Nat.beq c.2 d.2)
noncomputable def stepOk (U : Tab) (y x : Nat) : Bool :=
  @Prod.rec Tab (Nat × Nat) (fun _ => Bool) (fun q e => @Prod.rec Tab (Nat × Nat) (fun _ => Bool) (fun u b => @Prod.rec Tab (Nat × Nat) (fun _ => Bool) (fun a1 a => @Prod.rec Tab (Nat × Nat) (fun _ => Bool) (fun q1 e1 =>
    andB (eqT a1 q1) (@Bool.rec (fun _ => Bool) (andB (eqC b a) (eqC e1 e)) (andB (eqC b e) (eqC e1 a)) (nw e a))) (colB y u)) (insB x q 0)) (insB x U 0)) (colB y U)
noncomputable def appL (a b : List Tab) : List Tab := @List.rec Tab (fun _ => List Tab) b (fun x _ ih => x :: ih) a
noncomputable def lenL (r : List Nat) : Nat := @List.rec Nat (fun _ => Nat) 0 (fun _ _ ih => Nat.succ ih) r
/-- put v at the end of each row where it may stand -/
noncomputable def grow (v : Nat) (T : Tab) : Nat → List Tab :=
  @List.rec (List Nat) (fun _ => Nat → List Tab) (fun ab => @Bool.rec (fun _ => List Tab) [] [[[v]]] (Nat.blt 0 ab)) (fun r rs ih ab => appL (@Bool.rec (fun _ => List Tab) [] [(r ++ [v]) :: rs] (Nat.blt (lenL r) ab)) (@List.rec Tab (fun _ => List Tab) [] (fun t _ ih => (r :: t) :: ih) (ih (lenL r)))) T
noncomputable def syt (k : Nat) : List Tab := @Nat.rec (fun _ => List Tab) [[]] (fun k l => @List.rec Tab (fun _ => List Tab) [] (fun T _ ih => appL (grow k T 100) ih) l) k
noncomputable def allL (p : Tab → Bool) (l : List Tab) : Bool := @List.rec Tab (fun _ => Bool) true (fun a _ ih => andB (p a) ih) l
noncomputable def allN (k : Nat) (p : Nat → Bool) : Bool := @Nat.rec (fun _ => Bool) true (fun i ih => andB (p i) ih) k
noncomputable def memT (U : Tab) (l : List Tab) : Bool := @List.rec Tab (fun _ => Bool) false (fun a _ ih => @Bool.rec (fun _ => Bool) ih true (eqT U a)) l
noncomputable def tabB (w : List Nat) (T : Tab) : Tab := @List.rec Nat (fun _ => Tab → Tab) (fun T => T) (fun x _ ih T => ih (insB x T 0).1) w T
/-- the rows' numbers from the lowest row on, turned about and each taken from k -/
noncomputable def cwT (k : Nat) (T : Tab) : List Nat := @List.rec (List Nat) (fun _ => List Nat → List Nat) (fun acc => acc) (fun r _ ih acc => ih (@List.rec Nat (fun _ => List Nat → List Nat) (fun b => b) (fun a _ ih b => ih (Nat.sub k a :: b)) r [] ++ acc)) T.reverse []
noncomputable def ev (k : Nat) (U : Tab) : Tab := tabB (cwT (Nat.pred k) U) []
noncomputable def chkS (k : Nat) : Bool := allL (fun U0 => allN (k + 1) fun y1 => allN (k + 2) fun x => stepOk (mapT (fun v => skip x (skip y1 v)) U0) (skip x y1) x) (syt k)
noncomputable def chkC (k : Nat) : Bool := allL (fun U0 => allN (k + 1) fun x => memT (insB x (mapT (skip x) U0) 0).1 (syt (k + 1))) (syt k)
noncomputable def evOk (k : Nat) (U0 : Tab) (y : Nat) : Bool :=
  @Prod.rec Tab (Nat × Nat) (fun _ => Bool) (fun q e => @Prod.rec Tab (Nat × Nat) (fun _ => Bool) (fun v c => andB (eqC e c) (@Bool.rec (fun _ => Bool) (eqT v (ev (k + 1) q)) true (Nat.ble 7 k))) (insB (k - y) (mapT (skip (k - y)) (ev k U0)) 0)) (colB y (mapT (skip y) U0))
noncomputable def chkE (k : Nat) : Bool := allL (fun U0 => allN (k + 1) fun y => evOk k U0 y) (syt k)
end Mine
namespace Mine
theorem bmp_lt {n a : Nat} {r : List Nat} (h : n < a) : bmp n (a :: r) = some (n :: r, a) := by
  show @Bool.rec (fun _ => Option (List Nat × Nat)) _ _ (Nat.blt n a) = _
  rw [show Nat.blt n a = true by rw [Nat.blt_eq]; exact h]
theorem bmp_ge {n a : Nat} {r : List Nat} (h : ¬ n < a) : bmp n (a :: r) = (bmp n r).map fun p => (a :: p.1, p.2) := by
  show @Bool.rec (fun _ => Option (List Nat × Nat)) (@Option.rec (List Nat × Nat) (fun _ => Option (List Nat × Nat)) none (fun p => @Prod.rec (List Nat) Nat (fun _ => Option (List Nat × Nat)) (fun s b => some (a :: s, b)) p) (bmp n r)) _ (Nat.blt n a) = _
  rw [show Nat.blt n a = false by rw [← Bool.not_eq_true, Nat.blt_eq]; exact h]
  cases bmp n r <;> rfl
noncomputable def Up (g : Nat → Nat) : Prop := ∀ a b, a < b → g a < g b
noncomputable abbrev mT (g : Nat → Nat) (T : Tab) : Tab := T.map (List.map g)
noncomputable def celB : List Nat → Tab → List (Nat × Nat)
  | [], _ => []
  | x :: r, T => (insB x T 0).2 :: celB r (insB x T 0).1
/-- the checks, as facts -/
theorem andB_iff {a b : Bool} : andB a b = true ↔ a = true ∧ b = true := by
  cases a <;> cases b <;> simp [andB]
theorem eqL_eq : ∀ {r s : List Nat}, eqL r s = true → r = s
  | [], [], _ => rfl
  | [], _ :: _, h => absurd (show false = true from h) (by decide)
  | _ :: _, [], h => absurd (show false = true from h) (by decide)
  | a :: r, b :: s, h => by
    have h : @Bool.rec (fun _ => Bool) false (eqL r s) (Nat.beq a b) = true := h
    cases q : Nat.beq a b with
    | false => rw [q] at h; exact absurd (show false = true from h) (by decide)
    | true => rw [q] at h; rw [Nat.eq_of_beq_eq_true q, eqL_eq h]
theorem eqC_eq {c d : Nat × Nat} (h : eqC c d = true) : c = d := by
  have := andB_iff.mp h
  exact Prod.ext (Nat.eq_of_beq_eq_true this.1) (Nat.eq_of_beq_eq_true this.2)
end Mine
namespace Mine
/-- a row of m numbers, each once, all below m -/
structure Row (m : Nat) (s : List Nat) : Prop where
  len : s.length = m
  nd : s.Nodup
  lt : ∀ v ∈ s, v < m
noncomputable def unskip (x v : Nat) : Nat := if v < x then v else v - 1
/-- a round over cells -/
noncomputable def rndC : (Nat × Nat) → List (Nat × Nat) → (Nat × Nat) × List (Nat × Nat)
  | h, [] => (h, [])
  | h, c :: r => if nw h c = true then ((rndC c r).1, h :: (rndC c r).2) else ((rndC h r).1, c :: (rndC h r).2)
/-- a row turned about -/
noncomputable def starR (m : Nat) (s : List Nat) : List Nat := (s.map fun v => m - 1 - v).reverse
/-- the rounds over cells -/
noncomputable def goneC : Nat → List (Nat × Nat) → List (Nat × Nat)
  | n + 1, c :: l => (rndC c l).1 :: goneC n (rndC c l).2
  | _, _ => []
end Mine
namespace Mine
noncomputable abbrev up (r : List Nat) : List Int := List.map (fun (v : Nat) => (v : Int)) r
noncomputable abbrev Sor (r : List Nat) : Prop := r.Pairwise (· ≤ ·)
theorem bmp_none_le {n : Nat} : ∀ {r : List Nat}, bmp n r = none → ∀ v ∈ r, v ≤ n
  | [], _, _, h => nomatch h
  | a :: r, h, v, hv => by
    by_cases q : n < a
    · rw [bmp_lt q] at h; cases h
    · rw [bmp_ge q, Option.map_eq_none_iff] at h
      rcases List.mem_cons.mp hv with rfl | hv
      · omega
      · exact bmp_none_le h v hv
theorem bmp_some_of {n : Nat} : ∀ {r s : List Nat} {b : Nat}, bmp n r = some (s, b) → n < b ∧ b ∈ r ∧ s.length = r.length ∧ ∀ v ∈ s, v = n ∨ v ∈ r
  | [], _, _, h => by cases h
  | a :: r, s, b, h => by
    by_cases q : n < a
    · rw [bmp_lt q] at h
      injection h with h
      injection h with h1 h2
      subst h1 h2
      refine ⟨q, .head _, rfl, fun v hv => ?_⟩
      rcases List.mem_cons.mp hv with rfl | hv
      · exact .inl rfl
      · exact .inr (.tail _ hv)
    · rw [bmp_ge q] at h
      obtain ⟨p, hp, e⟩ := Option.map_eq_some_iff.mp h
      obtain ⟨s', b'⟩ := p
      injection e with e1 e2
      subst e1 e2
      obtain ⟨h1, h2, h3, h4⟩ := bmp_some_of hp
      refine ⟨h1, .tail _ h2, congrArg (· + 1) h3, fun v hv => ?_⟩
      rcases List.mem_cons.mp hv with rfl | hv
      · exact .inr (.head _)
      · rcases h4 v hv with k | k
        · exact .inl k
        · exact .inr (.tail _ k)
theorem bmp_sor {n : Nat} : ∀ {r s : List Nat} {b : Nat}, Sor r → bmp n r = some (s, b) → Sor s
  | [], _, _, _, h => by cases h
  | a :: r, s, b, hs, h => by
    have hs' := List.pairwise_cons.mp hs
    by_cases q : n < a
    · rw [bmp_lt q] at h
      injection h with h
      injection h with h1 h2
      subst h1
      exact List.pairwise_cons.mpr ⟨fun v hv => Nat.le_trans (Nat.le_of_lt q) (hs'.1 v hv), hs'.2⟩
    · rw [bmp_ge q] at h
      obtain ⟨p, hp, e⟩ := Option.map_eq_some_iff.mp h
      obtain ⟨s', b'⟩ := p
      injection e with e1 e2
      subst e1
      refine List.pairwise_cons.mpr ⟨fun v hv => ?_, bmp_sor hs'.2 hp⟩
      rcases (bmp_some_of hp).2.2.2 v hv with k | k
      · omega
      · exact hs'.1 v k
theorem last_up : ∀ {r : List Nat} {a : Nat}, Sor (a :: r) → (a : Int) ≤ (up (a :: r)).getLastD 0
  | [], _, _ => Int.le_refl _
  | b :: r, a, h => by
    have h' := List.pairwise_cons.mp h
    have h1 := last_up h'.2
    have h2 := h'.1 b (.head _)
    show _ ≤ (up (b :: r)).getLastD 0
    omega
theorem bmp_int {n : Nat} : ∀ {r : List Nat}, Sor r → (bmp n r = none → ¬ (n : Int) < (up r).getLastD 0) ∧
    ∀ s b, bmp n r = some (s, b) → (n : Int) < (up r).getLastD 0 ∧ minL ((up r).filter fun x => decide ((n : Int) < x)) = (b : Int) ∧ (up r).set ((up r).idxOf (b : Int)) n = up s
  | [], _ => ⟨fun _ => by show ¬ (n : Int) < 0; omega, fun s b h => by cases h⟩
  | a :: r, hs => by
    have hs' := List.pairwise_cons.mp hs
    by_cases q : n < a
    · refine ⟨fun h => (by rw [bmp_lt q] at h; cases h), fun s b h => ?_⟩
      rw [bmp_lt q] at h
      injection h with h
      injection h with h1 h2
      subst h1 h2
      have hl := last_up hs
      refine ⟨by omega, ?_, ?_⟩
      · refine (minL_eq ?_ ?_).symm
        · exact List.mem_filter.mpr ⟨.head _, by simpa using q⟩
        · intro x hx
          obtain ⟨v, hv, rfl⟩ := List.mem_map.mp (List.mem_filter.mp hx).1
          rcases List.mem_cons.mp hv with rfl | hv
          · exact Int.le_refl _
          · have := hs'.1 v hv; omega
      · show ((a : Int) :: up r).set (((a : Int) :: up r).idxOf (a : Int)) n = _
        rw [List.idxOf_cons_self]; rfl
    · have ih := bmp_int (n := n) hs'.2
      refine ⟨fun h => ?_, fun s b h => ?_⟩
      · rw [bmp_ge q, Option.map_eq_none_iff] at h
        cases r with
        | nil => show ¬ (n : Int) < (a : Int); omega
        | cons b t => exact ih.1 h
      · rw [bmp_ge q] at h
        obtain ⟨p, hp, e⟩ := Option.map_eq_some_iff.mp h
        obtain ⟨s', b'⟩ := p
        injection e with e1 e2
        subst e1 e2
        obtain ⟨i1, i2, i3⟩ := ih.2 _ _ hp
        have hb := (bmp_some_of hp).1
        cases r with
        | nil => cases hp
        | cons c t =>
          refine ⟨i1, ?_, ?_⟩
          · show minL (((a : Int) :: up (c :: t)).filter _) = _
            rw [List.filter_cons_of_neg (by simpa using q)]; exact i2
          · show ((a : Int) :: up (c :: t)).set (((a : Int) :: up (c :: t)).idxOf (b' : Int)) n = (a : Int) :: up s'
            rw [List.idxOf_cons, show ((a : Int) == (b' : Int)) = false from beq_false_of_ne (by intro k; omega), cond_false, List.set_cons_succ, i3]
noncomputable abbrev upT (T : Tab) : List (List Int) := T.map up
noncomputable abbrev SorT (T : Tab) : Prop := ∀ r ∈ T, Sor r
/-- the cells that open are all unlike -/
noncomputable def lenAt (T : Tab) (k : Nat) : Nat := (T.getD k []).length
theorem rndC_perm : ∀ (l : List (Nat × Nat)) (h : Nat × Nat), ((rndC h l).1 :: (rndC h l).2).Perm (h :: l)
  | [], _ => .refl _
  | c :: r, h => by
    unfold rndC
    by_cases q : nw h c = true
    · rw [if_pos q]
      exact (List.Perm.swap ..).trans ((rndC_perm r c).cons h)
    · rw [if_neg q]
      exact (List.Perm.swap ..).trans (((rndC_perm r h).cons c).trans (List.Perm.swap ..))
theorem rnd_map {lt : Str → Str → Bool} {f : Nat × Nat → Str} : ∀ (l : List (Nat × Nat)) (h : Nat × Nat), (h :: l).Nodup → (∀ c ∈ h :: l, ∀ d ∈ h :: l, c ≠ d → lt (f c) (f d) = nw c d) → rnd lt (f h) (l.map f) = (f (rndC h l).1, (rndC h l).2.map f)
  | [], _, _, _ => rfl
  | c :: r, h, hn, hl => by
    have hn' := List.nodup_cons.mp hn
    have hne : h ≠ c := fun q => hn'.1 (q ▸ .head _)
    rw [List.map_cons]
    unfold rnd rndC
    rw [hl h (.head _) c (.tail _ (.head _)) hne]
    by_cases q : nw h c = true
    · rw [if_pos q, if_pos q, rnd_map r c hn'.2 fun a ha b hb => hl a (.tail _ ha) b (.tail _ hb)]; rfl
    · rw [if_neg q, if_neg q, rnd_map r h (List.nodup_cons.mpr ⟨fun k => hn'.1 (.tail _ k), (List.nodup_cons.mp hn'.2).2⟩) fun a ha b hb => hl a (List.mem_cons.mpr ((List.mem_cons.mp ha).imp id (.tail _))) b (List.mem_cons.mpr ((List.mem_cons.mp hb).imp id (.tail _)))]; rfl
end Mine
namespace Mine
theorem QTo.ext {l t r : List Nat} (h : QTo l t r) (X : List Nat) : QTo (l ++ X) t (r ++ X) := by
  induction h with
  | fin => exact .fin
  | esc _ ih => exact .esc ih
  | chr a b _ ih => exact .chr a b ih
theorem UTo.ext {l t r : List Nat} (h : UTo l t r) (X : List Nat) : UTo (l ++ X) t (r ++ X) := by
  induction h with
  | fin a => exact .fin a
  | esc _ ih => exact .esc ih
  | chr a b _ ih => exact .chr a b ih
theorem TTo.ext {l t r : List Nat} (h : TTo l t r) (X : List Nat) (ht : t ≠ []) : TTo (l ++ X) t (r ++ X) := by
  induction h with
  | ws a _ ih => exact .ws a (ih ht)
  | quo a => exact .quo (a.ext X)
  | esc a => exact .esc (a.ext X)
  | eof => exact absurd rfl ht
theorem Reads.ext {l r : List Nat} {us : List Str} (h : Reads l us r) (X : List Nat) (hu : ∀ u ∈ us, u ≠ S []) : Reads (l ++ X) us (r ++ X) := by
  induction h with
  | nil => exact .nil
  | cons a _ ih => exact .cons (a.ext X fun q => hu _ (.head _) (by rw [q])) (ih fun u hu' => hu u (.tail _ hu'))
theorem Reads.trans {l r r' : List Nat} {us vs : List Str} (h : Reads l us r) (k : Reads r vs r') : Reads l (us ++ vs) r' := by
  induction h with
  | nil => exact k
  | cons a _ ih => exact .cons a (ih k)
noncomputable def AllWs (p : List Nat) : Prop := ∀ c ∈ p, isWs c = true
theorem TTo.pre {l t r : List Nat} (h : TTo l t r) : ∀ {p : List Nat}, AllWs p → TTo (p ++ l) t r
  | [], _ => h
  | c :: p, hp => .ws (hp c (.head _)) (TTo.pre h fun d hd => hp d (.tail _ hd))
theorem ws_eof : ∀ {p : List Nat}, AllWs p → TTo p [] []
  | [], _ => .eof
  | c :: p, hp => .ws (hp c (.head _)) (ws_eof fun d hd => hp d (.tail _ hd))
theorem sep_ws (k : Int) : AllWs (sepP k) ∧ ∃ c q, sepP k = c :: q := by
  unfold sepP
  split
  · exact ⟨fun c hc => by cases List.mem_singleton.mp hc; rfl, _, _, rfl⟩
  · split
    · exact ⟨fun c hc => by cases List.mem_singleton.mp hc; rfl, _, _, rfl⟩
    · refine ⟨fun c hc => ?_, _, _, rfl⟩
      rcases List.mem_cons.mp hc with rfl | hc
      · rfl
      · cases List.mem_singleton.mp hc; rfl
noncomputable def Tame (x : List Nat) : Prop := x ≠ [] ∧ ∀ c ∈ x, c ≠ 34 ∧ c ≠ 92
theorem q_plain : ∀ {x : List Nat} (r : List Nat), (∀ c ∈ x, c ≠ 34 ∧ c ≠ 92) → QTo (x ++ 34 :: r) x r
  | [], _, _ => .fin
  | c :: x, r, h => .chr (h c (.head _)).1 (h c (.head _)).2 (q_plain r fun d hd => h d (.tail _ hd))
noncomputable abbrev esc (x : List Nat) : List Nat := (x.map fun c => [92, c]).flatten
theorem q_esc : ∀ (x r : List Nat), QTo (esc x ++ 34 :: r) x r
  | [], _ => .fin
  | _ :: x, r => .esc (q_esc x r)
theorem u_esc : ∀ (x : List Nat) {c : Nat} (r : List Nat), isWs c = true → UTo (esc x ++ c :: r) x r
  | [], _, _, h => .fin h
  | _ :: x, _, r, h => .esc (u_esc x r h)
theorem chunk_read (f : Int) (k : Nat) {x : List Nat} (hx : Tame x) : ∃ p, AllWs p ∧ TTo (chunkP f k x) x p := by
  obtain ⟨hs, c, q, e⟩ := sep_ws ((f.fdiv 3 + k).fmod 3)
  by_cases h0 : (f + k).fmod 3 = 0
  · refine ⟨_, hs, ?_⟩
    rw [chunk0 h0]
    have := TTo.quo (q_plain (sepP ((f.fdiv 3 + k).fmod 3)) hx.2)
    simpa using this
  · by_cases h1 : (f + k).fmod 3 = 1
    · refine ⟨q, fun d hd => hs d (by rw [e]; exact .tail _ hd), ?_⟩
      rw [chunk1 h1, e]
      obtain ⟨a, x', rfl⟩ : ∃ a x', x = a :: x' := by
        cases x with
        | nil => exact absurd rfl hx.1
        | cons a r => exact ⟨a, r, rfl⟩
      have := TTo.esc (c := a) (u_esc x' q (hs c (by rw [e]; exact .head _)))
      simpa [esc] using this
    · refine ⟨_, hs, ?_⟩
      rw [chunk2 h0 h1]
      have := TTo.quo (q_esc x (sepP ((f.fdiv 3 + k).fmod 3)))
      simpa [esc] using this
/-- the text that _law_written gives is read back, word by word -/
theorem written_read {fs : List Int} {ws : List (List Nat)} (hw : ∀ x ∈ ws, Tame x) : ∀ i, i ≤ ws.length → ∃ p, AllWs p ∧ Reads (writtenP fs ws i) ((ws.take i).map S) p
  | 0, _ => ⟨[], (fun _ h => nomatch h), Reads.nil⟩
  | i + 1, hi => by
    obtain ⟨p, hp, hr⟩ := written_read (fs := fs) hw i (by omega)
    have hxi : ws.getD i [] ∈ ws := by rw [List.getD, List.getElem?_eq_getElem (by omega)]; exact List.getElem_mem _
    obtain ⟨p', hp', ht⟩ := chunk_read (fs.getD i 0) i (hw _ hxi)
    refine ⟨p', hp', ?_⟩
    show Reads (writtenP fs ws i ++ chunkP (fs.getD i 0) i (ws.getD i [])) _ _
    rw [List.take_succ_eq_append_getElem (by omega), List.map_append]
    refine (hr.ext _ fun u hu q => ?_).trans ?_
    · obtain ⟨x, hx, rfl⟩ := List.mem_map.mp hu
      have h1 := (hw x (List.mem_of_mem_take hx)).1
      have := congrArg (fun s : Str => s.cps.toList) q
      exact h1 (by simpa using this)
    · rw [show ws[i]'(by omega) = ws.getD i [] by rw [List.getD, List.getElem?_eq_getElem (by omega)]; rfl]
      exact .cons (ht.pre hp) .nil
end Mine
namespace Mine
noncomputable def wsStep (q : Wst) (c : Nat) : Wst := if c = 32 then { q with n := q.n + 1, b := q.b + 1 } else ⟨bump q.cnt q.b, 0, q.n + 1, q.nt + 1⟩
noncomputable def Blank (l : List Nat) : Prop := ∀ c ∈ l, c = 32 ∨ c = 9
theorem wsRun_blank : ∀ (l : List Nat) (q : Wst) (c : Nat), Blank l → c ≠ 32 → c ≠ 9 → wsRun (l ++ [c]) q = l.foldl wsStep q
  | [], q, c, _, h1, h2 => by show wsRun [c] q = q; unfold wsRun; rw [if_neg h1, if_neg h2]
  | a :: l, q, c, hb, h1, h2 => by
    rw [List.cons_append, List.foldl_cons, ← wsRun_blank l _ c (fun d hd => hb d (.tail _ hd)) h1 h2]
    rw [show wsRun (a :: (l ++ [c])) q = if a = 32 then wsRun (l ++ [c]) { q with n := q.n + 1, b := q.b + 1 } else if a = 9 then wsRun (l ++ [c]) ⟨bump q.cnt q.b, 0, q.n + 1, q.nt + 1⟩ else q from rfl]
    unfold wsStep
    by_cases k : a = 32
    · rw [if_pos k, if_pos k]
    · rw [if_neg k, if_neg k, if_pos ((hb a (.head _)).resolve_left k)]
theorem ws_spaces : ∀ (k : Nat) (q : Wst), (List.replicate k 32).foldl wsStep q = { q with n := q.n + k, b := q.b + k }
  | 0, _ => rfl
  | k + 1, q => by
    rw [List.replicate_succ, List.foldl_cons, ws_spaces k]
    show (⟨q.cnt, q.b + 1 + k, q.n + 1 + k, q.nt⟩ : Wst) = ⟨q.cnt, q.b + (k + 1), q.n + (k + 1), q.nt⟩
    rw [show q.b + 1 + k = q.b + (k + 1) by omega, show q.n + 1 + k = q.n + (k + 1) by omega]
/-- a piece: spaces closed by a tab -/
noncomputable abbrev pc (k : Nat) : List Nat := List.replicate k 32 ++ [9]
noncomputable def sumP (ps : List Nat) : Nat := (ps.map (· + 1)).sum
theorem ws_pieces : ∀ (ps : List Nat) (cnt : List Int) (n nt : Nat), ((ps.map pc).flatten).foldl wsStep ⟨cnt, 0, n, nt⟩ = ⟨ps.foldl bump cnt, 0, n + sumP ps, nt + ps.length⟩
  | [], _, _, _ => rfl
  | k :: ps, cnt, n, nt => by
    rw [List.map_cons, List.flatten_cons, List.foldl_append, List.foldl_append, ws_spaces]
    show ((ps.map pc).flatten).foldl wsStep ⟨bump cnt (0 + k), 0, n + k + 1, nt + 1⟩ = _
    rw [ws_pieces ps, Nat.zero_add]
    show (⟨_, 0, n + k + 1 + sumP ps, nt + 1 + ps.length⟩ : Wst) = ⟨_, 0, n + (k + 1 + sumP ps), nt + (ps.length + 1)⟩
    rw [show n + k + 1 + sumP ps = n + (k + 1 + sumP ps) by omega, show nt + 1 + ps.length = nt + (ps.length + 1) by omega]
    rfl
/-- the weighed sum of a count, from the k-th place on -/
noncomputable def dotL (ts : Nat) : List Int → Nat → Int
  | [], _ => 0
  | a :: r, k => ((k / ts : Nat) : Int) * a + dotL ts r (k + 1)
theorem dot_app (ts : Nat) : ∀ (l r : List Int) (k : Nat), dotL ts (l ++ r) k = dotL ts l k + dotL ts r (k + l.length)
  | [], r, k => by simp [dotL]
  | a :: l, r, k => by
    rw [List.cons_append, dotL, dot_app ts l r, dotL, List.length_cons, show k + 1 + l.length = k + (l.length + 1) by omega]; omega
theorem dot_zero (ts : Nat) : ∀ (m k : Nat), dotL ts (List.replicate m 0) k = 0
  | 0, _ => rfl
  | m + 1, k => by rw [List.replicate_succ, dotL, dot_zero ts m, Int.mul_zero]; rfl
theorem dot_set (ts : Nat) : ∀ (l : List Int) (i k : Nat), i < l.length → dotL ts (l.set i (l.getD i 0 + 1)) k = dotL ts l k + ((k + i) / ts : Nat)
  | [], _, _, h => absurd h (Nat.not_lt_zero _)
  | a :: l, 0, k, _ => by
    show ((k / ts : Nat) : Int) * (a + 1) + _ = ((k / ts : Nat) : Int) * a + _ + _
    rw [Int.mul_add, Int.mul_one]; simp only [Nat.add_zero]; omega
  | a :: l, i + 1, k, h => by
    show ((k / ts : Nat) : Int) * a + dotL ts (l.set i (l.getD i 0 + 1)) (k + 1) = _
    rw [dot_set ts l i (k + 1) (Nat.lt_of_succ_lt_succ h), dotL, show k + 1 + i = k + (i + 1) by omega]; omega
theorem dot_pad (ts : Nat) (cnt : List Int) (b : Nat) : dotL ts (padTo cnt b) 0 = dotL ts cnt 0 := by
  unfold padTo
  split
  · rfl
  · rw [dot_app, dot_zero, Int.add_zero]
theorem padTo_lt (cnt : List Int) (b : Nat) : b < (padTo cnt b).length ∧ cnt.length ≤ (padTo cnt b).length := by
  unfold padTo
  split
  · exact ⟨by assumption, Nat.le_refl _⟩
  · rw [List.length_append, List.length_replicate]; omega
theorem dot_bump (ts : Nat) (cnt : List Int) (b : Nat) : dotL ts (bump cnt b) 0 = dotL ts cnt 0 + (b / ts : Nat) := by
  unfold bump
  rw [dot_set ts _ b 0 (padTo_lt cnt b).1, dot_pad, Nat.zero_add]
theorem bump_grow (cnt : List Int) (b : Nat) : cnt.length ≤ (bump cnt b).length ∧ b + 1 ≤ (bump cnt b).length := by
  unfold bump
  rw [List.length_set]
  have := padTo_lt cnt b
  omega
noncomputable def sumD (ts : Nat) (ps : List Nat) : Nat := (ps.map (· / ts)).sum
theorem fold_dot (ts : Nat) : ∀ (ps : List Nat) (cnt : List Int), dotL ts (ps.foldl bump cnt) 0 = dotL ts cnt 0 + sumD ts ps
  | [], _ => by simp [sumD]
  | k :: ps, cnt => by
    rw [List.foldl_cons, fold_dot ts ps, dot_bump]
    show _ = dotL ts cnt 0 + ((k / ts + sumD ts ps : Nat) : Int)
    omega
theorem fold_len : ∀ (ps : List Nat) (cnt : List Int), cnt.length ≤ (ps.foldl bump cnt).length ∧ ∀ k ∈ ps, k + 1 ≤ (ps.foldl bump cnt).length
  | [], _ => ⟨Nat.le_refl _, fun _ h => nomatch h⟩
  | a :: ps, cnt => by
    obtain ⟨h1, h2⟩ := fold_len ps (bump cnt a)
    have h3 := bump_grow cnt a
    refine ⟨Nat.le_trans h3.1 h1, fun k hk => ?_⟩
    rcases List.mem_cons.mp hk with rfl | hk
    · exact Nat.le_trans h3.2 h1
    · exact h2 k hk
theorem dot_low {ts : Nat} : ∀ (l : List Int) (k : Nat), k + l.length ≤ ts → dotL ts l k = 0
  | [], _, _ => rfl
  | a :: l, k, h => by
    rw [List.length_cons] at h
    rw [dotL, dot_low l (k + 1) (by omega), Nat.div_eq_of_lt (by omega)]
    simp
theorem il_dot (cnt : List Int) (ts : Nat) : ∀ (m j : Nat), j + m = cnt.length → ∀ (acc : Nat), ts + acc = j → ilSum cnt ts (acc + m) = ilSum cnt ts acc + dotL ts (cnt.drop j) j
  | 0, j, h, acc, _ => by rw [List.drop_of_length_le (by omega)]; simp [dotL]
  | m + 1, j, h, acc, ha => by
    have e := il_dot cnt ts m (j + 1) (by omega) (acc + 1) (by omega)
    rw [show acc + (m + 1) = acc + 1 + m by omega, e, List.drop_eq_getElem_cons (show j < cnt.length by omega), dotL]
    rw [show ilSum cnt ts (acc + 1) = ilSum cnt ts acc + Int.fdiv ((ts : Int) + acc) ts * cnt.getD ((ts : Int) + acc).toNat 0 from rfl]
    rw [show ((ts : Int) + acc) = ((j : Nat) : Int) by omega, Int.toNat_natCast, List.getD, List.getElem?_eq_getElem (show j < cnt.length by omega)]
    rw [Int.fdiv_eq_ediv_of_nonneg _ (Int.natCast_nonneg ts)]
    rw [show ((j : Nat) : Int) / (ts : Int) = ((j / ts : Nat) : Int) from rfl]
    show _ + ((j / ts : Nat) : Int) * cnt[j] + _ = _
    omega
theorem il_all (cnt : List Int) {ts : Nat} (_h : 0 < ts) : ilSum cnt ts (((cnt.length : Int) - ts).toNat) = dotL ts cnt 0 := by
  by_cases h : ts ≤ cnt.length
  · have e := il_dot cnt ts (cnt.length - ts) ts (by omega) 0 (by omega)
    rw [Nat.zero_add] at e
    rw [show ((cnt.length : Int) - ts).toNat = cnt.length - ts by omega, e]
    have e2 := dot_app ts (cnt.take ts) (cnt.drop ts) 0
    rw [List.take_append_drop, dot_low (cnt.take ts) 0 (by rw [List.length_take]; omega), List.length_take, show 0 + min ts cnt.length = ts by omega] at e2
    rw [e2]; rfl
  · rw [show ((cnt.length : Int) - ts).toNat = 0 by omega, dot_low cnt 0 (by omega)]; rfl
/-- what Whitespace tells of pieces and spaces behind them -/
theorem il_of (ps : List Nat) (s n nt : Nat) {ts : Nat} (h : 0 < ts) : ilOf ⟨ps.foldl bump [], s, n, nt⟩ ts = s + (ts : Int) * (sumD ts ps + nt) := by
  unfold ilOf
  dsimp only
  rw [il_all _ h, fold_dot]
  simp [dotL]
/-- a lead as pieces and spaces -/
theorem lead_ws (ps : List Nat) (s c : Nat) (h1 : c ≠ 32) (h2 : c ≠ 9) : wsRun ((ps.map pc).flatten ++ List.replicate s 32 ++ [c]) ⟨[], 0, 0, 0⟩ = ⟨ps.foldl bump [], s, sumP ps + s, ps.length⟩ := by
  rw [wsRun_blank _ _ _ ?_ h1 h2, List.foldl_append, ws_pieces, ws_spaces]
  · simp
  · intro d hd
    rcases List.mem_append.mp hd with hd | hd
    · obtain ⟨l, hl, hd⟩ := List.mem_flatten.mp hd
      obtain ⟨k, -, rfl⟩ := List.mem_map.mp hl
      rcases List.mem_append.mp hd with hd | hd
      · exact .inl (List.eq_of_mem_replicate hd)
      · exact .inr (List.mem_singleton.mp hd)
    · exact .inl (List.eq_of_mem_replicate hd)
end Mine
namespace Mine
theorem nw_iff {c d : Nat × Nat} : nw c d = true ↔ c.1 ≤ d.1 ∧ c.2 ≤ d.2 := by
  unfold nw
  rw [andB_iff, Nat.ble_eq, Nat.ble_eq]
theorem sum_perm {ps qs : List Nat} (h : ps.Perm qs) (f : Nat → Nat) : (ps.map f).sum = (qs.map f).sum := by
  induction h with
  | nil => rfl
  | cons x _ ih => simp only [List.map_cons, List.sum_cons, ih]
  | swap x y l => simp only [List.map_cons, List.sum_cons]; omega
  | trans _ _ a b => exact a.trans b
theorem sum_rep (f : Nat → Nat) (x : Nat) : ∀ k : Nat, ((List.replicate k x).map f).sum = k * f x
  | 0 => by simp
  | k + 1 => by rw [List.replicate_succ, List.map_cons, List.sum_cons, sum_rep f x k, Nat.succ_mul]; omega
structure Pcs (a R r3 i j : Nat) (ps : List Nat) : Prop where
  perm : ps.Perm (List.replicate (a * i) 0 ++ List.replicate j R ++ [r3])
theorem Pcs.sum {a R r3 i j : Nat} {ps : List Nat} (h : Pcs a R r3 i j ps) (f : Nat → Nat) : (ps.map f).sum = a * i * f 0 + j * f R + f r3 := by
  rw [sum_perm h.perm, List.map_append, List.map_append, List.sum_append, List.sum_append, sum_rep, sum_rep]
  simp
theorem Pcs.n {a R r3 i j : Nat} {ps : List Nat} (h : Pcs a R r3 i j ps) : sumP ps = a * i + j * (R + 1) + (r3 + 1) := by
  unfold sumP; rw [h.sum]; simp
theorem Pcs.nt {a R r3 i j : Nat} {ps : List Nat} (h : Pcs a R r3 i j ps) : ps.length = a * i + j + 1 := by
  rw [h.perm.length_eq]; simp; omega
theorem Pcs.d {a R r3 i j : Nat} {ps : List Nat} (h : Pcs a R r3 i j ps) (ts : Nat) : sumD ts ps = j * (R / ts) + r3 / ts := by
  unfold sumD; rw [h.sum]; simp
theorem Pcs.len {a R r3 i j : Nat} {ps : List Nat} (h : Pcs a R r3 i j ps) (hj : 0 < j) : R + 1 ≤ (ps.foldl bump []).length := by
  refine (fold_len ps []).2 R (h.perm.mem_iff.mpr ?_)
  refine List.mem_append_left _ (List.mem_append_right _ ?_)
  exact List.mem_replicate.mpr ⟨by omega, rfl⟩
theorem lin_lt {a i j i' j' x : Nat} (ha : 1 ≤ a) (hx : 1 ≤ x) (h1 : i ≤ i') (h2 : j ≤ j') (hne : i ≠ i' ∨ j ≠ j') : a * i + j * x < a * i' + j' * x := by
  obtain ⟨di, rfl⟩ := Nat.exists_eq_add_of_le h1
  obtain ⟨dj, rfl⟩ := Nat.exists_eq_add_of_le h2
  rw [Nat.mul_add, Nat.add_mul]
  have e1 : di ≤ a * di := Nat.le_mul_of_pos_left _ ha
  have e2 : dj ≤ dj * x := Nat.le_mul_of_pos_right _ hx
  omega
/-- pieces turned about: one lead is less than another just where its cell lies north-west -/
theorem less_pcs {a R r3 s i j i' j' H : Nat} {ps qs : List Nat} (hp : Pcs a R r3 i j ps) (hq : Pcs a R r3 i' j' qs) (ha : 1 ≤ a) (hj : j ≤ a) (hj' : j' ≤ a) (hi : i ≤ H) (hi' : i' ≤ H) (hR : H * a ≤ R + 1 ∨ (j = 0 ∧ j' = 0)) (hne : i ≠ i' ∨ j ≠ j') :
    lessOf ⟨ps.foldl bump [], s, sumP ps + s, ps.length⟩ ⟨qs.foldl bump [], s, sumP qs + s, qs.length⟩ = nw (i, j) (i', j') := by
  rw [Bool.eq_iff_iff, nw_iff]
  have np := hp.n
  have nq := hq.n
  have tp := hp.nt
  have tq := hq.nt
  constructor
  · intro h
    -- the lengths
    have hn : ¬ sumP qs + s ≤ sumP ps + s := fun q => by
      rw [show lessOf _ _ = false from by unfold lessOf; rw [if_pos q]] at h
      cases h
    have E1 : a * i + j * (R + 1) < a * i' + j' * (R + 1) := by omega
    by_cases z : j = 0 ∧ j' = 0
    · obtain ⟨rfl, rfl⟩ := z
      refine ⟨?_, Nat.le_refl _⟩
      have : a * i < a * i' := by omega
      exact Nat.le_of_lt (Nat.lt_of_mul_lt_mul_left this)
    · have hRa := hR.resolve_right z
      have E2 : a * i + j < a * i' + j' := by
        have hl : 0 < j ∨ 0 < j' := by omega
        by_cases both : (ps.foldl bump []).length ≤ 1 ∧ (qs.foldl bump []).length ≤ 1
        · have hR0 : R = 0 := by
            rcases hl with k | k
            · have := hp.len k; omega
            · have := hq.len k; omega
          rw [hR0] at E1; omega
        · unfold lessOf at h
          rw [if_neg hn, if_neg both, List.all_eq_true] at h
          obtain ⟨T, hT⟩ : ∃ T : Nat, topOf ⟨ps.foldl bump [], s, sumP ps + s, ps.length⟩ ⟨qs.foldl bump [], s, sumP qs + s, qs.length⟩ = (T : Int) ∧ (ps.foldl bump []).length ≤ T ∧ (qs.foldl bump []).length ≤ T := by
            refine ⟨(topOf ⟨ps.foldl bump [], s, sumP ps + s, ps.length⟩ ⟨qs.foldl bump [], s, sumP qs + s, qs.length⟩).toNat, ?_, ?_, ?_⟩ <;>
            · unfold topOf longOf
              dsimp only
              (repeat' split) <;> omega
          have hT2 : 2 ≤ T := by omega
          have hRT : R < T := by
            rcases hl with k | k
            · have := hp.len k; omega
            · have := hq.len k; omega
          have e := h (T - 2) (List.mem_range.mpr (by rw [hT.1]; omega))
          have e := of_decide_eq_true e
          rw [show (2 : Int) + ((T - 2 : Nat) : Int) = (T : Int) by omega] at e
          rw [il_of ps s _ _ (show 0 < T by omega), il_of qs s _ _ (show 0 < T by omega), hp.d, hq.d, Nat.div_eq_of_lt hRT, tp, tq] at e
          have e2 : (T : Int) * (((j * 0 + r3 / T : Nat) : Int) + ((a * i + j + 1 : Nat) : Int)) < (T : Int) * (((j' * 0 + r3 / T : Nat) : Int) + ((a * i' + j' + 1 : Nat) : Int)) := by omega
          have e3 := Int.lt_of_mul_lt_mul_left e2 (by omega)
          omega
      refine ⟨?_, ?_⟩
      · apply Nat.le_of_not_lt
        intro q
        obtain ⟨d, rfl⟩ : ∃ d, i = i' + 1 + d := ⟨i - (i' + 1), by omega⟩
        have : a * (i' + 1 + d) = a * i' + a + a * d := by rw [Nat.mul_add, Nat.mul_add, Nat.mul_one]
        omega
      · apply Nat.le_of_not_lt
        intro q
        obtain ⟨d, rfl⟩ : ∃ d, j = j' + 1 + d := ⟨j - (j' + 1), by omega⟩
        have e1 : (j' + 1 + d) * (R + 1) = j' * (R + 1) + (R + 1) + d * (R + 1) := by rw [Nat.add_mul, Nat.add_mul, Nat.one_mul]
        have e2 : a * i' ≤ a * H := Nat.mul_le_mul_left _ hi'
        rw [Nat.mul_comm a H] at e2
        have e3 := Nat.zero_le (a * i)
        have e4 := Nat.zero_le (d * (R + 1))
        omega
  · rintro ⟨h1, h2⟩
    dsimp only at h1 h2
    have E1 := lin_lt (x := R + 1) ha (by omega) h1 h2 hne
    have E2 := lin_lt (x := 1) ha (by omega) h1 h2 hne
    unfold lessOf
    dsimp only
    rw [if_neg (by omega)]
    by_cases both : (ps.foldl bump []).length ≤ 1 ∧ (qs.foldl bump []).length ≤ 1
    · rw [if_pos both]
      exact decide_eq_true (by omega)
    · rw [if_neg both, List.all_eq_true]
      intro m _
      refine decide_eq_true ?_
      rw [show (2 : Int) + (m : Int) = ((m + 2 : Nat) : Int) by omega]
      rw [il_of ps s _ _ (show 0 < m + 2 by omega), il_of qs s _ _ (show 0 < m + 2 by omega), hp.d, hq.d, tp, tq]
      have E3 := lin_lt (x := R / (m + 2) + 1) ha (Nat.le_add_left 1 _) h1 h2 hne
      rw [Nat.mul_add, Nat.mul_add, Nat.mul_one, Nat.mul_one] at E3
      have e2 : (((j * (R / (m + 2)) + r3 / (m + 2) : Nat) : Int) + ((a * i + j + 1 : Nat) : Int)) < (((j' * (R / (m + 2)) + r3 / (m + 2) : Nat) : Int) + ((a * i' + j' + 1 : Nat) : Int)) := by omega
      have e3 := Int.mul_lt_mul_of_pos_left e2 (show (0 : Int) < ((m + 2 : Nat) : Int) by omega)
      omega
theorem zeros_len : ∀ (k : Nat) (cnt : List Int), cnt.length ≤ 1 → ((List.replicate k 0).foldl bump cnt).length ≤ 1
  | 0, _, h => h
  | k + 1, cnt, h => by
    rw [List.replicate_succ, List.foldl_cons]
    exact zeros_len k _ (Nat.le_trans (bump_len cnt 0) (by omega))
/-- tabs ahead of spaces -/
theorem less_plain {h t s i j i' j' : Nat} (hh : 1 ≤ h) (hi : i ≤ h) (hi' : i' ≤ h) (hne : i ≠ i' ∨ j ≠ j') :
    lessOf ⟨(List.replicate (i + t) 0).foldl bump [], h * j + s, sumP (List.replicate (i + t) 0) + (h * j + s), (List.replicate (i + t) 0).length⟩ ⟨(List.replicate (i' + t) 0).foldl bump [], h * j' + s, sumP (List.replicate (i' + t) 0) + (h * j' + s), (List.replicate (i' + t) 0).length⟩ = nw (i, j) (i', j') := by
  rw [Bool.eq_iff_iff, nw_iff]
  have z1 := zeros_len (i + t) [] (by simp)
  have z2 := zeros_len (i' + t) [] (by simp)
  have s1 : ∀ k : Nat, sumP (List.replicate k 0) = k := fun k => by unfold sumP; rw [sum_rep]; omega
  unfold lessOf
  dsimp only
  rw [if_pos (show _ ∧ _ from ⟨z1, z2⟩), s1, s1, List.length_replicate, List.length_replicate]
  constructor
  · intro q
    split at q
    · cases q
    · have q1 := of_decide_eq_true q
      refine ⟨by omega, Nat.le_of_not_lt fun k => ?_⟩
      obtain ⟨d, rfl⟩ : ∃ d, j = j' + 1 + d := ⟨j - (j' + 1), by omega⟩
      have : h * (j' + 1 + d) = h * j' + h + h * d := by rw [Nat.mul_add, Nat.mul_add, Nat.mul_one]
      omega
  · rintro ⟨h1, h2⟩
    have E := lin_lt (x := 1) hh (Nat.le_refl 1) h2 h1 (hne.symm)
    rw [if_neg (by omega)]
    exact decide_eq_true (by omega)
/-- a lead's pieces, as numbers of spaces -/
theorem lead_false {H W RN rest : Int} {i j : Nat} (hRN : 0 ≤ RN) : ∃ ps, Pcs (if 1 > W then 1 else W).toNat RN.toNat (rest.fmod 3).toNat i j ps ∧ leadP false H W RN rest i j = (ps.map pc).flatten ++ List.replicate ((rest.fdiv 6).fmod 2).toNat 32 := by
  obtain ⟨nums, hnums⟩ : ∃ nums, nums = List.replicate ((if 1 > W then 1 else W).toNat * i) 0 ++ List.replicate j RN.toNat ++ [(rest.fmod 3).toNat] := ⟨_, rfl⟩
  have e : List.replicate ((if 1 > W then 1 else W) * i).toNat [9] ++ List.replicate j (List.replicate RN.toNat 32 ++ [9]) ++ [List.replicate (rest.fmod 3).toNat 32 ++ [9]] = nums.map pc := by
    rw [hnums, List.map_append, List.map_append, List.map_replicate, List.map_replicate]
    rw [show ((if 1 > W then 1 else W) * (i : Int)).toNat = (if 1 > W then 1 else W).toNat * i by
      have h1 : 0 ≤ (if 1 > W then 1 else W) := by split <;> omega
      obtain ⟨a, ha⟩ := Int.eq_ofNat_of_zero_le h1
      rw [ha]; rfl]
    rfl
  unfold leadP
  simp only [Bool.false_eq_true, if_false]
  rw [e]
  refine ⟨nums.drop ((rest + i + 2 * j).fmod (nums.map pc).length).toNat ++ nums.take ((rest + i + 2 * j).fmod (nums.map pc).length).toNat, ⟨?_⟩, ?_⟩
  · rw [← hnums]
    exact List.perm_append_comm.trans (by rw [List.take_append_drop])
  · rw [List.map_append, List.map_drop, List.map_take]
theorem lead_true {H W RN rest : Int} {i j : Nat} : leadP true H W RN rest i j = ((List.replicate (i + (rest.fmod 3).toNat) 0).map pc).flatten ++ List.replicate ((if 1 > H then 1 else H).toNat * j + ((rest.fdiv 6).fmod 2).toNat) 32 := by
  unfold leadP
  rw [if_pos rfl, List.map_replicate, show pc 0 = [9] from rfl, flat_rep, ← List.replicate_append_replicate (n := (if 1 > H then 1 else H).toNat * j), ← List.append_assoc]
  rw [show ((i : Int) + rest.fmod 3).toNat = i + (rest.fmod 3).toNat by have := Int.fmod_nonneg_of_pos rest (b := 3) (by decide); omega]
  rw [show ((if 1 > H then 1 else H) * (j : Int)).toNat = (if 1 > H then 1 else H).toNat * j by
      have h1 : 0 ≤ (if 1 > H then 1 else H) := by split <;> omega
      obtain ⟨a, ha⟩ := Int.eq_ofNat_of_zero_le h1
      rw [ha]; rfl]
/-- one word's lead is less than another's just where its cell lies north-west -/
theorem lead_lt {pl : Bool} {H W RN rest : Int} {i j i' j' k l : Nat} (hRN : RN = (if 0 > H * W - 1 then 0 else H * W - 1) + (rest.fdiv 3).fmod 2) (hi : (i : Int) ≤ H) (hi' : (i' : Int) ≤ H) (hj : (j : Int) ≤ W) (hj' : (j' : Int) ≤ W) (hne : i ≠ i' ∨ j ≠ j') :
    ltP (S (leadP pl H W RN rest i j ++ [97 + k])) (S (leadP pl H W RN rest i' j' ++ [97 + l])) = nw (i, j) (i', j') := by
  have r3 := Int.fmod_nonneg_of_pos (rest.fdiv 3) (b := 2) (by decide)
  unfold ltP
  rw [List.toList_toArray, List.toList_toArray]
  cases pl with
  | true =>
    rw [lead_true, lead_true, lead_ws _ _ _ (by omega) (by omega), lead_ws _ _ _ (by omega) (by omega)]
    exact less_plain (by split <;> omega) (by split <;> omega) (by split <;> omega) hne
  | false =>
    have hRN0 : 0 ≤ RN := by rw [hRN]; split <;> omega
    obtain ⟨ps, hp, e1⟩ := lead_false (H := H) (W := W) (rest := rest) (i := i) (j := j) hRN0
    obtain ⟨qs, hq, e2⟩ := lead_false (H := H) (W := W) (rest := rest) (i := i') (j := j') hRN0
    rw [e1, e2, lead_ws _ _ _ (by omega) (by omega), lead_ws _ _ _ (by omega) (by omega)]
    refine less_pcs (H := H.toNat) hp hq (by split <;> omega) (by split <;> omega) (by split <;> omega) (by omega) (by omega) ?_ hne
    by_cases hW : W ≤ 0
    · exact .inr (by omega)
    · left
      rw [if_neg (by omega)]
      obtain ⟨a, rfl⟩ := Int.eq_ofNat_of_zero_le (show 0 ≤ W by omega)
      obtain ⟨b, rfl⟩ := Int.eq_ofNat_of_zero_le (show 0 ≤ H by omega)
      rw [Int.toNat_natCast, Int.toNat_natCast]
      have : ((b : Int) * (a : Int)) = ((b * a : Nat) : Int) := (Int.natCast_mul b a).symm
      rw [this] at hRN
      split at hRN <;> omega
end Mine
namespace Mine
theorem lead_blank {pl : Bool} {H W RN rest : Int} {i j : Nat} (hRN : 0 ≤ RN) : Blank (leadP pl H W RN rest i j) := by
  have key : ∀ (ps : List Nat) (s : Nat), Blank ((ps.map pc).flatten ++ List.replicate s 32) := fun ps s d hd => by
    rcases List.mem_append.mp hd with hd | hd
    · obtain ⟨l, hl, hd⟩ := List.mem_flatten.mp hd
      obtain ⟨k, -, rfl⟩ := List.mem_map.mp hl
      rcases List.mem_append.mp hd with hd | hd
      · exact .inl (List.eq_of_mem_replicate hd)
      · exact .inr (List.mem_singleton.mp hd)
    · exact .inl (List.eq_of_mem_replicate hd)
  cases pl with
  | true => rw [lead_true]; exact key _ _
  | false =>
    obtain ⟨ps, -, e⟩ := lead_false (H := H) (W := W) (rest := rest) (i := i) (j := j) hRN
    rw [e]; exact key _ _
theorem words_tame : ∀ (ld : List (List Nat)) (k : Nat), (∀ x ∈ ld, Blank x) → ∀ x ∈ wordsP k ld, Tame x
  | [], _, _, _, h => nomatch h
  | a :: r, k, hb, x, h => by
    rcases List.mem_cons.mp h with rfl | h
    · refine ⟨by simp, fun c hc => ?_⟩
      rcases List.mem_append.mp hc with hc | hc
      · rcases hb a (.head _) c hc with rfl | rfl <;> decide
      · cases List.mem_singleton.mp hc; omega
    · exact words_tame r (k + 1) (fun y hy => hb y (.tail _ hy)) x h
theorem words_get : ∀ (ld : List (List Nat)) (k i : Nat) (h : i < ld.length), (wordsP k ld)[i]? = some (ld[i] ++ [97 + (k + i)])
  | a :: r, k, 0, _ => rfl
  | a :: r, k, i + 1, h => by
    show (wordsP (k + 1) r)[i]? = _
    rw [words_get r (k + 1) i (Nat.lt_of_succ_lt_succ h), show k + 1 + i = k + (i + 1) by omega]; rfl
theorem idx_nodup {l : List (Nat × Nat)} (h : l.Nodup) {k : Nat} (hk : k < l.length) : l.idxOf l[k] = k := by
  have h1 : l.idxOf l[k] < l.length := List.idxOf_lt_length_iff.mpr (List.getElem_mem hk)
  have h2 : l[l.idxOf l[k]] = l[k] := List.getElem_idxOf h1
  exact (List.getElem_inj h).mp h2
end Mine
namespace Mine
/-- the rounds of _law_ends: what each ends with, and the words as they lie at the end -/
noncomputable def endsOf (lt : Str → Str → Bool) : Nat → List Str → List Str × List Str
  | n + 1, u :: r => ((rnd lt u r).1 :: (endsOf lt n ((rnd lt u r).2 ++ [(rnd lt u r).1])).1, (endsOf lt n ((rnd lt u r).2 ++ [(rnd lt u r).1])).2)
  | _, l => ([], l)
end Mine
namespace Mine
/-- the rows that may grow -/
noncomputable def freeP (high : Nat) (rows : List Nat) : List Nat := (List.range high).filter fun i => decide (rows.getD i 0 < high - i) && (decide (i = 0) || decide (rows.getD i 0 < rows.getD (i - 1) 0))
/-- cells of a staircase, filled as the figures tell -/
noncomputable def orderP (high : Nat) : List Int → List Nat → List (Nat × Nat)
  | [], _ => []
  | f :: r, rows =>
    let i := (freeP high rows).getD (f.fmod (freeP high rows).length).toNat 0
    (i, rows.getD i 0) :: orderP high r (rows.set i (rows.getD i 0 + 1))
theorem rep_up {vs : List Value} {n : Nat} (h : IntsAre vs (List.replicate ((n : Int)).toNat [(0 : Int)]).flatten) : IntsAre vs (up (List.replicate n 0)) := by
  rw [flat_rep, Int.toNat_natCast] at h
  rw [up, List.map_replicate]
  exact h
theorem getD_rep (n i : Nat) : (List.replicate n 0).getD i 0 = 0 := by
  rw [List.getD, List.getElem?_replicate]; split <;> rfl
/-- the rows that may grow, as the comprehension finds them -/
structure FrJ (high : Nat) (rows : List Nat) (news : List (Addr × Obj)) (i : Nat) (ys : List Value) (news' : List (Addr × Obj)) : Prop where
  e : news' = news
  hy : IntsAre ys (up ((List.range i).filter fun i => decide (rows.getD i 0 < high - i) && (decide (i = 0) || decide (rows.getD i 0 < rows.getD (i - 1) 0))))
theorem getD_up (rows : List Nat) (i : Nat) : (up rows).getD i 0 = ((rows.getD i 0 : Nat) : Int) := by
  rw [List.getD, List.getD, up, List.getElem?_map]
  cases rows[i]? <;> rfl
section
variable {high k : Nat} {rows : List Nat} {news news' : List (Addr × Obj)} {ys : List Value} {t : Tok}
theorem FrJ.yes (h : FrJ high rows news k ys news') (hk : (decide (rows.getD k 0 < high - k) && (decide (k = 0) || decide (rows.getD k 0 < rows.getD (k - 1) 0))) = true) : FrJ high rows news (k + 1) (ys ++ [.int (0 + (k : Int)) t]) news' := by
  refine ⟨h.e, ?_⟩
  rw [List.range_succ, List.filter_append, List.filter_cons, if_pos hk, up, List.map_append]
  have := h.hy.append (.cons (0 + (k : Int)) t .nil)
  rw [Int.zero_add] at this ⊢
  exact this
theorem FrJ.no (h : FrJ high rows news k ys news') (hk : (decide (rows.getD k 0 < high - k) && (decide (k = 0) || decide (rows.getD k 0 < rows.getD (k - 1) 0))) = false) : FrJ high rows news (k + 1) ys news' := by
  refine ⟨h.e, ?_⟩
  rw [List.range_succ, List.filter_append, List.filter_cons, if_neg (by rw [hk]; decide), List.filter_nil, List.append_nil]
  exact h.hy
theorem fr1 (hk : k < high) (a : (up rows).getD (0 + (k : Int)).toNat 0 < (high : Int) - (0 + (k : Int))) (b : 0 + (k : Int) = 0) : (decide (rows.getD k 0 < high - k) && (decide (k = 0) || decide (rows.getD k 0 < rows.getD (k - 1) 0))) = true := by
  rw [show (0 + (k : Int)).toNat = k by omega, getD_up] at a
  rw [decide_eq_true (show rows.getD k 0 < high - k by omega), decide_eq_true (show k = 0 by omega)]; rfl
theorem fr2 (hk : k < high) (a : (up rows).getD (0 + (k : Int)).toNat 0 < (high : Int) - (0 + (k : Int))) (b : 0 + (k : Int) ≠ 0) (c : (up rows).getD (0 + (k : Int)).toNat 0 < (up rows).getD (0 + (k : Int) - 1).toNat 0) : (decide (rows.getD k 0 < high - k) && (decide (k = 0) || decide (rows.getD k 0 < rows.getD (k - 1) 0))) = true := by
  rw [show (0 + (k : Int)).toNat = k by omega, getD_up] at a
  rw [show (0 + (k : Int)).toNat = k by omega, show (0 + (k : Int) - 1).toNat = k - 1 by omega, getD_up, getD_up] at c
  rw [decide_eq_true (show rows.getD k 0 < high - k by omega), decide_eq_true (show rows.getD k 0 < rows.getD (k - 1) 0 by omega), Bool.or_true]; rfl
theorem fr3 (b : 0 + (k : Int) ≠ 0) (c : ¬ (up rows).getD (0 + (k : Int)).toNat 0 < (up rows).getD (0 + (k : Int) - 1).toNat 0) : (decide (rows.getD k 0 < high - k) && (decide (k = 0) || decide (rows.getD k 0 < rows.getD (k - 1) 0))) = false := by
  rw [show (0 + (k : Int)).toNat = k by omega, show (0 + (k : Int) - 1).toNat = k - 1 by omega, getD_up, getD_up] at c
  rw [decide_eq_false (show ¬ k = 0 by omega), decide_eq_false (show ¬ rows.getD k 0 < rows.getD (k - 1) 0 by omega), Bool.or_false, Bool.and_false]
theorem fr4 (hk : k < high) (a : ¬ (up rows).getD (0 + (k : Int)).toNat 0 < (high : Int) - (0 + (k : Int))) : (decide (rows.getD k 0 < high - k) && (decide (k = 0) || decide (rows.getD k 0 < rows.getD (k - 1) 0))) = false := by
  rw [show (0 + (k : Int)).toNat = k by omega, getD_up] at a
  rw [decide_eq_false (show ¬ rows.getD k 0 < high - k by omega), Bool.false_and]
end
theorem free_mem {high : Nat} {rows : List Nat} {i : Nat} (h : i ∈ freeP high rows) : i < high ∧ rows.getD i 0 < high - i ∧ (i = 0 ∨ rows.getD i 0 < rows.getD (i - 1) 0) := by
  obtain ⟨h1, h2⟩ := List.mem_filter.mp h
  rw [Bool.and_eq_true, Bool.or_eq_true] at h2
  exact ⟨List.mem_range.mp h1, of_decide_eq_true h2.1, h2.2.imp of_decide_eq_true of_decide_eq_true⟩
theorem mem_free {high : Nat} {rows : List Nat} {i : Nat} (h1 : i < high) (h2 : rows.getD i 0 < high - i) (h3 : i = 0 ∨ rows.getD i 0 < rows.getD (i - 1) 0) : i ∈ freeP high rows :=
  List.mem_filter.mpr ⟨List.mem_range.mpr h1, by
    rw [decide_eq_true h2, Bool.true_and, Bool.or_eq_true]
    exact h3.imp decide_eq_true decide_eq_true⟩
theorem free_pos {high : Nat} {rows : List Nat} (hh : high = 3 ∨ high = 4) (hl : rows.length = high) (hb : ∀ i, rows.getD i 0 ≤ high - i) (hs : rows.sum < high * (high + 1) / 2) : 0 < (freeP high rows).length := by
  refine List.length_pos_iff.mpr fun q => ?_
  have key : ∀ i, i < high → (i = 0 ∨ rows.getD i 0 < rows.getD (i - 1) 0) → high - i ≤ rows.getD i 0 := fun i hi h => by
    refine Nat.le_of_not_lt fun k => ?_
    have := mem_free hi k h
    rw [q] at this; cases this
  rcases hh with rfl | rfl
  · obtain ⟨a, b, c, rfl⟩ : ∃ a b c, rows = [a, b, c] := by
      match rows, hl with
      | [a, b, c], _ => exact ⟨a, b, c, rfl⟩
    have k0 : 3 - 0 ≤ a := key 0 (by omega) (.inl rfl)
    have b1 : b ≤ 3 - 1 := hb 1
    have b2 : c ≤ 3 - 2 := hb 2
    have k1 : 3 - 1 ≤ b := key 1 (by omega) (.inr (show b < a by omega))
    have k2 : 3 - 2 ≤ c := key 2 (by omega) (.inr (show c < b by omega))
    simp at hs; omega
  · obtain ⟨a, b, c, d, rfl⟩ : ∃ a b c d, rows = [a, b, c, d] := by
      match rows, hl with
      | [a, b, c, d], _ => exact ⟨a, b, c, d, rfl⟩
    have k0 : 4 - 0 ≤ a := key 0 (by omega) (.inl rfl)
    have b1 : b ≤ 4 - 1 := hb 1
    have b2 : c ≤ 4 - 2 := hb 2
    have b3 : d ≤ 4 - 3 := hb 3
    have k1 : 4 - 1 ≤ b := key 1 (by omega) (.inr (show b < a by omega))
    have k2 : 4 - 2 ≤ c := key 2 (by omega) (.inr (show c < b by omega))
    have k3 : 4 - 3 ≤ d := key 3 (by omega) (.inr (show d < c by omega))
    simp at hs; omega
theorem set_sum : ∀ {l : List Nat} {i : Nat}, i < l.length → (l.set i (l.getD i 0 + 1)).sum = l.sum + 1
  | [], _, h => absurd h (Nat.not_lt_zero _)
  | a :: l, 0, _ => by show a + 1 + l.sum = a + l.sum + 1; omega
  | a :: l, i + 1, h => by
    show a + (l.set i (l.getD i 0 + 1)).sum = a + l.sum + 1
    rw [set_sum (Nat.lt_of_succ_lt_succ h)]; omega
theorem ints_get {vs : List Value} {ns : List Int} (h : IntsAre vs ns) : ∀ {i : Nat}, i < ns.length → ∃ t, vs[i]? = some (.int (ns.getD i 0) t) := by
  induction h with
  | nil => intro i hi; cases hi
  | cons k t r ih =>
    intro i hi
    cases i with
    | zero => exact ⟨t, rfl⟩
    | succ i =>
      obtain ⟨u, e⟩ := ih (Nat.lt_of_succ_lt_succ hi)
      exact ⟨u, by simpa using e⟩
end Mine
namespace Mine
/-- neighbours exchanged, as the rows tell; none where two stand turned already -/
noncomputable def exP : List Nat → List Int → Option (List Int)
  | [], th => some th
  | i :: r, th => match th.drop i with
    | a :: b :: post => if a ≤ b then exP r (th.take i ++ b :: a :: post) else none
    | _ => none
end Mine
namespace Mine
theorem exP_next {rows : List Nat} {th out : List Int} {t : Nat} (ht : t < rows.length) (h : exP (rows.drop t) th = some out) :
    ∃ i a b post, i = rows.getD t 0 ∧ th.drop i = a :: b :: post ∧ a ≤ b ∧ exP (rows.drop (t + 1)) (th.take i ++ b :: a :: post) = some out := by
  rw [List.drop_eq_getElem_cons ht, exP] at h
  refine ⟨rows[t], ?_⟩
  split at h
  case h_1 a b post e =>
    by_cases q : a ≤ b
    · rw [if_pos q] at h
      exact ⟨a, b, post, by rw [List.getD, List.getElem?_eq_getElem ht]; rfl, e, q, h⟩
    · rw [if_neg q] at h; cases h
  case h_2 => cases h
end Mine
namespace Mine
theorem ord_next {high : Nat} {fs : List Int} {rows fr : List Nat} {t i : Nat} (ht : t < fs.length) (hfr : fr = freeP high rows) (hi : i = fr.getD ((fs.getD t 0).fmod fr.length).toNat 0) :
    orderP high (fs.drop t) rows = (i, rows.getD i 0) :: orderP high (fs.drop (t + 1)) (rows.set i (rows.getD i 0 + 1)) := by
  rw [List.drop_eq_getElem_cons ht, orderP, ← getD_in ht, ← hfr, ← hi]
theorem cell_snoc {l : List (Addr × Obj)} {cls : List CellO} {c : CellO} : ∀ p ∈ l ++ cellsLed (cls ++ [c]), p ∈ c.led :: (l ++ cellsLed cls) := by
  intro p hp
  rw [cellsLed, List.map_append] at hp
  rcases List.mem_append.mp hp with h | h
  · exact .tail _ (List.mem_append_left _ h)
  · rcases List.mem_append.mp h with h | h
    · exact .tail _ (List.mem_append_right _ h)
    · cases List.mem_singleton.mp h; exact .head _
theorem apt_snoc {l l' : List (Addr × Obj)} {cls : List CellO} {c : CellO} {o : Obj} (e : l'.map (·.1) = l.map (·.1)) (h : Apt ((c.a, o) :: (l ++ cellsLed cls))) : Apt (l' ++ cellsLed (cls ++ [c])) := by
  refine h.perm ?_
  rw [List.map_cons, List.map_append, List.map_append, cellsLed, cellsLed, List.map_append, List.map_append, e]
  refine List.perm_iff_count.mpr fun a => ?_
  simp only [List.count_cons, List.count_append, List.map_cons, List.map_nil, List.count_nil]
  omega
theorem up_set {vs : List Value} {rows : List Nat} {i : Nat} {z : Int} (h : IntsAre vs ((up rows).set i z)) {n : Nat} (e : z = n) : IntsAre vs (up (rows.set i n)) := by
  rw [up, List.map_set, ← e]; exact h
end Mine
open PySem PySem.W PySem.Calls PyProof.Rows PySem.SeqAt
namespace Mine
theorem ex_sorted {a b : Int} {ns : List Int} (p : ns.Perm [a, b]) (o : ns.Pairwise (· ≤ ·)) (hab : a ≤ b) : ns = [a, b] := by
  have hl := p.length_eq
  match ns, hl with
  | [c, d], _ =>
    have h := (List.pairwise_cons.mp o).1 d (.head _)
    have hc : c ∈ [a, b] := p.mem_iff.mp (.head _)
    have hd : d ∈ [a, b] := p.mem_iff.mp (.tail _ (.head _))
    have ha : a ∈ [c, d] := p.mem_iff.mpr (.head _)
    have hb : b ∈ [c, d] := p.mem_iff.mpr (.tail _ (.head _))
    simp only [List.mem_cons, List.not_mem_nil, or_false] at hc hd ha hb
    have e1 : c = a := by omega
    have e2 : d = b := by omega
    rw [e1, e2]
theorem ex_cut {th post : List Int} {i : Nat} {a b : Int} (h : th.drop i = a :: b :: post) : (th.drop (i : Int).toNat).take (min ((i : Int) + 2).toNat th.length - (i : Int).toNat) = [a, b] := by
  have hl := congrArg List.length h
  simp only [List.length_drop, List.length_cons] at hl
  rw [show min ((i : Int) + 2).toNat th.length - (i : Int).toNat = 2 by omega, Int.toNat_natCast, h]
  rfl
theorem ex_end {th post : List Int} {i : Nat} {a b : Int} (h : th.drop i = a :: b :: post) : th.drop ((i : Int) + 2).toNat = post := by
  rw [show ((i : Int) + 2).toNat = i + 2 by omega, ← List.drop_drop, h]
  rfl
theorem ints_eqAt {A : Around} {s : Shared} : ∀ {vs ws : List Value} {ns : List Int}, IntsAre vs ns → IntsAre ws ns → ∀ j (h1 : j < vs.length) (h2 : j < ws.length), EqAt A s vs[j] ws[j] true
  | _, _, _, .nil, .nil, _, h1, _ => absurd h1 (Nat.not_lt_zero _)
  | _, _, _, .cons _ _ _, .cons _ _ _, 0, _, _ => eqI rfl
  | _, _, _, .cons _ _ r, .cons _ _ r', j + 1, h1, h2 => ints_eqAt r r' j (Nat.lt_of_succ_lt_succ h1) (Nat.lt_of_succ_lt_succ h2)
section
variable {prog : Program} {w : World} {A : Around} {E : Value → Shared → Prop} {s : Shared} {g : Heap} {L : Addr} {news : List (Addr × Obj)}
theorem drop2 {h : Heap} {a b : Addr × Obj} {l : List (Addr × Obj)} (N : News g L h (a :: b :: l)) : News g L h (a :: l) := fun p hp => by
  rcases List.mem_cons.mp hp with rfl | hp
  · exact N _ (.head _)
  · exact N _ (.tail _ (.tail _ hp))
theorem drop1 {h : Heap} {a : Addr × Obj} {l : List (Addr × Obj)} (N : News g L h (a :: l)) : News g L h l := fun p hp => N _ (.tail _ hp)
/-- a slice of a list of ints -/
theorem cutI {l : Addr} {m : Str → Option Value} {vs : List Value} {ns ms ms' : List Int} {n : Nat} {vl vu : Value} {lo hi : Option Int} {value slice : PySem.Expr} {Q : Value → Shared → Prop} (F : Fr g L s.heap m) (N : News g L s.heap news) (hm : (l, listOf vs.toArray n) ∈ news) (pl : IsPart vl lo) (pu : IsPart vu hi) (hi' : IntsAre vs ns) (hk : IntsAre (slicePick vs.toArray lo hi none).toList ms) (e : ms = ms') (hz : ns.length ≤ 5)
    (h : ∀ D ws h', Fr g L h' m → News g L h' ((D, listOf ws.toArray 0) :: news) → (∀ p ∈ news, p.1 < D) → IntsAre ws ms' → ws.length ≤ 5 → Q (.ref D) { s with heap := h' })
    (hs : subscripted slice false (.ref l) (.ref s.heap.objs.size) = operate [.ref s.heap.objs.size, .ref l] (getItem (.ref l) (.ref s.heap.objs.size))) (ht : ∀ r, letTemporaryGo value (.ref l) r = pure ()) :
    wpAny (model prog w) A (subscriptTail value slice (.ref l) (.ref s.heap.objs.size)) Q E { s with heap := s.heap.push { cls := .type "slice", data := .fields #[vl, vu, .none] } } :=
  kmk_slice_ints F N (News.isList N hm) pl pu hi' hk rfl (fun D ws h' F' N' l1 i1 _ l2 => h D ws h' F' N' l1 (e ▸ i1) (by have := i1.length; omega)) hs ht (by rw [sizeLine_eq, List.size_toArray]; have := hi'.length; omega)
theorem cutRun {l : Addr} {m : Str → Option Value} {vs : List Value} {th post : List Int} {i : Nat} {a b : Int} {n : Nat} {vl vu : Value} {value slice : PySem.Expr} {Q : Value → Shared → Prop} (F : Fr g L s.heap m) (N : News g L s.heap news) (hm : (l, listOf vs.toArray n) ∈ news) (pl : IsPart vl (some (i : Int))) (pu : IsPart vu (some ((i : Int) + 2))) (hi' : IntsAre vs th) (hdr : th.drop i = a :: b :: post) (hz : th.length ≤ 5)
    (h : ∀ D ws h', Fr g L h' m → News g L h' ((D, listOf ws.toArray 0) :: news) → (∀ p ∈ news, p.1 < D) → IntsAre ws [a, b] → ws.length ≤ 5 → Q (.ref D) { s with heap := h' })
    (hs : subscripted slice false (.ref l) (.ref s.heap.objs.size) = operate [.ref s.heap.objs.size, .ref l] (getItem (.ref l) (.ref s.heap.objs.size))) (ht : ∀ r, letTemporaryGo value (.ref l) r = pure ()) :
    wpAny (model prog w) A (subscriptTail value slice (.ref l) (.ref s.heap.objs.size)) Q E { s with heap := s.heap.push { cls := .type "slice", data := .fields #[vl, vu, .none] } } :=
  cutI F N hm pl pu hi' (kmk_run hi' (by omega) (by omega)) (ex_cut hdr) hz h hs ht
theorem cutTo {l : Addr} {m : Str → Option Value} {vs : List Value} {th : List Int} {i : Nat} {n : Nat} {vl vu : Value} {value slice : PySem.Expr} {Q : Value → Shared → Prop} (F : Fr g L s.heap m) (N : News g L s.heap news) (hm : (l, listOf vs.toArray n) ∈ news) (pl : IsPart vl none) (pu : IsPart vu (some (i : Int))) (hi' : IntsAre vs th) (hz : th.length ≤ 5)
    (h : ∀ D ws h', Fr g L h' m → News g L h' ((D, listOf ws.toArray 0) :: news) → (∀ p ∈ news, p.1 < D) → IntsAre ws (th.take i) → ws.length ≤ 5 → Q (.ref D) { s with heap := h' })
    (hs : subscripted slice false (.ref l) (.ref s.heap.objs.size) = operate [.ref s.heap.objs.size, .ref l] (getItem (.ref l) (.ref s.heap.objs.size))) (ht : ∀ r, letTemporaryGo value (.ref l) r = pure ()) :
    wpAny (model prog w) A (subscriptTail value slice (.ref l) (.ref s.heap.objs.size)) Q E { s with heap := s.heap.push { cls := .type "slice", data := .fields #[vl, vu, .none] } } :=
  cutI F N hm pl pu hi' (kmk_upto hi' (by omega)) rfl hz h hs ht
theorem cutFrom {l : Addr} {m : Str → Option Value} {vs : List Value} {th post : List Int} {i : Nat} {a b : Int} {n : Nat} {vl vu : Value} {value slice : PySem.Expr} {Q : Value → Shared → Prop} (F : Fr g L s.heap m) (N : News g L s.heap news) (hm : (l, listOf vs.toArray n) ∈ news) (pl : IsPart vl (some ((i : Int) + 2))) (pu : IsPart vu none) (hi' : IntsAre vs th) (hdr : th.drop i = a :: b :: post) (hz : th.length ≤ 5)
    (h : ∀ D ws h', Fr g L h' m → News g L h' ((D, listOf ws.toArray 0) :: news) → (∀ p ∈ news, p.1 < D) → IntsAre ws post → ws.length ≤ 5 → Q (.ref D) { s with heap := h' })
    (hs : subscripted slice false (.ref l) (.ref s.heap.objs.size) = operate [.ref s.heap.objs.size, .ref l] (getItem (.ref l) (.ref s.heap.objs.size))) (ht : ∀ r, letTemporaryGo value (.ref l) r = pure ()) :
    wpAny (model prog w) A (subscriptTail value slice (.ref l) (.ref s.heap.objs.size)) Q E { s with heap := s.heap.push { cls := .type "slice", data := .fields #[vl, vu, .none] } } :=
  cutI F N hm pl pu hi' (kmk_from hi' (by omega)) (ex_end hdr) hz h hs ht
/-- a list of ints turned about -/
theorem revI {l : Addr} {m : Str → Option Value} {vs : List Value} {ns : List Int} {n : Nat} {vk : Value} {value slice : PySem.Expr} {ops : List Value} {Q : Value → Shared → Prop} (F : Fr g L s.heap m) (N : News g L s.heap news) (hm : (l, listOf vs.toArray n) ∈ news) (pk : IsPart vk (some (-1))) (hi' : IntsAre vs ns) (hz : vs.length ≤ 5)
    (h : ∀ D ws h', Fr g L h' m → News g L h' ((D, listOf ws.toArray 0) :: news) → (∀ p ∈ news, p.1 < D) → IntsAre ws ns.reverse → ws.length ≤ 5 → Q (.ref D) { s with heap := h' })
    (hs : subscripted slice false (.ref l) (.ref s.heap.objs.size) = operate ops (getItem (.ref l) (.ref s.heap.objs.size))) (ht : ∀ r, letTemporaryGo value (.ref l) r = pure ()) :
    wpAny (model prog w) A (subscriptTail value slice (.ref l) (.ref s.heap.objs.size)) Q E { s with heap := s.heap.push { cls := .type "slice", data := .fields #[.none, .none, vk] } } :=
  krv_ints F N (News.isList N hm) pk hi' (fun D ws h' F' N' l1 i1 _ => h D ws h' F' N' l1 i1 (by have := i1.length; have := hi'.length; rw [List.length_reverse] at *; omega)) hs ht (by rw [sizeLine_eq, List.size_toArray]; omega)
/-- two ints that stand in their order, sorted -/
theorem sortI {l : Addr} {m : Str → Option Value} {vs : List Value} {a b : Int} {n : Nat} {Q : Value → Shared → Prop} (F : Fr g L s.heap m) (N : News g L s.heap news) (hm : (l, listOf vs.toArray n) ∈ news) (hi' : IntsAre vs [a, b]) (hab : a ≤ b)
    (h : ∀ D ws c h', Fr g L h' m → News g L h' ((D, listOf ws.toArray c) :: news) → (∀ p ∈ news, p.1 < D) → IntsAre ws [a, b] → Q (.ref D) { s with heap := h' }) :
    wpAny (model prog w) A (call (.builtin "sorted") [.ref l]) Q E s :=
  kso_sorted F N (News.isList N hm) hi' (Nat.lt_of_sub_eq_succ rfl) fun D vs' ns' c h' F' N' l1 i1 _ p o _ => h D vs' c h' F' N' l1 (ex_sorted p o hab ▸ i1)
/-- two lists of the same ints are not unlike -/
theorem neInts {l b : Addr} {vs ws : List Value} {ns : List Int} {n n' : Nat} {Q : Value → Shared → Prop} (N : News g L s.heap news) (h1 : (l, listOf vs.toArray n) ∈ news) (h2 : (b, listOf ws.toArray n') ∈ news) (hv : IntsAre vs ns) (hw : IntsAre ws ns) (hu : A.units < cLine)
    (h : Q (.bool false) s) : wpAny (model prog w) A (compareOp .NotEq (.ref l) (.ref b)) Q E s := by
  have e1 := hv.length
  have e2 := hw.length
  have := RcNeAt.lists (A := A) (s := s) (e := fun _ => true) (News.isList N h1) (News.isList N h2) (by simp only [List.size_toArray]; omega) hu (fun j k1 k2 => by
    simp only [List.getElem_toArray]
    exact ints_eqAt hv hw j (by simpa using k1) (by simpa using k2))
  refine this prog w E Q ?_
  rw [show (!(List.range vs.toArray.size).all fun _ => true) = false by simp]
  exact h
end
theorem ex_turn {th post : List Int} {i : Nat} {a b : Int} : th.take i ++ [a, b].reverse ++ post = th.take i ++ b :: a :: post := List.append_assoc ..
end Mine
namespace Mine
theorem set_le {high i : Nat} {rows : List Nat} (h : ∀ k, rows.getD k 0 ≤ high - k) (hi : rows.getD i 0 < high - i) : ∀ k, (rows.set i (rows.getD i 0 + 1)).getD k 0 ≤ high - k := by
  intro k
  rw [List.getD, List.getElem?_set]
  by_cases e : i = k
  · subst e
    rw [if_pos rfl]
    by_cases q : i < rows.length
    · rw [if_pos q]; exact hi
    · rw [if_neg q]; exact Nat.zero_le _
  · rw [if_neg e]; exact h k
end Mine
namespace Mine
/-- a row in which a number takes the place of the least greater one (Edelman and Greene) -/
noncomputable def stepRow (n : Int) (r : List Int) : List Int :=
  if minL (r.filter fun x => decide (n < x)) > n + 1 ∨ n ∉ r then r.set (r.idxOf (minL (r.filter fun x => decide (n < x)))) n else r
noncomputable def ins2 : Int → List (List Int) → Nat → List (List Int) × (Nat × Nat)
  | n, [], i => ([[n]], (i, 0))
  | n, r :: rs, i =>
    if n < r.getLastD 0 then
      let q := ins2 (minL (r.filter fun x => decide (n < x))) rs (i + 1)
      (stepRow n r :: q.1, q.2)
    else ((r ++ [n]) :: rs, (i, r.length))
noncomputable def cellsOf2 : List Int → List (List Int) → List (Nat × Nat)
  | [], _ => []
  | n :: r, rows => (ins2 n rows 0).2 :: cellsOf2 r (ins2 n rows 0).1
theorem ins2_turn {num : Int} {pre post : List RowO} {r r' : RowO} {T : List (List Int) × (Nat × Nat)} (hT : ((intsOf (pre ++ r :: post)).take pre.length ++ (ins2 num ((intsOf (pre ++ r :: post)).drop pre.length) pre.length).1, (ins2 num ((intsOf (pre ++ r :: post)).drop pre.length) pre.length).2) = T)
    (h : num < r.ns.getLastD 0) (e : r'.ns = stepRow num r.ns) :
    ((intsOf (pre ++ r' :: post)).take (pre.length + 1) ++ (ins2 (minL (r.ns.filter fun x => decide (num < x))) ((intsOf (pre ++ r' :: post)).drop (pre.length + 1)) (pre.length + 1)).1, (ins2 (minL (r.ns.filter fun x => decide (num < x))) ((intsOf (pre ++ r' :: post)).drop (pre.length + 1)) (pre.length + 1)).2) = T := by
  rw [← hT]
  have hp : (intsOf pre).length = pre.length := List.length_map ..
  have d1 : (intsOf (pre ++ r :: post)).drop pre.length = r.ns :: intsOf post := by
    rw [intsOf, List.map_append, ← hp, List.drop_left' rfl]; rfl
  have t1 : (intsOf (pre ++ r :: post)).take pre.length = intsOf pre := by
    rw [intsOf, List.map_append, ← hp, List.take_left' rfl]
  have e2 : intsOf (pre ++ r' :: post) = (intsOf pre ++ [r'.ns]) ++ intsOf post := by simp [intsOf]
  have hp2 : (intsOf pre ++ [r'.ns]).length = pre.length + 1 := by rw [List.length_append, hp]; rfl
  rw [d1, t1, e2, ← hp2, List.drop_left' rfl, List.take_left' rfl, ins2, if_pos h, hp2, ← e]
  simp
theorem ins2_end {num : Int} {pre post : List RowO} {r r' : RowO} {T : List (List Int) × (Nat × Nat)} (hT : ((intsOf (pre ++ r :: post)).take pre.length ++ (ins2 num ((intsOf (pre ++ r :: post)).drop pre.length) pre.length).1, (ins2 num ((intsOf (pre ++ r :: post)).drop pre.length) pre.length).2) = T)
    (h : ¬ num < r.ns.getLastD 0) (e : r'.ns = r.ns ++ [num]) : (intsOf (pre ++ r' :: post), (pre.length, r.ns.length)) = T := by
  rw [← hT]
  have hp : (intsOf pre).length = pre.length := List.length_map ..
  have d1 : (intsOf (pre ++ r :: post)).drop pre.length = r.ns :: intsOf post := by
    rw [intsOf, List.map_append, ← hp, List.drop_left' rfl]; rfl
  have t1 : (intsOf (pre ++ r :: post)).take pre.length = intsOf pre := by
    rw [intsOf, List.map_append, ← hp, List.take_left' rfl]
  rw [d1, t1, ins2, if_neg h, ← e]
  simp [intsOf]
theorem ce2_next {ns : List Int} {cls : List CellO} {rows : List RowO} {t : Nat} {T : List (List Int) × (Nat × Nat)} (hc : pairsOf cls ++ cellsOf2 (ns.drop t) (intsOf rows) = cellsOf2 ns []) (ht : t < ns.length) (hT : ins2 (ns.getD t 0) (intsOf rows) 0 = T) {c : CellO} (hcT : (c.i, c.j) = T.2) :
    pairsOf (cls ++ [c]) ++ cellsOf2 (ns.drop (t + 1)) T.1 = cellsOf2 ns [] := by
  rw [← hc, List.drop_eq_getElem_cons ht, cellsOf2, ← getD_in ht, hT, pairsOf, List.map_append, List.append_assoc]
  simp [hcT]
end Mine
namespace Mine
end Mine
namespace Mine
section
variable {num y : Int} {rn : List Int} {us : List Value}
theorem step_1 (hy : y = minL (rn.filter fun x => decide (num < x))) (a : num + 1 < y) (h : IntsAre us (rn.set ((rn.idxOf y : Nat) : Int).toNat num)) : IntsAre us (stepRow num rn) := by
  rw [stepRow, ← hy, if_pos (Or.inl a)]; exact h
theorem step_3 (hy : y = minL (rn.filter fun x => decide (num < x))) (b : (rn.any fun x => x == num) = false) (h : IntsAre us (rn.set ((rn.idxOf y : Nat) : Int).toNat num)) : IntsAre us (stepRow num rn) := by
  rw [stepRow, ← hy, if_pos (Or.inr fun q => by simpa using List.any_eq_false.mp b num q)]; exact h
theorem step_2 (hy : y = minL (rn.filter fun x => decide (num < x))) (a : ¬ num + 1 < y) (b : (rn.any fun x => x == num) = true) (h : IntsAre us rn) : IntsAre us (stepRow num rn) := by
  obtain ⟨x, hx, e⟩ := List.any_eq_true.mp b
  have e : x = num := by simpa using e
  subst e
  rw [stepRow, ← hy, if_neg (fun q => q.elim a fun k => k hx)]; exact h
theorem step_len : (stepRow num rn).length = rn.length := by
  rw [stepRow]; split
  · rw [List.length_set]
  · rfl
end
end Mine
open PySem PySem.W PySem.Calls PyProof.Rows PySem.SeqAt
set_option maxRecDepth 100000
namespace Mine
theorem dlt {dp a b r : Nat} (h : dp + b < r) (e : 1 + a ≤ b) : dp + 1 + a < r := by omega
theorem dlt0 {dp b r : Nat} (h : dp + b < r) : dp < r := Nat.lt_of_le_of_lt (Nat.le_add_right dp b) h
theorem dlt1 {dp a b r : Nat} (h : dp + b < r) (e : a ≤ b) : dp + a < r := Nat.lt_of_le_of_lt (Nat.add_le_add_left e dp) h
section
variable {prog : Program} {w : World} {A : Around} {E : Value → Shared → Prop} {s : Shared} {g : Heap} {L : Addr} {m : Str → Option Value} {news : List (Addr × Obj)}
/-- a text's place in a list of texts -/
theorem indexS {l : Addr} {vs : List Value} {us : List Str} {u : Str} {t : Tok} {n : Nat} {Q : Value → Shared → Prop} (N : News g L s.heap news) (hm : (l, listOf vs.toArray n) ∈ news) (hv : StrsAre vs us) (hin : u ∈ us) (hz : us.length ≤ 1000000)
    (h : ∀ t tk, Q (.int (us.idxOf u : Nat) t) { s with toks := tk }) : wpAny (model prog w) A (call (.builtin "list.index") [.ref l, .str u t]) Q E s := by
  have ho := (N _ hm).1
  have hlen := hv.len_eq
  have hj : us.idxOf u < us.length := List.idxOf_lt_length_iff.mpr hin
  have key : ∀ k (hk : k < vs.length), ∃ t', vs[k] = .str (us[k]'(by omega)) t' := fun k hk => by
    obtain ⟨y, t', e1, e2⟩ := hv.item k vs[k] (List.getElem?_eq_getElem hk)
    rw [List.getElem?_eq_getElem (by omega)] at e2
    exact ⟨t', by rw [e1, Option.some.inj e2]⟩
  refine call_meets PySem.F.slot_list_index ⟨_, ho, rfl⟩ PySem.F.entry_list_index (PySem.F.args_list_index_2 _ _)
    (list_indexAt l vs.toArray n none #[] (.str u t) (fun v => match v with | .str x _ => x == u | _ => false) (us.idxOf u) (by simp only [List.size_toArray]; omega) (by omega) ?_ ?_) ⟨ho, fun y hy => ?_, h _ _⟩
  · obtain ⟨t', e⟩ := key (us.idxOf u) (by omega)
    simp only [List.getElem_toArray, e]
    rw [List.getElem_idxOf hj]
    exact beq_self_eq_true u
  · intro k hk hlt
    obtain ⟨t', e⟩ := key k (by simpa using hk)
    simp only [List.getElem_toArray, e]
    have := List.not_of_lt_findIdx (p := fun x => x == u) (xs := us) (i := k) hlt
    simpa using this
  · obtain ⟨k, hk, rfl⟩ := List.mem_iff_getElem.mp (by simpa using hy : y ∈ vs)
    obtain ⟨t', e⟩ := key k hk
    rw [e]
    exact EqAt.str_str _ _ _ _
/-- two lists of the same pairs are not unlike -/
theorem neCells {l b : Addr} {c1 c2 : List CellO} {n n' : Nat} {Q : Value → Shared → Prop} (N : News g L s.heap news) (h1 : (l, listOf (cellRefs c1).toArray n) ∈ news) (h2 : (b, listOf (cellRefs c2).toArray n') ∈ news) (k1 : ∀ p ∈ cellsLed c1, p ∈ news) (k2 : ∀ p ∈ cellsLed c2, p ∈ news) (e : pairsOf c1 = pairsOf c2) (hu : A.units + 1 < cLine)
    (h : Q (.bool false) s) : wpAny (model prog w) A (compareOp .NotEq (.ref l) (.ref b)) Q E s := by
  have hl : c1.length = c2.length := by have := congrArg List.length e; rwa [List.length_map, List.length_map] at this
  have := RcNeAt.lists (A := A) (s := s) (e := fun _ => true) (News.isList N h1) (News.isList N h2) (by simp only [List.size_toArray, List.length_map]; omega) (by omega) (fun j q1 q2 => by
    have z1 : j < c1.length := by simpa using q1
    have z2 : j < c2.length := by simpa using q2
    have e3 : (pairsOf c1)[j]'(by simpa using z1) = (pairsOf c2)[j]'(by simpa using z2) := by simp only [e]
    rw [List.getElem_map, List.getElem_map] at e3
    simp only [List.getElem_toArray, List.getElem_map]
    have := pair_eqAt (A := A.in1) (N _ (k1 _ (List.mem_map_of_mem (f := CellO.led) (List.getElem_mem z1)))).1 (N _ (k2 _ (List.mem_map_of_mem (f := CellO.led) (List.getElem_mem z2)))).1 hu
    rwa [decide_eq_true e3] at this)
  refine this prog w E Q ?_
  rw [show (!(List.range (cellRefs c1).toArray.size).all fun _ => true) = false by simp]
  exact h
/-- a pair's first -/
theorem item0 {c : CellO} {t : Tok} {value slice : PySem.Expr} {Q : Value → Shared → Prop} (N : News g L s.heap news) (hm : c.led ∈ news) (h : Q (.int c.i c.ti) s)
    (hs : subscripted slice false (.ref c.a) (.int 0 t) = operate [.ref c.a, .int 0 t] (getItem (.ref c.a) (.int 0 t)) := by with_unfolding_all rfl) :
    wpAny (model prog w) A (subscriptTail value slice (.ref c.a) (.int 0 t)) Q E s :=
  item_tupleT (l := [.int c.i c.ti, .int c.j c.tj]) ⟨_, (N _ hm).1, rfl, _, rfl⟩ (by decide) (by decide) rfl rfl h hs
theorem ints_of : ∀ {vs : List Value} {ns : List Int}, vs.length = ns.length → (∀ (j : Nat) (v : Value), vs[j]? = some v → ∃ t, v = .int (ns.getD j 0) t) → IntsAre vs ns
  | [], [], _, _ => .nil
  | v :: r, n :: ns, e, h => by
    obtain ⟨t, rfl⟩ := h 0 v rfl
    exact .cons _ _ (ints_of (Nat.succ.inj e) fun j v hv => h (j + 1) v hv)
theorem down_at {a j : Nat} (h : j < a + 1) : (rangeKs 0 (a + 1)).reverse.getD j 0 = (a : Int) + j * (-1) := by
  rw [List.getD, List.getElem?_reverse (by rw [rangeKs_length]; exact h), rangeKs_length]
  have := kll_at (a := 0) (n := a + 1) (i := a + 1 - 1 - j) (by omega)
  rw [List.getD] at this
  rw [this]; omega
/-- a falling range's list -/
theorem listDown {r : Addr} {a : Nat} {t u v : Tok} {Q : Value → Shared → Prop} (hh : A.handled = none) (F : Fr g L s.heap m) (N : News g L s.heap news) (hr : IsRange s.heap r (a : Int) (-1) (-1) t u v) (ha : a ≤ 100)
    (h : ∀ D us c h' tk, Fr g L h' m → News g L h' ((D, listOf (List.toArray us) c) :: news) → IntsAre us (rangeKs 0 (a + 1)).reverse → Q (.ref D) { s with heap := h', toks := tk }) :
    wpAny (model prog w) A (call (.type "list") [.ref r]) Q E s := by
  refine call_list_range hh hr (small_down (by omega) (by omega) (by omega) (by omega)) (rangeSize_downNat (a : Int) (-1)) (by omega) fun h' tk acc c hk hD hI => ?_
  have hD' : h'.get? s.heap.objs.size = some (listOf (List.toArray acc.toList) c) := by
    rw [Array.toArray_toList]
    exact hD
  have hlen : acc.toList.length = a + 1 := by rw [Array.length_toList, hI.1]; omega
  refine h _ acc.toList c h' tk (F.keeps hk) (news_pushed F N hk hD' rfl) (ints_of (by rw [List.length_reverse, rangeKs_length]; exact hlen) fun j v hv => ?_)
  have hj : j < acc.toList.length := (List.getElem?_eq_some_iff.mp hv).1
  rw [down_at (by omega)]
  exact hI.2 j v (by rw [← hv, Array.getElem?_toList])
end
end Mine
namespace Mine
/-- quick twins, for the kernel's count of all fillings -/
noncomputable def memB (n : Nat) (l : List Nat) : Bool := @List.rec Nat (fun _ => Bool) false (fun a _ ih => @Bool.rec (fun _ => Bool) ih true (Nat.beq a n)) l
noncomputable def pick2 (n : Nat) (r s : List Nat) (b : Nat) : List Nat := @Bool.rec (fun _ => List Nat) (@Bool.rec (fun _ => List Nat) s r (memB n r)) s (Nat.blt (Nat.succ n) b)
noncomputable def insB2 (n : Nat) (T : Tab) (i : Nat) : Tab × (Nat × Nat) :=
  @List.rec (List Nat) (fun _ => Nat → Nat → Tab × (Nat × Nat)) (fun n i => ([[n]], (i, 0))) (fun r rs ih n i => @Option.rec (List Nat × Nat) (fun _ => Tab × (Nat × Nat)) ((r ++ [n]) :: rs, (i, r.length)) (fun p => @Prod.rec (List Nat) Nat (fun _ => Tab × (Nat × Nat)) (fun s b => @Prod.rec Tab (Nat × Nat) (fun _ => Tab × (Nat × Nat)) (fun q c => (pick2 n r s b :: q, c)) (ih b (Nat.succ i))) p) (bmp n r)) T n i
noncomputable def celB2 (w : List Nat) (T : Tab) : List (Nat × Nat) := @List.rec Nat (fun _ => Tab → List (Nat × Nat)) (fun _ => []) (fun x _ ih T => @Prod.rec Tab (Nat × Nat) (fun _ => List (Nat × Nat)) (fun q c => c :: ih q) (insB2 x T 0)) w T
noncomputable def rndR (h : Nat × Nat) (l : List (Nat × Nat)) : (Nat × Nat) × List (Nat × Nat) :=
  @List.rec (Nat × Nat) (fun _ => Nat × Nat → (Nat × Nat) × List (Nat × Nat)) (fun h => (h, [])) (fun c _ ih h => @Bool.rec (fun _ => (Nat × Nat) × List (Nat × Nat)) (@Prod.rec (Nat × Nat) (List (Nat × Nat)) (fun _ => (Nat × Nat) × List (Nat × Nat)) (fun a b => (a, c :: b)) (ih h)) (@Prod.rec (Nat × Nat) (List (Nat × Nat)) (fun _ => (Nat × Nat) × List (Nat × Nat)) (fun a b => (a, h :: b)) (ih c)) (nw h c)) l h
noncomputable def endsR (n : Nat) (l : List (Nat × Nat)) : List (Nat × Nat) × List (Nat × Nat) :=
  @Nat.rec (fun _ => List (Nat × Nat) → List (Nat × Nat) × List (Nat × Nat)) (fun l => ([], l)) (fun _ ih l => @List.rec (Nat × Nat) (fun _ => List (Nat × Nat) × List (Nat × Nat)) ([], []) (fun c r _ => @Prod.rec (Nat × Nat) (List (Nat × Nat)) (fun _ => List (Nat × Nat) × List (Nat × Nat)) (fun a b => @Prod.rec (List (Nat × Nat)) (List (Nat × Nat)) (fun _ => List (Nat × Nat) × List (Nat × Nat)) (fun x y => (a :: x, y)) (ih (b ++ [a]))) (rndR c r)) l) n l
noncomputable def swapB (i : Nat) (th : List Nat) : Option (List Nat) :=
  @Nat.rec (fun _ => List Nat → Option (List Nat)) (fun th => @List.rec Nat (fun _ => Option (List Nat)) none (fun a t _ => @List.rec Nat (fun _ => Option (List Nat)) none (fun b post _ => @Bool.rec (fun _ => Option (List Nat)) none (some (b :: a :: post)) (Nat.ble a b)) t) th) (fun _ ih th => @List.rec Nat (fun _ => Option (List Nat)) none (fun a t _ => @Option.rec (List Nat) (fun _ => Option (List Nat)) none (fun t' => some (a :: t')) (ih t)) th) i th
noncomputable def exB (rows th : List Nat) : Option (List Nat) :=
  @List.rec Nat (fun _ => List Nat → Option (List Nat)) (fun th => some th) (fun i _ ih th => @Option.rec (List Nat) (fun _ => Option (List Nat)) none (fun t => ih t) (swapB i th)) rows th
noncomputable def fstL (l : List (Nat × Nat)) : List Nat := @List.rec (Nat × Nat) (fun _ => List Nat) [] (fun c _ ih => c.1 :: ih) l
noncomputable def swpL (l : List (Nat × Nat)) : List (Nat × Nat) := @List.rec (Nat × Nat) (fun _ => List (Nat × Nat)) [] (fun c _ ih => (c.2, c.1) :: ih) l
noncomputable def eqCs (r s : List (Nat × Nat)) : Bool :=
  @List.rec (Nat × Nat) (fun _ => List (Nat × Nat) → Bool) (fun s => @List.rec (Nat × Nat) (fun _ => Bool) true (fun _ _ _ => false) s) (fun a _ ih s => @List.rec (Nat × Nat) (fun _ => Bool) false (fun b s _ => @Bool.rec (fun _ => Bool) false (ih s) (eqC a b)) s) r s
noncomputable def memC (c : Nat × Nat) (l : List (Nat × Nat)) : Bool := @List.rec (Nat × Nat) (fun _ => Bool) false (fun a _ ih => @Bool.rec (fun _ => Bool) ih true (eqC a c)) l
noncomputable def allIn (l cs : List (Nat × Nat)) : Bool := @List.rec (Nat × Nat) (fun _ => Bool) true (fun a _ ih => andB (memC a cs) ih) l
noncomputable def nodC (l : List (Nat × Nat)) : Bool := @List.rec (Nat × Nat) (fun _ => Bool) true (fun a r ih => andB (@Bool.rec (fun _ => Bool) true false (memC a r)) ih) l
noncomputable def bdC (l : List (Nat × Nat)) : Bool := @List.rec (Nat × Nat) (fun _ => Bool) true (fun c _ ih => andB (andB (Nat.ble c.1 7) (Nat.ble c.2 7)) ih) l
noncomputable def okO (o : Option (List Nat)) (l : List Nat) : Bool := @Option.rec (List Nat) (fun _ => Bool) false (fun t => eqL t l) o
noncomputable def chkF (high n : Nat) (cs : List (Nat × Nat)) : Bool :=
  @Prod.rec (List (Nat × Nat)) (List (Nat × Nat)) (fun _ => Bool) (fun e1 e2 => andB (eqCs (celB2 (fstL e1) []) cs) (andB (eqCs e2 (swpL cs)) (andB (okO (exB (fstL e1) (List.range (Nat.succ high))) (List.range (Nat.succ high)).reverse) (andB (allIn e1 cs) (andB (allIn (swpL cs) cs) (andB (nodC cs) (bdC cs))))))) (endsR n cs)
noncomputable def treeF (high n k : Nat) (rows : List Nat) (acc : List (Nat × Nat)) : Bool :=
  @Nat.rec (fun _ => List Nat → List (Nat × Nat) → Bool) (fun _ acc => chkF high n acc) (fun _ ih rows acc => @List.rec Nat (fun _ => Bool) false (fun i0 l0 _ => @List.rec Nat (fun _ => Bool) true (fun i _ more => andB (ih (rows.set i (Nat.succ (rows.getD i 0))) (acc ++ [(i, rows.getD i 0)])) more) (i0 :: l0)) (freeP high rows)) k rows acc
theorem tree3 : treeF 3 6 6 [0, 0, 0] [] = true := by decide +kernel
theorem tree4 : treeF 4 10 10 [0, 0, 0, 0] [] = true := by decide +kernel
end Mine
namespace Mine
theorem tree_cons {high n k i0 : Nat} {rows l0 : List Nat} {acc : List (Nat × Nat)} (e : freeP high rows = i0 :: l0) (h : treeF high n (k + 1) rows acc = true) : ∀ i ∈ freeP high rows, treeF high n k (rows.set i (rows.getD i 0 + 1)) (acc ++ [(i, rows.getD i 0)]) = true := by
  have h' : @List.rec Nat (fun _ => Bool) false (fun i0 l0 _ => @List.rec Nat (fun _ => Bool) true (fun i _ more => andB (treeF high n k (rows.set i (Nat.succ (rows.getD i 0))) (acc ++ [(i, rows.getD i 0)])) more) (i0 :: l0)) (freeP high rows) = true := h
  rw [e] at h' ⊢
  have key : ∀ l : List Nat, @List.rec Nat (fun _ => Bool) true (fun i _ more => andB (treeF high n k (rows.set i (Nat.succ (rows.getD i 0))) (acc ++ [(i, rows.getD i 0)])) more) l = true → ∀ i ∈ l, treeF high n k (rows.set i (rows.getD i 0 + 1)) (acc ++ [(i, rows.getD i 0)]) = true := by
    intro l
    induction l with
    | nil => intro _ i hi; cases hi
    | cons a l ih =>
      intro q i hi
      obtain ⟨q1, q2⟩ := andB_iff.mp q
      rcases List.mem_cons.mp hi with rfl | hi
      · exact q1
      · exact ih q2 i hi
  exact key (i0 :: l0) h'
theorem tree_chk {high n : Nat} : ∀ (fs : List Int) (rows : List Nat) (acc : List (Nat × Nat)), treeF high n fs.length rows acc = true → chkF high n (acc ++ orderP high fs rows) = true
  | [], _, acc, h => by rw [orderP, List.append_nil]; exact h
  | f :: r, rows, acc, h => by
    cases e : freeP high rows with
    | nil =>
      have h' : @List.rec Nat (fun _ => Bool) false (fun i0 l0 _ => @List.rec Nat (fun _ => Bool) true (fun i _ more => andB (treeF high n r.length (rows.set i (Nat.succ (rows.getD i 0))) (acc ++ [(i, rows.getD i 0)])) more) (i0 :: l0)) (freeP high rows) = true := h
      rw [e] at h'; cases h'
    | cons i0 l0 =>
      have hp : (0 : Int) < (freeP high rows).length := by rw [e, List.length_cons]; omega
      have h1 := Int.fmod_nonneg_of_pos f hp
      have h2 := Int.fmod_lt_of_pos f hp
      have hq : (f.fmod (freeP high rows).length).toNat < (freeP high rows).length := by omega
      have hm : (freeP high rows).getD (f.fmod (freeP high rows).length).toNat 0 ∈ freeP high rows := by
        rw [List.getD, List.getElem?_eq_getElem hq]; exact List.getElem_mem _
      have := tree_chk r _ _ (tree_cons e h _ hm)
      rw [List.append_assoc] at this
      exact this
theorem eqCs_eq : ∀ {r s : List (Nat × Nat)}, eqCs r s = true → r = s
  | [], [], _ => rfl
  | [], _ :: _, h => by cases h
  | _ :: _, [], h => by cases h
  | a :: r, b :: s, h => by
    have h' : @Bool.rec (fun _ => Bool) false (eqCs r s) (eqC a b) = true := h
    cases q : eqC a b with
    | false => rw [q] at h'; cases h'
    | true => rw [q] at h'; rw [eqC_eq q, eqCs_eq h']
theorem memC_mem {c : Nat × Nat} : ∀ {l : List (Nat × Nat)}, memC c l = true → c ∈ l
  | [], h => by cases h
  | a :: l, h => by
    have h' : @Bool.rec (fun _ => Bool) (memC c l) true (eqC a c) = true := h
    cases q : eqC a c with
    | false => rw [q] at h'; exact .tail _ (memC_mem h')
    | true => rw [eqC_eq q]; exact .head _
theorem memC_not {c : Nat × Nat} : ∀ {l : List (Nat × Nat)}, memC c l = false → c ∉ l
  | [], _, h => nomatch h
  | a :: l, h, hm => by
    have h' : @Bool.rec (fun _ => Bool) (memC c l) true (eqC a c) = false := h
    cases q : eqC a c with
    | true => rw [q] at h'; cases h'
    | false =>
      rw [q] at h'
      rcases List.mem_cons.mp hm with rfl | hm
      · have : eqC c c = true := by
          show andB (Nat.beq c.1 c.1) (Nat.beq c.2 c.2) = true
          exact andB_iff.mpr ⟨Nat.beq_refl _, Nat.beq_refl _⟩
        rw [this] at q; cases q
      · exact memC_not h' hm
theorem allIn_mem {cs : List (Nat × Nat)} : ∀ {l : List (Nat × Nat)}, allIn l cs = true → ∀ c ∈ l, c ∈ cs
  | [], _, _, hc => nomatch hc
  | a :: l, h, c, hc => by
    obtain ⟨h1, h2⟩ := andB_iff.mp h
    rcases List.mem_cons.mp hc with rfl | hc
    · exact memC_mem h1
    · exact allIn_mem h2 c hc
theorem nodC_nodup : ∀ {l : List (Nat × Nat)}, nodC l = true → l.Nodup
  | [], _ => List.nodup_nil
  | a :: l, h => by
    obtain ⟨h1, h2⟩ := andB_iff.mp h
    refine List.nodup_cons.mpr ⟨?_, nodC_nodup h2⟩
    cases q : memC a l with
    | true => rw [q] at h1; cases h1
    | false => exact memC_not q
theorem fstL_eq : ∀ l : List (Nat × Nat), fstL l = l.map (·.1)
  | [] => rfl
  | _ :: l => congrArg (_ :: ·) (fstL_eq l)
theorem swpL_eq : ∀ l : List (Nat × Nat), swpL l = l.map fun c => (c.2, c.1)
  | [] => rfl
  | _ :: l => congrArg (_ :: ·) (swpL_eq l)
theorem memB_iff {n : Nat} : ∀ {l : List Nat}, memB n l = true ↔ n ∈ l
  | [] => ⟨nofun, nofun⟩
  | a :: l => by
    have e : memB n (a :: l) = @Bool.rec (fun _ => Bool) (memB n l) true (Nat.beq a n) := rfl
    rw [e, List.mem_cons]
    by_cases q : n = a
    · subst q; rw [Nat.beq_refl]; exact ⟨fun _ => .inl rfl, fun _ => rfl⟩
    · rw [show Nat.beq a n = false by rw [← Bool.not_eq_true, Nat.beq_eq]; exact fun k => q k.symm]
      exact memB_iff.trans ⟨.inr, fun k => k.resolve_left q⟩
theorem up_mem {n : Nat} {r : List Nat} : (n : Int) ∈ up r ↔ n ∈ r := by
  refine ⟨fun h => ?_, fun h => List.mem_map_of_mem (f := fun (v : Nat) => (v : Int)) h⟩
  obtain ⟨v, hv, e⟩ := List.mem_map.mp h
  rwa [← show v = n from Int.ofNat.inj e]
theorem pick2_eq {n b : Nat} {r s : List Nat} : pick2 n r s b = if n + 1 < b ∨ n ∉ r then s else r := by
  unfold pick2
  by_cases q : n + 1 < b
  · rw [show Nat.blt (Nat.succ n) b = true by rw [Nat.blt_eq]; exact q, if_pos (.inl q)]
  · rw [show Nat.blt (Nat.succ n) b = false by rw [← Bool.not_eq_true, Nat.blt_eq]; exact q]
    cases k : memB n r with
    | true => rw [if_neg (fun z => z.elim q fun z => z (memB_iff.mp k))]
    | false => rw [if_pos (.inr fun z => by rw [memB_iff.mpr z] at k; cases k)]
theorem ins2_int : ∀ (T : Tab) (n i : Nat), SorT T → ins2 (n : Int) (upT T) i = (upT (insB2 n T i).1, (insB2 n T i).2) ∧ SorT (insB2 n T i).1
  | [], n, i, _ => ⟨rfl, fun r hr => by cases List.mem_singleton.mp hr; exact List.pairwise_singleton ..⟩
  | r :: rs, n, i, h => by
    have hr := h r (.head _)
    have hrs : SorT rs := fun x hx => h x (.tail _ hx)
    have hi := bmp_int (n := n) hr
    show ins2 (n : Int) (up r :: upT rs) i = _ ∧ _
    cases k : bmp n r with
    | none =>
      have e : insB2 n (r :: rs) i = ((r ++ [n]) :: rs, (i, r.length)) := by
        show @Option.rec (List Nat × Nat) (fun _ => Tab × (Nat × Nat)) _ _ (bmp n r) = _
        rw [k]
      rw [e]
      unfold ins2
      rw [if_neg (hi.1 k)]
      refine ⟨by simp [up], fun x hx => ?_⟩
      rcases List.mem_cons.mp hx with rfl | hx
      · refine List.pairwise_append.mpr ⟨hr, List.pairwise_singleton .., fun a ha b hb => ?_⟩
        cases List.mem_singleton.mp hb
        exact bmp_none_le k a ha
      · exact hrs x hx
    | some p =>
      obtain ⟨s, b⟩ := p
      obtain ⟨i1, i2, i3⟩ := hi.2 _ _ k
      obtain ⟨j1, j2⟩ := ins2_int rs b (i + 1) hrs
      have e : insB2 n (r :: rs) i = (pick2 n r s b :: (insB2 b rs (i + 1)).1, (insB2 b rs (i + 1)).2) := by
        show @Option.rec (List Nat × Nat) (fun _ => Tab × (Nat × Nat)) _ (fun p => @Prod.rec (List Nat) Nat (fun _ => Tab × (Nat × Nat)) (fun s b => @Prod.rec Tab (Nat × Nat) (fun _ => Tab × (Nat × Nat)) (fun q c => (pick2 n r s b :: q, c)) (insB2 b rs (Nat.succ i))) p) (bmp n r) = _
        rw [k]
      rw [e]
      unfold ins2
      rw [if_pos i1]
      dsimp only
      have e2 : stepRow (n : Int) (up r) = up (pick2 n r s b) := by
        unfold stepRow
        rw [i2, i3, pick2_eq]
        by_cases q : n + 1 < b ∨ n ∉ r
        · rw [if_pos q, if_pos (q.imp (fun z => by omega) (fun z z2 => z (up_mem.mp z2)))]
        · rw [if_neg q, if_neg (fun z => q (z.imp (fun z => by omega) (fun z z2 => z (up_mem.mpr z2))))]
      rw [e2, i2, j1]
      refine ⟨rfl, fun x hx => ?_⟩
      rcases List.mem_cons.mp hx with rfl | hx
      · rw [pick2_eq]; split
        · exact bmp_sor hr k
        · exact hr
      · exact j2 x hx
theorem cells2_int : ∀ (w : List Nat) (T : Tab), SorT T → cellsOf2 (up w) (upT T) = celB2 w T
  | [], _, _ => rfl
  | x :: w, T, h => by
    obtain ⟨a, b⟩ := ins2_int T x 0 h
    show (ins2 (x : Int) (upT T) 0).2 :: cellsOf2 (up w) (ins2 (x : Int) (upT T) 0).1 = _
    rw [a, cells2_int w _ b]; rfl
theorem swapB_eq : ∀ (i : Nat) (th : List Nat), (swapB i th).map up = (match (up th).drop i with | a :: b :: post => if a ≤ b then some ((up th).take i ++ b :: a :: post) else none | _ => none)
  | 0, [] => rfl
  | 0, [_] => rfl
  | 0, a :: b :: t => by
    show (@Bool.rec (fun _ => Option (List Nat)) none (some (b :: a :: t)) (Nat.ble a b)).map up = if (a : Int) ≤ (b : Int) then _ else _
    by_cases q : a ≤ b
    · rw [show Nat.ble a b = true by rw [Nat.ble_eq]; exact q, if_pos (by omega)]; rfl
    · rw [show Nat.ble a b = false by rw [← Bool.not_eq_true, Nat.ble_eq]; exact q, if_neg (by omega)]; rfl
  | i + 1, [] => rfl
  | i + 1, a :: t => by
    have ih := swapB_eq i t
    show (@Option.rec (List Nat) (fun _ => Option (List Nat)) none (fun t' => some (a :: t')) (swapB i t)).map up = (match (up t).drop i with | x :: y :: post => if x ≤ y then some ((a : Int) :: ((up t).take i ++ y :: x :: post)) else none | _ => none)
    cases k : swapB i t with
    | none =>
      rw [k] at ih
      split
      · next x y post e =>
        rw [e] at ih
        dsimp only at ih
        split
        · next q => rw [if_pos q] at ih; cases ih
        · rfl
      · rfl
    | some s =>
      rw [k] at ih
      split
      · next x y post e =>
        rw [e] at ih
        dsimp only at ih
        split
        · next q => rw [if_pos q] at ih; exact congrArg (fun z => some ((a : Int) :: z)) (Option.some.inj ih)
        · next q => rw [if_neg q] at ih; cases ih
      · next hne =>
        split at ih
        · next x y post e => exact absurd e (hne _ _ _)
        · cases ih
theorem exB_int : ∀ (w th : List Nat), exP w (up th) = (exB w th).map up
  | [], _ => rfl
  | i :: w, th => by
    have h := swapB_eq i th
    show exP (i :: w) (up th) = (@Option.rec (List Nat) (fun _ => Option (List Nat)) none (fun t => exB w t) (swapB i th)).map up
    rw [exP]
    cases k : swapB i th with
    | none =>
      rw [k] at h
      split
      · next a b post e =>
        rw [e] at h
        dsimp only at h
        split
        · next q => rw [if_pos q] at h; cases h
        · rfl
      · rfl
    | some s =>
      rw [k] at h
      split
      · next a b post e =>
        rw [e] at h
        dsimp only at h
        split
        · next q =>
          rw [if_pos q] at h
          have := Option.some.inj h
          rw [← this]
          exact exB_int w s
        · next q => rw [if_neg q] at h; cases h
      · next hne =>
        split at h
        · next x y post e => exact absurd e (hne _ _ _)
        · cases h
theorem rndR_eq : ∀ (l : List (Nat × Nat)) (h : Nat × Nat), rndR h l = rndC h l
  | [], _ => rfl
  | c :: r, h => by
    show @Bool.rec (fun _ => (Nat × Nat) × List (Nat × Nat)) (@Prod.rec (Nat × Nat) (List (Nat × Nat)) (fun _ => (Nat × Nat) × List (Nat × Nat)) (fun a b => (a, c :: b)) (rndR h r)) (@Prod.rec (Nat × Nat) (List (Nat × Nat)) (fun _ => (Nat × Nat) × List (Nat × Nat)) (fun a b => (a, h :: b)) (rndR c r)) (nw h c) = _
    rw [rndC, rndR_eq r h, rndR_eq r c]
    cases nw h c <;> rfl
theorem ends_map {lt : Str → Str → Bool} {f : Nat × Nat → Str} : ∀ (n : Nat) (l : List (Nat × Nat)), l.Nodup → (∀ c ∈ l, ∀ d ∈ l, c ≠ d → lt (f c) (f d) = nw c d) → endsOf lt n (l.map f) = ((endsR n l).1.map f, (endsR n l).2.map f)
  | 0, l, _, _ => by cases l <;> rfl
  | _ + 1, [], _, _ => rfl
  | n + 1, c :: l, hn, hl => by
    have p := rndC_perm l c
    have p2 : ((rndC c l).2 ++ [(rndC c l).1]).Perm (c :: l) := (List.perm_append_singleton _ _).trans p
    have e : endsR (n + 1) (c :: l) = ((rndC c l).1 :: (endsR n ((rndC c l).2 ++ [(rndC c l).1])).1, (endsR n ((rndC c l).2 ++ [(rndC c l).1])).2) := by
      rw [← rndR_eq]; rfl
    have ih := ends_map (lt := lt) (f := f) n _ (p2.nodup_iff.mpr hn) fun a ha b hb => hl a (p2.mem_iff.mp ha) b (p2.mem_iff.mp hb)
    rw [List.map_append] at ih
    rw [e, List.map_cons, endsOf, rnd_map l c hn hl]
    dsimp only
    rw [show [f (rndC c l).1] = [(rndC c l).1].map f from rfl, ih]
    rfl
end Mine
namespace Mine
theorem orderP_len {high : Nat} : ∀ (fs : List Int) (rows : List Nat), (orderP high fs rows).length = fs.length
  | [], _ => rfl
  | _ :: r, _ => congrArg (· + 1) (orderP_len r _)
theorem range_up (k : Nat) : rangeKs 0 ((k : Int) - 0).toNat = up (List.range k) := by
  rw [show ((k : Int) - 0).toNat = k by omega]
  unfold rangeKs up
  refine List.map_congr_left fun i _ => ?_
  show (0 : Int) + (i : Int) = (i : Int)
  omega
theorem endsR_len : ∀ (n : Nat) (l : List (Nat × Nat)), (endsR n l).1.length ≤ n
  | 0, _ => Nat.le_refl _
  | _ + 1, [] => Nat.zero_le _
  | n + 1, c :: l => by
    have e : endsR (n + 1) (c :: l) = ((rndR c l).1 :: (endsR n ((rndR c l).2 ++ [(rndR c l).1])).1, (endsR n ((rndR c l).2 ++ [(rndR c l).1])).2) := rfl
    rw [e]
    exact Nat.succ_le_succ (endsR_len n _)
theorem idx_nodupS {l : List Str} (h : l.Nodup) {k : Nat} (hk : k < l.length) : l.idxOf l[k] = k := by
  have h1 : l.idxOf l[k] < l.length := List.idxOf_lt_length_iff.mpr (List.getElem_mem hk)
  have h2 : l[l.idxOf l[k]] = l[k] := List.getElem_idxOf h1
  exact (List.getElem_inj h).mp h2
theorem order_chk {high n : Nat} (hh : high = 3 ∧ n = 6 ∨ high = 4 ∧ n = 10) {fs : List Int} (hfl : fs.length = n) : chkF high n (orderP high fs (List.replicate high 0)) = true := by
  have : treeF high n fs.length (List.replicate high 0) [] = true := by
    rw [hfl]
    rcases hh with ⟨rfl, rfl⟩ | ⟨rfl, rfl⟩
    · exact tree3
    · exact tree4
  exact tree_chk fs (List.replicate high 0) [] this
theorem bdC_bd : ∀ {l : List (Nat × Nat)}, bdC l = true → ∀ c ∈ l, c.1 ≤ 7 ∧ c.2 ≤ 7
  | [], _, _, hc => nomatch hc
  | a :: l, h, c, hc => by
    obtain ⟨h1, h2⟩ := andB_iff.mp h
    obtain ⟨h3, h4⟩ := andB_iff.mp h1
    rcases List.mem_cons.mp hc with rfl | hc
    · exact ⟨Nat.le_of_ble_eq_true h3, Nat.le_of_ble_eq_true h4⟩
    · exact bdC_bd h2 c hc
theorem order_bd {high n : Nat} (hh : high = 3 ∧ n = 6 ∨ high = 4 ∧ n = 10) {fs : List Int} (hfl : fs.length = n) : ∀ c ∈ orderP high fs (List.replicate high 0), c.1 ≤ 7 ∧ c.2 ≤ 7 :=
  bdC_bd (andB_iff.mp (andB_iff.mp (andB_iff.mp (andB_iff.mp (andB_iff.mp (andB_iff.mp (order_chk hh hfl)).2).2).2).2).2).2
theorem plain02 {high n : Nat} (hh : high = 3 ∧ n = 6 ∨ high = 4 ∧ n = 10) {fs : List Int} (hfl : fs.length = n) {rest : Int} {cs : List (Nat × Nat)} (hcs : cs = orderP high fs (List.replicate high 0)) {pl : Bool} {H W RN : Int} (hH : H = maxL (cs.map fun c => (c.1 : Int))) (hW : W = maxL (cs.map fun c => (c.2 : Int))) (hRN : RN = (if 0 > H * W - 1 then 0 else H * W - 1) + (rest.fdiv 3).fmod 2)
    {ld : List (List Nat)} (hld : ld = cs.map fun c => leadP pl H W RN rest c.1 c.2) {us es : List Str} (hus : us = (wordsP 0 ld).map S) (hes : es = (endsOf ltP us.length us).1) {rows : List Nat} (hrw : rows = es.map fun u => (cs.getD (us.idxOf u) (0, 0)).1) :
    ∃ fin, Reads (writtenP fs (wordsP 0 ld) ld.length) us fin ∧ TTo fin [] [] ∧ (∀ u ∈ es, u ∈ us) ∧ es.length ≤ 10 ∧
      exP rows (rangeKs 0 (((high + 1 : Nat) : Int) - 0).toNat) = some (rangeKs 0 (((high + 1 : Nat) : Int) - 0).toNat).reverse ∧ cellsOf2 (up rows) [] = cs ∧
      (∀ c ∈ cs, (c.2, c.1) ∈ cs) ∧ (endsOf ltP us.length us).2 = cs.map fun c => us.getD (cs.idxOf (c.2, c.1)) Str.empty := by
  have hcl : cs.length = n := by rw [hcs, orderP_len, hfl]
  have hll : ld.length = n := by rw [hld, List.length_map, hcl]
  have hchk : chkF high n cs = true := by rw [hcs]; exact order_chk hh hfl
  obtain ⟨k1, h2⟩ := andB_iff.mp hchk
  obtain ⟨k2, h3⟩ := andB_iff.mp h2
  obtain ⟨k3, h4⟩ := andB_iff.mp h3
  obtain ⟨k4, h5⟩ := andB_iff.mp h4
  obtain ⟨k5, h6⟩ := andB_iff.mp h5
  obtain ⟨k6, -⟩ := andB_iff.mp h6
  clear hchk h2 h3 h4 h5 h6
  replace k1 : celB2 (fstL (endsR n cs).1) [] = cs := eqCs_eq k1
  replace k2 : (endsR n cs).2 = swpL cs := eqCs_eq k2
  replace k3 : okO (exB (fstL (endsR n cs).1) (List.range (high + 1))) (List.range (high + 1)).reverse = true := k3
  replace k4 : ∀ c ∈ (endsR n cs).1, c ∈ cs := allIn_mem k4
  replace k5 := allIn_mem k5
  have hnd := nodC_nodup k6
  rw [swpL_eq] at k2 k5
  rw [fstL_eq] at k1 k3
  have r3 := Int.fmod_nonneg_of_pos (rest.fdiv 3) (b := 2) (by decide)
  have hRN0 : 0 ≤ RN := by rw [hRN]; split <;> omega
  have ht : ∀ x ∈ wordsP 0 ld, Tame x := words_tame ld 0 fun x hx => by
    rw [hld] at hx
    obtain ⟨c, -, rfl⟩ := List.mem_map.mp hx
    exact lead_blank hRN0
  obtain ⟨fin, hfin, hread⟩ := written_read (fs := fs) ht ld.length (by rw [wordsP_len]; exact Nat.le_refl _)
  rw [show (wordsP 0 ld).take ld.length = wordsP 0 ld by rw [← wordsP_len 0 ld, List.take_length], ← hus] at hread
  have hun : us.Nodup := by rw [hus]; exact words_nodup ld 0
  have hul : us.length = n := by rw [hus, List.length_map, wordsP_len, hll]
  have hget : ∀ k (hk : k < cs.length), us.getD (cs.idxOf cs[k]) Str.empty = S (leadP pl H W RN rest cs[k].1 cs[k].2 ++ [97 + k]) := fun k hk => by
    rw [idx_nodup hnd hk, List.getD, hus, List.getElem?_map, words_get ld 0 k (by omega)]
    simp only [hld, List.getElem_map, Nat.zero_add]
    rfl
  have hmap : us = cs.map fun c => us.getD (cs.idxOf c) Str.empty := by
    refine List.ext_getElem (by rw [List.length_map]; omega) fun k h1 h2 => ?_
    rw [List.getElem_map, idx_nodup hnd (by omega), List.getD, List.getElem?_eq_getElem h1]; rfl
  have hlt : ∀ c ∈ cs, ∀ d ∈ cs, c ≠ d → ltP (us.getD (cs.idxOf c) Str.empty) (us.getD (cs.idxOf d) Str.empty) = nw c d := fun c hcm d hdm hne => by
    obtain ⟨k, hk, rfl⟩ := List.mem_iff_getElem.mp hcm
    obtain ⟨l, hl, rfl⟩ := List.mem_iff_getElem.mp hdm
    rw [hget k hk, hget l hl]
    have b1 : ∀ x ∈ cs, (x.1 : Int) ≤ H ∧ (x.2 : Int) ≤ W := fun x hx => ⟨hH ▸ maxL_le _ (List.mem_map_of_mem (f := fun c => (c.1 : Int)) hx), hW ▸ maxL_le _ (List.mem_map_of_mem (f := fun c => (c.2 : Int)) hx)⟩
    refine lead_lt hRN (b1 _ hcm).1 (b1 _ hdm).1 (b1 _ hcm).2 (b1 _ hdm).2 ?_
    by_cases q : cs[k].1 = cs[l].1
    · exact .inr fun q2 => hne (Prod.ext q q2)
    · exact .inl q
  have hg := ends_map (lt := ltP) (f := fun c => us.getD (cs.idxOf c) Str.empty) n cs hnd hlt
  rw [← hmap] at hg
  rw [hul] at hes ⊢
  rw [hg] at hes ⊢
  dsimp only at hes ⊢
  have hrows : rows = (endsR n cs).1.map (·.1) := by
    rw [hrw, hes, List.map_map]
    refine List.map_congr_left fun c hc => ?_
    have hcm := k4 c hc
    obtain ⟨k, hk, rfl⟩ := List.mem_iff_getElem.mp hcm
    have hku : k < us.length := by omega
    show (cs.getD (us.idxOf (us.getD (cs.idxOf cs[k]) Str.empty)) (0, 0)).1 = cs[k].1
    have e : us.getD (cs.idxOf cs[k]) Str.empty = us[k] := by rw [idx_nodup hnd hk, List.getD, List.getElem?_eq_getElem hku]; rfl
    rw [e, idx_nodupS hun hku, List.getD, List.getElem?_eq_getElem hk]; rfl
  refine ⟨fin, hread, ws_eof hfin, ?_, ?_, ?_, ?_, ?_, ?_⟩
  · intro u hu
    rw [hes] at hu
    obtain ⟨c, hc, rfl⟩ := List.mem_map.mp hu
    have hcm := k4 c hc
    obtain ⟨k, hk, rfl⟩ := List.mem_iff_getElem.mp hcm
    have hku : k < us.length := by omega
    have e : us.getD (cs.idxOf cs[k]) Str.empty = us[k] := by rw [idx_nodup hnd hk, List.getD, List.getElem?_eq_getElem hku]; rfl
    show us.getD (cs.idxOf cs[k]) Str.empty ∈ us
    rw [e]
    exact List.getElem_mem _
  · rw [hes, List.length_map]; exact Nat.le_trans (endsR_len n cs) (by omega)
  · rw [range_up, exB_int, hrows]
    cases q : exB (List.map (fun x => x.fst) (endsR n cs).1) (List.range (high + 1)) with
    | none =>
      have : okO (exB (List.map (fun x => x.fst) (endsR n cs).1) (List.range (high + 1))) (List.range (high + 1)).reverse = true := k3
      rw [q] at this; cases this
    | some t =>
      have : okO (exB (List.map (fun x => x.fst) (endsR n cs).1) (List.range (high + 1))) (List.range (high + 1)).reverse = true := k3
      rw [q] at this
      rw [eqL_eq (show eqL t (List.range (high + 1)).reverse = true from this)]
      show some (up _) = some _
      rw [up, List.map_reverse]
  · rw [hrows]
    exact (cells2_int _ [] (fun r hr => nomatch hr)).trans k1
  · exact fun c hc => k5 _ (List.mem_map_of_mem (f := fun c : Nat × Nat => (c.2, c.1)) hc)
  · rw [k2, List.map_map]; rfl
theorem high_is (a : Int) : ∃ high : Nat, (high = 3 ∨ high = 4) ∧ 3 + a.fmod 2 = (high : Int) := by
  have h1 := Int.fmod_nonneg_of_pos a (b := 2) (by decide)
  have h2 := Int.fmod_lt_of_pos a (b := 2) (by decide)
  by_cases q : a.fmod 2 = 0
  · exact ⟨3, .inl rfl, by omega⟩
  · exact ⟨4, .inr rfl, by omega⟩
theorem count_is2 {high : Nat} (h : high = 3 ∨ high = 4) : ∃ n : Nat, (high = 3 ∧ n = 6 ∨ high = 4 ∧ n = 10) ∧ ((high : Int) * ((high : Int) + 1)).fdiv 2 = (n : Int) := by
  rcases h with rfl | rfl
  · exact ⟨6, .inl ⟨rfl, rfl⟩, rfl⟩
  · exact ⟨10, .inr ⟨rfl, rfl⟩, rfl⟩
end Mine
namespace Mine
theorem fillAll : Challenge.rw_pe0167_02 = Challenge.rw_pe0167_02 ∧ Mine.hd.heap_1 = Mine.hd.heap_1 := by
  k_fill
  exact ⟨rfl, rfl⟩
noncomputable abbrev P := Challenge.rw_pe0167_02.row.prog
local macro_rules | `(tactic| walk_at $s:str) => `(tactic| k_extra $s)
local macro_rules | `(tactic| k_all) => `(tactic| (exact AllNe.mem (by with_reducible assumption)))
local macro_rules | `(tactic| k_ne) => `(tactic| (refine neN ?_; (try dsimp only); walk_at "ne"))
local macro_rules | `(tactic| k_inst) => `(tactic| first | (refine' inst_gn ?F ?e ?N ?h; (case F => k_asm); (case e => assumption); (case N => k_asm); (case h => k_mem)) | (refine' inst_gg ?F ?e ?h; (case F => k_asm); (case e => assumption); (case h => assumption)))
local macro_rules | `(tactic| kun_tup) => `(tactic| exact Fr.tup (by k_asm) (by assumption))
local macro_rules | `(tactic| kun_lst) => `(tactic| exact Fr.lst (by k_asm) (by assumption))
local macro_rules | `(tactic| walk_at "eval Name") => `(tactic| (k_here; k_dflt (refine' nameF_g ?F ?c ?g ?d ?_ ?a ?b; (case a => rfl); (case b => rfl); (case F => k_asm); (case c => rfl); (case g => assumption); (case d => assumption); k_whole)))
section
variable {w : World} {lo : List Str} {mean : ExcName → Option Value} {mg mb : Str → Option Value} {b₀ : Heap} {dp un : Nat} {fr : Option (List Env)} {gd : Option (List Code)} {s : Shared} {R : Result → Shared → Prop}
/-- a Whitespace of the text u stands in the ledger at x -/
noncomputable abbrev wsLed (w : World) (x d Dn Dc : Nat) (u : Str) (q : Wst) (vs : List Value) (tu tb tn tt u1 u2 u3 u4 u5 : Tok) : List (Addr × Obj) :=
  [(x, instObj 125 d), (d, dictOf [⟨PyData.keyHash w.params (Str.ofString "raw"), .str (Str.ofString "raw") u1, .str u tu⟩, ⟨PyData.keyHash w.params (Str.ofString "n"), .str (Str.ofString "n") u2, .int q.n tn⟩,
    ⟨PyData.keyHash w.params (Str.ofString "nt"), .str (Str.ofString "nt") u3, .int q.nt tt⟩, ⟨PyData.keyHash w.params (Str.ofString "norm"), .str (Str.ofString "norm") u4, .ref Dn⟩,
    ⟨PyData.keyHash w.params (Str.ofString "is_simple"), .str (Str.ofString "is_simple") u5, .bool (decide ((q.cnt.length : Int) ≤ 1))⟩] 5),
    (Dn, { cls := .type "tuple", data := .seq #[.ref Dc, .int q.b tb] }), (Dc, { cls := .type "tuple", data := .seq vs.toArray })]
noncomputable def wsOf (u : Str) : Wst := wsRun u.cps.toList ⟨[], 0, 0, 0⟩
noncomputable def WsIn (w : World) (E : List (Addr × Obj)) (x : Nat) (u : Str) : Prop :=
  ∃ d Dn Dc vs tu tb tn tt u1 u2 u3 u4 u5, IntsAre vs (wsOf u).cnt ∧ ∀ p ∈ wsLed w x d Dn Dc u (wsOf u) vs tu tb tn tt u1 u2 u3 u4 u5, p ∈ E
inductive WsJ (w : World) (x d : Nat) (u : Str) (tu : Tok) (i : Nat) (m₁ : Str → Option Value) (news₁ : List (Addr × Obj)) : Prop
  | mk (q : Wst) (ca : Nat) (vs : List Value) (ep : Nat) (tb tn tt t9 : Tok) (hrun : wsRun (u.cps.toList.drop i) q = wsRun u.cps.toList ⟨[], 0, 0, 0⟩) (hvs : IntsAre vs q.cnt)
      (hlen : q.cnt.length ≤ i) (hqb : q.b ≤ i) (e1 : m₁ (Str.ofString "b") = some (.int q.b tb)) (e2 : m₁ (Str.ofString "n") = some (.int q.n tn)) (e3 : m₁ (Str.ofString "nt") = some (.int q.nt tt)) (e4 : m₁ (Str.ofString "count") = some (.ref ca)) (e5 : m₁ (Str.ofString "self") = some (.ref x))
      (e6 : m₁ (Str.ofString "S") = some (.str (Str.ofString " ") 269)) (e7 : m₁ (Str.ofString "T") = some (.str (Str.ofString "\t") 270))
      (n1 : ca ≠ x) (n2 : ca ≠ d) (e : news₁ = [(ca, listOf vs.toArray ep), (x, instObj 125 d), (d, dictOf [⟨PyData.keyHash w.params (Str.ofString "raw"), .str (Str.ofString "raw") t9, .str u tu⟩] 1)])
inductive WsQ (w : World) (g : Heap) (L : Addr) (x d : Nat) (u : Str) (tu : Tok) (s : Shared) (f : Flow) (s' : Shared) : Prop
  | mk (hf : f = Flow.next) (h : Heap) (tk : Nat) (m' : Str → Option Value) (q : Wst) (ca : Nat) (vs : List Value) (ep : Nat) (tb tn tt t9 : Tok) (hs : s' = { s with heap := h, toks := tk }) (hq : q = wsRun u.cps.toList ⟨[], 0, 0, 0⟩) (hvs : IntsAre vs q.cnt)
    (hlen : q.cnt.length ≤ u.cps.size) (hqb : q.b ≤ u.cps.size) (F : Fr g L h m') (e1 : m' (Str.ofString "b") = some (.int q.b tb)) (e2 : m' (Str.ofString "n") = some (.int q.n tn)) (e3 : m' (Str.ofString "nt") = some (.int q.nt tt)) (e4 : m' (Str.ofString "count") = some (.ref ca)) (e5 : m' (Str.ofString "self") = some (.ref x))
    (n1 : ca ≠ x) (n2 : ca ≠ d) (N : News g L h [(ca, listOf vs.toArray ep), (x, instObj 125 d), (d, dictOf [⟨PyData.keyHash w.params (Str.ofString "raw"), .str (Str.ofString "raw") t9, .str u tu⟩] 1)])
set_option maxRecDepth 100000 in
set_option maxHeartbeats 8000000 in
theorem wsinit_c {x d : Nat} {u : Str} {tu : Tok} (G : Gd (Mine.hd.heap_1 w.params) lo mean mg mb b₀) (hb : Over b₀ s.heap) (hN : Led b₀ s.heap [(x, instObj 125 d), (d, dictOf [] 0)])
    (hd : dp + 8 < recursionLimit) (hne : x ≠ d) (hu : u.length ≤ 1048576)
    (hR : ∀ h' tk' E, Ends s.heap h' [x, d] E → WsIn w E x u → R (.ok (.ret .none)) { s with heap := h', toks := tk' }) :
    codeAny (model P w) (Ar dp fr gd un) (.call (.ref 80) ⟨[.ref x, .str u tu], []⟩) R s := by
  k_with_none
  k_with "ne" => ((first | with_reducible assumption | exact Ne.symm (by with_reducible assumption) | exact Nat.ne_of_lt (by with_reducible assumption) | exact Nat.ne_of_gt (by with_reducible assumption) | (refine Nat.ne_of_lt ?_; (repeat (first | exact Nat.lt_succ_self _ | with_reducible assumption | refine Nat.lt_succ_of_lt ?_)); done) | (refine Nat.ne_of_gt ?_; (repeat (first | exact Nat.lt_succ_self _ | with_reducible assumption | refine Nat.lt_succ_of_lt ?_)); done) | exact Nat.ne_of_lt (And.left (by with_reducible assumption)) | exact Nat.ne_of_gt (And.left (by with_reducible assumption)) | exact (And.left (by with_reducible assumption)) | exact Ne.symm (And.left (by with_reducible assumption)) | exact Nat.ne_of_lt (And.left (And.right (by with_reducible assumption))) | exact Nat.ne_of_lt (And.right (by with_reducible assumption)) | exact Nat.ne_of_gt (And.left (And.right (by with_reducible assumption))) | exact Nat.ne_of_gt (And.right (by with_reducible assumption)) | exact (And.left (And.right (by with_reducible assumption))) | exact Ne.symm (And.left (And.right (by with_reducible assumption))) | exact (And.right (by with_reducible assumption)) | exact Ne.symm (And.right (by with_reducible assumption)) | exact Nat.ne_of_lt (And.left (And.right (And.right (by with_reducible assumption)))) | exact Nat.ne_of_lt (And.right (And.right (by with_reducible assumption))) | exact Nat.ne_of_gt (And.left (And.right (And.right (by with_reducible assumption)))) | exact Nat.ne_of_gt (And.right (And.right (by with_reducible assumption))) | exact (And.left (And.right (And.right (by with_reducible assumption)))) | exact Ne.symm (And.left (And.right (And.right (by with_reducible assumption)))) | exact (And.right (And.right (by with_reducible assumption))) | exact Ne.symm (And.right (And.right (by with_reducible assumption))) | exact Nat.ne_of_lt (And.left (And.right (And.right (And.right (by with_reducible assumption))))) | exact Nat.ne_of_lt (And.right (And.right (And.right (by with_reducible assumption)))) | exact Nat.ne_of_gt (And.left (And.right (And.right (And.right (by with_reducible assumption))))) | exact Nat.ne_of_gt (And.right (And.right (And.right (by with_reducible assumption)))) | exact (And.left (And.right (And.right (And.right (by with_reducible assumption))))) | exact Ne.symm (And.left (And.right (And.right (And.right (by with_reducible assumption))))) | exact (And.right (And.right (And.right (by with_reducible assumption)))) | exact Ne.symm (And.right (And.right (And.right (by with_reducible assumption)))) | exact Nat.ne_of_lt (And.left (And.right (And.right (And.right (And.right (by with_reducible assumption)))))) | exact Nat.ne_of_lt (And.right (And.right (And.right (And.right (by with_reducible assumption))))) | exact Nat.ne_of_gt (And.left (And.right (And.right (And.right (And.right (by with_reducible assumption)))))) | exact Nat.ne_of_gt (And.right (And.right (And.right (And.right (by with_reducible assumption))))) | exact (And.left (And.right (And.right (And.right (And.right (by with_reducible assumption)))))) | exact Ne.symm (And.left (And.right (And.right (And.right (And.right (by with_reducible assumption)))))) | exact (And.right (And.right (And.right (And.right (by with_reducible assumption))))) | exact Ne.symm (And.right (And.right (And.right (And.right (by with_reducible assumption))))) | exact Nat.ne_of_lt (And.left (And.right (And.right (And.right (And.right (And.right (by with_reducible assumption))))))) | exact Nat.ne_of_lt (And.right (And.right (And.right (And.right (And.right (by with_reducible assumption)))))) | exact Nat.ne_of_gt (And.left (And.right (And.right (And.right (And.right (And.right (by with_reducible assumption))))))) | exact Nat.ne_of_gt (And.right (And.right (And.right (And.right (And.right (by with_reducible assumption)))))) | exact (And.left (And.right (And.right (And.right (And.right (And.right (by with_reducible assumption))))))) | exact Ne.symm (And.left (And.right (And.right (And.right (And.right (And.right (by with_reducible assumption))))))) | exact (And.right (And.right (And.right (And.right (And.right (by with_reducible assumption)))))) | exact Ne.symm (And.right (And.right (And.right (And.right (And.right (by with_reducible assumption)))))) | exact Nat.ne_of_lt (And.left (And.right (And.right (And.right (And.right (And.right (And.right (by with_reducible assumption)))))))) | exact Nat.ne_of_lt (And.right (And.right (And.right (And.right (And.right (And.right (by with_reducible assumption))))))) | exact Nat.ne_of_gt (And.left (And.right (And.right (And.right (And.right (And.right (And.right (by with_reducible assumption)))))))) | exact Nat.ne_of_gt (And.right (And.right (And.right (And.right (And.right (And.right (by with_reducible assumption))))))) | exact (And.left (And.right (And.right (And.right (And.right (And.right (And.right (by with_reducible assumption)))))))) | exact Ne.symm (And.left (And.right (And.right (And.right (And.right (And.right (And.right (by with_reducible assumption)))))))) | exact (And.right (And.right (And.right (And.right (And.right (And.right (by with_reducible assumption))))))) | exact Ne.symm (And.right (And.right (And.right (And.right (And.right (And.right (by with_reducible assumption))))))) | exact Nat.ne_of_lt (And.left (And.right (And.right (And.right (And.right (And.right (And.right (And.right (by with_reducible assumption))))))))) | exact Nat.ne_of_lt (And.right (And.right (And.right (And.right (And.right (And.right (And.right (by with_reducible assumption)))))))) | exact Nat.ne_of_gt (And.left (And.right (And.right (And.right (And.right (And.right (And.right (And.right (by with_reducible assumption))))))))) | exact Nat.ne_of_gt (And.right (And.right (And.right (And.right (And.right (And.right (And.right (by with_reducible assumption)))))))) | exact (And.left (And.right (And.right (And.right (And.right (And.right (And.right (And.right (by with_reducible assumption))))))))) | exact Ne.symm (And.left (And.right (And.right (And.right (And.right (And.right (And.right (And.right (by with_reducible assumption))))))))) | exact (And.right (And.right (And.right (And.right (And.right (And.right (And.right (by with_reducible assumption)))))))) | exact Ne.symm (And.right (And.right (And.right (And.right (And.right (And.right (And.right (by with_reducible assumption)))))))) | exact Nat.ne_of_lt (And.left (And.right (And.right (And.right (And.right (And.right (And.right (And.right (And.right (by with_reducible assumption)))))))))) | exact Nat.ne_of_lt (And.right (And.right (And.right (And.right (And.right (And.right (And.right (And.right (by with_reducible assumption))))))))) | exact Nat.ne_of_gt (And.left (And.right (And.right (And.right (And.right (And.right (And.right (And.right (And.right (by with_reducible assumption)))))))))) | exact Nat.ne_of_gt (And.right (And.right (And.right (And.right (And.right (And.right (And.right (And.right (by with_reducible assumption))))))))) | exact (And.left (And.right (And.right (And.right (And.right (And.right (And.right (And.right (And.right (by with_reducible assumption)))))))))) | exact Ne.symm (And.left (And.right (And.right (And.right (And.right (And.right (And.right (And.right (And.right (by with_reducible assumption)))))))))) | exact (And.right (And.right (And.right (And.right (And.right (And.right (And.right (And.right (by with_reducible assumption))))))))) | exact Ne.symm (And.right (And.right (And.right (And.right (And.right (And.right (And.right (And.right (by with_reducible assumption))))))))) | exact Nat.ne_of_lt (And.left (And.right (And.right (And.right (And.right (And.right (And.right (And.right (And.right (And.right (by with_reducible assumption))))))))))) | exact Nat.ne_of_lt (And.right (And.right (And.right (And.right (And.right (And.right (And.right (And.right (And.right (by with_reducible assumption)))))))))) | exact Nat.ne_of_gt (And.left (And.right (And.right (And.right (And.right (And.right (And.right (And.right (And.right (And.right (by with_reducible assumption))))))))))) | exact Nat.ne_of_gt (And.right (And.right (And.right (And.right (And.right (And.right (And.right (And.right (And.right (by with_reducible assumption)))))))))) | exact (And.left (And.right (And.right (And.right (And.right (And.right (And.right (And.right (And.right (And.right (by with_reducible assumption))))))))))) | exact Ne.symm (And.left (And.right (And.right (And.right (And.right (And.right (And.right (And.right (And.right (And.right (by with_reducible assumption))))))))))) | exact (And.right (And.right (And.right (And.right (And.right (And.right (And.right (And.right (And.right (by with_reducible assumption)))))))))) | exact Ne.symm (And.right (And.right (And.right (And.right (And.right (And.right (And.right (And.right (And.right (by with_reducible assumption)))))))))) | exact Nat.ne_of_lt (And.left (And.right (And.right (And.right (And.right (And.right (And.right (And.right (And.right (And.right (And.right (by with_reducible assumption)))))))))))) | exact Nat.ne_of_lt (And.right (And.right (And.right (And.right (And.right (And.right (And.right (And.right (And.right (And.right (by with_reducible assumption))))))))))) | exact Nat.ne_of_gt (And.left (And.right (And.right (And.right (And.right (And.right (And.right (And.right (And.right (And.right (And.right (by with_reducible assumption)))))))))))) | exact Nat.ne_of_gt (And.right (And.right (And.right (And.right (And.right (And.right (And.right (And.right (And.right (And.right (by with_reducible assumption))))))))))) | exact (And.left (And.right (And.right (And.right (And.right (And.right (And.right (And.right (And.right (And.right (And.right (by with_reducible assumption)))))))))))) | exact Ne.symm (And.left (And.right (And.right (And.right (And.right (And.right (And.right (And.right (And.right (And.right (And.right (by with_reducible assumption)))))))))))) | exact (And.right (And.right (And.right (And.right (And.right (And.right (And.right (And.right (And.right (And.right (by with_reducible assumption))))))))))) | exact Ne.symm (And.right (And.right (And.right (And.right (And.right (And.right (And.right (And.right (And.right (And.right (by with_reducible assumption)))))))))))))
  k_with "exec For Name Attribute cons nil" => (k_dflt (refine for_exec ?_))
  k_with "exec For Name Name cons nil" => (k_dflt (refine for_exec ?_))
  k_with "exec For Name Call cons nil" => (k_dflt (refine for_exec ?_))
  k_with "call type:tuple" => ((k_here; (with_reducible show wpAny _ _ (call (Value.type _) [Value.ref _]) _ _ _); k_dflt (refine' tupleOf_c (by k_asm) (by k_asm) (by k_mem) (by ((have hL9 := IntsAre.length (by assumption)); rw [sizeLine_eq]; omega)) ?_; k_whole); intro _ _ _ _ l19q; (try k_lt l19q); (try k_sweep)))
  k_with "call builtin:len" => ((k_here; (with_reducible show wpAny _ _ (call (Value.builtin "len") [Value.ref _]) _ _ _); k_dflt (refine' len_tupI (by k_asm) (by with_reducible assumption) (by with_reducible assumption) (by omega) ?_; k_whole); intro _ _))
  k_with "execs cons" => ((k_dflt (refine execs_n (s := ‹Shared›) ?_); intro _; (try k_fold)))
  k_with "exec If BoolOp cons nil" => (((fail_if_success (with_reducible show wpAny _ _ _ (Cut _ _) _ _)); refine Hold.out ?_))
  k_with "out" => (repeat (first | (k_unfold; (try dsimp only)) | refine cut_ret ?_ | refine turn_ret ?_))
  k_with "go" => ((w_top off; repeat' (first | (k_unfold; (try dsimp only)) | walk1 | (dsimp only; walk1))))
  refine enter (binds := [(Str.ofString "self", .ref x), (Str.ofString "ws", .str u tu)]) _ G hb hN (by k_is) (by k_is) (by show dp < _; exact dlt0 hd) (BindsTo.of_eq rfl) (locs rfl) (by decide) ?_
  intro g L h₁ tk F N X T hg
  have hu2 : u.cps.size ≤ 1048576 := hu
  walk_at "go"
  refine ForSrc.mono (Q' := WsQ w g L x d u tu s) ?_ ?_
  · refine for_str (news := [(_, _), (x, _), (d, _)]) (J := WsJ w x d u tu) rfl rfl rfl rfl (by k_asm) (news_sub (by k_asm) (by kcj_all)) ?_ ?_ ?_
    · exact ⟨⟨[], 0, 0, 0⟩, _, [], 0, _, _, _, _, rfl, .nil, Nat.le_refl _, Nat.le_refl _, rfl, rfl, rfl, rfl, rfl, rfl, rfl, by omega, by omega, rfl⟩
    · rintro i c tc m₁ news₁ h tk I oI h₀ hi hc ⟨q, ca, vs, ep, tb, tn, tt, t9, hrun, hvs, hlen, hqb, e1, e2, e3, e4, e5, e6, e7, n1, n2, rfl⟩ hoff F N
      simp only [AllNe, and_true] at hoff
      replace F := know (x := Str.ofString "b") F e1
      replace F := know (x := Str.ofString "n") F e2
      replace F := know (x := Str.ofString "nt") F e3
      replace F := know (x := Str.ofString "count") F e4
      replace F := know (x := Str.ofString "S") F e6
      replace F := know (x := Str.ofString "T") F e7
      replace F := know (x := Str.ofString "self") F e5
      walk_at "go"
      · have hc32 := chr_eq (t := " ") (k := 32) (c := c) (by decide +kernel) (by assumption)
        refine turn_next (by k_asm) (by k_asm) [(ca, listOf vs.toArray ep), (x, instObj 125 d), (d, dictOf [⟨PyData.keyHash w.params (Str.ofString "raw"), .str (Str.ofString "raw") t9, .str u tu⟩] 1)] (by kcj_all) (by simp only [AllNe, and_true]; exact hoff)
          ⟨{ q with n := q.n + 1, b := q.b + 1 }, ca, vs, ep, _, _, _, t9, ?_, hvs, Nat.le_succ_of_le hlen, Nat.succ_le_succ hqb, rfl, rfl, rfl, rfl, rfl, rfl, rfl, n1, n2, rfl⟩
        rw [← hrun, drop_at hc, wsRun, if_pos hc32]
      · have hc32 := chr_ne (t := " ") (k := 32) (c := c) (by decide +kernel) (by assumption)
        have hc9 := chr_eq (t := "\t") (k := 9) (c := c) (by decide +kernel) (by assumption)
        have hb5 := bump_hi (cnt := q.cnt) (b := q.b) (by assumption)
        have hb6 := bump_len q.cnt q.b
        (rename IntsAre (List.set _ _ _) _ => hset)
        rw [hb5] at hset
        refine turn_next (by k_asm) (by k_asm) [(_, listOf _ _), (x, instObj 125 d), (d, dictOf [⟨PyData.keyHash w.params (Str.ofString "raw"), .str (Str.ofString "raw") t9, .str u tu⟩] 1)] (by kcj_all) ⟨by k_ne, by k_ne, by k_ne, trivial⟩
          ⟨⟨bump q.cnt q.b, 0, q.n + 1, q.nt + 1⟩, _, _, _, _, _, _, t9, ?_, hset, by show (bump q.cnt q.b).length ≤ _; omega, Nat.zero_le _, rfl, rfl, rfl, rfl, rfl, rfl, rfl, by omega, by omega, rfl⟩
        rw [← hrun, drop_at hc, wsRun, if_neg hc32, if_pos hc9]
      · have hc32 := chr_ne (t := " ") (k := 32) (c := c) (by decide +kernel) (by assumption)
        have hc9 := chr_eq (t := "\t") (k := 9) (c := c) (by decide +kernel) (by assumption)
        have hb5 := bump_lo (cnt := q.cnt) (b := q.b) (by assumption)
        have hb6 := bump_len q.cnt q.b
        (rename IntsAre (List.set _ _ _) _ => hset)
        rw [hb5] at hset
        refine turn_next (by k_asm) (by k_asm) [(ca, listOf _ _), (x, instObj 125 d), (d, dictOf [⟨PyData.keyHash w.params (Str.ofString "raw"), .str (Str.ofString "raw") t9, .str u tu⟩] 1)] (by kcj_all) ⟨by k_ne, by k_ne, by k_ne, trivial⟩
          ⟨⟨bump q.cnt q.b, 0, q.n + 1, q.nt + 1⟩, _, _, _, _, _, _, t9, ?_, hset, by show (bump q.cnt q.b).length ≤ _; omega, Nat.zero_le _, rfl, rfl, rfl, rfl, rfl, rfl, rfl, by omega, by omega, rfl⟩
        rw [← hrun, drop_at hc, wsRun, if_neg hc32, if_pos hc9]
      · have hc32 := chr_ne (t := " ") (k := 32) (c := c) (by decide +kernel) (by assumption)
        have hc9 := chr_ne (t := "\t") (k := 9) (c := c) (by decide +kernel) (by assumption)
        refine ⟨rfl, _, _, _, q, ca, vs, ep, tb, tn, tt, t9, rfl, ?_, hvs, by omega, by omega, by k_asm, rfl, rfl, rfl, rfl, rfl, n1, n2, news_sub (by k_asm) (by kcj_all)⟩
        rw [← hrun, drop_at hc, wsRun, if_neg hc32, if_neg hc9]
    · rintro h tk m' news' F N ⟨q, ca, vs, ep, tb, tn, tt, t9, hrun, hvs, hlen, hqb, e1, e2, e3, e4, e5, e6, e7, n1, n2, rfl⟩
      refine ⟨rfl, _, _, _, q, ca, vs, ep, tb, tn, tt, t9, rfl, ?_, hvs, by omega, by omega, F, e1, e2, e3, e4, e5, n1, n2, N⟩
      rw [← hrun, List.drop_eq_nil_of_le (by simp), wsRun]
  · rintro f s' ⟨rfl, h, tk, m', q, ca, vs, ep, tb, tn, tt, t9, rfl, hq, hvs, hlen, hqb, F, e1, e2, e3, e4, e5, n1, n2, N⟩
    (try k_unfold)
    (try dsimp only)
    replace F := know (x := Str.ofString "b") F e1
    replace F := know (x := Str.ofString "n") F e2
    replace F := know (x := Str.ofString "nt") F e3
    replace F := know (x := Str.ofString "count") F e4
    replace F := know (x := Str.ofString "self") F e5
    walk_at "go"
    subst hq
    exact hR _ _ _ (ends_of (by k_asm) (by k_asm) hg) ⟨d, _, _, vs, _, _, _, _, _, _, _, _, _, hvs, by kcj_all⟩
end
section
variable {w : World} {lo : List Str} {mean : ExcName → Option Value} {mg mb : Str → Option Value} {b₀ : Heap} {dp un : Nat} {fr : Option (List Env)} {gd : Option (List Code)} {s : Shared} {R : Result → Shared → Prop}
noncomputable def WsAt (w : World) (g : Heap) (x : Nat) (u : Str) : Prop :=
  ∃ d Dn Dc vs tu tb tn tt u1 u2 u3 u4 u5, IntsAre vs (wsOf u).cnt ∧ ∀ p ∈ wsLed w x d Dn Dc u (wsOf u) vs tu tb tn tt u1 u2 u3 u4 u5, g.get? p.1 = some p.2
theorem WsAt.keeps {w : World} {g h : Heap} {x : Nat} {u : Str} (W : WsAt w g x u) (k : ∀ b o, g.get? b = some o → h.get? b = some o) : WsAt w h x u :=
  let ⟨d, Dn, Dc, vs, tu, tb, tn, tt, u1, u2, u3, u4, u5, hi, hp⟩ := W
  ⟨d, Dn, Dc, vs, tu, tb, tn, tt, u1, u2, u3, u4, u5, hi, fun p h => k _ _ (hp p h)⟩
set_option maxRecDepth 100000 in
set_option maxHeartbeats 8000000 in
theorem longest_c {x : Nat} {u : Str} (G : Gd (Mine.hd.heap_1 w.params) lo mean mg mb b₀) (hb : Over b₀ s.heap) (hW : WsAt w s.heap x u)
    (hd : dp + 8 < recursionLimit) (hl : (wsOf u).cnt.length ≤ 1048576)
    (hR : ∀ h' tk' t', Ends s.heap h' [] [] → R (.ok (.ret (.int (longOf (wsOf u)) t'))) { s with heap := h', toks := tk' }) :
    codeAny (model P w) (Ar dp fr gd un) (.call (.ref 87) ⟨[.ref x], []⟩) R s := by
  k_with_none
  k_with "ne" => ((first | with_reducible assumption | exact Ne.symm (by with_reducible assumption) | exact Nat.ne_of_lt (by with_reducible assumption) | exact Nat.ne_of_gt (by with_reducible assumption) | (refine Nat.ne_of_lt ?_; (repeat (first | exact Nat.lt_succ_self _ | with_reducible assumption | refine Nat.lt_succ_of_lt ?_)); done) | (refine Nat.ne_of_gt ?_; (repeat (first | exact Nat.lt_succ_self _ | with_reducible assumption | refine Nat.lt_succ_of_lt ?_)); done) | exact Nat.ne_of_lt (And.left (by with_reducible assumption)) | exact Nat.ne_of_gt (And.left (by with_reducible assumption)) | exact (And.left (by with_reducible assumption)) | exact Ne.symm (And.left (by with_reducible assumption)) | exact Nat.ne_of_lt (And.left (And.right (by with_reducible assumption))) | exact Nat.ne_of_lt (And.right (by with_reducible assumption)) | exact Nat.ne_of_gt (And.left (And.right (by with_reducible assumption))) | exact Nat.ne_of_gt (And.right (by with_reducible assumption)) | exact (And.left (And.right (by with_reducible assumption))) | exact Ne.symm (And.left (And.right (by with_reducible assumption))) | exact (And.right (by with_reducible assumption)) | exact Ne.symm (And.right (by with_reducible assumption)) | exact Nat.ne_of_lt (And.left (And.right (And.right (by with_reducible assumption)))) | exact Nat.ne_of_lt (And.right (And.right (by with_reducible assumption))) | exact Nat.ne_of_gt (And.left (And.right (And.right (by with_reducible assumption)))) | exact Nat.ne_of_gt (And.right (And.right (by with_reducible assumption))) | exact (And.left (And.right (And.right (by with_reducible assumption)))) | exact Ne.symm (And.left (And.right (And.right (by with_reducible assumption)))) | exact (And.right (And.right (by with_reducible assumption))) | exact Ne.symm (And.right (And.right (by with_reducible assumption))) | exact Nat.ne_of_lt (And.left (And.right (And.right (And.right (by with_reducible assumption))))) | exact Nat.ne_of_lt (And.right (And.right (And.right (by with_reducible assumption)))) | exact Nat.ne_of_gt (And.left (And.right (And.right (And.right (by with_reducible assumption))))) | exact Nat.ne_of_gt (And.right (And.right (And.right (by with_reducible assumption)))) | exact (And.left (And.right (And.right (And.right (by with_reducible assumption))))) | exact Ne.symm (And.left (And.right (And.right (And.right (by with_reducible assumption))))) | exact (And.right (And.right (And.right (by with_reducible assumption)))) | exact Ne.symm (And.right (And.right (And.right (by with_reducible assumption)))) | exact Nat.ne_of_lt (And.left (And.right (And.right (And.right (And.right (by with_reducible assumption)))))) | exact Nat.ne_of_lt (And.right (And.right (And.right (And.right (by with_reducible assumption))))) | exact Nat.ne_of_gt (And.left (And.right (And.right (And.right (And.right (by with_reducible assumption)))))) | exact Nat.ne_of_gt (And.right (And.right (And.right (And.right (by with_reducible assumption))))) | exact (And.left (And.right (And.right (And.right (And.right (by with_reducible assumption)))))) | exact Ne.symm (And.left (And.right (And.right (And.right (And.right (by with_reducible assumption)))))) | exact (And.right (And.right (And.right (And.right (by with_reducible assumption))))) | exact Ne.symm (And.right (And.right (And.right (And.right (by with_reducible assumption))))) | exact Nat.ne_of_lt (And.left (And.right (And.right (And.right (And.right (And.right (by with_reducible assumption))))))) | exact Nat.ne_of_lt (And.right (And.right (And.right (And.right (And.right (by with_reducible assumption)))))) | exact Nat.ne_of_gt (And.left (And.right (And.right (And.right (And.right (And.right (by with_reducible assumption))))))) | exact Nat.ne_of_gt (And.right (And.right (And.right (And.right (And.right (by with_reducible assumption)))))) | exact (And.left (And.right (And.right (And.right (And.right (And.right (by with_reducible assumption))))))) | exact Ne.symm (And.left (And.right (And.right (And.right (And.right (And.right (by with_reducible assumption))))))) | exact (And.right (And.right (And.right (And.right (And.right (by with_reducible assumption)))))) | exact Ne.symm (And.right (And.right (And.right (And.right (And.right (by with_reducible assumption)))))) | exact Nat.ne_of_lt (And.left (And.right (And.right (And.right (And.right (And.right (And.right (by with_reducible assumption)))))))) | exact Nat.ne_of_lt (And.right (And.right (And.right (And.right (And.right (And.right (by with_reducible assumption))))))) | exact Nat.ne_of_gt (And.left (And.right (And.right (And.right (And.right (And.right (And.right (by with_reducible assumption)))))))) | exact Nat.ne_of_gt (And.right (And.right (And.right (And.right (And.right (And.right (by with_reducible assumption))))))) | exact (And.left (And.right (And.right (And.right (And.right (And.right (And.right (by with_reducible assumption)))))))) | exact Ne.symm (And.left (And.right (And.right (And.right (And.right (And.right (And.right (by with_reducible assumption)))))))) | exact (And.right (And.right (And.right (And.right (And.right (And.right (by with_reducible assumption))))))) | exact Ne.symm (And.right (And.right (And.right (And.right (And.right (And.right (by with_reducible assumption))))))) | exact Nat.ne_of_lt (And.left (And.right (And.right (And.right (And.right (And.right (And.right (And.right (by with_reducible assumption))))))))) | exact Nat.ne_of_lt (And.right (And.right (And.right (And.right (And.right (And.right (And.right (by with_reducible assumption)))))))) | exact Nat.ne_of_gt (And.left (And.right (And.right (And.right (And.right (And.right (And.right (And.right (by with_reducible assumption))))))))) | exact Nat.ne_of_gt (And.right (And.right (And.right (And.right (And.right (And.right (And.right (by with_reducible assumption)))))))) | exact (And.left (And.right (And.right (And.right (And.right (And.right (And.right (And.right (by with_reducible assumption))))))))) | exact Ne.symm (And.left (And.right (And.right (And.right (And.right (And.right (And.right (And.right (by with_reducible assumption))))))))) | exact (And.right (And.right (And.right (And.right (And.right (And.right (And.right (by with_reducible assumption)))))))) | exact Ne.symm (And.right (And.right (And.right (And.right (And.right (And.right (And.right (by with_reducible assumption)))))))) | exact Nat.ne_of_lt (And.left (And.right (And.right (And.right (And.right (And.right (And.right (And.right (And.right (by with_reducible assumption)))))))))) | exact Nat.ne_of_lt (And.right (And.right (And.right (And.right (And.right (And.right (And.right (And.right (by with_reducible assumption))))))))) | exact Nat.ne_of_gt (And.left (And.right (And.right (And.right (And.right (And.right (And.right (And.right (And.right (by with_reducible assumption)))))))))) | exact Nat.ne_of_gt (And.right (And.right (And.right (And.right (And.right (And.right (And.right (And.right (by with_reducible assumption))))))))) | exact (And.left (And.right (And.right (And.right (And.right (And.right (And.right (And.right (And.right (by with_reducible assumption)))))))))) | exact Ne.symm (And.left (And.right (And.right (And.right (And.right (And.right (And.right (And.right (And.right (by with_reducible assumption)))))))))) | exact (And.right (And.right (And.right (And.right (And.right (And.right (And.right (And.right (by with_reducible assumption))))))))) | exact Ne.symm (And.right (And.right (And.right (And.right (And.right (And.right (And.right (And.right (by with_reducible assumption))))))))) | exact Nat.ne_of_lt (And.left (And.right (And.right (And.right (And.right (And.right (And.right (And.right (And.right (And.right (by with_reducible assumption))))))))))) | exact Nat.ne_of_lt (And.right (And.right (And.right (And.right (And.right (And.right (And.right (And.right (And.right (by with_reducible assumption)))))))))) | exact Nat.ne_of_gt (And.left (And.right (And.right (And.right (And.right (And.right (And.right (And.right (And.right (And.right (by with_reducible assumption))))))))))) | exact Nat.ne_of_gt (And.right (And.right (And.right (And.right (And.right (And.right (And.right (And.right (And.right (by with_reducible assumption)))))))))) | exact (And.left (And.right (And.right (And.right (And.right (And.right (And.right (And.right (And.right (And.right (by with_reducible assumption))))))))))) | exact Ne.symm (And.left (And.right (And.right (And.right (And.right (And.right (And.right (And.right (And.right (And.right (by with_reducible assumption))))))))))) | exact (And.right (And.right (And.right (And.right (And.right (And.right (And.right (And.right (And.right (by with_reducible assumption)))))))))) | exact Ne.symm (And.right (And.right (And.right (And.right (And.right (And.right (And.right (And.right (And.right (by with_reducible assumption)))))))))) | exact Nat.ne_of_lt (And.left (And.right (And.right (And.right (And.right (And.right (And.right (And.right (And.right (And.right (And.right (by with_reducible assumption)))))))))))) | exact Nat.ne_of_lt (And.right (And.right (And.right (And.right (And.right (And.right (And.right (And.right (And.right (And.right (by with_reducible assumption))))))))))) | exact Nat.ne_of_gt (And.left (And.right (And.right (And.right (And.right (And.right (And.right (And.right (And.right (And.right (And.right (by with_reducible assumption)))))))))))) | exact Nat.ne_of_gt (And.right (And.right (And.right (And.right (And.right (And.right (And.right (And.right (And.right (And.right (by with_reducible assumption))))))))))) | exact (And.left (And.right (And.right (And.right (And.right (And.right (And.right (And.right (And.right (And.right (And.right (by with_reducible assumption)))))))))))) | exact Ne.symm (And.left (And.right (And.right (And.right (And.right (And.right (And.right (And.right (And.right (And.right (And.right (by with_reducible assumption)))))))))))) | exact (And.right (And.right (And.right (And.right (And.right (And.right (And.right (And.right (And.right (And.right (by with_reducible assumption))))))))))) | exact Ne.symm (And.right (And.right (And.right (And.right (And.right (And.right (And.right (And.right (And.right (And.right (by with_reducible assumption)))))))))))))
  k_with "exec For Name Attribute cons nil" => (k_dflt (refine for_exec ?_))
  k_with "exec For Name Name cons nil" => (k_dflt (refine for_exec ?_))
  k_with "exec For Name Call cons nil" => (k_dflt (refine for_exec ?_))
  k_with "call type:tuple" => ((k_here; (with_reducible show wpAny _ _ (call (Value.type _) [Value.ref _]) _ _ _); k_dflt (refine' tupleOf_c (by k_asm) (by k_asm) (by k_mem) (by ((have hL9 := IntsAre.length (by assumption)); rw [sizeLine_eq]; omega)) ?_; k_whole); intro _ _ _ _ l19q; (try k_lt l19q); (try k_sweep)))
  k_with "call builtin:len" => ((k_here; (with_reducible show wpAny _ _ (call (Value.builtin "len") [Value.ref _]) _ _ _); k_dflt (refine' len_tupI (by k_asm) (by with_reducible assumption) (by with_reducible assumption) (by omega) ?_; k_whole); intro _ _))
  k_with "execs cons" => ((k_dflt (refine execs_n (s := ‹Shared›) ?_); intro _; (try k_fold)))
  k_with "exec If BoolOp cons nil" => (((fail_if_success (with_reducible show wpAny _ _ _ (Cut _ _) _ _)); refine Hold.out ?_))
  k_with "out" => (repeat (first | (k_unfold; (try dsimp only)) | refine cut_ret ?_ | refine turn_ret ?_))
  k_with "go" => ((w_top off; repeat' (first | (k_unfold; (try dsimp only)) | walk1 | (dsimp only; walk1))))
  refine enter (binds := [(Str.ofString "self", .ref x)]) [] G hb Led.nil (by k_is) (by k_is) (by show dp < _; exact dlt0 hd) (BindsTo.of_eq rfl) (locs rfl) (by decide) ?_
  intro g L h₁ tk F N X T hg
  replace hW := hW.keeps fun b o e => hg b o e (by simp)
  obtain ⟨d, Dn, Dc, vs, tu, tb, tn, tt, u1, u2, u3, u4, u5, hi, hp⟩ := hW
  generalize wsOf u = q at *
  have g1 := hp _ (.head _)
  have g2 := hp _ (.tail _ (.head _))
  have g3 := hp _ (.tail _ (.tail _ (.head _)))
  have g4 := hp _ (.tail _ (.tail _ (.tail _ (.head _))))
  dsimp only at g1 g2 g3 g4
  have i3 : IsTup g Dn _ := ⟨_, g3, rfl, _, rfl⟩
  have i4 : IsTup g Dc _ := ⟨_, g4, rfl, _, rfl⟩
  walk_at "go"
  exact hR _ _ _ (ends_of (by k_asm) News.nil hg)
inductive IlJ (x : Nat) (q : Wst) (Dc : Nat) (ts : Int) (tts : Tok) (i : Nat) (m₁ : Str → Option Value) (news₁ : List (Addr × Obj)) : Prop
  | mk (ti tb tc : Tok) (e0 : m₁ (Str.ofString "self") = some (.ref x)) (e1 : m₁ (Str.ofString "tabsize") = some (.int ts tts)) (e2 : m₁ (Str.ofString "il") = some (.int (ilSum q.cnt ts i) ti)) (e3 : m₁ (Str.ofString "count") = some (.ref Dc)) (e4 : m₁ (Str.ofString "trailing") = some (.int q.b tb)) (e : news₁ = [])
set_option maxRecDepth 100000 in
set_option maxHeartbeats 8000000 in
theorem indent_c {x : Nat} {u : Str} {ts : Int} {tts : Tok} (G : Gd (Mine.hd.heap_1 w.params) lo mean mg mb b₀) (hb : Over b₀ s.heap) (hW : WsAt w s.heap x u)
    (hd : dp + 8 < recursionLimit) (hl : (wsOf u).cnt.length ≤ 1048576) (ht : 2 ≤ ts) (ht2 : ts ≤ 1048577)
    (hR : ∀ h' tk' t', Ends s.heap h' [] [] → R (.ok (.ret (.int (ilOf (wsOf u) ts) t'))) { s with heap := h', toks := tk' }) :
    codeAny (model P w) (Ar dp fr gd un) (.call (.ref 94) ⟨[.ref x, .int ts tts], []⟩) R s := by
  k_with_none
  k_with "ne" => ((first | with_reducible assumption | exact Ne.symm (by with_reducible assumption) | exact Nat.ne_of_lt (by with_reducible assumption) | exact Nat.ne_of_gt (by with_reducible assumption) | (refine Nat.ne_of_lt ?_; (repeat (first | exact Nat.lt_succ_self _ | with_reducible assumption | refine Nat.lt_succ_of_lt ?_)); done) | (refine Nat.ne_of_gt ?_; (repeat (first | exact Nat.lt_succ_self _ | with_reducible assumption | refine Nat.lt_succ_of_lt ?_)); done) | exact Nat.ne_of_lt (And.left (by with_reducible assumption)) | exact Nat.ne_of_gt (And.left (by with_reducible assumption)) | exact (And.left (by with_reducible assumption)) | exact Ne.symm (And.left (by with_reducible assumption)) | exact Nat.ne_of_lt (And.left (And.right (by with_reducible assumption))) | exact Nat.ne_of_lt (And.right (by with_reducible assumption)) | exact Nat.ne_of_gt (And.left (And.right (by with_reducible assumption))) | exact Nat.ne_of_gt (And.right (by with_reducible assumption)) | exact (And.left (And.right (by with_reducible assumption))) | exact Ne.symm (And.left (And.right (by with_reducible assumption))) | exact (And.right (by with_reducible assumption)) | exact Ne.symm (And.right (by with_reducible assumption)) | exact Nat.ne_of_lt (And.left (And.right (And.right (by with_reducible assumption)))) | exact Nat.ne_of_lt (And.right (And.right (by with_reducible assumption))) | exact Nat.ne_of_gt (And.left (And.right (And.right (by with_reducible assumption)))) | exact Nat.ne_of_gt (And.right (And.right (by with_reducible assumption))) | exact (And.left (And.right (And.right (by with_reducible assumption)))) | exact Ne.symm (And.left (And.right (And.right (by with_reducible assumption)))) | exact (And.right (And.right (by with_reducible assumption))) | exact Ne.symm (And.right (And.right (by with_reducible assumption))) | exact Nat.ne_of_lt (And.left (And.right (And.right (And.right (by with_reducible assumption))))) | exact Nat.ne_of_lt (And.right (And.right (And.right (by with_reducible assumption)))) | exact Nat.ne_of_gt (And.left (And.right (And.right (And.right (by with_reducible assumption))))) | exact Nat.ne_of_gt (And.right (And.right (And.right (by with_reducible assumption)))) | exact (And.left (And.right (And.right (And.right (by with_reducible assumption))))) | exact Ne.symm (And.left (And.right (And.right (And.right (by with_reducible assumption))))) | exact (And.right (And.right (And.right (by with_reducible assumption)))) | exact Ne.symm (And.right (And.right (And.right (by with_reducible assumption)))) | exact Nat.ne_of_lt (And.left (And.right (And.right (And.right (And.right (by with_reducible assumption)))))) | exact Nat.ne_of_lt (And.right (And.right (And.right (And.right (by with_reducible assumption))))) | exact Nat.ne_of_gt (And.left (And.right (And.right (And.right (And.right (by with_reducible assumption)))))) | exact Nat.ne_of_gt (And.right (And.right (And.right (And.right (by with_reducible assumption))))) | exact (And.left (And.right (And.right (And.right (And.right (by with_reducible assumption)))))) | exact Ne.symm (And.left (And.right (And.right (And.right (And.right (by with_reducible assumption)))))) | exact (And.right (And.right (And.right (And.right (by with_reducible assumption))))) | exact Ne.symm (And.right (And.right (And.right (And.right (by with_reducible assumption))))) | exact Nat.ne_of_lt (And.left (And.right (And.right (And.right (And.right (And.right (by with_reducible assumption))))))) | exact Nat.ne_of_lt (And.right (And.right (And.right (And.right (And.right (by with_reducible assumption)))))) | exact Nat.ne_of_gt (And.left (And.right (And.right (And.right (And.right (And.right (by with_reducible assumption))))))) | exact Nat.ne_of_gt (And.right (And.right (And.right (And.right (And.right (by with_reducible assumption)))))) | exact (And.left (And.right (And.right (And.right (And.right (And.right (by with_reducible assumption))))))) | exact Ne.symm (And.left (And.right (And.right (And.right (And.right (And.right (by with_reducible assumption))))))) | exact (And.right (And.right (And.right (And.right (And.right (by with_reducible assumption)))))) | exact Ne.symm (And.right (And.right (And.right (And.right (And.right (by with_reducible assumption)))))) | exact Nat.ne_of_lt (And.left (And.right (And.right (And.right (And.right (And.right (And.right (by with_reducible assumption)))))))) | exact Nat.ne_of_lt (And.right (And.right (And.right (And.right (And.right (And.right (by with_reducible assumption))))))) | exact Nat.ne_of_gt (And.left (And.right (And.right (And.right (And.right (And.right (And.right (by with_reducible assumption)))))))) | exact Nat.ne_of_gt (And.right (And.right (And.right (And.right (And.right (And.right (by with_reducible assumption))))))) | exact (And.left (And.right (And.right (And.right (And.right (And.right (And.right (by with_reducible assumption)))))))) | exact Ne.symm (And.left (And.right (And.right (And.right (And.right (And.right (And.right (by with_reducible assumption)))))))) | exact (And.right (And.right (And.right (And.right (And.right (And.right (by with_reducible assumption))))))) | exact Ne.symm (And.right (And.right (And.right (And.right (And.right (And.right (by with_reducible assumption))))))) | exact Nat.ne_of_lt (And.left (And.right (And.right (And.right (And.right (And.right (And.right (And.right (by with_reducible assumption))))))))) | exact Nat.ne_of_lt (And.right (And.right (And.right (And.right (And.right (And.right (And.right (by with_reducible assumption)))))))) | exact Nat.ne_of_gt (And.left (And.right (And.right (And.right (And.right (And.right (And.right (And.right (by with_reducible assumption))))))))) | exact Nat.ne_of_gt (And.right (And.right (And.right (And.right (And.right (And.right (And.right (by with_reducible assumption)))))))) | exact (And.left (And.right (And.right (And.right (And.right (And.right (And.right (And.right (by with_reducible assumption))))))))) | exact Ne.symm (And.left (And.right (And.right (And.right (And.right (And.right (And.right (And.right (by with_reducible assumption))))))))) | exact (And.right (And.right (And.right (And.right (And.right (And.right (And.right (by with_reducible assumption)))))))) | exact Ne.symm (And.right (And.right (And.right (And.right (And.right (And.right (And.right (by with_reducible assumption)))))))) | exact Nat.ne_of_lt (And.left (And.right (And.right (And.right (And.right (And.right (And.right (And.right (And.right (by with_reducible assumption)))))))))) | exact Nat.ne_of_lt (And.right (And.right (And.right (And.right (And.right (And.right (And.right (And.right (by with_reducible assumption))))))))) | exact Nat.ne_of_gt (And.left (And.right (And.right (And.right (And.right (And.right (And.right (And.right (And.right (by with_reducible assumption)))))))))) | exact Nat.ne_of_gt (And.right (And.right (And.right (And.right (And.right (And.right (And.right (And.right (by with_reducible assumption))))))))) | exact (And.left (And.right (And.right (And.right (And.right (And.right (And.right (And.right (And.right (by with_reducible assumption)))))))))) | exact Ne.symm (And.left (And.right (And.right (And.right (And.right (And.right (And.right (And.right (And.right (by with_reducible assumption)))))))))) | exact (And.right (And.right (And.right (And.right (And.right (And.right (And.right (And.right (by with_reducible assumption))))))))) | exact Ne.symm (And.right (And.right (And.right (And.right (And.right (And.right (And.right (And.right (by with_reducible assumption))))))))) | exact Nat.ne_of_lt (And.left (And.right (And.right (And.right (And.right (And.right (And.right (And.right (And.right (And.right (by with_reducible assumption))))))))))) | exact Nat.ne_of_lt (And.right (And.right (And.right (And.right (And.right (And.right (And.right (And.right (And.right (by with_reducible assumption)))))))))) | exact Nat.ne_of_gt (And.left (And.right (And.right (And.right (And.right (And.right (And.right (And.right (And.right (And.right (by with_reducible assumption))))))))))) | exact Nat.ne_of_gt (And.right (And.right (And.right (And.right (And.right (And.right (And.right (And.right (And.right (by with_reducible assumption)))))))))) | exact (And.left (And.right (And.right (And.right (And.right (And.right (And.right (And.right (And.right (And.right (by with_reducible assumption))))))))))) | exact Ne.symm (And.left (And.right (And.right (And.right (And.right (And.right (And.right (And.right (And.right (And.right (by with_reducible assumption))))))))))) | exact (And.right (And.right (And.right (And.right (And.right (And.right (And.right (And.right (And.right (by with_reducible assumption)))))))))) | exact Ne.symm (And.right (And.right (And.right (And.right (And.right (And.right (And.right (And.right (And.right (by with_reducible assumption)))))))))) | exact Nat.ne_of_lt (And.left (And.right (And.right (And.right (And.right (And.right (And.right (And.right (And.right (And.right (And.right (by with_reducible assumption)))))))))))) | exact Nat.ne_of_lt (And.right (And.right (And.right (And.right (And.right (And.right (And.right (And.right (And.right (And.right (by with_reducible assumption))))))))))) | exact Nat.ne_of_gt (And.left (And.right (And.right (And.right (And.right (And.right (And.right (And.right (And.right (And.right (And.right (by with_reducible assumption)))))))))))) | exact Nat.ne_of_gt (And.right (And.right (And.right (And.right (And.right (And.right (And.right (And.right (And.right (And.right (by with_reducible assumption))))))))))) | exact (And.left (And.right (And.right (And.right (And.right (And.right (And.right (And.right (And.right (And.right (And.right (by with_reducible assumption)))))))))))) | exact Ne.symm (And.left (And.right (And.right (And.right (And.right (And.right (And.right (And.right (And.right (And.right (And.right (by with_reducible assumption)))))))))))) | exact (And.right (And.right (And.right (And.right (And.right (And.right (And.right (And.right (And.right (And.right (by with_reducible assumption))))))))))) | exact Ne.symm (And.right (And.right (And.right (And.right (And.right (And.right (And.right (And.right (And.right (And.right (by with_reducible assumption)))))))))))))
  k_with "exec For Name Attribute cons nil" => (k_dflt (refine for_exec ?_))
  k_with "exec For Name Name cons nil" => (k_dflt (refine for_exec ?_))
  k_with "exec For Name Call cons nil" => (k_dflt (refine for_exec ?_))
  k_with "call type:tuple" => ((k_here; (with_reducible show wpAny _ _ (call (Value.type _) [Value.ref _]) _ _ _); k_dflt (refine' tupleOf_c (by k_asm) (by k_asm) (by k_mem) (by ((have hL9 := IntsAre.length (by assumption)); rw [sizeLine_eq]; omega)) ?_; k_whole); intro _ _ _ _ l19q; (try k_lt l19q); (try k_sweep)))
  k_with "call builtin:len" => ((k_here; (with_reducible show wpAny _ _ (call (Value.builtin "len") [Value.ref _]) _ _ _); k_dflt (refine' len_tupI (by k_asm) (by with_reducible assumption) (by with_reducible assumption) (by omega) ?_; k_whole); intro _ _))
  k_with "execs cons" => ((k_dflt (refine execs_n (s := ‹Shared›) ?_); intro _; (try k_fold)))
  k_with "exec If BoolOp cons nil" => (((fail_if_success (with_reducible show wpAny _ _ _ (Cut _ _) _ _)); refine Hold.out ?_))
  k_with "out" => (repeat (first | (k_unfold; (try dsimp only)) | refine cut_ret ?_ | refine turn_ret ?_))
  k_with "go" => ((w_top off; repeat' (first | (k_unfold; (try dsimp only)) | walk1 | (dsimp only; walk1))))
  refine enter (binds := [(Str.ofString "self", .ref x), (Str.ofString "tabsize", .int ts tts)]) [] G hb Led.nil (by k_is) (by k_is) (by show dp < _; exact dlt0 hd) (BindsTo.of_eq rfl) (locs rfl) (by decide) ?_
  intro g L h₁ tk F N X T hg
  replace hW := hW.keeps fun b o e => hg b o e (by simp)
  obtain ⟨d, Dn, Dc, vs, tu, tb, tn, tt, u1, u2, u3, u4, u5, hi, hp⟩ := hW
  generalize wsOf u = q at *
  have g1 := hp _ (.head _)
  have g2 := hp _ (.tail _ (.head _))
  have g3 := hp _ (.tail _ (.tail _ (.head _)))
  have g4 := hp _ (.tail _ (.tail _ (.tail _ (.head _))))
  dsimp only at g1 g2 g3 g4
  have i3 : IsTup g Dn _ := ⟨_, g3, rfl, _, rfl⟩
  have i4 : IsTup g Dc _ := ⟨_, g4, rfl, _, rfl⟩
  clear hp
  walk_at "go"
  refine for_up (g := g) (news := []) (J := IlJ x q Dc ts tts) rfl (by assumption) (by omega) rfl rfl rfl (by k_asm) News.nil ?_ ?_ ?_
  · exact ⟨_, _, 0, rfl, rfl, rfl, rfl, rfl, rfl⟩
  · rintro i tc m₁ news₁ h tk I oI h₀ hi ⟨ti, tb, tc', e0, e1, e2, e3, e4, rfl⟩ hoff F N
    replace F := know (x := Str.ofString "il") F e2
    replace F := know (x := Str.ofString "tabsize") F e1
    replace F := know (x := Str.ofString "count") F e3
    replace F := know (x := Str.ofString "self") F e0
    replace F := know (x := Str.ofString "trailing") F e4
    have hfd := fdiv_bd (a := ts + (i : Int)) (b := ts) (by omega) (by omega)
    walk_at "go"
    exact turn_next (by k_asm) (by k_asm) [] (by kcj_all) trivial ⟨_, _, 0, rfl, rfl, rfl, rfl, rfl, rfl⟩
  · rintro h tk m' news' F N ⟨ti, tb, tc', e0, e1, e2, e3, e4, rfl⟩
    (try k_unfold)
    (try dsimp only)
    replace F := know (x := Str.ofString "il") F e2
    replace F := know (x := Str.ofString "tabsize") F e1
    replace F := know (x := Str.ofString "self") F e0
    replace F := know (x := Str.ofString "trailing") F e4
    walk_at "go"
    exact hR _ _ _ (ends_of (by k_asm) News.nil hg)
inductive LeJ (x y : Nat) (p q : Wst) (i : Nat) (m₁ : Str → Option Value) (news₁ : List (Addr × Obj)) : Prop
  | mk (e0 : m₁ (Str.ofString "self") = some (.ref x)) (e1 : m₁ (Str.ofString "other") = some (.ref y)) (hc : ∀ j : Nat, j < i → ilOf p (2 + j) < ilOf q (2 + j)) (e : news₁ = [])
set_option maxRecDepth 100000 in
set_option maxHeartbeats 8000000 in
theorem less_c {x y : Nat} {u v : Str} (G : Gd (Mine.hd.heap_1 w.params) lo mean mg mb b₀) (hb : Over b₀ s.heap) (hW : WsAt w s.heap x u) (hV : WsAt w s.heap y v)
    (hd : dp + 18 < recursionLimit) (hl : (wsOf u).cnt.length ≤ 1000000) (hl2 : (wsOf v).cnt.length ≤ 1000000) (hl3 : (wsOf u).b ≤ 1000000) (hl4 : (wsOf v).b ≤ 1000000)
    (hR : ∀ h' tk', Ends s.heap h' [] [] → R (.ok (.ret (.bool (lessOf (wsOf u) (wsOf v))))) { s with heap := h', toks := tk' }) :
    codeAny (model P w) (Ar dp fr gd un) (.call (.ref 115) ⟨[.ref x, .ref y], []⟩) R s := by
  k_with_none
  k_with "ne" => ((first | with_reducible assumption | exact Ne.symm (by with_reducible assumption) | exact Nat.ne_of_lt (by with_reducible assumption) | exact Nat.ne_of_gt (by with_reducible assumption) | (refine Nat.ne_of_lt ?_; (repeat (first | exact Nat.lt_succ_self _ | with_reducible assumption | refine Nat.lt_succ_of_lt ?_)); done) | (refine Nat.ne_of_gt ?_; (repeat (first | exact Nat.lt_succ_self _ | with_reducible assumption | refine Nat.lt_succ_of_lt ?_)); done) | exact Nat.ne_of_lt (And.left (by with_reducible assumption)) | exact Nat.ne_of_gt (And.left (by with_reducible assumption)) | exact (And.left (by with_reducible assumption)) | exact Ne.symm (And.left (by with_reducible assumption)) | exact Nat.ne_of_lt (And.left (And.right (by with_reducible assumption))) | exact Nat.ne_of_lt (And.right (by with_reducible assumption)) | exact Nat.ne_of_gt (And.left (And.right (by with_reducible assumption))) | exact Nat.ne_of_gt (And.right (by with_reducible assumption)) | exact (And.left (And.right (by with_reducible assumption))) | exact Ne.symm (And.left (And.right (by with_reducible assumption))) | exact (And.right (by with_reducible assumption)) | exact Ne.symm (And.right (by with_reducible assumption)) | exact Nat.ne_of_lt (And.left (And.right (And.right (by with_reducible assumption)))) | exact Nat.ne_of_lt (And.right (And.right (by with_reducible assumption))) | exact Nat.ne_of_gt (And.left (And.right (And.right (by with_reducible assumption)))) | exact Nat.ne_of_gt (And.right (And.right (by with_reducible assumption))) | exact (And.left (And.right (And.right (by with_reducible assumption)))) | exact Ne.symm (And.left (And.right (And.right (by with_reducible assumption)))) | exact (And.right (And.right (by with_reducible assumption))) | exact Ne.symm (And.right (And.right (by with_reducible assumption))) | exact Nat.ne_of_lt (And.left (And.right (And.right (And.right (by with_reducible assumption))))) | exact Nat.ne_of_lt (And.right (And.right (And.right (by with_reducible assumption)))) | exact Nat.ne_of_gt (And.left (And.right (And.right (And.right (by with_reducible assumption))))) | exact Nat.ne_of_gt (And.right (And.right (And.right (by with_reducible assumption)))) | exact (And.left (And.right (And.right (And.right (by with_reducible assumption))))) | exact Ne.symm (And.left (And.right (And.right (And.right (by with_reducible assumption))))) | exact (And.right (And.right (And.right (by with_reducible assumption)))) | exact Ne.symm (And.right (And.right (And.right (by with_reducible assumption)))) | exact Nat.ne_of_lt (And.left (And.right (And.right (And.right (And.right (by with_reducible assumption)))))) | exact Nat.ne_of_lt (And.right (And.right (And.right (And.right (by with_reducible assumption))))) | exact Nat.ne_of_gt (And.left (And.right (And.right (And.right (And.right (by with_reducible assumption)))))) | exact Nat.ne_of_gt (And.right (And.right (And.right (And.right (by with_reducible assumption))))) | exact (And.left (And.right (And.right (And.right (And.right (by with_reducible assumption)))))) | exact Ne.symm (And.left (And.right (And.right (And.right (And.right (by with_reducible assumption)))))) | exact (And.right (And.right (And.right (And.right (by with_reducible assumption))))) | exact Ne.symm (And.right (And.right (And.right (And.right (by with_reducible assumption))))) | exact Nat.ne_of_lt (And.left (And.right (And.right (And.right (And.right (And.right (by with_reducible assumption))))))) | exact Nat.ne_of_lt (And.right (And.right (And.right (And.right (And.right (by with_reducible assumption)))))) | exact Nat.ne_of_gt (And.left (And.right (And.right (And.right (And.right (And.right (by with_reducible assumption))))))) | exact Nat.ne_of_gt (And.right (And.right (And.right (And.right (And.right (by with_reducible assumption)))))) | exact (And.left (And.right (And.right (And.right (And.right (And.right (by with_reducible assumption))))))) | exact Ne.symm (And.left (And.right (And.right (And.right (And.right (And.right (by with_reducible assumption))))))) | exact (And.right (And.right (And.right (And.right (And.right (by with_reducible assumption)))))) | exact Ne.symm (And.right (And.right (And.right (And.right (And.right (by with_reducible assumption)))))) | exact Nat.ne_of_lt (And.left (And.right (And.right (And.right (And.right (And.right (And.right (by with_reducible assumption)))))))) | exact Nat.ne_of_lt (And.right (And.right (And.right (And.right (And.right (And.right (by with_reducible assumption))))))) | exact Nat.ne_of_gt (And.left (And.right (And.right (And.right (And.right (And.right (And.right (by with_reducible assumption)))))))) | exact Nat.ne_of_gt (And.right (And.right (And.right (And.right (And.right (And.right (by with_reducible assumption))))))) | exact (And.left (And.right (And.right (And.right (And.right (And.right (And.right (by with_reducible assumption)))))))) | exact Ne.symm (And.left (And.right (And.right (And.right (And.right (And.right (And.right (by with_reducible assumption)))))))) | exact (And.right (And.right (And.right (And.right (And.right (And.right (by with_reducible assumption))))))) | exact Ne.symm (And.right (And.right (And.right (And.right (And.right (And.right (by with_reducible assumption))))))) | exact Nat.ne_of_lt (And.left (And.right (And.right (And.right (And.right (And.right (And.right (And.right (by with_reducible assumption))))))))) | exact Nat.ne_of_lt (And.right (And.right (And.right (And.right (And.right (And.right (And.right (by with_reducible assumption)))))))) | exact Nat.ne_of_gt (And.left (And.right (And.right (And.right (And.right (And.right (And.right (And.right (by with_reducible assumption))))))))) | exact Nat.ne_of_gt (And.right (And.right (And.right (And.right (And.right (And.right (And.right (by with_reducible assumption)))))))) | exact (And.left (And.right (And.right (And.right (And.right (And.right (And.right (And.right (by with_reducible assumption))))))))) | exact Ne.symm (And.left (And.right (And.right (And.right (And.right (And.right (And.right (And.right (by with_reducible assumption))))))))) | exact (And.right (And.right (And.right (And.right (And.right (And.right (And.right (by with_reducible assumption)))))))) | exact Ne.symm (And.right (And.right (And.right (And.right (And.right (And.right (And.right (by with_reducible assumption)))))))) | exact Nat.ne_of_lt (And.left (And.right (And.right (And.right (And.right (And.right (And.right (And.right (And.right (by with_reducible assumption)))))))))) | exact Nat.ne_of_lt (And.right (And.right (And.right (And.right (And.right (And.right (And.right (And.right (by with_reducible assumption))))))))) | exact Nat.ne_of_gt (And.left (And.right (And.right (And.right (And.right (And.right (And.right (And.right (And.right (by with_reducible assumption)))))))))) | exact Nat.ne_of_gt (And.right (And.right (And.right (And.right (And.right (And.right (And.right (And.right (by with_reducible assumption))))))))) | exact (And.left (And.right (And.right (And.right (And.right (And.right (And.right (And.right (And.right (by with_reducible assumption)))))))))) | exact Ne.symm (And.left (And.right (And.right (And.right (And.right (And.right (And.right (And.right (And.right (by with_reducible assumption)))))))))) | exact (And.right (And.right (And.right (And.right (And.right (And.right (And.right (And.right (by with_reducible assumption))))))))) | exact Ne.symm (And.right (And.right (And.right (And.right (And.right (And.right (And.right (And.right (by with_reducible assumption))))))))) | exact Nat.ne_of_lt (And.left (And.right (And.right (And.right (And.right (And.right (And.right (And.right (And.right (And.right (by with_reducible assumption))))))))))) | exact Nat.ne_of_lt (And.right (And.right (And.right (And.right (And.right (And.right (And.right (And.right (And.right (by with_reducible assumption)))))))))) | exact Nat.ne_of_gt (And.left (And.right (And.right (And.right (And.right (And.right (And.right (And.right (And.right (And.right (by with_reducible assumption))))))))))) | exact Nat.ne_of_gt (And.right (And.right (And.right (And.right (And.right (And.right (And.right (And.right (And.right (by with_reducible assumption)))))))))) | exact (And.left (And.right (And.right (And.right (And.right (And.right (And.right (And.right (And.right (And.right (by with_reducible assumption))))))))))) | exact Ne.symm (And.left (And.right (And.right (And.right (And.right (And.right (And.right (And.right (And.right (And.right (by with_reducible assumption))))))))))) | exact (And.right (And.right (And.right (And.right (And.right (And.right (And.right (And.right (And.right (by with_reducible assumption)))))))))) | exact Ne.symm (And.right (And.right (And.right (And.right (And.right (And.right (And.right (And.right (And.right (by with_reducible assumption)))))))))) | exact Nat.ne_of_lt (And.left (And.right (And.right (And.right (And.right (And.right (And.right (And.right (And.right (And.right (And.right (by with_reducible assumption)))))))))))) | exact Nat.ne_of_lt (And.right (And.right (And.right (And.right (And.right (And.right (And.right (And.right (And.right (And.right (by with_reducible assumption))))))))))) | exact Nat.ne_of_gt (And.left (And.right (And.right (And.right (And.right (And.right (And.right (And.right (And.right (And.right (And.right (by with_reducible assumption)))))))))))) | exact Nat.ne_of_gt (And.right (And.right (And.right (And.right (And.right (And.right (And.right (And.right (And.right (And.right (by with_reducible assumption))))))))))) | exact (And.left (And.right (And.right (And.right (And.right (And.right (And.right (And.right (And.right (And.right (And.right (by with_reducible assumption)))))))))))) | exact Ne.symm (And.left (And.right (And.right (And.right (And.right (And.right (And.right (And.right (And.right (And.right (And.right (by with_reducible assumption)))))))))))) | exact (And.right (And.right (And.right (And.right (And.right (And.right (And.right (And.right (And.right (And.right (by with_reducible assumption))))))))))) | exact Ne.symm (And.right (And.right (And.right (And.right (And.right (And.right (And.right (And.right (And.right (And.right (by with_reducible assumption)))))))))))))
  k_with "exec For Name Attribute cons nil" => (k_dflt (refine for_exec ?_))
  k_with "exec For Name Name cons nil" => (k_dflt (refine for_exec ?_))
  k_with "exec For Name Call cons nil" => (k_dflt (refine for_exec ?_))
  k_with "call type:tuple" => ((k_here; (with_reducible show wpAny _ _ (call (Value.type _) [Value.ref _]) _ _ _); k_dflt (refine' tupleOf_c (by k_asm) (by k_asm) (by k_mem) (by ((have hL9 := IntsAre.length (by assumption)); rw [sizeLine_eq]; omega)) ?_; k_whole); intro _ _ _ _ l19q; (try k_lt l19q); (try k_sweep)))
  k_with "call builtin:len" => ((k_here; (with_reducible show wpAny _ _ (call (Value.builtin "len") [Value.ref _]) _ _ _); k_dflt (refine' len_tupI (by k_asm) (by with_reducible assumption) (by with_reducible assumption) (by omega) ?_; k_whole); intro _ _))
  k_with "execs cons" => ((k_dflt (refine execs_n (s := ‹Shared›) ?_); intro _; (try k_fold)))
  k_with "exec If BoolOp cons nil" => (((fail_if_success (with_reducible show wpAny _ _ _ (Cut _ _) _ _)); refine Hold.out ?_))
  k_with "out" => (repeat (first | (k_unfold; (try dsimp only)) | refine cut_ret ?_ | refine turn_ret ?_))
  k_with "go" => ((w_top off; repeat' (first | (k_unfold; (try dsimp only)) | walk1 | (dsimp only; walk1))))
  k_with "call ref" => (((with_reducible show wpAny _ _ (call (Value.ref 87) _ _) _ _ _); k_dflt (refine wpAny_call (longest_c ⟨by assumption, by assumption⟩ (Fr.keep (by k_asm)) (WsAt.keeps (by assumption) (Fr.keep (by k_asm))) (by (try simp only [depth_deeper]); (try dsimp only); omega) (by omega) ?_)); intro _ _ _ E9q; (have F' := Ends.fr0 E9q (by k_asm)); (have N' := Ends.led0 E9q (by k_asm)); clear E9q; (try k_sweep)))
  k_with "call ref" => (((with_reducible show wpAny _ _ (call (Value.ref 94) _ _) _ _ _); k_dflt (refine wpAny_call (indent_c ⟨by assumption, by assumption⟩ (Fr.keep (by k_asm)) (WsAt.keeps (by assumption) (Fr.keep (by k_asm))) (by (try simp only [depth_deeper]); (try dsimp only); omega) (by omega) (by omega) (by omega) ?_)); intro _ _ _ E9q; (have F' := Ends.fr0 E9q (by k_asm)); (have N' := Ends.led0 E9q (by k_asm)); clear E9q; (try k_sweep)))
  refine enter (binds := [(Str.ofString "self", .ref x), (Str.ofString "other", .ref y)]) [] G hb Led.nil (by k_is) (by k_is) (by show dp < _; exact dlt0 hd) (BindsTo.of_eq rfl) (locs rfl) (by decide) ?_
  intro g L h₁ tk F N X T hg
  replace hW := hW.keeps fun b o e => hg b o e (by simp)
  replace hV := hV.keeps fun b o e => hg b o e (by simp)
  obtain ⟨d, Dn, Dc, vs, tu, tb, tn, tt, u1, u2, u3, u4, u5, hi, hp⟩ := id hW
  obtain ⟨d', Dn', Dc', vs', tu', tb', tn', tt', u1', u2', u3', u4', u5', hi', hp'⟩ := id hV
  have g1 := hp _ (.head _)
  have g2 := hp _ (.tail _ (.head _))
  have g1' := hp' _ (.head _)
  have g2' := hp' _ (.tail _ (.head _))
  dsimp only at g1 g2 g1' g2'
  have hlo : longOf (wsOf u) ≤ 1000000 ∧ 0 ≤ longOf (wsOf u) := by unfold longOf; split <;> omega
  have hlo' : longOf (wsOf v) ≤ 1000000 ∧ 0 ≤ longOf (wsOf v) := by unfold longOf; split <;> omega
  clear hp hp' hi hi'
  walk_at "go"
  · rw [← lessOf_1 (p := wsOf u) (q := wsOf v) (by assumption)]
    exact hR _ _ (ends_of (by k_asm) News.nil hg)
  · refine Hold.in (cut (fun s' => ∃ tk, s' = { s with heap := h₁, toks := tk } ∧ ¬ (((wsOf u).cnt.length : Int) ≤ 1 ∧ ((wsOf v).cnt.length : Int) ≤ 1)) ?_ ?_)
    · walk_at "go"
      · walk_at "out"
        rw [← lessOf_2 (p := wsOf u) (q := wsOf v) (by assumption) (by assumption) (by assumption)]
        exact hR _ _ (ends_of (by k_asm) News.nil hg)
      · exact ⟨_, rfl, by omega⟩
      · exact ⟨_, rfl, by omega⟩
    · rintro s' ⟨tk, rfl, hns⟩
      (try k_unfold)
      (try dsimp only)
      walk_at "go"
      refine for_up (g := g) (news := []) (J := LeJ x y (wsOf u) (wsOf v)) rfl (by assumption) (by split <;> omega) rfl rfl rfl (by k_asm) News.nil ?_ ?_ ?_
      · exact ⟨rfl, rfl, fun _ h => absurd h (Nat.not_lt_zero _), rfl⟩
      · rintro i tc m₁ news₁ h tk I oI h₀ hi ⟨e0, e1, hc, rfl⟩ hoff F N
        replace F := know (x := Str.ofString "self") F e0
        replace F := know (x := Str.ofString "other") F e1
        have hts : (2 + (i : Int)) ≤ 1000002 := by split at hi <;> omega
        walk_at "go"
        · walk_at "out"
          rw [← lessOf_3 (p := wsOf u) (q := wsOf v) (by assumption) hns hi (by assumption)]
          exact hR _ _ (ends_of (by k_asm) News.nil hg)
        · refine turn_next (by k_asm) (by k_asm) [] (by kcj_all) trivial ⟨rfl, rfl, fun j hj => ?_, rfl⟩
          by_cases hji : j = i
          · subst hji; omega
          · exact hc j (by omega)
      · rintro h tk m' news' F N ⟨e0, e1, hc, rfl⟩
        (try k_unfold)
        (try dsimp only)
        walk_at "go"
        rw [← lessOf_4 (p := wsOf u) (q := wsOf v) (by assumption) hns hc]
        exact hR _ _ (ends_of (by k_asm) News.nil hg)
end
section
variable {w : World} {lo : List Str} {mean : ExcName → Option Value} {mg mb : Str → Option Value} {b₀ : Heap} {dp un : Nat} {fr : Option (List Env)} {gd : Option (List Code)} {s : Shared} {R : Result → Shared → Prop}
/-- an entry of an object's dict -/
noncomputable abbrev en (w : World) (n : String) (u : Tok) (v : Value) : DictEntry := ⟨PyData.keyHash w.params (Str.ofString n), .str (Str.ofString n) u, v⟩
noncomputable abbrev wsText : Str := Str.ofString "\n\t\x0d "
set_option maxRecDepth 100000 in
set_option maxHeartbeats 8000000 in
theorem lexinit_c {x d : Nat} (G : Gd (Mine.hd.heap_1 w.params) lo mean mg mb b₀) (hb : Over b₀ s.heap) (hN : Led b₀ s.heap [(x, instObj 59 d), (d, dictOf [] 0)])
    (hd : dp + 8 < recursionLimit) (hne : x ≠ d)
    (hR : ∀ h' tk' pb u1 u2 u3 u4 v1 v3, Ends s.heap h' [x, d] [(pb, listOf #[] 0), (x, instObj 59 d), (d, dictOf [en w "lineno" u1 (.int 1 v1), en w "instream" u2 .none, en w "whitespace" u3 (.str wsText v3), en w "pushback" u4 (.ref pb)] 4)] → @Ne Nat pb x → @Ne Nat pb d → R (.ok (.ret .none)) { s with heap := h', toks := tk' }) :
    codeAny (model P w) (Ar dp fr gd un) (.call (.ref 35) ⟨[.ref x, .none], []⟩) R s := by
  k_with_none
  k_with "ne" => ((first | with_reducible assumption | exact Ne.symm (by with_reducible assumption) | exact Nat.ne_of_lt (by with_reducible assumption) | exact Nat.ne_of_gt (by with_reducible assumption) | (refine Nat.ne_of_lt ?_; (repeat (first | exact Nat.lt_succ_self _ | with_reducible assumption | refine Nat.lt_succ_of_lt ?_)); done) | (refine Nat.ne_of_gt ?_; (repeat (first | exact Nat.lt_succ_self _ | with_reducible assumption | refine Nat.lt_succ_of_lt ?_)); done) | exact Nat.ne_of_lt (And.left (by with_reducible assumption)) | exact Nat.ne_of_gt (And.left (by with_reducible assumption)) | exact (And.left (by with_reducible assumption)) | exact Ne.symm (And.left (by with_reducible assumption)) | exact Nat.ne_of_lt (And.left (And.right (by with_reducible assumption))) | exact Nat.ne_of_lt (And.right (by with_reducible assumption)) | exact Nat.ne_of_gt (And.left (And.right (by with_reducible assumption))) | exact Nat.ne_of_gt (And.right (by with_reducible assumption)) | exact (And.left (And.right (by with_reducible assumption))) | exact Ne.symm (And.left (And.right (by with_reducible assumption))) | exact (And.right (by with_reducible assumption)) | exact Ne.symm (And.right (by with_reducible assumption)) | exact Nat.ne_of_lt (And.left (And.right (And.right (by with_reducible assumption)))) | exact Nat.ne_of_lt (And.right (And.right (by with_reducible assumption))) | exact Nat.ne_of_gt (And.left (And.right (And.right (by with_reducible assumption)))) | exact Nat.ne_of_gt (And.right (And.right (by with_reducible assumption))) | exact (And.left (And.right (And.right (by with_reducible assumption)))) | exact Ne.symm (And.left (And.right (And.right (by with_reducible assumption)))) | exact (And.right (And.right (by with_reducible assumption))) | exact Ne.symm (And.right (And.right (by with_reducible assumption))) | exact Nat.ne_of_lt (And.left (And.right (And.right (And.right (by with_reducible assumption))))) | exact Nat.ne_of_lt (And.right (And.right (And.right (by with_reducible assumption)))) | exact Nat.ne_of_gt (And.left (And.right (And.right (And.right (by with_reducible assumption))))) | exact Nat.ne_of_gt (And.right (And.right (And.right (by with_reducible assumption)))) | exact (And.left (And.right (And.right (And.right (by with_reducible assumption))))) | exact Ne.symm (And.left (And.right (And.right (And.right (by with_reducible assumption))))) | exact (And.right (And.right (And.right (by with_reducible assumption)))) | exact Ne.symm (And.right (And.right (And.right (by with_reducible assumption)))) | exact Nat.ne_of_lt (And.left (And.right (And.right (And.right (And.right (by with_reducible assumption)))))) | exact Nat.ne_of_lt (And.right (And.right (And.right (And.right (by with_reducible assumption))))) | exact Nat.ne_of_gt (And.left (And.right (And.right (And.right (And.right (by with_reducible assumption)))))) | exact Nat.ne_of_gt (And.right (And.right (And.right (And.right (by with_reducible assumption))))) | exact (And.left (And.right (And.right (And.right (And.right (by with_reducible assumption)))))) | exact Ne.symm (And.left (And.right (And.right (And.right (And.right (by with_reducible assumption)))))) | exact (And.right (And.right (And.right (And.right (by with_reducible assumption))))) | exact Ne.symm (And.right (And.right (And.right (And.right (by with_reducible assumption))))) | exact Nat.ne_of_lt (And.left (And.right (And.right (And.right (And.right (And.right (by with_reducible assumption))))))) | exact Nat.ne_of_lt (And.right (And.right (And.right (And.right (And.right (by with_reducible assumption)))))) | exact Nat.ne_of_gt (And.left (And.right (And.right (And.right (And.right (And.right (by with_reducible assumption))))))) | exact Nat.ne_of_gt (And.right (And.right (And.right (And.right (And.right (by with_reducible assumption)))))) | exact (And.left (And.right (And.right (And.right (And.right (And.right (by with_reducible assumption))))))) | exact Ne.symm (And.left (And.right (And.right (And.right (And.right (And.right (by with_reducible assumption))))))) | exact (And.right (And.right (And.right (And.right (And.right (by with_reducible assumption)))))) | exact Ne.symm (And.right (And.right (And.right (And.right (And.right (by with_reducible assumption)))))) | exact Nat.ne_of_lt (And.left (And.right (And.right (And.right (And.right (And.right (And.right (by with_reducible assumption)))))))) | exact Nat.ne_of_lt (And.right (And.right (And.right (And.right (And.right (And.right (by with_reducible assumption))))))) | exact Nat.ne_of_gt (And.left (And.right (And.right (And.right (And.right (And.right (And.right (by with_reducible assumption)))))))) | exact Nat.ne_of_gt (And.right (And.right (And.right (And.right (And.right (And.right (by with_reducible assumption))))))) | exact (And.left (And.right (And.right (And.right (And.right (And.right (And.right (by with_reducible assumption)))))))) | exact Ne.symm (And.left (And.right (And.right (And.right (And.right (And.right (And.right (by with_reducible assumption)))))))) | exact (And.right (And.right (And.right (And.right (And.right (And.right (by with_reducible assumption))))))) | exact Ne.symm (And.right (And.right (And.right (And.right (And.right (And.right (by with_reducible assumption))))))) | exact Nat.ne_of_lt (And.left (And.right (And.right (And.right (And.right (And.right (And.right (And.right (by with_reducible assumption))))))))) | exact Nat.ne_of_lt (And.right (And.right (And.right (And.right (And.right (And.right (And.right (by with_reducible assumption)))))))) | exact Nat.ne_of_gt (And.left (And.right (And.right (And.right (And.right (And.right (And.right (And.right (by with_reducible assumption))))))))) | exact Nat.ne_of_gt (And.right (And.right (And.right (And.right (And.right (And.right (And.right (by with_reducible assumption)))))))) | exact (And.left (And.right (And.right (And.right (And.right (And.right (And.right (And.right (by with_reducible assumption))))))))) | exact Ne.symm (And.left (And.right (And.right (And.right (And.right (And.right (And.right (And.right (by with_reducible assumption))))))))) | exact (And.right (And.right (And.right (And.right (And.right (And.right (And.right (by with_reducible assumption)))))))) | exact Ne.symm (And.right (And.right (And.right (And.right (And.right (And.right (And.right (by with_reducible assumption)))))))) | exact Nat.ne_of_lt (And.left (And.right (And.right (And.right (And.right (And.right (And.right (And.right (And.right (by with_reducible assumption)))))))))) | exact Nat.ne_of_lt (And.right (And.right (And.right (And.right (And.right (And.right (And.right (And.right (by with_reducible assumption))))))))) | exact Nat.ne_of_gt (And.left (And.right (And.right (And.right (And.right (And.right (And.right (And.right (And.right (by with_reducible assumption)))))))))) | exact Nat.ne_of_gt (And.right (And.right (And.right (And.right (And.right (And.right (And.right (And.right (by with_reducible assumption))))))))) | exact (And.left (And.right (And.right (And.right (And.right (And.right (And.right (And.right (And.right (by with_reducible assumption)))))))))) | exact Ne.symm (And.left (And.right (And.right (And.right (And.right (And.right (And.right (And.right (And.right (by with_reducible assumption)))))))))) | exact (And.right (And.right (And.right (And.right (And.right (And.right (And.right (And.right (by with_reducible assumption))))))))) | exact Ne.symm (And.right (And.right (And.right (And.right (And.right (And.right (And.right (And.right (by with_reducible assumption))))))))) | exact Nat.ne_of_lt (And.left (And.right (And.right (And.right (And.right (And.right (And.right (And.right (And.right (And.right (by with_reducible assumption))))))))))) | exact Nat.ne_of_lt (And.right (And.right (And.right (And.right (And.right (And.right (And.right (And.right (And.right (by with_reducible assumption)))))))))) | exact Nat.ne_of_gt (And.left (And.right (And.right (And.right (And.right (And.right (And.right (And.right (And.right (And.right (by with_reducible assumption))))))))))) | exact Nat.ne_of_gt (And.right (And.right (And.right (And.right (And.right (And.right (And.right (And.right (And.right (by with_reducible assumption)))))))))) | exact (And.left (And.right (And.right (And.right (And.right (And.right (And.right (And.right (And.right (And.right (by with_reducible assumption))))))))))) | exact Ne.symm (And.left (And.right (And.right (And.right (And.right (And.right (And.right (And.right (And.right (And.right (by with_reducible assumption))))))))))) | exact (And.right (And.right (And.right (And.right (And.right (And.right (And.right (And.right (And.right (by with_reducible assumption)))))))))) | exact Ne.symm (And.right (And.right (And.right (And.right (And.right (And.right (And.right (And.right (And.right (by with_reducible assumption)))))))))) | exact Nat.ne_of_lt (And.left (And.right (And.right (And.right (And.right (And.right (And.right (And.right (And.right (And.right (And.right (by with_reducible assumption)))))))))))) | exact Nat.ne_of_lt (And.right (And.right (And.right (And.right (And.right (And.right (And.right (And.right (And.right (And.right (by with_reducible assumption))))))))))) | exact Nat.ne_of_gt (And.left (And.right (And.right (And.right (And.right (And.right (And.right (And.right (And.right (And.right (And.right (by with_reducible assumption)))))))))))) | exact Nat.ne_of_gt (And.right (And.right (And.right (And.right (And.right (And.right (And.right (And.right (And.right (And.right (by with_reducible assumption))))))))))) | exact (And.left (And.right (And.right (And.right (And.right (And.right (And.right (And.right (And.right (And.right (And.right (by with_reducible assumption)))))))))))) | exact Ne.symm (And.left (And.right (And.right (And.right (And.right (And.right (And.right (And.right (And.right (And.right (And.right (by with_reducible assumption)))))))))))) | exact (And.right (And.right (And.right (And.right (And.right (And.right (And.right (And.right (And.right (And.right (by with_reducible assumption))))))))))) | exact Ne.symm (And.right (And.right (And.right (And.right (And.right (And.right (And.right (And.right (And.right (And.right (by with_reducible assumption)))))))))))))
  k_with "exec For Name Attribute cons nil" => (k_dflt (refine for_exec ?_))
  k_with "exec For Name Name cons nil" => (k_dflt (refine for_exec ?_))
  k_with "exec For Name Call cons nil" => (k_dflt (refine for_exec ?_))
  k_with "call type:tuple" => ((k_here; (with_reducible show wpAny _ _ (call (Value.type _) [Value.ref _]) _ _ _); k_dflt (refine' tupleOf_c (by k_asm) (by k_asm) (by k_mem) (by ((have hL9 := IntsAre.length (by assumption)); rw [sizeLine_eq]; omega)) ?_; k_whole); intro _ _ _ _ l19q; (try k_lt l19q); (try k_sweep)))
  k_with "call builtin:len" => ((k_here; (with_reducible show wpAny _ _ (call (Value.builtin "len") [Value.ref _]) _ _ _); k_dflt (refine' len_tupI (by k_asm) (by with_reducible assumption) (by with_reducible assumption) (by omega) ?_; k_whole); intro _ _))
  k_with "execs cons" => ((k_dflt (refine execs_n (s := ‹Shared›) ?_); intro _; (try k_fold)))
  k_with "exec If BoolOp cons nil" => (((fail_if_success (with_reducible show wpAny _ _ _ (Cut _ _) _ _)); refine Hold.out ?_))
  k_with "out" => (repeat (first | (k_unfold; (try dsimp only)) | refine cut_ret ?_ | refine turn_ret ?_))
  k_with "go" => ((w_top off; repeat' (first | (k_unfold; (try dsimp only)) | walk1 | (dsimp only; walk1))))
  refine enter (binds := [(Str.ofString "self", .ref x), (Str.ofString "fp", .none)]) _ G hb hN (by k_is) (by k_is) (by show dp < _; exact dlt0 hd) (BindsTo.of_eq rfl) (locs rfl) (by decide) ?_
  intro g L h₁ tk F N X T hg
  walk_at "go"
  exact hR _ _ _ _ _ _ _ _ _ (ends_of (by k_asm) (by k_asm) hg) (by omega) (by omega)
set_option maxRecDepth 100000 in
set_option maxHeartbeats 8000000 in
theorem take_c {text : Str} {t1 t2 ti : Tok} {a : Nat} {i n : Nat} (G : Gd (Mine.hd.heap_1 w.params) lo mean mg mb b₀) (hb : Over b₀ s.heap) (hN : Led b₀ s.heap [(a, listOf #[.int i ti] n)])
    (hd : dp + 8 < recursionLimit) (ht : text.length ≤ 1048576)
    (hR : ∀ h' tk' t' t'', Ends s.heap h' [a] [(a, listOf #[.int (i + (Txt.slice text (some i) (some (i + 1))).length) t''] n)] → R (.ok (.ret (.str (Txt.slice text (some i) (some (i + 1))) t'))) { s with heap := h', toks := tk' }) :
    codeAny (model P w) (Ar dp fr gd un) (.call (.ref 136) ⟨[.str text t1, .ref a, .int 1 t2], []⟩) R s := by
  k_with_none
  k_with "ne" => ((first | with_reducible assumption | exact Ne.symm (by with_reducible assumption) | exact Nat.ne_of_lt (by with_reducible assumption) | exact Nat.ne_of_gt (by with_reducible assumption) | (refine Nat.ne_of_lt ?_; (repeat (first | exact Nat.lt_succ_self _ | with_reducible assumption | refine Nat.lt_succ_of_lt ?_)); done) | (refine Nat.ne_of_gt ?_; (repeat (first | exact Nat.lt_succ_self _ | with_reducible assumption | refine Nat.lt_succ_of_lt ?_)); done) | exact Nat.ne_of_lt (And.left (by with_reducible assumption)) | exact Nat.ne_of_gt (And.left (by with_reducible assumption)) | exact (And.left (by with_reducible assumption)) | exact Ne.symm (And.left (by with_reducible assumption)) | exact Nat.ne_of_lt (And.left (And.right (by with_reducible assumption))) | exact Nat.ne_of_lt (And.right (by with_reducible assumption)) | exact Nat.ne_of_gt (And.left (And.right (by with_reducible assumption))) | exact Nat.ne_of_gt (And.right (by with_reducible assumption)) | exact (And.left (And.right (by with_reducible assumption))) | exact Ne.symm (And.left (And.right (by with_reducible assumption))) | exact (And.right (by with_reducible assumption)) | exact Ne.symm (And.right (by with_reducible assumption)) | exact Nat.ne_of_lt (And.left (And.right (And.right (by with_reducible assumption)))) | exact Nat.ne_of_lt (And.right (And.right (by with_reducible assumption))) | exact Nat.ne_of_gt (And.left (And.right (And.right (by with_reducible assumption)))) | exact Nat.ne_of_gt (And.right (And.right (by with_reducible assumption))) | exact (And.left (And.right (And.right (by with_reducible assumption)))) | exact Ne.symm (And.left (And.right (And.right (by with_reducible assumption)))) | exact (And.right (And.right (by with_reducible assumption))) | exact Ne.symm (And.right (And.right (by with_reducible assumption))) | exact Nat.ne_of_lt (And.left (And.right (And.right (And.right (by with_reducible assumption))))) | exact Nat.ne_of_lt (And.right (And.right (And.right (by with_reducible assumption)))) | exact Nat.ne_of_gt (And.left (And.right (And.right (And.right (by with_reducible assumption))))) | exact Nat.ne_of_gt (And.right (And.right (And.right (by with_reducible assumption)))) | exact (And.left (And.right (And.right (And.right (by with_reducible assumption))))) | exact Ne.symm (And.left (And.right (And.right (And.right (by with_reducible assumption))))) | exact (And.right (And.right (And.right (by with_reducible assumption)))) | exact Ne.symm (And.right (And.right (And.right (by with_reducible assumption)))) | exact Nat.ne_of_lt (And.left (And.right (And.right (And.right (And.right (by with_reducible assumption)))))) | exact Nat.ne_of_lt (And.right (And.right (And.right (And.right (by with_reducible assumption))))) | exact Nat.ne_of_gt (And.left (And.right (And.right (And.right (And.right (by with_reducible assumption)))))) | exact Nat.ne_of_gt (And.right (And.right (And.right (And.right (by with_reducible assumption))))) | exact (And.left (And.right (And.right (And.right (And.right (by with_reducible assumption)))))) | exact Ne.symm (And.left (And.right (And.right (And.right (And.right (by with_reducible assumption)))))) | exact (And.right (And.right (And.right (And.right (by with_reducible assumption))))) | exact Ne.symm (And.right (And.right (And.right (And.right (by with_reducible assumption))))) | exact Nat.ne_of_lt (And.left (And.right (And.right (And.right (And.right (And.right (by with_reducible assumption))))))) | exact Nat.ne_of_lt (And.right (And.right (And.right (And.right (And.right (by with_reducible assumption)))))) | exact Nat.ne_of_gt (And.left (And.right (And.right (And.right (And.right (And.right (by with_reducible assumption))))))) | exact Nat.ne_of_gt (And.right (And.right (And.right (And.right (And.right (by with_reducible assumption)))))) | exact (And.left (And.right (And.right (And.right (And.right (And.right (by with_reducible assumption))))))) | exact Ne.symm (And.left (And.right (And.right (And.right (And.right (And.right (by with_reducible assumption))))))) | exact (And.right (And.right (And.right (And.right (And.right (by with_reducible assumption)))))) | exact Ne.symm (And.right (And.right (And.right (And.right (And.right (by with_reducible assumption)))))) | exact Nat.ne_of_lt (And.left (And.right (And.right (And.right (And.right (And.right (And.right (by with_reducible assumption)))))))) | exact Nat.ne_of_lt (And.right (And.right (And.right (And.right (And.right (And.right (by with_reducible assumption))))))) | exact Nat.ne_of_gt (And.left (And.right (And.right (And.right (And.right (And.right (And.right (by with_reducible assumption)))))))) | exact Nat.ne_of_gt (And.right (And.right (And.right (And.right (And.right (And.right (by with_reducible assumption))))))) | exact (And.left (And.right (And.right (And.right (And.right (And.right (And.right (by with_reducible assumption)))))))) | exact Ne.symm (And.left (And.right (And.right (And.right (And.right (And.right (And.right (by with_reducible assumption)))))))) | exact (And.right (And.right (And.right (And.right (And.right (And.right (by with_reducible assumption))))))) | exact Ne.symm (And.right (And.right (And.right (And.right (And.right (And.right (by with_reducible assumption))))))) | exact Nat.ne_of_lt (And.left (And.right (And.right (And.right (And.right (And.right (And.right (And.right (by with_reducible assumption))))))))) | exact Nat.ne_of_lt (And.right (And.right (And.right (And.right (And.right (And.right (And.right (by with_reducible assumption)))))))) | exact Nat.ne_of_gt (And.left (And.right (And.right (And.right (And.right (And.right (And.right (And.right (by with_reducible assumption))))))))) | exact Nat.ne_of_gt (And.right (And.right (And.right (And.right (And.right (And.right (And.right (by with_reducible assumption)))))))) | exact (And.left (And.right (And.right (And.right (And.right (And.right (And.right (And.right (by with_reducible assumption))))))))) | exact Ne.symm (And.left (And.right (And.right (And.right (And.right (And.right (And.right (And.right (by with_reducible assumption))))))))) | exact (And.right (And.right (And.right (And.right (And.right (And.right (And.right (by with_reducible assumption)))))))) | exact Ne.symm (And.right (And.right (And.right (And.right (And.right (And.right (And.right (by with_reducible assumption)))))))) | exact Nat.ne_of_lt (And.left (And.right (And.right (And.right (And.right (And.right (And.right (And.right (And.right (by with_reducible assumption)))))))))) | exact Nat.ne_of_lt (And.right (And.right (And.right (And.right (And.right (And.right (And.right (And.right (by with_reducible assumption))))))))) | exact Nat.ne_of_gt (And.left (And.right (And.right (And.right (And.right (And.right (And.right (And.right (And.right (by with_reducible assumption)))))))))) | exact Nat.ne_of_gt (And.right (And.right (And.right (And.right (And.right (And.right (And.right (And.right (by with_reducible assumption))))))))) | exact (And.left (And.right (And.right (And.right (And.right (And.right (And.right (And.right (And.right (by with_reducible assumption)))))))))) | exact Ne.symm (And.left (And.right (And.right (And.right (And.right (And.right (And.right (And.right (And.right (by with_reducible assumption)))))))))) | exact (And.right (And.right (And.right (And.right (And.right (And.right (And.right (And.right (by with_reducible assumption))))))))) | exact Ne.symm (And.right (And.right (And.right (And.right (And.right (And.right (And.right (And.right (by with_reducible assumption))))))))) | exact Nat.ne_of_lt (And.left (And.right (And.right (And.right (And.right (And.right (And.right (And.right (And.right (And.right (by with_reducible assumption))))))))))) | exact Nat.ne_of_lt (And.right (And.right (And.right (And.right (And.right (And.right (And.right (And.right (And.right (by with_reducible assumption)))))))))) | exact Nat.ne_of_gt (And.left (And.right (And.right (And.right (And.right (And.right (And.right (And.right (And.right (And.right (by with_reducible assumption))))))))))) | exact Nat.ne_of_gt (And.right (And.right (And.right (And.right (And.right (And.right (And.right (And.right (And.right (by with_reducible assumption)))))))))) | exact (And.left (And.right (And.right (And.right (And.right (And.right (And.right (And.right (And.right (And.right (by with_reducible assumption))))))))))) | exact Ne.symm (And.left (And.right (And.right (And.right (And.right (And.right (And.right (And.right (And.right (And.right (by with_reducible assumption))))))))))) | exact (And.right (And.right (And.right (And.right (And.right (And.right (And.right (And.right (And.right (by with_reducible assumption)))))))))) | exact Ne.symm (And.right (And.right (And.right (And.right (And.right (And.right (And.right (And.right (And.right (by with_reducible assumption)))))))))) | exact Nat.ne_of_lt (And.left (And.right (And.right (And.right (And.right (And.right (And.right (And.right (And.right (And.right (And.right (by with_reducible assumption)))))))))))) | exact Nat.ne_of_lt (And.right (And.right (And.right (And.right (And.right (And.right (And.right (And.right (And.right (And.right (by with_reducible assumption))))))))))) | exact Nat.ne_of_gt (And.left (And.right (And.right (And.right (And.right (And.right (And.right (And.right (And.right (And.right (And.right (by with_reducible assumption)))))))))))) | exact Nat.ne_of_gt (And.right (And.right (And.right (And.right (And.right (And.right (And.right (And.right (And.right (And.right (by with_reducible assumption))))))))))) | exact (And.left (And.right (And.right (And.right (And.right (And.right (And.right (And.right (And.right (And.right (And.right (by with_reducible assumption)))))))))))) | exact Ne.symm (And.left (And.right (And.right (And.right (And.right (And.right (And.right (And.right (And.right (And.right (And.right (by with_reducible assumption)))))))))))) | exact (And.right (And.right (And.right (And.right (And.right (And.right (And.right (And.right (And.right (And.right (by with_reducible assumption))))))))))) | exact Ne.symm (And.right (And.right (And.right (And.right (And.right (And.right (And.right (And.right (And.right (And.right (by with_reducible assumption)))))))))))))
  k_with "exec For Name Attribute cons nil" => (k_dflt (refine for_exec ?_))
  k_with "exec For Name Name cons nil" => (k_dflt (refine for_exec ?_))
  k_with "exec For Name Call cons nil" => (k_dflt (refine for_exec ?_))
  k_with "call type:tuple" => ((k_here; (with_reducible show wpAny _ _ (call (Value.type _) [Value.ref _]) _ _ _); k_dflt (refine' tupleOf_c (by k_asm) (by k_asm) (by k_mem) (by ((have hL9 := IntsAre.length (by assumption)); rw [sizeLine_eq]; omega)) ?_; k_whole); intro _ _ _ _ l19q; (try k_lt l19q); (try k_sweep)))
  k_with "call builtin:len" => ((k_here; (with_reducible show wpAny _ _ (call (Value.builtin "len") [Value.ref _]) _ _ _); k_dflt (refine' len_tupI (by k_asm) (by with_reducible assumption) (by with_reducible assumption) (by omega) ?_; k_whole); intro _ _))
  k_with "execs cons" => ((k_dflt (refine execs_n (s := ‹Shared›) ?_); intro _; (try k_fold)))
  k_with "exec If BoolOp cons nil" => (((fail_if_success (with_reducible show wpAny _ _ _ (Cut _ _) _ _)); refine Hold.out ?_))
  k_with "out" => (repeat (first | (k_unfold; (try dsimp only)) | refine cut_ret ?_ | refine turn_ret ?_))
  k_with "go" => ((w_top off; repeat' (first | (k_unfold; (try dsimp only)) | walk1 | (dsimp only; walk1))))
  refine enter (binds := [(Str.ofString "text", .str text t1), (Str.ofString "at", .ref a), (Str.ofString "size", .int 1 t2)]) _ G hb hN (by k_is) (by k_is) (by show dp < _; exact dlt0 hd) (BindsTo.of_eq rfl) (locs rfl) (by decide) ?_
  intro g L h₁ tk F N X T hg
  walk_at "go"
  exact hR _ _ _ _ (ends_of (by k_asm) (by k_asm) hg)
/-- the parts of the lambda that _law_lexer makes, out of the program's own term -/
noncomputable def lamParts : Arguments × PySem.Expr × Scope := match ((Challenge.pw_pe0167_02.main.body : List Stmt)[7]? : Option Stmt) with
  | some (.FunctionDef _ _ (_ :: _ :: (.Assign _ (.Lambda a e sc _) _) :: _) _ _ _ _ _ _ _) => (a, e, sc)
  | _ => default
noncomputable abbrev lamQual : Str := (Str.ofString "_law_lexer" ++ Str.ofString ".<locals>.") ++ Str.ofString "<lambda>"
noncomputable abbrev lamObj (ct ca cc : Nat) (pm ctv : Value) : Obj := kla_obj (Str.ofString "<lambda>") lamQual lamParts.1 lamParts.2.1 lamParts.2.2 [(Str.ofString "text", ct), (Str.ofString "at", ca)] pm cc ctv
set_option maxRecDepth 100000 in
set_option maxHeartbeats 8000000 in
theorem lam_c {text : Str} {t1 t2 ti : Tok} {fn ct ca cc a : Nat} {i n : Nat} {pm ctv : Value} {o1 o2 : Obj} (G : Gd (Mine.hd.heap_1 w.params) lo mean mg mb b₀) (hb : Over b₀ s.heap) (hN : Led b₀ s.heap [(a, listOf #[.int i ti] n)])
    (hf : s.heap.get? fn = some (lamObj ct ca cc pm ctv)) (h1 : s.heap.get? ct = some o1) (d1 : o1.data = .cell (some (.str text t1))) (h2 : s.heap.get? ca = some o2) (d2 : o2.data = .cell (some (.ref a))) (hc : s.heap.CodeRec (.ref cc) lamQual)
    (hd : dp + 18 < recursionLimit) (ht : text.length ≤ 1048576)
    (hR : ∀ h' tk' t' t'', Ends s.heap h' [a] [(a, listOf #[.int (i + (Txt.slice text (some i) (some (i + 1))).length) t''] n)] → R (.ok (.ret (.str (Txt.slice text (some i) (some (i + 1))) t'))) { s with heap := h', toks := tk' }) :
    codeAny (model P w) (Ar dp fr gd un) (.call (.ref fn) ⟨[.int 1 t2], []⟩) R s := by
  k_with_none
  k_with "ne" => ((first | with_reducible assumption | exact Ne.symm (by with_reducible assumption) | exact Nat.ne_of_lt (by with_reducible assumption) | exact Nat.ne_of_gt (by with_reducible assumption) | (refine Nat.ne_of_lt ?_; (repeat (first | exact Nat.lt_succ_self _ | with_reducible assumption | refine Nat.lt_succ_of_lt ?_)); done) | (refine Nat.ne_of_gt ?_; (repeat (first | exact Nat.lt_succ_self _ | with_reducible assumption | refine Nat.lt_succ_of_lt ?_)); done) | exact Nat.ne_of_lt (And.left (by with_reducible assumption)) | exact Nat.ne_of_gt (And.left (by with_reducible assumption)) | exact (And.left (by with_reducible assumption)) | exact Ne.symm (And.left (by with_reducible assumption)) | exact Nat.ne_of_lt (And.left (And.right (by with_reducible assumption))) | exact Nat.ne_of_lt (And.right (by with_reducible assumption)) | exact Nat.ne_of_gt (And.left (And.right (by with_reducible assumption))) | exact Nat.ne_of_gt (And.right (by with_reducible assumption)) | exact (And.left (And.right (by with_reducible assumption))) | exact Ne.symm (And.left (And.right (by with_reducible assumption))) | exact (And.right (by with_reducible assumption)) | exact Ne.symm (And.right (by with_reducible assumption)) | exact Nat.ne_of_lt (And.left (And.right (And.right (by with_reducible assumption)))) | exact Nat.ne_of_lt (And.right (And.right (by with_reducible assumption))) | exact Nat.ne_of_gt (And.left (And.right (And.right (by with_reducible assumption)))) | exact Nat.ne_of_gt (And.right (And.right (by with_reducible assumption))) | exact (And.left (And.right (And.right (by with_reducible assumption)))) | exact Ne.symm (And.left (And.right (And.right (by with_reducible assumption)))) | exact (And.right (And.right (by with_reducible assumption))) | exact Ne.symm (And.right (And.right (by with_reducible assumption))) | exact Nat.ne_of_lt (And.left (And.right (And.right (And.right (by with_reducible assumption))))) | exact Nat.ne_of_lt (And.right (And.right (And.right (by with_reducible assumption)))) | exact Nat.ne_of_gt (And.left (And.right (And.right (And.right (by with_reducible assumption))))) | exact Nat.ne_of_gt (And.right (And.right (And.right (by with_reducible assumption)))) | exact (And.left (And.right (And.right (And.right (by with_reducible assumption))))) | exact Ne.symm (And.left (And.right (And.right (And.right (by with_reducible assumption))))) | exact (And.right (And.right (And.right (by with_reducible assumption)))) | exact Ne.symm (And.right (And.right (And.right (by with_reducible assumption)))) | exact Nat.ne_of_lt (And.left (And.right (And.right (And.right (And.right (by with_reducible assumption)))))) | exact Nat.ne_of_lt (And.right (And.right (And.right (And.right (by with_reducible assumption))))) | exact Nat.ne_of_gt (And.left (And.right (And.right (And.right (And.right (by with_reducible assumption)))))) | exact Nat.ne_of_gt (And.right (And.right (And.right (And.right (by with_reducible assumption))))) | exact (And.left (And.right (And.right (And.right (And.right (by with_reducible assumption)))))) | exact Ne.symm (And.left (And.right (And.right (And.right (And.right (by with_reducible assumption)))))) | exact (And.right (And.right (And.right (And.right (by with_reducible assumption))))) | exact Ne.symm (And.right (And.right (And.right (And.right (by with_reducible assumption))))) | exact Nat.ne_of_lt (And.left (And.right (And.right (And.right (And.right (And.right (by with_reducible assumption))))))) | exact Nat.ne_of_lt (And.right (And.right (And.right (And.right (And.right (by with_reducible assumption)))))) | exact Nat.ne_of_gt (And.left (And.right (And.right (And.right (And.right (And.right (by with_reducible assumption))))))) | exact Nat.ne_of_gt (And.right (And.right (And.right (And.right (And.right (by with_reducible assumption)))))) | exact (And.left (And.right (And.right (And.right (And.right (And.right (by with_reducible assumption))))))) | exact Ne.symm (And.left (And.right (And.right (And.right (And.right (And.right (by with_reducible assumption))))))) | exact (And.right (And.right (And.right (And.right (And.right (by with_reducible assumption)))))) | exact Ne.symm (And.right (And.right (And.right (And.right (And.right (by with_reducible assumption)))))) | exact Nat.ne_of_lt (And.left (And.right (And.right (And.right (And.right (And.right (And.right (by with_reducible assumption)))))))) | exact Nat.ne_of_lt (And.right (And.right (And.right (And.right (And.right (And.right (by with_reducible assumption))))))) | exact Nat.ne_of_gt (And.left (And.right (And.right (And.right (And.right (And.right (And.right (by with_reducible assumption)))))))) | exact Nat.ne_of_gt (And.right (And.right (And.right (And.right (And.right (And.right (by with_reducible assumption))))))) | exact (And.left (And.right (And.right (And.right (And.right (And.right (And.right (by with_reducible assumption)))))))) | exact Ne.symm (And.left (And.right (And.right (And.right (And.right (And.right (And.right (by with_reducible assumption)))))))) | exact (And.right (And.right (And.right (And.right (And.right (And.right (by with_reducible assumption))))))) | exact Ne.symm (And.right (And.right (And.right (And.right (And.right (And.right (by with_reducible assumption))))))) | exact Nat.ne_of_lt (And.left (And.right (And.right (And.right (And.right (And.right (And.right (And.right (by with_reducible assumption))))))))) | exact Nat.ne_of_lt (And.right (And.right (And.right (And.right (And.right (And.right (And.right (by with_reducible assumption)))))))) | exact Nat.ne_of_gt (And.left (And.right (And.right (And.right (And.right (And.right (And.right (And.right (by with_reducible assumption))))))))) | exact Nat.ne_of_gt (And.right (And.right (And.right (And.right (And.right (And.right (And.right (by with_reducible assumption)))))))) | exact (And.left (And.right (And.right (And.right (And.right (And.right (And.right (And.right (by with_reducible assumption))))))))) | exact Ne.symm (And.left (And.right (And.right (And.right (And.right (And.right (And.right (And.right (by with_reducible assumption))))))))) | exact (And.right (And.right (And.right (And.right (And.right (And.right (And.right (by with_reducible assumption)))))))) | exact Ne.symm (And.right (And.right (And.right (And.right (And.right (And.right (And.right (by with_reducible assumption)))))))) | exact Nat.ne_of_lt (And.left (And.right (And.right (And.right (And.right (And.right (And.right (And.right (And.right (by with_reducible assumption)))))))))) | exact Nat.ne_of_lt (And.right (And.right (And.right (And.right (And.right (And.right (And.right (And.right (by with_reducible assumption))))))))) | exact Nat.ne_of_gt (And.left (And.right (And.right (And.right (And.right (And.right (And.right (And.right (And.right (by with_reducible assumption)))))))))) | exact Nat.ne_of_gt (And.right (And.right (And.right (And.right (And.right (And.right (And.right (And.right (by with_reducible assumption))))))))) | exact (And.left (And.right (And.right (And.right (And.right (And.right (And.right (And.right (And.right (by with_reducible assumption)))))))))) | exact Ne.symm (And.left (And.right (And.right (And.right (And.right (And.right (And.right (And.right (And.right (by with_reducible assumption)))))))))) | exact (And.right (And.right (And.right (And.right (And.right (And.right (And.right (And.right (by with_reducible assumption))))))))) | exact Ne.symm (And.right (And.right (And.right (And.right (And.right (And.right (And.right (And.right (by with_reducible assumption))))))))) | exact Nat.ne_of_lt (And.left (And.right (And.right (And.right (And.right (And.right (And.right (And.right (And.right (And.right (by with_reducible assumption))))))))))) | exact Nat.ne_of_lt (And.right (And.right (And.right (And.right (And.right (And.right (And.right (And.right (And.right (by with_reducible assumption)))))))))) | exact Nat.ne_of_gt (And.left (And.right (And.right (And.right (And.right (And.right (And.right (And.right (And.right (And.right (by with_reducible assumption))))))))))) | exact Nat.ne_of_gt (And.right (And.right (And.right (And.right (And.right (And.right (And.right (And.right (And.right (by with_reducible assumption)))))))))) | exact (And.left (And.right (And.right (And.right (And.right (And.right (And.right (And.right (And.right (And.right (by with_reducible assumption))))))))))) | exact Ne.symm (And.left (And.right (And.right (And.right (And.right (And.right (And.right (And.right (And.right (And.right (by with_reducible assumption))))))))))) | exact (And.right (And.right (And.right (And.right (And.right (And.right (And.right (And.right (And.right (by with_reducible assumption)))))))))) | exact Ne.symm (And.right (And.right (And.right (And.right (And.right (And.right (And.right (And.right (And.right (by with_reducible assumption)))))))))) | exact Nat.ne_of_lt (And.left (And.right (And.right (And.right (And.right (And.right (And.right (And.right (And.right (And.right (And.right (by with_reducible assumption)))))))))))) | exact Nat.ne_of_lt (And.right (And.right (And.right (And.right (And.right (And.right (And.right (And.right (And.right (And.right (by with_reducible assumption))))))))))) | exact Nat.ne_of_gt (And.left (And.right (And.right (And.right (And.right (And.right (And.right (And.right (And.right (And.right (And.right (by with_reducible assumption)))))))))))) | exact Nat.ne_of_gt (And.right (And.right (And.right (And.right (And.right (And.right (And.right (And.right (And.right (And.right (by with_reducible assumption))))))))))) | exact (And.left (And.right (And.right (And.right (And.right (And.right (And.right (And.right (And.right (And.right (And.right (by with_reducible assumption)))))))))))) | exact Ne.symm (And.left (And.right (And.right (And.right (And.right (And.right (And.right (And.right (And.right (And.right (And.right (by with_reducible assumption)))))))))))) | exact (And.right (And.right (And.right (And.right (And.right (And.right (And.right (And.right (And.right (And.right (by with_reducible assumption))))))))))) | exact Ne.symm (And.right (And.right (And.right (And.right (And.right (And.right (And.right (And.right (And.right (And.right (by with_reducible assumption)))))))))))))
  k_with "exec For Name Attribute cons nil" => (k_dflt (refine for_exec ?_))
  k_with "exec For Name Name cons nil" => (k_dflt (refine for_exec ?_))
  k_with "exec For Name Call cons nil" => (k_dflt (refine for_exec ?_))
  k_with "call type:tuple" => ((k_here; (with_reducible show wpAny _ _ (call (Value.type _) [Value.ref _]) _ _ _); k_dflt (refine' tupleOf_c (by k_asm) (by k_asm) (by k_mem) (by ((have hL9 := IntsAre.length (by assumption)); rw [sizeLine_eq]; omega)) ?_; k_whole); intro _ _ _ _ l19q; (try k_lt l19q); (try k_sweep)))
  k_with "call builtin:len" => ((k_here; (with_reducible show wpAny _ _ (call (Value.builtin "len") [Value.ref _]) _ _ _); k_dflt (refine' len_tupI (by k_asm) (by with_reducible assumption) (by with_reducible assumption) (by omega) ?_; k_whole); intro _ _))
  k_with "execs cons" => ((k_dflt (refine execs_n (s := ‹Shared›) ?_); intro _; (try k_fold)))
  k_with "exec If BoolOp cons nil" => (((fail_if_success (with_reducible show wpAny _ _ _ (Cut _ _) _ _)); refine Hold.out ?_))
  k_with "out" => (repeat (first | (k_unfold; (try dsimp only)) | refine cut_ret ?_ | refine turn_ret ?_))
  k_with "go" => ((w_top off; repeat' (first | (k_unfold; (try dsimp only)) | walk1 | (dsimp only; walk1))))
  k_with "call ref" => (((with_reducible show wpAny _ _ (call (Value.ref 136) _ _) _ _ _); refine wpAny_call ?_; refine Hold.out ?_))
  have e : lamParts = lamParts := rfl
  conv at e => rhs; whnf
  rw [lamObj, e] at hf
  have ha := (hN _ (.head _)).1
  refine enterE (binds := [(Str.ofString "size", .int 1 t2)]) _ G hb hN hf hc (by show dp < _; exact dlt0 hd) rfl (locs rfl) (by decide) ?_
  intro g L h₁ tk F N X T hg
  have g1 := hg _ _ h1 (by simp only [List.map_cons, List.map_nil, List.mem_singleton]; exact ne_obj h1 ha (by rw [d1]; nofun))
  have g2 := hg _ _ h2 (by simp only [List.map_cons, List.map_nil, List.mem_singleton]; exact ne_obj h2 ha (by rw [d2]; nofun))
  walk_at "go"
  refine Hold.in (take_c ⟨X, T⟩ (Fr.keep (by k_asm)) (led_of (by k_asm) (by kcj_all)) (by show dp + 1 + 8 < _; exact dlt hd (by decide)) ht ?_)
  intro h' tk' t' t'' E'
  obtain ⟨F', N'⟩ := E'.out (mu := [(_, _)]) (rest := []) (by k_asm) (by k_asm) rfl ⟨trivial, trivial⟩
  dsimp only
  walk_at "out"
  exact hR _ _ _ _ (ends_of F' N' hg)
/-- a lexer: where its parts lie, and what of it stays -/
structure Lx where
  x : Nat
  d : Nat
  fn : Nat
  ct : Nat
  ca : Nat
  at_ : Nat
  pb : Nat
  cc : Nat
  text : Str
  tt : Tok
  u1 : Tok
  u2 : Tok
  u3 : Tok
  u4 : Tok
  u5 : Tok
  v3 : Tok
  pm : Value
  ctv : Value
  o1 : Obj
  o2 : Obj
  oc : Obj
noncomputable abbrev Lx.D (w : World) (c : Lx) (line : Int) (v1 : Tok) : Obj :=
  dictOf [en w "lineno" c.u1 (.int line v1), en w "instream" c.u2 (.ref c.x), en w "whitespace" c.u3 (.str wsText c.v3), en w "pushback" c.u4 (.ref c.pb), en w "read" c.u5 (.ref c.fn)] 5
noncomputable abbrev Lx.ro (c : Lx) : List (Addr × Obj) := [(c.x, instObj 59 c.d), (c.fn, lamObj c.ct c.ca c.cc c.pm c.ctv), (c.ct, c.o1), (c.ca, c.o2), (c.cc, c.oc)]
structure Lx.Ok (c : Lx) : Prop where
  d1 : c.o1.data = .cell (some (.str c.text c.tt))
  d2 : c.o2.data = .cell (some (.ref c.at_))
  dc : ∃ vs t, c.oc.data = .fields vs ∧ vs[1]? = some (.str lamQual t)
  ne : @Ne Nat c.at_ c.pb
  len : c.text.length ≤ 1048576
/-- the lexer's unchanging part stands in a heap -/
noncomputable def Lx.At (c : Lx) (h : Heap) : Prop := ∀ p ∈ c.ro, h.get? p.1 = some p.2
theorem Lx.At.keeps {c : Lx} {h h' : Heap} (x : c.At h) (k : ∀ b o, h.get? b = some o → h'.get? b = some o) : c.At h' := fun p hp => k _ _ (x p hp)
theorem Lx.At.rec {c : Lx} {h : Heap} (x : c.At h) (o : c.Ok) : h.CodeRec (.ref c.cc) lamQual := by
  obtain ⟨vs, t, e1, e2⟩ := o.dc
  exact ⟨_, _, vs, t, rfl, x (c.cc, c.oc) (.tail _ (.tail _ (.tail _ (.tail _ (.head _))))), e1, e2⟩
noncomputable abbrev chAt (text : Str) (i : Nat) : Str := Txt.slice text (some i) (some (i + 1))
noncomputable def nlOf (ch : Str) : Int := if (ch == Str.ofString "\n") = true then 1 else 0
set_option maxRecDepth 100000 in
set_option maxHeartbeats 8000000 in
theorem readchar_c {c : Lx} {line : Int} {v1 ti : Tok} {i n : Nat} (G : Gd (Mine.hd.heap_1 w.params) lo mean mg mb b₀) (hb : Over b₀ s.heap) (hN : Led b₀ s.heap [(c.d, c.D w line v1), (c.at_, listOf #[.int i ti] n)]) (hA : c.At s.heap) (ok : c.Ok)
    (hd : dp + 28 < recursionLimit)
    (hR : ∀ h' tk' t' v1' ti', Ends s.heap h' [c.d, c.at_] [(c.d, c.D w (line + nlOf (chAt c.text i)) v1'), (c.at_, listOf #[.int (i + (chAt c.text i).length) ti'] n)] → R (.ok (.ret (.str (chAt c.text i) t'))) { s with heap := h', toks := tk' }) :
    codeAny (model P w) (Ar dp fr gd un) (.call (.ref 42) ⟨[.ref c.x], []⟩) R s := by
  k_with_none
  k_with "ne" => ((first | with_reducible assumption | exact Ne.symm (by with_reducible assumption) | exact Nat.ne_of_lt (by with_reducible assumption) | exact Nat.ne_of_gt (by with_reducible assumption) | (refine Nat.ne_of_lt ?_; (repeat (first | exact Nat.lt_succ_self _ | with_reducible assumption | refine Nat.lt_succ_of_lt ?_)); done) | (refine Nat.ne_of_gt ?_; (repeat (first | exact Nat.lt_succ_self _ | with_reducible assumption | refine Nat.lt_succ_of_lt ?_)); done) | exact Nat.ne_of_lt (And.left (by with_reducible assumption)) | exact Nat.ne_of_gt (And.left (by with_reducible assumption)) | exact (And.left (by with_reducible assumption)) | exact Ne.symm (And.left (by with_reducible assumption)) | exact Nat.ne_of_lt (And.left (And.right (by with_reducible assumption))) | exact Nat.ne_of_lt (And.right (by with_reducible assumption)) | exact Nat.ne_of_gt (And.left (And.right (by with_reducible assumption))) | exact Nat.ne_of_gt (And.right (by with_reducible assumption)) | exact (And.left (And.right (by with_reducible assumption))) | exact Ne.symm (And.left (And.right (by with_reducible assumption))) | exact (And.right (by with_reducible assumption)) | exact Ne.symm (And.right (by with_reducible assumption)) | exact Nat.ne_of_lt (And.left (And.right (And.right (by with_reducible assumption)))) | exact Nat.ne_of_lt (And.right (And.right (by with_reducible assumption))) | exact Nat.ne_of_gt (And.left (And.right (And.right (by with_reducible assumption)))) | exact Nat.ne_of_gt (And.right (And.right (by with_reducible assumption))) | exact (And.left (And.right (And.right (by with_reducible assumption)))) | exact Ne.symm (And.left (And.right (And.right (by with_reducible assumption)))) | exact (And.right (And.right (by with_reducible assumption))) | exact Ne.symm (And.right (And.right (by with_reducible assumption))) | exact Nat.ne_of_lt (And.left (And.right (And.right (And.right (by with_reducible assumption))))) | exact Nat.ne_of_lt (And.right (And.right (And.right (by with_reducible assumption)))) | exact Nat.ne_of_gt (And.left (And.right (And.right (And.right (by with_reducible assumption))))) | exact Nat.ne_of_gt (And.right (And.right (And.right (by with_reducible assumption)))) | exact (And.left (And.right (And.right (And.right (by with_reducible assumption))))) | exact Ne.symm (And.left (And.right (And.right (And.right (by with_reducible assumption))))) | exact (And.right (And.right (And.right (by with_reducible assumption)))) | exact Ne.symm (And.right (And.right (And.right (by with_reducible assumption)))) | exact Nat.ne_of_lt (And.left (And.right (And.right (And.right (And.right (by with_reducible assumption)))))) | exact Nat.ne_of_lt (And.right (And.right (And.right (And.right (by with_reducible assumption))))) | exact Nat.ne_of_gt (And.left (And.right (And.right (And.right (And.right (by with_reducible assumption)))))) | exact Nat.ne_of_gt (And.right (And.right (And.right (And.right (by with_reducible assumption))))) | exact (And.left (And.right (And.right (And.right (And.right (by with_reducible assumption)))))) | exact Ne.symm (And.left (And.right (And.right (And.right (And.right (by with_reducible assumption)))))) | exact (And.right (And.right (And.right (And.right (by with_reducible assumption))))) | exact Ne.symm (And.right (And.right (And.right (And.right (by with_reducible assumption))))) | exact Nat.ne_of_lt (And.left (And.right (And.right (And.right (And.right (And.right (by with_reducible assumption))))))) | exact Nat.ne_of_lt (And.right (And.right (And.right (And.right (And.right (by with_reducible assumption)))))) | exact Nat.ne_of_gt (And.left (And.right (And.right (And.right (And.right (And.right (by with_reducible assumption))))))) | exact Nat.ne_of_gt (And.right (And.right (And.right (And.right (And.right (by with_reducible assumption)))))) | exact (And.left (And.right (And.right (And.right (And.right (And.right (by with_reducible assumption))))))) | exact Ne.symm (And.left (And.right (And.right (And.right (And.right (And.right (by with_reducible assumption))))))) | exact (And.right (And.right (And.right (And.right (And.right (by with_reducible assumption)))))) | exact Ne.symm (And.right (And.right (And.right (And.right (And.right (by with_reducible assumption)))))) | exact Nat.ne_of_lt (And.left (And.right (And.right (And.right (And.right (And.right (And.right (by with_reducible assumption)))))))) | exact Nat.ne_of_lt (And.right (And.right (And.right (And.right (And.right (And.right (by with_reducible assumption))))))) | exact Nat.ne_of_gt (And.left (And.right (And.right (And.right (And.right (And.right (And.right (by with_reducible assumption)))))))) | exact Nat.ne_of_gt (And.right (And.right (And.right (And.right (And.right (And.right (by with_reducible assumption))))))) | exact (And.left (And.right (And.right (And.right (And.right (And.right (And.right (by with_reducible assumption)))))))) | exact Ne.symm (And.left (And.right (And.right (And.right (And.right (And.right (And.right (by with_reducible assumption)))))))) | exact (And.right (And.right (And.right (And.right (And.right (And.right (by with_reducible assumption))))))) | exact Ne.symm (And.right (And.right (And.right (And.right (And.right (And.right (by with_reducible assumption))))))) | exact Nat.ne_of_lt (And.left (And.right (And.right (And.right (And.right (And.right (And.right (And.right (by with_reducible assumption))))))))) | exact Nat.ne_of_lt (And.right (And.right (And.right (And.right (And.right (And.right (And.right (by with_reducible assumption)))))))) | exact Nat.ne_of_gt (And.left (And.right (And.right (And.right (And.right (And.right (And.right (And.right (by with_reducible assumption))))))))) | exact Nat.ne_of_gt (And.right (And.right (And.right (And.right (And.right (And.right (And.right (by with_reducible assumption)))))))) | exact (And.left (And.right (And.right (And.right (And.right (And.right (And.right (And.right (by with_reducible assumption))))))))) | exact Ne.symm (And.left (And.right (And.right (And.right (And.right (And.right (And.right (And.right (by with_reducible assumption))))))))) | exact (And.right (And.right (And.right (And.right (And.right (And.right (And.right (by with_reducible assumption)))))))) | exact Ne.symm (And.right (And.right (And.right (And.right (And.right (And.right (And.right (by with_reducible assumption)))))))) | exact Nat.ne_of_lt (And.left (And.right (And.right (And.right (And.right (And.right (And.right (And.right (And.right (by with_reducible assumption)))))))))) | exact Nat.ne_of_lt (And.right (And.right (And.right (And.right (And.right (And.right (And.right (And.right (by with_reducible assumption))))))))) | exact Nat.ne_of_gt (And.left (And.right (And.right (And.right (And.right (And.right (And.right (And.right (And.right (by with_reducible assumption)))))))))) | exact Nat.ne_of_gt (And.right (And.right (And.right (And.right (And.right (And.right (And.right (And.right (by with_reducible assumption))))))))) | exact (And.left (And.right (And.right (And.right (And.right (And.right (And.right (And.right (And.right (by with_reducible assumption)))))))))) | exact Ne.symm (And.left (And.right (And.right (And.right (And.right (And.right (And.right (And.right (And.right (by with_reducible assumption)))))))))) | exact (And.right (And.right (And.right (And.right (And.right (And.right (And.right (And.right (by with_reducible assumption))))))))) | exact Ne.symm (And.right (And.right (And.right (And.right (And.right (And.right (And.right (And.right (by with_reducible assumption))))))))) | exact Nat.ne_of_lt (And.left (And.right (And.right (And.right (And.right (And.right (And.right (And.right (And.right (And.right (by with_reducible assumption))))))))))) | exact Nat.ne_of_lt (And.right (And.right (And.right (And.right (And.right (And.right (And.right (And.right (And.right (by with_reducible assumption)))))))))) | exact Nat.ne_of_gt (And.left (And.right (And.right (And.right (And.right (And.right (And.right (And.right (And.right (And.right (by with_reducible assumption))))))))))) | exact Nat.ne_of_gt (And.right (And.right (And.right (And.right (And.right (And.right (And.right (And.right (And.right (by with_reducible assumption)))))))))) | exact (And.left (And.right (And.right (And.right (And.right (And.right (And.right (And.right (And.right (And.right (by with_reducible assumption))))))))))) | exact Ne.symm (And.left (And.right (And.right (And.right (And.right (And.right (And.right (And.right (And.right (And.right (by with_reducible assumption))))))))))) | exact (And.right (And.right (And.right (And.right (And.right (And.right (And.right (And.right (And.right (by with_reducible assumption)))))))))) | exact Ne.symm (And.right (And.right (And.right (And.right (And.right (And.right (And.right (And.right (And.right (by with_reducible assumption)))))))))) | exact Nat.ne_of_lt (And.left (And.right (And.right (And.right (And.right (And.right (And.right (And.right (And.right (And.right (And.right (by with_reducible assumption)))))))))))) | exact Nat.ne_of_lt (And.right (And.right (And.right (And.right (And.right (And.right (And.right (And.right (And.right (And.right (by with_reducible assumption))))))))))) | exact Nat.ne_of_gt (And.left (And.right (And.right (And.right (And.right (And.right (And.right (And.right (And.right (And.right (And.right (by with_reducible assumption)))))))))))) | exact Nat.ne_of_gt (And.right (And.right (And.right (And.right (And.right (And.right (And.right (And.right (And.right (And.right (by with_reducible assumption))))))))))) | exact (And.left (And.right (And.right (And.right (And.right (And.right (And.right (And.right (And.right (And.right (And.right (by with_reducible assumption)))))))))))) | exact Ne.symm (And.left (And.right (And.right (And.right (And.right (And.right (And.right (And.right (And.right (And.right (And.right (by with_reducible assumption)))))))))))) | exact (And.right (And.right (And.right (And.right (And.right (And.right (And.right (And.right (And.right (And.right (by with_reducible assumption))))))))))) | exact Ne.symm (And.right (And.right (And.right (And.right (And.right (And.right (And.right (And.right (And.right (And.right (by with_reducible assumption)))))))))))))
  k_with "exec For Name Attribute cons nil" => (k_dflt (refine for_exec ?_))
  k_with "exec For Name Name cons nil" => (k_dflt (refine for_exec ?_))
  k_with "exec For Name Call cons nil" => (k_dflt (refine for_exec ?_))
  k_with "call type:tuple" => ((k_here; (with_reducible show wpAny _ _ (call (Value.type _) [Value.ref _]) _ _ _); k_dflt (refine' tupleOf_c (by k_asm) (by k_asm) (by k_mem) (by ((have hL9 := IntsAre.length (by assumption)); rw [sizeLine_eq]; omega)) ?_; k_whole); intro _ _ _ _ l19q; (try k_lt l19q); (try k_sweep)))
  k_with "call builtin:len" => ((k_here; (with_reducible show wpAny _ _ (call (Value.builtin "len") [Value.ref _]) _ _ _); k_dflt (refine' len_tupI (by k_asm) (by with_reducible assumption) (by with_reducible assumption) (by omega) ?_; k_whole); intro _ _))
  k_with "execs cons" => ((k_dflt (refine execs_n (s := ‹Shared›) ?_); intro _; (try k_fold)))
  k_with "exec If BoolOp cons nil" => (((fail_if_success (with_reducible show wpAny _ _ _ (Cut _ _) _ _)); refine Hold.out ?_))
  k_with "out" => (repeat (first | (k_unfold; (try dsimp only)) | refine cut_ret ?_ | refine turn_ret ?_))
  k_with "go" => ((w_top off; repeat' (first | (k_unfold; (try dsimp only)) | walk1 | (dsimp only; walk1))))
  k_with "call ref" => (((with_reducible show wpAny _ _ (call (Value.ref 136) _ _) _ _ _); refine wpAny_call ?_; refine Hold.out ?_))
  k_with "callWith ref" => (((with_reducible show wpAny _ _ (callWith _ (Value.ref (Lx.fn _)) _ _ _) _ _ _); refine Hold.out ?_))
  k_with "call ref" => (((with_reducible show wpAny _ _ (call (Value.ref (Lx.fn _)) _ _) _ _ _); refine Hold.out ?_))
  have hdd := (hN _ (.head _)).1
  have hat := (hN _ (.tail _ (.head _))).1
  have nda : @Ne Nat c.d c.at_ := ne_obj hdd hat nofun
  refine enter (binds := [(Str.ofString "self", .ref c.x)]) _ G hb hN (by k_is) (by k_is) (by show dp < _; exact dlt0 hd) (BindsTo.of_eq rfl) (locs rfl) (by decide) ?_
  intro g L h₁ tk F N X T hg
  have hAg : c.At g := by
    intro p hp
    refine hg _ _ (hA p hp) ?_
    simp only [List.map_cons, List.map_nil, List.mem_cons, List.not_mem_nil, or_false, not_or]
    have hp2 := hA p hp
    simp only [Lx.ro, List.mem_cons, List.not_mem_nil, or_false] at hp
    rcases hp with rfl | rfl | rfl | rfl | rfl
    · exact ⟨ne_obj hp2 hdd nofun, ne_obj hp2 hat nofun⟩
    · exact ⟨ne_obj hp2 hdd nofun, ne_obj hp2 hat nofun⟩
    · exact ⟨ne_obj hp2 hdd (by rw [ok.d1]; nofun), ne_obj hp2 hat (by rw [ok.d1]; nofun)⟩
    · exact ⟨ne_obj hp2 hdd (by rw [ok.d2]; nofun), ne_obj hp2 hat (by rw [ok.d2]; nofun)⟩
    · obtain ⟨vs, t, e1, e2⟩ := ok.dc
      exact ⟨ne_obj hp2 hdd (by rw [e1]; nofun), ne_obj hp2 hat (by rw [e1]; nofun)⟩
  have gx : g.get? c.x = some (instObj 59 c.d) := hAg _ (.head _)
  walk_at "go"
  refine Hold.in ?_
  dsimp only
  refine callWith_g (lamObj c.ct c.ca c.cc c.pm c.ctv) rfl ?_
  walk_at "go"
  · exact Fr.keep (by k_asm) _ _ (hAg _ (.tail _ (.head _)))
  · refine Hold.in ?_
    (try dsimp only [List.nil_append])
    refine wpAny_call (lam_c (fn := c.fn) (ct := c.ct) (ca := c.ca) (cc := c.cc) (a := c.at_) (i := i) (n := n) ⟨X, T⟩ (Fr.keep (by k_asm)) (led_of (by k_asm) (by kcj_all)) (Fr.keep (by k_asm) _ _ (hAg _ (.tail _ (.head _)))) (Fr.keep (by k_asm) _ _ (hAg _ (.tail _ (.tail _ (.head _))))) ok.d1
      (Fr.keep (by k_asm) _ _ (hAg _ (.tail _ (.tail _ (.tail _ (.head _)))))) ok.d2 ((hAg.keeps (Fr.keep (by k_asm))).rec ok) (by show dp + 1 + 18 < _; exact dlt hd (by decide)) ok.len ?_)
    intro h' tk' t' t'' E'
    obtain ⟨F', N'⟩ := E'.out (mu := [(_, _)]) (rest := [(c.d, c.D w line v1)]) (by k_asm) (news_sub (by k_asm) (by kcj_all)) rfl (by repeat' (first | exact trivial | refine And.intro ?_ ?_ | assumption | exact Ne.symm (by assumption) | (show @Ne Nat _ _; k_ne)))
    clear E'
    simp only [List.cons_append, List.nil_append] at N'
    k_sweep
    dsimp only
    walk_at "go"
    · have e : nlOf (chAt c.text i) = 1 := if_pos (by assumption)
      simp only [e] at hR
      exact hR _ _ _ _ _ (ends_of (by k_asm) (news_sub (by k_asm) (by kcj_all)) hg)
    · have e : nlOf (chAt c.text i) = 0 := if_neg (by rw [(by assumption : (chAt c.text i == Str.ofString "\n") = false)]; exact Bool.false_ne_true)
      simp only [e, Int.add_zero] at hR
      exact hR _ _ _ _ _ (ends_of (by k_asm) (news_sub (by k_asm) (by kcj_all)) hg)
end
section
variable {w : World} {lo : List Str} {mean : ExcName → Option Value} {mg mb : Str → Option Value} {b₀ : Heap} {dp un : Nat} {fr : Option (List Env)} {gd : Option (List Code)} {s : Shared} {R : Result → Shared → Prop}
noncomputable def lamPos : Pos := match ((Challenge.pw_pe0167_02.main.body : List Stmt)[7]? : Option Stmt) with
  | some (.FunctionDef _ _ (_ :: _ :: (.Assign _ (.Lambda _ _ _ p) _) :: _) _ _ _ _ _ _ _) => p
  | _ => default
/-- the lexer's changing part: the line's number, the place in the text, what waits -/
noncomputable abbrev Lx.mu (w : World) (c : Lx) (line : Int) (v1 : Tok) (i : Nat) (ti : Tok) (pend : List Value) (ep : Nat) : List (Addr × Obj) := [(c.d, c.D w line v1), (c.at_, listOf #[.int i ti] 0), (c.pb, listOf pend.toArray ep)]
set_option maxRecDepth 100000 in
set_option maxHeartbeats 8000000 in
theorem lexer1_c {text : Str} {t1 : Tok} (G : Gd (Mine.hd.heap_1 w.params) lo mean mg mb b₀) (hb : Over b₀ s.heap) (hN : Led b₀ s.heap [(138, tabObj #[])]) (hC : CodeHd b₀ 142 138)
    (hd : dp + 18 < recursionLimit) (ht : text.length ≤ 1048576)
    (hR : ∀ h' tk' (c : Lx) v1 ti ps, Ends s.heap h' [138] (c.mu w 1 v1 0 ti [] 0 ++ (c.ro ++ [(138, tabObj ps)])) → c.Ok → c.text = text → TriplesOk ps.toList → codeAmong lamPos ps.toList = some (.ref c.cc) → R (.ok (.ret (.ref c.x))) { s with heap := h', toks := tk' }) :
    codeAny (model P w) (Ar dp fr gd un) (.call (.ref 143) ⟨[.str text t1], []⟩) R s := by
  k_with_none
  k_with "ne" => ((first | with_reducible assumption | exact Ne.symm (by with_reducible assumption) | exact Nat.ne_of_lt (by with_reducible assumption) | exact Nat.ne_of_gt (by with_reducible assumption) | (refine Nat.ne_of_lt ?_; (repeat (first | exact Nat.lt_succ_self _ | with_reducible assumption | refine Nat.lt_succ_of_lt ?_)); done) | (refine Nat.ne_of_gt ?_; (repeat (first | exact Nat.lt_succ_self _ | with_reducible assumption | refine Nat.lt_succ_of_lt ?_)); done) | exact Nat.ne_of_lt (And.left (by with_reducible assumption)) | exact Nat.ne_of_gt (And.left (by with_reducible assumption)) | exact (And.left (by with_reducible assumption)) | exact Ne.symm (And.left (by with_reducible assumption)) | exact Nat.ne_of_lt (And.left (And.right (by with_reducible assumption))) | exact Nat.ne_of_lt (And.right (by with_reducible assumption)) | exact Nat.ne_of_gt (And.left (And.right (by with_reducible assumption))) | exact Nat.ne_of_gt (And.right (by with_reducible assumption)) | exact (And.left (And.right (by with_reducible assumption))) | exact Ne.symm (And.left (And.right (by with_reducible assumption))) | exact (And.right (by with_reducible assumption)) | exact Ne.symm (And.right (by with_reducible assumption)) | exact Nat.ne_of_lt (And.left (And.right (And.right (by with_reducible assumption)))) | exact Nat.ne_of_lt (And.right (And.right (by with_reducible assumption))) | exact Nat.ne_of_gt (And.left (And.right (And.right (by with_reducible assumption)))) | exact Nat.ne_of_gt (And.right (And.right (by with_reducible assumption))) | exact (And.left (And.right (And.right (by with_reducible assumption)))) | exact Ne.symm (And.left (And.right (And.right (by with_reducible assumption)))) | exact (And.right (And.right (by with_reducible assumption))) | exact Ne.symm (And.right (And.right (by with_reducible assumption))) | exact Nat.ne_of_lt (And.left (And.right (And.right (And.right (by with_reducible assumption))))) | exact Nat.ne_of_lt (And.right (And.right (And.right (by with_reducible assumption)))) | exact Nat.ne_of_gt (And.left (And.right (And.right (And.right (by with_reducible assumption))))) | exact Nat.ne_of_gt (And.right (And.right (And.right (by with_reducible assumption)))) | exact (And.left (And.right (And.right (And.right (by with_reducible assumption))))) | exact Ne.symm (And.left (And.right (And.right (And.right (by with_reducible assumption))))) | exact (And.right (And.right (And.right (by with_reducible assumption)))) | exact Ne.symm (And.right (And.right (And.right (by with_reducible assumption)))) | exact Nat.ne_of_lt (And.left (And.right (And.right (And.right (And.right (by with_reducible assumption)))))) | exact Nat.ne_of_lt (And.right (And.right (And.right (And.right (by with_reducible assumption))))) | exact Nat.ne_of_gt (And.left (And.right (And.right (And.right (And.right (by with_reducible assumption)))))) | exact Nat.ne_of_gt (And.right (And.right (And.right (And.right (by with_reducible assumption))))) | exact (And.left (And.right (And.right (And.right (And.right (by with_reducible assumption)))))) | exact Ne.symm (And.left (And.right (And.right (And.right (And.right (by with_reducible assumption)))))) | exact (And.right (And.right (And.right (And.right (by with_reducible assumption))))) | exact Ne.symm (And.right (And.right (And.right (And.right (by with_reducible assumption))))) | exact Nat.ne_of_lt (And.left (And.right (And.right (And.right (And.right (And.right (by with_reducible assumption))))))) | exact Nat.ne_of_lt (And.right (And.right (And.right (And.right (And.right (by with_reducible assumption)))))) | exact Nat.ne_of_gt (And.left (And.right (And.right (And.right (And.right (And.right (by with_reducible assumption))))))) | exact Nat.ne_of_gt (And.right (And.right (And.right (And.right (And.right (by with_reducible assumption)))))) | exact (And.left (And.right (And.right (And.right (And.right (And.right (by with_reducible assumption))))))) | exact Ne.symm (And.left (And.right (And.right (And.right (And.right (And.right (by with_reducible assumption))))))) | exact (And.right (And.right (And.right (And.right (And.right (by with_reducible assumption)))))) | exact Ne.symm (And.right (And.right (And.right (And.right (And.right (by with_reducible assumption)))))) | exact Nat.ne_of_lt (And.left (And.right (And.right (And.right (And.right (And.right (And.right (by with_reducible assumption)))))))) | exact Nat.ne_of_lt (And.right (And.right (And.right (And.right (And.right (And.right (by with_reducible assumption))))))) | exact Nat.ne_of_gt (And.left (And.right (And.right (And.right (And.right (And.right (And.right (by with_reducible assumption)))))))) | exact Nat.ne_of_gt (And.right (And.right (And.right (And.right (And.right (And.right (by with_reducible assumption))))))) | exact (And.left (And.right (And.right (And.right (And.right (And.right (And.right (by with_reducible assumption)))))))) | exact Ne.symm (And.left (And.right (And.right (And.right (And.right (And.right (And.right (by with_reducible assumption)))))))) | exact (And.right (And.right (And.right (And.right (And.right (And.right (by with_reducible assumption))))))) | exact Ne.symm (And.right (And.right (And.right (And.right (And.right (And.right (by with_reducible assumption))))))) | exact Nat.ne_of_lt (And.left (And.right (And.right (And.right (And.right (And.right (And.right (And.right (by with_reducible assumption))))))))) | exact Nat.ne_of_lt (And.right (And.right (And.right (And.right (And.right (And.right (And.right (by with_reducible assumption)))))))) | exact Nat.ne_of_gt (And.left (And.right (And.right (And.right (And.right (And.right (And.right (And.right (by with_reducible assumption))))))))) | exact Nat.ne_of_gt (And.right (And.right (And.right (And.right (And.right (And.right (And.right (by with_reducible assumption)))))))) | exact (And.left (And.right (And.right (And.right (And.right (And.right (And.right (And.right (by with_reducible assumption))))))))) | exact Ne.symm (And.left (And.right (And.right (And.right (And.right (And.right (And.right (And.right (by with_reducible assumption))))))))) | exact (And.right (And.right (And.right (And.right (And.right (And.right (And.right (by with_reducible assumption)))))))) | exact Ne.symm (And.right (And.right (And.right (And.right (And.right (And.right (And.right (by with_reducible assumption)))))))) | exact Nat.ne_of_lt (And.left (And.right (And.right (And.right (And.right (And.right (And.right (And.right (And.right (by with_reducible assumption)))))))))) | exact Nat.ne_of_lt (And.right (And.right (And.right (And.right (And.right (And.right (And.right (And.right (by with_reducible assumption))))))))) | exact Nat.ne_of_gt (And.left (And.right (And.right (And.right (And.right (And.right (And.right (And.right (And.right (by with_reducible assumption)))))))))) | exact Nat.ne_of_gt (And.right (And.right (And.right (And.right (And.right (And.right (And.right (And.right (by with_reducible assumption))))))))) | exact (And.left (And.right (And.right (And.right (And.right (And.right (And.right (And.right (And.right (by with_reducible assumption)))))))))) | exact Ne.symm (And.left (And.right (And.right (And.right (And.right (And.right (And.right (And.right (And.right (by with_reducible assumption)))))))))) | exact (And.right (And.right (And.right (And.right (And.right (And.right (And.right (And.right (by with_reducible assumption))))))))) | exact Ne.symm (And.right (And.right (And.right (And.right (And.right (And.right (And.right (And.right (by with_reducible assumption))))))))) | exact Nat.ne_of_lt (And.left (And.right (And.right (And.right (And.right (And.right (And.right (And.right (And.right (And.right (by with_reducible assumption))))))))))) | exact Nat.ne_of_lt (And.right (And.right (And.right (And.right (And.right (And.right (And.right (And.right (And.right (by with_reducible assumption)))))))))) | exact Nat.ne_of_gt (And.left (And.right (And.right (And.right (And.right (And.right (And.right (And.right (And.right (And.right (by with_reducible assumption))))))))))) | exact Nat.ne_of_gt (And.right (And.right (And.right (And.right (And.right (And.right (And.right (And.right (And.right (by with_reducible assumption)))))))))) | exact (And.left (And.right (And.right (And.right (And.right (And.right (And.right (And.right (And.right (And.right (by with_reducible assumption))))))))))) | exact Ne.symm (And.left (And.right (And.right (And.right (And.right (And.right (And.right (And.right (And.right (And.right (by with_reducible assumption))))))))))) | exact (And.right (And.right (And.right (And.right (And.right (And.right (And.right (And.right (And.right (by with_reducible assumption)))))))))) | exact Ne.symm (And.right (And.right (And.right (And.right (And.right (And.right (And.right (And.right (And.right (by with_reducible assumption)))))))))) | exact Nat.ne_of_lt (And.left (And.right (And.right (And.right (And.right (And.right (And.right (And.right (And.right (And.right (And.right (by with_reducible assumption)))))))))))) | exact Nat.ne_of_lt (And.right (And.right (And.right (And.right (And.right (And.right (And.right (And.right (And.right (And.right (by with_reducible assumption))))))))))) | exact Nat.ne_of_gt (And.left (And.right (And.right (And.right (And.right (And.right (And.right (And.right (And.right (And.right (And.right (by with_reducible assumption)))))))))))) | exact Nat.ne_of_gt (And.right (And.right (And.right (And.right (And.right (And.right (And.right (And.right (And.right (And.right (by with_reducible assumption))))))))))) | exact (And.left (And.right (And.right (And.right (And.right (And.right (And.right (And.right (And.right (And.right (And.right (by with_reducible assumption)))))))))))) | exact Ne.symm (And.left (And.right (And.right (And.right (And.right (And.right (And.right (And.right (And.right (And.right (And.right (by with_reducible assumption)))))))))))) | exact (And.right (And.right (And.right (And.right (And.right (And.right (And.right (And.right (And.right (And.right (by with_reducible assumption))))))))))) | exact Ne.symm (And.right (And.right (And.right (And.right (And.right (And.right (And.right (And.right (And.right (And.right (by with_reducible assumption)))))))))))))
  k_with "exec For Name Attribute cons nil" => (k_dflt (refine for_exec ?_))
  k_with "exec For Name Name cons nil" => (k_dflt (refine for_exec ?_))
  k_with "exec For Name Call cons nil" => (k_dflt (refine for_exec ?_))
  k_with "call type:tuple" => ((k_here; (with_reducible show wpAny _ _ (call (Value.type _) [Value.ref _]) _ _ _); k_dflt (refine' tupleOf_c (by k_asm) (by k_asm) (by k_mem) (by ((have hL9 := IntsAre.length (by assumption)); rw [sizeLine_eq]; omega)) ?_; k_whole); intro _ _ _ _ l19q; (try k_lt l19q); (try k_sweep)))
  k_with "call builtin:len" => ((k_here; (with_reducible show wpAny _ _ (call (Value.builtin "len") [Value.ref _]) _ _ _); k_dflt (refine' len_tupI (by k_asm) (by with_reducible assumption) (by with_reducible assumption) (by omega) ?_; k_whole); intro _ _))
  k_with "execs cons" => ((k_dflt (refine execs_n (s := ‹Shared›) ?_); intro _; (try k_fold)))
  k_with "exec If BoolOp cons nil" => (((fail_if_success (with_reducible show wpAny _ _ _ (Cut _ _) _ _)); refine Hold.out ?_))
  k_with "out" => (repeat (first | (k_unfold; (try dsimp only)) | refine cut_ret ?_ | refine turn_ret ?_))
  k_with "go" => ((w_top off; repeat' (first | (k_unfold; (try dsimp only)) | walk1 | (dsimp only; walk1))))
  k_with "call ref" => (((with_reducible show wpAny _ _ (call (Value.ref 59) _ _) _ _ _); k_dflt (refine' call_cls (by k_asm) (by k_asm) (by k_asm) (by k_is) (by k_is) (by k_is) ?_; k_whole; intro _ _ _ _ _ l19q l29q; (try k_lt l19q); (try k_lt2 l29q); (try k_sweep))))
  have hC' : CodeHd (hideAll s.heap [138]) 142 138 := by
    refine hC.keeps fun b o e => hideAll_get _ (hb b o e) fun q => ?_
    rw [List.mem_singleton.mp q, (hN _ (.head _)).2] at e; cases e
  refine enterC (binds := [(Str.ofString "text", .str text t1)]) _ G hb hN (by k_is) (by k_is) (by show dp < _; exact dlt0 hd) (BindsTo.of_eq rfl) rfl (by decide +kernel) ?_
  intro g L h₁ tk cells F N Y X T l1 hg
  k_cells Y
  simp only [List.cons_append, List.nil_append] at N
  have hCg : CodeHd g 142 138 := hC'.keeps fun b o e => hg b o (of_hideAll _ e) (by intro q; rw [show b = 138 by simpa using q, hideAll_none _ (.head _)] at e; cases e)
  k_lt l1
  walk_at "go"
  refine lexinit_c ⟨X, T⟩ (Fr.keep (by k_asm)) (led_of (by k_asm) (by kcj_all)) (by show dp + 1 + 1 + 8 < _; omega) (by omega) ?_
  intro h' tk' pb u1 u2 u3 u4 v1 v3 E' n1 n2
  have n3 := E'.offNew (a := pb) (by k_asm) (.head _) (by simp only [List.mem_cons, List.not_mem_nil, or_false, not_or]; exact ⟨n1, n2⟩)
  simp only [AllNe, and_true] at n3
  obtain ⟨F', N'⟩ := E'.out (mu := [(_, _), (_, _)]) (by k_asm) (by k_asm) rfl (by repeat' (first | exact trivial | refine And.intro ?_ ?_ | assumption | exact Ne.symm (by assumption) | (show @Ne Nat _ _; k_ne)))
  clear E'
  simp only [List.cons_append, List.nil_append] at N'
  k_sweep
  refine ⟨rfl, ?_⟩
  dsimp only
  walk_at "go"
  refine hR _ _ ⟨_, _, _, _, _, _, _, _, text, t1, _, _, _, _, _, _, _, _, _, _, _⟩ _ _ _ (ends_of (by k_asm) (news_sub (by k_asm) (by kcj_all)) hg) ⟨by assumption, by assumption, ⟨_, _, by assumption, by assumption⟩, by dsimp only; omega, ht⟩ rfl ?_ ?_
  · kn_triples
  · have e : lamPos = lamPos := rfl
    conv at e => rhs; whnf
    rw [e]
    kn_hit
local macro_rules | `(tactic| kn_triples) => `(tactic| assumption)
local macro_rules | `(tactic| kn_hit) => `(tactic| assumption)
set_option maxRecDepth 100000 in
set_option maxHeartbeats 8000000 in
theorem lexer2_c {text : Str} {t1 : Tok} {ps : Array Value} {cc : Nat} {oc : Obj} (G : Gd (Mine.hd.heap_1 w.params) lo mean mg mb b₀) (hb : Over b₀ s.heap) (hN : Led b₀ s.heap [(138, tabObj ps), (cc, oc)]) (hps : TriplesOk ps.toList) (hpf : codeAmong lamPos ps.toList = some (.ref cc)) (hoc : ∃ vs t, oc.data = .fields vs ∧ vs[1]? = some (.str lamQual t)) (hnc : @Ne Nat cc 138) (hC : CodeHd b₀ 142 138)
    (hd : dp + 18 < recursionLimit) (ht : text.length ≤ 1048576)
    (hR : ∀ h' tk' (c : Lx) v1 ti, Ends s.heap h' [138, cc] (c.mu w 1 v1 0 ti [] 0 ++ (c.ro ++ [(138, tabObj ps)])) → c.Ok → c.text = text → c.cc = cc → R (.ok (.ret (.ref c.x))) { s with heap := h', toks := tk' }) :
    codeAny (model P w) (Ar dp fr gd un) (.call (.ref 143) ⟨[.str text t1], []⟩) R s := by
  k_with_none
  k_with "ne" => ((first | with_reducible assumption | exact Ne.symm (by with_reducible assumption) | exact Nat.ne_of_lt (by with_reducible assumption) | exact Nat.ne_of_gt (by with_reducible assumption) | (refine Nat.ne_of_lt ?_; (repeat (first | exact Nat.lt_succ_self _ | with_reducible assumption | refine Nat.lt_succ_of_lt ?_)); done) | (refine Nat.ne_of_gt ?_; (repeat (first | exact Nat.lt_succ_self _ | with_reducible assumption | refine Nat.lt_succ_of_lt ?_)); done) | exact Nat.ne_of_lt (And.left (by with_reducible assumption)) | exact Nat.ne_of_gt (And.left (by with_reducible assumption)) | exact (And.left (by with_reducible assumption)) | exact Ne.symm (And.left (by with_reducible assumption)) | exact Nat.ne_of_lt (And.left (And.right (by with_reducible assumption))) | exact Nat.ne_of_lt (And.right (by with_reducible assumption)) | exact Nat.ne_of_gt (And.left (And.right (by with_reducible assumption))) | exact Nat.ne_of_gt (And.right (by with_reducible assumption)) | exact (And.left (And.right (by with_reducible assumption))) | exact Ne.symm (And.left (And.right (by with_reducible assumption))) | exact (And.right (by with_reducible assumption)) | exact Ne.symm (And.right (by with_reducible assumption)) | exact Nat.ne_of_lt (And.left (And.right (And.right (by with_reducible assumption)))) | exact Nat.ne_of_lt (And.right (And.right (by with_reducible assumption))) | exact Nat.ne_of_gt (And.left (And.right (And.right (by with_reducible assumption)))) | exact Nat.ne_of_gt (And.right (And.right (by with_reducible assumption))) | exact (And.left (And.right (And.right (by with_reducible assumption)))) | exact Ne.symm (And.left (And.right (And.right (by with_reducible assumption)))) | exact (And.right (And.right (by with_reducible assumption))) | exact Ne.symm (And.right (And.right (by with_reducible assumption))) | exact Nat.ne_of_lt (And.left (And.right (And.right (And.right (by with_reducible assumption))))) | exact Nat.ne_of_lt (And.right (And.right (And.right (by with_reducible assumption)))) | exact Nat.ne_of_gt (And.left (And.right (And.right (And.right (by with_reducible assumption))))) | exact Nat.ne_of_gt (And.right (And.right (And.right (by with_reducible assumption)))) | exact (And.left (And.right (And.right (And.right (by with_reducible assumption))))) | exact Ne.symm (And.left (And.right (And.right (And.right (by with_reducible assumption))))) | exact (And.right (And.right (And.right (by with_reducible assumption)))) | exact Ne.symm (And.right (And.right (And.right (by with_reducible assumption)))) | exact Nat.ne_of_lt (And.left (And.right (And.right (And.right (And.right (by with_reducible assumption)))))) | exact Nat.ne_of_lt (And.right (And.right (And.right (And.right (by with_reducible assumption))))) | exact Nat.ne_of_gt (And.left (And.right (And.right (And.right (And.right (by with_reducible assumption)))))) | exact Nat.ne_of_gt (And.right (And.right (And.right (And.right (by with_reducible assumption))))) | exact (And.left (And.right (And.right (And.right (And.right (by with_reducible assumption)))))) | exact Ne.symm (And.left (And.right (And.right (And.right (And.right (by with_reducible assumption)))))) | exact (And.right (And.right (And.right (And.right (by with_reducible assumption))))) | exact Ne.symm (And.right (And.right (And.right (And.right (by with_reducible assumption))))) | exact Nat.ne_of_lt (And.left (And.right (And.right (And.right (And.right (And.right (by with_reducible assumption))))))) | exact Nat.ne_of_lt (And.right (And.right (And.right (And.right (And.right (by with_reducible assumption)))))) | exact Nat.ne_of_gt (And.left (And.right (And.right (And.right (And.right (And.right (by with_reducible assumption))))))) | exact Nat.ne_of_gt (And.right (And.right (And.right (And.right (And.right (by with_reducible assumption)))))) | exact (And.left (And.right (And.right (And.right (And.right (And.right (by with_reducible assumption))))))) | exact Ne.symm (And.left (And.right (And.right (And.right (And.right (And.right (by with_reducible assumption))))))) | exact (And.right (And.right (And.right (And.right (And.right (by with_reducible assumption)))))) | exact Ne.symm (And.right (And.right (And.right (And.right (And.right (by with_reducible assumption)))))) | exact Nat.ne_of_lt (And.left (And.right (And.right (And.right (And.right (And.right (And.right (by with_reducible assumption)))))))) | exact Nat.ne_of_lt (And.right (And.right (And.right (And.right (And.right (And.right (by with_reducible assumption))))))) | exact Nat.ne_of_gt (And.left (And.right (And.right (And.right (And.right (And.right (And.right (by with_reducible assumption)))))))) | exact Nat.ne_of_gt (And.right (And.right (And.right (And.right (And.right (And.right (by with_reducible assumption))))))) | exact (And.left (And.right (And.right (And.right (And.right (And.right (And.right (by with_reducible assumption)))))))) | exact Ne.symm (And.left (And.right (And.right (And.right (And.right (And.right (And.right (by with_reducible assumption)))))))) | exact (And.right (And.right (And.right (And.right (And.right (And.right (by with_reducible assumption))))))) | exact Ne.symm (And.right (And.right (And.right (And.right (And.right (And.right (by with_reducible assumption))))))) | exact Nat.ne_of_lt (And.left (And.right (And.right (And.right (And.right (And.right (And.right (And.right (by with_reducible assumption))))))))) | exact Nat.ne_of_lt (And.right (And.right (And.right (And.right (And.right (And.right (And.right (by with_reducible assumption)))))))) | exact Nat.ne_of_gt (And.left (And.right (And.right (And.right (And.right (And.right (And.right (And.right (by with_reducible assumption))))))))) | exact Nat.ne_of_gt (And.right (And.right (And.right (And.right (And.right (And.right (And.right (by with_reducible assumption)))))))) | exact (And.left (And.right (And.right (And.right (And.right (And.right (And.right (And.right (by with_reducible assumption))))))))) | exact Ne.symm (And.left (And.right (And.right (And.right (And.right (And.right (And.right (And.right (by with_reducible assumption))))))))) | exact (And.right (And.right (And.right (And.right (And.right (And.right (And.right (by with_reducible assumption)))))))) | exact Ne.symm (And.right (And.right (And.right (And.right (And.right (And.right (And.right (by with_reducible assumption)))))))) | exact Nat.ne_of_lt (And.left (And.right (And.right (And.right (And.right (And.right (And.right (And.right (And.right (by with_reducible assumption)))))))))) | exact Nat.ne_of_lt (And.right (And.right (And.right (And.right (And.right (And.right (And.right (And.right (by with_reducible assumption))))))))) | exact Nat.ne_of_gt (And.left (And.right (And.right (And.right (And.right (And.right (And.right (And.right (And.right (by with_reducible assumption)))))))))) | exact Nat.ne_of_gt (And.right (And.right (And.right (And.right (And.right (And.right (And.right (And.right (by with_reducible assumption))))))))) | exact (And.left (And.right (And.right (And.right (And.right (And.right (And.right (And.right (And.right (by with_reducible assumption)))))))))) | exact Ne.symm (And.left (And.right (And.right (And.right (And.right (And.right (And.right (And.right (And.right (by with_reducible assumption)))))))))) | exact (And.right (And.right (And.right (And.right (And.right (And.right (And.right (And.right (by with_reducible assumption))))))))) | exact Ne.symm (And.right (And.right (And.right (And.right (And.right (And.right (And.right (And.right (by with_reducible assumption))))))))) | exact Nat.ne_of_lt (And.left (And.right (And.right (And.right (And.right (And.right (And.right (And.right (And.right (And.right (by with_reducible assumption))))))))))) | exact Nat.ne_of_lt (And.right (And.right (And.right (And.right (And.right (And.right (And.right (And.right (And.right (by with_reducible assumption)))))))))) | exact Nat.ne_of_gt (And.left (And.right (And.right (And.right (And.right (And.right (And.right (And.right (And.right (And.right (by with_reducible assumption))))))))))) | exact Nat.ne_of_gt (And.right (And.right (And.right (And.right (And.right (And.right (And.right (And.right (And.right (by with_reducible assumption)))))))))) | exact (And.left (And.right (And.right (And.right (And.right (And.right (And.right (And.right (And.right (And.right (by with_reducible assumption))))))))))) | exact Ne.symm (And.left (And.right (And.right (And.right (And.right (And.right (And.right (And.right (And.right (And.right (by with_reducible assumption))))))))))) | exact (And.right (And.right (And.right (And.right (And.right (And.right (And.right (And.right (And.right (by with_reducible assumption)))))))))) | exact Ne.symm (And.right (And.right (And.right (And.right (And.right (And.right (And.right (And.right (And.right (by with_reducible assumption)))))))))) | exact Nat.ne_of_lt (And.left (And.right (And.right (And.right (And.right (And.right (And.right (And.right (And.right (And.right (And.right (by with_reducible assumption)))))))))))) | exact Nat.ne_of_lt (And.right (And.right (And.right (And.right (And.right (And.right (And.right (And.right (And.right (And.right (by with_reducible assumption))))))))))) | exact Nat.ne_of_gt (And.left (And.right (And.right (And.right (And.right (And.right (And.right (And.right (And.right (And.right (And.right (by with_reducible assumption)))))))))))) | exact Nat.ne_of_gt (And.right (And.right (And.right (And.right (And.right (And.right (And.right (And.right (And.right (And.right (by with_reducible assumption))))))))))) | exact (And.left (And.right (And.right (And.right (And.right (And.right (And.right (And.right (And.right (And.right (And.right (by with_reducible assumption)))))))))))) | exact Ne.symm (And.left (And.right (And.right (And.right (And.right (And.right (And.right (And.right (And.right (And.right (And.right (by with_reducible assumption)))))))))))) | exact (And.right (And.right (And.right (And.right (And.right (And.right (And.right (And.right (And.right (And.right (by with_reducible assumption))))))))))) | exact Ne.symm (And.right (And.right (And.right (And.right (And.right (And.right (And.right (And.right (And.right (And.right (by with_reducible assumption)))))))))))))
  k_with "exec For Name Attribute cons nil" => (k_dflt (refine for_exec ?_))
  k_with "exec For Name Name cons nil" => (k_dflt (refine for_exec ?_))
  k_with "exec For Name Call cons nil" => (k_dflt (refine for_exec ?_))
  k_with "call type:tuple" => ((k_here; (with_reducible show wpAny _ _ (call (Value.type _) [Value.ref _]) _ _ _); k_dflt (refine' tupleOf_c (by k_asm) (by k_asm) (by k_mem) (by ((have hL9 := IntsAre.length (by assumption)); rw [sizeLine_eq]; omega)) ?_; k_whole); intro _ _ _ _ l19q; (try k_lt l19q); (try k_sweep)))
  k_with "call builtin:len" => ((k_here; (with_reducible show wpAny _ _ (call (Value.builtin "len") [Value.ref _]) _ _ _); k_dflt (refine' len_tupI (by k_asm) (by with_reducible assumption) (by with_reducible assumption) (by omega) ?_; k_whole); intro _ _))
  k_with "execs cons" => ((k_dflt (refine execs_n (s := ‹Shared›) ?_); intro _; (try k_fold)))
  k_with "exec If BoolOp cons nil" => (((fail_if_success (with_reducible show wpAny _ _ _ (Cut _ _) _ _)); refine Hold.out ?_))
  k_with "out" => (repeat (first | (k_unfold; (try dsimp only)) | refine cut_ret ?_ | refine turn_ret ?_))
  k_with "go" => ((w_top off; repeat' (first | (k_unfold; (try dsimp only)) | walk1 | (dsimp only; walk1))))
  k_with "call ref" => (((with_reducible show wpAny _ _ (call (Value.ref 59) _ _) _ _ _); k_dflt (refine' call_cls (by k_asm) (by k_asm) (by k_asm) (by k_is) (by k_is) (by k_is) ?_; k_whole; intro _ _ _ _ _ l19q l29q; (try k_lt l19q); (try k_lt2 l29q); (try k_sweep))))
  have hC' : CodeHd (hideAll s.heap [138, cc]) 142 138 := by
    refine hC.keeps fun b o e => hideAll_get _ (hb b o e) fun q => ?_
    rcases List.mem_cons.mp q with q | q
    · rw [q, (hN _ (.head _)).2] at e; cases e
    · rw [List.mem_singleton.mp q, (hN _ (.tail _ (.head _))).2] at e; cases e
  have e : lamPos = lamPos := rfl
  conv at e => rhs; whnf
  rw [e] at hpf
  clear e
  obtain ⟨vsc, tc, hoc1, hoc2⟩ := hoc
  refine enterC (binds := [(Str.ofString "text", .str text t1)]) _ G hb hN (by k_is) (by k_is) (by show dp < _; exact dlt0 hd) (BindsTo.of_eq rfl) rfl (by decide +kernel) ?_
  intro g L h₁ tk cells F N Y X T l1 hg
  k_cells Y
  simp only [List.cons_append, List.nil_append] at N
  have hCg : CodeHd g 142 138 := hC'.keeps fun b o e => hg b o (of_hideAll _ e) (by intro q; rw [hideAll_none [138, cc] (by simpa using q)] at e; cases e)
  k_lt l1
  walk_at "go"
  refine lexinit_c ⟨X, T⟩ (Fr.keep (by k_asm)) (led_of (by k_asm) (by kcj_all)) (by show dp + 1 + 1 + 8 < _; omega) (by omega) ?_
  intro h' tk' pb u1 u2 u3 u4 v1 v3 E' n1 n2
  have n3 := E'.offNew (a := pb) (by k_asm) (.head _) (by simp only [List.mem_cons, List.not_mem_nil, or_false, not_or]; exact ⟨n1, n2⟩)
  simp only [AllNe, and_true] at n3
  obtain ⟨F', N'⟩ := E'.out (mu := [(_, _), (_, _)]) (by k_asm) (by k_asm) rfl (by repeat' (first | exact trivial | refine And.intro ?_ ?_ | assumption | exact Ne.symm (by assumption) | (show @Ne Nat _ _; k_ne)))
  clear E'
  simp only [List.cons_append, List.nil_append] at N'
  k_sweep
  refine ⟨rfl, ?_⟩
  dsimp only
  walk_at "go"
  refine hR _ _ ⟨_, _, _, _, _, _, _, _, text, t1, _, _, _, _, _, _, _, _, _, _, _⟩ _ _ (ends_of (by k_asm) (news_sub (by k_asm) (by kcj_all)) hg) ⟨by assumption, by assumption, ⟨_, _, by assumption, by assumption⟩, by dsimp only; omega, ht⟩ rfl rfl
end
section
variable {w : World} {lo : List Str} {mean : ExcName → Option Value} {mg mb : Str → Option Value} {b₀ : Heap} {dp un : Nat} {fr : Option (List Env)} {gd : Option (List Code)} {s : Shared} {R : Result → Shared → Prop}
local macro_rules | `(tactic| walk_at "call builtin:list.pop") => `(tactic| (k_here; k_dflt (refine' pop0 ?F ?N ?l ?U ?_; (case F => k_asm); (case N => k_asm); (case U => k_upd); (case l => omega); k_whole); intro h' F' N'; (try k_sweep)))
/-- the lexer's unchanging part lies apart from its changing one -/
theorem Lx.At.off {c : Lx} {h g : Heap} {line : Int} {v1 : Tok} {pend : List Value} {i : Nat} {ti : Tok} {n ep : Nat} (hA : c.At h) (ok : c.Ok) (hdd : h.get? c.d = some (c.D w line v1)) (hat : h.get? c.at_ = some (listOf #[.int i ti] n)) (hpb : h.get? c.pb = some (listOf pend.toArray ep))
    (hg : ∀ b o, h.get? b = some o → b ∉ [c.d, c.at_, c.pb] → g.get? b = some o) : c.At g := by
  intro p hp
  refine hg _ _ (hA p hp) ?_
  simp only [List.mem_cons, List.not_mem_nil, or_false, not_or]
  have hp2 := hA p hp
  simp only [Lx.ro, List.mem_cons, List.not_mem_nil, or_false] at hp
  rcases hp with rfl | rfl | rfl | rfl | rfl
  · exact ⟨ne_obj hp2 hdd nofun, ne_obj hp2 hat nofun, ne_obj hp2 hpb nofun⟩
  · exact ⟨ne_obj hp2 hdd nofun, ne_obj hp2 hat nofun, ne_obj hp2 hpb nofun⟩
  · exact ⟨ne_obj hp2 hdd (by rw [ok.d1]; nofun), ne_obj hp2 hat (by rw [ok.d1]; nofun), ne_obj hp2 hpb (by rw [ok.d1]; nofun)⟩
  · exact ⟨ne_obj hp2 hdd (by rw [ok.d2]; nofun), ne_obj hp2 hat (by rw [ok.d2]; nofun), ne_obj hp2 hpb (by rw [ok.d2]; nofun)⟩
  · obtain ⟨vs, t, e1, e2⟩ := ok.dc
    exact ⟨ne_obj hp2 hdd (by rw [e1]; nofun), ne_obj hp2 hat (by rw [e1]; nofun), ne_obj hp2 hpb (by rw [e1]; nofun)⟩
set_option maxRecDepth 100000 in
set_option maxHeartbeats 8000000 in
theorem push_c {c : Lx} {line : Int} {v1 ti : Tok} {i ep : Nat} {pend : List Value} {tok : Value} (G : Gd (Mine.hd.heap_1 w.params) lo mean mg mb b₀) (hb : Over b₀ s.heap) (hN : Led b₀ s.heap (c.mu w line v1 i ti pend ep)) (hA : c.At s.heap) (ok : c.Ok)
    (hd : dp + 28 < recursionLimit) (hl : pend.length ≤ 1000000)
    (hR : ∀ h' tk', Ends s.heap h' [c.d, c.at_, c.pb] (c.mu w line v1 i ti (pend ++ [tok]) (ep + 1)) → R (.ok (.ret .none)) { s with heap := h', toks := tk' }) :
    codeAny (model P w) (Ar dp fr gd un) (.call (.ref 56) ⟨[.ref c.x, tok], []⟩) R s := by
  k_with_none
  k_with "ne" => ((first | with_reducible assumption | exact Ne.symm (by with_reducible assumption) | exact Nat.ne_of_lt (by with_reducible assumption) | exact Nat.ne_of_gt (by with_reducible assumption) | (refine Nat.ne_of_lt ?_; (repeat (first | exact Nat.lt_succ_self _ | with_reducible assumption | refine Nat.lt_succ_of_lt ?_)); done) | (refine Nat.ne_of_gt ?_; (repeat (first | exact Nat.lt_succ_self _ | with_reducible assumption | refine Nat.lt_succ_of_lt ?_)); done) | exact Nat.ne_of_lt (And.left (by with_reducible assumption)) | exact Nat.ne_of_gt (And.left (by with_reducible assumption)) | exact (And.left (by with_reducible assumption)) | exact Ne.symm (And.left (by with_reducible assumption)) | exact Nat.ne_of_lt (And.left (And.right (by with_reducible assumption))) | exact Nat.ne_of_lt (And.right (by with_reducible assumption)) | exact Nat.ne_of_gt (And.left (And.right (by with_reducible assumption))) | exact Nat.ne_of_gt (And.right (by with_reducible assumption)) | exact (And.left (And.right (by with_reducible assumption))) | exact Ne.symm (And.left (And.right (by with_reducible assumption))) | exact (And.right (by with_reducible assumption)) | exact Ne.symm (And.right (by with_reducible assumption)) | exact Nat.ne_of_lt (And.left (And.right (And.right (by with_reducible assumption)))) | exact Nat.ne_of_lt (And.right (And.right (by with_reducible assumption))) | exact Nat.ne_of_gt (And.left (And.right (And.right (by with_reducible assumption)))) | exact Nat.ne_of_gt (And.right (And.right (by with_reducible assumption))) | exact (And.left (And.right (And.right (by with_reducible assumption)))) | exact Ne.symm (And.left (And.right (And.right (by with_reducible assumption)))) | exact (And.right (And.right (by with_reducible assumption))) | exact Ne.symm (And.right (And.right (by with_reducible assumption))) | exact Nat.ne_of_lt (And.left (And.right (And.right (And.right (by with_reducible assumption))))) | exact Nat.ne_of_lt (And.right (And.right (And.right (by with_reducible assumption)))) | exact Nat.ne_of_gt (And.left (And.right (And.right (And.right (by with_reducible assumption))))) | exact Nat.ne_of_gt (And.right (And.right (And.right (by with_reducible assumption)))) | exact (And.left (And.right (And.right (And.right (by with_reducible assumption))))) | exact Ne.symm (And.left (And.right (And.right (And.right (by with_reducible assumption))))) | exact (And.right (And.right (And.right (by with_reducible assumption)))) | exact Ne.symm (And.right (And.right (And.right (by with_reducible assumption)))) | exact Nat.ne_of_lt (And.left (And.right (And.right (And.right (And.right (by with_reducible assumption)))))) | exact Nat.ne_of_lt (And.right (And.right (And.right (And.right (by with_reducible assumption))))) | exact Nat.ne_of_gt (And.left (And.right (And.right (And.right (And.right (by with_reducible assumption)))))) | exact Nat.ne_of_gt (And.right (And.right (And.right (And.right (by with_reducible assumption))))) | exact (And.left (And.right (And.right (And.right (And.right (by with_reducible assumption)))))) | exact Ne.symm (And.left (And.right (And.right (And.right (And.right (by with_reducible assumption)))))) | exact (And.right (And.right (And.right (And.right (by with_reducible assumption))))) | exact Ne.symm (And.right (And.right (And.right (And.right (by with_reducible assumption))))) | exact Nat.ne_of_lt (And.left (And.right (And.right (And.right (And.right (And.right (by with_reducible assumption))))))) | exact Nat.ne_of_lt (And.right (And.right (And.right (And.right (And.right (by with_reducible assumption)))))) | exact Nat.ne_of_gt (And.left (And.right (And.right (And.right (And.right (And.right (by with_reducible assumption))))))) | exact Nat.ne_of_gt (And.right (And.right (And.right (And.right (And.right (by with_reducible assumption)))))) | exact (And.left (And.right (And.right (And.right (And.right (And.right (by with_reducible assumption))))))) | exact Ne.symm (And.left (And.right (And.right (And.right (And.right (And.right (by with_reducible assumption))))))) | exact (And.right (And.right (And.right (And.right (And.right (by with_reducible assumption)))))) | exact Ne.symm (And.right (And.right (And.right (And.right (And.right (by with_reducible assumption)))))) | exact Nat.ne_of_lt (And.left (And.right (And.right (And.right (And.right (And.right (And.right (by with_reducible assumption)))))))) | exact Nat.ne_of_lt (And.right (And.right (And.right (And.right (And.right (And.right (by with_reducible assumption))))))) | exact Nat.ne_of_gt (And.left (And.right (And.right (And.right (And.right (And.right (And.right (by with_reducible assumption)))))))) | exact Nat.ne_of_gt (And.right (And.right (And.right (And.right (And.right (And.right (by with_reducible assumption))))))) | exact (And.left (And.right (And.right (And.right (And.right (And.right (And.right (by with_reducible assumption)))))))) | exact Ne.symm (And.left (And.right (And.right (And.right (And.right (And.right (And.right (by with_reducible assumption)))))))) | exact (And.right (And.right (And.right (And.right (And.right (And.right (by with_reducible assumption))))))) | exact Ne.symm (And.right (And.right (And.right (And.right (And.right (And.right (by with_reducible assumption))))))) | exact Nat.ne_of_lt (And.left (And.right (And.right (And.right (And.right (And.right (And.right (And.right (by with_reducible assumption))))))))) | exact Nat.ne_of_lt (And.right (And.right (And.right (And.right (And.right (And.right (And.right (by with_reducible assumption)))))))) | exact Nat.ne_of_gt (And.left (And.right (And.right (And.right (And.right (And.right (And.right (And.right (by with_reducible assumption))))))))) | exact Nat.ne_of_gt (And.right (And.right (And.right (And.right (And.right (And.right (And.right (by with_reducible assumption)))))))) | exact (And.left (And.right (And.right (And.right (And.right (And.right (And.right (And.right (by with_reducible assumption))))))))) | exact Ne.symm (And.left (And.right (And.right (And.right (And.right (And.right (And.right (And.right (by with_reducible assumption))))))))) | exact (And.right (And.right (And.right (And.right (And.right (And.right (And.right (by with_reducible assumption)))))))) | exact Ne.symm (And.right (And.right (And.right (And.right (And.right (And.right (And.right (by with_reducible assumption)))))))) | exact Nat.ne_of_lt (And.left (And.right (And.right (And.right (And.right (And.right (And.right (And.right (And.right (by with_reducible assumption)))))))))) | exact Nat.ne_of_lt (And.right (And.right (And.right (And.right (And.right (And.right (And.right (And.right (by with_reducible assumption))))))))) | exact Nat.ne_of_gt (And.left (And.right (And.right (And.right (And.right (And.right (And.right (And.right (And.right (by with_reducible assumption)))))))))) | exact Nat.ne_of_gt (And.right (And.right (And.right (And.right (And.right (And.right (And.right (And.right (by with_reducible assumption))))))))) | exact (And.left (And.right (And.right (And.right (And.right (And.right (And.right (And.right (And.right (by with_reducible assumption)))))))))) | exact Ne.symm (And.left (And.right (And.right (And.right (And.right (And.right (And.right (And.right (And.right (by with_reducible assumption)))))))))) | exact (And.right (And.right (And.right (And.right (And.right (And.right (And.right (And.right (by with_reducible assumption))))))))) | exact Ne.symm (And.right (And.right (And.right (And.right (And.right (And.right (And.right (And.right (by with_reducible assumption))))))))) | exact Nat.ne_of_lt (And.left (And.right (And.right (And.right (And.right (And.right (And.right (And.right (And.right (And.right (by with_reducible assumption))))))))))) | exact Nat.ne_of_lt (And.right (And.right (And.right (And.right (And.right (And.right (And.right (And.right (And.right (by with_reducible assumption)))))))))) | exact Nat.ne_of_gt (And.left (And.right (And.right (And.right (And.right (And.right (And.right (And.right (And.right (And.right (by with_reducible assumption))))))))))) | exact Nat.ne_of_gt (And.right (And.right (And.right (And.right (And.right (And.right (And.right (And.right (And.right (by with_reducible assumption)))))))))) | exact (And.left (And.right (And.right (And.right (And.right (And.right (And.right (And.right (And.right (And.right (by with_reducible assumption))))))))))) | exact Ne.symm (And.left (And.right (And.right (And.right (And.right (And.right (And.right (And.right (And.right (And.right (by with_reducible assumption))))))))))) | exact (And.right (And.right (And.right (And.right (And.right (And.right (And.right (And.right (And.right (by with_reducible assumption)))))))))) | exact Ne.symm (And.right (And.right (And.right (And.right (And.right (And.right (And.right (And.right (And.right (by with_reducible assumption)))))))))) | exact Nat.ne_of_lt (And.left (And.right (And.right (And.right (And.right (And.right (And.right (And.right (And.right (And.right (And.right (by with_reducible assumption)))))))))))) | exact Nat.ne_of_lt (And.right (And.right (And.right (And.right (And.right (And.right (And.right (And.right (And.right (And.right (by with_reducible assumption))))))))))) | exact Nat.ne_of_gt (And.left (And.right (And.right (And.right (And.right (And.right (And.right (And.right (And.right (And.right (And.right (by with_reducible assumption)))))))))))) | exact Nat.ne_of_gt (And.right (And.right (And.right (And.right (And.right (And.right (And.right (And.right (And.right (And.right (by with_reducible assumption))))))))))) | exact (And.left (And.right (And.right (And.right (And.right (And.right (And.right (And.right (And.right (And.right (And.right (by with_reducible assumption)))))))))))) | exact Ne.symm (And.left (And.right (And.right (And.right (And.right (And.right (And.right (And.right (And.right (And.right (And.right (by with_reducible assumption)))))))))))) | exact (And.right (And.right (And.right (And.right (And.right (And.right (And.right (And.right (And.right (And.right (by with_reducible assumption))))))))))) | exact Ne.symm (And.right (And.right (And.right (And.right (And.right (And.right (And.right (And.right (And.right (And.right (by with_reducible assumption)))))))))))))
  k_with "exec For Name Attribute cons nil" => (k_dflt (refine for_exec ?_))
  k_with "exec For Name Name cons nil" => (k_dflt (refine for_exec ?_))
  k_with "exec For Name Call cons nil" => (k_dflt (refine for_exec ?_))
  k_with "call type:tuple" => ((k_here; (with_reducible show wpAny _ _ (call (Value.type _) [Value.ref _]) _ _ _); k_dflt (refine' tupleOf_c (by k_asm) (by k_asm) (by k_mem) (by ((have hL9 := IntsAre.length (by assumption)); rw [sizeLine_eq]; omega)) ?_; k_whole); intro _ _ _ _ l19q; (try k_lt l19q); (try k_sweep)))
  k_with "call builtin:len" => ((k_here; (with_reducible show wpAny _ _ (call (Value.builtin "len") [Value.ref _]) _ _ _); k_dflt (refine' len_tupI (by k_asm) (by with_reducible assumption) (by with_reducible assumption) (by omega) ?_; k_whole); intro _ _))
  k_with "execs cons" => ((k_dflt (refine execs_n (s := ‹Shared›) ?_); intro _; (try k_fold)))
  k_with "exec If BoolOp cons nil" => (((fail_if_success (with_reducible show wpAny _ _ _ (Cut _ _) _ _)); refine Hold.out ?_))
  k_with "out" => (repeat (first | (k_unfold; (try dsimp only)) | refine cut_ret ?_ | refine turn_ret ?_))
  k_with "go" => ((w_top off; repeat' (first | (k_unfold; (try dsimp only)) | walk1 | (dsimp only; walk1))))
  k_with "truthy ref" => ((k_here; k_dflt (first | (refine' truthy_nil (by k_asm) (by k_mem) ?_; k_whole) | (refine' truthy_cons (by k_asm) (by k_mem) (by omega) ?_; k_whole)); intro _))
  have hdd := (hN _ (.head _)).1
  have hat := (hN _ (.tail _ (.head _))).1
  have hpb := (hN _ (.tail _ (.tail _ (.head _)))).1
  have nda : @Ne Nat c.d c.at_ := ne_obj hdd hat nofun
  have ndp : @Ne Nat c.d c.pb := ne_obj hdd hpb nofun
  have nap := ok.ne
  refine enter (binds := [(Str.ofString "self", .ref c.x), (Str.ofString "token", tok)]) _ G hb hN (by k_is) (by k_is) (by show dp < _; exact dlt0 hd) (BindsTo.of_eq rfl) (locs rfl) (by decide) ?_
  intro g L h₁ tk F N X T hg
  have hAg := hA.off ok hdd hat hpb hg
  have gx : g.get? c.x = some (instObj 59 c.d) := hAg _ (.head _)
  walk_at "go"
  have e : pend.toArray.push tok = (pend ++ [tok]).toArray := by simp
  (rename News _ _ _ _ => N9)
  rw [e] at N9
  exact hR _ _ (ends_of (by k_asm) N9 hg)
set_option maxRecDepth 100000 in
set_option maxHeartbeats 8000000 in
/-- get_token, where something waits -/
theorem tokA_c {c : Lx} {line : Int} {v1 ti : Tok} {i ep : Nat} {v : Value} {pend : List Value} (G : Gd (Mine.hd.heap_1 w.params) lo mean mg mb b₀) (hb : Over b₀ s.heap) (hN : Led b₀ s.heap (c.mu w line v1 i ti (v :: pend) ep)) (hA : c.At s.heap) (ok : c.Ok)
    (hd : dp + 28 < recursionLimit) (hl : pend.length ≤ 100000)
    (hR : ∀ h' tk', Ends s.heap h' [c.d, c.at_, c.pb] (c.mu w line v1 i ti pend (ep + 1)) → R (.ok (.ret v)) { s with heap := h', toks := tk' }) :
    codeAny (model P w) (Ar dp fr gd un) (.call (.ref 49) ⟨[.ref c.x], []⟩) R s := by
  k_with_none
  k_with "ne" => ((first | with_reducible assumption | exact Ne.symm (by with_reducible assumption) | exact Nat.ne_of_lt (by with_reducible assumption) | exact Nat.ne_of_gt (by with_reducible assumption) | (refine Nat.ne_of_lt ?_; (repeat (first | exact Nat.lt_succ_self _ | with_reducible assumption | refine Nat.lt_succ_of_lt ?_)); done) | (refine Nat.ne_of_gt ?_; (repeat (first | exact Nat.lt_succ_self _ | with_reducible assumption | refine Nat.lt_succ_of_lt ?_)); done) | exact Nat.ne_of_lt (And.left (by with_reducible assumption)) | exact Nat.ne_of_gt (And.left (by with_reducible assumption)) | exact (And.left (by with_reducible assumption)) | exact Ne.symm (And.left (by with_reducible assumption)) | exact Nat.ne_of_lt (And.left (And.right (by with_reducible assumption))) | exact Nat.ne_of_lt (And.right (by with_reducible assumption)) | exact Nat.ne_of_gt (And.left (And.right (by with_reducible assumption))) | exact Nat.ne_of_gt (And.right (by with_reducible assumption)) | exact (And.left (And.right (by with_reducible assumption))) | exact Ne.symm (And.left (And.right (by with_reducible assumption))) | exact (And.right (by with_reducible assumption)) | exact Ne.symm (And.right (by with_reducible assumption)) | exact Nat.ne_of_lt (And.left (And.right (And.right (by with_reducible assumption)))) | exact Nat.ne_of_lt (And.right (And.right (by with_reducible assumption))) | exact Nat.ne_of_gt (And.left (And.right (And.right (by with_reducible assumption)))) | exact Nat.ne_of_gt (And.right (And.right (by with_reducible assumption))) | exact (And.left (And.right (And.right (by with_reducible assumption)))) | exact Ne.symm (And.left (And.right (And.right (by with_reducible assumption)))) | exact (And.right (And.right (by with_reducible assumption))) | exact Ne.symm (And.right (And.right (by with_reducible assumption))) | exact Nat.ne_of_lt (And.left (And.right (And.right (And.right (by with_reducible assumption))))) | exact Nat.ne_of_lt (And.right (And.right (And.right (by with_reducible assumption)))) | exact Nat.ne_of_gt (And.left (And.right (And.right (And.right (by with_reducible assumption))))) | exact Nat.ne_of_gt (And.right (And.right (And.right (by with_reducible assumption)))) | exact (And.left (And.right (And.right (And.right (by with_reducible assumption))))) | exact Ne.symm (And.left (And.right (And.right (And.right (by with_reducible assumption))))) | exact (And.right (And.right (And.right (by with_reducible assumption)))) | exact Ne.symm (And.right (And.right (And.right (by with_reducible assumption)))) | exact Nat.ne_of_lt (And.left (And.right (And.right (And.right (And.right (by with_reducible assumption)))))) | exact Nat.ne_of_lt (And.right (And.right (And.right (And.right (by with_reducible assumption))))) | exact Nat.ne_of_gt (And.left (And.right (And.right (And.right (And.right (by with_reducible assumption)))))) | exact Nat.ne_of_gt (And.right (And.right (And.right (And.right (by with_reducible assumption))))) | exact (And.left (And.right (And.right (And.right (And.right (by with_reducible assumption)))))) | exact Ne.symm (And.left (And.right (And.right (And.right (And.right (by with_reducible assumption)))))) | exact (And.right (And.right (And.right (And.right (by with_reducible assumption))))) | exact Ne.symm (And.right (And.right (And.right (And.right (by with_reducible assumption))))) | exact Nat.ne_of_lt (And.left (And.right (And.right (And.right (And.right (And.right (by with_reducible assumption))))))) | exact Nat.ne_of_lt (And.right (And.right (And.right (And.right (And.right (by with_reducible assumption)))))) | exact Nat.ne_of_gt (And.left (And.right (And.right (And.right (And.right (And.right (by with_reducible assumption))))))) | exact Nat.ne_of_gt (And.right (And.right (And.right (And.right (And.right (by with_reducible assumption)))))) | exact (And.left (And.right (And.right (And.right (And.right (And.right (by with_reducible assumption))))))) | exact Ne.symm (And.left (And.right (And.right (And.right (And.right (And.right (by with_reducible assumption))))))) | exact (And.right (And.right (And.right (And.right (And.right (by with_reducible assumption)))))) | exact Ne.symm (And.right (And.right (And.right (And.right (And.right (by with_reducible assumption)))))) | exact Nat.ne_of_lt (And.left (And.right (And.right (And.right (And.right (And.right (And.right (by with_reducible assumption)))))))) | exact Nat.ne_of_lt (And.right (And.right (And.right (And.right (And.right (And.right (by with_reducible assumption))))))) | exact Nat.ne_of_gt (And.left (And.right (And.right (And.right (And.right (And.right (And.right (by with_reducible assumption)))))))) | exact Nat.ne_of_gt (And.right (And.right (And.right (And.right (And.right (And.right (by with_reducible assumption))))))) | exact (And.left (And.right (And.right (And.right (And.right (And.right (And.right (by with_reducible assumption)))))))) | exact Ne.symm (And.left (And.right (And.right (And.right (And.right (And.right (And.right (by with_reducible assumption)))))))) | exact (And.right (And.right (And.right (And.right (And.right (And.right (by with_reducible assumption))))))) | exact Ne.symm (And.right (And.right (And.right (And.right (And.right (And.right (by with_reducible assumption))))))) | exact Nat.ne_of_lt (And.left (And.right (And.right (And.right (And.right (And.right (And.right (And.right (by with_reducible assumption))))))))) | exact Nat.ne_of_lt (And.right (And.right (And.right (And.right (And.right (And.right (And.right (by with_reducible assumption)))))))) | exact Nat.ne_of_gt (And.left (And.right (And.right (And.right (And.right (And.right (And.right (And.right (by with_reducible assumption))))))))) | exact Nat.ne_of_gt (And.right (And.right (And.right (And.right (And.right (And.right (And.right (by with_reducible assumption)))))))) | exact (And.left (And.right (And.right (And.right (And.right (And.right (And.right (And.right (by with_reducible assumption))))))))) | exact Ne.symm (And.left (And.right (And.right (And.right (And.right (And.right (And.right (And.right (by with_reducible assumption))))))))) | exact (And.right (And.right (And.right (And.right (And.right (And.right (And.right (by with_reducible assumption)))))))) | exact Ne.symm (And.right (And.right (And.right (And.right (And.right (And.right (And.right (by with_reducible assumption)))))))) | exact Nat.ne_of_lt (And.left (And.right (And.right (And.right (And.right (And.right (And.right (And.right (And.right (by with_reducible assumption)))))))))) | exact Nat.ne_of_lt (And.right (And.right (And.right (And.right (And.right (And.right (And.right (And.right (by with_reducible assumption))))))))) | exact Nat.ne_of_gt (And.left (And.right (And.right (And.right (And.right (And.right (And.right (And.right (And.right (by with_reducible assumption)))))))))) | exact Nat.ne_of_gt (And.right (And.right (And.right (And.right (And.right (And.right (And.right (And.right (by with_reducible assumption))))))))) | exact (And.left (And.right (And.right (And.right (And.right (And.right (And.right (And.right (And.right (by with_reducible assumption)))))))))) | exact Ne.symm (And.left (And.right (And.right (And.right (And.right (And.right (And.right (And.right (And.right (by with_reducible assumption)))))))))) | exact (And.right (And.right (And.right (And.right (And.right (And.right (And.right (And.right (by with_reducible assumption))))))))) | exact Ne.symm (And.right (And.right (And.right (And.right (And.right (And.right (And.right (And.right (by with_reducible assumption))))))))) | exact Nat.ne_of_lt (And.left (And.right (And.right (And.right (And.right (And.right (And.right (And.right (And.right (And.right (by with_reducible assumption))))))))))) | exact Nat.ne_of_lt (And.right (And.right (And.right (And.right (And.right (And.right (And.right (And.right (And.right (by with_reducible assumption)))))))))) | exact Nat.ne_of_gt (And.left (And.right (And.right (And.right (And.right (And.right (And.right (And.right (And.right (And.right (by with_reducible assumption))))))))))) | exact Nat.ne_of_gt (And.right (And.right (And.right (And.right (And.right (And.right (And.right (And.right (And.right (by with_reducible assumption)))))))))) | exact (And.left (And.right (And.right (And.right (And.right (And.right (And.right (And.right (And.right (And.right (by with_reducible assumption))))))))))) | exact Ne.symm (And.left (And.right (And.right (And.right (And.right (And.right (And.right (And.right (And.right (And.right (by with_reducible assumption))))))))))) | exact (And.right (And.right (And.right (And.right (And.right (And.right (And.right (And.right (And.right (by with_reducible assumption)))))))))) | exact Ne.symm (And.right (And.right (And.right (And.right (And.right (And.right (And.right (And.right (And.right (by with_reducible assumption)))))))))) | exact Nat.ne_of_lt (And.left (And.right (And.right (And.right (And.right (And.right (And.right (And.right (And.right (And.right (And.right (by with_reducible assumption)))))))))))) | exact Nat.ne_of_lt (And.right (And.right (And.right (And.right (And.right (And.right (And.right (And.right (And.right (And.right (by with_reducible assumption))))))))))) | exact Nat.ne_of_gt (And.left (And.right (And.right (And.right (And.right (And.right (And.right (And.right (And.right (And.right (And.right (by with_reducible assumption)))))))))))) | exact Nat.ne_of_gt (And.right (And.right (And.right (And.right (And.right (And.right (And.right (And.right (And.right (And.right (by with_reducible assumption))))))))))) | exact (And.left (And.right (And.right (And.right (And.right (And.right (And.right (And.right (And.right (And.right (And.right (by with_reducible assumption)))))))))))) | exact Ne.symm (And.left (And.right (And.right (And.right (And.right (And.right (And.right (And.right (And.right (And.right (And.right (by with_reducible assumption)))))))))))) | exact (And.right (And.right (And.right (And.right (And.right (And.right (And.right (And.right (And.right (And.right (by with_reducible assumption))))))))))) | exact Ne.symm (And.right (And.right (And.right (And.right (And.right (And.right (And.right (And.right (And.right (And.right (by with_reducible assumption)))))))))))))
  k_with "exec For Name Attribute cons nil" => (k_dflt (refine for_exec ?_))
  k_with "exec For Name Name cons nil" => (k_dflt (refine for_exec ?_))
  k_with "exec For Name Call cons nil" => (k_dflt (refine for_exec ?_))
  k_with "call type:tuple" => ((k_here; (with_reducible show wpAny _ _ (call (Value.type _) [Value.ref _]) _ _ _); k_dflt (refine' tupleOf_c (by k_asm) (by k_asm) (by k_mem) (by ((have hL9 := IntsAre.length (by assumption)); rw [sizeLine_eq]; omega)) ?_; k_whole); intro _ _ _ _ l19q; (try k_lt l19q); (try k_sweep)))
  k_with "call builtin:len" => ((k_here; (with_reducible show wpAny _ _ (call (Value.builtin "len") [Value.ref _]) _ _ _); k_dflt (refine' len_tupI (by k_asm) (by with_reducible assumption) (by with_reducible assumption) (by omega) ?_; k_whole); intro _ _))
  k_with "execs cons" => ((k_dflt (refine execs_n (s := ‹Shared›) ?_); intro _; (try k_fold)))
  k_with "exec If BoolOp cons nil" => (((fail_if_success (with_reducible show wpAny _ _ _ (Cut _ _) _ _)); refine Hold.out ?_))
  k_with "out" => (repeat (first | (k_unfold; (try dsimp only)) | refine cut_ret ?_ | refine turn_ret ?_))
  k_with "go" => ((w_top off; repeat' (first | (k_unfold; (try dsimp only)) | walk1 | (dsimp only; walk1))))
  k_with "truthy ref" => ((k_here; k_dflt (first | (refine' truthy_nil (by k_asm) (by k_mem) ?_; k_whole) | (refine' truthy_cons (by k_asm) (by k_mem) (by omega) ?_; k_whole)); intro _))
  have hdd := (hN _ (.head _)).1
  have hat := (hN _ (.tail _ (.head _))).1
  have hpb := (hN _ (.tail _ (.tail _ (.head _)))).1
  have nda : @Ne Nat c.d c.at_ := ne_obj hdd hat nofun
  have ndp : @Ne Nat c.d c.pb := ne_obj hdd hpb nofun
  have nap := ok.ne
  refine enter (binds := [(Str.ofString "self", .ref c.x)]) _ G hb hN (by k_is) (by k_is) (by show dp < _; exact dlt0 hd) (BindsTo.of_eq rfl) (locs rfl) (by decide) ?_
  intro g L h₁ tk F N X T hg
  have hAg := hA.off ok hdd hat hpb hg
  have gx : g.get? c.x = some (instObj 59 c.d) := hAg _ (.head _)
  walk_at "go"
  exact hR _ _ (ends_of (by k_asm) (by k_asm) hg)
end
section
variable {w : World} {lo : List Str} {mean : ExcName → Option Value} {mg mb : Str → Option Value} {b₀ : Heap} {dp un : Nat} {fr : Option (List Env)} {gd : Option (List Code)} {s : Shared} {R : Result → Shared → Prop}
noncomputable abbrev Lx.run (w : World) (c : Lx) (line : Int) (v1 : Tok) (i : Nat) (ti : Tok) (ep it q : Nat) (t0 : Tok) : List (Addr × Obj) :=
  [(c.d, c.D w line v1), (c.at_, listOf #[.int i ti] 0), (c.pb, listOf #[] ep), (it, citObj (.ref q) (.str (Str.ofString "") t0) false), (q, methodObj (.ref 42) (.ref c.x))]
theorem nlOf_chr (c : Nat) : nlOf ⟨#[c]⟩ = nl1 c := by
  unfold nlOf nl1
  by_cases h : c = 10
  · subst h; rw [if_pos (by decide), if_pos rfl]
  · rw [if_neg (by intro q; exact h (by have := eq_of_beq q; rw [show Str.ofString "\n" = ⟨#[10]⟩ by decide +kernel] at this; simpa using this)), if_neg h]
theorem isFun_of {K : Frag} {f : Addr} {fo : Obj} {fd : FuncData} (h : K.lookup f = some fo) (h2 : fo.data = .func fd) : ∃ fo fd, K.lookup f = some fo ∧ fo.data = .func fd := ⟨_, _, h, h2⟩
theorem isFun_readchar : ∃ fo fd, (Mine.hd.heap_1 w.params).lookup 42 = some fo ∧ fo.data = .func fd := by
  exact isFun_of (by k_is) (by rfl)
set_option maxRecDepth 100000 in
theorem next_lx {g : Heap} {L : Addr} {m : Str → Option Value} {E : Value → Shared → Prop} {c : Lx} {line : Int} {v1 ti t0 : Tok} {i ep it q : Nat} {Q : Option Value → Shared → Prop} (X : (Mine.hd.heap_1 w.params).In g) (T : Top topProg lo mean mg mb g) (F : Fr g L s.heap m) (N : News g L s.heap (c.run w line v1 i ti ep it q t0)) (hA : c.At g) (ok : c.Ok) (hd : dp + 30 < recursionLimit)
    (k1 : ∀ ch, c.text.cps[i]? = some ch → ∀ h' tk' v1' ti' t', Fr g L h' m → News g L h' (c.run w (line + nl1 ch) v1' (i + 1) ti' ep it q t0) → Q (some (.str ⟨#[ch]⟩ t')) { s with heap := h', toks := tk' })
    (k2 : c.text.cps[i]? = none → ∀ h' tk' v1' ti', Fr g L h' m → News g L h' (c.mu w line v1' i ti' [] ep) → Q none { s with heap := h', toks := tk' }) :
    wpAny (model P w) (Ar dp fr gd un) (pyNext (.ref it)) Q E s := by
  have hdd := (N _ (.head _)).1
  have hat := (N _ (.tail _ (.head _))).1
  have hpb := (N _ (.tail _ (.tail _ (.head _)))).1
  have hit := (N _ (.tail _ (.tail _ (.tail _ (.head _))))).1
  have hq := (N _ (.tail _ (.tail _ (.tail _ (.tail _ (.head _)))))).1
  have n1 : @Ne Nat it c.d := ne_obj hit hdd nofun
  have n2 : @Ne Nat it c.at_ := ne_obj hit hat nofun
  have n3 : @Ne Nat it c.pb := ne_obj hit hpb nofun
  have n4 : @Ne Nat q c.d := ne_obj hq hdd nofun
  have n5 : @Ne Nat q c.at_ := ne_obj hq hat nofun
  have n6 : @Ne Nat c.pb c.d := ne_obj hpb hdd nofun
  have n7 := ok.ne
  obtain ⟨fo, fd, hK, hfd⟩ := isFun_readchar (w := w)
  have hf := F.keep _ _ (X _ _ hK)
  have hdn := (N _ (.head _)).2.2
  have han := (N _ (.tail _ (.head _))).2.2
  have hNL : Led g s.heap [(c.d, c.D w line v1), (c.at_, listOf #[.int i ti] 0)] := .cons hdd hdn (.cons hat han .nil)
  refine next_cit rfl hit hq hf hfd (readchar_c ⟨X, T⟩ F.keep hNL (hA.keeps F.keep) ok (by show dp + 28 < _; exact dlt1 hd (by decide)) ?_)
  intro h' tk' t' v1' ti' E'
  obtain ⟨F', N'⟩ := E'.out (mu := [(_, _), (_, _)]) F N rfl (by repeat' (first | exact trivial | refine And.intro ?_ ?_ | assumption | exact Ne.symm (by assumption) | (show @Ne Nat _ _; k_ne)))
  have hit' := (N' _ (.tail _ (.tail _ (.tail _ (.head _))))).1
  have hq' := (N' _ (.tail _ (.tail _ (.tail _ (.tail _ (.head _)))))).1
  refine ⟨_, _, rfl, hit', hq', F'.keep _ _ (X _ _ hK), ?_, ?_⟩
  · intro hne
    cases hc : c.text.cps[i]? with
    | none => exact absurd (chAt_none hc) hne
    | some ch =>
      have e := chAt_some hc
      show Q (some (.str (chAt c.text i) t')) _
      have e2 : chAt c.text i = ⟨#[ch]⟩ := e
      simp only [e2, nlOf_chr] at N' ⊢
      exact k1 ch hc _ _ _ _ _ F' N'
  · intro he h2 hx
    have hc : c.text.cps[i]? = none := by
      cases hc : c.text.cps[i]? with
      | none => rfl
      | some ch =>
        have e := chAt_some hc
        rw [show Txt.slice c.text (some (i : Int)) (some ((i : Int) + 1)) = Str.ofString "" from he] at e
        exact absurd (congrArg (fun x => x.cps.size) e) (by show ¬ (Str.ofString "").cps.size = 1; decide +kernel)
    have e0 : nlOf (Str.ofString "") = 0 := by decide +kernel
    have e1 : (Str.ofString "").length = 0 := by decide +kernel
    have he' : chAt c.text i = Str.ofString "" := he
    simp only [he', e0, e1, Int.add_zero] at N'
    have hit2 := (N' _ (.tail _ (.tail _ (.tail _ (.head _))))).2
    have kp : ∀ b o, b ≠ it → h'.get? b = some o → h2.get? b = some o := fun b o q e => hx b o q e
    refine k2 hc h2 _ v1' ti' ?_ ?_
    · obtain ⟨oL, es, ep, hL, r⟩ := F'.ns
      exact ⟨⟨oL, es, ep, kp _ _ (fun q => hit2.1 q.symm) hL, r⟩, fun b o e => kp b o (fun q => by rw [q, hit2.2] at e; cases e) (F'.keep b o e), F'.above⟩
    · intro p hp
      simp only [Lx.mu, List.mem_cons, List.not_mem_nil, or_false] at hp
      rcases hp with rfl | rfl | rfl
      · exact ⟨kp _ _ (Ne.symm n1) (N' _ (.head _)).1, (N' _ (.head _)).2⟩
      · exact ⟨kp _ _ (Ne.symm n2) (N' _ (.tail _ (.head _))).1, (N' _ (.tail _ (.head _))).2⟩
      · exact ⟨kp _ _ (Ne.symm n3) (N' _ (.tail _ (.tail _ (.head _)))).1, (N' _ (.tail _ (.tail _ (.head _)))).2⟩
/-- a turn's end, over a lexer's characters -/
noncomputable def TurnL (w : World) (c : Lx) (g : Heap) (L : Addr) (ep it q : Nat) (t0 : Tok) (s : Shared) (J : Nat → Int → (Str → Option Value) → Prop) (i : Nat) (Q : Flow → Shared → Prop) (f : Flow) (s₂ : Shared) : Prop := match f with
  | .ret v => Q (.ret v) s₂
  | .brk => Q .next s₂
  | _ => ∃ i' line' v1 ti m' h tk, i < i' ∧ J i' line' m' ∧ s₂ = { s with heap := h, toks := tk } ∧ Fr g L h m' ∧ News g L h (c.run w line' v1 i' ti ep it q t0)
theorem turnL_ret {c : Lx} {g : Heap} {L : Addr} {ep it q : Nat} {t0 : Tok} {J : Nat → Int → (Str → Option Value) → Prop} {i : Nat} {Q : Flow → Shared → Prop} {v : Value} {s₂ : Shared} (h : Q (.ret v) s₂) : TurnL w c g L ep it q t0 s J i Q (.ret v) s₂ := h
theorem turnL_next {c : Lx} {g : Heap} {L : Addr} {ep it q : Nat} {t0 : Tok} {J : Nat → Int → (Str → Option Value) → Prop} {i : Nat} {Q : Flow → Shared → Prop} {i' : Nat} {line' : Int} {v1 ti : Tok} {m' : Str → Option Value} {h : Heap} {tk : Nat}
    (F : Fr g L h m') (N : News g L h (c.run w line' v1 i' ti ep it q t0)) (hi : i < i') (hJ : J i' line' m') : TurnL w c g L ep it q t0 s J i Q .next { s with heap := h, toks := tk } := ⟨i', line', v1, ti, m', h, tk, hi, hJ, rfl, F, N⟩
theorem turnL_cont {c : Lx} {g : Heap} {L : Addr} {ep it q : Nat} {t0 : Tok} {J : Nat → Int → (Str → Option Value) → Prop} {i : Nat} {Q : Flow → Shared → Prop} {i' : Nat} {line' : Int} {v1 ti : Tok} {m' : Str → Option Value} {h : Heap} {tk : Nat}
    (F : Fr g L h m') (N : News g L h (c.run w line' v1 i' ti ep it q t0)) (hi : i < i') (hJ : J i' line' m') : TurnL w c g L ep it q t0 s J i Q .cont { s with heap := h, toks := tk } := ⟨i', line', v1, ti, m', h, tk, hi, hJ, rfl, F, N⟩
theorem for_lx {g : Heap} {L : Addr} {m : Str → Option Value} {env : Env} {c : Lx} {line : Int} {v1 ti t0 : Tok} {i ep it q : Nat} {Q : Flow → Shared → Prop} {x : Str} {px : Pos} {body : List Stmt} (X : (Mine.hd.heap_1 w.params).In g) (T : Top topProg lo mean mg mb g) (F : Fr g L s.heap m) (N : News g L s.heap (c.run w line v1 i ti ep it q t0)) (hA : c.At g) (ok : c.Ok) (hd : dp + 30 < recursionLimit)
    (hL : env.locals = L) (hx : env.kindOf x = some .local) (hp : (env.scope.kind == .class || (env.scope.kind == .module && env.locals != env.globals)) = false)
    (J : Nat → Nat → Int → (Str → Option Value) → Prop) (h0 : J it i line m)
    (turn : ∀ i line v1 ti m₁ ch tc h tk, J it i line m₁ → c.text.cps[i]? = some ch → Fr g L h (fun y => if y = x then some (.str ⟨#[ch]⟩ tc) else m₁ y) → News g L h (c.run w (line + nl1 ch) v1 (i + 1) ti ep it q t0) →
      wpAny (model P w) (Ar dp fr gd un) (execs body env) (TurnL w c g L ep it q t0 s (J it) i Q) (fun _ _ => False) { s with heap := h, toks := tk })
    (done : ∀ i line v1 ti m₁ h tk, J it i line m₁ → c.text.cps[i]? = none → Fr g L h m₁ → News g L h (c.mu w line v1 i ti [] ep) → Q .next { s with heap := h, toks := tk }) :
    ForSrc P w (Ar dp fr gd un) env (.Name x px) body Q (.ref it) s := by
  subst hL
  unfold ForSrc
  refine iter_cit (N _ (.tail _ (.tail _ (.tail _ (.head _))))).1 ?_
  refine forI (fun n s' => ∃ i line v1 ti m' h tk, n = c.text.cps.size - i ∧ J it i line m' ∧ s' = { s with heap := h, toks := tk } ∧ Fr g env.locals h m' ∧ News g env.locals h (c.run w line v1 i ti ep it q t0)) ?_ _ ⟨i, line, v1, ti, m, s.heap, s.toks, rfl, h0, rfl, F, N⟩
  rintro n s' ⟨i, line, v1, ti, m', h, tk, rfl, hJ, rfl, F, N⟩
  refine next_lx X T F N hA ok hd ?_ ?_
  · intro ch hc h' tk' v1' ti' t' F' N'
    have hsz : i < c.text.cps.size := (Array.getElem?_eq_some_iff.mp hc).1
    refine wpAny_assign_Name (wpAny_storeName_local hx F'.ns (fun h₂ hn₂ hs₂ => ?_) hp)
    refine wpAny_mono (turn i line v1' ti' m' ch t' h₂ _ hJ hc (F'.set hn₂ hs₂) (N'.set hs₂)) (fun f s₃ h₃ => ?_) fun _ _ e => e.elim
    have fin : (∃ i' line' v1 ti m' h tk, i < i' ∧ J it i' line' m' ∧ s₃ = { s with heap := h, toks := tk } ∧ Fr g env.locals h m' ∧ News g env.locals h (c.run w line' v1 i' ti ep it q t0)) →
        ∃ n, n < c.text.cps.size - i ∧ ∃ i line v1 ti m' h tk, n = c.text.cps.size - i ∧ J it i line m' ∧ s₃ = { s with heap := h, toks := tk } ∧ Fr g env.locals h m' ∧ News g env.locals h (c.run w line v1 i ti ep it q t0) := by
      rintro ⟨i', line', v1, ti, m', h, tk, hi, a⟩
      exact ⟨_, by omega, i', line', v1, ti, m', h, tk, rfl, a⟩
    cases f with
    | ret v => exact h₃
    | brk => exact h₃
    | next => exact fin h₃
    | cont => exact fin h₃
  · intro hc h' tk' v1' ti' F' N'
    exact done i line v1' ti' m' h' tk' hJ hc F' N'
end
section
variable {w : World} {lo : List Str} {mean : ExcName → Option Value} {mg mb : Str → Option Value} {b₀ : Heap} {dp un : Nat} {fr : Option (List Env)} {gd : Option (List Code)} {s : Shared} {R : Result → Shared → Prop}
theorem isWs_in (ch : Nat) : (!(Builtin.Str.occurrences wsText ⟨#[ch]⟩ 0 wsText.length 1).isEmpty) = isWs ch := by
  rw [StrLaws.found_one, show wsText.cps.toList = [10, 9, 13, 32] by decide +kernel, mem_ws]
theorem in_ws {A : Around} {E : Value → Shared → Prop} {ch : Nat} {t u : Tok} {b : Bool} {Q : Value → Shared → Prop} (hb : isWs ch = b) (h : Q (.bool b) s) : wpAny (model P w) A (compareOp .In (.str ⟨#[ch]⟩ t) (.str wsText u)) Q E s :=
  PyProof.Rows.in_str (by rw [isWs_in, hb]; exact h)
theorem eq_k {A : Around} {E : Value → Shared → Prop} {x y : Str} {t u : Tok} {b : Bool} {Q : Value → Shared → Prop} (hb : (x == y) = b) (h : Q (.bool b) s) : wpAny (model P w) A (compareOp .Eq (.str x t) (.str y u)) Q E s :=
  PyProof.Rows.eq_str (by rw [hb]; exact h)
theorem chr_q {ch : Nat} (h : ch ≠ 34) : ((⟨#[ch]⟩ : Str) == Str.ofString "\"") = false := by
  rw [show Str.ofString "\"" = ⟨#[34]⟩ by decide +kernel]
  exact beq_eq_false_iff_ne.mpr (by simpa using h)
theorem chr_b {ch : Nat} (h : ch ≠ 92) : ((⟨#[ch]⟩ : Str) == Str.ofString "\\") = false := by
  rw [show Str.ofString "\\" = ⟨#[92]⟩ by decide +kernel]
  exact beq_eq_false_iff_ne.mpr (by simpa using h)
theorem rc_c {g : Heap} {L : Addr} {m : Str → Option Value} {E : Value → Shared → Prop} {c : Lx} {line : Int} {v1 ti t0 : Tok} {i ep it q d : Nat} {Q : Value → Shared → Prop} (X : (Mine.hd.heap_1 w.params).In g) (T : Top topProg lo mean mg mb g) (F : Fr g L s.heap m) (N : News g L s.heap (c.run w line v1 i ti ep it q t0)) (hA : c.At g) (ok : c.Ok) (hc : c.text.cps[i]? = some d) (hd : dp + 30 < recursionLimit)
    (k : ∀ h' tk' v1' ti' t', Fr g L h' m → News g L h' (c.run w (line + nl1 d) v1' (i + 1) ti' ep it q t0) → Q (.str ⟨#[d]⟩ t') { s with heap := h', toks := tk' }) :
    wpAny (model P w) (Ar dp fr gd un) (call (.ref 42) [.ref c.x]) Q E s := by
  have hdd := (N _ (.head _)).1
  have hat := (N _ (.tail _ (.head _))).1
  have hpb := (N _ (.tail _ (.tail _ (.head _)))).1
  have hit := (N _ (.tail _ (.tail _ (.tail _ (.head _))))).1
  have hq := (N _ (.tail _ (.tail _ (.tail _ (.tail _ (.head _)))))).1
  have n1 : @Ne Nat it c.d := ne_obj hit hdd nofun
  have n2 : @Ne Nat it c.at_ := ne_obj hit hat nofun
  have n4 : @Ne Nat q c.d := ne_obj hq hdd nofun
  have n5 : @Ne Nat q c.at_ := ne_obj hq hat nofun
  have n6 : @Ne Nat c.pb c.d := ne_obj hpb hdd nofun
  have n7 := ok.ne
  have hdn := (N _ (.head _)).2.2
  have han := (N _ (.tail _ (.head _))).2.2
  have hNL : Led g s.heap [(c.d, c.D w line v1), (c.at_, listOf #[.int i ti] 0)] := .cons hdd hdn (.cons hat han .nil)
  refine wpAny_call (readchar_c ⟨X, T⟩ F.keep hNL (hA.keeps F.keep) ok (by show dp + 28 < _; exact dlt1 hd (by decide)) ?_)
  intro h' tk' t' v1' ti' E'
  obtain ⟨F', N'⟩ := E'.out (mu := [(_, _), (_, _)]) F N rfl (by repeat' (first | exact trivial | refine And.intro ?_ ?_ | assumption | exact Ne.symm (by assumption) | (show @Ne Nat _ _; k_ne)))
  have e2 : chAt c.text i = ⟨#[d]⟩ := chAt_some hc
  show Q (.str (chAt c.text i) t') _
  simp only [e2, nlOf_chr] at N' ⊢
  exact k _ _ _ _ _ F' N'
theorem drop_none {a : Array Nat} {i : Nat} (h : a[i]? = none) : a.toList.drop i = [] := by
  rw [List.drop_eq_nil_iff]; simpa using h
inductive TkJ (c : Lx) (it : Nat) (t r : List Nat) (K : Int) (i : Nat) (line : Int) (m₁ : Str → Option Value) : Prop
  | mk (tv : Tok) (e0 : m₁ (Str.ofString "self") = some (.ref c.x)) (e1 : m₁ (Str.ofString "token") = some (.str (Str.ofString "") tv)) (e2 : m₁ (Str.ofString "fiter") = some (.ref it)) (hT : TTo (c.text.cps.toList.drop i) t r) (hl : line + nls (c.text.cps.toList.drop i) = K)
inductive TqJ (c : Lx) (it : Nat) (t r : List Nat) (K : Int) (i : Nat) (line : Int) (m₁ : Str → Option Value) : Prop
  | mk (u : Str) (t2 : List Nat) (tv : Tok) (e0 : m₁ (Str.ofString "self") = some (.ref c.x)) (e1 : m₁ (Str.ofString "token") = some (.str u tv)) (e2 : m₁ (Str.ofString "fiter") = some (.ref it)) (hu : u ++ S t2 = S t) (hT : QTo (c.text.cps.toList.drop i) t2 r) (hl : line + nls (c.text.cps.toList.drop i) = K)
inductive TuJ (c : Lx) (it : Nat) (t r : List Nat) (K : Int) (i : Nat) (line : Int) (m₁ : Str → Option Value) : Prop
  | mk (u : Str) (t2 : List Nat) (tv : Tok) (e0 : m₁ (Str.ofString "self") = some (.ref c.x)) (e1 : m₁ (Str.ofString "token") = some (.str u tv)) (e2 : m₁ (Str.ofString "fiter") = some (.ref it)) (hu : u ++ S t2 = S t) (hT : UTo (c.text.cps.toList.drop i) t2 r) (hl : line + nls (c.text.cps.toList.drop i) = K)
set_option maxRecDepth 100000 in
set_option maxHeartbeats 8000000 in
/-- get_token, where nothing waits -/
theorem tokB_c {c : Lx} {line0 : Int} {v10 ti0 : Tok} {i0 ep : Nat} {t r : List Nat} (G : Gd (Mine.hd.heap_1 w.params) lo mean mg mb b₀) (hb : Over b₀ s.heap) (hN : Led b₀ s.heap (c.mu w line0 v10 i0 ti0 [] ep)) (hA : c.At s.heap) (ok : c.Ok)
    (hd : dp + 48 < recursionLimit) (hT : TTo (c.text.cps.toList.drop i0) t r) 
    (hR : ∀ h' tk' v1' ti' j line' tv, Ends s.heap h' [c.d, c.at_, c.pb] (c.mu w line' v1' j ti' [] ep) → c.text.cps.toList.drop j = r → line' + nls r = line0 + nls (c.text.cps.toList.drop i0) → R (.ok (.ret (.str (S t) tv))) { s with heap := h', toks := tk' }) :
    codeAny (model P w) (Ar dp fr gd un) (.call (.ref 49) ⟨[.ref c.x], []⟩) R s := by
  k_with_none
  k_with "ne" => ((first | with_reducible assumption | exact Ne.symm (by with_reducible assumption) | exact Nat.ne_of_lt (by with_reducible assumption) | exact Nat.ne_of_gt (by with_reducible assumption) | (refine Nat.ne_of_lt ?_; (repeat (first | exact Nat.lt_succ_self _ | with_reducible assumption | refine Nat.lt_succ_of_lt ?_)); done) | (refine Nat.ne_of_gt ?_; (repeat (first | exact Nat.lt_succ_self _ | with_reducible assumption | refine Nat.lt_succ_of_lt ?_)); done) | exact Nat.ne_of_lt (And.left (by with_reducible assumption)) | exact Nat.ne_of_gt (And.left (by with_reducible assumption)) | exact (And.left (by with_reducible assumption)) | exact Ne.symm (And.left (by with_reducible assumption)) | exact Nat.ne_of_lt (And.left (And.right (by with_reducible assumption))) | exact Nat.ne_of_lt (And.right (by with_reducible assumption)) | exact Nat.ne_of_gt (And.left (And.right (by with_reducible assumption))) | exact Nat.ne_of_gt (And.right (by with_reducible assumption)) | exact (And.left (And.right (by with_reducible assumption))) | exact Ne.symm (And.left (And.right (by with_reducible assumption))) | exact (And.right (by with_reducible assumption)) | exact Ne.symm (And.right (by with_reducible assumption)) | exact Nat.ne_of_lt (And.left (And.right (And.right (by with_reducible assumption)))) | exact Nat.ne_of_lt (And.right (And.right (by with_reducible assumption))) | exact Nat.ne_of_gt (And.left (And.right (And.right (by with_reducible assumption)))) | exact Nat.ne_of_gt (And.right (And.right (by with_reducible assumption))) | exact (And.left (And.right (And.right (by with_reducible assumption)))) | exact Ne.symm (And.left (And.right (And.right (by with_reducible assumption)))) | exact (And.right (And.right (by with_reducible assumption))) | exact Ne.symm (And.right (And.right (by with_reducible assumption))) | exact Nat.ne_of_lt (And.left (And.right (And.right (And.right (by with_reducible assumption))))) | exact Nat.ne_of_lt (And.right (And.right (And.right (by with_reducible assumption)))) | exact Nat.ne_of_gt (And.left (And.right (And.right (And.right (by with_reducible assumption))))) | exact Nat.ne_of_gt (And.right (And.right (And.right (by with_reducible assumption)))) | exact (And.left (And.right (And.right (And.right (by with_reducible assumption))))) | exact Ne.symm (And.left (And.right (And.right (And.right (by with_reducible assumption))))) | exact (And.right (And.right (And.right (by with_reducible assumption)))) | exact Ne.symm (And.right (And.right (And.right (by with_reducible assumption)))) | exact Nat.ne_of_lt (And.left (And.right (And.right (And.right (And.right (by with_reducible assumption)))))) | exact Nat.ne_of_lt (And.right (And.right (And.right (And.right (by with_reducible assumption))))) | exact Nat.ne_of_gt (And.left (And.right (And.right (And.right (And.right (by with_reducible assumption)))))) | exact Nat.ne_of_gt (And.right (And.right (And.right (And.right (by with_reducible assumption))))) | exact (And.left (And.right (And.right (And.right (And.right (by with_reducible assumption)))))) | exact Ne.symm (And.left (And.right (And.right (And.right (And.right (by with_reducible assumption)))))) | exact (And.right (And.right (And.right (And.right (by with_reducible assumption))))) | exact Ne.symm (And.right (And.right (And.right (And.right (by with_reducible assumption))))) | exact Nat.ne_of_lt (And.left (And.right (And.right (And.right (And.right (And.right (by with_reducible assumption))))))) | exact Nat.ne_of_lt (And.right (And.right (And.right (And.right (And.right (by with_reducible assumption)))))) | exact Nat.ne_of_gt (And.left (And.right (And.right (And.right (And.right (And.right (by with_reducible assumption))))))) | exact Nat.ne_of_gt (And.right (And.right (And.right (And.right (And.right (by with_reducible assumption)))))) | exact (And.left (And.right (And.right (And.right (And.right (And.right (by with_reducible assumption))))))) | exact Ne.symm (And.left (And.right (And.right (And.right (And.right (And.right (by with_reducible assumption))))))) | exact (And.right (And.right (And.right (And.right (And.right (by with_reducible assumption)))))) | exact Ne.symm (And.right (And.right (And.right (And.right (And.right (by with_reducible assumption)))))) | exact Nat.ne_of_lt (And.left (And.right (And.right (And.right (And.right (And.right (And.right (by with_reducible assumption)))))))) | exact Nat.ne_of_lt (And.right (And.right (And.right (And.right (And.right (And.right (by with_reducible assumption))))))) | exact Nat.ne_of_gt (And.left (And.right (And.right (And.right (And.right (And.right (And.right (by with_reducible assumption)))))))) | exact Nat.ne_of_gt (And.right (And.right (And.right (And.right (And.right (And.right (by with_reducible assumption))))))) | exact (And.left (And.right (And.right (And.right (And.right (And.right (And.right (by with_reducible assumption)))))))) | exact Ne.symm (And.left (And.right (And.right (And.right (And.right (And.right (And.right (by with_reducible assumption)))))))) | exact (And.right (And.right (And.right (And.right (And.right (And.right (by with_reducible assumption))))))) | exact Ne.symm (And.right (And.right (And.right (And.right (And.right (And.right (by with_reducible assumption))))))) | exact Nat.ne_of_lt (And.left (And.right (And.right (And.right (And.right (And.right (And.right (And.right (by with_reducible assumption))))))))) | exact Nat.ne_of_lt (And.right (And.right (And.right (And.right (And.right (And.right (And.right (by with_reducible assumption)))))))) | exact Nat.ne_of_gt (And.left (And.right (And.right (And.right (And.right (And.right (And.right (And.right (by with_reducible assumption))))))))) | exact Nat.ne_of_gt (And.right (And.right (And.right (And.right (And.right (And.right (And.right (by with_reducible assumption)))))))) | exact (And.left (And.right (And.right (And.right (And.right (And.right (And.right (And.right (by with_reducible assumption))))))))) | exact Ne.symm (And.left (And.right (And.right (And.right (And.right (And.right (And.right (And.right (by with_reducible assumption))))))))) | exact (And.right (And.right (And.right (And.right (And.right (And.right (And.right (by with_reducible assumption)))))))) | exact Ne.symm (And.right (And.right (And.right (And.right (And.right (And.right (And.right (by with_reducible assumption)))))))) | exact Nat.ne_of_lt (And.left (And.right (And.right (And.right (And.right (And.right (And.right (And.right (And.right (by with_reducible assumption)))))))))) | exact Nat.ne_of_lt (And.right (And.right (And.right (And.right (And.right (And.right (And.right (And.right (by with_reducible assumption))))))))) | exact Nat.ne_of_gt (And.left (And.right (And.right (And.right (And.right (And.right (And.right (And.right (And.right (by with_reducible assumption)))))))))) | exact Nat.ne_of_gt (And.right (And.right (And.right (And.right (And.right (And.right (And.right (And.right (by with_reducible assumption))))))))) | exact (And.left (And.right (And.right (And.right (And.right (And.right (And.right (And.right (And.right (by with_reducible assumption)))))))))) | exact Ne.symm (And.left (And.right (And.right (And.right (And.right (And.right (And.right (And.right (And.right (by with_reducible assumption)))))))))) | exact (And.right (And.right (And.right (And.right (And.right (And.right (And.right (And.right (by with_reducible assumption))))))))) | exact Ne.symm (And.right (And.right (And.right (And.right (And.right (And.right (And.right (And.right (by with_reducible assumption))))))))) | exact Nat.ne_of_lt (And.left (And.right (And.right (And.right (And.right (And.right (And.right (And.right (And.right (And.right (by with_reducible assumption))))))))))) | exact Nat.ne_of_lt (And.right (And.right (And.right (And.right (And.right (And.right (And.right (And.right (And.right (by with_reducible assumption)))))))))) | exact Nat.ne_of_gt (And.left (And.right (And.right (And.right (And.right (And.right (And.right (And.right (And.right (And.right (by with_reducible assumption))))))))))) | exact Nat.ne_of_gt (And.right (And.right (And.right (And.right (And.right (And.right (And.right (And.right (And.right (by with_reducible assumption)))))))))) | exact (And.left (And.right (And.right (And.right (And.right (And.right (And.right (And.right (And.right (And.right (by with_reducible assumption))))))))))) | exact Ne.symm (And.left (And.right (And.right (And.right (And.right (And.right (And.right (And.right (And.right (And.right (by with_reducible assumption))))))))))) | exact (And.right (And.right (And.right (And.right (And.right (And.right (And.right (And.right (And.right (by with_reducible assumption)))))))))) | exact Ne.symm (And.right (And.right (And.right (And.right (And.right (And.right (And.right (And.right (And.right (by with_reducible assumption)))))))))) | exact Nat.ne_of_lt (And.left (And.right (And.right (And.right (And.right (And.right (And.right (And.right (And.right (And.right (And.right (by with_reducible assumption)))))))))))) | exact Nat.ne_of_lt (And.right (And.right (And.right (And.right (And.right (And.right (And.right (And.right (And.right (And.right (by with_reducible assumption))))))))))) | exact Nat.ne_of_gt (And.left (And.right (And.right (And.right (And.right (And.right (And.right (And.right (And.right (And.right (And.right (by with_reducible assumption)))))))))))) | exact Nat.ne_of_gt (And.right (And.right (And.right (And.right (And.right (And.right (And.right (And.right (And.right (And.right (by with_reducible assumption))))))))))) | exact (And.left (And.right (And.right (And.right (And.right (And.right (And.right (And.right (And.right (And.right (And.right (by with_reducible assumption)))))))))))) | exact Ne.symm (And.left (And.right (And.right (And.right (And.right (And.right (And.right (And.right (And.right (And.right (And.right (by with_reducible assumption)))))))))))) | exact (And.right (And.right (And.right (And.right (And.right (And.right (And.right (And.right (And.right (And.right (by with_reducible assumption))))))))))) | exact Ne.symm (And.right (And.right (And.right (And.right (And.right (And.right (And.right (And.right (And.right (And.right (by with_reducible assumption)))))))))))))
  k_with "exec For Name Attribute cons nil" => (k_dflt (refine for_exec ?_))
  k_with "exec For Name Name cons nil" => (k_dflt (refine for_exec ?_))
  k_with "exec For Name Call cons nil" => (k_dflt (refine for_exec ?_))
  k_with "call type:tuple" => ((k_here; (with_reducible show wpAny _ _ (call (Value.type _) [Value.ref _]) _ _ _); k_dflt (refine' tupleOf_c (by k_asm) (by k_asm) (by k_mem) (by ((have hL9 := IntsAre.length (by assumption)); rw [sizeLine_eq]; omega)) ?_; k_whole); intro _ _ _ _ l19q; (try k_lt l19q); (try k_sweep)))
  k_with "call builtin:len" => ((k_here; (with_reducible show wpAny _ _ (call (Value.builtin "len") [Value.ref _]) _ _ _); k_dflt (refine' len_tupI (by k_asm) (by with_reducible assumption) (by with_reducible assumption) (by omega) ?_; k_whole); intro _ _))
  k_with "execs cons" => ((k_dflt (refine execs_n (s := ‹Shared›) ?_); intro _; (try k_fold)))
  k_with "exec If BoolOp cons nil" => (((fail_if_success (with_reducible show wpAny _ _ _ (Cut _ _) _ _)); refine Hold.out ?_))
  k_with "out" => (repeat (first | (k_unfold; (try dsimp only)) | refine cut_ret ?_ | refine turn_ret ?_))
  k_with "go" => ((w_top off; repeat' (first | (k_unfold; (try dsimp only)) | walk1 | (dsimp only; walk1))))
  k_with "truthy ref" => ((k_here; k_dflt (refine' truthy_nil (by k_asm) (by k_mem) ?_; k_whole); intro _))
  k_with "call builtin:iter" => ((k_here; k_dflt (refine' iter2_c (by k_asm) (by k_asm) (by k_mem) ?_; k_whole); intro _ _ _ _ l19q; (try k_lt l19q); (try k_sweep)))
  k_with "compareOp In str str" => ((k_here; k_dflt (refine' in_ws (by assumption) ?_; k_whole)))
  k_with "compareOp Eq str str" => ((k_here; k_dflt (refine' eq_k (by assumption) ?_; k_whole)))
  k_with "call ref" => (((with_reducible show wpAny _ _ (call (Value.ref 42) _ _) _ _ _); refine Hold.out ?_))
  k_with "out2" => (repeat (first | (k_unfold; (try dsimp only)) | refine turnL_ret ?_))
  have hdd := (hN _ (.head _)).1
  have hat := (hN _ (.tail _ (.head _))).1
  have hpb := (hN _ (.tail _ (.tail _ (.head _)))).1
  have nda : @Ne Nat c.d c.at_ := ne_obj hdd hat nofun
  have ndp : @Ne Nat c.d c.pb := ne_obj hdd hpb nofun
  have nap := ok.ne
  refine enter (binds := [(Str.ofString "self", .ref c.x)]) _ G hb hN (by k_is) (by k_is) (by show dp < _; exact dlt0 hd) (BindsTo.of_eq rfl) (locs rfl) (by decide) ?_
  intro g L h₁ tk F N X T hg
  have hAg := hA.off ok hdd hat hpb hg
  have gx : g.get? c.x = some (instObj 59 c.d) := hAg _ (.head _)
  have htl : t.length ≤ 1048576 := by
    have h1 := hT.len
    have h2 := ok.len
    simp only [List.length_drop, Array.length_toList] at h1
    have h3 : c.text.cps.size = c.text.length := rfl
    omega
  walk_at "go"
  refine for_lx (g := g) (c := c) (line := line0) (v1 := v10) (i := i0) (ti := ti0) (ep := ep) (J := fun it => TkJ c it t r (line0 + nls (c.text.cps.toList.drop i0))) X T (by k_asm) (news_sub (by k_asm) (by kcj_all)) hAg ok (by show dp + 1 + 30 < _; exact dlt hd (by decide)) rfl rfl rfl ?_ ?_ ?_
  · exact ⟨_, rfl, rfl, rfl, hT, rfl⟩
  · rintro i line v1 ti m₁ ch tc h tk ⟨tv, e0, e1, e2, hT, hl⟩ hc F N
    replace F := know (x := Str.ofString "self") F e0
    replace F := know (x := Str.ofString "token") F e1
    replace F := know (x := Str.ofString "fiter") F e2
    have hdr := drop_at hc
    rw [hdr] at hT
    rcases hT.inv with ⟨hw, hT'⟩ | ⟨rfl, hT'⟩ | ⟨rfl, d, l', t', el, rfl, hT'⟩
    · walk_at "go"
      refine turnL_cont (by k_asm) (by k_asm) (show i < i + 1 by omega) ⟨_, rfl, rfl, rfl, hT', ?_⟩
      rw [hdr, nls_nl1] at hl
      omega
    · have hw : isWs 34 = false := rfl
      walk_at "go"
      refine for_lx (g := g) (c := c) (J := fun it => TqJ c it t r (line0 + nls (c.text.cps.toList.drop i0))) X T (by k_asm) (by k_asm) hAg ok (by show dp + 1 + 30 < _; exact dlt hd (by decide)) rfl rfl rfl ?_ ?_ ?_
      · rw [hdr, nls_nl1] at hl
        exact ⟨_, _, _, rfl, rfl, rfl, nil_S t, hT', by omega⟩
      · clear F N hdr hc hT hT' hl e0 e1 e2
        rintro i line v1 ti m₁ ch tc h tk ⟨u, t2, tv, e0, e1, e2, hu, hT, hl⟩ hc F N
        replace F := know (x := Str.ofString "self") F e0
        replace F := know (x := Str.ofString "token") F e1
        replace F := know (x := Str.ofString "fiter") F e2
        have hdr := drop_at hc
        have hsz := size_le hu
        have hus : u.cps.size ≤ 1048576 := by omega
        rw [hdr] at hT
        rw [hdr, nls_nl1] at hl
        rcases hT.inv with ⟨rfl, rfl, rfl⟩ | ⟨rfl, d, l', t', el, rfl, hT'⟩ | ⟨n1, n2, t', rfl, hT'⟩
        · walk_at "go"
          walk_at "out2"
          rw [S_nil] at hu
          subst hu
          exact hR _ _ _ _ _ _ _ (ends_of (by k_asm) (news_sub (by k_asm) (by kcj_all)) hg) rfl (by omega)
        · obtain ⟨hc2, hd2⟩ := cps_of_drop el
          walk_at "go"
          refine Hold.in (rc_c (c := c) X T (by k_asm) (by k_asm) hAg ok hc2 (by show dp + 1 + 30 < _; exact dlt hd (by decide)) ?_)
          intro h' tk' v1' ti' t5 F' N'
          k_sweep
          walk_at "go"
          rw [el, nls_nl1] at hl
          exact turnL_next (by k_asm) (by k_asm) (show i < i + 1 + 1 by omega) ⟨_, _, _, rfl, rfl, rfl, (app_cons _ _ _).trans hu, by rw [hd2]; exact hT', by rw [hd2]; omega⟩
        · have b1 := chr_q n1
          have b2 := chr_b n2
          walk_at "go"
          exact turnL_next (by k_asm) (by k_asm) (show i < i + 1 by omega) ⟨_, _, _, rfl, rfl, rfl, (app_cons _ _ _).trans hu, hT', by omega⟩
      · rintro i line v1 ti m₁ h tk ⟨u, t2, tv, e0, e1, e2, hu, hT, hl⟩ hc F N
        rw [drop_none hc] at hT
        cases hT
    · have hw : isWs 92 = false := rfl
      walk_at "go"
      obtain ⟨hc2, hd2⟩ := cps_of_drop el
      refine Hold.in (rc_c (c := c) X T (by k_asm) (by k_asm) hAg ok hc2 (by show dp + 1 + 30 < _; exact dlt hd (by decide)) ?_)
      intro h' tk' v1' ti' t5 F' N'
      k_sweep
      walk_at "go"
      refine for_lx (g := g) (c := c) (J := fun it => TuJ c it (d :: t') r (line0 + nls (c.text.cps.toList.drop i0))) X T (by k_asm) (by k_asm) hAg ok (by show dp + 1 + 30 < _; exact dlt hd (by decide)) rfl rfl rfl ?_ ?_ ?_
      · rw [hdr, nls_nl1, el, nls_nl1] at hl
        exact ⟨_, _, _, rfl, rfl, rfl, (app_cons _ _ _).trans (nil_S _), by rw [hd2]; exact hT', by rw [hd2]; omega⟩
      · clear hdr hc hT hT' hl e0 e1 e2 hc2 hd2 el
        rintro i line v1 ti m₁ ch tc h tk ⟨u, t2, tv, e0, e1, e2, hu, hT, hl⟩ hc F N
        replace F := know (x := Str.ofString "self") F e0
        replace F := know (x := Str.ofString "token") F e1
        replace F := know (x := Str.ofString "fiter") F e2
        have hdr := drop_at hc
        have hsz := size_le hu
        have hus : u.cps.size ≤ 1048576 := by omega
        rw [hdr] at hT
        rw [hdr, nls_nl1] at hl
        rcases hT.inv with ⟨hw, rfl, rfl⟩ | ⟨rfl, d, l', t', el, rfl, hT'⟩ | ⟨n1, n2, t', rfl, hT'⟩
        · walk_at "go"
          walk_at "out2"
          rw [S_nil] at hu
          subst hu
          exact hR _ _ _ _ _ _ _ (ends_of (by k_asm) (news_sub (by k_asm) (by kcj_all)) hg) rfl (by omega)
        · obtain ⟨hc2, hd2⟩ := cps_of_drop el
          have hw : isWs 92 = false := rfl
          walk_at "go"
          refine Hold.in (rc_c (c := c) X T (by k_asm) (by k_asm) hAg ok hc2 (by show dp + 1 + 30 < _; exact dlt hd (by decide)) ?_)
          intro h' tk' v1' ti' t5 F' N'
          k_sweep
          walk_at "go"
          rw [el, nls_nl1] at hl
          exact turnL_next (by k_asm) (by k_asm) (show i < i + 1 + 1 by omega) ⟨_, _, _, rfl, rfl, rfl, (app_cons _ _ _).trans hu, by rw [hd2]; exact hT', by rw [hd2]; omega⟩
        · have b2 := chr_b n2
          walk_at "go"
          exact turnL_next (by k_asm) (by k_asm) (show i < i + 1 by omega) ⟨_, _, _, rfl, rfl, rfl, (app_cons _ _ _).trans hu, hT', by omega⟩
      · rintro i line v1 ti m₁ h tk ⟨u, t2, tv, e0, e1, e2, hu, hT, hl⟩ hc F N
        rw [drop_none hc] at hT
        cases hT
  · rintro i line v1 ti m₁ h tk ⟨tv, e0, e1, e2, hT, hl⟩ hc F N
    replace F := know (x := Str.ofString "token") F e1
    (try k_unfold)
    (try dsimp only)
    rw [drop_none hc] at hT hl
    cases hT
    walk_at "go"
    rw [show Str.ofString "" = S [] by decide +kernel]
    exact hR _ _ _ _ _ _ _ (ends_of (by k_asm) (by k_asm) hg) (drop_none hc) (by omega)
end
section
variable {w : World} {lo : List Str} {mean : ExcName → Option Value} {mg mb : Str → Option Value} {b₀ : Heap} {dp un : Nat} {fr : Option (List Env)} {gd : Option (List Code)} {s : Shared} {R : Result → Shared → Prop}
theorem WsIn.mono {w : World} {E E' : List (Addr × Obj)} {x : Nat} {u : Str} (h : WsIn w E x u) (k : ∀ p ∈ E, p ∈ E') : WsIn w E' x u := by
  obtain ⟨d, Dn, Dc, vs, tu, tb, tn, tt, u1, u2, u3, u4, u5, hi, hp⟩ := h
  exact ⟨d, Dn, Dc, vs, tu, tb, tn, tt, u1, u2, u3, u4, u5, hi, fun p q => k p (hp p q)⟩
theorem take_new {us : List Str} {i : Nat} {u : Str} (hnd : us.Nodup) (hu : us[i]? = some u) : u ∉ us.take i ∧ us.take (i + 1) = us.take i ++ [u] := by
  obtain ⟨hi, rfl⟩ := List.getElem?_eq_some_iff.mp hu
  refine ⟨fun h => ?_, by rw [List.take_succ_eq_append_getElem hi]⟩
  obtain ⟨j, hj, e⟩ := List.mem_take_iff_getElem.mp h
  have := (List.getElem_inj hnd).mp e
  omega
/-- what _law_told has made so far -/
inductive ToldJ (w : World) (us : List Str) (i : Nat) (m₁ : Str → Option Value) (news₁ : List (Addr × Obj)) : Prop
  | mk (D : Nat) (o : Obj) (E : List (Addr × Obj)) (kvs : List (Str × Value)) (e : m₁ (Str.ofString "leads") = some (.ref D)) (en : news₁ = (D, o) :: E) (hlo : (D == sysModules) = false) (hne : AllNe D E) (hd : o.IsDictOf (PySem.strKind P w) kvs) (hk : kvs.map (·.1) = us.take i)
      (hw : ∀ p ∈ kvs, ∃ x, p.2 = .ref x ∧ WsIn w E x p.1)
set_option maxRecDepth 100000 in
set_option maxHeartbeats 8000000 in
theorem told_c {wl : Nat} {vs : List Value} {us : List Str} (G : Gd (Mine.hd.heap_1 w.params) lo mean mg mb b₀) (hb : Over b₀ s.heap) (hl : s.heap.IsList wl vs.toArray) (hv : StrsAre vs us) (hnd : us.Nodup) (hln : us.length ≤ 100) (hlen : ∀ u ∈ us, u.length ≤ 1000000)
    (hd : dp + 28 < recursionLimit)
    (hR : ∀ h' tk' D o E kvs, Ends s.heap h' [] ((D, o) :: E) → o.IsDictOf (PySem.strKind P w) kvs → (D == sysModules) = false → kvs.map (·.1) = us → (∀ p ∈ kvs, ∃ x, p.2 = .ref x ∧ WsIn w E x p.1) → R (.ok (.ret (.ref D))) { s with heap := h', toks := tk' }) :
    codeAny (model P w) (Ar dp fr gd un) (.call (.ref 165) ⟨[.ref wl], []⟩) R s := by
  k_with_none
  k_with "ne" => ((first | with_reducible assumption | exact Ne.symm (by with_reducible assumption) | exact Nat.ne_of_lt (by with_reducible assumption) | exact Nat.ne_of_gt (by with_reducible assumption) | (refine Nat.ne_of_lt ?_; (repeat (first | exact Nat.lt_succ_self _ | with_reducible assumption | refine Nat.lt_succ_of_lt ?_)); done) | (refine Nat.ne_of_gt ?_; (repeat (first | exact Nat.lt_succ_self _ | with_reducible assumption | refine Nat.lt_succ_of_lt ?_)); done) | exact Nat.ne_of_lt (And.left (by with_reducible assumption)) | exact Nat.ne_of_gt (And.left (by with_reducible assumption)) | exact (And.left (by with_reducible assumption)) | exact Ne.symm (And.left (by with_reducible assumption)) | exact Nat.ne_of_lt (And.left (And.right (by with_reducible assumption))) | exact Nat.ne_of_lt (And.right (by with_reducible assumption)) | exact Nat.ne_of_gt (And.left (And.right (by with_reducible assumption))) | exact Nat.ne_of_gt (And.right (by with_reducible assumption)) | exact (And.left (And.right (by with_reducible assumption))) | exact Ne.symm (And.left (And.right (by with_reducible assumption))) | exact (And.right (by with_reducible assumption)) | exact Ne.symm (And.right (by with_reducible assumption)) | exact Nat.ne_of_lt (And.left (And.right (And.right (by with_reducible assumption)))) | exact Nat.ne_of_lt (And.right (And.right (by with_reducible assumption))) | exact Nat.ne_of_gt (And.left (And.right (And.right (by with_reducible assumption)))) | exact Nat.ne_of_gt (And.right (And.right (by with_reducible assumption))) | exact (And.left (And.right (And.right (by with_reducible assumption)))) | exact Ne.symm (And.left (And.right (And.right (by with_reducible assumption)))) | exact (And.right (And.right (by with_reducible assumption))) | exact Ne.symm (And.right (And.right (by with_reducible assumption))) | exact Nat.ne_of_lt (And.left (And.right (And.right (And.right (by with_reducible assumption))))) | exact Nat.ne_of_lt (And.right (And.right (And.right (by with_reducible assumption)))) | exact Nat.ne_of_gt (And.left (And.right (And.right (And.right (by with_reducible assumption))))) | exact Nat.ne_of_gt (And.right (And.right (And.right (by with_reducible assumption)))) | exact (And.left (And.right (And.right (And.right (by with_reducible assumption))))) | exact Ne.symm (And.left (And.right (And.right (And.right (by with_reducible assumption))))) | exact (And.right (And.right (And.right (by with_reducible assumption)))) | exact Ne.symm (And.right (And.right (And.right (by with_reducible assumption)))) | exact Nat.ne_of_lt (And.left (And.right (And.right (And.right (And.right (by with_reducible assumption)))))) | exact Nat.ne_of_lt (And.right (And.right (And.right (And.right (by with_reducible assumption))))) | exact Nat.ne_of_gt (And.left (And.right (And.right (And.right (And.right (by with_reducible assumption)))))) | exact Nat.ne_of_gt (And.right (And.right (And.right (And.right (by with_reducible assumption))))) | exact (And.left (And.right (And.right (And.right (And.right (by with_reducible assumption)))))) | exact Ne.symm (And.left (And.right (And.right (And.right (And.right (by with_reducible assumption)))))) | exact (And.right (And.right (And.right (And.right (by with_reducible assumption))))) | exact Ne.symm (And.right (And.right (And.right (And.right (by with_reducible assumption))))) | exact Nat.ne_of_lt (And.left (And.right (And.right (And.right (And.right (And.right (by with_reducible assumption))))))) | exact Nat.ne_of_lt (And.right (And.right (And.right (And.right (And.right (by with_reducible assumption)))))) | exact Nat.ne_of_gt (And.left (And.right (And.right (And.right (And.right (And.right (by with_reducible assumption))))))) | exact Nat.ne_of_gt (And.right (And.right (And.right (And.right (And.right (by with_reducible assumption)))))) | exact (And.left (And.right (And.right (And.right (And.right (And.right (by with_reducible assumption))))))) | exact Ne.symm (And.left (And.right (And.right (And.right (And.right (And.right (by with_reducible assumption))))))) | exact (And.right (And.right (And.right (And.right (And.right (by with_reducible assumption)))))) | exact Ne.symm (And.right (And.right (And.right (And.right (And.right (by with_reducible assumption)))))) | exact Nat.ne_of_lt (And.left (And.right (And.right (And.right (And.right (And.right (And.right (by with_reducible assumption)))))))) | exact Nat.ne_of_lt (And.right (And.right (And.right (And.right (And.right (And.right (by with_reducible assumption))))))) | exact Nat.ne_of_gt (And.left (And.right (And.right (And.right (And.right (And.right (And.right (by with_reducible assumption)))))))) | exact Nat.ne_of_gt (And.right (And.right (And.right (And.right (And.right (And.right (by with_reducible assumption))))))) | exact (And.left (And.right (And.right (And.right (And.right (And.right (And.right (by with_reducible assumption)))))))) | exact Ne.symm (And.left (And.right (And.right (And.right (And.right (And.right (And.right (by with_reducible assumption)))))))) | exact (And.right (And.right (And.right (And.right (And.right (And.right (by with_reducible assumption))))))) | exact Ne.symm (And.right (And.right (And.right (And.right (And.right (And.right (by with_reducible assumption))))))) | exact Nat.ne_of_lt (And.left (And.right (And.right (And.right (And.right (And.right (And.right (And.right (by with_reducible assumption))))))))) | exact Nat.ne_of_lt (And.right (And.right (And.right (And.right (And.right (And.right (And.right (by with_reducible assumption)))))))) | exact Nat.ne_of_gt (And.left (And.right (And.right (And.right (And.right (And.right (And.right (And.right (by with_reducible assumption))))))))) | exact Nat.ne_of_gt (And.right (And.right (And.right (And.right (And.right (And.right (And.right (by with_reducible assumption)))))))) | exact (And.left (And.right (And.right (And.right (And.right (And.right (And.right (And.right (by with_reducible assumption))))))))) | exact Ne.symm (And.left (And.right (And.right (And.right (And.right (And.right (And.right (And.right (by with_reducible assumption))))))))) | exact (And.right (And.right (And.right (And.right (And.right (And.right (And.right (by with_reducible assumption)))))))) | exact Ne.symm (And.right (And.right (And.right (And.right (And.right (And.right (And.right (by with_reducible assumption)))))))) | exact Nat.ne_of_lt (And.left (And.right (And.right (And.right (And.right (And.right (And.right (And.right (And.right (by with_reducible assumption)))))))))) | exact Nat.ne_of_lt (And.right (And.right (And.right (And.right (And.right (And.right (And.right (And.right (by with_reducible assumption))))))))) | exact Nat.ne_of_gt (And.left (And.right (And.right (And.right (And.right (And.right (And.right (And.right (And.right (by with_reducible assumption)))))))))) | exact Nat.ne_of_gt (And.right (And.right (And.right (And.right (And.right (And.right (And.right (And.right (by with_reducible assumption))))))))) | exact (And.left (And.right (And.right (And.right (And.right (And.right (And.right (And.right (And.right (by with_reducible assumption)))))))))) | exact Ne.symm (And.left (And.right (And.right (And.right (And.right (And.right (And.right (And.right (And.right (by with_reducible assumption)))))))))) | exact (And.right (And.right (And.right (And.right (And.right (And.right (And.right (And.right (by with_reducible assumption))))))))) | exact Ne.symm (And.right (And.right (And.right (And.right (And.right (And.right (And.right (And.right (by with_reducible assumption))))))))) | exact Nat.ne_of_lt (And.left (And.right (And.right (And.right (And.right (And.right (And.right (And.right (And.right (And.right (by with_reducible assumption))))))))))) | exact Nat.ne_of_lt (And.right (And.right (And.right (And.right (And.right (And.right (And.right (And.right (And.right (by with_reducible assumption)))))))))) | exact Nat.ne_of_gt (And.left (And.right (And.right (And.right (And.right (And.right (And.right (And.right (And.right (And.right (by with_reducible assumption))))))))))) | exact Nat.ne_of_gt (And.right (And.right (And.right (And.right (And.right (And.right (And.right (And.right (And.right (by with_reducible assumption)))))))))) | exact (And.left (And.right (And.right (And.right (And.right (And.right (And.right (And.right (And.right (And.right (by with_reducible assumption))))))))))) | exact Ne.symm (And.left (And.right (And.right (And.right (And.right (And.right (And.right (And.right (And.right (And.right (by with_reducible assumption))))))))))) | exact (And.right (And.right (And.right (And.right (And.right (And.right (And.right (And.right (And.right (by with_reducible assumption)))))))))) | exact Ne.symm (And.right (And.right (And.right (And.right (And.right (And.right (And.right (And.right (And.right (by with_reducible assumption)))))))))) | exact Nat.ne_of_lt (And.left (And.right (And.right (And.right (And.right (And.right (And.right (And.right (And.right (And.right (And.right (by with_reducible assumption)))))))))))) | exact Nat.ne_of_lt (And.right (And.right (And.right (And.right (And.right (And.right (And.right (And.right (And.right (And.right (by with_reducible assumption))))))))))) | exact Nat.ne_of_gt (And.left (And.right (And.right (And.right (And.right (And.right (And.right (And.right (And.right (And.right (And.right (by with_reducible assumption)))))))))))) | exact Nat.ne_of_gt (And.right (And.right (And.right (And.right (And.right (And.right (And.right (And.right (And.right (And.right (by with_reducible assumption))))))))))) | exact (And.left (And.right (And.right (And.right (And.right (And.right (And.right (And.right (And.right (And.right (And.right (by with_reducible assumption)))))))))))) | exact Ne.symm (And.left (And.right (And.right (And.right (And.right (And.right (And.right (And.right (And.right (And.right (And.right (by with_reducible assumption)))))))))))) | exact (And.right (And.right (And.right (And.right (And.right (And.right (And.right (And.right (And.right (And.right (by with_reducible assumption))))))))))) | exact Ne.symm (And.right (And.right (And.right (And.right (And.right (And.right (And.right (And.right (And.right (And.right (by with_reducible assumption)))))))))))))
  k_with "exec For Name Attribute cons nil" => (k_dflt (refine for_exec ?_))
  k_with "exec For Name Name cons nil" => (k_dflt (refine for_exec ?_))
  k_with "exec For Name Call cons nil" => (k_dflt (refine for_exec ?_))
  k_with "call type:tuple" => ((k_here; (with_reducible show wpAny _ _ (call (Value.type _) [Value.ref _]) _ _ _); k_dflt (refine' tupleOf_c (by k_asm) (by k_asm) (by k_mem) (by ((have hL9 := IntsAre.length (by assumption)); rw [sizeLine_eq]; omega)) ?_; k_whole); intro _ _ _ _ l19q; (try k_lt l19q); (try k_sweep)))
  k_with "call builtin:len" => ((k_here; (with_reducible show wpAny _ _ (call (Value.builtin "len") [Value.ref _]) _ _ _); k_dflt (refine' len_tupI (by k_asm) (by with_reducible assumption) (by with_reducible assumption) (by omega) ?_; k_whole); intro _ _))
  k_with "execs cons" => ((k_dflt (refine execs_n (s := ‹Shared›) ?_); intro _; (try k_fold)))
  k_with "exec If BoolOp cons nil" => (((fail_if_success (with_reducible show wpAny _ _ _ (Cut _ _) _ _)); refine Hold.out ?_))
  k_with "out" => (repeat (first | (k_unfold; (try dsimp only)) | refine cut_ret ?_ | refine turn_ret ?_))
  k_with "go" => ((w_top off; repeat' (first | (k_unfold; (try dsimp only)) | walk1 | (dsimp only; walk1))))
  k_with "call ref" => (((with_reducible show wpAny _ _ (call (Value.ref 125) _ _) _ _ _); refine Hold.out ?_))
  k_with "setItem ref str" => (refine Hold.out ?_)
  refine enter (binds := [(Str.ofString "words", .ref wl)]) [] G hb Led.nil (by k_is) (by k_is) (by show dp < _; exact dlt0 hd) (BindsTo.of_eq rfl) (locs rfl) (by decide) ?_
  intro g L h₁ tk F N X T hg
  have hgl : g.IsList wl vs.toArray := let ⟨o, a, b⟩ := hl; ⟨o, hg _ _ a (by simp), b⟩
  walk_at "go"
  refine for_list (g := g) (news := [(_, _)]) (J := ToldJ w us) rfl hgl rfl rfl rfl (by k_asm) (by k_asm) ?_ ?_ ?_
  · exact ⟨_, _, [], [], rfl, rfl, by assumption, trivial, by assumption, rfl, fun _ q => nomatch q⟩
  · rintro i v m₁ news₁ h tk I oI h₀ hi hiv ⟨D, o, E, kvs, e, rfl, hlo, hne, hdo, hk, hw⟩ hoff F N
    replace F := know (x := Str.ofString "leads") F e
    obtain ⟨u, tu, rfl, hu⟩ := StrsAre.item hv i v hiv
    have hul : u.length ≤ 1000000 := hlen u (List.mem_of_getElem? hu)
    walk_at "go"
    refine Hold.in (call_cls F X N (by k_is) (by k_is) (by k_is) ?_)
    intro x d h1 F1 N1 l1 l2
    refine wsinit_c ⟨X, T⟩ F1.keep (led_of N1 (by kcj_all)) (by show dp + 1 + 1 + 8 < _; omega) (Nat.ne_of_gt l2) (by omega) ?_
    intro h2 tk2 E2 En hW
    have aD : @Ne Nat D d ∧ @Ne Nat D x := ⟨Nat.ne_of_lt (l1 (D, o) (.tail _ (.head _))), Nat.ne_of_lt (Nat.lt_trans (l1 (D, o) (.tail _ (.head _))) l2)⟩
    have aI : @Ne Nat I d ∧ @Ne Nat I x := ⟨Nat.ne_of_lt (l1 (I, oI) (.head _)), Nat.ne_of_lt (Nat.lt_trans (l1 (I, oI) (.head _)) l2)⟩
    have off : AllOff ((I, oI) :: (D, o) :: E) [x, d] := ⟨.of fun p hp => by have := l1 p hp; exact Nat.ne_of_lt (Nat.lt_trans this l2), .of fun p hp => Nat.ne_of_lt (l1 p hp), trivial⟩
    have nD := Ends.new2 En (a := D) (N1 (D, o) (.tail _ (.tail _ (.tail _ (.head _))))).1 aD.2 aD.1
    have nI := Ends.new2 En (a := I) (N1 (I, oI) (.tail _ (.tail _ (.head _)))).1 aI.2 aI.1
    obtain ⟨F2, N2⟩ := En.out (mu := [(_, _), (_, _)]) F1 N1 rfl off
    clear En F1 N1 F N
    refine ⟨rfl, ?_⟩
    dsimp only
    walk_at "go"
    refine Hold.in (setItem_D (D := D) (o := o) (rest := E2 ++ (I, oI) :: E) F2 (news_sub N2 (by simp only [List.mem_cons, List.mem_append]; rintro p (h | h | h | h) <;> simp [h])) ?_ hdo ?_ ?_)
    · refine .of fun p hp => ?_
      rcases List.mem_append.mp hp with h | h
      · exact nD p h
      · rcases List.mem_cons.mp h with rfl | h
        · exact Ne.symm hoff.1
        · exact hne.mem p h
    · have := congrArg List.length hk
      simp only [List.length_map, List.length_take] at this
      omega
    · intro h3 o3 F3 N3 hd3
      obtain ⟨t1, t2⟩ := take_new hnd hu
      rw [stored_new (by rw [hk]; exact t1)] at hd3
      walk_at "go"
      refine turn_next F3 N3 ((D, o3) :: (E2 ++ E)) (by simp only [List.mem_cons, List.mem_append]; rintro p (h | h | h | h) <;> simp [h]) (.of fun p hp => ?_) ⟨D, o3, E2 ++ E, _, rfl, rfl, hlo, .of fun p hp => ?_, hd3, ?_, ?_⟩
      · rcases List.mem_cons.mp hp with rfl | hp
        · exact hoff.1
        · rcases List.mem_append.mp hp with h | h
          · exact nI p h
          · exact hoff.2.mem p h
      · rcases List.mem_append.mp hp with h | h
        · exact nD p h
        · exact hne.mem p h
      · rw [List.map_append, hk, t2]; rfl
      · intro p hp
        rcases List.mem_append.mp hp with h | h
        · obtain ⟨y, e1, e2⟩ := hw p h
          exact ⟨y, e1, e2.mono fun q hq => List.mem_append_right _ hq⟩
        · cases List.mem_singleton.mp h
          exact ⟨x, rfl, hW.mono fun q hq => List.mem_append_left _ hq⟩
  · rintro h tk m' news' F N ⟨D, o, E, kvs, e, rfl, hlo, hne, hdo, hk, hw⟩
    replace F := know (x := Str.ofString "leads") F e
    (try k_unfold)
    (try dsimp only)
    walk_at "go"
    rw [hv.len_eq, List.take_length] at hk
    exact hR _ _ D o E kvs (ends_of (by k_asm) (by k_asm) hg) hdo hlo hk hw
end
section
variable {w : World} {lo : List Str} {mean : ExcName → Option Value} {mg mb : Str → Option Value} {b₀ : Heap} {dp un : Nat} {fr : Option (List Env)} {gd : Option (List Code)} {s : Shared} {R : Result → Shared → Prop}
/-- both lexers' changing parts -/
noncomputable abbrev two (w : World) (c1 c2 : Lx) (l1 : Int) (v1 : Tok) (i1 : Nat) (t1 : Tok) (e1 : Nat) (l2 : Int) (v2 : Tok) (i2 : Nat) (t2 : Tok) (pend : List Value) (e2 : Nat) : List (Addr × Obj) :=
  [(c1.d, c1.D w l1 v1), (c1.at_, listOf #[.int i1 t1] 0), (c1.pb, listOf #[] e1), (c2.d, c2.D w l2 v2), (c2.at_, listOf #[.int i2 t2] 0), (c2.pb, listOf pend.toArray e2)]
structure Apart (c1 c2 : Lx) : Prop where
  dd : @Ne Nat c1.d c2.d
  da : @Ne Nat c1.d c2.at_
  dp : @Ne Nat c1.d c2.pb
  ad : @Ne Nat c1.at_ c2.d
  aa : @Ne Nat c1.at_ c2.at_
  ap : @Ne Nat c1.at_ c2.pb
  pd : @Ne Nat c1.pb c2.d
  pa : @Ne Nat c1.pb c2.at_
  pp : @Ne Nat c1.pb c2.pb
/-- a third one lies apart from both lexers -/
structure OutOff (c1 c2 : Lx) (a : Nat) : Prop where
  a1 : @Ne Nat a c1.d
  a2 : @Ne Nat a c1.at_
  a3 : @Ne Nat a c1.pb
  b1 : @Ne Nat a c2.d
  b2 : @Ne Nat a c2.at_
  b3 : @Ne Nat a c2.pb
theorem OutOff.o1 {c1 c2 : Lx} {a : Nat} {o : Obj} {rest : List (Addr × Obj)} (x : OutOff c1 c2 a) (r : AllOff rest [c1.d, c1.at_, c1.pb]) : AllOff ((a, o) :: rest) [c1.d, c1.at_, c1.pb] := ⟨⟨x.a1, r.1⟩, ⟨x.a2, r.2.1⟩, ⟨x.a3, r.2.2.1⟩, trivial⟩
theorem OutOff.o2 {c1 c2 : Lx} {a : Nat} {o : Obj} {rest : List (Addr × Obj)} (x : OutOff c1 c2 a) (r : AllOff rest [c2.d, c2.at_, c2.pb]) : AllOff ((a, o) :: rest) [c2.d, c2.at_, c2.pb] := ⟨⟨x.b1, r.1⟩, ⟨x.b2, r.2.1⟩, ⟨x.b3, r.2.2.1⟩, trivial⟩
theorem off_nil {a b c : Addr} : AllOff [] [a, b, c] := ⟨trivial, trivial, trivial, trivial⟩
theorem OutOff.of {c1 c2 : Lx} {w : World} {l1 l2 : Int} {v1 v2 t1 t2 : Tok} {i1 i2 e1 e2 : Nat} {pend : List Value} {rest : List (Addr × Obj)} {a : Nat} (h : AllNe a (two w c1 c2 l1 v1 i1 t1 e1 l2 v2 i2 t2 pend e2 ++ rest)) : OutOff c1 c2 a := ⟨h.1.symm, h.2.1.symm, h.2.2.1.symm, h.2.2.2.1.symm, h.2.2.2.2.1.symm, h.2.2.2.2.2.1.symm⟩
theorem OutOff.all {c1 c2 : Lx} {w : World} {l1 l2 : Int} {v1 v2 t1 t2 : Tok} {i1 i2 e1 e2 : Nat} {pend : List Value} {rest : List (Addr × Obj)} {a : Nat} (x : OutOff c1 c2 a) (r : AllNe a rest) : AllNe a (two w c1 c2 l1 v1 i1 t1 e1 l2 v2 i2 t2 pend e2 ++ rest) := ⟨x.a1.symm, x.a2.symm, x.a3.symm, x.b1.symm, x.b2.symm, x.b3.symm, r⟩
inductive Src (c1 c2 : Lx) (fin : List Nat) (K : Int) (src : Nat) (rem psh : List Str) (i1 : Nat) (l1 : Int) (pend : List Value) : Prop
  | file (hs : src = c1.x) (hr : Reads (c1.text.cps.toList.drop i1) rem fin) (hp : StrsAre pend psh) (hl : l1 + nls (c1.text.cps.toList.drop i1) = K)
  | line (hs : src = c2.x) (hd : c1.text.cps.toList.drop i1 = fin) (hp : StrsAre pend (rem ++ psh)) (hl : l1 + nls (c1.text.cps.toList.drop i1) = K)
theorem Src.len {c1 c2 : Lx} {fin : List Nat} {K : Int} {src : Nat} {rem psh : List Str} {i1 : Nat} {l1 : Int} {pend : List Value} (h : Src c1 c2 fin K src rem psh i1 l1 pend) : pend.length ≤ rem.length + psh.length := by
  cases h with
  | file hs hr hp hl => have := hp.len_eq; omega
  | line hs hd hp hl => have := hp.len_eq; rw [List.length_append] at this; omega
theorem Src.turn {c1 c2 : Lx} {fin : List Nat} {K : Int} {src : Nat} {psh : List Str} {i1 : Nat} {l1 : Int} {pend : List Value} (h : Src c1 c2 fin K src [] psh i1 l1 pend) : Src c1 c2 fin K c2.x psh [] i1 l1 pend := by
  cases h with
  | file hs hr hp hl => cases hr; exact .line rfl rfl (by rw [List.append_nil]; exact hp) hl
  | line hs hd hp hl => exact .line rfl hd (by rw [List.append_nil]; exact hp) hl
section
variable {g : Heap} {L : Addr} {m : Str → Option Value} {E : Value → Shared → Prop} {Q : Value → Shared → Prop} {c1 c2 : Lx} {l1 l2 K : Int} {v1 v2 t1 t2 : Tok} {i1 i2 e1 e2 src : Nat} {pend : List Value} {rest : List (Addr × Obj)} {fin : List Nat} {rem psh : List Str} {u : Str}
theorem off_two (N : News g L s.heap (two w c1 c2 l1 v1 i1 t1 e1 l2 v2 i2 t2 pend e2 ++ rest)) (ap : Apart c1 c2) (o1 : AllOff rest [c1.d, c1.at_, c1.pb]) : AllOff ((c2.mu w l2 v2 i2 t2 pend e2) ++ rest) [c1.d, c1.at_, c1.pb] :=
  ⟨⟨ap.dd.symm, ap.da.symm, ap.dp.symm, o1.1⟩, ⟨ap.ad.symm, ap.aa.symm, ap.ap.symm, o1.2.1⟩, ⟨ap.pd.symm, ap.pa.symm, ap.pp.symm, o1.2.2.1⟩, trivial⟩
theorem off_two' (ap : Apart c1 c2) (o2 : AllOff rest [c2.d, c2.at_, c2.pb]) : AllOff ((c1.mu w l1 v1 i1 t1 [] e1) ++ rest) [c2.d, c2.at_, c2.pb] :=
  ⟨⟨ap.dd, ap.ad, ap.pd, o2.1⟩, ⟨ap.da, ap.aa, ap.pa, o2.2.1⟩, ⟨ap.dp, ap.ap, ap.pp, o2.2.2.1⟩, trivial⟩
theorem swap_two {h : Heap} (N : News g L h (c2.mu w l2 v2 i2 t2 pend e2 ++ (c1.mu w l1 v1 i1 t1 [] e1 ++ rest))) : News g L h (two w c1 c2 l1 v1 i1 t1 e1 l2 v2 i2 t2 pend e2 ++ rest) := news_sub N (by
  simp only [List.cons_append, List.nil_append, List.mem_cons]
  rintro p (h | h | h | h | h | h | h) <;> simp [h])
theorem unswap_two {h : Heap} (N : News g L h (two w c1 c2 l1 v1 i1 t1 e1 l2 v2 i2 t2 pend e2 ++ rest)) : News g L h (c2.mu w l2 v2 i2 t2 pend e2 ++ (c1.mu w l1 v1 i1 t1 [] e1 ++ rest)) := news_sub N (by
  simp only [List.cons_append, List.nil_append, List.mem_cons]
  rintro p (h | h | h | h | h | h | h) <;> simp [h])
set_option maxRecDepth 100000 in
set_option maxHeartbeats 8000000 in
theorem gm_c {c : Lx} {l : Int} {v : Tok} {p : Sem Bool} {Q : Value × List Value → Shared → Prop} (X : (Mine.hd.heap_1 w.params).In g) (T : Top topProg lo mean mg mb g) (F : Fr g L s.heap m) (N : News g L s.heap [(c.d, c.D w l v)]) (A : c.At g)
    (k : ∀ tk, Q (.ref 49, [.ref c.x]) { s with toks := tk }) : wpAny (model P w) (Ar dp fr gd un) (getMethod (.ref c.x) (Str.ofString "get_token") p) Q E s := by
  k_with_none
  k_with "ne" => ((first | with_reducible assumption | exact Ne.symm (by with_reducible assumption) | exact Nat.ne_of_lt (by with_reducible assumption) | exact Nat.ne_of_gt (by with_reducible assumption) | (refine Nat.ne_of_lt ?_; (repeat (first | exact Nat.lt_succ_self _ | with_reducible assumption | refine Nat.lt_succ_of_lt ?_)); done) | (refine Nat.ne_of_gt ?_; (repeat (first | exact Nat.lt_succ_self _ | with_reducible assumption | refine Nat.lt_succ_of_lt ?_)); done) | exact Nat.ne_of_lt (And.left (by with_reducible assumption)) | exact Nat.ne_of_gt (And.left (by with_reducible assumption)) | exact (And.left (by with_reducible assumption)) | exact Ne.symm (And.left (by with_reducible assumption)) | exact Nat.ne_of_lt (And.left (And.right (by with_reducible assumption))) | exact Nat.ne_of_lt (And.right (by with_reducible assumption)) | exact Nat.ne_of_gt (And.left (And.right (by with_reducible assumption))) | exact Nat.ne_of_gt (And.right (by with_reducible assumption)) | exact (And.left (And.right (by with_reducible assumption))) | exact Ne.symm (And.left (And.right (by with_reducible assumption))) | exact (And.right (by with_reducible assumption)) | exact Ne.symm (And.right (by with_reducible assumption)) | exact Nat.ne_of_lt (And.left (And.right (And.right (by with_reducible assumption)))) | exact Nat.ne_of_lt (And.right (And.right (by with_reducible assumption))) | exact Nat.ne_of_gt (And.left (And.right (And.right (by with_reducible assumption)))) | exact Nat.ne_of_gt (And.right (And.right (by with_reducible assumption))) | exact (And.left (And.right (And.right (by with_reducible assumption)))) | exact Ne.symm (And.left (And.right (And.right (by with_reducible assumption)))) | exact (And.right (And.right (by with_reducible assumption))) | exact Ne.symm (And.right (And.right (by with_reducible assumption))) | exact Nat.ne_of_lt (And.left (And.right (And.right (And.right (by with_reducible assumption))))) | exact Nat.ne_of_lt (And.right (And.right (And.right (by with_reducible assumption)))) | exact Nat.ne_of_gt (And.left (And.right (And.right (And.right (by with_reducible assumption))))) | exact Nat.ne_of_gt (And.right (And.right (And.right (by with_reducible assumption)))) | exact (And.left (And.right (And.right (And.right (by with_reducible assumption))))) | exact Ne.symm (And.left (And.right (And.right (And.right (by with_reducible assumption))))) | exact (And.right (And.right (And.right (by with_reducible assumption)))) | exact Ne.symm (And.right (And.right (And.right (by with_reducible assumption)))) | exact Nat.ne_of_lt (And.left (And.right (And.right (And.right (And.right (by with_reducible assumption)))))) | exact Nat.ne_of_lt (And.right (And.right (And.right (And.right (by with_reducible assumption))))) | exact Nat.ne_of_gt (And.left (And.right (And.right (And.right (And.right (by with_reducible assumption)))))) | exact Nat.ne_of_gt (And.right (And.right (And.right (And.right (by with_reducible assumption))))) | exact (And.left (And.right (And.right (And.right (And.right (by with_reducible assumption)))))) | exact Ne.symm (And.left (And.right (And.right (And.right (And.right (by with_reducible assumption)))))) | exact (And.right (And.right (And.right (And.right (by with_reducible assumption))))) | exact Ne.symm (And.right (And.right (And.right (And.right (by with_reducible assumption))))) | exact Nat.ne_of_lt (And.left (And.right (And.right (And.right (And.right (And.right (by with_reducible assumption))))))) | exact Nat.ne_of_lt (And.right (And.right (And.right (And.right (And.right (by with_reducible assumption)))))) | exact Nat.ne_of_gt (And.left (And.right (And.right (And.right (And.right (And.right (by with_reducible assumption))))))) | exact Nat.ne_of_gt (And.right (And.right (And.right (And.right (And.right (by with_reducible assumption)))))) | exact (And.left (And.right (And.right (And.right (And.right (And.right (by with_reducible assumption))))))) | exact Ne.symm (And.left (And.right (And.right (And.right (And.right (And.right (by with_reducible assumption))))))) | exact (And.right (And.right (And.right (And.right (And.right (by with_reducible assumption)))))) | exact Ne.symm (And.right (And.right (And.right (And.right (And.right (by with_reducible assumption)))))) | exact Nat.ne_of_lt (And.left (And.right (And.right (And.right (And.right (And.right (And.right (by with_reducible assumption)))))))) | exact Nat.ne_of_lt (And.right (And.right (And.right (And.right (And.right (And.right (by with_reducible assumption))))))) | exact Nat.ne_of_gt (And.left (And.right (And.right (And.right (And.right (And.right (And.right (by with_reducible assumption)))))))) | exact Nat.ne_of_gt (And.right (And.right (And.right (And.right (And.right (And.right (by with_reducible assumption))))))) | exact (And.left (And.right (And.right (And.right (And.right (And.right (And.right (by with_reducible assumption)))))))) | exact Ne.symm (And.left (And.right (And.right (And.right (And.right (And.right (And.right (by with_reducible assumption)))))))) | exact (And.right (And.right (And.right (And.right (And.right (And.right (by with_reducible assumption))))))) | exact Ne.symm (And.right (And.right (And.right (And.right (And.right (And.right (by with_reducible assumption))))))) | exact Nat.ne_of_lt (And.left (And.right (And.right (And.right (And.right (And.right (And.right (And.right (by with_reducible assumption))))))))) | exact Nat.ne_of_lt (And.right (And.right (And.right (And.right (And.right (And.right (And.right (by with_reducible assumption)))))))) | exact Nat.ne_of_gt (And.left (And.right (And.right (And.right (And.right (And.right (And.right (And.right (by with_reducible assumption))))))))) | exact Nat.ne_of_gt (And.right (And.right (And.right (And.right (And.right (And.right (And.right (by with_reducible assumption)))))))) | exact (And.left (And.right (And.right (And.right (And.right (And.right (And.right (And.right (by with_reducible assumption))))))))) | exact Ne.symm (And.left (And.right (And.right (And.right (And.right (And.right (And.right (And.right (by with_reducible assumption))))))))) | exact (And.right (And.right (And.right (And.right (And.right (And.right (And.right (by with_reducible assumption)))))))) | exact Ne.symm (And.right (And.right (And.right (And.right (And.right (And.right (And.right (by with_reducible assumption)))))))) | exact Nat.ne_of_lt (And.left (And.right (And.right (And.right (And.right (And.right (And.right (And.right (And.right (by with_reducible assumption)))))))))) | exact Nat.ne_of_lt (And.right (And.right (And.right (And.right (And.right (And.right (And.right (And.right (by with_reducible assumption))))))))) | exact Nat.ne_of_gt (And.left (And.right (And.right (And.right (And.right (And.right (And.right (And.right (And.right (by with_reducible assumption)))))))))) | exact Nat.ne_of_gt (And.right (And.right (And.right (And.right (And.right (And.right (And.right (And.right (by with_reducible assumption))))))))) | exact (And.left (And.right (And.right (And.right (And.right (And.right (And.right (And.right (And.right (by with_reducible assumption)))))))))) | exact Ne.symm (And.left (And.right (And.right (And.right (And.right (And.right (And.right (And.right (And.right (by with_reducible assumption)))))))))) | exact (And.right (And.right (And.right (And.right (And.right (And.right (And.right (And.right (by with_reducible assumption))))))))) | exact Ne.symm (And.right (And.right (And.right (And.right (And.right (And.right (And.right (And.right (by with_reducible assumption))))))))) | exact Nat.ne_of_lt (And.left (And.right (And.right (And.right (And.right (And.right (And.right (And.right (And.right (And.right (by with_reducible assumption))))))))))) | exact Nat.ne_of_lt (And.right (And.right (And.right (And.right (And.right (And.right (And.right (And.right (And.right (by with_reducible assumption)))))))))) | exact Nat.ne_of_gt (And.left (And.right (And.right (And.right (And.right (And.right (And.right (And.right (And.right (And.right (by with_reducible assumption))))))))))) | exact Nat.ne_of_gt (And.right (And.right (And.right (And.right (And.right (And.right (And.right (And.right (And.right (by with_reducible assumption)))))))))) | exact (And.left (And.right (And.right (And.right (And.right (And.right (And.right (And.right (And.right (And.right (by with_reducible assumption))))))))))) | exact Ne.symm (And.left (And.right (And.right (And.right (And.right (And.right (And.right (And.right (And.right (And.right (by with_reducible assumption))))))))))) | exact (And.right (And.right (And.right (And.right (And.right (And.right (And.right (And.right (And.right (by with_reducible assumption)))))))))) | exact Ne.symm (And.right (And.right (And.right (And.right (And.right (And.right (And.right (And.right (And.right (by with_reducible assumption)))))))))) | exact Nat.ne_of_lt (And.left (And.right (And.right (And.right (And.right (And.right (And.right (And.right (And.right (And.right (And.right (by with_reducible assumption)))))))))))) | exact Nat.ne_of_lt (And.right (And.right (And.right (And.right (And.right (And.right (And.right (And.right (And.right (And.right (by with_reducible assumption))))))))))) | exact Nat.ne_of_gt (And.left (And.right (And.right (And.right (And.right (And.right (And.right (And.right (And.right (And.right (And.right (by with_reducible assumption)))))))))))) | exact Nat.ne_of_gt (And.right (And.right (And.right (And.right (And.right (And.right (And.right (And.right (And.right (And.right (by with_reducible assumption))))))))))) | exact (And.left (And.right (And.right (And.right (And.right (And.right (And.right (And.right (And.right (And.right (And.right (by with_reducible assumption)))))))))))) | exact Ne.symm (And.left (And.right (And.right (And.right (And.right (And.right (And.right (And.right (And.right (And.right (And.right (by with_reducible assumption)))))))))))) | exact (And.right (And.right (And.right (And.right (And.right (And.right (And.right (And.right (And.right (And.right (by with_reducible assumption))))))))))) | exact Ne.symm (And.right (And.right (And.right (And.right (And.right (And.right (And.right (And.right (And.right (And.right (by with_reducible assumption)))))))))))))
  k_with "exec For Name Attribute cons nil" => (k_dflt (refine for_exec ?_))
  k_with "exec For Name Name cons nil" => (k_dflt (refine for_exec ?_))
  k_with "exec For Name Call cons nil" => (k_dflt (refine for_exec ?_))
  k_with "call type:tuple" => ((k_here; (with_reducible show wpAny _ _ (call (Value.type _) [Value.ref _]) _ _ _); k_dflt (refine' tupleOf_c (by k_asm) (by k_asm) (by k_mem) (by ((have hL9 := IntsAre.length (by assumption)); rw [sizeLine_eq]; omega)) ?_; k_whole); intro _ _ _ _ l19q; (try k_lt l19q); (try k_sweep)))
  k_with "call builtin:len" => ((k_here; (with_reducible show wpAny _ _ (call (Value.builtin "len") [Value.ref _]) _ _ _); k_dflt (refine' len_tupI (by k_asm) (by with_reducible assumption) (by with_reducible assumption) (by omega) ?_; k_whole); intro _ _))
  k_with "execs cons" => ((k_dflt (refine execs_n (s := ‹Shared›) ?_); intro _; (try k_fold)))
  k_with "exec If BoolOp cons nil" => (((fail_if_success (with_reducible show wpAny _ _ _ (Cut _ _) _ _)); refine Hold.out ?_))
  k_with "out" => (repeat (first | (k_unfold; (try dsimp only)) | refine cut_ret ?_ | refine turn_ret ?_))
  k_with "go" => ((w_top off; repeat' (first | (k_unfold; (try dsimp only)) | walk1 | (dsimp only; walk1))))
  have gx : g.get? c.x = some (instObj 59 c.d) := A _ (.head _)
  walk_at "go"
  exact k _
theorem gm_src {p : Sem Bool} {Q : Value × List Value → Shared → Prop} (X : (Mine.hd.heap_1 w.params).In g) (T : Top topProg lo mean mg mb g) (F : Fr g L s.heap m) (N : News g L s.heap (two w c1 c2 l1 v1 i1 t1 e1 l2 v2 i2 t2 pend e2 ++ rest)) (A1 : c1.At g) (A2 : c2.At g) (hS : Src c1 c2 fin K src rem psh i1 l1 pend)
    (k : ∀ tk, Q (.ref 49, [.ref src]) { s with toks := tk }) : wpAny (model P w) (Ar dp fr gd un) (getMethod (.ref src) (Str.ofString "get_token") p) Q E s := by
  cases hS with
  | file hs => subst hs; exact gm_c X T F (news_sub N (by kcj_all)) A1 k
  | line hs => subst hs; exact gm_c X T F (news_sub N (by kcj_all)) A2 k
/-- the next word of the one that is read -/
theorem src_c (X : (Mine.hd.heap_1 w.params).In g) (T : Top topProg lo mean mg mb g) (F : Fr g L s.heap m) (N : News g L s.heap (two w c1 c2 l1 v1 i1 t1 e1 l2 v2 i2 t2 pend e2 ++ rest)) (ap : Apart c1 c2) (o1 : AllOff rest [c1.d, c1.at_, c1.pb]) (o2 : AllOff rest [c2.d, c2.at_, c2.pb])
    (A1 : c1.At g) (A2 : c2.At g) (ok1 : c1.Ok) (ok2 : c2.Ok) (hz : pend.length ≤ 1000) (hd : dp + 48 < recursionLimit) (hS : Src c1 c2 fin K src (u :: rem) psh i1 l1 pend)
    (k : ∀ h' tk' tv l1' v1' i1' t1' pend' e2', Fr g L h' m → News g L h' (two w c1 c2 l1' v1' i1' t1' e1 l2 v2 i2 t2 pend' e2' ++ rest) → Src c1 c2 fin K src rem psh i1' l1' pend' → pend'.length ≤ 1000 → Q (.str u tv) { s with heap := h', toks := tk' }) :
    wpAny (model P w) (Ar dp fr gd un) (call (.ref 49) [.ref src]) Q E s := by
  cases hS with
  | file hs hr hp hl =>
    subst hs
    cases hr with
    | cons hT hr =>
      refine wpAny_call (tokB_c (c := c1) ⟨X, T⟩ F.keep (led_of N (by kcj_all)) (A1.keeps F.keep) ok1 (by omega) hT ?_)
      intro h' tk' v1' ti' j line' tv En ej el
      obtain ⟨F', N'⟩ := En.out (mu := c1.mu w l1 v1 i1 t1 [] e1) F N rfl (off_two N ap o1)
      exact k h' tk' tv line' v1' j ti' pend e2 F' N' (.file rfl (ej ▸ hr) hp (by rw [ej]; omega)) hz
  | line hs hd2 hp hl =>
    subst hs
    obtain ⟨tv, vs', rfl, hp'⟩ := StrsAre.cons_inv hp
    refine wpAny_call (tokA_c (c := c2) ⟨X, T⟩ F.keep (led_of N (by kcj_all)) (A2.keeps F.keep) ok2 (by omega) (by simp at hz; omega) ?_)
    intro h' tk' En
    obtain ⟨F', N'⟩ := En.out (mu := c2.mu w l2 v2 i2 t2 (_ :: vs') e2) F (unswap_two N) rfl (off_two' ap o2)
    exact k h' tk' tv l1 v1 i1 t1 vs' (e2 + 1) F' (swap_two N') (.line rfl hd2 hp' hl) (by simp at hz; omega)
/-- a word goes to the line -/
theorem put_c {tv : Tok} (X : (Mine.hd.heap_1 w.params).In g) (T : Top topProg lo mean mg mb g) (F : Fr g L s.heap m) (N : News g L s.heap (two w c1 c2 l1 v1 i1 t1 e1 l2 v2 i2 t2 pend e2 ++ rest)) (ap : Apart c1 c2) (o2 : AllOff rest [c2.d, c2.at_, c2.pb])
    (A2 : c2.At g) (ok2 : c2.Ok) (hz : pend.length ≤ 1000) (hd : dp + 48 < recursionLimit) (hS : Src c1 c2 fin K src rem psh i1 l1 pend)
    (k : ∀ h' tk' e2', Fr g L h' m → News g L h' (two w c1 c2 l1 v1 i1 t1 e1 l2 v2 i2 t2 (pend ++ [.str u tv]) e2' ++ rest) → Src c1 c2 fin K src rem (psh ++ [u]) i1 l1 (pend ++ [.str u tv]) → Q .none { s with heap := h', toks := tk' }) :
    wpAny (model P w) (Ar dp fr gd un) (call (.ref 56) [.ref c2.x, .str u tv]) Q E s := by
  refine wpAny_call (push_c (c := c2) (tok := .str u tv) ⟨X, T⟩ F.keep (led_of N (by kcj_all)) (A2.keeps F.keep) ok2 (by omega) (by omega) ?_)
  intro h' tk' En
  obtain ⟨F', N'⟩ := En.out (mu := c2.mu w l2 v2 i2 t2 pend e2) F (unswap_two N) rfl (off_two' ap o2)
  have hu : StrsAre [.str u tv] [u] := .cons _ _ .nil
  refine k h' tk' (e2 + 1) F' (swap_two N') ?_
  cases hS with
  | file hs hr hp hl => exact .file hs hr (hp.append' hu) hl
  | line hs hd2 hp hl => exact .line hs hd2 (by rw [← List.append_assoc]; exact hp.append' hu) hl
end
end
section
variable {w : World} {lo : List Str} {mean : ExcName → Option Value} {mg mb : Str → Option Value} {b₀ : Heap} {dp un : Nat} {fr : Option (List Env)} {gd : Option (List Code)} {s : Shared} {R : Result → Shared → Prop}
local macro_rules | `(tactic| walk_at "getMethod ref") => `(tactic| (k_here; k_dflt (refine' gm_src (rest := []) ?X ?T ?F ?N ?A1 ?A2 ?S ?_; (case S => assumption); (case X => k_asm); (case T => k_asm); (case F => k_asm); (case N => exact news_sub (by k_asm) (by kcj_all)); (case A1 => assumption); (case A2 => assumption); k_whole); intro tk'))
noncomputable abbrev ltW (u v : Str) : Bool := lessOf (wsOf u) (wsOf v)
set_option maxRecDepth 100000 in
set_option maxHeartbeats 8000000 in
theorem gm_less {g : Heap} {L : Addr} {m : Str → Option Value} {E : Value → Shared → Prop} {x : Nat} {u : Str} {p : Sem Bool} {Q : Value × List Value → Shared → Prop} (X : (Mine.hd.heap_1 w.params).In g) (T : Top topProg lo mean mg mb g) (F : Fr g L s.heap m) (W : WsAt w g x u)
    (k : ∀ tk, Q (.ref 115, [.ref x]) { s with toks := tk }) : wpAny (model P w) (Ar dp fr gd un) (getMethod (.ref x) (Str.ofString "less") p) Q E s := by
  k_with_none
  k_with "ne" => ((first | with_reducible assumption | exact Ne.symm (by with_reducible assumption) | exact Nat.ne_of_lt (by with_reducible assumption) | exact Nat.ne_of_gt (by with_reducible assumption) | (refine Nat.ne_of_lt ?_; (repeat (first | exact Nat.lt_succ_self _ | with_reducible assumption | refine Nat.lt_succ_of_lt ?_)); done) | (refine Nat.ne_of_gt ?_; (repeat (first | exact Nat.lt_succ_self _ | with_reducible assumption | refine Nat.lt_succ_of_lt ?_)); done) | exact Nat.ne_of_lt (And.left (by with_reducible assumption)) | exact Nat.ne_of_gt (And.left (by with_reducible assumption)) | exact (And.left (by with_reducible assumption)) | exact Ne.symm (And.left (by with_reducible assumption)) | exact Nat.ne_of_lt (And.left (And.right (by with_reducible assumption))) | exact Nat.ne_of_lt (And.right (by with_reducible assumption)) | exact Nat.ne_of_gt (And.left (And.right (by with_reducible assumption))) | exact Nat.ne_of_gt (And.right (by with_reducible assumption)) | exact (And.left (And.right (by with_reducible assumption))) | exact Ne.symm (And.left (And.right (by with_reducible assumption))) | exact (And.right (by with_reducible assumption)) | exact Ne.symm (And.right (by with_reducible assumption)) | exact Nat.ne_of_lt (And.left (And.right (And.right (by with_reducible assumption)))) | exact Nat.ne_of_lt (And.right (And.right (by with_reducible assumption))) | exact Nat.ne_of_gt (And.left (And.right (And.right (by with_reducible assumption)))) | exact Nat.ne_of_gt (And.right (And.right (by with_reducible assumption))) | exact (And.left (And.right (And.right (by with_reducible assumption)))) | exact Ne.symm (And.left (And.right (And.right (by with_reducible assumption)))) | exact (And.right (And.right (by with_reducible assumption))) | exact Ne.symm (And.right (And.right (by with_reducible assumption))) | exact Nat.ne_of_lt (And.left (And.right (And.right (And.right (by with_reducible assumption))))) | exact Nat.ne_of_lt (And.right (And.right (And.right (by with_reducible assumption)))) | exact Nat.ne_of_gt (And.left (And.right (And.right (And.right (by with_reducible assumption))))) | exact Nat.ne_of_gt (And.right (And.right (And.right (by with_reducible assumption)))) | exact (And.left (And.right (And.right (And.right (by with_reducible assumption))))) | exact Ne.symm (And.left (And.right (And.right (And.right (by with_reducible assumption))))) | exact (And.right (And.right (And.right (by with_reducible assumption)))) | exact Ne.symm (And.right (And.right (And.right (by with_reducible assumption)))) | exact Nat.ne_of_lt (And.left (And.right (And.right (And.right (And.right (by with_reducible assumption)))))) | exact Nat.ne_of_lt (And.right (And.right (And.right (And.right (by with_reducible assumption))))) | exact Nat.ne_of_gt (And.left (And.right (And.right (And.right (And.right (by with_reducible assumption)))))) | exact Nat.ne_of_gt (And.right (And.right (And.right (And.right (by with_reducible assumption))))) | exact (And.left (And.right (And.right (And.right (And.right (by with_reducible assumption)))))) | exact Ne.symm (And.left (And.right (And.right (And.right (And.right (by with_reducible assumption)))))) | exact (And.right (And.right (And.right (And.right (by with_reducible assumption))))) | exact Ne.symm (And.right (And.right (And.right (And.right (by with_reducible assumption))))) | exact Nat.ne_of_lt (And.left (And.right (And.right (And.right (And.right (And.right (by with_reducible assumption))))))) | exact Nat.ne_of_lt (And.right (And.right (And.right (And.right (And.right (by with_reducible assumption)))))) | exact Nat.ne_of_gt (And.left (And.right (And.right (And.right (And.right (And.right (by with_reducible assumption))))))) | exact Nat.ne_of_gt (And.right (And.right (And.right (And.right (And.right (by with_reducible assumption)))))) | exact (And.left (And.right (And.right (And.right (And.right (And.right (by with_reducible assumption))))))) | exact Ne.symm (And.left (And.right (And.right (And.right (And.right (And.right (by with_reducible assumption))))))) | exact (And.right (And.right (And.right (And.right (And.right (by with_reducible assumption)))))) | exact Ne.symm (And.right (And.right (And.right (And.right (And.right (by with_reducible assumption)))))) | exact Nat.ne_of_lt (And.left (And.right (And.right (And.right (And.right (And.right (And.right (by with_reducible assumption)))))))) | exact Nat.ne_of_lt (And.right (And.right (And.right (And.right (And.right (And.right (by with_reducible assumption))))))) | exact Nat.ne_of_gt (And.left (And.right (And.right (And.right (And.right (And.right (And.right (by with_reducible assumption)))))))) | exact Nat.ne_of_gt (And.right (And.right (And.right (And.right (And.right (And.right (by with_reducible assumption))))))) | exact (And.left (And.right (And.right (And.right (And.right (And.right (And.right (by with_reducible assumption)))))))) | exact Ne.symm (And.left (And.right (And.right (And.right (And.right (And.right (And.right (by with_reducible assumption)))))))) | exact (And.right (And.right (And.right (And.right (And.right (And.right (by with_reducible assumption))))))) | exact Ne.symm (And.right (And.right (And.right (And.right (And.right (And.right (by with_reducible assumption))))))) | exact Nat.ne_of_lt (And.left (And.right (And.right (And.right (And.right (And.right (And.right (And.right (by with_reducible assumption))))))))) | exact Nat.ne_of_lt (And.right (And.right (And.right (And.right (And.right (And.right (And.right (by with_reducible assumption)))))))) | exact Nat.ne_of_gt (And.left (And.right (And.right (And.right (And.right (And.right (And.right (And.right (by with_reducible assumption))))))))) | exact Nat.ne_of_gt (And.right (And.right (And.right (And.right (And.right (And.right (And.right (by with_reducible assumption)))))))) | exact (And.left (And.right (And.right (And.right (And.right (And.right (And.right (And.right (by with_reducible assumption))))))))) | exact Ne.symm (And.left (And.right (And.right (And.right (And.right (And.right (And.right (And.right (by with_reducible assumption))))))))) | exact (And.right (And.right (And.right (And.right (And.right (And.right (And.right (by with_reducible assumption)))))))) | exact Ne.symm (And.right (And.right (And.right (And.right (And.right (And.right (And.right (by with_reducible assumption)))))))) | exact Nat.ne_of_lt (And.left (And.right (And.right (And.right (And.right (And.right (And.right (And.right (And.right (by with_reducible assumption)))))))))) | exact Nat.ne_of_lt (And.right (And.right (And.right (And.right (And.right (And.right (And.right (And.right (by with_reducible assumption))))))))) | exact Nat.ne_of_gt (And.left (And.right (And.right (And.right (And.right (And.right (And.right (And.right (And.right (by with_reducible assumption)))))))))) | exact Nat.ne_of_gt (And.right (And.right (And.right (And.right (And.right (And.right (And.right (And.right (by with_reducible assumption))))))))) | exact (And.left (And.right (And.right (And.right (And.right (And.right (And.right (And.right (And.right (by with_reducible assumption)))))))))) | exact Ne.symm (And.left (And.right (And.right (And.right (And.right (And.right (And.right (And.right (And.right (by with_reducible assumption)))))))))) | exact (And.right (And.right (And.right (And.right (And.right (And.right (And.right (And.right (by with_reducible assumption))))))))) | exact Ne.symm (And.right (And.right (And.right (And.right (And.right (And.right (And.right (And.right (by with_reducible assumption))))))))) | exact Nat.ne_of_lt (And.left (And.right (And.right (And.right (And.right (And.right (And.right (And.right (And.right (And.right (by with_reducible assumption))))))))))) | exact Nat.ne_of_lt (And.right (And.right (And.right (And.right (And.right (And.right (And.right (And.right (And.right (by with_reducible assumption)))))))))) | exact Nat.ne_of_gt (And.left (And.right (And.right (And.right (And.right (And.right (And.right (And.right (And.right (And.right (by with_reducible assumption))))))))))) | exact Nat.ne_of_gt (And.right (And.right (And.right (And.right (And.right (And.right (And.right (And.right (And.right (by with_reducible assumption)))))))))) | exact (And.left (And.right (And.right (And.right (And.right (And.right (And.right (And.right (And.right (And.right (by with_reducible assumption))))))))))) | exact Ne.symm (And.left (And.right (And.right (And.right (And.right (And.right (And.right (And.right (And.right (And.right (by with_reducible assumption))))))))))) | exact (And.right (And.right (And.right (And.right (And.right (And.right (And.right (And.right (And.right (by with_reducible assumption)))))))))) | exact Ne.symm (And.right (And.right (And.right (And.right (And.right (And.right (And.right (And.right (And.right (by with_reducible assumption)))))))))) | exact Nat.ne_of_lt (And.left (And.right (And.right (And.right (And.right (And.right (And.right (And.right (And.right (And.right (And.right (by with_reducible assumption)))))))))))) | exact Nat.ne_of_lt (And.right (And.right (And.right (And.right (And.right (And.right (And.right (And.right (And.right (And.right (by with_reducible assumption))))))))))) | exact Nat.ne_of_gt (And.left (And.right (And.right (And.right (And.right (And.right (And.right (And.right (And.right (And.right (And.right (by with_reducible assumption)))))))))))) | exact Nat.ne_of_gt (And.right (And.right (And.right (And.right (And.right (And.right (And.right (And.right (And.right (And.right (by with_reducible assumption))))))))))) | exact (And.left (And.right (And.right (And.right (And.right (And.right (And.right (And.right (And.right (And.right (And.right (by with_reducible assumption)))))))))))) | exact Ne.symm (And.left (And.right (And.right (And.right (And.right (And.right (And.right (And.right (And.right (And.right (And.right (by with_reducible assumption)))))))))))) | exact (And.right (And.right (And.right (And.right (And.right (And.right (And.right (And.right (And.right (And.right (by with_reducible assumption))))))))))) | exact Ne.symm (And.right (And.right (And.right (And.right (And.right (And.right (And.right (And.right (And.right (And.right (by with_reducible assumption)))))))))))))
  k_with "exec For Name Attribute cons nil" => (k_dflt (refine for_exec ?_))
  k_with "exec For Name Name cons nil" => (k_dflt (refine for_exec ?_))
  k_with "exec For Name Call cons nil" => (k_dflt (refine for_exec ?_))
  k_with "call type:tuple" => ((k_here; (with_reducible show wpAny _ _ (call (Value.type _) [Value.ref _]) _ _ _); k_dflt (refine' tupleOf_c (by k_asm) (by k_asm) (by k_mem) (by ((have hL9 := IntsAre.length (by assumption)); rw [sizeLine_eq]; omega)) ?_; k_whole); intro _ _ _ _ l19q; (try k_lt l19q); (try k_sweep)))
  k_with "call builtin:len" => ((k_here; (with_reducible show wpAny _ _ (call (Value.builtin "len") [Value.ref _]) _ _ _); k_dflt (refine' len_tupI (by k_asm) (by with_reducible assumption) (by with_reducible assumption) (by omega) ?_; k_whole); intro _ _))
  k_with "execs cons" => ((k_dflt (refine execs_n (s := ‹Shared›) ?_); intro _; (try k_fold)))
  k_with "exec If BoolOp cons nil" => (((fail_if_success (with_reducible show wpAny _ _ _ (Cut _ _) _ _)); refine Hold.out ?_))
  k_with "out" => (repeat (first | (k_unfold; (try dsimp only)) | refine cut_ret ?_ | refine turn_ret ?_))
  k_with "go" => ((w_top off; repeat' (first | (k_unfold; (try dsimp only)) | walk1 | (dsimp only; walk1))))
  k_with "call ref" => (((with_reducible show wpAny _ _ (call (Value.ref _) _ _) _ _ _); refine Hold.out ?_))
  k_with "subscriptTail" => ((k_here; k_dflt (refine' item_g (by k_asm) (by assumption) (by assumption) (by assumption) ?_; k_whole); intro _))
  k_with "call builtin:len" => ((k_here; k_dflt (refine' len_g (by k_asm) (by assumption) (by assumption) (by assumption) (by omega) ?_; k_whole); intro _ _))
  obtain ⟨d, Dn, Dc, vs, tu, tb, tn, tt, u1, u2, u3, u4, u5, hi, hp⟩ := W
  have g1 := hp _ (.head _)
  have g2 := hp _ (.tail _ (.head _))
  dsimp only at g1 g2
  have N : News g L s.heap [] := News.nil
  walk_at "go"
  exact k _
local macro_rules | `(tactic| walk_at "getMethod ref") => `(tactic| (k_here; k_dflt (refine' gm_less ?X ?T ?F ?W ?_; (case W => assumption); (case X => k_asm); (case T => k_asm); (case F => k_asm); k_whole); intro tk'))
structure Dict (w : World) (g : Heap) (D : Nat) (o : Obj) (kvs : List (Str × Value)) (us : List Str) : Prop where
  at_ : g.get? D = some o
  is : o.IsDictOf (PySem.strKind P w) kvs
  lo : (D == sysModules) = false
  len : kvs.length = us.length
  has : ∀ u ∈ us, ∃ x, valueAt kvs u = some (.ref x) ∧ WsAt w g x u ∧ (wsOf u).cnt.length ≤ 1000000 ∧ (wsOf u).b ≤ 1000000
theorem Dict.keeps {w : World} {g h : Heap} {D : Nat} {o : Obj} {kvs : List (Str × Value)} {us : List Str} (x : Dict w g D o kvs us) (k : ∀ b o, g.get? b = some o → h.get? b = some o) : Dict w h D o kvs us :=
  ⟨k _ _ x.at_, x.is, x.lo, x.len, fun u hu => let ⟨y, a, b, c⟩ := x.has u hu; ⟨y, a, b.keeps k, c⟩⟩
inductive EnJ (w : World) (c1 c2 : Lx) (us : List Str) (fin : List Nat) (K : Int) (D : Nat) (n : Nat) (i : Nat) (m₁ : Str → Option Value) (news₁ : List (Addr × Obj)) : Prop
  | mk (out : Nat) (oo : OutOff c1 c2 out) (src : Nat) (rem ov : List Str) (ovs : List Value) (eo : Nat) (l1 : Int) (v1 : Tok) (i1 : Nat) (t1 : Tok) (e1 : Nat) (l2 : Int) (v2 : Tok) (i2 : Nat) (t2 : Tok) (pend : List Value) (e2 : Nat)
      (m0 : m₁ (Str.ofString "source") = some (.ref src)) (m1 : m₁ (Str.ofString "line") = some (.ref c2.x)) (m2 : m₁ (Str.ofString "leads") = some (.ref D)) (m3 : m₁ (Str.ofString "ends") = some (.ref out))
      (hsub : ∀ u ∈ rem, u ∈ us) (hlen : rem.length = n) (hS : Src c1 c2 fin K src rem [] i1 l1 pend) (hz : pend.length ≤ 1000) (ho : StrsAre ovs ov) (hol : ovs.length = i) (hg : ov ++ (endsOf ltW (n - i) rem).1 = (endsOf ltW n us).1) (hg2 : (endsOf ltW (n - i) rem).2 = (endsOf ltW n us).2) (h9 : i ≠ 0 → StrsAre pend rem ∧ c1.text.cps.toList.drop i1 = fin ∧ l1 + nls fin = K)
      (e : news₁ = two w c1 c2 l1 v1 i1 t1 e1 l2 v2 i2 t2 pend e2 ++ [(out, listOf ovs.toArray eo)])
inductive EiJ (w : World) (c1 c2 : Lx) (us : List Str) (fin : List Nat) (K : Int) (D out : Nat) (src n : Nat) (r : Str × List Str) (ovs : List Value) (eo I : Nat) (oI : Obj) (i : Nat) (m₁ : Str → Option Value) (news₁ : List (Addr × Obj)) : Prop
  | mk (held : Str) (th : Tok) (rem psh : List Str) (l1 : Int) (v1 : Tok) (i1 : Nat) (t1 : Tok) (e1 : Nat) (l2 : Int) (v2 : Tok) (i2 : Nat) (t2 : Tok) (pend : List Value) (e2 : Nat)
      (m0 : m₁ (Str.ofString "source") = some (.ref src)) (m1 : m₁ (Str.ofString "line") = some (.ref c2.x)) (m2 : m₁ (Str.ofString "leads") = some (.ref D)) (m3 : m₁ (Str.ofString "ends") = some (.ref out)) (m4 : m₁ (Str.ofString "held") = some (.str held th))
      (hh : held ∈ us) (hsub : ∀ u ∈ rem, u ∈ us) (hsub2 : ∀ u ∈ psh, u ∈ us) (hlen : rem.length = n - i) (hS : Src c1 c2 fin K src rem psh i1 l1 pend) (hz : pend.length ≤ 1000) (h1 : (rnd ltW held rem).1 = r.1) (h2 : psh ++ (rnd ltW held rem).2 = r.2)
      (e : news₁ = two w c1 c2 l1 v1 i1 t1 e1 l2 v2 i2 t2 pend e2 ++ [(out, listOf ovs.toArray eo), (I, oI)])
theorem Src.pendEnd {c1 c2 : Lx} {fin : List Nat} {K : Int} {src : Nat} {psh : List Str} {i1 : Nat} {l1 : Int} {pend : List Value} (h : Src c1 c2 fin K src [] psh i1 l1 pend) : StrsAre pend psh ∧ c1.text.cps.toList.drop i1 = fin ∧ l1 + nls fin = K := by
  cases h with
  | file hs hr hp hl => cases hr; exact ⟨hp, rfl, hl⟩
  | line hs hd hp hl => exact ⟨hp, hd, by rw [hd] at hl; exact hl⟩
set_option maxRecDepth 100000 in
set_option maxHeartbeats 8000000 in
theorem ends_c {c1 c2 : Lx} {D : Nat} {o : Obj} {kvs : List (Str × Value)} {us : List Str} {fin : List Nat} {l0 l2 : Int} {v1 v2 t1 t2 : Tok} {e1 e2 i2 : Nat} (G : Gd (Mine.hd.heap_1 w.params) lo mean mg mb b₀) (hb : Over b₀ s.heap) (hN : Led b₀ s.heap (two w c1 c2 l0 v1 0 t1 e1 l2 v2 i2 t2 [] e2)) (ap : Apart c1 c2)
    (A1 : c1.At (hideAll s.heap [c1.d, c1.at_, c1.pb, c2.d, c2.at_, c2.pb])) (A2 : c2.At (hideAll s.heap [c1.d, c1.at_, c1.pb, c2.d, c2.at_, c2.pb])) (ok1 : c1.Ok) (ok2 : c2.Ok) (hD : Dict w (hideAll s.heap [c1.d, c1.at_, c1.pb, c2.d, c2.at_, c2.pb]) D o kvs us) (hr : Reads c1.text.cps.toList us fin) (hn : us.length ≤ 100) (hn0 : 0 < us.length)
    (hd : dp + 68 < recursionLimit)
    (hR : ∀ h' tk' out ovs eo l1' v1' i1' t1' e1' l2' v2' i2' t2' pend e2', Ends s.heap h' [c1.d, c1.at_, c1.pb, c2.d, c2.at_, c2.pb] (two w c1 c2 l1' v1' i1' t1' e1' l2' v2' i2' t2' pend e2' ++ [(out, listOf ovs.toArray eo)]) → StrsAre ovs (endsOf ltW us.length us).1 → StrsAre pend (endsOf ltW us.length us).2 → c1.text.cps.toList.drop i1' = fin → l1' + nls fin = l0 + nls c1.text.cps.toList → OutOff c1 c2 out →
      R (.ok (.ret (.ref out))) { s with heap := h', toks := tk' }) :
    codeAny (model P w) (Ar dp fr gd un) (.call (.ref 172) ⟨[.ref c1.x, .ref c2.x, .ref D], []⟩) R s := by
  k_with_none
  k_with "ne" => ((first | with_reducible assumption | exact Ne.symm (by with_reducible assumption) | exact Nat.ne_of_lt (by with_reducible assumption) | exact Nat.ne_of_gt (by with_reducible assumption) | (refine Nat.ne_of_lt ?_; (repeat (first | exact Nat.lt_succ_self _ | with_reducible assumption | refine Nat.lt_succ_of_lt ?_)); done) | (refine Nat.ne_of_gt ?_; (repeat (first | exact Nat.lt_succ_self _ | with_reducible assumption | refine Nat.lt_succ_of_lt ?_)); done) | exact Nat.ne_of_lt (And.left (by with_reducible assumption)) | exact Nat.ne_of_gt (And.left (by with_reducible assumption)) | exact (And.left (by with_reducible assumption)) | exact Ne.symm (And.left (by with_reducible assumption)) | exact Nat.ne_of_lt (And.left (And.right (by with_reducible assumption))) | exact Nat.ne_of_lt (And.right (by with_reducible assumption)) | exact Nat.ne_of_gt (And.left (And.right (by with_reducible assumption))) | exact Nat.ne_of_gt (And.right (by with_reducible assumption)) | exact (And.left (And.right (by with_reducible assumption))) | exact Ne.symm (And.left (And.right (by with_reducible assumption))) | exact (And.right (by with_reducible assumption)) | exact Ne.symm (And.right (by with_reducible assumption)) | exact Nat.ne_of_lt (And.left (And.right (And.right (by with_reducible assumption)))) | exact Nat.ne_of_lt (And.right (And.right (by with_reducible assumption))) | exact Nat.ne_of_gt (And.left (And.right (And.right (by with_reducible assumption)))) | exact Nat.ne_of_gt (And.right (And.right (by with_reducible assumption))) | exact (And.left (And.right (And.right (by with_reducible assumption)))) | exact Ne.symm (And.left (And.right (And.right (by with_reducible assumption)))) | exact (And.right (And.right (by with_reducible assumption))) | exact Ne.symm (And.right (And.right (by with_reducible assumption))) | exact Nat.ne_of_lt (And.left (And.right (And.right (And.right (by with_reducible assumption))))) | exact Nat.ne_of_lt (And.right (And.right (And.right (by with_reducible assumption)))) | exact Nat.ne_of_gt (And.left (And.right (And.right (And.right (by with_reducible assumption))))) | exact Nat.ne_of_gt (And.right (And.right (And.right (by with_reducible assumption)))) | exact (And.left (And.right (And.right (And.right (by with_reducible assumption))))) | exact Ne.symm (And.left (And.right (And.right (And.right (by with_reducible assumption))))) | exact (And.right (And.right (And.right (by with_reducible assumption)))) | exact Ne.symm (And.right (And.right (And.right (by with_reducible assumption)))) | exact Nat.ne_of_lt (And.left (And.right (And.right (And.right (And.right (by with_reducible assumption)))))) | exact Nat.ne_of_lt (And.right (And.right (And.right (And.right (by with_reducible assumption))))) | exact Nat.ne_of_gt (And.left (And.right (And.right (And.right (And.right (by with_reducible assumption)))))) | exact Nat.ne_of_gt (And.right (And.right (And.right (And.right (by with_reducible assumption))))) | exact (And.left (And.right (And.right (And.right (And.right (by with_reducible assumption)))))) | exact Ne.symm (And.left (And.right (And.right (And.right (And.right (by with_reducible assumption)))))) | exact (And.right (And.right (And.right (And.right (by with_reducible assumption))))) | exact Ne.symm (And.right (And.right (And.right (And.right (by with_reducible assumption))))) | exact Nat.ne_of_lt (And.left (And.right (And.right (And.right (And.right (And.right (by with_reducible assumption))))))) | exact Nat.ne_of_lt (And.right (And.right (And.right (And.right (And.right (by with_reducible assumption)))))) | exact Nat.ne_of_gt (And.left (And.right (And.right (And.right (And.right (And.right (by with_reducible assumption))))))) | exact Nat.ne_of_gt (And.right (And.right (And.right (And.right (And.right (by with_reducible assumption)))))) | exact (And.left (And.right (And.right (And.right (And.right (And.right (by with_reducible assumption))))))) | exact Ne.symm (And.left (And.right (And.right (And.right (And.right (And.right (by with_reducible assumption))))))) | exact (And.right (And.right (And.right (And.right (And.right (by with_reducible assumption)))))) | exact Ne.symm (And.right (And.right (And.right (And.right (And.right (by with_reducible assumption)))))) | exact Nat.ne_of_lt (And.left (And.right (And.right (And.right (And.right (And.right (And.right (by with_reducible assumption)))))))) | exact Nat.ne_of_lt (And.right (And.right (And.right (And.right (And.right (And.right (by with_reducible assumption))))))) | exact Nat.ne_of_gt (And.left (And.right (And.right (And.right (And.right (And.right (And.right (by with_reducible assumption)))))))) | exact Nat.ne_of_gt (And.right (And.right (And.right (And.right (And.right (And.right (by with_reducible assumption))))))) | exact (And.left (And.right (And.right (And.right (And.right (And.right (And.right (by with_reducible assumption)))))))) | exact Ne.symm (And.left (And.right (And.right (And.right (And.right (And.right (And.right (by with_reducible assumption)))))))) | exact (And.right (And.right (And.right (And.right (And.right (And.right (by with_reducible assumption))))))) | exact Ne.symm (And.right (And.right (And.right (And.right (And.right (And.right (by with_reducible assumption))))))) | exact Nat.ne_of_lt (And.left (And.right (And.right (And.right (And.right (And.right (And.right (And.right (by with_reducible assumption))))))))) | exact Nat.ne_of_lt (And.right (And.right (And.right (And.right (And.right (And.right (And.right (by with_reducible assumption)))))))) | exact Nat.ne_of_gt (And.left (And.right (And.right (And.right (And.right (And.right (And.right (And.right (by with_reducible assumption))))))))) | exact Nat.ne_of_gt (And.right (And.right (And.right (And.right (And.right (And.right (And.right (by with_reducible assumption)))))))) | exact (And.left (And.right (And.right (And.right (And.right (And.right (And.right (And.right (by with_reducible assumption))))))))) | exact Ne.symm (And.left (And.right (And.right (And.right (And.right (And.right (And.right (And.right (by with_reducible assumption))))))))) | exact (And.right (And.right (And.right (And.right (And.right (And.right (And.right (by with_reducible assumption)))))))) | exact Ne.symm (And.right (And.right (And.right (And.right (And.right (And.right (And.right (by with_reducible assumption)))))))) | exact Nat.ne_of_lt (And.left (And.right (And.right (And.right (And.right (And.right (And.right (And.right (And.right (by with_reducible assumption)))))))))) | exact Nat.ne_of_lt (And.right (And.right (And.right (And.right (And.right (And.right (And.right (And.right (by with_reducible assumption))))))))) | exact Nat.ne_of_gt (And.left (And.right (And.right (And.right (And.right (And.right (And.right (And.right (And.right (by with_reducible assumption)))))))))) | exact Nat.ne_of_gt (And.right (And.right (And.right (And.right (And.right (And.right (And.right (And.right (by with_reducible assumption))))))))) | exact (And.left (And.right (And.right (And.right (And.right (And.right (And.right (And.right (And.right (by with_reducible assumption)))))))))) | exact Ne.symm (And.left (And.right (And.right (And.right (And.right (And.right (And.right (And.right (And.right (by with_reducible assumption)))))))))) | exact (And.right (And.right (And.right (And.right (And.right (And.right (And.right (And.right (by with_reducible assumption))))))))) | exact Ne.symm (And.right (And.right (And.right (And.right (And.right (And.right (And.right (And.right (by with_reducible assumption))))))))) | exact Nat.ne_of_lt (And.left (And.right (And.right (And.right (And.right (And.right (And.right (And.right (And.right (And.right (by with_reducible assumption))))))))))) | exact Nat.ne_of_lt (And.right (And.right (And.right (And.right (And.right (And.right (And.right (And.right (And.right (by with_reducible assumption)))))))))) | exact Nat.ne_of_gt (And.left (And.right (And.right (And.right (And.right (And.right (And.right (And.right (And.right (And.right (by with_reducible assumption))))))))))) | exact Nat.ne_of_gt (And.right (And.right (And.right (And.right (And.right (And.right (And.right (And.right (And.right (by with_reducible assumption)))))))))) | exact (And.left (And.right (And.right (And.right (And.right (And.right (And.right (And.right (And.right (And.right (by with_reducible assumption))))))))))) | exact Ne.symm (And.left (And.right (And.right (And.right (And.right (And.right (And.right (And.right (And.right (And.right (by with_reducible assumption))))))))))) | exact (And.right (And.right (And.right (And.right (And.right (And.right (And.right (And.right (And.right (by with_reducible assumption)))))))))) | exact Ne.symm (And.right (And.right (And.right (And.right (And.right (And.right (And.right (And.right (And.right (by with_reducible assumption)))))))))) | exact Nat.ne_of_lt (And.left (And.right (And.right (And.right (And.right (And.right (And.right (And.right (And.right (And.right (And.right (by with_reducible assumption)))))))))))) | exact Nat.ne_of_lt (And.right (And.right (And.right (And.right (And.right (And.right (And.right (And.right (And.right (And.right (by with_reducible assumption))))))))))) | exact Nat.ne_of_gt (And.left (And.right (And.right (And.right (And.right (And.right (And.right (And.right (And.right (And.right (And.right (by with_reducible assumption)))))))))))) | exact Nat.ne_of_gt (And.right (And.right (And.right (And.right (And.right (And.right (And.right (And.right (And.right (And.right (by with_reducible assumption))))))))))) | exact (And.left (And.right (And.right (And.right (And.right (And.right (And.right (And.right (And.right (And.right (And.right (by with_reducible assumption)))))))))))) | exact Ne.symm (And.left (And.right (And.right (And.right (And.right (And.right (And.right (And.right (And.right (And.right (And.right (by with_reducible assumption)))))))))))) | exact (And.right (And.right (And.right (And.right (And.right (And.right (And.right (And.right (And.right (And.right (by with_reducible assumption))))))))))) | exact Ne.symm (And.right (And.right (And.right (And.right (And.right (And.right (And.right (And.right (And.right (And.right (by with_reducible assumption)))))))))))))
  k_with "exec For Name Attribute cons nil" => (k_dflt (refine for_exec ?_))
  k_with "exec For Name Name cons nil" => (k_dflt (refine for_exec ?_))
  k_with "exec For Name Call cons nil" => (k_dflt (refine for_exec ?_))
  k_with "call type:tuple" => ((k_here; (with_reducible show wpAny _ _ (call (Value.type _) [Value.ref _]) _ _ _); k_dflt (refine' tupleOf_c (by k_asm) (by k_asm) (by k_mem) (by ((have hL9 := IntsAre.length (by assumption)); rw [sizeLine_eq]; omega)) ?_; k_whole); intro _ _ _ _ l19q; (try k_lt l19q); (try k_sweep)))
  k_with "call builtin:len" => ((k_here; (with_reducible show wpAny _ _ (call (Value.builtin "len") [Value.ref _]) _ _ _); k_dflt (refine' len_tupI (by k_asm) (by with_reducible assumption) (by with_reducible assumption) (by omega) ?_; k_whole); intro _ _))
  k_with "execs cons" => ((k_dflt (refine execs_n (s := ‹Shared›) ?_); intro _; (try k_fold)))
  k_with "exec If BoolOp cons nil" => (((fail_if_success (with_reducible show wpAny _ _ _ (Cut _ _) _ _)); refine Hold.out ?_))
  k_with "out" => (repeat (first | (k_unfold; (try dsimp only)) | refine cut_ret ?_ | refine turn_ret ?_))
  k_with "go" => ((w_top off; repeat' (first | (k_unfold; (try dsimp only)) | walk1 | (dsimp only; walk1))))
  k_with "call ref" => (((with_reducible show wpAny _ _ (call (Value.ref _) _ _) _ _ _); refine Hold.out ?_))
  k_with "subscriptTail" => ((k_here; k_dflt (refine' item_g (by k_asm) (by assumption) (by assumption) (by assumption) ?_; k_whole); intro _))
  k_with "call builtin:len" => ((k_here; k_dflt (refine' len_g (by k_asm) (by assumption) (by assumption) (by assumption) (by omega) ?_; k_whole); intro _ _))
  refine enter (binds := [(Str.ofString "file", .ref c1.x), (Str.ofString "line", .ref c2.x), (Str.ofString "leads", .ref D)]) _ G hb hN (by k_is) (by k_is) (by show dp < _; exact dlt0 hd) (BindsTo.of_eq rfl) (locs rfl) (by decide) ?_
  intro g L h₁ tk F N X T hg
  have hgm : ∀ b o, (hideAll s.heap [c1.d, c1.at_, c1.pb, c2.d, c2.at_, c2.pb]).get? b = some o → g.get? b = some o := fun b o e => hg b o (of_hideAll _ e) fun q => by rw [hideAll_none [c1.d, c1.at_, c1.pb, c2.d, c2.at_, c2.pb] q] at e; cases e
  have A1g := A1.keeps hgm
  have A2g := A2.keeps hgm
  have hDg := hD.keeps hgm
  clear A1 A2 hD hgm
  have q1 := hDg.at_
  have q2 := hDg.is
  have q3 := hDg.lo
  have q4 := hDg.len
  have gx1 : g.get? c1.x = some (instObj 59 c1.d) := A1g _ (.head _)
  have gx2 : g.get? c2.x = some (instObj 59 c2.d) := A2g _ (.head _)
  walk_at "go"
  refine for_up (g := g) (news := two w c1 c2 l0 v1 0 t1 e1 l2 v2 i2 t2 [] e2 ++ [(_, listOf #[] 0)]) (J := EnJ w c1 c2 us fin (l0 + nls c1.text.cps.toList) D us.length) rfl (by assumption) (by omega) rfl rfl rfl (by k_asm) (news_sub (by k_asm) (by kcj_all)) ?_ ?_ ?_
  · exact ⟨_, ⟨by omega, by omega, by omega, by omega, by omega, by omega⟩, c1.x, us, [], [], 0, _, _, 0, _, _, _, _, _, _, [], _, rfl, rfl, rfl, rfl, fun _ h => h, rfl, .file rfl hr .nil rfl, Nat.zero_le _, .nil, rfl, rfl, rfl, (fun q => absurd rfl q), rfl⟩
  · rintro i tc m₁ news₁ h tk I oI h₀ hi ⟨out, oo, src, rem, ov, ovs, eo, l1, v1, i1, t1, e1, l2, v2, i2, t2, pend, e2, m0, m1, m2, m3, hsub, hlen, hS, hz, ho, hol, hgo, hgo2, h9, rfl⟩ hoff F N
    replace F := know (x := Str.ofString "source") F m0
    replace F := know (x := Str.ofString "line") F m1
    replace F := know (x := Str.ofString "leads") F m2
    replace F := know (x := Str.ofString "ends") F m3
    obtain ⟨u0, rem, rfl⟩ : ∃ u r, rem = u :: r := by
      cases rem with
      | nil => simp at hlen; omega
      | cons u r => exact ⟨u, r, rfl⟩
    have oI' : OutOff c1 c2 I := .of hoff
    have hlen0 := hlen
    simp only [two, List.cons_append, List.nil_append] at N
    walk_at "go"
    refine Hold.in (src_c (rest := [(out, listOf ovs.toArray eo), (I, oI)]) X T (by k_asm) (news_sub (by k_asm) (by kcj_all)) ap (oo.o1 (oI'.o1 off_nil)) (oo.o2 (oI'.o2 off_nil)) A1g A2g ok1 ok2 hz (by show dp + 1 + 48 < _; exact dlt hd (by decide)) hS ?_)
    clear hS N F m0 m1 m2 m3 hz
    intro h tk tv l1 v1 i1 t1 pend e2 F N hS hz
    simp only [two, List.cons_append, List.nil_append] at N
    k_sweep
    walk_at "go"
    refine for_up (g := g) (news := two w c1 c2 l1 v1 i1 t1 e1 l2 v2 i2 t2 pend e2 ++ [(out, listOf ovs.toArray eo), (I, oI)]) (J := EiJ w c1 c2 us fin (l0 + nls c1.text.cps.toList) D out src (us.length - 1) (rnd ltW u0 rem) ovs eo I oI) rfl (by assumption) (by omega) rfl rfl rfl (by k_asm) (by k_asm) ?_ ?_ ?_
    · refine ⟨u0, _, rem, [], _, _, _, _, _, _, _, _, _, _, _, rfl, rfl, rfl, rfl, rfl, hsub _ (.head _), fun u hu => hsub _ (.tail _ hu), (fun _ h => nomatch h), ?_, hS, hz, rfl, rfl, rfl⟩
      simp at hlen
      omega
    · clear hS hz F N
      rintro k tc m₁ news₁ h tk I2 oI2 h₀ hk ⟨held, th, rem, psh, l1, v1, i1, t1, e1, l2, v2, i2, t2, pend, e2, m0, m1, m2, m3, m4, hh, hsub, hsub2, hlen, hS, hz, q1, q2, rfl⟩ hoff2 F N
      replace F := know (x := Str.ofString "source") F m0
      replace F := know (x := Str.ofString "line") F m1
      replace F := know (x := Str.ofString "leads") F m2
      replace F := know (x := Str.ofString "ends") F m3
      replace F := know (x := Str.ofString "held") F m4
      have oI2' : OutOff c1 c2 I2 := .of hoff2
      simp only [two, List.cons_append, List.nil_append] at N
      obtain ⟨u, rem, rfl⟩ : ∃ u r, rem = u :: r := by
        cases rem with
        | nil => simp at hlen; omega
        | cons u r => exact ⟨u, r, rfl⟩
      have hu := hsub u (.head _)
      obtain ⟨x1, y1, w1, z1, z2⟩ := hDg.has held hh
      obtain ⟨x2, y2, w2, z3, z4⟩ := hDg.has u hu
      walk_at "go"
      refine Hold.in (src_c (rest := [(out, listOf ovs.toArray eo), (I, oI), (I2, oI2)]) X T (by k_asm) (news_sub (by k_asm) (by kcj_all)) ap (oo.o1 (oI'.o1 (oI2'.o1 off_nil))) (oo.o2 (oI'.o2 (oI2'.o2 off_nil))) A1g A2g ok1 ok2 hz (by show dp + 1 + 48 < _; exact dlt hd (by decide)) hS ?_)
      clear hS N F m0 m1 m2 m3 m4 hz
      intro h tk tv l1 v1 i1 t1 pend e2 F N hS hz
      simp only [two, List.cons_append, List.nil_append] at N
      k_sweep
      walk_at "go"
      refine Hold.in (wpAny_call (less_c ⟨X, T⟩ (Fr.keep (by k_asm)) (w1.keeps (Fr.keep (by k_asm))) (w2.keeps (Fr.keep (by k_asm))) (by show dp + 1 + 18 < _; exact dlt hd (by decide)) z1 z3 z2 z4 ?_))
      intro h' tk' E'
      have F' := E'.fr0 (by k_asm)
      have N' := E'.led0 (by k_asm)
      clear E'
      k_sweep
      have hq2 := congrArg List.length q2
      rw [List.length_append, rnd_len, rnd_len, List.length_cons] at hq2
      rw [List.length_cons] at hlen0
      have oR := hoff2.2.2.2.2.2.2
      dsimp only
      cases hlt : ltW held u with
      | true =>
        walk_at "go"
        refine Hold.in (put_c (u := held) (tv := th) (rest := [(out, listOf ovs.toArray eo), (I, oI), (I2, oI2)]) X T (by k_asm) (news_sub (by k_asm) (by kcj_all)) ap (oo.o2 (oI'.o2 (oI2'.o2 off_nil))) A2g ok2 hz (by show dp + 1 + 48 < _; exact dlt hd (by decide)) hS ?_)
        clear F N
        intro h tk e2 F N hS
        simp only [two, List.cons_append, List.nil_append] at N
        k_sweep
        walk_at "go"
        rw [rnd, if_pos hlt] at q1 q2
        refine turn_next (by k_asm) (by k_asm) (two w c1 c2 l1 v1 i1 t1 e1 l2 v2 i2 t2 (pend ++ [.str held th]) e2 ++ [(out, listOf ovs.toArray eo), (I, oI)]) (by kcj_all) (oI2'.all oR) ⟨u, _, rem, psh ++ [held], _, _, _, _, _, _, _, _, _, _, _, rfl, rfl, rfl, rfl, rfl, hu, fun u hu => hsub _ (.tail _ hu), ?_, ?_, hS, ?_, q1, (List.append_assoc _ _ _).trans q2, rfl⟩
        · intro v hv
          rcases List.mem_append.mp hv with hv | hv
          · exact hsub2 v hv
          · cases List.mem_singleton.mp hv; exact hh
        · rw [List.length_cons] at hlen; rw [← Nat.sub_sub, ← hlen]; rfl
        · have := hS.len
          simp only [List.length_append, List.length_cons, List.length_nil] at this ⊢
          omega
      | false =>
        walk_at "go"
        refine Hold.in (put_c (u := u) (tv := tv) (rest := [(out, listOf ovs.toArray eo), (I, oI), (I2, oI2)]) X T (by k_asm) (news_sub (by k_asm) (by kcj_all)) ap (oo.o2 (oI'.o2 (oI2'.o2 off_nil))) A2g ok2 hz (by show dp + 1 + 48 < _; exact dlt hd (by decide)) hS ?_)
        clear F N
        intro h tk e2 F N hS
        simp only [two, List.cons_append, List.nil_append] at N
        k_sweep
        walk_at "go"
        rw [rnd, if_neg (by rw [hlt]; exact Bool.false_ne_true)] at q1 q2
        refine turn_next (by k_asm) (by k_asm) (two w c1 c2 l1 v1 i1 t1 e1 l2 v2 i2 t2 (pend ++ [.str u tv]) e2 ++ [(out, listOf ovs.toArray eo), (I, oI)]) (by kcj_all) (oI2'.all oR) ⟨held, _, rem, psh ++ [u], _, _, _, _, _, _, _, _, _, _, _, rfl, rfl, rfl, rfl, rfl, hh, fun u hu => hsub _ (.tail _ hu), ?_, ?_, hS, ?_, q1, (List.append_assoc _ _ _).trans q2, rfl⟩
        · intro v hv
          rcases List.mem_append.mp hv with hv | hv
          · exact hsub2 v hv
          · cases List.mem_singleton.mp hv; exact hu
        · rw [List.length_cons] at hlen; rw [← Nat.sub_sub, ← hlen]; rfl
        · have := hS.len
          simp only [List.length_append, List.length_cons, List.length_nil] at this ⊢
          omega
    · rintro h tk m' news' F N ⟨held, th, rem', psh, l1, v1, i1, t1, e1, l2, v2, i2, t2, pend, e2, m0, m1, m2, m3, m4, hh, hsub, hsub2, hlen, hS, hz, q1, q2, rfl⟩
      replace F := know (x := Str.ofString "source") F m0
      replace F := know (x := Str.ofString "line") F m1
      replace F := know (x := Str.ofString "leads") F m2
      replace F := know (x := Str.ofString "ends") F m3
      replace F := know (x := Str.ofString "held") F m4
      obtain rfl : rem' = [] := List.length_eq_zero_iff.mp (by omega)
      simp only [rnd, List.append_nil] at q1 q2
      subst q1 q2
      simp only [two, List.cons_append, List.nil_append] at N
      have n7 := hoff.2.2.2.2.2.2.1
      dsimp only at n7
      obtain ⟨n1, n2, n3, n4, n5, n6⟩ := id oo
      (try k_unfold)
      (try dsimp only)
      walk_at "go"
      refine Hold.in (put_c (u := (rnd ltW u0 rem).1) (tv := th) (rest := [(out, listOf ovs.toArray eo), (I, oI)]) X T (by k_asm) (news_sub (by k_asm) (by kcj_all)) ap (oo.o2 (oI'.o2 off_nil)) A2g ok2 hz (by show dp + 1 + 48 < _; exact dlt hd (by decide)) hS ?_)
      clear F N
      intro h tk e2 F N hS
      simp only [two, List.cons_append, List.nil_append] at N
      k_sweep
      walk_at "go"
      have e9 : ovs.toArray.push (.str (rnd ltW u0 rem).1 th) = (ovs ++ [Value.str (rnd ltW u0 rem).1 th]).toArray := by simp
      (rename News _ _ _ _ => N9)
      rw [e9] at N9
      have e8 : us.length - i = us.length - (i + 1) + 1 := sub_one_of (q4 ▸ lt_nat hi)
      rw [e8, endsOf] at hgo hgo2
      have hl9 := hS.len
      simp only [List.length_append, List.length_cons, List.length_nil] at hl9
      rw [List.length_cons] at hlen0
      refine turn_next (by k_asm) N9 (two w c1 c2 l1 v1 i1 t1 e1 l2 v2 i2 t2 (pend ++ [.str (rnd ltW u0 rem).1 th]) e2 ++ [(out, listOf (ovs ++ [Value.str (rnd ltW u0 rem).1 th]).toArray (eo + 1))]) (by kcj_all) (oI'.all ⟨n7, trivial⟩) ⟨out, oo, c2.x, (rnd ltW u0 rem).2 ++ [(rnd ltW u0 rem).1], ov ++ [(rnd ltW u0 rem).1], _, _, _, _, _, _, _, _, _, _, _, _, _, rfl, rfl, rfl, rfl, ?_, ?_, hS.turn, ?_, ho.append' (.cons _ _ .nil), ?_, (List.append_assoc _ _ _).trans hgo, hgo2, (fun _ => hS.pendEnd), rfl⟩
      · intro v hv
        rcases List.mem_append.mp hv with hv | hv
        · exact hsub2 v hv
        · cases List.mem_singleton.mp hv; exact hh
      · rw [List.length_append, rnd_len, List.length_singleton]; omega
      · simp only [List.length_append, List.length_cons, List.length_nil]; rw [rnd_len] at hl9; omega
      · rw [List.length_append, List.length_singleton, hol]
  · rintro h tk m' news' F N ⟨out, oo, src, rem, ov, ovs, eo, l1, v1, i1, t1, e1, l2, v2, i2, t2, pend, e2, m0, m1, m2, m3, hsub, hlen, hS, hz, ho, hol, hgo, hgo2, h9, rfl⟩
    replace F := know (x := Str.ofString "ends") F m3
    (try k_unfold)
    (try dsimp only)
    walk_at "go"
    have e5 : (((kvs.length : Nat) : Int) - 0).toNat = us.length := by rw [Int.sub_zero, Int.toNat_natCast, q4]
    have e0 : us.length - (((kvs.length : Nat) : Int) - 0).toNat = 0 := by rw [e5, Nat.sub_self]
    rw [e0] at hgo hgo2
    simp only [endsOf, List.append_nil] at hgo hgo2
    subst hgo hgo2
    obtain ⟨hp, ej, el⟩ := h9 (by rw [e5]; exact Nat.ne_of_gt hn0)
    exact hR _ _ _ _ _ _ _ _ _ _ _ _ _ _ _ _ (ends_of (by k_asm) N hg) ho hp ej el oo
end
section
variable {w : World} {lo : List Str} {mean : ExcName → Option Value} {mg mb : Str → Option Value} {b₀ : Heap} {dp un : Nat} {fr : Option (List Env)} {gd : Option (List Code)} {s : Shared} {R : Result → Shared → Prop}
/-- between the turns of the loop -/
inductive OrJ (high : Nat) (fs : List Int) (L R : Nat) (oR oB : Obj) (t : Nat) (m₁ : Str → Option Value) (news₁ : List (Addr × Obj)) : Prop
  | mk (cR Cl cC : Nat) (vs : List Value) (rows : List Nat) (cls : List CellO) (e2 : m₁ (Str.ofString "cells") = some (.ref Cl)) (hv : IntsAre vs (up rows)) (hl : rows.length = high) (hs : rows.sum = t) (hb : ∀ i, rows.getD i 0 ≤ high - i) (hcl : cls.length = t)
      (hc : pairsOf cls ++ orderP high (fs.drop t) rows = orderP high fs (List.replicate high 0))
      (ap : Apt ((R, listOf vs.toArray cR) :: (L + 1 + 1, oR) :: (L + 1, oB) :: (Cl, listOf (cellRefs cls).toArray cC) :: cellsLed cls))
      (e : news₁ = (R, listOf vs.toArray cR) :: (L + 1 + 1, oR) :: (L + 1, oB) :: (Cl, listOf (cellRefs cls).toArray cC) :: cellsLed cls)
set_option maxRecDepth 100000 in
set_option maxHeartbeats 8000000 in
theorem order_c {fl high : Nat} {tc : Tok} {fv : List Value} {fs : List Int} (G : Gd (Mine.hd.heap_1 w.params) lo mean mg mb b₀) (hb : Over b₀ s.heap) (hf : s.heap.IsList fl fv.toArray) (hfv : IntsAre fv fs) (hh : high = 3 ∨ high = 4) (hln : fs.length ≤ high * (high + 1) / 2) (hf0 : ∀ f ∈ fs, 0 ≤ f)
    (hd : dp + 28 < recursionLimit)
    (hR : ∀ h' tk' Cl cls c, Ends s.heap h' [] ((Cl, listOf (cellRefs cls).toArray c) :: cellsLed cls) → AllNe Cl (cellsLed cls) → pairsOf cls = orderP high fs (List.replicate high 0) → R (.ok (.ret (.ref Cl))) { s with heap := h', toks := tk' }) :
    codeAny (model P w) (Ar dp fr gd un) (.call (.ref 148) ⟨[.int high tc, .ref fl], []⟩) R s := by
  k_with_none
  k_with "ne" => ((first | with_reducible assumption | exact Ne.symm (by with_reducible assumption) | exact Nat.ne_of_lt (by with_reducible assumption) | exact Nat.ne_of_gt (by with_reducible assumption) | (refine Nat.ne_of_lt ?_; (repeat (first | exact Nat.lt_succ_self _ | with_reducible assumption | refine Nat.lt_succ_of_lt ?_)); done) | (refine Nat.ne_of_gt ?_; (repeat (first | exact Nat.lt_succ_self _ | with_reducible assumption | refine Nat.lt_succ_of_lt ?_)); done) | exact Nat.ne_of_lt (And.left (by with_reducible assumption)) | exact Nat.ne_of_gt (And.left (by with_reducible assumption)) | exact (And.left (by with_reducible assumption)) | exact Ne.symm (And.left (by with_reducible assumption)) | exact Nat.ne_of_lt (And.left (And.right (by with_reducible assumption))) | exact Nat.ne_of_lt (And.right (by with_reducible assumption)) | exact Nat.ne_of_gt (And.left (And.right (by with_reducible assumption))) | exact Nat.ne_of_gt (And.right (by with_reducible assumption)) | exact (And.left (And.right (by with_reducible assumption))) | exact Ne.symm (And.left (And.right (by with_reducible assumption))) | exact (And.right (by with_reducible assumption)) | exact Ne.symm (And.right (by with_reducible assumption)) | exact Nat.ne_of_lt (And.left (And.right (And.right (by with_reducible assumption)))) | exact Nat.ne_of_lt (And.right (And.right (by with_reducible assumption))) | exact Nat.ne_of_gt (And.left (And.right (And.right (by with_reducible assumption)))) | exact Nat.ne_of_gt (And.right (And.right (by with_reducible assumption))) | exact (And.left (And.right (And.right (by with_reducible assumption)))) | exact Ne.symm (And.left (And.right (And.right (by with_reducible assumption)))) | exact (And.right (And.right (by with_reducible assumption))) | exact Ne.symm (And.right (And.right (by with_reducible assumption))) | exact Nat.ne_of_lt (And.left (And.right (And.right (And.right (by with_reducible assumption))))) | exact Nat.ne_of_lt (And.right (And.right (And.right (by with_reducible assumption)))) | exact Nat.ne_of_gt (And.left (And.right (And.right (And.right (by with_reducible assumption))))) | exact Nat.ne_of_gt (And.right (And.right (And.right (by with_reducible assumption)))) | exact (And.left (And.right (And.right (And.right (by with_reducible assumption))))) | exact Ne.symm (And.left (And.right (And.right (And.right (by with_reducible assumption))))) | exact (And.right (And.right (And.right (by with_reducible assumption)))) | exact Ne.symm (And.right (And.right (And.right (by with_reducible assumption)))) | exact Nat.ne_of_lt (And.left (And.right (And.right (And.right (And.right (by with_reducible assumption)))))) | exact Nat.ne_of_lt (And.right (And.right (And.right (And.right (by with_reducible assumption))))) | exact Nat.ne_of_gt (And.left (And.right (And.right (And.right (And.right (by with_reducible assumption)))))) | exact Nat.ne_of_gt (And.right (And.right (And.right (And.right (by with_reducible assumption))))) | exact (And.left (And.right (And.right (And.right (And.right (by with_reducible assumption)))))) | exact Ne.symm (And.left (And.right (And.right (And.right (And.right (by with_reducible assumption)))))) | exact (And.right (And.right (And.right (And.right (by with_reducible assumption))))) | exact Ne.symm (And.right (And.right (And.right (And.right (by with_reducible assumption))))) | exact Nat.ne_of_lt (And.left (And.right (And.right (And.right (And.right (And.right (by with_reducible assumption))))))) | exact Nat.ne_of_lt (And.right (And.right (And.right (And.right (And.right (by with_reducible assumption)))))) | exact Nat.ne_of_gt (And.left (And.right (And.right (And.right (And.right (And.right (by with_reducible assumption))))))) | exact Nat.ne_of_gt (And.right (And.right (And.right (And.right (And.right (by with_reducible assumption)))))) | exact (And.left (And.right (And.right (And.right (And.right (And.right (by with_reducible assumption))))))) | exact Ne.symm (And.left (And.right (And.right (And.right (And.right (And.right (by with_reducible assumption))))))) | exact (And.right (And.right (And.right (And.right (And.right (by with_reducible assumption)))))) | exact Ne.symm (And.right (And.right (And.right (And.right (And.right (by with_reducible assumption)))))) | exact Nat.ne_of_lt (And.left (And.right (And.right (And.right (And.right (And.right (And.right (by with_reducible assumption)))))))) | exact Nat.ne_of_lt (And.right (And.right (And.right (And.right (And.right (And.right (by with_reducible assumption))))))) | exact Nat.ne_of_gt (And.left (And.right (And.right (And.right (And.right (And.right (And.right (by with_reducible assumption)))))))) | exact Nat.ne_of_gt (And.right (And.right (And.right (And.right (And.right (And.right (by with_reducible assumption))))))) | exact (And.left (And.right (And.right (And.right (And.right (And.right (And.right (by with_reducible assumption)))))))) | exact Ne.symm (And.left (And.right (And.right (And.right (And.right (And.right (And.right (by with_reducible assumption)))))))) | exact (And.right (And.right (And.right (And.right (And.right (And.right (by with_reducible assumption))))))) | exact Ne.symm (And.right (And.right (And.right (And.right (And.right (And.right (by with_reducible assumption))))))) | exact Nat.ne_of_lt (And.left (And.right (And.right (And.right (And.right (And.right (And.right (And.right (by with_reducible assumption))))))))) | exact Nat.ne_of_lt (And.right (And.right (And.right (And.right (And.right (And.right (And.right (by with_reducible assumption)))))))) | exact Nat.ne_of_gt (And.left (And.right (And.right (And.right (And.right (And.right (And.right (And.right (by with_reducible assumption))))))))) | exact Nat.ne_of_gt (And.right (And.right (And.right (And.right (And.right (And.right (And.right (by with_reducible assumption)))))))) | exact (And.left (And.right (And.right (And.right (And.right (And.right (And.right (And.right (by with_reducible assumption))))))))) | exact Ne.symm (And.left (And.right (And.right (And.right (And.right (And.right (And.right (And.right (by with_reducible assumption))))))))) | exact (And.right (And.right (And.right (And.right (And.right (And.right (And.right (by with_reducible assumption)))))))) | exact Ne.symm (And.right (And.right (And.right (And.right (And.right (And.right (And.right (by with_reducible assumption)))))))) | exact Nat.ne_of_lt (And.left (And.right (And.right (And.right (And.right (And.right (And.right (And.right (And.right (by with_reducible assumption)))))))))) | exact Nat.ne_of_lt (And.right (And.right (And.right (And.right (And.right (And.right (And.right (And.right (by with_reducible assumption))))))))) | exact Nat.ne_of_gt (And.left (And.right (And.right (And.right (And.right (And.right (And.right (And.right (And.right (by with_reducible assumption)))))))))) | exact Nat.ne_of_gt (And.right (And.right (And.right (And.right (And.right (And.right (And.right (And.right (by with_reducible assumption))))))))) | exact (And.left (And.right (And.right (And.right (And.right (And.right (And.right (And.right (And.right (by with_reducible assumption)))))))))) | exact Ne.symm (And.left (And.right (And.right (And.right (And.right (And.right (And.right (And.right (And.right (by with_reducible assumption)))))))))) | exact (And.right (And.right (And.right (And.right (And.right (And.right (And.right (And.right (by with_reducible assumption))))))))) | exact Ne.symm (And.right (And.right (And.right (And.right (And.right (And.right (And.right (And.right (by with_reducible assumption))))))))) | exact Nat.ne_of_lt (And.left (And.right (And.right (And.right (And.right (And.right (And.right (And.right (And.right (And.right (by with_reducible assumption))))))))))) | exact Nat.ne_of_lt (And.right (And.right (And.right (And.right (And.right (And.right (And.right (And.right (And.right (by with_reducible assumption)))))))))) | exact Nat.ne_of_gt (And.left (And.right (And.right (And.right (And.right (And.right (And.right (And.right (And.right (And.right (by with_reducible assumption))))))))))) | exact Nat.ne_of_gt (And.right (And.right (And.right (And.right (And.right (And.right (And.right (And.right (And.right (by with_reducible assumption)))))))))) | exact (And.left (And.right (And.right (And.right (And.right (And.right (And.right (And.right (And.right (And.right (by with_reducible assumption))))))))))) | exact Ne.symm (And.left (And.right (And.right (And.right (And.right (And.right (And.right (And.right (And.right (And.right (by with_reducible assumption))))))))))) | exact (And.right (And.right (And.right (And.right (And.right (And.right (And.right (And.right (And.right (by with_reducible assumption)))))))))) | exact Ne.symm (And.right (And.right (And.right (And.right (And.right (And.right (And.right (And.right (And.right (by with_reducible assumption)))))))))) | exact Nat.ne_of_lt (And.left (And.right (And.right (And.right (And.right (And.right (And.right (And.right (And.right (And.right (And.right (by with_reducible assumption)))))))))))) | exact Nat.ne_of_lt (And.right (And.right (And.right (And.right (And.right (And.right (And.right (And.right (And.right (And.right (by with_reducible assumption))))))))))) | exact Nat.ne_of_gt (And.left (And.right (And.right (And.right (And.right (And.right (And.right (And.right (And.right (And.right (And.right (by with_reducible assumption)))))))))))) | exact Nat.ne_of_gt (And.right (And.right (And.right (And.right (And.right (And.right (And.right (And.right (And.right (And.right (by with_reducible assumption))))))))))) | exact (And.left (And.right (And.right (And.right (And.right (And.right (And.right (And.right (And.right (And.right (And.right (by with_reducible assumption)))))))))))) | exact Ne.symm (And.left (And.right (And.right (And.right (And.right (And.right (And.right (And.right (And.right (And.right (And.right (by with_reducible assumption)))))))))))) | exact (And.right (And.right (And.right (And.right (And.right (And.right (And.right (And.right (And.right (And.right (by with_reducible assumption))))))))))) | exact Ne.symm (And.right (And.right (And.right (And.right (And.right (And.right (And.right (And.right (And.right (And.right (by with_reducible assumption)))))))))))))
  k_with "exec For Name Attribute cons nil" => (k_dflt (refine for_exec ?_))
  k_with "exec For Name Name cons nil" => (k_dflt (refine for_exec ?_))
  k_with "exec For Name Call cons nil" => (k_dflt (refine for_exec ?_))
  k_with "call type:tuple" => ((k_here; (with_reducible show wpAny _ _ (call (Value.type _) [Value.ref _]) _ _ _); k_dflt (refine' tupleOf_c (by k_asm) (by k_asm) (by k_mem) (by ((have hL9 := IntsAre.length (by assumption)); rw [sizeLine_eq]; omega)) ?_; k_whole); intro _ _ _ _ l19q; (try k_lt l19q); (try k_sweep)))
  k_with "call builtin:len" => ((k_here; (with_reducible show wpAny _ _ (call (Value.builtin "len") [Value.ref _]) _ _ _); k_dflt (refine' len_tupI (by k_asm) (by with_reducible assumption) (by with_reducible assumption) (by omega) ?_; k_whole); intro _ _))
  k_with "execs cons" => ((k_dflt (refine execs_n (s := ‹Shared›) ?_); intro _; (try k_fold)))
  k_with "exec If BoolOp cons nil" => (((fail_if_success (with_reducible show wpAny _ _ _ (Cut _ _) _ _)); refine Hold.out ?_))
  k_with "out" => (repeat (first | (k_unfold; (try dsimp only)) | refine cut_ret ?_ | refine turn_ret ?_))
  k_with "go" => ((w_top off; repeat' (first | (k_unfold; (try dsimp only)) | walk1 | (dsimp only; walk1))))
  k_with "call builtin:len" => ((k_here; k_dflt (refine' lenV (by k_asm) (by k_mem) (by omega) ?_; k_whole); intro _ _))
  k_with "subscriptTail" => ((k_here; k_dflt (refine' itemV (by k_asm) (by k_mem) (by omega) (by omega) (by with_reducible assumption) ?_; k_whole)))
  k_with "eval ListComp" => ((k_here; refine Hold.out ?_))
  k_with "exec Assign cons ListComp" => ((k_here; refine Hold.out ?_))
  k_with "CompSrcT" => (refine Hold.out ?_)
  k_with "CompEnd" => (refine Hold.out ?_)
  k_with "setItem ref int" => (refine Hold.out ?_)
  k_with "call builtin:list.append" => (refine Hold.out ?_)
  refine enterC (binds := [(Str.ofString "high", .int high tc), (Str.ofString "figures", .ref fl)]) [] G hb Led.nil (by k_is) (by k_is) (by show dp < _; exact dlt0 hd) (BindsTo.of_eq rfl) rfl (by decide +kernel) ?_
  have hh10 : high ≤ 10 ∧ fs.length ≤ 10 := by rcases hh with rfl | rfl <;> omega
  intro g L h₁ tk cells F N Y X T l1 hg
  have hgf : g.IsList fl fv.toArray := let ⟨o, a, b⟩ := hf; ⟨o, hg _ _ a (by simp), b⟩
  k_cells Y
  rename_i oA oB dA dB
  simp only [List.cons_append, List.nil_append] at N
  walk_at "go"
  (with_reducible rename Fr _ _ _ _ => F0)
  (with_reducible rename News _ _ _ _ => N0)
  rename_i l0 h4 l2 R h3 i1 n1 s1 e1 e2 e3 l3 h2 oR dR Cl h1' l4 hhp tk9
  have hv0 := rep_up i1
  have N1 := news_sub (news' := [(R, listOf (List.replicate ((high : Int)).toNat [Value.int 0 _]).flatten.toArray 0), (L + 1 + 1, oR), (L + 1, oB), (Cl, listOf #[] 0)]) N0 (by kcj_all)
  clear N0
  refine for_list (g := g) (L := L) (J := OrJ high fs L R oR oB) rfl hgf rfl rfl rfl F0 N1 ?_ ?_ ?_
  · refine ⟨0, Cl, 0, _, List.replicate high 0, [], rfl, hv0, List.length_replicate, by simp, fun i => ?_, rfl, rfl, ⟨⟨by omega, by omega, by omega, trivial⟩, ⟨by omega, by omega, trivial⟩, ⟨by omega, trivial⟩, trivial, trivial⟩, rfl⟩
    · rw [getD_rep]; exact Nat.zero_le _
  · clear F0 N1
    rintro t v m₁ news₁ h tk I oI h₀ ht hv ⟨cR, Cl, cC, vs, rows, cls, e2, hv1, hl, hs, hbd, hcl, hc, ap, rfl⟩ hoff F N
    replace F := know (x := Str.ofString "cells") F e2
    obtain ⟨tv, rfl, htl⟩ := ints_item hfv hv
    have ap' := ap
    simp only [Apt, AllNe] at ap' hoff
    obtain ⟨⟨a1, a2, a3, a4⟩, ⟨b1, b2, b3⟩, ⟨c1, c2⟩, d1, d2⟩ := ap'
    obtain ⟨i1, i2, i3, i4, i5⟩ := hoff
    have hvl := hv1.length
    rw [List.length_map] at hvl
    walk_at "go"
    refine Hold.in ?_
    k_here
    k_dflt (refine LCt.Assign_ListComp_T (F₀ := by k_asm) (by rfl) (by with_unfolding_all rfl) (by with_unfolding_all rfl) (by decide) (by rfl) (by decide) (by rfl) (by rfl) (by rfl) ?_)
    walk_at "go"
    refine Hold.in ?_
    k_here
    k_dflt (refine LCt.CompSrcT.range (by rfl) (by k_asm) (by k_asm) (by assumption) (small_one (by omega) (by omega) (by omega) (by omega)) (PyProof.Rows.rangeSize_nat _ _) (by rw [sizeLine_eq]; omega) ?_)
    intro g'
    refine compT_inv (FrJ high rows _) ?_ ?_ ⟨rfl, .nil⟩
    · (try dsimp only)
      rintro k ys _ hk ⟨rfl, hy⟩ v I2 oI2 C oC D2 m₂ h2 tk2 E' ⟨tv2, rfl⟩ hC hx2 F N off2 ⟨ne1, ne2, ne3⟩
      have hk2 : k < high := lt_nat hk
      walk_at "go"
      · exact Hold.in (LCg.CompEnd.intro (by k_asm) (by k_asm) _ (fun _ h => h) off2 trivial (FrJ.yes ⟨rfl, hy⟩ (fr1 hk2 (by assumption) (by assumption))))
      · exact Hold.in (LCg.CompEnd.intro (by k_asm) (by k_asm) _ (fun _ h => h) off2 trivial (FrJ.yes ⟨rfl, hy⟩ (fr2 hk2 (by assumption) (by assumption) (by assumption))))
      · exact Hold.in (LCg.CompEnd.intro (by k_asm) (by k_asm) _ (fun _ h => h) off2 trivial (FrJ.no ⟨rfl, hy⟩ (fr3 (by assumption) (by assumption))))
      · exact Hold.in (LCg.CompEnd.intro (by k_asm) (by k_asm) _ (fun _ h => h) off2 trivial (FrJ.no ⟨rfl, hy⟩ (fr4 hk2 (by assumption))))
    · rintro ys _ ⟨rfl, hy⟩
      have hfp := free_pos hh hl hbd (by omega)
      obtain ⟨fr, hfr⟩ : ∃ fr, fr = freeP high rows := ⟨_, rfl⟩
      replace hy : IntsAre ys (up fr) := by rw [hfr, freeP, show high = ((high : Int) - 0).toNat by omega]; exact hy
      rw [← hfr] at hfp
      have hyl := hy.length
      rw [List.length_map] at hyl
      unfold LCg.FinA
      intro lG h9 tk9 F N oG
      (try dsimp only)
      have hfr10 : fr.length ≤ 10 := by rw [hfr]; exact Nat.le_trans (List.length_filter_le _ _) (by rw [List.length_range]; omega)
      have hpos : (0 : Int) < ys.length := by omega
      have hm0 := Int.fmod_nonneg_of_pos (fs.getD t 0) hpos
      have hm1 := Int.fmod_lt_of_pos (fs.getD t 0) hpos
      obtain ⟨q, hq⟩ : ∃ q : Nat, (fs.getD t 0).fmod ys.length = (q : Int) := Int.eq_ofNat_of_zero_le hm0
      have hqf : q < fr.length := by omega
      obtain ⟨tq, hyq⟩ := ints_get hy (i := q) (by rw [List.length_map]; exact hqf)
      rw [getD_up] at hyq
      obtain ⟨i, hi⟩ : ∃ i, i = fr.getD q 0 := ⟨_, rfl⟩
      rw [← hi] at hyq
      have hif : i ∈ freeP high rows := by rw [← hfr, hi, List.getD, List.getElem?_eq_getElem hqf]; exact List.getElem_mem _
      obtain ⟨f1, f2, -⟩ := free_mem hif
      have hqi : (up fr).getD ((fs.getD t 0).fmod ys.length).toNat 0 = (i : Int) := by rw [hq, Int.toNat_natCast, getD_up, hi]
      have hil : i < rows.length := by rw [hl]; exact f1
      have hst := set_sum hil
      have hnx := ord_next (i := i) (fr := fr) (t := t) htl hfr (by rw [← hyl, hq, Int.toNat_natCast, hi])
      have hcl2 : (cellRefs cls).length ≤ 1000000 := by rw [List.length_map, hcl]; exact Nat.le_trans (Nat.le_of_lt htl) (Nat.le_trans hh10.2 (by decide))
      have hk0 : 0 ≤ (up fr).getD ((fs.getD t 0).fmod ys.length).toNat 0 := by rw [hqi]; exact Int.natCast_nonneg _
      have hk1 : (up fr).getD ((fs.getD t 0).fmod ys.length).toNat 0 < (up rows).length := by rw [hqi, List.length_map]; exact Int.ofNat_lt.mpr hil
      have hk2 : (up fr).getD ((fs.getD t 0).fmod ys.length).toNat 0 < 2 ^ 63 := by rw [hqi]; exact Int.lt_of_lt_of_le (Int.ofNat_lt.mpr (Nat.lt_of_lt_of_le f1 hh10.1)) (by decide)
      clear hyq hqf hfp hif hfr
      walk_at "go"
      rename_i Dt h10 F N lt
      clear hq hm0 hm1 hi hpos hyl hfr10
      obtain ⟨w1, w2, w3, w4, w5, w6, w7⟩ := lt
      have w8 := AllNe.ofAllLt w7
      replace N := drop2 N
      refine Hold.in (appendV F N (by k_upd) hcl2 ?_)
      clear F N
      intro h11 F N
      walk_at "go"
      refine Hold.in (ksa_set (by k_asm) (by k_asm) (by k_upd) hv1 hk0 hk1 hk2 ?_)
      intro h12 F N hset hl2 _
      (try k_sweep)
      walk_at "go"
      (with_reducible rename News _ _ _ _ => N9)
      (with_reducible rename Fr _ _ _ _ => F9)
      rw [hqi, Int.toNat_natCast, getD_up] at hset N9
      obtain ⟨ti, tj, cR', cC', vs', hset', N5⟩ : ∃ ti tj cR' cC' vs', IntsAre vs' ((up rows).set i ((rows.getD i 0 : Nat) + 1)) ∧ News g L _ ((Dt, pairObj (.int (i : Nat) ti) (.int (rows.getD i 0 : Nat) tj)) :: (I, oI) :: (R, listOf vs'.toArray cR') :: (L + 1 + 1, oR) :: (L + 1, oB) :: (Cl, listOf (cellRefs cls ++ [Value.ref Dt]).toArray cC') :: cellsLed cls) := ⟨_, _, _, _, _, hset, N9⟩
      have ec : cellRefs (cls ++ [CellO.mk Dt i (rows.getD i 0) ti tj]) = cellRefs cls ++ [Value.ref Dt] := by simp [cellRefs]
      rw [← ec] at N5
      have apN := apt_snoc (l := [(I, oI), (R, listOf vs.toArray cR), (L + 1 + 1, oR), (L + 1, oB), (Cl, listOf (cellRefs cls).toArray cC)]) (l' := [(I, oI), (R, listOf vs'.toArray cR'), (L + 1 + 1, oR), (L + 1, oB), (Cl, listOf (cellRefs (cls ++ [CellO.mk Dt i (rows.getD i 0) ti tj])).toArray cC')]) (cls := cls) (c := CellO.mk Dt i (rows.getD i 0) ti tj) (o := oI) rfl ⟨⟨Nat.ne_of_lt w2, Nat.ne_of_lt w3, Nat.ne_of_lt w4, Nat.ne_of_lt w5, Nat.ne_of_lt w6, w8⟩, ⟨i1, i2, i3, i4, i5⟩, ap⟩
      refine turn_next F9 N5 ((R, listOf vs'.toArray cR') :: (L + 1 + 1, oR) :: (L + 1, oB) :: (Cl, listOf (cellRefs (cls ++ [CellO.mk Dt i (rows.getD i 0) ti tj])).toArray cC') :: cellsLed (cls ++ [CellO.mk Dt i (rows.getD i 0) ti tj]))
        (cell_snoc (l := [(I, oI), (R, listOf vs'.toArray cR'), (L + 1 + 1, oR), (L + 1, oB), (Cl, listOf (cellRefs (cls ++ [CellO.mk Dt i (rows.getD i 0) ti tj])).toArray cC')]) (cls := cls) (c := CellO.mk Dt i (rows.getD i 0) ti tj)) apN.1 ⟨cR', Cl, cC', vs', rows.set i (rows.getD i 0 + 1), _, rfl, up_set hset' rfl, ?_, ?_, ?_, ?_, ?_, apN.2, rfl⟩
      · rw [List.length_set]; exact hl
      · rw [hst, hs]
      · exact set_le hbd f2
      · rw [List.length_append, hcl]; rfl
      · rw [← hc, hnx, pairsOf, List.map_append, List.append_assoc]; rfl
  · rintro h tk m' news' F N ⟨cR, Cl, cC, vs, rows, cls, e2, hv1, hl, hs, hbd, hcl, hc, ap, rfl⟩
    replace F := know (x := Str.ofString "cells") F e2
    rw [List.drop_eq_nil_of_le (Nat.le_of_eq hfv.length.symm), orderP, List.append_nil] at hc
    walk_at "go"
    exact hR _ _ Cl cls cC (ends_of (by k_asm) (news_sub N fun p hp => .tail _ (.tail _ (.tail _ hp))) hg) ap.2.2.2.1 hc
end
section
variable {w : World} {lo : List Str} {mean : ExcName → Option Value} {mg mb : Str → Option Value} {b₀ : Heap} {dp un : Nat} {fr : Option (List Env)} {gd : Option (List Code)} {s : Shared} {R : Result → Shared → Prop}
/-- between the turns of _law_exchanged -/
inductive ExJ (rows : List Nat) (out : List Int) (n t : Nat) (m₁ : Str → Option Value) (news₁ : List (Addr × Obj)) : Prop
  | mk (D c : Nat) (vs : List Value) (th : List Int) (e1 : m₁ (Str.ofString "things") = some (.ref D)) (hv : IntsAre vs th) (hl : th.length = n) (hx : exP (rows.drop t) th = some out) (e : news₁ = [(D, listOf vs.toArray c)])
set_option maxRecDepth 100000 in
set_option maxHeartbeats 8000000 in
theorem exchanged_c {rl n : Nat} {tc : Tok} {rv : List Value} {rows : List Nat} {out : List Int} (G : Gd (Mine.hd.heap_1 w.params) lo mean mg mb b₀) (hb : Over b₀ s.heap) (hf : s.heap.IsList rl rv.toArray) (hrv : IntsAre rv (up rows)) (hn : n ≤ 5) (hln : rows.length ≤ 10) (hx : exP rows (rangeKs 0 ((n : Int) - 0).toNat) = some out)
    (hd : dp + 28 < recursionLimit) (hun : un < 1000)
    (hR : ∀ h' tk' D vs c, Ends s.heap h' [] [(D, listOf vs.toArray c)] → IntsAre vs out → R (.ok (.ret (.ref D))) { s with heap := h', toks := tk' }) :
    codeAny (model P w) (Ar dp fr gd un) (.call (.ref 179) ⟨[.ref rl, .int n tc], []⟩) R s := by
  k_with_none
  k_with "ne" => ((first | with_reducible assumption | exact Ne.symm (by with_reducible assumption) | exact Nat.ne_of_lt (by with_reducible assumption) | exact Nat.ne_of_gt (by with_reducible assumption) | (refine Nat.ne_of_lt ?_; (repeat (first | exact Nat.lt_succ_self _ | with_reducible assumption | refine Nat.lt_succ_of_lt ?_)); done) | (refine Nat.ne_of_gt ?_; (repeat (first | exact Nat.lt_succ_self _ | with_reducible assumption | refine Nat.lt_succ_of_lt ?_)); done) | exact Nat.ne_of_lt (And.left (by with_reducible assumption)) | exact Nat.ne_of_gt (And.left (by with_reducible assumption)) | exact (And.left (by with_reducible assumption)) | exact Ne.symm (And.left (by with_reducible assumption)) | exact Nat.ne_of_lt (And.left (And.right (by with_reducible assumption))) | exact Nat.ne_of_lt (And.right (by with_reducible assumption)) | exact Nat.ne_of_gt (And.left (And.right (by with_reducible assumption))) | exact Nat.ne_of_gt (And.right (by with_reducible assumption)) | exact (And.left (And.right (by with_reducible assumption))) | exact Ne.symm (And.left (And.right (by with_reducible assumption))) | exact (And.right (by with_reducible assumption)) | exact Ne.symm (And.right (by with_reducible assumption)) | exact Nat.ne_of_lt (And.left (And.right (And.right (by with_reducible assumption)))) | exact Nat.ne_of_lt (And.right (And.right (by with_reducible assumption))) | exact Nat.ne_of_gt (And.left (And.right (And.right (by with_reducible assumption)))) | exact Nat.ne_of_gt (And.right (And.right (by with_reducible assumption))) | exact (And.left (And.right (And.right (by with_reducible assumption)))) | exact Ne.symm (And.left (And.right (And.right (by with_reducible assumption)))) | exact (And.right (And.right (by with_reducible assumption))) | exact Ne.symm (And.right (And.right (by with_reducible assumption))) | exact Nat.ne_of_lt (And.left (And.right (And.right (And.right (by with_reducible assumption))))) | exact Nat.ne_of_lt (And.right (And.right (And.right (by with_reducible assumption)))) | exact Nat.ne_of_gt (And.left (And.right (And.right (And.right (by with_reducible assumption))))) | exact Nat.ne_of_gt (And.right (And.right (And.right (by with_reducible assumption)))) | exact (And.left (And.right (And.right (And.right (by with_reducible assumption))))) | exact Ne.symm (And.left (And.right (And.right (And.right (by with_reducible assumption))))) | exact (And.right (And.right (And.right (by with_reducible assumption)))) | exact Ne.symm (And.right (And.right (And.right (by with_reducible assumption)))) | exact Nat.ne_of_lt (And.left (And.right (And.right (And.right (And.right (by with_reducible assumption)))))) | exact Nat.ne_of_lt (And.right (And.right (And.right (And.right (by with_reducible assumption))))) | exact Nat.ne_of_gt (And.left (And.right (And.right (And.right (And.right (by with_reducible assumption)))))) | exact Nat.ne_of_gt (And.right (And.right (And.right (And.right (by with_reducible assumption))))) | exact (And.left (And.right (And.right (And.right (And.right (by with_reducible assumption)))))) | exact Ne.symm (And.left (And.right (And.right (And.right (And.right (by with_reducible assumption)))))) | exact (And.right (And.right (And.right (And.right (by with_reducible assumption))))) | exact Ne.symm (And.right (And.right (And.right (And.right (by with_reducible assumption))))) | exact Nat.ne_of_lt (And.left (And.right (And.right (And.right (And.right (And.right (by with_reducible assumption))))))) | exact Nat.ne_of_lt (And.right (And.right (And.right (And.right (And.right (by with_reducible assumption)))))) | exact Nat.ne_of_gt (And.left (And.right (And.right (And.right (And.right (And.right (by with_reducible assumption))))))) | exact Nat.ne_of_gt (And.right (And.right (And.right (And.right (And.right (by with_reducible assumption)))))) | exact (And.left (And.right (And.right (And.right (And.right (And.right (by with_reducible assumption))))))) | exact Ne.symm (And.left (And.right (And.right (And.right (And.right (And.right (by with_reducible assumption))))))) | exact (And.right (And.right (And.right (And.right (And.right (by with_reducible assumption)))))) | exact Ne.symm (And.right (And.right (And.right (And.right (And.right (by with_reducible assumption)))))) | exact Nat.ne_of_lt (And.left (And.right (And.right (And.right (And.right (And.right (And.right (by with_reducible assumption)))))))) | exact Nat.ne_of_lt (And.right (And.right (And.right (And.right (And.right (And.right (by with_reducible assumption))))))) | exact Nat.ne_of_gt (And.left (And.right (And.right (And.right (And.right (And.right (And.right (by with_reducible assumption)))))))) | exact Nat.ne_of_gt (And.right (And.right (And.right (And.right (And.right (And.right (by with_reducible assumption))))))) | exact (And.left (And.right (And.right (And.right (And.right (And.right (And.right (by with_reducible assumption)))))))) | exact Ne.symm (And.left (And.right (And.right (And.right (And.right (And.right (And.right (by with_reducible assumption)))))))) | exact (And.right (And.right (And.right (And.right (And.right (And.right (by with_reducible assumption))))))) | exact Ne.symm (And.right (And.right (And.right (And.right (And.right (And.right (by with_reducible assumption))))))) | exact Nat.ne_of_lt (And.left (And.right (And.right (And.right (And.right (And.right (And.right (And.right (by with_reducible assumption))))))))) | exact Nat.ne_of_lt (And.right (And.right (And.right (And.right (And.right (And.right (And.right (by with_reducible assumption)))))))) | exact Nat.ne_of_gt (And.left (And.right (And.right (And.right (And.right (And.right (And.right (And.right (by with_reducible assumption))))))))) | exact Nat.ne_of_gt (And.right (And.right (And.right (And.right (And.right (And.right (And.right (by with_reducible assumption)))))))) | exact (And.left (And.right (And.right (And.right (And.right (And.right (And.right (And.right (by with_reducible assumption))))))))) | exact Ne.symm (And.left (And.right (And.right (And.right (And.right (And.right (And.right (And.right (by with_reducible assumption))))))))) | exact (And.right (And.right (And.right (And.right (And.right (And.right (And.right (by with_reducible assumption)))))))) | exact Ne.symm (And.right (And.right (And.right (And.right (And.right (And.right (And.right (by with_reducible assumption)))))))) | exact Nat.ne_of_lt (And.left (And.right (And.right (And.right (And.right (And.right (And.right (And.right (And.right (by with_reducible assumption)))))))))) | exact Nat.ne_of_lt (And.right (And.right (And.right (And.right (And.right (And.right (And.right (And.right (by with_reducible assumption))))))))) | exact Nat.ne_of_gt (And.left (And.right (And.right (And.right (And.right (And.right (And.right (And.right (And.right (by with_reducible assumption)))))))))) | exact Nat.ne_of_gt (And.right (And.right (And.right (And.right (And.right (And.right (And.right (And.right (by with_reducible assumption))))))))) | exact (And.left (And.right (And.right (And.right (And.right (And.right (And.right (And.right (And.right (by with_reducible assumption)))))))))) | exact Ne.symm (And.left (And.right (And.right (And.right (And.right (And.right (And.right (And.right (And.right (by with_reducible assumption)))))))))) | exact (And.right (And.right (And.right (And.right (And.right (And.right (And.right (And.right (by with_reducible assumption))))))))) | exact Ne.symm (And.right (And.right (And.right (And.right (And.right (And.right (And.right (And.right (by with_reducible assumption))))))))) | exact Nat.ne_of_lt (And.left (And.right (And.right (And.right (And.right (And.right (And.right (And.right (And.right (And.right (by with_reducible assumption))))))))))) | exact Nat.ne_of_lt (And.right (And.right (And.right (And.right (And.right (And.right (And.right (And.right (And.right (by with_reducible assumption)))))))))) | exact Nat.ne_of_gt (And.left (And.right (And.right (And.right (And.right (And.right (And.right (And.right (And.right (And.right (by with_reducible assumption))))))))))) | exact Nat.ne_of_gt (And.right (And.right (And.right (And.right (And.right (And.right (And.right (And.right (And.right (by with_reducible assumption)))))))))) | exact (And.left (And.right (And.right (And.right (And.right (And.right (And.right (And.right (And.right (And.right (by with_reducible assumption))))))))))) | exact Ne.symm (And.left (And.right (And.right (And.right (And.right (And.right (And.right (And.right (And.right (And.right (by with_reducible assumption))))))))))) | exact (And.right (And.right (And.right (And.right (And.right (And.right (And.right (And.right (And.right (by with_reducible assumption)))))))))) | exact Ne.symm (And.right (And.right (And.right (And.right (And.right (And.right (And.right (And.right (And.right (by with_reducible assumption)))))))))) | exact Nat.ne_of_lt (And.left (And.right (And.right (And.right (And.right (And.right (And.right (And.right (And.right (And.right (And.right (by with_reducible assumption)))))))))))) | exact Nat.ne_of_lt (And.right (And.right (And.right (And.right (And.right (And.right (And.right (And.right (And.right (And.right (by with_reducible assumption))))))))))) | exact Nat.ne_of_gt (And.left (And.right (And.right (And.right (And.right (And.right (And.right (And.right (And.right (And.right (And.right (by with_reducible assumption)))))))))))) | exact Nat.ne_of_gt (And.right (And.right (And.right (And.right (And.right (And.right (And.right (And.right (And.right (And.right (by with_reducible assumption))))))))))) | exact (And.left (And.right (And.right (And.right (And.right (And.right (And.right (And.right (And.right (And.right (And.right (by with_reducible assumption)))))))))))) | exact Ne.symm (And.left (And.right (And.right (And.right (And.right (And.right (And.right (And.right (And.right (And.right (And.right (by with_reducible assumption)))))))))))) | exact (And.right (And.right (And.right (And.right (And.right (And.right (And.right (And.right (And.right (And.right (by with_reducible assumption))))))))))) | exact Ne.symm (And.right (And.right (And.right (And.right (And.right (And.right (And.right (And.right (And.right (And.right (by with_reducible assumption)))))))))))))
  k_with "exec For Name Attribute cons nil" => (k_dflt (refine for_exec ?_))
  k_with "exec For Name Name cons nil" => (k_dflt (refine for_exec ?_))
  k_with "exec For Name Call cons nil" => (k_dflt (refine for_exec ?_))
  k_with "call type:tuple" => ((k_here; (with_reducible show wpAny _ _ (call (Value.type _) [Value.ref _]) _ _ _); k_dflt (refine' tupleOf_c (by k_asm) (by k_asm) (by k_mem) (by ((have hL9 := IntsAre.length (by assumption)); rw [sizeLine_eq]; omega)) ?_; k_whole); intro _ _ _ _ l19q; (try k_lt l19q); (try k_sweep)))
  k_with "call builtin:len" => ((k_here; (with_reducible show wpAny _ _ (call (Value.builtin "len") [Value.ref _]) _ _ _); k_dflt (refine' len_tupI (by k_asm) (by with_reducible assumption) (by with_reducible assumption) (by omega) ?_; k_whole); intro _ _))
  k_with "execs cons" => ((k_dflt (refine execs_n (s := ‹Shared›) ?_); intro _; (try k_fold)))
  k_with "exec If BoolOp cons nil" => (((fail_if_success (with_reducible show wpAny _ _ _ (Cut _ _) _ _)); refine Hold.out ?_))
  k_with "out" => (repeat (first | (k_unfold; (try dsimp only)) | refine cut_ret ?_ | refine turn_ret ?_))
  k_with "go" => ((w_top off; repeat' (first | (k_unfold; (try dsimp only)) | walk1 | (dsimp only; walk1))))
  k_with "subscriptTail Name Slice ref ref" => ((k_here; k_dflt (first | (refine' cutRun (by k_asm) (by k_asm) (by k_mem) (by kmk_part) (by kmk_part) (by assumption) (by assumption) (by omega) ?_ (by with_unfolding_all rfl) (by kmk_pure)) | (refine' cutTo (by k_asm) (by k_asm) (by k_mem) (by kmk_part) (by kmk_part) (by assumption) (by omega) ?_ (by with_unfolding_all rfl) (by kmk_pure)) | (refine' cutFrom (by k_asm) (by k_asm) (by k_mem) (by kmk_part) (by kmk_part) (by assumption) (by assumption) (by omega) ?_ (by with_unfolding_all rfl) (by kmk_pure)) | (refine' revI (by k_asm) (by k_asm) (by k_mem) (by exact IsPart.int _ _) (by assumption) (by assumption) ?_ (by with_unfolding_all rfl) (by kmk_pure))); intro _ _ _ _ _ l19q _ _; (try k_lt l19q); (try k_sweep)))
  k_with "call builtin:sorted" => ((k_here; k_dflt (refine' sortI (by k_asm) (by k_asm) (by k_mem) (by assumption) (by assumption) ?_; k_whole); intro _ _ _ _ _ _ l19q _; (try k_lt l19q); (try k_sweep)))
  k_with "binaryOp Add ref ref" => ((k_here; k_dflt (refine' addV (by k_asm) (by k_asm) (by k_mem) (by k_mem) (by (simp only [List.length_append]; omega)) ?_; k_whole); intro _ _ _ _ l19q; (try k_lt l19q); (try k_sweep)))
  k_with "compareOp NotEq ref ref" => (refine Hold.out ?_)
  refine enter (binds := [(Str.ofString "rows", .ref rl), (Str.ofString "count", .int n tc)]) [] G hb Led.nil (by k_is) (by k_is) (by show dp < _; exact dlt0 hd) (BindsTo.of_eq rfl) (locs rfl) (by decide) ?_
  intro g L h₁ tk F N X T hg
  have hgf : g.IsList rl rv.toArray := let ⟨o, a, b⟩ := hf; ⟨o, hg _ _ a (by simp), b⟩
  have hrl := hrv.length
  rw [List.length_map] at hrl
  walk_at "go"
  (with_reducible rename Fr _ _ _ _ => F0)
  (with_reducible rename News _ _ _ _ => N0)
  (rename IntsAre _ _ => hI0)
  refine for_list (g := g) (L := L) (J := ExJ rows out n) rfl hgf rfl rfl rfl F0 N0 ?_ ?_ ?_
  · exact ⟨_, _, _, _, rfl, hI0, by rw [rangeKs_length]; omega, hx, rfl⟩
  · clear F0 N0
    rintro t v m₁ news₁ h tk I oI h₀ ht hv ⟨D, c, vs, th, e1, hv1, hl, hx, rfl⟩ hoff F N
    replace F := know (x := Str.ofString "things") F e1
    obtain ⟨tv, rfl, htl⟩ := ints_item hrv hv
    obtain ⟨i, a, b, post, hti, hdr, hab, hx'⟩ := exP_next (t := t) (by omega) hx
    have hdl := congrArg List.length hdr
    simp only [List.length_drop, List.length_cons] at hdl
    rw [getD_up, ← hti] at F
    walk_at "go"
    (rename IntsAre _ _ => I2)
    revert I2
    (rename IntsAre _ _ => I1)
    revert I1
    (rename IntsAre _ _ => I0)
    intro I1 I2
    (with_reducible rename News _ _ _ _ => N1)
    refine Hold.in (neInts N1 (by k_mem) (by k_mem) I0 I2 (by show un + 3 < 9900; omega) ?_)
    replace N1 := news_sub (news' := [(I, oI), (D, listOf vs.toArray c)]) N1 (by kcj_all)
    clear I0 I1 I2
    walk_at "go"
    (with_reducible rename Fr _ _ _ _ => F9)
    (with_reducible rename News _ _ _ _ => N9)
    (rename IntsAre _ _ => I9)
    rw [ex_turn] at I9
    rename_i D9 ws9 _ _ _
    (rename _ < _ ∧ _ => l9)
    obtain ⟨_, _, _, _, _, l6, _⟩ := l9
    refine turn_next F9 N9 [(D9, listOf ws9.toArray 0)] (by kcj_all) ⟨Nat.ne_of_gt l6, trivial⟩ ⟨_, _, _, _, rfl, I9, ?_, hx', rfl⟩
    have := congrArg List.length (List.take_append_drop i th)
    rw [hdr] at this
    rw [← hl, ← this]
    simp only [List.length_append, List.length_cons]
  · rintro h tk m' news' F N ⟨D, c, vs, th, e1, hv1, hl, hx, rfl⟩
    replace F := know (x := Str.ofString "things") F e1
    rw [List.drop_eq_nil_of_le (Nat.le_of_eq hrl.symm), exP] at hx
    obtain rfl := Option.some.inj hx
    walk_at "go"
    exact hR _ _ D vs c (ends_of (by k_asm) N hg) hv1
end
section
variable {w : World} {lo : List Str} {mean : ExcName → Option Value} {mg mb : Str → Option Value} {b₀ : Heap} {dp un : Nat} {fr : Option (List Env)} {gd : Option (List Code)} {s : Shared} {R : Result → Shared → Prop}
/-- between the turns of the outer loop -/
inductive CeJ (ns : List Int) (cN : Nat) (t : Nat) (m₁ : Str → Option Value) (news₁ : List (Addr × Obj)) : Prop
  | mk (R cR Cl cC : Nat) (rows : List RowO) (cls : List CellO) (oN : Obj) (xN : Option Value) (e1 : m₁ (Str.ofString "rows") = some (.ref R)) (e2 : m₁ (Str.ofString "cells") = some (.ref Cl))
      (ok : RowsOk t rows) (hlen : rows.length ≤ t) (hcl : cls.length = t) (hc : pairsOf cls ++ cellsOf2 (ns.drop t) (intsOf rows) = cellsOf2 ns []) (dN : oN.data = .cell xN)
      (ap : Apt ((R, listOf (refsOf rows).toArray cR) :: (cN, oN) :: (Cl, listOf (cellRefs cls).toArray cC) :: (rowsLed rows ++ cellsLed cls)))
      (e : news₁ = (R, listOf (refsOf rows).toArray cR) :: (cN, oN) :: (Cl, listOf (cellRefs cls).toArray cC) :: (rowsLed rows ++ cellsLed cls))
/-- between the turns of the inner loop -/
inductive WhJ (R cR cN Cl : Nat) (E : List (Addr × Obj)) (T : List (List Int) × (Nat × Nat)) (as : List Nat) (t : Nat) (n : Nat) (m₁ : Str → Option Value) (news₁ : List (Addr × Obj)) : Prop
  | mk (i : Nat) (rows : List RowO) (num : Int) (tn ti : Tok) (oN : Obj) (e0 : m₁ (Str.ofString "rows") = some (.ref R)) (e1 : m₁ (Str.ofString "i") = some (.int i ti)) (e2 : m₁ (Str.ofString "cells") = some (.ref Cl)) (dN : oN.data = .cell (some (.int num tn))) (hi : i + n = rows.length)
      (hT : ((intsOf rows).take i ++ (ins2 num ((intsOf rows).drop i) i).1, (ins2 num ((intsOf rows).drop i) i).2) = T) (ha : rows.map (·.a) = as) (ok : RowsOk t rows)
      (e : news₁ = (R, listOf (as.map Value.ref).toArray cR) :: (cN, oN) :: (rowsLed rows ++ E))
/-- where the inner loop ends -/
inductive WhEnd (g : Heap) (L R cR cN Cl : Nat) (E : List (Addr × Obj)) (T : List (List Int) × (Nat × Nat)) (as : List Nat) (t : Nat) (s s' : Shared) : Prop
  | mk (h : Heap) (tk : Nat) (m₁ : Str → Option Value) (i : Nat) (rows : List RowO) (num : Int) (tn ti : Tok) (oN : Obj) (hs : s' = { s with heap := h, toks := tk }) (F : Fr g L h m₁) (N : News g L h ((R, listOf (as.map Value.ref).toArray cR) :: (cN, oN) :: (rowsLed rows ++ E)))
      (e0 : m₁ (Str.ofString "rows") = some (.ref R)) (e1 : m₁ (Str.ofString "i") = some (.int i ti)) (e2 : m₁ (Str.ofString "cells") = some (.ref Cl)) (dN : oN.data = .cell (some (.int num tn))) (hi : i ≤ rows.length)
      (hT : ((intsOf rows).take i ++ (ins2 num ((intsOf rows).drop i) i).1, (ins2 num ((intsOf rows).drop i) i).2) = T) (ha : rows.map (·.a) = as) (ok : RowsOk t rows) (hx : i = rows.length ∨ ∃ r, rows[i]? = some r ∧ ¬ num < r.ns.getLastD 0)
/-- where the test on the least greater number ends -/
inductive StEnd (g : Heap) (L : Nat) (s : Shared) (R cR cN : Nat) (oN : Obj) (as : List Nat) (pre post : List RowO) (ra rc : Nat) (rn : List Int) (num y : Int) (tn : Tok) (E : List (Addr × Obj)) (Cl : Nat) (s' : Shared) : Prop
  | mk (h : Heap) (tk : Nat) (m₁ : Str → Option Value) (us : List Value) (ti ty : Tok) (hs : s' = { s with heap := h, toks := tk }) (F : Fr g L h m₁) (N : News g L h ((R, listOf (as.map Value.ref).toArray cR) :: (cN, oN) :: (ra, listOf us.toArray rc) :: (rowsLed pre ++ (rowsLed post ++ E))))
      (e0 : m₁ (Str.ofString "rows") = some (.ref R)) (e1 : m₁ (Str.ofString "i") = some (.int pre.length ti)) (e2 : m₁ (Str.ofString "cells") = some (.ref Cl)) (e3 : m₁ (Str.ofString "least") = some (.int y ty)) (hv : IntsAre us (stepRow num rn))
set_option maxRecDepth 100000 in
set_option maxHeartbeats 8000000 in
theorem inserted_c {nl : Nat} {fv : List Value} {ns : List Int} (G : Gd (Mine.hd.heap_1 w.params) lo mean mg mb b₀) (hb : Over b₀ s.heap) (hf : s.heap.IsList nl fv.toArray) (hfv : IntsAre fv ns) (hln : ns.length ≤ 100)
    (hd : dp + 28 < recursionLimit)
    (hR : ∀ h' tk' Cl cls c, Ends s.heap h' [] ((Cl, listOf (cellRefs cls).toArray c) :: cellsLed cls) → AllNe Cl (cellsLed cls) → pairsOf cls = cellsOf2 ns [] → R (.ok (.ret (.ref Cl))) { s with heap := h', toks := tk' }) :
    codeAny (model P w) (Ar dp fr gd un) (.call (.ref 184) ⟨[.ref nl], []⟩) R s := by
  k_with_none
  k_with "ne" => ((first | with_reducible assumption | exact Ne.symm (by with_reducible assumption) | exact Nat.ne_of_lt (by with_reducible assumption) | exact Nat.ne_of_gt (by with_reducible assumption) | (refine Nat.ne_of_lt ?_; (repeat (first | exact Nat.lt_succ_self _ | with_reducible assumption | refine Nat.lt_succ_of_lt ?_)); done) | (refine Nat.ne_of_gt ?_; (repeat (first | exact Nat.lt_succ_self _ | with_reducible assumption | refine Nat.lt_succ_of_lt ?_)); done) | exact Nat.ne_of_lt (And.left (by with_reducible assumption)) | exact Nat.ne_of_gt (And.left (by with_reducible assumption)) | exact (And.left (by with_reducible assumption)) | exact Ne.symm (And.left (by with_reducible assumption)) | exact Nat.ne_of_lt (And.left (And.right (by with_reducible assumption))) | exact Nat.ne_of_lt (And.right (by with_reducible assumption)) | exact Nat.ne_of_gt (And.left (And.right (by with_reducible assumption))) | exact Nat.ne_of_gt (And.right (by with_reducible assumption)) | exact (And.left (And.right (by with_reducible assumption))) | exact Ne.symm (And.left (And.right (by with_reducible assumption))) | exact (And.right (by with_reducible assumption)) | exact Ne.symm (And.right (by with_reducible assumption)) | exact Nat.ne_of_lt (And.left (And.right (And.right (by with_reducible assumption)))) | exact Nat.ne_of_lt (And.right (And.right (by with_reducible assumption))) | exact Nat.ne_of_gt (And.left (And.right (And.right (by with_reducible assumption)))) | exact Nat.ne_of_gt (And.right (And.right (by with_reducible assumption))) | exact (And.left (And.right (And.right (by with_reducible assumption)))) | exact Ne.symm (And.left (And.right (And.right (by with_reducible assumption)))) | exact (And.right (And.right (by with_reducible assumption))) | exact Ne.symm (And.right (And.right (by with_reducible assumption))) | exact Nat.ne_of_lt (And.left (And.right (And.right (And.right (by with_reducible assumption))))) | exact Nat.ne_of_lt (And.right (And.right (And.right (by with_reducible assumption)))) | exact Nat.ne_of_gt (And.left (And.right (And.right (And.right (by with_reducible assumption))))) | exact Nat.ne_of_gt (And.right (And.right (And.right (by with_reducible assumption)))) | exact (And.left (And.right (And.right (And.right (by with_reducible assumption))))) | exact Ne.symm (And.left (And.right (And.right (And.right (by with_reducible assumption))))) | exact (And.right (And.right (And.right (by with_reducible assumption)))) | exact Ne.symm (And.right (And.right (And.right (by with_reducible assumption)))) | exact Nat.ne_of_lt (And.left (And.right (And.right (And.right (And.right (by with_reducible assumption)))))) | exact Nat.ne_of_lt (And.right (And.right (And.right (And.right (by with_reducible assumption))))) | exact Nat.ne_of_gt (And.left (And.right (And.right (And.right (And.right (by with_reducible assumption)))))) | exact Nat.ne_of_gt (And.right (And.right (And.right (And.right (by with_reducible assumption))))) | exact (And.left (And.right (And.right (And.right (And.right (by with_reducible assumption)))))) | exact Ne.symm (And.left (And.right (And.right (And.right (And.right (by with_reducible assumption)))))) | exact (And.right (And.right (And.right (And.right (by with_reducible assumption))))) | exact Ne.symm (And.right (And.right (And.right (And.right (by with_reducible assumption))))) | exact Nat.ne_of_lt (And.left (And.right (And.right (And.right (And.right (And.right (by with_reducible assumption))))))) | exact Nat.ne_of_lt (And.right (And.right (And.right (And.right (And.right (by with_reducible assumption)))))) | exact Nat.ne_of_gt (And.left (And.right (And.right (And.right (And.right (And.right (by with_reducible assumption))))))) | exact Nat.ne_of_gt (And.right (And.right (And.right (And.right (And.right (by with_reducible assumption)))))) | exact (And.left (And.right (And.right (And.right (And.right (And.right (by with_reducible assumption))))))) | exact Ne.symm (And.left (And.right (And.right (And.right (And.right (And.right (by with_reducible assumption))))))) | exact (And.right (And.right (And.right (And.right (And.right (by with_reducible assumption)))))) | exact Ne.symm (And.right (And.right (And.right (And.right (And.right (by with_reducible assumption)))))) | exact Nat.ne_of_lt (And.left (And.right (And.right (And.right (And.right (And.right (And.right (by with_reducible assumption)))))))) | exact Nat.ne_of_lt (And.right (And.right (And.right (And.right (And.right (And.right (by with_reducible assumption))))))) | exact Nat.ne_of_gt (And.left (And.right (And.right (And.right (And.right (And.right (And.right (by with_reducible assumption)))))))) | exact Nat.ne_of_gt (And.right (And.right (And.right (And.right (And.right (And.right (by with_reducible assumption))))))) | exact (And.left (And.right (And.right (And.right (And.right (And.right (And.right (by with_reducible assumption)))))))) | exact Ne.symm (And.left (And.right (And.right (And.right (And.right (And.right (And.right (by with_reducible assumption)))))))) | exact (And.right (And.right (And.right (And.right (And.right (And.right (by with_reducible assumption))))))) | exact Ne.symm (And.right (And.right (And.right (And.right (And.right (And.right (by with_reducible assumption))))))) | exact Nat.ne_of_lt (And.left (And.right (And.right (And.right (And.right (And.right (And.right (And.right (by with_reducible assumption))))))))) | exact Nat.ne_of_lt (And.right (And.right (And.right (And.right (And.right (And.right (And.right (by with_reducible assumption)))))))) | exact Nat.ne_of_gt (And.left (And.right (And.right (And.right (And.right (And.right (And.right (And.right (by with_reducible assumption))))))))) | exact Nat.ne_of_gt (And.right (And.right (And.right (And.right (And.right (And.right (And.right (by with_reducible assumption)))))))) | exact (And.left (And.right (And.right (And.right (And.right (And.right (And.right (And.right (by with_reducible assumption))))))))) | exact Ne.symm (And.left (And.right (And.right (And.right (And.right (And.right (And.right (And.right (by with_reducible assumption))))))))) | exact (And.right (And.right (And.right (And.right (And.right (And.right (And.right (by with_reducible assumption)))))))) | exact Ne.symm (And.right (And.right (And.right (And.right (And.right (And.right (And.right (by with_reducible assumption)))))))) | exact Nat.ne_of_lt (And.left (And.right (And.right (And.right (And.right (And.right (And.right (And.right (And.right (by with_reducible assumption)))))))))) | exact Nat.ne_of_lt (And.right (And.right (And.right (And.right (And.right (And.right (And.right (And.right (by with_reducible assumption))))))))) | exact Nat.ne_of_gt (And.left (And.right (And.right (And.right (And.right (And.right (And.right (And.right (And.right (by with_reducible assumption)))))))))) | exact Nat.ne_of_gt (And.right (And.right (And.right (And.right (And.right (And.right (And.right (And.right (by with_reducible assumption))))))))) | exact (And.left (And.right (And.right (And.right (And.right (And.right (And.right (And.right (And.right (by with_reducible assumption)))))))))) | exact Ne.symm (And.left (And.right (And.right (And.right (And.right (And.right (And.right (And.right (And.right (by with_reducible assumption)))))))))) | exact (And.right (And.right (And.right (And.right (And.right (And.right (And.right (And.right (by with_reducible assumption))))))))) | exact Ne.symm (And.right (And.right (And.right (And.right (And.right (And.right (And.right (And.right (by with_reducible assumption))))))))) | exact Nat.ne_of_lt (And.left (And.right (And.right (And.right (And.right (And.right (And.right (And.right (And.right (And.right (by with_reducible assumption))))))))))) | exact Nat.ne_of_lt (And.right (And.right (And.right (And.right (And.right (And.right (And.right (And.right (And.right (by with_reducible assumption)))))))))) | exact Nat.ne_of_gt (And.left (And.right (And.right (And.right (And.right (And.right (And.right (And.right (And.right (And.right (by with_reducible assumption))))))))))) | exact Nat.ne_of_gt (And.right (And.right (And.right (And.right (And.right (And.right (And.right (And.right (And.right (by with_reducible assumption)))))))))) | exact (And.left (And.right (And.right (And.right (And.right (And.right (And.right (And.right (And.right (And.right (by with_reducible assumption))))))))))) | exact Ne.symm (And.left (And.right (And.right (And.right (And.right (And.right (And.right (And.right (And.right (And.right (by with_reducible assumption))))))))))) | exact (And.right (And.right (And.right (And.right (And.right (And.right (And.right (And.right (And.right (by with_reducible assumption)))))))))) | exact Ne.symm (And.right (And.right (And.right (And.right (And.right (And.right (And.right (And.right (And.right (by with_reducible assumption)))))))))) | exact Nat.ne_of_lt (And.left (And.right (And.right (And.right (And.right (And.right (And.right (And.right (And.right (And.right (And.right (by with_reducible assumption)))))))))))) | exact Nat.ne_of_lt (And.right (And.right (And.right (And.right (And.right (And.right (And.right (And.right (And.right (And.right (by with_reducible assumption))))))))))) | exact Nat.ne_of_gt (And.left (And.right (And.right (And.right (And.right (And.right (And.right (And.right (And.right (And.right (And.right (by with_reducible assumption)))))))))))) | exact Nat.ne_of_gt (And.right (And.right (And.right (And.right (And.right (And.right (And.right (And.right (And.right (And.right (by with_reducible assumption))))))))))) | exact (And.left (And.right (And.right (And.right (And.right (And.right (And.right (And.right (And.right (And.right (And.right (by with_reducible assumption)))))))))))) | exact Ne.symm (And.left (And.right (And.right (And.right (And.right (And.right (And.right (And.right (And.right (And.right (And.right (by with_reducible assumption)))))))))))) | exact (And.right (And.right (And.right (And.right (And.right (And.right (And.right (And.right (And.right (And.right (by with_reducible assumption))))))))))) | exact Ne.symm (And.right (And.right (And.right (And.right (And.right (And.right (And.right (And.right (And.right (And.right (by with_reducible assumption)))))))))))))
  k_with "exec For Name Attribute cons nil" => (k_dflt (refine for_exec ?_))
  k_with "exec For Name Name cons nil" => (k_dflt (refine for_exec ?_))
  k_with "exec For Name Call cons nil" => (k_dflt (refine for_exec ?_))
  k_with "call type:tuple" => ((k_here; (with_reducible show wpAny _ _ (call (Value.type _) [Value.ref _]) _ _ _); k_dflt (refine' tupleOf_c (by k_asm) (by k_asm) (by k_mem) (by ((have hL9 := IntsAre.length (by assumption)); rw [sizeLine_eq]; omega)) ?_; k_whole); intro _ _ _ _ l19q; (try k_lt l19q); (try k_sweep)))
  k_with "call builtin:len" => ((k_here; (with_reducible show wpAny _ _ (call (Value.builtin "len") [Value.ref _]) _ _ _); k_dflt (refine' len_tupI (by k_asm) (by with_reducible assumption) (by with_reducible assumption) (by omega) ?_; k_whole); intro _ _))
  k_with "execs cons" => ((k_dflt (refine execs_n (s := ‹Shared›) ?_); intro _; (try k_fold)))
  k_with "exec If BoolOp cons nil" => (((fail_if_success (with_reducible show wpAny _ _ _ (Cut _ _) _ _)); refine Hold.out ?_))
  k_with "out" => (repeat (first | (k_unfold; (try dsimp only)) | refine cut_ret ?_ | refine turn_ret ?_))
  k_with "go" => ((w_top off; repeat' (first | (k_unfold; (try dsimp only)) | walk1 | (dsimp only; walk1))))
  k_with "execs cons" => (contradiction)
  k_with "exec While BoolOp cons nil" => (refine Hold.out ?_)
  k_with "eval ListComp" => ((k_here; refine Hold.out ?_))
  k_with "CompSrcT" => (refine Hold.out ?_)
  k_with "CompEnd" => (refine Hold.out ?_)
  k_with "setItem ref int" => (refine Hold.out ?_)
  k_with "call builtin:list.append" => (refine Hold.out ?_)
  k_with "call builtin:list.index" => ((k_here; k_dflt (refine' indexI (by k_asm) (by k_mem) (by assumption) (by first | assumption | exact (List.mem_filter.mp (by assumption)).1) (by omega) ?_; k_whole); intro _ _))
  k_with "call builtin:len" => ((k_here; k_dflt (refine' lenV (by k_asm) (by k_mem) (by omega) ?_; k_whole); intro _ _))
  k_with "subscriptTail" => ((k_here; k_dflt (first | (refine' itemV (by k_asm) (by k_mem) (by omega) (by omega) (by with_reducible assumption) ?_; k_whole) | (refine' itemLast (by k_asm) (by k_mem) (by assumption) (by assumption) ?_; k_whole; intro _))))
  refine enterC (binds := [(Str.ofString "numbers", .ref nl)]) [] G hb Led.nil (by k_is) (by k_is) (by show dp < _; exact dlt0 hd) (BindsTo.of_eq rfl) rfl (by decide +kernel) ?_
  intro g L h₁ tk cells F N Y X T l1 hg
  have hgf : g.IsList nl fv.toArray := let ⟨o, a, b⟩ := hf; ⟨o, hg _ _ a (by simp), b⟩
  k_cells Y
  rename_i oA dA
  simp only [List.cons_append, List.nil_append] at N
  walk_at "go"
  rename_i R0 h3 lR h2 Cl0 h1' lC h0' F0 N0 tk0
  refine for_list (g := g) (L := L) (news := [(R0, listOf [].toArray 0), (L + 1, oA), (Cl0, listOf [].toArray 0)]) (J := CeJ ns (L + 1)) rfl hgf rfl rfl rfl F0 (news_sub N0 (by kcj_all)) ?_ ?_ ?_
  · exact ⟨R0, 0, Cl0, 0, [], [], oA, _, rfl, rfl, (fun _ q => nomatch q), Nat.le_refl _, rfl, rfl, dA, ⟨⟨by omega, by omega, trivial⟩, ⟨by omega, trivial⟩, trivial, trivial⟩, rfl⟩
  · clear F0 N0
    rintro t v m₁ news₁ h tk I oI h₀ ht hv ⟨R, cR, Cl, cC, rows, cls, oN, xN, e1, e2, ok, hlen, hcl, hc, dN, ap, rfl⟩ hoff F N
    replace F := know (x := Str.ofString "rows") F e1
    replace F := know (x := Str.ofString "cells") F e2
    obtain ⟨tv, rfl, htl⟩ := ints_item hfv hv
    have ap' := ap
    simp only [Apt, AllNe] at ap' hoff
    obtain ⟨⟨a1, a2, a3⟩, ⟨b1, b2⟩, c1, d1⟩ := ap'
    obtain ⟨i1, i2, i3, i4⟩ := hoff
    have a1 := Ne.symm a1
    walk_at "go"
    refine Hold.in ?_
    rename_i h5 o5 d5 tk5 qk5 ek5 h6 F N tk6
    obtain ⟨as, has⟩ : ∃ as, as = rows.map (·.a) := ⟨_, rfl⟩
    have apW : ∀ (rows' : List RowO) (oN' : Obj), rows'.map (·.a) = as → Apt ((R, listOf (as.map Value.ref).toArray cR) :: (L + 1, oN') :: (rowsLed rows' ++ (Cl, listOf (cellRefs cls).toArray cC) :: (I, oI) :: cellsLed cls)) := fun rows' oN' e => apt_while ap ⟨i1, i2, i3, i4⟩ (e.trans has)
    have hasl : as.length ≤ 100 := by rw [has, List.length_map]; omega
    have hast : as.length ≤ t := by rw [has, List.length_map]; exact hlen
    have hL : (as.map Value.ref).length = as.length := List.length_map ..
    refine cut' (WhEnd g L R cR (L + 1) Cl ((Cl, listOf (cellRefs cls).toArray cC) :: (I, oI) :: cellsLed cls) (ins2 (ns.getD t 0) (intsOf rows) 0) as t s) ?_ ?_
    · skip
      refine While_inv (WhJ R cR (L + 1) Cl ((Cl, listOf (cellRefs cls).toArray cC) :: (I, oI) :: cellsLed cls) (ins2 (ns.getD t 0) (intsOf rows) 0) as t) (n₀ := rows.length) (by k_asm) (news_sub (news' := (R, listOf (as.map Value.ref).toArray cR) :: (L + 1, o5) :: (rowsLed rows ++ (Cl, listOf (cellRefs cls).toArray cC) :: (I, oI) :: cellsLed cls)) (by k_asm) ?_) ?_ ?_
      · rw [has, List.map_map]
        simp only [List.mem_cons, List.mem_append]
        rintro p (h | h | h | h | h | h) <;> simp [h]
      · refine ⟨0, rows, _, _, _, _, rfl, rfl, rfl, by assumption, by omega, ?_, has.symm, ok, rfl⟩
        rfl
      · clear F N
        rintro n m₁ news₁ h₁ tk₁ F N ⟨i, rows, num, tn, ti, oN, e0, e1, e2, dN, hi, hT, ha, ok, rfl⟩
        replace F := know (x := Str.ofString "rows") F e0
        replace F := know (x := Str.ofString "i") F e1
        replace F := know (x := Str.ofString "cells") F e2
        have hlr : rows.length = as.length := by rw [← ha, List.length_map]
        cases n with
        | zero =>
          walk_at "go"
          exact cut_next ⟨_, _, _, i, rows, num, tn, ti, oN, rfl, by k_asm, by k_asm, rfl, rfl, rfl, dN, by omega, hT, ha, ok, .inl (by omega)⟩
        | succ n =>
          obtain ⟨pre, r, post, rfl, rfl⟩ := row_at (rows := rows) (i := i) (by omega)
          have ap2 := apt_row (apW _ oN ha)
          replace N := news_sub N (fun p hp => ((((rowsLed_mid pre post r _).cons _).cons _).mem_iff).mpr hp)
          simp only [Apt, AllNe] at ap2
          obtain ⟨⟨u1, u2, u3⟩, ⟨u4, u5⟩, u6, u7⟩ := ap2
          have hx := ref_at ha
          obtain ⟨hri, hrn, hrl⟩ := ok r (by simp)
          have hrv := hri.length
          rw [List.length_append, List.length_cons] at hi hlr
          obtain ⟨ra, us, rc, rn⟩ := r
          simp only [RowO.led] at N hri hrn hrl hrv hx u1 u2 u3 u4 u5 u6
          walk_at "go"
          · refine Hold.in ?_
            k_dflt (refine LCt.ListComp_T (F₀ := by k_asm) (by with_unfolding_all rfl) (by decide) (by rfl) (by decide) (by rfl) ?_)
            walk_at "go"
            refine Hold.in ?_
            k_here
            k_dflt (refine LCt.CompSrcT.ledger (by rfl) (by k_asm) (by k_asm) (by k_mem) (by rw [sizeLine_eq, List.size_toArray]; omega) ?_)
            intro g'
            rw [List.size_toArray, hrv]
            refine compT_inv (FiltJ rn (fun x => decide (num < x)) _) ?_ ?_ ⟨rfl, .nil⟩
            · (try dsimp only)
              rintro k ys _ hk ⟨rfl, hy⟩ v I2 oI2 C oC D2 m₂ h2 tk2 E' hv2 hC hx2 F N off2 ⟨ne1, ne2, ne3⟩
              have off3 := off2
              simp only [LCg.Off3, and_true] at off2
              obtain ⟨tv2, rfl, -⟩ := ints_item hri (by simpa using hv2)
              walk_at "go"
              · exact Hold.in (LCg.CompEnd.intro (by k_asm) (by k_asm) _ (fun _ h => h) off3 (.inr ⟨_, by k_mem, rfl, _, rfl⟩) (FiltJ.yes ⟨rfl, hy⟩ (by omega) (decide_eq_true (by assumption))))
              · exact Hold.in (LCg.CompEnd.intro (by k_asm) (by k_asm) _ (fun _ h => h) off3 (.inr ⟨_, by k_mem, rfl, _, rfl⟩) (FiltJ.no ⟨rfl, hy⟩ (by omega) (decide_eq_false (by assumption))))
            · rintro ys _ ⟨rfl, hy⟩
              rw [← hrv, hrv, List.take_length] at hy
              have hfl : 0 < (rn.filter fun x => decide (num < x)).length := last_filter hrn (by assumption)
              unfold LCg.FinE
              intro D2 h2 tk2 F N o1
              simp only [LCg.Off1, and_true] at o1
              (try dsimp only)
              walk_at "go"
              (rename (_ ∈ List.filter _ _) => hM)
              (rename (∀ a, a ∈ List.filter _ _ → _ ≤ a) => hM2)
              have hy := minL_eq hM hM2
              have hix := List.idxOf_lt_length_iff.mpr (List.mem_filter.mp hM).1
              replace N := drop1 (by k_asm)
              rename_i _ y _ _ _ _ _ _
              refine Hold.in (cut' (StEnd g L s R cR (L + 1) oN as pre post ra rc rn num y tn ((Cl, listOf (cellRefs cls).toArray cC) :: (I, oI) :: cellsLed cls) Cl) ?_ ?_)
              · walk_at "go"
                · refine Hold.in (ksa_set (by k_asm) (by k_asm) (by k_upd) hri (by omega) (by omega) (by omega) ?_)
                  intro h' F N hset _ _
                  (try k_sweep)
                  walk_at "go"
                  exact cut_next ⟨_, _, _, _, _, _, rfl, by k_asm, by k_asm, rfl, rfl, rfl, rfl, step_1 hy (by assumption) hset⟩
                · exact cut_next ⟨_, _, _, _, _, _, rfl, by k_asm, by k_asm, rfl, rfl, rfl, rfl, step_2 hy (by assumption) (by assumption) hri⟩
                · refine Hold.in (ksa_set (by k_asm) (by k_asm) (by k_upd) hri (by omega) (by omega) (by omega) ?_)
                  intro h' F N hset _ _
                  (try k_sweep)
                  walk_at "go"
                  exact cut_next ⟨_, _, _, _, _, _, rfl, by k_asm, by k_asm, rfl, rfl, rfl, rfl, step_3 hy (by assumption) hset⟩
              · clear N
                rintro s' ⟨h, tk, m₁, us', ti', ty, rfl, F, N, e0, e1, e2, e3, hset⟩
                replace F := know (x := Str.ofString "rows") F e0
                replace F := know (x := Str.ofString "i") F e1
                replace F := know (x := Str.ofString "cells") F e2
                replace F := know (x := Str.ofString "least") F e3
                subst hy
                refine Hold.in ?_
                (try k_unfold)
                (try dsimp only)
                walk_at "go"
                (with_reducible rename News _ _ _ _ => N5)
                rename_i oM dM tk7 h8 F8
                refine WhileStep.intro (by k_asm) (news_sub (news' := (R, listOf (as.map Value.ref).toArray cR) :: (L + 1, oM) :: (rowsLed (pre ++ ⟨ra, us', rc, stepRow num rn⟩ :: post) ++ (Cl, listOf (cellRefs cls).toArray cC) :: (I, oI) :: cellsLed cls)) N5 (fun p hp => ((((rowsLed_mid pre post _ _).cons _).cons _).mem_iff).mp hp)) (Nat.lt_succ_self n) ⟨pre.length + 1, pre ++ ⟨ra, us', rc, stepRow num rn⟩ :: post, _, _, _, oM, rfl, rfl, rfl, by assumption, ?_, ins2_turn hT (by assumption) rfl, ?_, rowsOk_set ok hset step_len, rfl⟩
                · rw [List.length_append, List.length_cons]; omega
                · rw [← ha, List.map_append, List.map_append]; rfl
          · exact cut_next ⟨_, _, _, pre.length, pre ++ ⟨ra, us, rc, rn⟩ :: post, num, tn, ti, oN, rfl, by k_asm, news_sub (by k_asm) (fun p hp => ((((rowsLed_mid pre post _ _).cons _).cons _).mem_iff).mp hp), rfl, rfl, rfl, dN, by simp, hT, ha, ok, .inr ⟨_, by rw [List.getElem?_append_right (Nat.le_refl _), Nat.sub_self]; rfl, by assumption⟩⟩
    · rintro s' ⟨h, tk, m₁, i, rows2, num, tn, ti, oN, rfl, F, N, e0, e1, e2, dN, hi, hT, ha, ok, hx⟩
      replace F := know (x := Str.ofString "rows") F e0
      replace F := know (x := Str.ofString "i") F e1
      replace F := know (x := Str.ofString "cells") F e2
      have hlr : rows2.length = as.length := by rw [← ha, List.length_map]
      have ap2 := apt_out (apW _ oN ha)
      replace N := news_sub N (fun p hp => ((((led_out rows2 _ _ _).cons _).cons _).mem_iff).mpr hp)
      have ap3 := ap2
      simp only [Apt, AllNe] at ap3
      obtain ⟨⟨u1, u2, u3, u4⟩, ⟨u5, u6, u7⟩, ⟨u8, u9⟩, v1, v2⟩ := ap3
      have hcl2 : (cellRefs cls).length ≤ 100 := by simp; omega
      refine Hold.in ?_
      by_cases hi2 : i = rows2.length
      · have heq : (i : Int) = ((as.map Value.ref).length : Nat) := by omega
        walk_at "go"
        rename_i D h7 F N lD
        have lD' := lD
        obtain ⟨d1, d2, d3, d4, d5⟩ := lD'
        refine Hold.in (appendV F N (by k_upd) (by omega) ?_)
        clear F N
        intro h8 F N
        have hx2 := ref_new (D := D) (show i = as.length by omega)
        walk_at "go"
        have d6 := AllNe.ofAllLt d5
        refine Hold.in (appendV (vs := []) F N (by k_upd) (by simp) ?_)
        clear F N
        intro h9 F N
        walk_at "go"
        rename_i Dt h10 F N lt
        have apA := apt_new (o := pairObj (.int i ti) (.int (0 : Nat) tn)) (apt_new (o := oN) ap2 lD) lt
        obtain ⟨t1, t2, t3, t4, t5, t6⟩ := lt
        have t7 := AllNe.ofAllLt t6
        refine Hold.in (appendV F N (by k_upd) (by omega) ?_)
        clear F N
        intro h11 F N
        walk_at "go"
        (with_reducible rename News _ _ _ _ => N9)
        obtain ⟨tj, cR', cC', N5⟩ : ∃ tj cR' cC', News g L _ ((Dt, pairObj (.int i ti) (.int (0 : Nat) tj)) :: (D, listOf [.int num tn].toArray 1) :: (R, listOf (as.map Value.ref ++ [Value.ref D]).toArray cR') :: (L + 1, oN) :: (Cl, listOf (cellRefs cls ++ [Value.ref Dt]).toArray cC') :: (I, oI) :: (rowsLed rows2 ++ cellsLed cls)) := ⟨_, _, _, N9⟩
        have er : refsOf (rows2 ++ [⟨D, [.int num tn], 1, [num]⟩]) = as.map Value.ref ++ [Value.ref D] := by simp [refsOf, ← ha]
        have ec : cellRefs (cls ++ [⟨Dt, i, 0, ti, tj⟩]) = cellRefs cls ++ [Value.ref Dt] := by simp [cellRefs]
        have apN : ∀ o1 o2 o3 o4, Apt ((I, o1) :: (R, o2) :: (L + 1, o3) :: (Cl, o4) :: (rowsLed (rows2 ++ [⟨D, [.int num tn], 1, [num]⟩]) ++ cellsLed (cls ++ [⟨Dt, i, 0, ti, tj⟩]))) := fun o1 o2 o3 o4 => apt_grow apA fun a => by
          simp only [List.map_cons, List.map_append, rowsLed_fst, cellsLed_fst, List.map_nil, List.count_cons, List.count_append, List.count_nil]
          omega
        refine turn_next (by k_asm) N5 ((R, listOf (refsOf (rows2 ++ [⟨D, [.int num tn], 1, [num]⟩])).toArray cR') :: (L + 1, oN) :: (Cl, listOf (cellRefs (cls ++ [⟨Dt, i, 0, ti, tj⟩])).toArray cC') :: (rowsLed (rows2 ++ [⟨D, [.int num tn], 1, [num]⟩]) ++ cellsLed (cls ++ [⟨Dt, i, 0, ti, tj⟩]))) ?_ (apN oI _ _ _).1 ⟨R, cR', Cl, cC', rows2 ++ [⟨D, [.int num tn], 1, [num]⟩], cls ++ [⟨Dt, i, 0, ti, tj⟩], oN, _, rfl, rfl, ?_, ?_, ?_, ?_, dN, (apN oI _ _ _).2, rfl⟩
        · rw [er, ec, rowsLed, cellsLed, List.map_append, List.map_append]
          simp only [List.map_cons, List.map_nil, List.mem_cons, List.mem_append, List.not_mem_nil, or_false]
          rintro p (h | h | h | h | (h | h) | (h | h)) <;> simp [h]
        · intro q hq
          rcases List.mem_append.mp hq with hq | hq
          · obtain ⟨q1, q2, q3⟩ := ok q hq
            exact ⟨q1, q2, by omega⟩
          · cases List.mem_singleton.mp hq
            exact ⟨.cons _ _ .nil, by simp, by simp⟩
        · rw [List.length_append]; simp only [List.length_singleton]; omega
        · rw [List.length_append]; simp only [List.length_singleton]; omega
        · have hdr : (intsOf rows2).drop i = [] := List.drop_eq_nil_of_le (by rw [intsOf, List.length_map]; omega)
          have htk : (intsOf rows2).take i = intsOf rows2 := List.take_of_length_le (by rw [intsOf, List.length_map]; omega)
          rw [hdr, htk, ins2] at hT
          have hn := ce2_next hc htl hT.symm (c := ⟨Dt, i, 0, ti, tj⟩) rfl
          rw [← hn]; simp [intsOf]
      · have hne : ¬ (i : Int) = ((as.map Value.ref).length : Nat) := by omega
        obtain ⟨r, hr1, hr2⟩ := hx.resolve_left hi2
        clear hx
        obtain ⟨pre, r', post, rfl, rfl⟩ := row_at (rows := rows2) (i := i) (by omega)
        obtain rfl : r' = r := by rw [row_nth] at hr1; exact Option.some.inj hr1
        have hx2 := ref_at ha
        have ap4 := ap2.perm ((led_mid4 pre post r' _).map _)
        replace N := news_sub N (fun p hp => (led_mid4 pre post r' _).mem_iff.mpr hp)
        simp only [Apt, AllNe] at ap4
        obtain ⟨⟨_, _, _, w1, w2⟩, ⟨_, _, w3, w4⟩, ⟨_, w5, w6⟩, ⟨w7, w8⟩, w9, _⟩ := ap4
        obtain ⟨hri, hrn, hrl⟩ := ok r' (by simp)
        obtain ⟨ra, us, rc, rn⟩ := r'
        simp only [RowO.led] at N hri hrn hrl hr2 hx2 w1 w3 w5 w7 w9
        have hrv := hri.length
        rw [List.length_append, List.length_cons] at hi hlr hi2
        have hz2 : (us ++ [Value.int num tn]).length = rn.length + 1 := by rw [List.length_append, hrv]; rfl
        walk_at "go"
        refine Hold.in (appendV F N (by k_upd) (by omega) ?_)
        clear F N
        intro h8 F N
        walk_at "go"
        rename_i Dt h10 F N lt
        have apB := apt_new (o := oN) (ap2.perm ((led_mid4 pre post ⟨ra, us, rc, rn⟩ _).map _)) lt
        obtain ⟨t1, t2, t3, t4, t5, t6⟩ := lt
        have t7 := AllNe.ofAllLt t6
        refine Hold.in (appendV F N (by k_upd) (by omega) ?_)
        clear F N
        intro h11 F N
        walk_at "go"
        (with_reducible rename News _ _ _ _ => N9)
        rw [show ((us ++ [Value.int num tn]).length : Int) - 1 = (rn.length : Nat) by omega] at N9
        obtain ⟨tj, cC', N5⟩ : ∃ tj cC', News g L _ ((Dt, pairObj (.int pre.length ti) (.int (rn.length : Nat) tj)) :: (R, listOf (as.map Value.ref).toArray cR) :: (L + 1, oN) :: (Cl, listOf (cellRefs cls ++ [Value.ref Dt]).toArray cC') :: (I, oI) :: (ra, listOf (us ++ [Value.int num tn]).toArray (rc + 1)) :: (rowsLed pre ++ (rowsLed post ++ cellsLed cls))) := ⟨_, _, N9⟩
        have er : refsOf (pre ++ ⟨ra, us ++ [Value.int num tn], rc + 1, rn ++ [num]⟩ :: post) = as.map Value.ref := by simp [refsOf, ← ha]; rfl
        have ec : cellRefs (cls ++ [⟨Dt, pre.length, rn.length, ti, tj⟩]) = cellRefs cls ++ [Value.ref Dt] := by simp [cellRefs]
        have apN : ∀ o1 o2 o3 o4, Apt ((I, o1) :: (R, o2) :: (L + 1, o3) :: (Cl, o4) :: (rowsLed (pre ++ ⟨ra, us ++ [Value.int num tn], rc + 1, rn ++ [num]⟩ :: post) ++ cellsLed (cls ++ [⟨Dt, pre.length, rn.length, ti, tj⟩]))) := fun o1 o2 o3 o4 => apt_grow apB fun a => by
          simp only [List.map_cons, List.map_append, rowsLed_fst, cellsLed_fst, List.map_nil, List.count_cons, List.count_append, List.count_nil]
          omega
        refine turn_next (by k_asm) N5 ((R, listOf (refsOf (pre ++ ⟨ra, us ++ [Value.int num tn], rc + 1, rn ++ [num]⟩ :: post)).toArray cR) :: (L + 1, oN) :: (Cl, listOf (cellRefs (cls ++ [⟨Dt, pre.length, rn.length, ti, tj⟩])).toArray cC') :: (rowsLed (pre ++ ⟨ra, us ++ [Value.int num tn], rc + 1, rn ++ [num]⟩ :: post) ++ cellsLed (cls ++ [⟨Dt, pre.length, rn.length, ti, tj⟩]))) ?_ (apN oI _ _ _).1 ⟨R, cR, Cl, cC', pre ++ ⟨ra, us ++ [Value.int num tn], rc + 1, rn ++ [num]⟩ :: post, cls ++ [⟨Dt, pre.length, rn.length, ti, tj⟩], oN, _, rfl, rfl, ?_, ?_, ?_, ?_, dN, (apN oI _ _ _).2, rfl⟩
        · rw [er, ec, rowsLed, cellsLed, List.map_append, List.map_append]
          simp only [List.map_cons, List.map_nil, List.mem_cons, List.mem_append, List.not_mem_nil, or_false]
          rintro p (h | h | h | h | (h | h | h) | (h | h)) <;> simp [h]
        · intro q hq
          rcases List.mem_append.mp hq with hq | hq
          · obtain ⟨q1, q2, q3⟩ := ok q (List.mem_append_left _ hq)
            exact ⟨q1, q2, by omega⟩
          · rcases List.mem_cons.mp hq with rfl | hq
            · exact ⟨hri.append (.cons _ _ .nil), by simp, by simp; omega⟩
            · obtain ⟨q1, q2, q3⟩ := ok q (List.mem_append_right _ (.tail _ hq))
              exact ⟨q1, q2, by omega⟩
        · rw [List.length_append, List.length_cons]; omega
        · rw [List.length_append]; simp only [List.length_singleton]; omega
        · have hT2 := ins2_end (r' := ⟨ra, us ++ [Value.int num tn], rc + 1, rn ++ [num]⟩) hT hr2 rfl
          exact ce2_next hc htl hT2.symm (c := ⟨Dt, pre.length, rn.length, ti, tj⟩) rfl
  · rintro h tk m' news' F N ⟨R, cR, Cl, cC, rows, cls, oN, xN, e1, e2, ok, hlen, hcl, hc, dN, ap, rfl⟩
    replace F := know (x := Str.ofString "cells") F e2
    rw [List.drop_eq_nil_of_le (Nat.le_of_eq hfv.length.symm), cellsOf2, List.append_nil] at hc
    walk_at "go"
    refine hR _ _ Cl cls cC (ends_of (by k_asm) (news_sub (by k_asm) ?_) hg) ap.2.2.1.right hc
    simp only [List.mem_cons, List.mem_append]
    rintro p (h | h) <;> simp [h]
end
section
variable {w : World} {lo : List Str} {mean : ExcName → Option Value} {mg mb : Str → Option Value} {b₀ : Heap} {dp un : Nat} {fr : Option (List Env)} {gd : Option (List Code)} {s : Shared} {R : Result → Shared → Prop}
/-- between the turns of _law_leads -/
inductive LdJ (cls : List CellO) (pl : Bool) (H W RN rest : Int) (lD : Nat) (i : Nat) (m₁ : Str → Option Value) (news₁ : List (Addr × Obj)) : Prop
  | mk (ovs : List Value) (eo : Nat) (tp : Tok) (tH tW tR tr : Tok) (m0 : m₁ (Str.ofString "leads") = some (.ref lD)) (m1 : m₁ (Str.ofString "plain") = some (.bool pl)) (m2 : m₁ (Str.ofString "rest") = some (.int rest tr)) (m3 : m₁ (Str.ofString "run") = some (.int RN tR)) (m4 : m₁ (Str.ofString "wide") = some (.int W tW)) (m5 : m₁ (Str.ofString "high") = some (.int H tH))
      (ho : StrsAre ovs ((cls.take i).map fun c => S (leadP pl H W RN rest c.i c.j))) (e : news₁ = (lD, listOf ovs.toArray eo) :: cellsLed cls)
set_option maxRecDepth 100000 in
set_option maxHeartbeats 8000000 in
theorem leads_c {Cl : Nat} {pl : Bool} {rest : Int} {tr : Tok} {cls : List CellO} (G : Gd (Mine.hd.heap_1 w.params) lo mean mg mb b₀) (hb : Over b₀ s.heap) (hN : Led b₀ s.heap (cellsLed cls)) (hf : s.heap.IsList Cl (cellRefs cls).toArray) (hne : AllNe Cl (cellsLed cls)) (hlc : cls.length ≤ 10) (hl0 : 0 < cls.length) (hij : ∀ c ∈ cls, c.i ≤ 7 ∧ c.j ≤ 7) (hr0 : 0 ≤ rest) (hr1 : rest < 2520)
    (hd : dp + 28 < recursionLimit)
    (hR : ∀ h' tk' lD H W RN ovs eo, H = maxL (cls.map fun c => (c.i : Int)) → W = maxL (cls.map fun c => (c.j : Int)) → RN = (if 0 > H * W - 1 then 0 else H * W - 1) + (rest.fdiv 3).fmod 2 → Ends s.heap h' ((cellsLed cls).map (·.1)) ((lD, listOf ovs.toArray eo) :: cellsLed cls) → StrsAre ovs (cls.map fun c => S (leadP pl H W RN rest c.i c.j)) → R (.ok (.ret (.ref lD))) { s with heap := h', toks := tk' }) :
    codeAny (model P w) (Ar dp fr gd un) (.call (.ref 153) ⟨[.ref Cl, .bool pl, .int rest tr], []⟩) R s := by
  k_with_none
  k_with "ne" => ((first | with_reducible assumption | exact Ne.symm (by with_reducible assumption) | exact Nat.ne_of_lt (by with_reducible assumption) | exact Nat.ne_of_gt (by with_reducible assumption) | (refine Nat.ne_of_lt ?_; (repeat (first | exact Nat.lt_succ_self _ | with_reducible assumption | refine Nat.lt_succ_of_lt ?_)); done) | (refine Nat.ne_of_gt ?_; (repeat (first | exact Nat.lt_succ_self _ | with_reducible assumption | refine Nat.lt_succ_of_lt ?_)); done) | exact Nat.ne_of_lt (And.left (by with_reducible assumption)) | exact Nat.ne_of_gt (And.left (by with_reducible assumption)) | exact (And.left (by with_reducible assumption)) | exact Ne.symm (And.left (by with_reducible assumption)) | exact Nat.ne_of_lt (And.left (And.right (by with_reducible assumption))) | exact Nat.ne_of_lt (And.right (by with_reducible assumption)) | exact Nat.ne_of_gt (And.left (And.right (by with_reducible assumption))) | exact Nat.ne_of_gt (And.right (by with_reducible assumption)) | exact (And.left (And.right (by with_reducible assumption))) | exact Ne.symm (And.left (And.right (by with_reducible assumption))) | exact (And.right (by with_reducible assumption)) | exact Ne.symm (And.right (by with_reducible assumption)) | exact Nat.ne_of_lt (And.left (And.right (And.right (by with_reducible assumption)))) | exact Nat.ne_of_lt (And.right (And.right (by with_reducible assumption))) | exact Nat.ne_of_gt (And.left (And.right (And.right (by with_reducible assumption)))) | exact Nat.ne_of_gt (And.right (And.right (by with_reducible assumption))) | exact (And.left (And.right (And.right (by with_reducible assumption)))) | exact Ne.symm (And.left (And.right (And.right (by with_reducible assumption)))) | exact (And.right (And.right (by with_reducible assumption))) | exact Ne.symm (And.right (And.right (by with_reducible assumption))) | exact Nat.ne_of_lt (And.left (And.right (And.right (And.right (by with_reducible assumption))))) | exact Nat.ne_of_lt (And.right (And.right (And.right (by with_reducible assumption)))) | exact Nat.ne_of_gt (And.left (And.right (And.right (And.right (by with_reducible assumption))))) | exact Nat.ne_of_gt (And.right (And.right (And.right (by with_reducible assumption)))) | exact (And.left (And.right (And.right (And.right (by with_reducible assumption))))) | exact Ne.symm (And.left (And.right (And.right (And.right (by with_reducible assumption))))) | exact (And.right (And.right (And.right (by with_reducible assumption)))) | exact Ne.symm (And.right (And.right (And.right (by with_reducible assumption)))) | exact Nat.ne_of_lt (And.left (And.right (And.right (And.right (And.right (by with_reducible assumption)))))) | exact Nat.ne_of_lt (And.right (And.right (And.right (And.right (by with_reducible assumption))))) | exact Nat.ne_of_gt (And.left (And.right (And.right (And.right (And.right (by with_reducible assumption)))))) | exact Nat.ne_of_gt (And.right (And.right (And.right (And.right (by with_reducible assumption))))) | exact (And.left (And.right (And.right (And.right (And.right (by with_reducible assumption)))))) | exact Ne.symm (And.left (And.right (And.right (And.right (And.right (by with_reducible assumption)))))) | exact (And.right (And.right (And.right (And.right (by with_reducible assumption))))) | exact Ne.symm (And.right (And.right (And.right (And.right (by with_reducible assumption))))) | exact Nat.ne_of_lt (And.left (And.right (And.right (And.right (And.right (And.right (by with_reducible assumption))))))) | exact Nat.ne_of_lt (And.right (And.right (And.right (And.right (And.right (by with_reducible assumption)))))) | exact Nat.ne_of_gt (And.left (And.right (And.right (And.right (And.right (And.right (by with_reducible assumption))))))) | exact Nat.ne_of_gt (And.right (And.right (And.right (And.right (And.right (by with_reducible assumption)))))) | exact (And.left (And.right (And.right (And.right (And.right (And.right (by with_reducible assumption))))))) | exact Ne.symm (And.left (And.right (And.right (And.right (And.right (And.right (by with_reducible assumption))))))) | exact (And.right (And.right (And.right (And.right (And.right (by with_reducible assumption)))))) | exact Ne.symm (And.right (And.right (And.right (And.right (And.right (by with_reducible assumption)))))) | exact Nat.ne_of_lt (And.left (And.right (And.right (And.right (And.right (And.right (And.right (by with_reducible assumption)))))))) | exact Nat.ne_of_lt (And.right (And.right (And.right (And.right (And.right (And.right (by with_reducible assumption))))))) | exact Nat.ne_of_gt (And.left (And.right (And.right (And.right (And.right (And.right (And.right (by with_reducible assumption)))))))) | exact Nat.ne_of_gt (And.right (And.right (And.right (And.right (And.right (And.right (by with_reducible assumption))))))) | exact (And.left (And.right (And.right (And.right (And.right (And.right (And.right (by with_reducible assumption)))))))) | exact Ne.symm (And.left (And.right (And.right (And.right (And.right (And.right (And.right (by with_reducible assumption)))))))) | exact (And.right (And.right (And.right (And.right (And.right (And.right (by with_reducible assumption))))))) | exact Ne.symm (And.right (And.right (And.right (And.right (And.right (And.right (by with_reducible assumption))))))) | exact Nat.ne_of_lt (And.left (And.right (And.right (And.right (And.right (And.right (And.right (And.right (by with_reducible assumption))))))))) | exact Nat.ne_of_lt (And.right (And.right (And.right (And.right (And.right (And.right (And.right (by with_reducible assumption)))))))) | exact Nat.ne_of_gt (And.left (And.right (And.right (And.right (And.right (And.right (And.right (And.right (by with_reducible assumption))))))))) | exact Nat.ne_of_gt (And.right (And.right (And.right (And.right (And.right (And.right (And.right (by with_reducible assumption)))))))) | exact (And.left (And.right (And.right (And.right (And.right (And.right (And.right (And.right (by with_reducible assumption))))))))) | exact Ne.symm (And.left (And.right (And.right (And.right (And.right (And.right (And.right (And.right (by with_reducible assumption))))))))) | exact (And.right (And.right (And.right (And.right (And.right (And.right (And.right (by with_reducible assumption)))))))) | exact Ne.symm (And.right (And.right (And.right (And.right (And.right (And.right (And.right (by with_reducible assumption)))))))) | exact Nat.ne_of_lt (And.left (And.right (And.right (And.right (And.right (And.right (And.right (And.right (And.right (by with_reducible assumption)))))))))) | exact Nat.ne_of_lt (And.right (And.right (And.right (And.right (And.right (And.right (And.right (And.right (by with_reducible assumption))))))))) | exact Nat.ne_of_gt (And.left (And.right (And.right (And.right (And.right (And.right (And.right (And.right (And.right (by with_reducible assumption)))))))))) | exact Nat.ne_of_gt (And.right (And.right (And.right (And.right (And.right (And.right (And.right (And.right (by with_reducible assumption))))))))) | exact (And.left (And.right (And.right (And.right (And.right (And.right (And.right (And.right (And.right (by with_reducible assumption)))))))))) | exact Ne.symm (And.left (And.right (And.right (And.right (And.right (And.right (And.right (And.right (And.right (by with_reducible assumption)))))))))) | exact (And.right (And.right (And.right (And.right (And.right (And.right (And.right (And.right (by with_reducible assumption))))))))) | exact Ne.symm (And.right (And.right (And.right (And.right (And.right (And.right (And.right (And.right (by with_reducible assumption))))))))) | exact Nat.ne_of_lt (And.left (And.right (And.right (And.right (And.right (And.right (And.right (And.right (And.right (And.right (by with_reducible assumption))))))))))) | exact Nat.ne_of_lt (And.right (And.right (And.right (And.right (And.right (And.right (And.right (And.right (And.right (by with_reducible assumption)))))))))) | exact Nat.ne_of_gt (And.left (And.right (And.right (And.right (And.right (And.right (And.right (And.right (And.right (And.right (by with_reducible assumption))))))))))) | exact Nat.ne_of_gt (And.right (And.right (And.right (And.right (And.right (And.right (And.right (And.right (And.right (by with_reducible assumption)))))))))) | exact (And.left (And.right (And.right (And.right (And.right (And.right (And.right (And.right (And.right (And.right (by with_reducible assumption))))))))))) | exact Ne.symm (And.left (And.right (And.right (And.right (And.right (And.right (And.right (And.right (And.right (And.right (by with_reducible assumption))))))))))) | exact (And.right (And.right (And.right (And.right (And.right (And.right (And.right (And.right (And.right (by with_reducible assumption)))))))))) | exact Ne.symm (And.right (And.right (And.right (And.right (And.right (And.right (And.right (And.right (And.right (by with_reducible assumption)))))))))) | exact Nat.ne_of_lt (And.left (And.right (And.right (And.right (And.right (And.right (And.right (And.right (And.right (And.right (And.right (by with_reducible assumption)))))))))))) | exact Nat.ne_of_lt (And.right (And.right (And.right (And.right (And.right (And.right (And.right (And.right (And.right (And.right (by with_reducible assumption))))))))))) | exact Nat.ne_of_gt (And.left (And.right (And.right (And.right (And.right (And.right (And.right (And.right (And.right (And.right (And.right (by with_reducible assumption)))))))))))) | exact Nat.ne_of_gt (And.right (And.right (And.right (And.right (And.right (And.right (And.right (And.right (And.right (And.right (by with_reducible assumption))))))))))) | exact (And.left (And.right (And.right (And.right (And.right (And.right (And.right (And.right (And.right (And.right (And.right (by with_reducible assumption)))))))))))) | exact Ne.symm (And.left (And.right (And.right (And.right (And.right (And.right (And.right (And.right (And.right (And.right (And.right (by with_reducible assumption)))))))))))) | exact (And.right (And.right (And.right (And.right (And.right (And.right (And.right (And.right (And.right (And.right (by with_reducible assumption))))))))))) | exact Ne.symm (And.right (And.right (And.right (And.right (And.right (And.right (And.right (And.right (And.right (And.right (by with_reducible assumption)))))))))))))
  k_with "exec For Name Attribute cons nil" => (k_dflt (refine for_exec ?_))
  k_with "exec For Name Name cons nil" => (k_dflt (refine for_exec ?_))
  k_with "exec For Name Call cons nil" => (k_dflt (refine for_exec ?_))
  k_with "call type:tuple" => ((k_here; (with_reducible show wpAny _ _ (call (Value.type _) [Value.ref _]) _ _ _); k_dflt (refine' tupleOf_c (by k_asm) (by k_asm) (by k_mem) (by ((have hL9 := IntsAre.length (by assumption)); rw [sizeLine_eq]; omega)) ?_; k_whole); intro _ _ _ _ l19q; (try k_lt l19q); (try k_sweep)))
  k_with "call builtin:len" => ((k_here; (with_reducible show wpAny _ _ (call (Value.builtin "len") [Value.ref _]) _ _ _); k_dflt (refine' len_tupI (by k_asm) (by with_reducible assumption) (by with_reducible assumption) (by omega) ?_; k_whole); intro _ _))
  k_with "execs cons" => ((k_dflt (refine execs_n (s := ‹Shared›) ?_); intro _; (try k_fold)))
  k_with "exec If BoolOp cons nil" => (((fail_if_success (with_reducible show wpAny _ _ _ (Cut _ _) _ _)); refine Hold.out ?_))
  k_with "out" => (repeat (first | (k_unfold; (try dsimp only)) | refine cut_ret ?_ | refine turn_ret ?_))
  k_with "go" => ((w_top off; repeat' (first | (k_unfold; (try dsimp only)) | walk1 | (dsimp only; walk1))))
  k_with "exec Assign cons ListComp" => ((k_here; refine Hold.out ?_))
  k_with "eval ListComp" => ((k_here; refine Hold.out ?_))
  k_with "SrcLP" => (refine Hold.out ?_)
  k_with "CompEnd" => (refine Hold.out ?_)
  k_with "exec For Tuple Name cons nil" => (k_dflt (refine for_exec ?_))
  k_with "binaryOp Mult str int" => ((k_here; k_dflt (first | (refine' mulS (c := 9) (by decide +kernel) (by omega) (by omega) ?_; k_whole; intro t9q tk9q) | (refine' mulS (c := 32) (by decide +kernel) (by omega) (by omega) ?_; k_whole; intro t9q tk9q))))
  k_with "binaryOp Add str str" => ((k_here; k_dflt (first | (refine' addS (by (simp only [List.length_append, List.length_replicate, List.length_cons, List.length_nil]; omega)) ?_; k_whole) | (refine' addSr (b := [9]) (by decide +kernel) (by (simp only [List.length_append, List.length_replicate, List.length_cons, List.length_nil]; omega)) ?_; k_whole)); intro _ _))
  k_with "call builtin:str.join" => (refine Hold.out ?_)
  k_with "call builtin:list.append" => (refine Hold.out ?_)
  k_with "binaryOp Mult ref int" => ((k_here; k_dflt (refine' mulV1 (by k_asm) (by k_asm) (by k_mem) (by omega) (by omega) ?_; k_whole); intro _ _ _ _ l19q; (try k_lt l19q); (try k_sweep)))
  k_with "binaryOp Add ref ref" => ((k_here; k_dflt (refine' addV (by k_asm) (by k_asm) (by k_mem) (by k_mem) (by (simp only [List.length_append, List.length_replicate, List.length_cons, List.length_nil, List.length_drop, List.length_take]; omega)) ?_; k_whole); intro _ _ _ _ l19q; (try k_lt l19q); (try k_sweep)))
  k_with "call builtin:len" => ((k_here; k_dflt (refine' lenP (by k_asm) (by k_mem) (by (simp only [List.length_append, List.length_cons]; omega)) (by (simp only [List.length_append, List.length_replicate, List.length_cons, List.length_nil]; omega)) ?_; k_whole); intro _ _ _))
  k_with "subscriptTail Name Slice ref ref" => (refine Hold.out ?_)
  refine enter (binds := [(Str.ofString "cells", .ref Cl), (Str.ofString "plain", .bool pl), (Str.ofString "rest", .int rest tr)]) (cellsLed cls) G hb hN (by k_is) (by k_is) (by show dp < _; exact dlt0 hd) (BindsTo.of_eq rfl) (locs rfl) (by decide) ?_
  intro g L h₁ tk F N X T hg
  have hgl : g.IsList Cl (cellRefs cls).toArray := let ⟨o, a, b⟩ := hf; ⟨o, hg _ _ a (fun q => by obtain ⟨p, hp, e⟩ := List.mem_map.mp q; exact hne.mem p hp e), b⟩
  walk_at "go"
  refine Hold.in ?_
  k_dflt (refine LCp.ListComp_P (F₀ := by k_asm) (by with_unfolding_all rfl) (by decide) (by rfl) (by decide) (by rfl) (by rfl) (by decide) ?_)
  walk_at "go"
  refine Hold.in ?_
  k_here
  k_dflt (refine LCp.SrcLP.base (by rfl) (by k_asm) (by k_asm) (by assumption) (by rw [sizeLine_eq, List.size_toArray, List.length_map]; omega) ?_)
  intro g'
  rw [List.size_toArray, List.length_map]
  refine compP_inv (PairJ cls (fun c => (c.i : Int)) (cellsLed cls)) ?_ ?_ ⟨rfl, .nil⟩
  · (try dsimp only)
    rintro k ys _ hk ⟨rfl, hy⟩ v hv
    obtain ⟨c, hc, rfl, hm⟩ := cell_at (by simpa using hv)
    refine ⟨c.a, _, _, rfl, hm, ?_⟩
    intro I oI C oC D m₂ h tk E' hC hx hx2 F N off ne
    walk_at "go"
    exact Hold.in (LCg.CompEnd.intro (by k_asm) (by k_asm) _ (fun _ h => h) off (.inl (by assumption)) (PairJ.next ⟨rfl, hy⟩ hc))
  · rintro ys _ ⟨rfl, hy⟩
    rw [List.take_length] at hy
    unfold LCg.FinE
    intro D2 h2 tk2 F N o1
    (try dsimp only)
    walk_at "go"
    rename_i _ H tH _ ha1 hb1 h3 F N tk3
    have hH := maxL_eq ha1 hb1
    obtain ⟨hH0, hH7⟩ := max_bd ha1 fun c hc => (hij c hc).1
    clear ha1 hb1 hy
    replace N := news_sub (news' := cellsLed cls) N (fun p hp => .tail _ hp)
    refine Hold.in ?_
    k_dflt (refine LCp.ListComp_P (F₀ := by k_asm) (by with_unfolding_all rfl) (by decide) (by rfl) (by decide) (by rfl) (by rfl) (by decide) ?_)
    walk_at "go"
    refine Hold.in ?_
    k_here
    k_dflt (refine LCp.SrcLP.base (by rfl) (by k_asm) (by k_asm) (by assumption) (by rw [sizeLine_eq, List.size_toArray, List.length_map]; omega) ?_)
    intro g'
    rw [List.size_toArray, List.length_map]
    refine compP_inv (PairJ cls (fun c => (c.j : Int)) (cellsLed cls)) ?_ ?_ ⟨rfl, .nil⟩
    · (try dsimp only)
      rintro k ys _ hk ⟨rfl, hy⟩ v hv
      obtain ⟨c, hc, rfl, hm⟩ := cell_at (by simpa using hv)
      refine ⟨c.a, _, _, rfl, hm, ?_⟩
      intro I oI C oC D m₂ h tk E' hC hx hx2 F N off ne
      walk_at "go"
      exact Hold.in (LCg.CompEnd.intro (by k_asm) (by k_asm) _ (fun _ h => h) off (.inl (by assumption)) (PairJ.next ⟨rfl, hy⟩ hc))
    · rintro ys2 _ ⟨rfl, hy⟩
      rw [List.take_length] at hy
      unfold LCg.FinE
      intro D3 h4 tk4 F N o2
      (try dsimp only)
      walk_at "go"
      rename_i _ W tW _ ha2 hb2 _ _ _ _ _ _ _ lD _ lL _ F N tk5
      have hW := maxL_eq ha2 hb2
      have hlD := AllNe.ofAllLt lL.2
      obtain ⟨hW0, hW7⟩ := max_bd ha2 fun c hc => (hij c hc).2
      clear ha2 hb2 hy
      obtain ⟨RN, hRN⟩ : ∃ RN : Int, RN = (if 0 > H * W - 1 then 0 else H * W - 1) + (rest.fdiv 3).fmod 2 := ⟨_, rfl⟩
      have hRN0 : 0 ≤ RN ∧ RN ≤ 50 := run_bd hH0 hH7 hW0 hW7 hRN
      refine for_pairs (g := g) (L := L) (news := (lD, listOf [].toArray 0) :: cellsLed cls) (J := LdJ cls pl H W RN rest lD) rfl hgl rfl rfl rfl rfl F (news_sub N ?_) ?_ ?_ ?_
      · exact fun p hp => by rcases List.mem_cons.mp hp with h | h <;> simp [h]
      · rw [hRN]
        exact ⟨[], 0, 0, _, _, _, _, rfl, rfl, rfl, rfl, rfl, rfl, .nil, rfl⟩
      · clear F N
        rintro i v m₁ news₁ hi hv ⟨ovs, eo, tp, tH, tW, tR, tr, m0, m1, m2, m3, m4, m5, ho, rfl⟩
        obtain ⟨c, hc, rfl, hm⟩ := cell_at hv
        refine ⟨c.a, _, _, rfl, .tail _ hm, ?_⟩
        intro h tk I oI h₀ hoff F N
        replace F := know (x := Str.ofString "leads") F m0
        replace F := know (x := Str.ofString "plain") F m1
        replace F := know (x := Str.ofString "rest") F m2
        replace F := know (x := Str.ofString "run") F m3
        replace F := know (x := Str.ofString "wide") F m4
        replace F := know (x := Str.ofString "high") F m5
        simp only [AllNe] at hoff
        obtain ⟨hci, hcj⟩ := hij c (List.mem_of_getElem? hc)
        have hx1 : 0 ≤ (if 1 > H then 1 else H) ∧ (if 1 > H then 1 else H) ≤ 7 := by split <;> omega
        have hx2 : 0 ≤ (if 1 > W then 1 else W) ∧ (if 1 > W then 1 else W) ≤ 7 := by split <;> omega
        have hm1 := Int.fmod_nonneg_of_pos rest (b := 3) (by decide)
        have hm2 := Int.fmod_lt_of_pos rest (b := 3) (by decide)
        have hm3 := Int.fmod_nonneg_of_pos (rest.fdiv 6) (b := 2) (by decide)
        have hm4 := Int.fmod_lt_of_pos (rest.fdiv 6) (b := 2) (by decide)
        have hp1 := mul_bd hx1.1 hx1.2 hcj
        have hp2 := mul_bd hx2.1 hx2.2 hci
        have hc0 : 0 ≤ (c.i : Int) ∧ (c.i : Int) ≤ 7 := by omega
        have hc1 : 0 ≤ (c.j : Int) ∧ (c.j : Int) ≤ 7 := by omega
        cases pl with
        | true =>
          skip
          walk_at "go"
          refine Hold.in (appendV (by k_asm) (by k_asm) (by k_upd) (by have := ho.len_eq; rw [List.length_map, List.length_take] at this; omega) ?_)
          intro h7 F N
          (try k_sweep)
          walk_at "go"
          exact turn_next (by k_asm) (by k_asm) ((lD, listOf (ovs ++ [Value.str (S (leadP true H W RN rest c.i c.j)) _]).toArray (eo + 1)) :: cellsLed cls) (fun _ h => h) hoff ⟨_, _, tp, _, _, _, _, rfl, rfl, rfl, rfl, rfl, rfl, strs_snoc ho hc, rfl⟩
        | false =>
          walk_at "go"
          rename_i t8 tk8 hp8 h9 F N tk9
          have ht0 := Int.fmod_nonneg_of_pos (rest + c.i + 2 * c.j) (by assumption)
          have ht1 := Int.fmod_lt_of_pos (rest + c.i + 2 * c.j) (by assumption)
          refine Hold.in (sliceFrom F N (.head _) ht0 (by omega) (by simp only [List.length_append, List.length_replicate, List.length_cons, List.length_nil]; omega) ?_)
          clear F N
          intro D5 h10 F N l5
          k_lt l5
          walk_at "go"
          rename_i h11 F N tk11
          refine Hold.in (sliceUpto F N (.tail _ (.head _)) ht0 (by omega) (by simp only [List.length_append, List.length_replicate, List.length_cons, List.length_nil]; omega) ?_)
          clear F N
          intro D6 h12 F N l6
          k_lt l6
          walk_at "go"
          refine Hold.in (joinX (by k_asm) (.head _) (by decide +kernel) (pieces_are (by decide +kernel) _) (pieces_short (by omega) (by omega) (by rw [List.length_append, List.length_replicate, List.length_singleton]; omega) (by rw [List.length_append, List.length_replicate, List.length_singleton]; omega)) ?_)
          intro t13 tk13 XX hXX hXl
          walk_at "go"
          rename_i t15 tk15 t16 tk16
          refine Hold.in (appendV (by k_asm) (by k_asm) (by k_upd) (by have := ho.len_eq; rw [List.length_map, List.length_take] at this; omega) ?_)
          intro h14 F N
          (try k_sweep)
          walk_at "go"
          have hX2 : XX ++ List.replicate ((rest.fdiv 6).fmod 2).toNat 32 = leadP false H W RN rest c.i c.j := by
            rw [hXX]
            exact (leadP_false (by simp only [List.length_append, List.length_replicate, List.length_singleton, Int.toNat_natCast])).symm
          rw [hX2] at N
          refine turn_next F N ((lD, listOf (ovs ++ [Value.str (S (leadP false H W RN rest c.i c.j)) t16]).toArray (eo + 1)) :: cellsLed cls) ?_ hoff ⟨_, _, tp, _, _, _, _, rfl, rfl, rfl, rfl, rfl, rfl, strs_snoc ho hc, rfl⟩
          intro p hp
          rcases List.mem_cons.mp hp with h | hp
          · simp [h]
          · rcases List.mem_cons.mp hp with h | h <;> simp [h]
      · rintro h tk m' news' F N ⟨ovs, eo, tp, tH, tW, tR, tr, m0, m1, m2, m3, m4, m5, ho, rfl⟩
        replace F := know (x := Str.ofString "leads") F m0
        rw [List.take_of_length_le (by simp)] at ho
        walk_at "go"
        exact hR _ _ lD H W RN ovs eo hH hW hRN (ends_of (by k_asm) (by k_asm) hg) ho
end
section
variable {w : World} {lo : List Str} {mean : ExcName → Option Value} {mg mb : Str → Option Value} {b₀ : Heap} {dp un : Nat} {fr : Option (List Env)} {gd : Option (List Code)} {s : Shared} {R : Result → Shared → Prop}
inductive WrJ (wl fl : Nat) (fs : List Int) (ws : List (List Nat)) (i : Nat) (m₁ : Str → Option Value) (news₁ : List (Addr × Obj)) : Prop
  | mk (X : List Nat) (tt : Tok) (m0 : m₁ (Str.ofString "words") = some (.ref wl)) (m1 : m₁ (Str.ofString "figures") = some (.ref fl)) (m2 : m₁ (Str.ofString "text") = some (.str (S X) tt)) (hX : X = writtenP fs ws i) (hz : X.length ≤ 3000 * i) (e : news₁ = [])
set_option maxRecDepth 100000 in
set_option maxHeartbeats 8000000 in
theorem written_c {wl fl : Nat} {vs fv : List Value} {ws : List (List Nat)} {fs : List Int} (G : Gd (Mine.hd.heap_1 w.params) lo mean mg mb b₀) (hb : Over b₀ s.heap) (hl : s.heap.IsList wl vs.toArray) (hv : StrsAre vs (ws.map S)) (hf : s.heap.IsList fl fv.toArray) (hfv : IntsAre fv fs) (hn : ws.length ≤ fs.length) (hln : fs.length ≤ 100) (hws : ∀ x ∈ ws, x.length ≤ 1200) (hf0 : ∀ f ∈ fs, 0 ≤ f)
    (hd : dp + 28 < recursionLimit)
    (hR : ∀ h' tk' tt, Ends s.heap h' [] [] → R (.ok (.ret (.str (S (writtenP fs ws ws.length)) tt))) { s with heap := h', toks := tk' }) :
    codeAny (model P w) (Ar dp fr gd un) (.call (.ref 158) ⟨[.ref wl, .ref fl], []⟩) R s := by
  k_with_none
  k_with "ne" => ((first | with_reducible assumption | exact Ne.symm (by with_reducible assumption) | exact Nat.ne_of_lt (by with_reducible assumption) | exact Nat.ne_of_gt (by with_reducible assumption) | (refine Nat.ne_of_lt ?_; (repeat (first | exact Nat.lt_succ_self _ | with_reducible assumption | refine Nat.lt_succ_of_lt ?_)); done) | (refine Nat.ne_of_gt ?_; (repeat (first | exact Nat.lt_succ_self _ | with_reducible assumption | refine Nat.lt_succ_of_lt ?_)); done) | exact Nat.ne_of_lt (And.left (by with_reducible assumption)) | exact Nat.ne_of_gt (And.left (by with_reducible assumption)) | exact (And.left (by with_reducible assumption)) | exact Ne.symm (And.left (by with_reducible assumption)) | exact Nat.ne_of_lt (And.left (And.right (by with_reducible assumption))) | exact Nat.ne_of_lt (And.right (by with_reducible assumption)) | exact Nat.ne_of_gt (And.left (And.right (by with_reducible assumption))) | exact Nat.ne_of_gt (And.right (by with_reducible assumption)) | exact (And.left (And.right (by with_reducible assumption))) | exact Ne.symm (And.left (And.right (by with_reducible assumption))) | exact (And.right (by with_reducible assumption)) | exact Ne.symm (And.right (by with_reducible assumption)) | exact Nat.ne_of_lt (And.left (And.right (And.right (by with_reducible assumption)))) | exact Nat.ne_of_lt (And.right (And.right (by with_reducible assumption))) | exact Nat.ne_of_gt (And.left (And.right (And.right (by with_reducible assumption)))) | exact Nat.ne_of_gt (And.right (And.right (by with_reducible assumption))) | exact (And.left (And.right (And.right (by with_reducible assumption)))) | exact Ne.symm (And.left (And.right (And.right (by with_reducible assumption)))) | exact (And.right (And.right (by with_reducible assumption))) | exact Ne.symm (And.right (And.right (by with_reducible assumption))) | exact Nat.ne_of_lt (And.left (And.right (And.right (And.right (by with_reducible assumption))))) | exact Nat.ne_of_lt (And.right (And.right (And.right (by with_reducible assumption)))) | exact Nat.ne_of_gt (And.left (And.right (And.right (And.right (by with_reducible assumption))))) | exact Nat.ne_of_gt (And.right (And.right (And.right (by with_reducible assumption)))) | exact (And.left (And.right (And.right (And.right (by with_reducible assumption))))) | exact Ne.symm (And.left (And.right (And.right (And.right (by with_reducible assumption))))) | exact (And.right (And.right (And.right (by with_reducible assumption)))) | exact Ne.symm (And.right (And.right (And.right (by with_reducible assumption)))) | exact Nat.ne_of_lt (And.left (And.right (And.right (And.right (And.right (by with_reducible assumption)))))) | exact Nat.ne_of_lt (And.right (And.right (And.right (And.right (by with_reducible assumption))))) | exact Nat.ne_of_gt (And.left (And.right (And.right (And.right (And.right (by with_reducible assumption)))))) | exact Nat.ne_of_gt (And.right (And.right (And.right (And.right (by with_reducible assumption))))) | exact (And.left (And.right (And.right (And.right (And.right (by with_reducible assumption)))))) | exact Ne.symm (And.left (And.right (And.right (And.right (And.right (by with_reducible assumption)))))) | exact (And.right (And.right (And.right (And.right (by with_reducible assumption))))) | exact Ne.symm (And.right (And.right (And.right (And.right (by with_reducible assumption))))) | exact Nat.ne_of_lt (And.left (And.right (And.right (And.right (And.right (And.right (by with_reducible assumption))))))) | exact Nat.ne_of_lt (And.right (And.right (And.right (And.right (And.right (by with_reducible assumption)))))) | exact Nat.ne_of_gt (And.left (And.right (And.right (And.right (And.right (And.right (by with_reducible assumption))))))) | exact Nat.ne_of_gt (And.right (And.right (And.right (And.right (And.right (by with_reducible assumption)))))) | exact (And.left (And.right (And.right (And.right (And.right (And.right (by with_reducible assumption))))))) | exact Ne.symm (And.left (And.right (And.right (And.right (And.right (And.right (by with_reducible assumption))))))) | exact (And.right (And.right (And.right (And.right (And.right (by with_reducible assumption)))))) | exact Ne.symm (And.right (And.right (And.right (And.right (And.right (by with_reducible assumption)))))) | exact Nat.ne_of_lt (And.left (And.right (And.right (And.right (And.right (And.right (And.right (by with_reducible assumption)))))))) | exact Nat.ne_of_lt (And.right (And.right (And.right (And.right (And.right (And.right (by with_reducible assumption))))))) | exact Nat.ne_of_gt (And.left (And.right (And.right (And.right (And.right (And.right (And.right (by with_reducible assumption)))))))) | exact Nat.ne_of_gt (And.right (And.right (And.right (And.right (And.right (And.right (by with_reducible assumption))))))) | exact (And.left (And.right (And.right (And.right (And.right (And.right (And.right (by with_reducible assumption)))))))) | exact Ne.symm (And.left (And.right (And.right (And.right (And.right (And.right (And.right (by with_reducible assumption)))))))) | exact (And.right (And.right (And.right (And.right (And.right (And.right (by with_reducible assumption))))))) | exact Ne.symm (And.right (And.right (And.right (And.right (And.right (And.right (by with_reducible assumption))))))) | exact Nat.ne_of_lt (And.left (And.right (And.right (And.right (And.right (And.right (And.right (And.right (by with_reducible assumption))))))))) | exact Nat.ne_of_lt (And.right (And.right (And.right (And.right (And.right (And.right (And.right (by with_reducible assumption)))))))) | exact Nat.ne_of_gt (And.left (And.right (And.right (And.right (And.right (And.right (And.right (And.right (by with_reducible assumption))))))))) | exact Nat.ne_of_gt (And.right (And.right (And.right (And.right (And.right (And.right (And.right (by with_reducible assumption)))))))) | exact (And.left (And.right (And.right (And.right (And.right (And.right (And.right (And.right (by with_reducible assumption))))))))) | exact Ne.symm (And.left (And.right (And.right (And.right (And.right (And.right (And.right (And.right (by with_reducible assumption))))))))) | exact (And.right (And.right (And.right (And.right (And.right (And.right (And.right (by with_reducible assumption)))))))) | exact Ne.symm (And.right (And.right (And.right (And.right (And.right (And.right (And.right (by with_reducible assumption)))))))) | exact Nat.ne_of_lt (And.left (And.right (And.right (And.right (And.right (And.right (And.right (And.right (And.right (by with_reducible assumption)))))))))) | exact Nat.ne_of_lt (And.right (And.right (And.right (And.right (And.right (And.right (And.right (And.right (by with_reducible assumption))))))))) | exact Nat.ne_of_gt (And.left (And.right (And.right (And.right (And.right (And.right (And.right (And.right (And.right (by with_reducible assumption)))))))))) | exact Nat.ne_of_gt (And.right (And.right (And.right (And.right (And.right (And.right (And.right (And.right (by with_reducible assumption))))))))) | exact (And.left (And.right (And.right (And.right (And.right (And.right (And.right (And.right (And.right (by with_reducible assumption)))))))))) | exact Ne.symm (And.left (And.right (And.right (And.right (And.right (And.right (And.right (And.right (And.right (by with_reducible assumption)))))))))) | exact (And.right (And.right (And.right (And.right (And.right (And.right (And.right (And.right (by with_reducible assumption))))))))) | exact Ne.symm (And.right (And.right (And.right (And.right (And.right (And.right (And.right (And.right (by with_reducible assumption))))))))) | exact Nat.ne_of_lt (And.left (And.right (And.right (And.right (And.right (And.right (And.right (And.right (And.right (And.right (by with_reducible assumption))))))))))) | exact Nat.ne_of_lt (And.right (And.right (And.right (And.right (And.right (And.right (And.right (And.right (And.right (by with_reducible assumption)))))))))) | exact Nat.ne_of_gt (And.left (And.right (And.right (And.right (And.right (And.right (And.right (And.right (And.right (And.right (by with_reducible assumption))))))))))) | exact Nat.ne_of_gt (And.right (And.right (And.right (And.right (And.right (And.right (And.right (And.right (And.right (by with_reducible assumption)))))))))) | exact (And.left (And.right (And.right (And.right (And.right (And.right (And.right (And.right (And.right (And.right (by with_reducible assumption))))))))))) | exact Ne.symm (And.left (And.right (And.right (And.right (And.right (And.right (And.right (And.right (And.right (And.right (by with_reducible assumption))))))))))) | exact (And.right (And.right (And.right (And.right (And.right (And.right (And.right (And.right (And.right (by with_reducible assumption)))))))))) | exact Ne.symm (And.right (And.right (And.right (And.right (And.right (And.right (And.right (And.right (And.right (by with_reducible assumption)))))))))) | exact Nat.ne_of_lt (And.left (And.right (And.right (And.right (And.right (And.right (And.right (And.right (And.right (And.right (And.right (by with_reducible assumption)))))))))))) | exact Nat.ne_of_lt (And.right (And.right (And.right (And.right (And.right (And.right (And.right (And.right (And.right (And.right (by with_reducible assumption))))))))))) | exact Nat.ne_of_gt (And.left (And.right (And.right (And.right (And.right (And.right (And.right (And.right (And.right (And.right (And.right (by with_reducible assumption)))))))))))) | exact Nat.ne_of_gt (And.right (And.right (And.right (And.right (And.right (And.right (And.right (And.right (And.right (And.right (by with_reducible assumption))))))))))) | exact (And.left (And.right (And.right (And.right (And.right (And.right (And.right (And.right (And.right (And.right (And.right (by with_reducible assumption)))))))))))) | exact Ne.symm (And.left (And.right (And.right (And.right (And.right (And.right (And.right (And.right (And.right (And.right (And.right (by with_reducible assumption)))))))))))) | exact (And.right (And.right (And.right (And.right (And.right (And.right (And.right (And.right (And.right (And.right (by with_reducible assumption))))))))))) | exact Ne.symm (And.right (And.right (And.right (And.right (And.right (And.right (And.right (And.right (And.right (And.right (by with_reducible assumption)))))))))))))
  k_with "exec For Name Attribute cons nil" => (k_dflt (refine for_exec ?_))
  k_with "exec For Name Name cons nil" => (k_dflt (refine for_exec ?_))
  k_with "exec For Name Call cons nil" => (k_dflt (refine for_exec ?_))
  k_with "call type:tuple" => ((k_here; (with_reducible show wpAny _ _ (call (Value.type _) [Value.ref _]) _ _ _); k_dflt (refine' tupleOf_c (by k_asm) (by k_asm) (by k_mem) (by ((have hL9 := IntsAre.length (by assumption)); rw [sizeLine_eq]; omega)) ?_; k_whole); intro _ _ _ _ l19q; (try k_lt l19q); (try k_sweep)))
  k_with "call builtin:len" => ((k_here; (with_reducible show wpAny _ _ (call (Value.builtin "len") [Value.ref _]) _ _ _); k_dflt (refine' len_tupI (by k_asm) (by with_reducible assumption) (by with_reducible assumption) (by omega) ?_; k_whole); intro _ _))
  k_with "execs cons" => ((k_dflt (refine execs_n (s := ‹Shared›) ?_); intro _; (try k_fold)))
  k_with "exec If BoolOp cons nil" => (((fail_if_success (with_reducible show wpAny _ _ _ (Cut _ _) _ _)); refine Hold.out ?_))
  k_with "out" => (repeat (first | (k_unfold; (try dsimp only)) | refine cut_ret ?_ | refine turn_ret ?_))
  k_with "go" => ((w_top off; repeat' (first | (k_unfold; (try dsimp only)) | walk1 | (dsimp only; walk1))))
  k_with "binaryOp Add str str" => ((k_here; k_dflt (refine' addG (by first | with_reducible exact lit0 | with_reducible exact lit34 | with_reducible exact lit92 | exact rfl) (by first | with_reducible exact lit0 | with_reducible exact lit34 | with_reducible exact lit32 | with_reducible exact lit10 | with_reducible exact lit910 | exact rfl) (by (simp only [List.length_append, List.length_replicate, List.length_cons, List.length_nil]; omega)) ?_; k_whole); intro _ _))
  k_with "inplaceOp Add str str" => ((k_here; k_dflt (refine' iaddG (by exact rfl) (by exact rfl) (by (simp only [List.length_append, List.length_replicate, List.length_cons, List.length_nil]; omega)) ?_; k_whole); intro _ _))
  k_with "subscriptTail Name Name ref int" => ((k_here; k_dflt (refine' itemG (by k_asm) (by assumption) (by omega) (by omega) (by assumption) ?_; k_whole)))
  k_with "eval ListComp" => ((k_here; refine Hold.out ?_))
  k_with "CompEnd" => (refine Hold.out ?_)
  k_with "call builtin:str.join" => (refine Hold.out ?_)
  k_with "Turn" => (refine Hold.out ?_)
  k_with "call builtin:len" => ((k_here; k_dflt (refine' lenG (by k_asm) (by assumption) (by omega) ?_; k_whole); intro _ _))
  refine enter (binds := [(Str.ofString "words", .ref wl), (Str.ofString "figures", .ref fl)]) [] G hb Led.nil (by k_is) (by k_is) (by show dp < _; exact dlt0 hd) (BindsTo.of_eq rfl) (locs rfl) (by decide) ?_
  intro g L h₁ tk F N X T hg
  have hgl : g.IsList wl vs.toArray := let ⟨o, a, b⟩ := hl; ⟨o, hg _ _ a (by simp), b⟩
  have hgf : g.IsList fl fv.toArray := let ⟨o, a, b⟩ := hf; ⟨o, hg _ _ a (by simp), b⟩
  have hvl := hv.len_eq
  have hfl := hfv.length
  rw [List.length_map] at hvl
  have hv' := hv
  walk_at "go"
  refine for_up (g := g) (L := L) (news := []) (J := WrJ wl fl fs ws) rfl (by assumption) (by omega) rfl rfl rfl (by k_asm) News.nil ?_ ?_ ?_
  · exact ⟨[], _, rfl, rfl, by rw [← lit0]; rfl, rfl, Nat.zero_le _, rfl⟩
  · rintro i tc m₁ news₁ h tk I oI h₀ hi ⟨X1, tt, m0, m1, m2, hX, hz, rfl⟩ hoff F N
    replace F := know (x := Str.ofString "words") F m0
    replace F := know (x := Str.ofString "figures") F m1
    replace F := know (x := Str.ofString "text") F m2
    have hil : i < ws.length := by omega
    obtain ⟨tw, hw1⟩ := words_at hv hil
    have hw2 : vs[(0 + (i : Int)).toNat]? = some (.str (S (ws.getD i [])) tw) := by rw [show (0 + (i : Int)).toNat = i by omega]; exact hw1
    have hwl : (ws.getD i []).length ≤ 1200 := by rw [List.getD, List.getElem?_eq_getElem hil]; exact hws _ (List.getElem_mem hil)
    walk_at "go"
    · refine Hold.in ?_
      k_dflt (refine ListComp_SF (by k_asm) (by with_unfolding_all rfl) (by decide) (by rfl) (by decide) (by rfl) (by rfl) ?_)
      walk_at "go"
      refine Hold.in ⟨_, _, _, rfl, by k_asm, by k_asm, by rw [sizeLine_eq, show (S (ws.getD i [])).cps.size = (ws.getD i []).length by simp]; omega, ?_⟩
      intro g'
      rw [show (S (ws.getD i [])).cps.size = (ws.getD i []).length by simp]
      refine comp_inv (EscJ (ws.getD i []) _) ?_ ?_ ⟨rfl, .nil⟩
      · (try dsimp only)
        rintro k ys _ hk ⟨rfl, hy⟩ v I2 oI2 C oC D2 m₂ h2 tk2 E' ⟨cc, tv2, hv2, rfl⟩ hC hx2 F N off2 ⟨ne1, ne2, ne3⟩
        walk_at "go"
        exact Hold.in (LCg.CompEnd.intro (by k_asm) (by k_asm) _ (fun _ h => h) off2 trivial (EscJ.next ⟨rfl, hy⟩ hv2))
      · rintro ys _ ⟨rfl, hy⟩
        rw [List.take_length] at hy
        unfold LCg.FinE
        intro D3 h3 tk3 F N o1
        (try dsimp only)
        walk_at "go"
        refine Hold.in (joinY (by k_asm) (.head _) lit0 hy (by rw [esc_len]; omega) ?_)
        intro t4 tk4 B hB hBl
        walk_at "go"
        · exact turn_next (by k_asm) (by k_asm) [] (fun p hp => by cases List.mem_singleton.mp hp; simp) trivial ⟨_, _, rfl, rfl, rfl, (wr1 hX hz hwl hB (by assumption) (by assumption) (by rfl)).1, (wr1 hX hz hwl hB (by assumption) (by assumption) (by rfl)).2, rfl⟩
        · exact turn_next (by k_asm) (by k_asm) [] (fun p hp => by cases List.mem_singleton.mp hp; simp) trivial ⟨_, _, rfl, rfl, rfl, (wr1 hX hz hwl hB (by assumption) (by assumption) (by rfl)).1, (wr1 hX hz hwl hB (by assumption) (by assumption) (by rfl)).2, rfl⟩
        · exact turn_next (by k_asm) (by k_asm) [] (fun p hp => by cases List.mem_singleton.mp hp; simp) trivial ⟨_, _, rfl, rfl, rfl, (wr1 hX hz hwl hB (by assumption) (by assumption) (by rfl)).1, (wr1 hX hz hwl hB (by assumption) (by assumption) (by rfl)).2, rfl⟩
    · exact turn_next (by k_asm) (by k_asm) [] (fun p hp => by cases List.mem_singleton.mp hp; simp) trivial ⟨_, _, rfl, rfl, rfl, (wr0 hX hz hwl (by assumption) (by assumption) (by rfl)).1, (wr0 hX hz hwl (by assumption) (by assumption) (by rfl)).2, rfl⟩
    · exact turn_next (by k_asm) (by k_asm) [] (fun p hp => by cases List.mem_singleton.mp hp; simp) trivial ⟨_, _, rfl, rfl, rfl, (wr0 hX hz hwl (by assumption) (by assumption) (by rfl)).1, (wr0 hX hz hwl (by assumption) (by assumption) (by rfl)).2, rfl⟩
    · exact turn_next (by k_asm) (by k_asm) [] (fun p hp => by cases List.mem_singleton.mp hp; simp) trivial ⟨_, _, rfl, rfl, rfl, (wr0 hX hz hwl (by assumption) (by assumption) (by rfl)).1, (wr0 hX hz hwl (by assumption) (by assumption) (by rfl)).2, rfl⟩
    · refine Hold.in ?_
      k_dflt (refine ListComp_SF (by k_asm) (by with_unfolding_all rfl) (by decide) (by rfl) (by decide) (by rfl) (by rfl) ?_)
      walk_at "go"
      refine Hold.in ⟨_, _, _, rfl, by k_asm, by k_asm, by rw [sizeLine_eq, show (S (ws.getD i [])).cps.size = (ws.getD i []).length by simp]; omega, ?_⟩
      intro g'
      rw [show (S (ws.getD i [])).cps.size = (ws.getD i []).length by simp]
      refine comp_inv (EscJ (ws.getD i []) _) ?_ ?_ ⟨rfl, .nil⟩
      · (try dsimp only)
        rintro k ys _ hk ⟨rfl, hy⟩ v I2 oI2 C oC D2 m₂ h2 tk2 E' ⟨cc, tv2, hv2, rfl⟩ hC hx2 F N off2 ⟨ne1, ne2, ne3⟩
        walk_at "go"
        exact Hold.in (LCg.CompEnd.intro (by k_asm) (by k_asm) _ (fun _ h => h) off2 trivial (EscJ.next ⟨rfl, hy⟩ hv2))
      · rintro ys _ ⟨rfl, hy⟩
        rw [List.take_length] at hy
        unfold LCg.FinE
        intro D3 h3 tk3 F N o1
        (try dsimp only)
        walk_at "go"
        refine Hold.in (joinY (by k_asm) (.head _) lit0 hy (by rw [esc_len]; omega) ?_)
        intro t4 tk4 B hB hBl
        walk_at "go"
        · exact turn_next (by k_asm) (by k_asm) [] (fun p hp => by cases List.mem_singleton.mp hp; simp) trivial ⟨_, _, rfl, rfl, rfl, (wr2 hX hz hwl hB (by assumption) (by assumption) (by assumption) (by rfl)).1, (wr2 hX hz hwl hB (by assumption) (by assumption) (by assumption) (by rfl)).2, rfl⟩
        · exact turn_next (by k_asm) (by k_asm) [] (fun p hp => by cases List.mem_singleton.mp hp; simp) trivial ⟨_, _, rfl, rfl, rfl, (wr2 hX hz hwl hB (by assumption) (by assumption) (by assumption) (by rfl)).1, (wr2 hX hz hwl hB (by assumption) (by assumption) (by assumption) (by rfl)).2, rfl⟩
        · exact turn_next (by k_asm) (by k_asm) [] (fun p hp => by cases List.mem_singleton.mp hp; simp) trivial ⟨_, _, rfl, rfl, rfl, (wr2 hX hz hwl hB (by assumption) (by assumption) (by assumption) (by rfl)).1, (wr2 hX hz hwl hB (by assumption) (by assumption) (by assumption) (by rfl)).2, rfl⟩
  · rintro h tk m' news' F N ⟨X1, tt, m0, m1, m2, hX, hz, rfl⟩
    replace F := know (x := Str.ofString "text") F m2
    rw [show ((vs.length : Nat) : Int) - 0 = (ws.length : Nat) by omega, Int.toNat_natCast] at hX
    walk_at "go"
    rw [hX]
    exact hR _ _ _ (ends_of (by k_asm) News.nil hg)
end

section
variable {w : World} {lo : List Str} {mean : ExcName → Option Value} {mg mb : Str → Option Value} {b₀ : Heap} {dp un : Nat} {fr : Option (List Env)} {gd : Option (List Code)} {s : Shared} {R : Result → Shared → Prop}
noncomputable def bodyOf : Option Stmt → List Stmt | some (.FunctionDef _ _ b _ _ _ _ _ _ _) => b | _ => []
noncomputable def scopeOf : Option Stmt → Scope | some (.FunctionDef _ _ _ _ _ _ sc _ _ _) => sc | _ => ⟨.function, [], false, false, []⟩
noncomputable def lawB : List Stmt := bodyOf Challenge.pw_pe0167_02.main.body[15]?
noncomputable def lawSc : Scope := scopeOf Challenge.pw_pe0167_02.main.body[15]?
noncomputable abbrev lawEnv (L fa : Nat) (cd : Value) : Env := envOfC (Str.ofString "law") lawSc L fa cd
theorem ro_off {w : World} {h : Heap} {c c' : Lx} {l : Int} {v t : Tok} {i e : Nat} {pend : List Value} (A : c.At h) (ok : c.Ok) (B : ∀ p ∈ c'.mu w l v i t pend e, h.get? p.1 = some p.2) : AllOff c.ro [c'.d, c'.at_, c'.pb] := by
  have b1 := B _ (.head _)
  have b2 := B _ (.tail _ (.head _))
  have b3 := B _ (.tail _ (.tail _ (.head _)))
  have a1 := A _ (.head _)
  have a2 := A _ (.tail _ (.head _))
  have a3 := A _ (.tail _ (.tail _ (.head _)))
  have a4 := A _ (.tail _ (.tail _ (.tail _ (.head _))))
  have a5 := A _ (.tail _ (.tail _ (.tail _ (.tail _ (.head _)))))
  obtain ⟨vs, tt, e1, e2⟩ := ok.dc
  have k3 := ok.d1
  have k4 := ok.d2
  refine ⟨⟨ne_obj a1 b1 nofun, ne_obj a2 b1 nofun, ne_obj a3 b1 (by rw [k3]; nofun), ne_obj a4 b1 (by rw [k4]; nofun), ne_obj a5 b1 (by rw [e1]; nofun), trivial⟩,
    ⟨ne_obj a1 b2 nofun, ne_obj a2 b2 nofun, ne_obj a3 b2 (by rw [k3]; nofun), ne_obj a4 b2 (by rw [k4]; nofun), ne_obj a5 b2 (by rw [e1]; nofun), trivial⟩,
    ⟨ne_obj a1 b3 nofun, ne_obj a2 b3 nofun, ne_obj a3 b3 (by rw [k3]; nofun), ne_obj a4 b3 (by rw [k4]; nofun), ne_obj a5 b3 (by rw [e1]; nofun), trivial⟩, trivial⟩
theorem lx_sub {w : World} {c : Lx} {l : Int} {v t : Tok} {i e : Nat} {pend : List Value} {tab : Addr × Obj} {R : List (Addr × Obj)} : ∀ p ∈ tab :: (c.cc, c.oc) :: (c.d, c.D w l v) :: (c.at_, listOf #[.int i t] 0) :: (c.pb, listOf pend.toArray e) :: (c.x, instObj 59 c.d) :: (c.fn, lamObj c.ct c.ca c.cc c.pm c.ctv) :: (c.ct, c.o1) :: (c.ca, c.o2) :: R, p ∈ (c.mu w l v i t pend e ++ (c.ro ++ [tab])) ++ R := by kcj_all
theorem AllOff.app {x y : List (Addr × Obj)} : ∀ {M : List Addr}, AllOff x M → AllOff y M → AllOff (x ++ y) M
  | [], _, _ => trivial
  | _ :: _, h1, h2 => ⟨h1.1.app h2.1, AllOff.app h1.2 h2.2⟩
theorem AllOff.six {x : List (Addr × Obj)} {a b c d e f : Addr} (h1 : AllOff x [a, b, c]) (h2 : AllOff x [d, e, f]) : AllOff x [a, b, c, d, e, f] := ⟨h1.1, h1.2.1, h1.2.2.1, h2.1, h2.2.1, h2.2.2.1, trivial⟩
theorem lx_sub2 {w : World} {c1 c2 : Lx} {v1 t1 v2 t2 : Tok} {tab : Addr × Obj} {T : List (Addr × Obj)} : ∀ p ∈ two w { c1 with oc := c2.oc, cc := c2.cc } c2 1 v1 0 t1 0 1 v2 0 t2 [] 0 ++ (({ c1 with oc := c2.oc, cc := c2.cc } : Lx).ro ++ (c2.ro ++ (tab :: T))),
    p ∈ c2.mu w 1 v2 0 t2 [] 0 ++ (c2.ro ++ [tab]) ++ ((c1.d, c1.D w 1 v1) :: (c1.at_, listOf #[.int 0 t1] 0) :: (c1.pb, listOf #[] 0) :: (c1.x, instObj 59 c1.d) :: (c1.fn, lamObj c1.ct c1.ca c2.cc c1.pm c1.ctv) :: (c1.ct, c1.o1) :: (c1.ca, c1.o2) :: T) := by kcj_all
theorem lx_line {A B C r : List (Addr × Obj)} {a b c x : Addr × Obj} : (x :: (A ++ (B ++ (C ++ (a :: b :: c :: r))))).Perm (A ++ (B ++ (C ++ (a :: b :: c :: x :: r)))) := by
  simpa using (List.perm_middle (l₁ := A ++ (B ++ (C ++ [a, b, c]))) (a := x) (l₂ := r)).symm
theorem AllOff.swap {A B r : List (Addr × Obj)} {a b c x y : Addr × Obj} {M : List Addr} (h : AllOff (A ++ (B ++ (a :: b :: c :: x :: r))) M) (e : x.1 = y.1) : AllOff (A ++ (B ++ (a :: b :: c :: y :: r))) M := by
  refine AllOff.of fun p hp => ?_
  simp only [List.mem_append, List.mem_cons] at hp
  rcases hp with hp | hp | hp | hp | hp | hp | hp
  · exact h.mem p (by simp [hp])
  · exact h.mem p (by simp [hp])
  · exact h.mem p (by simp [hp])
  · exact h.mem p (by simp [hp])
  · exact h.mem p (by simp [hp])
  · rw [hp, ← e]; exact h.mem x (by simp)
  · exact h.mem p (by simp [hp])
/-- both lexers stand, apart from one another and from all else -/
structure LexTwo (g : Heap) (L : Addr) (h : Heap) (w : World) (c1 c2 : Lx) (l1 : Int) (v1 : Tok) (i1 : Nat) (t1 : Tok) (e1 : Nat) (l2 : Int) (v2 : Tok) (i2 : Nat) (t2 : Tok) (pend : List Value) (e2 : Nat) (rest : List (Addr × Obj)) : Prop where
  N : News g L h (two w c1 c2 l1 v1 i1 t1 e1 l2 v2 i2 t2 pend e2 ++ (c1.ro ++ (c2.ro ++ rest)))
  ap : Apart c1 c2
  off : AllOff (c1.ro ++ (c2.ro ++ rest)) [c1.d, c1.at_, c1.pb, c2.d, c2.at_, c2.pb]
  ok1 : c1.Ok
  ok2 : c2.Ok
theorem LexTwo.at {g : Heap} {L : Addr} {h h' : Heap} {w : World} {c1 c2 : Lx} {l1 : Int} {v1 : Tok} {i1 : Nat} {t1 : Tok} {e1 : Nat} {l2 : Int} {v2 : Tok} {i2 : Nat} {t2 : Tok} {pend : List Value} {e2 : Nat} {rest : List (Addr × Obj)} (X : LexTwo g L h w c1 c2 l1 v1 i1 t1 e1 l2 v2 i2 t2 pend e2 rest) (N : News g L h' (two w c1 c2 l1 v1 i1 t1 e1 l2 v2 i2 t2 pend e2 ++ (c1.ro ++ (c2.ro ++ rest)))) : LexTwo g L h' w c1 c2 l1 v1 i1 t1 e1 l2 v2 i2 t2 pend e2 rest := ⟨N, X.ap, X.off, X.ok1, X.ok2⟩
theorem LexTwo.sub {g : Heap} {L : Addr} {h : Heap} {w : World} {c1 c2 : Lx} {l1 : Int} {v1 : Tok} {i1 : Nat} {t1 : Tok} {e1 : Nat} {l2 : Int} {v2 : Tok} {i2 : Nat} {t2 : Tok} {pend : List Value} {e2 : Nat} {rest rest' : List (Addr × Obj)} (X : LexTwo g L h w c1 c2 l1 v1 i1 t1 e1 l2 v2 i2 t2 pend e2 rest) (k : ∀ p ∈ rest', p ∈ rest) : LexTwo g L h w c1 c2 l1 v1 i1 t1 e1 l2 v2 i2 t2 pend e2 rest' :=
  ⟨news_sub X.N fun p hp => by
      simp only [List.mem_append] at hp ⊢
      rcases hp with hp | hp | hp | hp
      · exact .inl hp
      · exact .inr (.inl hp)
      · exact .inr (.inr (.inl hp))
      · exact .inr (.inr (.inr (k p hp))), X.ap, AllOff.of fun p hp => X.off.mem p (by
      simp only [List.mem_append] at hp ⊢
      rcases hp with hp | hp | hp
      · exact .inl hp
      · exact .inr (.inl hp)
      · exact .inr (.inr (k p hp))), X.ok1, X.ok2⟩
theorem ws_ok {u : Str} {b : Nat} (h : u.length ≤ b) : (wsOf u).cnt.length ≤ b ∧ (wsOf u).b ≤ b := by
  have h1 := wsRun_bd u.cps.toList ⟨[], 0, 0, 0⟩ 0 (Nat.le_refl _) (Nat.zero_lt_succ _)
  have h2 : u.cps.toList.length ≤ b := by rw [Array.length_toList]; exact h
  unfold wsOf
  omega
/-- the lexers' unchanging parts under a heap that hides the changing ones -/
theorem LexTwo.hid1 {g : Heap} {L : Addr} {h : Heap} {w : World} {c1 c2 : Lx} {l1 : Int} {v1 : Tok} {i1 : Nat} {t1 : Tok} {e1 : Nat} {l2 : Int} {v2 : Tok} {i2 : Nat} {t2 : Tok} {pend : List Value} {e2 : Nat} {rest : List (Addr × Obj)} (X : LexTwo g L h w c1 c2 l1 v1 i1 t1 e1 l2 v2 i2 t2 pend e2 rest) :
    c1.At (hideAll h [c1.d, c1.at_, c1.pb, c2.d, c2.at_, c2.pb]) ∧ c2.At (hideAll h [c1.d, c1.at_, c1.pb, c2.d, c2.at_, c2.pb]) :=
  ⟨fun p hp => hideAll_get _ (X.N p (List.mem_append_right _ (List.mem_append_left _ hp))).1 (X.off.mem p (List.mem_append_left _ hp)),
   fun p hp => hideAll_get _ (X.N p (List.mem_append_right _ (List.mem_append_right _ (List.mem_append_left _ hp)))).1 (X.off.mem p (List.mem_append_right _ (List.mem_append_left _ hp)))⟩
theorem two_not {g : Heap} {L : Addr} {h : Heap} {w : World} {c1 c2 : Lx} {l1 : Int} {v1 : Tok} {i1 : Nat} {t1 : Tok} {e1 : Nat} {l2 : Int} {v2 : Tok} {i2 : Nat} {t2 : Tok} {pend : List Value} {e2 : Nat} {rest : List (Addr × Obj)} (N : News g L h (two w c1 c2 l1 v1 i1 t1 e1 l2 v2 i2 t2 pend e2 ++ rest)) {a : Nat} (ha : h.get? a = none) : a ∉ [c1.d, c1.at_, c1.pb, c2.d, c2.at_, c2.pb] := fun q => by
  have key : ∀ p ∈ two w c1 c2 l1 v1 i1 t1 e1 l2 v2 i2 t2 pend e2, p.1 ≠ a := fun p hp e => by
    have := (N p (List.mem_append_left _ hp)).1
    rw [e, ha] at this; cases this
  simp only [List.mem_cons, List.not_mem_nil, or_false] at q
  rcases q with q | q | q | q | q | q
  · exact key _ (.head _) q.symm
  · exact key _ (.tail _ (.head _)) q.symm
  · exact key _ (.tail _ (.tail _ (.head _))) q.symm
  · exact key _ (.tail _ (.tail _ (.tail _ (.head _)))) q.symm
  · exact key _ (.tail _ (.tail _ (.tail _ (.tail _ (.head _))))) q.symm
  · exact key _ (.tail _ (.tail _ (.tail _ (.tail _ (.tail _ (.head _)))))) q.symm
theorem dict_hid {h h' : Heap} {w : World} {D : Nat} {o : Obj} {Ew : List (Addr × Obj)} {kvs : List (Str × Value)} {us : List Str} {M : List Addr} (En : Ends h h' [] ((D, o) :: Ew)) (hM : ∀ a ∈ M, h.get? a ≠ none)
    (is : o.IsDictOf (PySem.strKind P w) kvs) (lo : (D == sysModules) = false) (hk : kvs.map (·.1) = us) (hw : ∀ p ∈ kvs, ∃ x, p.2 = .ref x ∧ WsIn w Ew x p.1) (hnd : us.Nodup) (hlen : ∀ u ∈ us, u.length ≤ 1000000) : Dict w (hideAll h' M) D o kvs us := by
  have key : ∀ p ∈ (D, o) :: Ew, (hideAll h' M).get? p.1 = some p.2 := fun p hp => by
    refine hideAll_get _ (En.has p hp).1 fun q => ?_
    rcases (En.has p hp).2 with k | k
    · cases k
    · exact hM _ q k
  refine ⟨key _ (.head _), is, lo, by rw [← hk, List.length_map], fun u hu => ?_⟩
  rw [← hk] at hu
  obtain ⟨p, hp, rfl⟩ := List.mem_map.mp hu
  obtain ⟨x, hx, d, Dn, Dc, vs, tu, tb, tn, tt, u1, u2, u3, u4, u5, hi, hpp⟩ := hw p hp
  refine ⟨x, by rw [← hx]; exact valueAt_of (by rw [hk]; exact hnd) hp, ⟨d, Dn, Dc, vs, tu, tb, tn, tt, u1, u2, u3, u4, u5, hi, fun q hq => key q (.tail _ (hpp q hq))⟩, ws_ok (hlen _ (by rw [← hk]; exact List.mem_map_of_mem hp))⟩
theorem two_turn {w : World} {c1 c2 : Lx} {l1 : Int} {v1 : Tok} {i1 : Nat} {t1 : Tok} {e1 : Nat} {l2 : Int} {v2 : Tok} {i2 : Nat} {t2 : Tok} {pend : List Value} {e2 : Nat} {x : Addr × Obj} {a b c : List (Addr × Obj)} : ∀ p ∈ two w c1 c2 l1 v1 i1 t1 e1 l2 v2 i2 t2 pend e2 ++ (a ++ (b ++ (x :: c))), p ∈ (two w c1 c2 l1 v1 i1 t1 e1 l2 v2 i2 t2 pend e2 ++ [x]) ++ (a ++ (b ++ c)) := fun p hp => by
  rw [List.mem_append] at hp ⊢
  rcases hp with hp | hp
  · exact .inl (List.mem_append_left _ hp)
  · simp only [List.mem_append, List.mem_cons, List.not_mem_nil, or_false] at hp ⊢
    rcases hp with h | h | h | h <;> simp [h]
theorem off_turn {c1 c2 : Lx} {a : Nat} {o : Obj} {x y z : List (Addr × Obj)} (oo : OutOff c1 c2 a) (h : AllOff (x ++ (y ++ z)) [c1.d, c1.at_, c1.pb, c2.d, c2.at_, c2.pb]) : AllOff (x ++ (y ++ ((a, o) :: z))) [c1.d, c1.at_, c1.pb, c2.d, c2.at_, c2.pb] := by
  have key : ∀ {b : Nat}, @Ne Nat a b → AllNe b (x ++ (y ++ z)) → AllNe b (x ++ (y ++ ((a, o) :: z))) := fun hb hz => hz.left.app (hz.right.left.app ⟨hb, hz.right.right⟩)
  exact ⟨key oo.a1 h.1, key oo.a2 h.2.1, key oo.a3 h.2.2.1, key oo.b1 h.2.2.2.1, key oo.b2 h.2.2.2.2.1, key oo.b3 h.2.2.2.2.2.1, trivial⟩
theorem know2 {m : Str → Option Value} {x y : Str} {v u : Value} (h1 : m x = some v) (h2 : m y = some u) : (fun z => if z = y then some u else if z = x then some v else m z) = m := by
  funext z
  by_cases q : z = y
  · rw [if_pos q, q, h2]
  · rw [if_neg q]
    by_cases q2 : z = x
    · rw [if_pos q2, q2, h1]
    · rw [if_neg q2]
theorem know1 {m : Str → Option Value} {x : Str} {v : Value} (h1 : m x = some v) (z : Str) : (if z = x then some v else m z) = m z := by
  by_cases q : z = x
  · rw [if_pos q, q, h1]
  · rw [if_neg q]
theorem two_swap {a b c d e f : Addr × Obj} {R : List (Addr × Obj)} : ∀ p ∈ [d, e, f] ++ ([a, b, c] ++ R), p ∈ [a, b, c, d, e, f] ++ R := fun p hp => by
  simp only [List.mem_append, List.mem_cons, List.not_mem_nil, or_false] at hp ⊢
  rcases hp with (h | h | h) | (h | h | h) | h <;> simp [h]
theorem two_swap' {a b c d e f : Addr × Obj} {R : List (Addr × Obj)} : ∀ p ∈ [a, b, c, d, e, f] ++ R, p ∈ [d, e, f] ++ ([a, b, c] ++ R) := fun p hp => by
  simp only [List.mem_append, List.mem_cons, List.not_mem_nil, or_false] at hp ⊢
  rcases hp with (h | h | h | h | h | h) | h <;> simp [h]
theorem LexTwo.tok1 {g : Heap} {L : Addr} {m : Str → Option Value} {h h' : Heap} {w : World} {c1 c2 : Lx} {l1 l' : Int} {v1 v' : Tok} {i1 j : Nat} {t1 t' : Tok} {e1 : Nat} {l2 : Int} {v2 : Tok} {i2 : Nat} {t2 : Tok} {pend : List Value} {e2 : Nat} {rest : List (Addr × Obj)} (X : LexTwo g L h w c1 c2 l1 v1 i1 t1 e1 l2 v2 i2 t2 pend e2 rest) (F : Fr g L h m) (E : Ends h h' [c1.d, c1.at_, c1.pb] (c1.mu w l' v' j t' [] e1)) :
    Fr g L h' m ∧ LexTwo g L h' w c1 c2 l' v' j t' e1 l2 v2 i2 t2 pend e2 rest := by
  obtain ⟨F2, N2⟩ := E.out (mu := c1.mu w l1 v1 i1 t1 [] e1) (rest := c2.mu w l2 v2 i2 t2 pend e2 ++ (c1.ro ++ (c2.ro ++ rest))) F X.N rfl ⟨⟨X.ap.dd.symm, X.ap.da.symm, X.ap.dp.symm, X.off.1⟩, ⟨X.ap.ad.symm, X.ap.aa.symm, X.ap.ap.symm, X.off.2.1⟩, ⟨X.ap.pd.symm, X.ap.pa.symm, X.ap.pp.symm, X.off.2.2.1⟩, trivial⟩
  exact ⟨F2, N2, X.ap, X.off, X.ok1, X.ok2⟩
theorem LexTwo.tok2 {g : Heap} {L : Addr} {m : Str → Option Value} {h h' : Heap} {w : World} {c1 c2 : Lx} {l1 l' : Int} {v1 v' : Tok} {i1 j : Nat} {t1 t' : Tok} {e1 : Nat} {l2 : Int} {v2 : Tok} {i2 : Nat} {t2 : Tok} {pend : List Value} {e2 e' : Nat} {pend' : List Value} {rest : List (Addr × Obj)} (X : LexTwo g L h w c1 c2 l1 v1 i1 t1 e1 l2 v2 i2 t2 pend e2 rest) (F : Fr g L h m) (E : Ends h h' [c2.d, c2.at_, c2.pb] (c2.mu w l' v' j t' pend' e')) :
    Fr g L h' m ∧ LexTwo g L h' w c1 c2 l1 v1 i1 t1 e1 l' v' j t' pend' e' rest := by
  obtain ⟨F2, N2⟩ := E.out (mu := c2.mu w l2 v2 i2 t2 pend e2) (rest := c1.mu w l1 v1 i1 t1 [] e1 ++ (c1.ro ++ (c2.ro ++ rest))) F (news_sub X.N two_swap) rfl ⟨⟨X.ap.dd, X.ap.ad, X.ap.pd, X.off.2.2.2.1⟩, ⟨X.ap.da, X.ap.aa, X.ap.pa, X.off.2.2.2.2.1⟩, ⟨X.ap.dp, X.ap.ap, X.ap.pp, X.off.2.2.2.2.2.1⟩, trivial⟩
  exact ⟨F2, news_sub N2 two_swap', X.ap, X.off, X.ok1, X.ok2⟩
end
section
variable {w : World} {lo : List Str} {mean : ExcName → Option Value} {mg mb : Str → Option Value} {b₀ : Heap} {dp un : Nat} {fr : Option (List Env)} {gd : Option (List Code)} {s : Shared} {R : Result → Shared → Prop}
set_option maxRecDepth 100000 in
set_option maxHeartbeats 2000000 in
theorem law_t2 {g : Heap} {L fa : Nat} {cd : Value} {m : Str → Option Value} {Q : Flow → Shared → Prop} {E : Value → Shared → Prop} {oc ol ow : Obj} {n : Nat} {tn : Tok} {fL lD ff eo : Nat} {fv ovs : List Value} {fs : List Int} {ld : List (List Nat)} {rest : List (Addr × Obj)}
    (X : (Mine.hd.heap_1 w.params).In g) (T : Top topProg lo mean mg mb g) (F : Fr g L s.heap m) (m1 : m (Str.ofString "figures") = some (.ref fL))
    (N : News g L s.heap ((L + 1 + 1 + 1 + 1 + 1, ow) :: (L + 1 + 1 + 1 + 1, ol) :: (L + 1 + 1 + 1 + 1 + 1 + 1, oc) :: (138, tabObj #[]) :: (fL, listOf fv.toArray ff) :: (lD, listOf ovs.toArray eo) :: rest))
    (dw : ow.data = .cell none) (dl : ol.data = .cell (some (.ref lD))) (dc : oc.data = .cell none) (m2 : m (Str.ofString "count") = some (.int n tn))
    (hfs : IntsAre fv fs) (hov : StrsAre ovs (ld.map S)) (hn : ld.length = n) (hn8 : n ≤ 10) (hfl : fs.length = n) (hf0 : ∀ f ∈ fs, 0 ≤ f) (hld : ∀ x ∈ ld, x.length ≤ 1000)
    (Aw : AllNe (L + 1 + 1 + 1 + 1 + 1) rest) (At : AllNe 138 rest) (Al : AllNe (L + 1 + 1 + 1 + 1 + 1 + 1) rest) (hC : CodeHd g 142 138) (l1 : 138 < L)
    (hd : dp + 98 < recursionLimit)
    (hnext : ∀ h' tk' m' c1 c2 v1 v2 t1 t2 ps wL ys ow oc tt, Fr g L h' m' → m' (Str.ofString "file") = some (.ref (Lx.x c1)) → oc.data = .cell (some (.ref (Lx.x c2))) → m' (Str.ofString "text") = some (.str (S (writtenP fs (wordsP 0 ld) (wordsP 0 ld).length)) tt) → m' (Str.ofString "high") = m (Str.ofString "high") →
      LexTwo g L h' w c1 c2 1 v1 0 t1 0 1 v2 0 t2 [] 0 ((138, tabObj ps) :: (wL, LCg.lst ys) :: (L + 1 + 1 + 1 + 1 + 1, ow) :: (L + 1 + 1 + 1 + 1 + 1 + 1, oc) :: rest) → c1.text = S (writtenP fs (wordsP 0 ld) ld.length) → c2.text = Str.ofString "" → TriplesOk ps.toList → StrsAre ys ((wordsP 0 ld).map S) → ow.data = .cell (some (.ref wL)) →
      wpAny (model P w) (Around.deeper (Ar dp fr gd un) (lawEnv L fa cd)) (execs (lawB.drop 10) (lawEnv L fa cd)) Q E { s with heap := h', toks := tk' }) :
    wpAny (model P w) (Around.deeper (Ar dp fr gd un) (lawEnv L fa cd)) (execs (lawB.drop 6) (lawEnv L fa cd)) Q E s := by
  k_with_none
  k_with "ne" => ((first | with_reducible assumption | exact Ne.symm (by with_reducible assumption) | exact Nat.ne_of_lt (by with_reducible assumption) | exact Nat.ne_of_gt (by with_reducible assumption) | (refine Nat.ne_of_lt ?_; (repeat (first | exact Nat.lt_succ_self _ | with_reducible assumption | refine Nat.lt_succ_of_lt ?_)); done) | (refine Nat.ne_of_gt ?_; (repeat (first | exact Nat.lt_succ_self _ | with_reducible assumption | refine Nat.lt_succ_of_lt ?_)); done) | exact Nat.ne_of_lt (And.left (by with_reducible assumption)) | exact Nat.ne_of_gt (And.left (by with_reducible assumption)) | exact (And.left (by with_reducible assumption)) | exact Ne.symm (And.left (by with_reducible assumption)) | exact Nat.ne_of_lt (And.left (And.right (by with_reducible assumption))) | exact Nat.ne_of_lt (And.right (by with_reducible assumption)) | exact Nat.ne_of_gt (And.left (And.right (by with_reducible assumption))) | exact Nat.ne_of_gt (And.right (by with_reducible assumption)) | exact (And.left (And.right (by with_reducible assumption))) | exact Ne.symm (And.left (And.right (by with_reducible assumption))) | exact (And.right (by with_reducible assumption)) | exact Ne.symm (And.right (by with_reducible assumption)) | exact Nat.ne_of_lt (And.left (And.right (And.right (by with_reducible assumption)))) | exact Nat.ne_of_lt (And.right (And.right (by with_reducible assumption))) | exact Nat.ne_of_gt (And.left (And.right (And.right (by with_reducible assumption)))) | exact Nat.ne_of_gt (And.right (And.right (by with_reducible assumption))) | exact (And.left (And.right (And.right (by with_reducible assumption)))) | exact Ne.symm (And.left (And.right (And.right (by with_reducible assumption)))) | exact (And.right (And.right (by with_reducible assumption))) | exact Ne.symm (And.right (And.right (by with_reducible assumption))) | exact Nat.ne_of_lt (And.left (And.right (And.right (And.right (by with_reducible assumption))))) | exact Nat.ne_of_lt (And.right (And.right (And.right (by with_reducible assumption)))) | exact Nat.ne_of_gt (And.left (And.right (And.right (And.right (by with_reducible assumption))))) | exact Nat.ne_of_gt (And.right (And.right (And.right (by with_reducible assumption)))) | exact (And.left (And.right (And.right (And.right (by with_reducible assumption))))) | exact Ne.symm (And.left (And.right (And.right (And.right (by with_reducible assumption))))) | exact (And.right (And.right (And.right (by with_reducible assumption)))) | exact Ne.symm (And.right (And.right (And.right (by with_reducible assumption)))) | exact Nat.ne_of_lt (And.left (And.right (And.right (And.right (And.right (by with_reducible assumption)))))) | exact Nat.ne_of_lt (And.right (And.right (And.right (And.right (by with_reducible assumption))))) | exact Nat.ne_of_gt (And.left (And.right (And.right (And.right (And.right (by with_reducible assumption)))))) | exact Nat.ne_of_gt (And.right (And.right (And.right (And.right (by with_reducible assumption))))) | exact (And.left (And.right (And.right (And.right (And.right (by with_reducible assumption)))))) | exact Ne.symm (And.left (And.right (And.right (And.right (And.right (by with_reducible assumption)))))) | exact (And.right (And.right (And.right (And.right (by with_reducible assumption))))) | exact Ne.symm (And.right (And.right (And.right (And.right (by with_reducible assumption))))) | exact Nat.ne_of_lt (And.left (And.right (And.right (And.right (And.right (And.right (by with_reducible assumption))))))) | exact Nat.ne_of_lt (And.right (And.right (And.right (And.right (And.right (by with_reducible assumption)))))) | exact Nat.ne_of_gt (And.left (And.right (And.right (And.right (And.right (And.right (by with_reducible assumption))))))) | exact Nat.ne_of_gt (And.right (And.right (And.right (And.right (And.right (by with_reducible assumption)))))) | exact (And.left (And.right (And.right (And.right (And.right (And.right (by with_reducible assumption))))))) | exact Ne.symm (And.left (And.right (And.right (And.right (And.right (And.right (by with_reducible assumption))))))) | exact (And.right (And.right (And.right (And.right (And.right (by with_reducible assumption)))))) | exact Ne.symm (And.right (And.right (And.right (And.right (And.right (by with_reducible assumption)))))) | exact Nat.ne_of_lt (And.left (And.right (And.right (And.right (And.right (And.right (And.right (by with_reducible assumption)))))))) | exact Nat.ne_of_lt (And.right (And.right (And.right (And.right (And.right (And.right (by with_reducible assumption))))))) | exact Nat.ne_of_gt (And.left (And.right (And.right (And.right (And.right (And.right (And.right (by with_reducible assumption)))))))) | exact Nat.ne_of_gt (And.right (And.right (And.right (And.right (And.right (And.right (by with_reducible assumption))))))) | exact (And.left (And.right (And.right (And.right (And.right (And.right (And.right (by with_reducible assumption)))))))) | exact Ne.symm (And.left (And.right (And.right (And.right (And.right (And.right (And.right (by with_reducible assumption)))))))) | exact (And.right (And.right (And.right (And.right (And.right (And.right (by with_reducible assumption))))))) | exact Ne.symm (And.right (And.right (And.right (And.right (And.right (And.right (by with_reducible assumption))))))) | exact Nat.ne_of_lt (And.left (And.right (And.right (And.right (And.right (And.right (And.right (And.right (by with_reducible assumption))))))))) | exact Nat.ne_of_lt (And.right (And.right (And.right (And.right (And.right (And.right (And.right (by with_reducible assumption)))))))) | exact Nat.ne_of_gt (And.left (And.right (And.right (And.right (And.right (And.right (And.right (And.right (by with_reducible assumption))))))))) | exact Nat.ne_of_gt (And.right (And.right (And.right (And.right (And.right (And.right (And.right (by with_reducible assumption)))))))) | exact (And.left (And.right (And.right (And.right (And.right (And.right (And.right (And.right (by with_reducible assumption))))))))) | exact Ne.symm (And.left (And.right (And.right (And.right (And.right (And.right (And.right (And.right (by with_reducible assumption))))))))) | exact (And.right (And.right (And.right (And.right (And.right (And.right (And.right (by with_reducible assumption)))))))) | exact Ne.symm (And.right (And.right (And.right (And.right (And.right (And.right (And.right (by with_reducible assumption)))))))) | exact Nat.ne_of_lt (And.left (And.right (And.right (And.right (And.right (And.right (And.right (And.right (And.right (by with_reducible assumption)))))))))) | exact Nat.ne_of_lt (And.right (And.right (And.right (And.right (And.right (And.right (And.right (And.right (by with_reducible assumption))))))))) | exact Nat.ne_of_gt (And.left (And.right (And.right (And.right (And.right (And.right (And.right (And.right (And.right (by with_reducible assumption)))))))))) | exact Nat.ne_of_gt (And.right (And.right (And.right (And.right (And.right (And.right (And.right (And.right (by with_reducible assumption))))))))) | exact (And.left (And.right (And.right (And.right (And.right (And.right (And.right (And.right (And.right (by with_reducible assumption)))))))))) | exact Ne.symm (And.left (And.right (And.right (And.right (And.right (And.right (And.right (And.right (And.right (by with_reducible assumption)))))))))) | exact (And.right (And.right (And.right (And.right (And.right (And.right (And.right (And.right (by with_reducible assumption))))))))) | exact Ne.symm (And.right (And.right (And.right (And.right (And.right (And.right (And.right (And.right (by with_reducible assumption))))))))) | exact Nat.ne_of_lt (And.left (And.right (And.right (And.right (And.right (And.right (And.right (And.right (And.right (And.right (by with_reducible assumption))))))))))) | exact Nat.ne_of_lt (And.right (And.right (And.right (And.right (And.right (And.right (And.right (And.right (And.right (by with_reducible assumption)))))))))) | exact Nat.ne_of_gt (And.left (And.right (And.right (And.right (And.right (And.right (And.right (And.right (And.right (And.right (by with_reducible assumption))))))))))) | exact Nat.ne_of_gt (And.right (And.right (And.right (And.right (And.right (And.right (And.right (And.right (And.right (by with_reducible assumption)))))))))) | exact (And.left (And.right (And.right (And.right (And.right (And.right (And.right (And.right (And.right (And.right (by with_reducible assumption))))))))))) | exact Ne.symm (And.left (And.right (And.right (And.right (And.right (And.right (And.right (And.right (And.right (And.right (by with_reducible assumption))))))))))) | exact (And.right (And.right (And.right (And.right (And.right (And.right (And.right (And.right (And.right (by with_reducible assumption)))))))))) | exact Ne.symm (And.right (And.right (And.right (And.right (And.right (And.right (And.right (And.right (And.right (by with_reducible assumption)))))))))) | exact Nat.ne_of_lt (And.left (And.right (And.right (And.right (And.right (And.right (And.right (And.right (And.right (And.right (And.right (by with_reducible assumption)))))))))))) | exact Nat.ne_of_lt (And.right (And.right (And.right (And.right (And.right (And.right (And.right (And.right (And.right (And.right (by with_reducible assumption))))))))))) | exact Nat.ne_of_gt (And.left (And.right (And.right (And.right (And.right (And.right (And.right (And.right (And.right (And.right (And.right (by with_reducible assumption)))))))))))) | exact Nat.ne_of_gt (And.right (And.right (And.right (And.right (And.right (And.right (And.right (And.right (And.right (And.right (by with_reducible assumption))))))))))) | exact (And.left (And.right (And.right (And.right (And.right (And.right (And.right (And.right (And.right (And.right (And.right (by with_reducible assumption)))))))))))) | exact Ne.symm (And.left (And.right (And.right (And.right (And.right (And.right (And.right (And.right (And.right (And.right (And.right (by with_reducible assumption)))))))))))) | exact (And.right (And.right (And.right (And.right (And.right (And.right (And.right (And.right (And.right (And.right (by with_reducible assumption))))))))))) | exact Ne.symm (And.right (And.right (And.right (And.right (And.right (And.right (And.right (And.right (And.right (And.right (by with_reducible assumption)))))))))))))
  k_with "exec For Name Attribute cons nil" => (k_dflt (refine for_exec ?_))
  k_with "exec For Name Name cons nil" => (k_dflt (refine for_exec ?_))
  k_with "exec For Name Call cons nil" => (k_dflt (refine for_exec ?_))
  k_with "call type:tuple" => ((k_here; (with_reducible show wpAny _ _ (call (Value.type _) [Value.ref _]) _ _ _); k_dflt (refine' tupleOf_c (by k_asm) (by k_asm) (by k_mem) (by ((have hL9 := IntsAre.length (by assumption)); rw [sizeLine_eq]; omega)) ?_; k_whole); intro _ _ _ _ l19q; (try k_lt l19q); (try k_sweep)))
  k_with "call builtin:len" => ((k_here; (with_reducible show wpAny _ _ (call (Value.builtin "len") [Value.ref _]) _ _ _); k_dflt (refine' len_tupI (by k_asm) (by with_reducible assumption) (by with_reducible assumption) (by omega) ?_; k_whole); intro _ _))
  k_with "execs cons" => ((k_dflt (refine execs_n (s := ‹Shared›) ?_); intro _; (try k_fold)))
  k_with "exec If BoolOp cons nil" => (((fail_if_success (with_reducible show wpAny _ _ _ (Cut _ _) _ _)); refine Hold.out ?_))
  k_with "out" => (repeat (first | (k_unfold; (try dsimp only)) | refine cut_ret ?_ | refine turn_ret ?_))
  k_with "go" => ((w_top off; repeat' (first | (k_unfold; (try dsimp only)) | walk1 | (dsimp only; walk1))))
  k_with "call ref" => ((first | (with_reducible show wpAny _ _ (call (Value.ref 158) _ _) _ _ _) | (with_reducible show wpAny _ _ (call (Value.ref 143) _ _) _ _ _)); refine Hold.out ?_)
  k_with "eval ListComp" => ((k_here; refine Hold.out ?_))
  k_with "exec Assign cons ListComp" => ((k_here; refine Hold.out ?_))
  k_with "CompEnd" => (refine Hold.out ?_)
  k_with "CompSrc" => (refine Hold.out ?_)
  k_with "ne" => ((first | exact ne_cell (by k_asm) (by k_mem) (by k_mem) (by assumption) (fun _ e => by cases e) | fail "no"))
  k_with "execs cons" => (((with_reducible show wpAny _ _ (execs [_, _, _, _, _, _, _] _) _ _ _); refine Hold.out ?_))
  obtain ⟨sc, hsc⟩ : ∃ sc, sc = lawSc := ⟨_, rfl⟩
  obtain ⟨B, hB⟩ : ∃ B, B = lawB.drop 6 := ⟨_, rfl⟩
  unfold lawEnv
  rw [← hsc, ← hB]
  conv at hsc => rhs; whnf
  conv at hB => rhs; whnf
  subst hsc hB
  replace F := know (x := Str.ofString "figures") F m1
  replace F := know (x := Str.ofString "count") F m2
  walk_at "go"
  refine Hold.in ?_
  with_reducible refine wpAny_Assign_Name ?_ ?_
  rotate_left
  with_unfolding_all rfl
  k_dflt (refine LCg.ListComp_U (F₀ := by k_asm) (by with_unfolding_all rfl) (by decide) (by rfl) (by decide) (by rfl) ?_)
  walk_at "go"
  refine Hold.in ?_
  k_here
  k_dflt (refine LCg.CompSrc.range (by rfl) (by k_asm) (by k_asm) (by assumption) (small_one (by omega) (by omega) (by omega) (by omega)) (PyProof.Rows.rangeSize_nat _ _) (by rw [sizeLine_eq]; omega) ?_)
  intro g'
  refine comp_inv (WdJ ld _) ?_ ?_ ⟨rfl, .nil⟩
  · (try dsimp only)
    rintro i ys _ hi ⟨rfl, hy⟩ v I oI C oC D m₂ h tk E' ⟨tv, rfl⟩ hC hx F N off ne
    have hil : i < ld.length := by rw [hn]; exact lt_nat hi
    walk_at "go"
    refine addG (leadAt hil) (letterAt10 (by omega)) (by have := getD_len hld i; simp only [List.length_singleton]; omega) ?_
    intro t' tk'
    walk_at "go"
    exact Hold.in (LCg.CompEnd.intro (by k_asm) (by k_asm) _ (by kcj_all) off trivial (WdJ.next ⟨rfl, hy⟩ hil))
  · rintro ys _ ⟨rfl, hy⟩
    rw [show (((n : Int) - 0).toNat) = ld.length by omega, List.take_length] at hy
    have hwl : ∀ x ∈ wordsP 0 ld, x.length ≤ 1200 := fun x hx => Nat.le_trans (words_bd hld 0 x hx) (by decide)
    unfold LCg.FinE
    intro D3 h3 tk3 F N o1
    (try dsimp only)
    walk_at "go"
    clear hov hld
    refine Hold.in (wpAny_call (written_c ⟨X, T⟩ (Fr.keep (by k_asm)) (News.isList (by k_asm) (by k_mem)) hy (News.isList (by k_asm) (by k_mem)) hfs (by rw [wordsP_len]; omega) (by omega) hwl hf0 (by show dp + 1 + 28 < _; exact dlt hd (by decide)) ?_))
    intro h4 tk4 tt En
    obtain ⟨F', N'⟩ := En.out (mu := []) (by k_asm) (by k_asm) rfl trivial
    (with_reducible rename Fr _ _ _ _ => F'')
    simp only [List.nil_append] at N'
    dsimp only
    walk_at "go"
    (with_reducible rename News _ _ _ _ => N1)
    (with_reducible rename Fr _ _ _ _ => F1)
    replace N1 := news_sub (news' := (138, tabObj #[]) :: (D3, LCg.lst ys) :: (L + 1 + 1 + 1 + 1 + 1, _) :: (L + 1 + 1 + 1 + 1 + 1 + 1, oc) :: rest) N1 (by kcj_all)
    have tz : (S (writtenP fs (wordsP 0 ld) (wordsP 0 ld).length)).length ≤ 1048576 := by
      rw [S_len]; exact Nat.le_trans (written_len hwl _) (by rw [wordsP_len]; omega)
    have nL : @Ne Nat D3 (L + 1 + 1 + 1 + 1 + 1 + 1) := ne_obj (N1 _ (.tail _ (.head _))).1 (N1 _ (.tail _ (.tail _ (.tail _ (.head _))))).1 (by rw [dc]; nofun)
    have nD : @Ne Nat D3 138 := ne_obj (N1 _ (.tail _ (.head _))).1 (N1 _ (.head _)).1 nofun
    refine Hold.in (wpAny_call (lexer1_c ⟨X, T⟩ (Fr.keep (by k_asm)) (led_of N1 (by kcj_all)) hC (by show dp + 1 + 18 < _; exact dlt hd (by decide)) tz ?_))
    intro h5 tk5 c1 v1 ti1 ps En1 ok1 ht1 hps hcc
    (rename (_ = Data.cell (some (Value.ref _))) => dW)
    (rename Obj => oW)
    have hm1 : ∀ p ∈ c1.mu w 1 v1 0 ti1 [] 0, h5.get? p.1 = some p.2 := fun p hp => (En1.has p (List.mem_append_left _ hp)).1
    have hr1 : c1.At h5 := fun p hp => (En1.has p (List.mem_append_right _ (List.mem_append_left _ hp))).1
    have ht1' := (En1.has (138, tabObj ps) (by simp)).1
    have x1 : @Ne Nat c1.d 138 := ne_obj (hm1 _ (.head _)) ht1' nofun
    have x2 : @Ne Nat c1.at_ 138 := ne_obj (hm1 _ (.tail _ (.head _))) ht1' nofun
    have x3 : @Ne Nat c1.pb 138 := ne_obj (hm1 _ (.tail _ (.tail _ (.head _)))) ht1' nofun
    have x4 : @Ne Nat c1.cc 138 := cc_ne (hr1 _ (.tail _ (.tail _ (.tail _ (.tail _ (.head _)))))) ht1' hps ok1.dc
    have a1 := En1.offNew N1 (a := c1.d) (.head _) (by simpa using x1)
    have a2 := En1.offNew N1 (a := c1.at_) (.tail _ (.head _)) (by simpa using x2)
    have a3 := En1.offNew N1 (a := c1.pb) (.tail _ (.tail _ (.head _))) (by simpa using x3)
    have a4 := En1.offNew N1 (a := c1.cc) (o := c1.oc) (by simp) (by simpa using x4)
    have aL := En1.allOld N1 (p := (L + 1 + 1 + 1 + 1 + 1 + 1, _)) (.tail _ (.tail _ (.tail _ (.head _)))) (by simp; omega)
    obtain ⟨q1, q2, q3, q4, q5, q6, q7, q8, q9, -⟩ := aL
    obtain ⟨F2, N2⟩ := En1.out (mu := [(_, _)]) F1 N1 rfl ⟨⟨nD, by omega, by omega, At⟩, trivial⟩
    clear F1 N1
    obtain ⟨R2, hR2⟩ : ∃ R2 : List (Addr × Obj), R2 = (c1.d, c1.D w 1 v1) :: (c1.at_, listOf #[.int 0 ti1] 0) :: (c1.pb, listOf #[] 0) :: (c1.x, instObj 59 c1.d) :: (c1.fn, lamObj c1.ct c1.ca c1.cc c1.pm c1.ctv) :: (c1.ct, c1.o1) :: (c1.ca, c1.o2) :: (D3, LCg.lst ys) :: (L + 1 + 1 + 1 + 1 + 1, oW) :: (L + 1 + 1 + 1 + 1 + 1 + 1, oc) :: rest := ⟨_, rfl⟩
    replace N2 : News g L h5 ((138, tabObj ps) :: (c1.cc, c1.oc) :: R2) := news_sub N2 (by rw [hR2]; exact lx_sub)
    have k1 := ok1.d1
    have k2 := ok1.d2
    have o138 : AllNe 138 R2 := by
      rw [hR2]
      exact ⟨x1, x2, x3, ne_obj (hr1 _ (.head _)) ht1' nofun, ne_obj (hr1 _ (.tail _ (.head _))) ht1' nofun, ne_obj (hr1 _ (.tail _ (.tail _ (.head _)))) ht1' (by rw [k1]; nofun), ne_obj (hr1 _ (.tail _ (.tail _ (.tail _ (.head _))))) ht1' (by rw [k2]; nofun), nD, by omega, by omega, At⟩
    have occ : AllNe c1.cc R2 := by
      have z := hr1 _ (.tail _ (.tail _ (.tail _ (.tail _ (.head _)))))
      obtain ⟨vs, tv, e1, e2⟩ := ok1.dc
      rw [hR2]
      exact ⟨ne_obj (hm1 _ (.head _)) z (by rw [e1]; nofun), ne_obj (hm1 _ (.tail _ (.head _))) z (by rw [e1]; nofun), ne_obj (hm1 _ (.tail _ (.tail _ (.head _)))) z (by rw [e1]; nofun), ne_obj (hr1 _ (.head _)) z (by rw [e1]; nofun), ne_obj (hr1 _ (.tail _ (.head _))) z (by rw [e1]; nofun), ne_obj (hr1 _ (.tail _ (.tail _ (.head _)))) z (by rw [k1, e1]; nofun), ne_obj (hr1 _ (.tail _ (.tail _ (.tail _ (.head _))))) z (by rw [k2, e1]; nofun), a4.2⟩
    dsimp only
    walk_at "go"
    (with_reducible rename News _ _ _ _ => N1)
    (with_reducible rename Fr _ _ _ _ => F1)
    refine Hold.in (wpAny_call (lexer2_c ⟨X, T⟩ (Fr.keep (by k_asm)) (led_of N1 (by kcj_all)) hps hcc ok1.dc x4 hC (by show dp + 1 + 18 < _; exact dlt hd (by decide)) (by decide +kernel) ?_))
    intro h6 tk6 c2 v2 ti2 En2 ok2 ht2 hc2
    have hm2 : ∀ p ∈ c2.mu w 1 v2 0 ti2 [] 0, h6.get? p.1 = some p.2 := fun p hp => (En2.has p (List.mem_append_left _ hp)).1
    have hr2 : c2.At h6 := fun p hp => (En2.has p (List.mem_append_right _ (List.mem_append_left _ hp))).1
    have ht2' := (En2.has (138, tabObj ps) (by simp)).1
    have zc := hr2 _ (.tail _ (.tail _ (.tail _ (.tail _ (.head _)))))
    rw [hc2] at zc
    obtain ⟨vs, tv, e1, e2⟩ := id ok2.dc
    have y1 : c2.d ∉ [138, c1.cc] := by simpa using ⟨ne_obj (hm2 _ (.head _)) ht2' nofun, ne_obj (hm2 _ (.head _)) zc (by rw [e1]; nofun)⟩
    have y2 : c2.at_ ∉ [138, c1.cc] := by simpa using ⟨ne_obj (hm2 _ (.tail _ (.head _))) ht2' nofun, ne_obj (hm2 _ (.tail _ (.head _))) zc (by rw [e1]; nofun)⟩
    have y3 : c2.pb ∉ [138, c1.cc] := by simpa using ⟨ne_obj (hm2 _ (.tail _ (.tail _ (.head _)))) ht2' nofun, ne_obj (hm2 _ (.tail _ (.tail _ (.head _)))) zc (by rw [e1]; nofun)⟩
    have b1 := En2.offNew N1 (a := c2.d) (.head _) y1
    have b2 := En2.offNew N1 (a := c2.at_) (.tail _ (.head _)) y2
    have b3 := En2.offNew N1 (a := c2.pb) (.tail _ (.tail _ (.head _))) y3
    have bL := En2.allOld N1 (p := (L + 1 + 1 + 1 + 1 + 1 + 1, oc)) (by rw [hR2]; repeat (first | exact .head _ | refine .tail _ ?_)) (by simp only [List.mem_cons, List.not_mem_nil, or_false, not_or]; exact ⟨by show ¬ @Eq Nat _ _; omega, fun e => q8 e.symm⟩)
    obtain ⟨r1, r2, r3, r4, r5, r6, r7, r8, -⟩ := bL
    obtain ⟨F2, N2⟩ := En2.out (mu := [(_, _), (_, _)]) F1 N1 rfl ⟨o138, occ, trivial⟩
    clear F1 N1
    subst hR2
    have hm1' : ∀ p ∈ ({ c1 with oc := c2.oc } : Lx).mu w 1 v1 0 ti1 [] 0, h6.get? p.1 = some p.2 := fun p hp => (N2 p (List.mem_append_right _ (by simp only [List.mem_cons, List.not_mem_nil, or_false] at hp ⊢; rcases hp with h | h | h <;> simp [h]))).1
    have hr1' : ({ c1 with oc := c2.oc } : Lx).At h6 := fun p hp => by
      simp only [List.mem_cons, List.not_mem_nil, or_false] at hp
      rcases hp with h | h | h | h | h
      · exact (N2 p (List.mem_append_right _ (by simp [h]))).1
      · exact (N2 p (List.mem_append_right _ (by simp [h]))).1
      · exact (N2 p (List.mem_append_right _ (by simp [h]))).1
      · exact (N2 p (List.mem_append_right _ (by simp [h]))).1
      · rw [h]; exact zc
    have ok1' : ({ c1 with oc := c2.oc } : Lx).Ok := ⟨ok1.d1, ok1.d2, ok2.dc, ok1.ne, ok1.len⟩
    have LT : LexTwo g L h6 w { c1 with oc := c2.oc } c2 1 v1 0 ti1 0 1 v2 0 ti2 [] 0 ((138, tabObj ps) :: (D3, LCg.lst ys) :: (L + 1 + 1 + 1 + 1 + 1, oW) :: (L + 1 + 1 + 1 + 1 + 1 + 1, oc) :: rest) := by
      refine ⟨news_sub N2 (by rw [← hc2]; exact lx_sub2), ⟨b1.2.2.1, b2.2.2.1, b3.2.2.1, b1.2.2.2.1, b2.2.2.2.1, b3.2.2.2.1, b1.2.2.2.2.1, b2.2.2.2.2.1, b3.2.2.2.2.1⟩, ?_, ok1', ok2⟩
      refine AllOff.six ((ro_off hr1' ok1' hm1').app ((ro_off hr2 ok2 hm1').app ⟨a1, a2, a3, trivial⟩)) ((ro_off hr1' ok1' hm2).app ((ro_off hr2 ok2 hm2).app ⟨⟨b1.1, b1.2.2.2.2.2.2.2.2.2⟩, ⟨b2.1, b2.2.2.2.2.2.2.2.2.2⟩, ⟨b3.1, b3.2.2.2.2.2.2.2.2.2⟩, trivial⟩))
    obtain ⟨R, hR⟩ : ∃ R : List (Addr × Obj), R = two w { c1 with oc := c2.oc } c2 1 v1 0 ti1 0 1 v2 0 ti2 [] 0 ++ (({ c1 with oc := c2.oc } : Lx).ro ++ (c2.ro ++ ((138, tabObj ps) :: (D3, LCg.lst ys) :: (L + 1 + 1 + 1 + 1 + 1, oW) :: rest))) := ⟨_, rfl⟩
    have AR : AllNe (L + 1 + 1 + 1 + 1 + 1 + 1) R := by
      rw [hR]
      have k1 : AllNe (L + 1 + 1 + 1 + 1 + 1 + 1) (two w { c1 with oc := c2.oc } c2 1 v1 0 ti1 0 1 v2 0 ti2 [] 0) := ⟨q1, q2, q3, r1, r2, r3, trivial⟩
      have k2 : AllNe (L + 1 + 1 + 1 + 1 + 1 + 1) ({ c1 with oc := c2.oc } : Lx).ro := ⟨q4, q5, q6, q7, q8, trivial⟩
      have k3 : AllNe (L + 1 + 1 + 1 + 1 + 1 + 1) c2.ro := ⟨r4, r5, r6, r7, r8, trivial⟩
      exact k1.app (k2.app (k3.app ⟨q9, nL, by show @Ne Nat _ _; walk_at "ne", Al⟩))
    have N : News g L h6 ((L + 1 + 1 + 1 + 1 + 1 + 1, oc) :: R) := news_sub LT.N (by rw [hR]; exact fun p hp => lx_line.mem_iff.mp hp)
    clear N2 b1 b2 b3 a1 a2 a3 a4 hm1 hm2 hm1' hr1 hr1' hr2
    dsimp only
    walk_at "go"
    (with_reducible rename Fr _ _ _ _ => F9)
    (with_reducible rename News _ _ _ _ => N9)
    (rename (_ = Data.cell (some (Value.ref c2.x))) => dL)
    exact Hold.in (hnext _ _ _ { c1 with oc := c2.oc } c2 v1 v2 ti1 ti2 ps D3 ys oW _ tt F9 rfl dL rfl rfl ⟨news_sub N9 (by rw [hR]; exact fun p hp => lx_line.mem_iff.mpr hp), LT.ap, LT.off.swap rfl, LT.ok1, LT.ok2⟩ (by rw [← wordsP_len 0 ld]; exact ht1) ht2 hps hy dW)
end
section
variable {w : World} {lo : List Str} {mean : ExcName → Option Value} {mg mb : Str → Option Value} {b₀ : Heap} {dp un : Nat} {fr : Option (List Env)} {gd : Option (List Code)} {s : Shared} {R : Result → Shared → Prop}
set_option maxRecDepth 100000 in
set_option maxHeartbeats 2000000 in
theorem law_t3 {g : Heap} {L fa : Nat} {cd : Value} {m : Str → Option Value} {Q : Flow → Shared → Prop} {E : Value → Shared → Prop} {ow ol : Obj} {c1 c2 : Lx} {v1 v2 t1 t2 : Tok} {wL : Nat} {ys : List Value} {us : List Str} {fin : List Nat} {rest : List (Addr × Obj)}
    (X : (Mine.hd.heap_1 w.params).In g) (T : Top topProg lo mean mg mb g) (F : Fr g L s.heap m) (m1 : m (Str.ofString "file") = some (.ref c1.x)) (dl : ol.data = .cell (some (.ref c2.x)))
    (LT : LexTwo g L s.heap w c1 c2 1 v1 0 t1 0 1 v2 0 t2 [] 0 ((wL, LCg.lst ys) :: (L + 1 + 1 + 1 + 1 + 1, ow) :: (L + 1 + 1 + 1 + 1 + 1 + 1, ol) :: rest)) (dw : ow.data = .cell (some (.ref wL))) (hy : StrsAre ys us)
    (hr : Reads c1.text.cps.toList us fin) (hn : us.length ≤ 100) (hn0 : 0 < us.length) (hnd : us.Nodup) (hlen : ∀ u ∈ us, u.length ≤ 1000000)
    (hd : dp + 98 < recursionLimit)
    (hnext : ∀ h' tk' m' out ovs eo l1 v1 i1 t1 e1 l2 v2 i2 t2 pend e2, Fr g L h' m' → m' (Str.ofString "ends") = some (.ref out) → (∀ y, y ≠ Str.ofString "ends" → m' y = m y) →
      LexTwo g L h' w c1 c2 l1 v1 i1 t1 e1 l2 v2 i2 t2 pend e2 ((out, listOf ovs.toArray eo) :: (wL, LCg.lst ys) :: (L + 1 + 1 + 1 + 1 + 1, ow) :: (L + 1 + 1 + 1 + 1 + 1 + 1, ol) :: rest) → StrsAre ovs (endsOf ltW us.length us).1 → StrsAre pend (endsOf ltW us.length us).2 → c1.text.cps.toList.drop i1 = fin → l1 + nls fin = 1 + nls c1.text.cps.toList →
      wpAny (model P w) (Around.deeper (Ar dp fr gd un) (lawEnv L fa cd)) (execs (lawB.drop 11) (lawEnv L fa cd)) Q E { s with heap := h', toks := tk' }) :
    wpAny (model P w) (Around.deeper (Ar dp fr gd un) (lawEnv L fa cd)) (execs (lawB.drop 10) (lawEnv L fa cd)) Q E s := by
  k_with_none
  k_with "ne" => ((first | with_reducible assumption | exact Ne.symm (by with_reducible assumption) | exact Nat.ne_of_lt (by with_reducible assumption) | exact Nat.ne_of_gt (by with_reducible assumption) | (refine Nat.ne_of_lt ?_; (repeat (first | exact Nat.lt_succ_self _ | with_reducible assumption | refine Nat.lt_succ_of_lt ?_)); done) | (refine Nat.ne_of_gt ?_; (repeat (first | exact Nat.lt_succ_self _ | with_reducible assumption | refine Nat.lt_succ_of_lt ?_)); done) | exact Nat.ne_of_lt (And.left (by with_reducible assumption)) | exact Nat.ne_of_gt (And.left (by with_reducible assumption)) | exact (And.left (by with_reducible assumption)) | exact Ne.symm (And.left (by with_reducible assumption)) | exact Nat.ne_of_lt (And.left (And.right (by with_reducible assumption))) | exact Nat.ne_of_lt (And.right (by with_reducible assumption)) | exact Nat.ne_of_gt (And.left (And.right (by with_reducible assumption))) | exact Nat.ne_of_gt (And.right (by with_reducible assumption)) | exact (And.left (And.right (by with_reducible assumption))) | exact Ne.symm (And.left (And.right (by with_reducible assumption))) | exact (And.right (by with_reducible assumption)) | exact Ne.symm (And.right (by with_reducible assumption)) | exact Nat.ne_of_lt (And.left (And.right (And.right (by with_reducible assumption)))) | exact Nat.ne_of_lt (And.right (And.right (by with_reducible assumption))) | exact Nat.ne_of_gt (And.left (And.right (And.right (by with_reducible assumption)))) | exact Nat.ne_of_gt (And.right (And.right (by with_reducible assumption))) | exact (And.left (And.right (And.right (by with_reducible assumption)))) | exact Ne.symm (And.left (And.right (And.right (by with_reducible assumption)))) | exact (And.right (And.right (by with_reducible assumption))) | exact Ne.symm (And.right (And.right (by with_reducible assumption))) | exact Nat.ne_of_lt (And.left (And.right (And.right (And.right (by with_reducible assumption))))) | exact Nat.ne_of_lt (And.right (And.right (And.right (by with_reducible assumption)))) | exact Nat.ne_of_gt (And.left (And.right (And.right (And.right (by with_reducible assumption))))) | exact Nat.ne_of_gt (And.right (And.right (And.right (by with_reducible assumption)))) | exact (And.left (And.right (And.right (And.right (by with_reducible assumption))))) | exact Ne.symm (And.left (And.right (And.right (And.right (by with_reducible assumption))))) | exact (And.right (And.right (And.right (by with_reducible assumption)))) | exact Ne.symm (And.right (And.right (And.right (by with_reducible assumption)))) | exact Nat.ne_of_lt (And.left (And.right (And.right (And.right (And.right (by with_reducible assumption)))))) | exact Nat.ne_of_lt (And.right (And.right (And.right (And.right (by with_reducible assumption))))) | exact Nat.ne_of_gt (And.left (And.right (And.right (And.right (And.right (by with_reducible assumption)))))) | exact Nat.ne_of_gt (And.right (And.right (And.right (And.right (by with_reducible assumption))))) | exact (And.left (And.right (And.right (And.right (And.right (by with_reducible assumption)))))) | exact Ne.symm (And.left (And.right (And.right (And.right (And.right (by with_reducible assumption)))))) | exact (And.right (And.right (And.right (And.right (by with_reducible assumption))))) | exact Ne.symm (And.right (And.right (And.right (And.right (by with_reducible assumption))))) | exact Nat.ne_of_lt (And.left (And.right (And.right (And.right (And.right (And.right (by with_reducible assumption))))))) | exact Nat.ne_of_lt (And.right (And.right (And.right (And.right (And.right (by with_reducible assumption)))))) | exact Nat.ne_of_gt (And.left (And.right (And.right (And.right (And.right (And.right (by with_reducible assumption))))))) | exact Nat.ne_of_gt (And.right (And.right (And.right (And.right (And.right (by with_reducible assumption)))))) | exact (And.left (And.right (And.right (And.right (And.right (And.right (by with_reducible assumption))))))) | exact Ne.symm (And.left (And.right (And.right (And.right (And.right (And.right (by with_reducible assumption))))))) | exact (And.right (And.right (And.right (And.right (And.right (by with_reducible assumption)))))) | exact Ne.symm (And.right (And.right (And.right (And.right (And.right (by with_reducible assumption)))))) | exact Nat.ne_of_lt (And.left (And.right (And.right (And.right (And.right (And.right (And.right (by with_reducible assumption)))))))) | exact Nat.ne_of_lt (And.right (And.right (And.right (And.right (And.right (And.right (by with_reducible assumption))))))) | exact Nat.ne_of_gt (And.left (And.right (And.right (And.right (And.right (And.right (And.right (by with_reducible assumption)))))))) | exact Nat.ne_of_gt (And.right (And.right (And.right (And.right (And.right (And.right (by with_reducible assumption))))))) | exact (And.left (And.right (And.right (And.right (And.right (And.right (And.right (by with_reducible assumption)))))))) | exact Ne.symm (And.left (And.right (And.right (And.right (And.right (And.right (And.right (by with_reducible assumption)))))))) | exact (And.right (And.right (And.right (And.right (And.right (And.right (by with_reducible assumption))))))) | exact Ne.symm (And.right (And.right (And.right (And.right (And.right (And.right (by with_reducible assumption))))))) | exact Nat.ne_of_lt (And.left (And.right (And.right (And.right (And.right (And.right (And.right (And.right (by with_reducible assumption))))))))) | exact Nat.ne_of_lt (And.right (And.right (And.right (And.right (And.right (And.right (And.right (by with_reducible assumption)))))))) | exact Nat.ne_of_gt (And.left (And.right (And.right (And.right (And.right (And.right (And.right (And.right (by with_reducible assumption))))))))) | exact Nat.ne_of_gt (And.right (And.right (And.right (And.right (And.right (And.right (And.right (by with_reducible assumption)))))))) | exact (And.left (And.right (And.right (And.right (And.right (And.right (And.right (And.right (by with_reducible assumption))))))))) | exact Ne.symm (And.left (And.right (And.right (And.right (And.right (And.right (And.right (And.right (by with_reducible assumption))))))))) | exact (And.right (And.right (And.right (And.right (And.right (And.right (And.right (by with_reducible assumption)))))))) | exact Ne.symm (And.right (And.right (And.right (And.right (And.right (And.right (And.right (by with_reducible assumption)))))))) | exact Nat.ne_of_lt (And.left (And.right (And.right (And.right (And.right (And.right (And.right (And.right (And.right (by with_reducible assumption)))))))))) | exact Nat.ne_of_lt (And.right (And.right (And.right (And.right (And.right (And.right (And.right (And.right (by with_reducible assumption))))))))) | exact Nat.ne_of_gt (And.left (And.right (And.right (And.right (And.right (And.right (And.right (And.right (And.right (by with_reducible assumption)))))))))) | exact Nat.ne_of_gt (And.right (And.right (And.right (And.right (And.right (And.right (And.right (And.right (by with_reducible assumption))))))))) | exact (And.left (And.right (And.right (And.right (And.right (And.right (And.right (And.right (And.right (by with_reducible assumption)))))))))) | exact Ne.symm (And.left (And.right (And.right (And.right (And.right (And.right (And.right (And.right (And.right (by with_reducible assumption)))))))))) | exact (And.right (And.right (And.right (And.right (And.right (And.right (And.right (And.right (by with_reducible assumption))))))))) | exact Ne.symm (And.right (And.right (And.right (And.right (And.right (And.right (And.right (And.right (by with_reducible assumption))))))))) | exact Nat.ne_of_lt (And.left (And.right (And.right (And.right (And.right (And.right (And.right (And.right (And.right (And.right (by with_reducible assumption))))))))))) | exact Nat.ne_of_lt (And.right (And.right (And.right (And.right (And.right (And.right (And.right (And.right (And.right (by with_reducible assumption)))))))))) | exact Nat.ne_of_gt (And.left (And.right (And.right (And.right (And.right (And.right (And.right (And.right (And.right (And.right (by with_reducible assumption))))))))))) | exact Nat.ne_of_gt (And.right (And.right (And.right (And.right (And.right (And.right (And.right (And.right (And.right (by with_reducible assumption)))))))))) | exact (And.left (And.right (And.right (And.right (And.right (And.right (And.right (And.right (And.right (And.right (by with_reducible assumption))))))))))) | exact Ne.symm (And.left (And.right (And.right (And.right (And.right (And.right (And.right (And.right (And.right (And.right (by with_reducible assumption))))))))))) | exact (And.right (And.right (And.right (And.right (And.right (And.right (And.right (And.right (And.right (by with_reducible assumption)))))))))) | exact Ne.symm (And.right (And.right (And.right (And.right (And.right (And.right (And.right (And.right (And.right (by with_reducible assumption)))))))))) | exact Nat.ne_of_lt (And.left (And.right (And.right (And.right (And.right (And.right (And.right (And.right (And.right (And.right (And.right (by with_reducible assumption)))))))))))) | exact Nat.ne_of_lt (And.right (And.right (And.right (And.right (And.right (And.right (And.right (And.right (And.right (And.right (by with_reducible assumption))))))))))) | exact Nat.ne_of_gt (And.left (And.right (And.right (And.right (And.right (And.right (And.right (And.right (And.right (And.right (And.right (by with_reducible assumption)))))))))))) | exact Nat.ne_of_gt (And.right (And.right (And.right (And.right (And.right (And.right (And.right (And.right (And.right (And.right (by with_reducible assumption))))))))))) | exact (And.left (And.right (And.right (And.right (And.right (And.right (And.right (And.right (And.right (And.right (And.right (by with_reducible assumption)))))))))))) | exact Ne.symm (And.left (And.right (And.right (And.right (And.right (And.right (And.right (And.right (And.right (And.right (And.right (by with_reducible assumption)))))))))))) | exact (And.right (And.right (And.right (And.right (And.right (And.right (And.right (And.right (And.right (And.right (by with_reducible assumption))))))))))) | exact Ne.symm (And.right (And.right (And.right (And.right (And.right (And.right (And.right (And.right (And.right (And.right (by with_reducible assumption)))))))))))))
  k_with "exec For Name Attribute cons nil" => (k_dflt (refine for_exec ?_))
  k_with "exec For Name Name cons nil" => (k_dflt (refine for_exec ?_))
  k_with "exec For Name Call cons nil" => (k_dflt (refine for_exec ?_))
  k_with "call type:tuple" => ((k_here; (with_reducible show wpAny _ _ (call (Value.type _) [Value.ref _]) _ _ _); k_dflt (refine' tupleOf_c (by k_asm) (by k_asm) (by k_mem) (by ((have hL9 := IntsAre.length (by assumption)); rw [sizeLine_eq]; omega)) ?_; k_whole); intro _ _ _ _ l19q; (try k_lt l19q); (try k_sweep)))
  k_with "call builtin:len" => ((k_here; (with_reducible show wpAny _ _ (call (Value.builtin "len") [Value.ref _]) _ _ _); k_dflt (refine' len_tupI (by k_asm) (by with_reducible assumption) (by with_reducible assumption) (by omega) ?_; k_whole); intro _ _))
  k_with "execs cons" => ((k_dflt (refine execs_n (s := ‹Shared›) ?_); intro _; (try k_fold)))
  k_with "exec If BoolOp cons nil" => (((fail_if_success (with_reducible show wpAny _ _ _ (Cut _ _) _ _)); refine Hold.out ?_))
  k_with "out" => (repeat (first | (k_unfold; (try dsimp only)) | refine cut_ret ?_ | refine turn_ret ?_))
  k_with "go" => ((w_top off; repeat' (first | (k_unfold; (try dsimp only)) | walk1 | (dsimp only; walk1))))
  k_with "call ref" => ((first | (with_reducible show wpAny _ _ (call (Value.ref 165) _ _) _ _ _) | (with_reducible show wpAny _ _ (call (Value.ref 172) _ _) _ _ _)); refine Hold.out ?_)
  k_with "execs cons" => (((with_reducible show wpAny _ _ (execs [_, _, _, _, _, _] _) _ _ _); refine Hold.out ?_))
  obtain ⟨sc, hsc⟩ : ∃ sc, sc = lawSc := ⟨_, rfl⟩
  obtain ⟨B, hB⟩ : ∃ B, B = lawB.drop 10 := ⟨_, rfl⟩
  unfold lawEnv
  rw [← hsc, ← hB]
  conv at hsc => rhs; whnf
  conv at hB => rhs; whnf
  subst hsc hB
  replace F := know (x := Str.ofString "file") F m1
  have N := LT.N
  walk_at "go"
  (with_reducible rename Fr _ _ _ _ => F1)
  (with_reducible rename News _ _ _ _ => N1)
  replace LT := LT.at N1
  refine Hold.in (wpAny_call (told_c ⟨X, T⟩ (Fr.keep F1) (News.isList (n := ys.length) N1 (List.mem_append_right _ (List.mem_append_right _ (List.mem_append_right _ (.head _))))) hy hnd hn hlen (by show dp + 1 + 28 < _; exact dlt hd (by decide)) ?_))
  intro h4 tk4 D o Ew kvs En1 hdo hlo hkv hws
  have hDict := dict_hid (M := [c1.d, c1.at_, c1.pb, c2.d, c2.at_, c2.pb]) En1 (fun a ha q => two_not N1 q ha) hdo hlo hkv hws hnd hlen
  obtain ⟨F2, N2⟩ := En1.out (mu := []) F1 N1 rfl trivial
  clear N1 F1
  replace N2 := news_sub N2 fun p hp => List.mem_append_right _ hp
  replace LT := LT.at N2
  clear En1 hws
  dsimp only
  walk_at "go"
  (with_reducible rename Fr _ _ _ _ => F1)
  (with_reducible rename News _ _ _ _ => N1)
  replace LT := LT.at N1
  refine Hold.in (wpAny_call (ends_c (us := us) (fin := fin) ⟨X, T⟩ (Fr.keep F1) (led_of N1 fun p hp => List.mem_append_left _ hp) LT.ap LT.hid1.1 LT.hid1.2 LT.ok1 LT.ok2 hDict hr hn hn0 (by show dp + 1 + 68 < _; exact dlt hd (by decide)) ?_))
  intro h5 tk5 out ovs eo l1' v1' i1' t1' e1' l2' v2' i2' t2' pend e2' En2 ho hpend hdrop hline oo
  obtain ⟨F2, N2⟩ := En2.out (mu := two w c1 c2 1 v1 0 t1 0 1 v2 0 t2 [] 0) F1 N1 rfl LT.off
  clear N1 F1 hDict En2
  have LT2 : LexTwo g L h5 w c1 c2 l1' v1' i1' t1' e1' l2' v2' i2' t2' pend e2' ((out, listOf ovs.toArray eo) :: (wL, LCg.lst ys) :: (L + 1 + 1 + 1 + 1 + 1, ow) :: (L + 1 + 1 + 1 + 1 + 1 + 1, ol) :: rest) :=
    ⟨news_sub N2 two_turn, LT.ap, off_turn oo LT.off, LT.ok1, LT.ok2⟩
  clear N2 LT
  have N := LT2.N
  dsimp only
  walk_at "go"
  (with_reducible rename Fr _ _ _ _ => F9)
  (with_reducible rename News _ _ _ _ => N9)
  exact Hold.in (hnext _ _ _ out ovs eo _ _ _ _ _ _ _ _ _ _ _ F9 rfl (fun y hy => (if_neg hy).trans (know1 m1 y)) (LT2.at N9) ho hpend hdrop hline)
end
section
variable {w : World} {lo : List Str} {mean : ExcName → Option Value} {mg mb : Str → Option Value} {b₀ : Heap} {dp un : Nat} {fr : Option (List Env)} {gd : Option (List Code)} {s : Shared} {R : Result → Shared → Prop}
theorem off1_ne {D : Nat} : ∀ {l : List (Addr × Obj)}, LCg.Off1 D l → ∀ p ∈ l, @Ne Nat p.1 D
  | [], _, _, h => nomatch h
  | _ :: _, x, p, h => by
    rcases List.mem_cons.mp h with rfl | h
    · exact x.1
    · exact off1_ne x.2 p h
structure RwJ (es : List Str) (f : Str → Nat) (news : List (Addr × Obj)) (i : Nat) (ys : List Value) (news' : List (Addr × Obj)) : Prop where
  e : news' = news
  hy : IntsAre ys (up ((es.take i).map f))
theorem RwJ.next {es : List Str} {f : Str → Nat} {news news' : List (Addr × Obj)} {i : Nat} {ys : List Value} {u : Str} {x : Nat} {t : Tok} (h : RwJ es f news i ys news') (hu : es[i]? = some u) (hx : x = f u) : RwJ es f news (i + 1) (ys ++ [.int x t]) news' := by
  refine ⟨h.e, ?_⟩
  obtain ⟨hi, e⟩ := List.getElem?_eq_some_iff.mp hu
  rw [List.take_succ_eq_append_getElem hi, List.map_append, up, List.map_append, e, hx]
  exact h.hy.append (.cons _ t .nil)
set_option maxRecDepth 100000 in
set_option maxHeartbeats 2000000 in
theorem law_t4 {g : Heap} {L fa : Nat} {cd : Value} {m : Str → Option Value} {Q : Flow → Shared → Prop} {E : Value → Shared → Prop} {ow oce : Obj} {Cl wL out cc eo : Nat} {cls : List CellO} {ys ovs : List Value} {us es : List Str} {rest : List (Addr × Obj)}
    (X : (Mine.hd.heap_1 w.params).In g) (T : Top topProg lo mean mg mb g) (F : Fr g L s.heap m) (m1 : m (Str.ofString "ends") = some (.ref out))
    (N : News g L s.heap ((out, listOf ovs.toArray eo) :: (wL, LCg.lst ys) :: (L + 1 + 1 + 1 + 1 + 1, ow) :: (L + 1 + 1 + 1, oce) :: (Cl, listOf (cellRefs cls).toArray cc) :: (cellsLed cls ++ rest)))
    (dw : ow.data = .cell (some (.ref wL))) (dce : oce.data = .cell (some (.ref Cl)))
    (hy : StrsAre ys us) (ho : StrsAre ovs es) (hlen : us.length = cls.length) (hn : cls.length ≤ 10) (hel : es.length ≤ 10) (hin : ∀ u ∈ es, u ∈ us)
    (hd : dp + 98 < recursionLimit)
    (hnext : ∀ h' tk' m' rL rv, Fr g L h' m' → m' (Str.ofString "rows") = some (.ref rL) → (∀ y, y ≠ Str.ofString "rows" → m' y = m y) →
      News g L h' ((rL, LCg.lst rv) :: (out, listOf ovs.toArray eo) :: (wL, LCg.lst ys) :: (L + 1 + 1 + 1 + 1 + 1, ow) :: (L + 1 + 1 + 1, oce) :: (Cl, listOf (cellRefs cls).toArray cc) :: (cellsLed cls ++ rest)) → IntsAre rv (up (es.map fun u => ((pairsOf cls).getD (us.idxOf u) (0, 0)).1)) → (∀ p ∈ ((out, listOf ovs.toArray eo) :: (wL, LCg.lst ys) :: (L + 1 + 1 + 1 + 1 + 1, ow) :: (L + 1 + 1 + 1, oce) :: (Cl, listOf (cellRefs cls).toArray cc) :: (cellsLed cls ++ rest)), @Ne Nat p.1 rL) →
      wpAny (model P w) (Around.deeper (Ar dp fr gd un) (lawEnv L fa cd)) (execs (lawB.drop 12) (lawEnv L fa cd)) Q E { s with heap := h', toks := tk' }) :
    wpAny (model P w) (Around.deeper (Ar dp fr gd un) (lawEnv L fa cd)) (execs (lawB.drop 11) (lawEnv L fa cd)) Q E s := by
  k_with_none
  k_with "ne" => ((first | with_reducible assumption | exact Ne.symm (by with_reducible assumption) | exact Nat.ne_of_lt (by with_reducible assumption) | exact Nat.ne_of_gt (by with_reducible assumption) | (refine Nat.ne_of_lt ?_; (repeat (first | exact Nat.lt_succ_self _ | with_reducible assumption | refine Nat.lt_succ_of_lt ?_)); done) | (refine Nat.ne_of_gt ?_; (repeat (first | exact Nat.lt_succ_self _ | with_reducible assumption | refine Nat.lt_succ_of_lt ?_)); done) | exact Nat.ne_of_lt (And.left (by with_reducible assumption)) | exact Nat.ne_of_gt (And.left (by with_reducible assumption)) | exact (And.left (by with_reducible assumption)) | exact Ne.symm (And.left (by with_reducible assumption)) | exact Nat.ne_of_lt (And.left (And.right (by with_reducible assumption))) | exact Nat.ne_of_lt (And.right (by with_reducible assumption)) | exact Nat.ne_of_gt (And.left (And.right (by with_reducible assumption))) | exact Nat.ne_of_gt (And.right (by with_reducible assumption)) | exact (And.left (And.right (by with_reducible assumption))) | exact Ne.symm (And.left (And.right (by with_reducible assumption))) | exact (And.right (by with_reducible assumption)) | exact Ne.symm (And.right (by with_reducible assumption)) | exact Nat.ne_of_lt (And.left (And.right (And.right (by with_reducible assumption)))) | exact Nat.ne_of_lt (And.right (And.right (by with_reducible assumption))) | exact Nat.ne_of_gt (And.left (And.right (And.right (by with_reducible assumption)))) | exact Nat.ne_of_gt (And.right (And.right (by with_reducible assumption))) | exact (And.left (And.right (And.right (by with_reducible assumption)))) | exact Ne.symm (And.left (And.right (And.right (by with_reducible assumption)))) | exact (And.right (And.right (by with_reducible assumption))) | exact Ne.symm (And.right (And.right (by with_reducible assumption))) | exact Nat.ne_of_lt (And.left (And.right (And.right (And.right (by with_reducible assumption))))) | exact Nat.ne_of_lt (And.right (And.right (And.right (by with_reducible assumption)))) | exact Nat.ne_of_gt (And.left (And.right (And.right (And.right (by with_reducible assumption))))) | exact Nat.ne_of_gt (And.right (And.right (And.right (by with_reducible assumption)))) | exact (And.left (And.right (And.right (And.right (by with_reducible assumption))))) | exact Ne.symm (And.left (And.right (And.right (And.right (by with_reducible assumption))))) | exact (And.right (And.right (And.right (by with_reducible assumption)))) | exact Ne.symm (And.right (And.right (And.right (by with_reducible assumption)))) | exact Nat.ne_of_lt (And.left (And.right (And.right (And.right (And.right (by with_reducible assumption)))))) | exact Nat.ne_of_lt (And.right (And.right (And.right (And.right (by with_reducible assumption))))) | exact Nat.ne_of_gt (And.left (And.right (And.right (And.right (And.right (by with_reducible assumption)))))) | exact Nat.ne_of_gt (And.right (And.right (And.right (And.right (by with_reducible assumption))))) | exact (And.left (And.right (And.right (And.right (And.right (by with_reducible assumption)))))) | exact Ne.symm (And.left (And.right (And.right (And.right (And.right (by with_reducible assumption)))))) | exact (And.right (And.right (And.right (And.right (by with_reducible assumption))))) | exact Ne.symm (And.right (And.right (And.right (And.right (by with_reducible assumption))))) | exact Nat.ne_of_lt (And.left (And.right (And.right (And.right (And.right (And.right (by with_reducible assumption))))))) | exact Nat.ne_of_lt (And.right (And.right (And.right (And.right (And.right (by with_reducible assumption)))))) | exact Nat.ne_of_gt (And.left (And.right (And.right (And.right (And.right (And.right (by with_reducible assumption))))))) | exact Nat.ne_of_gt (And.right (And.right (And.right (And.right (And.right (by with_reducible assumption)))))) | exact (And.left (And.right (And.right (And.right (And.right (And.right (by with_reducible assumption))))))) | exact Ne.symm (And.left (And.right (And.right (And.right (And.right (And.right (by with_reducible assumption))))))) | exact (And.right (And.right (And.right (And.right (And.right (by with_reducible assumption)))))) | exact Ne.symm (And.right (And.right (And.right (And.right (And.right (by with_reducible assumption)))))) | exact Nat.ne_of_lt (And.left (And.right (And.right (And.right (And.right (And.right (And.right (by with_reducible assumption)))))))) | exact Nat.ne_of_lt (And.right (And.right (And.right (And.right (And.right (And.right (by with_reducible assumption))))))) | exact Nat.ne_of_gt (And.left (And.right (And.right (And.right (And.right (And.right (And.right (by with_reducible assumption)))))))) | exact Nat.ne_of_gt (And.right (And.right (And.right (And.right (And.right (And.right (by with_reducible assumption))))))) | exact (And.left (And.right (And.right (And.right (And.right (And.right (And.right (by with_reducible assumption)))))))) | exact Ne.symm (And.left (And.right (And.right (And.right (And.right (And.right (And.right (by with_reducible assumption)))))))) | exact (And.right (And.right (And.right (And.right (And.right (And.right (by with_reducible assumption))))))) | exact Ne.symm (And.right (And.right (And.right (And.right (And.right (And.right (by with_reducible assumption))))))) | exact Nat.ne_of_lt (And.left (And.right (And.right (And.right (And.right (And.right (And.right (And.right (by with_reducible assumption))))))))) | exact Nat.ne_of_lt (And.right (And.right (And.right (And.right (And.right (And.right (And.right (by with_reducible assumption)))))))) | exact Nat.ne_of_gt (And.left (And.right (And.right (And.right (And.right (And.right (And.right (And.right (by with_reducible assumption))))))))) | exact Nat.ne_of_gt (And.right (And.right (And.right (And.right (And.right (And.right (And.right (by with_reducible assumption)))))))) | exact (And.left (And.right (And.right (And.right (And.right (And.right (And.right (And.right (by with_reducible assumption))))))))) | exact Ne.symm (And.left (And.right (And.right (And.right (And.right (And.right (And.right (And.right (by with_reducible assumption))))))))) | exact (And.right (And.right (And.right (And.right (And.right (And.right (And.right (by with_reducible assumption)))))))) | exact Ne.symm (And.right (And.right (And.right (And.right (And.right (And.right (And.right (by with_reducible assumption)))))))) | exact Nat.ne_of_lt (And.left (And.right (And.right (And.right (And.right (And.right (And.right (And.right (And.right (by with_reducible assumption)))))))))) | exact Nat.ne_of_lt (And.right (And.right (And.right (And.right (And.right (And.right (And.right (And.right (by with_reducible assumption))))))))) | exact Nat.ne_of_gt (And.left (And.right (And.right (And.right (And.right (And.right (And.right (And.right (And.right (by with_reducible assumption)))))))))) | exact Nat.ne_of_gt (And.right (And.right (And.right (And.right (And.right (And.right (And.right (And.right (by with_reducible assumption))))))))) | exact (And.left (And.right (And.right (And.right (And.right (And.right (And.right (And.right (And.right (by with_reducible assumption)))))))))) | exact Ne.symm (And.left (And.right (And.right (And.right (And.right (And.right (And.right (And.right (And.right (by with_reducible assumption)))))))))) | exact (And.right (And.right (And.right (And.right (And.right (And.right (And.right (And.right (by with_reducible assumption))))))))) | exact Ne.symm (And.right (And.right (And.right (And.right (And.right (And.right (And.right (And.right (by with_reducible assumption))))))))) | exact Nat.ne_of_lt (And.left (And.right (And.right (And.right (And.right (And.right (And.right (And.right (And.right (And.right (by with_reducible assumption))))))))))) | exact Nat.ne_of_lt (And.right (And.right (And.right (And.right (And.right (And.right (And.right (And.right (And.right (by with_reducible assumption)))))))))) | exact Nat.ne_of_gt (And.left (And.right (And.right (And.right (And.right (And.right (And.right (And.right (And.right (And.right (by with_reducible assumption))))))))))) | exact Nat.ne_of_gt (And.right (And.right (And.right (And.right (And.right (And.right (And.right (And.right (And.right (by with_reducible assumption)))))))))) | exact (And.left (And.right (And.right (And.right (And.right (And.right (And.right (And.right (And.right (And.right (by with_reducible assumption))))))))))) | exact Ne.symm (And.left (And.right (And.right (And.right (And.right (And.right (And.right (And.right (And.right (And.right (by with_reducible assumption))))))))))) | exact (And.right (And.right (And.right (And.right (And.right (And.right (And.right (And.right (And.right (by with_reducible assumption)))))))))) | exact Ne.symm (And.right (And.right (And.right (And.right (And.right (And.right (And.right (And.right (And.right (by with_reducible assumption)))))))))) | exact Nat.ne_of_lt (And.left (And.right (And.right (And.right (And.right (And.right (And.right (And.right (And.right (And.right (And.right (by with_reducible assumption)))))))))))) | exact Nat.ne_of_lt (And.right (And.right (And.right (And.right (And.right (And.right (And.right (And.right (And.right (And.right (by with_reducible assumption))))))))))) | exact Nat.ne_of_gt (And.left (And.right (And.right (And.right (And.right (And.right (And.right (And.right (And.right (And.right (And.right (by with_reducible assumption)))))))))))) | exact Nat.ne_of_gt (And.right (And.right (And.right (And.right (And.right (And.right (And.right (And.right (And.right (And.right (by with_reducible assumption))))))))))) | exact (And.left (And.right (And.right (And.right (And.right (And.right (And.right (And.right (And.right (And.right (And.right (by with_reducible assumption)))))))))))) | exact Ne.symm (And.left (And.right (And.right (And.right (And.right (And.right (And.right (And.right (And.right (And.right (And.right (by with_reducible assumption)))))))))))) | exact (And.right (And.right (And.right (And.right (And.right (And.right (And.right (And.right (And.right (And.right (by with_reducible assumption))))))))))) | exact Ne.symm (And.right (And.right (And.right (And.right (And.right (And.right (And.right (And.right (And.right (And.right (by with_reducible assumption)))))))))))))
  k_with "exec For Name Attribute cons nil" => (k_dflt (refine for_exec ?_))
  k_with "exec For Name Name cons nil" => (k_dflt (refine for_exec ?_))
  k_with "exec For Name Call cons nil" => (k_dflt (refine for_exec ?_))
  k_with "call type:tuple" => ((k_here; (with_reducible show wpAny _ _ (call (Value.type _) [Value.ref _]) _ _ _); k_dflt (refine' tupleOf_c (by k_asm) (by k_asm) (by k_mem) (by ((have hL9 := IntsAre.length (by assumption)); rw [sizeLine_eq]; omega)) ?_; k_whole); intro _ _ _ _ l19q; (try k_lt l19q); (try k_sweep)))
  k_with "call builtin:len" => ((k_here; (with_reducible show wpAny _ _ (call (Value.builtin "len") [Value.ref _]) _ _ _); k_dflt (refine' len_tupI (by k_asm) (by with_reducible assumption) (by with_reducible assumption) (by omega) ?_; k_whole); intro _ _))
  k_with "execs cons" => ((k_dflt (refine execs_n (s := ‹Shared›) ?_); intro _; (try k_fold)))
  k_with "exec If BoolOp cons nil" => (((fail_if_success (with_reducible show wpAny _ _ _ (Cut _ _) _ _)); refine Hold.out ?_))
  k_with "out" => (repeat (first | (k_unfold; (try dsimp only)) | refine cut_ret ?_ | refine turn_ret ?_))
  k_with "go" => ((w_top off; repeat' (first | (k_unfold; (try dsimp only)) | walk1 | (dsimp only; walk1))))
  k_with "eval ListComp" => ((k_here; refine Hold.out ?_))
  k_with "exec Assign cons ListComp" => ((k_here; refine Hold.out ?_))
  k_with "CompEnd" => (refine Hold.out ?_)
  k_with "CompSrc" => (refine Hold.out ?_)
  k_with "subscriptTail" => (refine Hold.out ?_)
  k_with "call builtin:list.index" => (refine Hold.out ?_)
  k_with "execs cons" => (((with_reducible show wpAny _ _ (execs [_, _, _, _, _] _) _ _ _); refine Hold.out ?_))
  obtain ⟨sc, hsc⟩ : ∃ sc, sc = lawSc := ⟨_, rfl⟩
  obtain ⟨B, hB⟩ : ∃ B, B = lawB.drop 11 := ⟨_, rfl⟩
  unfold lawEnv
  rw [← hsc, ← hB]
  conv at hsc => rhs; whnf
  conv at hB => rhs; whnf
  subst hsc hB
  have hol := ho.len_eq
  replace F := know (x := Str.ofString "ends") F m1
  walk_at "go"
  refine Hold.in ?_
  k_here
  k_dflt (refine LCg.Assign_ListComp_U (F₀ := by k_asm) (by rfl) (by with_unfolding_all rfl) (by with_unfolding_all rfl) (by decide) (by rfl) (by decide) (by rfl) (by rfl) (by rfl) ?_)
  walk_at "go"
  refine Hold.in ?_
  k_here
  k_dflt (refine LCg.CompSrc.ledger (by rfl) (by k_asm) (by k_asm) (.head _) (by rw [sizeLine_eq, List.size_toArray]; omega) ?_)
  intro g'
  rw [List.size_toArray]
  refine comp_inv (RwJ es (fun u => ((pairsOf cls).getD (us.idxOf u) (0, 0)).1) _) ?_ ?_ ⟨rfl, .nil⟩
  · (try dsimp only)
    rintro i ys' _ hi ⟨rfl, hy'⟩ v I oI C oC D m₂ h tk E' hv hC hx F N off ne
    obtain ⟨u, tu, rfl, hu⟩ := ho.item i v (by simpa using hv)
    have hui := hin u (List.mem_of_getElem? hu)
    have hlt : us.idxOf u < cls.length := by rw [← hlen]; exact List.idxOf_lt_length_iff.mpr hui
    have hlt2 : us.idxOf u < us.length := by omega
    walk_at "go"
    (with_reducible rename News _ _ _ _ => N8)
    refine Hold.in (indexS N8 (by k_mem) hy hui (by omega) ?_)
    intro t9 tk9
    walk_at "go"
    (with_reducible rename News _ _ _ _ => N7)
    refine Hold.in (itemV N7 (by k_mem) (by omega) (by omega) (v := .ref (cls[us.idxOf u]).a) (by rw [Int.toNat_natCast, List.getElem?_map, List.getElem?_eq_getElem hlt]; rfl) ?_)
    walk_at "go"
    (with_reducible rename News _ _ _ _ => N6)
    refine Hold.in (item0 N6 ?_ ?_)
    · simp only [List.mem_cons, List.mem_append]; simp [List.mem_map_of_mem (f := CellO.led) (List.getElem_mem hlt)]
    walk_at "go"
    refine Hold.in (LCg.CompEnd.intro (by k_asm) (by k_asm) _ (by kcj_all) off (.inr ⟨_, .head _, rfl, _, rfl⟩) (RwJ.next ⟨rfl, hy'⟩ hu ?_))
    rw [List.getD, List.getElem?_map, List.getElem?_eq_getElem hlt]; rfl
  · rintro ys' _ ⟨rfl, hy'⟩
    rw [hol, List.take_length] at hy'
    unfold LCg.FinA
    intro D3 h3 tk3 F N o1
    (try dsimp only)
    walk_at "go"
    (with_reducible rename Fr _ _ _ _ => F9)
    (with_reducible rename News _ _ _ _ => N9)
    exact Hold.in (hnext _ _ _ D3 ys' F9 rfl (fun y hy => (if_neg hy).trans (know1 m1 y)) N9 hy' (off1_ne o1))
end
section
variable {w : World} {lo : List Str} {mean : ExcName → Option Value} {mg mb : Str → Option Value} {b₀ : Heap} {dp un : Nat} {fr : Option (List Env)} {gd : Option (List Code)} {s : Shared} {R : Result → Shared → Prop}
/-- between the turns of the last words' list -/
inductive LaJ (w : World) (c1 c2 : Lx) (l1 : Int) (v1 : Tok) (i1 : Nat) (t1 : Tok) (e1 : Nat) (l2 : Int) (v2 : Tok) (i2 : Nat) (t2 : Tok) (pend : List Value) (tail : List (Addr × Obj)) (i : Nat) (ys : List Value) (news' : List (Addr × Obj)) : Prop
  | mk (e2 : Nat) (hy : ys = pend.take i) (e : news' = two w c1 c2 l1 v1 i1 t1 e1 l2 v2 i2 t2 (pend.drop i) e2 ++ tail)
theorem two_swap3 {x y z a b c d e f : Addr × Obj} {R : List (Addr × Obj)} : ∀ p ∈ [d, e, f] ++ (x :: y :: z :: ([a, b, c] ++ R)), p ∈ x :: y :: z :: ([a, b, c, d, e, f] ++ R) := fun p hp => by
  simp only [List.mem_append, List.mem_cons, List.not_mem_nil, or_false] at hp ⊢
  rcases hp with (h | h | h) | h | h | h | (h | h | h) | h <;> simp [h]
theorem two_swap4 {x y z a b c d e f : Addr × Obj} {R : List (Addr × Obj)} : ∀ p ∈ x :: y :: z :: ([a, b, c, d, e, f] ++ R), p ∈ [d, e, f] ++ (x :: y :: z :: ([a, b, c] ++ R)) := fun p hp => by
  simp only [List.mem_append, List.mem_cons, List.not_mem_nil, or_false] at hp ⊢
  rcases hp with h | h | h | (h | h | h | h | h | h) | h <;> simp [h]
set_option maxRecDepth 100000 in
set_option maxHeartbeats 2000000 in
theorem law_t5 {g : Heap} {L fa : Nat} {cd : Value} {m : Str → Option Value} {Q : Flow → Shared → Prop} {E : Value → Shared → Prop} {ow ol : Obj} {c1 c2 : Lx} {l1 l2 : Int} {i1 i2 e1 e2 : Nat} {v1 v2 t1 t2 : Tok} {wL : Nat} {ys pend : List Value} {rest : List (Addr × Obj)}
    (X : (Mine.hd.heap_1 w.params).In g) (T : Top topProg lo mean mg mb g) (F : Fr g L s.heap m)
    (LT : LexTwo g L s.heap w c1 c2 l1 v1 i1 t1 e1 l2 v2 i2 t2 pend e2 ((wL, LCg.lst ys) :: (L + 1 + 1 + 1 + 1 + 1, ow) :: (L + 1 + 1 + 1 + 1 + 1 + 1, ol) :: rest)) (dw : ow.data = .cell (some (.ref wL))) (dl : ol.data = .cell (some (.ref c2.x)))
    (hlen : ys.length = pend.length) (hn : pend.length ≤ 10)
    (hd : dp + 98 < recursionLimit)
    (hnext : ∀ h' tk' m' lL e2, Fr g L h' m' → m' (Str.ofString "last") = some (.ref lL) → (∀ y, y ≠ Str.ofString "last" → m' y = m y) →
      News g L h' ((lL, LCg.lst pend) :: (two w c1 c2 l1 v1 i1 t1 e1 l2 v2 i2 t2 [] e2 ++ (c1.ro ++ (c2.ro ++ ((wL, LCg.lst ys) :: (L + 1 + 1 + 1 + 1 + 1, ow) :: (L + 1 + 1 + 1 + 1 + 1 + 1, ol) :: rest))))) →
      wpAny (model P w) (Around.deeper (Ar dp fr gd un) (lawEnv L fa cd)) (execs (lawB.drop 13) (lawEnv L fa cd)) Q E { s with heap := h', toks := tk' }) :
    wpAny (model P w) (Around.deeper (Ar dp fr gd un) (lawEnv L fa cd)) (execs (lawB.drop 12) (lawEnv L fa cd)) Q E s := by
  k_with_none
  k_with "ne" => ((first | with_reducible assumption | exact Ne.symm (by with_reducible assumption) | exact Nat.ne_of_lt (by with_reducible assumption) | exact Nat.ne_of_gt (by with_reducible assumption) | (refine Nat.ne_of_lt ?_; (repeat (first | exact Nat.lt_succ_self _ | with_reducible assumption | refine Nat.lt_succ_of_lt ?_)); done) | (refine Nat.ne_of_gt ?_; (repeat (first | exact Nat.lt_succ_self _ | with_reducible assumption | refine Nat.lt_succ_of_lt ?_)); done) | exact Nat.ne_of_lt (And.left (by with_reducible assumption)) | exact Nat.ne_of_gt (And.left (by with_reducible assumption)) | exact (And.left (by with_reducible assumption)) | exact Ne.symm (And.left (by with_reducible assumption)) | exact Nat.ne_of_lt (And.left (And.right (by with_reducible assumption))) | exact Nat.ne_of_lt (And.right (by with_reducible assumption)) | exact Nat.ne_of_gt (And.left (And.right (by with_reducible assumption))) | exact Nat.ne_of_gt (And.right (by with_reducible assumption)) | exact (And.left (And.right (by with_reducible assumption))) | exact Ne.symm (And.left (And.right (by with_reducible assumption))) | exact (And.right (by with_reducible assumption)) | exact Ne.symm (And.right (by with_reducible assumption)) | exact Nat.ne_of_lt (And.left (And.right (And.right (by with_reducible assumption)))) | exact Nat.ne_of_lt (And.right (And.right (by with_reducible assumption))) | exact Nat.ne_of_gt (And.left (And.right (And.right (by with_reducible assumption)))) | exact Nat.ne_of_gt (And.right (And.right (by with_reducible assumption))) | exact (And.left (And.right (And.right (by with_reducible assumption)))) | exact Ne.symm (And.left (And.right (And.right (by with_reducible assumption)))) | exact (And.right (And.right (by with_reducible assumption))) | exact Ne.symm (And.right (And.right (by with_reducible assumption))) | exact Nat.ne_of_lt (And.left (And.right (And.right (And.right (by with_reducible assumption))))) | exact Nat.ne_of_lt (And.right (And.right (And.right (by with_reducible assumption)))) | exact Nat.ne_of_gt (And.left (And.right (And.right (And.right (by with_reducible assumption))))) | exact Nat.ne_of_gt (And.right (And.right (And.right (by with_reducible assumption)))) | exact (And.left (And.right (And.right (And.right (by with_reducible assumption))))) | exact Ne.symm (And.left (And.right (And.right (And.right (by with_reducible assumption))))) | exact (And.right (And.right (And.right (by with_reducible assumption)))) | exact Ne.symm (And.right (And.right (And.right (by with_reducible assumption)))) | exact Nat.ne_of_lt (And.left (And.right (And.right (And.right (And.right (by with_reducible assumption)))))) | exact Nat.ne_of_lt (And.right (And.right (And.right (And.right (by with_reducible assumption))))) | exact Nat.ne_of_gt (And.left (And.right (And.right (And.right (And.right (by with_reducible assumption)))))) | exact Nat.ne_of_gt (And.right (And.right (And.right (And.right (by with_reducible assumption))))) | exact (And.left (And.right (And.right (And.right (And.right (by with_reducible assumption)))))) | exact Ne.symm (And.left (And.right (And.right (And.right (And.right (by with_reducible assumption)))))) | exact (And.right (And.right (And.right (And.right (by with_reducible assumption))))) | exact Ne.symm (And.right (And.right (And.right (And.right (by with_reducible assumption))))) | exact Nat.ne_of_lt (And.left (And.right (And.right (And.right (And.right (And.right (by with_reducible assumption))))))) | exact Nat.ne_of_lt (And.right (And.right (And.right (And.right (And.right (by with_reducible assumption)))))) | exact Nat.ne_of_gt (And.left (And.right (And.right (And.right (And.right (And.right (by with_reducible assumption))))))) | exact Nat.ne_of_gt (And.right (And.right (And.right (And.right (And.right (by with_reducible assumption)))))) | exact (And.left (And.right (And.right (And.right (And.right (And.right (by with_reducible assumption))))))) | exact Ne.symm (And.left (And.right (And.right (And.right (And.right (And.right (by with_reducible assumption))))))) | exact (And.right (And.right (And.right (And.right (And.right (by with_reducible assumption)))))) | exact Ne.symm (And.right (And.right (And.right (And.right (And.right (by with_reducible assumption)))))) | exact Nat.ne_of_lt (And.left (And.right (And.right (And.right (And.right (And.right (And.right (by with_reducible assumption)))))))) | exact Nat.ne_of_lt (And.right (And.right (And.right (And.right (And.right (And.right (by with_reducible assumption))))))) | exact Nat.ne_of_gt (And.left (And.right (And.right (And.right (And.right (And.right (And.right (by with_reducible assumption)))))))) | exact Nat.ne_of_gt (And.right (And.right (And.right (And.right (And.right (And.right (by with_reducible assumption))))))) | exact (And.left (And.right (And.right (And.right (And.right (And.right (And.right (by with_reducible assumption)))))))) | exact Ne.symm (And.left (And.right (And.right (And.right (And.right (And.right (And.right (by with_reducible assumption)))))))) | exact (And.right (And.right (And.right (And.right (And.right (And.right (by with_reducible assumption))))))) | exact Ne.symm (And.right (And.right (And.right (And.right (And.right (And.right (by with_reducible assumption))))))) | exact Nat.ne_of_lt (And.left (And.right (And.right (And.right (And.right (And.right (And.right (And.right (by with_reducible assumption))))))))) | exact Nat.ne_of_lt (And.right (And.right (And.right (And.right (And.right (And.right (And.right (by with_reducible assumption)))))))) | exact Nat.ne_of_gt (And.left (And.right (And.right (And.right (And.right (And.right (And.right (And.right (by with_reducible assumption))))))))) | exact Nat.ne_of_gt (And.right (And.right (And.right (And.right (And.right (And.right (And.right (by with_reducible assumption)))))))) | exact (And.left (And.right (And.right (And.right (And.right (And.right (And.right (And.right (by with_reducible assumption))))))))) | exact Ne.symm (And.left (And.right (And.right (And.right (And.right (And.right (And.right (And.right (by with_reducible assumption))))))))) | exact (And.right (And.right (And.right (And.right (And.right (And.right (And.right (by with_reducible assumption)))))))) | exact Ne.symm (And.right (And.right (And.right (And.right (And.right (And.right (And.right (by with_reducible assumption)))))))) | exact Nat.ne_of_lt (And.left (And.right (And.right (And.right (And.right (And.right (And.right (And.right (And.right (by with_reducible assumption)))))))))) | exact Nat.ne_of_lt (And.right (And.right (And.right (And.right (And.right (And.right (And.right (And.right (by with_reducible assumption))))))))) | exact Nat.ne_of_gt (And.left (And.right (And.right (And.right (And.right (And.right (And.right (And.right (And.right (by with_reducible assumption)))))))))) | exact Nat.ne_of_gt (And.right (And.right (And.right (And.right (And.right (And.right (And.right (And.right (by with_reducible assumption))))))))) | exact (And.left (And.right (And.right (And.right (And.right (And.right (And.right (And.right (And.right (by with_reducible assumption)))))))))) | exact Ne.symm (And.left (And.right (And.right (And.right (And.right (And.right (And.right (And.right (And.right (by with_reducible assumption)))))))))) | exact (And.right (And.right (And.right (And.right (And.right (And.right (And.right (And.right (by with_reducible assumption))))))))) | exact Ne.symm (And.right (And.right (And.right (And.right (And.right (And.right (And.right (And.right (by with_reducible assumption))))))))) | exact Nat.ne_of_lt (And.left (And.right (And.right (And.right (And.right (And.right (And.right (And.right (And.right (And.right (by with_reducible assumption))))))))))) | exact Nat.ne_of_lt (And.right (And.right (And.right (And.right (And.right (And.right (And.right (And.right (And.right (by with_reducible assumption)))))))))) | exact Nat.ne_of_gt (And.left (And.right (And.right (And.right (And.right (And.right (And.right (And.right (And.right (And.right (by with_reducible assumption))))))))))) | exact Nat.ne_of_gt (And.right (And.right (And.right (And.right (And.right (And.right (And.right (And.right (And.right (by with_reducible assumption)))))))))) | exact (And.left (And.right (And.right (And.right (And.right (And.right (And.right (And.right (And.right (And.right (by with_reducible assumption))))))))))) | exact Ne.symm (And.left (And.right (And.right (And.right (And.right (And.right (And.right (And.right (And.right (And.right (by with_reducible assumption))))))))))) | exact (And.right (And.right (And.right (And.right (And.right (And.right (And.right (And.right (And.right (by with_reducible assumption)))))))))) | exact Ne.symm (And.right (And.right (And.right (And.right (And.right (And.right (And.right (And.right (And.right (by with_reducible assumption)))))))))) | exact Nat.ne_of_lt (And.left (And.right (And.right (And.right (And.right (And.right (And.right (And.right (And.right (And.right (And.right (by with_reducible assumption)))))))))))) | exact Nat.ne_of_lt (And.right (And.right (And.right (And.right (And.right (And.right (And.right (And.right (And.right (And.right (by with_reducible assumption))))))))))) | exact Nat.ne_of_gt (And.left (And.right (And.right (And.right (And.right (And.right (And.right (And.right (And.right (And.right (And.right (by with_reducible assumption)))))))))))) | exact Nat.ne_of_gt (And.right (And.right (And.right (And.right (And.right (And.right (And.right (And.right (And.right (And.right (by with_reducible assumption))))))))))) | exact (And.left (And.right (And.right (And.right (And.right (And.right (And.right (And.right (And.right (And.right (And.right (by with_reducible assumption)))))))))))) | exact Ne.symm (And.left (And.right (And.right (And.right (And.right (And.right (And.right (And.right (And.right (And.right (And.right (by with_reducible assumption)))))))))))) | exact (And.right (And.right (And.right (And.right (And.right (And.right (And.right (And.right (And.right (And.right (by with_reducible assumption))))))))))) | exact Ne.symm (And.right (And.right (And.right (And.right (And.right (And.right (And.right (And.right (And.right (And.right (by with_reducible assumption)))))))))))))
  k_with "exec For Name Attribute cons nil" => (k_dflt (refine for_exec ?_))
  k_with "exec For Name Name cons nil" => (k_dflt (refine for_exec ?_))
  k_with "exec For Name Call cons nil" => (k_dflt (refine for_exec ?_))
  k_with "call type:tuple" => ((k_here; (with_reducible show wpAny _ _ (call (Value.type _) [Value.ref _]) _ _ _); k_dflt (refine' tupleOf_c (by k_asm) (by k_asm) (by k_mem) (by ((have hL9 := IntsAre.length (by assumption)); rw [sizeLine_eq]; omega)) ?_; k_whole); intro _ _ _ _ l19q; (try k_lt l19q); (try k_sweep)))
  k_with "call builtin:len" => ((k_here; (with_reducible show wpAny _ _ (call (Value.builtin "len") [Value.ref _]) _ _ _); k_dflt (refine' len_tupI (by k_asm) (by with_reducible assumption) (by with_reducible assumption) (by omega) ?_; k_whole); intro _ _))
  k_with "execs cons" => ((k_dflt (refine execs_n (s := ‹Shared›) ?_); intro _; (try k_fold)))
  k_with "exec If BoolOp cons nil" => (((fail_if_success (with_reducible show wpAny _ _ _ (Cut _ _) _ _)); refine Hold.out ?_))
  k_with "out" => (repeat (first | (k_unfold; (try dsimp only)) | refine cut_ret ?_ | refine turn_ret ?_))
  k_with "go" => ((w_top off; repeat' (first | (k_unfold; (try dsimp only)) | walk1 | (dsimp only; walk1))))
  k_with "call ref" => (((with_reducible show wpAny _ _ (call (Value.ref 49) _ _) _ _ _); refine Hold.out ?_))
  k_with "exec Assign cons ListComp" => ((k_here; refine Hold.out ?_))
  k_with "CompEnd" => (refine Hold.out ?_)
  k_with "CompSrc" => (refine Hold.out ?_)
  k_with "execs cons" => (((with_reducible show wpAny _ _ (execs [_, _, _, _] _) _ _ _); refine Hold.out ?_))
  obtain ⟨sc, hsc⟩ : ∃ sc, sc = lawSc := ⟨_, rfl⟩
  obtain ⟨B, hB⟩ : ∃ B, B = lawB.drop 12 := ⟨_, rfl⟩
  unfold lawEnv
  rw [← hsc, ← hB]
  conv at hsc => rhs; whnf
  conv at hB => rhs; whnf
  subst hsc hB
  have N := LT.N
  have mW : ∀ {pd : List Value} {e : Nat}, (wL, LCg.lst ys) ∈ two w c1 c2 l1 v1 i1 t1 e1 l2 v2 i2 t2 pd e ++ (c1.ro ++ (c2.ro ++ ((wL, LCg.lst ys) :: (L + 1 + 1 + 1 + 1 + 1, ow) :: (L + 1 + 1 + 1 + 1 + 1 + 1, ol) :: rest))) := fun {pd e} => List.mem_append_right _ (List.mem_append_right _ (List.mem_append_right _ (.head _)))
  walk_at "go"
  refine Hold.in ?_
  k_here
  k_dflt (refine LCg.Assign_ListComp_U (F₀ := by k_asm) (by rfl) (by with_unfolding_all rfl) (by with_unfolding_all rfl) (by decide) (by rfl) (by decide) (by rfl) (by rfl) (by rfl) ?_)
  walk_at "go"
  refine Hold.in ?_
  k_here
  k_dflt (refine LCg.CompSrc.ledger (by rfl) (by k_asm) (by k_asm) mW (by rw [sizeLine_eq, List.size_toArray]; omega) ?_)
  intro g'
  rw [List.size_toArray, hlen]
  refine comp_inv (LaJ w c1 c2 l1 v1 i1 t1 e1 l2 v2 i2 t2 pend (c1.ro ++ (c2.ro ++ ((wL, LCg.lst ys) :: (L + 1 + 1 + 1 + 1 + 1, ow) :: (L + 1 + 1 + 1 + 1 + 1 + 1, ol) :: rest)))) ?_ ?_ ⟨e2, rfl, rfl⟩
  · (try dsimp only)
    rintro i ys' _ hi ⟨e2, rfl, rfl⟩ v I oI C oC D m₂ h tk E' hv hC hx F N off ne
    have hdr : pend.drop i = pend[i] :: pend.drop (i + 1) := List.drop_eq_getElem_cons hi
    rw [hdr] at N off
    simp only [two, Lx.ro, List.cons_append, List.nil_append] at N
    walk_at "go"
    (with_reducible rename Fr _ _ _ _ => F1)
    (with_reducible rename News _ _ _ _ => N8)
    have N1 : News g L _ ((I, oI) :: (C, oC) :: (D, LCg.lst (pend.take i)) :: (two w c1 c2 l1 v1 i1 t1 e1 l2 v2 i2 t2 (pend[i] :: pend.drop (i + 1)) e2 ++ (c1.ro ++ (c2.ro ++ ((wL, LCg.lst ys) :: (L + 1 + 1 + 1 + 1 + 1, ow) :: (L + 1 + 1 + 1 + 1 + 1 + 1, ol) :: rest))))) := N8
    clear N8
    refine Hold.in (wpAny_call (tokA_c (c := c2) ⟨X, T⟩ (Fr.keep F1) (led_of N1 fun p hp => .tail _ (.tail _ (.tail _ (List.mem_append_left _ (List.mem_append_right (c1.mu w l1 v1 i1 t1 [] e1) hp))))) (fun p hp => (N1 p (.tail _ (.tail _ (.tail _ (List.mem_append_right _ (List.mem_append_right _ (List.mem_append_left _ hp))))))).1) LT.ok2 (by show dp + 1 + 28 < _; exact dlt hd (by decide)) (by rw [List.length_drop]; omega) ?_))
    intro h4 tk4 En
    obtain ⟨F2, N2⟩ := En.out (mu := c2.mu w l2 v2 i2 t2 (pend[i] :: pend.drop (i + 1)) e2) (rest := (I, oI) :: (C, oC) :: (D, LCg.lst (pend.take i)) :: (c1.mu w l1 v1 i1 t1 [] e1 ++ (c1.ro ++ (c2.ro ++ ((wL, LCg.lst ys) :: (L + 1 + 1 + 1 + 1 + 1, ow) :: (L + 1 + 1 + 1 + 1 + 1 + 1, ol) :: rest))))) F1 (news_sub N1 two_swap3) rfl
      ⟨⟨Ne.symm off.2.2.2.1.1, Ne.symm off.2.2.2.1.2.1, Ne.symm off.2.2.2.1.2.2, LT.ap.dd, LT.ap.ad, LT.ap.pd, LT.off.2.2.2.1⟩, ⟨Ne.symm off.2.2.2.2.1.1, Ne.symm off.2.2.2.2.1.2.1, Ne.symm off.2.2.2.2.1.2.2, LT.ap.da, LT.ap.aa, LT.ap.pa, LT.off.2.2.2.2.1⟩, ⟨Ne.symm off.2.2.2.2.2.1.1, Ne.symm off.2.2.2.2.2.1.2.1, Ne.symm off.2.2.2.2.2.1.2.2, LT.ap.dp, LT.ap.ap, LT.ap.pp, LT.off.2.2.2.2.2.1⟩, trivial⟩
    clear F1 N1 En
    dsimp only
    walk_at "go"
    refine Hold.in (LCg.CompEnd.intro (by k_asm) N2 (two w c1 c2 l1 v1 i1 t1 e1 l2 v2 i2 t2 (pend.drop (i + 1)) (e2 + 1) ++ (c1.ro ++ (c2.ro ++ ((wL, LCg.lst ys) :: (L + 1 + 1 + 1 + 1 + 1, ow) :: (L + 1 + 1 + 1 + 1 + 1 + 1, ol) :: rest)))) two_swap4 off (.inr ⟨_, mW, rfl, _, rfl⟩) ⟨e2 + 1, ?_, rfl⟩)
    rw [List.take_succ_eq_append_getElem hi]
  · rintro ys' _ ⟨e2, rfl, rfl⟩
    unfold LCg.FinA
    intro D3 h3 tk3 F N o1
    rw [List.take_length] at N
    rw [List.drop_length] at N
    (try dsimp only)
    walk_at "go"
    (with_reducible rename Fr _ _ _ _ => F9)
    (with_reducible rename News _ _ _ _ => N9)
    exact Hold.in (hnext _ _ _ D3 e2 F9 rfl (fun y hy => if_neg hy) N9)
end
section
variable {w : World} {lo : List Str} {mean : ExcName → Option Value} {mg mb : Str → Option Value} {b₀ : Heap} {dp un : Nat} {fr : Option (List Env)} {gd : Option (List Code)} {s : Shared} {R : Result → Shared → Prop}
structure WcJ (cls : List CellO) (f : CellO → Str) (news : List (Addr × Obj)) (i : Nat) (ys : List Value) (news' : List (Addr × Obj)) : Prop where
  e : news' = news
  hy : StrsAre ys ((cls.take i).map f)
theorem mem6 {x y z u v p : Addr × Obj} {A B : List (Addr × Obj)} (h : p ∈ A) : p ∈ x :: y :: z :: u :: v :: (A ++ B) := .tail _ (.tail _ (.tail _ (.tail _ (.tail _ (List.mem_append_left _ h)))))
set_option maxRecDepth 100000 in
set_option maxHeartbeats 2000000 in
theorem law_t6 {g : Heap} {L fa : Nat} {cd : Value} {m : Str → Option Value} {Q : Flow → Shared → Prop} {E : Value → Shared → Prop} {ow oce : Obj} {Cl wL lL cc : Nat} {cls : List CellO} {ys pend : List Value} {us gs : List Str} {rest : List (Addr × Obj)}
    (X : (Mine.hd.heap_1 w.params).In g) (T : Top topProg lo mean mg mb g) (F : Fr g L s.heap m) (m1 : m (Str.ofString "last") = some (.ref lL))
    (N : News g L s.heap ((lL, LCg.lst pend) :: (wL, LCg.lst ys) :: (L + 1 + 1 + 1 + 1 + 1, ow) :: (L + 1 + 1 + 1, oce) :: (Cl, listOf (cellRefs cls).toArray cc) :: (cellsLed cls ++ rest)))
    (dw : ow.data = .cell (some (.ref wL))) (dce : oce.data = .cell (some (.ref Cl)))
    (hy : StrsAre ys us) (hp : StrsAre pend gs) (hlen : us.length = cls.length) (hn : cls.length ≤ 10)
    (hin : ∀ c ∈ cls, (c.j, c.i) ∈ pairsOf cls) (heq : gs = cls.map fun c => us.getD ((pairsOf cls).idxOf (c.j, c.i)) Str.empty)
    (hd : dp + 98 < recursionLimit) (hu : un < 1000)
    (hnext : ∀ h' tk', Fr g L h' m → News g L h' ((wL, LCg.lst ys) :: (L + 1 + 1 + 1 + 1 + 1, ow) :: (L + 1 + 1 + 1, oce) :: (Cl, listOf (cellRefs cls).toArray cc) :: (cellsLed cls ++ rest)) →
      wpAny (model P w) (Around.deeper (Ar dp fr gd un) (lawEnv L fa cd)) (execs (lawB.drop 14) (lawEnv L fa cd)) Q E { s with heap := h', toks := tk' }) :
    wpAny (model P w) (Around.deeper (Ar dp fr gd un) (lawEnv L fa cd)) (execs (lawB.drop 13) (lawEnv L fa cd)) Q E s := by
  k_with_none
  k_with "ne" => ((first | with_reducible assumption | exact Ne.symm (by with_reducible assumption) | exact Nat.ne_of_lt (by with_reducible assumption) | exact Nat.ne_of_gt (by with_reducible assumption) | (refine Nat.ne_of_lt ?_; (repeat (first | exact Nat.lt_succ_self _ | with_reducible assumption | refine Nat.lt_succ_of_lt ?_)); done) | (refine Nat.ne_of_gt ?_; (repeat (first | exact Nat.lt_succ_self _ | with_reducible assumption | refine Nat.lt_succ_of_lt ?_)); done) | exact Nat.ne_of_lt (And.left (by with_reducible assumption)) | exact Nat.ne_of_gt (And.left (by with_reducible assumption)) | exact (And.left (by with_reducible assumption)) | exact Ne.symm (And.left (by with_reducible assumption)) | exact Nat.ne_of_lt (And.left (And.right (by with_reducible assumption))) | exact Nat.ne_of_lt (And.right (by with_reducible assumption)) | exact Nat.ne_of_gt (And.left (And.right (by with_reducible assumption))) | exact Nat.ne_of_gt (And.right (by with_reducible assumption)) | exact (And.left (And.right (by with_reducible assumption))) | exact Ne.symm (And.left (And.right (by with_reducible assumption))) | exact (And.right (by with_reducible assumption)) | exact Ne.symm (And.right (by with_reducible assumption)) | exact Nat.ne_of_lt (And.left (And.right (And.right (by with_reducible assumption)))) | exact Nat.ne_of_lt (And.right (And.right (by with_reducible assumption))) | exact Nat.ne_of_gt (And.left (And.right (And.right (by with_reducible assumption)))) | exact Nat.ne_of_gt (And.right (And.right (by with_reducible assumption))) | exact (And.left (And.right (And.right (by with_reducible assumption)))) | exact Ne.symm (And.left (And.right (And.right (by with_reducible assumption)))) | exact (And.right (And.right (by with_reducible assumption))) | exact Ne.symm (And.right (And.right (by with_reducible assumption))) | exact Nat.ne_of_lt (And.left (And.right (And.right (And.right (by with_reducible assumption))))) | exact Nat.ne_of_lt (And.right (And.right (And.right (by with_reducible assumption)))) | exact Nat.ne_of_gt (And.left (And.right (And.right (And.right (by with_reducible assumption))))) | exact Nat.ne_of_gt (And.right (And.right (And.right (by with_reducible assumption)))) | exact (And.left (And.right (And.right (And.right (by with_reducible assumption))))) | exact Ne.symm (And.left (And.right (And.right (And.right (by with_reducible assumption))))) | exact (And.right (And.right (And.right (by with_reducible assumption)))) | exact Ne.symm (And.right (And.right (And.right (by with_reducible assumption)))) | exact Nat.ne_of_lt (And.left (And.right (And.right (And.right (And.right (by with_reducible assumption)))))) | exact Nat.ne_of_lt (And.right (And.right (And.right (And.right (by with_reducible assumption))))) | exact Nat.ne_of_gt (And.left (And.right (And.right (And.right (And.right (by with_reducible assumption)))))) | exact Nat.ne_of_gt (And.right (And.right (And.right (And.right (by with_reducible assumption))))) | exact (And.left (And.right (And.right (And.right (And.right (by with_reducible assumption)))))) | exact Ne.symm (And.left (And.right (And.right (And.right (And.right (by with_reducible assumption)))))) | exact (And.right (And.right (And.right (And.right (by with_reducible assumption))))) | exact Ne.symm (And.right (And.right (And.right (And.right (by with_reducible assumption))))) | exact Nat.ne_of_lt (And.left (And.right (And.right (And.right (And.right (And.right (by with_reducible assumption))))))) | exact Nat.ne_of_lt (And.right (And.right (And.right (And.right (And.right (by with_reducible assumption)))))) | exact Nat.ne_of_gt (And.left (And.right (And.right (And.right (And.right (And.right (by with_reducible assumption))))))) | exact Nat.ne_of_gt (And.right (And.right (And.right (And.right (And.right (by with_reducible assumption)))))) | exact (And.left (And.right (And.right (And.right (And.right (And.right (by with_reducible assumption))))))) | exact Ne.symm (And.left (And.right (And.right (And.right (And.right (And.right (by with_reducible assumption))))))) | exact (And.right (And.right (And.right (And.right (And.right (by with_reducible assumption)))))) | exact Ne.symm (And.right (And.right (And.right (And.right (And.right (by with_reducible assumption)))))) | exact Nat.ne_of_lt (And.left (And.right (And.right (And.right (And.right (And.right (And.right (by with_reducible assumption)))))))) | exact Nat.ne_of_lt (And.right (And.right (And.right (And.right (And.right (And.right (by with_reducible assumption))))))) | exact Nat.ne_of_gt (And.left (And.right (And.right (And.right (And.right (And.right (And.right (by with_reducible assumption)))))))) | exact Nat.ne_of_gt (And.right (And.right (And.right (And.right (And.right (And.right (by with_reducible assumption))))))) | exact (And.left (And.right (And.right (And.right (And.right (And.right (And.right (by with_reducible assumption)))))))) | exact Ne.symm (And.left (And.right (And.right (And.right (And.right (And.right (And.right (by with_reducible assumption)))))))) | exact (And.right (And.right (And.right (And.right (And.right (And.right (by with_reducible assumption))))))) | exact Ne.symm (And.right (And.right (And.right (And.right (And.right (And.right (by with_reducible assumption))))))) | exact Nat.ne_of_lt (And.left (And.right (And.right (And.right (And.right (And.right (And.right (And.right (by with_reducible assumption))))))))) | exact Nat.ne_of_lt (And.right (And.right (And.right (And.right (And.right (And.right (And.right (by with_reducible assumption)))))))) | exact Nat.ne_of_gt (And.left (And.right (And.right (And.right (And.right (And.right (And.right (And.right (by with_reducible assumption))))))))) | exact Nat.ne_of_gt (And.right (And.right (And.right (And.right (And.right (And.right (And.right (by with_reducible assumption)))))))) | exact (And.left (And.right (And.right (And.right (And.right (And.right (And.right (And.right (by with_reducible assumption))))))))) | exact Ne.symm (And.left (And.right (And.right (And.right (And.right (And.right (And.right (And.right (by with_reducible assumption))))))))) | exact (And.right (And.right (And.right (And.right (And.right (And.right (And.right (by with_reducible assumption)))))))) | exact Ne.symm (And.right (And.right (And.right (And.right (And.right (And.right (And.right (by with_reducible assumption)))))))) | exact Nat.ne_of_lt (And.left (And.right (And.right (And.right (And.right (And.right (And.right (And.right (And.right (by with_reducible assumption)))))))))) | exact Nat.ne_of_lt (And.right (And.right (And.right (And.right (And.right (And.right (And.right (And.right (by with_reducible assumption))))))))) | exact Nat.ne_of_gt (And.left (And.right (And.right (And.right (And.right (And.right (And.right (And.right (And.right (by with_reducible assumption)))))))))) | exact Nat.ne_of_gt (And.right (And.right (And.right (And.right (And.right (And.right (And.right (And.right (by with_reducible assumption))))))))) | exact (And.left (And.right (And.right (And.right (And.right (And.right (And.right (And.right (And.right (by with_reducible assumption)))))))))) | exact Ne.symm (And.left (And.right (And.right (And.right (And.right (And.right (And.right (And.right (And.right (by with_reducible assumption)))))))))) | exact (And.right (And.right (And.right (And.right (And.right (And.right (And.right (And.right (by with_reducible assumption))))))))) | exact Ne.symm (And.right (And.right (And.right (And.right (And.right (And.right (And.right (And.right (by with_reducible assumption))))))))) | exact Nat.ne_of_lt (And.left (And.right (And.right (And.right (And.right (And.right (And.right (And.right (And.right (And.right (by with_reducible assumption))))))))))) | exact Nat.ne_of_lt (And.right (And.right (And.right (And.right (And.right (And.right (And.right (And.right (And.right (by with_reducible assumption)))))))))) | exact Nat.ne_of_gt (And.left (And.right (And.right (And.right (And.right (And.right (And.right (And.right (And.right (And.right (by with_reducible assumption))))))))))) | exact Nat.ne_of_gt (And.right (And.right (And.right (And.right (And.right (And.right (And.right (And.right (And.right (by with_reducible assumption)))))))))) | exact (And.left (And.right (And.right (And.right (And.right (And.right (And.right (And.right (And.right (And.right (by with_reducible assumption))))))))))) | exact Ne.symm (And.left (And.right (And.right (And.right (And.right (And.right (And.right (And.right (And.right (And.right (by with_reducible assumption))))))))))) | exact (And.right (And.right (And.right (And.right (And.right (And.right (And.right (And.right (And.right (by with_reducible assumption)))))))))) | exact Ne.symm (And.right (And.right (And.right (And.right (And.right (And.right (And.right (And.right (And.right (by with_reducible assumption)))))))))) | exact Nat.ne_of_lt (And.left (And.right (And.right (And.right (And.right (And.right (And.right (And.right (And.right (And.right (And.right (by with_reducible assumption)))))))))))) | exact Nat.ne_of_lt (And.right (And.right (And.right (And.right (And.right (And.right (And.right (And.right (And.right (And.right (by with_reducible assumption))))))))))) | exact Nat.ne_of_gt (And.left (And.right (And.right (And.right (And.right (And.right (And.right (And.right (And.right (And.right (And.right (by with_reducible assumption)))))))))))) | exact Nat.ne_of_gt (And.right (And.right (And.right (And.right (And.right (And.right (And.right (And.right (And.right (And.right (by with_reducible assumption))))))))))) | exact (And.left (And.right (And.right (And.right (And.right (And.right (And.right (And.right (And.right (And.right (And.right (by with_reducible assumption)))))))))))) | exact Ne.symm (And.left (And.right (And.right (And.right (And.right (And.right (And.right (And.right (And.right (And.right (And.right (by with_reducible assumption)))))))))))) | exact (And.right (And.right (And.right (And.right (And.right (And.right (And.right (And.right (And.right (And.right (by with_reducible assumption))))))))))) | exact Ne.symm (And.right (And.right (And.right (And.right (And.right (And.right (And.right (And.right (And.right (And.right (by with_reducible assumption)))))))))))))
  k_with "exec For Name Attribute cons nil" => (k_dflt (refine for_exec ?_))
  k_with "exec For Name Name cons nil" => (k_dflt (refine for_exec ?_))
  k_with "exec For Name Call cons nil" => (k_dflt (refine for_exec ?_))
  k_with "call type:tuple" => ((k_here; (with_reducible show wpAny _ _ (call (Value.type _) [Value.ref _]) _ _ _); k_dflt (refine' tupleOf_c (by k_asm) (by k_asm) (by k_mem) (by ((have hL9 := IntsAre.length (by assumption)); rw [sizeLine_eq]; omega)) ?_; k_whole); intro _ _ _ _ l19q; (try k_lt l19q); (try k_sweep)))
  k_with "call builtin:len" => ((k_here; (with_reducible show wpAny _ _ (call (Value.builtin "len") [Value.ref _]) _ _ _); k_dflt (refine' len_tupI (by k_asm) (by with_reducible assumption) (by with_reducible assumption) (by omega) ?_; k_whole); intro _ _))
  k_with "execs cons" => ((k_dflt (refine execs_n (s := ‹Shared›) ?_); intro _; (try k_fold)))
  k_with "exec If BoolOp cons nil" => (((fail_if_success (with_reducible show wpAny _ _ _ (Cut _ _) _ _)); refine Hold.out ?_))
  k_with "out" => (repeat (first | (k_unfold; (try dsimp only)) | refine cut_ret ?_ | refine turn_ret ?_))
  k_with "go" => ((w_top off; repeat' (first | (k_unfold; (try dsimp only)) | walk1 | (dsimp only; walk1))))
  k_with "eval ListComp" => ((k_here; refine Hold.out ?_))
  k_with "CompEnd" => (refine Hold.out ?_)
  k_with "SrcLP" => (refine Hold.out ?_)
  k_with "call builtin:list.index" => (refine Hold.out ?_)
  k_with "execs cons" => (((with_reducible show wpAny _ _ (execs [_, _, _] _) _ _ _); refine Hold.out ?_))
  k_with "compareOp NotEq ref ref" => (refine Hold.out ?_)
  obtain ⟨sc, hsc⟩ : ∃ sc, sc = lawSc := ⟨_, rfl⟩
  obtain ⟨B, hB⟩ : ∃ B, B = lawB.drop 13 := ⟨_, rfl⟩
  unfold lawEnv
  rw [← hsc, ← hB]
  conv at hsc => rhs; whnf
  conv at hB => rhs; whnf
  subst hsc hB
  replace F := know (x := Str.ofString "last") F m1
  walk_at "go"
  refine Hold.in ?_
  k_dflt (refine LCp.ListComp_P (F₀ := by k_asm) (by with_unfolding_all rfl) (by decide) (by rfl) (by decide) (by rfl) (by rfl) (by decide) ?_)
  walk_at "go"
  refine Hold.in ?_
  k_here
  k_dflt (refine LCp.SrcLP.ledger (by rfl) (by k_asm) (by k_asm) (.tail _ (.tail _ (.tail _ (.tail _ (.head _))))) (by rw [sizeLine_eq, List.size_toArray, List.length_map]; omega) ?_)
  intro g'
  rw [List.size_toArray, List.length_map]
  refine compP_inv (WcJ cls (fun c => us.getD ((pairsOf cls).idxOf (c.j, c.i)) Str.empty) _) ?_ ?_ ⟨rfl, .nil⟩
  · (try dsimp only)
    rintro i ys' _ hi ⟨rfl, hy'⟩ v hv
    obtain ⟨c, hc, rfl, hm⟩ := cell_at (by simpa using hv)
    have hcm : c ∈ cls := List.mem_of_getElem? hc
    have hci := hin _ hcm
    have hlt := idx_lt hci
    have hlt2 : (pairsOf cls).idxOf (c.j, c.i) < us.length := by omega
    refine ⟨c.a, _, _, rfl, mem6 hm, ?_⟩
    intro I oI C oC D m₂ h tk E' hC hx hx2 F N off ne
    walk_at "go"
    (with_reducible rename News _ _ _ _ => N8)
    rename_i D8 _ _ _
    refine Hold.in (indexC (d := ⟨D8, c.j, c.i, c.tj, c.ti⟩) (cls := cls) N8 (by k_mem) (fun p hp => ?_) (.head _) hci (by omega) (by show un + 3 + 1 < 9900; omega) ?_)
    · exact .tail _ (.tail _ (.tail _ (.tail _ (mem6 hp))))
    · intro t9 tk9
      walk_at "go"
      exact Hold.in (LCg.CompEnd.intro (by k_asm) (by k_asm) _ (by kcj_all) off (.inr ⟨_, .tail _ (.tail _ (.tail _ (.tail _ (.head _)))), rfl, _, rfl⟩) ⟨rfl, strs_snoc hy' hc⟩)
  · rintro ys' _ ⟨rfl, hy'⟩
    rw [List.take_length] at hy'
    unfold LCg.FinE
    intro D3 h3 tk3 F N o1
    (try dsimp only)
    walk_at "go"
    (with_reducible rename News _ _ _ _ => N8)
    refine Hold.in (neStrs N8 (by k_mem) (by k_mem) hp (heq ▸ hy') (by show un + 3 < 9900; omega) ?_)
    walk_at "go"
    (with_reducible rename Fr _ _ _ _ => F9)
    (with_reducible rename News _ _ _ _ => N9)
    rw [show (fun y => if y = Str.ofString "last" then some (Value.ref lL) else m y) = m from funext (know1 m1)] at F9
    exact Hold.in (hnext _ _ F9 (news_sub N9 fun p hp => .tail _ (.tail _ hp)))
end
section
variable {w : World} {lo : List Str} {mean : ExcName → Option Value} {mg mb : Str → Option Value} {b₀ : Heap} {dp un : Nat} {fr : Option (List Env)} {gd : Option (List Code)} {s : Shared} {R : Result → Shared → Prop}
set_option maxRecDepth 100000 in
set_option maxHeartbeats 2000000 in
theorem law_t7 {g : Heap} {L fa : Nat} {cd : Value} {m : Str → Option Value} {Q : Flow → Shared → Prop} {E : Value → Shared → Prop} {oce : Obj} {Cl rL cc high : Nat} {th : Tok} {cls : List CellO} {rv : List Value} {rows : List Nat} {rest : List (Addr × Obj)}
    (X : (Mine.hd.heap_1 w.params).In g) (T : Top topProg lo mean mg mb g) (F : Fr g L s.heap m) (m1 : m (Str.ofString "rows") = some (.ref rL)) (m2 : m (Str.ofString "high") = some (.int high th))
    (N : News g L s.heap ((rL, LCg.lst rv) :: (L + 1 + 1 + 1, oce) :: (Cl, listOf (cellRefs cls).toArray cc) :: (cellsLed cls ++ rest)))
    (dce : oce.data = .cell (some (.ref Cl)))
    (hrv : IntsAre rv (up rows)) (hh : high = 3 ∨ high = 4) (hlr : rows.length ≤ 10) (hn : cls.length ≤ 10)
    (hx : exP rows (rangeKs 0 (((high + 1 : Nat) : Int) - 0).toNat) = some ((rangeKs 0 (((high + 1 : Nat) : Int) - 0).toNat).reverse)) (hi : cellsOf2 (up rows) [] = pairsOf cls)
    (hd : dp + 98 < recursionLimit) (hu : un < 900)
    (hnext : ∀ h' tk', Fr g L h' m → News g L h' rest →
      wpAny (model P w) (Around.deeper (Ar dp fr gd un) (lawEnv L fa cd)) (execs (lawB.drop 16) (lawEnv L fa cd)) Q E { s with heap := h', toks := tk' }) :
    wpAny (model P w) (Around.deeper (Ar dp fr gd un) (lawEnv L fa cd)) (execs (lawB.drop 14) (lawEnv L fa cd)) Q E s := by
  k_with_none
  k_with "ne" => ((first | with_reducible assumption | exact Ne.symm (by with_reducible assumption) | exact Nat.ne_of_lt (by with_reducible assumption) | exact Nat.ne_of_gt (by with_reducible assumption) | (refine Nat.ne_of_lt ?_; (repeat (first | exact Nat.lt_succ_self _ | with_reducible assumption | refine Nat.lt_succ_of_lt ?_)); done) | (refine Nat.ne_of_gt ?_; (repeat (first | exact Nat.lt_succ_self _ | with_reducible assumption | refine Nat.lt_succ_of_lt ?_)); done) | exact Nat.ne_of_lt (And.left (by with_reducible assumption)) | exact Nat.ne_of_gt (And.left (by with_reducible assumption)) | exact (And.left (by with_reducible assumption)) | exact Ne.symm (And.left (by with_reducible assumption)) | exact Nat.ne_of_lt (And.left (And.right (by with_reducible assumption))) | exact Nat.ne_of_lt (And.right (by with_reducible assumption)) | exact Nat.ne_of_gt (And.left (And.right (by with_reducible assumption))) | exact Nat.ne_of_gt (And.right (by with_reducible assumption)) | exact (And.left (And.right (by with_reducible assumption))) | exact Ne.symm (And.left (And.right (by with_reducible assumption))) | exact (And.right (by with_reducible assumption)) | exact Ne.symm (And.right (by with_reducible assumption)) | exact Nat.ne_of_lt (And.left (And.right (And.right (by with_reducible assumption)))) | exact Nat.ne_of_lt (And.right (And.right (by with_reducible assumption))) | exact Nat.ne_of_gt (And.left (And.right (And.right (by with_reducible assumption)))) | exact Nat.ne_of_gt (And.right (And.right (by with_reducible assumption))) | exact (And.left (And.right (And.right (by with_reducible assumption)))) | exact Ne.symm (And.left (And.right (And.right (by with_reducible assumption)))) | exact (And.right (And.right (by with_reducible assumption))) | exact Ne.symm (And.right (And.right (by with_reducible assumption))) | exact Nat.ne_of_lt (And.left (And.right (And.right (And.right (by with_reducible assumption))))) | exact Nat.ne_of_lt (And.right (And.right (And.right (by with_reducible assumption)))) | exact Nat.ne_of_gt (And.left (And.right (And.right (And.right (by with_reducible assumption))))) | exact Nat.ne_of_gt (And.right (And.right (And.right (by with_reducible assumption)))) | exact (And.left (And.right (And.right (And.right (by with_reducible assumption))))) | exact Ne.symm (And.left (And.right (And.right (And.right (by with_reducible assumption))))) | exact (And.right (And.right (And.right (by with_reducible assumption)))) | exact Ne.symm (And.right (And.right (And.right (by with_reducible assumption)))) | exact Nat.ne_of_lt (And.left (And.right (And.right (And.right (And.right (by with_reducible assumption)))))) | exact Nat.ne_of_lt (And.right (And.right (And.right (And.right (by with_reducible assumption))))) | exact Nat.ne_of_gt (And.left (And.right (And.right (And.right (And.right (by with_reducible assumption)))))) | exact Nat.ne_of_gt (And.right (And.right (And.right (And.right (by with_reducible assumption))))) | exact (And.left (And.right (And.right (And.right (And.right (by with_reducible assumption)))))) | exact Ne.symm (And.left (And.right (And.right (And.right (And.right (by with_reducible assumption)))))) | exact (And.right (And.right (And.right (And.right (by with_reducible assumption))))) | exact Ne.symm (And.right (And.right (And.right (And.right (by with_reducible assumption))))) | exact Nat.ne_of_lt (And.left (And.right (And.right (And.right (And.right (And.right (by with_reducible assumption))))))) | exact Nat.ne_of_lt (And.right (And.right (And.right (And.right (And.right (by with_reducible assumption)))))) | exact Nat.ne_of_gt (And.left (And.right (And.right (And.right (And.right (And.right (by with_reducible assumption))))))) | exact Nat.ne_of_gt (And.right (And.right (And.right (And.right (And.right (by with_reducible assumption)))))) | exact (And.left (And.right (And.right (And.right (And.right (And.right (by with_reducible assumption))))))) | exact Ne.symm (And.left (And.right (And.right (And.right (And.right (And.right (by with_reducible assumption))))))) | exact (And.right (And.right (And.right (And.right (And.right (by with_reducible assumption)))))) | exact Ne.symm (And.right (And.right (And.right (And.right (And.right (by with_reducible assumption)))))) | exact Nat.ne_of_lt (And.left (And.right (And.right (And.right (And.right (And.right (And.right (by with_reducible assumption)))))))) | exact Nat.ne_of_lt (And.right (And.right (And.right (And.right (And.right (And.right (by with_reducible assumption))))))) | exact Nat.ne_of_gt (And.left (And.right (And.right (And.right (And.right (And.right (And.right (by with_reducible assumption)))))))) | exact Nat.ne_of_gt (And.right (And.right (And.right (And.right (And.right (And.right (by with_reducible assumption))))))) | exact (And.left (And.right (And.right (And.right (And.right (And.right (And.right (by with_reducible assumption)))))))) | exact Ne.symm (And.left (And.right (And.right (And.right (And.right (And.right (And.right (by with_reducible assumption)))))))) | exact (And.right (And.right (And.right (And.right (And.right (And.right (by with_reducible assumption))))))) | exact Ne.symm (And.right (And.right (And.right (And.right (And.right (And.right (by with_reducible assumption))))))) | exact Nat.ne_of_lt (And.left (And.right (And.right (And.right (And.right (And.right (And.right (And.right (by with_reducible assumption))))))))) | exact Nat.ne_of_lt (And.right (And.right (And.right (And.right (And.right (And.right (And.right (by with_reducible assumption)))))))) | exact Nat.ne_of_gt (And.left (And.right (And.right (And.right (And.right (And.right (And.right (And.right (by with_reducible assumption))))))))) | exact Nat.ne_of_gt (And.right (And.right (And.right (And.right (And.right (And.right (And.right (by with_reducible assumption)))))))) | exact (And.left (And.right (And.right (And.right (And.right (And.right (And.right (And.right (by with_reducible assumption))))))))) | exact Ne.symm (And.left (And.right (And.right (And.right (And.right (And.right (And.right (And.right (by with_reducible assumption))))))))) | exact (And.right (And.right (And.right (And.right (And.right (And.right (And.right (by with_reducible assumption)))))))) | exact Ne.symm (And.right (And.right (And.right (And.right (And.right (And.right (And.right (by with_reducible assumption)))))))) | exact Nat.ne_of_lt (And.left (And.right (And.right (And.right (And.right (And.right (And.right (And.right (And.right (by with_reducible assumption)))))))))) | exact Nat.ne_of_lt (And.right (And.right (And.right (And.right (And.right (And.right (And.right (And.right (by with_reducible assumption))))))))) | exact Nat.ne_of_gt (And.left (And.right (And.right (And.right (And.right (And.right (And.right (And.right (And.right (by with_reducible assumption)))))))))) | exact Nat.ne_of_gt (And.right (And.right (And.right (And.right (And.right (And.right (And.right (And.right (by with_reducible assumption))))))))) | exact (And.left (And.right (And.right (And.right (And.right (And.right (And.right (And.right (And.right (by with_reducible assumption)))))))))) | exact Ne.symm (And.left (And.right (And.right (And.right (And.right (And.right (And.right (And.right (And.right (by with_reducible assumption)))))))))) | exact (And.right (And.right (And.right (And.right (And.right (And.right (And.right (And.right (by with_reducible assumption))))))))) | exact Ne.symm (And.right (And.right (And.right (And.right (And.right (And.right (And.right (And.right (by with_reducible assumption))))))))) | exact Nat.ne_of_lt (And.left (And.right (And.right (And.right (And.right (And.right (And.right (And.right (And.right (And.right (by with_reducible assumption))))))))))) | exact Nat.ne_of_lt (And.right (And.right (And.right (And.right (And.right (And.right (And.right (And.right (And.right (by with_reducible assumption)))))))))) | exact Nat.ne_of_gt (And.left (And.right (And.right (And.right (And.right (And.right (And.right (And.right (And.right (And.right (by with_reducible assumption))))))))))) | exact Nat.ne_of_gt (And.right (And.right (And.right (And.right (And.right (And.right (And.right (And.right (And.right (by with_reducible assumption)))))))))) | exact (And.left (And.right (And.right (And.right (And.right (And.right (And.right (And.right (And.right (And.right (by with_reducible assumption))))))))))) | exact Ne.symm (And.left (And.right (And.right (And.right (And.right (And.right (And.right (And.right (And.right (And.right (by with_reducible assumption))))))))))) | exact (And.right (And.right (And.right (And.right (And.right (And.right (And.right (And.right (And.right (by with_reducible assumption)))))))))) | exact Ne.symm (And.right (And.right (And.right (And.right (And.right (And.right (And.right (And.right (And.right (by with_reducible assumption)))))))))) | exact Nat.ne_of_lt (And.left (And.right (And.right (And.right (And.right (And.right (And.right (And.right (And.right (And.right (And.right (by with_reducible assumption)))))))))))) | exact Nat.ne_of_lt (And.right (And.right (And.right (And.right (And.right (And.right (And.right (And.right (And.right (And.right (by with_reducible assumption))))))))))) | exact Nat.ne_of_gt (And.left (And.right (And.right (And.right (And.right (And.right (And.right (And.right (And.right (And.right (And.right (by with_reducible assumption)))))))))))) | exact Nat.ne_of_gt (And.right (And.right (And.right (And.right (And.right (And.right (And.right (And.right (And.right (And.right (by with_reducible assumption))))))))))) | exact (And.left (And.right (And.right (And.right (And.right (And.right (And.right (And.right (And.right (And.right (And.right (by with_reducible assumption)))))))))))) | exact Ne.symm (And.left (And.right (And.right (And.right (And.right (And.right (And.right (And.right (And.right (And.right (And.right (by with_reducible assumption)))))))))))) | exact (And.right (And.right (And.right (And.right (And.right (And.right (And.right (And.right (And.right (And.right (by with_reducible assumption))))))))))) | exact Ne.symm (And.right (And.right (And.right (And.right (And.right (And.right (And.right (And.right (And.right (And.right (by with_reducible assumption)))))))))))))
  k_with "exec For Name Attribute cons nil" => (k_dflt (refine for_exec ?_))
  k_with "exec For Name Name cons nil" => (k_dflt (refine for_exec ?_))
  k_with "exec For Name Call cons nil" => (k_dflt (refine for_exec ?_))
  k_with "call type:tuple" => ((k_here; (with_reducible show wpAny _ _ (call (Value.type _) [Value.ref _]) _ _ _); k_dflt (refine' tupleOf_c (by k_asm) (by k_asm) (by k_mem) (by ((have hL9 := IntsAre.length (by assumption)); rw [sizeLine_eq]; omega)) ?_; k_whole); intro _ _ _ _ l19q; (try k_lt l19q); (try k_sweep)))
  k_with "call builtin:len" => ((k_here; (with_reducible show wpAny _ _ (call (Value.builtin "len") [Value.ref _]) _ _ _); k_dflt (refine' len_tupI (by k_asm) (by with_reducible assumption) (by with_reducible assumption) (by omega) ?_; k_whole); intro _ _))
  k_with "execs cons" => ((k_dflt (refine execs_n (s := ‹Shared›) ?_); intro _; (try k_fold)))
  k_with "exec If BoolOp cons nil" => (((fail_if_success (with_reducible show wpAny _ _ _ (Cut _ _) _ _)); refine Hold.out ?_))
  k_with "out" => (repeat (first | (k_unfold; (try dsimp only)) | refine cut_ret ?_ | refine turn_ret ?_))
  k_with "go" => ((w_top off; repeat' (first | (k_unfold; (try dsimp only)) | walk1 | (dsimp only; walk1))))
  k_with "call ref" => ((first | (with_reducible show wpAny _ _ (call (Value.ref 179) _ _) _ _ _) | (with_reducible show wpAny _ _ (call (Value.ref 184) _ _) _ _ _)); refine Hold.out ?_)
  k_with "execs cons" => (((with_reducible show wpAny _ _ (execs [Stmt.Return _ _] _) _ _ _); refine Hold.out ?_))
  k_with "call type:list" => (refine Hold.out ?_)
  k_with "compareOp NotEq ref ref" => (refine Hold.out ?_)
  obtain ⟨sc, hsc⟩ : ∃ sc, sc = lawSc := ⟨_, rfl⟩
  obtain ⟨B, hB⟩ : ∃ B, B = lawB.drop 14 := ⟨_, rfl⟩
  unfold lawEnv
  rw [← hsc, ← hB]
  conv at hsc => rhs; whnf
  conv at hB => rhs; whnf
  subst hsc hB
  have hrl := hrv.length
  rw [List.length_map] at hrl
  replace F := know (x := Str.ofString "rows") F m1
  replace F := know (x := Str.ofString "high") F m2
  walk_at "go"
  (with_reducible rename Fr _ _ _ _ => F1)
  (with_reducible rename News _ _ _ _ => N1)
  refine Hold.in (wpAny_call (exchanged_c (n := high + 1) (rows := rows) (rv := rv) ⟨X, T⟩ (Fr.keep F1) (News.isList (n := rv.length) N1 (.head _)) hrv (by omega) hlr hx (by show dp + 1 + 28 < _; exact dlt hd (by decide)) (by show un + 3 < 1000; omega) ?_))
  intro h4 tk4 D vs c En hvs
  obtain ⟨F2, N2⟩ := En.out (mu := []) F1 N1 rfl trivial
  clear F1 N1 En
  simp only [List.cons_append, List.nil_append] at N2
  dsimp only
  walk_at "go"
  (with_reducible rename News _ _ _ _ => N1)
  refine Hold.in (listDown rfl (by k_asm) N1 (by assumption) (by omega) ?_)
  clear N1
  intro D2 us2 c2 h5 tk5 F N hus
  walk_at "go"
  (with_reducible rename News _ _ _ _ => N1)
  refine Hold.in (neInts N1 (by k_mem) (by k_mem) hvs hus (by show un + 3 < 9900; omega) ?_)
  replace N1 := drop1 (drop1 N1)
  walk_at "go"
  (with_reducible rename Fr _ _ _ _ => F1)
  (with_reducible rename News _ _ _ _ => N1)
  refine Hold.in (wpAny_call (inserted_c ⟨X, T⟩ (Fr.keep F1) (News.isList (n := rv.length) N1 (by k_mem)) hrv (by rw [List.length_map]; omega) (by show dp + 1 + 28 < _; exact dlt hd (by decide)) ?_))
  intro h6 tk6 Cl2 cls2 cc2 En hne hcls
  obtain ⟨F2, N2⟩ := En.out (mu := []) F1 N1 rfl trivial
  clear F1 N1 En
  dsimp only
  walk_at "go"
  (with_reducible rename News _ _ _ _ => N1)
  refine Hold.in (neCells N1 (List.mem_append_left _ (.head _)) (List.mem_append_right _ (.tail _ (.tail _ (.head _)))) (fun p hp => List.mem_append_left _ (.tail _ hp)) (fun p hp => List.mem_append_right _ (.tail _ (.tail _ (.tail _ (List.mem_append_left _ hp))))) (hcls.trans hi) (by show un + 3 + 1 < 9900; omega) ?_)
  walk_at "go"
  (with_reducible rename Fr _ _ _ _ => F9)
  (with_reducible rename News _ _ _ _ => N9)
  rw [know2 m1 m2] at F9
  exact Hold.in (hnext _ _ F9 (news_sub N9 fun p hp => List.mem_append_right _ (.tail _ (.tail _ (.tail _ (List.mem_append_right _ hp))))))
end
section
variable {w : World} {lo : List Str} {mean : ExcName → Option Value} {mg mb : Str → Option Value} {b₀ : Heap} {dp un : Nat} {fr : Option (List Env)} {gd : Option (List Code)} {s : Shared} {R : Result → Shared → Prop}
set_option maxRecDepth 100000 in
set_option maxHeartbeats 2000000 in
theorem law_t8 {g : Heap} {L fa : Nat} {cd : Value} {m : Str → Option Value} {Q : Flow → Shared → Prop} {E : Value → Shared → Prop} {ol : Obj} {c1 c2 : Lx} {text : List Nat} {fin : List Nat} {l1 l2 : Int} {v1 v2 t1 t2 tt : Tok} {i1 i2 e1 e2 : Nat} {ps : Array Value} {rest : List (Addr × Obj)}
    (X : (Mine.hd.heap_1 w.params).In g) (T : Top topProg lo mean mg mb g) (F : Fr g L s.heap m) (m1 : m (Str.ofString "file") = some (.ref c1.x)) (m3 : m (Str.ofString "text") = some (.str (S text) tt))
    (LT : LexTwo g L s.heap w c1 c2 l1 v1 i1 t1 e1 l2 v2 i2 t2 [] e2 ((138, tabObj ps) :: (L + 1 + 1 + 1 + 1 + 1 + 1, ol) :: rest)) (dl : ol.data = .cell (some (.ref c2.x))) (x1 : c1.text.cps.toList.drop i1 = fin) (x2 : c2.text.cps.toList = []) (hfin : TTo fin [] []) (hl : l1 + nls fin = 1 + nls text) (ht : text.length ≤ 1000000) (hps : TriplesOk ps.toList)
    (hd : dp + 98 < recursionLimit) (hu : un < 1000)
    (hnext : ∀ h' tk' m' ps, Fr g L h' m' → News g L h' [(138, tabObj ps)] → TriplesOk ps.toList → Q (.ret (.bool true)) { s with heap := h', toks := tk' }) :
    wpAny (model P w) (Around.deeper (Ar dp fr gd un) (lawEnv L fa cd)) (execs (lawB.drop 16) (lawEnv L fa cd)) Q E s := by
  k_with_none
  k_with "ne" => ((first | with_reducible assumption | exact Ne.symm (by with_reducible assumption) | exact Nat.ne_of_lt (by with_reducible assumption) | exact Nat.ne_of_gt (by with_reducible assumption) | (refine Nat.ne_of_lt ?_; (repeat (first | exact Nat.lt_succ_self _ | with_reducible assumption | refine Nat.lt_succ_of_lt ?_)); done) | (refine Nat.ne_of_gt ?_; (repeat (first | exact Nat.lt_succ_self _ | with_reducible assumption | refine Nat.lt_succ_of_lt ?_)); done) | exact Nat.ne_of_lt (And.left (by with_reducible assumption)) | exact Nat.ne_of_gt (And.left (by with_reducible assumption)) | exact (And.left (by with_reducible assumption)) | exact Ne.symm (And.left (by with_reducible assumption)) | exact Nat.ne_of_lt (And.left (And.right (by with_reducible assumption))) | exact Nat.ne_of_lt (And.right (by with_reducible assumption)) | exact Nat.ne_of_gt (And.left (And.right (by with_reducible assumption))) | exact Nat.ne_of_gt (And.right (by with_reducible assumption)) | exact (And.left (And.right (by with_reducible assumption))) | exact Ne.symm (And.left (And.right (by with_reducible assumption))) | exact (And.right (by with_reducible assumption)) | exact Ne.symm (And.right (by with_reducible assumption)) | exact Nat.ne_of_lt (And.left (And.right (And.right (by with_reducible assumption)))) | exact Nat.ne_of_lt (And.right (And.right (by with_reducible assumption))) | exact Nat.ne_of_gt (And.left (And.right (And.right (by with_reducible assumption)))) | exact Nat.ne_of_gt (And.right (And.right (by with_reducible assumption))) | exact (And.left (And.right (And.right (by with_reducible assumption)))) | exact Ne.symm (And.left (And.right (And.right (by with_reducible assumption)))) | exact (And.right (And.right (by with_reducible assumption))) | exact Ne.symm (And.right (And.right (by with_reducible assumption))) | exact Nat.ne_of_lt (And.left (And.right (And.right (And.right (by with_reducible assumption))))) | exact Nat.ne_of_lt (And.right (And.right (And.right (by with_reducible assumption)))) | exact Nat.ne_of_gt (And.left (And.right (And.right (And.right (by with_reducible assumption))))) | exact Nat.ne_of_gt (And.right (And.right (And.right (by with_reducible assumption)))) | exact (And.left (And.right (And.right (And.right (by with_reducible assumption))))) | exact Ne.symm (And.left (And.right (And.right (And.right (by with_reducible assumption))))) | exact (And.right (And.right (And.right (by with_reducible assumption)))) | exact Ne.symm (And.right (And.right (And.right (by with_reducible assumption)))) | exact Nat.ne_of_lt (And.left (And.right (And.right (And.right (And.right (by with_reducible assumption)))))) | exact Nat.ne_of_lt (And.right (And.right (And.right (And.right (by with_reducible assumption))))) | exact Nat.ne_of_gt (And.left (And.right (And.right (And.right (And.right (by with_reducible assumption)))))) | exact Nat.ne_of_gt (And.right (And.right (And.right (And.right (by with_reducible assumption))))) | exact (And.left (And.right (And.right (And.right (And.right (by with_reducible assumption)))))) | exact Ne.symm (And.left (And.right (And.right (And.right (And.right (by with_reducible assumption)))))) | exact (And.right (And.right (And.right (And.right (by with_reducible assumption))))) | exact Ne.symm (And.right (And.right (And.right (And.right (by with_reducible assumption))))) | exact Nat.ne_of_lt (And.left (And.right (And.right (And.right (And.right (And.right (by with_reducible assumption))))))) | exact Nat.ne_of_lt (And.right (And.right (And.right (And.right (And.right (by with_reducible assumption)))))) | exact Nat.ne_of_gt (And.left (And.right (And.right (And.right (And.right (And.right (by with_reducible assumption))))))) | exact Nat.ne_of_gt (And.right (And.right (And.right (And.right (And.right (by with_reducible assumption)))))) | exact (And.left (And.right (And.right (And.right (And.right (And.right (by with_reducible assumption))))))) | exact Ne.symm (And.left (And.right (And.right (And.right (And.right (And.right (by with_reducible assumption))))))) | exact (And.right (And.right (And.right (And.right (And.right (by with_reducible assumption)))))) | exact Ne.symm (And.right (And.right (And.right (And.right (And.right (by with_reducible assumption)))))) | exact Nat.ne_of_lt (And.left (And.right (And.right (And.right (And.right (And.right (And.right (by with_reducible assumption)))))))) | exact Nat.ne_of_lt (And.right (And.right (And.right (And.right (And.right (And.right (by with_reducible assumption))))))) | exact Nat.ne_of_gt (And.left (And.right (And.right (And.right (And.right (And.right (And.right (by with_reducible assumption)))))))) | exact Nat.ne_of_gt (And.right (And.right (And.right (And.right (And.right (And.right (by with_reducible assumption))))))) | exact (And.left (And.right (And.right (And.right (And.right (And.right (And.right (by with_reducible assumption)))))))) | exact Ne.symm (And.left (And.right (And.right (And.right (And.right (And.right (And.right (by with_reducible assumption)))))))) | exact (And.right (And.right (And.right (And.right (And.right (And.right (by with_reducible assumption))))))) | exact Ne.symm (And.right (And.right (And.right (And.right (And.right (And.right (by with_reducible assumption))))))) | exact Nat.ne_of_lt (And.left (And.right (And.right (And.right (And.right (And.right (And.right (And.right (by with_reducible assumption))))))))) | exact Nat.ne_of_lt (And.right (And.right (And.right (And.right (And.right (And.right (And.right (by with_reducible assumption)))))))) | exact Nat.ne_of_gt (And.left (And.right (And.right (And.right (And.right (And.right (And.right (And.right (by with_reducible assumption))))))))) | exact Nat.ne_of_gt (And.right (And.right (And.right (And.right (And.right (And.right (And.right (by with_reducible assumption)))))))) | exact (And.left (And.right (And.right (And.right (And.right (And.right (And.right (And.right (by with_reducible assumption))))))))) | exact Ne.symm (And.left (And.right (And.right (And.right (And.right (And.right (And.right (And.right (by with_reducible assumption))))))))) | exact (And.right (And.right (And.right (And.right (And.right (And.right (And.right (by with_reducible assumption)))))))) | exact Ne.symm (And.right (And.right (And.right (And.right (And.right (And.right (And.right (by with_reducible assumption)))))))) | exact Nat.ne_of_lt (And.left (And.right (And.right (And.right (And.right (And.right (And.right (And.right (And.right (by with_reducible assumption)))))))))) | exact Nat.ne_of_lt (And.right (And.right (And.right (And.right (And.right (And.right (And.right (And.right (by with_reducible assumption))))))))) | exact Nat.ne_of_gt (And.left (And.right (And.right (And.right (And.right (And.right (And.right (And.right (And.right (by with_reducible assumption)))))))))) | exact Nat.ne_of_gt (And.right (And.right (And.right (And.right (And.right (And.right (And.right (And.right (by with_reducible assumption))))))))) | exact (And.left (And.right (And.right (And.right (And.right (And.right (And.right (And.right (And.right (by with_reducible assumption)))))))))) | exact Ne.symm (And.left (And.right (And.right (And.right (And.right (And.right (And.right (And.right (And.right (by with_reducible assumption)))))))))) | exact (And.right (And.right (And.right (And.right (And.right (And.right (And.right (And.right (by with_reducible assumption))))))))) | exact Ne.symm (And.right (And.right (And.right (And.right (And.right (And.right (And.right (And.right (by with_reducible assumption))))))))) | exact Nat.ne_of_lt (And.left (And.right (And.right (And.right (And.right (And.right (And.right (And.right (And.right (And.right (by with_reducible assumption))))))))))) | exact Nat.ne_of_lt (And.right (And.right (And.right (And.right (And.right (And.right (And.right (And.right (And.right (by with_reducible assumption)))))))))) | exact Nat.ne_of_gt (And.left (And.right (And.right (And.right (And.right (And.right (And.right (And.right (And.right (And.right (by with_reducible assumption))))))))))) | exact Nat.ne_of_gt (And.right (And.right (And.right (And.right (And.right (And.right (And.right (And.right (And.right (by with_reducible assumption)))))))))) | exact (And.left (And.right (And.right (And.right (And.right (And.right (And.right (And.right (And.right (And.right (by with_reducible assumption))))))))))) | exact Ne.symm (And.left (And.right (And.right (And.right (And.right (And.right (And.right (And.right (And.right (And.right (by with_reducible assumption))))))))))) | exact (And.right (And.right (And.right (And.right (And.right (And.right (And.right (And.right (And.right (by with_reducible assumption)))))))))) | exact Ne.symm (And.right (And.right (And.right (And.right (And.right (And.right (And.right (And.right (And.right (by with_reducible assumption)))))))))) | exact Nat.ne_of_lt (And.left (And.right (And.right (And.right (And.right (And.right (And.right (And.right (And.right (And.right (And.right (by with_reducible assumption)))))))))))) | exact Nat.ne_of_lt (And.right (And.right (And.right (And.right (And.right (And.right (And.right (And.right (And.right (And.right (by with_reducible assumption))))))))))) | exact Nat.ne_of_gt (And.left (And.right (And.right (And.right (And.right (And.right (And.right (And.right (And.right (And.right (And.right (by with_reducible assumption)))))))))))) | exact Nat.ne_of_gt (And.right (And.right (And.right (And.right (And.right (And.right (And.right (And.right (And.right (And.right (by with_reducible assumption))))))))))) | exact (And.left (And.right (And.right (And.right (And.right (And.right (And.right (And.right (And.right (And.right (And.right (by with_reducible assumption)))))))))))) | exact Ne.symm (And.left (And.right (And.right (And.right (And.right (And.right (And.right (And.right (And.right (And.right (And.right (by with_reducible assumption)))))))))))) | exact (And.right (And.right (And.right (And.right (And.right (And.right (And.right (And.right (And.right (And.right (by with_reducible assumption))))))))))) | exact Ne.symm (And.right (And.right (And.right (And.right (And.right (And.right (And.right (And.right (And.right (And.right (by with_reducible assumption)))))))))))))
  k_with "exec For Name Attribute cons nil" => (k_dflt (refine for_exec ?_))
  k_with "exec For Name Name cons nil" => (k_dflt (refine for_exec ?_))
  k_with "exec For Name Call cons nil" => (k_dflt (refine for_exec ?_))
  k_with "call type:tuple" => ((k_here; (with_reducible show wpAny _ _ (call (Value.type _) [Value.ref _]) _ _ _); k_dflt (refine' tupleOf_c (by k_asm) (by k_asm) (by k_mem) (by ((have hL9 := IntsAre.length (by assumption)); rw [sizeLine_eq]; omega)) ?_; k_whole); intro _ _ _ _ l19q; (try k_lt l19q); (try k_sweep)))
  k_with "call builtin:len" => ((k_here; (with_reducible show wpAny _ _ (call (Value.builtin "len") [Value.ref _]) _ _ _); k_dflt (refine' len_tupI (by k_asm) (by with_reducible assumption) (by with_reducible assumption) (by omega) ?_; k_whole); intro _ _))
  k_with "execs cons" => ((k_dflt (refine execs_n (s := ‹Shared›) ?_); intro _; (try k_fold)))
  k_with "exec If BoolOp cons nil" => (((fail_if_success (with_reducible show wpAny _ _ _ (Cut _ _) _ _)); refine Hold.out ?_))
  k_with "out" => (repeat (first | (k_unfold; (try dsimp only)) | refine cut_ret ?_ | refine turn_ret ?_))
  k_with "go" => ((w_top off; repeat' (first | (k_unfold; (try dsimp only)) | walk1 | (dsimp only; walk1))))
  k_with "call ref" => (((with_reducible show wpAny _ _ (call (Value.ref 49) _ _) _ _ _); refine Hold.out ?_))
  k_with "compareOp Eq ref ref" => (refine Hold.out ?_)
  k_with "call builtin:str.count" => (refine Hold.out ?_)
  obtain ⟨sc, hsc⟩ : ∃ sc, sc = lawSc := ⟨_, rfl⟩
  obtain ⟨B, hB⟩ : ∃ B, B = lawB.drop 16 := ⟨_, rfl⟩
  unfold lawEnv
  rw [← hsc, ← hB]
  conv at hsc => rhs; whnf
  conv at hB => rhs; whnf
  subst hsc hB
  replace F := know (x := Str.ofString "text") F m3
  replace F := know (x := Str.ofString "file") F m1
  have N := LT.N
  have gx1 := LT.N _ (List.mem_append_right _ (List.mem_append_left _ (.head _)))
  walk_at "go"
  (with_reducible rename Fr _ _ _ _ => F1)
  (with_reducible rename News _ _ _ _ => N1)
  replace LT := LT.at N1
  refine Hold.in (wpAny_call (tokB_c (c := c1) ⟨X, T⟩ (Fr.keep F1) (led_of N1 fun p hp => List.mem_append_left _ (List.mem_append_left (c2.mu w l2 v2 i2 t2 [] e2) hp)) (fun p hp => (N1 p (List.mem_append_right _ (List.mem_append_left _ hp))).1) LT.ok1 (by show dp + 1 + 48 < _; exact dlt hd (by decide)) (x1 ▸ hfin) ?_))
  intro h4 tk4 v1' ti' j line' tv En1 hj hline
  obtain ⟨F2, LT2⟩ := LT.tok1 F1 En1
  clear F1 N1 LT En1
  have N := LT2.N
  dsimp only
  walk_at "go"
  (with_reducible rename Fr _ _ _ _ => F1)
  (with_reducible rename News _ _ _ _ => N1)
  replace LT := LT2.at N1
  refine Hold.in (wpAny_call (tokB_c (c := c2) (t := []) (r := []) ⟨X, T⟩ (Fr.keep F1) (led_of N1 fun p hp => List.mem_append_left _ (List.mem_append_right (c1.mu w line' v1' j ti' [] e1) hp)) (fun p hp => (N1 p (List.mem_append_right _ (List.mem_append_right _ (List.mem_append_left _ hp)))).1) LT.ok2 (by show dp + 1 + 48 < _; exact dlt hd (by decide)) (by rw [x2, List.drop_nil]; exact .eof) ?_))
  intro h5 tk5 v2' ti2' j2 line2' tv2 En2 hj2 hline2
  obtain ⟨F2, LT3⟩ := LT.tok2 F1 En2
  clear F1 N1 LT LT2 En2
  have N := LT3.N
  dsimp only
  walk_at "go"
  refine Hold.in (KXw.count (count_nl text) ?_)
  intro t9 k9
  walk_at "go"
  (with_reducible rename News _ _ _ _ => N1)
  refine Hold.in (eq3 N1 (by k_mem) (by k_mem) (by show un + 3 < 9900; omega) (eqS lit0.symm) (eqS lit0.symm) (eqI ?_) ?_)
  · rw [nls_nil] at hline; rw [x1] at hline; omega
  · walk_at "go"
    (with_reducible rename Fr _ _ _ _ => F9)
    (with_reducible rename News _ _ _ _ => N9)
    exact hnext _ _ _ ps F9 (news_sub N9 fun p hp => by cases List.mem_singleton.mp hp; simp) hps
end
section
variable {w : World} {lo : List Str} {mean : ExcName → Option Value} {mg mb : Str → Option Value} {b₀ : Heap} {dp un : Nat} {fr : Option (List Env)} {gd : Option (List Code)} {s : Shared} {R : Result → Shared → Prop}
theorem LexTwo.add {g : Heap} {L : Addr} {h h' : Heap} {w : World} {c1 c2 : Lx} {l1 : Int} {v1 : Tok} {i1 : Nat} {t1 : Tok} {e1 : Nat} {l2 : Int} {v2 : Tok} {i2 : Nat} {t2 : Tok} {pend : List Value} {e2 : Nat} {rest : List (Addr × Obj)} {a : Nat} {o : Obj} (X : LexTwo g L h w c1 c2 l1 v1 i1 t1 e1 l2 v2 i2 t2 pend e2 rest) (N : News g L h' (two w c1 c2 l1 v1 i1 t1 e1 l2 v2 i2 t2 pend e2 ++ (c1.ro ++ (c2.ro ++ ((a, o) :: rest))))) (k : ∀ p ∈ two w c1 c2 l1 v1 i1 t1 e1 l2 v2 i2 t2 pend e2, @Ne Nat p.1 a) : LexTwo g L h' w c1 c2 l1 v1 i1 t1 e1 l2 v2 i2 t2 pend e2 ((a, o) :: rest) := by
  refine ⟨N, X.ap, AllOff.of fun p hp => ?_, X.ok1, X.ok2⟩
  rcases List.mem_append.mp hp with hp | hp
  · exact X.off.mem p (List.mem_append_left _ hp)
  rcases List.mem_append.mp hp with hp | hp
  · exact X.off.mem p (List.mem_append_right _ (List.mem_append_left _ hp))
  rcases List.mem_cons.mp hp with hp | hp
  · rw [hp]
    simp only [List.mem_cons, List.not_mem_nil, or_false, not_or]
    exact ⟨fun e => k _ (.head _) e.symm, fun e => k _ (.tail _ (.head _)) e.symm, fun e => k _ (.tail _ (.tail _ (.head _))) e.symm, fun e => k _ (.tail _ (.tail _ (.tail _ (.head _)))) e.symm, fun e => k _ (.tail _ (.tail _ (.tail _ (.tail _ (.head _))))) e.symm, fun e => k _ (.tail _ (.tail _ (.tail _ (.tail _ (.tail _ (.head _)))))) e.symm⟩
  · exact X.off.mem p (List.mem_append_right _ (List.mem_append_right _ hp))
section
variable {A B C T : List (Addr × Obj)} {a b c d e f x y : Addr × Obj}
theorem led_t4 : ∀ p ∈ a :: b :: c :: d :: e :: (C ++ (T ++ (A ++ (B ++ [x, y])))), p ∈ T ++ (A ++ (B ++ (a :: b :: c :: x :: y :: d :: e :: C))) := fun p hp => by
  simp only [List.mem_cons, List.mem_append, List.not_mem_nil, or_false] at hp ⊢
  rcases hp with h | h | h | h | h | h | h | h | h | h | h <;> simp [h]
theorem led_t5 : ∀ p ∈ T ++ (A ++ (B ++ (f :: a :: b :: c :: x :: y :: d :: e :: C))), p ∈ f :: a :: b :: c :: d :: e :: (C ++ (T ++ (A ++ (B ++ [x, y])))) := fun p hp => by
  simp only [List.mem_cons, List.mem_append, List.not_mem_nil, or_false] at hp ⊢
  rcases hp with h | h | h | h | h | h | h | h | h | h | h | h <;> simp [h]
theorem led_t6 : ∀ p ∈ T, p ∈ a :: b :: c :: d :: e :: (C ++ (T ++ (A ++ (B ++ [x, y])))) := fun p hp => .tail _ (.tail _ (.tail _ (.tail _ (.tail _ (List.mem_append_right _ (List.mem_append_left _ hp))))))
theorem led_t7 : ∀ p ∈ a :: b :: c :: d :: e :: (C ++ (f :: (T ++ (A ++ (B ++ [y, x]))))), p ∈ a :: (T ++ (A ++ (B ++ (b :: c :: x :: f :: y :: d :: e :: C)))) := fun p hp => by
  simp only [List.mem_cons, List.mem_append, List.not_mem_nil, or_false] at hp ⊢
  rcases hp with h | h | h | h | h | h | h | h | h | h | h | h <;> simp [h]
theorem led_t8 : ∀ p ∈ f :: d :: e :: (C ++ T), p ∈ b :: c :: d :: e :: (C ++ (f :: T)) := fun p hp => by
  simp only [List.mem_cons, List.mem_append] at hp ⊢
  rcases hp with h | h | h | h | h <;> simp [h]
end
set_option maxRecDepth 100000 in
set_option maxHeartbeats 2000000 in
theorem law_t1 {g : Heap} {L fa : Nat} {cd : Value} {m : Str → Option Value} {Q : Flow → Shared → Prop} {E : Value → Shared → Prop} {sl : Nat} {sv : List Value} {sc : List Int} {o1 o2 o3 o4 o5 o6 : Obj}
    (X : (Mine.hd.heap_1 w.params).In g) (T : Top topProg lo mean mg mb g) (F : Fr g L s.heap m)
    (N : News g L s.heap [(L + 1 + 1 + 1 + 1 + 1 + 1, o1), (L + 1 + 1 + 1 + 1 + 1, o2), (L + 1 + 1 + 1 + 1, o3), (L + 1 + 1 + 1, o4), (L + 1 + 1, o5), (L + 1, o6), (138, tabObj #[])])
    (d1 : o1.data = .cell none) (d2 : o2.data = .cell none) (d3 : o3.data = .cell none) (d4 : o4.data = .cell none) (d5 : o5.data = .cell none) (d6 : o6.data = .cell (some (.ref sl)))
    (hgl : g.IsList sl sv.toArray) (hv : IntsAre sv sc) (hln : sc.length ≤ 63) (hCg : CodeHd g 142 138) (l1 : 138 < L) (hd : dp + 98 < recursionLimit) (hu : un < 900)
    (hnext : ∀ h' tk' m' ps, Fr g L h' m' → News g L h' [(138, tabObj ps)] → TriplesOk ps.toList → Q (.ret (.bool true)) { s with heap := h', toks := tk' }) :
    wpAny (model P w) (Around.deeper (Ar dp fr gd un) (lawEnv L fa cd)) (execs lawB (lawEnv L fa cd)) Q E s := by
  k_with_none
  k_with "ne" => ((first | with_reducible assumption | exact Ne.symm (by with_reducible assumption) | exact Nat.ne_of_lt (by with_reducible assumption) | exact Nat.ne_of_gt (by with_reducible assumption) | (refine Nat.ne_of_lt ?_; (repeat (first | exact Nat.lt_succ_self _ | with_reducible assumption | refine Nat.lt_succ_of_lt ?_)); done) | (refine Nat.ne_of_gt ?_; (repeat (first | exact Nat.lt_succ_self _ | with_reducible assumption | refine Nat.lt_succ_of_lt ?_)); done) | exact Nat.ne_of_lt (And.left (by with_reducible assumption)) | exact Nat.ne_of_gt (And.left (by with_reducible assumption)) | exact (And.left (by with_reducible assumption)) | exact Ne.symm (And.left (by with_reducible assumption)) | exact Nat.ne_of_lt (And.left (And.right (by with_reducible assumption))) | exact Nat.ne_of_lt (And.right (by with_reducible assumption)) | exact Nat.ne_of_gt (And.left (And.right (by with_reducible assumption))) | exact Nat.ne_of_gt (And.right (by with_reducible assumption)) | exact (And.left (And.right (by with_reducible assumption))) | exact Ne.symm (And.left (And.right (by with_reducible assumption))) | exact (And.right (by with_reducible assumption)) | exact Ne.symm (And.right (by with_reducible assumption)) | exact Nat.ne_of_lt (And.left (And.right (And.right (by with_reducible assumption)))) | exact Nat.ne_of_lt (And.right (And.right (by with_reducible assumption))) | exact Nat.ne_of_gt (And.left (And.right (And.right (by with_reducible assumption)))) | exact Nat.ne_of_gt (And.right (And.right (by with_reducible assumption))) | exact (And.left (And.right (And.right (by with_reducible assumption)))) | exact Ne.symm (And.left (And.right (And.right (by with_reducible assumption)))) | exact (And.right (And.right (by with_reducible assumption))) | exact Ne.symm (And.right (And.right (by with_reducible assumption))) | exact Nat.ne_of_lt (And.left (And.right (And.right (And.right (by with_reducible assumption))))) | exact Nat.ne_of_lt (And.right (And.right (And.right (by with_reducible assumption)))) | exact Nat.ne_of_gt (And.left (And.right (And.right (And.right (by with_reducible assumption))))) | exact Nat.ne_of_gt (And.right (And.right (And.right (by with_reducible assumption)))) | exact (And.left (And.right (And.right (And.right (by with_reducible assumption))))) | exact Ne.symm (And.left (And.right (And.right (And.right (by with_reducible assumption))))) | exact (And.right (And.right (And.right (by with_reducible assumption)))) | exact Ne.symm (And.right (And.right (And.right (by with_reducible assumption)))) | exact Nat.ne_of_lt (And.left (And.right (And.right (And.right (And.right (by with_reducible assumption)))))) | exact Nat.ne_of_lt (And.right (And.right (And.right (And.right (by with_reducible assumption))))) | exact Nat.ne_of_gt (And.left (And.right (And.right (And.right (And.right (by with_reducible assumption)))))) | exact Nat.ne_of_gt (And.right (And.right (And.right (And.right (by with_reducible assumption))))) | exact (And.left (And.right (And.right (And.right (And.right (by with_reducible assumption)))))) | exact Ne.symm (And.left (And.right (And.right (And.right (And.right (by with_reducible assumption)))))) | exact (And.right (And.right (And.right (And.right (by with_reducible assumption))))) | exact Ne.symm (And.right (And.right (And.right (And.right (by with_reducible assumption))))) | exact Nat.ne_of_lt (And.left (And.right (And.right (And.right (And.right (And.right (by with_reducible assumption))))))) | exact Nat.ne_of_lt (And.right (And.right (And.right (And.right (And.right (by with_reducible assumption)))))) | exact Nat.ne_of_gt (And.left (And.right (And.right (And.right (And.right (And.right (by with_reducible assumption))))))) | exact Nat.ne_of_gt (And.right (And.right (And.right (And.right (And.right (by with_reducible assumption)))))) | exact (And.left (And.right (And.right (And.right (And.right (And.right (by with_reducible assumption))))))) | exact Ne.symm (And.left (And.right (And.right (And.right (And.right (And.right (by with_reducible assumption))))))) | exact (And.right (And.right (And.right (And.right (And.right (by with_reducible assumption)))))) | exact Ne.symm (And.right (And.right (And.right (And.right (And.right (by with_reducible assumption)))))) | exact Nat.ne_of_lt (And.left (And.right (And.right (And.right (And.right (And.right (And.right (by with_reducible assumption)))))))) | exact Nat.ne_of_lt (And.right (And.right (And.right (And.right (And.right (And.right (by with_reducible assumption))))))) | exact Nat.ne_of_gt (And.left (And.right (And.right (And.right (And.right (And.right (And.right (by with_reducible assumption)))))))) | exact Nat.ne_of_gt (And.right (And.right (And.right (And.right (And.right (And.right (by with_reducible assumption))))))) | exact (And.left (And.right (And.right (And.right (And.right (And.right (And.right (by with_reducible assumption)))))))) | exact Ne.symm (And.left (And.right (And.right (And.right (And.right (And.right (And.right (by with_reducible assumption)))))))) | exact (And.right (And.right (And.right (And.right (And.right (And.right (by with_reducible assumption))))))) | exact Ne.symm (And.right (And.right (And.right (And.right (And.right (And.right (by with_reducible assumption))))))) | exact Nat.ne_of_lt (And.left (And.right (And.right (And.right (And.right (And.right (And.right (And.right (by with_reducible assumption))))))))) | exact Nat.ne_of_lt (And.right (And.right (And.right (And.right (And.right (And.right (And.right (by with_reducible assumption)))))))) | exact Nat.ne_of_gt (And.left (And.right (And.right (And.right (And.right (And.right (And.right (And.right (by with_reducible assumption))))))))) | exact Nat.ne_of_gt (And.right (And.right (And.right (And.right (And.right (And.right (And.right (by with_reducible assumption)))))))) | exact (And.left (And.right (And.right (And.right (And.right (And.right (And.right (And.right (by with_reducible assumption))))))))) | exact Ne.symm (And.left (And.right (And.right (And.right (And.right (And.right (And.right (And.right (by with_reducible assumption))))))))) | exact (And.right (And.right (And.right (And.right (And.right (And.right (And.right (by with_reducible assumption)))))))) | exact Ne.symm (And.right (And.right (And.right (And.right (And.right (And.right (And.right (by with_reducible assumption)))))))) | exact Nat.ne_of_lt (And.left (And.right (And.right (And.right (And.right (And.right (And.right (And.right (And.right (by with_reducible assumption)))))))))) | exact Nat.ne_of_lt (And.right (And.right (And.right (And.right (And.right (And.right (And.right (And.right (by with_reducible assumption))))))))) | exact Nat.ne_of_gt (And.left (And.right (And.right (And.right (And.right (And.right (And.right (And.right (And.right (by with_reducible assumption)))))))))) | exact Nat.ne_of_gt (And.right (And.right (And.right (And.right (And.right (And.right (And.right (And.right (by with_reducible assumption))))))))) | exact (And.left (And.right (And.right (And.right (And.right (And.right (And.right (And.right (And.right (by with_reducible assumption)))))))))) | exact Ne.symm (And.left (And.right (And.right (And.right (And.right (And.right (And.right (And.right (And.right (by with_reducible assumption)))))))))) | exact (And.right (And.right (And.right (And.right (And.right (And.right (And.right (And.right (by with_reducible assumption))))))))) | exact Ne.symm (And.right (And.right (And.right (And.right (And.right (And.right (And.right (And.right (by with_reducible assumption))))))))) | exact Nat.ne_of_lt (And.left (And.right (And.right (And.right (And.right (And.right (And.right (And.right (And.right (And.right (by with_reducible assumption))))))))))) | exact Nat.ne_of_lt (And.right (And.right (And.right (And.right (And.right (And.right (And.right (And.right (And.right (by with_reducible assumption)))))))))) | exact Nat.ne_of_gt (And.left (And.right (And.right (And.right (And.right (And.right (And.right (And.right (And.right (And.right (by with_reducible assumption))))))))))) | exact Nat.ne_of_gt (And.right (And.right (And.right (And.right (And.right (And.right (And.right (And.right (And.right (by with_reducible assumption)))))))))) | exact (And.left (And.right (And.right (And.right (And.right (And.right (And.right (And.right (And.right (And.right (by with_reducible assumption))))))))))) | exact Ne.symm (And.left (And.right (And.right (And.right (And.right (And.right (And.right (And.right (And.right (And.right (by with_reducible assumption))))))))))) | exact (And.right (And.right (And.right (And.right (And.right (And.right (And.right (And.right (And.right (by with_reducible assumption)))))))))) | exact Ne.symm (And.right (And.right (And.right (And.right (And.right (And.right (And.right (And.right (And.right (by with_reducible assumption)))))))))) | exact Nat.ne_of_lt (And.left (And.right (And.right (And.right (And.right (And.right (And.right (And.right (And.right (And.right (And.right (by with_reducible assumption)))))))))))) | exact Nat.ne_of_lt (And.right (And.right (And.right (And.right (And.right (And.right (And.right (And.right (And.right (And.right (by with_reducible assumption))))))))))) | exact Nat.ne_of_gt (And.left (And.right (And.right (And.right (And.right (And.right (And.right (And.right (And.right (And.right (And.right (by with_reducible assumption)))))))))))) | exact Nat.ne_of_gt (And.right (And.right (And.right (And.right (And.right (And.right (And.right (And.right (And.right (And.right (by with_reducible assumption))))))))))) | exact (And.left (And.right (And.right (And.right (And.right (And.right (And.right (And.right (And.right (And.right (And.right (by with_reducible assumption)))))))))))) | exact Ne.symm (And.left (And.right (And.right (And.right (And.right (And.right (And.right (And.right (And.right (And.right (And.right (by with_reducible assumption)))))))))))) | exact (And.right (And.right (And.right (And.right (And.right (And.right (And.right (And.right (And.right (And.right (by with_reducible assumption))))))))))) | exact Ne.symm (And.right (And.right (And.right (And.right (And.right (And.right (And.right (And.right (And.right (And.right (by with_reducible assumption)))))))))))))
  k_with "exec For Name Attribute cons nil" => (k_dflt (refine for_exec ?_))
  k_with "exec For Name Name cons nil" => (k_dflt (refine for_exec ?_))
  k_with "exec For Name Call cons nil" => (k_dflt (refine for_exec ?_))
  k_with "call type:tuple" => ((k_here; (with_reducible show wpAny _ _ (call (Value.type _) [Value.ref _]) _ _ _); k_dflt (refine' tupleOf_c (by k_asm) (by k_asm) (by k_mem) (by ((have hL9 := IntsAre.length (by assumption)); rw [sizeLine_eq]; omega)) ?_; k_whole); intro _ _ _ _ l19q; (try k_lt l19q); (try k_sweep)))
  k_with "call builtin:len" => ((k_here; (with_reducible show wpAny _ _ (call (Value.builtin "len") [Value.ref _]) _ _ _); k_dflt (refine' len_tupI (by k_asm) (by with_reducible assumption) (by with_reducible assumption) (by omega) ?_; k_whole); intro _ _))
  k_with "execs cons" => ((k_dflt (refine execs_n (s := ‹Shared›) ?_); intro _; (try k_fold)))
  k_with "exec If BoolOp cons nil" => (((fail_if_success (with_reducible show wpAny _ _ _ (Cut _ _) _ _)); refine Hold.out ?_))
  k_with "out" => (repeat (first | (k_unfold; (try dsimp only)) | refine cut_ret ?_ | refine turn_ret ?_))
  k_with "go" => ((w_top off; repeat' (first | (k_unfold; (try dsimp only)) | walk1 | (dsimp only; walk1))))
  k_with "call ref" => ((first | (with_reducible show wpAny _ _ (call (Value.ref 148) _ _) _ _ _) | (with_reducible show wpAny _ _ (call (Value.ref 153) _ _) _ _ _)); refine Hold.out ?_)
  k_with "execs cons" => ((k_dflt (refine execs_n (s := s) ?_); intro _; (try k_fold)))
  k_with "execs cons" => (((with_reducible show wpAny _ _ (execs [_, _, _, _, _, _, _, _, _, _, _] _) _ _ _); refine Hold.out ?_))
  k_with "storeName" => ((first | (with_reducible show wpAny _ _ (storeName _ _ (Value.int (3 + _) _)) _ _ _) | (with_reducible show wpAny _ _ (storeName _ _ (Value.int (Int.fdiv _ 2) _)) _ _ _)); refine Hold.out ?_)
  k_with "eval ListComp" => ((k_here; refine Hold.out ?_))
  k_with "exec Assign cons ListComp" => ((k_here; refine Hold.out ?_))
  k_with "CompEnd" => (refine Hold.out ?_)
  k_with "CompSrc" => (refine Hold.out ?_)
  k_with "call builtin:sum" => ((k_here; k_dflt (refine' sumPick (by k_asm) (by k_asm) (by rfl) (by k_mem) (by assumption) ?_; k_whole); intro _ _ _ _ _ _; (try k_sweep)))
  k_with "ne" => ((first | exact ne_cell (by k_asm) (by k_mem) (by k_mem) (by assumption) (fun _ e => by cases e) | fail "no"))
  obtain ⟨scc, hsc⟩ : ∃ sc, sc = lawSc := ⟨_, rfl⟩
  obtain ⟨B, hB⟩ : ∃ B, B = lawB := ⟨_, rfl⟩
  unfold lawEnv
  rw [← hsc, ← hB]
  conv at hsc => rhs; whnf
  conv at hB => rhs; whnf
  subst hsc hB
  have hvl := hv.length
  walk_at "go"
  obtain ⟨high, hh, e⟩ := high_is ((sc.length : Int) + sc.sum)
  rw [e]
  clear e
  refine Hold.in ?_
  dsimp only
  walk_at "go"
  obtain ⟨n, hn, e⟩ := count_is2 hh
  rw [e]
  clear e
  have hn10 : 6 ≤ n ∧ n ≤ 10 := by omega
  replace hh := Hid.mk hh
  replace hn := Hid.mk hn
  refine Hold.in ?_
  dsimp only
  walk_at "go"
  rename_i lF hF lF1 h8 o7 F N d7 tk8
  refine Hold.in ?_
  k_here
  k_dflt (refine LCg.Assign_ListComp_U (F₀ := by k_asm) (by rfl) (by with_unfolding_all rfl) (by with_unfolding_all rfl) (by decide) (by rfl) (by decide) (by rfl) (by rfl) (by rfl) ?_)
  walk_at "go"
  refine Hold.in ?_
  k_here
  k_dflt (refine LCg.CompSrc.range (by rfl) (by k_asm) (by k_asm) (by assumption) (small_one (by omega) (by omega) (by omega) (by omega)) (PyProof.Rows.rangeSize_nat _ _) (by rw [sizeLine_eq]; omega) ?_)
  intro g'
  refine comp_inv (FigJ _) ?_ ?_ ⟨rfl, [], .nil, rfl, fun _ h => nomatch h⟩
  · (try dsimp only)
    rintro i ys _ hi ⟨rfl, hy⟩ v I oI C oC D m₂ h tk E' ⟨tv, rfl⟩ hC hx F N off ne
    have hi10 : i < 10 := by omega
    walk_at "go"
    exact Hold.in (LCg.CompEnd.intro (by k_asm) (by k_asm) _ (by kcj_all) off trivial (FigJ.next ⟨rfl, hy⟩))
  · rintro ys _ ⟨rfl, fs, hfs, hfl, hfb⟩
    have hfln : fs.length = n := by omega
    unfold LCg.FinA
    intro lG h9 tk9 F N oG
    (try dsimp only)
    walk_at "go"
    replace hh := hh.out
    replace hn := hn.out
    (with_reducible rename News _ _ _ _ => N0)
    replace N0 : News g L _ [(lG, LCg.lst ys), (L + 1 + 1 + 1 + 1 + 1 + 1, o1), (L + 1 + 1 + 1 + 1 + 1, o2), (L + 1 + 1 + 1 + 1, o3), (L + 1 + 1 + 1, o4), (L + 1, o6), (138, tabObj #[])] := news_sub N0 (by kcj_all)
    clear d7
    have hln2 : fs.length ≤ high * (high + 1) / 2 := by rcases hn with ⟨rfl, rfl⟩ | ⟨rfl, rfl⟩ <;> omega
    refine Hold.in (wpAny_call (order_c (high := high) ⟨X, T⟩ (Fr.keep (by k_asm)) (News.isList N0 (.head _)) hfs hh hln2 (fun f hf => (hfb f hf).1) (by show dp + 1 + 28 < _; exact dlt hd (by decide)) ?_))
    intro h11 tk11 Cl cls cc En2 hneC hcls
    have hcl : cls.length = n := by rw [← hfln, ← orderP_len (high := high) fs (List.replicate high 0), ← hcls, List.length_map]
    have hcb : ∀ c ∈ cls, c.i ≤ 7 ∧ c.j ≤ 7 := fun c hc => order_bd hn hfln (c.i, c.j) (hcls ▸ List.mem_map_of_mem (f := fun c => (c.i, c.j)) hc)
    have A4 := En2.allNe (p := (L + 1 + 1 + 1, _)) N0 (by k_mem)
    have A3 := En2.allNe (p := (L + 1 + 1 + 1 + 1, _)) N0 (by k_mem)
    have A2 := En2.allNe (p := (L + 1 + 1 + 1 + 1 + 1, _)) N0 (by k_mem)
    have A1 := En2.allNe (p := (L + 1 + 1 + 1 + 1 + 1 + 1, _)) N0 (by k_mem)
    have A0 := En2.allNe (p := (138, _)) N0 (by k_mem)
    dsimp only at A0 A1 A2 A3 A4
    obtain ⟨F2, N2⟩ := En2.out (mu := []) (by k_asm) N0 rfl trivial
    clear N0
    replace N2 := News.swap N2
    simp only [List.cons_append, List.nil_append] at N2
    dsimp only
    walk_at "go"
    (with_reducible rename News _ _ _ _ => N1)
    refine Hold.in (wpAny_call (leads_c (cls := cls) ⟨X, T⟩ (Fr.keep (by k_asm)) (led_of N1 (fun p hp => by repeat (first | exact hp | refine .tail _ ?_))) (News.isList N1 (.head _)) hneC (by omega) (by omega) hcb (Int.fmod_nonneg_of_pos _ (by decide)) (Int.fmod_lt_of_pos _ (by decide)) (by show dp + 1 + 28 < _; exact dlt hd (by decide)) ?_))
    intro h12 tk12 lD H W RN ovs eo hH hW hRN En3 hovs
    replace N1 := News.turn 8 N1
    simp only [List.drop_succ_cons, List.drop_zero, List.take_succ_cons, List.take_zero] at N1
    have hoff := fun q => cells_off N1 q
    replace hoff := hoff (by (repeat' (first | exact trivial | refine And.intro ?_ ?_)) <;> first | exact nopair_list | (intro u v e; cases e; done) | exact nopair_cell (by assumption))
    obtain ⟨F3, N3⟩ := En3.out (mu := cellsLed cls) (by k_asm) N1 rfl hoff
    simp only [List.cons_append, List.nil_append] at N3
    replace N3 := News.swap N3
    simp only [List.cons_append, List.nil_append] at N3
    dsimp only
    walk_at "go"
    clear hoff
    (with_reducible rename Fr _ _ _ _ => F9)
    (with_reducible rename News _ _ _ _ => N9)
    obtain ⟨oL, dL, NL⟩ : ∃ o : Obj, o.data = .cell (some (.ref lD)) ∧ News g L _ [(L + 1 + 1 + 1 + 1, o)] := ⟨_, by assumption, news_sub N9 (by kcj_all)⟩
    obtain ⟨oC, dC, NC⟩ : ∃ o : Obj, o.data = .cell (some (.ref Cl)) ∧ News g L _ [(L + 1 + 1 + 1, o)] := ⟨_, by assumption, news_sub N9 (by kcj_all)⟩
    have NB : News g L _ ((L + 1 + 1 + 1 + 1 + 1, o2) :: (L + 1 + 1 + 1 + 1 + 1 + 1, o1) :: (138, tabObj #[]) :: (lG, LCg.lst ys) :: (lD, listOf ovs.toArray eo) :: (Cl, listOf (cellRefs cls).toArray cc) :: cellsLed cls) := news_sub N9 (by kcj_all)
    have NR := News.join (News.join NL NC) NB
    have z1 := (NB _ (.head _)).1
    have z2 := (NB _ (.tail _ (.head _))).1
    have z3 := (NB _ (.tail _ (.tail _ (.head _)))).1
    have z4 := (NB _ (.tail _ (.tail _ (.tail _ (.tail _ (.tail _ (.head _))))))).1
    have a5 : AllNe (L + 1 + 1 + 1 + 1 + 1) ((L + 1 + 1 + 1, oC) :: (Cl, listOf (cellRefs cls).toArray cc) :: cellsLed cls) := ⟨by show @Ne Nat _ _; walk_at "ne", ne_obj z4 z1 (by rw [d2]; nofun), A2⟩
    have a6 : AllNe (L + 1 + 1 + 1 + 1 + 1 + 1) ((L + 1 + 1 + 1, oC) :: (Cl, listOf (cellRefs cls).toArray cc) :: cellsLed cls) := ⟨by show @Ne Nat _ _; walk_at "ne", ne_obj z4 z2 (by rw [d1]; nofun), A1⟩
    have at8 : AllNe 138 ((L + 1 + 1 + 1, oC) :: (Cl, listOf (cellRefs cls).toArray cc) :: cellsLed cls) := ⟨by show @Ne Nat _ _; walk_at "ne", ne_obj z4 z3 nofun, A0⟩
    clear z1 z2 z3 z4 A0 A1 A2 A3 A4
    clear N9 NL NC NB
    obtain ⟨ld, hld⟩ : ∃ ld, ld = cls.map fun c => leadP ((high : Int) == 4) H W RN (sc.sum.fmod 2520) c.i c.j := ⟨_, rfl⟩
    obtain ⟨us, hus⟩ : ∃ us, us = (wordsP 0 ld).map S := ⟨_, rfl⟩
    obtain ⟨es, hes⟩ : ∃ es, es = (endsOf ltP us.length us).1 := ⟨_, rfl⟩
    obtain ⟨rows, hrw⟩ : ∃ rows, rows = es.map fun u => ((pairsOf cls).getD (us.idxOf u) (0, 0)).1 := ⟨_, rfl⟩
    obtain ⟨fin, p1, p2, p3, p4, p5, p6, p7, p8⟩ := plain02 hn hfln (rest := sc.sum.fmod 2520) (cs := pairsOf cls) hcls (pl := ((high : Int) == 4)) (H := H) (W := W) (RN := RN) (by rw [hH, List.map_map]; rfl) (by rw [hW, List.map_map]; rfl) hRN (ld := ld) (by rw [hld, List.map_map]; rfl) hus hes hrw
    have hlen : ld.length = n := by rw [hld, List.length_map]; exact hcl
    have hH0 := max_bd (f := fun c => c.i) (b := 7) (hH ▸ maxL_mem (by rw [Ne, List.map_eq_nil_iff]; intro q; rw [q] at hcl; simp at hcl; omega)) (fun c hc => (hcb c hc).1)
    have hW0 := max_bd (f := fun c => c.j) (b := 7) (hW ▸ maxL_mem (by rw [Ne, List.map_eq_nil_iff]; intro q; rw [q] at hcl; simp at hcl; omega)) (fun c hc => (hcb c hc).2)
    have hR0 := run_bd hH0.1 hH0.2 hW0.1 hW0.2 hRN
    have hldb : ∀ x ∈ ld, x.length ≤ 1000 := by
      rw [hld]
      intro x hx
      obtain ⟨c, hc, rfl⟩ := List.mem_map.mp hx
      exact leadP_len hH0.1 hH0.2 hW0.1 hW0.2 hR0.1 hR0.2 (hcb c hc).1 (hcb c hc).2
    have hov : StrsAre ovs (ld.map S) := by rw [hld, List.map_map]; exact hovs
    have hul : us.length = n := by rw [hus, List.length_map, wordsP_len, hlen]
    clear hld hH0 hW0 hR0 hovs hH hW hRN
    refine Hold.in (law_t2 (ld := ld) (n := n) (rest := (L + 1 + 1 + 1, oC) :: (Cl, listOf (cellRefs cls).toArray cc) :: cellsLed cls) X T F9 rfl (news_sub NR (by kcj_all)) d2 dL d1 rfl hfs hov hlen (by omega) hfln (fun f hf => (hfb f hf).1) hldb a5 at8 a6 hCg l1 hd ?_)
    clear NR F9 a5 a6 at8 hov dL
    intro h13 tk13 m3 c1 c2 v1 v2 t1 t2 ps wL ws ow ol tt F3 q1 dl q3 q4 LT e1 e2 hps hws dW
    rw [← hus] at hws
    refine law_t3 (us := us) (fin := fin) (rest := (138, tabObj ps) :: (L + 1 + 1 + 1, oC) :: (Cl, listOf (cellRefs cls).toArray cc) :: cellsLed cls) X T F3 q1 dl (LT.sub (by kcj_all)) dW hws (by rw [e1]; exact p1) (by omega) (by omega) (by rw [hus]; exact words_nodup ld 0) (fun u hu' => by rw [hus] at hu'; obtain ⟨x, hx, rfl⟩ := List.mem_map.mp hu'; rw [S_len]; exact Nat.le_trans (words_bd hldb 0 x hx) (by decide)) hd ?_
    clear LT F3
    intro h14 tk14 m4 out os eo l1' v1' i1' t1' e1' l2' v2' i2' t2' pend e2' F4 q5 q6 LT ho hpend hdrop hline
    refine law_t4 (cls := cls) (us := us) (es := es) (rest := two w c1 c2 l1' v1' i1' t1' e1' l2' v2' i2' t2' pend e2' ++ (c1.ro ++ (c2.ro ++ [(L + 1 + 1 + 1 + 1 + 1 + 1, ol), (138, tabObj ps)]))) X T F4 q5 (news_sub LT.N led_t4) dW dC hws (hes ▸ ho) (by omega) (by omega) p4 p3 hd ?_
    intro h15 tk15 m5 rL rv F5 q7 q8 N5 hrv hrn
    have LT5 := (LT.add (a := rL) (o := LCg.lst rv) (news_sub N5 led_t5) (fun p hp => hrn p (led_t6 p hp))).sub (rest' := (wL, LCg.lst ws) :: (L + 1 + 1 + 1 + 1 + 1, ow) :: (L + 1 + 1 + 1 + 1 + 1 + 1, ol) :: (rL, LCg.lst rv) :: (138, tabObj ps) :: (L + 1 + 1 + 1, oC) :: (Cl, listOf (cellRefs cls).toArray cc) :: cellsLed cls) (by kcj_all)
    clear LT N5 hrn F4
    have hpl : pend.length = n := by
      have := hpend.len_eq
      rw [this, show endsOf ltW us.length us = endsOf ltP us.length us from rfl, p8, List.length_map, List.length_map, hcl]
    refine law_t5 X T F5 LT5 dW dl (by rw [hpl, ← hul]; exact hws.len_eq) (by omega) hd ?_
    intro h16 tk16 m6 lL e3 F6 q9 q10 N6
    have LT6 : LexTwo g L h16 w c1 c2 l1' v1' i1' t1' e1' l2' v2' i2' t2' [] e3 ((wL, LCg.lst ws) :: (L + 1 + 1 + 1 + 1 + 1, ow) :: (L + 1 + 1 + 1 + 1 + 1 + 1, ol) :: (rL, LCg.lst rv) :: (138, tabObj ps) :: (L + 1 + 1 + 1, oC) :: (Cl, listOf (cellRefs cls).toArray cc) :: cellsLed cls) := ⟨drop1 N6, LT5.ap, LT5.off, LT5.ok1, LT5.ok2⟩
    clear LT5 F5
    refine law_t6 (cls := cls) (us := us) (pend := pend) (rest := (rL, LCg.lst rv) :: (two w c1 c2 l1' v1' i1' t1' e1' l2' v2' i2' t2' [] e3 ++ (c1.ro ++ (c2.ro ++ [(138, tabObj ps), (L + 1 + 1 + 1 + 1 + 1 + 1, ol)])))) X T F6 q9 (news_sub N6 led_t7) dW dC hws hpend (by omega) (by omega) (fun c hc => p7 (c.i, c.j) (List.mem_map_of_mem (f := fun c => (c.i, c.j)) hc)) (by rw [show endsOf ltW us.length us = endsOf ltP us.length us from rfl, p8, List.map_map]; rfl) hd (by omega) ?_
    clear N6
    intro h17 tk17 F7 N7
    refine law_t7 (high := high) (rows := rows) (cls := cls) (rest := two w c1 c2 l1' v1' i1' t1' e1' l2' v2' i2' t2' [] e3 ++ (c1.ro ++ (c2.ro ++ [(138, tabObj ps), (L + 1 + 1 + 1 + 1 + 1 + 1, ol)]))) X T F7 ((q10 _ (by decide)).trans q7) ((q10 _ (by decide)).trans ((q8 _ (by decide)).trans ((q6 _ (by decide)).trans (q4.trans rfl)))) (news_sub N7 led_t8) dC (hrw ▸ hrv) hh (by rw [hrw, List.length_map]; exact p4) (by omega) p5 p6 hd hu ?_
    clear N7
    intro h18 tk18 F8 N8
    exact law_t8 (rest := []) X T F8 ((q10 _ (by decide)).trans ((q8 _ (by decide)).trans ((q6 _ (by decide)).trans q1))) ((q10 _ (by decide)).trans ((q8 _ (by decide)).trans ((q6 _ (by decide)).trans q3))) ((LT6.sub (rest' := [(138, tabObj ps), (L + 1 + 1 + 1 + 1 + 1 + 1, ol)]) (by kcj_all)).at N8) dl hdrop (by rw [e2]; decide +kernel) p2 (by rw [hline, e1, wordsP_len]) (Nat.le_trans (written_len (fun x hx => Nat.le_trans (words_bd hldb 0 x hx) (by decide)) _) (by rw [wordsP_len]; omega)) hps hd (by omega) hnext
end
theorem law_go {w : World} {lo : List Str} {mean : ExcName → Option Value} {mg mb : Str → Option Value} {dp un : Nat} {fr : Option (List Env)} {gd : Option (List Code)} {s : Shared} {h₁ : Heap} {tk : Nat} {g : Heap} {L fa : Nat} {cd : Value} {m : Str → Option Value} {Q : Flow → Shared → Prop} {E : Value → Shared → Prop} {sl : Nat} {sv : List Value} {sc : List Int} {o1 o2 o3 o4 o5 o6 : Obj}
    (X : (Mine.hd.heap_1 w.params).In g) (T : Top topProg lo mean mg mb g) (F : Fr g L h₁ m)
    (N : News g L h₁ [(L + 1 + 1 + 1 + 1 + 1 + 1, o1), (L + 1 + 1 + 1 + 1 + 1, o2), (L + 1 + 1 + 1 + 1, o3), (L + 1 + 1 + 1, o4), (L + 1 + 1, o5), (L + 1, o6), (138, tabObj #[])])
    (d1 : o1.data = .cell none) (d2 : o2.data = .cell none) (d3 : o3.data = .cell none) (d4 : o4.data = .cell none) (d5 : o5.data = .cell none) (d6 : o6.data = .cell (some (.ref sl)))
    (hgl : g.IsList sl sv.toArray) (hv : IntsAre sv sc) (hln : sc.length ≤ 63) (hCg : CodeHd g 142 138) (l1 : 138 < L) (hd : dp + 98 < recursionLimit) (hu : un < 900)
    (hnext : ∀ h' tk' m' ps, Fr g L h' m' → News g L h' [(138, tabObj ps)] → TriplesOk ps.toList → Q (.ret (.bool true)) { s with heap := h', toks := tk' }) :
    wpAny (model P w) (Around.deeper (Ar dp fr gd un) (lawEnv L fa cd)) (execs lawB (lawEnv L fa cd)) Q E { s with heap := h₁, toks := tk } :=
  law_t1 X T F N d1 d2 d3 d4 d5 d6 hgl hv hln hCg l1 hd hu hnext
theorem list_ghost {h : Heap} {c : Addr} {a : Nat} {its : Array Value} (hl : h.IsList a its) (hT : TabsAt [(c, 138)] h) : (ghostOf h [(c, 138)]).IsList a its := by
  obtain ⟨o, e, k⟩ := hl
  refine ⟨o, hideAll_get _ e fun q => ?_, k⟩
  have h2 := (hT _ (.head _)).2
  rw [show a = 138 by simpa using q, h2] at e
  cases e
  exact absurd k.1 nofun
set_option maxRecDepth 100000 in
set_option maxHeartbeats 2000000 in
theorem fin_c : PySem.Challenge.rw_pe0167_02.Holds := by
  refine Mine.hd (by
    w_strict (k_go0; (all_goals try k_fold); (with_reducible rename Fr _ _ _ _ => F0); (with_reducible rename News _ _ _ _ => N0); (with_reducible rename Frag.In _ (ghostOf _ _) => X0); (with_reducible rename Top topProg _ _ _ _ _ => T0); (refine' law_go (dp := 1 + claimMargin) (un := 4) (fr := some []) (gd := some []) X0 T0 F0 N0 ?d1 ?d2 ?d3 ?d4 ?d5 ?d6 ?hgl ?hv ?hln ?hC ?l1 ?hd ?hu ?hnext); (case d1 => assumption); (case d2 => assumption); (case d3 => assumption); (case d4 => assumption); (case d5 => assumption); (case d6 => assumption); (case hgl => exact list_ghost (by assumption) (by assumption)); (case hv => assumption); (case hln => omega); (case hC => assumption); (case l1 => assumption); (case hd => decide); (case hu => decide); (case hnext => (intro h' tk' m' ps F N hps; dsimp only; k_steps))))
end Mine
theorem PySem.Challenge.cw_pe0167_02_holds : PySem.Challenge.rw_pe0167_02.Holds :=
  Mine.fin_c
