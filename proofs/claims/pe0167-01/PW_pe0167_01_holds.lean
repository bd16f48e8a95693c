import PyProof.Rows.All
import Wide.All
import OpenK.AllK
import Wide.FinOn
import PySem.Challenge.RW_pe0167_01
open PySem PySem.W PySem.Calls PyProof.Rows
set_option Elab.async false
set_option compiler.extract_closed false
set_option genInjectivity false
set_option genSizeOfSpec false
set_option maxRecDepth 100000
namespace Mine
noncomputable def vw : Program := { Challenge.pw_pe0167_01 with main := { Challenge.pw_pe0167_01.main with body := [0, 2, 4, 6, 7, 8, 9, 10, 11, 12, 13, 14].filterMap fun i => Challenge.pw_pe0167_01.main.body[i]? } }
/-- topFrom over the library's quick copies of the run and its tables -/
noncomputable def topQ (p : Program) (w : World) (N : Nat) (s₀ : Shared) : Option Shared :=
  match s₀.heap.isNs mainGlobals && s₀.gens.size == 0 with
  | true => (PySem.W.Fast.tw14082659384304107361 PySem.W.Fast.tw14364793385576792824 p w s₀.heap.objs.size (s₀.heap.nsMap mainGlobals "__annotations__") N s₀ (topStub p)).bind fun s₁ => match staticsOk (importedModules p.main.body) s₀.heap s₁.heap && namesBound p s₁.heap && gensDone s₁ && laidKept s₀.heap s₁.heap with
      | true => some s₁
      | false => none
  | false => none
theorem topQ_eq (p : Program) (w : World) (N : Nat) (s : Shared) : topFrom treeTable p w N s = topQ p w N s := by
  unfold topFrom topQ
  rw [PySem.W.Fast.te14082659384304107361, PySem.W.Fast.te14364793385576792824]
  rfl
theorem left_of {p q : Program} {loose : List Str} {Xt : Shared → Bool} {α : Type} {Yf : Shared → α} {Ya : World → α} {N : Nat} (e : opening p = plainProg p.main.scope.names) (hN : Nat.ble 600 N = true) (f : ∀ s, fenceModules? p s = some s) (row : String)
    (h : ∀ (b : Bool) (w : World) (os : OsState), (topQ p (w.withFollow row b) N ⟨boot_heap w.params, Array.mk [], boot_drawn, boot_toks, os⟩).map (fun s => PySem.W.Fast.tw4187177175401517315 q loose (importedModules p.main.body) Xt true s) = some (openGood q loose))
    (y : ∀ (b : Bool) (w : World) (os : OsState), (topQ p (w.withFollow row b) N ⟨boot_heap w.params, Array.mk [], boot_drawn, boot_toks, os⟩).map Yf = some (Ya (w.withFollow row b))) :
    LeftO p q loose Xt Yf Ya N true := fun w => by
  obtain ⟨s, a, b⟩ := Option.map_eq_some_iff.mp (boot_open (p := p) e hN f w)
  obtain ⟨hh, hg, hd, ht⟩ : s.heap = boot_heap w.params ∧ s.gens = Array.mk [] ∧ s.drawn = boot_drawn ∧ s.toks = boot_toks := by simpa using b
  have es : s = ⟨boot_heap w.params, Array.mk [], boot_drawn, boot_toks, s.os⟩ := by cases s; simp_all
  unfold openEnds
  rw [a]
  have k := h (w.params.followText row) w s.os
  have z := y (w.params.followText row) w s.os
  rw [World.withFollow_self w row] at k z
  obtain ⟨s', k1, k2⟩ := Option.map_eq_some_iff.mp k
  rw [k1] at z
  show (topFrom treeTable p w N s).map _ = _
  rw [es, topQ_eq, k1, PySem.W.Fast.te4187177175401517315]
  show some (_, Yf s') = _
  rw [k2, Option.some.inj z]
noncomputable abbrev row1 : OpenRow := Challenge.rw_pe0167_01.row
noncomputable def xt1 (s : Shared) : Bool := xlAt vw [] s && recOk (RowW.records row1.toRowW) s
theorem seen_f (w : World) (os : OsState) : (topQ Challenge.pw_pe0167_01 (w.withFollow "special-get-raises" false) 3000 ⟨boot_heap w.params, Array.mk [], boot_drawn, boot_toks, os⟩).map (fun s => PySem.W.Fast.tw4187177175401517315 vw [Str.ofString "Whitespace"] (importedModules Challenge.pw_pe0167_01.main.body) xt1 true s) = some (openGood vw [Str.ofString "Whitespace"]) := by kernel_rfl
theorem seen_t (w : World) (os : OsState) : (topQ Challenge.pw_pe0167_01 (w.withFollow "special-get-raises" true) 3000 ⟨boot_heap w.params, Array.mk [], boot_drawn, boot_toks, os⟩).map (fun s => PySem.W.Fast.tw4187177175401517315 vw [Str.ofString "Whitespace"] (importedModules Challenge.pw_pe0167_01.main.body) xt1 true s) = some (openGood vw [Str.ofString "Whitespace"]) := by kernel_rfl
theorem said1 : Challenge.rw_pe0167_01.wellSaid = true := by kernel_rfl
local macro_rules | `(tactic| o_law) => `(tactic| refine holds_law said1 fun said => ?_)
local macro_rules | `(tactic| o_head $H) => `(tactic| (
  refine holds_open (q := vw) (loose := [Str.ofString "Whitespace"]) (Xt := xt1) (XP := XL vw []) (Yf := Hook.obs $H) (Ya := Hook.val $H) (YP := Hook.says $H) (N := 3000) ?hl (Hook.of $H) (Hook.keeps $H) (fun s e => xl_of s (Bool.and_eq_true_iff.mp e).1) XL.keeps (by rfl) (by rfl) (by rfl) (fun s e => recFacts_of (Bool.and_eq_true_iff.mp e).2) (by rfl) (by first | assumption | decide +kernel) (by decide +kernel) ⟨rfl, rfl, rfl, rfl, rfl, by decide +kernel⟩ ?hw ?hc
  (case hl => exact left_of (by kernel_rfl) (by kernel_rfl) (fun _ => by kernel_rfl) "special-get-raises" (fun b => Bool.rec seen_f seen_t b) (fun b => Bool.rec (fun _ _ => by kernel_rfl) (fun _ _ => by kernel_rfl) b))))
set_option maxRecDepth 100000 in
set_option maxHeartbeats 4000000 in
open_top hd for PySem.Challenge.rw_pe0167_01
end Mine
namespace Mine

/-- the heap but for the addresses in M stands as it was -/
noncomputable def Kept (h h' : Heap) (M : List Addr) : Prop := ∀ b o, h.get? b = some o → b ∉ M → h'.get? b = some o

/-- what a call leaves: all but M is kept; the ledger news' holds, each of its objects is of M or new -/
structure Ends (h h' : Heap) (M : List Addr) (news' : List (Addr × Obj)) : Prop where
  kept : Kept h h' M
  has : ∀ p ∈ news', h'.get? p.1 = some p.2 ∧ (p.1 ∈ M ∨ h.get? p.1 = none)

/-- the written part and the top's facts, at a heap that lies under all -/
structure Gd (K : Frag) (lo : List Str) (mean : ExcName → Option Value) (mg mb : Str → Option Value) (b : Heap) : Prop where
  X : K.In b
  T : Top topProg lo mean mg mb b
theorem Gd.keeps {K : Frag} {lo : List Str} {mean : ExcName → Option Value} {mg mb : Str → Option Value} {b h : Heap} (G : Gd K lo mean mg mb b) (k : ∀ x o, b.get? x = some o → h.get? x = some o) : Gd K lo mean mg mb h :=
  ⟨G.X.keeps k, G.T.keeps k⟩

/-- the ledger at a heap, over the ground b₀ -/
noncomputable def Led (b₀ h : Heap) (l : List (Addr × Obj)) : Prop := ∀ p ∈ l, h.get? p.1 = some p.2 ∧ b₀.get? p.1 = none
noncomputable def Over (b₀ h : Heap) : Prop := ∀ b o, b₀.get? b = some o → h.get? b = some o

theorem Led.nil {b₀ h : Heap} : Led b₀ h [] := fun _ hp => nomatch hp
theorem Led.cons {b₀ h : Heap} {a : Addr} {o : Obj} {r : List (Addr × Obj)} (e : h.get? a = some o) (hg : b₀.get? a = none) (N : Led b₀ h r) : Led b₀ h ((a, o) :: r) := fun p hp => by
  rcases List.mem_cons.mp hp with rfl | hp
  · exact ⟨e, hg⟩
  · exact N p hp
section
variable {prog : Program} {w : World} {A : Around} {s : Shared} {R : Result → Shared → Prop} {K : Frag} {lo : List Str} {mean : ExcName → Option Value} {mg mb : Str → Option Value} {b₀ : Heap}
theorem enter
    {name qual : Str} {params : Arguments} {body : List Stmt} {scope : Scope} {dV kV doc pm cdv ct oc : Value} {an od : Option Addr} {osl : Array (Option Value)}
    {f : Addr} {args : Args} {binds : List (Str × Value)}
    (news : List (Addr × Obj)) (G : Gd K lo mean mg mb b₀) (hb : Over b₀ s.heap) (hN : Led b₀ s.heap news)
    (ho : K.lookup f = some ⟨oc, od, .func (fnOf name qual params body scope dV kV doc pm an cdv ct), osl⟩) (hcd : codeIn K cdv qual = true) (hroom : A.depth < recursionLimit)
    (hbind : BindsTo s (fnOf name qual params body scope dV kV doc pm an cdv ct) args binds) (hloc : ∀ y ∈ binds, scope.names.lookup y.1 = some .local)
    (hcell : ∀ x ∈ scope.names, x.2 ≠ .cell)
    (h : ∀ g L h₁ tk, Fr g L h₁ (fun y => binds.reverse.lookup y) → News g L h₁ news → K.In g → Top topProg lo mean mg mb g →
      (∀ b o, s.heap.get? b = some o → b ∉ news.map (·.1) → g.get? b = some o) →
      wpAny (model prog w) (A.deeper (envOf qual scope L f cdv)) (execs body (envOf qual scope L f cdv))
        (fun fl s' => R (.ok (.ret (match fl with | .ret v => v | _ => .none))) s') (fun _ _ => False)
        { s with heap := h₁, toks := tk })
    (hco : scope.isCoroutine = false := by rfl) (hgen : scope.isGenerator = false := by rfl) (hk : scope.kind = .function := by rfl) :
    codeAny (model prog w) A (.call (.ref f) args) R s := by
  have hs : ∀ b o, b₀.get? b = some o → (hideAll s.heap (news.map (·.1))).get? b = some o := fun b o e => hideAll_get _ (hb b o e) fun q => by
    obtain ⟨p, hp, rfl⟩ := List.mem_map.mp q
    rw [(hN p hp).2] at e; cases e
  have G' := G.keeps hs
  have kp : ∀ b o, (hideAll s.heap (news.map (·.1))).get? b = some o → s.heap.get? b = some o := fun b o e => of_hideAll _ e
  have X' : K.In s.heap := G'.X.keeps kp
  refine codeAny_call_def (fd := fnOf name qual params body scope dV kV doc pm an cdv ct) (body := body) (binds := binds) hroom (X' _ _ ho) rfl (G'.T.nolimit.keeps kp) (codeRec_of X' hcd) rfl hbind hcell hloc (fun h₁ hns hk₁ => ?_) hco hgen hk
  exact wpAny_mono (h _ _ h₁ _ ⟨hns, fun b o e => hk₁ b o (kp b o e), Nat.le_of_eq (hideAll_size _ _)⟩ (fun p hp => ⟨hk₁ _ _ (hN p hp).1, Nat.ne_of_lt (Heap.lt_size (hN p hp).1), hideAll_none _ (List.mem_map_of_mem hp)⟩)
    G'.X G'.T (fun b o e n => hideAll_get _ e n)) (fun _ _ x => x) fun _ _ x => x.elim
end

section
variable {g h h' : Heap} {L : Addr} {m : Str → Option Value} {M : List Addr} {news news' rest : List (Addr × Obj)}
/-- a call's end, as its caller is told -/
theorem ends_of (F : Fr g L h' m) (N : News g L h' news') (hg : ∀ b o, h.get? b = some o → b ∉ M → g.get? b = some o) : Ends h h' M news' := by
  refine ⟨fun b o e n => F.keep b o (hg b o e n), fun p hp => ⟨(N p hp).1, ?_⟩⟩
  by_cases q : p.1 ∈ M
  · exact .inl q
  · refine .inr ?_
    cases e : h.get? p.1 with
    | none => rfl
    | some o => have := hg _ _ e q; rw [(N p hp).2.2] at this; cases this
theorem Ends.fr (E : Ends h h' M news') (F : Fr g L h m) (N : News g L h news) (hM : ∀ a ∈ M, a ∈ news.map (·.1)) : Fr g L h' m := by
  have off : ∀ a ∈ M, a ≠ L ∧ g.get? a = none := fun a ha => by
    obtain ⟨p, hp, rfl⟩ := List.mem_map.mp (hM a ha)
    exact ⟨(N p hp).2.1, (N p hp).2.2⟩
  obtain ⟨oL, es, ep, hL, r⟩ := F.ns
  exact ⟨⟨oL, es, ep, E.kept _ _ hL fun q => (off _ q).1 rfl, r⟩, fun b o e => E.kept _ _ (F.keep b o e) (fun q => by rw [(off _ q).2] at e; cases e), F.above⟩
theorem Ends.led (E : Ends h h' M news') (F : Fr g L h m) (N : News g L h news) (hM : ∀ a ∈ M, a ∈ news.map (·.1)) (hr : ∀ p ∈ rest, p ∈ news ∧ p.1 ∉ M) : News g L h' (news' ++ rest) := by
  have off : ∀ a ∈ M, a ≠ L ∧ g.get? a = none := fun a ha => by
    obtain ⟨p, hp, rfl⟩ := List.mem_map.mp (hM a ha)
    exact ⟨(N p hp).2.1, (N p hp).2.2⟩
  intro p hp
  rcases List.mem_append.mp hp with hp | hp
  · refine ⟨(E.has p hp).1, ?_⟩
    rcases (E.has p hp).2 with q | q
    · exact off _ q
    · refine ⟨fun e => ?_, ?_⟩
      · obtain ⟨oL, es, ep, hL, r⟩ := F.ns
        rw [e, hL] at q; cases q
      · cases e : g.get? p.1 with
        | none => rfl
        | some o => rw [F.keep _ _ e] at q; cases q
  · exact ⟨E.kept _ _ (N p (hr p hp).1).1 (hr p hp).2, (N p (hr p hp).1).2⟩
theorem news_sub (N : News g L h news) (hs : ∀ p ∈ news', p ∈ news) : News g L h news' := fun p hp => N p (hs p hp)
theorem inst_gn {x C dx : Addr} {od : Obj} (F : Fr g L h m) (e : g.get? x = some (instObj C dx)) (N : News g L h news) (h2 : (dx, od) ∈ news) : InstAt h x (instObj C dx) C (some od) :=
  ⟨F.keep _ _ e, rfl, rfl, (N _ h2).1⟩
theorem inst_gg {x C dx : Addr} {od : Obj} (F : Fr g L h m) (e : g.get? x = some (instObj C dx)) (h2 : g.get? dx = some od) : InstAt h x (instObj C dx) C (some od) :=
  ⟨F.keep _ _ e, rfl, rfl, F.keep _ _ h2⟩
end

end Mine
namespace Mine
section
variable {prog : Program} {w : World} {A : Around} {s : Shared} {R : Result → Shared → Prop} {K : Frag} {lo : List Str} {mean : ExcName → Option Value} {mg mb : Str → Option Value} {b₀ : Heap}
/-- a def some of whose names are cells -/
theorem enterC
    {name qual : Str} {params : Arguments} {body : List Stmt} {scope : Scope} {dV kV doc pm cdv ct oc : Value} {an od : Option Addr} {osl : Array (Option Value)}
    {f : Addr} {args : Args} {binds : List (Str × Value)}
    (news : List (Addr × Obj)) (G : Gd K lo mean mg mb b₀) (hb : Over b₀ s.heap) (hN : Led b₀ s.heap news)
    (ho : K.lookup f = some ⟨oc, od, .func (fnOf name qual params body scope dV kV doc pm an cdv ct), osl⟩) (hcd : codeIn K cdv qual = true) (hroom : A.depth < recursionLimit)
    (hbind : BindsTo s (fnOf name qual params body scope dV kV doc pm an cdv ct) args binds)
    (hkind : (binds.all fun y => scope.names.lookup y.1 == some .local || scope.names.lookup y.1 == some .cell) = true)
    (hnd : ((cellsFrom 0 scope.names []).map (·.1)).Nodup)
    (h : ∀ g L h₁ tk cells, Fr g L h₁ (bindL (envOfC qual scope L f cdv).kindOf binds fun _ => none) → News g L h₁ (cells ++ news) →
      CellsAre (bindC (envOfC qual scope L f cdv).kindOf binds fun _ => none) (cellsFrom (L + 1) scope.names []) cells → K.In g → Top topProg lo mean mg mb g →
      (∀ p ∈ news, p.1 < L) → (∀ b o, s.heap.get? b = some o → b ∉ news.map (·.1) → g.get? b = some o) →
      wpAny (model prog w) (A.deeper (envOfC qual scope L f cdv)) (execs body (envOfC qual scope L f cdv))
        (fun fl s' => R (.ok (.ret (match fl with | .ret v => v | _ => .none))) s') (fun _ _ => False)
        { s with heap := h₁, toks := tk })
    (hco : scope.isCoroutine = false := by rfl) (hgen : scope.isGenerator = false := by rfl) (hk : scope.kind = .function := by rfl) :
    codeAny (model prog w) A (.call (.ref f) args) R s := by
  have hs : ∀ b o, b₀.get? b = some o → (hideAll s.heap (news.map (·.1))).get? b = some o := fun b o e => hideAll_get _ (hb b o e) fun q => by
    obtain ⟨p, hp, rfl⟩ := List.mem_map.mp q
    rw [(hN p hp).2] at e; cases e
  have G' := G.keeps hs
  have kp : ∀ b o, (hideAll s.heap (news.map (·.1))).get? b = some o → s.heap.get? b = some o := fun b o e => of_hideAll _ e
  have X' : K.In s.heap := G'.X.keeps kp
  refine codeAny_call_function hroom (X' _ _ ho) rfl hco hgen rfl (codeRec_of X' hcd) (hbind _ _ _ _ ?_)
  refine wpAny_newFunctionEnv_cells hk (kindsX hkind _) fun env' he s' x => ?_
  subst he
  refine ⟨(G'.T.nolimit.keeps kp).keeps x.toInCall.keep, codeAny_func ?_⟩
  obtain ⟨h₁, tk, rfl, _⟩ := x.done
  have hk₁ := x.toInCall.keep
  obtain ⟨cells, NC, Y⟩ := Cl.news (h₀ := s.heap) (Nat.le_refl _) fun n c hm => ⟨x.cell n c (lookup_of_mem_nodup (cellsFrom_names scope.names 0 (s.heap.objs.size + 1) [] [] rfl ▸ hnd) hm), x.above n c hm⟩
  refine wpAny_mono (h _ s.heap.objs.size h₁ tk cells ⟨x.toInCall.ns, fun b o e => hk₁ b o (kp b o e), Nat.le_of_eq (hideAll_size _ _)⟩ (fun p hp => ?_) Y G'.X G'.T (fun p hp => Heap.lt_size (hN p hp).1) (fun b o e n => hideAll_get _ e n)) (fun _ _ x => x) fun _ _ x => x.elim
  rcases List.mem_append.mp hp with hp | hp
  · refine ⟨(NC p hp).1, (NC p hp).2.1, ?_⟩
    cases q : (hideAll s.heap (news.map (·.1))).get? p.1 with
    | none => rfl
    | some o => have := of_hideAll _ q; rw [(NC p hp).2.2] at this; cases this
  · exact ⟨hk₁ _ _ (hN p hp).1, Nat.ne_of_lt (Heap.lt_size (hN p hp).1), hideAll_none _ (List.mem_map_of_mem hp)⟩

/-- a lambda that closes over cells -/
theorem enterE
    {name qual : Str} {params : Arguments} {body : PySem.Expr} {scope : Scope} {cl : List (Str × Addr)} {pm ctv : Value} {c' f : Addr} {args : Args} {binds : List (Str × Value)}
    (news : List (Addr × Obj)) (G : Gd K lo mean mg mb b₀) (hb : Over b₀ s.heap) (hN : Led b₀ s.heap news)
    (ho : s.heap.get? f = some (kla_obj name qual params body scope cl pm c' ctv)) (hcd : s.heap.CodeRec (.ref c') qual) (hroom : A.depth < recursionLimit)
    (hbind : bindArgs (kla_fn name qual params body scope cl pm (.ref c') ctv) args = pure binds) (hloc : ∀ y ∈ binds, scope.names.lookup y.1 = some .local)
    (hcell : ∀ x ∈ scope.names, x.2 ≠ .cell)
    (h : ∀ g L h₁ tk, Fr g L h₁ (fun y => binds.reverse.lookup y) → News g L h₁ news → K.In g → Top topProg lo mean mg mb g →
      (∀ b o, s.heap.get? b = some o → b ∉ news.map (·.1) → g.get? b = some o) →
      wpAny (model prog w) (A.deeper (envX qual scope L f (.ref c') cl)) (eval body (envX qual scope L f (.ref c') cl))
        (fun v s' => R (.ok (.ret v)) s') (fun _ _ => False)
        { s with heap := h₁, toks := tk })
    (hco : scope.isCoroutine = false := by rfl) (hgen : scope.isGenerator = false := by rfl) (hk : scope.kind = .function := by rfl) :
    codeAny (model prog w) A (.call (.ref f) args) R s := by
  have hs : ∀ b o, b₀.get? b = some o → (hideAll s.heap (news.map (·.1))).get? b = some o := fun b o e => hideAll_get _ (hb b o e) fun q => by
    obtain ⟨p, hp, rfl⟩ := List.mem_map.mp q
    rw [(hN p hp).2] at e; cases e
  have G' := G.keeps hs
  have kp : ∀ b o, (hideAll s.heap (news.map (·.1))).get? b = some o → s.heap.get? b = some o := fun b o e => of_hideAll _ e
  refine kla_callFunE hroom ho rfl hco hgen rfl hcd ?_
  rw [hbind]
  refine wpAny_pure (wpAny_newFunctionEnv hcell hloc (fun h₁ hns hsb => ⟨(G'.T.nolimit.keeps kp).fresh _ hsb, ?_⟩) hk)
  show codeAny _ _ (.expr body (envX qual scope s.heap.objs.size f (.ref c') cl)) _ _
  have hk₁ : ∀ b o, s.heap.get? b = some o → h₁.get? b = some o := fun b o e => hsb.extBut b o (Nat.ne_of_lt (Heap.lt_size e)) (Heap.get?_push_of_some _ e)
  exact kla_codeExpr (wpAny_mono (h _ s.heap.objs.size h₁ _ ⟨hns, fun b o e => hk₁ b o (kp b o e), Nat.le_of_eq (hideAll_size _ _)⟩
    (fun p hp => ⟨hk₁ _ _ (hN p hp).1, Nat.ne_of_lt (Heap.lt_size (hN p hp).1), hideAll_none _ (List.mem_map_of_mem hp)⟩) G'.X G'.T (fun b o e n => hideAll_get _ e n)) (fun _ _ x => x) fun _ _ x => x.elim)
end
end Mine
namespace Mine
/-- a fact kept out of sight -/
structure Hid (p : Prop) : Prop where
  out : p
theorem sub_one_of {i n : Nat} (h : i < n) : n - i = n - (i + 1) + 1 := by omega
theorem lt_nat {i n : Nat} (h : i < ((n : Int) - 0).toNat) : i < n := by rwa [Int.sub_zero] at h

/-- none of the ledger's addresses is I -/
noncomputable def AllNe (I : Nat) : List (Addr × Obj) → Prop
  | [] => True
  | p :: r => @Ne Nat p.1 I ∧ AllNe I r
theorem AllNe.mem {I : Nat} : ∀ {l : List (Addr × Obj)}, AllNe I l → ∀ p ∈ l, p.1 ≠ I
  | [], _, _, h => nomatch h
  | _ :: _, x, p, h => by
    rcases List.mem_cons.mp h with rfl | h
    · exact x.1
    · exact AllNe.mem x.2 p h
theorem AllNe.of {I : Nat} : ∀ {l : List (Addr × Obj)}, (∀ p ∈ l, p.1 ≠ I) → AllNe I l
  | [], _ => trivial
  | _ :: _, h => ⟨h _ List.mem_cons_self, AllNe.of fun p hp => h p (List.mem_cons_of_mem _ hp)⟩

theorem know {g h : Heap} {L : Addr} {m : Str → Option Value} {x : Str} {v : Value} (F : Fr g L h m) (e : m x = some v) : Fr g L h (fun y => if y = x then some v else m y) := by
  have : (fun y => if y = x then some v else m y) = m := by
    funext y
    by_cases q : y = x
    · rw [if_pos q, q, e]
    · rw [if_neg q]
  rw [this]; exact F

section
variable {prog : Program} {w : World} {A : Around} {E : Value → Shared → Prop} {s : Shared} {env : Env} {g : Heap} {L : Addr} {m : Str → Option Value} {news : List (Addr × Obj)} {Q : Flow → Shared → Prop}

noncomputable def ForSrc (prog : Program) (w : World) (A : Around) (env : Env) (tgt : PySem.Expr) (body : List Stmt) (Q : Flow → Shared → Prop) (xv : Value) (s₁ : Shared) : Prop :=
  wpAny (model prog w) A (pyIter xv) (fun it s₂ => codeAny (model prog w) A (.forLoop tgt it body [] env) (fun r s' => match r with | .ok f => Q f s' | .error _ => False) s₂) (fun _ _ => False) s₁

theorem for_exec {tgt iter : PySem.Expr} {body : List Stmt} {pos : Pos} (h : wpAny (model prog w) A (eval iter env) (ForSrc prog w A env tgt body Q) E s)
    (hs : ∀ x, foldedSetIterable iter env x = pure x := by intro _; rfl) : wpAny (model prog w) A (exec (.For tgt iter body [] pos) env) Q E s :=
  wpAny_For (wpAny_mono h (fun _ _ hx => wpAny_mono hx (fun _ _ hc => codeAny_mono hc fun r _ q => by cases r with | ok f => exact q | error _ => exact q.elim) fun _ _ q => q.elim) fun _ _ e => e) hs

/-- a turn's end -/
noncomputable def Turn (g : Heap) (L I : Addr) (oI : Obj) (s : Shared) (Jn : (Str → Option Value) → List (Addr × Obj) → Prop) (Q : Flow → Shared → Prop) (f : Flow) (s₂ : Shared) : Prop :=
  match f with
  | .ret v => Q (.ret v) s₂
  | .brk => Q .next s₂
  | _ => ∃ h' tk m₂ news₂, s₂ = { s with heap := h', toks := tk } ∧ Fr g L h' m₂ ∧ News g L h' ((I, oI) :: news₂) ∧ AllNe I news₂ ∧ Jn m₂ news₂

theorem turn_next {I : Addr} {oI : Obj} {Jn : (Str → Option Value) → List (Addr × Obj) → Prop} {h' : Heap} {tk : Nat} {m₂ : Str → Option Value} {all : List (Addr × Obj)} (F : Fr g L h' m₂) (N : News g L h' all) (news₂ : List (Addr × Obj))
    (hs : ∀ p ∈ (I, oI) :: news₂, p ∈ all) (ho : AllNe I news₂) (hj : Jn m₂ news₂) : Turn g L I oI s Jn Q .next { s with heap := h', toks := tk } :=
  ⟨h', tk, m₂, news₂, rfl, F, fun p hp => N p (hs p hp), ho, hj⟩
theorem for_walk {x : Str} {px : Pos} {body : List Stmt} {I : Addr} {fp : List Addr} {n : Nat} {P : Nat → Value → Prop} {St : Nat → Heap → Prop}
    (W : Walks prog w A I fp [I] n P St) (hfp : ∀ b ∈ fp, b ≠ I → ∃ o, g.get? b = some o) (hIo : ∀ i h, St i h → ∃ o, h.get? I = some o)
    (hL : env.locals = L) (hx : env.kindOf x = some .local) (hp : (env.scope.kind == .class || (env.scope.kind == .module && env.locals != env.globals)) = false)
    (hIL : I ≠ L) (hIg : g.get? I = none) (hIn : ∀ p ∈ news, p.1 ≠ I) (hst : St 0 s.heap) (F : Fr g L s.heap m) (N : News g L s.heap news)
    (J : Nat → (Str → Option Value) → List (Addr × Obj) → Prop) (h0 : J 0 m news)
    (turn : ∀ i v m₁ news₁ h tk oI, i < n → P i v → J i m₁ news₁ → AllNe I news₁ → Fr g L h (fun y => if y = x then some v else m₁ y) → News g L h ((I, oI) :: news₁) →
      wpAny (model prog w) A (execs body env) (Turn g L I oI s (J (i + 1)) Q) (fun _ _ => False) { s with heap := h, toks := tk })
    (done : ∀ h tk m' news', Fr g L h m' → News g L h news' → J n m' news' → Q .next { s with heap := h, toks := tk }) :
    codeAny (model prog w) A (.forLoop (.Name x px) (.ref I) body [] env) (fun r s' => match r with | .ok f => Q f s' | .error _ => False) s := by
  subst hL
  have hIf : I ∈ fp := W.sub I (List.mem_singleton.mpr rfl)
  have old : ∀ b o, g.get? b = some o → b ∉ [I] := fun b o e hb => by rw [List.mem_singleton.mp hb, hIg] at e; cases e
  have hLw : env.locals ∉ [I] := fun h => hIL (List.mem_singleton.mp h).symm
  refine codeAny_forLoop
    (fun k s' => ∃ h' tk m' news' i, s' = { s with heap := h', toks := tk } ∧ St i h' ∧ Fr g env.locals h' m' ∧ News g env.locals h' news' ∧ (∀ p ∈ news', p.1 ≠ I) ∧ J i m' news' ∧ i ≤ n ∧ k = n + 1 - i) ?_ (n + 1)
    ⟨s.heap, s.toks, m, news, 0, rfl, hst, F, N, hIn, h0, Nat.zero_le _, rfl⟩
  rintro k s' ⟨h', tk, m', news', i, rfl, hst', F', N', hnw', hJ, hi, rfl⟩
  have next : ∀ h₁ : Heap, (∀ b o, b ∉ [I] → h'.get? b = some o → h₁.get? b = some o) → Fr g env.locals h₁ m' ∧ News g env.locals h₁ news' := fun h₁ hk₁ =>
    ⟨⟨F'.ns.at' fun o e => hk₁ _ o hLw e, fun b o e => hk₁ b o (old b o e) (F'.keep b o e), F'.above⟩, fun p hp => ⟨hk₁ _ _ (fun q => hnw' p hp (List.mem_singleton.mp q)) (N' p hp).1, (N' p hp).2⟩⟩
  by_cases hlt : i < n
  · refine W.item i _ _ _ hlt hst' fun v h₁ tk₁ hP hst₁ hk₁ => ?_
    obtain ⟨F₁, N₁⟩ := next h₁ hk₁
    refine wpAny_assign_Name (wpAny_storeName_local hx F₁.ns (fun h₂ hn₂ hs₂ => ?_) hp)
    have F₂ := F₁.set hn₂ hs₂
    obtain ⟨oI, hoI⟩ := hIo _ _ hst₁
    have hoI₂ : h₂.get? I = some oI := (hs₂.2 I hIL).trans hoI
    have N₂ : News g env.locals h₂ ((I, oI) :: news') := fun p hp => by
      rcases List.mem_cons.mp hp with rfl | hp
      · exact ⟨hoI₂, hIL, hIg⟩
      · exact N₁.set hs₂ p hp
    refine wpAny_mono (turn i v m' news' h₂ _ oI hlt hP hJ (.of hnw') F₂ N₂) (fun f s₃ h₃ => ?_) fun _ _ e => e.elim
    have fin : (∃ h₄ tk₄ m₂ news₂, s₃ = { s with heap := h₄, toks := tk₄ } ∧ Fr g env.locals h₄ m₂ ∧ News g env.locals h₄ ((I, oI) :: news₂) ∧ AllNe I news₂ ∧ J (i + 1) m₂ news₂) →
        ∃ m, m < n + 1 - i ∧ ∃ h' tk m' news' i, s₃ = { s with heap := h', toks := tk } ∧ St i h' ∧ Fr g env.locals h' m' ∧ News g env.locals h' news' ∧ (∀ p ∈ news', p.1 ≠ I) ∧ J i m' news' ∧ i ≤ n ∧ m = n + 1 - i := by
      rintro ⟨h₄, tk₄, m₂, news₂, rfl, F₄, N₄, ho₄, hJ₄⟩
      refine ⟨n + 1 - (i + 1), by omega, h₄, tk₄, m₂, news₂, i + 1, rfl, ?_, F₄, fun p hp => N₄ p (.tail _ hp), ho₄.mem, hJ₄, hlt, rfl⟩
      refine W.frame _ _ _ hst₁ fun b hb o e => ?_
      by_cases q : b = I
      · subst q
        rw [hoI] at e; cases e
        exact (N₄ _ (.head _)).1
      · obtain ⟨o', ho'⟩ := hfp b hb q
        have e₁ := F₁.keep b o' ho'
        rw [e] at e₁; cases e₁
        exact F₄.keep b o ho'
    cases f with
    | ret v => exact h₃
    | brk => exact h₃
    | next => exact fin h₃
    | cont => exact fin h₃
  · have hin : i = n := by omega
    subst hin
    refine W.done _ _ _ hst' fun h₁ tk₁ hk₁ => wpAny_execs_nil ?_
    obtain ⟨F₁, N₁⟩ := next h₁ hk₁
    exact done h₁ tk₁ m' news' F₁ N₁ hJ

theorem for_list {x : Str} {px : Pos} {body : List Stmt} {ax : Addr} {its : List Value} (hh : A.handled = none) (hl : g.IsList ax its.toArray)
    (hL : env.locals = L) (hx : env.kindOf x = some .local) (hp : (env.scope.kind == .class || (env.scope.kind == .module && env.locals != env.globals)) = false)
    (F : Fr g L s.heap m) (N : News g L s.heap news)
    (J : Nat → (Str → Option Value) → List (Addr × Obj) → Prop) (h0 : J 0 m news)
    (turn : ∀ i v m₁ news₁ h tk I oI h₀, i < its.length → its[i]? = some v → J i m₁ news₁ → AllNe I news₁ → Fr g L h (fun y => if y = x then some v else m₁ y) → News g L h ((I, oI) :: news₁) →
      wpAny (model prog w) A (execs body env) (Turn g L I oI { s with heap := h₀ } (J (i + 1)) Q) (fun _ _ => False) { s with heap := h, toks := tk })
    (done : ∀ h tk m' news', Fr g L h m' → News g L h news' → J its.length m' news' → Q .next { s with heap := h, toks := tk }) :
    ForSrc prog w A env (.Name x px) body Q (.ref ax) s := by
  have hls : s.heap.IsList ax its.toArray := hl.at fun o e => F.keep ax o e
  obtain ⟨ol, hol, _⟩ := id hl
  have hlt : ax < s.heap.objs.size := Heap.lt_size (F.keep _ _ hol)
  unfold ForSrc
  refine wpAny_pyIter_list hls ?_
  have W := Walks.list (prog := prog) (w := w) hh s.heap.objs.size ax (Nat.ne_of_lt hlt) its.toArray
  have up : ∀ b o, s.heap.get? b = some o → (s.heap.push { cls := .type "list_iterator", data := .fields #[.ref ax, .int 0 0] }).get? b = some o := fun b o e => Heap.get?_push_of_some _ e
  refine for_walk (m := m) (news := news) W (fun b hb hne => ?_) (fun i h st => ?_) hL hx hp (Nat.ne_of_gt F.ns.lt) (next_is_new F) (fun p hp => Nat.ne_of_lt (Heap.lt_size (N p hp).1)) ⟨⟨_, Heap.get?_push_size _ rfl, rfl, rfl⟩, hls.push _⟩ (F.keeps up) (N.grown up) J h0 ?_ ?_
  · rcases List.mem_cons.mp hb with q | hb
    · exact absurd q hne
    · rw [List.mem_singleton.mp hb]; exact ⟨_, hol⟩
  · obtain ⟨o, e, _⟩ := st.1; exact ⟨o, e⟩
  · intro i v m₁ news₁ h tk oI hi hP hJ hoff F₁ N₁
    exact turn i v m₁ news₁ h tk _ oI _ (by simpa using hi) (by simpa using hP) hJ hoff F₁ N₁
  · intro h tk m' news' F' N' hJ
    exact done h tk m' news' F' N' (by simpa using hJ)

theorem for_str {x : Str} {px : Pos} {body : List Stmt} {u : Str} {tu : Tok} (hh : A.handled = none)
    (hL : env.locals = L) (hx : env.kindOf x = some .local) (hp : (env.scope.kind == .class || (env.scope.kind == .module && env.locals != env.globals)) = false)
    (F : Fr g L s.heap m) (N : News g L s.heap news)
    (J : Nat → (Str → Option Value) → List (Addr × Obj) → Prop) (h0 : J 0 m news)
    (turn : ∀ i c tc m₁ news₁ h tk I oI h₀, i < u.cps.size → u.cps[i]? = some c → J i m₁ news₁ → AllNe I news₁ → Fr g L h (fun y => if y = x then some (.str ⟨#[c]⟩ tc) else m₁ y) → News g L h ((I, oI) :: news₁) →
      wpAny (model prog w) A (execs body env) (Turn g L I oI { s with heap := h₀ } (J (i + 1)) Q) (fun _ _ => False) { s with heap := h, toks := tk })
    (done : ∀ h tk m' news', Fr g L h m' → News g L h news' → J u.cps.size m' news' → Q .next { s with heap := h, toks := tk }) :
    ForSrc prog w A env (.Name x px) body Q (.str u tu) s := by
  unfold ForSrc
  have up : ∀ o b o', s.heap.get? b = some o' → (s.heap.push o).get? b = some o' := fun o b o' e => Heap.get?_push_of_some _ e
  cases ha : u.cps.all (· < 128)
  · refine wpAny_pyIter_wide ha ?_
    refine for_walk (m := m) (news := news) (Walks.strWide hh _ u tu) (fun b hb hne => absurd (List.mem_singleton.mp hb) hne) (fun i h st => by obtain ⟨o, e, _⟩ := st; exact ⟨o, e⟩) hL hx hp (Nat.ne_of_gt F.ns.lt) (next_is_new F)
      (fun p hp => Nat.ne_of_lt (Heap.lt_size (N p hp).1)) ⟨_, Heap.get?_push_size _ rfl, rfl, rfl⟩ (F.keeps (up _)) (N.grown (up _)) J h0 ?_ ?_
    · rintro i v m₁ news₁ h tk oI hi ⟨c, tc, hc, rfl⟩ hJ hoff F₁ N₁
      exact turn i c tc m₁ news₁ h tk _ oI _ hi hc hJ hoff F₁ N₁
    · intro h tk m' news' F' N' hJ
      exact done h tk m' news' F' N' hJ
  · refine wpAny_pyIter_ascii ha ?_
    refine for_walk (m := m) (news := news) (Walks.strAscii hh _ u tu) (fun b hb hne => absurd (List.mem_singleton.mp hb) hne) (fun i h st => by obtain ⟨o, e, _⟩ := st; exact ⟨o, e⟩) hL hx hp (Nat.ne_of_gt F.ns.lt) (next_is_new F)
      (fun p hp => Nat.ne_of_lt (Heap.lt_size (N p hp).1)) ⟨_, Heap.get?_push_size _ rfl, rfl, rfl⟩ (F.keeps (up _)) (N.grown (up _)) J h0 ?_ ?_
    · rintro i v m₁ news₁ h tk oI hi ⟨c, tc, hc, rfl⟩ hJ hoff F₁ N₁
      exact turn i c tc m₁ news₁ h tk _ oI _ hi hc hJ hoff F₁ N₁
    · intro h tk m' news' F' N' hJ
      exact done h tk m' news' F' N' hJ

theorem for_range {x : Str} {px : Pos} {body : List Stmt} {r : Addr} {a b c : Int} {t u v : Tok} {n : Nat} (hh : A.handled = none)
    (hr : IsRange s.heap r a b c t u v) (hsm : Builtin.Range.small a b c = true) (hn : Builtin.Range.rangeSize a b c = ((n : Nat) : Int))
    (hL : env.locals = L) (hx : env.kindOf x = some .local) (hp : (env.scope.kind == .class || (env.scope.kind == .module && env.locals != env.globals)) = false)
    (F : Fr g L s.heap m) (N : News g L s.heap news)
    (J : Nat → (Str → Option Value) → List (Addr × Obj) → Prop) (h0 : J 0 m news)
    (turn : ∀ i tc m₁ news₁ h tk I oI h₀, i < n → J i m₁ news₁ → AllNe I news₁ → Fr g L h (fun y => if y = x then some (.int (a + (i : Int) * c) tc) else m₁ y) → News g L h ((I, oI) :: news₁) →
      wpAny (model prog w) A (execs body env) (Turn g L I oI { s with heap := h₀ } (J (i + 1)) Q) (fun _ _ => False) { s with heap := h, toks := tk })
    (done : ∀ h tk m' news', Fr g L h m' → News g L h news' → J n m' news' → Q .next { s with heap := h, toks := tk }) :
    ForSrc prog w A env (.Name x px) body Q (.ref r) s := by
  unfold ForSrc
  refine wpAny_pyIter_range hr hsm ?_
  have up : ∀ o b o', s.heap.get? b = some o' → (s.heap.push o).get? b = some o' := fun o b o' e => Heap.get?_push_of_some _ e
  refine for_walk (m := m) (news := news) (Walks.range hh _ a c n) (fun b hb hne => absurd (List.mem_singleton.mp hb) hne) (fun i h st => ⟨_, st⟩) hL hx hp (Nat.ne_of_gt F.ns.lt) (next_is_new F)
    (fun p hp => Nat.ne_of_lt (Heap.lt_size (N p hp).1)) (by show IsRangeIter _ _ _ _ _; rw [hn]; simpa using Heap.get?_push_size _ rfl) (F.keeps (up _)) (N.grown (up _)) J h0 ?_ ?_
  · rintro i v m₁ news₁ h tk oI hi ⟨tc, rfl⟩ hJ hoff F₁ N₁
    exact turn i tc m₁ news₁ h tk _ oI _ hi hJ hoff F₁ N₁
  · intro h tk m' news' F' N' hJ
    exact done h tk m' news' F' N' hJ
end
end Mine
namespace Mine
section
variable {prog : Program} {w : World} {A : Around} {s : Shared} {env : Env} {Q Q' : Flow → Shared → Prop}
theorem ForSrc.mono {tgt : PySem.Expr} {body : List Stmt} {xv : Value} (h : ForSrc prog w A env tgt body Q' xv s) (k : ∀ f s', Q' f s' → Q f s') : ForSrc prog w A env tgt body Q xv s :=
  wpAny_mono h (fun _ _ hc => codeAny_mono hc fun r _ q => by cases r with | ok f => exact k _ _ q | error _ => exact q) fun _ _ e => e
end
end Mine
namespace Mine
noncomputable abbrev Ar (dp : Nat) (fr : Option (List Env)) (gd : Option (List Code)) (un : Nat) : Around := { handled := none, depth := dp, frames := fr, guards := gd, units := un }
end Mine
namespace Mine
section
variable {prog : Program} {w : World} {A : Around} {E : Value → Shared → Prop} {s : Shared} {g : Heap} {L : Addr} {m : Str → Option Value} {news : List (Addr × Obj)}
theorem tupleOf_c {l : Addr} {its : List Value} {n : Nat} {Q : Value → Shared → Prop} (F : Fr g L s.heap m) (N : News g L s.heap news) (hm : (l, listOf its.toArray n) ∈ news) (hz : its.length ≤ sizeLine)
    (h : ∀ D h', Fr g L h' m → News g L h' ((D, ({ cls := .type "tuple", data := .seq its.toArray } : Obj)) :: news) → (∀ p ∈ news, p.1 < D) → Q (.ref D) { s with heap := h' }) : wpAny (model prog w) A (call (.type "tuple") [.ref l]) Q E s := by
  refine call_tuple_list (News.isList N hm) (fun h' hk => ?_) (by simpa using hz)
  have F' : Fr g L h' m := F.keeps hk
  have N' : News g L h' news := fun p hp => ⟨hk _ _ (N p hp).1, (N p hp).2⟩
  exact h _ _ (F'.push _) (N'.push F' _) fun p hp => Heap.lt_size (N' p hp).1
end
end Mine
namespace Mine
section
variable {M : Model} {A : Around} {E : Value → Shared → Prop} {s : Shared} {env : Env} {Q : Flow → Shared → Prop} {h : Heap} {tk : Nat}
theorem execs_n {st : Stmt} {rest : List Stmt}
    (k : ∀ tk, wpAny M A (exec st env) (fun f s' => match f with | .next => wpAny M A (execs rest env) Q E s' | f => Q f s') E { s with heap := h, toks := tk }) :
    wpAny M A (execs (st :: rest) env) Q E { s with heap := h, toks := tk } := wpAny_execs_cons (k tk)
end
end Mine
namespace Mine
section
variable {prog : Program} {w : World} {A : Around} {E : Value → Shared → Prop} {s : Shared} {g : Heap} {L : Addr} {m : Str → Option Value} {news : List (Addr × Obj)}
theorem len_tupI {t : Addr} {vs : List Value} {ns : List Int} {Q : Value → Shared → Prop} (F : Fr g L s.heap m) (ht : IsTup g t vs.toArray) (hi : IntsAre vs ns) (hl : ns.length ≤ 2097152)
    (h : ∀ t' tk', Q (.int ns.length t') { s with toks := tk' }) : wpAny (model prog w) A (call (.builtin "len") [.ref t]) Q E s := by
  have e : vs.toArray.size = ns.length := by simp [hi.length]
  refine PyProof.Rows.len_tuple (Fr.tup F ht) (by rw [e]; omega) ?_
  rw [e]
  exact h _ _
end
end Mine
namespace Mine
section
variable {prog : Program} {w : World} {A : Around} {s : Shared} {env : Env} {g : Heap} {L : Addr} {m : Str → Option Value} {news : List (Addr × Obj)} {Q : Flow → Shared → Prop}
theorem for_up {x : Str} {px : Pos} {body : List Stmt} {r : Addr} {a b : Int} {t u v : Tok} (hh : A.handled = none)
    (hr : IsRange s.heap r a b 1 t u v) (hb : -(2 ^ 62) ≤ a ∧ a < 2 ^ 62 ∧ -(2 ^ 62) ≤ b ∧ b < 2 ^ 62)
    (hL : env.locals = L) (hx : env.kindOf x = some .local) (hp : (env.scope.kind == .class || (env.scope.kind == .module && env.locals != env.globals)) = false)
    (F : Fr g L s.heap m) (N : News g L s.heap news)
    (J : Nat → (Str → Option Value) → List (Addr × Obj) → Prop) (h0 : J 0 m news)
    (turn : ∀ i tc m₁ news₁ h tk I oI h₀, i < (b - a).toNat → J i m₁ news₁ → AllNe I news₁ → Fr g L h (fun y => if y = x then some (.int (a + (i : Int)) tc) else m₁ y) → News g L h ((I, oI) :: news₁) →
      wpAny (model prog w) A (execs body env) (Turn g L I oI { s with heap := h₀ } (J (i + 1)) Q) (fun _ _ => False) { s with heap := h, toks := tk })
    (done : ∀ h tk m' news', Fr g L h m' → News g L h news' → J (b - a).toNat m' news' → Q .next { s with heap := h, toks := tk }) :
    ForSrc prog w A env (.Name x px) body Q (.ref r) s := by
  refine for_range hh hr (small_one hb.1 hb.2.1 hb.2.2.1 hb.2.2.2) (PyProof.Rows.rangeSize_nat a b) hL hx hp F N J h0 ?_ done
  intro i tc m₁ news₁ h tk I oI h₀ hi hJ hne F₁ N₁
  rw [Int.mul_one] at F₁
  exact turn i tc m₁ news₁ h tk I oI h₀ hi hJ hne F₁ N₁
theorem for_down {x : Str} {px : Pos} {body : List Stmt} {r : Addr} {a b : Int} {t u v : Tok} (hh : A.handled = none)
    (hr : IsRange s.heap r a b (-1) t u v) (hb : -(2 ^ 62) ≤ a ∧ a < 2 ^ 62 ∧ -(2 ^ 62) ≤ b ∧ b < 2 ^ 62)
    (hL : env.locals = L) (hx : env.kindOf x = some .local) (hp : (env.scope.kind == .class || (env.scope.kind == .module && env.locals != env.globals)) = false)
    (F : Fr g L s.heap m) (N : News g L s.heap news)
    (J : Nat → (Str → Option Value) → List (Addr × Obj) → Prop) (h0 : J 0 m news)
    (turn : ∀ i tc m₁ news₁ h tk I oI h₀, i < (a - b).toNat → J i m₁ news₁ → AllNe I news₁ → Fr g L h (fun y => if y = x then some (.int (a - (i : Int)) tc) else m₁ y) → News g L h ((I, oI) :: news₁) →
      wpAny (model prog w) A (execs body env) (Turn g L I oI { s with heap := h₀ } (J (i + 1)) Q) (fun _ _ => False) { s with heap := h, toks := tk })
    (done : ∀ h tk m' news', Fr g L h m' → News g L h news' → J (a - b).toNat m' news' → Q .next { s with heap := h, toks := tk }) :
    ForSrc prog w A env (.Name x px) body Q (.ref r) s := by
  refine for_range hh hr (small_down hb.1 hb.2.1 hb.2.2.1 hb.2.2.2) (rangeSize_downNat a b) hL hx hp F N J h0 ?_ done
  intro i tc m₁ news₁ h tk I oI h₀ hi hJ hne F₁ N₁
  rw [show a + (i : Int) * (-1) = a - i by omega] at F₁
  exact turn i tc m₁ news₁ h tk I oI h₀ hi hJ hne F₁ N₁
end
end Mine
namespace Mine
section
variable {g h h' : Heap} {L : Addr} {m : Str → Option Value} {news : List (Addr × Obj)}
theorem Ends.fr0 (E : Ends h h' [] []) (F : Fr g L h m) : Fr g L h' m := E.fr (news := []) F News.nil fun _ ha => nomatch ha
theorem Ends.led0 (E : Ends h h' [] []) (N : News g L h news) : News g L h' news := fun p hp => ⟨E.kept _ _ (N p hp).1 (fun q => nomatch q), (N p hp).2⟩
end
end Mine
namespace Mine
/-- a goal that the walk leaves alone -/
noncomputable def Hold (P : Prop) : Prop := P
theorem Hold.out {P : Prop} (h : Hold P) : P := h
theorem Hold.in {P : Prop} (h : P) : Hold P := h
section
variable {M : Model} {A : Around} {E : Value → Shared → Prop} {s : Shared} {env : Env} {Q : Flow → Shared → Prop}
/-- what a statement leaves when it goes on (J), or when it gives back -/
noncomputable def Cut (J : Shared → Prop) (Q : Flow → Shared → Prop) (f : Flow) (s' : Shared) : Prop := match f with
  | .next => J s'
  | f => Q f s'
theorem cut {st : Stmt} (J : Shared → Prop) (h1 : wpAny M A (exec st env) (Cut J Q) E s) (h2 : ∀ s', J s' → Q .next s') : wpAny M A (exec st env) Q E s :=
  wpAny_mono h1 (fun f s' q => by cases f with | next => exact h2 s' q | brk => exact q | cont => exact q | ret v => exact q) fun _ _ e => e
end
end Mine
namespace Mine
theorem cut_ret {J : Shared → Prop} {Q : Flow → Shared → Prop} {v : Value} {s' : Shared} (h : Q (.ret v) s') : Cut J Q (.ret v) s' := h
theorem cut_next {J : Shared → Prop} {Q : Flow → Shared → Prop} {s' : Shared} (h : J s') : Cut J Q .next s' := h
theorem turn_ret {g : Heap} {L I : Addr} {oI : Obj} {s : Shared} {Jn : (Str → Option Value) → List (Addr × Obj) → Prop} {Q : Flow → Shared → Prop} {v : Value} {s₂ : Shared} (h : Q (.ret v) s₂) : Turn g L I oI s Jn Q (.ret v) s₂ := h
end Mine
namespace Mine
/-- no address of M is one of the ledger's -/
noncomputable def AllOff (rest : List (Addr × Obj)) : List Addr → Prop
  | [] => True
  | a :: r => AllNe a rest ∧ AllOff rest r
theorem AllOff.mem {rest : List (Addr × Obj)} : ∀ {M : List Addr}, AllOff rest M → ∀ p ∈ rest, p.1 ∉ M
  | [], _, _, _, h => nomatch h
  | a :: r, x, p, hp, h => by
    rcases List.mem_cons.mp h with q | h
    · exact x.1.mem p hp q
    · exact AllOff.mem x.2 p hp h
section
variable {g h h' : Heap} {L : Addr} {m : Str → Option Value} {news mu rest news' : List (Addr × Obj)} {M : List Addr}
theorem Ends.out (E : Ends h h' M news') (F : Fr g L h m) (N : News g L h (mu ++ rest)) (hM : mu.map (·.1) = M) (hr : AllOff rest M) : Fr g L h' m ∧ News g L h' (news' ++ rest) := by
  have hM' : ∀ a ∈ M, a ∈ (mu ++ rest).map (·.1) := fun a ha => by rw [← hM] at ha; rw [List.map_append]; exact List.mem_append_left _ ha
  exact ⟨E.fr F N hM', E.led F N hM' fun p hp => ⟨List.mem_append_right _ hp, hr.mem p hp⟩⟩
theorem led_of {l : List (Addr × Obj)} (N : News g L h news) (hs : ∀ p ∈ l, p ∈ news) : Led g h l := fun p hp => ⟨(N p (hs p hp)).1, (N p (hs p hp)).2.2⟩
/-- what is new is none of what stood -/
theorem Ends.ne (E : Ends h h' M news') {a b : Nat} {o o' : Obj} (ha : (a, o) ∈ news') (hM : a ∉ M) (hb : h.get? b = some o') : @Ne Nat a b := fun q => by
  rcases (E.has _ ha).2 with e | e
  · exact hM e
  · rw [show (a : Nat) = b from q, hb] at e; cases e
end
end Mine
namespace Mine
section
variable {M : Model} {A : Around} {E : Value → Shared → Prop} {s : Shared} {g : Heap} {L a : Addr} {m : Str → Option Value} {cn : Str} {cs : Scope} {ccd : Value} {cl : List (Str × Addr)}
  {x : Str} {pos : Pos} {v : Value} {Q : Value → Shared → Prop} {c : Addr} {o : Obj}
theorem nameF_g (F : Fr g L s.heap m) (hc : cl.lookup x = some c) (hg : g.get? c = some o) (hd : o.data = .cell (some v)) (h : Q v s)
    (hk : cs.kind = .function := by rfl) (hx : (envX cn cs L a ccd cl).kindOf x = some .free := by rfl) (hb : (x == ("__debug__" : Str)) = false := by decide) (hn : (x == ("__classdict__" : Str)) = false := by decide) :
    wpAny M A (eval (.Name x pos) (envX cn cs L a ccd cl)) Q E s := wpAny_Name (wpAny_loadName_free hk hx hc ⟨o, F.keep _ _ hg, hd⟩ h hn) hb
end
theorem ne_obj {h : Heap} {a b : Nat} {o o' : Obj} (h1 : h.get? a = some o) (h2 : h.get? b = some o') (hne : o.data ≠ o'.data) : @Ne Nat a b := fun q => by
  subst q; rw [h1] at h2; cases h2; exact hne rfl
end Mine
namespace Mine
section
variable {M : Model} {A : Around} {E : Value → Shared → Prop} {s : Shared} {env : Env} {pos : Pos} {a : Addr} {fd : FuncData} {first : List Value} {Q : Value → Shared → Prop}
theorem callWith_g {e : PySem.Expr} {rest : List PySem.Expr} (o : Obj) (ho : o.data = .func fd)
    (h : wpAny M A (spliced (backTo pos (starEach (e :: rest) env))) (fun vs s₁ => s₁.heap.get? a = some o ∧ wpAny M A (call (.ref a) (first ++ vs)) Q E s₁) E s)
    (he : starEach (e :: rest) env = (false, eval e env) :: starEach rest env := by rfl) :
    wpAny M A (callWith pos (.ref a) first (backTo pos (starEach (e :: rest) env)) []) Q E s := by
  rw [he] at h ⊢
  exact callWith_function (o := o) (fd := fd) (evalArgs_plain (wpAny_mono h (fun vs s' q => ⟨⟨q.1, ho⟩, q.2⟩) fun _ _ x => x))
end
end Mine
namespace Mine
theorem Ends.offNew {g h h' : Heap} {L : Addr} {all news' : List (Addr × Obj)} {M : List Addr} (E : Ends h h' M news') (N : News g L h all) {a : Nat} {o : Obj} (ha : (a, o) ∈ news') (hM : a ∉ M) : AllNe a all :=
  .of fun p hp => Ne.symm (E.ne ha hM (N p hp).1)
end Mine
set_option maxRecDepth 100000
namespace Mine
theorem slot_cit_next : Slot "callable_iterator" "__next__" "callable_iterator.__next__" :=
  .of (owner := "callable_iterator") (n := "__next__") (by rw [typeLookup_type, builtinLookup_eq_fast]; kernel_rfl) (by decide +kernel) (by decide +kernel) (by decide +kernel)
    (by first | exact .inl (by decide +kernel) | exact .inr (by decide +kernel)) (by rw [isSubtype_type]; kernel_rfl)
theorem slot_cit_iter : Slot "callable_iterator" "__iter__" "callable_iterator.__iter__" :=
  .of (owner := "callable_iterator") (n := "__iter__") (by rw [typeLookup_type, builtinLookup_eq_fast]; kernel_rfl) (by decide +kernel) (by decide +kernel) (by decide +kernel)
    (by first | exact .inl (by decide +kernel) | exact .inr (by decide +kernel)) (by rw [isSubtype_type]; kernel_rfl)
theorem entry_cit_next : entryFor table "callable_iterator.__next__" = some Builtin.«callable_iterator.__next__» := entryFor_of_fast (by kernel_rfl)
theorem entry_cit_iter : entryFor table "callable_iterator.__iter__" = some Builtin.«dict_keyiterator.__iter__» :=
  entryFor_alias (id' := "dict_keyiterator.__iter__") (by kernel_rfl) rfl (by decide +kernel) (by kernel_rfl)
theorem args_cit_next (a : Value) : argsOk "callable_iterator.__next__" ⟨[a], []⟩ := by unfold argsOk; kernel_rfl
theorem args_cit_iter (a : Value) : argsOk "callable_iterator.__iter__" ⟨[a], []⟩ := by unfold argsOk; kernel_rfl
section
variable {M : Model} {A : Around} {E : Value → Shared → Prop} {s : Shared}
theorem wpAny_callBorrowed {f : Value} {pos : List Value} {Q : Value → Shared → Prop}
    (hc : codeAny M A (.call f ⟨pos, []⟩) (fun r s' => match r with | .ok (.ret v) => Q v s' | .ok _ => False | .error e => E e s') s) : wpAny M A (callBorrowed f pos) Q E s := fun Γ p hΓ => by
  unfold callBorrowed
  rw [Sem.wp_call]
  refine wpCode_mono (fun r s' h => ?_) (hc _ p rfl (hΓ.enter _ none p (by intro x; cases x)))
  rcases r with e | (_ | _ | _ | v)
  · exact h
  · exact h
  · exact h
  · exact h
  · exact h
end
end Mine
namespace Mine
noncomputable abbrev citObj (f sent : Value) (b : Bool) : Obj := { cls := .type "callable_iterator", data := .fields #[f, sent, .bool b] }
section
variable {prog : Program} {w : World} {A : Around} {E : Value → Shared → Prop} {s : Shared}
theorem borrows {q f : Addr} {self : Value} {fo : Obj} {fd : FuncData} {Q : Bool → Shared → Prop} (hq : s.heap.get? q = some (methodObj (.ref f) self)) (hf : s.heap.get? f = some fo) (hfd : fo.data = .func fd) (h : Q true s) :
    wpAny (model prog w) A (borrowsExactly (.ref q)) Q E s := by
  unfold borrowsExactly
  refine wpAny_bind (wpAny_load hq ?_)
  show wpAny _ _ (load f >>= _) _ _ s
  refine wpAny_bind (wpAny_load hf ?_)
  rw [hfd]
  exact wpAny_pure h
theorem eqBool_str {x y : Str} {t u : Tok} {Q : Bool → Shared → Prop} (h : Q (x == y) s) : wpAny (model prog w) A (eqBool (.str x t) (.str y u)) Q E s := by
  unfold eqBool
  refine wpAny_holding ?_
  by_cases e : (Value.str x t == Value.str y u) = true
  · have e' : x = y := by
      have := eq_of_beq e
      cases this; rfl
    subst e'
    rw [if_pos e]
    refine wpAny_bind (wpAny_rule (wpAny_pure ?_))
    simpa using h
  · rw [if_neg e]
    show wpAny _ _ (compareOp .Eq (.str x t) (.str y u) >>= truthOfDropped) Q E s
    exact wpAny_bind (PyProof.Rows.eq_str (wpAny_pure h))
end
end Mine
namespace Mine
section
variable {prog : Program} {w : World} {A : Around} {E : Value → Shared → Prop} {s : Shared}
theorem next_cit {it q f : Addr} {self : Value} {fo : Obj} {fd : FuncData} {t0 : Tok} {Q : Option Value → Shared → Prop} (hh : A.handled = none)
    (hit : s.heap.get? it = some (citObj (.ref q) (.str (Str.ofString "") t0) false)) (hq : s.heap.get? q = some (methodObj (.ref f) self)) (hf : s.heap.get? f = some fo) (hfd : fo.data = .func fd)
    (hc : codeAny (model prog w) A.in1 (.call (.ref f) ⟨[self], []⟩) (fun r s' => ∃ ch t, r = .ok (.ret (.str ch t)) ∧ s'.heap.get? it = some (citObj (.ref q) (.str (Str.ofString "") t0) false) ∧ s'.heap.get? q = some (methodObj (.ref f) self) ∧ s'.heap.get? f = some fo ∧
      (ch ≠ Str.ofString "" → Q (some (.str ch t)) s') ∧ (ch = Str.ofString "" → ∀ h', Heap.ExtBut it s'.heap h' → Q none { s' with heap := h' })) s) :
    wpAny (model prog w) A (pyNext (.ref it)) Q E s := by
  have hT : s.TypeIs (.ref it) "callable_iterator" := ⟨_, hit, rfl⟩
  unfold pyNext
  refine wpAny_bind (wpAny_attempt (wpAny_callSpecial?_slot (name := Str.ofString "__next__") hT slot_cit_next (wpAny_call_entry slot_cit_next hT entry_cit_next ?_ (args_cit_next _))))
  unfold Builtin.«callable_iterator.__next__»
  refine wpAny_bind (wpAny_pure ?_)
  refine wpAny_bind (wpAny_field hit rfl (x := .bool false) rfl ?_)
  show wpAny _ _ (field (.ref it) 0 >>= _) _ _ s
  refine wpAny_bind (wpAny_field hit rfl (x := .ref q) rfl ?_)
  refine wpAny_bind (wpAny_attempt ?_)
  unfold callOutOfASlot
  refine wpAny_bind (borrows hq hf hfd ?_)
  show wpAny _ _ (callBorrowed (.ref q) []) _ _ s
  refine wpAny_callBorrowed (method_call hq (codeAny_mono hc fun r s' hr => ?_))
  obtain ⟨ch, t, rfl, hit', hq', hf', k1, k2⟩ := hr
  show wpAny _ _ (field (.ref it) 2 >>= _) _ _ s'
  refine wpAny_bind (wpAny_field hit' rfl (x := .bool false) rfl ?_)
  show wpAny _ _ (field (.ref it) 1 >>= _) _ _ s'
  refine wpAny_bind (wpAny_field hit' rfl (x := .str (Str.ofString "") t0) rfl ?_)
  refine wpAny_bind (wpAny_holding (eqBool_str ?_))
  by_cases e : ch = Str.ofString ""
  · subst e
    have k3 := k2 rfl
    clear k1 k2 hc
    rw [show ((Str.ofString "" == Str.ofString "") : Bool) = true from beq_self_eq_true _]
    show wpAny _ _ (rule _ >>= _) _ _ s'
    refine wpAny_bind (wpAny_rule ?_)
    refine wpAny_bind ?_
    show wpAny _ _ (field (.ref it) 0 >>= _) _ _ s'
    refine wpAny_bind (wpAny_field hit' rfl (x := .ref q) rfl ?_)
    refine wpAny_bind ?_
    show wpAny _ _ (borrowsExactly (.ref q) >>= _) _ _ s'
    refine wpAny_bind (borrows hq' hf' hfd ?_)
    refine wpAny_pure ?_
    refine wpAny_bind (wpAny_setField_rec hit' (by show 0 < 3; decide) fun h1 o1 b1 => ?_)
    refine wpAny_bind (wpAny_setField_rec o1 (by show 1 < 3; decide) fun h2 o2 b2 => ?_)
    refine wpAny_setField_rec o2 (by show 2 < 3; decide) fun h3 o3 b3 => ?_
    dsimp only at b1 b2 b3 ⊢
    have b4 : Heap.SameBut it s'.heap h3 := (b1.trans b2).trans b3
    clear o1 o2 o3 b1 b2 b3
    show wpAny _ _ (newExc (.type "StopIteration") [] >>= _) _ _ _
    refine wpAny_bind ?_
    simp only [newExc, newTuple]
    refine wpAny_bind (wpAny_newObj_type ?_ (by size_fits))
    refine wpAny_bind (m := firstArgMember _ _) (wpAny_of_eq (a := Value.none) (by first | rfl | (simp only [firstArgMember]; rfl)) ?_)
    refine wpAny_newObj_type ?_ (by size_fits)
    simp only [raiseNew]
    refine wpAny_bind (wpAny_handled ?_)
    rw [show A.in1.handled = none from hh]
    refine wpAny_bind (wpAny_pure (wpAny_throw ?_))
    refine wpAny_bind (wpAny_isInstance (T := "StopIteration") (b := true) ⟨_, Heap.get?_push_size _ rfl, rfl⟩ isSubtype_stop ?_)
    exact wpAny_pure (k3 _ ((b4.extBut.push _).push _))
  · rw [show ((Str.ofString "" == ch) : Bool) = false from beq_eq_false_iff_ne.mpr (fun q => e q.symm)]
    show wpAny _ _ (ret (.str ch t)) _ _ s'
    exact wpAny_pure ⟨_, rfl, wpAny_pure (k1 e)⟩
end
end Mine
namespace Mine
theorem kind_iter : builtinKind "iter" = none := by decide +kernel
theorem plain_iter : plainId "iter" = true := by decide +kernel
theorem entry_iter : entryFor table "iter" = some Builtin.«iter» := entryFor_of_fast (by kernel_rfl)
theorem args_iter2 (a b : Value) : argsOk "iter" ⟨[a, b], []⟩ := by unfold argsOk; kernel_rfl
theorem look_method_call : typeLookup (.type "method") (Str.ofString "__call__") = pure (some (.builtin "method.__call__")) := by rw [typeLookup_type, builtinLookup_eq_fast]; kernel_rfl
section
variable {prog : Program} {w : World} {A : Around} {E : Value → Shared → Prop} {s : Shared} {g : Heap} {L : Addr} {m : Str → Option Value} {news : List (Addr × Obj)}
theorem iter2_c {q : Addr} {f self sent : Value} {Q : Value → Shared → Prop} (F : Fr g L s.heap m) (N : News g L s.heap news) (hq : (q, methodObj f self) ∈ news)
    (h : ∀ I h', Fr g L h' m → News g L h' ((I, citObj (.ref q) sent false) :: news) → (∀ p ∈ news, p.1 < I) → Q (.ref I) { s with heap := h' }) : wpAny (model prog w) A (call (.builtin "iter") [.ref q, sent]) Q E s := by
  have hq' := (N _ hq).1
  refine Calls.call_function_entry kind_iter plain_iter entry_iter (args_iter2 _ _) ?_
  unfold Builtin.«iter»
  refine wpAny_bind (wpAny_pure ?_)
  have hT : s.TypeIs (.ref q) "method" := ⟨_, hq', rfl⟩
  refine wpAny_bind (wpAny_specialOf hT look_method_call ?_)
  show wpAny _ _ (rule _ >>= _) _ _ s
  refine wpAny_bind (wpAny_rule ?_)
  refine wpAny_bind (wpAny_newObj_type ?_ (by size_fits))
  exact wpAny_pure ⟨_, rfl, h _ _ (F.push _) (N.push F _) fun p hp => Heap.lt_size (N p hp).1⟩
theorem iter_cit {it : Addr} {f sent : Value} {b : Bool} {Q : Value → Shared → Prop} (hit : s.heap.get? it = some (citObj f sent b)) (h : Q (.ref it) s) : wpAny (model prog w) A (pyIter (.ref it)) Q E s := by
  have hT : s.TypeIs (.ref it) "callable_iterator" := ⟨_, hit, rfl⟩
  refine wpAny_pyIter_slot hT slot_cit_iter (wpAny_call_entry slot_cit_iter hT entry_cit_iter ?_ (args_cit_iter _))
  show wpAny _ _ (ret (.ref it)) _ _ s
  exact wpAny_pure ⟨_, rfl, "callable_iterator", _, hT, slot_cit_next.lookup, h⟩
end
/-- a turn's end, by an invariant over the whole state -/
noncomputable def TurnI (I : Nat → Shared → Prop) (n : Nat) (Q : Flow → Shared → Prop) (f : Flow) (s₃ : Shared) : Prop := match f with
  | .ret v => Q (.ret v) s₃
  | .brk => Q .next s₃
  | _ => ∃ m, m < n ∧ I m s₃
section
variable {prog : Program} {w : World} {A : Around} {s : Shared} {env : Env} {Q : Flow → Shared → Prop}
theorem forI {target : PySem.Expr} {it : Value} {body : List Stmt} (I : Nat → Shared → Prop)
    (turn : ∀ n s, I n s → wpAny (model prog w) A (pyNext it) (fun r s₁ => match r with
      | none => Q .next s₁
      | some v => wpAny (model prog w) A (assign target env v) (fun _ s₂ => wpAny (model prog w) A (execs body env) (TurnI I n Q) (fun _ _ => False) s₂) (fun _ _ => False) s₁) (fun _ _ => False) s)
    (n : Nat) (h : I n s) (ht : ∀ v, letOwnedTupleGo target it v = pure () := by intro _; rfl) :
    codeAny (model prog w) A (.forLoop target it body [] env) (fun r s' => match r with | .ok f => Q f s' | .error _ => False) s := by
  refine codeAny_forLoop I (fun n s hI => ?_) n h ht
  refine wpAny_mono (turn n s hI) (fun r s₁ h₁ => ?_) fun _ _ e => e.elim
  cases r with
  | none => exact wpAny_execs_nil h₁
  | some v =>
    refine wpAny_mono h₁ (fun _ s₂ h₂ => wpAny_mono h₂ (fun f s₃ h₃ => ?_) fun _ _ e => e.elim) fun _ _ e => e.elim
    cases f with
    | ret v => exact h₃
    | brk => exact h₃
    | next => exact h₃
    | cont => exact h₃
end
end Mine
namespace Mine
section
variable {prog : Program} {w : World} {A : Around} {E : Value → Shared → Prop} {s : Shared} {g : Heap} {L : Addr} {m : Str → Option Value} {news news' : List (Addr × Obj)}
theorem truthy_nil {l : Addr} {n : Nat} {Q : Bool → Shared → Prop} (N : News g L s.heap news) (hm : (l, listOf #[] n) ∈ news) (h : ∀ tk, Q false { s with toks := tk }) : wpAny (model prog w) A (truthy (.ref l)) Q E s :=
  wpAny_truthy_list (News.isList N hm) (by decide) (h _)
theorem truthy_cons {l : Addr} {v : Value} {vs : List Value} {n : Nat} {Q : Bool → Shared → Prop} (N : News g L s.heap news) (hm : (l, listOf (v :: vs).toArray n) ∈ news) (hl : vs.length ≤ 1000000) (h : ∀ tk, Q true { s with toks := tk }) : wpAny (model prog w) A (truthy (.ref l)) Q E s := by
  refine wpAny_truthy_list (News.isList N hm) (by simp; omega) ?_
  have e : ((v :: vs).toArray.size != 0) = true := by simp
  first | exact e ▸ h _ | (simp; exact h _)
theorem pop_c {l : Addr} {p q : List Value} {v : Value} {n : Nat} {i : Int} {u : Tok} {Q : Value → Shared → Prop} (F : Fr g L s.heap m) (N : News g L s.heap news) (hi : i = p.length) (hl : (p ++ v :: q).length ≤ 1000000)
    (U : Upd l (listOf (p ++ v :: q).toArray n) (listOf (p ++ q).toArray (n + 1)) news news')
    (h : ∀ h', Fr g L h' m → News g L h' news' → Q v { s with heap := h' }) : wpAny (model prog w) A (call (.builtin "list.pop") [.ref l, .int i u]) Q E s := by
  have hz : (p ++ v :: q).length ≤ sizeLine := by rw [sizeLine_eq]; omega
  have hs : p.length < (p ++ v :: q).toArray.size := by simp
  subst hi
  refine kl_popAt (its := (p ++ v :: q).toArray) (p := p) (q := q) (k := p.length) (y := v) F N ?_ ?_ ?_ U hz h
  · simp only [Builtin.List.listFitsIndex]
    simp at hl ⊢
    omega
  · unfold seqIndex?
    have e1 : ¬ ((p.length : Int) < 0) := by omega
    have e2 : (decide (0 ≤ (p.length : Int)) && decide ((p.length : Int) < ((p ++ v :: q).toArray.size : Nat))) = true := by simp only [Bool.and_eq_true, decide_eq_true_eq]; omega
    dsimp only
    rw [if_neg e1, if_pos e2]
    simp
  · dsimp only
    clear hz hs hl U
    induction p with
    | nil => rfl
    | cons x r ih => simp [kl_cut, ih]
theorem pop0 {l : Addr} {v : Value} {vs : List Value} {n : Nat} {u : Tok} {Q : Value → Shared → Prop} (F : Fr g L s.heap m) (N : News g L s.heap news) (hl : vs.length ≤ 1000000 - 1) (U : Upd l (listOf (v :: vs).toArray n) (listOf vs.toArray (n + 1)) news news')
    (h : ∀ h', Fr g L h' m → News g L h' news' → Q v { s with heap := h' }) : wpAny (model prog w) A (call (.builtin "list.pop") [.ref l, .int 0 u]) Q E s :=
  pop_c (p := []) (i := 0) F N rfl (by simp; omega) U h
end
end Mine
namespace Mine
section
variable {prog : Program} {w : World} {A : Around} {E : Value → Shared → Prop} {s : Shared} {g : Heap} {L : Addr} {m : Str → Option Value}
theorem setItem_D {D : Addr} {o : Obj} {rest : List (Addr × Obj)} {kvs : List (Str × Value)} {k : Str} {t : Tok} {v : Value} {Q : Unit → Shared → Prop} (F : Fr g L s.heap m) (N : News g L s.heap ((D, o) :: rest)) (hne : AllNe D rest) (hd : o.IsDictOf (PySem.strKind prog w) kvs) (hsz : kvs.length ≤ 1000)
    (h : ∀ h' o', Fr g L h' m → News g L h' ((D, o') :: rest) → o'.IsDictOf (PySem.strKind prog w) (stored kvs k v) → Q () { s with heap := h', toks := s.toks + 1 }) : wpAny (model prog w) A (setItem (.ref D) (.str k t) v) Q E s := by
  have hm := N (D, o) (.head _)
  refine wpAny_setItem_pairs (hsz := by rw [sizeLine_eq]; omega) (strKind_is _ _ _ _) (Heap.dictOf_iff.mpr ⟨o, hm.1, hd⟩) fun h' hmm hs => ?_
  obtain ⟨o', ho', hd'⟩ := Heap.dictOf_iff.mp hmm
  exact h h' o' (F.change hs hm.2.1 hm.2.2) (News.setIn (own := []) N (fun _ q => nomatch q) hne.mem hs ho') hd'
theorem item_g {D : Addr} {o : Obj} {kvs : List (Str × Value)} {k : Str} {t : Tok} {v : Value} {value slice : PySem.Expr} {Q : Value → Shared → Prop} (F : Fr g L s.heap m) (hD : g.get? D = some o) (hd : o.IsDictOf (PySem.strKind prog w) kvs) (hl : valueAt kvs k = some v) (h : ∀ tk, Q v { s with toks := tk })
    (hs : subscripted slice false (.ref D) (.str k t) = operate [.ref D, .str k t] (getItem (.ref D) (.str k t)) := by with_unfolding_all rfl) (hg : ∀ r, letTemporaryGo value (.ref D) r = pure () := by intro _; with_unfolding_all rfl) :
    wpAny (model prog w) A (subscriptTail value slice (.ref D) (.str k t)) Q E s :=
  have hD := Heap.dictOf_iff.mpr ⟨o, F.keep _ _ hD, hd⟩
  subscriptTail_builtin hD.typeIs slot_dict_getitem.lookup (wpAny_getItem_of (strKind_is _ _ _ _) hD.mapOf hl (h _)) hs hg
theorem len_g {D : Addr} {o : Obj} {kvs : List (Str × Value)} {Q : Value → Shared → Prop} (F : Fr g L s.heap m) (hD : g.get? D = some o) (hd : o.IsDictOf (PySem.strKind prog w) kvs) (lo : (D == sysModules) = false) (hz : kvs.length ≤ 1000) (h : ∀ t tk, Q (.int kvs.length t) { s with toks := tk }) :
    wpAny (model prog w) A (call (.builtin "len") [.ref D]) Q E s := call_len_dict lo (Heap.dictOf_iff.mpr ⟨o, F.keep _ _ hD, hd⟩) (by omega) (h _ _)
theorem stored_new {kvs : List (Str × Value)} {k : Str} {v : Value} (h : k ∉ kvs.map (·.1)) : stored kvs k v = kvs ++ [(k, v)] := by
  unfold stored
  rw [if_neg]
  simp only [List.any_eq_true, decide_eq_true_eq, not_exists, not_and]
  intro p hp e
  exact h (e ▸ List.mem_map_of_mem hp)
end
end Mine
namespace Mine
theorem Ends.new2 {h h' : Heap} {x d a : Nat} {o : Obj} {E : List (Addr × Obj)} (En : Ends h h' [x, d] E) (ha : h.get? a = some o) (h1 : @Ne Nat a x) (h2 : @Ne Nat a d) : ∀ p ∈ E, p.1 ≠ a := fun p hp q => by
  rcases (En.has p hp).2 with e | e
  · rw [q] at e
    rcases List.mem_cons.mp e with e | e
    · exact h1 e
    · exact h2 (List.mem_singleton.mp e)
  · rw [q, ha] at e; cases e
end Mine
set_option maxRecDepth 100000
namespace Mine
section
variable {prog : Program} {w : World} {A : Around} {E : Value → Shared → Prop} {s : Shared} {h₀ : Heap} {L : Addr} {m : Str → Option Value} {env : Env}
/-- a comprehension's turns, by an invariant -/
theorem comp_inv {elt : PySem.Expr} {x : Str} {scope : Scope} {cl : List (Str × Addr)} {S : List (Addr × Obj) → Prop} {P : Nat → Value → Prop} {Fin : List Value → List (Addr × Obj) → Prop} {n : Nat} (J : Nat → List Value → List (Addr × Obj) → Prop)
    (turn : ∀ i ys news, i < n → J i ys news → ∀ v I oI C oC D m₂ h tk (E' : Value → Shared → Prop), P i v → LCg.NsObj oC m₂ → m₂ x = some v → Fr h₀ L h m → News h₀ L h ((I, oI) :: (C, oC) :: (D, LCg.lst ys) :: news) → LCg.Off3 I C D news → ((@Ne Nat I C) ∧ (@Ne Nat I D) ∧ (@Ne Nat C D)) →
      wpAny (model prog w) A (eval elt (compEnvC scope cl C env)) (LCg.CompEnd h₀ L m { s with heap := h, toks := tk } I oI C oC D (LCg.lst ys) S (fun y news' => J (i + 1) (ys ++ [y]) news')) E' { s with heap := h, toks := tk })
    (fin : ∀ ys news, J n ys news → Fin ys news) {news : List (Addr × Obj)} (h0 : J 0 [] news) : LCg.CompRest prog w A h₀ L m env elt x scope cl s S P Fin n 0 [] news := by
  have key : ∀ k i ys news, i + k = n → J i ys news → LCg.CompRest prog w A h₀ L m env elt x scope cl s S P Fin k i ys news := by
    intro k
    induction k with
    | zero => intro i ys news hi hJ; obtain rfl : i = n := hi; exact fin ys news hJ
    | succ k ih =>
      intro i ys news hi hJ
      refine LCg.CompRest.succ fun v I oI C oC D m₂ h tk E' hP hN hx F N o3 hne => ?_
      refine wpAny_mono (turn i ys news (by omega) hJ v I oI C oC D m₂ h tk E' hP hN hx F N o3 hne) (fun y s₂ h₂ => ?_) fun _ _ e => e
      obtain ⟨h', tk', news', e, F', N', o', hS, hj⟩ := h₂
      exact ⟨h', tk', news', e, F', N', o', hS, ih (i + 1) _ _ (by omega) hj⟩
  exact key n 0 [] news (by omega) h0
/-- a comprehension over a text -/
theorem ListComp_S {elt iter : PySem.Expr} {x : Str} {px : Pos} {scope : Scope} {cl : List (Str × Addr)} {pos : Pos} {Q : Value → Shared → Prop}
    (hclos : closureFor scope env = pure cl) (hcell : ∀ y ∈ scope.names, y.2 ≠ .cell) (hkind : scope.kind = .function)
    (hnames : ∀ y ∈ scope.names, y.2 = .local → scope.names.lookup y.1 = some .local) (hx : scope.names.lookup x = some .local) (hh : A.handled = none)
    (h : wpAny (model prog w) A (eval iter env) (fun xv s₁ => ∃ u tu news, xv = .str u tu ∧ Fr h₀ L s₁.heap m ∧ News h₀ L s₁.heap news ∧ u.cps.size ≤ sizeLine ∧
      ∀ g, LCg.CompRest prog w A h₀ L m env elt x scope cl { s₁ with heap := g } (fun _ => True) (fun i v => ∃ c t, u.cps[i]? = some c ∧ v = .str ⟨#[c]⟩ t) (LCg.FinE h₀ L m { s₁ with heap := g } Q) u.cps.size 0 [] news) E s)
    (hs : ∀ x, foldedSetIterable iter env x = pure x := by intro _; rfl) :
    wpAny (model prog w) A (eval (.ListComp elt [⟨.Name x px, iter, [], 0⟩] scope pos) env) Q E s := by
  rw [eval_ListComp]
  refine wpAny_comprehension_free (use := none) rfl hs hclos hkind hnames (wpAny_mono h (fun xv s₁ h₁ => ?_) fun _ _ e => e)
  obtain ⟨u, tu, news, rfl, F, N, hsz, R⟩ := h₁
  have fin : ∀ (s₂ : Shared) D C h tk m' ys news', Fr h₀ L h m → News h₀ L h ((D, LCg.lst ys) :: news') → LCg.Off1 D news' → h.Ns C m' → h₀.get? C = none → h₀.get? D = none → C ≠ L → D ≠ L → C ≠ D → (∀ p ∈ news', p.1 ≠ C) → LCg.FinE h₀ L m s₂ Q ys news' →
      ∃ m', h.Ns C m' ∧ ∀ h'', Heap.SameBut C h h'' → Q (.ref D) { s₂ with heap := h'', toks := tk } := by
    intro s₂ D C h tk m' ys news' F' N' o1 hn hC₀ hD₀ hCL hDL hCD offC fin
    refine ⟨m', hn, fun h'' hs'' => fin D h'' tk (F'.change hs'' hCL hC₀) (fun p hp => ?_) o1⟩
    refine ⟨hs''.extBut _ _ ?_ (N' p hp).1, (N' p hp).2⟩
    rcases List.mem_cons.mp hp with rfl | hp
    · exact Ne.symm hCD
    · exact offC p hp
  cases ha : u.cps.all (· < 128)
  · refine wpAny_pyIter_wide ha ?_
    refine LCg.block_U (Walks.strWide hh _ u tu) hsz (fun i h st => by obtain ⟨o, e, _⟩ := st; exact ⟨o, e⟩) (fun i h h' o nw st e e' _ _ _ => by obtain ⟨o', q, r⟩ := st; rw [e] at q; cases q; exact ⟨o, e', r⟩) hcell hkind hx ⟨_, Heap.get?_push_size _ rfl, rfl, rfl⟩ (fun b hb => ?_)
      (F.keeps fun _ _ e => Heap.get?_push_of_some _ e) (N.grown fun _ _ e => Heap.get?_push_of_some _ e) (Nat.ne_of_lt F.ns.lt) (next_is_new F) (fun p hp => Nat.ne_of_lt (Heap.lt_size (N p hp).1)) trivial (R _) ?_
    · rw [List.mem_singleton.mp hb]
      show s₁.heap.objs.size < (s₁.heap.push _).objs.size
      rw [Heap.size_push]; exact Nat.lt_succ_self _
    · intro D C h tk m' ys news' F' N' o1 hn hC₀ hD₀ hCL hDL hCD offC f
      exact fin _ D C h tk m' ys news' F' N' o1 hn hC₀ hD₀ hCL hDL hCD offC f
  · refine wpAny_pyIter_ascii ha ?_
    refine LCg.block_U (Walks.strAscii hh _ u tu) hsz (fun i h st => by obtain ⟨o, e, _⟩ := st; exact ⟨o, e⟩) (fun i h h' o nw st e e' _ _ _ => by obtain ⟨o', q, r⟩ := st; rw [e] at q; cases q; exact ⟨o, e', r⟩) hcell hkind hx ⟨_, Heap.get?_push_size _ rfl, rfl, rfl⟩ (fun b hb => ?_)
      (F.keeps fun _ _ e => Heap.get?_push_of_some _ e) (N.grown fun _ _ e => Heap.get?_push_of_some _ e) (Nat.ne_of_lt F.ns.lt) (next_is_new F) (fun p hp => Nat.ne_of_lt (Heap.lt_size (N p hp).1)) trivial (R _) ?_
    · rw [List.mem_singleton.mp hb]
      show s₁.heap.objs.size < (s₁.heap.push _).objs.size
      rw [Heap.size_push]; exact Nat.lt_succ_self _
    · intro D C h tk m' ys news' F' N' o1 hn hC₀ hD₀ hCL hDL hCD offC f
      exact fin _ D C h tk m' ys news' F' N' o1 hn hC₀ hD₀ hCL hDL hCD offC f
end
end Mine
namespace Mine
section
variable {prog : Program} {w : World} {A : Around} {E : Value → Shared → Prop} {s : Shared} {x y : Str} {t u : Tok} {Q : Value → Shared → Prop}
end
end Mine
set_option maxRecDepth 100000
namespace Mine
theorem ints_split {vs : List Value} {ns : List Int} (hi : IntsAre vs ns) : ∀ {j : Nat}, j < ns.length → ∃ p q t, vs = p ++ .int (ns.getD j 0) t :: q ∧ p.length = j ∧ IntsAre (p ++ q) (ns.eraseIdx j) := by
  induction hi with
  | nil => intro j h; exact absurd h (Nat.not_lt_zero _)
  | cons k t r ih =>
    intro j h
    cases j with
    | zero => exact ⟨[], _, t, rfl, rfl, r⟩
    | succ j =>
      obtain ⟨p, q, u, e, hl, hi⟩ := ih (j := j) (Nat.lt_of_succ_lt_succ h)
      exact ⟨.int k t :: p, q, u, by rw [e]; rfl, by rw [List.length_cons, hl], .cons k t hi⟩
section
variable {prog : Program} {w : World} {A : Around} {E : Value → Shared → Prop} {s : Shared} {g : Heap} {L : Addr} {m : Str → Option Value} {news : List (Addr × Obj)}
/-- pop at an open place of a list of ints that stands first in the ledger -/
theorem popI_c {l : Addr} {vs : List Value} {ns : List Int} {n : Nat} {j : Int} {u : Tok} {rest : List (Addr × Obj)} {Q : Value → Shared → Prop} (F : Fr g L s.heap m) (N : News g L s.heap news) (hm : ∀ p ∈ (l, listOf vs.toArray n) :: rest, p ∈ news) (hne : AllNe l rest) (hi : IntsAre vs ns) (h0 : 0 ≤ j) (hj : j < ns.length) (hl : ns.length ≤ 1000000)
    (h : ∀ h' vs' t, Fr g L h' m → News g L h' ((l, listOf vs'.toArray (n + 1)) :: rest) → IntsAre vs' (ns.eraseIdx j.toNat) → Q (.int (ns.getD j.toNat 0) t) { s with heap := h' }) : wpAny (model prog w) A (call (.builtin "list.pop") [.ref l, .int j u]) Q E s := by
  obtain ⟨p, q, t, rfl, hp, hi'⟩ := ints_split hi (j := j.toNat) (by omega)
  have hlen := hi.length
  refine pop_c (p := p) (q := q) F (news_sub N hm) (by omega) (by omega) (.head (by exact hne.mem)) fun h' F' N' => h h' _ t F' N' hi'
end
theorem getD_in {l : List Int} {i : Nat} (h : i < l.length) : l.getD i 0 = l[i] := by simp [List.getD, h]
/-- figures take a row apart -/
noncomputable def rowGo : Nat → List Int → List Int → List Int
  | k + 1, left, f :: r => left.getD (f.fmod left.length).toNat 0 :: rowGo k (left.eraseIdx (f.fmod left.length).toNat) r
  | _, _, _ => []
end Mine
namespace Mine
/-- what Whitespace keeps of a text -/
structure Wst where
  cnt : List Int
  b : Nat
  n : Nat
  nt : Nat
noncomputable def padTo (cnt : List Int) (b : Nat) : List Int := if b < cnt.length then cnt else cnt ++ List.replicate (b - cnt.length + 1) 0
noncomputable def bump (cnt : List Int) (b : Nat) : List Int := (padTo cnt b).set b ((padTo cnt b).getD b 0 + 1)
noncomputable def wsRun : List Nat → Wst → Wst
  | [], q => q
  | c :: r, q => if c = 32 then wsRun r { q with n := q.n + 1, b := q.b + 1 } else if c = 9 then wsRun r ⟨bump q.cnt q.b, 0, q.n + 1, q.nt + 1⟩ else q

theorem chr_eq {c k : Nat} {t : String} (e : Str.ofString t = ⟨#[k]⟩) (h : ((⟨#[c]⟩ : Str) == Str.ofString t) = true) : c = k := by
  rw [e] at h
  have := eq_of_beq h
  simpa using this
theorem chr_ne {c k : Nat} {t : String} (e : Str.ofString t = ⟨#[k]⟩) (h : ((⟨#[c]⟩ : Str) == Str.ofString t) = false) : c ≠ k := by
  rintro rfl
  rw [e] at h
  simp at h
theorem drop_at {a : Array Nat} {i c : Nat} (h : a[i]? = some c) : a.toList.drop i = c :: a.toList.drop (i + 1) := by
  have h' : a.toList[i]? = some c := by simpa using h
  obtain ⟨hi, e⟩ := List.getElem?_eq_some_iff.mp h'
  rw [List.drop_eq_getElem_cons hi, e]
theorem flat_rep {α : Type} (n : Nat) (a : α) : (List.replicate n [a]).flatten = List.replicate n a := by
  induction n with
  | zero => rfl
  | succ n ih => rw [List.replicate_succ, List.flatten_cons, ih, List.replicate_succ]; rfl
theorem padTo_len (cnt : List Int) (b : Nat) : (padTo cnt b).length ≤ max cnt.length (b + 1) := by
  unfold padTo; split
  · omega
  · simp; omega
theorem bump_len (cnt : List Int) (b : Nat) : (bump cnt b).length ≤ max cnt.length (b + 1) := by
  unfold bump; rw [List.length_set]; exact padTo_len cnt b
theorem bump_hi {cnt : List Int} {b : Nat} (h : ((cnt.length : Nat) : Int) ≤ (b : Int)) :
    (cnt ++ (List.replicate ((b : Int) - cnt.length + 1).toNat [0]).flatten).set ((b : Int).toNat) ((cnt ++ (List.replicate ((b : Int) - cnt.length + 1).toNat [0]).flatten).getD ((b : Int).toNat) 0 + 1) = bump cnt b := by
  unfold bump padTo
  rw [if_neg (by omega), flat_rep, show ((b : Int) - cnt.length + 1).toNat = b - cnt.length + 1 by omega, Int.toNat_natCast]
theorem bump_lo {cnt : List Int} {b : Nat} (h : ¬ ((cnt.length : Nat) : Int) ≤ (b : Int)) :
    cnt.set ((b : Int).toNat) (cnt.getD ((b : Int).toNat) 0 + 1) = bump cnt b := by
  unfold bump padTo
  rw [if_pos (by omega), Int.toNat_natCast]
end Mine
namespace Mine
/-- the loop's sum in indent_level -/
noncomputable def ilSum (cnt : List Int) (ts : Int) : Nat → Int
  | 0 => 0
  | k + 1 => ilSum cnt ts k + Int.fdiv (ts + k) ts * cnt.getD (ts + k).toNat 0
noncomputable def ilOf (q : Wst) (ts : Int) : Int := q.b + ts * (ilSum q.cnt ts (((q.cnt.length : Int) - ts).toNat) + q.nt)
end Mine
namespace Mine
noncomputable def longOf (q : Wst) : Int := if (q.b : Int) > (q.cnt.length : Int) - 1 then q.b else q.cnt.length - 1
end Mine
namespace Mine
theorem fdiv_bd {a b : Int} (ha : 0 ≤ a) (hb : 1 ≤ b) : 0 ≤ a.fdiv b ∧ a.fdiv b ≤ a := by
  rw [Int.fdiv_eq_ediv_of_nonneg _ (by omega)]
  exact ⟨Int.ediv_nonneg ha (by omega), Int.ediv_le_self b ha⟩
end Mine
namespace Mine
noncomputable def topOf (p q : Wst) : Int := (if longOf q > longOf p then longOf q else longOf p) + 1
/-- Whitespace.less -/
noncomputable def lessOf (p q : Wst) : Bool :=
  if q.n ≤ p.n then false
  else if p.cnt.length ≤ 1 ∧ q.cnt.length ≤ 1 then decide (p.nt ≤ q.nt)
  else (List.range ((topOf p q + 1 - 2).toNat)).all fun i => decide (ilOf p (2 + i) < ilOf q (2 + i))
theorem lessOf_1 {p q : Wst} (h : (q.n : Int) ≤ p.n) : lessOf p q = false := by
  unfold lessOf; rw [if_pos (by omega)]
theorem lessOf_2 {p q : Wst} (h : ¬ (q.n : Int) ≤ p.n) (h1 : (p.cnt.length : Int) ≤ 1) (h2 : (q.cnt.length : Int) ≤ 1) : lessOf p q = decide ((p.nt : Int) ≤ q.nt) := by
  unfold lessOf
  rw [if_neg (by omega), if_pos ⟨by omega, by omega⟩]
  by_cases e : p.nt ≤ q.nt
  · simp [e]
  · simp [e]
theorem lessOf_3 {p q : Wst} (h : ¬ (q.n : Int) ≤ p.n) (h1 : ¬ ((p.cnt.length : Int) ≤ 1 ∧ (q.cnt.length : Int) ≤ 1)) {i : Nat} (hi : i < (topOf p q + 1 - 2).toNat) (hc : ilOf q (2 + i) ≤ ilOf p (2 + i)) : lessOf p q = false := by
  unfold lessOf
  rw [if_neg (by omega), if_neg (fun c => h1 ⟨by omega, by omega⟩)]
  rw [List.all_eq_false]
  exact ⟨i, List.mem_range.mpr hi, by simpa using hc⟩
theorem lessOf_4 {p q : Wst} (h : ¬ (q.n : Int) ≤ p.n) (h1 : ¬ ((p.cnt.length : Int) ≤ 1 ∧ (q.cnt.length : Int) ≤ 1)) (hc : ∀ i : Nat, i < (topOf p q + 1 - 2).toNat → ilOf p (2 + i) < ilOf q (2 + i)) : lessOf p q = true := by
  unfold lessOf
  rw [if_neg (by omega), if_neg (fun c => h1 ⟨by omega, by omega⟩)]
  rw [List.all_eq_true]
  intro i hi
  simpa using hc i (List.mem_range.mp hi)
end Mine
namespace Mine
noncomputable def isWs (c : Nat) : Bool := c == 10 || c == 9 || c == 13 || c == 32
noncomputable abbrev S (l : List Nat) : Str := ⟨l.toArray⟩
theorem S_app (a b : List Nat) : S a ++ S b = S (a ++ b) := by
  show Str.append _ _ = _
  simp [Str.append]
theorem S_len (a : List Nat) : (S a).length = a.length := by simp [Str.length]
/-- how many line ends -/
noncomputable def nls (l : List Nat) : Nat := l.count 10
/-- reading on within quotes: what is read, and what is left -/
inductive QTo : List Nat → List Nat → List Nat → Prop
  | fin {r : List Nat} : QTo (34 :: r) [] r
  | esc {c : Nat} {l t r : List Nat} : QTo l t r → QTo (92 :: c :: l) (c :: t) r
  | chr {c : Nat} {l t r : List Nat} : c ≠ 34 → c ≠ 92 → QTo l t r → QTo (c :: l) (c :: t) r
inductive UTo : List Nat → List Nat → List Nat → Prop
  | fin {c : Nat} {r : List Nat} : isWs c = true → UTo (c :: r) [] r
  | esc {c : Nat} {l t r : List Nat} : UTo l t r → UTo (92 :: c :: l) (c :: t) r
  | chr {c : Nat} {l t r : List Nat} : isWs c = false → c ≠ 92 → UTo l t r → UTo (c :: l) (c :: t) r
/-- a word read off a text -/
inductive TTo : List Nat → List Nat → List Nat → Prop
  | ws {c : Nat} {l t r : List Nat} : isWs c = true → TTo l t r → TTo (c :: l) t r
  | quo {l t r : List Nat} : QTo l t r → TTo (34 :: l) t r
  | esc {c : Nat} {l t r : List Nat} : UTo l t r → TTo (92 :: c :: l) (c :: t) r
  | eof : TTo [] [] []
end Mine
namespace Mine
open PySem.Builtin.Str
theorem chAt_some {x : Str} {i c : Nat} (h : x.cps[i]? = some c) : Txt.slice x (some (i : Int)) (some ((i : Int) + 1)) = ⟨#[c]⟩ := by
  obtain ⟨hi, e⟩ := Array.getElem?_eq_some_iff.mp h
  have hl : i + 1 ≤ x.length := hi
  have e1 := StrLaws.sliced_plain x (a := i) (b := i + 1) (by omega) hl
  have e2 := StrLaws.strSliceIndices_plain (a := i) (b := i + 1) (len := x.length) (by omega) hl
  rw [show (((i + 1 : Nat)) : Int) = (i : Int) + 1 by omega] at e1 e2
  have e3 : (x.cps.toList.drop i).take (i + 1 - i) = [c] := by
    rw [List.drop_eq_getElem_cons (by simpa using hi), show i + 1 - i = 1 by omega]
    simp [e]
  unfold Txt.slice
  split
  · rename_i hc
    rw [e2] at hc
    have hx : x.length = 1 := by simp at hc; omega
    have hi0 : i = 0 := by omega
    subst hi0
    obtain ⟨a⟩ := x
    have : a.size = 1 := hx
    congr 1
    apply Array.ext
    · simp [this]
    · intro k h1 h2
      have : k = 0 := by simp at h2; omega
      subst this
      simpa using e
  · rw [e1, e3]
theorem chAt_none {x : Str} {i : Nat} (h : x.cps[i]? = none) : Txt.slice x (some (i : Int)) (some ((i : Int) + 1)) = Str.ofString "" := by
  have hi : x.length ≤ i := by simpa [Str.length] using h
  have e : strSliceIndices (some (i : Int)) (some ((i : Int) + 1)) 1 x.length = [] := by
    have h1 : ¬ ((i : Int) < 0) := by omega
    have h2 : ¬ ((i : Int) + 1 < 0) := by omega
    have e1 : max (0 : Int) (min (i : Int) (x.length : Int)) = x.length := by omega
    have e2 : max (0 : Int) (min ((i : Int) + 1) (x.length : Int)) = x.length := by omega
    simp only [strSliceIndices, sliceRange, h1, h2, if_false, e1, e2, show ((1 : Int) > 0) = True from by simp, if_true]
    simp
  unfold Txt.slice
  rw [e]
  split
  · rename_i hc
    have hx : x.length = 0 := by simp at hc; omega
    obtain ⟨a⟩ := x
    have ha : a.size = 0 := hx
    rw [Array.size_eq_zero_iff.mp ha]
    decide +kernel
  · rw [List.filterMap_nil]; decide +kernel
end Mine
namespace Mine
theorem TTo.inv {c : Nat} {l t r : List Nat} (h : TTo (c :: l) t r) : (isWs c = true ∧ TTo l t r) ∨ (c = 34 ∧ QTo l t r) ∨ (c = 92 ∧ ∃ d l' t', l = d :: l' ∧ t = d :: t' ∧ UTo l' t' r) := by
  generalize e : c :: l = x at h
  cases h with
  | ws a b => cases e; exact .inl ⟨a, b⟩
  | quo a => cases e; exact .inr (.inl ⟨rfl, a⟩)
  | esc a => cases e; exact .inr (.inr ⟨rfl, _, _, _, rfl, rfl, a⟩)
  | eof => cases e
theorem QTo.inv {c : Nat} {l t r : List Nat} (h : QTo (c :: l) t r) : (c = 34 ∧ t = [] ∧ r = l) ∨ (c = 92 ∧ ∃ d l' t', l = d :: l' ∧ t = d :: t' ∧ QTo l' t' r) ∨ (c ≠ 34 ∧ c ≠ 92 ∧ ∃ t', t = c :: t' ∧ QTo l t' r) := by
  generalize e : c :: l = x at h
  cases h with
  | fin => cases e; exact .inl ⟨rfl, rfl, rfl⟩
  | esc a => cases e; exact .inr (.inl ⟨rfl, _, _, _, rfl, rfl, a⟩)
  | chr a b d => cases e; exact .inr (.inr ⟨a, b, _, rfl, d⟩)
theorem UTo.inv {c : Nat} {l t r : List Nat} (h : UTo (c :: l) t r) : (isWs c = true ∧ t = [] ∧ r = l) ∨ (c = 92 ∧ ∃ d l' t', l = d :: l' ∧ t = d :: t' ∧ UTo l' t' r) ∨ (isWs c = false ∧ c ≠ 92 ∧ ∃ t', t = c :: t' ∧ UTo l t' r) := by
  generalize e : c :: l = x at h
  cases h with
  | fin a => cases e; exact .inl ⟨a, rfl, rfl⟩
  | esc a => cases e; exact .inr (.inl ⟨rfl, _, _, _, rfl, rfl, a⟩)
  | chr a b d => cases e; exact .inr (.inr ⟨a, b, _, rfl, d⟩)
theorem QTo.len {l t r : List Nat} (h : QTo l t r) : t.length ≤ l.length := by induction h <;> simp <;> omega
theorem UTo.len {l t r : List Nat} (h : UTo l t r) : t.length ≤ l.length := by induction h <;> simp <;> omega
theorem TTo.len {l t r : List Nat} (h : TTo l t r) : t.length ≤ l.length := by
  induction h with
  | ws _ _ ih => simp; omega
  | quo a => have := a.len; simp; omega
  | esc a => have := a.len; simp; omega
  | eof => simp
theorem nls_cons (c : Nat) (l : List Nat) : ((nls (c :: l) : Nat) : Int) = (if c = 10 then 1 else 0) + (nls l : Nat) := by
  unfold nls
  rw [List.count_cons]
  by_cases h : c = 10
  · subst h; simp; omega
  · simp [h]
theorem S_nil (u : Str) : u ++ S [] = u := by
  show Str.append _ _ = _
  simp [Str.append]
theorem nil_S (t : List Nat) : Str.ofString "" ++ S t = S t := by
  rw [show Str.ofString "" = S [] by decide +kernel, S_app]; rfl
theorem app_cons (u : Str) (c : Nat) (t : List Nat) : (u ++ ⟨#[c]⟩) ++ S t = u ++ S (c :: t) := by
  show Str.append (Str.append _ _) _ = Str.append _ _
  simp [Str.append]
theorem size_le {u : Str} {t2 t : List Nat} (h : u ++ S t2 = S t) : u.cps.size + t2.length = t.length := by
  have := congrArg (fun x : Str => x.cps.size) h
  change (Str.append u (S t2)).cps.size = _ at this
  simpa [Str.append] using this
theorem cps_of_drop {a : Array Nat} {i c : Nat} {l : List Nat} (h : a.toList.drop i = c :: l) : a[i]? = some c ∧ a.toList.drop (i + 1) = l := by
  have e : a.toList[i]? = some c := by
    have := congrArg (fun x => x[0]?) h
    simpa using this
  refine ⟨by simpa using e, ?_⟩
  have := congrArg List.tail h
  simpa using this
theorem mem_ws (ch : Nat) : decide (ch ∈ [10, 9, 13, 32]) = isWs ch := by
  unfold isWs
  by_cases h1 : ch = 10
  · subst h1; rfl
  by_cases h2 : ch = 9
  · subst h2; rfl
  by_cases h3 : ch = 13
  · subst h3; rfl
  by_cases h4 : ch = 32
  · subst h4; rfl
  · rw [decide_eq_false (by simp only [List.mem_cons, List.not_mem_nil, or_false, not_or]; exact ⟨h1, h2, h3, h4⟩), beq_false_of_ne h1, beq_false_of_ne h2, beq_false_of_ne h3, beq_false_of_ne h4]
    rfl
noncomputable def nl1 (c : Nat) : Int := if c = 10 then 1 else 0
theorem nls_nl1 (c : Nat) (l : List Nat) : ((nls (c :: l) : Nat) : Int) = nl1 c + (nls l : Nat) := nls_cons c l
end Mine
namespace Mine
/-- words read off a text, one by one -/
inductive Reads : List Nat → List Str → List Nat → Prop
  | nil {l : List Nat} : Reads l [] l
  | cons {l t r r' : List Nat} {us : List Str} : TTo l t r → Reads r us r' → Reads l (S t :: us) r'
/-- a round: one is held, the others pass -/
noncomputable def rnd (lt : Str → Str → Bool) (held : Str) : List Str → Str × List Str
  | [] => (held, [])
  | u :: r => if lt held u then ((rnd lt u r).1, held :: (rnd lt u r).2) else ((rnd lt held r).1, u :: (rnd lt held r).2)
theorem rnd_len (lt : Str → Str → Bool) : ∀ (r : List Str) (held : Str), (rnd lt held r).2.length = r.length
  | [], _ => rfl
  | u :: r, held => by
    unfold rnd
    split
    · simp [rnd_len lt r u]
    · simp [rnd_len lt r held]
/-- the rounds of _law_gone -/
noncomputable def goneOf (lt : Str → Str → Bool) : Nat → List Str → List Str
  | n + 1, u :: r => (rnd lt u r).1 :: goneOf lt n (rnd lt u r).2
  | _, _ => []
end Mine
namespace Mine
noncomputable def minL : List Int → Int
  | [] => 0
  | [a] => a
  | a :: b :: r => if a ≤ minL (b :: r) then a else minL (b :: r)
theorem minL_mem : ∀ {l : List Int}, l ≠ [] → minL l ∈ l
  | [], h => absurd rfl h
  | [a], _ => List.mem_singleton.mpr rfl
  | a :: b :: r, _ => by
    unfold minL
    split
    · exact .head _
    · exact .tail _ (minL_mem (by simp))
theorem minL_le : ∀ {l : List Int}, ∀ a ∈ l, minL l ≤ a
  | [], _, h => nomatch h
  | [b], a, h => by cases List.mem_singleton.mp h; exact Int.le_refl _
  | b :: c :: r, a, h => by
    unfold minL
    rcases List.mem_cons.mp h with rfl | h
    · split <;> omega
    · have := minL_le (l := c :: r) a h
      split <;> omega
theorem minL_eq {l : List Int} {M : Int} (hm : M ∈ l) (hl : ∀ a ∈ l, M ≤ a) : M = minL l :=
  Int.le_antisymm (hl _ (minL_mem (List.ne_nil_of_mem hm))) (minL_le _ hm)
/-- a number goes into rising rows; the cell that opens -/
noncomputable def ins : Int → List (List Int) → Nat → List (List Int) × (Nat × Nat)
  | n, [], i => ([[n]], (i, 0))
  | n, r :: rs, i =>
    if n < r.getLastD 0 then
      let q := ins (minL (r.filter fun x => decide (n < x))) rs (i + 1)
      (r.set (r.idxOf (minL (r.filter fun x => decide (n < x)))) n :: q.1, q.2)
    else ((r ++ [n]) :: rs, (i, r.length))
noncomputable def cellsOf : List Int → List (List Int) → List (Nat × Nat)
  | [], _ => []
  | n :: r, rows => (ins n rows 0).2 :: cellsOf r (ins n rows 0).1
end Mine
namespace Mine
noncomputable def maxL : List Int → Int
  | [] => 0
  | [a] => a
  | a :: b :: r => if maxL (b :: r) ≤ a then a else maxL (b :: r)
theorem maxL_mem : ∀ {l : List Int}, l ≠ [] → maxL l ∈ l
  | [], h => absurd rfl h
  | [a], _ => List.mem_singleton.mpr rfl
  | a :: b :: r, _ => by
    unfold maxL
    split
    · exact .head _
    · exact .tail _ (maxL_mem (by simp))
theorem maxL_le : ∀ {l : List Int}, ∀ a ∈ l, a ≤ maxL l
  | [], _, h => nomatch h
  | [b], a, h => by cases List.mem_singleton.mp h; exact Int.le_refl _
  | b :: c :: r, a, h => by
    unfold maxL
    rcases List.mem_cons.mp h with rfl | h
    · split <;> omega
    · have := maxL_le (l := c :: r) a h
      split <;> omega
theorem maxL_eq {l : List Int} {M : Int} (hm : M ∈ l) (hl : ∀ a ∈ l, a ≤ M) : M = maxL l :=
  Int.le_antisymm (maxL_le _ hm) (hl _ (maxL_mem (List.ne_nil_of_mem hm)))
end Mine
open PySem PySem.W PySem.Calls PyProof.Rows PySem.SeqAt
set_option maxRecDepth 100000
namespace Mine
section
variable {prog : Program} {w : World} {A : Around} {E : Value → Shared → Prop} {s : Shared} {g : Heap} {L : Addr} {m : Str → Option Value} {news : List (Addr × Obj)}
theorem lenV {l : Addr} {vs : List Value} {n : Nat} {Q : Value → Shared → Prop} (N : News g L s.heap news) (hm : (l, listOf vs.toArray n) ∈ news) (hz : vs.length ≤ 1000000)
    (h : ∀ t tk, Q (.int vs.length t) { s with toks := tk }) : wpAny (model prog w) A (call (.builtin "len") [.ref l]) Q E s := by
  refine PyProof.Rows.len_list (News.isList N hm) (by simp; omega) ?_
  rw [show ((vs.toArray.size : Nat) : Int) = (vs.length : Int) by simp]
  exact h _ _
theorem itemV {l : Addr} {vs : List Value} {n : Nat} {k : Int} {u : Tok} {v : Value} {value slice : PySem.Expr} {Q : Value → Shared → Prop} (N : News g L s.heap news) (hm : (l, listOf vs.toArray n) ∈ news) (h0 : 0 ≤ k) (hk : k < 1000000) (hx : vs[k.toNat]? = some v) (h : Q v s)
    (hs : subscripted slice false (.ref l) (.int k u) = operate [.ref l, .int k u] (getItem (.ref l) (.int k u)) := by with_unfolding_all rfl) (hg : ∀ r, letTemporaryGo value (.ref l) r = pure () := by intro _; with_unfolding_all rfl) :
    wpAny (model prog w) A (subscriptTail value slice (.ref l) (.int k u)) Q E s :=
  have hl := News.isList N hm
  subscriptTail_builtin hl.typeIs slot_list_getitem.lookup (wpAny_getItem_list hl h0 (by omega) (by simpa using hx) h) hs hg
theorem ints_last {vs : List Value} {ns : List Int} (hi : IntsAre vs ns) : ns ≠ [] → ∃ t, vs[vs.length - 1]? = some (.int (ns.getLastD 0) t) := by
  induction hi with
  | nil => intro h; exact absurd rfl h
  | cons k t r ih =>
    intro _
    cases r with
    | nil => exact ⟨t, rfl⟩
    | cons k' t' r' =>
      obtain ⟨u, e⟩ := ih (by simp)
      refine ⟨u, ?_⟩
      simp only [List.length_cons, Nat.add_sub_cancel] at e ⊢
      rw [List.getElem?_cons_succ, e]
      rfl
theorem itemLast {l : Addr} {vs : List Value} {ns : List Int} {n : Nat} {u : Tok} {value slice : PySem.Expr} {Q : Value → Shared → Prop} (N : News g L s.heap news) (hm : (l, listOf vs.toArray n) ∈ news) (hi : IntsAre vs ns) (hne : ns ≠ []) (h : ∀ t, Q (.int (ns.getLastD 0) t) s)
    (hs : subscripted slice false (.ref l) (.int (-1) u) = operate [.ref l, .int (-1) u] (getItem (.ref l) (.int (-1) u)) := by with_unfolding_all rfl) (hg : ∀ r, letTemporaryGo value (.ref l) r = pure () := by intro _; with_unfolding_all rfl) :
    wpAny (model prog w) A (subscriptTail value slice (.ref l) (.int (-1) u)) Q E s := by
  have hl := News.isList N hm
  obtain ⟨t, e⟩ := ints_last hi hne
  have hlen := hi.length
  have hpos : 0 < ns.length := List.length_pos_iff.mpr hne
  refine subscriptTail_builtin hl.typeIs slot_list_getitem.lookup (wpAny_getItem_list_neg (x := .int (ns.getLastD 0) t) hl (by decide) (by simp; omega) (by decide) ?_ (h t)) hs hg
  rw [show ((-1 : Int) + (vs.toArray.size : Nat)).toNat = vs.length - 1 by simp; omega]
  simpa using e
theorem indexI {l : Addr} {vs : List Value} {ns : List Int} {n : Nat} {k : Int} {t : Tok} {Q : Value → Shared → Prop} (N : News g L s.heap news) (hm : (l, listOf vs.toArray n) ∈ news) (hi : IntsAre vs ns) (hk : k ∈ ns) (hz : ns.length ≤ 1000000) (h : ∀ t tk, Q (.int (ns.idxOf k : Nat) t) { s with toks := tk }) :
    wpAny (model prog w) A (call (.builtin "list.index") [.ref l, .int k t]) Q E s := by
  have ho := (N _ hm).1
  have hlen := hi.length
  have hj : ns.idxOf k < ns.length := List.idxOf_lt_length_iff.mpr hk
  refine call_meets PySem.F.slot_list_index ⟨_, ho, rfl⟩ PySem.F.entry_list_index (PySem.F.args_list_index_2 _ _)
    (list_indexAt l vs.toArray n none #[] (.int k t) (isInt k) (ns.idxOf k) (by simpa [hlen] using hj) (by omega) ?_ ?_) ⟨ho, fun y hy => (eq_isInt k t hi y (by simpa using hy)).at _ _, h _ _⟩
  · show isInt k vs[ns.idxOf k] = true
    rw [isInt_at k hi _ (by omega) hj]
    simpa using List.getElem_idxOf hj
  · intro j hjs hlt
    show isInt k vs[j] = false
    rw [isInt_at k hi j (by simpa using hjs) (by omega)]
    exact ne_of_lt_idxOf hlt _
end
end Mine
namespace Mine
/-- a row of ints that the call has made -/
structure RowO where
  a : Nat
  us : List Value
  c : Nat
  ns : List Int
noncomputable abbrev RowO.led (r : RowO) : Addr × Obj := (r.a, listOf r.us.toArray r.c)
noncomputable abbrev rowsLed (rows : List RowO) : List (Addr × Obj) := rows.map RowO.led
noncomputable abbrev refsOf (rows : List RowO) : List Value := rows.map fun r => .ref r.a
noncomputable abbrev intsOf (rows : List RowO) : List (List Int) := rows.map (·.ns)
/-- a pair of ints that the call has made -/
structure CellO where
  a : Nat
  i : Nat
  j : Nat
  ti : Tok
  tj : Tok
noncomputable abbrev pairObj (u v : Value) : Obj := { cls := .type "tuple", data := .seq #[u, v] }
noncomputable abbrev CellO.led (c : CellO) : Addr × Obj := (c.a, pairObj (.int c.i c.ti) (.int c.j c.tj))
noncomputable abbrev cellsLed (cs : List CellO) : List (Addr × Obj) := cs.map CellO.led
noncomputable abbrev cellRefs (cs : List CellO) : List Value := cs.map fun c => .ref c.a
noncomputable abbrev pairsOf (cs : List CellO) : List (Nat × Nat) := cs.map fun c => (c.i, c.j)
/-- the rows are lists of ints, none is empty, all are short -/
noncomputable def RowsOk (t : Nat) (rows : List RowO) : Prop := ∀ r ∈ rows, IntsAre r.us r.ns ∧ r.ns ≠ [] ∧ r.ns.length ≤ t
theorem AllNe.app {a : Nat} {x y : List (Addr × Obj)} (h1 : AllNe a x) (h2 : AllNe a y) : AllNe a (x ++ y) := .of fun p hp => by
  rcases List.mem_append.mp hp with h | h
  · exact h1.mem p h
  · exact h2.mem p h
theorem AllNe.left {a : Nat} {x y : List (Addr × Obj)} (h : AllNe a (x ++ y)) : AllNe a x := .of fun p hp => h.mem p (List.mem_append_left _ hp)
theorem AllNe.right {a : Nat} {x y : List (Addr × Obj)} (h : AllNe a (x ++ y)) : AllNe a y := .of fun p hp => h.mem p (List.mem_append_right _ hp)
/-- no two of the ledger's addresses are one -/
noncomputable def Apt : List (Addr × Obj) → Prop
  | [] => True
  | p :: r => AllNe p.1 r ∧ Apt r
theorem Apt.nodup : ∀ {l : List (Addr × Obj)}, Apt l ↔ (l.map (·.1)).Nodup
  | [] => by simp [Apt]
  | p :: r => by
    rw [Apt, Apt.nodup, List.map_cons, List.nodup_cons]
    refine and_congr_left' ⟨fun h q => ?_, fun h => .of fun q hq e => h (e ▸ List.mem_map_of_mem hq)⟩
    obtain ⟨x, hx, e⟩ := List.mem_map.mp q
    exact h.mem x hx e
theorem Apt.perm {l l' : List (Addr × Obj)} (h : Apt l) (p : (l.map (·.1)).Perm (l'.map (·.1))) : Apt l' := Apt.nodup.mpr (p.nodup_iff.mp (Apt.nodup.mp h))
end Mine
namespace Mine
theorem ints_item {vs : List Value} {ns : List Int} (hi : IntsAre vs ns) : ∀ {i : Nat} {v : Value}, vs[i]? = some v → ∃ t, v = .int (ns.getD i 0) t ∧ i < ns.length := by
  induction hi with
  | nil => intro i v h; simp at h
  | cons k t r ih =>
    intro i v h
    cases i with
    | zero => simp at h; exact ⟨t, h.symm, Nat.zero_lt_succ _⟩
    | succ i =>
      obtain ⟨u, e, hl⟩ := ih (by simpa using h)
      exact ⟨u, by simpa using e, Nat.succ_lt_succ hl⟩
end Mine
namespace Mine
theorem rowsLed_fst (rows : List RowO) : (rowsLed rows).map (·.1) = rows.map (·.a) := by rw [List.map_map]; rfl
theorem rowsLed_mid (pre post : List RowO) (r : RowO) (E : List (Addr × Obj)) : (rowsLed (pre ++ r :: post) ++ E).Perm (r.led :: (rowsLed pre ++ (rowsLed post ++ E))) := by
  rw [rowsLed, List.map_append, List.map_cons, List.append_assoc, List.cons_append]
  exact List.perm_middle
theorem apt_row {p q : Addr × Obj} {pre post : List RowO} {r : RowO} {E : List (Addr × Obj)} (h : Apt (p :: q :: (rowsLed (pre ++ r :: post) ++ E))) : Apt (p :: q :: r.led :: (rowsLed pre ++ (rowsLed post ++ E))) :=
  h.perm ((((rowsLed_mid pre post r E).cons q).cons p).map _)
theorem apt_while {R cN Cl I : Nat} {oR oR' oN oN' oC oI : Obj} {rows rows' : List RowO} {cl : List (Addr × Obj)} (ap : Apt ((R, oR) :: (cN, oN) :: (Cl, oC) :: (rowsLed rows ++ cl))) (hI : AllNe I ((R, oR) :: (cN, oN) :: (Cl, oC) :: (rowsLed rows ++ cl))) (e : rows'.map (·.a) = rows.map (·.a)) :
    Apt ((R, oR') :: (cN, oN') :: (rowsLed rows' ++ (Cl, oC) :: (I, oI) :: cl)) := by
  have h : Apt ((I, oI) :: (R, oR) :: (cN, oN) :: (Cl, oC) :: (rowsLed rows ++ cl)) := ⟨hI, ap⟩
  refine h.perm ?_
  simp only [List.map_cons, List.map_append, rowsLed_fst, e]
  refine (List.Perm.swap ..).trans (List.Perm.cons _ ((List.Perm.swap ..).trans (List.Perm.cons _ ?_)))
  refine .trans ?_ (List.perm_middle).symm
  refine (List.Perm.swap ..).trans (List.Perm.cons _ ?_)
  exact (List.perm_middle).symm
theorem row_at {rows : List RowO} {i : Nat} (h : i < rows.length) : ∃ pre r post, rows = pre ++ r :: post ∧ pre.length = i :=
  ⟨rows.take i, rows[i], rows.drop (i + 1), by rw [List.getElem_cons_drop]; exact (List.take_append_drop i rows).symm, by rw [List.length_take]; omega⟩
theorem ref_at {as : List Nat} {pre post : List RowO} {r : RowO} (h : (pre ++ r :: post).map (·.a) = as) : (as.map Value.ref)[((pre.length : Nat) : Int).toNat]? = some (.ref r.a) := by
  rw [← h, Int.toNat_natCast, List.getElem?_map, List.getElem?_map, List.getElem?_append_right (Nat.le_refl _), Nat.sub_self]
  rfl
end Mine
namespace Mine
section
variable {prog : Program} {w : World} {A : Around} {E : Value → Shared → Prop} {s : Shared} {h₀ : Heap} {L : Addr} {m : Str → Option Value} {env : Env}
/-- the turns of a comprehension with a test, by an invariant -/
theorem compT_inv {ct elt : PySem.Expr} {x : Str} {scope : Scope} {cl : List (Str × Addr)} {S : List (Addr × Obj) → Prop} {P : Nat → Value → Prop} {Fin : List Value → List (Addr × Obj) → Prop} {n : Nat} (J : Nat → List Value → List (Addr × Obj) → Prop)
    (turn : ∀ i ys news, i < n → J i ys news → ∀ v I oI C oC D m₂ h tk (E' : Value → Shared → Prop), P i v → LCg.NsObj oC m₂ → m₂ x = some v → Fr h₀ L h m → News h₀ L h ((I, oI) :: (C, oC) :: (D, LCg.lst ys) :: news) → LCg.Off3 I C D news → ((@Ne Nat I C) ∧ (@Ne Nat I D) ∧ (@Ne Nat C D)) →
      wpAny (model prog w) A (isTrue ct (compEnvC scope cl C env) (eval ct (compEnvC scope cl C env))) (fun ok s' => if ok = true then
        wpAny (model prog w) A (eval elt (compEnvC scope cl C env)) (LCg.CompEnd h₀ L m { s with heap := h, toks := tk } I oI C oC D (LCg.lst ys) S (fun y news' => J (i + 1) (ys ++ [y]) news')) E' s'
        else LCg.CompEnd h₀ L m { s with heap := h, toks := tk } I oI C oC D (LCg.lst ys) S (fun _ news' => J (i + 1) ys news') Value.none s') E' { s with heap := h, toks := tk })
    (fin : ∀ ys news, J n ys news → Fin ys news) {news : List (Addr × Obj)} (h0 : J 0 [] news) : LCt.CompRestT prog w A h₀ L m env ct elt x scope cl s S P Fin n 0 [] news := by
  have key : ∀ k i ys news, i + k = n → J i ys news → LCt.CompRestT prog w A h₀ L m env ct elt x scope cl s S P Fin k i ys news := by
    intro k
    induction k with
    | zero => intro i ys news hi hJ; obtain rfl : i = n := hi; exact fin ys news hJ
    | succ k ih =>
      intro i ys news hi hJ
      refine LCt.CompRestT.succ fun v I oI C oC D m₂ h tk E' hP hN hx F N o3 hne => ?_
      refine wpAny_mono (turn i ys news (by omega) hJ v I oI C oC D m₂ h tk E' hP hN hx F N o3 hne) (fun ok s₂ h₂ => ?_) fun _ _ e => e
      cases ok with
      | true =>
        simp only [if_true] at h₂ ⊢
        refine wpAny_mono h₂ (fun y s₃ h₃ => ?_) fun _ _ e => e
        obtain ⟨h', tk', news', e, F', N', o', hS, hj⟩ := h₃
        exact ⟨h', tk', news', e, F', N', o', hS, ih (i + 1) _ _ (by omega) hj⟩
      | false =>
        simp only [Bool.false_eq_true, if_false] at h₂ ⊢
        obtain ⟨h', tk', news', e, F', N', o', hS, hj⟩ := h₂
        exact ⟨h', tk', news', e, F', N', o', hS, ih (i + 1) _ _ (by omega) hj⟩
  exact key n 0 [] news (by omega) h0
end
/-- a comprehension that keeps some of a list's ints -/
structure FiltJ (rn : List Int) (p : Int → Bool) (news : List (Addr × Obj)) (i : Nat) (ys : List Value) (news' : List (Addr × Obj)) : Prop where
  e : news' = news
  hy : IntsAre ys ((rn.take i).filter p)
theorem take_one {rn : List Int} {i : Nat} (h : i < rn.length) : rn.take (i + 1) = rn.take i ++ [rn.getD i 0] := by
  rw [List.take_succ_eq_append_getElem h, getD_in h]
theorem FiltJ.yes {rn : List Int} {p : Int → Bool} {news : List (Addr × Obj)} {i : Nat} {ys : List Value} {news' : List (Addr × Obj)} {t : Tok} (h : FiltJ rn p news i ys news') (hi : i < rn.length) (hp : p (rn.getD i 0) = true) : FiltJ rn p news (i + 1) (ys ++ [.int (rn.getD i 0) t]) news' :=
  ⟨h.e, by rw [take_one hi, List.filter_append, List.filter_cons, hp]; exact h.hy.append (.cons _ _ .nil)⟩
theorem FiltJ.no {rn : List Int} {p : Int → Bool} {news : List (Addr × Obj)} {i : Nat} {ys : List Value} {news' : List (Addr × Obj)} (h : FiltJ rn p news i ys news') (hi : i < rn.length) (hp : p (rn.getD i 0) = false) : FiltJ rn p news (i + 1) ys news' :=
  ⟨h.e, by rw [take_one hi, List.filter_append, List.filter_cons, hp, List.filter_nil]; simpa using h.hy⟩
end Mine
namespace Mine
theorem last_mem : ∀ {l : List Int}, l ≠ [] → l.getLastD 0 ∈ l
  | [], h => absurd rfl h
  | [a], _ => List.mem_singleton.mpr rfl
  | a :: b :: r, _ => .tail _ (last_mem (l := b :: r) (by simp))
theorem last_filter {l : List Int} {n : Int} (h : l ≠ []) (h1 : n < l.getLastD 0) : 0 < (l.filter fun x => decide (n < x)).length :=
  List.length_pos_iff.mpr (List.ne_nil_of_mem (List.mem_filter.mpr ⟨last_mem h, decide_eq_true h1⟩))
end Mine
namespace Mine
/-- a turn of the inner loop, as the insertion sees it -/
theorem ins_turn {num : Int} {pre post : List RowO} {r r' : RowO} {T : List (List Int) × (Nat × Nat)} (hT : ((intsOf (pre ++ r :: post)).take pre.length ++ (ins num ((intsOf (pre ++ r :: post)).drop pre.length) pre.length).1, (ins num ((intsOf (pre ++ r :: post)).drop pre.length) pre.length).2) = T)
    (h : num < r.ns.getLastD 0) (e : r'.ns = r.ns.set (r.ns.idxOf (minL (r.ns.filter fun x => decide (num < x)))) num) :
    ((intsOf (pre ++ r' :: post)).take (pre.length + 1) ++ (ins (minL (r.ns.filter fun x => decide (num < x))) ((intsOf (pre ++ r' :: post)).drop (pre.length + 1)) (pre.length + 1)).1, (ins (minL (r.ns.filter fun x => decide (num < x))) ((intsOf (pre ++ r' :: post)).drop (pre.length + 1)) (pre.length + 1)).2) = T := by
  rw [← hT]
  have hp : (intsOf pre).length = pre.length := List.length_map ..
  have d1 : (intsOf (pre ++ r :: post)).drop pre.length = r.ns :: intsOf post := by
    rw [intsOf, List.map_append, ← hp, List.drop_left' rfl]; rfl
  have t1 : (intsOf (pre ++ r :: post)).take pre.length = intsOf pre := by
    rw [intsOf, List.map_append, ← hp, List.take_left' rfl]
  have e2 : intsOf (pre ++ r' :: post) = (intsOf pre ++ [r'.ns]) ++ intsOf post := by simp [intsOf]
  have hp2 : (intsOf pre ++ [r'.ns]).length = pre.length + 1 := by rw [List.length_append, hp]; rfl
  rw [d1, t1, e2, ← hp2, List.drop_left' rfl, List.take_left' rfl, ins, if_pos h, hp2, ← e]
  simp
theorem rowsOk_set {t : Nat} {pre post : List RowO} {r r' : RowO} (ok : RowsOk t (pre ++ r :: post)) (h : IntsAre r'.us r'.ns) (e : r'.ns.length = r.ns.length) : RowsOk t (pre ++ r' :: post) := by
  obtain ⟨_, b, c⟩ := ok r (by simp)
  intro q hq
  rcases List.mem_append.mp hq with hq | hq
  · exact ok q (List.mem_append_left _ hq)
  · rcases List.mem_cons.mp hq with rfl | hq
    · refine ⟨h, fun z => ?_, e ▸ c⟩
      rw [z] at e
      exact b (List.length_eq_zero_iff.mp e.symm)
    · exact ok q (List.mem_append_right _ (.tail _ hq))
end Mine
namespace Mine
section
variable {prog : Program} {w : World} {A : Around} {E : Value → Shared → Prop} {s : Shared} {g : Heap} {L : Addr} {m : Str → Option Value} {news news' : List (Addr × Obj)}
theorem appendV {l : Addr} {vs : List Value} {n : Nat} {x : Value} {Q : Value → Shared → Prop} (F : Fr g L s.heap m) (N : News g L s.heap news) (U : Upd l (listOf vs.toArray n) (listOf (vs ++ [x]).toArray (n + 1)) news news') (hz : vs.length ≤ 1000000)
    (h : ∀ h', Fr g L h' m → News g L h' news' → Q .none { s with heap := h' }) : wpAny (model prog w) A (call (.builtin "list.append") [.ref l, x]) Q E s :=
  append_K F N (by rw [List.push_toArray]; exact U) h (by rw [sizeLine_eq, List.size_toArray]; omega)
end
end Mine
namespace Mine
theorem cut' {M : Model} {A : Around} {E : Value → Shared → Prop} {s : Shared} {env : Env} {Q : Flow → Shared → Prop} {st : Stmt} (J : Shared → Prop) (h1 : wpAny M A (exec st env) (Cut J Q) E s) (h2 : ∀ s', J s' → Hold (Q .next s')) : wpAny M A (exec st env) Q E s := cut J h1 h2
end Mine
namespace Mine
theorem led_out (rows : List RowO) (a b : Addr × Obj) (E : List (Addr × Obj)) : (rowsLed rows ++ a :: b :: E).Perm (a :: b :: (rowsLed rows ++ E)) :=
  List.perm_middle.trans (List.perm_middle.cons a)
theorem apt_out {p q a b : Addr × Obj} {rows : List RowO} {E : List (Addr × Obj)} (h : Apt (p :: q :: (rowsLed rows ++ a :: b :: E))) : Apt (p :: q :: a :: b :: (rowsLed rows ++ E)) :=
  h.perm ((((led_out rows a b E).cons q).cons p).map _)
theorem ref_new {as : List Nat} {i D : Nat} (h : i = as.length) : (as.map Value.ref ++ [Value.ref D])[((i : Nat) : Int).toNat]? = some (.ref D) := by
  subst h
  simp
theorem ce_next {ns : List Int} {cls : List CellO} {rows : List RowO} {t : Nat} {T : List (List Int) × (Nat × Nat)} (hc : pairsOf cls ++ cellsOf (ns.drop t) (intsOf rows) = cellsOf ns []) (ht : t < ns.length) (hT : ins (ns.getD t 0) (intsOf rows) 0 = T) {c : CellO} (hcT : (c.i, c.j) = T.2) :
    pairsOf (cls ++ [c]) ++ cellsOf (ns.drop (t + 1)) T.1 = cellsOf ns [] := by
  rw [← hc, List.drop_eq_getElem_cons ht, cellsOf, ← getD_in ht, hT, pairsOf, List.map_append, List.append_assoc]
  simp [hcT]
end Mine
namespace Mine
theorem AllNe.ofAllLt {D : Nat} : ∀ {l : List (Addr × Obj)}, AllLt D l → AllNe D l
  | [], _ => trivial
  | _ :: _, h => ⟨Nat.ne_of_lt h.1, AllNe.ofAllLt h.2⟩
end Mine
namespace Mine
theorem cellsLed_fst (cs : List CellO) : (cellsLed cs).map (·.1) = cs.map (·.a) := by rw [List.map_map]; rfl
theorem apt_grow {l l' : List (Addr × Obj)} (h : Apt l) (e : ∀ a : Nat, (l.map (·.1)).count a = (l'.map (·.1)).count a) : Apt l' := h.perm (List.perm_iff_count.mpr e)
theorem apt_new {D : Nat} {o : Obj} {l : List (Addr × Obj)} (h : Apt l) (hD : AllLt D l) : Apt ((D, o) :: l) := ⟨AllNe.ofAllLt hD, h⟩
end Mine
namespace Mine
theorem led_mid4 {p q a b : Addr × Obj} (pre post : List RowO) (r : RowO) (E : List (Addr × Obj)) : (p :: q :: a :: b :: (rowsLed (pre ++ r :: post) ++ E)).Perm (p :: q :: a :: b :: r.led :: (rowsLed pre ++ (rowsLed post ++ E))) :=
  ((((rowsLed_mid pre post r E).cons b).cons a).cons q).cons p
theorem row_nth {pre post : List RowO} {r : RowO} : (pre ++ r :: post)[pre.length]? = some r := by
  rw [List.getElem?_append_right (Nat.le_refl _), Nat.sub_self]; rfl
end Mine
namespace Mine
/-- where no number is greater, the row takes it -/
theorem ins_end {num : Int} {pre post : List RowO} {r r' : RowO} {T : List (List Int) × (Nat × Nat)} (hT : ((intsOf (pre ++ r :: post)).take pre.length ++ (ins num ((intsOf (pre ++ r :: post)).drop pre.length) pre.length).1, (ins num ((intsOf (pre ++ r :: post)).drop pre.length) pre.length).2) = T)
    (h : ¬ num < r.ns.getLastD 0) (e : r'.ns = r.ns ++ [num]) : (intsOf (pre ++ r' :: post), (pre.length, r.ns.length)) = T := by
  rw [← hT]
  have hp : (intsOf pre).length = pre.length := List.length_map ..
  have d1 : (intsOf (pre ++ r :: post)).drop pre.length = r.ns :: intsOf post := by
    rw [intsOf, List.map_append, ← hp, List.drop_left' rfl]; rfl
  have t1 : (intsOf (pre ++ r :: post)).take pre.length = intsOf pre := by
    rw [intsOf, List.map_append, ← hp, List.take_left' rfl]
  rw [d1, t1, ins, if_neg h, ← e]
  simp [intsOf]
end Mine
namespace Mine
theorem rowGo_len : ∀ (n : Nat) (ks fs : List Int), n ≤ fs.length → (rowGo n ks fs).length = n
  | 0, _, _, _ => rfl
  | k + 1, ks, [], h => absurd h (by simp)
  | k + 1, ks, f :: r, h => by
    show (rowGo k _ r).length + 1 = k + 1
    rw [rowGo_len k _ r (by simpa using h)]
theorem rowGo_le (n : Nat) (ks fs : List Int) : (rowGo n ks fs).length ≤ n := by
  induction n generalizing ks fs with
  | zero => exact Nat.le_refl _
  | succ k ih =>
    cases fs with
    | nil => exact Nat.zero_le _
    | cons f r => exact Nat.succ_le_succ (ih _ r)
/-- how many numbers stand in the rows -/
noncomputable def sz (rows : List (List Int)) : Nat := (rows.map List.length).sum
theorem sz_len : ∀ {rows : List (List Int)}, (∀ r ∈ rows, r ≠ []) → rows.length ≤ sz rows
  | [], _ => Nat.le_refl _
  | r :: rs, h => by
    have h1 := sz_len (rows := rs) fun x hx => h x (.tail _ hx)
    have h2 : 0 < r.length := List.length_pos_iff.mpr (h r (.head _))
    show rs.length + 1 ≤ r.length + sz rs
    omega
theorem ins_sz (n : Int) (rows : List (List Int)) (i : Nat) : sz (ins n rows i).1 = sz rows + 1 := by
  induction rows generalizing n i with
  | nil => rfl
  | cons r rs ih =>
    unfold ins
    split
    · show (r.set _ n).length + sz (ins _ rs (i + 1)).1 = r.length + sz rs + 1
      rw [ih, List.length_set]; omega
    · show (r ++ [n]).length + sz rs = r.length + sz rs + 1
      rw [List.length_append]; simp; omega
theorem ins_ne (n : Int) (rows : List (List Int)) (i : Nat) (h : ∀ r ∈ rows, r ≠ []) : ∀ r ∈ (ins n rows i).1, r ≠ [] := by
  induction rows generalizing n i with
  | nil => intro r hr; cases List.mem_singleton.mp hr; simp
  | cons a rs ih =>
    intro r hr
    unfold ins at hr
    split at hr
    · rcases List.mem_cons.mp hr with rfl | hr
      · intro q
        have := congrArg List.length q
        rw [List.length_set] at this
        exact h a (.head _) (List.length_eq_zero_iff.mp (by simpa using this))
      · exact ih _ _ (fun x hx => h x (.tail _ hx)) r hr
    · rcases List.mem_cons.mp hr with rfl | hr
      · simp
      · exact h r (.tail _ hr)
theorem ins_cell (n : Int) (rows : List (List Int)) (i : Nat) : (ins n rows i).2.1 ≤ i + rows.length ∧ (ins n rows i).2.2 ≤ sz rows := by
  induction rows generalizing n i with
  | nil => exact ⟨Nat.le_refl _, Nat.le_refl _⟩
  | cons r rs ih =>
    unfold ins
    split
    · have := ih (minL (r.filter fun x => decide (n < x))) (i + 1)
      refine ⟨?_, ?_⟩
      · show (ins _ rs (i + 1)).2.1 ≤ i + (rs.length + 1)
        omega
      · show (ins _ rs (i + 1)).2.2 ≤ r.length + sz rs
        omega
    · refine ⟨?_, ?_⟩
      · show i ≤ _; omega
      · show r.length ≤ r.length + sz rs
        omega
theorem cells_bound : ∀ (ns : List Int) (rows : List (List Int)), (∀ r ∈ rows, r ≠ []) → ∀ c ∈ cellsOf ns rows, c.1 < sz rows + ns.length ∧ c.2 < sz rows + ns.length
  | [], _, _, _, hc => nomatch hc
  | n :: r, rows, h, c, hc => by
    rcases List.mem_cons.mp hc with rfl | hc
    · have h1 := ins_cell n rows 0
      have h2 := sz_len h
      show _ < sz rows + (r.length + 1) ∧ _ < sz rows + (r.length + 1)
      omega
    · have := cells_bound r _ (ins_ne n rows 0 h) c hc
      rw [ins_sz] at this
      show _ < sz rows + (r.length + 1) ∧ _ < sz rows + (r.length + 1)
      omega
theorem cells_len : ∀ (ns : List Int) (rows : List (List Int)), (cellsOf ns rows).length = ns.length
  | [], _ => rfl
  | n :: r, rows => congrArg (· + 1) (cells_len r _)
theorem cells_small {ns : List Int} (h : ns.length ≤ 8) : ∀ c ∈ cellsOf ns [], c.1 ≤ 7 ∧ c.2 ≤ 7 := fun c hc => by
  have := cells_bound ns [] (fun r hr => nomatch hr) c hc
  rw [show sz [] = 0 from rfl] at this
  omega
theorem cells_bd {ns : List Int} {cls : List CellO} (h : ns.length ≤ 8) (e : pairsOf cls = cellsOf ns []) : ∀ c ∈ cls, c.i ≤ 7 ∧ c.j ≤ 7 := fun c hc =>
  cells_small h (c.i, c.j) (by rw [← e]; exact List.mem_map.mpr ⟨c, hc, rfl⟩)
end Mine
open PySem PySem.W PySem.Calls PyProof.Rows PySem.SeqAt
set_option maxRecDepth 100000
namespace Mine
section
variable {prog : Program} {w : World} {A : Around} {E : Value → Shared → Prop} {s : Shared} {env : Env} {g : Heap} {L : Addr} {m : Str → Option Value} {news : List (Addr × Obj)} {Q : Flow → Shared → Prop}
/-- a loop over a list of pairs; the list stands in the ground, the pairs in the ledger -/
theorem for_pairs {x x₂ : Str} {px px₂ tp : Pos} {tk : Nat} {body : List Stmt} {ax : Addr} {its : List Value} (hh : A.handled = none) (hl : g.IsList ax its.toArray)
    (hL : env.locals = L) (hx : env.kindOf x = some .local) (hx₂ : env.kindOf x₂ = some .local) (hp : (env.scope.kind == .class || (env.scope.kind == .module && env.locals != env.globals)) = false)
    (F : Fr g L s.heap m) (N : News g L s.heap news)
    (J : Nat → (Str → Option Value) → List (Addr × Obj) → Prop) (h0 : J 0 m news)
    (turn : ∀ i v m₁ news₁, i < its.length → its[i]? = some v → J i m₁ news₁ → ∃ (t : Addr) (v₁ v₂ : Value), v = .ref t ∧ (t, pairObj v₁ v₂) ∈ news₁ ∧
      ∀ h tk I oI h₀, AllNe I news₁ → Fr g L h (fun y => if y = x₂ then some v₂ else if y = x then some v₁ else m₁ y) → News g L h ((I, oI) :: news₁) →
      wpAny (model prog w) A (execs body env) (Turn g L I oI { s with heap := h₀ } (J (i + 1)) Q) (fun _ _ => False) { s with heap := h, toks := tk })
    (done : ∀ h tk m' news', Fr g L h m' → News g L h news' → J its.length m' news' → Q .next { s with heap := h, toks := tk }) :
    ForSrc prog w A env (.Tuple [.Name x px, .Name x₂ px₂] tk tp) body Q (.ref ax) s := by
  subst hL
  have hls : s.heap.IsList ax its.toArray := hl.at fun o e => F.keep ax o e
  obtain ⟨ol, hol, _⟩ := id hl
  have hlt : ax < s.heap.objs.size := Heap.lt_size (F.keep _ _ hol)
  unfold ForSrc
  refine wpAny_pyIter_list hls ?_
  generalize hI : s.heap.objs.size = I
  have W := Walks.list (prog := prog) (w := w) hh I ax (Nat.ne_of_lt (hI ▸ hlt)) its.toArray
  have hsz : its.toArray.size = its.length := List.size_toArray ..
  have up : ∀ b o, s.heap.get? b = some o → (s.heap.push { cls := .type "list_iterator", data := .fields #[.ref ax, .int 0 0] }).get? b = some o := fun b o e => Heap.get?_push_of_some _ e
  have hIL : I ≠ env.locals := hI ▸ Nat.ne_of_gt F.ns.lt
  have hIg : g.get? I = none := hI ▸ next_is_new F
  have old : ∀ b o, g.get? b = some o → b ∉ [I] := fun b o e hb => by rw [List.mem_singleton.mp hb, hIg] at e; cases e
  have hLw : env.locals ∉ [I] := fun h => hIL (List.mem_singleton.mp h).symm
  refine codeAny_forLoop_any
    (fun k s' => ∃ h' tk m' news' i, s' = { s with heap := h', toks := tk } ∧ (h'.IsListIter I ax i ∧ h'.IsList ax its.toArray) ∧ Fr g env.locals h' m' ∧ News g env.locals h' news' ∧ (∀ p ∈ news', p.1 ≠ I) ∧ J i m' news' ∧ i ≤ its.length ∧ k = its.length + 1 - i) ?_ (its.length + 1)
    ⟨s.heap.push { cls := .type "list_iterator", data := .fields #[.ref ax, .int 0 0] }, s.toks, m, news, 0, rfl, ⟨⟨_, hI ▸ Heap.get?_push_size _ rfl, rfl, rfl⟩, hls.push _⟩, F.keeps up, N.grown up, fun p hp => hI ▸ Nat.ne_of_lt (Heap.lt_size (N p hp).1), h0, Nat.zero_le _, rfl⟩
  rintro k s' ⟨h', tk', m', news', i, rfl, hst', F', N', hnw', hJ, hi, rfl⟩
  have next : ∀ h₁ : Heap, (∀ b o, b ∉ [I] → h'.get? b = some o → h₁.get? b = some o) → Fr g env.locals h₁ m' ∧ News g env.locals h₁ news' := fun h₁ hk₁ =>
    ⟨⟨F'.ns.at' fun o e => hk₁ _ o hLw e, fun b o e => hk₁ b o (old b o e) (F'.keep b o e), F'.above⟩, fun p hp => ⟨hk₁ _ _ (fun q => hnw' p hp (List.mem_singleton.mp q)) (N' p hp).1, (N' p hp).2⟩⟩
  by_cases hlt' : i < its.length
  · refine W.item i _ _ _ (hsz ▸ hlt') hst' fun v h₁ tk₁ hP hst₁ hk₁ => ?_
    obtain ⟨F₁, N₁⟩ := next h₁ hk₁
    obtain ⟨t, v₁, v₂, rfl, hmt, T⟩ := turn i v m' news' hlt' (by simpa using hP) hJ
    have ht : IsTup h₁ t #[v₁, v₂] := ⟨_, (N₁ _ hmt).1, rfl, _, rfl⟩
    refine wpAny_letOwnedTupleGo_listiter hst₁.1 ?_
    refine assign_Tuple_tuple hh ht rfl rfl fun h₅ he => ?_
    have he' : ∀ b o, h₁.get? b = some o → h₅.get? b = some o := fun b o e => he b o (Nat.ne_of_lt (Heap.lt_size e)) e
    refine assignInOrder_cons (wpAny_assign_Name (wpAny_storeName_local hx (F₁.keeps he').ns (fun h₂ hn₂ hs₂ => ?_) hp))
    have F₂ := (F₁.keeps he').set hn₂ hs₂
    refine assignInOrder_cons (wpAny_assign_Name (wpAny_storeName_local hx₂ F₂.ns (fun h₃ hn₃ hs₃ => ?_) hp))
    have F₃ := F₂.set hn₃ hs₃
    refine assignInOrder_nil ?_
    obtain ⟨oI, hoI, hoI2⟩ := hst₁.1
    have hoI₃ : h₃.get? I = some oI := (hs₃.2 I hIL).trans ((hs₂.2 I hIL).trans (he' _ _ hoI))
    have N₃ : News g env.locals h₃ ((I, oI) :: news') := fun p hp => by
      rcases List.mem_cons.mp hp with rfl | hp
      · exact ⟨hoI₃, hIL, hIg⟩
      · exact ((N₁.grown he').set hs₂).set hs₃ p hp
    refine wpAny_mono (T h₃ _ I oI s.heap (.of hnw') F₃ N₃) (fun f s₃ h₃ => ?_) fun _ _ e => e.elim
    have fin : (∃ h₄ tk₄ m₂ news₂, s₃ = { s with heap := h₄, toks := tk₄ } ∧ Fr g env.locals h₄ m₂ ∧ News g env.locals h₄ ((I, oI) :: news₂) ∧ AllNe I news₂ ∧ J (i + 1) m₂ news₂) →
        ∃ m, m < its.length + 1 - i ∧ ∃ h' tk m' news' i, s₃ = { s with heap := h', toks := tk } ∧ (h'.IsListIter I ax i ∧ h'.IsList ax its.toArray) ∧ Fr g env.locals h' m' ∧ News g env.locals h' news' ∧ (∀ p ∈ news', p.1 ≠ I) ∧ J i m' news' ∧ i ≤ its.length ∧ m = its.length + 1 - i := by
      rintro ⟨h₄, tk₄, m₂, news₂, rfl, F₄, N₄, ho₄, hJ₄⟩
      exact ⟨its.length + 1 - (i + 1), by omega, h₄, tk₄, m₂, news₂, i + 1, rfl, ⟨⟨oI, (N₄ _ (.head _)).1, hoI2⟩, hl.at fun o e => F₄.keep ax o e⟩, F₄, fun p hp => N₄ p (.tail _ hp), ho₄.mem, hJ₄, hlt', rfl⟩
    cases f with
    | ret v => exact h₃
    | brk => exact h₃
    | next => exact fin h₃
    | cont => exact fin h₃
  · have hin : i = its.length := by omega
    subst hin
    refine W.done _ _ _ (by rw [hsz]; exact hst') fun h₁ tk₁ hk₁ => wpAny_execs_nil ?_
    obtain ⟨F₁, N₁⟩ := next h₁ hk₁
    exact done h₁ tk₁ m' news' F₁ N₁ hJ
end
section
variable {prog : Program} {w : World} {A : Around} {E : Value → Shared → Prop} {s : Shared} {h₀ : Heap} {L : Addr} {m : Str → Option Value} {env : Env}
/-- the turns of a comprehension over pairs, by an invariant -/
theorem compP_inv {elt : PySem.Expr} {x x₂ : Str} {scope : Scope} {cl : List (Str × Addr)} {S : List (Addr × Obj) → Prop} {P : Nat → Value → Prop} {Fin : List Value → List (Addr × Obj) → Prop} {n : Nat} (J : Nat → List Value → List (Addr × Obj) → Prop)
    (turn : ∀ i ys news, i < n → J i ys news → ∀ v, P i v → ∃ (t : Addr) (v₁ v₂ : Value), v = .ref t ∧ (t, pairObj v₁ v₂) ∈ news ∧
      ∀ I oI C oC D m₂ h tk (E' : Value → Shared → Prop), LCg.NsObj oC m₂ → m₂ x = some v₁ → m₂ x₂ = some v₂ → Fr h₀ L h m → News h₀ L h ((I, oI) :: (C, oC) :: (D, LCg.lst ys) :: news) → LCg.Off3 I C D news → ((@Ne Nat I C) ∧ (@Ne Nat I D) ∧ (@Ne Nat C D)) →
      wpAny (model prog w) A (eval elt (compEnvC scope cl C env)) (LCg.CompEnd h₀ L m { s with heap := h, toks := tk } I oI C oC D (LCg.lst ys) S (fun y news' => J (i + 1) (ys ++ [y]) news')) E' { s with heap := h, toks := tk })
    (fin : ∀ ys news, J n ys news → Fin ys news) {news : List (Addr × Obj)} (h0 : J 0 [] news) : LCp.CompRestP prog w A h₀ L m env elt x x₂ scope cl s S P Fin n 0 [] news := by
  have key : ∀ k i ys news, i + k = n → J i ys news → LCp.CompRestP prog w A h₀ L m env elt x x₂ scope cl s S P Fin k i ys news := by
    intro k
    induction k with
    | zero => intro i ys news hi hJ; obtain rfl : i = n := hi; exact fin ys news hJ
    | succ k ih =>
      intro i ys news hi hJ
      refine LCp.CompRestP.succ fun v hP => ?_
      obtain ⟨t, v₁, v₂, e, hm, T⟩ := turn i ys news (by omega) hJ v hP
      refine ⟨t, _, v₁, v₂, _, e, hm, rfl, rfl, fun I oI C oC D m₂ h tk E' hN hx hx₂ F N o3 hne => ?_⟩
      refine wpAny_mono (T I oI C oC D m₂ h tk E' hN hx hx₂ F N o3 hne) (fun y s₂ h₂ => ?_) fun _ _ e => e
      obtain ⟨h', tk', news', e, F', N', o', hS, hj⟩ := h₂
      exact ⟨h', tk', news', e, F', N', o', hS, ih (i + 1) _ _ (by omega) hj⟩
  exact key n 0 [] news (by omega) h0
end
end Mine
namespace Mine
/-- a comprehension that takes an int off each pair -/
structure PairJ (cls : List CellO) (f : CellO → Int) (news : List (Addr × Obj)) (i : Nat) (ys : List Value) (news' : List (Addr × Obj)) : Prop where
  e : news' = news
  hy : IntsAre ys ((cls.take i).map f)
theorem cell_at {cls : List CellO} {i : Nat} {v : Value} (h : (cellRefs cls)[i]? = some v) : ∃ c, cls[i]? = some c ∧ v = .ref c.a ∧ c.led ∈ cellsLed cls := by
  rw [List.getElem?_map] at h
  obtain ⟨c, hc, rfl⟩ := Option.map_eq_some_iff.mp h
  exact ⟨c, hc, rfl, List.mem_map_of_mem (List.mem_of_getElem? hc)⟩
theorem PairJ.next {cls : List CellO} {f : CellO → Int} {news : List (Addr × Obj)} {i : Nat} {ys : List Value} {news' : List (Addr × Obj)} {t : Tok} {c : CellO} (h : PairJ cls f news i ys news') (hc : cls[i]? = some c) : PairJ cls f news (i + 1) (ys ++ [.int (f c) t]) news' := by
  obtain ⟨hi, rfl⟩ := List.getElem?_eq_some_iff.mp hc
  refine ⟨h.e, ?_⟩
  rw [List.take_succ_eq_append_getElem hi, List.map_append]
  exact h.hy.append (.cons _ _ .nil)
end Mine
namespace Mine
theorem max_bd {cls : List CellO} {f : CellO → Nat} {M : Int} (h : M ∈ cls.map fun c => (f c : Int)) {b : Nat} (hb : ∀ c ∈ cls, f c ≤ b) : 0 ≤ M ∧ M ≤ b := by
  obtain ⟨c, hc, rfl⟩ := List.mem_map.mp h
  have := hb c hc
  omega
end Mine
namespace Mine
/-- the lead of a cell, as signs -/
noncomputable def leadP (pl : Bool) (H W RN rest : Int) (i j : Nat) : List Nat :=
  (if pl then List.replicate (i + rest.fmod 3).toNat 9 ++ List.replicate ((if 1 > H then 1 else H) * j).toNat 32
  else
    let ps := List.replicate ((if 1 > W then 1 else W) * i).toNat [9] ++ List.replicate j (List.replicate RN.toNat 32 ++ [9]) ++ [List.replicate (rest.fmod 3).toNat 32 ++ [9]]
    let t := ((rest + i + 2 * j).fmod ps.length).toNat
    (ps.drop t ++ ps.take t).flatten) ++ List.replicate ((rest.fdiv 6).fmod 2).toNat 32
end Mine
namespace Mine
theorem run_bd {H W RN rest : Int} (h0 : 0 ≤ H) (h1 : H ≤ 7) (h2 : 0 ≤ W) (h3 : W ≤ 7) (e : RN = (if 0 > H * W - 1 then 0 else H * W - 1) + (rest.fdiv 3).fmod 2) : 0 ≤ RN ∧ RN ≤ 50 := by
  have a := Int.fmod_nonneg_of_pos (rest.fdiv 3) (b := 2) (by decide)
  have b := Int.fmod_lt_of_pos (rest.fdiv 3) (b := 2) (by decide)
  have c : H * W ≤ 49 := by
    have := Int.mul_le_mul h1 h3 h2 (by decide)
    omega
  rw [e]
  split <;> omega
end Mine
namespace Mine
theorem mul_bd {a : Int} {b : Nat} (h0 : 0 ≤ a) (h1 : a ≤ 7) (hb : b ≤ 7) : 0 ≤ a * (b : Int) ∧ a * (b : Int) ≤ 49 := by
  have := Int.mul_le_mul h1 (show (b : Int) ≤ 7 by omega) (Int.natCast_nonneg b) (by decide)
  exact ⟨Int.mul_nonneg h0 (Int.natCast_nonneg b), by omega⟩
end Mine
namespace Mine
theorem strs_snoc {cls : List CellO} {f : CellO → Str} {i : Nat} {c : CellO} {ovs : List Value} {t : Tok} (ho : StrsAre ovs ((cls.take i).map f)) (hc : cls[i]? = some c) : StrsAre (ovs ++ [.str (f c) t]) ((cls.take (i + 1)).map f) := by
  obtain ⟨hi, rfl⟩ := List.getElem?_eq_some_iff.mp hc
  rw [List.take_succ_eq_append_getElem hi, List.map_append]
  exact ho.append' (.cons _ _ .nil)
end Mine
open PySem PySem.W PySem.Calls PyProof.Rows PySem.SeqAt
set_option maxRecDepth 100000
namespace Mine
theorem str_of_list {x : Str} {l : List Nat} (h : x.cps.toList = l) : x = S l := by
  obtain ⟨a⟩ := x
  show Str.mk a = Str.mk l.toArray
  rw [← h, Array.toArray_toList]
theorem mul_S (c : Nat) (k : Int) : Txt.mul (S [c]) k = S (List.replicate k.toNat c) := str_of_list (mul_one_list c k)
section
variable {prog : Program} {w : World} {A : Around} {E : Value → Shared → Prop} {s : Shared} {g : Heap} {L : Addr} {m : Str → Option Value} {news : List (Addr × Obj)}
theorem mulS {x : Str} {c : Nat} {k : Int} {t u : Tok} {Q : Value → Shared → Prop} (hx : x = S [c]) (h0 : 0 ≤ k) (h1 : k ≤ 1000) (h : ∀ t tk, Q (.str (S (List.replicate k.toNat c)) t) { s with toks := tk }) : wpAny (model prog w) A (binaryOp .Mult (.str x t) (.int k u)) Q E s := by
  subst hx
  refine KXi.mul (n := 1) rfl (by decide) (by omega) (by omega) fun t' tk _ _ => ?_
  rw [mul_S]
  exact h t' tk
theorem addS {a b : List Nat} {t u : Tok} {Q : Value → Shared → Prop} (hz : a.length + b.length ≤ 1000000) (h : ∀ t tk, Q (.str (S (a ++ b)) t) { s with toks := tk }) : wpAny (model prog w) A (binaryOp .Add (.str (S a) t) (.str (S b) u)) Q E s :=
  PyProof.Rows.add_str (fun t' tk => by rw [S_app]; exact h t' tk) (by rw [sizeLine_eq, S_len, S_len]; omega)
theorem iaddS {a b : List Nat} {t u : Tok} {Q : Value → Shared → Prop} (hz : a.length + b.length ≤ 1000000) (h : ∀ t tk, Q (.str (S (a ++ b)) t) { s with toks := tk }) : wpAny (model prog w) A (inplaceOp .Add (.str (S a) t) (.str (S b) u)) Q E s :=
  PyProof.Rows.iadd_str (fun t' tk => by rw [S_app]; exact h t' tk) (by rw [sizeLine_eq, S_len, S_len]; omega)
theorem mulV {l : Addr} {vs : List Value} {n : Nat} {k : Int} {u : Tok} {Q : Value → Shared → Prop} (F : Fr g L s.heap m) (N : News g L s.heap news) (hm : (l, listOf vs.toArray n) ∈ news) (h0 : 0 ≤ k) (h1 : k ≤ 1000) (hz : vs.length ≤ 1000)
    (h : ∀ D h', Fr g L h' m → News g L h' ((D, listOf (List.replicate k.toNat vs).flatten.toArray 0) :: news) → (∀ p ∈ news, p.1 < D) → Q (.ref D) { s with heap := h' }) : wpAny (model prog w) A (binaryOp .Mult (.ref l) (.int k u)) Q E s := by
  have hs : vs.length * k.toNat ≤ 2 ^ 24 := by
    have : vs.length * k.toNat ≤ 1000 * 1000 := Nat.mul_le_mul hz (by omega)
    omega
  refine PyProof.Rows.mul_list F N (N _ hm).1 (by omega) (by omega) (by rw [List.size_toArray]; exact hs) fun h' F' N' => ?_
  rw [listMul_foldl_if] at N'
  exact h _ h' F' N' fun p hp => Heap.lt_size (N p hp).1
theorem addV {l b : Addr} {vs ws : List Value} {n n' : Nat} {Q : Value → Shared → Prop} (F : Fr g L s.heap m) (N : News g L s.heap news) (hm : (l, listOf vs.toArray n) ∈ news) (hm' : (b, listOf ws.toArray n') ∈ news) (hz : vs.length + ws.length ≤ 1000000)
    (h : ∀ D h', Fr g L h' m → News g L h' ((D, listOf (vs ++ ws).toArray 0) :: news) → (∀ p ∈ news, p.1 < D) → Q (.ref D) { s with heap := h' }) : wpAny (model prog w) A (binaryOp .Add (.ref l) (.ref b)) Q E s :=
  PyProof.Rows.add_lists (hsz := by rw [sizeLine_eq]; omega) F N (News.isList N hm) (News.isList N hm') fun h' F' N' => h _ h' F' N' fun p hp => Heap.lt_size (N p hp).1
end
end Mine
namespace Mine
theorem join_S : ∀ ps : List (List Nat), Str.join (S []) (ps.map S) = S ps.flatten
  | [] => rfl
  | [p] => by simp [Str.join]
  | p :: q :: r => by
    rw [List.map_cons, List.map_cons, Str.join, ← List.map_cons, join_S (q :: r), S_app, S_app]
    · simp
    · simp
theorem sum_S (ps : List (List Nat)) : ((ps.map S).map (·.length)).sum = ps.flatten.length := by
  induction ps with
  | nil => rfl
  | cons p r ih => simp only [List.map_cons, List.sum_cons, List.flatten_cons, List.length_append, ih, S_len]
section
variable {prog : Program} {w : World} {A : Around} {E : Value → Shared → Prop} {s : Shared} {g : Heap} {L : Addr} {m : Str → Option Value} {news : List (Addr × Obj)}
theorem joinS {l : Addr} {vs : List Value} {n : Nat} {x : Str} {t : Tok} {ps : List (List Nat)} {Q : Value → Shared → Prop} (N : News g L s.heap news) (hm : (l, listOf vs.toArray n) ∈ news) (hx : x = S []) (hi : StrsAre vs (ps.map S)) (hz : ps.flatten.length ≤ 1000000) (h : ∀ t tk, Q (.str (S ps.flatten) t) { s with toks := tk }) :
    wpAny (model prog w) A (call (.builtin "str.join") [.str x t, .ref l]) Q E s := by
  subst hx
  refine PyProof.Rows.join_list (News.isList N hm) hi ?_ fun t' tk => ?_
  · rw [sum_S, show (S []).length = 0 from rfl]; omega
  · rw [show Txt.join (S []) (ps.map S) = S ps.flatten from (PySem.StrLaws.glued_eq_join _ _).trans (join_S ps)]
    exact h t' tk
theorem sliceFrom {l : Addr} {vs : List Value} {n : Nat} {k : Int} {u : Tok} {value slice : PySem.Expr} {Q : Value → Shared → Prop} (F : Fr g L s.heap m) (N : News g L s.heap news) (hm : (l, listOf vs.toArray n) ∈ news) (h0 : 0 ≤ k) (h1 : k ≤ vs.length) (hz : vs.length ≤ 1000000)
    (h : ∀ D h', Fr g L h' m → News g L h' ((D, listOf (vs.drop k.toNat).toArray 0) :: news) → (∀ p ∈ news, p.1 < D) → Q (.ref D) { s with heap := h' })
    (hs : subscripted slice false (.ref l) (.ref s.heap.objs.size) = operate [.ref s.heap.objs.size, .ref l] (getItem (.ref l) (.ref s.heap.objs.size)) := by with_unfolding_all rfl) (ht : ∀ r, letTemporaryGo value (.ref l) r = pure () := by intro _; with_unfolding_all rfl) :
    wpAny (model prog w) A (subscriptTail value slice (.ref l) (.ref s.heap.objs.size)) Q E { s with heap := s.heap.push { cls := .type "slice", data := .fields #[.int k u, .none, .none] } } := by
  refine slice_list (hsz := by rw [sizeLine_eq, List.size_toArray]; omega) F N (News.isList N hm) (.int _ _) .none (fun h' F' N' => ?_) hs ht
  obtain ⟨a, rfl⟩ := Int.eq_ofNat_of_zero_le h0
  rw [slicePick_from _ _ (by rw [List.size_toArray]; omega)] at N'
  exact h _ h' F' N' fun p hp => Nat.lt_succ_of_lt (Heap.lt_size (N p hp).1)
theorem sliceUpto {l : Addr} {vs : List Value} {n : Nat} {k : Int} {u : Tok} {value slice : PySem.Expr} {Q : Value → Shared → Prop} (F : Fr g L s.heap m) (N : News g L s.heap news) (hm : (l, listOf vs.toArray n) ∈ news) (h0 : 0 ≤ k) (h1 : k ≤ vs.length) (hz : vs.length ≤ 1000000)
    (h : ∀ D h', Fr g L h' m → News g L h' ((D, listOf (vs.take k.toNat).toArray 0) :: news) → (∀ p ∈ news, p.1 < D) → Q (.ref D) { s with heap := h' })
    (hs : subscripted slice false (.ref l) (.ref s.heap.objs.size) = operate [.ref s.heap.objs.size, .ref l] (getItem (.ref l) (.ref s.heap.objs.size)) := by with_unfolding_all rfl) (ht : ∀ r, letTemporaryGo value (.ref l) r = pure () := by intro _; with_unfolding_all rfl) :
    wpAny (model prog w) A (subscriptTail value slice (.ref l) (.ref s.heap.objs.size)) Q E { s with heap := s.heap.push { cls := .type "slice", data := .fields #[.none, .int k u, .none] } } := by
  refine slice_list (hsz := by rw [sizeLine_eq, List.size_toArray]; omega) F N (News.isList N hm) .none (.int _ _) (fun h' F' N' => ?_) hs ht
  obtain ⟨a, rfl⟩ := Int.eq_ofNat_of_zero_le h0
  rw [slicePick_upto _ _ (by rw [List.size_toArray]; omega)] at N'
  exact h _ h' F' N' fun p hp => Nat.lt_succ_of_lt (Heap.lt_size (N p hp).1)
end
end Mine
namespace Mine
section
variable {prog : Program} {w : World} {A : Around} {E : Value → Shared → Prop} {s : Shared} {g : Heap} {L : Addr} {m : Str → Option Value} {news : List (Addr × Obj)}
theorem mulV1 {l : Addr} {v : Value} {n : Nat} {k : Int} {u : Tok} {Q : Value → Shared → Prop} (F : Fr g L s.heap m) (N : News g L s.heap news) (hm : (l, listOf [v].toArray n) ∈ news) (h0 : 0 ≤ k) (h1 : k ≤ 1000)
    (h : ∀ D h', Fr g L h' m → News g L h' ((D, listOf (List.replicate k.toNat v).toArray 0) :: news) → (∀ p ∈ news, p.1 < D) → Q (.ref D) { s with heap := h' }) : wpAny (model prog w) A (binaryOp .Mult (.ref l) (.int k u)) Q E s :=
  mulV F N hm h0 h1 (by simp) fun D h' F' N' l1 => h D h' F' (by rw [flat_rep] at N'; exact N') l1
end
end Mine
namespace Mine
section
variable {prog : Program} {w : World} {A : Around} {E : Value → Shared → Prop} {s : Shared}
theorem addSr {a b : List Nat} {y : Str} {t u : Tok} {Q : Value → Shared → Prop} (hy : y = S b) (hz : a.length + b.length ≤ 1000000) (h : ∀ t tk, Q (.str (S (a ++ b)) t) { s with toks := tk }) : wpAny (model prog w) A (binaryOp .Add (.str (S a) t) (.str y u)) Q E s := by
  subst hy; exact addS hz h
end
end Mine
namespace Mine
section
variable {prog : Program} {w : World} {A : Around} {E : Value → Shared → Prop} {s : Shared} {g : Heap} {L : Addr} {news : List (Addr × Obj)}
theorem lenP {l : Addr} {vs : List Value} {n : Nat} {Q : Value → Shared → Prop} (N : News g L s.heap news) (hm : (l, listOf vs.toArray n) ∈ news) (hp : 0 < vs.length) (hz : vs.length ≤ 1000000)
    (h : ∀ t tk, 0 < (vs.length : Int) → Q (.int vs.length t) { s with toks := tk }) : wpAny (model prog w) A (call (.builtin "len") [.ref l]) Q E s := lenV N hm hz fun t tk => h t tk (by omega)
end
end Mine
namespace Mine
theorem strs_rep {x : Str} {t : Tok} : ∀ k : Nat, StrsAre (List.replicate k (.str x t)) (List.replicate k x)
  | 0 => .nil
  | k + 1 => .cons _ _ (strs_rep k)
theorem pieces_are {a b : Nat} {x y : List Nat} {z : Str} {t1 t2 t3 : Tok} (hz : z = S [9]) (k : Nat) :
    StrsAre ((List.replicate a (Value.str z t1) ++ List.replicate b (Value.str (S x) t2) ++ [Value.str (S y) t3]).drop k ++ (List.replicate a (Value.str z t1) ++ List.replicate b (Value.str (S x) t2) ++ [Value.str (S y) t3]).take k)
      (((List.replicate a [9] ++ List.replicate b x ++ [y]).drop k ++ (List.replicate a [9] ++ List.replicate b x ++ [y]).take k).map S) := by
  subst hz
  have h : StrsAre (List.replicate a (Value.str (S [9]) t1) ++ List.replicate b (Value.str (S x) t2) ++ [Value.str (S y) t3]) ((List.replicate a [9] ++ List.replicate b x ++ [y]).map S) := by
    rw [List.map_append, List.map_append, List.map_replicate, List.map_replicate]
    exact ((strs_rep a).append' (strs_rep b)).append' (.cons _ _ .nil)
  rw [List.map_append, List.map_drop, List.map_take]
  exact (StrsAre.drop' h k).append' (StrsAre.take' h k)
theorem rot_len (ps : List (List Nat)) (k : Nat) : (ps.drop k ++ ps.take k).flatten.length = ps.flatten.length := by
  rw [List.flatten_append, List.length_append, Nat.add_comm, ← List.length_append, ← List.flatten_append, List.take_append_drop]
theorem pieces_len (a b : Nat) (x y : List Nat) : (List.replicate a [9] ++ List.replicate b x ++ [y]).flatten.length = a + b * x.length + y.length := by
  simp; omega
end Mine
namespace Mine
theorem pieces_short {a b k : Nat} {x y : List Nat} (ha : a ≤ 49) (hb : b ≤ 7) (hx : x.length ≤ 51) (hy : y.length ≤ 3) :
    ((List.replicate a [9] ++ List.replicate b x ++ [y]).drop k ++ (List.replicate a [9] ++ List.replicate b x ++ [y]).take k).flatten.length ≤ 1000 := by
  rw [rot_len, pieces_len]
  have : b * x.length ≤ 7 * 51 := Nat.mul_le_mul hb hx
  omega
theorem leadP_false {H W RN rest : Int} {i j n : Nat} (hn : n = ((if 1 > W then 1 else W) * i).toNat + j + 1) :
    leadP false H W RN rest i j =
      ((List.replicate ((if 1 > W then 1 else W) * i).toNat [9] ++ List.replicate (j : Int).toNat (List.replicate RN.toNat 32 ++ [9]) ++ [List.replicate (rest.fmod 3).toNat 32 ++ [9]]).drop ((rest + i + 2 * j).fmod n).toNat ++
        (List.replicate ((if 1 > W then 1 else W) * i).toNat [9] ++ List.replicate (j : Int).toNat (List.replicate RN.toNat 32 ++ [9]) ++ [List.replicate (rest.fmod 3).toNat 32 ++ [9]]).take ((rest + i + 2 * j).fmod n).toNat).flatten ++ List.replicate ((rest.fdiv 6).fmod 2).toNat 32 := by
  have e : (List.replicate ((if 1 > W then 1 else W) * i).toNat [9] ++ List.replicate j (List.replicate RN.toNat 32 ++ [9]) ++ [List.replicate (rest.fmod 3).toNat 32 ++ [9]]).length = n := by
    rw [hn]; simp only [List.length_append, List.length_replicate, List.length_cons, List.length_nil]
  simp only [leadP, e, Int.toNat_natCast, Bool.false_eq_true, if_false]
end Mine
namespace Mine
theorem joinX {prog : Program} {w : World} {A : Around} {E : Value → Shared → Prop} {s : Shared} {g : Heap} {L : Addr} {news : List (Addr × Obj)} {l : Addr} {vs : List Value} {n : Nat} {x : Str} {t : Tok} {ps : List (List Nat)} {Q : Value → Shared → Prop} (N : News g L s.heap news) (hm : (l, listOf vs.toArray n) ∈ news) (hx : x = S []) (hi : StrsAre vs (ps.map S)) (hz : ps.flatten.length ≤ 1000)
    (h : ∀ t tk X, X = ps.flatten → X.length ≤ 1000 → Q (.str (S X) t) { s with toks := tk }) : wpAny (model prog w) A (call (.builtin "str.join") [.str x t, .ref l]) Q E s :=
  joinS N hm hx hi (Nat.le_trans hz (by decide)) fun t tk => h t tk _ rfl hz
end Mine
open PySem PySem.W PySem.Calls PyProof.Rows PySem.SeqAt
set_option maxRecDepth 100000
namespace Mine
theorem lit0 : Str.ofString "" = S [] := by decide +kernel
theorem lit34 : Str.ofString "\"" = S [34] := by decide +kernel
theorem lit92 : Str.ofString "\\" = S [92] := by decide +kernel
theorem lit32 : Str.ofString " " = S [32] := by decide +kernel
theorem lit10 : Str.ofString "\n" = S [10] := by decide +kernel
theorem lit910 : Str.ofString "\t\n" = S [9, 10] := by decide +kernel
section
variable {prog : Program} {w : World} {A : Around} {E : Value → Shared → Prop} {s : Shared} {g : Heap} {L : Addr} {m : Str → Option Value} {news : List (Addr × Obj)}
theorem addG {a b : List Nat} {x y : Str} {t u : Tok} {Q : Value → Shared → Prop} (hx : x = S a) (hy : y = S b) (hz : a.length + b.length ≤ 1000000) (h : ∀ t tk, Q (.str (S (a ++ b)) t) { s with toks := tk }) : wpAny (model prog w) A (binaryOp .Add (.str x t) (.str y u)) Q E s := by
  subst hx hy; exact addS hz h
theorem iaddG {a b : List Nat} {x y : Str} {t u : Tok} {Q : Value → Shared → Prop} (hx : x = S a) (hy : y = S b) (hz : a.length + b.length ≤ 1000000) (h : ∀ t tk, Q (.str (S (a ++ b)) t) { s with toks := tk }) : wpAny (model prog w) A (inplaceOp .Add (.str x t) (.str y u)) Q E s := by
  subst hx hy; exact iaddS hz h
theorem itemG {l : Addr} {vs : List Value} {k : Int} {u : Tok} {v : Value} {value slice : PySem.Expr} {Q : Value → Shared → Prop} (F : Fr g L s.heap m) (hl : g.IsList l vs.toArray) (h0 : 0 ≤ k) (hk : k < 1000000) (hx : vs[k.toNat]? = some v) (h : Q v s)
    (hs : subscripted slice false (.ref l) (.int k u) = operate [.ref l, .int k u] (getItem (.ref l) (.int k u)) := by with_unfolding_all rfl) (hg : ∀ r, letTemporaryGo value (.ref l) r = pure () := by intro _; with_unfolding_all rfl) :
    wpAny (model prog w) A (subscriptTail value slice (.ref l) (.int k u)) Q E s :=
  have hl := F.lst hl
  subscriptTail_builtin hl.typeIs slot_list_getitem.lookup (wpAny_getItem_list hl h0 (by omega) (by simpa using hx) h) hs hg
end
/-- a word as _law_written writes it -/
noncomputable def sepP (k : Int) : List Nat := if k = 0 then [32] else if k = 1 then [10] else [9, 10]
noncomputable def chunkP (f : Int) (k : Nat) (x : List Nat) : List Nat :=
  let kind := (f + k).fmod 3
  let mark := if kind = 1 then [] else [34]
  (mark ++ (if kind = 0 then x else (x.map fun c => [92, c]).flatten) ++ mark) ++ sepP ((f.fdiv 3 + k).fmod 3)
noncomputable def writtenP (fs : List Int) (ws : List (List Nat)) : Nat → List Nat
  | 0 => []
  | i + 1 => writtenP fs ws i ++ chunkP (fs.getD i 0) i (ws.getD i [])
theorem chunk_len (f : Int) (k : Nat) (x : List Nat) : (chunkP f k x).length ≤ 2 * x.length + 4 := by
  have e : ((x.map fun c => [92, c]).flatten).length = 2 * x.length := by
    induction x with
    | nil => rfl
    | cons a r ih => simp only [List.map_cons, List.flatten_cons, List.length_append, ih, List.length_cons, List.length_nil]; omega
  have e2 : (sepP ((f.fdiv 3 + k).fmod 3)).length ≤ 2 := by unfold sepP; split <;> (try split) <;> simp
  unfold chunkP
  simp only [List.length_append]
  split <;> split <;> simp only [List.length_nil, List.length_cons, e] <;> omega
theorem words_at {ws : List (List Nat)} {vs : List Value} (h : StrsAre vs (ws.map S)) {i : Nat} (hi : i < ws.length) : ∃ t, vs[i]? = some (.str (S (ws.getD i [])) t) := by
  have hl := h.len_eq
  rw [List.length_map] at hl
  obtain ⟨u, tu, e, hu⟩ := StrsAre.item h i vs[i] (List.getElem?_eq_getElem (by omega))
  rw [List.getElem?_map, List.getElem?_eq_getElem hi] at hu
  refine ⟨tu, ?_⟩
  rw [List.getElem?_eq_getElem (by omega), e]
  have : S (ws[i]) = u := by simpa using hu
  rw [← this]
  simp [List.getD, hi]
end Mine
namespace Mine
theorem lenG {prog : Program} {w : World} {A : Around} {E : Value → Shared → Prop} {s : Shared} {g : Heap} {L : Addr} {m : Str → Option Value} {l : Addr} {vs : List Value} {Q : Value → Shared → Prop} (F : Fr g L s.heap m) (hl : g.IsList l vs.toArray) (hz : vs.length ≤ 1000000)
    (h : ∀ t tk, Q (.int vs.length t) { s with toks := tk }) : wpAny (model prog w) A (call (.builtin "len") [.ref l]) Q E s := by
  refine PyProof.Rows.len_list (F.lst hl) (by simp; omega) ?_
  rw [show ((vs.toArray.size : Nat) : Int) = (vs.length : Int) by simp]
  exact h _ _
theorem chunk0 {f : Int} {k : Nat} {x : List Nat} (h : (f + k).fmod 3 = 0) : chunkP f k x = ([34] ++ x ++ [34]) ++ sepP ((f.fdiv 3 + k).fmod 3) := by simp [chunkP, h]
theorem chunk1 {f : Int} {k : Nat} {x : List Nat} (h : (f + k).fmod 3 = 1) : chunkP f k x = ([] ++ (x.map fun c => [92, c]).flatten ++ []) ++ sepP ((f.fdiv 3 + k).fmod 3) := by simp [chunkP, h]
theorem chunk2 {f : Int} {k : Nat} {x : List Nat} (h0 : (f + k).fmod 3 ≠ 0) (h1 : (f + k).fmod 3 ≠ 1) : chunkP f k x = ([34] ++ (x.map fun c => [92, c]).flatten ++ [34]) ++ sepP ((f.fdiv 3 + k).fmod 3) := by simp [chunkP, h0, h1]
end Mine
namespace Mine
section
variable {fs : List Int} {ws : List (List Nat)} {i : Nat} {X1 sp : List Nat} {e : Int}
theorem wr_next (hX : X1 = writtenP fs ws i) (hz : X1.length ≤ 3000 * i) (hw : (ws.getD i []).length ≤ 1200) {Y : List Nat} (hY : Y = chunkP (fs.getD i 0) i (ws.getD i [])) : (X1 ++ Y) = writtenP fs ws (i + 1) ∧ (X1 ++ Y).length ≤ 3000 * (i + 1) := by
  have := chunk_len (fs.getD i 0) i (ws.getD i [])
  refine ⟨by rw [hX, hY]; rfl, ?_⟩
  rw [List.length_append, hY]
  omega
theorem wr0 (hX : X1 = writtenP fs ws i) (hz : X1.length ≤ 3000 * i) (hw : (ws.getD i []).length ≤ 1200) (hk : (fs.getD (0 + (i : Int)).toNat 0 + (0 + (i : Int))).fmod 3 = 0) (he : ((fs.getD (0 + (i : Int)).toNat 0).fdiv 3 + (0 + (i : Int))).fmod 3 = e) (hs : sepP e = sp) :
    (X1 ++ ([34] ++ ws.getD i [] ++ [34] ++ sp)) = writtenP fs ws (i + 1) ∧ (X1 ++ ([34] ++ ws.getD i [] ++ [34] ++ sp)).length ≤ 3000 * (i + 1) := by
  simp only [Int.zero_add, Int.toNat_natCast] at hk he
  exact wr_next hX hz hw (by rw [chunk0 hk, he, hs])
theorem wr1 {B : List Nat} (hX : X1 = writtenP fs ws i) (hz : X1.length ≤ 3000 * i) (hw : (ws.getD i []).length ≤ 1200) (hB : B = ((ws.getD i []).map fun c => [92, c]).flatten) (hk : (fs.getD (0 + (i : Int)).toNat 0 + (0 + (i : Int))).fmod 3 = 1) (he : ((fs.getD (0 + (i : Int)).toNat 0).fdiv 3 + (0 + (i : Int))).fmod 3 = e) (hs : sepP e = sp) :
    (X1 ++ ([] ++ B ++ [] ++ sp)) = writtenP fs ws (i + 1) ∧ (X1 ++ ([] ++ B ++ [] ++ sp)).length ≤ 3000 * (i + 1) := by
  simp only [Int.zero_add, Int.toNat_natCast] at hk he
  exact wr_next hX hz hw (by rw [chunk1 hk, he, hs, hB])
theorem wr2 {B : List Nat} (hX : X1 = writtenP fs ws i) (hz : X1.length ≤ 3000 * i) (hw : (ws.getD i []).length ≤ 1200) (hB : B = ((ws.getD i []).map fun c => [92, c]).flatten) (hk0 : (fs.getD (0 + (i : Int)).toNat 0 + (0 + (i : Int))).fmod 3 ≠ 0) (hk : (fs.getD (0 + (i : Int)).toNat 0 + (0 + (i : Int))).fmod 3 ≠ 1) (he : ((fs.getD (0 + (i : Int)).toNat 0).fdiv 3 + (0 + (i : Int))).fmod 3 = e) (hs : sepP e = sp) :
    (X1 ++ ([34] ++ B ++ [34] ++ sp)) = writtenP fs ws (i + 1) ∧ (X1 ++ ([34] ++ B ++ [34] ++ sp)).length ≤ 3000 * (i + 1) := by
  simp only [Int.zero_add, Int.toNat_natCast] at hk0 hk he
  exact wr_next hX hz hw (by rw [chunk2 hk0 hk, he, hs, hB])
end
/-- the signs of a word, each behind a backslash -/
structure EscJ (x : List Nat) (news : List (Addr × Obj)) (i : Nat) (ys : List Value) (news' : List (Addr × Obj)) : Prop where
  e : news' = news
  hy : StrsAre ys (((x.take i).map fun c => [92, c]).map S)
theorem EscJ.next {x : List Nat} {news : List (Addr × Obj)} {i c : Nat} {ys : List Value} {news' : List (Addr × Obj)} {t : Tok} (h : EscJ x news i ys news') (hc : (S x).cps[i]? = some c) : EscJ x news (i + 1) (ys ++ [.str (S ([92] ++ [c])) t]) news' := by
  have hc' : x[i]? = some c := by simpa using hc
  obtain ⟨hi, rfl⟩ := List.getElem?_eq_some_iff.mp hc'
  refine ⟨h.e, ?_⟩
  rw [List.take_succ_eq_append_getElem hi, List.map_append, List.map_append]
  exact h.hy.append' (.cons _ _ .nil)
theorem esc_len (x : List Nat) : ((x.map fun c => [92, c]).flatten).length = 2 * x.length := by
  induction x with
  | nil => rfl
  | cons a r ih => simp only [List.map_cons, List.flatten_cons, List.length_append, ih, List.length_cons, List.length_nil]; omega
theorem joinY {prog : Program} {w : World} {A : Around} {E : Value → Shared → Prop} {s : Shared} {g : Heap} {L : Addr} {news : List (Addr × Obj)} {l : Addr} {vs : List Value} {n : Nat} {x : Str} {t : Tok} {ps : List (List Nat)} {Q : Value → Shared → Prop} (N : News g L s.heap news) (hm : (l, listOf vs.toArray n) ∈ news) (hx : x = S []) (hi : StrsAre vs (ps.map S)) (hz : ps.flatten.length ≤ 3000)
    (h : ∀ t tk X, X = ps.flatten → X.length ≤ 3000 → Q (.str (S X) t) { s with toks := tk }) : wpAny (model prog w) A (call (.builtin "str.join") [.str x t, .ref l]) Q E s :=
  joinS N hm hx hi (Nat.le_trans hz (by decide)) fun t tk => h t tk _ rfl hz
end Mine
namespace Mine
theorem ListComp_SF {prog : Program} {w : World} {A : Around} {E : Value → Shared → Prop} {s : Shared} {h₀ : Heap} {L : Addr} {m : Str → Option Value} {env : Env} {elt iter : PySem.Expr} {x : Str} {px : Pos} {scope : Scope} {cl : List (Str × Addr)} {pos : Pos} {Q : Value → Shared → Prop} (_F₀ : Fr h₀ L s.heap m)
    (hclos : closureFor scope env = pure cl) (hcell : ∀ y ∈ scope.names, y.2 ≠ .cell) (hkind : scope.kind = .function)
    (hnames : ∀ y ∈ scope.names, y.2 = .local → scope.names.lookup y.1 = some .local) (hx : scope.names.lookup x = some .local) (hh : A.handled = none)
    (h : wpAny (model prog w) A (eval iter env) (fun xv s₁ => Hold (∃ u tu news, xv = .str u tu ∧ Fr h₀ L s₁.heap m ∧ News h₀ L s₁.heap news ∧ u.cps.size ≤ sizeLine ∧
      ∀ g, LCg.CompRest prog w A h₀ L m env elt x scope cl { s₁ with heap := g } (fun _ => True) (fun i v => ∃ c t, u.cps[i]? = some c ∧ v = .str ⟨#[c]⟩ t) (LCg.FinE h₀ L m { s₁ with heap := g } Q) u.cps.size 0 [] news)) E s)
    (hs : ∀ x, foldedSetIterable iter env x = pure x := by intro _; rfl) :
    wpAny (model prog w) A (eval (.ListComp elt [⟨.Name x px, iter, [], 0⟩] scope pos) env) Q E s :=
  ListComp_S hclos hcell hkind hnames hx hh h hs
end Mine
open PySem PySem.W PySem.Calls PyProof.Rows PySem.SeqAt
set_option maxRecDepth 100000
namespace Mine
theorem count_is (a : Int) : ∃ n : Nat, 6 + 2 * a.fmod 2 = (n : Int) ∧ (n = 6 ∨ n = 8) := by
  have h0 := Int.fmod_nonneg_of_pos a (b := 2) (by decide)
  have h1 := Int.fmod_lt_of_pos a (b := 2) (by decide)
  rcases (show a.fmod 2 = 0 ∨ a.fmod 2 = 1 by omega) with h | h
  · exact ⟨6, by rw [h]; rfl, .inl rfl⟩
  · exact ⟨8, by rw [h]; rfl, .inr rfl⟩
/-- the figures of a script, as far as they are made -/
structure FigJ (news : List (Addr × Obj)) (i : Nat) (ys : List Value) (news' : List (Addr × Obj)) : Prop where
  e : news' = news
  hy : ∃ fs : List Int, IntsAre ys fs ∧ fs.length = i ∧ ∀ f ∈ fs, 0 ≤ f ∧ f < 2520
theorem FigJ.next {news : List (Addr × Obj)} {i : Nat} {ys : List Value} {news' : List (Addr × Obj)} {a : Int} {t : Tok} (h : FigJ news i ys news') : FigJ news (i + 1) (ys ++ [.int (a.fmod 2520) t]) news' := by
  obtain ⟨fs, h1, h2, h3⟩ := h.hy
  refine ⟨h.e, fs ++ [a.fmod 2520], h1.append (.cons _ _ .nil), by rw [List.length_append, h2]; rfl, fun f hf => ?_⟩
  rcases List.mem_append.mp hf with hf | hf
  · exact h3 f hf
  · cases List.mem_singleton.mp hf
    exact ⟨Int.fmod_nonneg_of_pos _ (by decide), Int.fmod_lt_of_pos _ (by decide)⟩
end Mine
namespace Mine
theorem ints_of_all : ∀ {l : List Value}, (∀ x ∈ l, ∃ k t, x = Value.int k t) → ∃ ms, IntsAre l ms
  | [], _ => ⟨[], .nil⟩
  | x :: r, h => by
    obtain ⟨k, t, rfl⟩ := h x (.head _)
    obtain ⟨ms, hm⟩ := ints_of_all fun y hy => h y (.tail _ hy)
    exact ⟨k :: ms, .cons k t hm⟩
theorem ints_all {vs : List Value} {ns : List Int} (h : IntsAre vs ns) : ∀ x ∈ vs, ∃ k t, x = Value.int k t := by
  induction h with
  | nil => intro x hx; cases hx
  | cons k t r ih =>
    intro x hx
    rcases List.mem_cons.mp hx with rfl | hx
    · exact ⟨k, t, rfl⟩
    · exact ih x hx
theorem pick_ints {vs : List Value} {ns : List Int} {lo hi st : Option Int} (h : IntsAre vs ns) : ∃ ms, IntsAre (slicePick vs.toArray lo hi st).toList ms := by
  refine ints_of_all fun x hx => ?_
  unfold slicePick at hx
  rw [List.toList_toArray] at hx
  obtain ⟨i, -, e⟩ := List.mem_filterMap.mp hx
  exact ints_all h x (by simpa using Array.mem_of_getElem? e)
section
variable {prog : Program} {w : World} {A : Around} {E : Value → Shared → Prop} {s : Shared} {g : Heap} {L : Addr} {m : Str → Option Value} {news : List (Addr × Obj)}
theorem sumPick {l : Addr} {vs : List Value} {ns : List Int} {lo hi st : Option Int} {Q : Value → Shared → Prop} (F : Fr g L s.heap m) (N : News g L s.heap news) (hh : A.handled = none) (hm : (l, listOf (slicePick vs.toArray lo hi st) 0) ∈ news) (hi' : IntsAre vs ns)
    (h : ∀ h' t tk X, Fr g L h' m → News g L h' news → Q (.int X t) { s with heap := h', toks := tk }) : wpAny (model prog w) A (call (.builtin "sum") [.ref l]) Q E s := by
  obtain ⟨ms, hms⟩ := pick_ints (lo := lo) (hi := hi) (st := st) hi'
  have hl : s.heap.IsList l (slicePick vs.toArray lo hi st).toList.toArray := by rw [Array.toArray_toList]; exact ⟨_, (N _ hm).1, rfl, _, rfl⟩
  exact PyProof.Rows.LSm.sum_ints F N hh hl hms fun h' tk t' F' N' => h h' t' tk _ F' N'
end
end Mine
namespace Mine
theorem cell_count {o : Obj} {a : Int} {t : Tok} (h : o.data = .cell (some (.int (6 + 2 * a.fmod 2) t))) : ∃ n : Nat, (n = 6 ∨ n = 8) ∧ o.data = .cell (some (.int n t)) := by
  obtain ⟨n, e, h2⟩ := count_is a
  exact ⟨n, h2, by rw [← e]; exact h⟩
end Mine
namespace Mine
theorem Ends.allNe {h h' : Heap} {x : Addr × Obj} {l news : List (Addr × Obj)} {g : Heap} {L : Addr} (E : Ends h h' [] (x :: l)) (N : News g L h news) {p : Addr × Obj} (hp : p ∈ news) : AllNe p.1 l := .of fun _ hq => E.ne (.tail _ hq) (by simp) (N p hp).1
theorem News.swap {g h : Heap} {L : Addr} {x : Addr × Obj} {l r : List (Addr × Obj)} (N : News g L h (x :: (l ++ r))) : News g L h (x :: (r ++ l)) := news_sub N fun p hp => by
  rcases List.mem_cons.mp hp with hp | hp
  · exact hp ▸ .head _
  · rcases List.mem_append.mp hp with hp | hp
    · exact .tail _ (List.mem_append_right _ hp)
    · exact .tail _ (List.mem_append_left _ hp)
end Mine
namespace Mine
theorem ne_cell {g h : Heap} {L a b : Addr} {o o' : Obj} {v : Option Value} {news : List (Addr × Obj)} (N : News g L h news) (hp : (a, o) ∈ news) (hq : (b, o') ∈ news) (hd : o'.data = .cell v) (hn : ∀ v, o.data ≠ .cell v) : a ≠ b := fun q => by
  have h1 := (N _ hp).1
  have h2 := (N _ hq).1
  dsimp only at h1 h2
  rw [q, h2] at h1
  cases h1
  exact hn _ hd
end Mine
namespace Mine
theorem AllOff.of {rest : List (Addr × Obj)} : ∀ {M : List Addr}, (∀ p ∈ rest, p.1 ∉ M) → AllOff rest M
  | [], _ => trivial
  | _ :: _, h => ⟨.of fun p hp q => h p hp (q ▸ .head _), .of fun p hp q => h p hp (.tail _ q)⟩
/-- no object of the ledger is a pair -/
noncomputable def NoPair : List (Addr × Obj) → Prop
  | [] => True
  | p :: r => (∀ u v, p.2 ≠ pairObj u v) ∧ NoPair r
theorem NoPair.mem : ∀ {l : List (Addr × Obj)}, NoPair l → ∀ p ∈ l, ∀ u v, p.2 ≠ pairObj u v
  | [], _, _, h => nomatch h
  | _ :: _, x, p, h => by
    rcases List.mem_cons.mp h with rfl | h
    · exact x.1
    · exact NoPair.mem x.2 p h
theorem nopair_cell {o : Obj} {v : Option Value} (h : o.data = .cell v) : ∀ u v, o ≠ pairObj u v := fun u v e => by rw [e] at h; cases h
theorem cells_off {g h : Heap} {L : Addr} {cs : List CellO} {rest : List (Addr × Obj)} (N : News g L h (cellsLed cs ++ rest)) (hr : NoPair rest) : AllOff rest ((cellsLed cs).map (·.1)) := .of fun p hp q => by
  obtain ⟨c, hc, e⟩ := List.mem_map.mp q
  obtain ⟨k, -, rfl⟩ := List.mem_map.mp hc
  have h1 := (N _ (List.mem_append_left _ hc)).1
  have h2 := (N _ (List.mem_append_right _ hp)).1
  rw [e, h2] at h1
  exact hr.mem p hp _ _ (Option.some.inj h1)
theorem News.turn {g h : Heap} {L : Addr} {l : List (Addr × Obj)} (k : Nat) (N : News g L h l) : News g L h (l.drop k ++ l.take k) := news_sub N fun p hp => by
  rcases List.mem_append.mp hp with hp | hp
  · exact List.mem_of_mem_drop hp
  · exact List.mem_of_mem_take hp
end Mine
namespace Mine
theorem nopair_list {a : Array Value} {c : Nat} : ∀ u v, listOf a c ≠ pairObj u v := fun u v e => by
  have h := congrArg Obj.cls e
  injection h with h
  exact absurd h (by decide)
end Mine
open PySem PySem.W PySem.Calls PyProof.Rows PySem.SeqAt
set_option maxRecDepth 100000
namespace Mine
/-- the words: a lead and a letter each -/
noncomputable def wordsP : Nat → List (List Nat) → List (List Nat)
  | _, [] => []
  | k, l :: r => (l ++ [97 + k]) :: wordsP (k + 1) r
theorem wordsP_len : ∀ (k : Nat) (l : List (List Nat)), (wordsP k l).length = l.length
  | _, [] => rfl
  | k, _ :: r => congrArg (· + 1) (wordsP_len (k + 1) r)
theorem wordsP_snoc : ∀ (k : Nat) (l : List (List Nat)) (x : List Nat), wordsP k (l ++ [x]) = wordsP k l ++ [x ++ [97 + (k + l.length)]]
  | _, [], _ => rfl
  | k, a :: r, x => by
    show (a ++ [97 + k]) :: wordsP (k + 1) (r ++ [x]) = _
    rw [wordsP_snoc (k + 1) r x, show k + 1 + r.length = k + (r.length + 1) by omega]; rfl
structure WdJ (ld : List (List Nat)) (news : List (Addr × Obj)) (i : Nat) (ys : List Value) (news' : List (Addr × Obj)) : Prop where
  e : news' = news
  hy : StrsAre ys ((wordsP 0 (ld.take i)).map S)
theorem WdJ.next {ld : List (List Nat)} {news : List (Addr × Obj)} {i : Nat} {ys : List Value} {news' : List (Addr × Obj)} {t : Tok} (h : WdJ ld news i ys news') (hi : i < ld.length) : WdJ ld news (i + 1) (ys ++ [.str (S (ld.getD i [] ++ [97 + i])) t]) news' := by
  refine ⟨h.e, ?_⟩
  rw [List.take_succ_eq_append_getElem hi, wordsP_snoc, List.map_append, List.length_take, show 0 + min i ld.length = i by omega, List.getD, List.getElem?_eq_getElem hi]
  exact h.hy.append' (.cons _ _ .nil)
theorem leadAt {ld : List (List Nat)} {i : Nat} (h : i < ld.length) : (List.map S ld).getD (0 + (i : Int)).toNat Str.empty = S (ld.getD i []) := by
  rw [show (0 + (i : Int)).toNat = i by omega, List.getD, List.getElem?_map, List.getD, List.getElem?_eq_getElem h]; rfl
theorem letterAt8 {i : Nat} (h : i < 8) : Txt.item (Str.ofString "abcdefgh") (0 + (i : Int)) = S [97 + i] := by
  have := show ∀ i : Fin 8, Txt.item (Str.ofString "abcdefgh") (0 + ((i : Nat) : Int)) = S [97 + (i : Nat)] by decide +kernel
  exact this ⟨i, h⟩
theorem getD_len {ld : List (List Nat)} {b : Nat} (h : ∀ x ∈ ld, x.length ≤ b) (i : Nat) : (ld.getD i []).length ≤ b := by
  rw [List.getD]
  cases e : ld[i]? with
  | none => exact Nat.zero_le _
  | some x => exact h x (List.mem_of_getElem? e)
theorem words_bd {ld : List (List Nat)} {b : Nat} (h : ∀ x ∈ ld, x.length ≤ b) (k : Nat) : ∀ x ∈ wordsP k ld, x.length ≤ b + 1 := by
  induction ld generalizing k with
  | nil => exact fun _ h => nomatch h
  | cons a r ih =>
    intro x hx
    rcases List.mem_cons.mp hx with rfl | hx
    · rw [List.length_append]; exact Nat.add_le_add_right (h a (.head _)) 1
    · exact ih (fun y hy => h y (.tail _ hy)) _ x hx
theorem written_len {fs : List Int} {ws : List (List Nat)} (h : ∀ x ∈ ws, x.length ≤ 1200) : ∀ k, (writtenP fs ws k).length ≤ 3000 * k
  | 0 => Nat.zero_le _
  | k + 1 => by
    have h1 := written_len (fs := fs) h k
    have h2 := chunk_len (fs.getD k 0) k (ws.getD k [])
    have h3 := getD_len h k
    show (writtenP fs ws k ++ chunkP (fs.getD k 0) k (ws.getD k [])).length ≤ _
    rw [List.length_append]
    omega
theorem triples_no {ps : Array Value} {u : Str} {t : Tok} (h : TriplesOk ps.toList) (e : ps[1]? = some (.str u t)) : False := by
  obtain ⟨l⟩ := ps
  change TriplesOk l at h
  have e' : l[1]? = some (Value.str u t) := by simpa using e
  match l, h, e' with
  | .int _ _ :: .int _ _ :: _ :: _, _, e' => simp at e'
theorem cc_ne {h : Heap} {a b : Nat} {o : Obj} {ps : Array Value} {u : Str} (h1 : h.get? a = some o) (h2 : h.get? b = some (tabObj ps)) (hps : TriplesOk ps.toList) (hoc : ∃ vs t, o.data = .fields vs ∧ vs[1]? = some (.str u t)) : @Ne Nat a b := fun q => by
  subst q
  rw [h1] at h2
  cases h2
  obtain ⟨vs, t, e1, e2⟩ := hoc
  cases e1
  exact triples_no hps e2
/-- what stood is none of what is new -/
theorem Ends.allOld {g h h' : Heap} {L : Addr} {all news' : List (Addr × Obj)} {M : List Addr} (E : Ends h h' M news') (N : News g L h all) {p : Addr × Obj} (hp : p ∈ all) (hM : p.1 ∉ M) : AllNe p.1 news' :=
  .of fun q hq e => by
    rcases (E.has _ hq).2 with k | k
    · exact hM (e ▸ k)
    · rw [e, (N p hp).1] at k; cases k
end Mine
namespace Mine
theorem S_inj {a b : List Nat} (h : S a = S b) : a = b := by
  have := congrArg (fun x : Str => x.cps.toList) h
  simpa using this
theorem words_last : ∀ (l : List (List Nat)) (k : Nat), ∀ x ∈ wordsP k l, ∃ y j, x = y ++ [97 + j] ∧ k ≤ j
  | [], _, _, h => nomatch h
  | a :: r, k, x, h => by
    rcases List.mem_cons.mp h with rfl | h
    · exact ⟨a, k, rfl, Nat.le_refl _⟩
    · obtain ⟨y, j, e, hj⟩ := words_last r (k + 1) x h
      exact ⟨y, j, e, by omega⟩
theorem words_nodup : ∀ (l : List (List Nat)) (k : Nat), ((wordsP k l).map S).Nodup
  | [], _ => List.nodup_nil
  | a :: r, k => by
    show (S (a ++ [97 + k]) :: (wordsP (k + 1) r).map S).Nodup
    refine List.nodup_cons.mpr ⟨fun h => ?_, words_nodup r (k + 1)⟩
    obtain ⟨x, hx, e⟩ := List.mem_map.mp h
    obtain ⟨y, j, e2, hj⟩ := words_last r (k + 1) x hx
    have e3 := S_inj e
    rw [e2] at e3
    have := (List.append_inj' e3 rfl).2
    simp at this
    omega
theorem wsRun_bd : ∀ (l : List Nat) (q : Wst) (m : Nat), q.cnt.length ≤ m → q.b < m + 1 → (wsRun l q).cnt.length ≤ m + l.length ∧ (wsRun l q).b ≤ m + l.length
  | [], q, m, h1, h2 => ⟨h1, Nat.le_of_lt_succ h2⟩
  | c :: r, q, m, h1, h2 => by
    unfold wsRun
    split
    · have := wsRun_bd r { q with n := q.n + 1, b := q.b + 1 } (m + 1) (by show q.cnt.length ≤ _; omega) (by show q.b + 1 < _; omega)
      rw [List.length_cons]; omega
    · split
      · have hb := bump_len q.cnt q.b
        have := wsRun_bd r ⟨bump q.cnt q.b, 0, q.n + 1, q.nt + 1⟩ (m + 1) (by show (bump q.cnt q.b).length ≤ _; omega) (by show 0 < _; omega)
        rw [List.length_cons]; omega
      · rw [List.length_cons]; omega
theorem valueAt_of {kvs : List (Str × Value)} (hnd : (kvs.map (·.1)).Nodup) {p : Str × Value} (hp : p ∈ kvs) : valueAt kvs p.1 = some p.2 := by
  induction kvs with
  | nil => cases hp
  | cons a r ih =>
    rw [List.map_cons, List.nodup_cons] at hnd
    unfold valueAt
    rw [List.find?_cons]
    rcases List.mem_cons.mp hp with rfl | hp'
    · simp
    · have hne : a.1 ≠ p.1 := fun q => hnd.1 (by rw [q]; exact List.mem_map_of_mem hp')
      rw [show decide (a.1 = p.1) = false from decide_eq_false hne]
      exact ih hnd.2 hp'
/-- a comprehension that turns each int of a list -/
structure MapJ (ns : List Int) (f : Int → Int) (news : List (Addr × Obj)) (i : Nat) (ys : List Value) (news' : List (Addr × Obj)) : Prop where
  e : news' = news
  hy : IntsAre ys ((ns.take i).map f)
theorem MapJ.next {ns : List Int} {f : Int → Int} {news : List (Addr × Obj)} {i : Nat} {ys : List Value} {news' : List (Addr × Obj)} {t : Tok} (h : MapJ ns f news i ys news') (hi : i < ns.length) {x : Int} (hx : x = f (ns.getD i 0)) : MapJ ns f news (i + 1) (ys ++ [.int x t]) news' := by
  refine ⟨h.e, ?_⟩
  rw [List.take_succ_eq_append_getElem hi, List.map_append, hx, List.getD, List.getElem?_eq_getElem hi]
  exact h.hy.append (.cons _ _ .nil)
theorem getD_bd {ns : List Int} {a b : Int} (h : ∀ x ∈ ns, a ≤ x ∧ x < b) {i : Nat} (hi : i < ns.length) : a ≤ ns.getD i 0 ∧ ns.getD i 0 < b := by
  rw [List.getD, List.getElem?_eq_getElem hi]; exact h _ (List.getElem_mem hi)
end Mine
open PySem PySem.W PySem.Calls PyProof.Rows PySem.SeqAt
set_option maxRecDepth 100000
namespace Mine
section
variable {prog : Program} {w : World} {A : Around} {E : Value → Shared → Prop} {s : Shared} {g : Heap} {L : Addr} {m : Str → Option Value} {news : List (Addr × Obj)}
theorem pair_eqAt {A : Around} {c d : CellO} (h1 : s.heap.get? c.a = some c.led.2) (h2 : s.heap.get? d.a = some d.led.2) (hu : A.units < cLine) : EqAt A s (.ref c.a) (.ref d.a) (decide ((c.i, c.j) = (d.i, d.j))) := by
  by_cases q : c.a = d.a
  · rw [q, h2] at h1
    have e : d.led.2 = c.led.2 := Option.some.inj h1
    have e2 : d.i = c.i ∧ d.j = c.j := by
      have := congrArg Obj.data e
      injection this with this _
      have := congrArg Array.toList this
      injection this with x y
      injection y with y _
      injection x with x _
      injection y with y _
      exact ⟨by omega, by omega⟩
    rw [q, decide_eq_true (by rw [e2.1, e2.2])]
    exact EqAt.same _
  · have := RcAt.tuples (A := A) (s := s) (e := fun j => if j = 0 then ((c.i : Int) == (d.i : Int)) else ((c.j : Int) == (d.j : Int))) (l := c.a) (b := d.a) ⟨_, h1, rfl, _, rfl⟩ ⟨_, h2, rfl, _, rfl⟩ hu (fun j k1 k2 => by
      have hj : j < 2 := k1
      rcases (show j = 0 ∨ j = 1 by omega) with rfl | rfl
      · exact EqAt.int_int _ _ _ _
      · exact EqAt.int_int _ _ _ _)
    have e : ((List.range (min (#[Value.int c.i c.ti, Value.int c.j c.tj] : Array Value).size (#[Value.int d.i d.ti, Value.int d.j d.tj] : Array Value).size)).all (fun j => if j = 0 then ((c.i : Int) == (d.i : Int)) else ((c.j : Int) == (d.j : Int))) && (#[Value.int c.i c.ti, Value.int c.j c.tj] : Array Value).size == (#[Value.int d.i d.ti, Value.int d.j d.tj] : Array Value).size) = decide ((c.i, c.j) = (d.i, d.j)) := by
      show ((List.range 2).all _ && true) = _
      rw [Bool.and_true, show List.range 2 = [0, 1] from rfl]
      simp only [List.all_cons, List.all_nil, if_true, Bool.and_true]
      by_cases h : (c.i, c.j) = (d.i, d.j)
      · rw [decide_eq_true h]
        injection h with x y
        rw [x, y]; simp
      · rw [decide_eq_false h]
        by_cases x : c.i = d.i
        · have y : c.j ≠ d.j := fun y => h (by rw [x, y])
          have : ¬ ((c.j : Int) = d.j) := by omega
          simp [this]
        · have : ¬ ((c.i : Int) = d.i) := by omega
          simp [this]
    rw [e] at this
    exact EqAt.of_refs q this
/-- a pair's place in a list of pairs -/
theorem indexC {l : Addr} {cls : List CellO} {d : CellO} {n : Nat} {Q : Value → Shared → Prop} (N : News g L s.heap news) (hm : (l, listOf (cellRefs cls).toArray n) ∈ news) (hc : ∀ p ∈ cellsLed cls, p ∈ news) (hd : d.led ∈ news) (hin : (d.i, d.j) ∈ pairsOf cls) (hz : cls.length ≤ 1000000) (hu : A.units + 1 < cLine)
    (h : ∀ t tk, Q (.int ((pairsOf cls).idxOf (d.i, d.j) : Nat) t) { s with toks := tk }) : wpAny (model prog w) A (call (.builtin "list.index") [.ref l, .ref d.a]) Q E s := by
  have ho := (N _ hm).1
  have h2 := (N _ hd).1
  have hlen : (pairsOf cls).length = cls.length := List.length_map ..
  have hj : (pairsOf cls).idxOf (d.i, d.j) < (pairsOf cls).length := List.idxOf_lt_length_iff.mpr hin
  obtain ⟨e, he⟩ : ∃ e : Value → Bool, e = fun v => cls.any fun c => v == Value.ref c.a && decide ((c.i, c.j) = (d.i, d.j)) := ⟨_, rfl⟩
  have key : ∀ c ∈ cls, e (.ref c.a) = decide ((c.i, c.j) = (d.i, d.j)) := fun c hcc => by
    rw [he]
    dsimp only
    by_cases q : (c.i, c.j) = (d.i, d.j)
    · rw [decide_eq_true q]
      exact List.any_eq_true.mpr ⟨c, hcc, by rw [decide_eq_true q]; simp⟩
    · rw [decide_eq_false q, List.any_eq_false]
      intro c' hc' k
      rw [Bool.and_eq_true] at k
      have k1 : c.a = c'.a := by have := eq_of_beq k.1; injection this
      have k2 := of_decide_eq_true k.2
      have x1 := (N _ (hc _ (List.mem_map_of_mem (f := CellO.led) hcc))).1
      have x2 := (N _ (hc _ (List.mem_map_of_mem (f := CellO.led) hc'))).1
      dsimp only at x1 x2
      rw [k1, x2] at x1
      have e3 : c'.led.2 = c.led.2 := Option.some.inj x1
      refine q ?_
      rw [← k2]
      have := congrArg Obj.data e3
      injection this with this _
      have := congrArg Array.toList this
      injection this with x y
      injection y with y _
      injection x with x _
      injection y with y _
      rw [show c.i = c'.i by omega, show c.j = c'.j by omega]
  have at_ : ∀ k (hk : k < cls.length), ((cellRefs cls).toArray)[k]'(by simpa using hk) = Value.ref (cls[k]).a := fun k hk => by simp
  refine call_meets PySem.F.slot_list_index ⟨_, ho, rfl⟩ PySem.F.entry_list_index (PySem.F.args_list_index_2 _ _)
    (list_indexAt l (cellRefs cls).toArray n none #[] (.ref d.a) e ((pairsOf cls).idxOf (d.i, d.j)) (by simp only [List.size_toArray, List.length_map]; omega) (by omega) ?_ ?_) ⟨ho, fun y hy => ?_, h _ _⟩
  · rw [at_ _ (by omega), key _ (List.getElem_mem _)]
    refine decide_eq_true ?_
    have := List.getElem_idxOf hj
    rw [List.getElem_map] at this
    exact this
  · intro k hk hlt
    have hk' : k < cls.length := by simpa using hk
    rw [at_ _ hk', key _ (List.getElem_mem _)]
    refine decide_eq_false fun q => ?_
    have := List.not_of_lt_findIdx (p := fun x => x == (d.i, d.j)) (xs := pairsOf cls) (i := k) hlt
    rw [List.getElem_map, q] at this
    simp at this
  · obtain ⟨c, hcc, rfl⟩ := List.mem_map.mp (by simpa using hy : y ∈ cellRefs cls)
    rw [key c hcc]
    exact pair_eqAt (N _ (hc _ (List.mem_map_of_mem (f := CellO.led) hcc))).1 h2 hu
theorem strs_eqAt {A : Around} : ∀ {vs ws : List Value} {gs : List Str}, StrsAre vs gs → StrsAre ws gs → ∀ j (h1 : j < vs.length) (h2 : j < ws.length), EqAt A s vs[j] ws[j] true
  | _, _, _, .nil, .nil, _, h1, _ => absurd h1 (Nat.not_lt_zero _)
  | _, _, _, .cons x t r, .cons _ t' r', 0, _, _ => by
    have := EqAt.str_str (A := A) (s := s) x t x t'
    rw [beq_self_eq_true] at this
    exact this
  | _, _, _, .cons _ _ r, .cons _ _ r', j + 1, h1, h2 => strs_eqAt r r' j (Nat.lt_of_succ_lt_succ h1) (Nat.lt_of_succ_lt_succ h2)
/-- two lists of the same texts are not unlike -/
theorem neStrs {l b : Addr} {vs ws : List Value} {gs : List Str} {n n' : Nat} {Q : Value → Shared → Prop} (N : News g L s.heap news) (h1 : (l, listOf vs.toArray n) ∈ news) (h2 : (b, listOf ws.toArray n') ∈ news) (hv : StrsAre vs gs) (hw : StrsAre ws gs) (hu : A.units < cLine)
    (h : Q (.bool false) s) : wpAny (model prog w) A (compareOp .NotEq (.ref l) (.ref b)) Q E s := by
  have e1 := hv.len_eq
  have e2 := hw.len_eq
  have := RcNeAt.lists (A := A) (s := s) (e := fun _ => true) (News.isList N h1) (News.isList N h2) (by simp only [List.size_toArray]; omega) hu (fun j k1 k2 => by
    simp only [List.getElem_toArray]
    exact strs_eqAt hv hw j (by simpa using k1) (by simpa using k2))
  refine this prog w E Q ?_
  rw [show (!(List.range vs.toArray.size).all fun _ => true) = false by simp]
  exact h
end
theorem idx_lt {cls : List CellO} {x : Nat × Nat} (h : x ∈ pairsOf cls) : (pairsOf cls).idxOf x < cls.length := by
  have := List.idxOf_lt_length_iff.mpr h
  rw [List.length_map] at this
  exact this
theorem pairs_rev (cls : List CellO) : (pairsOf cls).reverse = cls.reverse.map fun c => (c.i, c.j) := List.map_reverse.symm
theorem nls_nil : nls [] = 0 := rfl
theorem cnt_nls : ∀ l : List Nat, PyProof.Rows.cnt 10 l = (nls l : Nat)
  | [] => rfl
  | c :: r => by rw [PyProof.Rows.cnt_cons, cnt_nls r, nls_cons]
theorem count_nl (l : List Nat) : (Txt.count (S l) (Str.ofString "\n") : Int) = (nls l : Nat) := by
  rw [lit10, show (S [10] : Str) = ⟨#[10]⟩ from rfl, PyProof.Rows.count_cnt]
  exact cnt_nls l
section
variable {prog : Program} {w : World} {A : Around} {E : Value → Shared → Prop} {s : Shared} {g : Heap} {L : Addr} {news : List (Addr × Obj)}
theorem eq3 {l b : Addr} {n n' : Nat} {a1 a2 a3 b1 b2 b3 : Value} {Q : Value → Shared → Prop} (N : News g L s.heap news) (h1 : (l, listOf #[a1, a2, a3] n) ∈ news) (h2 : (b, listOf #[b1, b2, b3] n') ∈ news) (hu : A.units < cLine)
    (e1 : EqAt A.in1 s a1 b1 true) (e2 : EqAt A.in1 s a2 b2 true) (e3 : EqAt A.in1 s a3 b3 true) (h : Q (.bool true) s) : wpAny (model prog w) A (compareOp .Eq (.ref l) (.ref b)) Q E s := by
  refine eq_listAt (e := fun _ => true) ⟨_, (N _ h1).1, rfl, _, rfl⟩ ⟨_, (N _ h2).1, rfl, _, rfl⟩ rfl hu (fun j k1 k2 => ?_) h
  have hj : j < 3 := k1
  rcases (show j = 0 ∨ j = 1 ∨ j = 2 by omega) with rfl | rfl | rfl
  · exact e1
  · exact e2
  · exact e3
theorem eqI {A : Around} {s : Shared} {a b : Int} {t u : Tok} (h : a = b) : EqAt A s (.int a t) (.int b u) true := by
  subst h
  have := EqAt.int_int (A := A) (s := s) a t a u
  rwa [beq_self_eq_true] at this
theorem eqS {A : Around} {s : Shared} {a b : Str} {t u : Tok} (h : a = b) : EqAt A s (.str a t) (.str b u) true := by
  subst h
  have := EqAt.str_str (A := A) (s := s) a t a u
  rwa [beq_self_eq_true] at this
end
theorem News.join {g h : Heap} {L : Addr} {a b : List (Addr × Obj)} (x : News g L h a) (y : News g L h b) : News g L h (a ++ b) := fun p hp => by
  rcases List.mem_append.mp hp with hp | hp
  · exact x p hp
  · exact y p hp
theorem leadP_len {pl : Bool} {H W RN rest : Int} {i j : Nat} (hH : 0 ≤ H) (hH7 : H ≤ 7) (hW : 0 ≤ W) (hW7 : W ≤ 7) (hR : 0 ≤ RN) (hR5 : RN ≤ 50) (hi : i ≤ 7) (hj : j ≤ 7) : (leadP pl H W RN rest i j).length ≤ 1000 := by
  have r3 := Int.fmod_nonneg_of_pos rest (b := 3) (by decide)
  have r3' := Int.fmod_lt_of_pos rest (b := 3) (by decide)
  have r6 := Int.fmod_nonneg_of_pos (rest.fdiv 6) (b := 2) (by decide)
  have r6' := Int.fmod_lt_of_pos (rest.fdiv 6) (b := 2) (by decide)
  unfold leadP
  rw [List.length_append, List.length_replicate]
  cases pl with
  | true =>
    simp only [if_true, List.length_append, List.length_replicate]
    have h1 := mul_bd (a := if 1 > H then 1 else H) (b := j) (by split <;> omega) (by split <;> omega) hj
    omega
  | false =>
    simp only [Bool.false_eq_true, if_false]
    rw [rot_len, pieces_len]
    have h1 := mul_bd (a := if 1 > W then 1 else W) (b := i) (by split <;> omega) (by split <;> omega) hi
    simp only [List.length_append, List.length_replicate, List.length_cons, List.length_nil]
    have h2 : j * (RN.toNat + (0 + 1)) ≤ 7 * 51 := Nat.mul_le_mul hj (by omega)
    omega
end Mine
namespace Mine
theorem rowGo_bd {b : Int} : ∀ (n : Nat) (ks fs : List Int), (∀ k ∈ ks, 0 ≤ k ∧ k < b) → n ≤ ks.length → (∀ f ∈ fs, 0 ≤ f) → ∀ a ∈ rowGo n ks fs, 0 ≤ a ∧ a < b
  | 0, _, _, _, _, _, a, h => nomatch h
  | _ + 1, _, [], _, _, _, a, h => nomatch h
  | k + 1, ks, f :: r, hk, hl, hf, a, h => by
    have hpos : 0 < ks.length := by omega
    have h1 := Int.fmod_nonneg_of_pos f (b := (ks.length : Int)) (by omega)
    have h2 := Int.fmod_lt_of_pos f (b := (ks.length : Int)) (by omega)
    rcases List.mem_cons.mp h with rfl | h
    · rw [List.getD, List.getElem?_eq_getElem (by omega)]
      exact hk _ (List.getElem_mem _)
    · refine rowGo_bd k _ r (fun x hx => hk x (List.mem_of_mem_eraseIdx hx)) ?_ (fun x hx => hf x (.tail _ hx)) a h
      rw [List.length_eraseIdx_of_lt (by omega)]
      omega
noncomputable def ltP (u v : Str) : Bool := lessOf (wsRun u.cps.toList ⟨[], 0, 0, 0⟩) (wsRun v.cps.toList ⟨[], 0, 0, 0⟩)
end Mine
namespace Mine
noncomputable abbrev Tab := List (List Nat)
noncomputable def bmp (n : Nat) (l : List Nat) : Option (List Nat × Nat) :=
  @List.rec Nat (fun _ => Option (List Nat × Nat)) none (fun a r ih => @Bool.rec (fun _ => Option (List Nat × Nat)) (@Option.rec (List Nat × Nat) (fun _ => Option (List Nat × Nat)) none (fun p => @Prod.rec (List Nat) Nat (fun _ => Option (List Nat × Nat)) (fun s b => some (a :: s, b)) p) ih) (some (n :: r, a)) (Nat.blt n a)) l
noncomputable def insB (n : Nat) (T : Tab) (i : Nat) : Tab × (Nat × Nat) :=
  @List.rec (List Nat) (fun _ => Nat → Nat → Tab × (Nat × Nat)) (fun n i => ([[n]], (i, 0))) (fun r rs ih n i => @Option.rec (List Nat × Nat) (fun _ => Tab × (Nat × Nat)) ((r ++ [n]) :: rs, (i, r.length)) (fun p => @Prod.rec (List Nat) Nat (fun _ => Tab × (Nat × Nat)) (fun s b => @Prod.rec Tab (Nat × Nat) (fun _ => Tab × (Nat × Nat)) (fun q c => (s :: q, c)) (ih b (Nat.succ i))) p) (bmp n r)) T n i
noncomputable def zc (r : List Nat) (cs : Tab) : Tab :=
  @List.rec Nat (fun _ => Tab → Tab) (fun cs => cs) (fun a _ ih cs => @List.rec (List Nat) (fun _ => Tab) ([a] :: ih []) (fun c cs _ => (a :: c) :: ih cs) cs) r cs
noncomputable def tr (T : Tab) : Tab := @List.rec (List Nat) (fun _ => Tab) [] (fun r _ ih => zc r ih) T
noncomputable def colB (y : Nat) (T : Tab) : Tab × (Nat × Nat) := @Prod.rec Tab (Nat × Nat) (fun _ => Tab × (Nat × Nat)) (fun q c => (tr q, (c.2, c.1))) (insB y (tr T) 0)
noncomputable def skip (x v : Nat) : Nat := @Bool.rec (fun _ => Nat) (Nat.add v 1) v (Nat.blt v x)
noncomputable def mapL (f : Nat → Nat) (l : List Nat) : List Nat := @List.rec Nat (fun _ => List Nat) [] (fun a _ ih => f a :: ih) l
noncomputable def mapT (f : Nat → Nat) (T : Tab) : Tab := @List.rec (List Nat) (fun _ => Tab) [] (fun r _ ih => mapL f r :: ih) T
noncomputable def eqL (r s : List Nat) : Bool :=
  @List.rec Nat (fun _ => List Nat → Bool) (fun s => @List.rec Nat (fun _ => Bool) true (fun _ _ _ => false) s) (fun a _ ih s => @List.rec Nat (fun _ => Bool) false (fun b s _ => @Bool.rec (fun _ => Bool) false (ih s) (Nat.beq a b)) s) r s
noncomputable def eqT (r s : Tab) : Bool :=
  @List.rec (List Nat) (fun _ => Tab → Bool) (fun s => @List.rec (List Nat) (fun _ => Bool) true (fun _ _ _ => false) s) (fun a _ ih s => @List.rec (List Nat) (fun _ => Bool) false (fun b s _ => @Bool.rec (fun _ => Bool) false (ih s) (eqL a b)) s) r s
noncomputable def andB (a b : Bool) : Bool := @Bool.rec (fun _ => Bool) false b a
noncomputable def nw (c d : Nat × Nat) : Bool := andB (Nat.ble c.1 d.1) (Nat.ble c.2 d.2)
noncomputable def eqC (c d : Nat × Nat) : Bool := andB (Nat.beq c.1 d.1) (Nat.beq c.2 d.2)
noncomputable def stepOk (U : Tab) (y x : Nat) : Bool :=
  @Prod.rec Tab (Nat × Nat) (fun _ => Bool) (fun q e => @Prod.rec Tab (Nat × Nat) (fun _ => Bool) (fun u b => @Prod.rec Tab (Nat × Nat) (fun _ => Bool) (fun a1 a => @Prod.rec Tab (Nat × Nat) (fun _ => Bool) (fun q1 e1 =>
    andB (eqT a1 q1) (@Bool.rec (fun _ => Bool) (andB (eqC b a) (eqC e1 e)) (andB (eqC b e) (eqC e1 a)) (nw e a))) (colB y u)) (insB x q 0)) (insB x U 0)) (colB y U)
noncomputable def appL (a b : List Tab) : List Tab := @List.rec Tab (fun _ => List Tab) b (fun x _ ih => x :: ih) a
noncomputable def lenL (r : List Nat) : Nat := @List.rec Nat (fun _ => Nat) 0 (fun _ _ ih => Nat.succ ih) r
/-- put v at the end of each row where it may stand -/
noncomputable def grow (v : Nat) (T : Tab) : Nat → List Tab :=
  @List.rec (List Nat) (fun _ => Nat → List Tab) (fun ab => @Bool.rec (fun _ => List Tab) [] [[[v]]] (Nat.blt 0 ab)) (fun r rs ih ab => appL (@Bool.rec (fun _ => List Tab) [] [(r ++ [v]) :: rs] (Nat.blt (lenL r) ab)) (@List.rec Tab (fun _ => List Tab) [] (fun t _ ih => (r :: t) :: ih) (ih (lenL r)))) T
noncomputable def syt (k : Nat) : List Tab := @Nat.rec (fun _ => List Tab) [[]] (fun k l => @List.rec Tab (fun _ => List Tab) [] (fun T _ ih => appL (grow k T 100) ih) l) k
noncomputable def allL (p : Tab → Bool) (l : List Tab) : Bool := @List.rec Tab (fun _ => Bool) true (fun a _ ih => andB (p a) ih) l
noncomputable def allN (k : Nat) (p : Nat → Bool) : Bool := @Nat.rec (fun _ => Bool) true (fun i ih => andB (p i) ih) k
noncomputable def memT (U : Tab) (l : List Tab) : Bool := @List.rec Tab (fun _ => Bool) false (fun a _ ih => @Bool.rec (fun _ => Bool) ih true (eqT U a)) l
noncomputable def tabB (w : List Nat) (T : Tab) : Tab := @List.rec Nat (fun _ => Tab → Tab) (fun T => T) (fun x _ ih T => ih (insB x T 0).1) w T
/-- the rows' numbers from the lowest row on, turned about and each taken from k -/
noncomputable def cwT (k : Nat) (T : Tab) : List Nat := @List.rec (List Nat) (fun _ => List Nat → List Nat) (fun acc => acc) (fun r _ ih acc => ih (@List.rec Nat (fun _ => List Nat → List Nat) (fun b => b) (fun a _ ih b => ih (Nat.sub k a :: b)) r [] ++ acc)) T.reverse []
noncomputable def ev (k : Nat) (U : Tab) : Tab := tabB (cwT (Nat.pred k) U) []
noncomputable def chkS (k : Nat) : Bool := allL (fun U0 => allN (k + 1) fun y1 => allN (k + 2) fun x => stepOk (mapT (fun v => skip x (skip y1 v)) U0) (skip x y1) x) (syt k)
noncomputable def chkC (k : Nat) : Bool := allL (fun U0 => allN (k + 1) fun x => memT (insB x (mapT (skip x) U0) 0).1 (syt (k + 1))) (syt k)
noncomputable def evOk (k : Nat) (U0 : Tab) (y : Nat) : Bool :=
  @Prod.rec Tab (Nat × Nat) (fun _ => Bool) (fun q e => @Prod.rec Tab (Nat × Nat) (fun _ => Bool) (fun v c => andB (eqC e c) (@Bool.rec (fun _ => Bool) (eqT v (ev (k + 1) q)) true (Nat.ble 7 k))) (insB (k - y) (mapT (skip (k - y)) (ev k U0)) 0)) (colB y (mapT (skip y) U0))
noncomputable def chkE (k : Nat) : Bool := allL (fun U0 => allN (k + 1) fun y => evOk k U0 y) (syt k)
theorem s_ok : chkS 0 = true ∧ chkS 1 = true ∧ chkS 2 = true ∧ chkS 3 = true ∧ chkS 4 = true ∧ chkS 5 = true ∧ chkS 6 = true := by decide +kernel
theorem c_ok : chkC 0 = true ∧ chkC 1 = true ∧ chkC 2 = true ∧ chkC 3 = true ∧ chkC 4 = true ∧ chkC 5 = true ∧ chkC 6 = true := by decide +kernel
theorem e_ok : chkE 0 = true ∧ chkE 1 = true ∧ chkE 2 = true ∧ chkE 3 = true ∧ chkE 4 = true ∧ chkE 5 = true ∧ chkE 6 = true ∧ chkE 7 = true := by decide +kernel
end Mine
namespace Mine
theorem bmp_lt {n a : Nat} {r : List Nat} (h : n < a) : bmp n (a :: r) = some (n :: r, a) := by
  show @Bool.rec (fun _ => Option (List Nat × Nat)) _ _ (Nat.blt n a) = _
  rw [show Nat.blt n a = true by rw [Nat.blt_eq]; exact h]
theorem bmp_ge {n a : Nat} {r : List Nat} (h : ¬ n < a) : bmp n (a :: r) = (bmp n r).map fun p => (a :: p.1, p.2) := by
  show @Bool.rec (fun _ => Option (List Nat × Nat)) (@Option.rec (List Nat × Nat) (fun _ => Option (List Nat × Nat)) none (fun p => @Prod.rec (List Nat) Nat (fun _ => Option (List Nat × Nat)) (fun s b => some (a :: s, b)) p) (bmp n r)) _ (Nat.blt n a) = _
  rw [show Nat.blt n a = false by rw [← Bool.not_eq_true, Nat.blt_eq]; exact h]
  cases bmp n r <;> rfl
theorem insB_none {n i : Nat} {r : List Nat} {rs : Tab} (h : bmp n r = none) : insB n (r :: rs) i = ((r ++ [n]) :: rs, (i, r.length)) := by
  show @Option.rec (List Nat × Nat) (fun _ => Tab × (Nat × Nat)) _ _ (bmp n r) = _
  rw [h]
theorem insB_some {n i b : Nat} {r s : List Nat} {rs : Tab} (h : bmp n r = some (s, b)) : insB n (r :: rs) i = (s :: (insB b rs (i + 1)).1, (insB b rs (i + 1)).2) := by
  show @Option.rec (List Nat × Nat) (fun _ => Tab × (Nat × Nat)) _ (fun p => @Prod.rec (List Nat) Nat (fun _ => Tab × (Nat × Nat)) (fun s b => @Prod.rec Tab (Nat × Nat) (fun _ => Tab × (Nat × Nat)) (fun q c => (s :: q, c)) (insB b rs (Nat.succ i))) p) (bmp n r) = _
  rw [h]
noncomputable def Up (g : Nat → Nat) : Prop := ∀ a b, a < b → g a < g b
theorem Up.iff {g : Nat → Nat} (h : Up g) {a b : Nat} : g a < g b ↔ a < b := by
  refine ⟨fun k => ?_, h a b⟩
  rcases Nat.lt_trichotomy a b with q | q | q
  · exact q
  · rw [q] at k; omega
  · have := h _ _ q; omega
theorem skip_eq (x v : Nat) : skip x v = if v < x then v else v + 1 := by
  unfold skip
  by_cases h : v < x
  · rw [show Nat.blt v x = true by rw [Nat.blt_eq]; exact h, if_pos h]
  · rw [show Nat.blt v x = false by rw [← Bool.not_eq_true, Nat.blt_eq]; exact h, if_neg h]
theorem skip_up (x : Nat) : Up (skip x) := fun a b h => by
  rw [skip_eq, skip_eq]; split <;> split <;> omega
noncomputable abbrev mT (g : Nat → Nat) (T : Tab) : Tab := T.map (List.map g)
theorem mapL_eq (g : Nat → Nat) : ∀ l : List Nat, mapL g l = l.map g
  | [] => rfl
  | a :: r => congrArg (g a :: ·) (mapL_eq g r)
theorem mapT_eq (g : Nat → Nat) : ∀ T : Tab, mapT g T = mT g T
  | [] => rfl
  | r :: rs => by show mapL g r :: mapT g rs = _; rw [mapL_eq, mapT_eq g rs]; rfl
theorem bmp_map {g : Nat → Nat} (h : Up g) (n : Nat) : ∀ r : List Nat, bmp (g n) (r.map g) = (bmp n r).map fun p => (p.1.map g, g p.2)
  | [] => rfl
  | a :: r => by
    rw [List.map_cons]
    by_cases q : n < a
    · rw [bmp_lt q, bmp_lt (h _ _ q)]; rfl
    · rw [bmp_ge q, bmp_ge (fun k => q (h.iff.mp k)), bmp_map h n r]
      cases bmp n r <;> rfl
theorem insB_map {g : Nat → Nat} (h : Up g) : ∀ (T : Tab) (n i : Nat), insB (g n) (mT g T) i = (mT g (insB n T i).1, (insB n T i).2)
  | [], _, _ => rfl
  | r :: rs, n, i => by
    show insB (g n) (r.map g :: mT g rs) i = _
    have e := bmp_map h n r
    cases k : bmp n r with
    | none =>
      rw [k] at e
      rw [insB_none k, insB_none e, List.length_map]
      simp [mT]
    | some p =>
      obtain ⟨s, b⟩ := p
      rw [k] at e
      rw [insB_some k, insB_some e, insB_map h rs b (i + 1)]
      rfl
theorem zc_map (g : Nat → Nat) : ∀ (r : List Nat) (cs : Tab), zc (r.map g) (mT g cs) = mT g (zc r cs)
  | [], _ => rfl
  | a :: r, [] => by
    show [g a] :: zc (r.map g) [] = [g a] :: mT g (zc r [])
    rw [← zc_map g r []]; rfl
  | a :: r, c :: cs => by
    show (g a :: c.map g) :: zc (r.map g) (mT g cs) = (g a :: c.map g) :: mT g (zc r cs)
    rw [zc_map g r cs]
theorem tr_map (g : Nat → Nat) : ∀ T : Tab, tr (mT g T) = mT g (tr T)
  | [] => rfl
  | r :: rs => by
    show zc (r.map g) (tr (mT g rs)) = mT g (zc r (tr rs))
    rw [tr_map g rs, zc_map]
theorem colB_eq (y : Nat) (T : Tab) : colB y T = (tr (insB y (tr T) 0).1, ((insB y (tr T) 0).2.2, (insB y (tr T) 0).2.1)) := rfl
theorem colB_map {g : Nat → Nat} (h : Up g) (y : Nat) (T : Tab) : colB (g y) (mT g T) = (mT g (colB y T).1, (colB y T).2) := by
  rw [colB_eq, colB_eq, tr_map, insB_map h]
  simp only [tr_map]
theorem tabB_cons (x : Nat) (r : List Nat) (T : Tab) : tabB (x :: r) T = tabB r (insB x T 0).1 := rfl
theorem tabB_map {g : Nat → Nat} (h : Up g) : ∀ (w : List Nat) (T : Tab), tabB (w.map g) (mT g T) = mT g (tabB w T)
  | [], _ => rfl
  | x :: r, T => by rw [List.map_cons, tabB_cons, tabB_cons, insB_map h, tabB_map h r]
noncomputable def celB : List Nat → Tab → List (Nat × Nat)
  | [], _ => []
  | x :: r, T => (insB x T 0).2 :: celB r (insB x T 0).1
theorem celB_map {g : Nat → Nat} (h : Up g) : ∀ (w : List Nat) (T : Tab), celB (w.map g) (mT g T) = celB w T
  | [], _ => rfl
  | x :: r, T => by rw [List.map_cons, celB, celB, insB_map h, celB_map h r]
theorem tabB_snoc (x : Nat) : ∀ (w : List Nat) (T : Tab), tabB (w ++ [x]) T = (insB x (tabB w T) 0).1
  | [], _ => rfl
  | _ :: r, T => tabB_snoc x r _
theorem celB_snoc (x : Nat) : ∀ (w : List Nat) (T : Tab), celB (w ++ [x]) T = celB w T ++ [(insB x (tabB w T) 0).2]
  | [], _ => rfl
  | y :: r, T => by
    show (insB y T 0).2 :: celB (r ++ [x]) _ = _
    rw [celB_snoc x r]; rfl
/-- the checks, as facts -/
theorem andB_iff {a b : Bool} : andB a b = true ↔ a = true ∧ b = true := by
  cases a <;> cases b <;> simp [andB]
theorem allL_mem {p : Tab → Bool} : ∀ {l : List Tab}, allL p l = true → ∀ T ∈ l, p T = true
  | [], _, _, h => nomatch h
  | a :: r, h, T, hT => by
    have := andB_iff.mp (show andB (p a) (allL p r) = true from h)
    rcases List.mem_cons.mp hT with rfl | hT
    · exact this.1
    · exact allL_mem this.2 T hT
theorem allN_lt {p : Nat → Bool} : ∀ {k : Nat}, allN k p = true → ∀ i, i < k → p i = true
  | 0, _, _, h => absurd h (Nat.not_lt_zero _)
  | k + 1, h, i, hi => by
    have := andB_iff.mp (show andB (p k) (allN k p) = true from h)
    rcases Nat.lt_succ_iff_lt_or_eq.mp hi with hi | rfl
    · exact allN_lt this.2 i hi
    · exact this.1
theorem eqL_eq : ∀ {r s : List Nat}, eqL r s = true → r = s
  | [], [], _ => rfl
  | [], _ :: _, h => absurd (show false = true from h) (by decide)
  | _ :: _, [], h => absurd (show false = true from h) (by decide)
  | a :: r, b :: s, h => by
    have h : @Bool.rec (fun _ => Bool) false (eqL r s) (Nat.beq a b) = true := h
    cases q : Nat.beq a b with
    | false => rw [q] at h; exact absurd (show false = true from h) (by decide)
    | true => rw [q] at h; rw [Nat.eq_of_beq_eq_true q, eqL_eq h]
theorem eqT_eq : ∀ {r s : Tab}, eqT r s = true → r = s
  | [], [], _ => rfl
  | [], _ :: _, h => absurd (show false = true from h) (by decide)
  | _ :: _, [], h => absurd (show false = true from h) (by decide)
  | a :: r, b :: s, h => by
    have h : @Bool.rec (fun _ => Bool) false (eqT r s) (eqL a b) = true := h
    cases q : eqL a b with
    | false => rw [q] at h; exact absurd (show false = true from h) (by decide)
    | true => rw [q] at h; rw [eqL_eq q, eqT_eq h]
theorem eqC_eq {c d : Nat × Nat} (h : eqC c d = true) : c = d := by
  have := andB_iff.mp h
  exact Prod.ext (Nat.eq_of_beq_eq_true this.1) (Nat.eq_of_beq_eq_true this.2)
theorem memT_mem {U : Tab} : ∀ {l : List Tab}, memT U l = true → U ∈ l
  | [], h => absurd (show false = true from h) (by decide)
  | a :: r, h => by
    have h : @Bool.rec (fun _ => Bool) (memT U r) true (eqT U a) = true := h
    cases q : eqT U a with
    | true => rw [eqT_eq q]; exact .head _
    | false => rw [q] at h; exact .tail _ (memT_mem h)
theorem step_of {k : Nat} (hk : k ≤ 6) {U0 : Tab} (hU : U0 ∈ syt k) {y x : Nat} (hy : y < k + 1) (hx : x < k + 2) {U : Tab} (e : U = mT (skip x) (mT (skip y) U0)) :
    (insB x (colB (skip x y) U).1 0).1 = (colB (skip x y) (insB x U 0).1).1 ∧
      (if nw (colB (skip x y) U).2 (insB x (colB (skip x y) U).1 0).2 = true then (insB x U 0).2 = (colB (skip x y) U).2 ∧ (colB (skip x y) (insB x U 0).1).2 = (insB x (colB (skip x y) U).1 0).2
        else (insB x U 0).2 = (insB x (colB (skip x y) U).1 0).2 ∧ (colB (skip x y) (insB x U 0).1).2 = (colB (skip x y) U).2) := by
  have hc : chkS k = true := by
    obtain ⟨h0, h1, h2, h3, h4, h5, h6⟩ := s_ok
    match k, hk with
    | 0, _ => exact h0
    | 1, _ => exact h1
    | 2, _ => exact h2
    | 3, _ => exact h3
    | 4, _ => exact h4
    | 5, _ => exact h5
    | 6, _ => exact h6
    | k + 7, hk => exact absurd hk (by omega)
  have h := allN_lt (allN_lt (allL_mem hc U0 hU) y hy) x hx
  have e2 : mapT (fun v => skip x (skip y v)) U0 = U := by
    rw [mapT_eq, e, mT, mT, mT, List.map_map]
    congr 1
    funext l
    show _ = (l.map (skip y)).map (skip x)
    rw [List.map_map]; rfl
  rw [e2] at h
  have h : andB (eqT (insB x (colB (skip x y) U).1 0).1 (colB (skip x y) (insB x U 0).1).1) (@Bool.rec (fun _ => Bool) (andB (eqC (insB x U 0).2 (insB x (colB (skip x y) U).1 0).2) (eqC (colB (skip x y) (insB x U 0).1).2 (colB (skip x y) U).2)) (andB (eqC (insB x U 0).2 (colB (skip x y) U).2) (eqC (colB (skip x y) (insB x U 0).1).2 (insB x (colB (skip x y) U).1 0).2)) (nw (colB (skip x y) U).2 (insB x (colB (skip x y) U).1 0).2)) = true := h
  obtain ⟨h1, h2⟩ := andB_iff.mp h
  refine ⟨eqT_eq h1, ?_⟩
  cases q : nw (colB (skip x y) U).2 (insB x (colB (skip x y) U).1 0).2 with
  | true =>
    rw [q] at h2
    rw [if_pos rfl]
    have := andB_iff.mp h2
    exact ⟨eqC_eq this.1, eqC_eq this.2⟩
  | false =>
    rw [q] at h2
    rw [if_neg (by decide)]
    have := andB_iff.mp h2
    exact ⟨eqC_eq this.1, eqC_eq this.2⟩
theorem clos_of {k : Nat} (hk : k ≤ 6) {U0 : Tab} (hU : U0 ∈ syt k) {x : Nat} (hx : x < k + 1) : (insB x (mT (skip x) U0) 0).1 ∈ syt (k + 1) := by
  have hc : chkC k = true := by
    obtain ⟨h0, h1, h2, h3, h4, h5, h6⟩ := c_ok
    match k, hk with
    | 0, _ => exact h0
    | 1, _ => exact h1
    | 2, _ => exact h2
    | 3, _ => exact h3
    | 4, _ => exact h4
    | 5, _ => exact h5
    | 6, _ => exact h6
    | k + 7, hk => exact absurd hk (by omega)
  have h := memT_mem (allN_lt (allL_mem hc U0 hU) x hx)
  rwa [mapT_eq] at h
theorem ev_of {k : Nat} (hk : k ≤ 7) {U0 : Tab} (hU : U0 ∈ syt k) {y : Nat} (hy : y < k + 1) :
    (colB y (mT (skip y) U0)).2 = (insB (k - y) (mT (skip (k - y)) (ev k U0)) 0).2 ∧ (k < 7 → (insB (k - y) (mT (skip (k - y)) (ev k U0)) 0).1 = ev (k + 1) (colB y (mT (skip y) U0)).1) := by
  have hc : chkE k = true := by
    obtain ⟨h0, h1, h2, h3, h4, h5, h6, h7⟩ := e_ok
    match k, hk with
    | 0, _ => exact h0
    | 1, _ => exact h1
    | 2, _ => exact h2
    | 3, _ => exact h3
    | 4, _ => exact h4
    | 5, _ => exact h5
    | 6, _ => exact h6
    | 7, _ => exact h7
    | k + 8, hk => exact absurd hk (by omega)
  have h := allN_lt (allL_mem hc U0 hU) y hy
  unfold evOk at h
  rw [mapT_eq, mapT_eq] at h
  obtain ⟨h1, h2⟩ := andB_iff.mp (show andB (eqC (colB y (mT (skip y) U0)).2 (insB (k - y) (mT (skip (k - y)) (ev k U0)) 0).2) (@Bool.rec (fun _ => Bool) (eqT (insB (k - y) (mT (skip (k - y)) (ev k U0)) 0).1 (ev (k + 1) (colB y (mT (skip y) U0)).1)) true (Nat.ble 7 k)) = true from h)
  refine ⟨eqC_eq h1, fun hk7 => ?_⟩
  rw [show Nat.ble 7 k = false by rw [← Bool.not_eq_true, Nat.ble_eq]; omega] at h2
  exact eqT_eq h2
end Mine
namespace Mine
/-- a row of m numbers, each once, all below m -/
structure Row (m : Nat) (s : List Nat) : Prop where
  len : s.length = m
  nd : s.Nodup
  lt : ∀ v ∈ s, v < m
noncomputable def unskip (x v : Nat) : Nat := if v < x then v else v - 1
theorem skip_un {x v : Nat} (h : v ≠ x) : skip x (unskip x v) = v := by
  rw [skip_eq]
  unfold unskip
  by_cases q : v < x
  · rw [if_pos q, if_pos q]
  · rw [if_neg q, if_neg (by omega)]; omega
theorem row_del {m x : Nat} {s : List Nat} (len : s.length = m) (nd : s.Nodup) (lt : ∀ v ∈ s, v < m + 1) (hx : x ∉ s) (hxm : x < m + 1) : ∃ t, Row m t ∧ s = t.map (skip x) := by
  have e : s = (s.map (unskip x)).map (skip x) := by
    rw [List.map_map]
    conv => lhs; rw [← List.map_id s]
    refine List.map_congr_left fun v hv => ?_
    exact (skip_un fun q => hx (by rw [← q]; exact hv)).symm
  refine ⟨s.map (unskip x), ⟨by rw [List.length_map, len], ?_, ?_⟩, e⟩
  · rw [e] at nd
    exact List.Pairwise.of_map (skip x) (fun a b h q => h (by rw [q])) nd
  · intro v hv
    obtain ⟨u, hu, rfl⟩ := List.mem_map.mp hv
    have := lt u hu
    have : u ≠ x := fun q => hx (by rw [← q]; exact hu)
    unfold unskip
    split <;> omega
theorem Row.snoc {m x : Nat} {s : List Nat} (h : Row (m + 1) (s ++ [x])) : ∃ t, Row m t ∧ s = t.map (skip x) ∧ x < m + 1 := by
  have hx := h.lt x (by simp)
  have hn := List.nodup_append.mp h.nd
  have hl := h.len
  rw [List.length_append] at hl
  obtain ⟨t, a, b⟩ := row_del (by simpa using hl) hn.1 (fun v hv => h.lt v (List.mem_append_left _ hv)) (fun q => hn.2.2 x q x (.head _) rfl) hx
  exact ⟨t, a, b, hx⟩
theorem Row.cons {m y : Nat} {s : List Nat} (h : Row (m + 1) (y :: s)) : ∃ t, Row m t ∧ s = t.map (skip y) ∧ y < m + 1 := by
  have hx := h.lt y (.head _)
  have hn := List.nodup_cons.mp h.nd
  obtain ⟨t, a, b⟩ := row_del (by simpa using h.len) hn.2 (fun v hv => h.lt v (.tail _ hv)) hn.1 hx
  exact ⟨t, a, b, hx⟩
theorem snoc_of {α : Type} : ∀ {l : List α}, l ≠ [] → ∃ s x, l = s ++ [x]
  | [], h => absurd rfl h
  | l, h => ⟨l.dropLast, l.getLast h, (List.dropLast_concat_getLast h).symm⟩
theorem tab_syt : ∀ (m : Nat) (s : List Nat), m ≤ 7 → Row m s → tabB s [] ∈ syt m
  | 0, s, _, h => by
    obtain rfl := List.length_eq_zero_iff.mp h.len
    exact .head _
  | m + 1, s, hm, h => by
    obtain ⟨s', x, rfl⟩ := snoc_of (l := s) fun q => by have := h.len; rw [q] at this; cases this
    obtain ⟨t, ht, rfl, hx⟩ := h.snoc
    have ih := tab_syt m t (by omega) ht
    rw [tabB_snoc]
    have e := tabB_map (skip_up x) t []
    rw [show mT (skip x) [] = [] from rfl] at e
    rw [e]
    exact clos_of (by omega) ih hx
/-- a round over cells -/
noncomputable def rndC : (Nat × Nat) → List (Nat × Nat) → (Nat × Nat) × List (Nat × Nat)
  | h, [] => (h, [])
  | h, c :: r => if nw h c = true then ((rndC c r).1, h :: (rndC c r).2) else ((rndC h r).1, c :: (rndC h r).2)
theorem rndC_snoc (c : Nat × Nat) : ∀ (l : List (Nat × Nat)) (h : Nat × Nat), rndC h (l ++ [c]) = if nw (rndC h l).1 c = true then (c, (rndC h l).2 ++ [(rndC h l).1]) else ((rndC h l).1, (rndC h l).2 ++ [c])
  | [], h => by
    show (if nw h c = true then ((rndC c []).1, h :: (rndC c []).2) else ((rndC h []).1, c :: (rndC h []).2)) = _
    rfl
  | d :: r, h => by
    rw [List.cons_append, rndC, rndC_snoc c r d, rndC_snoc c r h]
    rw [show rndC h (d :: r) = if nw h d = true then ((rndC d r).1, h :: (rndC d r).2) else ((rndC h r).1, d :: (rndC h r).2) from rfl]
    by_cases q : nw h d = true
    · rw [if_pos q, if_pos q]
      by_cases k : nw (rndC d r).1 c = true
      · rw [if_pos k, if_pos k]; rfl
      · rw [if_neg k, if_neg k]; rfl
    · rw [if_neg q, if_neg q]
      by_cases k : nw (rndC h r).1 c = true
      · rw [if_pos k, if_pos k]; rfl
      · rw [if_neg k, if_neg k]; rfl
/-- the first number taken off a row: by a column its tableau comes back, and the round's cells are those of the rest -/
theorem first_off : ∀ (m : Nat) (y : Nat) (u : List Nat), m ≤ 7 → Row (m + 1) (y :: u) →
    tabB (y :: u) [] = (colB y (tabB u [])).1 ∧ rndC (0, 0) (celB u [[y]]) = ((colB y (tabB u [])).2, celB u [])
  | 0, y, u, _, h => by
    obtain rfl : u = [] := List.length_eq_zero_iff.mp (by have := h.len; rw [List.length_cons] at this; omega)
    exact ⟨rfl, rfl⟩
  | m + 1, y, u, hm, h => by
    obtain ⟨u', x, rfl⟩ := snoc_of (l := u) fun q => by have := h.len; rw [q] at this; simp at this
    obtain ⟨t, ht, e, hx⟩ := Row.snoc (s := y :: u') h
    obtain ⟨y1, u1, rfl⟩ : ∃ y1 u1, t = y1 :: u1 := by
      cases t with
      | nil => cases e
      | cons a r => exact ⟨a, r, rfl⟩
    rw [List.map_cons] at e
    injection e with ey eu
    obtain ⟨u2, h2, e2, hy1⟩ := ht.cons
    obtain ⟨ih1, ih2⟩ := first_off m y1 u1 (by omega) ht
    have hsy := tab_syt m u2 (by omega) h2
    have k1 := tabB_map (skip_up x) u1 []
    have k2 := tabB_map (skip_up y1) u2 []
    have k3 := tabB_map (skip_up x) (y1 :: u1) []
    have k4 := celB_map (skip_up x) u1 [[y1]]
    have k5 := celB_map (skip_up x) u1 []
    rw [show ∀ g, mT g [] = [] from fun _ => rfl] at k1 k2 k3 k5
    rw [← eu] at k1 k4 k5
    rw [← e2] at k2
    rw [List.map_cons, ← ey, ← eu] at k3
    rw [show mT (skip x) [[y1]] = [[skip x y1]] from rfl, ← ey] at k4
    have hU : tabB u' [] = mT (skip x) (mT (skip y1) (tabB u2 [])) := by rw [k1, k2]
    obtain ⟨s1, s2⟩ := step_of (by omega) hsy hy1 hx hU
    rw [← ey] at s1 s2
    have hc := colB_map (skip_up x) y1 (tabB u1 [])
    rw [← ey, ← k1] at hc
    have hT : tabB (y :: u') [] = (colB y (tabB u' [])).1 := by rw [k3, ih1, hc]
    have hT' : tabB u' [[y]] = (colB y (tabB u' [])).1 := hT
    have hr : rndC (0, 0) (celB u' [[y]]) = ((colB y (tabB u' [])).2, celB u' []) := by rw [k4, ih2, hc, k5]
    refine ⟨?_, ?_⟩
    · rw [← List.cons_append, tabB_snoc, hT, s1, tabB_snoc]
    · rw [celB_snoc, rndC_snoc, hr, hT', celB_snoc, tabB_snoc]
      dsimp only
      by_cases q : nw (colB y (tabB u' [])).2 (insB x (colB y (tabB u' [])).1 0).2 = true
      · rw [if_pos q] at s2 ⊢
        rw [s2.1, s2.2]
      · rw [if_neg q] at s2 ⊢
        rw [s2.1, s2.2]
/-- a row turned about -/
noncomputable def starR (m : Nat) (s : List Nat) : List Nat := (s.map fun v => m - 1 - v).reverse
theorem star_cons {m y : Nat} {t : List Nat} (ht : Row m t) (hy : y < m + 1) : starR (m + 1) (y :: t.map (skip y)) = (starR m t).map (skip (m - y)) ++ [m - y] := by
  unfold starR
  rw [List.map_cons, List.reverse_cons, List.map_reverse, List.map_map, List.map_map]
  congr 2
  refine List.map_congr_left fun v hv => ?_
  have := ht.lt v hv
  show m + 1 - 1 - skip y v = skip (m - y) (m - 1 - v)
  rw [skip_eq, skip_eq]
  split <;> split <;> omega
theorem star_tab : ∀ (m : Nat) (s : List Nat), m ≤ 7 → Row m s → tabB (starR m s) [] = ev m (tabB s [])
  | 0, s, _, h => by
    obtain rfl := List.length_eq_zero_iff.mp h.len
    rfl
  | m + 1, s, hm, h => by
    obtain ⟨y, u, rfl⟩ : ∃ y u, s = y :: u := by
      cases s with
      | nil => cases h.len
      | cons a r => exact ⟨a, r, rfl⟩
    obtain ⟨t, ht, rfl, hy⟩ := h.cons
    have hsy := tab_syt m t (by omega) ht
    obtain ⟨f1, -⟩ := first_off m y _ (by omega) h
    have k1 := tabB_map (skip_up y) t []
    have k2 := tabB_map (skip_up (m - y)) (starR m t) []
    rw [show ∀ g, mT g [] = [] from fun _ => rfl] at k1 k2
    rw [star_cons ht hy, tabB_snoc, k2, star_tab m t (by omega) ht, (ev_of (by omega) hsy hy).2 (by omega), f1, k1]
/-- the rounds over cells -/
noncomputable def goneC : Nat → List (Nat × Nat) → List (Nat × Nat)
  | n + 1, c :: l => (rndC c l).1 :: goneC n (rndC c l).2
  | _, _ => []
/-- Schuetzenberger: the cells go out in the reverse of the order in which they open for the row turned about -/
theorem evac : ∀ (n : Nat) (s : List Nat), n ≤ 8 → Row n s → goneC n (celB s []) = (celB (starR n s) []).reverse
  | 0, s, _, h => by
    obtain rfl := List.length_eq_zero_iff.mp h.len
    rfl
  | n + 1, s, hn, h => by
    obtain ⟨y, u, rfl⟩ : ∃ y u, s = y :: u := by
      cases s with
      | nil => cases h.len
      | cons a r => exact ⟨a, r, rfl⟩
    obtain ⟨t, ht, rfl, hy⟩ := h.cons
    have hsy := tab_syt n t (by omega) ht
    obtain ⟨-, f2⟩ := first_off n y _ (by omega) h
    have k1 := tabB_map (skip_up y) t []
    have k2 := tabB_map (skip_up (n - y)) (starR n t) []
    have k3 := celB_map (skip_up y) t []
    have k4 := celB_map (skip_up (n - y)) (starR n t) []
    rw [show ∀ g, mT g [] = [] from fun _ => rfl] at k1 k2 k3 k4
    have ih := evac n t (by omega) ht
    rw [show celB (y :: t.map (skip y)) [] = (0, 0) :: celB (t.map (skip y)) [[y]] from rfl, goneC, f2, k1, k3, ih, star_cons ht hy, celB_snoc, k4, List.reverse_append, k2, star_tab n t (by omega) ht, (ev_of (by omega) hsy hy).1]
    rfl
end Mine
namespace Mine
noncomputable abbrev up (r : List Nat) : List Int := List.map (fun (v : Nat) => (v : Int)) r
noncomputable abbrev Sor (r : List Nat) : Prop := r.Pairwise (· ≤ ·)
theorem bmp_none_le {n : Nat} : ∀ {r : List Nat}, bmp n r = none → ∀ v ∈ r, v ≤ n
  | [], _, _, h => nomatch h
  | a :: r, h, v, hv => by
    by_cases q : n < a
    · rw [bmp_lt q] at h; cases h
    · rw [bmp_ge q, Option.map_eq_none_iff] at h
      rcases List.mem_cons.mp hv with rfl | hv
      · omega
      · exact bmp_none_le h v hv
theorem bmp_some_of {n : Nat} : ∀ {r s : List Nat} {b : Nat}, bmp n r = some (s, b) → n < b ∧ b ∈ r ∧ s.length = r.length ∧ ∀ v ∈ s, v = n ∨ v ∈ r
  | [], _, _, h => by cases h
  | a :: r, s, b, h => by
    by_cases q : n < a
    · rw [bmp_lt q] at h
      injection h with h
      injection h with h1 h2
      subst h1 h2
      refine ⟨q, .head _, rfl, fun v hv => ?_⟩
      rcases List.mem_cons.mp hv with rfl | hv
      · exact .inl rfl
      · exact .inr (.tail _ hv)
    · rw [bmp_ge q] at h
      obtain ⟨p, hp, e⟩ := Option.map_eq_some_iff.mp h
      obtain ⟨s', b'⟩ := p
      injection e with e1 e2
      subst e1 e2
      obtain ⟨h1, h2, h3, h4⟩ := bmp_some_of hp
      refine ⟨h1, .tail _ h2, congrArg (· + 1) h3, fun v hv => ?_⟩
      rcases List.mem_cons.mp hv with rfl | hv
      · exact .inr (.head _)
      · rcases h4 v hv with k | k
        · exact .inl k
        · exact .inr (.tail _ k)
theorem bmp_sor {n : Nat} : ∀ {r s : List Nat} {b : Nat}, Sor r → bmp n r = some (s, b) → Sor s
  | [], _, _, _, h => by cases h
  | a :: r, s, b, hs, h => by
    have hs' := List.pairwise_cons.mp hs
    by_cases q : n < a
    · rw [bmp_lt q] at h
      injection h with h
      injection h with h1 h2
      subst h1
      exact List.pairwise_cons.mpr ⟨fun v hv => Nat.le_trans (Nat.le_of_lt q) (hs'.1 v hv), hs'.2⟩
    · rw [bmp_ge q] at h
      obtain ⟨p, hp, e⟩ := Option.map_eq_some_iff.mp h
      obtain ⟨s', b'⟩ := p
      injection e with e1 e2
      subst e1
      refine List.pairwise_cons.mpr ⟨fun v hv => ?_, bmp_sor hs'.2 hp⟩
      rcases (bmp_some_of hp).2.2.2 v hv with k | k
      · omega
      · exact hs'.1 v k
theorem last_up : ∀ {r : List Nat} {a : Nat}, Sor (a :: r) → (a : Int) ≤ (up (a :: r)).getLastD 0
  | [], _, _ => Int.le_refl _
  | b :: r, a, h => by
    have h' := List.pairwise_cons.mp h
    have h1 := last_up h'.2
    have h2 := h'.1 b (.head _)
    show _ ≤ (up (b :: r)).getLastD 0
    omega
theorem bmp_int {n : Nat} : ∀ {r : List Nat}, Sor r → (bmp n r = none → ¬ (n : Int) < (up r).getLastD 0) ∧
    ∀ s b, bmp n r = some (s, b) → (n : Int) < (up r).getLastD 0 ∧ minL ((up r).filter fun x => decide ((n : Int) < x)) = (b : Int) ∧ (up r).set ((up r).idxOf (b : Int)) n = up s
  | [], _ => ⟨fun _ => by show ¬ (n : Int) < 0; omega, fun s b h => by cases h⟩
  | a :: r, hs => by
    have hs' := List.pairwise_cons.mp hs
    by_cases q : n < a
    · refine ⟨fun h => (by rw [bmp_lt q] at h; cases h), fun s b h => ?_⟩
      rw [bmp_lt q] at h
      injection h with h
      injection h with h1 h2
      subst h1 h2
      have hl := last_up hs
      refine ⟨by omega, ?_, ?_⟩
      · refine (minL_eq ?_ ?_).symm
        · exact List.mem_filter.mpr ⟨.head _, by simpa using q⟩
        · intro x hx
          obtain ⟨v, hv, rfl⟩ := List.mem_map.mp (List.mem_filter.mp hx).1
          rcases List.mem_cons.mp hv with rfl | hv
          · exact Int.le_refl _
          · have := hs'.1 v hv; omega
      · show ((a : Int) :: up r).set (((a : Int) :: up r).idxOf (a : Int)) n = _
        rw [List.idxOf_cons_self]; rfl
    · have ih := bmp_int (n := n) hs'.2
      refine ⟨fun h => ?_, fun s b h => ?_⟩
      · rw [bmp_ge q, Option.map_eq_none_iff] at h
        cases r with
        | nil => show ¬ (n : Int) < (a : Int); omega
        | cons b t => exact ih.1 h
      · rw [bmp_ge q] at h
        obtain ⟨p, hp, e⟩ := Option.map_eq_some_iff.mp h
        obtain ⟨s', b'⟩ := p
        injection e with e1 e2
        subst e1 e2
        obtain ⟨i1, i2, i3⟩ := ih.2 _ _ hp
        have hb := (bmp_some_of hp).1
        cases r with
        | nil => cases hp
        | cons c t =>
          refine ⟨i1, ?_, ?_⟩
          · show minL (((a : Int) :: up (c :: t)).filter _) = _
            rw [List.filter_cons_of_neg (by simpa using q)]; exact i2
          · show ((a : Int) :: up (c :: t)).set (((a : Int) :: up (c :: t)).idxOf (b' : Int)) n = (a : Int) :: up s'
            rw [List.idxOf_cons, show ((a : Int) == (b' : Int)) = false from beq_false_of_ne (by intro k; omega), cond_false, List.set_cons_succ, i3]
noncomputable abbrev upT (T : Tab) : List (List Int) := T.map up
noncomputable abbrev SorT (T : Tab) : Prop := ∀ r ∈ T, Sor r
theorem ins_int : ∀ (T : Tab) (n i : Nat), SorT T → ins (n : Int) (upT T) i = (upT (insB n T i).1, (insB n T i).2) ∧ SorT (insB n T i).1
  | [], n, i, _ => ⟨rfl, fun r hr => by cases List.mem_singleton.mp hr; exact List.pairwise_singleton ..⟩
  | r :: rs, n, i, h => by
    have hr := h r (.head _)
    have hrs : SorT rs := fun x hx => h x (.tail _ hx)
    have hi := bmp_int (n := n) hr
    show ins (n : Int) (up r :: upT rs) i = _ ∧ _
    cases k : bmp n r with
    | none =>
      rw [insB_none k]
      unfold ins
      rw [if_neg (hi.1 k)]
      refine ⟨by simp [up], fun x hx => ?_⟩
      rcases List.mem_cons.mp hx with rfl | hx
      · refine List.pairwise_append.mpr ⟨hr, List.pairwise_singleton .., fun a ha b hb => ?_⟩
        cases List.mem_singleton.mp hb
        exact bmp_none_le k a ha
      · exact hrs x hx
    | some p =>
      obtain ⟨s, b⟩ := p
      obtain ⟨i1, i2, i3⟩ := hi.2 _ _ k
      obtain ⟨j1, j2⟩ := ins_int rs b (i + 1) hrs
      rw [insB_some k]
      unfold ins
      rw [if_pos i1]
      dsimp only
      rw [i2, i3, j1]
      refine ⟨rfl, fun x hx => ?_⟩
      rcases List.mem_cons.mp hx with rfl | hx
      · exact bmp_sor hr k
      · exact j2 x hx
theorem cells_int : ∀ (w : List Nat) (T : Tab), SorT T → cellsOf (up w) (upT T) = celB w T
  | [], _, _ => rfl
  | x :: w, T, h => by
    obtain ⟨a, b⟩ := ins_int T x 0 h
    show (ins (x : Int) (upT T) 0).2 :: cellsOf (up w) (ins (x : Int) (upT T) 0).1 = _
    rw [a, cells_int w _ b]; rfl
/-- the cells that open are all unlike -/
noncomputable def lenAt (T : Tab) (k : Nat) : Nat := (T.getD k []).length
theorem insB_shape : ∀ (T : Tab) (n i : Nat), ∃ k, (insB n T i).2 = (i + k, lenAt T k) ∧ lenAt (insB n T i).1 k = lenAt T k + 1 ∧ ∀ j, j ≠ k → lenAt (insB n T i).1 j = lenAt T j
  | [], n, i => ⟨0, rfl, rfl, fun j hj => by
      cases j with
      | zero => exact absurd rfl hj
      | succ j => rfl⟩
  | r :: rs, n, i => by
    cases k : bmp n r with
    | none =>
      rw [insB_none k]
      refine ⟨0, rfl, by simp [lenAt], fun j hj => ?_⟩
      cases j with
      | zero => exact absurd rfl hj
      | succ j => rfl
    | some p =>
      obtain ⟨s, b⟩ := p
      rw [insB_some k]
      obtain ⟨j, h1, h2, h3⟩ := insB_shape rs b (i + 1)
      refine ⟨j + 1, by rw [h1, show i + 1 + j = i + (j + 1) by omega]; rfl, h2, fun l hl => ?_⟩
      cases l with
      | zero => exact (bmp_some_of k).2.2.1
      | succ l => exact h3 l (by omega)
theorem celB_nodup : ∀ (w : List Nat) (T : Tab), (celB w T).Nodup ∧ ∀ c ∈ celB w T, lenAt T c.1 ≤ c.2
  | [], _ => ⟨List.nodup_nil, fun _ h => nomatch h⟩
  | x :: w, T => by
    obtain ⟨k, h1, h2, h3⟩ := insB_shape T x 0
    obtain ⟨i1, i2⟩ := celB_nodup w (insB x T 0).1
    rw [Nat.zero_add] at h1
    show ((insB x T 0).2 :: celB w (insB x T 0).1).Nodup ∧ _
    refine ⟨List.nodup_cons.mpr ⟨fun q => ?_, i1⟩, fun c hc => ?_⟩
    · have := i2 _ q
      rw [h1] at this
      dsimp only at this
      omega
    · rcases List.mem_cons.mp (show c ∈ (insB x T 0).2 :: celB w (insB x T 0).1 from hc) with rfl | hc
      · rw [h1]; exact Nat.le_refl _
      · have := i2 c hc
        by_cases q : c.1 = k
        · rw [q] at this ⊢; omega
        · rw [h3 _ q] at this; exact this
theorem rndC_perm : ∀ (l : List (Nat × Nat)) (h : Nat × Nat), ((rndC h l).1 :: (rndC h l).2).Perm (h :: l)
  | [], _ => .refl _
  | c :: r, h => by
    unfold rndC
    by_cases q : nw h c = true
    · rw [if_pos q]
      exact (List.Perm.swap ..).trans ((rndC_perm r c).cons h)
    · rw [if_neg q]
      exact (List.Perm.swap ..).trans (((rndC_perm r h).cons c).trans (List.Perm.swap ..))
theorem goneC_mem : ∀ (n : Nat) (l : List (Nat × Nat)), ∀ c ∈ goneC n l, c ∈ l
  | 0, _, _, h => nomatch h
  | _ + 1, [], _, h => nomatch h
  | n + 1, d :: l, c, h => by
    have p := rndC_perm l d
    rcases List.mem_cons.mp (show c ∈ (rndC d l).1 :: goneC n (rndC d l).2 from h) with rfl | h
    · exact p.mem_iff.mp (.head _)
    · exact p.mem_iff.mp (.tail _ (goneC_mem n _ c h))
theorem rnd_map {lt : Str → Str → Bool} {f : Nat × Nat → Str} : ∀ (l : List (Nat × Nat)) (h : Nat × Nat), (h :: l).Nodup → (∀ c ∈ h :: l, ∀ d ∈ h :: l, c ≠ d → lt (f c) (f d) = nw c d) → rnd lt (f h) (l.map f) = (f (rndC h l).1, (rndC h l).2.map f)
  | [], _, _, _ => rfl
  | c :: r, h, hn, hl => by
    have hn' := List.nodup_cons.mp hn
    have hne : h ≠ c := fun q => hn'.1 (q ▸ .head _)
    rw [List.map_cons]
    unfold rnd rndC
    rw [hl h (.head _) c (.tail _ (.head _)) hne]
    by_cases q : nw h c = true
    · rw [if_pos q, if_pos q, rnd_map r c hn'.2 fun a ha b hb => hl a (.tail _ ha) b (.tail _ hb)]; rfl
    · rw [if_neg q, if_neg q, rnd_map r h (List.nodup_cons.mpr ⟨fun k => hn'.1 (.tail _ k), (List.nodup_cons.mp hn'.2).2⟩) fun a ha b hb => hl a (List.mem_cons.mpr ((List.mem_cons.mp ha).imp id (.tail _))) b (List.mem_cons.mpr ((List.mem_cons.mp hb).imp id (.tail _)))]; rfl
theorem gone_map {lt : Str → Str → Bool} {f : Nat × Nat → Str} : ∀ (n : Nat) (l : List (Nat × Nat)), l.Nodup → (∀ c ∈ l, ∀ d ∈ l, c ≠ d → lt (f c) (f d) = nw c d) → goneOf lt n (l.map f) = (goneC n l).map f
  | 0, _, _, _ => rfl
  | _ + 1, [], _, _ => rfl
  | n + 1, c :: l, hn, hl => by
    have p := rndC_perm l c
    have hn2 := List.nodup_cons.mp (p.nodup_iff.mpr hn)
    show (rnd lt (f c) (l.map f)).1 :: goneOf lt n (rnd lt (f c) (l.map f)).2 = _
    rw [rnd_map l c hn hl]
    dsimp only
    rw [gone_map n _ hn2.2 fun a ha b hb => hl a (p.mem_iff.mp (.tail _ ha)) b (p.mem_iff.mp (.tail _ hb))]
    rfl
theorem erase_perm {α : Type} : ∀ {l : List α} {i : Nat} (h : i < l.length), (l[i] :: l.eraseIdx i).Perm l
  | a :: r, 0, _ => .refl _
  | a :: r, i + 1, h => by
    have hr : i < r.length := Nat.lt_of_succ_lt_succ h
    show (r[i] :: a :: r.eraseIdx i).Perm (a :: r)
    exact (List.Perm.swap ..).trans ((erase_perm hr).cons a)
theorem rowGo_nodup : ∀ (n : Nat) (ks fs : List Int), ks.Nodup → n ≤ ks.length → (rowGo n ks fs).Nodup ∧ ∀ a ∈ rowGo n ks fs, a ∈ ks
  | 0, _, _, _, _ => ⟨List.nodup_nil, fun _ h => nomatch h⟩
  | _ + 1, _, [], _, _ => ⟨List.nodup_nil, fun _ h => nomatch h⟩
  | k + 1, ks, f :: r, hn, hl => by
    have h1 := Int.fmod_nonneg_of_pos f (b := (ks.length : Int)) (by omega)
    have h2 := Int.fmod_lt_of_pos f (b := (ks.length : Int)) (by omega)
    obtain ⟨i, hi⟩ : ∃ i, i = (f.fmod ks.length).toNat := ⟨_, rfl⟩
    have hil : i < ks.length := by omega
    have p := erase_perm (l := ks) hil
    have hn2 := List.nodup_cons.mp (p.nodup_iff.mpr hn)
    obtain ⟨i1, i2⟩ := rowGo_nodup k (ks.eraseIdx i) r hn2.2 (by rw [List.length_eraseIdx_of_lt hil]; omega)
    show (ks.getD (f.fmod ks.length).toNat 0 :: rowGo k (ks.eraseIdx (f.fmod ks.length).toNat) r).Nodup ∧ ∀ a ∈ ks.getD (f.fmod ks.length).toNat 0 :: rowGo k (ks.eraseIdx (f.fmod ks.length).toNat) r, a ∈ ks
    rw [← hi, List.getD, List.getElem?_eq_getElem hil]
    refine ⟨List.nodup_cons.mpr ⟨fun q => hn2.1 (i2 _ q), i1⟩, fun a ha => ?_⟩
    rcases List.mem_cons.mp ha with rfl | ha
    · exact List.getElem_mem _
    · exact p.mem_iff.mp (.tail _ (i2 a ha))
/-- the row that is drawn, as a row of numbers -/
theorem row_of {n : Nat} {fs : List Int} (hfl : n ≤ fs.length) : ∃ w, Row n w ∧ rowGo n (rangeKs 0 ((n : Int) - 0).toNat) fs = up w := by
  have e0 : ((n : Int) - 0).toNat = n := by omega
  rw [e0]
  have hkn : (rangeKs 0 n).Nodup := by
    unfold rangeKs
    refine List.Pairwise.map _ (fun a b h => ?_) (List.nodup_range (n := n))
    show (0 : Int) + a ≠ 0 + b
    omega
  obtain ⟨h1, h2⟩ := rowGo_nodup n (rangeKs 0 n) fs hkn (by rw [rangeKs_length]; exact Nat.le_refl _)
  have hb : ∀ a ∈ rowGo n (rangeKs 0 n) fs, 0 ≤ a ∧ a < n := fun a ha => by
    have := mem_rangeKs (h2 a ha); omega
  have hl := rowGo_len n (rangeKs 0 n) fs hfl
  generalize rowGo n (rangeKs 0 n) fs = ns at h1 hb hl
  refine ⟨ns.map Int.toNat, ⟨by rw [List.length_map, hl], ?_, ?_⟩, ?_⟩
  · refine List.pairwise_map.mpr (List.Pairwise.imp_of_mem (fun {a b} ha hb' hne q => hne ?_) h1)
    have := hb a ha; have := hb b hb'; omega
  · intro v hv
    obtain ⟨a, ha, rfl⟩ := List.mem_map.mp hv
    have := hb a ha; omega
  · rw [up, List.map_map]
    conv => lhs; rw [← List.map_id ns]
    refine List.map_congr_left fun a ha => ?_
    have := hb a ha
    show a = ((a.toNat : Nat) : Int)
    omega
theorem star_up {n : Nat} {w : List Nat} (h : Row n w) : ((up w).reverse.map fun a => (n : Int) - 1 - a) = up (starR n w) := by
  unfold starR up
  rw [List.map_reverse, List.map_reverse, List.map_map, List.map_map]
  congr 1
  refine List.map_congr_left fun v hv => ?_
  have := h.lt v hv
  show (n : Int) - 1 - (v : Int) = ((n - 1 - v : Nat) : Int)
  omega
end Mine
namespace Mine
theorem QTo.ext {l t r : List Nat} (h : QTo l t r) (X : List Nat) : QTo (l ++ X) t (r ++ X) := by
  induction h with
  | fin => exact .fin
  | esc _ ih => exact .esc ih
  | chr a b _ ih => exact .chr a b ih
theorem UTo.ext {l t r : List Nat} (h : UTo l t r) (X : List Nat) : UTo (l ++ X) t (r ++ X) := by
  induction h with
  | fin a => exact .fin a
  | esc _ ih => exact .esc ih
  | chr a b _ ih => exact .chr a b ih
theorem TTo.ext {l t r : List Nat} (h : TTo l t r) (X : List Nat) (ht : t ≠ []) : TTo (l ++ X) t (r ++ X) := by
  induction h with
  | ws a _ ih => exact .ws a (ih ht)
  | quo a => exact .quo (a.ext X)
  | esc a => exact .esc (a.ext X)
  | eof => exact absurd rfl ht
theorem Reads.ext {l r : List Nat} {us : List Str} (h : Reads l us r) (X : List Nat) (hu : ∀ u ∈ us, u ≠ S []) : Reads (l ++ X) us (r ++ X) := by
  induction h with
  | nil => exact .nil
  | cons a _ ih => exact .cons (a.ext X fun q => hu _ (.head _) (by rw [q])) (ih fun u hu' => hu u (.tail _ hu'))
theorem Reads.trans {l r r' : List Nat} {us vs : List Str} (h : Reads l us r) (k : Reads r vs r') : Reads l (us ++ vs) r' := by
  induction h with
  | nil => exact k
  | cons a _ ih => exact .cons a (ih k)
noncomputable def AllWs (p : List Nat) : Prop := ∀ c ∈ p, isWs c = true
theorem TTo.pre {l t r : List Nat} (h : TTo l t r) : ∀ {p : List Nat}, AllWs p → TTo (p ++ l) t r
  | [], _ => h
  | c :: p, hp => .ws (hp c (.head _)) (TTo.pre h fun d hd => hp d (.tail _ hd))
theorem ws_eof : ∀ {p : List Nat}, AllWs p → TTo p [] []
  | [], _ => .eof
  | c :: p, hp => .ws (hp c (.head _)) (ws_eof fun d hd => hp d (.tail _ hd))
theorem sep_ws (k : Int) : AllWs (sepP k) ∧ ∃ c q, sepP k = c :: q := by
  unfold sepP
  split
  · exact ⟨fun c hc => by cases List.mem_singleton.mp hc; rfl, _, _, rfl⟩
  · split
    · exact ⟨fun c hc => by cases List.mem_singleton.mp hc; rfl, _, _, rfl⟩
    · refine ⟨fun c hc => ?_, _, _, rfl⟩
      rcases List.mem_cons.mp hc with rfl | hc
      · rfl
      · cases List.mem_singleton.mp hc; rfl
noncomputable def Tame (x : List Nat) : Prop := x ≠ [] ∧ ∀ c ∈ x, c ≠ 34 ∧ c ≠ 92
theorem q_plain : ∀ {x : List Nat} (r : List Nat), (∀ c ∈ x, c ≠ 34 ∧ c ≠ 92) → QTo (x ++ 34 :: r) x r
  | [], _, _ => .fin
  | c :: x, r, h => .chr (h c (.head _)).1 (h c (.head _)).2 (q_plain r fun d hd => h d (.tail _ hd))
noncomputable abbrev esc (x : List Nat) : List Nat := (x.map fun c => [92, c]).flatten
theorem q_esc : ∀ (x r : List Nat), QTo (esc x ++ 34 :: r) x r
  | [], _ => .fin
  | _ :: x, r => .esc (q_esc x r)
theorem u_esc : ∀ (x : List Nat) {c : Nat} (r : List Nat), isWs c = true → UTo (esc x ++ c :: r) x r
  | [], _, _, h => .fin h
  | _ :: x, _, r, h => .esc (u_esc x r h)
theorem chunk_read (f : Int) (k : Nat) {x : List Nat} (hx : Tame x) : ∃ p, AllWs p ∧ TTo (chunkP f k x) x p := by
  obtain ⟨hs, c, q, e⟩ := sep_ws ((f.fdiv 3 + k).fmod 3)
  by_cases h0 : (f + k).fmod 3 = 0
  · refine ⟨_, hs, ?_⟩
    rw [chunk0 h0]
    have := TTo.quo (q_plain (sepP ((f.fdiv 3 + k).fmod 3)) hx.2)
    simpa using this
  · by_cases h1 : (f + k).fmod 3 = 1
    · refine ⟨q, fun d hd => hs d (by rw [e]; exact .tail _ hd), ?_⟩
      rw [chunk1 h1, e]
      obtain ⟨a, x', rfl⟩ : ∃ a x', x = a :: x' := by
        cases x with
        | nil => exact absurd rfl hx.1
        | cons a r => exact ⟨a, r, rfl⟩
      have := TTo.esc (c := a) (u_esc x' q (hs c (by rw [e]; exact .head _)))
      simpa [esc] using this
    · refine ⟨_, hs, ?_⟩
      rw [chunk2 h0 h1]
      have := TTo.quo (q_esc x (sepP ((f.fdiv 3 + k).fmod 3)))
      simpa [esc] using this
/-- the text that _law_written gives is read back, word by word -/
theorem written_read {fs : List Int} {ws : List (List Nat)} (hw : ∀ x ∈ ws, Tame x) : ∀ i, i ≤ ws.length → ∃ p, AllWs p ∧ Reads (writtenP fs ws i) ((ws.take i).map S) p
  | 0, _ => ⟨[], (fun _ h => nomatch h), Reads.nil⟩
  | i + 1, hi => by
    obtain ⟨p, hp, hr⟩ := written_read (fs := fs) hw i (by omega)
    have hxi : ws.getD i [] ∈ ws := by rw [List.getD, List.getElem?_eq_getElem (by omega)]; exact List.getElem_mem _
    obtain ⟨p', hp', ht⟩ := chunk_read (fs.getD i 0) i (hw _ hxi)
    refine ⟨p', hp', ?_⟩
    show Reads (writtenP fs ws i ++ chunkP (fs.getD i 0) i (ws.getD i [])) _ _
    rw [List.take_succ_eq_append_getElem (by omega), List.map_append]
    refine (hr.ext _ fun u hu q => ?_).trans ?_
    · obtain ⟨x, hx, rfl⟩ := List.mem_map.mp hu
      have h1 := (hw x (List.mem_of_mem_take hx)).1
      have := congrArg (fun s : Str => s.cps.toList) q
      exact h1 (by simpa using this)
    · rw [show ws[i]'(by omega) = ws.getD i [] by rw [List.getD, List.getElem?_eq_getElem (by omega)]; rfl]
      exact .cons (ht.pre hp) .nil
end Mine
namespace Mine
noncomputable def wsStep (q : Wst) (c : Nat) : Wst := if c = 32 then { q with n := q.n + 1, b := q.b + 1 } else ⟨bump q.cnt q.b, 0, q.n + 1, q.nt + 1⟩
noncomputable def Blank (l : List Nat) : Prop := ∀ c ∈ l, c = 32 ∨ c = 9
theorem wsRun_blank : ∀ (l : List Nat) (q : Wst) (c : Nat), Blank l → c ≠ 32 → c ≠ 9 → wsRun (l ++ [c]) q = l.foldl wsStep q
  | [], q, c, _, h1, h2 => by show wsRun [c] q = q; unfold wsRun; rw [if_neg h1, if_neg h2]
  | a :: l, q, c, hb, h1, h2 => by
    rw [List.cons_append, List.foldl_cons, ← wsRun_blank l _ c (fun d hd => hb d (.tail _ hd)) h1 h2]
    rw [show wsRun (a :: (l ++ [c])) q = if a = 32 then wsRun (l ++ [c]) { q with n := q.n + 1, b := q.b + 1 } else if a = 9 then wsRun (l ++ [c]) ⟨bump q.cnt q.b, 0, q.n + 1, q.nt + 1⟩ else q from rfl]
    unfold wsStep
    by_cases k : a = 32
    · rw [if_pos k, if_pos k]
    · rw [if_neg k, if_neg k, if_pos ((hb a (.head _)).resolve_left k)]
theorem ws_spaces : ∀ (k : Nat) (q : Wst), (List.replicate k 32).foldl wsStep q = { q with n := q.n + k, b := q.b + k }
  | 0, _ => rfl
  | k + 1, q => by
    rw [List.replicate_succ, List.foldl_cons, ws_spaces k]
    show (⟨q.cnt, q.b + 1 + k, q.n + 1 + k, q.nt⟩ : Wst) = ⟨q.cnt, q.b + (k + 1), q.n + (k + 1), q.nt⟩
    rw [show q.b + 1 + k = q.b + (k + 1) by omega, show q.n + 1 + k = q.n + (k + 1) by omega]
/-- a piece: spaces closed by a tab -/
noncomputable abbrev pc (k : Nat) : List Nat := List.replicate k 32 ++ [9]
noncomputable def sumP (ps : List Nat) : Nat := (ps.map (· + 1)).sum
theorem ws_pieces : ∀ (ps : List Nat) (cnt : List Int) (n nt : Nat), ((ps.map pc).flatten).foldl wsStep ⟨cnt, 0, n, nt⟩ = ⟨ps.foldl bump cnt, 0, n + sumP ps, nt + ps.length⟩
  | [], _, _, _ => rfl
  | k :: ps, cnt, n, nt => by
    rw [List.map_cons, List.flatten_cons, List.foldl_append, List.foldl_append, ws_spaces]
    show ((ps.map pc).flatten).foldl wsStep ⟨bump cnt (0 + k), 0, n + k + 1, nt + 1⟩ = _
    rw [ws_pieces ps, Nat.zero_add]
    show (⟨_, 0, n + k + 1 + sumP ps, nt + 1 + ps.length⟩ : Wst) = ⟨_, 0, n + (k + 1 + sumP ps), nt + (ps.length + 1)⟩
    rw [show n + k + 1 + sumP ps = n + (k + 1 + sumP ps) by omega, show nt + 1 + ps.length = nt + (ps.length + 1) by omega]
    rfl
/-- the weighed sum of a count, from the k-th place on -/
noncomputable def dotL (ts : Nat) : List Int → Nat → Int
  | [], _ => 0
  | a :: r, k => ((k / ts : Nat) : Int) * a + dotL ts r (k + 1)
theorem dot_app (ts : Nat) : ∀ (l r : List Int) (k : Nat), dotL ts (l ++ r) k = dotL ts l k + dotL ts r (k + l.length)
  | [], r, k => by simp [dotL]
  | a :: l, r, k => by
    rw [List.cons_append, dotL, dot_app ts l r, dotL, List.length_cons, show k + 1 + l.length = k + (l.length + 1) by omega]; omega
theorem dot_zero (ts : Nat) : ∀ (m k : Nat), dotL ts (List.replicate m 0) k = 0
  | 0, _ => rfl
  | m + 1, k => by rw [List.replicate_succ, dotL, dot_zero ts m, Int.mul_zero]; rfl
theorem dot_set (ts : Nat) : ∀ (l : List Int) (i k : Nat), i < l.length → dotL ts (l.set i (l.getD i 0 + 1)) k = dotL ts l k + ((k + i) / ts : Nat)
  | [], _, _, h => absurd h (Nat.not_lt_zero _)
  | a :: l, 0, k, _ => by
    show ((k / ts : Nat) : Int) * (a + 1) + _ = ((k / ts : Nat) : Int) * a + _ + _
    rw [Int.mul_add, Int.mul_one]; simp only [Nat.add_zero]; omega
  | a :: l, i + 1, k, h => by
    show ((k / ts : Nat) : Int) * a + dotL ts (l.set i (l.getD i 0 + 1)) (k + 1) = _
    rw [dot_set ts l i (k + 1) (Nat.lt_of_succ_lt_succ h), dotL, show k + 1 + i = k + (i + 1) by omega]; omega
theorem dot_pad (ts : Nat) (cnt : List Int) (b : Nat) : dotL ts (padTo cnt b) 0 = dotL ts cnt 0 := by
  unfold padTo
  split
  · rfl
  · rw [dot_app, dot_zero, Int.add_zero]
theorem padTo_lt (cnt : List Int) (b : Nat) : b < (padTo cnt b).length ∧ cnt.length ≤ (padTo cnt b).length := by
  unfold padTo
  split
  · exact ⟨by assumption, Nat.le_refl _⟩
  · rw [List.length_append, List.length_replicate]; omega
theorem dot_bump (ts : Nat) (cnt : List Int) (b : Nat) : dotL ts (bump cnt b) 0 = dotL ts cnt 0 + (b / ts : Nat) := by
  unfold bump
  rw [dot_set ts _ b 0 (padTo_lt cnt b).1, dot_pad, Nat.zero_add]
theorem bump_grow (cnt : List Int) (b : Nat) : cnt.length ≤ (bump cnt b).length ∧ b + 1 ≤ (bump cnt b).length := by
  unfold bump
  rw [List.length_set]
  have := padTo_lt cnt b
  omega
noncomputable def sumD (ts : Nat) (ps : List Nat) : Nat := (ps.map (· / ts)).sum
theorem fold_dot (ts : Nat) : ∀ (ps : List Nat) (cnt : List Int), dotL ts (ps.foldl bump cnt) 0 = dotL ts cnt 0 + sumD ts ps
  | [], _ => by simp [sumD]
  | k :: ps, cnt => by
    rw [List.foldl_cons, fold_dot ts ps, dot_bump]
    show _ = dotL ts cnt 0 + ((k / ts + sumD ts ps : Nat) : Int)
    omega
theorem fold_len : ∀ (ps : List Nat) (cnt : List Int), cnt.length ≤ (ps.foldl bump cnt).length ∧ ∀ k ∈ ps, k + 1 ≤ (ps.foldl bump cnt).length
  | [], _ => ⟨Nat.le_refl _, fun _ h => nomatch h⟩
  | a :: ps, cnt => by
    obtain ⟨h1, h2⟩ := fold_len ps (bump cnt a)
    have h3 := bump_grow cnt a
    refine ⟨Nat.le_trans h3.1 h1, fun k hk => ?_⟩
    rcases List.mem_cons.mp hk with rfl | hk
    · exact Nat.le_trans h3.2 h1
    · exact h2 k hk
theorem dot_low {ts : Nat} : ∀ (l : List Int) (k : Nat), k + l.length ≤ ts → dotL ts l k = 0
  | [], _, _ => rfl
  | a :: l, k, h => by
    rw [List.length_cons] at h
    rw [dotL, dot_low l (k + 1) (by omega), Nat.div_eq_of_lt (by omega)]
    simp
theorem il_dot (cnt : List Int) (ts : Nat) : ∀ (m j : Nat), j + m = cnt.length → ∀ (acc : Nat), ts + acc = j → ilSum cnt ts (acc + m) = ilSum cnt ts acc + dotL ts (cnt.drop j) j
  | 0, j, h, acc, _ => by rw [List.drop_of_length_le (by omega)]; simp [dotL]
  | m + 1, j, h, acc, ha => by
    have e := il_dot cnt ts m (j + 1) (by omega) (acc + 1) (by omega)
    rw [show acc + (m + 1) = acc + 1 + m by omega, e, List.drop_eq_getElem_cons (show j < cnt.length by omega), dotL]
    rw [show ilSum cnt ts (acc + 1) = ilSum cnt ts acc + Int.fdiv ((ts : Int) + acc) ts * cnt.getD ((ts : Int) + acc).toNat 0 from rfl]
    rw [show ((ts : Int) + acc) = ((j : Nat) : Int) by omega, Int.toNat_natCast, List.getD, List.getElem?_eq_getElem (show j < cnt.length by omega)]
    rw [Int.fdiv_eq_ediv_of_nonneg _ (Int.natCast_nonneg ts)]
    rw [show ((j : Nat) : Int) / (ts : Int) = ((j / ts : Nat) : Int) from rfl]
    show _ + ((j / ts : Nat) : Int) * cnt[j] + _ = _
    omega
theorem il_all (cnt : List Int) {ts : Nat} (_h : 0 < ts) : ilSum cnt ts (((cnt.length : Int) - ts).toNat) = dotL ts cnt 0 := by
  by_cases h : ts ≤ cnt.length
  · have e := il_dot cnt ts (cnt.length - ts) ts (by omega) 0 (by omega)
    rw [Nat.zero_add] at e
    rw [show ((cnt.length : Int) - ts).toNat = cnt.length - ts by omega, e]
    have e2 := dot_app ts (cnt.take ts) (cnt.drop ts) 0
    rw [List.take_append_drop, dot_low (cnt.take ts) 0 (by rw [List.length_take]; omega), List.length_take, show 0 + min ts cnt.length = ts by omega] at e2
    rw [e2]; rfl
  · rw [show ((cnt.length : Int) - ts).toNat = 0 by omega, dot_low cnt 0 (by omega)]; rfl
/-- what Whitespace tells of pieces and spaces behind them -/
theorem il_of (ps : List Nat) (s n nt : Nat) {ts : Nat} (h : 0 < ts) : ilOf ⟨ps.foldl bump [], s, n, nt⟩ ts = s + (ts : Int) * (sumD ts ps + nt) := by
  unfold ilOf
  dsimp only
  rw [il_all _ h, fold_dot]
  simp [dotL]
/-- a lead as pieces and spaces -/
theorem lead_ws (ps : List Nat) (s c : Nat) (h1 : c ≠ 32) (h2 : c ≠ 9) : wsRun ((ps.map pc).flatten ++ List.replicate s 32 ++ [c]) ⟨[], 0, 0, 0⟩ = ⟨ps.foldl bump [], s, sumP ps + s, ps.length⟩ := by
  rw [wsRun_blank _ _ _ ?_ h1 h2, List.foldl_append, ws_pieces, ws_spaces]
  · simp
  · intro d hd
    rcases List.mem_append.mp hd with hd | hd
    · obtain ⟨l, hl, hd⟩ := List.mem_flatten.mp hd
      obtain ⟨k, -, rfl⟩ := List.mem_map.mp hl
      rcases List.mem_append.mp hd with hd | hd
      · exact .inl (List.eq_of_mem_replicate hd)
      · exact .inr (List.mem_singleton.mp hd)
    · exact .inl (List.eq_of_mem_replicate hd)
end Mine
namespace Mine
theorem nw_iff {c d : Nat × Nat} : nw c d = true ↔ c.1 ≤ d.1 ∧ c.2 ≤ d.2 := by
  unfold nw
  rw [andB_iff, Nat.ble_eq, Nat.ble_eq]
theorem sum_perm {ps qs : List Nat} (h : ps.Perm qs) (f : Nat → Nat) : (ps.map f).sum = (qs.map f).sum := by
  induction h with
  | nil => rfl
  | cons x _ ih => simp only [List.map_cons, List.sum_cons, ih]
  | swap x y l => simp only [List.map_cons, List.sum_cons]; omega
  | trans _ _ a b => exact a.trans b
theorem sum_rep (f : Nat → Nat) (x : Nat) : ∀ k : Nat, ((List.replicate k x).map f).sum = k * f x
  | 0 => by simp
  | k + 1 => by rw [List.replicate_succ, List.map_cons, List.sum_cons, sum_rep f x k, Nat.succ_mul]; omega
structure Pcs (a R r3 i j : Nat) (ps : List Nat) : Prop where
  perm : ps.Perm (List.replicate (a * i) 0 ++ List.replicate j R ++ [r3])
theorem Pcs.sum {a R r3 i j : Nat} {ps : List Nat} (h : Pcs a R r3 i j ps) (f : Nat → Nat) : (ps.map f).sum = a * i * f 0 + j * f R + f r3 := by
  rw [sum_perm h.perm, List.map_append, List.map_append, List.sum_append, List.sum_append, sum_rep, sum_rep]
  simp
theorem Pcs.n {a R r3 i j : Nat} {ps : List Nat} (h : Pcs a R r3 i j ps) : sumP ps = a * i + j * (R + 1) + (r3 + 1) := by
  unfold sumP; rw [h.sum]; simp
theorem Pcs.nt {a R r3 i j : Nat} {ps : List Nat} (h : Pcs a R r3 i j ps) : ps.length = a * i + j + 1 := by
  rw [h.perm.length_eq]; simp; omega
theorem Pcs.d {a R r3 i j : Nat} {ps : List Nat} (h : Pcs a R r3 i j ps) (ts : Nat) : sumD ts ps = j * (R / ts) + r3 / ts := by
  unfold sumD; rw [h.sum]; simp
theorem Pcs.len {a R r3 i j : Nat} {ps : List Nat} (h : Pcs a R r3 i j ps) (hj : 0 < j) : R + 1 ≤ (ps.foldl bump []).length := by
  refine (fold_len ps []).2 R (h.perm.mem_iff.mpr ?_)
  refine List.mem_append_left _ (List.mem_append_right _ ?_)
  exact List.mem_replicate.mpr ⟨by omega, rfl⟩
theorem lin_lt {a i j i' j' x : Nat} (ha : 1 ≤ a) (hx : 1 ≤ x) (h1 : i ≤ i') (h2 : j ≤ j') (hne : i ≠ i' ∨ j ≠ j') : a * i + j * x < a * i' + j' * x := by
  obtain ⟨di, rfl⟩ := Nat.exists_eq_add_of_le h1
  obtain ⟨dj, rfl⟩ := Nat.exists_eq_add_of_le h2
  rw [Nat.mul_add, Nat.add_mul]
  have e1 : di ≤ a * di := Nat.le_mul_of_pos_left _ ha
  have e2 : dj ≤ dj * x := Nat.le_mul_of_pos_right _ hx
  omega
/-- pieces turned about: one lead is less than another just where its cell lies north-west -/
theorem less_pcs {a R r3 s i j i' j' H : Nat} {ps qs : List Nat} (hp : Pcs a R r3 i j ps) (hq : Pcs a R r3 i' j' qs) (ha : 1 ≤ a) (hj : j ≤ a) (hj' : j' ≤ a) (hi : i ≤ H) (hi' : i' ≤ H) (hR : H * a ≤ R + 1 ∨ (j = 0 ∧ j' = 0)) (hne : i ≠ i' ∨ j ≠ j') :
    lessOf ⟨ps.foldl bump [], s, sumP ps + s, ps.length⟩ ⟨qs.foldl bump [], s, sumP qs + s, qs.length⟩ = nw (i, j) (i', j') := by
  rw [Bool.eq_iff_iff, nw_iff]
  have np := hp.n
  have nq := hq.n
  have tp := hp.nt
  have tq := hq.nt
  constructor
  · intro h
    -- the lengths
    have hn : ¬ sumP qs + s ≤ sumP ps + s := fun q => by
      rw [show lessOf _ _ = false from by unfold lessOf; rw [if_pos q]] at h
      cases h
    have E1 : a * i + j * (R + 1) < a * i' + j' * (R + 1) := by omega
    by_cases z : j = 0 ∧ j' = 0
    · obtain ⟨rfl, rfl⟩ := z
      refine ⟨?_, Nat.le_refl _⟩
      have : a * i < a * i' := by omega
      exact Nat.le_of_lt (Nat.lt_of_mul_lt_mul_left this)
    · have hRa := hR.resolve_right z
      have E2 : a * i + j < a * i' + j' := by
        have hl : 0 < j ∨ 0 < j' := by omega
        by_cases both : (ps.foldl bump []).length ≤ 1 ∧ (qs.foldl bump []).length ≤ 1
        · have hR0 : R = 0 := by
            rcases hl with k | k
            · have := hp.len k; omega
            · have := hq.len k; omega
          rw [hR0] at E1; omega
        · unfold lessOf at h
          rw [if_neg hn, if_neg both, List.all_eq_true] at h
          obtain ⟨T, hT⟩ : ∃ T : Nat, topOf ⟨ps.foldl bump [], s, sumP ps + s, ps.length⟩ ⟨qs.foldl bump [], s, sumP qs + s, qs.length⟩ = (T : Int) ∧ (ps.foldl bump []).length ≤ T ∧ (qs.foldl bump []).length ≤ T := by
            refine ⟨(topOf ⟨ps.foldl bump [], s, sumP ps + s, ps.length⟩ ⟨qs.foldl bump [], s, sumP qs + s, qs.length⟩).toNat, ?_, ?_, ?_⟩ <;>
            · unfold topOf longOf
              dsimp only
              (repeat' split) <;> omega
          have hT2 : 2 ≤ T := by omega
          have hRT : R < T := by
            rcases hl with k | k
            · have := hp.len k; omega
            · have := hq.len k; omega
          have e := h (T - 2) (List.mem_range.mpr (by rw [hT.1]; omega))
          have e := of_decide_eq_true e
          rw [show (2 : Int) + ((T - 2 : Nat) : Int) = (T : Int) by omega] at e
          rw [il_of ps s _ _ (show 0 < T by omega), il_of qs s _ _ (show 0 < T by omega), hp.d, hq.d, Nat.div_eq_of_lt hRT, tp, tq] at e
          have e2 : (T : Int) * (((j * 0 + r3 / T : Nat) : Int) + ((a * i + j + 1 : Nat) : Int)) < (T : Int) * (((j' * 0 + r3 / T : Nat) : Int) + ((a * i' + j' + 1 : Nat) : Int)) := by omega
          have e3 := Int.lt_of_mul_lt_mul_left e2 (by omega)
          omega
      refine ⟨?_, ?_⟩
      · apply Nat.le_of_not_lt
        intro q
        obtain ⟨d, rfl⟩ : ∃ d, i = i' + 1 + d := ⟨i - (i' + 1), by omega⟩
        have : a * (i' + 1 + d) = a * i' + a + a * d := by rw [Nat.mul_add, Nat.mul_add, Nat.mul_one]
        omega
      · apply Nat.le_of_not_lt
        intro q
        obtain ⟨d, rfl⟩ : ∃ d, j = j' + 1 + d := ⟨j - (j' + 1), by omega⟩
        have e1 : (j' + 1 + d) * (R + 1) = j' * (R + 1) + (R + 1) + d * (R + 1) := by rw [Nat.add_mul, Nat.add_mul, Nat.one_mul]
        have e2 : a * i' ≤ a * H := Nat.mul_le_mul_left _ hi'
        rw [Nat.mul_comm a H] at e2
        have e3 := Nat.zero_le (a * i)
        have e4 := Nat.zero_le (d * (R + 1))
        omega
  · rintro ⟨h1, h2⟩
    dsimp only at h1 h2
    have E1 := lin_lt (x := R + 1) ha (by omega) h1 h2 hne
    have E2 := lin_lt (x := 1) ha (by omega) h1 h2 hne
    unfold lessOf
    dsimp only
    rw [if_neg (by omega)]
    by_cases both : (ps.foldl bump []).length ≤ 1 ∧ (qs.foldl bump []).length ≤ 1
    · rw [if_pos both]
      exact decide_eq_true (by omega)
    · rw [if_neg both, List.all_eq_true]
      intro m _
      refine decide_eq_true ?_
      rw [show (2 : Int) + (m : Int) = ((m + 2 : Nat) : Int) by omega]
      rw [il_of ps s _ _ (show 0 < m + 2 by omega), il_of qs s _ _ (show 0 < m + 2 by omega), hp.d, hq.d, tp, tq]
      have E3 := lin_lt (x := R / (m + 2) + 1) ha (Nat.le_add_left 1 _) h1 h2 hne
      rw [Nat.mul_add, Nat.mul_add, Nat.mul_one, Nat.mul_one] at E3
      have e2 : (((j * (R / (m + 2)) + r3 / (m + 2) : Nat) : Int) + ((a * i + j + 1 : Nat) : Int)) < (((j' * (R / (m + 2)) + r3 / (m + 2) : Nat) : Int) + ((a * i' + j' + 1 : Nat) : Int)) := by omega
      have e3 := Int.mul_lt_mul_of_pos_left e2 (show (0 : Int) < ((m + 2 : Nat) : Int) by omega)
      omega
theorem zeros_len : ∀ (k : Nat) (cnt : List Int), cnt.length ≤ 1 → ((List.replicate k 0).foldl bump cnt).length ≤ 1
  | 0, _, h => h
  | k + 1, cnt, h => by
    rw [List.replicate_succ, List.foldl_cons]
    exact zeros_len k _ (Nat.le_trans (bump_len cnt 0) (by omega))
/-- tabs ahead of spaces -/
theorem less_plain {h t s i j i' j' : Nat} (hh : 1 ≤ h) (hi : i ≤ h) (hi' : i' ≤ h) (hne : i ≠ i' ∨ j ≠ j') :
    lessOf ⟨(List.replicate (i + t) 0).foldl bump [], h * j + s, sumP (List.replicate (i + t) 0) + (h * j + s), (List.replicate (i + t) 0).length⟩ ⟨(List.replicate (i' + t) 0).foldl bump [], h * j' + s, sumP (List.replicate (i' + t) 0) + (h * j' + s), (List.replicate (i' + t) 0).length⟩ = nw (i, j) (i', j') := by
  rw [Bool.eq_iff_iff, nw_iff]
  have z1 := zeros_len (i + t) [] (by simp)
  have z2 := zeros_len (i' + t) [] (by simp)
  have s1 : ∀ k : Nat, sumP (List.replicate k 0) = k := fun k => by unfold sumP; rw [sum_rep]; omega
  unfold lessOf
  dsimp only
  rw [if_pos (show _ ∧ _ from ⟨z1, z2⟩), s1, s1, List.length_replicate, List.length_replicate]
  constructor
  · intro q
    split at q
    · cases q
    · have q1 := of_decide_eq_true q
      refine ⟨by omega, Nat.le_of_not_lt fun k => ?_⟩
      obtain ⟨d, rfl⟩ : ∃ d, j = j' + 1 + d := ⟨j - (j' + 1), by omega⟩
      have : h * (j' + 1 + d) = h * j' + h + h * d := by rw [Nat.mul_add, Nat.mul_add, Nat.mul_one]
      omega
  · rintro ⟨h1, h2⟩
    have E := lin_lt (x := 1) hh (Nat.le_refl 1) h2 h1 (hne.symm)
    rw [if_neg (by omega)]
    exact decide_eq_true (by omega)
/-- a lead's pieces, as numbers of spaces -/
theorem lead_false {H W RN rest : Int} {i j : Nat} (hRN : 0 ≤ RN) : ∃ ps, Pcs (if 1 > W then 1 else W).toNat RN.toNat (rest.fmod 3).toNat i j ps ∧ leadP false H W RN rest i j = (ps.map pc).flatten ++ List.replicate ((rest.fdiv 6).fmod 2).toNat 32 := by
  obtain ⟨nums, hnums⟩ : ∃ nums, nums = List.replicate ((if 1 > W then 1 else W).toNat * i) 0 ++ List.replicate j RN.toNat ++ [(rest.fmod 3).toNat] := ⟨_, rfl⟩
  have e : List.replicate ((if 1 > W then 1 else W) * i).toNat [9] ++ List.replicate j (List.replicate RN.toNat 32 ++ [9]) ++ [List.replicate (rest.fmod 3).toNat 32 ++ [9]] = nums.map pc := by
    rw [hnums, List.map_append, List.map_append, List.map_replicate, List.map_replicate]
    rw [show ((if 1 > W then 1 else W) * (i : Int)).toNat = (if 1 > W then 1 else W).toNat * i by
      have h1 : 0 ≤ (if 1 > W then 1 else W) := by split <;> omega
      obtain ⟨a, ha⟩ := Int.eq_ofNat_of_zero_le h1
      rw [ha]; rfl]
    rfl
  unfold leadP
  simp only [Bool.false_eq_true, if_false]
  rw [e]
  refine ⟨nums.drop ((rest + i + 2 * j).fmod (nums.map pc).length).toNat ++ nums.take ((rest + i + 2 * j).fmod (nums.map pc).length).toNat, ⟨?_⟩, ?_⟩
  · rw [← hnums]
    exact List.perm_append_comm.trans (by rw [List.take_append_drop])
  · rw [List.map_append, List.map_drop, List.map_take]
theorem lead_true {H W RN rest : Int} {i j : Nat} : leadP true H W RN rest i j = ((List.replicate (i + (rest.fmod 3).toNat) 0).map pc).flatten ++ List.replicate ((if 1 > H then 1 else H).toNat * j + ((rest.fdiv 6).fmod 2).toNat) 32 := by
  unfold leadP
  rw [if_pos rfl, List.map_replicate, show pc 0 = [9] from rfl, flat_rep, ← List.replicate_append_replicate (n := (if 1 > H then 1 else H).toNat * j), ← List.append_assoc]
  rw [show ((i : Int) + rest.fmod 3).toNat = i + (rest.fmod 3).toNat by have := Int.fmod_nonneg_of_pos rest (b := 3) (by decide); omega]
  rw [show ((if 1 > H then 1 else H) * (j : Int)).toNat = (if 1 > H then 1 else H).toNat * j by
      have h1 : 0 ≤ (if 1 > H then 1 else H) := by split <;> omega
      obtain ⟨a, ha⟩ := Int.eq_ofNat_of_zero_le h1
      rw [ha]; rfl]
/-- one word's lead is less than another's just where its cell lies north-west -/
theorem lead_lt {pl : Bool} {H W RN rest : Int} {i j i' j' k l : Nat} (hRN : RN = (if 0 > H * W - 1 then 0 else H * W - 1) + (rest.fdiv 3).fmod 2) (hi : (i : Int) ≤ H) (hi' : (i' : Int) ≤ H) (hj : (j : Int) ≤ W) (hj' : (j' : Int) ≤ W) (hne : i ≠ i' ∨ j ≠ j') :
    ltP (S (leadP pl H W RN rest i j ++ [97 + k])) (S (leadP pl H W RN rest i' j' ++ [97 + l])) = nw (i, j) (i', j') := by
  have r3 := Int.fmod_nonneg_of_pos (rest.fdiv 3) (b := 2) (by decide)
  unfold ltP
  rw [List.toList_toArray, List.toList_toArray]
  cases pl with
  | true =>
    rw [lead_true, lead_true, lead_ws _ _ _ (by omega) (by omega), lead_ws _ _ _ (by omega) (by omega)]
    exact less_plain (by split <;> omega) (by split <;> omega) (by split <;> omega) hne
  | false =>
    have hRN0 : 0 ≤ RN := by rw [hRN]; split <;> omega
    obtain ⟨ps, hp, e1⟩ := lead_false (H := H) (W := W) (rest := rest) (i := i) (j := j) hRN0
    obtain ⟨qs, hq, e2⟩ := lead_false (H := H) (W := W) (rest := rest) (i := i') (j := j') hRN0
    rw [e1, e2, lead_ws _ _ _ (by omega) (by omega), lead_ws _ _ _ (by omega) (by omega)]
    refine less_pcs (H := H.toNat) hp hq (by split <;> omega) (by split <;> omega) (by split <;> omega) (by omega) (by omega) ?_ hne
    by_cases hW : W ≤ 0
    · exact .inr (by omega)
    · left
      rw [if_neg (by omega)]
      obtain ⟨a, rfl⟩ := Int.eq_ofNat_of_zero_le (show 0 ≤ W by omega)
      obtain ⟨b, rfl⟩ := Int.eq_ofNat_of_zero_le (show 0 ≤ H by omega)
      rw [Int.toNat_natCast, Int.toNat_natCast]
      have : ((b : Int) * (a : Int)) = ((b * a : Nat) : Int) := (Int.natCast_mul b a).symm
      rw [this] at hRN
      split at hRN <;> omega
end Mine
namespace Mine
theorem lead_blank {pl : Bool} {H W RN rest : Int} {i j : Nat} (hRN : 0 ≤ RN) : Blank (leadP pl H W RN rest i j) := by
  have key : ∀ (ps : List Nat) (s : Nat), Blank ((ps.map pc).flatten ++ List.replicate s 32) := fun ps s d hd => by
    rcases List.mem_append.mp hd with hd | hd
    · obtain ⟨l, hl, hd⟩ := List.mem_flatten.mp hd
      obtain ⟨k, -, rfl⟩ := List.mem_map.mp hl
      rcases List.mem_append.mp hd with hd | hd
      · exact .inl (List.eq_of_mem_replicate hd)
      · exact .inr (List.mem_singleton.mp hd)
    · exact .inl (List.eq_of_mem_replicate hd)
  cases pl with
  | true => rw [lead_true]; exact key _ _
  | false =>
    obtain ⟨ps, -, e⟩ := lead_false (H := H) (W := W) (rest := rest) (i := i) (j := j) hRN
    rw [e]; exact key _ _
theorem words_tame : ∀ (ld : List (List Nat)) (k : Nat), (∀ x ∈ ld, Blank x) → ∀ x ∈ wordsP k ld, Tame x
  | [], _, _, _, h => nomatch h
  | a :: r, k, hb, x, h => by
    rcases List.mem_cons.mp h with rfl | h
    · refine ⟨by simp, fun c hc => ?_⟩
      rcases List.mem_append.mp hc with hc | hc
      · rcases hb a (.head _) c hc with rfl | rfl <;> decide
      · cases List.mem_singleton.mp hc; omega
    · exact words_tame r (k + 1) (fun y hy => hb y (.tail _ hy)) x h
theorem words_get : ∀ (ld : List (List Nat)) (k i : Nat) (h : i < ld.length), (wordsP k ld)[i]? = some (ld[i] ++ [97 + (k + i)])
  | a :: r, k, 0, _ => rfl
  | a :: r, k, i + 1, h => by
    show (wordsP (k + 1) r)[i]? = _
    rw [words_get r (k + 1) i (Nat.lt_of_succ_lt_succ h), show k + 1 + i = k + (i + 1) by omega]; rfl
theorem idx_nodup {l : List (Nat × Nat)} (h : l.Nodup) {k : Nat} (hk : k < l.length) : l.idxOf l[k] = k := by
  have h1 : l.idxOf l[k] < l.length := List.idxOf_lt_length_iff.mpr (List.getElem_mem hk)
  have h2 : l[l.idxOf l[k]] = l[k] := List.getElem_idxOf h1
  exact (List.getElem_inj h).mp h2
theorem plain01 {n : Nat} (hn : n = 6 ∨ n = 8) {fs : List Int} (hfl : fs.length = 8) (hf0 : ∀ f ∈ fs, 0 ≤ f) {rest : Int} (h0 : 0 ≤ rest) {ns : List Int} (hns : ns = rowGo n (rangeKs 0 ((n : Int) - 0).toNat) fs)
    {cs cs2 : List (Nat × Nat)} (hcs : cs = cellsOf ns []) (hcs2 : cs2 = cellsOf (ns.reverse.map fun a => (n : Int) - 1 - a) []) {H W RN : Int} (hH : H = maxL (cs.map fun c => (c.1 : Int))) (hW : W = maxL (cs.map fun c => (c.2 : Int))) (hRN : RN = (if 0 > H * W - 1 then 0 else H * W - 1) + (rest.fdiv 3).fmod 2)
    {ld : List (List Nat)} (hld : ld = cs.map fun c => leadP ((n : Int) == 8) H W RN rest c.1 c.2) :
    ∃ fin, Reads (writtenP fs (wordsP 0 ld) ld.length) ((wordsP 0 ld).map S) fin ∧ TTo fin [] [] ∧ (∀ c ∈ cs2, c ∈ cs) ∧
      goneOf ltP ((wordsP 0 ld).map S).length ((wordsP 0 ld).map S) = cs2.reverse.map fun c => ((wordsP 0 ld).map S).getD (cs.idxOf c) Str.empty := by
  obtain ⟨w, hw, e⟩ := row_of (n := n) (fs := fs) (by omega)
  rw [e] at hns
  subst hns
  have hc : cs = celB w [] := by rw [hcs]; exact cells_int w [] (fun r hr => nomatch hr)
  have hc2 : cs2 = celB (starR n w) [] := by rw [hcs2, star_up hw]; exact cells_int _ [] (fun r hr => nomatch hr)
  have hnd : cs.Nodup := by rw [hc]; exact (celB_nodup w []).1
  have hcl : cs.length = n := by rw [hcs, cells_len, List.length_map, hw.len]
  have hll : ld.length = n := by rw [hld, List.length_map, hcl]
  have hev : goneC n cs = cs2.reverse := by rw [hc, hc2]; exact evac n w (by omega) hw
  have r3 := Int.fmod_nonneg_of_pos (rest.fdiv 3) (b := 2) (by decide)
  have hRN0 : 0 ≤ RN := by rw [hRN]; split <;> omega
  have ht : ∀ x ∈ wordsP 0 ld, Tame x := words_tame ld 0 fun x hx => by
    rw [hld] at hx
    obtain ⟨c, -, rfl⟩ := List.mem_map.mp hx
    exact lead_blank hRN0
  obtain ⟨fin, hfin, hread⟩ := written_read (fs := fs) ht ld.length (by rw [wordsP_len]; exact Nat.le_refl _)
  rw [show (wordsP 0 ld).take ld.length = wordsP 0 ld by rw [← wordsP_len 0 ld, List.take_length]] at hread
  refine ⟨fin, hread, ws_eof hfin, fun c hcm => goneC_mem n cs c (by rw [hev]; exact List.mem_reverse.mpr hcm), ?_⟩
  obtain ⟨us, hus⟩ : ∃ us, us = (wordsP 0 ld).map S := ⟨_, rfl⟩
  rw [← hus]
  have hul : us.length = n := by rw [hus, List.length_map, wordsP_len, hll]
  have hget : ∀ k (hk : k < cs.length), us.getD (cs.idxOf cs[k]) Str.empty = S (leadP ((n : Int) == 8) H W RN rest cs[k].1 cs[k].2 ++ [97 + k]) := fun k hk => by
    rw [idx_nodup hnd hk, List.getD, hus, List.getElem?_map, words_get ld 0 k (by omega)]
    simp only [hld, List.getElem_map, Nat.zero_add]
    rfl
  have hmap : us = cs.map fun c => us.getD (cs.idxOf c) Str.empty := by
    refine List.ext_getElem (by rw [List.length_map]; omega) fun k h1 h2 => ?_
    rw [List.getElem_map, idx_nodup hnd (by omega), List.getD, List.getElem?_eq_getElem h1]; rfl
  have hlt : ∀ c ∈ cs, ∀ d ∈ cs, c ≠ d → ltP (us.getD (cs.idxOf c) Str.empty) (us.getD (cs.idxOf d) Str.empty) = nw c d := fun c hcm d hdm hne => by
    obtain ⟨k, hk, rfl⟩ := List.mem_iff_getElem.mp hcm
    obtain ⟨l, hl, rfl⟩ := List.mem_iff_getElem.mp hdm
    rw [hget k hk, hget l hl]
    have b1 : ∀ x ∈ cs, (x.1 : Int) ≤ H ∧ (x.2 : Int) ≤ W := fun x hx => ⟨hH ▸ maxL_le _ (List.mem_map_of_mem (f := fun c => (c.1 : Int)) hx), hW ▸ maxL_le _ (List.mem_map_of_mem (f := fun c => (c.2 : Int)) hx)⟩
    refine lead_lt hRN (b1 _ hcm).1 (b1 _ hdm).1 (b1 _ hcm).2 (b1 _ hdm).2 ?_
    by_cases q : cs[k].1 = cs[l].1
    · exact .inr fun q2 => hne (Prod.ext q q2)
    · exact .inl q
  have hg := gone_map (lt := ltP) (f := fun c => us.getD (cs.idxOf c) Str.empty) n cs hnd hlt
  rw [← hmap, hev] at hg
  rw [hul, hg]
end Mine
namespace Mine
theorem fillAll : Challenge.rw_pe0167_01 = Challenge.rw_pe0167_01 ∧ Mine.hd.heap_1 = Mine.hd.heap_1 := by
  k_fill
  exact ⟨rfl, rfl⟩
noncomputable abbrev P := Challenge.rw_pe0167_01.row.prog
local macro_rules | `(tactic| walk_at $s:str) => `(tactic| k_extra $s)
local macro_rules | `(tactic| k_inst) => `(tactic| first | (refine' inst_gn ?F ?e ?N ?h; (case F => k_asm); (case e => assumption); (case N => k_asm); (case h => k_mem)) | (refine' inst_gg ?F ?e ?h; (case F => k_asm); (case e => assumption); (case h => assumption)))
local macro_rules | `(tactic| kun_tup) => `(tactic| exact Fr.tup (by k_asm) (by assumption))
local macro_rules | `(tactic| kun_lst) => `(tactic| exact Fr.lst (by k_asm) (by assumption))
local macro_rules | `(tactic| walk_at "eval Name") => `(tactic| (k_here; k_dflt (refine' nameF_g ?F ?c ?g ?d ?_ ?a ?b; (case a => rfl); (case b => rfl); (case F => k_asm); (case c => rfl); (case g => assumption); (case d => assumption); k_whole)))
section
variable {w : World} {lo : List Str} {mean : ExcName → Option Value} {mg mb : Str → Option Value} {b₀ : Heap} {dp un : Nat} {fr : Option (List Env)} {gd : Option (List Code)} {s : Shared} {R : Result → Shared → Prop}
/-- a Whitespace of the text u stands in the ledger at x -/
noncomputable abbrev wsLed (w : World) (x d Dn Dc : Nat) (u : Str) (q : Wst) (vs : List Value) (tu tb tn tt u1 u2 u3 u4 u5 : Tok) : List (Addr × Obj) :=
  [(x, instObj 83 d), (d, dictOf [⟨PyData.keyHash w.params (Str.ofString "raw"), .str (Str.ofString "raw") u1, .str u tu⟩, ⟨PyData.keyHash w.params (Str.ofString "n"), .str (Str.ofString "n") u2, .int q.n tn⟩,
    ⟨PyData.keyHash w.params (Str.ofString "nt"), .str (Str.ofString "nt") u3, .int q.nt tt⟩, ⟨PyData.keyHash w.params (Str.ofString "norm"), .str (Str.ofString "norm") u4, .ref Dn⟩,
    ⟨PyData.keyHash w.params (Str.ofString "is_simple"), .str (Str.ofString "is_simple") u5, .bool (decide ((q.cnt.length : Int) ≤ 1))⟩] 5),
    (Dn, { cls := .type "tuple", data := .seq #[.ref Dc, .int q.b tb] }), (Dc, { cls := .type "tuple", data := .seq vs.toArray })]
noncomputable def wsOf (u : Str) : Wst := wsRun u.cps.toList ⟨[], 0, 0, 0⟩
noncomputable def WsIn (w : World) (E : List (Addr × Obj)) (x : Nat) (u : Str) : Prop :=
  ∃ d Dn Dc vs tu tb tn tt u1 u2 u3 u4 u5, IntsAre vs (wsOf u).cnt ∧ ∀ p ∈ wsLed w x d Dn Dc u (wsOf u) vs tu tb tn tt u1 u2 u3 u4 u5, p ∈ E
inductive WsJ (w : World) (x d : Nat) (u : Str) (tu : Tok) (i : Nat) (m₁ : Str → Option Value) (news₁ : List (Addr × Obj)) : Prop
  | mk (q : Wst) (ca : Nat) (vs : List Value) (ep : Nat) (tb tn tt t9 : Tok) (hrun : wsRun (u.cps.toList.drop i) q = wsRun u.cps.toList ⟨[], 0, 0, 0⟩) (hvs : IntsAre vs q.cnt)
      (hlen : q.cnt.length ≤ i) (hqb : q.b ≤ i) (e1 : m₁ (Str.ofString "b") = some (.int q.b tb)) (e2 : m₁ (Str.ofString "n") = some (.int q.n tn)) (e3 : m₁ (Str.ofString "nt") = some (.int q.nt tt)) (e4 : m₁ (Str.ofString "count") = some (.ref ca)) (e5 : m₁ (Str.ofString "self") = some (.ref x))
      (e6 : m₁ (Str.ofString "S") = some (.str (Str.ofString " ") 209)) (e7 : m₁ (Str.ofString "T") = some (.str (Str.ofString "\t") 210))
      (n1 : ca ≠ x) (n2 : ca ≠ d) (e : news₁ = [(ca, listOf vs.toArray ep), (x, instObj 83 d), (d, dictOf [⟨PyData.keyHash w.params (Str.ofString "raw"), .str (Str.ofString "raw") t9, .str u tu⟩] 1)])
inductive WsQ (w : World) (g : Heap) (L : Addr) (x d : Nat) (u : Str) (tu : Tok) (s : Shared) (f : Flow) (s' : Shared) : Prop
  | mk (hf : f = Flow.next) (h : Heap) (tk : Nat) (m' : Str → Option Value) (q : Wst) (ca : Nat) (vs : List Value) (ep : Nat) (tb tn tt t9 : Tok) (hs : s' = { s with heap := h, toks := tk }) (hq : q = wsRun u.cps.toList ⟨[], 0, 0, 0⟩) (hvs : IntsAre vs q.cnt)
    (hlen : q.cnt.length ≤ u.cps.size) (hqb : q.b ≤ u.cps.size) (F : Fr g L h m') (e1 : m' (Str.ofString "b") = some (.int q.b tb)) (e2 : m' (Str.ofString "n") = some (.int q.n tn)) (e3 : m' (Str.ofString "nt") = some (.int q.nt tt)) (e4 : m' (Str.ofString "count") = some (.ref ca)) (e5 : m' (Str.ofString "self") = some (.ref x))
    (n1 : ca ≠ x) (n2 : ca ≠ d) (N : News g L h [(ca, listOf vs.toArray ep), (x, instObj 83 d), (d, dictOf [⟨PyData.keyHash w.params (Str.ofString "raw"), .str (Str.ofString "raw") t9, .str u tu⟩] 1)])
set_option maxRecDepth 100000 in
set_option maxHeartbeats 8000000 in
theorem wsinit_c {x d : Nat} {u : Str} {tu : Tok} (G : Gd (Mine.hd.heap_1 w.params) lo mean mg mb b₀) (hb : Over b₀ s.heap) (hN : Led b₀ s.heap [(x, instObj 83 d), (d, dictOf [] 0)])
    (hd : dp + 8 < recursionLimit) (hne : x ≠ d) (hu : u.length ≤ 1048576)
    (hR : ∀ h' tk' E, Ends s.heap h' [x, d] E → WsIn w E x u → R (.ok (.ret .none)) { s with heap := h', toks := tk' }) :
    codeAny (model P w) (Ar dp fr gd un) (.call (.ref 38) ⟨[.ref x, .str u tu], []⟩) R s := by
  k_with_none
  k_with "exec For Name Attribute cons nil" => (k_dflt (refine for_exec ?_))
  k_with "exec For Name Name cons nil" => (k_dflt (refine for_exec ?_))
  k_with "exec For Name Call cons nil" => (k_dflt (refine for_exec ?_))
  k_with "call type:tuple" => ((k_here; (with_reducible show wpAny _ _ (call (Value.type _) [Value.ref _]) _ _ _); k_dflt (refine' tupleOf_c (by k_asm) (by k_asm) (by k_mem) (by ((have hL9 := IntsAre.length (by assumption)); rw [sizeLine_eq]; omega)) ?_; k_whole); intro _ _ _ _ l19q; (try k_lt l19q); (try k_sweep)))
  k_with "call builtin:len" => ((k_here; (with_reducible show wpAny _ _ (call (Value.builtin "len") [Value.ref _]) _ _ _); k_dflt (refine' len_tupI (by k_asm) (by with_reducible assumption) (by with_reducible assumption) (by omega) ?_; k_whole); intro _ _))
  k_with "execs cons" => ((k_dflt (refine execs_n (s := ‹Shared›) ?_); intro _; (try k_fold)))
  k_with "exec If BoolOp cons nil" => (((fail_if_success (with_reducible show wpAny _ _ _ (Cut _ _) _ _)); refine Hold.out ?_))
  k_with "out" => (repeat (first | (k_unfold; (try dsimp only)) | refine cut_ret ?_ | refine turn_ret ?_))
  k_with "go" => ((w_top off; repeat' (first | (k_unfold; (try dsimp only)) | walk1 | (dsimp only; walk1))))
  refine enter (binds := [(Str.ofString "self", .ref x), (Str.ofString "ws", .str u tu)]) _ G hb hN (by k_is) (by k_is) (by show dp < _; omega) (BindsTo.of_eq rfl) (locs rfl) (by decide) ?_
  intro g L h₁ tk F N X T hg
  have hu2 : u.cps.size ≤ 1048576 := hu
  walk_at "go"
  refine ForSrc.mono (Q' := WsQ w g L x d u tu s) ?_ ?_
  · refine for_str (news := [(_, _), (x, _), (d, _)]) (J := WsJ w x d u tu) rfl rfl rfl rfl (by k_asm) (news_sub (by k_asm) (by kcj_all)) ?_ ?_ ?_
    · exact ⟨⟨[], 0, 0, 0⟩, _, [], 0, _, _, _, _, rfl, .nil, Nat.le_refl _, Nat.le_refl _, rfl, rfl, rfl, rfl, rfl, rfl, rfl, by omega, by omega, rfl⟩
    · rintro i c tc m₁ news₁ h tk I oI h₀ hi hc ⟨q, ca, vs, ep, tb, tn, tt, t9, hrun, hvs, hlen, hqb, e1, e2, e3, e4, e5, e6, e7, n1, n2, rfl⟩ hoff F N
      simp only [AllNe, and_true] at hoff
      replace F := know (x := Str.ofString "b") F e1
      replace F := know (x := Str.ofString "n") F e2
      replace F := know (x := Str.ofString "nt") F e3
      replace F := know (x := Str.ofString "count") F e4
      replace F := know (x := Str.ofString "S") F e6
      replace F := know (x := Str.ofString "T") F e7
      replace F := know (x := Str.ofString "self") F e5
      walk_at "go"
      · have hc32 := chr_eq (t := " ") (k := 32) (c := c) (by decide +kernel) (by assumption)
        refine turn_next (by k_asm) (by k_asm) [(ca, listOf vs.toArray ep), (x, instObj 83 d), (d, dictOf [⟨PyData.keyHash w.params (Str.ofString "raw"), .str (Str.ofString "raw") t9, .str u tu⟩] 1)] (by kcj_all) (by simp only [AllNe, and_true]; exact hoff)
          ⟨{ q with n := q.n + 1, b := q.b + 1 }, ca, vs, ep, _, _, _, t9, ?_, hvs, Nat.le_succ_of_le hlen, Nat.succ_le_succ hqb, rfl, rfl, rfl, rfl, rfl, rfl, rfl, n1, n2, rfl⟩
        rw [← hrun, drop_at hc, wsRun, if_pos hc32]
      · have hc32 := chr_ne (t := " ") (k := 32) (c := c) (by decide +kernel) (by assumption)
        have hc9 := chr_eq (t := "\t") (k := 9) (c := c) (by decide +kernel) (by assumption)
        have hb5 := bump_hi (cnt := q.cnt) (b := q.b) (by assumption)
        have hb6 := bump_len q.cnt q.b
        (rename IntsAre (List.set _ _ _) _ => hset)
        rw [hb5] at hset
        refine turn_next (by k_asm) (by k_asm) [(_, listOf _ _), (x, instObj 83 d), (d, dictOf [⟨PyData.keyHash w.params (Str.ofString "raw"), .str (Str.ofString "raw") t9, .str u tu⟩] 1)] (by kcj_all) (by simp only [AllNe, and_true]; omega)
          ⟨⟨bump q.cnt q.b, 0, q.n + 1, q.nt + 1⟩, _, _, _, _, _, _, t9, ?_, hset, by show (bump q.cnt q.b).length ≤ _; omega, Nat.zero_le _, rfl, rfl, rfl, rfl, rfl, rfl, rfl, by omega, by omega, rfl⟩
        rw [← hrun, drop_at hc, wsRun, if_neg hc32, if_pos hc9]
      · have hc32 := chr_ne (t := " ") (k := 32) (c := c) (by decide +kernel) (by assumption)
        have hc9 := chr_eq (t := "\t") (k := 9) (c := c) (by decide +kernel) (by assumption)
        have hb5 := bump_lo (cnt := q.cnt) (b := q.b) (by assumption)
        have hb6 := bump_len q.cnt q.b
        (rename IntsAre (List.set _ _ _) _ => hset)
        rw [hb5] at hset
        refine turn_next (by k_asm) (by k_asm) [(ca, listOf _ _), (x, instObj 83 d), (d, dictOf [⟨PyData.keyHash w.params (Str.ofString "raw"), .str (Str.ofString "raw") t9, .str u tu⟩] 1)] (by kcj_all) (by simp only [AllNe, and_true]; omega)
          ⟨⟨bump q.cnt q.b, 0, q.n + 1, q.nt + 1⟩, _, _, _, _, _, _, t9, ?_, hset, by show (bump q.cnt q.b).length ≤ _; omega, Nat.zero_le _, rfl, rfl, rfl, rfl, rfl, rfl, rfl, by omega, by omega, rfl⟩
        rw [← hrun, drop_at hc, wsRun, if_neg hc32, if_pos hc9]
      · have hc32 := chr_ne (t := " ") (k := 32) (c := c) (by decide +kernel) (by assumption)
        have hc9 := chr_ne (t := "\t") (k := 9) (c := c) (by decide +kernel) (by assumption)
        refine ⟨rfl, _, _, _, q, ca, vs, ep, tb, tn, tt, t9, rfl, ?_, hvs, by omega, by omega, by k_asm, rfl, rfl, rfl, rfl, rfl, n1, n2, news_sub (by k_asm) (by kcj_all)⟩
        rw [← hrun, drop_at hc, wsRun, if_neg hc32, if_neg hc9]
    · rintro h tk m' news' F N ⟨q, ca, vs, ep, tb, tn, tt, t9, hrun, hvs, hlen, hqb, e1, e2, e3, e4, e5, e6, e7, n1, n2, rfl⟩
      refine ⟨rfl, _, _, _, q, ca, vs, ep, tb, tn, tt, t9, rfl, ?_, hvs, by omega, by omega, F, e1, e2, e3, e4, e5, n1, n2, N⟩
      rw [← hrun, List.drop_eq_nil_of_le (by simp), wsRun]
  · rintro f s' ⟨rfl, h, tk, m', q, ca, vs, ep, tb, tn, tt, t9, rfl, hq, hvs, hlen, hqb, F, e1, e2, e3, e4, e5, n1, n2, N⟩
    (try k_unfold)
    (try dsimp only)
    replace F := know (x := Str.ofString "b") F e1
    replace F := know (x := Str.ofString "n") F e2
    replace F := know (x := Str.ofString "nt") F e3
    replace F := know (x := Str.ofString "count") F e4
    replace F := know (x := Str.ofString "self") F e5
    walk_at "go"
    subst hq
    exact hR _ _ _ (ends_of (by k_asm) (by k_asm) hg) ⟨d, _, _, vs, _, _, _, _, _, _, _, _, _, hvs, by kcj_all⟩
end
section
variable {w : World} {lo : List Str} {mean : ExcName → Option Value} {mg mb : Str → Option Value} {b₀ : Heap} {dp un : Nat} {fr : Option (List Env)} {gd : Option (List Code)} {s : Shared} {R : Result → Shared → Prop}
noncomputable def WsAt (w : World) (g : Heap) (x : Nat) (u : Str) : Prop :=
  ∃ d Dn Dc vs tu tb tn tt u1 u2 u3 u4 u5, IntsAre vs (wsOf u).cnt ∧ ∀ p ∈ wsLed w x d Dn Dc u (wsOf u) vs tu tb tn tt u1 u2 u3 u4 u5, g.get? p.1 = some p.2
theorem WsAt.keeps {w : World} {g h : Heap} {x : Nat} {u : Str} (W : WsAt w g x u) (k : ∀ b o, g.get? b = some o → h.get? b = some o) : WsAt w h x u :=
  let ⟨d, Dn, Dc, vs, tu, tb, tn, tt, u1, u2, u3, u4, u5, hi, hp⟩ := W
  ⟨d, Dn, Dc, vs, tu, tb, tn, tt, u1, u2, u3, u4, u5, hi, fun p h => k _ _ (hp p h)⟩
set_option maxRecDepth 100000 in
set_option maxHeartbeats 8000000 in
theorem longest_c {x : Nat} {u : Str} (G : Gd (Mine.hd.heap_1 w.params) lo mean mg mb b₀) (hb : Over b₀ s.heap) (hW : WsAt w s.heap x u)
    (hd : dp + 8 < recursionLimit) (hl : (wsOf u).cnt.length ≤ 1048576)
    (hR : ∀ h' tk' t', Ends s.heap h' [] [] → R (.ok (.ret (.int (longOf (wsOf u)) t'))) { s with heap := h', toks := tk' }) :
    codeAny (model P w) (Ar dp fr gd un) (.call (.ref 45) ⟨[.ref x], []⟩) R s := by
  k_with_none
  k_with "exec For Name Attribute cons nil" => (k_dflt (refine for_exec ?_))
  k_with "exec For Name Name cons nil" => (k_dflt (refine for_exec ?_))
  k_with "exec For Name Call cons nil" => (k_dflt (refine for_exec ?_))
  k_with "call type:tuple" => ((k_here; (with_reducible show wpAny _ _ (call (Value.type _) [Value.ref _]) _ _ _); k_dflt (refine' tupleOf_c (by k_asm) (by k_asm) (by k_mem) (by ((have hL9 := IntsAre.length (by assumption)); rw [sizeLine_eq]; omega)) ?_; k_whole); intro _ _ _ _ l19q; (try k_lt l19q); (try k_sweep)))
  k_with "call builtin:len" => ((k_here; (with_reducible show wpAny _ _ (call (Value.builtin "len") [Value.ref _]) _ _ _); k_dflt (refine' len_tupI (by k_asm) (by with_reducible assumption) (by with_reducible assumption) (by omega) ?_; k_whole); intro _ _))
  k_with "execs cons" => ((k_dflt (refine execs_n (s := ‹Shared›) ?_); intro _; (try k_fold)))
  k_with "exec If BoolOp cons nil" => (((fail_if_success (with_reducible show wpAny _ _ _ (Cut _ _) _ _)); refine Hold.out ?_))
  k_with "out" => (repeat (first | (k_unfold; (try dsimp only)) | refine cut_ret ?_ | refine turn_ret ?_))
  k_with "go" => ((w_top off; repeat' (first | (k_unfold; (try dsimp only)) | walk1 | (dsimp only; walk1))))
  refine enter (binds := [(Str.ofString "self", .ref x)]) [] G hb Led.nil (by k_is) (by k_is) (by show dp < _; omega) (BindsTo.of_eq rfl) (locs rfl) (by decide) ?_
  intro g L h₁ tk F N X T hg
  replace hW := hW.keeps fun b o e => hg b o e (by simp)
  obtain ⟨d, Dn, Dc, vs, tu, tb, tn, tt, u1, u2, u3, u4, u5, hi, hp⟩ := hW
  generalize wsOf u = q at *
  have g1 := hp _ (.head _)
  have g2 := hp _ (.tail _ (.head _))
  have g3 := hp _ (.tail _ (.tail _ (.head _)))
  have g4 := hp _ (.tail _ (.tail _ (.tail _ (.head _))))
  dsimp only at g1 g2 g3 g4
  have i3 : IsTup g Dn _ := ⟨_, g3, rfl, _, rfl⟩
  have i4 : IsTup g Dc _ := ⟨_, g4, rfl, _, rfl⟩
  walk_at "go"
  exact hR _ _ _ (ends_of (by k_asm) News.nil hg)
inductive IlJ (x : Nat) (q : Wst) (Dc : Nat) (ts : Int) (tts : Tok) (i : Nat) (m₁ : Str → Option Value) (news₁ : List (Addr × Obj)) : Prop
  | mk (ti tb tc : Tok) (e0 : m₁ (Str.ofString "self") = some (.ref x)) (e1 : m₁ (Str.ofString "tabsize") = some (.int ts tts)) (e2 : m₁ (Str.ofString "il") = some (.int (ilSum q.cnt ts i) ti)) (e3 : m₁ (Str.ofString "count") = some (.ref Dc)) (e4 : m₁ (Str.ofString "trailing") = some (.int q.b tb)) (e : news₁ = [])
set_option maxRecDepth 100000 in
set_option maxHeartbeats 8000000 in
theorem indent_c {x : Nat} {u : Str} {ts : Int} {tts : Tok} (G : Gd (Mine.hd.heap_1 w.params) lo mean mg mb b₀) (hb : Over b₀ s.heap) (hW : WsAt w s.heap x u)
    (hd : dp + 8 < recursionLimit) (hl : (wsOf u).cnt.length ≤ 1048576) (ht : 2 ≤ ts) (ht2 : ts ≤ 1048577)
    (hR : ∀ h' tk' t', Ends s.heap h' [] [] → R (.ok (.ret (.int (ilOf (wsOf u) ts) t'))) { s with heap := h', toks := tk' }) :
    codeAny (model P w) (Ar dp fr gd un) (.call (.ref 52) ⟨[.ref x, .int ts tts], []⟩) R s := by
  k_with_none
  k_with "exec For Name Attribute cons nil" => (k_dflt (refine for_exec ?_))
  k_with "exec For Name Name cons nil" => (k_dflt (refine for_exec ?_))
  k_with "exec For Name Call cons nil" => (k_dflt (refine for_exec ?_))
  k_with "call type:tuple" => ((k_here; (with_reducible show wpAny _ _ (call (Value.type _) [Value.ref _]) _ _ _); k_dflt (refine' tupleOf_c (by k_asm) (by k_asm) (by k_mem) (by ((have hL9 := IntsAre.length (by assumption)); rw [sizeLine_eq]; omega)) ?_; k_whole); intro _ _ _ _ l19q; (try k_lt l19q); (try k_sweep)))
  k_with "call builtin:len" => ((k_here; (with_reducible show wpAny _ _ (call (Value.builtin "len") [Value.ref _]) _ _ _); k_dflt (refine' len_tupI (by k_asm) (by with_reducible assumption) (by with_reducible assumption) (by omega) ?_; k_whole); intro _ _))
  k_with "execs cons" => ((k_dflt (refine execs_n (s := ‹Shared›) ?_); intro _; (try k_fold)))
  k_with "exec If BoolOp cons nil" => (((fail_if_success (with_reducible show wpAny _ _ _ (Cut _ _) _ _)); refine Hold.out ?_))
  k_with "out" => (repeat (first | (k_unfold; (try dsimp only)) | refine cut_ret ?_ | refine turn_ret ?_))
  k_with "go" => ((w_top off; repeat' (first | (k_unfold; (try dsimp only)) | walk1 | (dsimp only; walk1))))
  refine enter (binds := [(Str.ofString "self", .ref x), (Str.ofString "tabsize", .int ts tts)]) [] G hb Led.nil (by k_is) (by k_is) (by show dp < _; omega) (BindsTo.of_eq rfl) (locs rfl) (by decide) ?_
  intro g L h₁ tk F N X T hg
  replace hW := hW.keeps fun b o e => hg b o e (by simp)
  obtain ⟨d, Dn, Dc, vs, tu, tb, tn, tt, u1, u2, u3, u4, u5, hi, hp⟩ := hW
  generalize wsOf u = q at *
  have g1 := hp _ (.head _)
  have g2 := hp _ (.tail _ (.head _))
  have g3 := hp _ (.tail _ (.tail _ (.head _)))
  have g4 := hp _ (.tail _ (.tail _ (.tail _ (.head _))))
  dsimp only at g1 g2 g3 g4
  have i3 : IsTup g Dn _ := ⟨_, g3, rfl, _, rfl⟩
  have i4 : IsTup g Dc _ := ⟨_, g4, rfl, _, rfl⟩
  clear hp
  walk_at "go"
  refine for_up (g := g) (news := []) (J := IlJ x q Dc ts tts) rfl (by assumption) (by omega) rfl rfl rfl (by k_asm) News.nil ?_ ?_ ?_
  · exact ⟨_, _, 0, rfl, rfl, rfl, rfl, rfl, rfl⟩
  · rintro i tc m₁ news₁ h tk I oI h₀ hi ⟨ti, tb, tc', e0, e1, e2, e3, e4, rfl⟩ hoff F N
    replace F := know (x := Str.ofString "il") F e2
    replace F := know (x := Str.ofString "tabsize") F e1
    replace F := know (x := Str.ofString "count") F e3
    replace F := know (x := Str.ofString "self") F e0
    replace F := know (x := Str.ofString "trailing") F e4
    have hfd := fdiv_bd (a := ts + (i : Int)) (b := ts) (by omega) (by omega)
    walk_at "go"
    exact turn_next (by k_asm) (by k_asm) [] (by kcj_all) trivial ⟨_, _, 0, rfl, rfl, rfl, rfl, rfl, rfl⟩
  · rintro h tk m' news' F N ⟨ti, tb, tc', e0, e1, e2, e3, e4, rfl⟩
    (try k_unfold)
    (try dsimp only)
    replace F := know (x := Str.ofString "il") F e2
    replace F := know (x := Str.ofString "tabsize") F e1
    replace F := know (x := Str.ofString "self") F e0
    replace F := know (x := Str.ofString "trailing") F e4
    walk_at "go"
    exact hR _ _ _ (ends_of (by k_asm) News.nil hg)
inductive LeJ (x y : Nat) (p q : Wst) (i : Nat) (m₁ : Str → Option Value) (news₁ : List (Addr × Obj)) : Prop
  | mk (e0 : m₁ (Str.ofString "self") = some (.ref x)) (e1 : m₁ (Str.ofString "other") = some (.ref y)) (hc : ∀ j : Nat, j < i → ilOf p (2 + j) < ilOf q (2 + j)) (e : news₁ = [])
set_option maxRecDepth 100000 in
set_option maxHeartbeats 8000000 in
theorem less_c {x y : Nat} {u v : Str} (G : Gd (Mine.hd.heap_1 w.params) lo mean mg mb b₀) (hb : Over b₀ s.heap) (hW : WsAt w s.heap x u) (hV : WsAt w s.heap y v)
    (hd : dp + 18 < recursionLimit) (hl : (wsOf u).cnt.length ≤ 1000000) (hl2 : (wsOf v).cnt.length ≤ 1000000) (hl3 : (wsOf u).b ≤ 1000000) (hl4 : (wsOf v).b ≤ 1000000)
    (hR : ∀ h' tk', Ends s.heap h' [] [] → R (.ok (.ret (.bool (lessOf (wsOf u) (wsOf v))))) { s with heap := h', toks := tk' }) :
    codeAny (model P w) (Ar dp fr gd un) (.call (.ref 73) ⟨[.ref x, .ref y], []⟩) R s := by
  k_with_none
  k_with "exec For Name Attribute cons nil" => (k_dflt (refine for_exec ?_))
  k_with "exec For Name Name cons nil" => (k_dflt (refine for_exec ?_))
  k_with "exec For Name Call cons nil" => (k_dflt (refine for_exec ?_))
  k_with "call type:tuple" => ((k_here; (with_reducible show wpAny _ _ (call (Value.type _) [Value.ref _]) _ _ _); k_dflt (refine' tupleOf_c (by k_asm) (by k_asm) (by k_mem) (by ((have hL9 := IntsAre.length (by assumption)); rw [sizeLine_eq]; omega)) ?_; k_whole); intro _ _ _ _ l19q; (try k_lt l19q); (try k_sweep)))
  k_with "call builtin:len" => ((k_here; (with_reducible show wpAny _ _ (call (Value.builtin "len") [Value.ref _]) _ _ _); k_dflt (refine' len_tupI (by k_asm) (by with_reducible assumption) (by with_reducible assumption) (by omega) ?_; k_whole); intro _ _))
  k_with "execs cons" => ((k_dflt (refine execs_n (s := ‹Shared›) ?_); intro _; (try k_fold)))
  k_with "exec If BoolOp cons nil" => (((fail_if_success (with_reducible show wpAny _ _ _ (Cut _ _) _ _)); refine Hold.out ?_))
  k_with "out" => (repeat (first | (k_unfold; (try dsimp only)) | refine cut_ret ?_ | refine turn_ret ?_))
  k_with "go" => ((w_top off; repeat' (first | (k_unfold; (try dsimp only)) | walk1 | (dsimp only; walk1))))
  k_with "call ref" => (((with_reducible show wpAny _ _ (call (Value.ref 45) _ _) _ _ _); k_dflt (refine wpAny_call (longest_c ⟨by assumption, by assumption⟩ (Fr.keep (by k_asm)) (WsAt.keeps (by assumption) (Fr.keep (by k_asm))) (by (try simp only [depth_deeper]); (try dsimp only); omega) (by omega) ?_)); intro _ _ _ E9q; (have F' := Ends.fr0 E9q (by k_asm)); (have N' := Ends.led0 E9q (by k_asm)); clear E9q; (try k_sweep)))
  k_with "call ref" => (((with_reducible show wpAny _ _ (call (Value.ref 52) _ _) _ _ _); k_dflt (refine wpAny_call (indent_c ⟨by assumption, by assumption⟩ (Fr.keep (by k_asm)) (WsAt.keeps (by assumption) (Fr.keep (by k_asm))) (by (try simp only [depth_deeper]); (try dsimp only); omega) (by omega) (by omega) (by omega) ?_)); intro _ _ _ E9q; (have F' := Ends.fr0 E9q (by k_asm)); (have N' := Ends.led0 E9q (by k_asm)); clear E9q; (try k_sweep)))
  refine enter (binds := [(Str.ofString "self", .ref x), (Str.ofString "other", .ref y)]) [] G hb Led.nil (by k_is) (by k_is) (by show dp < _; omega) (BindsTo.of_eq rfl) (locs rfl) (by decide) ?_
  intro g L h₁ tk F N X T hg
  replace hW := hW.keeps fun b o e => hg b o e (by simp)
  replace hV := hV.keeps fun b o e => hg b o e (by simp)
  obtain ⟨d, Dn, Dc, vs, tu, tb, tn, tt, u1, u2, u3, u4, u5, hi, hp⟩ := id hW
  obtain ⟨d', Dn', Dc', vs', tu', tb', tn', tt', u1', u2', u3', u4', u5', hi', hp'⟩ := id hV
  have g1 := hp _ (.head _)
  have g2 := hp _ (.tail _ (.head _))
  have g1' := hp' _ (.head _)
  have g2' := hp' _ (.tail _ (.head _))
  dsimp only at g1 g2 g1' g2'
  have hlo : longOf (wsOf u) ≤ 1000000 ∧ 0 ≤ longOf (wsOf u) := by unfold longOf; split <;> omega
  have hlo' : longOf (wsOf v) ≤ 1000000 ∧ 0 ≤ longOf (wsOf v) := by unfold longOf; split <;> omega
  clear hp hp' hi hi'
  walk_at "go"
  · rw [← lessOf_1 (p := wsOf u) (q := wsOf v) (by assumption)]
    exact hR _ _ (ends_of (by k_asm) News.nil hg)
  · refine Hold.in (cut (fun s' => ∃ tk, s' = { s with heap := h₁, toks := tk } ∧ ¬ (((wsOf u).cnt.length : Int) ≤ 1 ∧ ((wsOf v).cnt.length : Int) ≤ 1)) ?_ ?_)
    · walk_at "go"
      · walk_at "out"
        rw [← lessOf_2 (p := wsOf u) (q := wsOf v) (by assumption) (by assumption) (by assumption)]
        exact hR _ _ (ends_of (by k_asm) News.nil hg)
      · exact ⟨_, rfl, by omega⟩
      · exact ⟨_, rfl, by omega⟩
    · rintro s' ⟨tk, rfl, hns⟩
      (try k_unfold)
      (try dsimp only)
      walk_at "go"
      refine for_up (g := g) (news := []) (J := LeJ x y (wsOf u) (wsOf v)) rfl (by assumption) (by split <;> omega) rfl rfl rfl (by k_asm) News.nil ?_ ?_ ?_
      · exact ⟨rfl, rfl, fun _ h => absurd h (Nat.not_lt_zero _), rfl⟩
      · rintro i tc m₁ news₁ h tk I oI h₀ hi ⟨e0, e1, hc, rfl⟩ hoff F N
        replace F := know (x := Str.ofString "self") F e0
        replace F := know (x := Str.ofString "other") F e1
        have hts : (2 + (i : Int)) ≤ 1000002 := by split at hi <;> omega
        walk_at "go"
        · walk_at "out"
          rw [← lessOf_3 (p := wsOf u) (q := wsOf v) (by assumption) hns hi (by assumption)]
          exact hR _ _ (ends_of (by k_asm) News.nil hg)
        · refine turn_next (by k_asm) (by k_asm) [] (by kcj_all) trivial ⟨rfl, rfl, fun j hj => ?_, rfl⟩
          by_cases hji : j = i
          · subst hji; omega
          · exact hc j (by omega)
      · rintro h tk m' news' F N ⟨e0, e1, hc, rfl⟩
        (try k_unfold)
        (try dsimp only)
        walk_at "go"
        rw [← lessOf_4 (p := wsOf u) (q := wsOf v) (by assumption) hns hc]
        exact hR _ _ (ends_of (by k_asm) News.nil hg)
end
section
variable {w : World} {lo : List Str} {mean : ExcName → Option Value} {mg mb : Str → Option Value} {b₀ : Heap} {dp un : Nat} {fr : Option (List Env)} {gd : Option (List Code)} {s : Shared} {R : Result → Shared → Prop}
/-- an entry of an object's dict -/
noncomputable abbrev en (w : World) (n : String) (u : Tok) (v : Value) : DictEntry := ⟨PyData.keyHash w.params (Str.ofString n), .str (Str.ofString n) u, v⟩
noncomputable abbrev wsText : Str := Str.ofString "\n\t\x0d "
set_option maxRecDepth 100000 in
set_option maxHeartbeats 8000000 in
theorem lexinit_c {x d : Nat} (G : Gd (Mine.hd.heap_1 w.params) lo mean mg mb b₀) (hb : Over b₀ s.heap) (hN : Led b₀ s.heap [(x, instObj 125 d), (d, dictOf [] 0)])
    (hd : dp + 8 < recursionLimit) (hne : x ≠ d)
    (hR : ∀ h' tk' pb u1 u2 u3 u4 v1 v3, Ends s.heap h' [x, d] [(pb, listOf #[] 0), (x, instObj 125 d), (d, dictOf [en w "lineno" u1 (.int 1 v1), en w "instream" u2 .none, en w "whitespace" u3 (.str wsText v3), en w "pushback" u4 (.ref pb)] 4)] → @Ne Nat pb x → @Ne Nat pb d → R (.ok (.ret .none)) { s with heap := h', toks := tk' }) :
    codeAny (model P w) (Ar dp fr gd un) (.call (.ref 101) ⟨[.ref x, .none], []⟩) R s := by
  k_with_none
  k_with "exec For Name Attribute cons nil" => (k_dflt (refine for_exec ?_))
  k_with "exec For Name Name cons nil" => (k_dflt (refine for_exec ?_))
  k_with "exec For Name Call cons nil" => (k_dflt (refine for_exec ?_))
  k_with "call type:tuple" => ((k_here; (with_reducible show wpAny _ _ (call (Value.type _) [Value.ref _]) _ _ _); k_dflt (refine' tupleOf_c (by k_asm) (by k_asm) (by k_mem) (by ((have hL9 := IntsAre.length (by assumption)); rw [sizeLine_eq]; omega)) ?_; k_whole); intro _ _ _ _ l19q; (try k_lt l19q); (try k_sweep)))
  k_with "call builtin:len" => ((k_here; (with_reducible show wpAny _ _ (call (Value.builtin "len") [Value.ref _]) _ _ _); k_dflt (refine' len_tupI (by k_asm) (by with_reducible assumption) (by with_reducible assumption) (by omega) ?_; k_whole); intro _ _))
  k_with "execs cons" => ((k_dflt (refine execs_n (s := ‹Shared›) ?_); intro _; (try k_fold)))
  k_with "exec If BoolOp cons nil" => (((fail_if_success (with_reducible show wpAny _ _ _ (Cut _ _) _ _)); refine Hold.out ?_))
  k_with "out" => (repeat (first | (k_unfold; (try dsimp only)) | refine cut_ret ?_ | refine turn_ret ?_))
  k_with "go" => ((w_top off; repeat' (first | (k_unfold; (try dsimp only)) | walk1 | (dsimp only; walk1))))
  refine enter (binds := [(Str.ofString "self", .ref x), (Str.ofString "fp", .none)]) _ G hb hN (by k_is) (by k_is) (by show dp < _; omega) (BindsTo.of_eq rfl) (locs rfl) (by decide) ?_
  intro g L h₁ tk F N X T hg
  walk_at "go"
  exact hR _ _ _ _ _ _ _ _ _ (ends_of (by k_asm) (by k_asm) hg) (by omega) (by omega)
set_option maxRecDepth 100000 in
set_option maxHeartbeats 8000000 in
theorem take_c {text : Str} {t1 t2 ti : Tok} {a : Nat} {i n : Nat} (G : Gd (Mine.hd.heap_1 w.params) lo mean mg mb b₀) (hb : Over b₀ s.heap) (hN : Led b₀ s.heap [(a, listOf #[.int i ti] n)])
    (hd : dp + 8 < recursionLimit) (ht : text.length ≤ 1048576)
    (hR : ∀ h' tk' t' t'', Ends s.heap h' [a] [(a, listOf #[.int (i + (Txt.slice text (some i) (some (i + 1))).length) t''] n)] → R (.ok (.ret (.str (Txt.slice text (some i) (some (i + 1))) t'))) { s with heap := h', toks := tk' }) :
    codeAny (model P w) (Ar dp fr gd un) (.call (.ref 136) ⟨[.str text t1, .ref a, .int 1 t2], []⟩) R s := by
  k_with_none
  k_with "exec For Name Attribute cons nil" => (k_dflt (refine for_exec ?_))
  k_with "exec For Name Name cons nil" => (k_dflt (refine for_exec ?_))
  k_with "exec For Name Call cons nil" => (k_dflt (refine for_exec ?_))
  k_with "call type:tuple" => ((k_here; (with_reducible show wpAny _ _ (call (Value.type _) [Value.ref _]) _ _ _); k_dflt (refine' tupleOf_c (by k_asm) (by k_asm) (by k_mem) (by ((have hL9 := IntsAre.length (by assumption)); rw [sizeLine_eq]; omega)) ?_; k_whole); intro _ _ _ _ l19q; (try k_lt l19q); (try k_sweep)))
  k_with "call builtin:len" => ((k_here; (with_reducible show wpAny _ _ (call (Value.builtin "len") [Value.ref _]) _ _ _); k_dflt (refine' len_tupI (by k_asm) (by with_reducible assumption) (by with_reducible assumption) (by omega) ?_; k_whole); intro _ _))
  k_with "execs cons" => ((k_dflt (refine execs_n (s := ‹Shared›) ?_); intro _; (try k_fold)))
  k_with "exec If BoolOp cons nil" => (((fail_if_success (with_reducible show wpAny _ _ _ (Cut _ _) _ _)); refine Hold.out ?_))
  k_with "out" => (repeat (first | (k_unfold; (try dsimp only)) | refine cut_ret ?_ | refine turn_ret ?_))
  k_with "go" => ((w_top off; repeat' (first | (k_unfold; (try dsimp only)) | walk1 | (dsimp only; walk1))))
  refine enter (binds := [(Str.ofString "text", .str text t1), (Str.ofString "at", .ref a), (Str.ofString "size", .int 1 t2)]) _ G hb hN (by k_is) (by k_is) (by show dp < _; omega) (BindsTo.of_eq rfl) (locs rfl) (by decide) ?_
  intro g L h₁ tk F N X T hg
  walk_at "go"
  exact hR _ _ _ _ (ends_of (by k_asm) (by k_asm) hg)
/-- the parts of the lambda that _law_lexer makes, out of the program's own term -/
noncomputable def lamParts : Arguments × PySem.Expr × Scope := match ((Challenge.pw_pe0167_01.main.body : List Stmt)[7]? : Option Stmt) with
  | some (.FunctionDef _ _ (_ :: _ :: (.Assign _ (.Lambda a e sc _) _) :: _) _ _ _ _ _ _ _) => (a, e, sc)
  | _ => default
noncomputable abbrev lamQual : Str := (Str.ofString "_law_lexer" ++ Str.ofString ".<locals>.") ++ Str.ofString "<lambda>"
noncomputable abbrev lamObj (ct ca cc : Nat) (pm ctv : Value) : Obj := kla_obj (Str.ofString "<lambda>") lamQual lamParts.1 lamParts.2.1 lamParts.2.2 [(Str.ofString "text", ct), (Str.ofString "at", ca)] pm cc ctv
set_option maxRecDepth 100000 in
set_option maxHeartbeats 8000000 in
theorem lam_c {text : Str} {t1 t2 ti : Tok} {fn ct ca cc a : Nat} {i n : Nat} {pm ctv : Value} {o1 o2 : Obj} (G : Gd (Mine.hd.heap_1 w.params) lo mean mg mb b₀) (hb : Over b₀ s.heap) (hN : Led b₀ s.heap [(a, listOf #[.int i ti] n)])
    (hf : s.heap.get? fn = some (lamObj ct ca cc pm ctv)) (h1 : s.heap.get? ct = some o1) (d1 : o1.data = .cell (some (.str text t1))) (h2 : s.heap.get? ca = some o2) (d2 : o2.data = .cell (some (.ref a))) (hc : s.heap.CodeRec (.ref cc) lamQual)
    (hd : dp + 18 < recursionLimit) (ht : text.length ≤ 1048576)
    (hR : ∀ h' tk' t' t'', Ends s.heap h' [a] [(a, listOf #[.int (i + (Txt.slice text (some i) (some (i + 1))).length) t''] n)] → R (.ok (.ret (.str (Txt.slice text (some i) (some (i + 1))) t'))) { s with heap := h', toks := tk' }) :
    codeAny (model P w) (Ar dp fr gd un) (.call (.ref fn) ⟨[.int 1 t2], []⟩) R s := by
  k_with_none
  k_with "exec For Name Attribute cons nil" => (k_dflt (refine for_exec ?_))
  k_with "exec For Name Name cons nil" => (k_dflt (refine for_exec ?_))
  k_with "exec For Name Call cons nil" => (k_dflt (refine for_exec ?_))
  k_with "call type:tuple" => ((k_here; (with_reducible show wpAny _ _ (call (Value.type _) [Value.ref _]) _ _ _); k_dflt (refine' tupleOf_c (by k_asm) (by k_asm) (by k_mem) (by ((have hL9 := IntsAre.length (by assumption)); rw [sizeLine_eq]; omega)) ?_; k_whole); intro _ _ _ _ l19q; (try k_lt l19q); (try k_sweep)))
  k_with "call builtin:len" => ((k_here; (with_reducible show wpAny _ _ (call (Value.builtin "len") [Value.ref _]) _ _ _); k_dflt (refine' len_tupI (by k_asm) (by with_reducible assumption) (by with_reducible assumption) (by omega) ?_; k_whole); intro _ _))
  k_with "execs cons" => ((k_dflt (refine execs_n (s := ‹Shared›) ?_); intro _; (try k_fold)))
  k_with "exec If BoolOp cons nil" => (((fail_if_success (with_reducible show wpAny _ _ _ (Cut _ _) _ _)); refine Hold.out ?_))
  k_with "out" => (repeat (first | (k_unfold; (try dsimp only)) | refine cut_ret ?_ | refine turn_ret ?_))
  k_with "go" => ((w_top off; repeat' (first | (k_unfold; (try dsimp only)) | walk1 | (dsimp only; walk1))))
  k_with "call ref" => (((with_reducible show wpAny _ _ (call (Value.ref 136) _ _) _ _ _); refine wpAny_call ?_; refine Hold.out ?_))
  have e : lamParts = lamParts := rfl
  conv at e => rhs; whnf
  rw [lamObj, e] at hf
  have ha := (hN _ (.head _)).1
  refine enterE (binds := [(Str.ofString "size", .int 1 t2)]) _ G hb hN hf hc (by show dp < _; omega) rfl (locs rfl) (by decide) ?_
  intro g L h₁ tk F N X T hg
  have g1 := hg _ _ h1 (by simp only [List.map_cons, List.map_nil, List.mem_singleton]; exact ne_obj h1 ha (by rw [d1]; nofun))
  have g2 := hg _ _ h2 (by simp only [List.map_cons, List.map_nil, List.mem_singleton]; exact ne_obj h2 ha (by rw [d2]; nofun))
  walk_at "go"
  refine Hold.in (take_c ⟨X, T⟩ (Fr.keep (by k_asm)) (led_of (by k_asm) (by kcj_all)) (by show dp + 1 + 8 < _; omega) ht ?_)
  intro h' tk' t' t'' E'
  obtain ⟨F', N'⟩ := E'.out (mu := [(_, _)]) (rest := []) (by k_asm) (by k_asm) rfl ⟨trivial, trivial⟩
  dsimp only
  walk_at "out"
  exact hR _ _ _ _ (ends_of F' N' hg)
/-- a lexer: where its parts lie, and what of it stays -/
structure Lx where
  x : Nat
  d : Nat
  fn : Nat
  ct : Nat
  ca : Nat
  at_ : Nat
  pb : Nat
  cc : Nat
  text : Str
  tt : Tok
  u1 : Tok
  u2 : Tok
  u3 : Tok
  u4 : Tok
  u5 : Tok
  v3 : Tok
  pm : Value
  ctv : Value
  o1 : Obj
  o2 : Obj
  oc : Obj
noncomputable abbrev Lx.D (w : World) (c : Lx) (line : Int) (v1 : Tok) : Obj :=
  dictOf [en w "lineno" c.u1 (.int line v1), en w "instream" c.u2 (.ref c.x), en w "whitespace" c.u3 (.str wsText c.v3), en w "pushback" c.u4 (.ref c.pb), en w "read" c.u5 (.ref c.fn)] 5
noncomputable abbrev Lx.ro (c : Lx) : List (Addr × Obj) := [(c.x, instObj 125 c.d), (c.fn, lamObj c.ct c.ca c.cc c.pm c.ctv), (c.ct, c.o1), (c.ca, c.o2), (c.cc, c.oc)]
structure Lx.Ok (c : Lx) : Prop where
  d1 : c.o1.data = .cell (some (.str c.text c.tt))
  d2 : c.o2.data = .cell (some (.ref c.at_))
  dc : ∃ vs t, c.oc.data = .fields vs ∧ vs[1]? = some (.str lamQual t)
  ne : @Ne Nat c.at_ c.pb
  len : c.text.length ≤ 1048576
/-- the lexer's unchanging part stands in a heap -/
noncomputable def Lx.At (c : Lx) (h : Heap) : Prop := ∀ p ∈ c.ro, h.get? p.1 = some p.2
theorem Lx.At.keeps {c : Lx} {h h' : Heap} (x : c.At h) (k : ∀ b o, h.get? b = some o → h'.get? b = some o) : c.At h' := fun p hp => k _ _ (x p hp)
theorem Lx.At.rec {c : Lx} {h : Heap} (x : c.At h) (o : c.Ok) : h.CodeRec (.ref c.cc) lamQual := by
  obtain ⟨vs, t, e1, e2⟩ := o.dc
  exact ⟨_, _, vs, t, rfl, x (c.cc, c.oc) (.tail _ (.tail _ (.tail _ (.tail _ (.head _))))), e1, e2⟩
noncomputable abbrev chAt (text : Str) (i : Nat) : Str := Txt.slice text (some i) (some (i + 1))
noncomputable def nlOf (ch : Str) : Int := if (ch == Str.ofString "\n") = true then 1 else 0
set_option maxRecDepth 100000 in
set_option maxHeartbeats 8000000 in
theorem readchar_c {c : Lx} {line : Int} {v1 ti : Tok} {i n : Nat} (G : Gd (Mine.hd.heap_1 w.params) lo mean mg mb b₀) (hb : Over b₀ s.heap) (hN : Led b₀ s.heap [(c.d, c.D w line v1), (c.at_, listOf #[.int i ti] n)]) (hA : c.At s.heap) (ok : c.Ok)
    (hd : dp + 28 < recursionLimit)
    (hR : ∀ h' tk' t' v1' ti', Ends s.heap h' [c.d, c.at_] [(c.d, c.D w (line + nlOf (chAt c.text i)) v1'), (c.at_, listOf #[.int (i + (chAt c.text i).length) ti'] n)] → R (.ok (.ret (.str (chAt c.text i) t'))) { s with heap := h', toks := tk' }) :
    codeAny (model P w) (Ar dp fr gd un) (.call (.ref 108) ⟨[.ref c.x], []⟩) R s := by
  k_with_none
  k_with "exec For Name Attribute cons nil" => (k_dflt (refine for_exec ?_))
  k_with "exec For Name Name cons nil" => (k_dflt (refine for_exec ?_))
  k_with "exec For Name Call cons nil" => (k_dflt (refine for_exec ?_))
  k_with "call type:tuple" => ((k_here; (with_reducible show wpAny _ _ (call (Value.type _) [Value.ref _]) _ _ _); k_dflt (refine' tupleOf_c (by k_asm) (by k_asm) (by k_mem) (by ((have hL9 := IntsAre.length (by assumption)); rw [sizeLine_eq]; omega)) ?_; k_whole); intro _ _ _ _ l19q; (try k_lt l19q); (try k_sweep)))
  k_with "call builtin:len" => ((k_here; (with_reducible show wpAny _ _ (call (Value.builtin "len") [Value.ref _]) _ _ _); k_dflt (refine' len_tupI (by k_asm) (by with_reducible assumption) (by with_reducible assumption) (by omega) ?_; k_whole); intro _ _))
  k_with "execs cons" => ((k_dflt (refine execs_n (s := ‹Shared›) ?_); intro _; (try k_fold)))
  k_with "exec If BoolOp cons nil" => (((fail_if_success (with_reducible show wpAny _ _ _ (Cut _ _) _ _)); refine Hold.out ?_))
  k_with "out" => (repeat (first | (k_unfold; (try dsimp only)) | refine cut_ret ?_ | refine turn_ret ?_))
  k_with "go" => ((w_top off; repeat' (first | (k_unfold; (try dsimp only)) | walk1 | (dsimp only; walk1))))
  k_with "call ref" => (((with_reducible show wpAny _ _ (call (Value.ref 136) _ _) _ _ _); refine wpAny_call ?_; refine Hold.out ?_))
  k_with "callWith ref" => (((with_reducible show wpAny _ _ (callWith _ (Value.ref (Lx.fn _)) _ _ _) _ _ _); refine Hold.out ?_))
  k_with "call ref" => (((with_reducible show wpAny _ _ (call (Value.ref (Lx.fn _)) _ _) _ _ _); refine Hold.out ?_))
  have hdd := (hN _ (.head _)).1
  have hat := (hN _ (.tail _ (.head _))).1
  have nda : @Ne Nat c.d c.at_ := ne_obj hdd hat nofun
  refine enter (binds := [(Str.ofString "self", .ref c.x)]) _ G hb hN (by k_is) (by k_is) (by show dp < _; omega) (BindsTo.of_eq rfl) (locs rfl) (by decide) ?_
  intro g L h₁ tk F N X T hg
  have hAg : c.At g := by
    intro p hp
    refine hg _ _ (hA p hp) ?_
    simp only [List.map_cons, List.map_nil, List.mem_cons, List.not_mem_nil, or_false, not_or]
    have hp2 := hA p hp
    simp only [Lx.ro, List.mem_cons, List.not_mem_nil, or_false] at hp
    rcases hp with rfl | rfl | rfl | rfl | rfl
    · exact ⟨ne_obj hp2 hdd nofun, ne_obj hp2 hat nofun⟩
    · exact ⟨ne_obj hp2 hdd nofun, ne_obj hp2 hat nofun⟩
    · exact ⟨ne_obj hp2 hdd (by rw [ok.d1]; nofun), ne_obj hp2 hat (by rw [ok.d1]; nofun)⟩
    · exact ⟨ne_obj hp2 hdd (by rw [ok.d2]; nofun), ne_obj hp2 hat (by rw [ok.d2]; nofun)⟩
    · obtain ⟨vs, t, e1, e2⟩ := ok.dc
      exact ⟨ne_obj hp2 hdd (by rw [e1]; nofun), ne_obj hp2 hat (by rw [e1]; nofun)⟩
  have gx : g.get? c.x = some (instObj 125 c.d) := hAg _ (.head _)
  walk_at "go"
  refine Hold.in ?_
  dsimp only
  refine callWith_g (lamObj c.ct c.ca c.cc c.pm c.ctv) rfl ?_
  walk_at "go"
  · exact Fr.keep (by k_asm) _ _ (hAg _ (.tail _ (.head _)))
  · refine Hold.in ?_
    (try dsimp only [List.nil_append])
    refine wpAny_call (lam_c (fn := c.fn) (ct := c.ct) (ca := c.ca) (cc := c.cc) (a := c.at_) (i := i) (n := n) ⟨X, T⟩ (Fr.keep (by k_asm)) (led_of (by k_asm) (by kcj_all)) (Fr.keep (by k_asm) _ _ (hAg _ (.tail _ (.head _)))) (Fr.keep (by k_asm) _ _ (hAg _ (.tail _ (.tail _ (.head _))))) ok.d1
      (Fr.keep (by k_asm) _ _ (hAg _ (.tail _ (.tail _ (.tail _ (.head _)))))) ok.d2 ((hAg.keeps (Fr.keep (by k_asm))).rec ok) (by show dp + 1 + 18 < _; omega) ok.len ?_)
    intro h' tk' t' t'' E'
    obtain ⟨F', N'⟩ := E'.out (mu := [(_, _)]) (rest := [(c.d, c.D w line v1)]) (by k_asm) (news_sub (by k_asm) (by kcj_all)) rfl (by repeat' (first | exact trivial | refine And.intro ?_ ?_ | assumption | exact Ne.symm (by assumption) | (show @Ne Nat _ _; omega)))
    clear E'
    simp only [List.cons_append, List.nil_append] at N'
    k_sweep
    dsimp only
    walk_at "go"
    · have e : nlOf (chAt c.text i) = 1 := if_pos (by assumption)
      simp only [e] at hR
      exact hR _ _ _ _ _ (ends_of (by k_asm) (news_sub (by k_asm) (by kcj_all)) hg)
    · have e : nlOf (chAt c.text i) = 0 := if_neg (by rw [(by assumption : (chAt c.text i == Str.ofString "\n") = false)]; exact Bool.false_ne_true)
      simp only [e, Int.add_zero] at hR
      exact hR _ _ _ _ _ (ends_of (by k_asm) (news_sub (by k_asm) (by kcj_all)) hg)
end
section
variable {w : World} {lo : List Str} {mean : ExcName → Option Value} {mg mb : Str → Option Value} {b₀ : Heap} {dp un : Nat} {fr : Option (List Env)} {gd : Option (List Code)} {s : Shared} {R : Result → Shared → Prop}
noncomputable def lamPos : Pos := match ((Challenge.pw_pe0167_01.main.body : List Stmt)[7]? : Option Stmt) with
  | some (.FunctionDef _ _ (_ :: _ :: (.Assign _ (.Lambda _ _ _ p) _) :: _) _ _ _ _ _ _ _) => p
  | _ => default
/-- the lexer's changing part: the line's number, the place in the text, what waits -/
noncomputable abbrev Lx.mu (w : World) (c : Lx) (line : Int) (v1 : Tok) (i : Nat) (ti : Tok) (pend : List Value) (ep : Nat) : List (Addr × Obj) := [(c.d, c.D w line v1), (c.at_, listOf #[.int i ti] 0), (c.pb, listOf pend.toArray ep)]
set_option maxRecDepth 100000 in
set_option maxHeartbeats 8000000 in
theorem lexer1_c {text : Str} {t1 : Tok} (G : Gd (Mine.hd.heap_1 w.params) lo mean mg mb b₀) (hb : Over b₀ s.heap) (hN : Led b₀ s.heap [(138, tabObj #[])]) (hC : CodeHd b₀ 142 138)
    (hd : dp + 18 < recursionLimit) (ht : text.length ≤ 1048576)
    (hR : ∀ h' tk' (c : Lx) v1 ti ps, Ends s.heap h' [138] (c.mu w 1 v1 0 ti [] 0 ++ (c.ro ++ [(138, tabObj ps)])) → c.Ok → c.text = text → TriplesOk ps.toList → codeAmong lamPos ps.toList = some (.ref c.cc) → R (.ok (.ret (.ref c.x))) { s with heap := h', toks := tk' }) :
    codeAny (model P w) (Ar dp fr gd un) (.call (.ref 143) ⟨[.str text t1], []⟩) R s := by
  k_with_none
  k_with "exec For Name Attribute cons nil" => (k_dflt (refine for_exec ?_))
  k_with "exec For Name Name cons nil" => (k_dflt (refine for_exec ?_))
  k_with "exec For Name Call cons nil" => (k_dflt (refine for_exec ?_))
  k_with "call type:tuple" => ((k_here; (with_reducible show wpAny _ _ (call (Value.type _) [Value.ref _]) _ _ _); k_dflt (refine' tupleOf_c (by k_asm) (by k_asm) (by k_mem) (by ((have hL9 := IntsAre.length (by assumption)); rw [sizeLine_eq]; omega)) ?_; k_whole); intro _ _ _ _ l19q; (try k_lt l19q); (try k_sweep)))
  k_with "call builtin:len" => ((k_here; (with_reducible show wpAny _ _ (call (Value.builtin "len") [Value.ref _]) _ _ _); k_dflt (refine' len_tupI (by k_asm) (by with_reducible assumption) (by with_reducible assumption) (by omega) ?_; k_whole); intro _ _))
  k_with "execs cons" => ((k_dflt (refine execs_n (s := ‹Shared›) ?_); intro _; (try k_fold)))
  k_with "exec If BoolOp cons nil" => (((fail_if_success (with_reducible show wpAny _ _ _ (Cut _ _) _ _)); refine Hold.out ?_))
  k_with "out" => (repeat (first | (k_unfold; (try dsimp only)) | refine cut_ret ?_ | refine turn_ret ?_))
  k_with "go" => ((w_top off; repeat' (first | (k_unfold; (try dsimp only)) | walk1 | (dsimp only; walk1))))
  k_with "call ref" => (((with_reducible show wpAny _ _ (call (Value.ref 125) _ _) _ _ _); k_dflt (refine' call_cls (by k_asm) (by k_asm) (by k_asm) (by k_is) (by k_is) (by k_is) ?_; k_whole; intro _ _ _ _ _ l19q l29q; (try k_lt l19q); (try k_lt2 l29q); (try k_sweep))))
  have hC' : CodeHd (hideAll s.heap [138]) 142 138 := by
    refine hC.keeps fun b o e => hideAll_get _ (hb b o e) fun q => ?_
    rw [List.mem_singleton.mp q, (hN _ (.head _)).2] at e; cases e
  refine enterC (binds := [(Str.ofString "text", .str text t1)]) _ G hb hN (by k_is) (by k_is) (by show dp < _; omega) (BindsTo.of_eq rfl) rfl (by decide +kernel) ?_
  intro g L h₁ tk cells F N Y X T l1 hg
  k_cells Y
  simp only [List.cons_append, List.nil_append] at N
  have hCg : CodeHd g 142 138 := hC'.keeps fun b o e => hg b o (of_hideAll _ e) (by intro q; rw [show b = 138 by simpa using q, hideAll_none _ (.head _)] at e; cases e)
  k_lt l1
  walk_at "go"
  refine lexinit_c ⟨X, T⟩ (Fr.keep (by k_asm)) (led_of (by k_asm) (by kcj_all)) (by show dp + 1 + 1 + 8 < _; omega) (by omega) ?_
  intro h' tk' pb u1 u2 u3 u4 v1 v3 E' n1 n2
  have n3 := E'.offNew (a := pb) (by k_asm) (.head _) (by simp only [List.mem_cons, List.not_mem_nil, or_false, not_or]; exact ⟨n1, n2⟩)
  simp only [AllNe, and_true] at n3
  obtain ⟨F', N'⟩ := E'.out (mu := [(_, _), (_, _)]) (by k_asm) (by k_asm) rfl (by repeat' (first | exact trivial | refine And.intro ?_ ?_ | assumption | exact Ne.symm (by assumption) | (show @Ne Nat _ _; omega)))
  clear E'
  simp only [List.cons_append, List.nil_append] at N'
  k_sweep
  refine ⟨rfl, ?_⟩
  dsimp only
  walk_at "go"
  refine hR _ _ ⟨_, _, _, _, _, _, _, _, text, t1, _, _, _, _, _, _, _, _, _, _, _⟩ _ _ _ (ends_of (by k_asm) (news_sub (by k_asm) (by kcj_all)) hg) ⟨by assumption, by assumption, ⟨_, _, by assumption, by assumption⟩, by dsimp only; omega, ht⟩ rfl ?_ ?_
  · kn_triples
  · have e : lamPos = lamPos := rfl
    conv at e => rhs; whnf
    rw [e]
    kn_hit
local macro_rules | `(tactic| kn_triples) => `(tactic| assumption)
local macro_rules | `(tactic| kn_hit) => `(tactic| assumption)
set_option maxRecDepth 100000 in
set_option maxHeartbeats 8000000 in
theorem lexer2_c {text : Str} {t1 : Tok} {ps : Array Value} {cc : Nat} {oc : Obj} (G : Gd (Mine.hd.heap_1 w.params) lo mean mg mb b₀) (hb : Over b₀ s.heap) (hN : Led b₀ s.heap [(138, tabObj ps), (cc, oc)]) (hps : TriplesOk ps.toList) (hpf : codeAmong lamPos ps.toList = some (.ref cc)) (hoc : ∃ vs t, oc.data = .fields vs ∧ vs[1]? = some (.str lamQual t)) (hnc : @Ne Nat cc 138) (hC : CodeHd b₀ 142 138)
    (hd : dp + 18 < recursionLimit) (ht : text.length ≤ 1048576)
    (hR : ∀ h' tk' (c : Lx) v1 ti, Ends s.heap h' [138, cc] (c.mu w 1 v1 0 ti [] 0 ++ (c.ro ++ [(138, tabObj ps)])) → c.Ok → c.text = text → c.cc = cc → R (.ok (.ret (.ref c.x))) { s with heap := h', toks := tk' }) :
    codeAny (model P w) (Ar dp fr gd un) (.call (.ref 143) ⟨[.str text t1], []⟩) R s := by
  k_with_none
  k_with "exec For Name Attribute cons nil" => (k_dflt (refine for_exec ?_))
  k_with "exec For Name Name cons nil" => (k_dflt (refine for_exec ?_))
  k_with "exec For Name Call cons nil" => (k_dflt (refine for_exec ?_))
  k_with "call type:tuple" => ((k_here; (with_reducible show wpAny _ _ (call (Value.type _) [Value.ref _]) _ _ _); k_dflt (refine' tupleOf_c (by k_asm) (by k_asm) (by k_mem) (by ((have hL9 := IntsAre.length (by assumption)); rw [sizeLine_eq]; omega)) ?_; k_whole); intro _ _ _ _ l19q; (try k_lt l19q); (try k_sweep)))
  k_with "call builtin:len" => ((k_here; (with_reducible show wpAny _ _ (call (Value.builtin "len") [Value.ref _]) _ _ _); k_dflt (refine' len_tupI (by k_asm) (by with_reducible assumption) (by with_reducible assumption) (by omega) ?_; k_whole); intro _ _))
  k_with "execs cons" => ((k_dflt (refine execs_n (s := ‹Shared›) ?_); intro _; (try k_fold)))
  k_with "exec If BoolOp cons nil" => (((fail_if_success (with_reducible show wpAny _ _ _ (Cut _ _) _ _)); refine Hold.out ?_))
  k_with "out" => (repeat (first | (k_unfold; (try dsimp only)) | refine cut_ret ?_ | refine turn_ret ?_))
  k_with "go" => ((w_top off; repeat' (first | (k_unfold; (try dsimp only)) | walk1 | (dsimp only; walk1))))
  k_with "call ref" => (((with_reducible show wpAny _ _ (call (Value.ref 125) _ _) _ _ _); k_dflt (refine' call_cls (by k_asm) (by k_asm) (by k_asm) (by k_is) (by k_is) (by k_is) ?_; k_whole; intro _ _ _ _ _ l19q l29q; (try k_lt l19q); (try k_lt2 l29q); (try k_sweep))))
  have hC' : CodeHd (hideAll s.heap [138, cc]) 142 138 := by
    refine hC.keeps fun b o e => hideAll_get _ (hb b o e) fun q => ?_
    rcases List.mem_cons.mp q with q | q
    · rw [q, (hN _ (.head _)).2] at e; cases e
    · rw [List.mem_singleton.mp q, (hN _ (.tail _ (.head _))).2] at e; cases e
  have e : lamPos = lamPos := rfl
  conv at e => rhs; whnf
  rw [e] at hpf
  clear e
  obtain ⟨vsc, tc, hoc1, hoc2⟩ := hoc
  refine enterC (binds := [(Str.ofString "text", .str text t1)]) _ G hb hN (by k_is) (by k_is) (by show dp < _; omega) (BindsTo.of_eq rfl) rfl (by decide +kernel) ?_
  intro g L h₁ tk cells F N Y X T l1 hg
  k_cells Y
  simp only [List.cons_append, List.nil_append] at N
  have hCg : CodeHd g 142 138 := hC'.keeps fun b o e => hg b o (of_hideAll _ e) (by intro q; rw [hideAll_none [138, cc] (by simpa using q)] at e; cases e)
  k_lt l1
  walk_at "go"
  refine lexinit_c ⟨X, T⟩ (Fr.keep (by k_asm)) (led_of (by k_asm) (by kcj_all)) (by show dp + 1 + 1 + 8 < _; omega) (by omega) ?_
  intro h' tk' pb u1 u2 u3 u4 v1 v3 E' n1 n2
  have n3 := E'.offNew (a := pb) (by k_asm) (.head _) (by simp only [List.mem_cons, List.not_mem_nil, or_false, not_or]; exact ⟨n1, n2⟩)
  simp only [AllNe, and_true] at n3
  obtain ⟨F', N'⟩ := E'.out (mu := [(_, _), (_, _)]) (by k_asm) (by k_asm) rfl (by repeat' (first | exact trivial | refine And.intro ?_ ?_ | assumption | exact Ne.symm (by assumption) | (show @Ne Nat _ _; omega)))
  clear E'
  simp only [List.cons_append, List.nil_append] at N'
  k_sweep
  refine ⟨rfl, ?_⟩
  dsimp only
  walk_at "go"
  refine hR _ _ ⟨_, _, _, _, _, _, _, _, text, t1, _, _, _, _, _, _, _, _, _, _, _⟩ _ _ (ends_of (by k_asm) (news_sub (by k_asm) (by kcj_all)) hg) ⟨by assumption, by assumption, ⟨_, _, by assumption, by assumption⟩, by dsimp only; omega, ht⟩ rfl rfl
end
section
variable {w : World} {lo : List Str} {mean : ExcName → Option Value} {mg mb : Str → Option Value} {b₀ : Heap} {dp un : Nat} {fr : Option (List Env)} {gd : Option (List Code)} {s : Shared} {R : Result → Shared → Prop}
local macro_rules | `(tactic| walk_at "call builtin:list.pop") => `(tactic| (k_here; k_dflt (refine' pop0 ?F ?N ?l ?U ?_; (case F => k_asm); (case N => k_asm); (case U => k_upd); (case l => omega); k_whole); intro h' F' N'; (try k_sweep)))
/-- the lexer's unchanging part lies apart from its changing one -/
theorem Lx.At.off {c : Lx} {h g : Heap} {line : Int} {v1 : Tok} {pend : List Value} {i : Nat} {ti : Tok} {n ep : Nat} (hA : c.At h) (ok : c.Ok) (hdd : h.get? c.d = some (c.D w line v1)) (hat : h.get? c.at_ = some (listOf #[.int i ti] n)) (hpb : h.get? c.pb = some (listOf pend.toArray ep))
    (hg : ∀ b o, h.get? b = some o → b ∉ [c.d, c.at_, c.pb] → g.get? b = some o) : c.At g := by
  intro p hp
  refine hg _ _ (hA p hp) ?_
  simp only [List.mem_cons, List.not_mem_nil, or_false, not_or]
  have hp2 := hA p hp
  simp only [Lx.ro, List.mem_cons, List.not_mem_nil, or_false] at hp
  rcases hp with rfl | rfl | rfl | rfl | rfl
  · exact ⟨ne_obj hp2 hdd nofun, ne_obj hp2 hat nofun, ne_obj hp2 hpb nofun⟩
  · exact ⟨ne_obj hp2 hdd nofun, ne_obj hp2 hat nofun, ne_obj hp2 hpb nofun⟩
  · exact ⟨ne_obj hp2 hdd (by rw [ok.d1]; nofun), ne_obj hp2 hat (by rw [ok.d1]; nofun), ne_obj hp2 hpb (by rw [ok.d1]; nofun)⟩
  · exact ⟨ne_obj hp2 hdd (by rw [ok.d2]; nofun), ne_obj hp2 hat (by rw [ok.d2]; nofun), ne_obj hp2 hpb (by rw [ok.d2]; nofun)⟩
  · obtain ⟨vs, t, e1, e2⟩ := ok.dc
    exact ⟨ne_obj hp2 hdd (by rw [e1]; nofun), ne_obj hp2 hat (by rw [e1]; nofun), ne_obj hp2 hpb (by rw [e1]; nofun)⟩
set_option maxRecDepth 100000 in
set_option maxHeartbeats 8000000 in
theorem push_c {c : Lx} {line : Int} {v1 ti : Tok} {i ep : Nat} {pend : List Value} {tok : Value} (G : Gd (Mine.hd.heap_1 w.params) lo mean mg mb b₀) (hb : Over b₀ s.heap) (hN : Led b₀ s.heap (c.mu w line v1 i ti pend ep)) (hA : c.At s.heap) (ok : c.Ok)
    (hd : dp + 28 < recursionLimit) (hl : pend.length ≤ 1000000)
    (hR : ∀ h' tk', Ends s.heap h' [c.d, c.at_, c.pb] (c.mu w line v1 i ti (pend ++ [tok]) (ep + 1)) → R (.ok (.ret .none)) { s with heap := h', toks := tk' }) :
    codeAny (model P w) (Ar dp fr gd un) (.call (.ref 122) ⟨[.ref c.x, tok], []⟩) R s := by
  k_with_none
  k_with "exec For Name Attribute cons nil" => (k_dflt (refine for_exec ?_))
  k_with "exec For Name Name cons nil" => (k_dflt (refine for_exec ?_))
  k_with "exec For Name Call cons nil" => (k_dflt (refine for_exec ?_))
  k_with "call type:tuple" => ((k_here; (with_reducible show wpAny _ _ (call (Value.type _) [Value.ref _]) _ _ _); k_dflt (refine' tupleOf_c (by k_asm) (by k_asm) (by k_mem) (by ((have hL9 := IntsAre.length (by assumption)); rw [sizeLine_eq]; omega)) ?_; k_whole); intro _ _ _ _ l19q; (try k_lt l19q); (try k_sweep)))
  k_with "call builtin:len" => ((k_here; (with_reducible show wpAny _ _ (call (Value.builtin "len") [Value.ref _]) _ _ _); k_dflt (refine' len_tupI (by k_asm) (by with_reducible assumption) (by with_reducible assumption) (by omega) ?_; k_whole); intro _ _))
  k_with "execs cons" => ((k_dflt (refine execs_n (s := ‹Shared›) ?_); intro _; (try k_fold)))
  k_with "exec If BoolOp cons nil" => (((fail_if_success (with_reducible show wpAny _ _ _ (Cut _ _) _ _)); refine Hold.out ?_))
  k_with "out" => (repeat (first | (k_unfold; (try dsimp only)) | refine cut_ret ?_ | refine turn_ret ?_))
  k_with "go" => ((w_top off; repeat' (first | (k_unfold; (try dsimp only)) | walk1 | (dsimp only; walk1))))
  k_with "truthy ref" => ((k_here; k_dflt (first | (refine' truthy_nil (by k_asm) (by k_mem) ?_; k_whole) | (refine' truthy_cons (by k_asm) (by k_mem) (by omega) ?_; k_whole)); intro _))
  have hdd := (hN _ (.head _)).1
  have hat := (hN _ (.tail _ (.head _))).1
  have hpb := (hN _ (.tail _ (.tail _ (.head _)))).1
  have nda : @Ne Nat c.d c.at_ := ne_obj hdd hat nofun
  have ndp : @Ne Nat c.d c.pb := ne_obj hdd hpb nofun
  have nap := ok.ne
  refine enter (binds := [(Str.ofString "self", .ref c.x), (Str.ofString "token", tok)]) _ G hb hN (by k_is) (by k_is) (by show dp < _; omega) (BindsTo.of_eq rfl) (locs rfl) (by decide) ?_
  intro g L h₁ tk F N X T hg
  have hAg := hA.off ok hdd hat hpb hg
  have gx : g.get? c.x = some (instObj 125 c.d) := hAg _ (.head _)
  walk_at "go"
  have e : pend.toArray.push tok = (pend ++ [tok]).toArray := by simp
  (rename News _ _ _ _ => N9)
  rw [e] at N9
  exact hR _ _ (ends_of (by k_asm) N9 hg)
set_option maxRecDepth 100000 in
set_option maxHeartbeats 8000000 in
/-- get_token, where something waits -/
theorem tokA_c {c : Lx} {line : Int} {v1 ti : Tok} {i ep : Nat} {v : Value} {pend : List Value} (G : Gd (Mine.hd.heap_1 w.params) lo mean mg mb b₀) (hb : Over b₀ s.heap) (hN : Led b₀ s.heap (c.mu w line v1 i ti (v :: pend) ep)) (hA : c.At s.heap) (ok : c.Ok)
    (hd : dp + 28 < recursionLimit) (hl : pend.length ≤ 100000)
    (hR : ∀ h' tk', Ends s.heap h' [c.d, c.at_, c.pb] (c.mu w line v1 i ti pend (ep + 1)) → R (.ok (.ret v)) { s with heap := h', toks := tk' }) :
    codeAny (model P w) (Ar dp fr gd un) (.call (.ref 115) ⟨[.ref c.x], []⟩) R s := by
  k_with_none
  k_with "exec For Name Attribute cons nil" => (k_dflt (refine for_exec ?_))
  k_with "exec For Name Name cons nil" => (k_dflt (refine for_exec ?_))
  k_with "exec For Name Call cons nil" => (k_dflt (refine for_exec ?_))
  k_with "call type:tuple" => ((k_here; (with_reducible show wpAny _ _ (call (Value.type _) [Value.ref _]) _ _ _); k_dflt (refine' tupleOf_c (by k_asm) (by k_asm) (by k_mem) (by ((have hL9 := IntsAre.length (by assumption)); rw [sizeLine_eq]; omega)) ?_; k_whole); intro _ _ _ _ l19q; (try k_lt l19q); (try k_sweep)))
  k_with "call builtin:len" => ((k_here; (with_reducible show wpAny _ _ (call (Value.builtin "len") [Value.ref _]) _ _ _); k_dflt (refine' len_tupI (by k_asm) (by with_reducible assumption) (by with_reducible assumption) (by omega) ?_; k_whole); intro _ _))
  k_with "execs cons" => ((k_dflt (refine execs_n (s := ‹Shared›) ?_); intro _; (try k_fold)))
  k_with "exec If BoolOp cons nil" => (((fail_if_success (with_reducible show wpAny _ _ _ (Cut _ _) _ _)); refine Hold.out ?_))
  k_with "out" => (repeat (first | (k_unfold; (try dsimp only)) | refine cut_ret ?_ | refine turn_ret ?_))
  k_with "go" => ((w_top off; repeat' (first | (k_unfold; (try dsimp only)) | walk1 | (dsimp only; walk1))))
  k_with "truthy ref" => ((k_here; k_dflt (first | (refine' truthy_nil (by k_asm) (by k_mem) ?_; k_whole) | (refine' truthy_cons (by k_asm) (by k_mem) (by omega) ?_; k_whole)); intro _))
  have hdd := (hN _ (.head _)).1
  have hat := (hN _ (.tail _ (.head _))).1
  have hpb := (hN _ (.tail _ (.tail _ (.head _)))).1
  have nda : @Ne Nat c.d c.at_ := ne_obj hdd hat nofun
  have ndp : @Ne Nat c.d c.pb := ne_obj hdd hpb nofun
  have nap := ok.ne
  refine enter (binds := [(Str.ofString "self", .ref c.x)]) _ G hb hN (by k_is) (by k_is) (by show dp < _; omega) (BindsTo.of_eq rfl) (locs rfl) (by decide) ?_
  intro g L h₁ tk F N X T hg
  have hAg := hA.off ok hdd hat hpb hg
  have gx : g.get? c.x = some (instObj 125 c.d) := hAg _ (.head _)
  walk_at "go"
  exact hR _ _ (ends_of (by k_asm) (by k_asm) hg)
end
section
variable {w : World} {lo : List Str} {mean : ExcName → Option Value} {mg mb : Str → Option Value} {b₀ : Heap} {dp un : Nat} {fr : Option (List Env)} {gd : Option (List Code)} {s : Shared} {R : Result → Shared → Prop}
noncomputable abbrev Lx.run (w : World) (c : Lx) (line : Int) (v1 : Tok) (i : Nat) (ti : Tok) (ep it q : Nat) (t0 : Tok) : List (Addr × Obj) :=
  [(c.d, c.D w line v1), (c.at_, listOf #[.int i ti] 0), (c.pb, listOf #[] ep), (it, citObj (.ref q) (.str (Str.ofString "") t0) false), (q, methodObj (.ref 108) (.ref c.x))]
theorem nlOf_chr (c : Nat) : nlOf ⟨#[c]⟩ = nl1 c := by
  unfold nlOf nl1
  by_cases h : c = 10
  · subst h; rw [if_pos (by decide), if_pos rfl]
  · rw [if_neg (by intro q; exact h (by have := eq_of_beq q; rw [show Str.ofString "\n" = ⟨#[10]⟩ by decide +kernel] at this; simpa using this)), if_neg h]
theorem isFun_of {K : Frag} {f : Addr} {fo : Obj} {fd : FuncData} (h : K.lookup f = some fo) (h2 : fo.data = .func fd) : ∃ fo fd, K.lookup f = some fo ∧ fo.data = .func fd := ⟨_, _, h, h2⟩
theorem isFun_readchar : ∃ fo fd, (Mine.hd.heap_1 w.params).lookup 108 = some fo ∧ fo.data = .func fd := by
  exact isFun_of (by k_is) (by rfl)
set_option maxRecDepth 100000 in
theorem next_lx {g : Heap} {L : Addr} {m : Str → Option Value} {E : Value → Shared → Prop} {c : Lx} {line : Int} {v1 ti t0 : Tok} {i ep it q : Nat} {Q : Option Value → Shared → Prop} (X : (Mine.hd.heap_1 w.params).In g) (T : Top topProg lo mean mg mb g) (F : Fr g L s.heap m) (N : News g L s.heap (c.run w line v1 i ti ep it q t0)) (hA : c.At g) (ok : c.Ok) (hd : dp + 30 < recursionLimit)
    (k1 : ∀ ch, c.text.cps[i]? = some ch → ∀ h' tk' v1' ti' t', Fr g L h' m → News g L h' (c.run w (line + nl1 ch) v1' (i + 1) ti' ep it q t0) → Q (some (.str ⟨#[ch]⟩ t')) { s with heap := h', toks := tk' })
    (k2 : c.text.cps[i]? = none → ∀ h' tk' v1' ti', Fr g L h' m → News g L h' (c.mu w line v1' i ti' [] ep) → Q none { s with heap := h', toks := tk' }) :
    wpAny (model P w) (Ar dp fr gd un) (pyNext (.ref it)) Q E s := by
  have hdd := (N _ (.head _)).1
  have hat := (N _ (.tail _ (.head _))).1
  have hpb := (N _ (.tail _ (.tail _ (.head _)))).1
  have hit := (N _ (.tail _ (.tail _ (.tail _ (.head _))))).1
  have hq := (N _ (.tail _ (.tail _ (.tail _ (.tail _ (.head _)))))).1
  have n1 : @Ne Nat it c.d := ne_obj hit hdd nofun
  have n2 : @Ne Nat it c.at_ := ne_obj hit hat nofun
  have n3 : @Ne Nat it c.pb := ne_obj hit hpb nofun
  have n4 : @Ne Nat q c.d := ne_obj hq hdd nofun
  have n5 : @Ne Nat q c.at_ := ne_obj hq hat nofun
  have n6 : @Ne Nat c.pb c.d := ne_obj hpb hdd nofun
  have n7 := ok.ne
  obtain ⟨fo, fd, hK, hfd⟩ := isFun_readchar (w := w)
  have hf := F.keep _ _ (X _ _ hK)
  have hdn := (N _ (.head _)).2.2
  have han := (N _ (.tail _ (.head _))).2.2
  have hNL : Led g s.heap [(c.d, c.D w line v1), (c.at_, listOf #[.int i ti] 0)] := .cons hdd hdn (.cons hat han .nil)
  refine next_cit rfl hit hq hf hfd (readchar_c ⟨X, T⟩ F.keep hNL (hA.keeps F.keep) ok (by show dp + 28 < _; omega) ?_)
  intro h' tk' t' v1' ti' E'
  obtain ⟨F', N'⟩ := E'.out (mu := [(_, _), (_, _)]) F N rfl (by repeat' (first | exact trivial | refine And.intro ?_ ?_ | assumption | exact Ne.symm (by assumption) | (show @Ne Nat _ _; omega)))
  have hit' := (N' _ (.tail _ (.tail _ (.tail _ (.head _))))).1
  have hq' := (N' _ (.tail _ (.tail _ (.tail _ (.tail _ (.head _)))))).1
  refine ⟨_, _, rfl, hit', hq', F'.keep _ _ (X _ _ hK), ?_, ?_⟩
  · intro hne
    cases hc : c.text.cps[i]? with
    | none => exact absurd (chAt_none hc) hne
    | some ch =>
      have e := chAt_some hc
      show Q (some (.str (chAt c.text i) t')) _
      have e2 : chAt c.text i = ⟨#[ch]⟩ := e
      simp only [e2, nlOf_chr] at N' ⊢
      exact k1 ch hc _ _ _ _ _ F' N'
  · intro he h2 hx
    have hc : c.text.cps[i]? = none := by
      cases hc : c.text.cps[i]? with
      | none => rfl
      | some ch =>
        have e := chAt_some hc
        rw [show Txt.slice c.text (some (i : Int)) (some ((i : Int) + 1)) = Str.ofString "" from he] at e
        exact absurd (congrArg (fun x => x.cps.size) e) (by show ¬ (Str.ofString "").cps.size = 1; decide +kernel)
    have e0 : nlOf (Str.ofString "") = 0 := by decide +kernel
    have e1 : (Str.ofString "").length = 0 := by decide +kernel
    have he' : chAt c.text i = Str.ofString "" := he
    simp only [he', e0, e1, Int.add_zero] at N'
    have hit2 := (N' _ (.tail _ (.tail _ (.tail _ (.head _))))).2
    have kp : ∀ b o, b ≠ it → h'.get? b = some o → h2.get? b = some o := fun b o q e => hx b o q e
    refine k2 hc h2 _ v1' ti' ?_ ?_
    · obtain ⟨oL, es, ep, hL, r⟩ := F'.ns
      exact ⟨⟨oL, es, ep, kp _ _ (fun q => hit2.1 q.symm) hL, r⟩, fun b o e => kp b o (fun q => by rw [q, hit2.2] at e; cases e) (F'.keep b o e), F'.above⟩
    · intro p hp
      simp only [Lx.mu, List.mem_cons, List.not_mem_nil, or_false] at hp
      rcases hp with rfl | rfl | rfl
      · exact ⟨kp _ _ (Ne.symm n1) (N' _ (.head _)).1, (N' _ (.head _)).2⟩
      · exact ⟨kp _ _ (Ne.symm n2) (N' _ (.tail _ (.head _))).1, (N' _ (.tail _ (.head _))).2⟩
      · exact ⟨kp _ _ (Ne.symm n3) (N' _ (.tail _ (.tail _ (.head _)))).1, (N' _ (.tail _ (.tail _ (.head _)))).2⟩
/-- a turn's end, over a lexer's characters -/
noncomputable def TurnL (w : World) (c : Lx) (g : Heap) (L : Addr) (ep it q : Nat) (t0 : Tok) (s : Shared) (J : Nat → Int → (Str → Option Value) → Prop) (i : Nat) (Q : Flow → Shared → Prop) (f : Flow) (s₂ : Shared) : Prop := match f with
  | .ret v => Q (.ret v) s₂
  | .brk => Q .next s₂
  | _ => ∃ i' line' v1 ti m' h tk, i < i' ∧ J i' line' m' ∧ s₂ = { s with heap := h, toks := tk } ∧ Fr g L h m' ∧ News g L h (c.run w line' v1 i' ti ep it q t0)
theorem turnL_ret {c : Lx} {g : Heap} {L : Addr} {ep it q : Nat} {t0 : Tok} {J : Nat → Int → (Str → Option Value) → Prop} {i : Nat} {Q : Flow → Shared → Prop} {v : Value} {s₂ : Shared} (h : Q (.ret v) s₂) : TurnL w c g L ep it q t0 s J i Q (.ret v) s₂ := h
theorem turnL_next {c : Lx} {g : Heap} {L : Addr} {ep it q : Nat} {t0 : Tok} {J : Nat → Int → (Str → Option Value) → Prop} {i : Nat} {Q : Flow → Shared → Prop} {i' : Nat} {line' : Int} {v1 ti : Tok} {m' : Str → Option Value} {h : Heap} {tk : Nat}
    (F : Fr g L h m') (N : News g L h (c.run w line' v1 i' ti ep it q t0)) (hi : i < i') (hJ : J i' line' m') : TurnL w c g L ep it q t0 s J i Q .next { s with heap := h, toks := tk } := ⟨i', line', v1, ti, m', h, tk, hi, hJ, rfl, F, N⟩
theorem turnL_cont {c : Lx} {g : Heap} {L : Addr} {ep it q : Nat} {t0 : Tok} {J : Nat → Int → (Str → Option Value) → Prop} {i : Nat} {Q : Flow → Shared → Prop} {i' : Nat} {line' : Int} {v1 ti : Tok} {m' : Str → Option Value} {h : Heap} {tk : Nat}
    (F : Fr g L h m') (N : News g L h (c.run w line' v1 i' ti ep it q t0)) (hi : i < i') (hJ : J i' line' m') : TurnL w c g L ep it q t0 s J i Q .cont { s with heap := h, toks := tk } := ⟨i', line', v1, ti, m', h, tk, hi, hJ, rfl, F, N⟩
theorem for_lx {g : Heap} {L : Addr} {m : Str → Option Value} {env : Env} {c : Lx} {line : Int} {v1 ti t0 : Tok} {i ep it q : Nat} {Q : Flow → Shared → Prop} {x : Str} {px : Pos} {body : List Stmt} (X : (Mine.hd.heap_1 w.params).In g) (T : Top topProg lo mean mg mb g) (F : Fr g L s.heap m) (N : News g L s.heap (c.run w line v1 i ti ep it q t0)) (hA : c.At g) (ok : c.Ok) (hd : dp + 30 < recursionLimit)
    (hL : env.locals = L) (hx : env.kindOf x = some .local) (hp : (env.scope.kind == .class || (env.scope.kind == .module && env.locals != env.globals)) = false)
    (J : Nat → Nat → Int → (Str → Option Value) → Prop) (h0 : J it i line m)
    (turn : ∀ i line v1 ti m₁ ch tc h tk, J it i line m₁ → c.text.cps[i]? = some ch → Fr g L h (fun y => if y = x then some (.str ⟨#[ch]⟩ tc) else m₁ y) → News g L h (c.run w (line + nl1 ch) v1 (i + 1) ti ep it q t0) →
      wpAny (model P w) (Ar dp fr gd un) (execs body env) (TurnL w c g L ep it q t0 s (J it) i Q) (fun _ _ => False) { s with heap := h, toks := tk })
    (done : ∀ i line v1 ti m₁ h tk, J it i line m₁ → c.text.cps[i]? = none → Fr g L h m₁ → News g L h (c.mu w line v1 i ti [] ep) → Q .next { s with heap := h, toks := tk }) :
    ForSrc P w (Ar dp fr gd un) env (.Name x px) body Q (.ref it) s := by
  subst hL
  unfold ForSrc
  refine iter_cit (N _ (.tail _ (.tail _ (.tail _ (.head _))))).1 ?_
  refine forI (fun n s' => ∃ i line v1 ti m' h tk, n = c.text.cps.size - i ∧ J it i line m' ∧ s' = { s with heap := h, toks := tk } ∧ Fr g env.locals h m' ∧ News g env.locals h (c.run w line v1 i ti ep it q t0)) ?_ _ ⟨i, line, v1, ti, m, s.heap, s.toks, rfl, h0, rfl, F, N⟩
  rintro n s' ⟨i, line, v1, ti, m', h, tk, rfl, hJ, rfl, F, N⟩
  refine next_lx X T F N hA ok hd ?_ ?_
  · intro ch hc h' tk' v1' ti' t' F' N'
    have hsz : i < c.text.cps.size := (Array.getElem?_eq_some_iff.mp hc).1
    refine wpAny_assign_Name (wpAny_storeName_local hx F'.ns (fun h₂ hn₂ hs₂ => ?_) hp)
    refine wpAny_mono (turn i line v1' ti' m' ch t' h₂ _ hJ hc (F'.set hn₂ hs₂) (N'.set hs₂)) (fun f s₃ h₃ => ?_) fun _ _ e => e.elim
    have fin : (∃ i' line' v1 ti m' h tk, i < i' ∧ J it i' line' m' ∧ s₃ = { s with heap := h, toks := tk } ∧ Fr g env.locals h m' ∧ News g env.locals h (c.run w line' v1 i' ti ep it q t0)) →
        ∃ n, n < c.text.cps.size - i ∧ ∃ i line v1 ti m' h tk, n = c.text.cps.size - i ∧ J it i line m' ∧ s₃ = { s with heap := h, toks := tk } ∧ Fr g env.locals h m' ∧ News g env.locals h (c.run w line v1 i ti ep it q t0) := by
      rintro ⟨i', line', v1, ti, m', h, tk, hi, a⟩
      exact ⟨_, by omega, i', line', v1, ti, m', h, tk, rfl, a⟩
    cases f with
    | ret v => exact h₃
    | brk => exact h₃
    | next => exact fin h₃
    | cont => exact fin h₃
  · intro hc h' tk' v1' ti' F' N'
    exact done i line v1' ti' m' h' tk' hJ hc F' N'
end
section
variable {w : World} {lo : List Str} {mean : ExcName → Option Value} {mg mb : Str → Option Value} {b₀ : Heap} {dp un : Nat} {fr : Option (List Env)} {gd : Option (List Code)} {s : Shared} {R : Result → Shared → Prop}
theorem isWs_in (ch : Nat) : (!(Builtin.Str.occurrences wsText ⟨#[ch]⟩ 0 wsText.length 1).isEmpty) = isWs ch := by
  rw [StrLaws.found_one, show wsText.cps.toList = [10, 9, 13, 32] by decide +kernel, mem_ws]
theorem in_ws {A : Around} {E : Value → Shared → Prop} {ch : Nat} {t u : Tok} {b : Bool} {Q : Value → Shared → Prop} (hb : isWs ch = b) (h : Q (.bool b) s) : wpAny (model P w) A (compareOp .In (.str ⟨#[ch]⟩ t) (.str wsText u)) Q E s :=
  PyProof.Rows.in_str (by rw [isWs_in, hb]; exact h)
theorem eq_k {A : Around} {E : Value → Shared → Prop} {x y : Str} {t u : Tok} {b : Bool} {Q : Value → Shared → Prop} (hb : (x == y) = b) (h : Q (.bool b) s) : wpAny (model P w) A (compareOp .Eq (.str x t) (.str y u)) Q E s :=
  PyProof.Rows.eq_str (by rw [hb]; exact h)
theorem chr_q {ch : Nat} (h : ch ≠ 34) : ((⟨#[ch]⟩ : Str) == Str.ofString "\"") = false := by
  rw [show Str.ofString "\"" = ⟨#[34]⟩ by decide +kernel]
  exact beq_eq_false_iff_ne.mpr (by simpa using h)
theorem chr_b {ch : Nat} (h : ch ≠ 92) : ((⟨#[ch]⟩ : Str) == Str.ofString "\\") = false := by
  rw [show Str.ofString "\\" = ⟨#[92]⟩ by decide +kernel]
  exact beq_eq_false_iff_ne.mpr (by simpa using h)
theorem rc_c {g : Heap} {L : Addr} {m : Str → Option Value} {E : Value → Shared → Prop} {c : Lx} {line : Int} {v1 ti t0 : Tok} {i ep it q d : Nat} {Q : Value → Shared → Prop} (X : (Mine.hd.heap_1 w.params).In g) (T : Top topProg lo mean mg mb g) (F : Fr g L s.heap m) (N : News g L s.heap (c.run w line v1 i ti ep it q t0)) (hA : c.At g) (ok : c.Ok) (hc : c.text.cps[i]? = some d) (hd : dp + 30 < recursionLimit)
    (k : ∀ h' tk' v1' ti' t', Fr g L h' m → News g L h' (c.run w (line + nl1 d) v1' (i + 1) ti' ep it q t0) → Q (.str ⟨#[d]⟩ t') { s with heap := h', toks := tk' }) :
    wpAny (model P w) (Ar dp fr gd un) (call (.ref 108) [.ref c.x]) Q E s := by
  have hdd := (N _ (.head _)).1
  have hat := (N _ (.tail _ (.head _))).1
  have hpb := (N _ (.tail _ (.tail _ (.head _)))).1
  have hit := (N _ (.tail _ (.tail _ (.tail _ (.head _))))).1
  have hq := (N _ (.tail _ (.tail _ (.tail _ (.tail _ (.head _)))))).1
  have n1 : @Ne Nat it c.d := ne_obj hit hdd nofun
  have n2 : @Ne Nat it c.at_ := ne_obj hit hat nofun
  have n4 : @Ne Nat q c.d := ne_obj hq hdd nofun
  have n5 : @Ne Nat q c.at_ := ne_obj hq hat nofun
  have n6 : @Ne Nat c.pb c.d := ne_obj hpb hdd nofun
  have n7 := ok.ne
  have hdn := (N _ (.head _)).2.2
  have han := (N _ (.tail _ (.head _))).2.2
  have hNL : Led g s.heap [(c.d, c.D w line v1), (c.at_, listOf #[.int i ti] 0)] := .cons hdd hdn (.cons hat han .nil)
  refine wpAny_call (readchar_c ⟨X, T⟩ F.keep hNL (hA.keeps F.keep) ok (by show dp + 28 < _; omega) ?_)
  intro h' tk' t' v1' ti' E'
  obtain ⟨F', N'⟩ := E'.out (mu := [(_, _), (_, _)]) F N rfl (by repeat' (first | exact trivial | refine And.intro ?_ ?_ | assumption | exact Ne.symm (by assumption) | (show @Ne Nat _ _; omega)))
  have e2 : chAt c.text i = ⟨#[d]⟩ := chAt_some hc
  show Q (.str (chAt c.text i) t') _
  simp only [e2, nlOf_chr] at N' ⊢
  exact k _ _ _ _ _ F' N'
theorem drop_none {a : Array Nat} {i : Nat} (h : a[i]? = none) : a.toList.drop i = [] := by
  rw [List.drop_eq_nil_iff]; simpa using h
inductive TkJ (c : Lx) (it : Nat) (t r : List Nat) (K : Int) (i : Nat) (line : Int) (m₁ : Str → Option Value) : Prop
  | mk (tv : Tok) (e0 : m₁ (Str.ofString "self") = some (.ref c.x)) (e1 : m₁ (Str.ofString "token") = some (.str (Str.ofString "") tv)) (e2 : m₁ (Str.ofString "fiter") = some (.ref it)) (hT : TTo (c.text.cps.toList.drop i) t r) (hl : line + nls (c.text.cps.toList.drop i) = K)
inductive TqJ (c : Lx) (it : Nat) (t r : List Nat) (K : Int) (i : Nat) (line : Int) (m₁ : Str → Option Value) : Prop
  | mk (u : Str) (t2 : List Nat) (tv : Tok) (e0 : m₁ (Str.ofString "self") = some (.ref c.x)) (e1 : m₁ (Str.ofString "token") = some (.str u tv)) (e2 : m₁ (Str.ofString "fiter") = some (.ref it)) (hu : u ++ S t2 = S t) (hT : QTo (c.text.cps.toList.drop i) t2 r) (hl : line + nls (c.text.cps.toList.drop i) = K)
inductive TuJ (c : Lx) (it : Nat) (t r : List Nat) (K : Int) (i : Nat) (line : Int) (m₁ : Str → Option Value) : Prop
  | mk (u : Str) (t2 : List Nat) (tv : Tok) (e0 : m₁ (Str.ofString "self") = some (.ref c.x)) (e1 : m₁ (Str.ofString "token") = some (.str u tv)) (e2 : m₁ (Str.ofString "fiter") = some (.ref it)) (hu : u ++ S t2 = S t) (hT : UTo (c.text.cps.toList.drop i) t2 r) (hl : line + nls (c.text.cps.toList.drop i) = K)
set_option maxRecDepth 100000 in
set_option maxHeartbeats 8000000 in
/-- get_token, where nothing waits -/
theorem tokB_c {c : Lx} {line0 : Int} {v10 ti0 : Tok} {i0 ep : Nat} {t r : List Nat} (G : Gd (Mine.hd.heap_1 w.params) lo mean mg mb b₀) (hb : Over b₀ s.heap) (hN : Led b₀ s.heap (c.mu w line0 v10 i0 ti0 [] ep)) (hA : c.At s.heap) (ok : c.Ok)
    (hd : dp + 48 < recursionLimit) (hT : TTo (c.text.cps.toList.drop i0) t r) 
    (hR : ∀ h' tk' v1' ti' j line' tv, Ends s.heap h' [c.d, c.at_, c.pb] (c.mu w line' v1' j ti' [] ep) → c.text.cps.toList.drop j = r → line' + nls r = line0 + nls (c.text.cps.toList.drop i0) → R (.ok (.ret (.str (S t) tv))) { s with heap := h', toks := tk' }) :
    codeAny (model P w) (Ar dp fr gd un) (.call (.ref 115) ⟨[.ref c.x], []⟩) R s := by
  k_with_none
  k_with "exec For Name Attribute cons nil" => (k_dflt (refine for_exec ?_))
  k_with "exec For Name Name cons nil" => (k_dflt (refine for_exec ?_))
  k_with "exec For Name Call cons nil" => (k_dflt (refine for_exec ?_))
  k_with "call type:tuple" => ((k_here; (with_reducible show wpAny _ _ (call (Value.type _) [Value.ref _]) _ _ _); k_dflt (refine' tupleOf_c (by k_asm) (by k_asm) (by k_mem) (by ((have hL9 := IntsAre.length (by assumption)); rw [sizeLine_eq]; omega)) ?_; k_whole); intro _ _ _ _ l19q; (try k_lt l19q); (try k_sweep)))
  k_with "call builtin:len" => ((k_here; (with_reducible show wpAny _ _ (call (Value.builtin "len") [Value.ref _]) _ _ _); k_dflt (refine' len_tupI (by k_asm) (by with_reducible assumption) (by with_reducible assumption) (by omega) ?_; k_whole); intro _ _))
  k_with "execs cons" => ((k_dflt (refine execs_n (s := ‹Shared›) ?_); intro _; (try k_fold)))
  k_with "exec If BoolOp cons nil" => (((fail_if_success (with_reducible show wpAny _ _ _ (Cut _ _) _ _)); refine Hold.out ?_))
  k_with "out" => (repeat (first | (k_unfold; (try dsimp only)) | refine cut_ret ?_ | refine turn_ret ?_))
  k_with "go" => ((w_top off; repeat' (first | (k_unfold; (try dsimp only)) | walk1 | (dsimp only; walk1))))
  k_with "truthy ref" => ((k_here; k_dflt (refine' truthy_nil (by k_asm) (by k_mem) ?_; k_whole); intro _))
  k_with "call builtin:iter" => ((k_here; k_dflt (refine' iter2_c (by k_asm) (by k_asm) (by k_mem) ?_; k_whole); intro _ _ _ _ l19q; (try k_lt l19q); (try k_sweep)))
  k_with "compareOp In str str" => ((k_here; k_dflt (refine' in_ws (by assumption) ?_; k_whole)))
  k_with "compareOp Eq str str" => ((k_here; k_dflt (refine' eq_k (by assumption) ?_; k_whole)))
  k_with "call ref" => (((with_reducible show wpAny _ _ (call (Value.ref 108) _ _) _ _ _); refine Hold.out ?_))
  k_with "out2" => (repeat (first | (k_unfold; (try dsimp only)) | refine turnL_ret ?_))
  have hdd := (hN _ (.head _)).1
  have hat := (hN _ (.tail _ (.head _))).1
  have hpb := (hN _ (.tail _ (.tail _ (.head _)))).1
  have nda : @Ne Nat c.d c.at_ := ne_obj hdd hat nofun
  have ndp : @Ne Nat c.d c.pb := ne_obj hdd hpb nofun
  have nap := ok.ne
  refine enter (binds := [(Str.ofString "self", .ref c.x)]) _ G hb hN (by k_is) (by k_is) (by show dp < _; omega) (BindsTo.of_eq rfl) (locs rfl) (by decide) ?_
  intro g L h₁ tk F N X T hg
  have hAg := hA.off ok hdd hat hpb hg
  have gx : g.get? c.x = some (instObj 125 c.d) := hAg _ (.head _)
  have htl : t.length ≤ 1048576 := by
    have h1 := hT.len
    have h2 := ok.len
    simp only [List.length_drop, Array.length_toList] at h1
    have h3 : c.text.cps.size = c.text.length := rfl
    omega
  walk_at "go"
  refine for_lx (g := g) (c := c) (line := line0) (v1 := v10) (i := i0) (ti := ti0) (ep := ep) (J := fun it => TkJ c it t r (line0 + nls (c.text.cps.toList.drop i0))) X T (by k_asm) (news_sub (by k_asm) (by kcj_all)) hAg ok (by show dp + 1 + 30 < _; omega) rfl rfl rfl ?_ ?_ ?_
  · exact ⟨_, rfl, rfl, rfl, hT, rfl⟩
  · rintro i line v1 ti m₁ ch tc h tk ⟨tv, e0, e1, e2, hT, hl⟩ hc F N
    replace F := know (x := Str.ofString "self") F e0
    replace F := know (x := Str.ofString "token") F e1
    replace F := know (x := Str.ofString "fiter") F e2
    have hdr := drop_at hc
    rw [hdr] at hT
    rcases hT.inv with ⟨hw, hT'⟩ | ⟨rfl, hT'⟩ | ⟨rfl, d, l', t', el, rfl, hT'⟩
    · walk_at "go"
      refine turnL_cont (by k_asm) (by k_asm) (show i < i + 1 by omega) ⟨_, rfl, rfl, rfl, hT', ?_⟩
      rw [hdr, nls_nl1] at hl
      omega
    · have hw : isWs 34 = false := rfl
      walk_at "go"
      refine for_lx (g := g) (c := c) (J := fun it => TqJ c it t r (line0 + nls (c.text.cps.toList.drop i0))) X T (by k_asm) (by k_asm) hAg ok (by show dp + 1 + 30 < _; omega) rfl rfl rfl ?_ ?_ ?_
      · rw [hdr, nls_nl1] at hl
        exact ⟨_, _, _, rfl, rfl, rfl, nil_S t, hT', by omega⟩
      · clear F N hdr hc hT hT' hl e0 e1 e2
        rintro i line v1 ti m₁ ch tc h tk ⟨u, t2, tv, e0, e1, e2, hu, hT, hl⟩ hc F N
        replace F := know (x := Str.ofString "self") F e0
        replace F := know (x := Str.ofString "token") F e1
        replace F := know (x := Str.ofString "fiter") F e2
        have hdr := drop_at hc
        have hsz := size_le hu
        have hus : u.cps.size ≤ 1048576 := by omega
        rw [hdr] at hT
        rw [hdr, nls_nl1] at hl
        rcases hT.inv with ⟨rfl, rfl, rfl⟩ | ⟨rfl, d, l', t', el, rfl, hT'⟩ | ⟨n1, n2, t', rfl, hT'⟩
        · walk_at "go"
          walk_at "out2"
          rw [S_nil] at hu
          subst hu
          exact hR _ _ _ _ _ _ _ (ends_of (by k_asm) (news_sub (by k_asm) (by kcj_all)) hg) rfl (by omega)
        · obtain ⟨hc2, hd2⟩ := cps_of_drop el
          walk_at "go"
          refine Hold.in (rc_c (c := c) X T (by k_asm) (by k_asm) hAg ok hc2 (by show dp + 1 + 30 < _; omega) ?_)
          intro h' tk' v1' ti' t5 F' N'
          k_sweep
          walk_at "go"
          rw [el, nls_nl1] at hl
          exact turnL_next (by k_asm) (by k_asm) (show i < i + 1 + 1 by omega) ⟨_, _, _, rfl, rfl, rfl, (app_cons _ _ _).trans hu, by rw [hd2]; exact hT', by rw [hd2]; omega⟩
        · have b1 := chr_q n1
          have b2 := chr_b n2
          walk_at "go"
          exact turnL_next (by k_asm) (by k_asm) (show i < i + 1 by omega) ⟨_, _, _, rfl, rfl, rfl, (app_cons _ _ _).trans hu, hT', by omega⟩
      · rintro i line v1 ti m₁ h tk ⟨u, t2, tv, e0, e1, e2, hu, hT, hl⟩ hc F N
        rw [drop_none hc] at hT
        cases hT
    · have hw : isWs 92 = false := rfl
      walk_at "go"
      obtain ⟨hc2, hd2⟩ := cps_of_drop el
      refine Hold.in (rc_c (c := c) X T (by k_asm) (by k_asm) hAg ok hc2 (by show dp + 1 + 30 < _; omega) ?_)
      intro h' tk' v1' ti' t5 F' N'
      k_sweep
      walk_at "go"
      refine for_lx (g := g) (c := c) (J := fun it => TuJ c it (d :: t') r (line0 + nls (c.text.cps.toList.drop i0))) X T (by k_asm) (by k_asm) hAg ok (by show dp + 1 + 30 < _; omega) rfl rfl rfl ?_ ?_ ?_
      · rw [hdr, nls_nl1, el, nls_nl1] at hl
        exact ⟨_, _, _, rfl, rfl, rfl, (app_cons _ _ _).trans (nil_S _), by rw [hd2]; exact hT', by rw [hd2]; omega⟩
      · clear hdr hc hT hT' hl e0 e1 e2 hc2 hd2 el
        rintro i line v1 ti m₁ ch tc h tk ⟨u, t2, tv, e0, e1, e2, hu, hT, hl⟩ hc F N
        replace F := know (x := Str.ofString "self") F e0
        replace F := know (x := Str.ofString "token") F e1
        replace F := know (x := Str.ofString "fiter") F e2
        have hdr := drop_at hc
        have hsz := size_le hu
        have hus : u.cps.size ≤ 1048576 := by omega
        rw [hdr] at hT
        rw [hdr, nls_nl1] at hl
        rcases hT.inv with ⟨hw, rfl, rfl⟩ | ⟨rfl, d, l', t', el, rfl, hT'⟩ | ⟨n1, n2, t', rfl, hT'⟩
        · walk_at "go"
          walk_at "out2"
          rw [S_nil] at hu
          subst hu
          exact hR _ _ _ _ _ _ _ (ends_of (by k_asm) (news_sub (by k_asm) (by kcj_all)) hg) rfl (by omega)
        · obtain ⟨hc2, hd2⟩ := cps_of_drop el
          have hw : isWs 92 = false := rfl
          walk_at "go"
          refine Hold.in (rc_c (c := c) X T (by k_asm) (by k_asm) hAg ok hc2 (by show dp + 1 + 30 < _; omega) ?_)
          intro h' tk' v1' ti' t5 F' N'
          k_sweep
          walk_at "go"
          rw [el, nls_nl1] at hl
          exact turnL_next (by k_asm) (by k_asm) (show i < i + 1 + 1 by omega) ⟨_, _, _, rfl, rfl, rfl, (app_cons _ _ _).trans hu, by rw [hd2]; exact hT', by rw [hd2]; omega⟩
        · have b2 := chr_b n2
          walk_at "go"
          exact turnL_next (by k_asm) (by k_asm) (show i < i + 1 by omega) ⟨_, _, _, rfl, rfl, rfl, (app_cons _ _ _).trans hu, hT', by omega⟩
      · rintro i line v1 ti m₁ h tk ⟨u, t2, tv, e0, e1, e2, hu, hT, hl⟩ hc F N
        rw [drop_none hc] at hT
        cases hT
  · rintro i line v1 ti m₁ h tk ⟨tv, e0, e1, e2, hT, hl⟩ hc F N
    replace F := know (x := Str.ofString "token") F e1
    (try k_unfold)
    (try dsimp only)
    rw [drop_none hc] at hT hl
    cases hT
    walk_at "go"
    rw [show Str.ofString "" = S [] by decide +kernel]
    exact hR _ _ _ _ _ _ _ (ends_of (by k_asm) (by k_asm) hg) (drop_none hc) (by omega)
end
section
variable {w : World} {lo : List Str} {mean : ExcName → Option Value} {mg mb : Str → Option Value} {b₀ : Heap} {dp un : Nat} {fr : Option (List Env)} {gd : Option (List Code)} {s : Shared} {R : Result → Shared → Prop}
theorem WsIn.mono {w : World} {E E' : List (Addr × Obj)} {x : Nat} {u : Str} (h : WsIn w E x u) (k : ∀ p ∈ E, p ∈ E') : WsIn w E' x u := by
  obtain ⟨d, Dn, Dc, vs, tu, tb, tn, tt, u1, u2, u3, u4, u5, hi, hp⟩ := h
  exact ⟨d, Dn, Dc, vs, tu, tb, tn, tt, u1, u2, u3, u4, u5, hi, fun p q => k p (hp p q)⟩
theorem take_new {us : List Str} {i : Nat} {u : Str} (hnd : us.Nodup) (hu : us[i]? = some u) : u ∉ us.take i ∧ us.take (i + 1) = us.take i ++ [u] := by
  obtain ⟨hi, rfl⟩ := List.getElem?_eq_some_iff.mp hu
  refine ⟨fun h => ?_, by rw [List.take_succ_eq_append_getElem hi]⟩
  obtain ⟨j, hj, e⟩ := List.mem_take_iff_getElem.mp h
  have := (List.getElem_inj hnd).mp e
  omega
/-- what _law_told has made so far -/
inductive ToldJ (w : World) (us : List Str) (i : Nat) (m₁ : Str → Option Value) (news₁ : List (Addr × Obj)) : Prop
  | mk (D : Nat) (o : Obj) (E : List (Addr × Obj)) (kvs : List (Str × Value)) (e : m₁ (Str.ofString "leads") = some (.ref D)) (en : news₁ = (D, o) :: E) (hlo : (D == sysModules) = false) (hne : AllNe D E) (hd : o.IsDictOf (PySem.strKind P w) kvs) (hk : kvs.map (·.1) = us.take i)
      (hw : ∀ p ∈ kvs, ∃ x, p.2 = .ref x ∧ WsIn w E x p.1)
set_option maxRecDepth 100000 in
set_option maxHeartbeats 8000000 in
theorem told_c {wl : Nat} {vs : List Value} {us : List Str} (G : Gd (Mine.hd.heap_1 w.params) lo mean mg mb b₀) (hb : Over b₀ s.heap) (hl : s.heap.IsList wl vs.toArray) (hv : StrsAre vs us) (hnd : us.Nodup) (hln : us.length ≤ 100) (hlen : ∀ u ∈ us, u.length ≤ 1000000)
    (hd : dp + 28 < recursionLimit)
    (hR : ∀ h' tk' D o E kvs, Ends s.heap h' [] ((D, o) :: E) → o.IsDictOf (PySem.strKind P w) kvs → (D == sysModules) = false → kvs.map (·.1) = us → (∀ p ∈ kvs, ∃ x, p.2 = .ref x ∧ WsIn w E x p.1) → R (.ok (.ret (.ref D))) { s with heap := h', toks := tk' }) :
    codeAny (model P w) (Ar dp fr gd un) (.call (.ref 170) ⟨[.ref wl], []⟩) R s := by
  k_with_none
  k_with "exec For Name Attribute cons nil" => (k_dflt (refine for_exec ?_))
  k_with "exec For Name Name cons nil" => (k_dflt (refine for_exec ?_))
  k_with "exec For Name Call cons nil" => (k_dflt (refine for_exec ?_))
  k_with "call type:tuple" => ((k_here; (with_reducible show wpAny _ _ (call (Value.type _) [Value.ref _]) _ _ _); k_dflt (refine' tupleOf_c (by k_asm) (by k_asm) (by k_mem) (by ((have hL9 := IntsAre.length (by assumption)); rw [sizeLine_eq]; omega)) ?_; k_whole); intro _ _ _ _ l19q; (try k_lt l19q); (try k_sweep)))
  k_with "call builtin:len" => ((k_here; (with_reducible show wpAny _ _ (call (Value.builtin "len") [Value.ref _]) _ _ _); k_dflt (refine' len_tupI (by k_asm) (by with_reducible assumption) (by with_reducible assumption) (by omega) ?_; k_whole); intro _ _))
  k_with "execs cons" => ((k_dflt (refine execs_n (s := ‹Shared›) ?_); intro _; (try k_fold)))
  k_with "exec If BoolOp cons nil" => (((fail_if_success (with_reducible show wpAny _ _ _ (Cut _ _) _ _)); refine Hold.out ?_))
  k_with "out" => (repeat (first | (k_unfold; (try dsimp only)) | refine cut_ret ?_ | refine turn_ret ?_))
  k_with "go" => ((w_top off; repeat' (first | (k_unfold; (try dsimp only)) | walk1 | (dsimp only; walk1))))
  k_with "call ref" => (((with_reducible show wpAny _ _ (call (Value.ref 83) _ _) _ _ _); refine Hold.out ?_))
  k_with "setItem ref str" => (refine Hold.out ?_)
  refine enter (binds := [(Str.ofString "words", .ref wl)]) [] G hb Led.nil (by k_is) (by k_is) (by show dp < _; omega) (BindsTo.of_eq rfl) (locs rfl) (by decide) ?_
  intro g L h₁ tk F N X T hg
  have hgl : g.IsList wl vs.toArray := let ⟨o, a, b⟩ := hl; ⟨o, hg _ _ a (by simp), b⟩
  walk_at "go"
  refine for_list (g := g) (news := [(_, _)]) (J := ToldJ w us) rfl hgl rfl rfl rfl (by k_asm) (by k_asm) ?_ ?_ ?_
  · exact ⟨_, _, [], [], rfl, rfl, by assumption, trivial, by assumption, rfl, fun _ q => nomatch q⟩
  · rintro i v m₁ news₁ h tk I oI h₀ hi hiv ⟨D, o, E, kvs, e, rfl, hlo, hne, hdo, hk, hw⟩ hoff F N
    replace F := know (x := Str.ofString "leads") F e
    obtain ⟨u, tu, rfl, hu⟩ := StrsAre.item hv i v hiv
    have hul : u.length ≤ 1000000 := hlen u (List.mem_of_getElem? hu)
    walk_at "go"
    refine Hold.in (call_cls F X N (by k_is) (by k_is) (by k_is) ?_)
    intro x d h1 F1 N1 l1 l2
    refine wsinit_c ⟨X, T⟩ F1.keep (led_of N1 (by kcj_all)) (by show dp + 1 + 1 + 8 < _; omega) (Nat.ne_of_gt l2) (by omega) ?_
    intro h2 tk2 E2 En hW
    have aD : @Ne Nat D d ∧ @Ne Nat D x := ⟨Nat.ne_of_lt (l1 (D, o) (.tail _ (.head _))), Nat.ne_of_lt (Nat.lt_trans (l1 (D, o) (.tail _ (.head _))) l2)⟩
    have aI : @Ne Nat I d ∧ @Ne Nat I x := ⟨Nat.ne_of_lt (l1 (I, oI) (.head _)), Nat.ne_of_lt (Nat.lt_trans (l1 (I, oI) (.head _)) l2)⟩
    have off : AllOff ((I, oI) :: (D, o) :: E) [x, d] := ⟨.of fun p hp => by have := l1 p hp; exact Nat.ne_of_lt (Nat.lt_trans this l2), .of fun p hp => Nat.ne_of_lt (l1 p hp), trivial⟩
    have nD := Ends.new2 En (a := D) (N1 (D, o) (.tail _ (.tail _ (.tail _ (.head _))))).1 aD.2 aD.1
    have nI := Ends.new2 En (a := I) (N1 (I, oI) (.tail _ (.tail _ (.head _)))).1 aI.2 aI.1
    obtain ⟨F2, N2⟩ := En.out (mu := [(_, _), (_, _)]) F1 N1 rfl off
    clear En F1 N1 F N
    refine ⟨rfl, ?_⟩
    dsimp only
    walk_at "go"
    refine Hold.in (setItem_D (D := D) (o := o) (rest := E2 ++ (I, oI) :: E) F2 (news_sub N2 (by simp only [List.mem_cons, List.mem_append]; rintro p (h | h | h | h) <;> simp [h])) ?_ hdo ?_ ?_)
    · refine .of fun p hp => ?_
      rcases List.mem_append.mp hp with h | h
      · exact nD p h
      · rcases List.mem_cons.mp h with rfl | h
        · exact Ne.symm hoff.1
        · exact hne.mem p h
    · have := congrArg List.length hk
      simp only [List.length_map, List.length_take] at this
      omega
    · intro h3 o3 F3 N3 hd3
      obtain ⟨t1, t2⟩ := take_new hnd hu
      rw [stored_new (by rw [hk]; exact t1)] at hd3
      walk_at "go"
      refine turn_next F3 N3 ((D, o3) :: (E2 ++ E)) (by simp only [List.mem_cons, List.mem_append]; rintro p (h | h | h | h) <;> simp [h]) (.of fun p hp => ?_) ⟨D, o3, E2 ++ E, _, rfl, rfl, hlo, .of fun p hp => ?_, hd3, ?_, ?_⟩
      · rcases List.mem_cons.mp hp with rfl | hp
        · exact hoff.1
        · rcases List.mem_append.mp hp with h | h
          · exact nI p h
          · exact hoff.2.mem p h
      · rcases List.mem_append.mp hp with h | h
        · exact nD p h
        · exact hne.mem p h
      · rw [List.map_append, hk, t2]; rfl
      · intro p hp
        rcases List.mem_append.mp hp with h | h
        · obtain ⟨y, e1, e2⟩ := hw p h
          exact ⟨y, e1, e2.mono fun q hq => List.mem_append_right _ hq⟩
        · cases List.mem_singleton.mp h
          exact ⟨x, rfl, hW.mono fun q hq => List.mem_append_left _ hq⟩
  · rintro h tk m' news' F N ⟨D, o, E, kvs, e, rfl, hlo, hne, hdo, hk, hw⟩
    replace F := know (x := Str.ofString "leads") F e
    (try k_unfold)
    (try dsimp only)
    walk_at "go"
    rw [hv.len_eq, List.take_length] at hk
    exact hR _ _ D o E kvs (ends_of (by k_asm) (by k_asm) hg) hdo hlo hk hw
end
section
variable {w : World} {lo : List Str} {mean : ExcName → Option Value} {mg mb : Str → Option Value} {b₀ : Heap} {dp un : Nat} {fr : Option (List Env)} {gd : Option (List Code)} {s : Shared} {R : Result → Shared → Prop}
/-- both lexers' changing parts -/
noncomputable abbrev two (w : World) (c1 c2 : Lx) (l1 : Int) (v1 : Tok) (i1 : Nat) (t1 : Tok) (e1 : Nat) (l2 : Int) (v2 : Tok) (i2 : Nat) (t2 : Tok) (pend : List Value) (e2 : Nat) : List (Addr × Obj) :=
  [(c1.d, c1.D w l1 v1), (c1.at_, listOf #[.int i1 t1] 0), (c1.pb, listOf #[] e1), (c2.d, c2.D w l2 v2), (c2.at_, listOf #[.int i2 t2] 0), (c2.pb, listOf pend.toArray e2)]
structure Apart (c1 c2 : Lx) : Prop where
  dd : @Ne Nat c1.d c2.d
  da : @Ne Nat c1.d c2.at_
  dp : @Ne Nat c1.d c2.pb
  ad : @Ne Nat c1.at_ c2.d
  aa : @Ne Nat c1.at_ c2.at_
  ap : @Ne Nat c1.at_ c2.pb
  pd : @Ne Nat c1.pb c2.d
  pa : @Ne Nat c1.pb c2.at_
  pp : @Ne Nat c1.pb c2.pb
/-- a third one lies apart from both lexers -/
structure OutOff (c1 c2 : Lx) (a : Nat) : Prop where
  a1 : @Ne Nat a c1.d
  a2 : @Ne Nat a c1.at_
  a3 : @Ne Nat a c1.pb
  b1 : @Ne Nat a c2.d
  b2 : @Ne Nat a c2.at_
  b3 : @Ne Nat a c2.pb
theorem OutOff.o1 {c1 c2 : Lx} {a : Nat} {o : Obj} {rest : List (Addr × Obj)} (x : OutOff c1 c2 a) (r : AllOff rest [c1.d, c1.at_, c1.pb]) : AllOff ((a, o) :: rest) [c1.d, c1.at_, c1.pb] := ⟨⟨x.a1, r.1⟩, ⟨x.a2, r.2.1⟩, ⟨x.a3, r.2.2.1⟩, trivial⟩
theorem OutOff.o2 {c1 c2 : Lx} {a : Nat} {o : Obj} {rest : List (Addr × Obj)} (x : OutOff c1 c2 a) (r : AllOff rest [c2.d, c2.at_, c2.pb]) : AllOff ((a, o) :: rest) [c2.d, c2.at_, c2.pb] := ⟨⟨x.b1, r.1⟩, ⟨x.b2, r.2.1⟩, ⟨x.b3, r.2.2.1⟩, trivial⟩
theorem off_nil {a b c : Addr} : AllOff [] [a, b, c] := ⟨trivial, trivial, trivial, trivial⟩
theorem OutOff.of {c1 c2 : Lx} {w : World} {l1 l2 : Int} {v1 v2 t1 t2 : Tok} {i1 i2 e1 e2 : Nat} {pend : List Value} {rest : List (Addr × Obj)} {a : Nat} (h : AllNe a (two w c1 c2 l1 v1 i1 t1 e1 l2 v2 i2 t2 pend e2 ++ rest)) : OutOff c1 c2 a := ⟨h.1.symm, h.2.1.symm, h.2.2.1.symm, h.2.2.2.1.symm, h.2.2.2.2.1.symm, h.2.2.2.2.2.1.symm⟩
theorem OutOff.all {c1 c2 : Lx} {w : World} {l1 l2 : Int} {v1 v2 t1 t2 : Tok} {i1 i2 e1 e2 : Nat} {pend : List Value} {rest : List (Addr × Obj)} {a : Nat} (x : OutOff c1 c2 a) (r : AllNe a rest) : AllNe a (two w c1 c2 l1 v1 i1 t1 e1 l2 v2 i2 t2 pend e2 ++ rest) := ⟨x.a1.symm, x.a2.symm, x.a3.symm, x.b1.symm, x.b2.symm, x.b3.symm, r⟩
inductive Src (c1 c2 : Lx) (fin : List Nat) (K : Int) (src : Nat) (rem psh : List Str) (i1 : Nat) (l1 : Int) (pend : List Value) : Prop
  | file (hs : src = c1.x) (hr : Reads (c1.text.cps.toList.drop i1) rem fin) (hp : StrsAre pend psh) (hl : l1 + nls (c1.text.cps.toList.drop i1) = K)
  | line (hs : src = c2.x) (hd : c1.text.cps.toList.drop i1 = fin) (hp : StrsAre pend (rem ++ psh)) (hl : l1 + nls (c1.text.cps.toList.drop i1) = K)
theorem Src.len {c1 c2 : Lx} {fin : List Nat} {K : Int} {src : Nat} {rem psh : List Str} {i1 : Nat} {l1 : Int} {pend : List Value} (h : Src c1 c2 fin K src rem psh i1 l1 pend) : pend.length ≤ rem.length + psh.length := by
  cases h with
  | file hs hr hp hl => have := hp.len_eq; omega
  | line hs hd hp hl => have := hp.len_eq; rw [List.length_append] at this; omega
theorem Src.turn {c1 c2 : Lx} {fin : List Nat} {K : Int} {src : Nat} {psh : List Str} {i1 : Nat} {l1 : Int} {pend : List Value} (h : Src c1 c2 fin K src [] psh i1 l1 pend) : Src c1 c2 fin K c2.x psh [] i1 l1 pend := by
  cases h with
  | file hs hr hp hl => cases hr; exact .line rfl rfl (by rw [List.append_nil]; exact hp) hl
  | line hs hd hp hl => exact .line rfl hd (by rw [List.append_nil]; exact hp) hl
theorem Src.done {c1 c2 : Lx} {fin : List Nat} {K : Int} {src : Nat} {i1 : Nat} {l1 : Int} {pend : List Value} (h : Src c1 c2 fin K src [] [] i1 l1 pend) : pend = [] ∧ c1.text.cps.toList.drop i1 = fin ∧ l1 + nls fin = K := by
  cases h with
  | file hs hr hp hl => cases hr; exact ⟨StrsAre.nil_inv hp, rfl, hl⟩
  | line hs hd hp hl => exact ⟨StrsAre.nil_inv hp, hd, hd ▸ hl⟩
section
variable {g : Heap} {L : Addr} {m : Str → Option Value} {E : Value → Shared → Prop} {Q : Value → Shared → Prop} {c1 c2 : Lx} {l1 l2 K : Int} {v1 v2 t1 t2 : Tok} {i1 i2 e1 e2 src : Nat} {pend : List Value} {rest : List (Addr × Obj)} {fin : List Nat} {rem psh : List Str} {u : Str}
theorem off_two (N : News g L s.heap (two w c1 c2 l1 v1 i1 t1 e1 l2 v2 i2 t2 pend e2 ++ rest)) (ap : Apart c1 c2) (o1 : AllOff rest [c1.d, c1.at_, c1.pb]) : AllOff ((c2.mu w l2 v2 i2 t2 pend e2) ++ rest) [c1.d, c1.at_, c1.pb] :=
  ⟨⟨ap.dd.symm, ap.da.symm, ap.dp.symm, o1.1⟩, ⟨ap.ad.symm, ap.aa.symm, ap.ap.symm, o1.2.1⟩, ⟨ap.pd.symm, ap.pa.symm, ap.pp.symm, o1.2.2.1⟩, trivial⟩
theorem off_two' (ap : Apart c1 c2) (o2 : AllOff rest [c2.d, c2.at_, c2.pb]) : AllOff ((c1.mu w l1 v1 i1 t1 [] e1) ++ rest) [c2.d, c2.at_, c2.pb] :=
  ⟨⟨ap.dd, ap.ad, ap.pd, o2.1⟩, ⟨ap.da, ap.aa, ap.pa, o2.2.1⟩, ⟨ap.dp, ap.ap, ap.pp, o2.2.2.1⟩, trivial⟩
theorem swap_two {h : Heap} (N : News g L h (c2.mu w l2 v2 i2 t2 pend e2 ++ (c1.mu w l1 v1 i1 t1 [] e1 ++ rest))) : News g L h (two w c1 c2 l1 v1 i1 t1 e1 l2 v2 i2 t2 pend e2 ++ rest) := news_sub N (by
  simp only [List.cons_append, List.nil_append, List.mem_cons]
  rintro p (h | h | h | h | h | h | h) <;> simp [h])
theorem unswap_two {h : Heap} (N : News g L h (two w c1 c2 l1 v1 i1 t1 e1 l2 v2 i2 t2 pend e2 ++ rest)) : News g L h (c2.mu w l2 v2 i2 t2 pend e2 ++ (c1.mu w l1 v1 i1 t1 [] e1 ++ rest)) := news_sub N (by
  simp only [List.cons_append, List.nil_append, List.mem_cons]
  rintro p (h | h | h | h | h | h | h) <;> simp [h])
set_option maxRecDepth 100000 in
set_option maxHeartbeats 8000000 in
theorem gm_c {c : Lx} {l : Int} {v : Tok} {p : Sem Bool} {Q : Value × List Value → Shared → Prop} (X : (Mine.hd.heap_1 w.params).In g) (T : Top topProg lo mean mg mb g) (F : Fr g L s.heap m) (N : News g L s.heap [(c.d, c.D w l v)]) (A : c.At g)
    (k : ∀ tk, Q (.ref 115, [.ref c.x]) { s with toks := tk }) : wpAny (model P w) (Ar dp fr gd un) (getMethod (.ref c.x) (Str.ofString "get_token") p) Q E s := by
  k_with_none
  k_with "exec For Name Attribute cons nil" => (k_dflt (refine for_exec ?_))
  k_with "exec For Name Name cons nil" => (k_dflt (refine for_exec ?_))
  k_with "exec For Name Call cons nil" => (k_dflt (refine for_exec ?_))
  k_with "call type:tuple" => ((k_here; (with_reducible show wpAny _ _ (call (Value.type _) [Value.ref _]) _ _ _); k_dflt (refine' tupleOf_c (by k_asm) (by k_asm) (by k_mem) (by ((have hL9 := IntsAre.length (by assumption)); rw [sizeLine_eq]; omega)) ?_; k_whole); intro _ _ _ _ l19q; (try k_lt l19q); (try k_sweep)))
  k_with "call builtin:len" => ((k_here; (with_reducible show wpAny _ _ (call (Value.builtin "len") [Value.ref _]) _ _ _); k_dflt (refine' len_tupI (by k_asm) (by with_reducible assumption) (by with_reducible assumption) (by omega) ?_; k_whole); intro _ _))
  k_with "execs cons" => ((k_dflt (refine execs_n (s := ‹Shared›) ?_); intro _; (try k_fold)))
  k_with "exec If BoolOp cons nil" => (((fail_if_success (with_reducible show wpAny _ _ _ (Cut _ _) _ _)); refine Hold.out ?_))
  k_with "out" => (repeat (first | (k_unfold; (try dsimp only)) | refine cut_ret ?_ | refine turn_ret ?_))
  k_with "go" => ((w_top off; repeat' (first | (k_unfold; (try dsimp only)) | walk1 | (dsimp only; walk1))))
  have gx : g.get? c.x = some (instObj 125 c.d) := A _ (.head _)
  walk_at "go"
  exact k _
theorem gm_src {p : Sem Bool} {Q : Value × List Value → Shared → Prop} (X : (Mine.hd.heap_1 w.params).In g) (T : Top topProg lo mean mg mb g) (F : Fr g L s.heap m) (N : News g L s.heap (two w c1 c2 l1 v1 i1 t1 e1 l2 v2 i2 t2 pend e2 ++ rest)) (A1 : c1.At g) (A2 : c2.At g) (hS : Src c1 c2 fin K src rem psh i1 l1 pend)
    (k : ∀ tk, Q (.ref 115, [.ref src]) { s with toks := tk }) : wpAny (model P w) (Ar dp fr gd un) (getMethod (.ref src) (Str.ofString "get_token") p) Q E s := by
  cases hS with
  | file hs => subst hs; exact gm_c X T F (news_sub N (by kcj_all)) A1 k
  | line hs => subst hs; exact gm_c X T F (news_sub N (by kcj_all)) A2 k
/-- the next word of the one that is read -/
theorem src_c (X : (Mine.hd.heap_1 w.params).In g) (T : Top topProg lo mean mg mb g) (F : Fr g L s.heap m) (N : News g L s.heap (two w c1 c2 l1 v1 i1 t1 e1 l2 v2 i2 t2 pend e2 ++ rest)) (ap : Apart c1 c2) (o1 : AllOff rest [c1.d, c1.at_, c1.pb]) (o2 : AllOff rest [c2.d, c2.at_, c2.pb])
    (A1 : c1.At g) (A2 : c2.At g) (ok1 : c1.Ok) (ok2 : c2.Ok) (hz : pend.length ≤ 1000) (hd : dp + 48 < recursionLimit) (hS : Src c1 c2 fin K src (u :: rem) psh i1 l1 pend)
    (k : ∀ h' tk' tv l1' v1' i1' t1' pend' e2', Fr g L h' m → News g L h' (two w c1 c2 l1' v1' i1' t1' e1 l2 v2 i2 t2 pend' e2' ++ rest) → Src c1 c2 fin K src rem psh i1' l1' pend' → pend'.length ≤ 1000 → Q (.str u tv) { s with heap := h', toks := tk' }) :
    wpAny (model P w) (Ar dp fr gd un) (call (.ref 115) [.ref src]) Q E s := by
  cases hS with
  | file hs hr hp hl =>
    subst hs
    cases hr with
    | cons hT hr =>
      refine wpAny_call (tokB_c (c := c1) ⟨X, T⟩ F.keep (led_of N (by kcj_all)) (A1.keeps F.keep) ok1 (by omega) hT ?_)
      intro h' tk' v1' ti' j line' tv En ej el
      obtain ⟨F', N'⟩ := En.out (mu := c1.mu w l1 v1 i1 t1 [] e1) F N rfl (off_two N ap o1)
      exact k h' tk' tv line' v1' j ti' pend e2 F' N' (.file rfl (ej ▸ hr) hp (by rw [ej]; omega)) hz
  | line hs hd2 hp hl =>
    subst hs
    obtain ⟨tv, vs', rfl, hp'⟩ := StrsAre.cons_inv hp
    refine wpAny_call (tokA_c (c := c2) ⟨X, T⟩ F.keep (led_of N (by kcj_all)) (A2.keeps F.keep) ok2 (by omega) (by simp at hz; omega) ?_)
    intro h' tk' En
    obtain ⟨F', N'⟩ := En.out (mu := c2.mu w l2 v2 i2 t2 (_ :: vs') e2) F (unswap_two N) rfl (off_two' ap o2)
    exact k h' tk' tv l1 v1 i1 t1 vs' (e2 + 1) F' (swap_two N') (.line rfl hd2 hp' hl) (by simp at hz; omega)
/-- a word goes to the line -/
theorem put_c {tv : Tok} (X : (Mine.hd.heap_1 w.params).In g) (T : Top topProg lo mean mg mb g) (F : Fr g L s.heap m) (N : News g L s.heap (two w c1 c2 l1 v1 i1 t1 e1 l2 v2 i2 t2 pend e2 ++ rest)) (ap : Apart c1 c2) (o2 : AllOff rest [c2.d, c2.at_, c2.pb])
    (A2 : c2.At g) (ok2 : c2.Ok) (hz : pend.length ≤ 1000) (hd : dp + 48 < recursionLimit) (hS : Src c1 c2 fin K src rem psh i1 l1 pend)
    (k : ∀ h' tk' e2', Fr g L h' m → News g L h' (two w c1 c2 l1 v1 i1 t1 e1 l2 v2 i2 t2 (pend ++ [.str u tv]) e2' ++ rest) → Src c1 c2 fin K src rem (psh ++ [u]) i1 l1 (pend ++ [.str u tv]) → Q .none { s with heap := h', toks := tk' }) :
    wpAny (model P w) (Ar dp fr gd un) (call (.ref 122) [.ref c2.x, .str u tv]) Q E s := by
  refine wpAny_call (push_c (c := c2) (tok := .str u tv) ⟨X, T⟩ F.keep (led_of N (by kcj_all)) (A2.keeps F.keep) ok2 (by omega) (by omega) ?_)
  intro h' tk' En
  obtain ⟨F', N'⟩ := En.out (mu := c2.mu w l2 v2 i2 t2 pend e2) F (unswap_two N) rfl (off_two' ap o2)
  have hu : StrsAre [.str u tv] [u] := .cons _ _ .nil
  refine k h' tk' (e2 + 1) F' (swap_two N') ?_
  cases hS with
  | file hs hr hp hl => exact .file hs hr (hp.append' hu) hl
  | line hs hd2 hp hl => exact .line hs hd2 (by rw [← List.append_assoc]; exact hp.append' hu) hl
end
end
section
variable {w : World} {lo : List Str} {mean : ExcName → Option Value} {mg mb : Str → Option Value} {b₀ : Heap} {dp un : Nat} {fr : Option (List Env)} {gd : Option (List Code)} {s : Shared} {R : Result → Shared → Prop}
local macro_rules | `(tactic| walk_at "getMethod ref") => `(tactic| (k_here; k_dflt (refine' gm_src (rest := []) ?X ?T ?F ?N ?A1 ?A2 ?S ?_; (case S => assumption); (case X => k_asm); (case T => k_asm); (case F => k_asm); (case N => exact news_sub (by k_asm) (by kcj_all)); (case A1 => assumption); (case A2 => assumption); k_whole); intro tk'))
noncomputable abbrev ltW (u v : Str) : Bool := lessOf (wsOf u) (wsOf v)
set_option maxRecDepth 100000 in
set_option maxHeartbeats 8000000 in
theorem gm_less {g : Heap} {L : Addr} {m : Str → Option Value} {E : Value → Shared → Prop} {x : Nat} {u : Str} {p : Sem Bool} {Q : Value × List Value → Shared → Prop} (X : (Mine.hd.heap_1 w.params).In g) (T : Top topProg lo mean mg mb g) (F : Fr g L s.heap m) (W : WsAt w g x u)
    (k : ∀ tk, Q (.ref 73, [.ref x]) { s with toks := tk }) : wpAny (model P w) (Ar dp fr gd un) (getMethod (.ref x) (Str.ofString "less") p) Q E s := by
  k_with_none
  k_with "exec For Name Attribute cons nil" => (k_dflt (refine for_exec ?_))
  k_with "exec For Name Name cons nil" => (k_dflt (refine for_exec ?_))
  k_with "exec For Name Call cons nil" => (k_dflt (refine for_exec ?_))
  k_with "call type:tuple" => ((k_here; (with_reducible show wpAny _ _ (call (Value.type _) [Value.ref _]) _ _ _); k_dflt (refine' tupleOf_c (by k_asm) (by k_asm) (by k_mem) (by ((have hL9 := IntsAre.length (by assumption)); rw [sizeLine_eq]; omega)) ?_; k_whole); intro _ _ _ _ l19q; (try k_lt l19q); (try k_sweep)))
  k_with "call builtin:len" => ((k_here; (with_reducible show wpAny _ _ (call (Value.builtin "len") [Value.ref _]) _ _ _); k_dflt (refine' len_tupI (by k_asm) (by with_reducible assumption) (by with_reducible assumption) (by omega) ?_; k_whole); intro _ _))
  k_with "execs cons" => ((k_dflt (refine execs_n (s := ‹Shared›) ?_); intro _; (try k_fold)))
  k_with "exec If BoolOp cons nil" => (((fail_if_success (with_reducible show wpAny _ _ _ (Cut _ _) _ _)); refine Hold.out ?_))
  k_with "out" => (repeat (first | (k_unfold; (try dsimp only)) | refine cut_ret ?_ | refine turn_ret ?_))
  k_with "go" => ((w_top off; repeat' (first | (k_unfold; (try dsimp only)) | walk1 | (dsimp only; walk1))))
  k_with "call ref" => (((with_reducible show wpAny _ _ (call (Value.ref _) _ _) _ _ _); refine Hold.out ?_))
  k_with "subscriptTail" => ((k_here; k_dflt (refine' item_g (by k_asm) (by assumption) (by assumption) (by assumption) ?_; k_whole); intro _))
  k_with "call builtin:len" => ((k_here; k_dflt (refine' len_g (by k_asm) (by assumption) (by assumption) (by assumption) (by omega) ?_; k_whole); intro _ _))
  obtain ⟨d, Dn, Dc, vs, tu, tb, tn, tt, u1, u2, u3, u4, u5, hi, hp⟩ := W
  have g1 := hp _ (.head _)
  have g2 := hp _ (.tail _ (.head _))
  dsimp only at g1 g2
  have N : News g L s.heap [] := News.nil
  walk_at "go"
  exact k _
local macro_rules | `(tactic| walk_at "getMethod ref") => `(tactic| (k_here; k_dflt (refine' gm_less ?X ?T ?F ?W ?_; (case W => assumption); (case X => k_asm); (case T => k_asm); (case F => k_asm); k_whole); intro tk'))
structure Dict (w : World) (g : Heap) (D : Nat) (o : Obj) (kvs : List (Str × Value)) (us : List Str) : Prop where
  at_ : g.get? D = some o
  is : o.IsDictOf (PySem.strKind P w) kvs
  lo : (D == sysModules) = false
  len : kvs.length = us.length
  has : ∀ u ∈ us, ∃ x, valueAt kvs u = some (.ref x) ∧ WsAt w g x u ∧ (wsOf u).cnt.length ≤ 1000000 ∧ (wsOf u).b ≤ 1000000
theorem Dict.keeps {w : World} {g h : Heap} {D : Nat} {o : Obj} {kvs : List (Str × Value)} {us : List Str} (x : Dict w g D o kvs us) (k : ∀ b o, g.get? b = some o → h.get? b = some o) : Dict w h D o kvs us :=
  ⟨k _ _ x.at_, x.is, x.lo, x.len, fun u hu => let ⟨y, a, b, c⟩ := x.has u hu; ⟨y, a, b.keeps k, c⟩⟩
inductive GoJ (w : World) (c1 c2 : Lx) (us : List Str) (fin : List Nat) (K : Int) (D : Nat) (n : Nat) (i : Nat) (m₁ : Str → Option Value) (news₁ : List (Addr × Obj)) : Prop
  | mk (out : Nat) (oo : OutOff c1 c2 out) (src : Nat) (rem ov : List Str) (ovs : List Value) (eo : Nat) (l1 : Int) (v1 : Tok) (i1 : Nat) (t1 : Tok) (e1 : Nat) (l2 : Int) (v2 : Tok) (i2 : Nat) (t2 : Tok) (pend : List Value) (e2 : Nat)
      (m0 : m₁ (Str.ofString "source") = some (.ref src)) (m1 : m₁ (Str.ofString "line") = some (.ref c2.x)) (m2 : m₁ (Str.ofString "leads") = some (.ref D)) (m3 : m₁ (Str.ofString "out") = some (.ref out))
      (hsub : ∀ u ∈ rem, u ∈ us) (hlen : rem.length = n - i) (hS : Src c1 c2 fin K src rem [] i1 l1 pend) (hz : pend.length ≤ 1000) (ho : StrsAre ovs ov) (hol : ovs.length = i) (hg : ov ++ goneOf ltW (n - i) rem = goneOf ltW n us)
      (e : news₁ = two w c1 c2 l1 v1 i1 t1 e1 l2 v2 i2 t2 pend e2 ++ [(out, listOf ovs.toArray eo)])
inductive GiJ (w : World) (c1 c2 : Lx) (us : List Str) (fin : List Nat) (K : Int) (D out : Nat) (src n : Nat) (r : Str × List Str) (ovs : List Value) (eo I : Nat) (oI : Obj) (i : Nat) (m₁ : Str → Option Value) (news₁ : List (Addr × Obj)) : Prop
  | mk (held : Str) (th : Tok) (rem psh : List Str) (l1 : Int) (v1 : Tok) (i1 : Nat) (t1 : Tok) (e1 : Nat) (l2 : Int) (v2 : Tok) (i2 : Nat) (t2 : Tok) (pend : List Value) (e2 : Nat)
      (m0 : m₁ (Str.ofString "source") = some (.ref src)) (m1 : m₁ (Str.ofString "line") = some (.ref c2.x)) (m2 : m₁ (Str.ofString "leads") = some (.ref D)) (m3 : m₁ (Str.ofString "out") = some (.ref out)) (m4 : m₁ (Str.ofString "held") = some (.str held th))
      (hh : held ∈ us) (hsub : ∀ u ∈ rem, u ∈ us) (hsub2 : ∀ u ∈ psh, u ∈ us) (hlen : rem.length = n - i) (hS : Src c1 c2 fin K src rem psh i1 l1 pend) (hz : pend.length ≤ 1000) (h1 : (rnd ltW held rem).1 = r.1) (h2 : psh ++ (rnd ltW held rem).2 = r.2)
      (e : news₁ = two w c1 c2 l1 v1 i1 t1 e1 l2 v2 i2 t2 pend e2 ++ [(out, listOf ovs.toArray eo), (I, oI)])
set_option maxRecDepth 100000 in
set_option maxHeartbeats 8000000 in
theorem gone_c {c1 c2 : Lx} {D : Nat} {o : Obj} {kvs : List (Str × Value)} {us : List Str} {fin : List Nat} {l0 l2 : Int} {v1 v2 t1 t2 : Tok} {e1 e2 i2 : Nat} (G : Gd (Mine.hd.heap_1 w.params) lo mean mg mb b₀) (hb : Over b₀ s.heap) (hN : Led b₀ s.heap (two w c1 c2 l0 v1 0 t1 e1 l2 v2 i2 t2 [] e2)) (ap : Apart c1 c2)
    (A1 : c1.At (hideAll s.heap [c1.d, c1.at_, c1.pb, c2.d, c2.at_, c2.pb])) (A2 : c2.At (hideAll s.heap [c1.d, c1.at_, c1.pb, c2.d, c2.at_, c2.pb])) (ok1 : c1.Ok) (ok2 : c2.Ok) (hD : Dict w (hideAll s.heap [c1.d, c1.at_, c1.pb, c2.d, c2.at_, c2.pb]) D o kvs us) (hr : Reads c1.text.cps.toList us fin) (hn : us.length ≤ 100)
    (hd : dp + 68 < recursionLimit)
    (hR : ∀ h' tk' out ovs eo l1' v1' i1' t1' e1' l2' v2' i2' t2' e2', Ends s.heap h' [c1.d, c1.at_, c1.pb, c2.d, c2.at_, c2.pb] (two w c1 c2 l1' v1' i1' t1' e1' l2' v2' i2' t2' [] e2' ++ [(out, listOf ovs.toArray eo)]) → StrsAre ovs (goneOf ltW us.length us) → c1.text.cps.toList.drop i1' = fin → l1' + nls fin = l0 + nls c1.text.cps.toList → OutOff c1 c2 out →
      R (.ok (.ret (.ref out))) { s with heap := h', toks := tk' }) :
    codeAny (model P w) (Ar dp fr gd un) (.call (.ref 177) ⟨[.ref c1.x, .ref c2.x, .ref D], []⟩) R s := by
  k_with_none
  k_with "exec For Name Attribute cons nil" => (k_dflt (refine for_exec ?_))
  k_with "exec For Name Name cons nil" => (k_dflt (refine for_exec ?_))
  k_with "exec For Name Call cons nil" => (k_dflt (refine for_exec ?_))
  k_with "call type:tuple" => ((k_here; (with_reducible show wpAny _ _ (call (Value.type _) [Value.ref _]) _ _ _); k_dflt (refine' tupleOf_c (by k_asm) (by k_asm) (by k_mem) (by ((have hL9 := IntsAre.length (by assumption)); rw [sizeLine_eq]; omega)) ?_; k_whole); intro _ _ _ _ l19q; (try k_lt l19q); (try k_sweep)))
  k_with "call builtin:len" => ((k_here; (with_reducible show wpAny _ _ (call (Value.builtin "len") [Value.ref _]) _ _ _); k_dflt (refine' len_tupI (by k_asm) (by with_reducible assumption) (by with_reducible assumption) (by omega) ?_; k_whole); intro _ _))
  k_with "execs cons" => ((k_dflt (refine execs_n (s := ‹Shared›) ?_); intro _; (try k_fold)))
  k_with "exec If BoolOp cons nil" => (((fail_if_success (with_reducible show wpAny _ _ _ (Cut _ _) _ _)); refine Hold.out ?_))
  k_with "out" => (repeat (first | (k_unfold; (try dsimp only)) | refine cut_ret ?_ | refine turn_ret ?_))
  k_with "go" => ((w_top off; repeat' (first | (k_unfold; (try dsimp only)) | walk1 | (dsimp only; walk1))))
  k_with "call ref" => (((with_reducible show wpAny _ _ (call (Value.ref _) _ _) _ _ _); refine Hold.out ?_))
  k_with "subscriptTail" => ((k_here; k_dflt (refine' item_g (by k_asm) (by assumption) (by assumption) (by assumption) ?_; k_whole); intro _))
  k_with "call builtin:len" => ((k_here; k_dflt (refine' len_g (by k_asm) (by assumption) (by assumption) (by assumption) (by omega) ?_; k_whole); intro _ _))
  refine enter (binds := [(Str.ofString "file", .ref c1.x), (Str.ofString "line", .ref c2.x), (Str.ofString "leads", .ref D)]) _ G hb hN (by k_is) (by k_is) (by show dp < _; omega) (BindsTo.of_eq rfl) (locs rfl) (by decide) ?_
  intro g L h₁ tk F N X T hg
  have hgm : ∀ b o, (hideAll s.heap [c1.d, c1.at_, c1.pb, c2.d, c2.at_, c2.pb]).get? b = some o → g.get? b = some o := fun b o e => hg b o (of_hideAll _ e) fun q => by rw [hideAll_none [c1.d, c1.at_, c1.pb, c2.d, c2.at_, c2.pb] q] at e; cases e
  have A1g := A1.keeps hgm
  have A2g := A2.keeps hgm
  have hDg := hD.keeps hgm
  clear A1 A2 hD hgm
  have q1 := hDg.at_
  have q2 := hDg.is
  have q3 := hDg.lo
  have q4 := hDg.len
  have gx1 : g.get? c1.x = some (instObj 125 c1.d) := A1g _ (.head _)
  have gx2 : g.get? c2.x = some (instObj 125 c2.d) := A2g _ (.head _)
  walk_at "go"
  refine for_down (g := g) (news := two w c1 c2 l0 v1 0 t1 e1 l2 v2 i2 t2 [] e2 ++ [(_, listOf #[] 0)]) (J := GoJ w c1 c2 us fin (l0 + nls c1.text.cps.toList) D us.length) rfl (by assumption) (by omega) rfl rfl rfl (by k_asm) (news_sub (by k_asm) (by kcj_all)) ?_ ?_ ?_
  · exact ⟨_, ⟨by omega, by omega, by omega, by omega, by omega, by omega⟩, c1.x, us, [], [], 0, _, _, 0, _, _, _, _, _, _, [], _, rfl, rfl, rfl, rfl, fun _ h => h, rfl, .file rfl hr .nil rfl, Nat.zero_le _, .nil, rfl, rfl, rfl⟩
  · rintro i tc m₁ news₁ h tk I oI h₀ hi ⟨out, oo, src, rem, ov, ovs, eo, l1, v1, i1, t1, e1, l2, v2, i2, t2, pend, e2, m0, m1, m2, m3, hsub, hlen, hS, hz, ho, hol, hgo, rfl⟩ hoff F N
    replace F := know (x := Str.ofString "source") F m0
    replace F := know (x := Str.ofString "line") F m1
    replace F := know (x := Str.ofString "leads") F m2
    replace F := know (x := Str.ofString "out") F m3
    obtain ⟨u0, rem, rfl⟩ : ∃ u r, rem = u :: r := by
      cases rem with
      | nil => simp at hlen; omega
      | cons u r => exact ⟨u, r, rfl⟩
    have oI' : OutOff c1 c2 I := .of hoff
    have hlen0 := hlen
    simp only [two, List.cons_append, List.nil_append] at N
    walk_at "go"
    refine Hold.in (src_c (rest := [(out, listOf ovs.toArray eo), (I, oI)]) X T (by k_asm) (news_sub (by k_asm) (by kcj_all)) ap (oo.o1 (oI'.o1 off_nil)) (oo.o2 (oI'.o2 off_nil)) A1g A2g ok1 ok2 hz (by show dp + 1 + 48 < _; omega) hS ?_)
    clear hS N F m0 m1 m2 m3 hz
    intro h tk tv l1 v1 i1 t1 pend e2 F N hS hz
    simp only [two, List.cons_append, List.nil_append] at N
    k_sweep
    walk_at "go"
    refine for_up (g := g) (news := two w c1 c2 l1 v1 i1 t1 e1 l2 v2 i2 t2 pend e2 ++ [(out, listOf ovs.toArray eo), (I, oI)]) (J := GiJ w c1 c2 us fin (l0 + nls c1.text.cps.toList) D out src (us.length - i - 1) (rnd ltW u0 rem) ovs eo I oI) rfl (by assumption) (by omega) rfl rfl rfl (by k_asm) (by k_asm) ?_ ?_ ?_
    · refine ⟨u0, _, rem, [], _, _, _, _, _, _, _, _, _, _, _, rfl, rfl, rfl, rfl, rfl, hsub _ (.head _), fun u hu => hsub _ (.tail _ hu), (fun _ h => nomatch h), ?_, hS, hz, rfl, rfl, rfl⟩
      simp at hlen
      omega
    · clear hS hz F N
      rintro k tc m₁ news₁ h tk I2 oI2 h₀ hk ⟨held, th, rem, psh, l1, v1, i1, t1, e1, l2, v2, i2, t2, pend, e2, m0, m1, m2, m3, m4, hh, hsub, hsub2, hlen, hS, hz, q1, q2, rfl⟩ hoff2 F N
      replace F := know (x := Str.ofString "source") F m0
      replace F := know (x := Str.ofString "line") F m1
      replace F := know (x := Str.ofString "leads") F m2
      replace F := know (x := Str.ofString "out") F m3
      replace F := know (x := Str.ofString "held") F m4
      have oI2' : OutOff c1 c2 I2 := .of hoff2
      simp only [two, List.cons_append, List.nil_append] at N
      obtain ⟨u, rem, rfl⟩ : ∃ u r, rem = u :: r := by
        cases rem with
        | nil => simp at hlen; omega
        | cons u r => exact ⟨u, r, rfl⟩
      have hu := hsub u (.head _)
      obtain ⟨x1, y1, w1, z1, z2⟩ := hDg.has held hh
      obtain ⟨x2, y2, w2, z3, z4⟩ := hDg.has u hu
      walk_at "go"
      refine Hold.in (src_c (rest := [(out, listOf ovs.toArray eo), (I, oI), (I2, oI2)]) X T (by k_asm) (news_sub (by k_asm) (by kcj_all)) ap (oo.o1 (oI'.o1 (oI2'.o1 off_nil))) (oo.o2 (oI'.o2 (oI2'.o2 off_nil))) A1g A2g ok1 ok2 hz (by show dp + 1 + 48 < _; omega) hS ?_)
      clear hS N F m0 m1 m2 m3 m4 hz
      intro h tk tv l1 v1 i1 t1 pend e2 F N hS hz
      simp only [two, List.cons_append, List.nil_append] at N
      k_sweep
      walk_at "go"
      refine Hold.in (wpAny_call (less_c ⟨X, T⟩ (Fr.keep (by k_asm)) (w1.keeps (Fr.keep (by k_asm))) (w2.keeps (Fr.keep (by k_asm))) (by show dp + 1 + 18 < _; omega) z1 z3 z2 z4 ?_))
      intro h' tk' E'
      have F' := E'.fr0 (by k_asm)
      have N' := E'.led0 (by k_asm)
      clear E'
      k_sweep
      have hq2 := congrArg List.length q2
      rw [List.length_append, rnd_len, rnd_len, List.length_cons] at hq2
      rw [List.length_cons] at hlen0
      have oR := hoff2.2.2.2.2.2.2
      dsimp only
      cases hlt : ltW held u with
      | true =>
        walk_at "go"
        refine Hold.in (put_c (u := held) (tv := th) (rest := [(out, listOf ovs.toArray eo), (I, oI), (I2, oI2)]) X T (by k_asm) (news_sub (by k_asm) (by kcj_all)) ap (oo.o2 (oI'.o2 (oI2'.o2 off_nil))) A2g ok2 hz (by show dp + 1 + 48 < _; omega) hS ?_)
        clear F N
        intro h tk e2 F N hS
        simp only [two, List.cons_append, List.nil_append] at N
        k_sweep
        walk_at "go"
        rw [rnd, if_pos hlt] at q1 q2
        refine turn_next (by k_asm) (by k_asm) (two w c1 c2 l1 v1 i1 t1 e1 l2 v2 i2 t2 (pend ++ [.str held th]) e2 ++ [(out, listOf ovs.toArray eo), (I, oI)]) (by kcj_all) (oI2'.all oR) ⟨u, _, rem, psh ++ [held], _, _, _, _, _, _, _, _, _, _, _, rfl, rfl, rfl, rfl, rfl, hu, fun u hu => hsub _ (.tail _ hu), ?_, ?_, hS, ?_, q1, (List.append_assoc _ _ _).trans q2, rfl⟩
        · intro v hv
          rcases List.mem_append.mp hv with hv | hv
          · exact hsub2 v hv
          · cases List.mem_singleton.mp hv; exact hh
        · rw [List.length_cons] at hlen; omega
        · have := hS.len
          simp only [List.length_append, List.length_cons, List.length_nil] at this ⊢
          omega
      | false =>
        walk_at "go"
        refine Hold.in (put_c (u := u) (tv := tv) (rest := [(out, listOf ovs.toArray eo), (I, oI), (I2, oI2)]) X T (by k_asm) (news_sub (by k_asm) (by kcj_all)) ap (oo.o2 (oI'.o2 (oI2'.o2 off_nil))) A2g ok2 hz (by show dp + 1 + 48 < _; omega) hS ?_)
        clear F N
        intro h tk e2 F N hS
        simp only [two, List.cons_append, List.nil_append] at N
        k_sweep
        walk_at "go"
        rw [rnd, if_neg (by rw [hlt]; exact Bool.false_ne_true)] at q1 q2
        refine turn_next (by k_asm) (by k_asm) (two w c1 c2 l1 v1 i1 t1 e1 l2 v2 i2 t2 (pend ++ [.str u tv]) e2 ++ [(out, listOf ovs.toArray eo), (I, oI)]) (by kcj_all) (oI2'.all oR) ⟨held, _, rem, psh ++ [u], _, _, _, _, _, _, _, _, _, _, _, rfl, rfl, rfl, rfl, rfl, hh, fun u hu => hsub _ (.tail _ hu), ?_, ?_, hS, ?_, q1, (List.append_assoc _ _ _).trans q2, rfl⟩
        · intro v hv
          rcases List.mem_append.mp hv with hv | hv
          · exact hsub2 v hv
          · cases List.mem_singleton.mp hv; exact hu
        · rw [List.length_cons] at hlen; omega
        · have := hS.len
          simp only [List.length_append, List.length_cons, List.length_nil] at this ⊢
          omega
    · rintro h tk m' news' F N ⟨held, th, rem', psh, l1, v1, i1, t1, e1, l2, v2, i2, t2, pend, e2, m0, m1, m2, m3, m4, hh, hsub, hsub2, hlen, hS, hz, q1, q2, rfl⟩
      replace F := know (x := Str.ofString "source") F m0
      replace F := know (x := Str.ofString "line") F m1
      replace F := know (x := Str.ofString "leads") F m2
      replace F := know (x := Str.ofString "out") F m3
      replace F := know (x := Str.ofString "held") F m4
      obtain rfl : rem' = [] := List.length_eq_zero_iff.mp (by omega)
      simp only [rnd, List.append_nil] at q1 q2
      subst q1 q2
      simp only [two, List.cons_append, List.nil_append] at N
      have n7 := hoff.2.2.2.2.2.2.1
      dsimp only at n7
      obtain ⟨n1, n2, n3, n4, n5, n6⟩ := id oo
      (try k_unfold)
      (try dsimp only)
      walk_at "go"
      have e9 : ovs.toArray.push (.str (rnd ltW u0 rem).1 th) = (ovs ++ [Value.str (rnd ltW u0 rem).1 th]).toArray := by simp
      (rename News _ _ _ _ => N9)
      rw [e9] at N9
      have e8 : us.length - i = us.length - (i + 1) + 1 := sub_one_of (show i < us.length by clear n1 n2 n3 n4 n5 n6 n7; omega)
      rw [e8, goneOf] at hgo
      refine turn_next (by k_asm) N9 (two w c1 c2 l1 v1 i1 t1 e1 l2 v2 i2 t2 pend e2 ++ [(out, listOf (ovs ++ [Value.str (rnd ltW u0 rem).1 th]).toArray (eo + 1))]) (by kcj_all) (oI'.all ⟨n7, trivial⟩) ⟨out, oo, c2.x, (rnd ltW u0 rem).2, ov ++ [(rnd ltW u0 rem).1], _, _, _, _, _, _, _, _, _, _, _, _, _, rfl, rfl, rfl, rfl, hsub2, ?_, hS.turn, hz, ho.append' (.cons _ _ .nil), ?_, (List.append_assoc _ _ _).trans hgo, rfl⟩
      · rw [rnd_len]; rw [List.length_cons] at hlen0; omega
      · rw [List.length_append, List.length_singleton, hol]
  · rintro h tk m' news' F N ⟨out, oo, src, rem, ov, ovs, eo, l1, v1, i1, t1, e1, l2, v2, i2, t2, pend, e2, m0, m1, m2, m3, hsub, hlen, hS, hz, ho, hol, hgo, rfl⟩
    replace F := know (x := Str.ofString "out") F m3
    (try k_unfold)
    (try dsimp only)
    walk_at "go"
    obtain rfl : rem = [] := List.length_eq_zero_iff.mp (by omega)
    obtain ⟨rfl, ej, el⟩ := hS.done
    have hgo' : ov = goneOf ltW us.length us := by
      rw [← hgo]
      cases h : us.length - (((kvs.length : Nat) : Int) - 0).toNat <;> simp [goneOf]
    exact hR _ _ _ _ _ _ _ _ _ _ _ _ _ _ _ (ends_of (by k_asm) N hg) (hgo' ▸ ho) ej el oo
end
section
variable {w : World} {lo : List Str} {mean : ExcName → Option Value} {mg mb : Str → Option Value} {b₀ : Heap} {dp un : Nat} {fr : Option (List Env)} {gd : Option (List Code)} {s : Shared} {R : Result → Shared → Prop}
/-- the list that _law_row takes apart, between its turns -/
inductive RowJ (D : Nat) (rest : List (Addr × Obj)) (fs : List Int) (n i : Nat) (ys : List Value) (news : List (Addr × Obj)) : Prop
  | mk (vs : List Value) (left out : List Int) (c : Nat) (hv : IntsAre vs left) (hl : left.length = n - i) (ho : IntsAre ys out) (hr : out ++ rowGo (n - i) left (fs.drop i) = rowGo n (rangeKs 0 ((n : Int) - 0).toNat) fs) (e : news = (D, listOf vs.toArray c) :: rest)
set_option maxRecDepth 100000 in
set_option maxHeartbeats 8000000 in
theorem row_c {fl n : Nat} {tc : Tok} {fv : List Value} {fs : List Int} (G : Gd (Mine.hd.heap_1 w.params) lo mean mg mb b₀) (hb : Over b₀ s.heap) (hf : s.heap.IsList fl fv.toArray) (hfv : IntsAre fv fs) (hn : n ≤ fs.length) (hln : fs.length ≤ 100) (hf0 : ∀ f ∈ fs, 0 ≤ f)
    (hd : dp + 28 < recursionLimit)
    (hR : ∀ h' tk' D vs c, Ends s.heap h' [] [(D, listOf vs.toArray c)] → IntsAre vs (rowGo n (rangeKs 0 ((n : Int) - 0).toNat) fs) → R (.ok (.ret (.ref D))) { s with heap := h', toks := tk' }) :
    codeAny (model P w) (Ar dp fr gd un) (.call (.ref 148) ⟨[.int n tc, .ref fl], []⟩) R s := by
  k_with_none
  k_with "exec For Name Attribute cons nil" => (k_dflt (refine for_exec ?_))
  k_with "exec For Name Name cons nil" => (k_dflt (refine for_exec ?_))
  k_with "exec For Name Call cons nil" => (k_dflt (refine for_exec ?_))
  k_with "call type:tuple" => ((k_here; (with_reducible show wpAny _ _ (call (Value.type _) [Value.ref _]) _ _ _); k_dflt (refine' tupleOf_c (by k_asm) (by k_asm) (by k_mem) (by ((have hL9 := IntsAre.length (by assumption)); rw [sizeLine_eq]; omega)) ?_; k_whole); intro _ _ _ _ l19q; (try k_lt l19q); (try k_sweep)))
  k_with "call builtin:len" => ((k_here; (with_reducible show wpAny _ _ (call (Value.builtin "len") [Value.ref _]) _ _ _); k_dflt (refine' len_tupI (by k_asm) (by with_reducible assumption) (by with_reducible assumption) (by omega) ?_; k_whole); intro _ _))
  k_with "execs cons" => ((k_dflt (refine execs_n (s := ‹Shared›) ?_); intro _; (try k_fold)))
  k_with "exec If BoolOp cons nil" => (((fail_if_success (with_reducible show wpAny _ _ _ (Cut _ _) _ _)); refine Hold.out ?_))
  k_with "out" => (repeat (first | (k_unfold; (try dsimp only)) | refine cut_ret ?_ | refine turn_ret ?_))
  k_with "go" => ((w_top off; repeat' (first | (k_unfold; (try dsimp only)) | walk1 | (dsimp only; walk1))))
  k_with "eval ListComp" => ((k_here; refine Hold.out ?_))
  k_with "call builtin:list.pop" => (refine Hold.out ?_)
  k_with "CompSrc" => (refine Hold.out ?_)
  k_with "FinE" => (refine Hold.out ?_)
  k_with "CompEnd" => (refine Hold.out ?_)
  refine enterC (binds := [(Str.ofString "count", .int n tc), (Str.ofString "figures", .ref fl)]) [] G hb Led.nil (by k_is) (by k_is) (by show dp < _; omega) (BindsTo.of_eq rfl) rfl (by decide +kernel) ?_
  intro g L h₁ tk cells F N Y X T l1 hg
  have hgf : g.IsList fl fv.toArray := let ⟨o, a, b⟩ := hf; ⟨o, hg _ _ a (by simp), b⟩
  k_cells Y
  rename_i oA oB dA dB
  simp only [List.cons_append, List.nil_append] at N
  walk_at "go"
  rename_i D vs c h2 tk2 hI l1 h3 o1 F N d1 tk3
  refine Hold.in ?_
  k_dflt (refine LCg.ListComp_U (F₀ := by k_asm) (by with_unfolding_all rfl) (by decide) (by rfl) (by decide) (by rfl) ?_)
  walk_at "go"
  refine Hold.in ?_
  k_here
  k_dflt (refine LCg.CompSrc.range (by rfl) (by k_asm) (by k_asm) (by assumption) (small_one (by omega) (by omega) (by omega) (by omega)) (PyProof.Rows.rangeSize_nat _ _) (by rw [sizeLine_eq]; omega) ?_)
  intro g'
  refine comp_inv (RowJ D _ fs n) ?_ ?_ (RowJ.mk _ _ [] _ hI ?_ .nil rfl rfl)
  · (try dsimp only)
    rintro i ys news hi ⟨vs, left, out, c, hv, hll, ho, hr, rfl⟩ v I oI C oC D2 m₂ h tk E' ⟨tv, rfl⟩ hC hx F N off ne
    have hi' : i < n := lt_nat hi
    clear hi
    replace off := Hid.mk off
    replace ne := Hid.mk ne
    have hvl := hv.length
    have hfl := hfv.length
    have hfi : (0 + (i : Int)).toNat = i := by rw [Int.zero_add]; rfl
    have hi2 : i < fs.length := Nat.lt_of_lt_of_le hi' (Nat.le_trans hn (Nat.le_refl _))
    have hll' : left.length = n - i := by omega
    have hf1 : 0 ≤ fs.getD i 0 := by rw [getD_in hi2]; exact hf0 _ (List.getElem_mem hi2)
    walk_at "go"
    rw [hfi]
    have hpos : (0 : Int) < left.length := by omega
    have hm0 := Int.fmod_nonneg_of_pos (fs.getD i 0) hpos
    have hm1 := Int.fmod_lt_of_pos (fs.getD i 0) hpos
    replace off := off.out
    replace ne := ne.out
    have h62 : left.length ≤ 1000000 := by clear off ne; omega
    have offs := off
    have hDI : AllNe D [(I, oI), (C, oC), (D2, LCg.lst ys), (L + 1 + 1, o1), (L + 1, oB)] := ⟨Ne.symm off.1.1, Ne.symm off.1.2.1, Ne.symm off.1.2.2, by clear off ne; show @Ne Nat _ _; omega, by clear off ne; show @Ne Nat _ _; omega, trivial⟩
    have hll2 : left.length - 1 = n - (i + 1) := by rw [hll', Nat.sub_sub]
    have hnn : n - i = n - (i + 1) + 1 := sub_one_of hi'
    clear off ne
    refine Hold.in (popI_c (rest := [(I, oI), (C, oC), (D2, LCg.lst ys), (L + 1 + 1, o1), (L + 1, oB)]) F N (by kcj_all) hDI hv hm0 hm1 h62 ?_)
    intro h' vs' t F' N' hv'
    walk_at "go"
    refine Hold.in (LCg.CompEnd.intro F' N' [(D, listOf vs'.toArray _), (L + 1 + 1, o1), (L + 1, oB)] (by kcj_all) offs trivial ?_)
    have hd1 : fs.drop i = fs.getD i 0 :: fs.drop (i + 1) := by rw [getD_in hi2]; exact List.drop_eq_getElem_cons hi2
    refine ⟨vs', _, out ++ [left.getD ((fs.getD i 0).fmod left.length).toNat 0], _, hv', ?_, ho.append (.cons _ _ .nil), ?_, rfl⟩
    · rw [List.length_eraseIdx_of_lt (by clear offs hDI; omega)]
      exact hll2
    · rw [← hr, hnn, hd1, rowGo, List.append_assoc]; rfl
  · rintro ys news ⟨vs, left, out, c, hv, hll, ho, hr, rfl⟩
    rw [show n - ((n : Int) - 0).toNat = 0 by omega, rowGo, List.append_nil] at hr
    unfold LCg.FinE
    intro D2 h' tk' F' N' o1'
    (try dsimp only)
    walk_at "go"
    exact hR _ _ D2 ys ys.length (ends_of F' (news_sub N' (by kcj_all)) hg) (hr ▸ ho)
  · rw [rangeKs_length]; omega
end
section
variable {w : World} {lo : List Str} {mean : ExcName → Option Value} {mg mb : Str → Option Value} {b₀ : Heap} {dp un : Nat} {fr : Option (List Env)} {gd : Option (List Code)} {s : Shared} {R : Result → Shared → Prop}
local macro_rules | `(tactic| k_all) => `(tactic| (exact AllNe.mem (by with_reducible assumption)))
/-- between the turns of the outer loop -/
inductive CeJ (ns : List Int) (cN : Nat) (t : Nat) (m₁ : Str → Option Value) (news₁ : List (Addr × Obj)) : Prop
  | mk (R cR Cl cC : Nat) (rows : List RowO) (cls : List CellO) (oN : Obj) (xN : Option Value) (e1 : m₁ (Str.ofString "rows") = some (.ref R)) (e2 : m₁ (Str.ofString "cells") = some (.ref Cl))
      (ok : RowsOk t rows) (hlen : rows.length ≤ t) (hcl : cls.length = t) (hc : pairsOf cls ++ cellsOf (ns.drop t) (intsOf rows) = cellsOf ns []) (dN : oN.data = .cell xN)
      (ap : Apt ((R, listOf (refsOf rows).toArray cR) :: (cN, oN) :: (Cl, listOf (cellRefs cls).toArray cC) :: (rowsLed rows ++ cellsLed cls)))
      (e : news₁ = (R, listOf (refsOf rows).toArray cR) :: (cN, oN) :: (Cl, listOf (cellRefs cls).toArray cC) :: (rowsLed rows ++ cellsLed cls))
/-- between the turns of the inner loop -/
inductive WhJ (R cR cN Cl : Nat) (E : List (Addr × Obj)) (T : List (List Int) × (Nat × Nat)) (as : List Nat) (t : Nat) (n : Nat) (m₁ : Str → Option Value) (news₁ : List (Addr × Obj)) : Prop
  | mk (i : Nat) (rows : List RowO) (num : Int) (tn ti : Tok) (oN : Obj) (e0 : m₁ (Str.ofString "rows") = some (.ref R)) (e1 : m₁ (Str.ofString "i") = some (.int i ti)) (e2 : m₁ (Str.ofString "cells") = some (.ref Cl)) (dN : oN.data = .cell (some (.int num tn))) (hi : i + n = rows.length)
      (hT : ((intsOf rows).take i ++ (ins num ((intsOf rows).drop i) i).1, (ins num ((intsOf rows).drop i) i).2) = T) (ha : rows.map (·.a) = as) (ok : RowsOk t rows)
      (e : news₁ = (R, listOf (as.map Value.ref).toArray cR) :: (cN, oN) :: (rowsLed rows ++ E))
/-- where the inner loop ends -/
inductive WhEnd (g : Heap) (L R cR cN Cl : Nat) (E : List (Addr × Obj)) (T : List (List Int) × (Nat × Nat)) (as : List Nat) (t : Nat) (s s' : Shared) : Prop
  | mk (h : Heap) (tk : Nat) (m₁ : Str → Option Value) (i : Nat) (rows : List RowO) (num : Int) (tn ti : Tok) (oN : Obj) (hs : s' = { s with heap := h, toks := tk }) (F : Fr g L h m₁) (N : News g L h ((R, listOf (as.map Value.ref).toArray cR) :: (cN, oN) :: (rowsLed rows ++ E)))
      (e0 : m₁ (Str.ofString "rows") = some (.ref R)) (e1 : m₁ (Str.ofString "i") = some (.int i ti)) (e2 : m₁ (Str.ofString "cells") = some (.ref Cl)) (dN : oN.data = .cell (some (.int num tn))) (hi : i ≤ rows.length)
      (hT : ((intsOf rows).take i ++ (ins num ((intsOf rows).drop i) i).1, (ins num ((intsOf rows).drop i) i).2) = T) (ha : rows.map (·.a) = as) (ok : RowsOk t rows) (hx : i = rows.length ∨ ∃ r, rows[i]? = some r ∧ ¬ num < r.ns.getLastD 0)
set_option maxRecDepth 100000 in
set_option maxHeartbeats 8000000 in
theorem cells_c {nl : Nat} {fv : List Value} {ns : List Int} (G : Gd (Mine.hd.heap_1 w.params) lo mean mg mb b₀) (hb : Over b₀ s.heap) (hf : s.heap.IsList nl fv.toArray) (hfv : IntsAre fv ns) (hln : ns.length ≤ 100)
    (hd : dp + 28 < recursionLimit)
    (hR : ∀ h' tk' Cl cls c, Ends s.heap h' [] ((Cl, listOf (cellRefs cls).toArray c) :: cellsLed cls) → AllNe Cl (cellsLed cls) → pairsOf cls = cellsOf ns [] → R (.ok (.ret (.ref Cl))) { s with heap := h', toks := tk' }) :
    codeAny (model P w) (Ar dp fr gd un) (.call (.ref 153) ⟨[.ref nl], []⟩) R s := by
  k_with_none
  k_with "exec For Name Attribute cons nil" => (k_dflt (refine for_exec ?_))
  k_with "exec For Name Name cons nil" => (k_dflt (refine for_exec ?_))
  k_with "exec For Name Call cons nil" => (k_dflt (refine for_exec ?_))
  k_with "call type:tuple" => ((k_here; (with_reducible show wpAny _ _ (call (Value.type _) [Value.ref _]) _ _ _); k_dflt (refine' tupleOf_c (by k_asm) (by k_asm) (by k_mem) (by ((have hL9 := IntsAre.length (by assumption)); rw [sizeLine_eq]; omega)) ?_; k_whole); intro _ _ _ _ l19q; (try k_lt l19q); (try k_sweep)))
  k_with "call builtin:len" => ((k_here; (with_reducible show wpAny _ _ (call (Value.builtin "len") [Value.ref _]) _ _ _); k_dflt (refine' len_tupI (by k_asm) (by with_reducible assumption) (by with_reducible assumption) (by omega) ?_; k_whole); intro _ _))
  k_with "execs cons" => ((k_dflt (refine execs_n (s := ‹Shared›) ?_); intro _; (try k_fold)))
  k_with "exec If BoolOp cons nil" => (((fail_if_success (with_reducible show wpAny _ _ _ (Cut _ _) _ _)); refine Hold.out ?_))
  k_with "out" => (repeat (first | (k_unfold; (try dsimp only)) | refine cut_ret ?_ | refine turn_ret ?_))
  k_with "go" => ((w_top off; repeat' (first | (k_unfold; (try dsimp only)) | walk1 | (dsimp only; walk1))))
  k_with "execs cons" => (contradiction)
  k_with "exec While BoolOp cons nil" => (refine Hold.out ?_)
  k_with "eval ListComp" => ((k_here; refine Hold.out ?_))
  k_with "CompSrcT" => (refine Hold.out ?_)
  k_with "CompEnd" => (refine Hold.out ?_)
  k_with "setItem ref int" => (refine Hold.out ?_)
  k_with "call builtin:list.append" => (refine Hold.out ?_)
  k_with "call builtin:list.index" => ((k_here; k_dflt (refine' indexI (by k_asm) (by k_mem) (by assumption) (by first | assumption | exact (List.mem_filter.mp (by assumption)).1) (by omega) ?_; k_whole); intro _ _))
  k_with "call builtin:len" => ((k_here; k_dflt (refine' lenV (by k_asm) (by k_mem) (by omega) ?_; k_whole); intro _ _))
  k_with "subscriptTail" => ((k_here; k_dflt (first | (refine' itemV (by k_asm) (by k_mem) (by omega) (by omega) (by with_reducible assumption) ?_; k_whole) | (refine' itemLast (by k_asm) (by k_mem) (by assumption) (by assumption) ?_; k_whole; intro _))))
  refine enterC (binds := [(Str.ofString "numbers", .ref nl)]) [] G hb Led.nil (by k_is) (by k_is) (by show dp < _; omega) (BindsTo.of_eq rfl) rfl (by decide +kernel) ?_
  intro g L h₁ tk cells F N Y X T l1 hg
  have hgf : g.IsList nl fv.toArray := let ⟨o, a, b⟩ := hf; ⟨o, hg _ _ a (by simp), b⟩
  k_cells Y
  rename_i oA dA
  simp only [List.cons_append, List.nil_append] at N
  walk_at "go"
  rename_i R0 h3 lR h2 Cl0 h1' lC h0' F0 N0 tk0
  refine for_list (g := g) (L := L) (news := [(R0, listOf [].toArray 0), (L + 1, oA), (Cl0, listOf [].toArray 0)]) (J := CeJ ns (L + 1)) rfl hgf rfl rfl rfl F0 (news_sub N0 (by kcj_all)) ?_ ?_ ?_
  · exact ⟨R0, 0, Cl0, 0, [], [], oA, _, rfl, rfl, (fun _ q => nomatch q), Nat.le_refl _, rfl, rfl, dA, ⟨⟨by omega, by omega, trivial⟩, ⟨by omega, trivial⟩, trivial, trivial⟩, rfl⟩
  · clear F0 N0
    rintro t v m₁ news₁ h tk I oI h₀ ht hv ⟨R, cR, Cl, cC, rows, cls, oN, xN, e1, e2, ok, hlen, hcl, hc, dN, ap, rfl⟩ hoff F N
    replace F := know (x := Str.ofString "rows") F e1
    replace F := know (x := Str.ofString "cells") F e2
    obtain ⟨tv, rfl, htl⟩ := ints_item hfv hv
    have ap' := ap
    simp only [Apt, AllNe] at ap' hoff
    obtain ⟨⟨a1, a2, a3⟩, ⟨b1, b2⟩, c1, d1⟩ := ap'
    obtain ⟨i1, i2, i3, i4⟩ := hoff
    have a1 := Ne.symm a1
    walk_at "go"
    refine Hold.in ?_
    rename_i h5 o5 d5 tk5 qk5 ek5 h6 F N tk6
    obtain ⟨as, has⟩ : ∃ as, as = rows.map (·.a) := ⟨_, rfl⟩
    have apW : ∀ (rows' : List RowO) (oN' : Obj), rows'.map (·.a) = as → Apt ((R, listOf (as.map Value.ref).toArray cR) :: (L + 1, oN') :: (rowsLed rows' ++ (Cl, listOf (cellRefs cls).toArray cC) :: (I, oI) :: cellsLed cls)) := fun rows' oN' e => apt_while ap ⟨i1, i2, i3, i4⟩ (e.trans has)
    have hasl : as.length ≤ 100 := by rw [has, List.length_map]; omega
    have hast : as.length ≤ t := by rw [has, List.length_map]; exact hlen
    have hL : (as.map Value.ref).length = as.length := List.length_map ..
    refine cut' (WhEnd g L R cR (L + 1) Cl ((Cl, listOf (cellRefs cls).toArray cC) :: (I, oI) :: cellsLed cls) (ins (ns.getD t 0) (intsOf rows) 0) as t s) ?_ ?_
    · skip
      refine While_inv (WhJ R cR (L + 1) Cl ((Cl, listOf (cellRefs cls).toArray cC) :: (I, oI) :: cellsLed cls) (ins (ns.getD t 0) (intsOf rows) 0) as t) (n₀ := rows.length) (by k_asm) (news_sub (news' := (R, listOf (as.map Value.ref).toArray cR) :: (L + 1, o5) :: (rowsLed rows ++ (Cl, listOf (cellRefs cls).toArray cC) :: (I, oI) :: cellsLed cls)) (by k_asm) ?_) ?_ ?_
      · rw [has, List.map_map]
        simp only [List.mem_cons, List.mem_append]
        rintro p (h | h | h | h | h | h) <;> simp [h]
      · refine ⟨0, rows, _, _, _, _, rfl, rfl, rfl, by assumption, by omega, ?_, has.symm, ok, rfl⟩
        rfl
      · clear F N
        rintro n m₁ news₁ h₁ tk₁ F N ⟨i, rows, num, tn, ti, oN, e0, e1, e2, dN, hi, hT, ha, ok, rfl⟩
        replace F := know (x := Str.ofString "rows") F e0
        replace F := know (x := Str.ofString "i") F e1
        replace F := know (x := Str.ofString "cells") F e2
        have hlr : rows.length = as.length := by rw [← ha, List.length_map]
        cases n with
        | zero =>
          walk_at "go"
          exact cut_next ⟨_, _, _, i, rows, num, tn, ti, oN, rfl, by k_asm, by k_asm, rfl, rfl, rfl, dN, by omega, hT, ha, ok, .inl (by omega)⟩
        | succ n =>
          obtain ⟨pre, r, post, rfl, rfl⟩ := row_at (rows := rows) (i := i) (by omega)
          have ap2 := apt_row (apW _ oN ha)
          replace N := news_sub N (fun p hp => ((((rowsLed_mid pre post r _).cons _).cons _).mem_iff).mpr hp)
          simp only [Apt, AllNe] at ap2
          obtain ⟨⟨u1, u2, u3⟩, ⟨u4, u5⟩, u6, u7⟩ := ap2
          have hx := ref_at ha
          obtain ⟨hri, hrn, hrl⟩ := ok r (by simp)
          have hrv := hri.length
          rw [List.length_append, List.length_cons] at hi hlr
          obtain ⟨ra, us, rc, rn⟩ := r
          simp only [RowO.led] at N hri hrn hrl hrv hx u1 u2 u3 u4 u5 u6
          walk_at "go"
          · refine Hold.in ?_
            k_dflt (refine LCt.ListComp_T (F₀ := by k_asm) (by with_unfolding_all rfl) (by decide) (by rfl) (by decide) (by rfl) ?_)
            walk_at "go"
            refine Hold.in ?_
            k_here
            k_dflt (refine LCt.CompSrcT.ledger (by rfl) (by k_asm) (by k_asm) (by k_mem) (by rw [sizeLine_eq, List.size_toArray]; omega) ?_)
            intro g'
            rw [List.size_toArray, hrv]
            refine compT_inv (FiltJ rn (fun x => decide (num < x)) _) ?_ ?_ ⟨rfl, .nil⟩
            · (try dsimp only)
              rintro k ys _ hk ⟨rfl, hy⟩ v I2 oI2 C oC D2 m₂ h2 tk2 E' hv2 hC hx2 F N off2 ⟨ne1, ne2, ne3⟩
              have off3 := off2
              simp only [LCg.Off3, and_true] at off2
              obtain ⟨tv2, rfl, -⟩ := ints_item hri (by simpa using hv2)
              walk_at "go"
              · exact Hold.in (LCg.CompEnd.intro (by k_asm) (by k_asm) _ (fun _ h => h) off3 (.inr ⟨_, by k_mem, rfl, _, rfl⟩) (FiltJ.yes ⟨rfl, hy⟩ (by omega) (decide_eq_true (by assumption))))
              · exact Hold.in (LCg.CompEnd.intro (by k_asm) (by k_asm) _ (fun _ h => h) off3 (.inr ⟨_, by k_mem, rfl, _, rfl⟩) (FiltJ.no ⟨rfl, hy⟩ (by omega) (decide_eq_false (by assumption))))
            · rintro ys _ ⟨rfl, hy⟩
              rw [← hrv, hrv, List.take_length] at hy
              have hfl : 0 < (rn.filter fun x => decide (num < x)).length := last_filter hrn (by assumption)
              unfold LCg.FinE
              intro D2 h2 tk2 F N o1
              simp only [LCg.Off1, and_true] at o1
              (try dsimp only)
              walk_at "go"
              (rename (_ ∈ List.filter _ _) => hM)
              (rename (∀ a, a ∈ List.filter _ _ → _ ≤ a) => hM2)
              obtain rfl := minL_eq hM hM2
              have hix := List.idxOf_lt_length_iff.mpr (List.mem_filter.mp hM).1
              refine Hold.in (ksa_set (by k_asm) (by k_asm) (by k_upd) hri (by omega) (by omega) (by omega) ?_)
              intro h' F N hset hl' _
              (try k_sweep)
              walk_at "go"
              (with_reducible rename News _ _ _ _ => N5)
              rename_i h7 oM dM tk7 h8 F8
              refine WhileStep.intro (by k_asm) (news_sub (news' := (R, listOf (as.map Value.ref).toArray cR) :: (L + 1, oM) :: (rowsLed (pre ++ ⟨ra, us.set ((List.idxOf (minL (rn.filter fun x => decide (num < x))) rn : Nat) : Int).toNat (.int num tn), rc, rn.set ((List.idxOf (minL (rn.filter fun x => decide (num < x))) rn : Nat) : Int).toNat num⟩ :: post) ++ (Cl, listOf (cellRefs cls).toArray cC) :: (I, oI) :: cellsLed cls)) N5 ?_) (Nat.lt_succ_self n) ⟨pre.length + 1, pre ++ ⟨ra, _, rc, _⟩ :: post, _, _, _, oM, rfl, rfl, rfl, by assumption, ?_, ins_turn hT (by assumption) rfl, ?_, rowsOk_set ok hset hl', rfl⟩
              · exact fun p hp => .tail _ (((((rowsLed_mid pre post _ _).cons _).cons _).mem_iff).mp hp)
              · simp; omega
              · rw [← ha]; simp
          · exact cut_next ⟨_, _, _, pre.length, pre ++ ⟨ra, us, rc, rn⟩ :: post, num, tn, ti, oN, rfl, by k_asm, news_sub (by k_asm) (fun p hp => ((((rowsLed_mid pre post _ _).cons _).cons _).mem_iff).mp hp), rfl, rfl, rfl, dN, by simp, hT, ha, ok, .inr ⟨_, by rw [List.getElem?_append_right (Nat.le_refl _), Nat.sub_self]; rfl, by assumption⟩⟩
    · rintro s' ⟨h, tk, m₁, i, rows2, num, tn, ti, oN, rfl, F, N, e0, e1, e2, dN, hi, hT, ha, ok, hx⟩
      replace F := know (x := Str.ofString "rows") F e0
      replace F := know (x := Str.ofString "i") F e1
      replace F := know (x := Str.ofString "cells") F e2
      have hlr : rows2.length = as.length := by rw [← ha, List.length_map]
      have ap2 := apt_out (apW _ oN ha)
      replace N := news_sub N (fun p hp => ((((led_out rows2 _ _ _).cons _).cons _).mem_iff).mpr hp)
      have ap3 := ap2
      simp only [Apt, AllNe] at ap3
      obtain ⟨⟨u1, u2, u3, u4⟩, ⟨u5, u6, u7⟩, ⟨u8, u9⟩, v1, v2⟩ := ap3
      have hcl2 : (cellRefs cls).length ≤ 100 := by simp; omega
      refine Hold.in ?_
      by_cases hi2 : i = rows2.length
      · have heq : (i : Int) = ((as.map Value.ref).length : Nat) := by omega
        walk_at "go"
        rename_i D h7 F N lD
        have lD' := lD
        obtain ⟨d1, d2, d3, d4, d5⟩ := lD'
        refine Hold.in (appendV F N (by k_upd) (by omega) ?_)
        clear F N
        intro h8 F N
        have hx2 := ref_new (D := D) (show i = as.length by omega)
        walk_at "go"
        have d6 := AllNe.ofAllLt d5
        refine Hold.in (appendV (vs := []) F N (by k_upd) (by simp) ?_)
        clear F N
        intro h9 F N
        walk_at "go"
        rename_i Dt h10 F N lt
        have apA := apt_new (o := pairObj (.int i ti) (.int (0 : Nat) tn)) (apt_new (o := oN) ap2 lD) lt
        obtain ⟨t1, t2, t3, t4, t5, t6⟩ := lt
        have t7 := AllNe.ofAllLt t6
        refine Hold.in (appendV F N (by k_upd) (by omega) ?_)
        clear F N
        intro h11 F N
        walk_at "go"
        (with_reducible rename News _ _ _ _ => N9)
        obtain ⟨tj, cR', cC', N5⟩ : ∃ tj cR' cC', News g L _ ((Dt, pairObj (.int i ti) (.int (0 : Nat) tj)) :: (D, listOf [.int num tn].toArray 1) :: (R, listOf (as.map Value.ref ++ [Value.ref D]).toArray cR') :: (L + 1, oN) :: (Cl, listOf (cellRefs cls ++ [Value.ref Dt]).toArray cC') :: (I, oI) :: (rowsLed rows2 ++ cellsLed cls)) := ⟨_, _, _, N9⟩
        have er : refsOf (rows2 ++ [⟨D, [.int num tn], 1, [num]⟩]) = as.map Value.ref ++ [Value.ref D] := by simp [refsOf, ← ha]
        have ec : cellRefs (cls ++ [⟨Dt, i, 0, ti, tj⟩]) = cellRefs cls ++ [Value.ref Dt] := by simp [cellRefs]
        have apN : ∀ o1 o2 o3 o4, Apt ((I, o1) :: (R, o2) :: (L + 1, o3) :: (Cl, o4) :: (rowsLed (rows2 ++ [⟨D, [.int num tn], 1, [num]⟩]) ++ cellsLed (cls ++ [⟨Dt, i, 0, ti, tj⟩]))) := fun o1 o2 o3 o4 => apt_grow apA fun a => by
          simp only [List.map_cons, List.map_append, rowsLed_fst, cellsLed_fst, List.map_nil, List.count_cons, List.count_append, List.count_nil]
          omega
        refine turn_next (by k_asm) N5 ((R, listOf (refsOf (rows2 ++ [⟨D, [.int num tn], 1, [num]⟩])).toArray cR') :: (L + 1, oN) :: (Cl, listOf (cellRefs (cls ++ [⟨Dt, i, 0, ti, tj⟩])).toArray cC') :: (rowsLed (rows2 ++ [⟨D, [.int num tn], 1, [num]⟩]) ++ cellsLed (cls ++ [⟨Dt, i, 0, ti, tj⟩]))) ?_ (apN oI _ _ _).1 ⟨R, cR', Cl, cC', rows2 ++ [⟨D, [.int num tn], 1, [num]⟩], cls ++ [⟨Dt, i, 0, ti, tj⟩], oN, _, rfl, rfl, ?_, ?_, ?_, ?_, dN, (apN oI _ _ _).2, rfl⟩
        · rw [er, ec, rowsLed, cellsLed, List.map_append, List.map_append]
          simp only [List.map_cons, List.map_nil, List.mem_cons, List.mem_append, List.not_mem_nil, or_false]
          rintro p (h | h | h | h | (h | h) | (h | h)) <;> simp [h]
        · intro q hq
          rcases List.mem_append.mp hq with hq | hq
          · obtain ⟨q1, q2, q3⟩ := ok q hq
            exact ⟨q1, q2, by omega⟩
          · cases List.mem_singleton.mp hq
            exact ⟨.cons _ _ .nil, by simp, by simp⟩
        · rw [List.length_append]; simp only [List.length_singleton]; omega
        · rw [List.length_append]; simp only [List.length_singleton]; omega
        · have hdr : (intsOf rows2).drop i = [] := List.drop_eq_nil_of_le (by rw [intsOf, List.length_map]; omega)
          have htk : (intsOf rows2).take i = intsOf rows2 := List.take_of_length_le (by rw [intsOf, List.length_map]; omega)
          rw [hdr, htk, ins] at hT
          have hn := ce_next hc htl hT.symm (c := ⟨Dt, i, 0, ti, tj⟩) rfl
          rw [← hn]; simp [intsOf]
      · have hne : ¬ (i : Int) = ((as.map Value.ref).length : Nat) := by omega
        obtain ⟨r, hr1, hr2⟩ := hx.resolve_left hi2
        clear hx
        obtain ⟨pre, r', post, rfl, rfl⟩ := row_at (rows := rows2) (i := i) (by omega)
        obtain rfl : r' = r := by rw [row_nth] at hr1; exact Option.some.inj hr1
        have hx2 := ref_at ha
        have ap4 := ap2.perm ((led_mid4 pre post r' _).map _)
        replace N := news_sub N (fun p hp => (led_mid4 pre post r' _).mem_iff.mpr hp)
        simp only [Apt, AllNe] at ap4
        obtain ⟨⟨_, _, _, w1, w2⟩, ⟨_, _, w3, w4⟩, ⟨_, w5, w6⟩, ⟨w7, w8⟩, w9, _⟩ := ap4
        obtain ⟨hri, hrn, hrl⟩ := ok r' (by simp)
        obtain ⟨ra, us, rc, rn⟩ := r'
        simp only [RowO.led] at N hri hrn hrl hr2 hx2 w1 w3 w5 w7 w9
        have hrv := hri.length
        rw [List.length_append, List.length_cons] at hi hlr hi2
        have hz2 : (us ++ [Value.int num tn]).length = rn.length + 1 := by rw [List.length_append, hrv]; rfl
        walk_at "go"
        refine Hold.in (appendV F N (by k_upd) (by omega) ?_)
        clear F N
        intro h8 F N
        walk_at "go"
        rename_i Dt h10 F N lt
        have apB := apt_new (o := oN) (ap2.perm ((led_mid4 pre post ⟨ra, us, rc, rn⟩ _).map _)) lt
        obtain ⟨t1, t2, t3, t4, t5, t6⟩ := lt
        have t7 := AllNe.ofAllLt t6
        refine Hold.in (appendV F N (by k_upd) (by omega) ?_)
        clear F N
        intro h11 F N
        walk_at "go"
        (with_reducible rename News _ _ _ _ => N9)
        rw [show ((us ++ [Value.int num tn]).length : Int) - 1 = (rn.length : Nat) by omega] at N9
        obtain ⟨tj, cC', N5⟩ : ∃ tj cC', News g L _ ((Dt, pairObj (.int pre.length ti) (.int (rn.length : Nat) tj)) :: (R, listOf (as.map Value.ref).toArray cR) :: (L + 1, oN) :: (Cl, listOf (cellRefs cls ++ [Value.ref Dt]).toArray cC') :: (I, oI) :: (ra, listOf (us ++ [Value.int num tn]).toArray (rc + 1)) :: (rowsLed pre ++ (rowsLed post ++ cellsLed cls))) := ⟨_, _, N9⟩
        have er : refsOf (pre ++ ⟨ra, us ++ [Value.int num tn], rc + 1, rn ++ [num]⟩ :: post) = as.map Value.ref := by simp [refsOf, ← ha]; rfl
        have ec : cellRefs (cls ++ [⟨Dt, pre.length, rn.length, ti, tj⟩]) = cellRefs cls ++ [Value.ref Dt] := by simp [cellRefs]
        have apN : ∀ o1 o2 o3 o4, Apt ((I, o1) :: (R, o2) :: (L + 1, o3) :: (Cl, o4) :: (rowsLed (pre ++ ⟨ra, us ++ [Value.int num tn], rc + 1, rn ++ [num]⟩ :: post) ++ cellsLed (cls ++ [⟨Dt, pre.length, rn.length, ti, tj⟩]))) := fun o1 o2 o3 o4 => apt_grow apB fun a => by
          simp only [List.map_cons, List.map_append, rowsLed_fst, cellsLed_fst, List.map_nil, List.count_cons, List.count_append, List.count_nil]
          omega
        refine turn_next (by k_asm) N5 ((R, listOf (refsOf (pre ++ ⟨ra, us ++ [Value.int num tn], rc + 1, rn ++ [num]⟩ :: post)).toArray cR) :: (L + 1, oN) :: (Cl, listOf (cellRefs (cls ++ [⟨Dt, pre.length, rn.length, ti, tj⟩])).toArray cC') :: (rowsLed (pre ++ ⟨ra, us ++ [Value.int num tn], rc + 1, rn ++ [num]⟩ :: post) ++ cellsLed (cls ++ [⟨Dt, pre.length, rn.length, ti, tj⟩]))) ?_ (apN oI _ _ _).1 ⟨R, cR, Cl, cC', pre ++ ⟨ra, us ++ [Value.int num tn], rc + 1, rn ++ [num]⟩ :: post, cls ++ [⟨Dt, pre.length, rn.length, ti, tj⟩], oN, _, rfl, rfl, ?_, ?_, ?_, ?_, dN, (apN oI _ _ _).2, rfl⟩
        · rw [er, ec, rowsLed, cellsLed, List.map_append, List.map_append]
          simp only [List.map_cons, List.map_nil, List.mem_cons, List.mem_append, List.not_mem_nil, or_false]
          rintro p (h | h | h | h | (h | h | h) | (h | h)) <;> simp [h]
        · intro q hq
          rcases List.mem_append.mp hq with hq | hq
          · obtain ⟨q1, q2, q3⟩ := ok q (List.mem_append_left _ hq)
            exact ⟨q1, q2, by omega⟩
          · rcases List.mem_cons.mp hq with rfl | hq
            · exact ⟨hri.append (.cons _ _ .nil), by simp, by simp; omega⟩
            · obtain ⟨q1, q2, q3⟩ := ok q (List.mem_append_right _ (.tail _ hq))
              exact ⟨q1, q2, by omega⟩
        · rw [List.length_append, List.length_cons]; omega
        · rw [List.length_append]; simp only [List.length_singleton]; omega
        · have hT2 := ins_end (r' := ⟨ra, us ++ [Value.int num tn], rc + 1, rn ++ [num]⟩) hT hr2 rfl
          exact ce_next hc htl hT2.symm (c := ⟨Dt, pre.length, rn.length, ti, tj⟩) rfl
  · rintro h tk m' news' F N ⟨R, cR, Cl, cC, rows, cls, oN, xN, e1, e2, ok, hlen, hcl, hc, dN, ap, rfl⟩
    replace F := know (x := Str.ofString "cells") F e2
    rw [List.drop_eq_nil_of_le (Nat.le_of_eq hfv.length.symm), cellsOf, List.append_nil] at hc
    walk_at "go"
    refine hR _ _ Cl cls cC (ends_of (by k_asm) (news_sub (by k_asm) ?_) hg) ap.2.2.1.right hc
    simp only [List.mem_cons, List.mem_append]
    rintro p (h | h) <;> simp [h]
end
section
variable {w : World} {lo : List Str} {mean : ExcName → Option Value} {mg mb : Str → Option Value} {b₀ : Heap} {dp un : Nat} {fr : Option (List Env)} {gd : Option (List Code)} {s : Shared} {R : Result → Shared → Prop}
local macro_rules | `(tactic| k_all) => `(tactic| (exact AllNe.mem (by with_reducible assumption)))
/-- between the turns of _law_leads -/
inductive LdJ (cls : List CellO) (pl : Bool) (H W RN rest : Int) (lD : Nat) (i : Nat) (m₁ : Str → Option Value) (news₁ : List (Addr × Obj)) : Prop
  | mk (ovs : List Value) (eo : Nat) (tp : Tok) (tH tW tR tr : Tok) (m0 : m₁ (Str.ofString "leads") = some (.ref lD)) (m1 : m₁ (Str.ofString "plain") = some (.bool pl)) (m2 : m₁ (Str.ofString "rest") = some (.int rest tr)) (m3 : m₁ (Str.ofString "run") = some (.int RN tR)) (m4 : m₁ (Str.ofString "wide") = some (.int W tW)) (m5 : m₁ (Str.ofString "high") = some (.int H tH))
      (ho : StrsAre ovs ((cls.take i).map fun c => S (leadP pl H W RN rest c.i c.j))) (e : news₁ = (lD, listOf ovs.toArray eo) :: cellsLed cls)
set_option maxRecDepth 100000 in
set_option maxHeartbeats 8000000 in
theorem leads_c {Cl : Nat} {pl : Bool} {rest : Int} {tr : Tok} {cls : List CellO} (G : Gd (Mine.hd.heap_1 w.params) lo mean mg mb b₀) (hb : Over b₀ s.heap) (hN : Led b₀ s.heap (cellsLed cls)) (hf : s.heap.IsList Cl (cellRefs cls).toArray) (hne : AllNe Cl (cellsLed cls)) (hlc : cls.length ≤ 8) (hl0 : 0 < cls.length) (hij : ∀ c ∈ cls, c.i ≤ 7 ∧ c.j ≤ 7) (hr0 : 0 ≤ rest) (hr1 : rest < 2520)
    (hd : dp + 28 < recursionLimit)
    (hR : ∀ h' tk' lD H W RN ovs eo, H = maxL (cls.map fun c => (c.i : Int)) → W = maxL (cls.map fun c => (c.j : Int)) → RN = (if 0 > H * W - 1 then 0 else H * W - 1) + (rest.fdiv 3).fmod 2 → Ends s.heap h' ((cellsLed cls).map (·.1)) ((lD, listOf ovs.toArray eo) :: cellsLed cls) → StrsAre ovs (cls.map fun c => S (leadP pl H W RN rest c.i c.j)) → R (.ok (.ret (.ref lD))) { s with heap := h', toks := tk' }) :
    codeAny (model P w) (Ar dp fr gd un) (.call (.ref 158) ⟨[.ref Cl, .bool pl, .int rest tr], []⟩) R s := by
  k_with_none
  k_with "exec For Name Attribute cons nil" => (k_dflt (refine for_exec ?_))
  k_with "exec For Name Name cons nil" => (k_dflt (refine for_exec ?_))
  k_with "exec For Name Call cons nil" => (k_dflt (refine for_exec ?_))
  k_with "call type:tuple" => ((k_here; (with_reducible show wpAny _ _ (call (Value.type _) [Value.ref _]) _ _ _); k_dflt (refine' tupleOf_c (by k_asm) (by k_asm) (by k_mem) (by ((have hL9 := IntsAre.length (by assumption)); rw [sizeLine_eq]; omega)) ?_; k_whole); intro _ _ _ _ l19q; (try k_lt l19q); (try k_sweep)))
  k_with "call builtin:len" => ((k_here; (with_reducible show wpAny _ _ (call (Value.builtin "len") [Value.ref _]) _ _ _); k_dflt (refine' len_tupI (by k_asm) (by with_reducible assumption) (by with_reducible assumption) (by omega) ?_; k_whole); intro _ _))
  k_with "execs cons" => ((k_dflt (refine execs_n (s := ‹Shared›) ?_); intro _; (try k_fold)))
  k_with "exec If BoolOp cons nil" => (((fail_if_success (with_reducible show wpAny _ _ _ (Cut _ _) _ _)); refine Hold.out ?_))
  k_with "out" => (repeat (first | (k_unfold; (try dsimp only)) | refine cut_ret ?_ | refine turn_ret ?_))
  k_with "go" => ((w_top off; repeat' (first | (k_unfold; (try dsimp only)) | walk1 | (dsimp only; walk1))))
  k_with "exec Assign cons ListComp" => ((k_here; refine Hold.out ?_))
  k_with "eval ListComp" => ((k_here; refine Hold.out ?_))
  k_with "SrcLP" => (refine Hold.out ?_)
  k_with "CompEnd" => (refine Hold.out ?_)
  k_with "exec For Tuple Name cons nil" => (k_dflt (refine for_exec ?_))
  k_with "binaryOp Mult str int" => ((k_here; k_dflt (first | (refine' mulS (c := 9) (by decide +kernel) (by omega) (by omega) ?_; k_whole; intro t9q tk9q) | (refine' mulS (c := 32) (by decide +kernel) (by omega) (by omega) ?_; k_whole; intro t9q tk9q))))
  k_with "binaryOp Add str str" => ((k_here; k_dflt (first | (refine' addS (by (simp only [List.length_append, List.length_replicate, List.length_cons, List.length_nil]; omega)) ?_; k_whole) | (refine' addSr (b := [9]) (by decide +kernel) (by (simp only [List.length_append, List.length_replicate, List.length_cons, List.length_nil]; omega)) ?_; k_whole)); intro _ _))
  k_with "call builtin:str.join" => (refine Hold.out ?_)
  k_with "call builtin:list.append" => (refine Hold.out ?_)
  k_with "binaryOp Mult ref int" => ((k_here; k_dflt (refine' mulV1 (by k_asm) (by k_asm) (by k_mem) (by omega) (by omega) ?_; k_whole); intro _ _ _ _ l19q; (try k_lt l19q); (try k_sweep)))
  k_with "binaryOp Add ref ref" => ((k_here; k_dflt (refine' addV (by k_asm) (by k_asm) (by k_mem) (by k_mem) (by (simp only [List.length_append, List.length_replicate, List.length_cons, List.length_nil, List.length_drop, List.length_take]; omega)) ?_; k_whole); intro _ _ _ _ l19q; (try k_lt l19q); (try k_sweep)))
  k_with "call builtin:len" => ((k_here; k_dflt (refine' lenP (by k_asm) (by k_mem) (by (simp only [List.length_append, List.length_cons]; omega)) (by (simp only [List.length_append, List.length_replicate, List.length_cons, List.length_nil]; omega)) ?_; k_whole); intro _ _ _))
  k_with "subscriptTail Name Slice ref ref" => (refine Hold.out ?_)
  refine enter (binds := [(Str.ofString "cells", .ref Cl), (Str.ofString "plain", .bool pl), (Str.ofString "rest", .int rest tr)]) (cellsLed cls) G hb hN (by k_is) (by k_is) (by show dp < _; omega) (BindsTo.of_eq rfl) (locs rfl) (by decide) ?_
  intro g L h₁ tk F N X T hg
  have hgl : g.IsList Cl (cellRefs cls).toArray := let ⟨o, a, b⟩ := hf; ⟨o, hg _ _ a (fun q => by obtain ⟨p, hp, e⟩ := List.mem_map.mp q; exact hne.mem p hp e), b⟩
  walk_at "go"
  refine Hold.in ?_
  k_dflt (refine LCp.ListComp_P (F₀ := by k_asm) (by with_unfolding_all rfl) (by decide) (by rfl) (by decide) (by rfl) (by rfl) (by decide) ?_)
  walk_at "go"
  refine Hold.in ?_
  k_here
  k_dflt (refine LCp.SrcLP.base (by rfl) (by k_asm) (by k_asm) (by assumption) (by rw [sizeLine_eq, List.size_toArray, List.length_map]; omega) ?_)
  intro g'
  rw [List.size_toArray, List.length_map]
  refine compP_inv (PairJ cls (fun c => (c.i : Int)) (cellsLed cls)) ?_ ?_ ⟨rfl, .nil⟩
  · (try dsimp only)
    rintro k ys _ hk ⟨rfl, hy⟩ v hv
    obtain ⟨c, hc, rfl, hm⟩ := cell_at (by simpa using hv)
    refine ⟨c.a, _, _, rfl, hm, ?_⟩
    intro I oI C oC D m₂ h tk E' hC hx hx2 F N off ne
    walk_at "go"
    exact Hold.in (LCg.CompEnd.intro (by k_asm) (by k_asm) _ (fun _ h => h) off (.inl (by assumption)) (PairJ.next ⟨rfl, hy⟩ hc))
  · rintro ys _ ⟨rfl, hy⟩
    rw [List.take_length] at hy
    unfold LCg.FinE
    intro D2 h2 tk2 F N o1
    (try dsimp only)
    walk_at "go"
    rename_i _ H tH _ ha1 hb1 h3 F N tk3
    have hH := maxL_eq ha1 hb1
    obtain ⟨hH0, hH7⟩ := max_bd ha1 fun c hc => (hij c hc).1
    clear ha1 hb1 hy
    replace N := news_sub (news' := cellsLed cls) N (fun p hp => .tail _ hp)
    refine Hold.in ?_
    k_dflt (refine LCp.ListComp_P (F₀ := by k_asm) (by with_unfolding_all rfl) (by decide) (by rfl) (by decide) (by rfl) (by rfl) (by decide) ?_)
    walk_at "go"
    refine Hold.in ?_
    k_here
    k_dflt (refine LCp.SrcLP.base (by rfl) (by k_asm) (by k_asm) (by assumption) (by rw [sizeLine_eq, List.size_toArray, List.length_map]; omega) ?_)
    intro g'
    rw [List.size_toArray, List.length_map]
    refine compP_inv (PairJ cls (fun c => (c.j : Int)) (cellsLed cls)) ?_ ?_ ⟨rfl, .nil⟩
    · (try dsimp only)
      rintro k ys _ hk ⟨rfl, hy⟩ v hv
      obtain ⟨c, hc, rfl, hm⟩ := cell_at (by simpa using hv)
      refine ⟨c.a, _, _, rfl, hm, ?_⟩
      intro I oI C oC D m₂ h tk E' hC hx hx2 F N off ne
      walk_at "go"
      exact Hold.in (LCg.CompEnd.intro (by k_asm) (by k_asm) _ (fun _ h => h) off (.inl (by assumption)) (PairJ.next ⟨rfl, hy⟩ hc))
    · rintro ys2 _ ⟨rfl, hy⟩
      rw [List.take_length] at hy
      unfold LCg.FinE
      intro D3 h4 tk4 F N o2
      (try dsimp only)
      walk_at "go"
      rename_i _ W tW _ ha2 hb2 _ _ _ _ _ _ _ lD _ lL _ F N tk5
      have hW := maxL_eq ha2 hb2
      have hlD := AllNe.ofAllLt lL.2
      obtain ⟨hW0, hW7⟩ := max_bd ha2 fun c hc => (hij c hc).2
      clear ha2 hb2 hy
      obtain ⟨RN, hRN⟩ : ∃ RN : Int, RN = (if 0 > H * W - 1 then 0 else H * W - 1) + (rest.fdiv 3).fmod 2 := ⟨_, rfl⟩
      have hRN0 : 0 ≤ RN ∧ RN ≤ 50 := run_bd hH0 hH7 hW0 hW7 hRN
      refine for_pairs (g := g) (L := L) (news := (lD, listOf [].toArray 0) :: cellsLed cls) (J := LdJ cls pl H W RN rest lD) rfl hgl rfl rfl rfl rfl F (news_sub N ?_) ?_ ?_ ?_
      · exact fun p hp => by rcases List.mem_cons.mp hp with h | h <;> simp [h]
      · rw [hRN]
        exact ⟨[], 0, 0, _, _, _, _, rfl, rfl, rfl, rfl, rfl, rfl, .nil, rfl⟩
      · clear F N
        rintro i v m₁ news₁ hi hv ⟨ovs, eo, tp, tH, tW, tR, tr, m0, m1, m2, m3, m4, m5, ho, rfl⟩
        obtain ⟨c, hc, rfl, hm⟩ := cell_at hv
        refine ⟨c.a, _, _, rfl, .tail _ hm, ?_⟩
        intro h tk I oI h₀ hoff F N
        replace F := know (x := Str.ofString "leads") F m0
        replace F := know (x := Str.ofString "plain") F m1
        replace F := know (x := Str.ofString "rest") F m2
        replace F := know (x := Str.ofString "run") F m3
        replace F := know (x := Str.ofString "wide") F m4
        replace F := know (x := Str.ofString "high") F m5
        simp only [AllNe] at hoff
        obtain ⟨hci, hcj⟩ := hij c (List.mem_of_getElem? hc)
        have hx1 : 0 ≤ (if 1 > H then 1 else H) ∧ (if 1 > H then 1 else H) ≤ 7 := by split <;> omega
        have hx2 : 0 ≤ (if 1 > W then 1 else W) ∧ (if 1 > W then 1 else W) ≤ 7 := by split <;> omega
        have hm1 := Int.fmod_nonneg_of_pos rest (b := 3) (by decide)
        have hm2 := Int.fmod_lt_of_pos rest (b := 3) (by decide)
        have hm3 := Int.fmod_nonneg_of_pos (rest.fdiv 6) (b := 2) (by decide)
        have hm4 := Int.fmod_lt_of_pos (rest.fdiv 6) (b := 2) (by decide)
        have hp1 := mul_bd hx1.1 hx1.2 hcj
        have hp2 := mul_bd hx2.1 hx2.2 hci
        have hc0 : 0 ≤ (c.i : Int) ∧ (c.i : Int) ≤ 7 := by omega
        have hc1 : 0 ≤ (c.j : Int) ∧ (c.j : Int) ≤ 7 := by omega
        cases pl with
        | true =>
          skip
          walk_at "go"
          refine Hold.in (appendV (by k_asm) (by k_asm) (by k_upd) (by have := ho.len_eq; rw [List.length_map, List.length_take] at this; omega) ?_)
          intro h7 F N
          (try k_sweep)
          walk_at "go"
          exact turn_next (by k_asm) (by k_asm) ((lD, listOf (ovs ++ [Value.str (S (leadP true H W RN rest c.i c.j)) _]).toArray (eo + 1)) :: cellsLed cls) (fun _ h => h) hoff ⟨_, _, tp, _, _, _, _, rfl, rfl, rfl, rfl, rfl, rfl, strs_snoc ho hc, rfl⟩
        | false =>
          walk_at "go"
          rename_i t8 tk8 hp8 h9 F N tk9
          have ht0 := Int.fmod_nonneg_of_pos (rest + c.i + 2 * c.j) (by assumption)
          have ht1 := Int.fmod_lt_of_pos (rest + c.i + 2 * c.j) (by assumption)
          refine Hold.in (sliceFrom F N (.head _) ht0 (by omega) (by simp only [List.length_append, List.length_replicate, List.length_cons, List.length_nil]; omega) ?_)
          clear F N
          intro D5 h10 F N l5
          k_lt l5
          walk_at "go"
          rename_i h11 F N tk11
          refine Hold.in (sliceUpto F N (.tail _ (.head _)) ht0 (by omega) (by simp only [List.length_append, List.length_replicate, List.length_cons, List.length_nil]; omega) ?_)
          clear F N
          intro D6 h12 F N l6
          k_lt l6
          walk_at "go"
          refine Hold.in (joinX (by k_asm) (.head _) (by decide +kernel) (pieces_are (by decide +kernel) _) (pieces_short (by omega) (by omega) (by rw [List.length_append, List.length_replicate, List.length_singleton]; omega) (by rw [List.length_append, List.length_replicate, List.length_singleton]; omega)) ?_)
          intro t13 tk13 XX hXX hXl
          walk_at "go"
          rename_i t15 tk15 t16 tk16
          refine Hold.in (appendV (by k_asm) (by k_asm) (by k_upd) (by have := ho.len_eq; rw [List.length_map, List.length_take] at this; omega) ?_)
          intro h14 F N
          (try k_sweep)
          walk_at "go"
          have hX2 : XX ++ List.replicate ((rest.fdiv 6).fmod 2).toNat 32 = leadP false H W RN rest c.i c.j := by
            rw [hXX]
            exact (leadP_false (by simp only [List.length_append, List.length_replicate, List.length_singleton, Int.toNat_natCast])).symm
          rw [hX2] at N
          refine turn_next F N ((lD, listOf (ovs ++ [Value.str (S (leadP false H W RN rest c.i c.j)) t16]).toArray (eo + 1)) :: cellsLed cls) ?_ hoff ⟨_, _, tp, _, _, _, _, rfl, rfl, rfl, rfl, rfl, rfl, strs_snoc ho hc, rfl⟩
          intro p hp
          rcases List.mem_cons.mp hp with h | hp
          · simp [h]
          · rcases List.mem_cons.mp hp with h | h <;> simp [h]
      · rintro h tk m' news' F N ⟨ovs, eo, tp, tH, tW, tR, tr, m0, m1, m2, m3, m4, m5, ho, rfl⟩
        replace F := know (x := Str.ofString "leads") F m0
        rw [List.take_of_length_le (by simp)] at ho
        walk_at "go"
        exact hR _ _ lD H W RN ovs eo hH hW hRN (ends_of (by k_asm) (by k_asm) hg) ho
end
section
variable {w : World} {lo : List Str} {mean : ExcName → Option Value} {mg mb : Str → Option Value} {b₀ : Heap} {dp un : Nat} {fr : Option (List Env)} {gd : Option (List Code)} {s : Shared} {R : Result → Shared → Prop}
inductive WrJ (wl fl : Nat) (fs : List Int) (ws : List (List Nat)) (i : Nat) (m₁ : Str → Option Value) (news₁ : List (Addr × Obj)) : Prop
  | mk (X : List Nat) (tt : Tok) (m0 : m₁ (Str.ofString "words") = some (.ref wl)) (m1 : m₁ (Str.ofString "figures") = some (.ref fl)) (m2 : m₁ (Str.ofString "text") = some (.str (S X) tt)) (hX : X = writtenP fs ws i) (hz : X.length ≤ 3000 * i) (e : news₁ = [])
set_option maxRecDepth 100000 in
set_option maxHeartbeats 8000000 in
theorem written_c {wl fl : Nat} {vs fv : List Value} {ws : List (List Nat)} {fs : List Int} (G : Gd (Mine.hd.heap_1 w.params) lo mean mg mb b₀) (hb : Over b₀ s.heap) (hl : s.heap.IsList wl vs.toArray) (hv : StrsAre vs (ws.map S)) (hf : s.heap.IsList fl fv.toArray) (hfv : IntsAre fv fs) (hn : ws.length ≤ fs.length) (hln : fs.length ≤ 100) (hws : ∀ x ∈ ws, x.length ≤ 1200) (hf0 : ∀ f ∈ fs, 0 ≤ f)
    (hd : dp + 28 < recursionLimit)
    (hR : ∀ h' tk' tt, Ends s.heap h' [] [] → R (.ok (.ret (.str (S (writtenP fs ws ws.length)) tt))) { s with heap := h', toks := tk' }) :
    codeAny (model P w) (Ar dp fr gd un) (.call (.ref 163) ⟨[.ref wl, .ref fl], []⟩) R s := by
  k_with_none
  k_with "exec For Name Attribute cons nil" => (k_dflt (refine for_exec ?_))
  k_with "exec For Name Name cons nil" => (k_dflt (refine for_exec ?_))
  k_with "exec For Name Call cons nil" => (k_dflt (refine for_exec ?_))
  k_with "call type:tuple" => ((k_here; (with_reducible show wpAny _ _ (call (Value.type _) [Value.ref _]) _ _ _); k_dflt (refine' tupleOf_c (by k_asm) (by k_asm) (by k_mem) (by ((have hL9 := IntsAre.length (by assumption)); rw [sizeLine_eq]; omega)) ?_; k_whole); intro _ _ _ _ l19q; (try k_lt l19q); (try k_sweep)))
  k_with "call builtin:len" => ((k_here; (with_reducible show wpAny _ _ (call (Value.builtin "len") [Value.ref _]) _ _ _); k_dflt (refine' len_tupI (by k_asm) (by with_reducible assumption) (by with_reducible assumption) (by omega) ?_; k_whole); intro _ _))
  k_with "execs cons" => ((k_dflt (refine execs_n (s := ‹Shared›) ?_); intro _; (try k_fold)))
  k_with "exec If BoolOp cons nil" => (((fail_if_success (with_reducible show wpAny _ _ _ (Cut _ _) _ _)); refine Hold.out ?_))
  k_with "out" => (repeat (first | (k_unfold; (try dsimp only)) | refine cut_ret ?_ | refine turn_ret ?_))
  k_with "go" => ((w_top off; repeat' (first | (k_unfold; (try dsimp only)) | walk1 | (dsimp only; walk1))))
  k_with "binaryOp Add str str" => ((k_here; k_dflt (refine' addG (by first | with_reducible exact lit0 | with_reducible exact lit34 | with_reducible exact lit92 | exact rfl) (by first | with_reducible exact lit0 | with_reducible exact lit34 | with_reducible exact lit32 | with_reducible exact lit10 | with_reducible exact lit910 | exact rfl) (by (simp only [List.length_append, List.length_replicate, List.length_cons, List.length_nil]; omega)) ?_; k_whole); intro _ _))
  k_with "inplaceOp Add str str" => ((k_here; k_dflt (refine' iaddG (by exact rfl) (by exact rfl) (by (simp only [List.length_append, List.length_replicate, List.length_cons, List.length_nil]; omega)) ?_; k_whole); intro _ _))
  k_with "subscriptTail Name Name ref int" => ((k_here; k_dflt (refine' itemG (by k_asm) (by assumption) (by omega) (by omega) (by assumption) ?_; k_whole)))
  k_with "eval ListComp" => ((k_here; refine Hold.out ?_))
  k_with "CompEnd" => (refine Hold.out ?_)
  k_with "call builtin:str.join" => (refine Hold.out ?_)
  k_with "Turn" => (refine Hold.out ?_)
  k_with "call builtin:len" => ((k_here; k_dflt (refine' lenG (by k_asm) (by assumption) (by omega) ?_; k_whole); intro _ _))
  refine enter (binds := [(Str.ofString "words", .ref wl), (Str.ofString "figures", .ref fl)]) [] G hb Led.nil (by k_is) (by k_is) (by show dp < _; omega) (BindsTo.of_eq rfl) (locs rfl) (by decide) ?_
  intro g L h₁ tk F N X T hg
  have hgl : g.IsList wl vs.toArray := let ⟨o, a, b⟩ := hl; ⟨o, hg _ _ a (by simp), b⟩
  have hgf : g.IsList fl fv.toArray := let ⟨o, a, b⟩ := hf; ⟨o, hg _ _ a (by simp), b⟩
  have hvl := hv.len_eq
  have hfl := hfv.length
  rw [List.length_map] at hvl
  have hv' := hv
  walk_at "go"
  refine for_up (g := g) (L := L) (news := []) (J := WrJ wl fl fs ws) rfl (by assumption) (by omega) rfl rfl rfl (by k_asm) News.nil ?_ ?_ ?_
  · exact ⟨[], _, rfl, rfl, by rw [← lit0]; rfl, rfl, Nat.zero_le _, rfl⟩
  · rintro i tc m₁ news₁ h tk I oI h₀ hi ⟨X1, tt, m0, m1, m2, hX, hz, rfl⟩ hoff F N
    replace F := know (x := Str.ofString "words") F m0
    replace F := know (x := Str.ofString "figures") F m1
    replace F := know (x := Str.ofString "text") F m2
    have hil : i < ws.length := by omega
    obtain ⟨tw, hw1⟩ := words_at hv hil
    have hw2 : vs[(0 + (i : Int)).toNat]? = some (.str (S (ws.getD i [])) tw) := by rw [show (0 + (i : Int)).toNat = i by omega]; exact hw1
    have hwl : (ws.getD i []).length ≤ 1200 := by rw [List.getD, List.getElem?_eq_getElem hil]; exact hws _ (List.getElem_mem hil)
    walk_at "go"
    · refine Hold.in ?_
      k_dflt (refine ListComp_SF (by k_asm) (by with_unfolding_all rfl) (by decide) (by rfl) (by decide) (by rfl) (by rfl) ?_)
      walk_at "go"
      refine Hold.in ⟨_, _, _, rfl, by k_asm, by k_asm, by rw [sizeLine_eq, show (S (ws.getD i [])).cps.size = (ws.getD i []).length by simp]; omega, ?_⟩
      intro g'
      rw [show (S (ws.getD i [])).cps.size = (ws.getD i []).length by simp]
      refine comp_inv (EscJ (ws.getD i []) _) ?_ ?_ ⟨rfl, .nil⟩
      · (try dsimp only)
        rintro k ys _ hk ⟨rfl, hy⟩ v I2 oI2 C oC D2 m₂ h2 tk2 E' ⟨cc, tv2, hv2, rfl⟩ hC hx2 F N off2 ⟨ne1, ne2, ne3⟩
        walk_at "go"
        exact Hold.in (LCg.CompEnd.intro (by k_asm) (by k_asm) _ (fun _ h => h) off2 trivial (EscJ.next ⟨rfl, hy⟩ hv2))
      · rintro ys _ ⟨rfl, hy⟩
        rw [List.take_length] at hy
        unfold LCg.FinE
        intro D3 h3 tk3 F N o1
        (try dsimp only)
        walk_at "go"
        refine Hold.in (joinY (by k_asm) (.head _) lit0 hy (by rw [esc_len]; omega) ?_)
        intro t4 tk4 B hB hBl
        walk_at "go"
        · exact turn_next (by k_asm) (by k_asm) [] (fun p hp => by cases List.mem_singleton.mp hp; simp) trivial ⟨_, _, rfl, rfl, rfl, (wr1 hX hz hwl hB (by assumption) (by assumption) (by rfl)).1, (wr1 hX hz hwl hB (by assumption) (by assumption) (by rfl)).2, rfl⟩
        · exact turn_next (by k_asm) (by k_asm) [] (fun p hp => by cases List.mem_singleton.mp hp; simp) trivial ⟨_, _, rfl, rfl, rfl, (wr1 hX hz hwl hB (by assumption) (by assumption) (by rfl)).1, (wr1 hX hz hwl hB (by assumption) (by assumption) (by rfl)).2, rfl⟩
        · exact turn_next (by k_asm) (by k_asm) [] (fun p hp => by cases List.mem_singleton.mp hp; simp) trivial ⟨_, _, rfl, rfl, rfl, (wr1 hX hz hwl hB (by assumption) (by assumption) (by rfl)).1, (wr1 hX hz hwl hB (by assumption) (by assumption) (by rfl)).2, rfl⟩
    · exact turn_next (by k_asm) (by k_asm) [] (fun p hp => by cases List.mem_singleton.mp hp; simp) trivial ⟨_, _, rfl, rfl, rfl, (wr0 hX hz hwl (by assumption) (by assumption) (by rfl)).1, (wr0 hX hz hwl (by assumption) (by assumption) (by rfl)).2, rfl⟩
    · exact turn_next (by k_asm) (by k_asm) [] (fun p hp => by cases List.mem_singleton.mp hp; simp) trivial ⟨_, _, rfl, rfl, rfl, (wr0 hX hz hwl (by assumption) (by assumption) (by rfl)).1, (wr0 hX hz hwl (by assumption) (by assumption) (by rfl)).2, rfl⟩
    · exact turn_next (by k_asm) (by k_asm) [] (fun p hp => by cases List.mem_singleton.mp hp; simp) trivial ⟨_, _, rfl, rfl, rfl, (wr0 hX hz hwl (by assumption) (by assumption) (by rfl)).1, (wr0 hX hz hwl (by assumption) (by assumption) (by rfl)).2, rfl⟩
    · refine Hold.in ?_
      k_dflt (refine ListComp_SF (by k_asm) (by with_unfolding_all rfl) (by decide) (by rfl) (by decide) (by rfl) (by rfl) ?_)
      walk_at "go"
      refine Hold.in ⟨_, _, _, rfl, by k_asm, by k_asm, by rw [sizeLine_eq, show (S (ws.getD i [])).cps.size = (ws.getD i []).length by simp]; omega, ?_⟩
      intro g'
      rw [show (S (ws.getD i [])).cps.size = (ws.getD i []).length by simp]
      refine comp_inv (EscJ (ws.getD i []) _) ?_ ?_ ⟨rfl, .nil⟩
      · (try dsimp only)
        rintro k ys _ hk ⟨rfl, hy⟩ v I2 oI2 C oC D2 m₂ h2 tk2 E' ⟨cc, tv2, hv2, rfl⟩ hC hx2 F N off2 ⟨ne1, ne2, ne3⟩
        walk_at "go"
        exact Hold.in (LCg.CompEnd.intro (by k_asm) (by k_asm) _ (fun _ h => h) off2 trivial (EscJ.next ⟨rfl, hy⟩ hv2))
      · rintro ys _ ⟨rfl, hy⟩
        rw [List.take_length] at hy
        unfold LCg.FinE
        intro D3 h3 tk3 F N o1
        (try dsimp only)
        walk_at "go"
        refine Hold.in (joinY (by k_asm) (.head _) lit0 hy (by rw [esc_len]; omega) ?_)
        intro t4 tk4 B hB hBl
        walk_at "go"
        · exact turn_next (by k_asm) (by k_asm) [] (fun p hp => by cases List.mem_singleton.mp hp; simp) trivial ⟨_, _, rfl, rfl, rfl, (wr2 hX hz hwl hB (by assumption) (by assumption) (by assumption) (by rfl)).1, (wr2 hX hz hwl hB (by assumption) (by assumption) (by assumption) (by rfl)).2, rfl⟩
        · exact turn_next (by k_asm) (by k_asm) [] (fun p hp => by cases List.mem_singleton.mp hp; simp) trivial ⟨_, _, rfl, rfl, rfl, (wr2 hX hz hwl hB (by assumption) (by assumption) (by assumption) (by rfl)).1, (wr2 hX hz hwl hB (by assumption) (by assumption) (by assumption) (by rfl)).2, rfl⟩
        · exact turn_next (by k_asm) (by k_asm) [] (fun p hp => by cases List.mem_singleton.mp hp; simp) trivial ⟨_, _, rfl, rfl, rfl, (wr2 hX hz hwl hB (by assumption) (by assumption) (by assumption) (by rfl)).1, (wr2 hX hz hwl hB (by assumption) (by assumption) (by assumption) (by rfl)).2, rfl⟩
  · rintro h tk m' news' F N ⟨X1, tt, m0, m1, m2, hX, hz, rfl⟩
    replace F := know (x := Str.ofString "text") F m2
    rw [show ((vs.length : Nat) : Int) - 0 = (ws.length : Nat) by omega, Int.toNat_natCast] at hX
    walk_at "go"
    rw [hX]
    exact hR _ _ _ (ends_of (by k_asm) News.nil hg)
end

section
variable {w : World} {lo : List Str} {mean : ExcName → Option Value} {mg mb : Str → Option Value} {b₀ : Heap} {dp un : Nat} {fr : Option (List Env)} {gd : Option (List Code)} {s : Shared} {R : Result → Shared → Prop}
noncomputable def bodyOf : Option Stmt → List Stmt | some (.FunctionDef _ _ b _ _ _ _ _ _ _) => b | _ => []
noncomputable def scopeOf : Option Stmt → Scope | some (.FunctionDef _ _ _ _ _ _ sc _ _ _) => sc | _ => ⟨.function, [], false, false, []⟩
noncomputable def lawB : List Stmt := bodyOf Challenge.pw_pe0167_01.main.body[14]?
noncomputable def lawSc : Scope := scopeOf Challenge.pw_pe0167_01.main.body[14]?
noncomputable abbrev lawEnv (L fa : Nat) (cd : Value) : Env := envOfC (Str.ofString "law") lawSc L fa cd
local macro_rules | `(tactic| k_ne) => `(tactic| ((try dsimp only); exact ne_cell (by k_asm) (by k_mem) (by k_mem) (by assumption) (fun _ e => by cases e)))
local macro_rules | `(tactic| k_all) => `(tactic| (exact AllNe.mem (by with_reducible assumption)))
theorem ro_off {w : World} {h : Heap} {c c' : Lx} {l : Int} {v t : Tok} {i e : Nat} {pend : List Value} (A : c.At h) (ok : c.Ok) (B : ∀ p ∈ c'.mu w l v i t pend e, h.get? p.1 = some p.2) : AllOff c.ro [c'.d, c'.at_, c'.pb] := by
  have b1 := B _ (.head _)
  have b2 := B _ (.tail _ (.head _))
  have b3 := B _ (.tail _ (.tail _ (.head _)))
  have a1 := A _ (.head _)
  have a2 := A _ (.tail _ (.head _))
  have a3 := A _ (.tail _ (.tail _ (.head _)))
  have a4 := A _ (.tail _ (.tail _ (.tail _ (.head _))))
  have a5 := A _ (.tail _ (.tail _ (.tail _ (.tail _ (.head _)))))
  obtain ⟨vs, tt, e1, e2⟩ := ok.dc
  have k3 := ok.d1
  have k4 := ok.d2
  refine ⟨⟨ne_obj a1 b1 nofun, ne_obj a2 b1 nofun, ne_obj a3 b1 (by rw [k3]; nofun), ne_obj a4 b1 (by rw [k4]; nofun), ne_obj a5 b1 (by rw [e1]; nofun), trivial⟩,
    ⟨ne_obj a1 b2 nofun, ne_obj a2 b2 nofun, ne_obj a3 b2 (by rw [k3]; nofun), ne_obj a4 b2 (by rw [k4]; nofun), ne_obj a5 b2 (by rw [e1]; nofun), trivial⟩,
    ⟨ne_obj a1 b3 nofun, ne_obj a2 b3 nofun, ne_obj a3 b3 (by rw [k3]; nofun), ne_obj a4 b3 (by rw [k4]; nofun), ne_obj a5 b3 (by rw [e1]; nofun), trivial⟩, trivial⟩
theorem lx_sub {w : World} {c : Lx} {l : Int} {v t : Tok} {i e : Nat} {pend : List Value} {tab : Addr × Obj} {R : List (Addr × Obj)} : ∀ p ∈ tab :: (c.cc, c.oc) :: (c.d, c.D w l v) :: (c.at_, listOf #[.int i t] 0) :: (c.pb, listOf pend.toArray e) :: (c.x, instObj 125 c.d) :: (c.fn, lamObj c.ct c.ca c.cc c.pm c.ctv) :: (c.ct, c.o1) :: (c.ca, c.o2) :: R, p ∈ (c.mu w l v i t pend e ++ (c.ro ++ [tab])) ++ R := by kcj_all
theorem AllOff.app {x y : List (Addr × Obj)} : ∀ {M : List Addr}, AllOff x M → AllOff y M → AllOff (x ++ y) M
  | [], _, _ => trivial
  | _ :: _, h1, h2 => ⟨h1.1.app h2.1, AllOff.app h1.2 h2.2⟩
theorem AllOff.six {x : List (Addr × Obj)} {a b c d e f : Addr} (h1 : AllOff x [a, b, c]) (h2 : AllOff x [d, e, f]) : AllOff x [a, b, c, d, e, f] := ⟨h1.1, h1.2.1, h1.2.2.1, h2.1, h2.2.1, h2.2.2.1, trivial⟩
theorem lx_sub2 {w : World} {c1 c2 : Lx} {v1 t1 v2 t2 : Tok} {tab : Addr × Obj} {T : List (Addr × Obj)} : ∀ p ∈ two w { c1 with oc := c2.oc, cc := c2.cc } c2 1 v1 0 t1 0 1 v2 0 t2 [] 0 ++ (({ c1 with oc := c2.oc, cc := c2.cc } : Lx).ro ++ (c2.ro ++ (tab :: T))),
    p ∈ c2.mu w 1 v2 0 t2 [] 0 ++ (c2.ro ++ [tab]) ++ ((c1.d, c1.D w 1 v1) :: (c1.at_, listOf #[.int 0 t1] 0) :: (c1.pb, listOf #[] 0) :: (c1.x, instObj 125 c1.d) :: (c1.fn, lamObj c1.ct c1.ca c2.cc c1.pm c1.ctv) :: (c1.ct, c1.o1) :: (c1.ca, c1.o2) :: T) := by kcj_all
/-- both lexers stand, apart from one another and from all else -/
structure LexTwo (g : Heap) (L : Addr) (h : Heap) (w : World) (c1 c2 : Lx) (l1 : Int) (v1 : Tok) (i1 : Nat) (t1 : Tok) (e1 : Nat) (l2 : Int) (v2 : Tok) (i2 : Nat) (t2 : Tok) (e2 : Nat) (rest : List (Addr × Obj)) : Prop where
  N : News g L h (two w c1 c2 l1 v1 i1 t1 e1 l2 v2 i2 t2 [] e2 ++ (c1.ro ++ (c2.ro ++ rest)))
  ap : Apart c1 c2
  off : AllOff (c1.ro ++ (c2.ro ++ rest)) [c1.d, c1.at_, c1.pb, c2.d, c2.at_, c2.pb]
  ok1 : c1.Ok
  ok2 : c2.Ok
theorem LexTwo.at {g : Heap} {L : Addr} {h h' : Heap} {w : World} {c1 c2 : Lx} {l1 : Int} {v1 : Tok} {i1 : Nat} {t1 : Tok} {e1 : Nat} {l2 : Int} {v2 : Tok} {i2 : Nat} {t2 : Tok} {e2 : Nat} {rest : List (Addr × Obj)} (X : LexTwo g L h w c1 c2 l1 v1 i1 t1 e1 l2 v2 i2 t2 e2 rest) (N : News g L h' (two w c1 c2 l1 v1 i1 t1 e1 l2 v2 i2 t2 [] e2 ++ (c1.ro ++ (c2.ro ++ rest)))) : LexTwo g L h' w c1 c2 l1 v1 i1 t1 e1 l2 v2 i2 t2 e2 rest := ⟨N, X.ap, X.off, X.ok1, X.ok2⟩
theorem LexTwo.sub {g : Heap} {L : Addr} {h : Heap} {w : World} {c1 c2 : Lx} {l1 : Int} {v1 : Tok} {i1 : Nat} {t1 : Tok} {e1 : Nat} {l2 : Int} {v2 : Tok} {i2 : Nat} {t2 : Tok} {e2 : Nat} {rest rest' : List (Addr × Obj)} (X : LexTwo g L h w c1 c2 l1 v1 i1 t1 e1 l2 v2 i2 t2 e2 rest) (k : ∀ p ∈ rest', p ∈ rest) : LexTwo g L h w c1 c2 l1 v1 i1 t1 e1 l2 v2 i2 t2 e2 rest' :=
  ⟨news_sub X.N fun p hp => by
      simp only [List.mem_append] at hp ⊢
      rcases hp with hp | hp | hp | hp
      · exact .inl hp
      · exact .inr (.inl hp)
      · exact .inr (.inr (.inl hp))
      · exact .inr (.inr (.inr (k p hp))), X.ap, AllOff.of fun p hp => X.off.mem p (by
      simp only [List.mem_append] at hp ⊢
      rcases hp with hp | hp | hp
      · exact .inl hp
      · exact .inr (.inl hp)
      · exact .inr (.inr (k p hp))), X.ok1, X.ok2⟩
set_option maxRecDepth 100000 in
set_option maxHeartbeats 2000000 in
theorem law_s2 {g : Heap} {L fa : Nat} {cd : Value} {m : Str → Option Value} {Q : Flow → Shared → Prop} {E : Value → Shared → Prop} {oc ol ow : Obj} {n : Nat} {tn : Tok} {fL lD ff eo : Nat} {fv ovs : List Value} {fs : List Int} {ld : List (List Nat)} {rest : List (Addr × Obj)}
    (X : (Mine.hd.heap_1 w.params).In g) (T : Top topProg lo mean mg mb g) (F : Fr g L s.heap m) (m1 : m (Str.ofString "figures") = some (.ref fL))
    (N : News g L s.heap ((L + 1 + 1 + 1 + 1 + 1 + 1, ow) :: (L + 1 + 1 + 1 + 1 + 1, ol) :: (L + 1 + 1, oc) :: (138, tabObj #[]) :: (fL, listOf fv.toArray ff) :: (lD, listOf ovs.toArray eo) :: rest))
    (dw : ow.data = .cell none) (dl : ol.data = .cell (some (.ref lD))) (dc : oc.data = .cell (some (.int n tn)))
    (hfs : IntsAre fv fs) (hov : StrsAre ovs (ld.map S)) (hn : ld.length = n) (hn8 : n ≤ 8) (hfl : fs.length = 8) (hf0 : ∀ f ∈ fs, 0 ≤ f) (hld : ∀ x ∈ ld, x.length ≤ 1000)
    (Aw : AllNe (L + 1 + 1 + 1 + 1 + 1 + 1) rest) (At : AllNe 138 rest) (hC : CodeHd g 142 138) (l1 : 138 < L)
    (hd : dp + 98 < recursionLimit)
    (hnext : ∀ h' tk' m' c1 c2 v1 v2 t1 t2 ps wL ys ow tt, Fr g L h' m' → m' (Str.ofString "file") = some (.ref (Lx.x c1)) → m' (Str.ofString "line") = some (.ref (Lx.x c2)) → m' (Str.ofString "text") = some (.str (S (writtenP fs (wordsP 0 ld) (wordsP 0 ld).length)) tt) → m' (Str.ofString "numbers") = m (Str.ofString "numbers") →
      LexTwo g L h' w c1 c2 1 v1 0 t1 0 1 v2 0 t2 0 ((138, tabObj ps) :: (wL, LCg.lst ys) :: (L + 1 + 1 + 1 + 1 + 1 + 1, ow) :: (L + 1 + 1, oc) :: rest) → c1.text = S (writtenP fs (wordsP 0 ld) ld.length) → c2.text = Str.ofString "" → TriplesOk ps.toList → StrsAre ys ((wordsP 0 ld).map S) → ow.data = .cell (some (.ref wL)) →
      wpAny (model P w) (Around.deeper (Ar dp fr gd un) (lawEnv L fa cd)) (execs (lawB.drop 10) (lawEnv L fa cd)) Q E { s with heap := h', toks := tk' }) :
    wpAny (model P w) (Around.deeper (Ar dp fr gd un) (lawEnv L fa cd)) (execs (lawB.drop 6) (lawEnv L fa cd)) Q E s := by
  k_with_none
  k_with "exec For Name Attribute cons nil" => (k_dflt (refine for_exec ?_))
  k_with "exec For Name Name cons nil" => (k_dflt (refine for_exec ?_))
  k_with "exec For Name Call cons nil" => (k_dflt (refine for_exec ?_))
  k_with "call type:tuple" => ((k_here; (with_reducible show wpAny _ _ (call (Value.type _) [Value.ref _]) _ _ _); k_dflt (refine' tupleOf_c (by k_asm) (by k_asm) (by k_mem) (by ((have hL9 := IntsAre.length (by assumption)); rw [sizeLine_eq]; omega)) ?_; k_whole); intro _ _ _ _ l19q; (try k_lt l19q); (try k_sweep)))
  k_with "call builtin:len" => ((k_here; (with_reducible show wpAny _ _ (call (Value.builtin "len") [Value.ref _]) _ _ _); k_dflt (refine' len_tupI (by k_asm) (by with_reducible assumption) (by with_reducible assumption) (by omega) ?_; k_whole); intro _ _))
  k_with "execs cons" => ((k_dflt (refine execs_n (s := ‹Shared›) ?_); intro _; (try k_fold)))
  k_with "exec If BoolOp cons nil" => (((fail_if_success (with_reducible show wpAny _ _ _ (Cut _ _) _ _)); refine Hold.out ?_))
  k_with "out" => (repeat (first | (k_unfold; (try dsimp only)) | refine cut_ret ?_ | refine turn_ret ?_))
  k_with "go" => ((w_top off; repeat' (first | (k_unfold; (try dsimp only)) | walk1 | (dsimp only; walk1))))
  k_with "call ref" => ((first | (with_reducible show wpAny _ _ (call (Value.ref 163) _ _) _ _ _) | (with_reducible show wpAny _ _ (call (Value.ref 143) _ _) _ _ _)); refine Hold.out ?_)
  k_with "eval ListComp" => ((k_here; refine Hold.out ?_))
  k_with "exec Assign cons ListComp" => ((k_here; refine Hold.out ?_))
  k_with "CompEnd" => (refine Hold.out ?_)
  k_with "CompSrc" => (refine Hold.out ?_)
  k_with "execs cons" => (((with_reducible show wpAny _ _ (execs [_, _, _, _] _) _ _ _); refine Hold.out ?_))
  obtain ⟨sc, hsc⟩ : ∃ sc, sc = lawSc := ⟨_, rfl⟩
  obtain ⟨B, hB⟩ : ∃ B, B = lawB.drop 6 := ⟨_, rfl⟩
  unfold lawEnv
  rw [← hsc, ← hB]
  conv at hsc => rhs; whnf
  conv at hB => rhs; whnf
  subst hsc hB
  replace F := know (x := Str.ofString "figures") F m1
  walk_at "go"
  refine Hold.in ?_
  with_reducible refine wpAny_Assign_Name ?_ ?_
  rotate_left
  with_unfolding_all rfl
  k_dflt (refine LCg.ListComp_U (F₀ := by k_asm) (by with_unfolding_all rfl) (by decide) (by rfl) (by decide) (by rfl) ?_)
  walk_at "go"
  refine Hold.in ?_
  k_here
  k_dflt (refine LCg.CompSrc.range (by rfl) (by k_asm) (by k_asm) (by assumption) (small_one (by omega) (by omega) (by omega) (by omega)) (PyProof.Rows.rangeSize_nat _ _) (by rw [sizeLine_eq]; omega) ?_)
  intro g'
  refine comp_inv (WdJ ld _) ?_ ?_ ⟨rfl, .nil⟩
  · (try dsimp only)
    rintro i ys _ hi ⟨rfl, hy⟩ v I oI C oC D m₂ h tk E' ⟨tv, rfl⟩ hC hx F N off ne
    have hil : i < ld.length := by omega
    walk_at "go"
    refine addG (leadAt hil) (letterAt8 (by omega)) (by have := getD_len hld i; simp only [List.length_singleton]; omega) ?_
    intro t' tk'
    walk_at "go"
    exact Hold.in (LCg.CompEnd.intro (by k_asm) (by k_asm) _ (by kcj_all) off trivial (WdJ.next ⟨rfl, hy⟩ hil))
  · rintro ys _ ⟨rfl, hy⟩
    rw [show (((n : Int) - 0).toNat) = ld.length by omega, List.take_length] at hy
    have hwl : ∀ x ∈ wordsP 0 ld, x.length ≤ 1200 := fun x hx => Nat.le_trans (words_bd hld 0 x hx) (by decide)
    unfold LCg.FinE
    intro D3 h3 tk3 F N o1
    (try dsimp only)
    walk_at "go"
    clear hov hld
    refine Hold.in (wpAny_call (written_c ⟨X, T⟩ (Fr.keep (by k_asm)) (News.isList (by k_asm) (by k_mem)) hy (News.isList (by k_asm) (by k_mem)) hfs (by rw [wordsP_len]; omega) (by omega) hwl hf0 (by show dp + 1 + 28 < _; omega) ?_))
    intro h4 tk4 tt En
    obtain ⟨F', N'⟩ := En.out (mu := []) (by k_asm) (by k_asm) rfl trivial
    (with_reducible rename Fr _ _ _ _ => F'')
    simp only [List.nil_append] at N'
    dsimp only
    walk_at "go"
    (with_reducible rename News _ _ _ _ => N1)
    (with_reducible rename Fr _ _ _ _ => F1)
    replace N1 := news_sub (news' := (138, tabObj #[]) :: (D3, LCg.lst ys) :: (L + 1 + 1 + 1 + 1 + 1 + 1, _) :: (L + 1 + 1, oc) :: rest) N1 (by kcj_all)
    have tz : (S (writtenP fs (wordsP 0 ld) (wordsP 0 ld).length)).length ≤ 1048576 := by
      rw [S_len]; exact Nat.le_trans (written_len hwl _) (by rw [wordsP_len]; omega)
    have nD : @Ne Nat D3 138 := ne_obj (N1 _ (.tail _ (.head _))).1 (N1 _ (.head _)).1 nofun
    refine Hold.in (wpAny_call (lexer1_c ⟨X, T⟩ (Fr.keep (by k_asm)) (led_of N1 (by kcj_all)) hC (by show dp + 1 + 18 < _; omega) tz ?_))
    intro h5 tk5 c1 v1 ti1 ps En1 ok1 ht1 hps hcc
    (rename (_ = Data.cell (some (Value.ref _))) => dW)
    (rename Obj => oW)
    have hm1 : ∀ p ∈ c1.mu w 1 v1 0 ti1 [] 0, h5.get? p.1 = some p.2 := fun p hp => (En1.has p (List.mem_append_left _ hp)).1
    have hr1 : c1.At h5 := fun p hp => (En1.has p (List.mem_append_right _ (List.mem_append_left _ hp))).1
    have ht1' := (En1.has (138, tabObj ps) (by simp)).1
    have x1 : @Ne Nat c1.d 138 := ne_obj (hm1 _ (.head _)) ht1' nofun
    have x2 : @Ne Nat c1.at_ 138 := ne_obj (hm1 _ (.tail _ (.head _))) ht1' nofun
    have x3 : @Ne Nat c1.pb 138 := ne_obj (hm1 _ (.tail _ (.tail _ (.head _)))) ht1' nofun
    have x4 : @Ne Nat c1.cc 138 := cc_ne (hr1 _ (.tail _ (.tail _ (.tail _ (.tail _ (.head _)))))) ht1' hps ok1.dc
    have a1 := En1.offNew N1 (a := c1.d) (.head _) (by simpa using x1)
    have a2 := En1.offNew N1 (a := c1.at_) (.tail _ (.head _)) (by simpa using x2)
    have a3 := En1.offNew N1 (a := c1.pb) (.tail _ (.tail _ (.head _))) (by simpa using x3)
    have a4 := En1.offNew N1 (a := c1.cc) (o := c1.oc) (by simp) (by simpa using x4)
    have aW := En1.allOld N1 (p := (L + 1 + 1 + 1 + 1 + 1 + 1, _)) (.tail _ (.tail _ (.head _))) (by simp; omega)
    obtain ⟨F2, N2⟩ := En1.out (mu := [(_, _)]) F1 N1 rfl ⟨⟨nD, by omega, by omega, At⟩, trivial⟩
    clear F1 N1
    obtain ⟨R2, hR2⟩ : ∃ R2 : List (Addr × Obj), R2 = (c1.d, c1.D w 1 v1) :: (c1.at_, listOf #[.int 0 ti1] 0) :: (c1.pb, listOf #[] 0) :: (c1.x, instObj 125 c1.d) :: (c1.fn, lamObj c1.ct c1.ca c1.cc c1.pm c1.ctv) :: (c1.ct, c1.o1) :: (c1.ca, c1.o2) :: (D3, LCg.lst ys) :: (L + 1 + 1 + 1 + 1 + 1 + 1, oW) :: (L + 1 + 1, oc) :: rest := ⟨_, rfl⟩
    replace N2 : News g L h5 ((138, tabObj ps) :: (c1.cc, c1.oc) :: R2) := news_sub N2 (by rw [hR2]; exact lx_sub)
    have k1 := ok1.d1
    have k2 := ok1.d2
    have o138 : AllNe 138 R2 := by
      rw [hR2]
      exact ⟨x1, x2, x3, ne_obj (hr1 _ (.head _)) ht1' nofun, ne_obj (hr1 _ (.tail _ (.head _))) ht1' nofun, ne_obj (hr1 _ (.tail _ (.tail _ (.head _)))) ht1' (by rw [k1]; nofun), ne_obj (hr1 _ (.tail _ (.tail _ (.tail _ (.head _))))) ht1' (by rw [k2]; nofun), nD, by omega, by omega, At⟩
    have occ : AllNe c1.cc R2 := by
      have z := hr1 _ (.tail _ (.tail _ (.tail _ (.tail _ (.head _)))))
      obtain ⟨vs, tv, e1, e2⟩ := ok1.dc
      rw [hR2]
      exact ⟨ne_obj (hm1 _ (.head _)) z (by rw [e1]; nofun), ne_obj (hm1 _ (.tail _ (.head _))) z (by rw [e1]; nofun), ne_obj (hm1 _ (.tail _ (.tail _ (.head _)))) z (by rw [e1]; nofun), ne_obj (hr1 _ (.head _)) z (by rw [e1]; nofun), ne_obj (hr1 _ (.tail _ (.head _))) z (by rw [e1]; nofun), ne_obj (hr1 _ (.tail _ (.tail _ (.head _)))) z (by rw [k1, e1]; nofun), ne_obj (hr1 _ (.tail _ (.tail _ (.tail _ (.head _))))) z (by rw [k2, e1]; nofun), a4.2⟩
    dsimp only
    walk_at "go"
    (with_reducible rename News _ _ _ _ => N1)
    (with_reducible rename Fr _ _ _ _ => F1)
    refine Hold.in (wpAny_call (lexer2_c ⟨X, T⟩ (Fr.keep (by k_asm)) (led_of N1 (by kcj_all)) hps hcc ok1.dc x4 hC (by show dp + 1 + 18 < _; omega) (by decide +kernel) ?_))
    intro h6 tk6 c2 v2 ti2 En2 ok2 ht2 hc2
    have hm2 : ∀ p ∈ c2.mu w 1 v2 0 ti2 [] 0, h6.get? p.1 = some p.2 := fun p hp => (En2.has p (List.mem_append_left _ hp)).1
    have hr2 : c2.At h6 := fun p hp => (En2.has p (List.mem_append_right _ (List.mem_append_left _ hp))).1
    have ht2' := (En2.has (138, tabObj ps) (by simp)).1
    have zc := hr2 _ (.tail _ (.tail _ (.tail _ (.tail _ (.head _)))))
    rw [hc2] at zc
    obtain ⟨vs, tv, e1, e2⟩ := id ok2.dc
    have y1 : c2.d ∉ [138, c1.cc] := by simpa using ⟨ne_obj (hm2 _ (.head _)) ht2' nofun, ne_obj (hm2 _ (.head _)) zc (by rw [e1]; nofun)⟩
    have y2 : c2.at_ ∉ [138, c1.cc] := by simpa using ⟨ne_obj (hm2 _ (.tail _ (.head _))) ht2' nofun, ne_obj (hm2 _ (.tail _ (.head _))) zc (by rw [e1]; nofun)⟩
    have y3 : c2.pb ∉ [138, c1.cc] := by simpa using ⟨ne_obj (hm2 _ (.tail _ (.tail _ (.head _)))) ht2' nofun, ne_obj (hm2 _ (.tail _ (.tail _ (.head _)))) zc (by rw [e1]; nofun)⟩
    have b1 := En2.offNew N1 (a := c2.d) (.head _) y1
    have b2 := En2.offNew N1 (a := c2.at_) (.tail _ (.head _)) y2
    have b3 := En2.offNew N1 (a := c2.pb) (.tail _ (.tail _ (.head _))) y3
    obtain ⟨F2, N2⟩ := En2.out (mu := [(_, _), (_, _)]) F1 N1 rfl ⟨o138, occ, trivial⟩
    clear F1 N1
    subst hR2
    have hm1' : ∀ p ∈ ({ c1 with oc := c2.oc } : Lx).mu w 1 v1 0 ti1 [] 0, h6.get? p.1 = some p.2 := fun p hp => (N2 p (List.mem_append_right _ (by simp only [List.mem_cons, List.not_mem_nil, or_false] at hp ⊢; rcases hp with h | h | h <;> simp [h]))).1
    have hr1' : ({ c1 with oc := c2.oc } : Lx).At h6 := fun p hp => by
      simp only [List.mem_cons, List.not_mem_nil, or_false] at hp
      rcases hp with h | h | h | h | h
      · exact (N2 p (List.mem_append_right _ (by simp [h]))).1
      · exact (N2 p (List.mem_append_right _ (by simp [h]))).1
      · exact (N2 p (List.mem_append_right _ (by simp [h]))).1
      · exact (N2 p (List.mem_append_right _ (by simp [h]))).1
      · rw [h]; exact zc
    have ok1' : ({ c1 with oc := c2.oc } : Lx).Ok := ⟨ok1.d1, ok1.d2, ok2.dc, ok1.ne, ok1.len⟩
    have LT : LexTwo g L h6 w { c1 with oc := c2.oc } c2 1 v1 0 ti1 0 1 v2 0 ti2 0 ((138, tabObj ps) :: (D3, LCg.lst ys) :: (L + 1 + 1 + 1 + 1 + 1 + 1, oW) :: (L + 1 + 1, oc) :: rest) := by
      refine ⟨news_sub N2 (by rw [← hc2]; exact lx_sub2), ⟨b1.2.2.1, b2.2.2.1, b3.2.2.1, b1.2.2.2.1, b2.2.2.2.1, b3.2.2.2.1, b1.2.2.2.2.1, b2.2.2.2.2.1, b3.2.2.2.2.1⟩, ?_, ok1', ok2⟩
      refine AllOff.six ((ro_off hr1' ok1' hm1').app ((ro_off hr2 ok2 hm1').app ⟨a1, a2, a3, trivial⟩)) ((ro_off hr1' ok1' hm2).app ((ro_off hr2 ok2 hm2).app ⟨⟨b1.1, b1.2.2.2.2.2.2.2.2.2⟩, ⟨b2.1, b2.2.2.2.2.2.2.2.2.2⟩, ⟨b3.1, b3.2.2.2.2.2.2.2.2.2⟩, trivial⟩))
    have N := LT.N
    clear N2 b1 b2 b3 a1 a2 a3 a4 hm1 hm2 hm1' hr1 hr1' hr2
    dsimp only
    walk_at "go"
    (with_reducible rename Fr _ _ _ _ => F9)
    (with_reducible rename News _ _ _ _ => N9)
    exact Hold.in (hnext _ _ _ { c1 with oc := c2.oc } c2 _ _ _ _ _ _ _ _ _ F9 rfl rfl rfl rfl (LT.at N9) (by rw [← wordsP_len 0 ld]; exact ht1) ht2 hps hy dW)
end
section
variable {w : World} {lo : List Str} {mean : ExcName → Option Value} {mg mb : Str → Option Value} {b₀ : Heap} {dp un : Nat} {fr : Option (List Env)} {gd : Option (List Code)} {s : Shared} {R : Result → Shared → Prop}
theorem ws_ok {u : Str} {b : Nat} (h : u.length ≤ b) : (wsOf u).cnt.length ≤ b ∧ (wsOf u).b ≤ b := by
  have h1 := wsRun_bd u.cps.toList ⟨[], 0, 0, 0⟩ 0 (Nat.le_refl _) (Nat.zero_lt_succ _)
  have h2 : u.cps.toList.length ≤ b := by rw [Array.length_toList]; exact h
  unfold wsOf
  omega
/-- the lexers' unchanging parts under a heap that hides the changing ones -/
theorem LexTwo.hid1 {g : Heap} {L : Addr} {h : Heap} {w : World} {c1 c2 : Lx} {l1 : Int} {v1 : Tok} {i1 : Nat} {t1 : Tok} {e1 : Nat} {l2 : Int} {v2 : Tok} {i2 : Nat} {t2 : Tok} {e2 : Nat} {rest : List (Addr × Obj)} (X : LexTwo g L h w c1 c2 l1 v1 i1 t1 e1 l2 v2 i2 t2 e2 rest) :
    c1.At (hideAll h [c1.d, c1.at_, c1.pb, c2.d, c2.at_, c2.pb]) ∧ c2.At (hideAll h [c1.d, c1.at_, c1.pb, c2.d, c2.at_, c2.pb]) :=
  ⟨fun p hp => hideAll_get _ (X.N p (List.mem_append_right _ (List.mem_append_left _ hp))).1 (X.off.mem p (List.mem_append_left _ hp)),
   fun p hp => hideAll_get _ (X.N p (List.mem_append_right _ (List.mem_append_right _ (List.mem_append_left _ hp)))).1 (X.off.mem p (List.mem_append_right _ (List.mem_append_left _ hp)))⟩
theorem two_not {g : Heap} {L : Addr} {h : Heap} {w : World} {c1 c2 : Lx} {l1 : Int} {v1 : Tok} {i1 : Nat} {t1 : Tok} {e1 : Nat} {l2 : Int} {v2 : Tok} {i2 : Nat} {t2 : Tok} {e2 : Nat} {rest : List (Addr × Obj)} {pend : List Value} (N : News g L h (two w c1 c2 l1 v1 i1 t1 e1 l2 v2 i2 t2 pend e2 ++ rest)) {a : Nat} (ha : h.get? a = none) : a ∉ [c1.d, c1.at_, c1.pb, c2.d, c2.at_, c2.pb] := fun q => by
  have key : ∀ p ∈ two w c1 c2 l1 v1 i1 t1 e1 l2 v2 i2 t2 pend e2, p.1 ≠ a := fun p hp e => by
    have := (N p (List.mem_append_left _ hp)).1
    rw [e, ha] at this; cases this
  simp only [List.mem_cons, List.not_mem_nil, or_false] at q
  rcases q with q | q | q | q | q | q
  · exact key _ (.head _) q.symm
  · exact key _ (.tail _ (.head _)) q.symm
  · exact key _ (.tail _ (.tail _ (.head _))) q.symm
  · exact key _ (.tail _ (.tail _ (.tail _ (.head _)))) q.symm
  · exact key _ (.tail _ (.tail _ (.tail _ (.tail _ (.head _))))) q.symm
  · exact key _ (.tail _ (.tail _ (.tail _ (.tail _ (.tail _ (.head _)))))) q.symm
theorem dict_hid {h h' : Heap} {w : World} {D : Nat} {o : Obj} {Ew : List (Addr × Obj)} {kvs : List (Str × Value)} {us : List Str} {M : List Addr} (En : Ends h h' [] ((D, o) :: Ew)) (hM : ∀ a ∈ M, h.get? a ≠ none)
    (is : o.IsDictOf (PySem.strKind P w) kvs) (lo : (D == sysModules) = false) (hk : kvs.map (·.1) = us) (hw : ∀ p ∈ kvs, ∃ x, p.2 = .ref x ∧ WsIn w Ew x p.1) (hnd : us.Nodup) (hlen : ∀ u ∈ us, u.length ≤ 1000000) : Dict w (hideAll h' M) D o kvs us := by
  have key : ∀ p ∈ (D, o) :: Ew, (hideAll h' M).get? p.1 = some p.2 := fun p hp => by
    refine hideAll_get _ (En.has p hp).1 fun q => ?_
    rcases (En.has p hp).2 with k | k
    · cases k
    · exact hM _ q k
  refine ⟨key _ (.head _), is, lo, by rw [← hk, List.length_map], fun u hu => ?_⟩
  rw [← hk] at hu
  obtain ⟨p, hp, rfl⟩ := List.mem_map.mp hu
  obtain ⟨x, hx, d, Dn, Dc, vs, tu, tb, tn, tt, u1, u2, u3, u4, u5, hi, hpp⟩ := hw p hp
  refine ⟨x, by rw [← hx]; exact valueAt_of (by rw [hk]; exact hnd) hp, ⟨d, Dn, Dc, vs, tu, tb, tn, tt, u1, u2, u3, u4, u5, hi, fun q hq => key q (.tail _ (hpp q hq))⟩, ws_ok (hlen _ (by rw [← hk]; exact List.mem_map_of_mem hp))⟩
theorem two_turn {w : World} {c1 c2 : Lx} {l1 : Int} {v1 : Tok} {i1 : Nat} {t1 : Tok} {e1 : Nat} {l2 : Int} {v2 : Tok} {i2 : Nat} {t2 : Tok} {e2 : Nat} {x : Addr × Obj} {a b c : List (Addr × Obj)} : ∀ p ∈ two w c1 c2 l1 v1 i1 t1 e1 l2 v2 i2 t2 [] e2 ++ (a ++ (b ++ (x :: c))), p ∈ (two w c1 c2 l1 v1 i1 t1 e1 l2 v2 i2 t2 [] e2 ++ [x]) ++ (a ++ (b ++ c)) := fun p hp => by
  rw [List.mem_append] at hp ⊢
  rcases hp with hp | hp
  · exact .inl (List.mem_append_left _ hp)
  · simp only [List.mem_append, List.mem_cons, List.not_mem_nil, or_false] at hp ⊢
    rcases hp with h | h | h | h <;> simp [h]
theorem off_turn {c1 c2 : Lx} {a : Nat} {o : Obj} {x y z : List (Addr × Obj)} (oo : OutOff c1 c2 a) (h : AllOff (x ++ (y ++ z)) [c1.d, c1.at_, c1.pb, c2.d, c2.at_, c2.pb]) : AllOff (x ++ (y ++ ((a, o) :: z))) [c1.d, c1.at_, c1.pb, c2.d, c2.at_, c2.pb] := by
  have key : ∀ {b : Nat}, @Ne Nat a b → AllNe b (x ++ (y ++ z)) → AllNe b (x ++ (y ++ ((a, o) :: z))) := fun hb hz => hz.left.app (hz.right.left.app ⟨hb, hz.right.right⟩)
  exact ⟨key oo.a1 h.1, key oo.a2 h.2.1, key oo.a3 h.2.2.1, key oo.b1 h.2.2.2.1, key oo.b2 h.2.2.2.2.1, key oo.b3 h.2.2.2.2.2.1, trivial⟩
theorem know2 {m : Str → Option Value} {x y : Str} {v u : Value} (h1 : m x = some v) (h2 : m y = some u) : (fun z => if z = y then some u else if z = x then some v else m z) = m := by
  funext z
  by_cases q : z = y
  · rw [if_pos q, q, h2]
  · rw [if_neg q]
    by_cases q2 : z = x
    · rw [if_pos q2, q2, h1]
    · rw [if_neg q2]
set_option maxRecDepth 100000 in
set_option maxHeartbeats 2000000 in
theorem law_s3 {g : Heap} {L fa : Nat} {cd : Value} {m : Str → Option Value} {Q : Flow → Shared → Prop} {E : Value → Shared → Prop} {ow : Obj} {c1 c2 : Lx} {v1 v2 t1 t2 : Tok} {wL : Nat} {ys : List Value} {us : List Str} {fin : List Nat} {rest : List (Addr × Obj)}
    (X : (Mine.hd.heap_1 w.params).In g) (T : Top topProg lo mean mg mb g) (F : Fr g L s.heap m) (m1 : m (Str.ofString "file") = some (.ref c1.x)) (m2 : m (Str.ofString "line") = some (.ref c2.x))
    (LT : LexTwo g L s.heap w c1 c2 1 v1 0 t1 0 1 v2 0 t2 0 ((wL, LCg.lst ys) :: (L + 1 + 1 + 1 + 1 + 1 + 1, ow) :: rest)) (dw : ow.data = .cell (some (.ref wL))) (hy : StrsAre ys us)
    (hr : Reads c1.text.cps.toList us fin) (hn : us.length ≤ 100) (hnd : us.Nodup) (hlen : ∀ u ∈ us, u.length ≤ 1000000)
    (hd : dp + 98 < recursionLimit)
    (hnext : ∀ h' tk' m' out ovs eo l1 v1 i1 t1 e1 l2 v2 i2 t2 e2, Fr g L h' m' → m' (Str.ofString "out") = some (.ref out) → (∀ y, y ≠ Str.ofString "out" → m' y = m y) →
      LexTwo g L h' w c1 c2 l1 v1 i1 t1 e1 l2 v2 i2 t2 e2 ((out, listOf ovs.toArray eo) :: (wL, LCg.lst ys) :: (L + 1 + 1 + 1 + 1 + 1 + 1, ow) :: rest) → StrsAre ovs (goneOf ltW us.length us) → c1.text.cps.toList.drop i1 = fin → l1 + nls fin = 1 + nls c1.text.cps.toList →
      wpAny (model P w) (Around.deeper (Ar dp fr gd un) (lawEnv L fa cd)) (execs (lawB.drop 11) (lawEnv L fa cd)) Q E { s with heap := h', toks := tk' }) :
    wpAny (model P w) (Around.deeper (Ar dp fr gd un) (lawEnv L fa cd)) (execs (lawB.drop 10) (lawEnv L fa cd)) Q E s := by
  k_with_none
  k_with "exec For Name Attribute cons nil" => (k_dflt (refine for_exec ?_))
  k_with "exec For Name Name cons nil" => (k_dflt (refine for_exec ?_))
  k_with "exec For Name Call cons nil" => (k_dflt (refine for_exec ?_))
  k_with "call type:tuple" => ((k_here; (with_reducible show wpAny _ _ (call (Value.type _) [Value.ref _]) _ _ _); k_dflt (refine' tupleOf_c (by k_asm) (by k_asm) (by k_mem) (by ((have hL9 := IntsAre.length (by assumption)); rw [sizeLine_eq]; omega)) ?_; k_whole); intro _ _ _ _ l19q; (try k_lt l19q); (try k_sweep)))
  k_with "call builtin:len" => ((k_here; (with_reducible show wpAny _ _ (call (Value.builtin "len") [Value.ref _]) _ _ _); k_dflt (refine' len_tupI (by k_asm) (by with_reducible assumption) (by with_reducible assumption) (by omega) ?_; k_whole); intro _ _))
  k_with "execs cons" => ((k_dflt (refine execs_n (s := ‹Shared›) ?_); intro _; (try k_fold)))
  k_with "exec If BoolOp cons nil" => (((fail_if_success (with_reducible show wpAny _ _ _ (Cut _ _) _ _)); refine Hold.out ?_))
  k_with "out" => (repeat (first | (k_unfold; (try dsimp only)) | refine cut_ret ?_ | refine turn_ret ?_))
  k_with "go" => ((w_top off; repeat' (first | (k_unfold; (try dsimp only)) | walk1 | (dsimp only; walk1))))
  k_with "call ref" => ((first | (with_reducible show wpAny _ _ (call (Value.ref 170) _ _) _ _ _) | (with_reducible show wpAny _ _ (call (Value.ref 177) _ _) _ _ _)); refine Hold.out ?_)
  k_with "execs cons" => (((with_reducible show wpAny _ _ (execs [_, _, _] _) _ _ _); refine Hold.out ?_))
  obtain ⟨sc, hsc⟩ : ∃ sc, sc = lawSc := ⟨_, rfl⟩
  obtain ⟨B, hB⟩ : ∃ B, B = lawB.drop 10 := ⟨_, rfl⟩
  unfold lawEnv
  rw [← hsc, ← hB]
  conv at hsc => rhs; whnf
  conv at hB => rhs; whnf
  subst hsc hB
  replace F := know (x := Str.ofString "file") F m1
  replace F := know (x := Str.ofString "line") F m2
  have N := LT.N
  walk_at "go"
  (with_reducible rename Fr _ _ _ _ => F1)
  (with_reducible rename News _ _ _ _ => N1)
  replace LT := LT.at N1
  refine Hold.in (wpAny_call (told_c ⟨X, T⟩ (Fr.keep F1) (News.isList (n := ys.length) N1 (List.mem_append_right _ (List.mem_append_right _ (List.mem_append_right _ (.head _))))) hy hnd hn hlen (by show dp + 1 + 28 < _; omega) ?_))
  intro h4 tk4 D o Ew kvs En1 hdo hlo hkv hws
  have hDict := dict_hid (M := [c1.d, c1.at_, c1.pb, c2.d, c2.at_, c2.pb]) En1 (fun a ha q => two_not N1 q ha) hdo hlo hkv hws hnd hlen
  obtain ⟨F2, N2⟩ := En1.out (mu := []) F1 N1 rfl trivial
  clear N1 F1
  replace N2 := news_sub N2 fun p hp => List.mem_append_right _ hp
  replace LT := LT.at N2
  clear En1 hws
  dsimp only
  walk_at "go"
  (with_reducible rename Fr _ _ _ _ => F1)
  (with_reducible rename News _ _ _ _ => N1)
  replace LT := LT.at N1
  refine Hold.in (wpAny_call (gone_c (us := us) (fin := fin) ⟨X, T⟩ (Fr.keep F1) (led_of N1 fun p hp => List.mem_append_left _ hp) LT.ap LT.hid1.1 LT.hid1.2 LT.ok1 LT.ok2 hDict hr hn (by show dp + 1 + 68 < _; omega) ?_))
  intro h5 tk5 out ovs eo l1' v1' i1' t1' e1' l2' v2' i2' t2' e2' En2 ho hdrop hline oo
  obtain ⟨F2, N2⟩ := En2.out (mu := two w c1 c2 1 v1 0 t1 0 1 v2 0 t2 [] 0) F1 N1 rfl LT.off
  clear N1 F1 hDict En2
  have LT2 : LexTwo g L h5 w c1 c2 l1' v1' i1' t1' e1' l2' v2' i2' t2' e2' ((out, listOf ovs.toArray eo) :: (wL, LCg.lst ys) :: (L + 1 + 1 + 1 + 1 + 1 + 1, ow) :: rest) :=
    ⟨news_sub N2 two_turn, LT.ap, off_turn oo LT.off, LT.ok1, LT.ok2⟩
  clear N2 LT
  have N := LT2.N
  dsimp only
  walk_at "go"
  (with_reducible rename Fr _ _ _ _ => F9)
  (with_reducible rename News _ _ _ _ => N9)
  exact Hold.in (hnext _ _ _ out ovs eo _ _ _ _ _ _ _ _ _ _ F9 rfl (fun y hy => (if_neg hy).trans (congrFun (know2 m1 m2) y)) (LT2.at N9) ho hdrop hline)
end
section
variable {w : World} {lo : List Str} {mean : ExcName → Option Value} {mg mb : Str → Option Value} {b₀ : Heap} {dp un : Nat} {fr : Option (List Env)} {gd : Option (List Code)} {s : Shared} {R : Result → Shared → Prop}
theorem know1 {m : Str → Option Value} {x : Str} {v : Value} (h1 : m x = some v) (z : Str) : (if z = x then some v else m z) = m z := by
  by_cases q : z = x
  · rw [if_pos q, q, h1]
  · rw [if_neg q]
set_option maxRecDepth 100000 in
set_option maxHeartbeats 2000000 in
theorem law_s4 {g : Heap} {L fa : Nat} {cd : Value} {m : Str → Option Value} {Q : Flow → Shared → Prop} {E : Value → Shared → Prop} {oc : Obj} {n : Nat} {tn : Tok} {nL nz : Nat} {nv : List Value} {ns : List Int} {rest : List (Addr × Obj)}
    (X : (Mine.hd.heap_1 w.params).In g) (T : Top topProg lo mean mg mb g) (F : Fr g L s.heap m) (m1 : m (Str.ofString "numbers") = some (.ref nL))
    (N : News g L s.heap ((L + 1 + 1, oc) :: (nL, listOf nv.toArray nz) :: rest)) (dc : oc.data = .cell (some (.int n tn))) (hnv : IntsAre nv ns) (hn : ns.length ≤ 8) (hb : ∀ a ∈ ns, 0 ≤ a ∧ a < 100) (hn8 : n ≤ 8)
    (hd : dp + 98 < recursionLimit)
    (hnext : ∀ h' tk' m' tL cls cc, Fr g L h' m' → m' (Str.ofString "turned") = some (.ref tL) → (∀ y, y ≠ Str.ofString "turned" → m' y = m y) →
      News g L h' ((tL, listOf (cellRefs cls).toArray cc) :: (cellsLed cls ++ ((L + 1 + 1, oc) :: (nL, listOf nv.toArray nz) :: rest))) → pairsOf cls = cellsOf ((ns.reverse).map fun a => (n : Int) - 1 - a) [] →
      wpAny (model P w) (Around.deeper (Ar dp fr gd un) (lawEnv L fa cd)) (execs (lawB.drop 12) (lawEnv L fa cd)) Q E { s with heap := h', toks := tk' }) :
    wpAny (model P w) (Around.deeper (Ar dp fr gd un) (lawEnv L fa cd)) (execs (lawB.drop 11) (lawEnv L fa cd)) Q E s := by
  k_with_none
  k_with "exec For Name Attribute cons nil" => (k_dflt (refine for_exec ?_))
  k_with "exec For Name Name cons nil" => (k_dflt (refine for_exec ?_))
  k_with "exec For Name Call cons nil" => (k_dflt (refine for_exec ?_))
  k_with "call type:tuple" => ((k_here; (with_reducible show wpAny _ _ (call (Value.type _) [Value.ref _]) _ _ _); k_dflt (refine' tupleOf_c (by k_asm) (by k_asm) (by k_mem) (by ((have hL9 := IntsAre.length (by assumption)); rw [sizeLine_eq]; omega)) ?_; k_whole); intro _ _ _ _ l19q; (try k_lt l19q); (try k_sweep)))
  k_with "call builtin:len" => ((k_here; (with_reducible show wpAny _ _ (call (Value.builtin "len") [Value.ref _]) _ _ _); k_dflt (refine' len_tupI (by k_asm) (by with_reducible assumption) (by with_reducible assumption) (by omega) ?_; k_whole); intro _ _))
  k_with "execs cons" => ((k_dflt (refine execs_n (s := ‹Shared›) ?_); intro _; (try k_fold)))
  k_with "exec If BoolOp cons nil" => (((fail_if_success (with_reducible show wpAny _ _ _ (Cut _ _) _ _)); refine Hold.out ?_))
  k_with "out" => (repeat (first | (k_unfold; (try dsimp only)) | refine cut_ret ?_ | refine turn_ret ?_))
  k_with "go" => ((w_top off; repeat' (first | (k_unfold; (try dsimp only)) | walk1 | (dsimp only; walk1))))
  k_with "call ref" => (((with_reducible show wpAny _ _ (call (Value.ref 153) _ _) _ _ _); refine Hold.out ?_))
  k_with "eval ListComp" => ((k_here; refine Hold.out ?_))
  k_with "CompEnd" => (refine Hold.out ?_)
  k_with "CompSrc" => (refine Hold.out ?_)
  k_with "execs cons" => (((with_reducible show wpAny _ _ (execs [_, _] _) _ _ _); refine Hold.out ?_))
  obtain ⟨sc, hsc⟩ : ∃ sc, sc = lawSc := ⟨_, rfl⟩
  obtain ⟨B, hB⟩ : ∃ B, B = lawB.drop 11 := ⟨_, rfl⟩
  unfold lawEnv
  rw [← hsc, ← hB]
  conv at hsc => rhs; whnf
  conv at hB => rhs; whnf
  subst hsc hB
  replace F := know (x := Str.ofString "numbers") F m1
  walk_at "go"
  refine Hold.in ?_
  k_dflt (refine LCg.ListComp_U (F₀ := by k_asm) (by with_unfolding_all rfl) (by decide) (by rfl) (by decide) (by rfl) ?_)
  walk_at "go"
  refine Hold.in ?_
  k_here
  (with_reducible rename IntsAre _ (List.reverse _) => hrv)
  have hrl := hrv.length
  rw [List.length_reverse] at hrl
  k_dflt (refine LCg.CompSrc.ledger (by rfl) (by k_asm) (by k_asm) (.head _) (by rw [sizeLine_eq, List.size_toArray]; omega) ?_)
  intro g'
  rw [List.size_toArray]
  refine comp_inv (MapJ ns.reverse (fun a => (n : Int) - 1 - a) _) ?_ ?_ ⟨rfl, .nil⟩
  · (try dsimp only)
    rintro i ys _ hi ⟨rfl, hy⟩ v I oI C oC D m₂ h tk E' hv hC hx F N off ne
    obtain ⟨tv, rfl, hil⟩ := ints_item hrv (by simpa using hv)
    have hbb := getD_bd (fun x hx => hb x (List.mem_reverse.mp hx)) hil
    walk_at "go"
    exact Hold.in (LCg.CompEnd.intro (by k_asm) (by k_asm) _ (by kcj_all) off (.inr ⟨_, .head _, rfl, _, rfl⟩) (MapJ.next ⟨rfl, hy⟩ hil rfl))
  · rintro ys _ ⟨rfl, hy⟩
    rw [hrl, ← List.length_reverse, List.take_length] at hy
    unfold LCg.FinE
    intro D3 h3 tk3 F N o1
    (try dsimp only)
    walk_at "go"
    (with_reducible rename Fr _ _ _ _ => F1)
    (with_reducible rename News _ _ _ _ => N1)
    refine Hold.in (wpAny_call (cells_c ⟨X, T⟩ (Fr.keep F1) (News.isList (n := ys.length) N1 (.head _)) hy (by rw [List.length_map, List.length_reverse]; omega) (by show dp + 1 + 28 < _; omega) ?_))
    intro h5 tk5 Cl cls cc En hne hcls
    obtain ⟨F2, N2⟩ := En.out (mu := []) F1 N1 rfl trivial
    clear F1 N1 En
    replace N2 : News g L h5 ((Cl, listOf (cellRefs cls).toArray cc) :: (cellsLed cls ++ ((L + 1 + 1, oc) :: (nL, listOf nv.toArray nz) :: rest))) := news_sub N2 (by simp only [List.mem_cons, List.mem_append]; rintro p (h | h | h) <;> simp [h])
    dsimp only
    walk_at "go"
    (with_reducible rename Fr _ _ _ _ => F9)
    (with_reducible rename News _ _ _ _ => N9)
    exact Hold.in (hnext _ _ _ Cl cls cc F9 rfl (fun y hy => (if_neg hy).trans (know1 m1 y)) N9 hcls)
end
section
variable {w : World} {lo : List Str} {mean : ExcName → Option Value} {mg mb : Str → Option Value} {b₀ : Heap} {dp un : Nat} {fr : Option (List Env)} {gd : Option (List Code)} {s : Shared} {R : Result → Shared → Prop}
structure WcJ (cls : List CellO) (f : CellO → Str) (news : List (Addr × Obj)) (i : Nat) (ys : List Value) (news' : List (Addr × Obj)) : Prop where
  e : news' = news
  hy : StrsAre ys ((cls.take i).map f)
set_option maxRecDepth 100000 in
set_option maxHeartbeats 2000000 in
theorem law_s5 {g : Heap} {L fa : Nat} {cd : Value} {m : Str → Option Value} {Q : Flow → Shared → Prop} {E : Value → Shared → Prop} {ow oce : Obj} {tL Cl wL out cc cc2 eo : Nat} {cls cls2 : List CellO} {ys ovs : List Value} {us gs : List Str} {rest : List (Addr × Obj)}
    (X : (Mine.hd.heap_1 w.params).In g) (T : Top topProg lo mean mg mb g) (F : Fr g L s.heap m) (m1 : m (Str.ofString "turned") = some (.ref tL)) (m2 : m (Str.ofString "out") = some (.ref out))
    (N : News g L s.heap ((tL, listOf (cellRefs cls2).toArray cc2) :: (out, listOf ovs.toArray eo) :: (wL, LCg.lst ys) :: (L + 1 + 1 + 1 + 1 + 1 + 1, ow) :: (L + 1 + 1 + 1 + 1, oce) :: (Cl, listOf (cellRefs cls).toArray cc) :: (cellsLed cls ++ (cellsLed cls2 ++ rest))))
    (dw : ow.data = .cell (some (.ref wL))) (dce : oce.data = .cell (some (.ref Cl)))
    (hy : StrsAre ys us) (ho : StrsAre ovs gs) (hlen : us.length = cls.length) (hn : cls.length ≤ 8) (hn2 : cls2.length ≤ 8)
    (hin : ∀ c ∈ pairsOf cls2, c ∈ pairsOf cls)
    (heq : gs = (pairsOf cls2).reverse.map fun c => us.getD ((pairsOf cls).idxOf c) Str.empty)
    (hd : dp + 98 < recursionLimit) (hu : un < 1000)
    (hnext : ∀ h' tk', Fr g L h' m → News g L h' rest →
      wpAny (model P w) (Around.deeper (Ar dp fr gd un) (lawEnv L fa cd)) (execs (lawB.drop 13) (lawEnv L fa cd)) Q E { s with heap := h', toks := tk' }) :
    wpAny (model P w) (Around.deeper (Ar dp fr gd un) (lawEnv L fa cd)) (execs (lawB.drop 12) (lawEnv L fa cd)) Q E s := by
  k_with_none
  k_with "exec For Name Attribute cons nil" => (k_dflt (refine for_exec ?_))
  k_with "exec For Name Name cons nil" => (k_dflt (refine for_exec ?_))
  k_with "exec For Name Call cons nil" => (k_dflt (refine for_exec ?_))
  k_with "call type:tuple" => ((k_here; (with_reducible show wpAny _ _ (call (Value.type _) [Value.ref _]) _ _ _); k_dflt (refine' tupleOf_c (by k_asm) (by k_asm) (by k_mem) (by ((have hL9 := IntsAre.length (by assumption)); rw [sizeLine_eq]; omega)) ?_; k_whole); intro _ _ _ _ l19q; (try k_lt l19q); (try k_sweep)))
  k_with "call builtin:len" => ((k_here; (with_reducible show wpAny _ _ (call (Value.builtin "len") [Value.ref _]) _ _ _); k_dflt (refine' len_tupI (by k_asm) (by with_reducible assumption) (by with_reducible assumption) (by omega) ?_; k_whole); intro _ _))
  k_with "execs cons" => ((k_dflt (refine execs_n (s := ‹Shared›) ?_); intro _; (try k_fold)))
  k_with "exec If BoolOp cons nil" => (((fail_if_success (with_reducible show wpAny _ _ _ (Cut _ _) _ _)); refine Hold.out ?_))
  k_with "out" => (repeat (first | (k_unfold; (try dsimp only)) | refine cut_ret ?_ | refine turn_ret ?_))
  k_with "go" => ((w_top off; repeat' (first | (k_unfold; (try dsimp only)) | walk1 | (dsimp only; walk1))))
  k_with "call ref" => (((with_reducible show wpAny _ _ (call (Value.ref 115) _ _) _ _ _); refine Hold.out ?_))
  k_with "eval ListComp" => ((k_here; refine Hold.out ?_))
  k_with "CompEnd" => (refine Hold.out ?_)
  k_with "CompSrc" => (refine Hold.out ?_)
  k_with "subscriptTail Name Slice ref ref" => (refine Hold.out ?_)
  k_with "call builtin:list.index" => (refine Hold.out ?_)
  k_with "execs cons" => (((with_reducible show wpAny _ _ (execs [Stmt.Return _ _] _) _ _ _); refine Hold.out ?_))
  k_with "compareOp NotEq ref ref" => (refine Hold.out ?_)
  k_with "compareOp Eq ref ref" => (refine Hold.out ?_)
  obtain ⟨sc, hsc⟩ : ∃ sc, sc = lawSc := ⟨_, rfl⟩
  obtain ⟨B, hB⟩ : ∃ B, B = lawB.drop 12 := ⟨_, rfl⟩
  unfold lawEnv
  rw [← hsc, ← hB]
  conv at hsc => rhs; whnf
  conv at hB => rhs; whnf
  subst hsc hB
  replace F := know (x := Str.ofString "turned") F m1
  replace F := know (x := Str.ofString "out") F m2
  walk_at "go"
  refine Hold.in ?_
  k_dflt (refine LCg.ListComp_U (F₀ := by k_asm) (by with_unfolding_all rfl) (by decide) (by rfl) (by decide) (by rfl) ?_)
  walk_at "go"
  refine Hold.in ?_
  k_dflt (refine krv_lit (zs := cellRefs cls2.reverse) (by k_asm) (by k_asm) (News.isList (by k_asm) (.head _)) (IsPart.int _ _) (by rw [List.toList_toArray]; exact List.map_reverse.symm) ?_ (by with_unfolding_all rfl) (by intro _; with_unfolding_all rfl) (by rw [sizeLine_eq, List.size_toArray, List.length_map]; omega))
  intro D1 h1 F N l1
  walk_at "go"
  refine Hold.in ?_
  k_here
  k_dflt (refine LCg.CompSrc.ledger (by rfl) (by k_asm) (by k_asm) (.head _) (by rw [sizeLine_eq, List.size_toArray, List.length_map, List.length_reverse]; omega) ?_)
  intro g'
  rw [List.size_toArray, List.length_map]
  refine comp_inv (WcJ cls2.reverse (fun c => us.getD ((pairsOf cls).idxOf (c.i, c.j)) Str.empty) _) ?_ ?_ ⟨rfl, .nil⟩
  · (try dsimp only)
    rintro i ys' _ hi ⟨rfl, hy'⟩ v I oI C oC D m₂ h tk E' hv hC hx F N off ne
    obtain ⟨c, hc, rfl, -⟩ := cell_at (cls := cls2.reverse) (by simpa using hv)
    have hcm : c ∈ cls2 := List.mem_reverse.mp (List.mem_of_getElem? hc)
    have hci := hin _ (List.mem_map_of_mem (f := fun c => (c.i, c.j)) hcm)
    have hlt := idx_lt hci
    have hlt2 : (pairsOf cls).idxOf (c.i, c.j) < us.length := by omega
    walk_at "go"
    (with_reducible rename News _ _ _ _ => N8)
    refine Hold.in (indexC (d := c) (cls := cls) N8 (by k_mem) (fun p hp => ?_) ?_ hci (by omega) (by show un + 3 + 1 < 9900; omega) ?_)
    · simp only [List.mem_cons, List.mem_append]; simp [hp]
    · simp only [List.mem_cons, List.mem_append]; simp [List.mem_map_of_mem (f := CellO.led) hcm]
    · intro t9 tk9
      walk_at "go"
      exact Hold.in (LCg.CompEnd.intro (by k_asm) (by k_asm) _ (by kcj_all) off (.inr ⟨_, .head _, rfl, _, rfl⟩) ⟨rfl, strs_snoc hy' hc⟩)
  · rintro ys' _ ⟨rfl, hy'⟩
    rw [List.take_length] at hy'
    rw [pairs_rev, List.map_map] at heq
    unfold LCg.FinE
    intro D3 h3 tk3 F N o1
    (try dsimp only)
    walk_at "go"
    (with_reducible rename News _ _ _ _ => N8)
    refine Hold.in (neStrs N8 (by k_mem) (by k_mem) ho (heq ▸ hy') (by show un + 3 < 9900; omega) ?_)
    walk_at "go"
    (with_reducible rename Fr _ _ _ _ => F9)
    (with_reducible rename News _ _ _ _ => N9)
    rw [know2 m1 m2] at F9
    exact Hold.in (hnext _ _ F9 (news_sub N9 fun p hp => by simp only [List.mem_cons, List.mem_append]; simp [hp]))
end
section
variable {w : World} {lo : List Str} {mean : ExcName → Option Value} {mg mb : Str → Option Value} {b₀ : Heap} {dp un : Nat} {fr : Option (List Env)} {gd : Option (List Code)} {s : Shared} {R : Result → Shared → Prop}
theorem two_swap {a b c d e f : Addr × Obj} {R : List (Addr × Obj)} : ∀ p ∈ [d, e, f] ++ ([a, b, c] ++ R), p ∈ [a, b, c, d, e, f] ++ R := fun p hp => by
  simp only [List.mem_append, List.mem_cons, List.not_mem_nil, or_false] at hp ⊢
  rcases hp with (h | h | h) | (h | h | h) | h <;> simp [h]
theorem two_swap' {a b c d e f : Addr × Obj} {R : List (Addr × Obj)} : ∀ p ∈ [a, b, c, d, e, f] ++ R, p ∈ [d, e, f] ++ ([a, b, c] ++ R) := fun p hp => by
  simp only [List.mem_append, List.mem_cons, List.not_mem_nil, or_false] at hp ⊢
  rcases hp with (h | h | h | h | h | h) | h <;> simp [h]
theorem LexTwo.tok1 {g : Heap} {L : Addr} {m : Str → Option Value} {h h' : Heap} {w : World} {c1 c2 : Lx} {l1 l' : Int} {v1 v' : Tok} {i1 j : Nat} {t1 t' : Tok} {e1 : Nat} {l2 : Int} {v2 : Tok} {i2 : Nat} {t2 : Tok} {e2 : Nat} {rest : List (Addr × Obj)} (X : LexTwo g L h w c1 c2 l1 v1 i1 t1 e1 l2 v2 i2 t2 e2 rest) (F : Fr g L h m) (E : Ends h h' [c1.d, c1.at_, c1.pb] (c1.mu w l' v' j t' [] e1)) :
    Fr g L h' m ∧ LexTwo g L h' w c1 c2 l' v' j t' e1 l2 v2 i2 t2 e2 rest := by
  obtain ⟨F2, N2⟩ := E.out (mu := c1.mu w l1 v1 i1 t1 [] e1) (rest := c2.mu w l2 v2 i2 t2 [] e2 ++ (c1.ro ++ (c2.ro ++ rest))) F X.N rfl ⟨⟨X.ap.dd.symm, X.ap.da.symm, X.ap.dp.symm, X.off.1⟩, ⟨X.ap.ad.symm, X.ap.aa.symm, X.ap.ap.symm, X.off.2.1⟩, ⟨X.ap.pd.symm, X.ap.pa.symm, X.ap.pp.symm, X.off.2.2.1⟩, trivial⟩
  exact ⟨F2, N2, X.ap, X.off, X.ok1, X.ok2⟩
theorem LexTwo.tok2 {g : Heap} {L : Addr} {m : Str → Option Value} {h h' : Heap} {w : World} {c1 c2 : Lx} {l1 l' : Int} {v1 v' : Tok} {i1 j : Nat} {t1 t' : Tok} {e1 : Nat} {l2 : Int} {v2 : Tok} {i2 : Nat} {t2 : Tok} {e2 : Nat} {rest : List (Addr × Obj)} (X : LexTwo g L h w c1 c2 l1 v1 i1 t1 e1 l2 v2 i2 t2 e2 rest) (F : Fr g L h m) (E : Ends h h' [c2.d, c2.at_, c2.pb] (c2.mu w l' v' j t' [] e2)) :
    Fr g L h' m ∧ LexTwo g L h' w c1 c2 l1 v1 i1 t1 e1 l' v' j t' e2 rest := by
  obtain ⟨F2, N2⟩ := E.out (mu := c2.mu w l2 v2 i2 t2 [] e2) (rest := c1.mu w l1 v1 i1 t1 [] e1 ++ (c1.ro ++ (c2.ro ++ rest))) F (news_sub X.N two_swap) rfl ⟨⟨X.ap.dd, X.ap.ad, X.ap.pd, X.off.2.2.2.1⟩, ⟨X.ap.da, X.ap.aa, X.ap.pa, X.off.2.2.2.2.1⟩, ⟨X.ap.dp, X.ap.ap, X.ap.pp, X.off.2.2.2.2.2.1⟩, trivial⟩
  exact ⟨F2, news_sub N2 two_swap', X.ap, X.off, X.ok1, X.ok2⟩
set_option maxRecDepth 100000 in
set_option maxHeartbeats 2000000 in
theorem law_s6 {g : Heap} {L fa : Nat} {cd : Value} {m : Str → Option Value} {Q : Flow → Shared → Prop} {E : Value → Shared → Prop} {c1 c2 : Lx} {text : List Nat} {fin : List Nat} {l1 l2 : Int} {v1 v2 t1 t2 tt : Tok} {i1 i2 e1 e2 : Nat} {ps : Array Value} {rest : List (Addr × Obj)}
    (X : (Mine.hd.heap_1 w.params).In g) (T : Top topProg lo mean mg mb g) (F : Fr g L s.heap m) (m1 : m (Str.ofString "file") = some (.ref c1.x)) (m2 : m (Str.ofString "line") = some (.ref c2.x)) (m3 : m (Str.ofString "text") = some (.str (S text) tt))
    (LT : LexTwo g L s.heap w c1 c2 l1 v1 i1 t1 e1 l2 v2 i2 t2 e2 ((138, tabObj ps) :: rest)) (x1 : c1.text.cps.toList.drop i1 = fin) (x2 : c2.text.cps.toList = []) (hfin : TTo fin [] []) (hl : l1 + nls fin = 1 + nls text) (ht : text.length ≤ 1000000) (hps : TriplesOk ps.toList)
    (hd : dp + 98 < recursionLimit) (hu : un < 1000)
    (hnext : ∀ h' tk' m' ps, Fr g L h' m' → News g L h' [(138, tabObj ps)] → TriplesOk ps.toList → Q (.ret (.bool true)) { s with heap := h', toks := tk' }) :
    wpAny (model P w) (Around.deeper (Ar dp fr gd un) (lawEnv L fa cd)) (execs (lawB.drop 13) (lawEnv L fa cd)) Q E s := by
  k_with_none
  k_with "exec For Name Attribute cons nil" => (k_dflt (refine for_exec ?_))
  k_with "exec For Name Name cons nil" => (k_dflt (refine for_exec ?_))
  k_with "exec For Name Call cons nil" => (k_dflt (refine for_exec ?_))
  k_with "call type:tuple" => ((k_here; (with_reducible show wpAny _ _ (call (Value.type _) [Value.ref _]) _ _ _); k_dflt (refine' tupleOf_c (by k_asm) (by k_asm) (by k_mem) (by ((have hL9 := IntsAre.length (by assumption)); rw [sizeLine_eq]; omega)) ?_; k_whole); intro _ _ _ _ l19q; (try k_lt l19q); (try k_sweep)))
  k_with "call builtin:len" => ((k_here; (with_reducible show wpAny _ _ (call (Value.builtin "len") [Value.ref _]) _ _ _); k_dflt (refine' len_tupI (by k_asm) (by with_reducible assumption) (by with_reducible assumption) (by omega) ?_; k_whole); intro _ _))
  k_with "execs cons" => ((k_dflt (refine execs_n (s := ‹Shared›) ?_); intro _; (try k_fold)))
  k_with "exec If BoolOp cons nil" => (((fail_if_success (with_reducible show wpAny _ _ _ (Cut _ _) _ _)); refine Hold.out ?_))
  k_with "out" => (repeat (first | (k_unfold; (try dsimp only)) | refine cut_ret ?_ | refine turn_ret ?_))
  k_with "go" => ((w_top off; repeat' (first | (k_unfold; (try dsimp only)) | walk1 | (dsimp only; walk1))))
  k_with "call ref" => (((with_reducible show wpAny _ _ (call (Value.ref 115) _ _) _ _ _); refine Hold.out ?_))
  k_with "compareOp Eq ref ref" => (refine Hold.out ?_)
  k_with "call builtin:str.count" => (refine Hold.out ?_)
  obtain ⟨sc, hsc⟩ : ∃ sc, sc = lawSc := ⟨_, rfl⟩
  obtain ⟨B, hB⟩ : ∃ B, B = lawB.drop 13 := ⟨_, rfl⟩
  unfold lawEnv
  rw [← hsc, ← hB]
  conv at hsc => rhs; whnf
  conv at hB => rhs; whnf
  subst hsc hB
  replace F := know (x := Str.ofString "text") F m3
  replace F := know (x := Str.ofString "line") F m2
  replace F := know (x := Str.ofString "file") F m1
  have N := LT.N
  have gx1 := LT.N _ (List.mem_append_right _ (List.mem_append_left _ (.head _)))
  walk_at "go"
  (with_reducible rename Fr _ _ _ _ => F1)
  (with_reducible rename News _ _ _ _ => N1)
  replace LT := LT.at N1
  refine Hold.in (wpAny_call (tokB_c (c := c1) ⟨X, T⟩ (Fr.keep F1) (led_of N1 fun p hp => List.mem_append_left _ (List.mem_append_left (c2.mu w l2 v2 i2 t2 [] e2) hp)) (fun p hp => (N1 p (List.mem_append_right _ (List.mem_append_left _ hp))).1) LT.ok1 (by show dp + 1 + 48 < _; omega) (x1 ▸ hfin) ?_))
  intro h4 tk4 v1' ti' j line' tv En1 hj hline
  obtain ⟨F2, LT2⟩ := LT.tok1 F1 En1
  clear F1 N1 LT En1
  have N := LT2.N
  dsimp only
  walk_at "go"
  (with_reducible rename Fr _ _ _ _ => F1)
  (with_reducible rename News _ _ _ _ => N1)
  replace LT := LT2.at N1
  refine Hold.in (wpAny_call (tokB_c (c := c2) (t := []) (r := []) ⟨X, T⟩ (Fr.keep F1) (led_of N1 fun p hp => List.mem_append_left _ (List.mem_append_right (c1.mu w line' v1' j ti' [] e1) hp)) (fun p hp => (N1 p (List.mem_append_right _ (List.mem_append_right _ (List.mem_append_left _ hp)))).1) LT.ok2 (by show dp + 1 + 48 < _; omega) (by rw [x2, List.drop_nil]; exact .eof) ?_))
  intro h5 tk5 v2' ti2' j2 line2' tv2 En2 hj2 hline2
  obtain ⟨F2, LT3⟩ := LT.tok2 F1 En2
  clear F1 N1 LT LT2 En2
  have N := LT3.N
  dsimp only
  walk_at "go"
  refine Hold.in (KXw.count (count_nl text) ?_)
  intro t9 k9
  walk_at "go"
  (with_reducible rename News _ _ _ _ => N1)
  refine Hold.in (eq3 N1 (by k_mem) (by k_mem) (by show un + 3 < 9900; omega) (eqS lit0.symm) (eqS lit0.symm) (eqI ?_) ?_)
  · rw [nls_nil] at hline; rw [x1] at hline; omega
  · walk_at "go"
    (with_reducible rename Fr _ _ _ _ => F9)
    (with_reducible rename News _ _ _ _ => N9)
    exact hnext _ _ _ ps F9 (news_sub N9 fun p hp => by cases List.mem_singleton.mp hp; simp) hps
end
section
variable {w : World} {lo : List Str} {mean : ExcName → Option Value} {mg mb : Str → Option Value} {b₀ : Heap} {dp un : Nat} {fr : Option (List Env)} {gd : Option (List Code)} {s : Shared} {R : Result → Shared → Prop}
local macro_rules | `(tactic| k_ne) => `(tactic| ((try dsimp only); exact ne_cell (by k_asm) (by k_mem) (by k_mem) (by assumption) (fun _ e => by cases e)))
local macro_rules | `(tactic| k_all) => `(tactic| (exact AllNe.mem (by with_reducible assumption)))
theorem led_s4 {x y : Addr × Obj} {F : List (Addr × Obj)} (hx : x ∈ F) (hy : y ∈ F) : ∀ p ∈ x :: y :: F, p ∈ F := fun p hp => by
  rcases List.mem_cons.mp hp with rfl | hp
  · exact hx
  · rcases List.mem_cons.mp hp with rfl | hp
    · exact hy
    · exact hp
theorem led_s5 {tL a b c e f tab x y : Addr × Obj} {C1 C2 T R1 R2 : List (Addr × Obj)} : ∀ p ∈ tL :: a :: b :: c :: e :: f :: (C1 ++ (C2 ++ (T ++ (R1 ++ (R2 ++ [tab]))))), p ∈ tL :: (C2 ++ (x :: y :: (T ++ (R1 ++ (R2 ++ (a :: b :: c :: tab :: x :: e :: f :: y :: C1)))))) := by
  simp only [List.mem_cons, List.mem_append, List.not_mem_nil, or_false]
  rintro p (h | h | h | h | h | h | h | h | h | h | h | h) <;> simp [h]
set_option maxRecDepth 100000 in
set_option maxHeartbeats 2000000 in
theorem law_s1 {g : Heap} {L fa : Nat} {cd : Value} {m : Str → Option Value} {Q : Flow → Shared → Prop} {E : Value → Shared → Prop} {sl : Nat} {sv : List Value} {sc : List Int} {o1 o2 o3 o4 o5 o6 : Obj}
    (X : (Mine.hd.heap_1 w.params).In g) (T : Top topProg lo mean mg mb g) (F : Fr g L s.heap m)
    (N : News g L s.heap [(L + 1 + 1 + 1 + 1 + 1 + 1, o1), (L + 1 + 1 + 1 + 1 + 1, o2), (L + 1 + 1 + 1 + 1, o3), (L + 1 + 1 + 1, o4), (L + 1 + 1, o5), (L + 1, o6), (138, tabObj #[])])
    (d1 : o1.data = .cell none) (d2 : o2.data = .cell none) (d3 : o3.data = .cell none) (d4 : o4.data = .cell none) (d5 : o5.data = .cell none) (d6 : o6.data = .cell (some (.ref sl)))
    (hgl : g.IsList sl sv.toArray) (hv : IntsAre sv sc) (hln : sc.length ≤ 63) (hCg : CodeHd g 142 138) (l1 : 138 < L) (hd : dp + 98 < recursionLimit) (hu : un < 1000)
    (hnext : ∀ h' tk' m' ps, Fr g L h' m' → News g L h' [(138, tabObj ps)] → TriplesOk ps.toList → Q (.ret (.bool true)) { s with heap := h', toks := tk' }) :
    wpAny (model P w) (Around.deeper (Ar dp fr gd un) (lawEnv L fa cd)) (execs lawB (lawEnv L fa cd)) Q E s := by
  k_with_none
  k_with "exec For Name Attribute cons nil" => (k_dflt (refine for_exec ?_))
  k_with "exec For Name Name cons nil" => (k_dflt (refine for_exec ?_))
  k_with "exec For Name Call cons nil" => (k_dflt (refine for_exec ?_))
  k_with "call type:tuple" => ((k_here; (with_reducible show wpAny _ _ (call (Value.type _) [Value.ref _]) _ _ _); k_dflt (refine' tupleOf_c (by k_asm) (by k_asm) (by k_mem) (by ((have hL9 := IntsAre.length (by assumption)); rw [sizeLine_eq]; omega)) ?_; k_whole); intro _ _ _ _ l19q; (try k_lt l19q); (try k_sweep)))
  k_with "call builtin:len" => ((k_here; (with_reducible show wpAny _ _ (call (Value.builtin "len") [Value.ref _]) _ _ _); k_dflt (refine' len_tupI (by k_asm) (by with_reducible assumption) (by with_reducible assumption) (by omega) ?_; k_whole); intro _ _))
  k_with "execs cons" => ((k_dflt (refine execs_n (s := ‹Shared›) ?_); intro _; (try k_fold)))
  k_with "exec If BoolOp cons nil" => (((fail_if_success (with_reducible show wpAny _ _ _ (Cut _ _) _ _)); refine Hold.out ?_))
  k_with "out" => (repeat (first | (k_unfold; (try dsimp only)) | refine cut_ret ?_ | refine turn_ret ?_))
  k_with "go" => ((w_top off; repeat' (first | (k_unfold; (try dsimp only)) | walk1 | (dsimp only; walk1))))
  k_with "call ref" => ((first | (with_reducible show wpAny _ _ (call (Value.ref 148) _ _) _ _ _) | (with_reducible show wpAny _ _ (call (Value.ref 153) _ _) _ _ _) | (with_reducible show wpAny _ _ (call (Value.ref 158) _ _) _ _ _) | (with_reducible show wpAny _ _ (call (Value.ref 158) _ _) _ _ _)); refine Hold.out ?_)
  k_with "execs cons" => (((with_reducible show wpAny _ _ (execs [_, _, _, _, _, _, _, _] _) _ _ _); refine Hold.out ?_))
  k_with "eval ListComp" => ((k_here; refine Hold.out ?_))
  k_with "exec Assign cons ListComp" => ((k_here; refine Hold.out ?_))
  k_with "CompEnd" => (refine Hold.out ?_)
  k_with "CompSrc" => (refine Hold.out ?_)
  k_with "call builtin:sum" => ((k_here; k_dflt (refine' sumPick (by k_asm) (by k_asm) (by rfl) (by k_mem) (by assumption) ?_; k_whole); intro _ _ _ _ _ _; (try k_sweep)))
  obtain ⟨scc, hsc⟩ : ∃ sc, sc = lawSc := ⟨_, rfl⟩
  obtain ⟨B, hB⟩ : ∃ B, B = lawB := ⟨_, rfl⟩
  unfold lawEnv
  rw [← hsc, ← hB]
  conv at hsc => rhs; whnf
  conv at hB => rhs; whnf
  subst hsc hB
  have hvl := hv.length
  walk_at "go"
  rename_i lF hF lF1 h8 o7 F N d7 tk8
  (rename (_ = Data.cell (some (Value.int _ _))) => dcount)
  obtain ⟨n, hn68, d5'⟩ := cell_count dcount
  clear dcount
  refine Hold.in ?_
  k_here
  k_dflt (refine LCg.Assign_ListComp_U (F₀ := by k_asm) (by rfl) (by with_unfolding_all rfl) (by with_unfolding_all rfl) (by decide) (by rfl) (by decide) (by rfl) (by rfl) (by rfl) ?_)
  walk_at "go"
  refine Hold.in ?_
  k_here
  k_dflt (refine LCg.CompSrc.range (by rfl) (by k_asm) (by k_asm) (by assumption) (by first | decide | rfl) (by first | rfl | decide) (by exact Nat.le_of_ble_eq_true rfl) ?_)
  intro g'
  refine comp_inv (FigJ _) ?_ ?_ ⟨rfl, [], .nil, rfl, fun _ h => nomatch h⟩
  · (try dsimp only)
    rintro i ys _ hi ⟨rfl, hy⟩ v I oI C oC D m₂ h tk E' ⟨tv, rfl⟩ hC hx F N off ne
    walk_at "go"
    exact Hold.in (LCg.CompEnd.intro (by k_asm) (by k_asm) _ (by kcj_all) off trivial (FigJ.next ⟨rfl, hy⟩))
  · rintro ys _ ⟨rfl, fs, hfs, hfl, hfb⟩
    have hfl8 : fs.length = 8 := hfl
    unfold LCg.FinA
    intro lG h9 tk9 F N oG
    (try dsimp only)
    walk_at "go"
    refine Hold.in (wpAny_call (row_c ⟨X, T⟩ (Fr.keep (by k_asm)) (News.isList (by k_asm) (.head _)) hfs (by omega) (by omega) (fun f hf => (hfb f hf).1) (by show dp + 1 + 28 < _; omega) ?_))
    intro h10 tk10 lN nv nc En hnv
    obtain ⟨F', N'⟩ := En.out (mu := []) (by k_asm) (by k_asm) rfl trivial
    clear F N
    simp only [List.cons_append, List.nil_append] at N'
    dsimp only
    walk_at "go"
    refine Hold.in (wpAny_call (cells_c ⟨X, T⟩ (Fr.keep (by k_asm)) (News.isList (by k_asm) (.head _)) hnv (Nat.le_trans (rowGo_le n _ _) (by omega)) (by show dp + 1 + 28 < _; omega) ?_))
    intro h11 tk11 Cl cls cc En2 hneC hcls
    obtain ⟨ns, hns⟩ : ∃ ns, ns = rowGo n (rangeKs 0 ((n : Int) - 0).toNat) fs := ⟨_, rfl⟩
    rw [← hns] at hnv hcls
    have hnsl : ns.length = n := by rw [hns]; exact rowGo_len _ _ _ (by omega)
    have hcl : cls.length = n := by rw [← hnsl, ← cells_len ns [], ← hcls, List.length_map]
    have hcb := cells_bd (by omega) hcls
    (with_reducible rename News _ _ _ _ => N1)
    have A3 := En2.allNe (p := (L + 1 + 1 + 1 + 1, _)) N1 (by k_mem)
    have A2 := En2.allNe (p := (L + 1 + 1 + 1 + 1 + 1, _)) N1 (by k_mem)
    have A1 := En2.allNe (p := (L + 1 + 1 + 1 + 1 + 1 + 1, _)) N1 (by k_mem)
    have A0 := En2.allNe (p := (138, _)) N1 (by k_mem)
    dsimp only at A0 A1 A2 A3
    obtain ⟨F2, N2⟩ := En2.out (mu := []) (by k_asm) N1 rfl trivial
    clear N1
    replace N2 := News.swap N2
    simp only [List.cons_append, List.nil_append] at N2
    dsimp only
    walk_at "go"
    (with_reducible rename News _ _ _ _ => N1)
    refine Hold.in (wpAny_call (leads_c (cls := cls) ⟨X, T⟩ (Fr.keep (by k_asm)) (led_of N1 (fun p hp => by repeat (first | exact hp | refine .tail _ ?_))) (News.isList N1 (by k_mem)) hneC (by omega) (by omega) hcb (Int.fmod_nonneg_of_pos _ (by decide)) (Int.fmod_lt_of_pos _ (by decide)) (by show dp + 1 + 28 < _; omega) ?_))
    intro h12 tk12 lD H W RN ovs eo hH hW hRN En3 hovs
    replace N1 := News.turn 11 N1
    simp only [List.drop_succ_cons, List.drop_zero, List.take_succ_cons, List.take_zero] at N1
    have hoff := fun q => cells_off N1 q
    replace hoff := hoff (by (repeat' (first | exact trivial | refine And.intro ?_ ?_)) <;> first | exact nopair_list | (intro u v e; cases e; done) | exact nopair_cell (by assumption))
    obtain ⟨F3, N3⟩ := En3.out (mu := cellsLed cls) (by k_asm) N1 rfl hoff
    simp only [List.cons_append, List.nil_append] at N3
    replace N3 := News.swap N3
    simp only [List.cons_append, List.nil_append] at N3
    dsimp only
    walk_at "go"
    clear hoff
    (with_reducible rename Fr _ _ _ _ => F9)
    (with_reducible rename News _ _ _ _ => N9)
    obtain ⟨oL, dL, NL⟩ : ∃ o : Obj, o.data = .cell (some (.ref lD)) ∧ News g L _ [(L + 1 + 1 + 1 + 1 + 1, o)] := ⟨_, by assumption, news_sub N9 (by kcj_all)⟩
    obtain ⟨oC, dC, NC⟩ : ∃ o : Obj, o.data = .cell (some (.ref Cl)) ∧ News g L _ [(L + 1 + 1 + 1 + 1, o)] := ⟨_, by assumption, news_sub N9 (by kcj_all)⟩
    obtain ⟨tn, oN, dN, NN⟩ : ∃ (tn : Tok) (o : Obj), o.data = .cell (some (.int n tn)) ∧ News g L _ [(L + 1 + 1, o)] := ⟨_, _, d5', news_sub N9 (by kcj_all)⟩
    have NB : News g L _ ((L + 1 + 1 + 1 + 1 + 1 + 1, o1) :: (138, tabObj #[]) :: (lG, LCg.lst ys) :: (lD, listOf ovs.toArray eo) :: (Cl, listOf (cellRefs cls).toArray cc) :: (lN, listOf nv.toArray nc) :: cellsLed cls) := news_sub N9 (by kcj_all)
    have NR := News.join (News.join (News.join NL NN) NC) NB
    have z1 := (NB _ (.head _)).1
    have z2 := (NB _ (.tail _ (.head _))).1
    have z3 := (NB _ (.tail _ (.tail _ (.tail _ (.tail _ (.head _)))))).1
    have z4 := (NB _ (.tail _ (.tail _ (.tail _ (.tail _ (.tail _ (.head _))))))).1
    have a6 : AllNe (L + 1 + 1 + 1 + 1 + 1 + 1) ((L + 1 + 1 + 1 + 1, oC) :: (Cl, listOf (cellRefs cls).toArray cc) :: (lN, listOf nv.toArray nc) :: cellsLed cls) := ⟨by show @Ne Nat _ _; omega, ne_obj z3 z1 (by rw [d1]; nofun), ne_obj z4 z1 (by rw [d1]; nofun), A1⟩
    have at8 : AllNe 138 ((L + 1 + 1 + 1 + 1, oC) :: (Cl, listOf (cellRefs cls).toArray cc) :: (lN, listOf nv.toArray nc) :: cellsLed cls) := ⟨by show @Ne Nat _ _; omega, ne_obj z3 z2 nofun, ne_obj z4 z2 nofun, A0⟩
    clear z1 z2 z3 z4
    clear N9 NL NN NC NB
    obtain ⟨fin, p1, p2, p3, p4⟩ := plain01 (n := n) hn68 hfl8 (fun f hf => (hfb f hf).1) (rest := sc.sum.fmod 2520) (Int.fmod_nonneg_of_pos _ (by decide)) hns hcls (cs2 := cellsOf (ns.reverse.map fun a => (n : Int) - 1 - a) []) rfl (H := H) (W := W) (RN := RN) (by rw [hH, List.map_map]; rfl) (by rw [hW, List.map_map]; rfl) hRN (ld := cls.map fun c => leadP ((n : Int) == 8) H W RN (sc.sum.fmod 2520) c.i c.j) (by rw [List.map_map]; rfl)
    obtain ⟨ld, hld⟩ : ∃ ld, ld = cls.map fun c => leadP ((n : Int) == 8) H W RN (sc.sum.fmod 2520) c.i c.j := ⟨_, rfl⟩
    rw [← hld] at p1 p4
    have hlen : ld.length = n := by rw [hld, List.length_map]; exact hcl
    have hH0 := max_bd (f := fun c => c.i) (b := 7) (hH ▸ maxL_mem (by rw [Ne, List.map_eq_nil_iff]; intro q; rw [q] at hcl; simp at hcl; omega)) (fun c hc => (hcb c hc).1)
    have hW0 := max_bd (f := fun c => c.j) (b := 7) (hW ▸ maxL_mem (by rw [Ne, List.map_eq_nil_iff]; intro q; rw [q] at hcl; simp at hcl; omega)) (fun c hc => (hcb c hc).2)
    have hR0 := run_bd hH0.1 hH0.2 hW0.1 hW0.2 hRN
    have hldb : ∀ x ∈ ld, x.length ≤ 1000 := by
      rw [hld]
      intro x hx
      obtain ⟨c, hc, rfl⟩ := List.mem_map.mp hx
      exact leadP_len hH0.1 hH0.2 hW0.1 hW0.2 hR0.1 hR0.2 (hcb c hc).1 (hcb c hc).2
    have hov : StrsAre ovs (ld.map S) := by rw [hld, List.map_map]; exact hovs
    clear hld hH0 hW0 hR0 hovs
    refine Hold.in (law_s2 (ld := ld) (n := n) (rest := (L + 1 + 1 + 1 + 1, oC) :: (Cl, listOf (cellRefs cls).toArray cc) :: (lN, listOf nv.toArray nc) :: cellsLed cls) X T F9 rfl (news_sub NR (by kcj_all)) d1 dL dN hfs hov hlen (by omega) hfl8 (fun f hf => (hfb f hf).1) hldb a6 at8 hCg l1 hd ?_)
    clear NR F9 a6 at8 hov dL
    intro h13 tk13 m3 c1 c2 v1 v2 t1 t2 ps wL ws ow tt F3 q1 q2 q3 q4 LT e1 e2 hps hws dW
    refine law_s3 (us := (wordsP 0 ld).map S) (fin := fin) (rest := (138, tabObj ps) :: (L + 1 + 1, oN) :: (L + 1 + 1 + 1 + 1, oC) :: (Cl, listOf (cellRefs cls).toArray cc) :: (lN, listOf nv.toArray nc) :: cellsLed cls) X T F3 q1 q2 (LT.sub (by kcj_all)) dW hws (by rw [e1]; exact p1) (by rw [List.length_map, wordsP_len]; omega) (words_nodup ld 0) (fun u hu' => by obtain ⟨x, hx, rfl⟩ := List.mem_map.mp hu'; rw [S_len]; exact Nat.le_trans (words_bd hldb 0 x hx) (by decide)) hd ?_
    clear LT F3
    intro h14 tk14 m4 out os eo l1' v1' i1' t1' e1' l2' v2' i2' t2' e2' F4 q5 q6 LT ho hdrop hline
    refine law_s4 (n := n) X T F4 ((q6 _ (by decide)).trans q4) (news_sub LT.N ?_ : News g L h14 ((L + 1 + 1, oN) :: (lN, listOf nv.toArray nc) :: (two w c1 c2 l1' v1' i1' t1' e1' l2' v2' i2' t2' [] e2' ++ (c1.ro ++ (c2.ro ++ ((out, listOf os.toArray eo) :: (wL, LCg.lst ws) :: (L + 1 + 1 + 1 + 1 + 1 + 1, ow) :: (138, tabObj ps) :: (L + 1 + 1, oN) :: (L + 1 + 1 + 1 + 1, oC) :: (Cl, listOf (cellRefs cls).toArray cc) :: (lN, listOf nv.toArray nc) :: cellsLed cls)))))) dN hnv (by omega) ?_ (by omega) hd ?_
    · exact led_s4 (List.mem_append_right _ (List.mem_append_right _ (List.mem_append_right _ (.tail _ (.tail _ (.tail _ (.tail _ (.head _)))))))) (List.mem_append_right _ (List.mem_append_right _ (List.mem_append_right _ (.tail _ (.tail _ (.tail _ (.tail _ (.tail _ (.tail _ (.tail _ (.head _)))))))))))
    · rw [hns]; exact rowGo_bd _ _ _ (fun k hk => ⟨(mem_rangeKs hk).1, (by have := (mem_rangeKs hk).2; omega)⟩) (by rw [rangeKs_length]; omega) (fun f hf => (hfb f hf).1)
    intro h15 tk15 m5 tL cls2 cc2 F5 q7 q8 N5 hcls2
    have hl2 : cls2.length = n := by
      have := congrArg List.length hcls2
      rw [cells_len, List.length_map, List.length_map, List.length_reverse] at this
      omega
    rw [← hcls2] at p3 p4
    refine law_s5 (cls := cls) (cls2 := cls2) X T F5 q7 ((q8 _ (by decide)).trans q5) (news_sub N5 ?_ : News g L h15 ((tL, listOf (cellRefs cls2).toArray cc2) :: (out, listOf os.toArray eo) :: (wL, LCg.lst ws) :: (L + 1 + 1 + 1 + 1 + 1 + 1, ow) :: (L + 1 + 1 + 1 + 1, oC) :: (Cl, listOf (cellRefs cls).toArray cc) :: (cellsLed cls ++ (cellsLed cls2 ++ (two w c1 c2 l1' v1' i1' t1' e1' l2' v2' i2' t2' [] e2' ++ (c1.ro ++ (c2.ro ++ [(138, tabObj ps)]))))))) dW dC hws ho (by rw [List.length_map, wordsP_len]; omega) (by omega) (by omega) p3 p4 hd hu ?_
    · exact led_s5
    clear N5
    intro h16 tk16 F6 N6
    exact law_s6 (rest := []) X T F6 ((q8 _ (by decide)).trans ((q6 _ (by decide)).trans q1)) ((q8 _ (by decide)).trans ((q6 _ (by decide)).trans q2)) ((q8 _ (by decide)).trans ((q6 _ (by decide)).trans q3)) ((LT.sub (rest' := [(138, tabObj ps)]) (by kcj_all)).at N6) hdrop (by rw [e2]; decide +kernel) p2 (by rw [hline, e1, wordsP_len]) (Nat.le_trans (written_len (fun x hx => Nat.le_trans (words_bd hldb 0 x hx) (by decide)) _) (by rw [wordsP_len]; omega)) hps hd hu hnext
end
theorem law_go {w : World} {lo : List Str} {mean : ExcName → Option Value} {mg mb : Str → Option Value} {dp un : Nat} {fr : Option (List Env)} {gd : Option (List Code)} {s : Shared} {h₁ : Heap} {tk : Nat} {g : Heap} {L fa : Nat} {cd : Value} {m : Str → Option Value} {Q : Flow → Shared → Prop} {E : Value → Shared → Prop} {sl : Nat} {sv : List Value} {sc : List Int} {o1 o2 o3 o4 o5 o6 : Obj}
    (X : (Mine.hd.heap_1 w.params).In g) (T : Top topProg lo mean mg mb g) (F : Fr g L h₁ m)
    (N : News g L h₁ [(L + 1 + 1 + 1 + 1 + 1 + 1, o1), (L + 1 + 1 + 1 + 1 + 1, o2), (L + 1 + 1 + 1 + 1, o3), (L + 1 + 1 + 1, o4), (L + 1 + 1, o5), (L + 1, o6), (138, tabObj #[])])
    (d1 : o1.data = .cell none) (d2 : o2.data = .cell none) (d3 : o3.data = .cell none) (d4 : o4.data = .cell none) (d5 : o5.data = .cell none) (d6 : o6.data = .cell (some (.ref sl)))
    (hgl : g.IsList sl sv.toArray) (hv : IntsAre sv sc) (hln : sc.length ≤ 63) (hCg : CodeHd g 142 138) (l1 : 138 < L) (hd : dp + 98 < recursionLimit) (hu : un < 1000)
    (hnext : ∀ h' tk' m' ps, Fr g L h' m' → News g L h' [(138, tabObj ps)] → TriplesOk ps.toList → Q (.ret (.bool true)) { s with heap := h', toks := tk' }) :
    wpAny (model P w) (Around.deeper (Ar dp fr gd un) (lawEnv L fa cd)) (execs lawB (lawEnv L fa cd)) Q E { s with heap := h₁, toks := tk } :=
  law_s1 X T F N d1 d2 d3 d4 d5 d6 hgl hv hln hCg l1 hd hu hnext
theorem list_ghost {h : Heap} {c : Addr} {a : Nat} {its : Array Value} (hl : h.IsList a its) (hT : TabsAt [(c, 138)] h) : (ghostOf h [(c, 138)]).IsList a its := by
  obtain ⟨o, e, k⟩ := hl
  refine ⟨o, hideAll_get _ e fun q => ?_, k⟩
  have h2 := (hT _ (.head _)).2
  rw [show a = 138 by simpa using q, h2] at e
  cases e
  exact absurd k.1 nofun
set_option maxRecDepth 100000 in
set_option maxHeartbeats 2000000 in
theorem fin_c : PySem.Challenge.rw_pe0167_01.Holds := by
  refine Mine.hd (by
    w_strict (k_go0; (all_goals try k_fold); (with_reducible rename Fr _ _ _ _ => F0); (with_reducible rename News _ _ _ _ => N0); (with_reducible rename Frag.In _ (ghostOf _ _) => X0); (with_reducible rename Top topProg _ _ _ _ _ => T0); (refine' law_go (dp := 1 + claimMargin) (un := 4) (fr := some []) (gd := some []) X0 T0 F0 N0 ?d1 ?d2 ?d3 ?d4 ?d5 ?d6 ?hgl ?hv ?hln ?hC ?l1 ?hd ?hu ?hnext); (case d1 => assumption); (case d2 => assumption); (case d3 => assumption); (case d4 => assumption); (case d5 => assumption); (case d6 => assumption); (case hgl => exact list_ghost (by assumption) (by assumption)); (case hv => assumption); (case hln => omega); (case hC => assumption); (case l1 => assumption); (case hd => decide); (case hu => decide); (case hnext => (intro h' tk' m' ps F N hps; dsimp only; k_steps))))
end Mine
theorem PySem.Challenge.cw_pe0167_01_holds : PySem.Challenge.rw_pe0167_01.Holds :=
  Mine.fin_c
