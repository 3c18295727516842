import PyProof.Rows.All
import Wide.All
import OpenK.AllK
import Wide.FinOn
import PySem.Challenge.RW_rs0177_01
open PySem PySem.W PyProof.Rows
set_option Elab.async false
section
set_option maxRecDepth 100000
theorem Mine.off_Hd : True := by
  w_top off
  trivial
open PySem PySem.W PyProof.Rows
namespace Mine
set_option maxHeartbeats 8000000
theorem both {A B C : Prop} (f : A → B → C) (h : A ∧ B) : C := f h.1 h.2
theorem left_boot {p q : Program} {loose : List Str} {Xt : Shared → Bool} {α : Type} {Yf : Shared → α} {Ya : World → α} {N : Nat} (row : String)
    (e : opening p = plainProg p.main.scope.names) (hN : Nat.ble 600 N = true) (f : ∀ s, fenceModules? p s = some s)
    (h : ∀ (b : Bool) (w : World) (os : OsState), (topFrom treeTable p (w.withFollow row b) N ⟨boot_heap (w.withFollow row b).params, Array.mk [], boot_drawn, boot_toks, os⟩).map (fun s => (openSeen q loose (importedModules p.main.body) Xt true s, Yf s)) =
      some (openGood q loose, Ya (w.withFollow row b))) : LeftO p q loose Xt Yf Ya N true := by
  have key : ∀ (b : Bool) (w : World), (openEnds treeTable p (w.withFollow row b) N).map (fun s => (openSeen q loose (importedModules p.main.body) Xt true s, Yf s)) = some (openGood q loose, Ya (w.withFollow row b)) := by
    intro b w
    obtain ⟨s, hs, hv⟩ := Option.map_eq_some_iff.mp (boot_open e hN f (w.withFollow row b))
    obtain ⟨sh, sg, sd, st, os⟩ := s
    simp only [Prod.mk.injEq] at hv
    obtain ⟨rfl, rfl, rfl, rfl⟩ := hv
    unfold openEnds
    rw [hs]
    exact h b w os
  intro w
  have := key (w.params.followText row) w
  rwa [World.withFollow_self] at this
local macro_rules
  | `(tactic| refine $f:ident $args*) => do
    if f.getId.eraseMacroScopes != `PySem.W.holds_open then Lean.Macro.throwUnsupported
    let e : Lean.Term := ⟨Lean.Syntax.mkApp f args⟩
    let (l, c, k) := (Lean.mkIdent `hl, Lean.mkIdent `hc, Lean.mkIdent `hk)
    `(tactic| (refine ($e); (case' $l:ident => refine' And.left ?$k); (case' $c:ident => exact And.right ?$k)))
open_top hd for PySem.Challenge.rw_rs0177_01
end Mine
end
section
set_option maxRecDepth 100000
theorem Mine.off_Left : True := by
  w_top off
  trivial
open PySem PySem.W PyProof.Rows
namespace Mine
set_option maxHeartbeats 8000000
noncomputable def Half {W C : Prop} {p q : Program} {loose : List Str} {Xt : Shared → Bool} {α : Type} {Yf : Shared → α} {Ya : World → α} {N : Nat}
    (_ : LeftO p q loose Xt Yf Ya N true ∧ W → C) (row : String) (b : Bool) : Prop :=
  ∀ (w : World) (os : OsState), (topFrom treeTable p (w.withFollow row b) N ⟨boot_heap (w.withFollow row b).params, Array.mk [], boot_drawn, boot_toks, os⟩).map (fun s => (openSeen q loose (importedModules p.main.body) Xt true s, Yf s)) =
      some (openGood q loose, Ya (w.withFollow row b))
noncomputable def Head {W C : Prop} {p q : Program} {loose : List Str} {Xt : Shared → Bool} {α : Type} {Yf : Shared → α} {Ya : World → α} {N : Nat}
    (_ : LeftO p q loose Xt Yf Ya N true ∧ W → C) : Prop := opening p = plainProg p.main.scope.names ∧ Nat.ble 600 N = true ∧ ∀ s, fenceModules? p s = some s
theorem half_0 : Half Mine.hd "special-get-raises" false := by intro w os; kernel_rfl
theorem half_1 : Half Mine.hd "special-get-raises" true := by intro w os; kernel_rfl
theorem opens : Head Mine.hd := ⟨by kernel_rfl, by kernel_rfl, fun s => by kernel_rfl⟩
theorem behind {W C : Prop} {p q : Program} {loose : List Str} {Xt : Shared → Bool} {α : Type} {Yf : Shared → α} {Ya : World → α} {N : Nat}
    (hd : LeftO p q loose Xt Yf Ya N true ∧ W → C) (row : String) (o : Head hd) (h0 : Half hd row false) (h1 : Half hd row true) (x : W) : C :=
  hd ⟨left_boot row o.1 o.2.1 o.2.2 (fun b w os => by cases b; exact h0 w os; exact h1 w os), x⟩
end Mine
end
section
set_option maxRecDepth 100000
theorem Mine.off_Base : True := by
  w_top off
  trivial
open PySem PySem.W PyProof.Rows PySem.Calls
namespace Mine

abbrev PR : Program := PySem.Challenge.rw_rs0177_01.row.prog

/-- all that stood in h and is not in T stands in h' -/
noncomputable def Keep (T : List Addr) (h h' : Heap) : Prop := ∀ b o, b ∉ T → h.get? b = some o → h'.get? b = some o

theorem Keep.nil {h h' : Heap} (k : Keep [] h h') : ∀ b o, h.get? b = some o → h'.get? b = some o := fun b o e => k b o (fun h => nomatch h) e
theorem Keep.trans {T : List Addr} {h h' h'' : Heap} (k : Keep T h h') (k' : Keep T h' h'') : Keep T h h'' := fun b o hb e => k' b o hb (k b o hb e)
theorem Keep.refl {T : List Addr} {h : Heap} : Keep T h h := fun _ _ _ e => e

/-- what a call asks of where it stands: the ground's facts, no exception in hand, room for n calls -/
structure Gx (w : World) (g : Heap) (A : Around) (n : Nat) : Prop where
  X : (hd.heap_39 w.params).In g
  T : ∃ p loose mean mg mb, Top p loose mean mg mb g
  C : CodeHd g 34 30 ∧ CodeHd g 41 37 ∧ CodeHd g 123 119 ∧ CodeHd g 156 152
  hh : A.handled = none
  room : A.depth + n < recursionLimit
  units : A.units + 8 * n < cLine

theorem Gx.keeps {w : World} {g g' : Heap} {A : Around} {n : Nat} (G : Gx w g A n) (k : g.StaysIn g') : Gx w g' A n :=
  ⟨G.X.keeps k, let ⟨a, b, c, d, e, t⟩ := G.T; ⟨a, b, c, d, e, t.keeps k⟩, ⟨G.C.1.keeps k, G.C.2.1.keeps k, G.C.2.2.1.keeps k, G.C.2.2.2.keeps k⟩, G.hh, G.room, G.units⟩
theorem Gx.less {w : World} {g : Heap} {A : Around} {n m : Nat} (G : Gx w g A n) (h : m ≤ n) : Gx w g A m :=
  ⟨G.X, G.T, G.C, G.hh, by have := G.room; (first | lia | omega), by have := G.units; (first | lia | omega)⟩
theorem Gx.deep {w : World} {g : Heap} {A : Around} {n : Nat} {env : Env} (G : Gx w g A (n + 1)) : Gx w g (A.deeper env) n :=
  ⟨G.X, G.T, G.C, G.hh, by have := G.room; simp only [depth_deeper]; (first | lia | omega), by have := G.units; simp only [units_deeper]; (first | lia | omega)⟩

section
variable {w : World} {g : Heap} {s : Shared} {A : Around} {Q : Value → Shared → Prop} {E : Value → Shared → Prop}
  {name qual : Str} {params : Arguments} {body : List Stmt} {scope : Scope} {dV kV doc pm cdv ct oc : Value} {an od : Option Addr} {osl : Array (Option Value)} {f : Addr} {pos : List Value} {kw : List (Str × Value)} {binds : List (Str × Value)}
  {n : Nat} {cl : List (Str × Addr)} {fo : Obj}

theorem hide_base (st : g.StaysIn s.heap) {T : List (Addr × Obj)} (hT : ∀ q ∈ T, s.heap.get? q.1 = some q.2 ∧ g.get? q.1 = none) :
    g.StaysIn (hideAll s.heap (T.map (·.1))) := fun b o e =>
  hideAll_get _ (st b o e) fun q => by
    obtain ⟨p, hp, rfl⟩ := List.mem_map.mp q
    rw [(hT p hp).2] at e; cases e

/-- a def's call (no cells of its own; it may close over some): T is the ledger that its body may change, all else stands in base -/
theorem enterX (G : Gx w g A (n + 1)) (st : g.StaysIn s.heap)
    (T : List (Addr × Obj)) (hT : ∀ q ∈ T, s.heap.get? q.1 = some q.2 ∧ g.get? q.1 = none)
    (ho : s.heap.get? f = some fo) (hdt : fo.data = .func (fnX name qual params body scope cl dV kV doc pm an cdv ct)) (hcd : s.heap.CodeRec cdv qual)
    (hbind : BindsTo s (fnX name qual params body scope cl dV kV doc pm an cdv ct) ⟨pos, kw⟩ binds) (hloc : ∀ y ∈ binds, scope.names.lookup y.1 = some .local)
    (h : ∀ base L h₁, g.StaysIn base → base.StaysIn s.heap → (∀ b o, b ∉ T.map (·.1) → s.heap.get? b = some o → base.get? b = some o) →
      Fr base L h₁ (fun y => binds.reverse.lookup y) → News base L h₁ T → (hd.heap_39 w.params).In base → (∃ p loose mean mg mb, Top p loose mean mg mb base) → Gx w base (A.deeper (envX qual scope L f cdv cl)) n → (∀ q ∈ T, q.1 < L) → L = s.heap.objs.size →
      wpAny (model PR w) (A.deeper (envX qual scope L f cdv cl)) (execs body (envX qual scope L f cdv cl))
        (fun fl s' => Q (match fl with | .ret v => v | _ => .none) s') (fun _ _ => False) { s with heap := h₁, toks := s.toks + binds.length })
    (hco : scope.isCoroutine = false) (hgen : scope.isGenerator = false) (hk : scope.kind = .function)
    (hcell : ∀ x ∈ scope.names, x.2 ≠ .cell) :
    wpAny (model PR w) A (call (.ref f) pos kw) Q E s := by
  have hb := hide_base st hT
  have Gb := G.keeps hb
  obtain ⟨_, _, _, _, _, TT⟩ := G.T
  have hroom : A.depth < recursionLimit := by have := G.room; (first | lia | omega)
  refine wpAny_call (codeAny_call_def (fd := fnX name qual params body scope cl dV kV doc pm an cdv ct) (body := body) (binds := binds) hroom ho hdt (TT.nolimit.keeps st)
    hcd rfl hbind hcell hloc (fun h₁ hns hk₁ => ?_) hco hgen hk)
  refine wpAny_mono (wpAny_noRaise (h (hideAll s.heap (T.map (·.1))) s.heap.objs.size h₁ hb (fun b o e => of_hideAll _ e) (fun b o hn e => hideAll_get _ e hn) ⟨hns, fun b o e => hk₁ b o (of_hideAll _ e), Nat.le_of_eq (hideAll_size _ _)⟩
    (fun q hq => ⟨hk₁ _ _ (hT q hq).1, Nat.ne_of_lt (Heap.lt_size (hT q hq).1), hideAll_none _ (List.mem_map_of_mem hq)⟩) Gb.X Gb.T Gb.deep (fun q hq => Heap.lt_size (hT q hq).1) rfl)) (fun _ _ x => x) fun _ _ x => x

/-- a def of the text's top -/
theorem enter (G : Gx w g A (n + 1)) (st : g.StaysIn s.heap)
    (T : List (Addr × Obj)) (hT : ∀ q ∈ T, s.heap.get? q.1 = some q.2 ∧ g.get? q.1 = none)
    (ho : (hd.heap_39 w.params).lookup f = some ⟨oc, od, .func (fnOf name qual params body scope dV kV doc pm an cdv ct), osl⟩) (hcd : codeIn (hd.heap_39 w.params) cdv qual = true)
    (hbind : BindsTo s (fnOf name qual params body scope dV kV doc pm an cdv ct) ⟨pos, kw⟩ binds) (hloc : ∀ y ∈ binds, scope.names.lookup y.1 = some .local)
    (h : ∀ base L h₁, g.StaysIn base → base.StaysIn s.heap → (∀ b o, b ∉ T.map (·.1) → s.heap.get? b = some o → base.get? b = some o) →
      Fr base L h₁ (fun y => binds.reverse.lookup y) → News base L h₁ T → (hd.heap_39 w.params).In base → (∃ p loose mean mg mb, Top p loose mean mg mb base) → Gx w base (A.deeper (envOf qual scope L f cdv)) n → (∀ q ∈ T, q.1 < L) → L = s.heap.objs.size →
      wpAny (model PR w) (A.deeper (envOf qual scope L f cdv)) (execs body (envOf qual scope L f cdv))
        (fun fl s' => Q (match fl with | .ret v => v | _ => .none) s') (fun _ _ => False) { s with heap := h₁, toks := s.toks + binds.length })
    (hco : scope.isCoroutine = false) (hgen : scope.isGenerator = false) (hk : scope.kind = .function)
    (hcell : ∀ x ∈ scope.names, x.2 ≠ .cell) :
    wpAny (model PR w) A (call (.ref f) pos kw) Q E s :=
  enterX (cl := []) G st T hT (G.X.keeps st _ _ ho) rfl (codeRec_of (G.X.keeps st) hcd) hbind hloc h hco hgen hk hcell

/-- a def of the text's top that has cells -/
theorem enterC (G : Gx w g A (n + 1)) (st : g.StaysIn s.heap)
    (T : List (Addr × Obj)) (hT : ∀ q ∈ T, s.heap.get? q.1 = some q.2 ∧ g.get? q.1 = none)
    (ho : (hd.heap_39 w.params).lookup f = some ⟨oc, od, .func (fnOf name qual params body scope dV kV doc pm an cdv ct), osl⟩) (hcd : codeIn (hd.heap_39 w.params) cdv qual = true)
    (hbind : BindsTo s (fnOf name qual params body scope dV kV doc pm an cdv ct) ⟨pos, kw⟩ binds)
    (hkind : (binds.all fun y => scope.names.lookup y.1 == some .local || scope.names.lookup y.1 == some .cell) = true)
    (hnd : ((cellsFrom 0 scope.names []).map (·.1)).Nodup)
    (h : ∀ base L h₁ tk cells, g.StaysIn base → base.StaysIn s.heap → (∀ b o, b ∉ T.map (·.1) → s.heap.get? b = some o → base.get? b = some o) →
      Fr base L h₁ (bindL (envOfC qual scope L f cdv).kindOf binds fun _ => none) → News base L h₁ (cells ++ T) →
      CellsAre (bindC (envOfC qual scope L f cdv).kindOf binds fun _ => none) (cellsFrom (L + 1) scope.names []) cells →
      (hd.heap_39 w.params).In base → (∃ p loose mean mg mb, Top p loose mean mg mb base) → Gx w base (A.deeper (envOfC qual scope L f cdv)) n → (∀ q ∈ T, q.1 < L) → L = s.heap.objs.size →
      wpAny (model PR w) (A.deeper (envOfC qual scope L f cdv)) (execs body (envOfC qual scope L f cdv))
        (fun fl s' => Q (match fl with | .ret v => v | _ => .none) s') (fun _ _ => False) { s with heap := h₁, toks := tk })
    (hco : scope.isCoroutine = false) (hgen : scope.isGenerator = false) (hk : scope.kind = .function) :
    wpAny (model PR w) A (call (.ref f) pos kw) Q E s := by
  have hb := hide_base st hT
  have Gb := G.keeps hb
  obtain ⟨_, _, _, _, _, TT⟩ := G.T
  have hroom : A.depth < recursionLimit := by have := G.room; (first | lia | omega)
  refine wpAny_call (codeAny_call_function hroom (G.X.keeps st _ _ ho) rfl hco hgen rfl (codeRec_of (G.X.keeps st) hcd) (hbind _ _ _ _ ?_))
  refine wpAny_newFunctionEnv_cells hk (kindsX hkind _) fun env' he s' x => ?_
  subst he
  refine ⟨(TT.nolimit.keeps st).keeps x.toInCall.keep, codeAny_func ?_⟩
  obtain ⟨h₁, tk, rfl, _⟩ := x.done
  have hk₁ := x.toInCall.keep
  obtain ⟨cells, NC, Y⟩ := Cl.news (h₀ := s.heap) (Nat.le_refl _) fun n c hm => ⟨x.cell n c (lookup_of_mem_nodup (cellsFrom_names scope.names 0 (s.heap.objs.size + 1) [] [] rfl ▸ hnd) hm), x.above n c hm⟩
  refine wpAny_mono (wpAny_noRaise (h (hideAll s.heap (T.map (·.1))) s.heap.objs.size h₁ tk cells hb (fun b o e => of_hideAll _ e) (fun b o hn e => hideAll_get _ e hn) ⟨x.toInCall.ns, fun b o e => hk₁ b o (of_hideAll _ e), Nat.le_of_eq (hideAll_size _ _)⟩ (fun q hq => ?_) Y Gb.X Gb.T Gb.deep (fun q hq => Heap.lt_size (hT q hq).1) rfl)) (fun _ _ x => x) fun _ _ x => x
  rcases List.mem_append.mp hq with hq | hq
  · refine ⟨(NC q hq).1, (NC q hq).2.1, ?_⟩
    cases e : (hideAll s.heap (T.map (·.1))).get? q.1 with
    | none => rfl
    | some o => have := of_hideAll _ e; rw [(NC q hq).2.2] at this; cases this
  · exact ⟨hk₁ _ _ (hT q hq).1, Nat.ne_of_lt (Heap.lt_size (hT q hq).1), hideAll_none _ (List.mem_map_of_mem hq)⟩

/-- a lambda's call -/
theorem enterL {body : Expr} (G : Gx w g A (n + 1)) (st : g.StaysIn s.heap)
    (ho : s.heap.get? f = some fo) (hdt : fo.data = .func (kla_fn name qual params body scope cl pm cdv ct)) (hcd : s.heap.CodeRec cdv qual)
    (hbind : bindArgs (kla_fn name qual params body scope cl pm cdv ct) ⟨pos, kw⟩ = pure binds) (hloc : ∀ y ∈ binds, scope.names.lookup y.1 = some .local)
    (h : ∀ base L h₁, g.StaysIn base → base.StaysIn s.heap → s.heap.StaysIn base →
      Fr base L h₁ (fun y => binds.reverse.lookup y) → News base L h₁ [] → (hd.heap_39 w.params).In base → (∃ p loose mean mg mb, Top p loose mean mg mb base) → Gx w base (A.deeper (envX qual scope L f cdv cl)) n → L = s.heap.objs.size →
      wpAny (model PR w) (A.deeper (envX qual scope L f cdv cl)) (eval body (envX qual scope L f cdv cl))
        (fun v s' => Q v s') (fun _ _ => False) { s with heap := h₁, toks := s.toks + binds.length })
    (hco : scope.isCoroutine = false) (hgen : scope.isGenerator = false) (hk : scope.kind = .function)
    (hcell : ∀ x ∈ scope.names, x.2 ≠ .cell) :
    wpAny (model PR w) A (call (.ref f) pos kw) Q E s := by
  have Gb := G.keeps st
  obtain ⟨_, _, _, _, _, TT⟩ := G.T
  have hroom : A.depth < recursionLimit := by have := G.room; (first | lia | omega)
  refine wpAny_call (kla_callFunE hroom ho hdt hco hgen rfl hcd ?_)
  rw [hbind]
  refine wpAny_pure (wpAny_newFunctionEnv hcell hloc (fun h₁ hns hsb => ⟨(TT.nolimit.keeps st).fresh _ hsb, ?_⟩) hk)
  show codeAny _ _ (.expr body (envX qual scope s.heap.objs.size f cdv cl)) _ _
  have hk₁ : ∀ b o, s.heap.get? b = some o → h₁.get? b = some o := fun b o e => hsb.extBut b o (Nat.ne_of_lt (Heap.lt_size e)) (Heap.get?_push_of_some _ e)
  exact kla_codeExpr (wpAny_mono (wpAny_noRaise (h s.heap s.heap.objs.size h₁ st (fun _ _ e => e) (fun _ _ e => e) ⟨hns, hk₁, Nat.le_refl _⟩ News.nil Gb.X Gb.T Gb.deep rfl)) (fun _ _ x => x) fun _ _ x => x)
end

/-- the frame and a ledger behind a call that leaves all but T standing -/
theorem fr_keep {h₀ h h' : Heap} {L : Addr} {m : Str → Option Value} {T : List Addr} (F : Fr h₀ L h m) (k : Keep T h h') (hL : L ∉ T) (hT : ∀ a ∈ T, h₀.get? a = none) : Fr h₀ L h' m := by
  obtain ⟨oL, es, ep, hoL, r⟩ := F.ns
  exact ⟨⟨oL, es, ep, k _ _ hL hoL, r⟩, fun b o e => k b o (fun q => by rw [hT b q] at e; cases e) (F.keep b o e), F.above⟩
theorem fr_keep0 {h₀ h h' : Heap} {L : Addr} {m : Str → Option Value} (F : Fr h₀ L h m) (k : Keep [] h h') : Fr h₀ L h' m := fr_keep F k (fun h => nomatch h) (fun _ h => nomatch h)
theorem news_keep0 {h₀ h h' : Heap} {L : Addr} {news : List (Addr × Obj)} (N : News h₀ L h news) (k : Keep [] h h') : News h₀ L h' news := fun q hq => ⟨k _ _ (fun h => nomatch h) (N q hq).1, (N q hq).2⟩
theorem news_add {h₀ h h' : Heap} {L a : Addr} {o : Obj} {m : Str → Option Value} {news : List (Addr × Obj)} (F : Fr h₀ L h m) (N : News h₀ L h' news) (ho : h'.get? a = some o) (ha : h.get? a = none) : News h₀ L h' ((a, o) :: news) := by
  obtain ⟨oL, es, ep, hoL, r⟩ := F.ns
  intro q hq
  rcases List.mem_cons.mp hq with rfl | hq
  · refine ⟨ho, fun e => ?_, ?_⟩
    · have e' : a = L := e
      rw [e', hoL] at ha; cases ha
    · cases e : h₀.get? a with
      | none => rfl
      | some o' => rw [F.keep _ _ e] at ha; cases ha
  · exact N q hq
theorem apart_of {h₀ h : Heap} {L a : Addr} {news : List (Addr × Obj)} (N : News h₀ L h news) (ha : h.get? a = none) : ∀ q ∈ news, q.1 ≠ a := fun q hq e => by
  rw [← e, (N q hq).1] at ha; cases ha
theorem fresh_of {base h h' : Heap} {L r : Addr} {o : Obj} {T : List Addr} {news : List (Addr × Obj)} (b2 : ∀ b o, b ∉ T → h.get? b = some o → base.get? b = some o) (N : News base L h' news) (hm : (r, o) ∈ news) (hT : r ∉ T) : h.get? r = none := by
  cases e : h.get? r with
  | none => rfl
  | some o' => have := b2 _ _ hT e; rw [(N _ hm).2.2] at this; cases this
theorem keep_of {base h h' : Heap} {L : Addr} {m : Str → Option Value} {T : List Addr} (b2 : ∀ b o, b ∉ T → h.get? b = some o → base.get? b = some o) (F : Fr base L h' m) : Keep T h h' := fun b o hn e => F.keep b o (b2 b o hn e)

theorem keep_all {base h h' : Heap} {L : Addr} {m : Str → Option Value} {T news : List (Addr × Obj)} (b2 : ∀ b o, b ∉ T.map (·.1) → h.get? b = some o → base.get? b = some o) (F : Fr base L h' m) (N : News base L h' news)
    (hT : ∀ q ∈ T, h.get? q.1 = some q.2) (sub : ∀ q ∈ T, q ∈ news) : Keep [] h h' := fun b o _ e => by
  by_cases hb : b ∈ T.map (·.1)
  · obtain ⟨q, hq, rfl⟩ := List.mem_map.mp hb
    rw [hT q hq] at e; cases e
    exact (N q (sub q hq)).1
  · exact F.keep _ _ (b2 b o hb e)

theorem keep_but {base h h' : Heap} {L : Addr} {m : Str → Option Value} {T news : List (Addr × Obj)} {P : List Addr} (b2 : ∀ b o, b ∉ T.map (·.1) → h.get? b = some o → base.get? b = some o) (F : Fr base L h' m) (N : News base L h' news)
    (hT : ∀ q ∈ T, h.get? q.1 = some q.2) (sub : ∀ q ∈ T, q.1 ∉ P → q ∈ news) : Keep P h h' := fun b o hP e => by
  by_cases hb : b ∈ T.map (·.1)
  · obtain ⟨q, hq, rfl⟩ := List.mem_map.mp hb
    rw [hT q hq] at e; cases e
    exact (N q (sub q hq hP)).1
  · exact F.keep _ _ (b2 b o hb e)
theorem sub_tail {l : Addr} {o o' : Obj} {rest : List (Addr × Obj)} : ∀ q ∈ (l, o) :: rest, q.1 ∉ [l] → q ∈ (l, o') :: rest := fun q hq hn => by
  rcases List.mem_cons.mp hq with rfl | hq
  · exact absurd (List.mem_singleton.mpr rfl) hn
  · exact .tail _ hq
theorem none_sub {g b : Heap} {a : Addr} (k : g.StaysIn b) (h : b.get? a = none) : g.get? a = none := by
  cases e : g.get? a with
  | none => rfl
  | some o => rw [k _ _ e] at h; cases h
theorem all5 {l a1 a2 a3 a4 a5 : Addr} {o1 o2 o3 o4 o5 : Obj} (h1 : a1 ≠ l) (h2 : a2 ≠ l) (h3 : a3 ≠ l) (h4 : a4 ≠ l) (h5 : a5 ≠ l) : ∀ q ∈ [(a1, o1), (a2, o2), (a3, o3), (a4, o4), (a5, o5)], q.1 ≠ l := by
  intro q hq
  simp only [List.mem_cons, List.not_mem_nil, or_false] at hq
  rcases hq with rfl | rfl | rfl | rfl | rfl <;> assumption
theorem all3 {l a1 a2 a3 : Addr} {o1 o2 o3 : Obj} (h1 : a1 ≠ l) (h2 : a2 ≠ l) (h3 : a3 ≠ l) : ∀ q ∈ [(a1, o1), (a2, o2), (a3, o3)], q.1 ≠ l := by
  intro q hq
  simp only [List.mem_cons, List.not_mem_nil, or_false] at hq
  rcases hq with rfl | rfl | rfl <;> assumption
theorem news_upd {h₀ h h' : Heap} {L l : Addr} {o o' : Obj} {rest : List (Addr × Obj)} (N : News h₀ L h ((l, o) :: rest)) (k : Keep [l] h h') (ho : h'.get? l = some o') (hne : ∀ q ∈ rest, q.1 ≠ l) : News h₀ L h' ((l, o') :: rest) := by
  intro q hq
  rcases List.mem_cons.mp hq with rfl | hq
  · exact ⟨ho, (N (l, o) (.head _)).2⟩
  · have n := N q (.tail _ hq)
    exact ⟨k _ _ (fun hm => hne q hq (List.mem_singleton.mp hm)) n.1, n.2⟩
theorem fr_upd {h₀ h h' : Heap} {L l : Addr} {o : Obj} {m : Str → Option Value} {news : List (Addr × Obj)} (F : Fr h₀ L h m) (N : News h₀ L h news) (hm : (l, o) ∈ news) (k : Keep [l] h h') : Fr h₀ L h' m :=
  fr_keep F k (fun hL => (N _ hm).2.1 (List.mem_singleton.mp hL).symm) (fun a ha => by rw [List.mem_singleton.mp ha]; exact (N _ hm).2.2)

/-- a function object -/
noncomputable def IsFnO (o : Obj) : Prop := ∃ oc od fd sl, o = ⟨oc, od, .func fd, sl⟩
theorem fnat_news {h₀ h : Heap} {L q : Addr} {o : Obj} {news : List (Addr × Obj)} (N : News h₀ L h news) (hm : (q, o) ∈ news) (ho : IsFnO o) : FnAt q h := by
  obtain ⟨oc, od, fd, sl, rfl⟩ := ho
  exact FnAt.of N hm

/-- a plain tuple, a plain list -/
abbrev tupO (vs : List Value) : Obj := { cls := .type "tuple", data := .seq vs.toArray }
abbrev lstO (vs : List Value) (n : Nat) : Obj := { cls := .type "list", data := .seq vs.toArray n }

theorem with_obj {P : Prop} {h : Heap} {a : Addr} {o : Obj} (e : h.get? a = some o) (k : ∀ fo, fo = o → h.get? a = some fo → P) : P := k o rfl e

theorem codeAmong_app {pos : Pos} (l t : List Value) (h : TriplesOk l) : codeAmong pos (l ++ t) = (codeAmong pos l).or (codeAmong pos t) := by
  fun_induction TriplesOk l with
  | case1 => simp [codeAmong]
  | case2 a _ b _ c rest ih =>
    simp only [List.cons_append, codeAmong]
    split
    · rfl
    · exact ih h
  | case3 => exact h.elim
theorem triples_app (l t : List Value) (h : TriplesOk l) (ht : TriplesOk t) : TriplesOk (l ++ t) := by
  fun_induction TriplesOk l with
  | case1 => exact ht
  | case2 a _ b _ c rest ih => exact ih h
  | case3 => exact h.elim

/-- a table of a def's inner codes: each tells a code of that name, and the codes stand in cs -/
structure TabOk (cs : List (Addr × Obj)) (qual : Str) (ps : Array Value) : Prop where
  tri : TriplesOk ps.toList
  code : ∀ pos v, codeAmong pos ps.toList = some v → ∃ c oc vs t, v = .ref c ∧ (c, oc) ∈ cs ∧ oc.data = .fields vs ∧ vs[1]? = some (.str qual t)
theorem TabOk.nil {cs : List (Addr × Obj)} {qual : Str} : TabOk cs qual #[] := ⟨True.intro, fun _ _ h => by cases h⟩
theorem TabOk.mono {cs cs' : List (Addr × Obj)} {qual : Str} {ps : Array Value} (x : TabOk cs qual ps) (h : ∀ p ∈ cs, p ∈ cs') : TabOk cs' qual ps :=
  ⟨x.tri, fun pos v e => let ⟨c, oc, vs, t, a, b, r⟩ := x.code pos v e; ⟨c, oc, vs, t, a, h _ b, r⟩⟩
theorem TabOk.push {cs : List (Addr × Obj)} {qual : Str} {ps : Array Value} (x : TabOk cs qual ps) {l c : Int} {t1 t2 : Tok} {c' : Addr} {oc : Obj} {vs : Array Value} {t : Tok} (hd : oc.data = .fields vs) (hv : vs[1]? = some (.str qual t)) :
    TabOk ((c', oc) :: cs) qual (ps ++ #[.int l t1, .int c t2, .ref c']) := by
  refine ⟨?_, fun pos v e => ?_⟩
  · simp only [Array.toList_append]
    exact triples_app _ _ x.tri True.intro
  · simp only [Array.toList_append] at e
    rw [codeAmong_app _ _ x.tri] at e
    cases e1 : codeAmong pos ps.toList with
    | some v' =>
      rw [e1] at e
      simp only [Option.some_or] at e
      cases e
      obtain ⟨c, oc, vs, t, a, b, r⟩ := x.code pos _ e1
      exact ⟨c, oc, vs, t, a, .tail _ b, r⟩
    | none =>
      rw [e1] at e
      simp only [Option.none_or, codeAmong] at e
      split at e
      · cases e
        exact ⟨c', oc, vs, t, rfl, .head _, hd, hv⟩
      · cases e

/-- no list, no tuple -/
noncomputable def NoSeq (o : Obj) : Prop := ∀ its n, o.data ≠ .seq its n
/-- an inner def is made: its code is made, or is found in the table -/
theorem nest_any {M : Model} {A : Around} {E : Value → Shared → Prop} {s : Shared} {h₀ : Heap} {L a c P : Addr} {m mg mb : Str → Option Value} {cn : Str} {cs : Scope} {ccd : Value} {cl : List (Str × Addr)} {news : List (Addr × Obj)} {g : Obj → List (Addr × Obj)}
    {p : Program} {loose : List Str} {mean : ExcName → Option Value} {name qual : Str} {params : Arguments} {body : List Stmt} {scope : Scope} {ps : Array Value} {pos : Pos} {firstLine : Nat} {clos : List (Str × Addr)} {cds : List (Addr × Obj)}
    {Q : Value → Shared → Prop} (F : Fr h₀ L s.heap m) (N : News h₀ L s.heap news) (T : Top p loose mean mg mb h₀) (C : CodeHd h₀ c P) (hcd : ccd = .ref c) (U : UpdF P (tabObj ps) news g)
    (tb : TabOk cds qual ps) (hcs : ∀ q ∈ cds, h₀.get? q.1 = some q.2) (hcl : closureFor scope (envX cn cs L a ccd cl) = pure clos)
    (h : ∀ f c' x ox ps' doc ctv h' tk, Fr h₀ L h' m → News h₀ L h' ((f, fnMade name qual params body scope clos doc ((mg "__name__").getD .none) c' ctv) :: (x, ox) :: g (tabObj ps')) →
      TabOk ((x, ox) :: cds) qual ps' → (∀ hh : Heap, h₀.StaysIn hh → hh.get? x = some ox → hh.CodeRec (.ref c') qual) → (∀ q ∈ news, q.1 < x) → (∀ q ∈ news, q.1 < f) → NoSeq ox → Q (.ref f) { s with heap := h', toks := tk }) :
    wpAny M A (makeFunction name qual params (.stmts body) scope (envX cn cs L a ccd cl) [] [] [] pos firstLine) Q E s := by
  cases e : codeAmong pos ps.toList with
  | none =>
    refine nest_K F N T C hcd U tb.tri e hcl fun f c' oc vs t ctv doc h' tk F' N' hd hv l1 l2 => ?_
    exact h f c' c' oc _ doc ctv h' tk F' N' (tb.push hd hv) (fun hh _ hx => ⟨c', oc, vs, t, rfl, hx, hd, hv⟩) l1 (fun q hq => Nat.lt_trans (l1 q hq) l2) (fun its n e => by rw [hd] at e; cases e)
  | some v =>
    obtain ⟨c', oc, vs, t, rfl, hm, hd, hv⟩ := tb.code pos v e
    obtain ⟨pre, post, e1, e2, e3, e4⟩ := U.split
    refine nestHit_K F N T C hcd (by rw [e1]; exact List.mem_append_right _ (.head _)) tb.tri e hcl fun f ctv doc h' tk F' N' l1 => ?_
    refine h f c' f (fnMade name qual params body scope clos doc ((mg "__name__").getD .none) c' ctv) ps doc ctv h' tk F' (fun q hq => N' q ?_) (tb.mono fun _ hp => .tail _ hp) (fun hh hk _ => ⟨c', oc, vs, t, rfl, hk _ _ (hcs _ hm), hd, hv⟩) l1 l1 (fun its n e => by cases e)
    rcases List.mem_cons.mp hq with rfl | hq
    · exact .head _
    · rcases List.mem_cons.mp hq with rfl | hq
      · exact .head _
      · rw [e2 (tabObj ps), ← e1] at hq; exact .tail _ hq

/-- the four tables and the codes that they tell -/
noncomputable def Tabs (tb : List (Addr × Obj)) : Prop := ∃ a b c d cs, tb = (30, tabObj a) :: (37, tabObj b) :: (119, tabObj c) :: (152, tabObj d) :: cs ∧
  TabOk cs "_int2digits.<locals>.inner" a ∧ TabOk cs "_digits2int.<locals>.inner" b ∧ TabOk cs "_law_put.<locals>.<lambda>" c ∧ TabOk cs "_law_holds.<locals>.<lambda>" d ∧
  (∀ q ∈ cs, q.1 ∉ [30, 37, 119, 152]) ∧ ∀ q ∈ cs, NoSeq q.2

/-- what a call does that may make codes -/
structure After (tb tb' : List (Addr × Obj)) (h h' : Heap) : Prop where
  keep : Keep [30, 37, 119, 152] h h'
  tabs : Tabs tb'
  get : ∀ q ∈ tb', h'.get? q.1 = some q.2
  old : ∀ q ∈ tb', (∃ q0 ∈ tb, q0.1 = q.1) ∨ h.get? q.1 = none
  cods : ∀ q ∈ tb, q.1 ∉ [30, 37, 119, 152] → q ∈ tb'

/-- no table -/
noncomputable def NT (o : Obj) : Prop := ∀ ps, o ≠ tabObj ps
theorem NT.cls {o : Obj} (h : o.cls ≠ .none) : NT o := fun ps e => h (by rw [e])
theorem NT.cell {o : Obj} {v : Option Value} (h : o.data = .cell v) : NT o := fun ps e => by rw [e] at h; cases h
noncomputable def NTs : List (Addr × Obj) → Prop
  | [] => True
  | p :: r => NT p.2 ∧ NTs r
theorem NTs.all {l : List (Addr × Obj)} : NTs l → ∀ q ∈ l, NT q.2 := by
  induction l with
  | nil => intro _ q hq; cases hq
  | cons p r ih =>
    intro h q hq
    rcases List.mem_cons.mp hq with rfl | hq
    · exact h.1
    · exact ih h.2 q hq

theorem tabs_at {tb : List (Addr × Obj)} (T : Tabs tb) {a : Addr} (ha : a ∈ ([30, 37, 119, 152] : List Addr)) : ∃ ps, (a, tabObj ps) ∈ tb := by
  obtain ⟨a', b, c, d, cs, rfl, _⟩ := T
  simp only [List.mem_cons, List.not_mem_nil, or_false] at ha
  rcases ha with rfl | rfl | rfl | rfl
  · exact ⟨_, .head _⟩
  · exact ⟨_, .tail _ (.head _)⟩
  · exact ⟨_, .tail _ (.tail _ (.head _))⟩
  · exact ⟨_, .tail _ (.tail _ (.tail _ (.head _)))⟩
theorem After.refl {tb : List (Addr × Obj)} {h h' : Heap} (k : Keep [] h h') (T : Tabs tb) (g : ∀ q ∈ tb, h.get? q.1 = some q.2) : After tb tb h h' :=
  ⟨fun b o _ e => k b o (fun h => nomatch h) e, T, fun q hq => k _ _ (fun h => nomatch h) (g q hq), fun q hq => .inl ⟨q, hq, rfl⟩, fun _ h _ => h⟩
theorem After.trans {tb tb' tb'' : List (Addr × Obj)} {h h' h'' : Heap} (a : After tb tb' h h') (b : After tb' tb'' h' h'') : After tb tb'' h h'' := by
  refine ⟨a.keep.trans b.keep, b.tabs, b.get, fun q hq => ?_, fun q hq hn => b.cods q (a.cods q hq hn) hn⟩
  rcases b.old q hq with ⟨q0, hq0, e⟩ | e
  · rw [← e]; exact a.old q0 hq0
  · by_cases hm : q.1 ∈ ([30, 37, 119, 152] : List Addr)
    · obtain ⟨ps, hp⟩ := tabs_at a.tabs hm
      rw [a.get _ hp] at e; cases e
    · refine .inr ?_
      cases e' : h.get? q.1 with
      | none => rfl
      | some o => rw [a.keep _ _ hm e'] at e; cases e

theorem after_upd {tb tb' : List (Addr × Obj)} {h h' : Heap} {P x : Addr} {ps' : Array Value} {ox : Obj} (T : Tabs tb) (hs : ∀ q ∈ tb, h.get? q.1 = some q.2) (hPm : P ∈ ([30, 37, 119, 152] : List Addr)) (k : Keep [P] h h') (hP : h'.get? P = some (tabObj ps'))
    (hx : h'.get? x = some ox) (hxn : h.get? x = none) (T' : Tabs tb') (sub : ∀ q ∈ tb', q = (P, tabObj ps') ∨ q = (x, ox) ∨ (q ∈ tb ∧ q.1 ≠ P)) (cods : ∀ q ∈ tb, q.1 ∉ [30, 37, 119, 152] → q ∈ tb') : After tb tb' h h' := by
  refine ⟨fun b o hb e => k b o (fun hm => hb (List.mem_singleton.mp hm ▸ hPm)) e, T', fun q hq => ?_, fun q hq => ?_, cods⟩
  · rcases sub q hq with rfl | rfl | ⟨hq', hne⟩
    · exact hP
    · exact hx
    · exact k _ _ (fun hm => hne (List.mem_singleton.mp hm)) (hs q hq')
  · rcases sub q hq with rfl | rfl | ⟨hq', hne⟩
    · obtain ⟨ps, hp⟩ := tabs_at T hPm
      exact .inl ⟨_, hp, rfl⟩
    · exact .inr hxn
    · exact .inl ⟨q, hq', rfl⟩
theorem off_tables {h : Heap} {x : Addr} {tb : List (Addr × Obj)} (T : Tabs tb) (hs : ∀ q ∈ tb, h.get? q.1 = some q.2) (hxn : h.get? x = none) : x ∉ ([30, 37, 119, 152] : List Addr) := fun hm => by
  obtain ⟨ps, hp⟩ := tabs_at T hm
  rw [hs _ hp] at hxn; cases hxn

theorem aft_of {tb tb' news : List (Addr × Obj)} {base h h' : Heap} {L P x : Addr} {m : Str → Option Value} {ps' : Array Value} {ox : Obj} (T : Tabs tb) (hs : ∀ q ∈ tb, h.get? q.1 = some q.2) (hPm : P ∈ ([30, 37, 119, 152] : List Addr))
    (b2 : ∀ b o, b ∉ [P] → h.get? b = some o → base.get? b = some o) (F : Fr base L h' m) (N : News base L h' news) (m1 : (P, tabObj ps') ∈ news) (m2 : (x, ox) ∈ news) (hxP : P < x)
    (mk : x ∉ ([30, 37, 119, 152] : List Addr) → Tabs tb') (sub : ∀ q ∈ tb', q = (P, tabObj ps') ∨ q = (x, ox) ∨ (q ∈ tb ∧ q.1 ≠ P)) (cods : ∀ q ∈ tb, q.1 ∉ [30, 37, 119, 152] → q ∈ tb') : After tb tb' h h' := by
  have hxn : h.get? x = none := fresh_of b2 N m2 (fun hm => absurd hxP (by rw [List.mem_singleton.mp hm]; exact Nat.lt_irrefl _))
  exact after_upd T hs hPm (keep_of b2 F) (N.get m1) (N.get m2) hxn (mk (off_tables T hs hxn)) sub cods

/-- what a call that may make codes has done, at its end -/
theorem after_done {tb tb' news : List (Addr × Obj)} {base h h' : Heap} {L : Addr} {m : Str → Option Value} (T : Tabs tb)
    (b2 : ∀ b o, b ∉ tb.map (·.1) → h.get? b = some o → base.get? b = some o) (hs : ∀ q ∈ tb, h.get? q.1 = some q.2) (F : Fr base L h' m) (N : News base L h' news) (T' : Tabs tb') (sub : ∀ q ∈ tb', q ∈ news)
    (cods : ∀ q ∈ tb, q.1 ∉ [30, 37, 119, 152] → q ∈ tb') : After tb tb' h h' := by
  refine ⟨fun b o hb e => ?_, T', fun q hq => (N q (sub q hq)).1, fun q hq => ?_, cods⟩
  · by_cases hm : b ∈ tb.map (·.1)
    · obtain ⟨q, hq, rfl⟩ := List.mem_map.mp hm
      rw [hs q hq] at e; cases e
      exact (N q (sub q (cods q hq hb))).1
    · exact F.keep _ _ (b2 b o hm e)
  · by_cases hm : q.1 ∈ tb.map (·.1)
    · obtain ⟨q0, hq0, e⟩ := List.mem_map.mp hm
      exact .inl ⟨q0, hq0, e⟩
    · refine .inr ?_
      cases e : h.get? q.1 with
      | none => rfl
      | some o => have := b2 _ _ hm e; rw [(N q (sub q hq)).2.2] at this; cases this
/-- a list or tuple that a call made is new -/
theorem fresh_seq {tb tb' news : List (Addr × Obj)} {base h h' : Heap} {L r : Addr} {o : Obj} {its : Array Value} {k : Nat} (T : Tabs tb) (T' : Tabs tb')
    (b2 : ∀ b o, b ∉ tb.map (·.1) → h.get? b = some o → base.get? b = some o) (N : News base L h' news) (sub : ∀ q ∈ tb', q ∈ news) (cods : ∀ q ∈ tb, q.1 ∉ [30, 37, 119, 152] → q ∈ tb')
    (hm : (r, o) ∈ news) (ho : o.data = .seq its k) : h.get? r = none := by
  refine fresh_of b2 N hm fun hr => ?_
  obtain ⟨q, hq, e⟩ := List.mem_map.mp hr
  have e : q.1 = r := e
  have hN := (N _ hm).1
  by_cases ht : q.1 ∈ ([30, 37, 119, 152] : List Addr)
  · obtain ⟨ps, hp⟩ := tabs_at T' ht
    have := (N _ (sub _ hp)).1
    rw [e] at this
    have h2 := hN.symm.trans this
    cases h2; cases ho
  · have := (N _ (sub _ (cods q hq ht))).1
    rw [e] at this
    have h2 := Option.some.inj (hN.symm.trans this)
    obtain ⟨a, b, c, d, cs, rfl, _, _, _, _, _, hseq⟩ := T
    have hq2 : q ∈ cs := by
      simp only [List.mem_cons] at hq
      rcases hq with rfl | rfl | rfl | rfl | hq
      · exact absurd (by simp) ht
      · exact absurd (by simp) ht
      · exact absurd (by simp) ht
      · exact absurd (by simp) ht
      · exact hq
    exact hseq q hq2 its k (by rw [← h2]; exact ho)

theorem after_fr {h₀ h h' : Heap} {L : Addr} {m : Str → Option Value} {tb tb' lits : List (Addr × Obj)} (F : Fr h₀ L h m) (N : News h₀ L h (lits ++ tb)) (hT : Tabs tb) (x : After tb tb' h h') : Fr h₀ L h' m :=
  fr_keep F x.keep (fun hL => by obtain ⟨ps, hp⟩ := tabs_at hT hL; exact (N _ (List.mem_append_right _ hp)).2.1 rfl)
    (fun a ha => by obtain ⟨ps, hp⟩ := tabs_at hT ha; exact (N _ (List.mem_append_right _ hp)).2.2)
theorem after_news {h₀ h h' : Heap} {L : Addr} {m : Str → Option Value} {tb tb' lits : List (Addr × Obj)} (F : Fr h₀ L h m) (N : News h₀ L h (lits ++ tb)) (hT : Tabs tb) (x : After tb tb' h h') (hl : NTs lits) : News h₀ L h' (lits ++ tb') := by
  intro q hq
  rcases List.mem_append.mp hq with hq | hq
  · have n := N q (List.mem_append_left _ hq)
    refine ⟨x.keep _ _ (fun hm => ?_) n.1, n.2⟩
    obtain ⟨ps, hp⟩ := tabs_at hT hm
    have e := (N _ (List.mem_append_right _ hp)).1
    rw [n.1] at e
    exact hl.all _ hq ps (Option.some.inj e)
  · rcases x.old q hq with ⟨q0, h0, e⟩ | e
    · have n := N q0 (List.mem_append_right _ h0)
      rw [e] at n
      exact ⟨x.get q hq, n.2⟩
    · refine ⟨x.get q hq, fun eL => ?_, ?_⟩
      · obtain ⟨oL, es, ep, hoL, r⟩ := F.ns
        rw [eL, hoL] at e; cases e
      · cases e' : h₀.get? q.1 with
        | none => rfl
        | some o' => rw [F.keep _ _ e'] at e; cases e

theorem size_lt_of_new {h₀ h : Heap} {L a : Addr} {o : Obj} {news : List (Addr × Obj)} (N : News h₀ L h news) (hm : (a, o) ∈ news) : h.get? a = some o := (N _ hm).1
end Mine
end
section
set_option maxRecDepth 100000
theorem Mine.off_L1 : True := by
  w_top off
  trivial
open PySem.Builtin.Int
open PySem PySem.W PyProof.Rows PySem.Calls
namespace Mine
theorem pow2_le {a b : Nat} (h : a ≤ b) : (2 : Int) ^ a ≤ 2 ^ b := by exact_mod_cast Nat.pow_le_pow_right (n := 2) (by decide) h
/-- n figures of x at a time, the lowest first: k of them -/
noncomputable def digsN (n : Nat) : Nat → Int → List Int
  | 0, _ => []
  | k + 1, x => x % 2 ^ n :: digsN n k (x / 2 ^ n)
theorem digsN_length (n : Nat) : ∀ k x, (digsN n k x).length = k
  | 0, _ => rfl
  | k + 1, x => by simp [digsN, digsN_length n k]

theorem emod_mul_split (x : Int) {a b : Int} (ha : 0 < a) (hb : 0 < b) : x % (a * b) = x % a + a * (x / a % b) := by
  have h1 := Int.emod_nonneg x (Int.ne_of_gt ha)
  have h2 := Int.emod_lt_of_pos x ha
  have h3 := Int.emod_nonneg (x / a) (Int.ne_of_gt hb)
  have h4 := Int.emod_lt_of_pos (x / a) hb
  refine ((Int.ediv_emod_unique (q := x / a / b) (Int.mul_pos ha hb)).mpr ⟨?_, ?_, ?_⟩).2
  · have e1 := Int.emod_add_mul_ediv x a
    have e2 := Int.emod_add_mul_ediv (x / a) b
    have e3 : a * (x / a) = a * (x / a % b + b * (x / a / b)) := by rw [e2]
    rw [Int.mul_add, ← Int.mul_assoc] at e3
    first | lia | omega
  · have := Int.mul_nonneg (Int.le_of_lt ha) h3
    first | lia | omega
  · have : a * (x / a % b) ≤ a * (b - 1) := Int.mul_le_mul_of_nonneg_left (by (first | lia | omega)) (Int.le_of_lt ha)
    rw [Int.mul_sub] at this
    first | lia | omega

theorem digsN_split (n : Nat) (k : Nat) : ∀ (m : Nat) (x : Int), digsN n (m + k) x = digsN n m (x % 2 ^ (n * m)) ++ digsN n k (x / 2 ^ (n * m))
  | 0, x => by simp [digsN]
  | m + 1, x => by
    have hp : (0 : Int) < 2 ^ n := Int.pow_pos (by decide)
    have hq : (0 : Int) < 2 ^ (n * m) := Int.pow_pos (by decide)
    have e : (2 : Int) ^ (n * (m + 1)) = 2 ^ n * 2 ^ (n * m) := by rw [← Int.pow_add, show n + n * m = n * (m + 1) by rw [Nat.mul_add]; (first | lia | omega)]
    rw [show m + 1 + k = (m + k) + 1 by (first | lia | omega)]
    simp only [digsN, List.cons_append]
    rw [e, digsN_split n k m, emod_mul_split x hp hq, ← Int.ediv_ediv_of_nonneg (Int.le_of_lt hp)]
    have h1 := Int.emod_nonneg x (Int.ne_of_gt hp)
    have h2 := Int.emod_lt_of_pos x hp
    rw [Int.add_mul_emod_self_left, Int.emod_emod, Int.add_mul_ediv_left _ _ (Int.ne_of_gt hp), Int.ediv_eq_zero_of_lt h1 h2, Int.zero_add]
theorem digsN_one (n : Nat) {x : Int} (h0 : 0 ≤ x) (h1 : x < 2 ^ n) : digsN n 1 x = [x] := by
  simp only [digsN]
  rw [Int.emod_eq_of_lt h0 h1]

theorem xor_low {x : Int} (hx : 0 ≤ x) (k : Nat) : Builtin.bitXor x (x.fdiv (2 ^ k) * 2 ^ k) = x % 2 ^ k := by
  obtain ⟨m, rfl⟩ : ∃ m : Nat, x = m := ⟨x.toNat, by (first | lia | omega)⟩
  have hp : (0 : Int) < 2 ^ k := Int.pow_pos (by decide)
  have e0 : ((2 ^ k : Nat) : Int) = 2 ^ k := by push_cast; rfl
  have e1 : (m : Int).fdiv (2 ^ k) * 2 ^ k = ((m / 2 ^ k * 2 ^ k : Nat) : Int) := by
    rw [Int.fdiv_eq_ediv_of_nonneg _ (Int.le_of_lt hp), Int.natCast_mul, Int.natCast_ediv, e0]
  rw [e1, bitXor_and]
  have e2 : Builtin.bitAnd (m : Int) ((m / 2 ^ k * 2 ^ k : Nat) : Int) = ((m / 2 ^ k * 2 ^ k : Nat) : Int) := by
    unfold Builtin.bitAnd
    rw [decide_eq_true (by (first | lia | omega) : (0 : Int) ≤ (m : Int)), decide_eq_true (by (first | lia | omega) : (0 : Int) ≤ ((m / 2 ^ k * 2 ^ k : Nat) : Int))]
    simp only [Int.toNat_natCast]
    congr 1
    apply Nat.eq_of_testBit_eq
    intro i
    rw [Nat.testBit_and, ← Nat.shiftRight_eq_div_pow, ← Nat.shiftLeft_eq, Nat.testBit_shiftLeft, Nat.testBit_shiftRight]
    by_cases h : k ≤ i
    · simp only [h, decide_true, Bool.true_and, show k + (i - k) = i by (first | lia | omega), Bool.and_self]
    · simp [h]
  rw [e2]
  have e3 : ((m : Int)) % 2 ^ k = ((m % 2 ^ k : Nat) : Int) := by rw [Int.natCast_emod, e0]
  rw [e3]
  have := Nat.div_add_mod m (2 ^ k)
  rw [Nat.mul_comm] at this
  first | lia | omega

theorem take_set_drop (ds : List Int) {i : Nat} (h : i < ds.length) (x : Int) : ds.set i x = ds.take i ++ [x] ++ ds.drop (i + 1) := by
  rw [List.set_eq_take_append_cons_drop, if_pos h]
  simp
theorem cut_join (ds a b : List Int) {i m j : Nat} (h1 : i + a.length = m) (h2 : m + b.length = j) (h3 : j ≤ ds.length) :
    (ds.take i ++ a ++ ds.drop m).take m ++ b ++ (ds.take i ++ a ++ ds.drop m).drop j = ds.take i ++ (a ++ b) ++ ds.drop j := by
  have e1 : (ds.take i ++ a).length = m := by simp; (first | lia | omega)
  rw [List.take_append_of_le_length (by (first | lia | omega)), List.take_of_length_le (by (first | lia | omega)), List.drop_append, e1, List.drop_drop]
  rw [List.drop_of_length_le (by (first | lia | omega)), show m + (j - m) = j by (first | lia | omega)]
  simp
/-- digits put together, the lowest first -/
noncomputable def valD (n : Nat) : List Int → Int
  | [] => 0
  | d :: r => d + 2 ^ n * valD n r
theorem valD_append (n : Nat) (a b : List Int) : valD n (a ++ b) = valD n a + 2 ^ (n * a.length) * valD n b := by
  induction a with
  | nil => simp [valD]
  | cons d r ih =>
    simp only [List.cons_append, valD, ih, List.length_cons]
    rw [show n * (r.length + 1) = n + n * r.length by rw [Nat.mul_add]; (first | lia | omega), Int.pow_add, Int.mul_add, Int.mul_assoc]
    first | lia | omega
theorem valD_bounds (n : Nat) : ∀ ds : List Int, (∀ d ∈ ds, 0 ≤ d ∧ d < 2 ^ n) → 0 ≤ valD n ds ∧ valD n ds < 2 ^ (n * ds.length)
  | [], _ => by simp [valD]
  | d :: r, h => by
    obtain ⟨a, b⟩ := valD_bounds n r fun e he => h e (.tail _ he)
    obtain ⟨c, e⟩ := h d (.head _)
    have hp : (0 : Int) < 2 ^ n := Int.pow_pos (by decide)
    simp only [valD, List.length_cons]
    rw [show n * (r.length + 1) = n + n * r.length by rw [Nat.mul_add]; (first | lia | omega), Int.pow_add]
    have h1 : (2 : Int) ^ n * valD n r ≤ 2 ^ n * (2 ^ (n * r.length) - 1) := Int.mul_le_mul_of_nonneg_left (by (first | lia | omega)) (by (first | lia | omega))
    have h2 : (0 : Int) ≤ 2 ^ n * valD n r := Int.mul_nonneg (by (first | lia | omega)) a
    rw [Int.mul_sub] at h1
    constructor <;> (first | lia | omega)
theorem valD_cut (n : Nat) (ds : List Int) {i m j : Nat} (h1 : i ≤ m) (h2 : m ≤ j) (h3 : j ≤ ds.length) :
    valD n ((ds.drop i).take (j - i)) = valD n ((ds.drop i).take (m - i)) + 2 ^ (n * (m - i)) * valD n ((ds.drop m).take (j - m)) := by
  have e : (ds.drop i).take (j - i) = (ds.drop i).take (m - i) ++ (ds.drop m).take (j - m) := by
    rw [show j - i = (m - i) + (j - m) by (first | lia | omega), List.take_add, List.drop_drop, show i + (m - i) = m by (first | lia | omega)]
  rw [e, valD_append]
  simp only [List.length_take, List.length_drop]
  rw [show min (m - i) (ds.length - i) = m - i by (first | lia | omega)]
theorem valD_one (n : Nat) (ds : List Int) {i : Nat} (h : i < ds.length) : valD n ((ds.drop i).take 1) = ds.getD i 0 := by
  rw [List.drop_eq_getElem_cons h, List.take_succ_cons, List.take_zero, List.getD_eq_getElem?_getD, List.getElem?_eq_getElem h]
  simp [valD]


theorem digsN_get (n : Nat) : ∀ (k : Nat) (x : Int) (j : Nat), j < k → (digsN n k x)[j]? = some (x / 2 ^ (n * j) % 2 ^ n)
  | 0, _, _, h => absurd h (Nat.not_lt_zero _)
  | k + 1, x, 0, _ => by simp [digsN]
  | k + 1, x, j + 1, h => by
    have hp : (0 : Int) < 2 ^ n := Int.pow_pos (by decide)
    simp only [digsN, List.getElem?_cons_succ]
    rw [digsN_get n k _ j (by (first | lia | omega)), Int.ediv_ediv_of_nonneg (Int.le_of_lt hp), ← Int.pow_add, show n + n * j = n * (j + 1) by rw [Nat.mul_add]; (first | lia | omega)]

/-- one turn of the long division -/
theorem div_turn (n D i : Nat) (a b r : Int) (hi : i < D) (hb : 0 < b) (hr : r = a / 2 ^ (n * (D - i)) % b) :
    let d := a / 2 ^ (n * (D - 1 - i)) % 2 ^ n
    (r * 2 ^ n + d) % b = a / 2 ^ (n * (D - (i + 1))) % b ∧ (r * 2 ^ n + d) / b + 2 ^ n * (a / 2 ^ (n * (D - i)) / b) = a / 2 ^ (n * (D - (i + 1))) / b ∧
      0 ≤ (r * 2 ^ n + d) / b ∧ (r * 2 ^ n + d) / b < 2 ^ n ∧ 0 ≤ r * 2 ^ n + d ∧ 0 ≤ r ∧ r < b := by
  intro d
  have hp : (0 : Int) < 2 ^ n := Int.pow_pos (by decide)
  have h1 : 0 ≤ r := hr ▸ Int.emod_nonneg _ (Int.ne_of_gt hb)
  have h2 : r < b := hr ▸ Int.emod_lt_of_pos _ hb
  have h3 : 0 ≤ d := Int.emod_nonneg _ (Int.ne_of_gt hp)
  have h4 : d < 2 ^ n := Int.emod_lt_of_pos _ hp
  have e1 : D - (i + 1) = D - 1 - i := by (first | lia | omega)
  rw [e1]
  obtain ⟨y, hy⟩ : ∃ y, y = a / 2 ^ (n * (D - 1 - i)) := ⟨_, rfl⟩
  have e2 : a / 2 ^ (n * (D - i)) = y / 2 ^ n := by
    rw [hy, Int.ediv_ediv_of_nonneg (Int.le_of_lt (Int.pow_pos (by decide))), ← Int.pow_add, show n * (D - 1 - i) + n = n * (D - i) by rw [← Nat.mul_succ]; congr 1; (first | lia | omega)]
  rw [e2] at hr ⊢
  have hd : d = y % 2 ^ n := by rw [hy]
  rw [← hy]
  have e3 := Int.emod_add_mul_ediv y (2 ^ n)
  have e4 := Int.emod_add_mul_ediv (y / 2 ^ n) b
  have e5 : y = (r * 2 ^ n + d) + b * (2 ^ n * (y / 2 ^ n / b)) := by
    have : 2 ^ n * (y / 2 ^ n) = 2 ^ n * (y / 2 ^ n % b) + 2 ^ n * (b * (y / 2 ^ n / b)) := by rw [← Int.mul_add, e4]
    rw [← hr] at this
    rw [Int.mul_left_comm, ← Int.mul_comm (2 ^ n) r]
    first | lia | omega
  have h5 : 0 ≤ r * 2 ^ n := Int.mul_nonneg h1 (Int.le_of_lt hp)
  refine ⟨?_, ?_, Int.ediv_nonneg (by (first | lia | omega)) (Int.le_of_lt hb), ?_, by (first | lia | omega), h1, h2⟩
  · conv => rhs; rw [e5]
    rw [Int.add_mul_emod_self_left]
  · conv => rhs; rw [e5]
    rw [Int.add_mul_ediv_left _ _ (Int.ne_of_gt hb)]
  · refine Int.ediv_lt_of_lt_mul hb ?_
    have h6 : r * 2 ^ n ≤ (b - 1) * 2 ^ n := Int.mul_le_mul_of_nonneg_right (by (first | lia | omega)) (Int.le_of_lt hp)
    rw [Int.sub_mul, Int.mul_comm b] at h6
    first | lia | omega
end Mine
end
section
set_option maxRecDepth 100000
theorem Mine.off_Loops : True := by
  w_top off
  trivial
open PySem.Builtin.Int
open PySem PySem.W PyProof.Rows PySem.Calls
namespace Mine
section
variable {w : World} {A : Around} {s : Shared} {env : Env} {base : Heap} {Q : Flow → Shared → Prop} {E : Value → Shared → Prop}

/-- how a turn of a loop ends -/
noncomputable def Turn (base : Heap) (L : Addr) (wr : List Addr) (J : (Str → Option Value) → List (Addr × Obj) → Prop) (St : Heap → Prop) (s : Shared) (Q : Flow → Shared → Prop) (f : Flow) (s' : Shared) : Prop :=
  match f with
  | .ret v => Q (.ret v) s'
  | .brk => Q .next s'
  | _ => ∃ h' tk m' news', s' = { s with heap := h', toks := tk } ∧ Fr base L h' m' ∧ News base L h' news' ∧ J m' news' ∧ (∀ q ∈ news', q.1 ∉ wr) ∧ St h'

theorem Turn.next {L : Addr} {wr : List Addr} {J : (Str → Option Value) → List (Addr × Obj) → Prop} {St : Heap → Prop} {h' : Heap} {tk : Nat} {m' : Str → Option Value} {news' : List (Addr × Obj)}
    (F : Fr base L h' m') (N : News base L h' news') (j : J m' news') (hw : ∀ q ∈ news', q.1 ∉ wr) (hs : St h') : Turn base L wr J St s Q .next { s with heap := h', toks := tk } := ⟨h', tk, m', news', rfl, F, N, j, hw, hs⟩

theorem forW {x : Str} {px : Pos} {body orelse : List Stmt} {I : Addr} {fp wr : List Addr} {n : Nat} {P : Nat → Value → Prop} {St : Nat → Heap → Prop} {m : Str → Option Value} {news : List (Addr × Obj)}
    (W : Walks PR w A I fp wr n P St) (hx : env.kindOf x = some .local)
    (hp : (env.scope.kind == .class || (env.scope.kind == .module && env.locals != env.globals)) = false)
    (hLf : env.locals ∉ fp) (hwr : ∀ b ∈ wr, base.get? b = none) (hnw : ∀ q ∈ news, q.1 ∉ wr)
    (hst : St 0 s.heap) (F : Fr base env.locals s.heap m) (N : News base env.locals s.heap news)
    (J : Nat → (Str → Option Value) → List (Addr × Obj) → Prop) (h0 : J 0 m news)
    (step : ∀ i v m₁ news₁ h tk, i < n → P i v → J i m₁ news₁ → (∀ q ∈ news₁, q.1 ∉ wr) → St (i + 1) h →
      Fr base env.locals h (fun y => if y = x then some v else m₁ y) → News base env.locals h news₁ →
      wpAny (model PR w) A (execs body env) (Turn base env.locals wr (J (i + 1)) (St (i + 1)) { s with heap := h, toks := tk } Q) (fun _ _ => False) { s with heap := h, toks := tk })
    (done : ∀ m' news' h' tk', J n m' news' → Fr base env.locals h' m' → News base env.locals h' news' → wpAny (model PR w) A (execs orelse env) (fun f s' => Q f s') (fun _ _ => False) { s with heap := h', toks := tk' }) :
    codeAny (model PR w) A (.forLoop (.Name x px) (.ref I) body orelse env) (fun r s' => match r with | .ok f => Q f s' | .error e => cameBackBy (model PR w) A env E e s') s := by
  have hLw : env.locals ∉ wr := fun h => hLf (W.sub _ h)
  have old : ∀ b o, base.get? b = some o → b ∉ wr := fun b o e hb => by rw [hwr b hb] at e; cases e
  refine codeAny_forLoop
    (fun k s' => ∃ h' tk m' news' i, s' = { s with heap := h', toks := tk } ∧ St i h' ∧ Fr base env.locals h' m' ∧ News base env.locals h' news' ∧ (∀ q ∈ news', q.1 ∉ wr) ∧ J i m' news' ∧ i ≤ n ∧ k = n + 1 - i) ?_ (n + 1)
    ⟨s.heap, s.toks, m, news, 0, rfl, hst, F, N, hnw, h0, Nat.zero_le _, rfl⟩
  rintro k s' ⟨h', tk, m', news', i, rfl, hst', F', N', hnw', hJ, hi, rfl⟩
  have next : ∀ h₁ : Heap, (∀ b o, b ∉ wr → h'.get? b = some o → h₁.get? b = some o) → Fr base env.locals h₁ m' ∧ News base env.locals h₁ news' := fun h₁ hk₁ =>
    ⟨⟨F'.ns.at' fun o e => hk₁ _ o hLw e, fun b o e => hk₁ b o (old b o e) (F'.keep b o e), F'.above⟩, fun p hp => ⟨hk₁ _ _ (hnw' p hp) (N' p hp).1, (N' p hp).2⟩⟩
  by_cases hlt : i < n
  · refine W.item i _ _ _ hlt hst' fun v h₁ tk₁ hP hst₁ hk₁ => ?_
    obtain ⟨F₁, N₁⟩ := next h₁ hk₁
    refine wpAny_assign_Name (wpAny_storeName_local hx F₁.ns (fun h₂ hn₂ hs₂ => ?_) hp)
    have F₂ := F₁.set hn₂ hs₂
    have hst₂ : St (i + 1) h₂ := W.frame _ _ _ hst₁ fun b hb o e => (hs₂.2 b fun q => hLf (q ▸ hb)).trans e
    refine wpAny_mono (wpAny_noRaise (step i v m' news' h₂ _ hlt hP hJ hnw' hst₂ F₂ (N₁.set hs₂))) (fun f s₃ h₃ => ?_) fun _ _ e => e
    have fin : (∃ h' tk m' news', s₃ = { s with heap := h', toks := tk } ∧ Fr base env.locals h' m' ∧ News base env.locals h' news' ∧ J (i + 1) m' news' ∧ (∀ q ∈ news', q.1 ∉ wr) ∧ St (i + 1) h') →
        ∃ m_1, m_1 < n + 1 - i ∧ ∃ h' tk m' news' i, s₃ = { s with heap := h', toks := tk } ∧ St i h' ∧ Fr base env.locals h' m' ∧ News base env.locals h' news' ∧ (∀ q ∈ news', q.1 ∉ wr) ∧ J i m' news' ∧ i ≤ n ∧ m_1 = n + 1 - i := by
      rintro ⟨h₃', tk₃, m₂, news₂, rfl, F₃, N₃, hJ₃, ha₃, hs₃⟩
      exact ⟨n + 1 - (i + 1), by (first | lia | omega), h₃', tk₃, m₂, news₂, i + 1, rfl, hs₃, F₃, N₃, ha₃, hJ₃, hlt, rfl⟩
    cases f with
    | ret v => exact h₃
    | brk => exact h₃
    | next => exact fin h₃
    | cont => exact fin h₃
  · have hin : i = n := by (first | lia | omega)
    subst hin
    refine W.done _ _ _ hst' fun h₁ tk₁ hk₁ => ?_
    obtain ⟨F₁, N₁⟩ := next h₁ hk₁
    exact wpAny_mono (wpAny_noRaise (done m' news' h₁ tk₁ hJ F₁ N₁)) (fun _ _ e => e) fun _ _ e => e

theorem forU {xi xc : Str} {pk pv pt : Pos} {x1 : Nat} {body orelse : List Stmt} {I : Addr} {fp wr : List Addr} {n : Nat} {Pt : Nat → Array Value → Prop} {St : Nat → Heap → Prop} {Mid : Nat → Addr → Heap → Prop}
    {P2 : Nat → Value → Value → Prop} {m : Str → Option Value} {news : List (Addr × Obj)} (hh : A.handled = none) (W : WalksU PR w A I fp wr n Pt St Mid) (h2 : ∀ i vals, Pt i vals → ∃ v0 v1, vals = #[v0, v1] ∧ P2 i v0 v1)
    (hxi : env.kindOf xi = some .local) (hxc : env.kindOf xc = some .local)
    (hp : (env.scope.kind == .class || (env.scope.kind == .module && env.locals != env.globals)) = false)
    (hLf : env.locals ∉ fp) (hwr : ∀ b ∈ wr, base.get? b = none) (hnw : ∀ p ∈ news, p.1 ∉ wr)
    (hst : St 0 s.heap) (F : Fr base env.locals s.heap m) (N : News base env.locals s.heap news)
    (J : Nat → (Str → Option Value) → List (Addr × Obj) → Prop) (h0 : J 0 m news)
    (step : ∀ i v0 v1 m₁ news₁ h tk, i < n → P2 i v0 v1 → J i m₁ news₁ → (∀ q ∈ news₁, q.1 ∉ wr) → St (i + 1) h →
      Fr base env.locals h (fun y => if y = xc then some v1 else if y = xi then some v0 else m₁ y) → News base env.locals h news₁ →
      wpAny (model PR w) A (execs body env) (Turn base env.locals wr (J (i + 1)) (St (i + 1)) { s with heap := h, toks := tk } Q) (fun _ _ => False) { s with heap := h, toks := tk })
    (done : ∀ m' news' h' tk', J n m' news' → Fr base env.locals h' m' → News base env.locals h' news' → wpAny (model PR w) A (execs orelse env) (fun f s' => Q f s') (fun _ _ => False) { s with heap := h', toks := tk' }) :
    codeAny (model PR w) A (.forLoop (.Tuple [.Name xi pk, .Name xc pv] x1 pt) (.ref I) body orelse env) (fun r s' => match r with | .ok f => Q f s' | .error e => cameBackBy (model PR w) A env E e s') s := by
  have hLw : env.locals ∉ wr := fun h => hLf (W.sub _ h)
  have old : ∀ b o, base.get? b = some o → b ∉ wr := fun b o e hb => by rw [hwr b hb] at e; cases e
  refine codeAny_forLoop_any
    (fun k s' => ∃ h' tk m' news' i, s' = { s with heap := h', toks := tk } ∧ St i h' ∧ Fr base env.locals h' m' ∧ News base env.locals h' news' ∧ (∀ q ∈ news', q.1 ∉ wr) ∧ J i m' news' ∧ i ≤ n ∧ k = n + 1 - i) ?_ (n + 1)
    ⟨s.heap, s.toks, m, news, 0, rfl, hst, F, N, hnw, h0, Nat.zero_le _, rfl⟩
  rintro k s' ⟨H, tk, m', news', i, rfl, hst', F', N', hnw', hJ, hi, rfl⟩
  have next : ∀ h₁ : Heap, (∀ b o, b ∉ wr → H.get? b = some o → h₁.get? b = some o) → Fr base env.locals h₁ m' ∧ News base env.locals h₁ news' := fun h₁ hk₁ =>
    ⟨⟨F'.ns.at' fun o e => hk₁ _ o hLw e, fun b o e => hk₁ b o (old b o e) (F'.keep b o e), F'.above⟩, fun p hp => ⟨hk₁ _ _ (hnw' p hp) (N' p hp).1, (N' p hp).2⟩⟩
  by_cases hlt : i < n
  · refine W.item i _ _ _ hlt hst' fun T vals h₁ tk₁ hPt hT hMid hk₁ => ?_
    obtain ⟨v0, v1, rfl, hP2⟩ := h2 i vals hPt
    refine W.go _ x1 pt i T _ _ _ hMid fun h₂ hst₂ hk₂ => ?_
    have ht₂ : h₂.IsTuple T #[v0, v1] := hT.at fun o e => hk₂ T o (W.apart i T h₁ hMid) e
    refine wpAny_assign_Tuple hh ht₂ rfl rfl fun h₃ hx₃ => ?_
    replace hx₃ : Heap.ExtBut h₂.objs.size h₂ h₃ := hx₃
    have up₃ : ∀ b o, h₂.get? b = some o → h₃.get? b = some o := fun b o x => hx₃ b o (Nat.ne_of_lt (Heap.lt_size x)) x
    obtain ⟨F₃, N₃⟩ := next h₃ fun b o hb x => up₃ b o (hk₂ b o hb (hk₁ b o hb x))
    show wpAny _ A (do holding [v1] (assign (.Name xi pk) env v0); do holding [] (assign (.Name xc pv) env v1); pure ()) _ _ _
    refine wpAny_bind (wpAny_holding (wpAny_assign_Name (wpAny_storeName_local hxi F₃.ns (fun h₄ hn₄ hs₄ => ?_) hp)))
    replace hs₄ : Heap.SameBut env.locals h₃ h₄ := hs₄
    have F₄ := F₃.set hn₄ hs₄
    refine wpAny_bind (wpAny_holding (wpAny_assign_Name (wpAny_storeName_local hxc F₄.ns (fun h₅ hn₅ hs₅ => wpAny_pure ?_) hp)))
    replace hs₅ : Heap.SameBut env.locals h₄ h₅ := hs₅
    have F₅ := F₄.set hn₅ hs₅
    have N₅ : News base env.locals h₅ news' := (N₃.set hs₄).set hs₅
    have hst₅ : St (i + 1) h₅ := W.frame _ _ _ hst₂ fun b hb o e => hs₅.extBut b o (fun q => hLf (q ▸ hb)) (hs₄.extBut b o (fun q => hLf (q ▸ hb)) (up₃ b o e))
    refine wpAny_mono (wpAny_noRaise (step i v0 v1 m' news' h₅ _ hlt hP2 hJ hnw' hst₅ F₅ N₅)) (fun f s₃ h₆ => ?_) fun _ _ e => e
    have fin : (∃ h' tk m' news', s₃ = { s with heap := h', toks := tk } ∧ Fr base env.locals h' m' ∧ News base env.locals h' news' ∧ J (i + 1) m' news' ∧ (∀ q ∈ news', q.1 ∉ wr) ∧ St (i + 1) h') →
        ∃ m_1, m_1 < n + 1 - i ∧ ∃ h' tk m' news' i, s₃ = { s with heap := h', toks := tk } ∧ St i h' ∧ Fr base env.locals h' m' ∧ News base env.locals h' news' ∧ (∀ q ∈ news', q.1 ∉ wr) ∧ J i m' news' ∧ i ≤ n ∧ m_1 = n + 1 - i := by
      rintro ⟨h₃', tk₃, m₂, news₂, rfl, F₃, N₃, hJ₃, ha₃, hs₃⟩
      exact ⟨n + 1 - (i + 1), by (first | lia | omega), h₃', tk₃, m₂, news₂, i + 1, rfl, hs₃, F₃, N₃, ha₃, hJ₃, hlt, rfl⟩
    cases f with
    | ret v => exact h₆
    | brk => exact h₆
    | next => exact fin h₆
    | cont => exact fin h₆
  · have hin : i = n := by (first | lia | omega)
    subst hin
    refine W.done _ _ _ hst' fun h₁ tk₁ hk₁ => ?_
    obtain ⟨F₁, N₁⟩ := next h₁ hk₁
    exact wpAny_mono (wpAny_noRaise (done m' news' h₁ tk₁ hJ F₁ N₁)) (fun _ _ e => e) fun _ _ e => e
end

/-- how a turn of a while ends -/
noncomputable def TurnW (base : Heap) (L : Addr) (J : Nat → (Str → Option Value) → List (Addr × Obj) → Prop) (n : Nat) (s : Shared) (Q : Flow → Shared → Prop) (f : Flow) (s₃ : Shared) : Prop :=
  match f with
  | .ret v => Q (.ret v) s₃
  | .brk => Q .next s₃
  | _ => ∃ h' tk' m' news' n', s₃ = { s with heap := h', toks := tk' } ∧ Fr base L h' m' ∧ News base L h' news' ∧ n' < n ∧ J n' m' news'
theorem TurnW.next {s : Shared} {base : Heap} {Q : Flow → Shared → Prop} {L : Addr} {J : Nat → (Str → Option Value) → List (Addr × Obj) → Prop} {n n' : Nat} {h' : Heap} {tk' : Nat} {m' : Str → Option Value} {news' : List (Addr × Obj)}
    (F : Fr base L h' m') (N : News base L h' news') (hn : n' < n) (j : J n' m' news') : TurnW base L J n s Q .next { s with heap := h', toks := tk' } := ⟨h', tk', m', news', n', rfl, F, N, hn, j⟩

theorem whileW {w : World} {A : Around} {s : Shared} {env : Env} {base : Heap} {Q : Flow → Shared → Prop} {E : Value → Shared → Prop} {test : Expr} {body orelse : List Stmt} {m : Str → Option Value} {news : List (Addr × Obj)}
    (J : Nat → (Str → Option Value) → List (Addr × Obj) → Prop) (n : Nat) (h0 : J n m news) (F : Fr base env.locals s.heap m) (N : News base env.locals s.heap news)
    (turn : ∀ n m₁ news₁ h tk, J n m₁ news₁ → Fr base env.locals h m₁ → News base env.locals h news₁ →
      wpAny (model PR w) A (isTrue test env (eval test env)) (fun b s₂ =>
        if b then wpAny (model PR w) A (execs body env) (fun f s₃ => TurnW base env.locals J n s Q f s₃) (fun _ _ => False) s₂
        else wpAny (model PR w) A (execs orelse env) (fun f s' => Q f s') (fun _ _ => False) s₂) (fun _ _ => False) { s with heap := h, toks := tk }) :
    codeAny (model PR w) A (.whileLoop test body orelse env) (fun r s' => match r with | .ok f => Q f s' | .error e => cameBackBy (model PR w) A env E e s') s := by
  refine codeAny_whileLoop (fun k s' => ∃ h' tk m' news', s' = { s with heap := h', toks := tk } ∧ Fr base env.locals h' m' ∧ News base env.locals h' news' ∧ J k m' news') ?_ n ⟨s.heap, s.toks, m, news, rfl, F, N, h0⟩
  rintro k s' ⟨h', tk, m', news', rfl, F', N', hJ⟩
  refine wpAny_mono (wpAny_noRaise (turn k m' news' h' tk hJ F' N')) (fun b s₂ h₂ => ?_) fun _ _ e => e
  cases b with
  | false =>
    simp only [Bool.false_eq_true, if_false] at h₂ ⊢
    exact wpAny_mono (wpAny_noRaise h₂) (fun _ _ e => e) fun _ _ e => e
  | true =>
    simp only [if_true] at h₂ ⊢
    refine wpAny_mono (wpAny_noRaise h₂) (fun f s₃ h₃ => ?_) fun _ _ e => e
    have fin : (∃ h' tk' m' news' n', s₃ = { s with heap := h', toks := tk' } ∧ Fr base env.locals h' m' ∧ News base env.locals h' news' ∧ n' < k ∧ J n' m' news') →
        ∃ m, m < k ∧ ∃ h' tk m' news', s₃ = { s with heap := h', toks := tk } ∧ Fr base env.locals h' m' ∧ News base env.locals h' news' ∧ J m m' news' := by
      rintro ⟨h₄, tk₄, m₄, news₄, n', e, F₄, N₄, hlt, hj⟩
      exact ⟨n', hlt, h₄, tk₄, m₄, news₄, e, F₄, N₄, hj⟩
    cases f with
    | ret v => exact h₃
    | brk => exact h₃
    | next => exact fin h₃
    | cont => exact fin h₃

/-- two names take a pair's items -/
theorem assign2 {w : World} {A : Around} {s : Shared} {env : Env} {base : Heap} {E : Value → Shared → Prop} {Q : Unit → Shared → Prop} {xi xc : Str} {pk pv pt : Pos} {x1 : Nat} {T : Addr} {v0 v1 : Value} {m : Str → Option Value} {news : List (Addr × Obj)} (hh : A.handled = none)
    (F : Fr base env.locals s.heap m) (N : News base env.locals s.heap news) (ht : s.heap.IsTuple T #[v0, v1])
    (hxi : env.kindOf xi = some .local) (hxc : env.kindOf xc = some .local)
    (hp : (env.scope.kind == .class || (env.scope.kind == .module && env.locals != env.globals)) = false)
    (h : ∀ h' tk', Fr base env.locals h' (fun y => if y = xc then some v1 else if y = xi then some v0 else m y) → News base env.locals h' news → Q () { s with heap := h', toks := tk' }) :
    wpAny (model PR w) A (assign (.Tuple [.Name xi pk, .Name xc pv] x1 pt) env (.ref T)) Q E s := by
  refine wpAny_assign_Tuple hh ht rfl rfl fun h₃ hx₃ => ?_
  replace hx₃ : Heap.ExtBut s.heap.objs.size s.heap h₃ := hx₃
  have up₃ : ∀ b o, s.heap.get? b = some o → h₃.get? b = some o := fun b o x => hx₃ b o (Nat.ne_of_lt (Heap.lt_size x)) x
  have F₃ : Fr base env.locals h₃ m := ⟨F.ns.keeps up₃, fun b o e => up₃ b o (F.keep b o e), F.above⟩
  have N₃ : News base env.locals h₃ news := fun p hp => ⟨up₃ _ _ (N p hp).1, (N p hp).2⟩
  show wpAny _ A (do holding [v1] (assign (.Name xi pk) env v0); do holding [] (assign (.Name xc pv) env v1); pure ()) _ _ _
  refine wpAny_bind (wpAny_holding (wpAny_assign_Name (wpAny_storeName_local hxi F₃.ns (fun h₄ hn₄ hs₄ => ?_) hp)))
  replace hs₄ : Heap.SameBut env.locals h₃ h₄ := hs₄
  have F₄ := F₃.set hn₄ hs₄
  refine wpAny_bind (wpAny_holding (wpAny_assign_Name (wpAny_storeName_local hxc F₄.ns (fun h₅ hn₅ hs₅ => wpAny_pure ?_) hp)))
  replace hs₅ : Heap.SameBut env.locals h₄ h₅ := hs₅
  exact h h₅ _ (F₄.set hn₅ hs₅) ((N₃.set hs₄).set hs₅)

/-- an iterator's object comes onto the ledger -/
theorem news_it {base h : Heap} {L I : Addr} {o : Obj} {news : List (Addr × Obj)} (N : News base L h news) (ho : h.get? I = some o) (hb : base.get? I = none) (hL : I ≠ L) : News base L h ((I, o) :: news) := by
  intro q hq
  rcases List.mem_cons.mp hq with rfl | hq
  · exact ⟨ho, hL, hb⟩
  · exact N q hq
end Mine
end
section
set_option maxRecDepth 100000
theorem Mine.off_F1 : True := by
  w_top off
  trivial
open PySem.Builtin.Int
open PySem PySem.W PyProof.Rows PySem.Calls
namespace Mine
theorem fill_ : PySem.Challenge.rw_rs0177_01 = PySem.Challenge.rw_rs0177_01 ∧ hd.heap_39 = hd.heap_39 := by
  k_fill
  exact ⟨rfl, rfl⟩
local macro_rules | `(tactic| walk_at "my_side") => `(tactic| (
  (case k6 => k_is); (case k7 => k_is); (case k9 => first | exact BindsTo.of_eq rfl | exact binds_K (by k_in) rfl (by k_is) rfl rfl rfl); (case c5 => decide); (case kB => exact locs rfl); (case c2 => exact rfl); (case c3 => exact rfl); (case c4 => exact rfl)))

section
variable {w : World} {g : Heap} {s : Shared} {A : Around} {Q : Value → Shared → Prop} {E : Value → Shared → Prop}

set_option maxHeartbeats 4000000 in
theorem div2n1n_ok (G : Gx w g A 1) (st : g.StaysIn s.heap) {a b n : Int} {ta tb tn : Tok} (ha : 0 ≤ a) (hb : b ≠ 0) (ha2 : a < 18446744073709551616) (hb2 : b.natAbs < 1048576) (hn : 0 ≤ n)
    (ret : ∀ r t1 t2 h' tk, Keep [] s.heap h' → h'.get? r = some (tupO [.int (a.fdiv b) t1, .int (a.fmod b) t2]) → s.heap.get? r = none → Q (.ref r) { s with heap := h', toks := tk }) :
    wpAny (model PR w) A (call (.ref 21) [.int a ta, .int b tb, .int n tn]) Q E s := by
  refine' enter (binds := [("a", .int a ta), ("b", .int b tb), ("n", .int n tn)]) G st [] (fun _ h => nomatch h) ?k6 ?k7 ?k9 ?kB ?_ ?c2 ?c3 ?c4 ?c5
  walk_at "my_side"
  have hbit : intBits a ≤ 64 := intBits_le_iff.mpr (by (first | lia | omega))
  intro base L h₁ b0 b1 b2 F N X' ⟨p, loose, mean, mg, mb, T'⟩ G' hlt hL
  (try dsimp only)
  k_steps
  rename Fr _ _ _ _ => F9
  rename News _ _ _ _ => N9
  exact ret _ _ _ _ _ (keep_of b2 F9) (N9.get (.head _)) (fresh_of b2 N9 (.head _) (fun h => nomatch h))
end
end Mine
end
section
set_option maxRecDepth 100000
theorem Mine.off_F2 : True := by
  w_top off
  trivial
open PySem.Builtin.Int
open PySem PySem.W PyProof.Rows PySem.Calls
namespace Mine
local macro_rules | `(tactic| walk_at "callWith ref") => `(tactic| (k_here; kn_here; k_dflt (refine' callWith_F ?k1 ?_; (case k1 => exact fnat_news (by k_asm) (by k_mem) (by assumption)); k_whole)))
local macro_rules | `(tactic| walk_at "FnAt") => `(tactic| (k_dflt (exact fnat_news (by k_asm) (by k_mem) (by assumption))))
local macro_rules | `(tactic| walk_at "my_sideC") => `(tactic| (
  (case k6 => k_is); (case k7 => k_is); (case k9 => first | exact BindsTo.of_eq rfl | exact binds_K (by k_in) rfl (by k_is) rfl rfl rfl); (case kB => exact rfl); (case kD => decide +kernel); (case c2 => exact rfl); (case c3 => exact rfl); (case c4 => exact rfl)))

section
variable {w : World} {g : Heap} {s : Shared} {A : Around} {Q : Value → Shared → Prop} {E : Value → Shared → Prop}

set_option maxHeartbeats 4000000 in
theorem digits2int_ok {tb : List (Addr × Obj)} (G : Gx w g A 20) (st : g.StaysIn s.heap) (hT : Tabs tb) (hs : ∀ q ∈ tb, s.heap.get? q.1 = some q.2 ∧ g.get? q.1 = none)
    {l : Addr} {vs : List Value} {ds : List Int} {n : Nat} {tn : Tok} (hl : s.heap.IsList l vs.toArray) (hi : IntsAre vs ds) (hlen : ds.length ≤ 16) (hn : n ≤ 16) (hd : ∀ d ∈ ds, 0 ≤ d ∧ d < 2 ^ n)
    (ret : ∀ t h' tk tb', After tb tb' s.heap h' → Q (.int (valD n ds) t) { s with heap := h', toks := tk }) :
    wpAny (model PR w) A (call (.ref 42) [.ref l, .int n tn]) Q E s := by
  obtain ⟨ta, tb2, tc, td, cs, rfl, hTa, hTb, hTc, hTd, hoff, hseq⟩ := hT
  refine' enterC (binds := [("digits", .ref l), ("n", .int n tn)]) G st [(37, tabObj tb2)] (fun q hq => hs q (by simp only [List.mem_singleton] at hq; rw [hq]; simp)) ?k6 ?k7 ?k9 ?kB ?kD ?_ ?c2 ?c3 ?c4
  walk_at "my_sideC"
  intro base L h₁ tk₁ cells b0 b1 b2 F N Y X' ⟨p, loose, mean, mg, mb, T'⟩ G' hlt hL
  k_cells Y
  (try simp only [List.cons_append, List.nil_append] at N)
  have hl37 : l ∉ List.map (fun x : Addr × Obj => x.1) [(37, tabObj tb2)] := fun hm => by
    obtain ⟨o, ho, hoc, _⟩ := hl
    simp only [List.map_cons, List.map_nil, List.mem_singleton] at hm
    rw [hm, (hs (37, tabObj tb2) (by simp)).1] at ho; cases ho; cases hoc
  have hl' : base.IsList l vs.toArray := hl.at fun o e => b2 _ _ hl37 e
  obtain ⟨C1, C2, C3, C4⟩ := G'.C
  have hcs : ∀ q ∈ cs, base.get? q.1 = some q.2 := fun q hq => b2 _ _ (fun h => hoff q hq (by simp only [List.map_cons, List.map_nil, List.mem_singleton] at h; rw [h]; simp)) (hs q (by simp [hq])).1
  replace hlt := allLt_of hlt
  simp only [AllLt, and_true] at hlt
  refine wpAny_execs_cons ?_
  k_dflt (refine' nestDef_K ?d0 ?k0 ?a0 ?_; (case d0 => exact rfl); (case k0 => exact rfl); (case a0 => exact rfl))
  k_dflt (refine' nest_any F N T' C2 rfl ?U hTb hcs ?cl ?_; (case U => k_updF); (case cl => exact rfl); k_whole)
  intro f c' x ox ps' doc ctv h' tk F' N' tbo hcode hx hf hxs
  replace hx := allLt_of hx
  replace hf := allLt_of hf
  simp only [AllLt, and_true] at hx hf
  have aft : ∀ {h3 : Heap} {m3 : Str → Option Value} {news : List (Addr × Obj)}, Fr base L h3 m3 → News base L h3 news → (37, tabObj ps') ∈ news → (x, ox) ∈ news →
      After ((30, tabObj ta) :: (37, tabObj tb2) :: (119, tabObj tc) :: (152, tabObj td) :: cs) ((30, tabObj ta) :: (37, tabObj ps') :: (119, tabObj tc) :: (152, tabObj td) :: (x, ox) :: cs) s.heap h3 := fun F3 N3 m1 m2 =>
    aft_of (P := 37) ⟨ta, tb2, tc, td, cs, rfl, hTa, hTb, hTc, hTd, hoff, hseq⟩ (fun q hq => (hs q hq).1) (by decide) b2 F3 N3 m1 m2 hx.2.2.2
      (fun hxo => ⟨ta, ps', tc, td, (x, ox) :: cs, rfl, hTa.mono fun _ h => .tail _ h, tbo, hTc.mono fun _ h => .tail _ h, hTd.mono fun _ h => .tail _ h, fun q hq => by
        rcases List.mem_cons.mp hq with rfl | hq
        · exact hxo
        · exact hoff q hq, fun q hq => by
        rcases List.mem_cons.mp hq with rfl | hq
        · exact hxs
        · exact hseq q hq⟩) (fun q hq => by
        simp only [List.mem_cons] at hq
        rcases hq with rfl | rfl | rfl | rfl | rfl | hq
        · exact .inr (.inr ⟨by simp, by simp⟩)
        · exact .inl rfl
        · exact .inr (.inr ⟨by simp, by simp⟩)
        · exact .inr (.inr ⟨by simp, by simp⟩)
        · exact .inr (.inl rfl)
        · exact .inr (.inr ⟨by simp [hq], fun e => hoff q hq (by simp [e])⟩))
      (fun q hq hn => by
        simp only [List.mem_cons] at hq
        rcases hq with rfl | rfl | rfl | rfl | hq
        · exact absurd (by simp) hn
        · exact absurd (by simp) hn
        · exact absurd (by simp) hn
        · exact absurd (by simp) hn
        · simp [hq])
  k_steps
  · rename News _ _ _ _ => N2
    rename Fr _ _ _ _ => F2
    rename_i hpos
    refine with_obj (N2.get (.head _)) fun fo hfo _ => ?_
    rw [← hfo] at N2
    have hFn : IsFnO fo := by rw [hfo]; exact ⟨_, _, _, _, rfl⟩
    have inner : ∀ (m : Nat) (A' : Around) (s' : Shared) (i j : Nat) (Q' E' : Value → Shared → Prop) (t1 t2 : Tok) (oI oN oD : Obj), oI.data = .cell (some (.ref f)) → oN.data = .cell (some (.int n tn)) → oD.data = .cell (some (.ref l)) →
        j - i = m → i < j → j ≤ ds.length → Gx w base A' m → base.StaysIn s'.heap →
        (∀ q ∈ [(f, fo), (x, ox), (L + 1 + 1 + 1, oI), (L + 1 + 1, oN), (L + 1, oD)], s'.heap.get? q.1 = some q.2 ∧ base.get? q.1 = none) →
        (∀ t h'' tk'', Keep [] s'.heap h'' → Q' (.int (valD n ((ds.drop i).take (j - i))) t) { s' with heap := h'', toks := tk'' }) →
        wpAny (model PR w) A' (call (.ref f) [.int (i : Nat) t1, .int (j : Nat) t2]) Q' E' s' := by
      intro m
      induction m using Nat.strongRecOn with
      | ind m IH =>
      intro A' s' i j Q' E' t1 t2 oI oN oD dI dN dD hm hij hj GG sst hobj hret
      obtain ⟨m, rfl⟩ : ∃ m', m = m' + 1 := ⟨m - 1, by (first | lia | omega)⟩
      refine' enterX (binds := [("L", .int i t1), ("R", .int j t2)]) GG sst [(f, fo), (x, ox), (L + 1 + 1 + 1, oI), (L + 1 + 1, oN), (L + 1, oD)] hobj (hobj _ (.head _)).1 (by rw [hfo]) (hcode _ sst (hobj _ (.tail _ (.head _))).1) (BindsTo.of_eq rfl) (locs rfl) ?_ rfl rfl rfl (by decide)
      intro base2 L2 h2 c0 c1 c2 FF NN X2 ⟨p2, loose2, mean2, mg2, mb2, T2⟩ G2 hlt2 hL2
      have hl2 : base2.IsList l vs.toArray := hl'.at fun o e => c0 _ _ e
      clear N2 F2 hl hl'
      clear hfo
      try dsimp only
      obtain ⟨mid, hmid⟩ : ∃ mid, mid = (i + j) / 2 := ⟨_, rfl⟩
      have hE : ((i : Int) + (j : Int)).fdiv (2 ^ Int.toNat 1) = (mid : Int) := by
        rw [Int.fdiv_eq_ediv_of_nonneg _ (by decide)]
        show ((i : Int) + j) / 2 = _
        first | lia | omega
      have hmj : mid < j := by (first | lia | omega)
      have hobj2 := fun q hq => (hobj q hq).2
      have hobj1 := fun q hq => (hobj q hq).1
      have e1 : i < mid ∨ i + 1 = j := by (first | lia | omega)
      k_steps
      · dsimp only
        rename_i heq _ _ _
        have hj1 : j - i = 1 := by (first | lia | omega)
        rw [show ds.getD (Int.toNat (i : Int)) 0 = valD n ((ds.drop i).take (j - i)) by rw [hj1, valD_one n ds (by (first | lia | omega))]; rfl]
        exact hret _ _ _ (keep_all c2 FF NN (fun q hq => (hobj q hq).1) fun _ h => h)
      · try dsimp only
        rename_i heq _ _ _ _ _ _
        rename News _ _ _ _ => N9
        rename Fr _ _ _ _ => F9
        rw [hE] at F9 ⊢
        have hlo : i < mid := by (first | lia | omega)
        refine IH (j - mid) (by (first | lia | omega)) _ _ _ _ _ _ _ _ oI oN oD dI dN dD rfl (by (first | lia | omega)) hj (GG.deep.less (by (first | lia | omega))) (fun b o e => F9.keep _ _ (c0 b o e)) (fun q hq => ⟨(N9 q hq).1, hobj2 q hq⟩) fun t3 h3 tk3 k3 => ?_
        have F3 := fr_keep0 F9 k3
        have N3 := news_keep0 N9 k3
        clear F9 N9
        try dsimp only
        k_steps
        obtain ⟨v1, v2⟩ := valD_bounds n ((ds.drop mid).take (j - mid)) (fun d hd' => hd d (List.mem_of_mem_drop (List.mem_of_mem_take hd')))
        have hsh : ((mid : Int) - i) * n = ((n * (mid - i) : Nat) : Int) := by
          rw [Int.natCast_mul, Int.natCast_sub (by (first | lia | omega)), Int.mul_comm]
        have hsh2 : n * (mid - i) ≤ 256 := Nat.le_trans (Nat.mul_le_mul hn (show mid - i ≤ 16 by (first | lia | omega))) (by decide)
        have hb : intBits (valD n ((ds.drop mid).take (j - mid))) ≤ 256 := intBits_le_iff.mpr (by
          have h1 : n * ((ds.drop mid).take (j - mid)).length ≤ 256 := Nat.le_trans (Nat.mul_le_mul hn (show _ ≤ 16 by simp only [List.length_take, List.length_drop]; (first | lia | omega))) (by decide)
          have h2 : (2 : Int) ^ (n * ((ds.drop mid).take (j - mid)).length) ≤ 2 ^ 256 := pow2_le h1
          have h3 : valD n ((ds.drop mid).take (j - mid)) < 2 ^ 256 := Int.lt_of_lt_of_le v2 h2
          have h4 : ((2 ^ 256 : Nat) : Int) = 2 ^ 256 := by norm_cast
          first | lia | omega)
        rw [hsh]
        refine lshift_int (by omega) (by have : (2:Int) ^ 27 = 134217728 := by decide
                                         first | lia | omega) ?_
        rw [Int.toNat_natCast]
        k_steps
        rename News _ _ _ _ => N9
        rename Fr _ _ _ _ => F9
        try dsimp only
        refine IH (mid - i) (by (first | lia | omega)) _ _ _ _ _ _ _ _ oI oN oD dI dN dD rfl (by (first | lia | omega)) (by (first | lia | omega)) (GG.deep.less (by (first | lia | omega))) (fun b o e => F9.keep _ _ (c0 b o e)) (fun q hq => ⟨(N9 q hq).1, hobj2 q hq⟩) fun t4 h4 tk4 k4 => ?_
        have F4 := fr_keep0 F9 k4
        have N4 := news_keep0 N9 k4
        clear F9 N9
        try dsimp only
        k_steps
        try dsimp only
        rw [show valD n ((ds.drop mid).take (j - mid)) * 2 ^ (n * (mid - i)) + valD n ((ds.drop i).take (mid - i)) = valD n ((ds.drop i).take (j - i)) by
          rw [valD_cut n ds (show i ≤ mid by (first | lia | omega)) (show mid ≤ j by (first | lia | omega)) hj, Int.mul_comm]; (first | lia | omega)]
        exact hret _ _ _ (keep_all c2 F4 N4 (fun q hq => hobj1 q hq) fun _ h => h)
    refine inner _ _ _ 0 ds.length _ _ _ _ _ _ _ ?d1 ?d2 ?d3 rfl hpos (Nat.le_refl _) (G'.less (by (first | lia | omega))) (fun b o e => F2.keep _ _ e) (fun q hq => ⟨(N2 q (List.mem_append_left [_] hq)).1, (N2 q (List.mem_append_left [_] hq)).2.2⟩) ?fin
    case d1 => assumption
    case d2 => assumption
    case d3 => assumption
    case fin =>
      intro t h3 tk3 k3
      have F3 := fr_keep0 F2 k3
      have N3 := news_keep0 N2 k3
      rw [Nat.sub_zero, List.drop_zero, List.take_length]
      exact ret t h3 tk3 _ (aft F3 N3 (by simp) (by simp))
  · rename News _ _ _ _ => N2
    rename Fr _ _ _ _ => F2
    rename_i hz
    have hz' : ds = [] := List.eq_nil_of_length_eq_zero (by (first | lia | omega))
    try dsimp only
    have := ret (tk + 1 + 1) _ (tk + 1 + 1 + 1) _ (aft F2 N2 (by simp) (by simp))
    rw [hz'] at this
    exact this
end
end Mine
end
section
set_option maxRecDepth 100000
theorem Mine.off_F3 : True := by
  w_top off
  trivial
local macro_rules | `(tactic| walk_at "my_pad") => `(tactic| fail)
open PySem.Builtin.Int
open PySem PySem.W PyProof.Rows PySem.Calls
namespace Mine
local macro_rules | `(tactic| walk_at "callWith ref") => `(tactic| (k_here; kn_here; k_dflt (refine' callWith_F ?k1 ?_; (case k1 => exact fnat_news (by k_asm) (by k_mem) (by assumption)); k_whole)))
local macro_rules | `(tactic| walk_at "FnAt") => `(tactic| (k_dflt (exact fnat_news (by k_asm) (by k_mem) (by assumption))))
local macro_rules | `(tactic| walk_at "my_sideC") => `(tactic| (
  (case k6 => k_is); (case k7 => k_is); (case k9 => first | exact BindsTo.of_eq rfl | exact binds_K (by k_in) rfl (by k_is) rfl rfl rfl); (case kB => exact rfl); (case kD => decide +kernel); (case c2 => exact rfl); (case c3 => exact rfl); (case c4 => exact rfl)))

section
variable {w : World} {g : Heap} {s : Shared} {A : Around} {Q : Value → Shared → Prop} {E : Value → Shared → Prop}



set_option maxHeartbeats 4000000 in
theorem int2digits_ok {tb : List (Addr × Obj)} (G : Gx w g A 20) (st : g.StaysIn s.heap) (hT : Tabs tb) (hs : ∀ q ∈ tb, s.heap.get? q.1 = some q.2 ∧ g.get? q.1 = none)
    {a : Int} {n D : Nat} {ta tn : Tok} (ha : 0 ≤ a) (hn0 : 1 ≤ n) (hn : n ≤ 16) (hD : (intBits a + n - 1) / n = D) (hD2 : D ≤ 16)
    (ret : ∀ r vs k h' tk tb', After tb tb' s.heap h' → h'.get? r = some (lstO vs k) → s.heap.get? r = none → IntsAre vs (digsN n D a) → Q (.ref r) { s with heap := h', toks := tk }) :
    wpAny (model PR w) A (call (.ref 35) [.int a ta, .int n tn]) Q E s := by
  obtain ⟨ta2, tb2, tc, td, cs, rfl, hTa, hTb, hTc, hTd, hoff, hseq⟩ := hT
  refine' enterC (binds := [("a", .int a ta), ("n", .int n tn)]) G st [(30, tabObj ta2)] (fun q hq => hs q (by simp only [List.mem_singleton] at hq; rw [hq]; simp)) ?k6 ?k7 ?k9 ?kB ?kD ?_ ?c2 ?c3 ?c4
  walk_at "my_sideC"
  intro base L h₁ tk₁ cells b0 b1 b2 F N Y X' ⟨p, loose, mean, mg, mb, T'⟩ G' hlt hL
  obtain ⟨oI', oD', oN', rfl, dI', dD', dN'⟩ := CellsAre.three Y
  (try simp only [List.cons_append, List.nil_append] at N)
  obtain ⟨C1, C2, C3, C4⟩ := G'.C
  have hcs : ∀ q ∈ cs, base.get? q.1 = some q.2 := fun q hq => b2 _ _ (fun h => hoff q hq (by simp only [List.map_cons, List.map_nil, List.mem_singleton] at h; rw [h]; simp)) (hs q (by simp [hq])).1
  replace hlt := allLt_of hlt
  simp only [AllLt, and_true] at hlt
  have hDi : ((intBits a : Int) + n - 1).fdiv n = (D : Nat) := by
    rw [Int.fdiv_eq_ediv_of_nonneg _ (by (first | lia | omega)), show (intBits a : Int) + n - 1 = ((intBits a + n - 1 : Nat) : Int) by (first | lia | omega), ← Int.natCast_ediv, hD]
  k_steps
  rename News _ _ _ _ => N2
  rename Fr _ _ _ _ => F2
  rw [hDi, Int.toNat_natCast, List.flatten_replicate_singleton] at N2
  rename_i l1a h1a hl1 lD h2a i1 n1 s1 e1 e2 e3 hlD h3a oA dA
  rw [hDi, Int.toNat_natCast, List.flatten_replicate_singleton, List.flatten_replicate_singleton] at i1
  clear s1 e1 e2 e3 h1a h2a
  obtain ⟨vs0, hv0⟩ : ∃ vs0, vs0 = List.replicate D (Value.int 0 tk₁) := ⟨_, rfl⟩
  rw [← hv0] at N2 i1
  have hvl : vs0.length = D := by rw [hv0]; simp
  k_dflt (refine' nestDef_K ?d0 ?k0 ?a0 ?_; (case d0 => exact rfl); (case k0 => exact rfl); (case a0 => exact rfl))
  k_dflt (refine' nest_any F2 N2 T' C1 rfl ?U hTa hcs ?cl ?_; (case U => k_updF); (case cl => exact rfl); k_whole)
  intro f c' x ox ps' doc ctv h' tk F' N' tbo hcode hx hf hxs
  replace hx := allLt_of hx
  replace hf := allLt_of hf
  simp only [AllLt, and_true] at hx hf
  clear N2 F2
  have aft : ∀ {h3 : Heap} {m3 : Str → Option Value} {news : List (Addr × Obj)}, Fr base L h3 m3 → News base L h3 news → (30, tabObj ps') ∈ news → (x, ox) ∈ news →
      After ((30, tabObj ta2) :: (37, tabObj tb2) :: (119, tabObj tc) :: (152, tabObj td) :: cs) ((30, tabObj ps') :: (37, tabObj tb2) :: (119, tabObj tc) :: (152, tabObj td) :: (x, ox) :: cs) s.heap h3 := fun F3 N3 m1 m2 =>
    aft_of (P := 30) ⟨ta2, tb2, tc, td, cs, rfl, hTa, hTb, hTc, hTd, hoff, hseq⟩ (fun q hq => (hs q hq).1) (by decide) b2 F3 N3 m1 m2 hx.2.2.2.2.2
      (fun hxo => ⟨ps', tb2, tc, td, (x, ox) :: cs, rfl, tbo, hTb.mono fun _ h => .tail _ h, hTc.mono fun _ h => .tail _ h, hTd.mono fun _ h => .tail _ h, fun q hq => by
        rcases List.mem_cons.mp hq with rfl | hq
        · exact hxo
        · exact hoff q hq, fun q hq => by
        rcases List.mem_cons.mp hq with rfl | hq
        · exact hxs
        · exact hseq q hq⟩) (fun q hq => by
        simp only [List.mem_cons] at hq
        rcases hq with rfl | rfl | rfl | rfl | rfl | hq
        · exact .inl rfl
        · exact .inr (.inr ⟨by simp, by simp⟩)
        · exact .inr (.inr ⟨by simp, by simp⟩)
        · exact .inr (.inr ⟨by simp, by simp⟩)
        · exact .inr (.inl rfl)
        · exact .inr (.inr ⟨by simp [hq], fun e => hoff q hq (by simp [e])⟩))
      (fun q hq hn => by
        simp only [List.mem_cons] at hq
        rcases hq with rfl | rfl | rfl | rfl | hq
        · exact absurd (by simp) hn
        · exact absurd (by simp) hn
        · exact absurd (by simp) hn
        · exact absurd (by simp) hn
        · simp [hq])
  k_steps
  · rename News _ _ _ _ => N2
    rename Fr _ _ _ _ => F2
    rename_i hpos
    refine len_list (News.isList (a := lD) N2 (by k_mem)) (by simp [hvl]; (first | lia | omega)) ?_
    k_steps
    refine with_obj (N2.get (.head _)) fun fo hfo _ => ?_
    rw [← hfo] at N2
    have hFn : IsFnO fo := by rw [hfo]; exact ⟨_, _, _, _, rfl⟩
    have hn1 : f ≠ lD := neN (by (first | lia | omega))
    have hn2 : x ≠ lD := neN (by (first | lia | omega))
    have hn3 : L + 1 + 1 + 1 ≠ lD := neN (by (first | lia | omega))
    have hn4 : L + 1 + 1 ≠ lD := neN (by (first | lia | omega))
    have hn5 : L + 1 ≠ lD := neN (by (first | lia | omega))
    have inner : ∀ (m : Nat) (A' : Around) (s' : Shared) (i j : Nat) (xv : Int) (vs : List Value) (ds : List Int) (Q' E' : Value → Shared → Prop) (t0 t1 t2 : Tok) (oI oN oD : Obj), oI.data = .cell (some (.ref f)) → oN.data = .cell (some (.int n tn)) → oD.data = .cell (some (.ref lD)) →
        j - i = m → i < j → j ≤ D → 0 ≤ xv → xv < 2 ^ (n * (j - i)) → vs.length = D → IntsAre vs ds → Gx w base A' m → base.StaysIn s'.heap →
        (∀ q ∈ [(lD, lstO vs 0), (f, fo), (x, ox), (L + 1 + 1 + 1, oI), (L + 1 + 1, oD), (L + 1, oN)], s'.heap.get? q.1 = some q.2 ∧ base.get? q.1 = none) →
        (∀ vs' h'' tk'', Keep [lD] s'.heap h'' → h''.get? lD = some (lstO vs' 0) → vs'.length = D → IntsAre vs' (ds.take i ++ digsN n (j - i) xv ++ ds.drop j) → Q' .none { s' with heap := h'', toks := tk'' }) →
        wpAny (model PR w) A' (call (.ref f) [.int xv t0, .int (i : Nat) t1, .int (j : Nat) t2]) Q' E' s' := by
      intro m
      induction m using Nat.strongRecOn with
      | ind m IH =>
      intro A' s' i j xv vs ds Q' E' t0 t1 t2 oI oN oD dI dN dD hm hij hj hx0 hx1 hvs hiv GG sst hobj hret
      obtain ⟨m, rfl⟩ : ∃ m', m = m' + 1 := ⟨m - 1, by (first | lia | omega)⟩
      refine' enterX (binds := [("x", .int xv t0), ("L", .int i t1), ("R", .int j t2)]) GG sst [(lD, lstO vs 0), (f, fo), (x, ox), (L + 1 + 1 + 1, oI), (L + 1 + 1, oD), (L + 1, oN)] hobj (hobj _ (.tail _ (.head _))).1 (by rw [hfo]) (hcode _ sst (hobj _ (.tail _ (.tail _ (.head _)))).1) (BindsTo.of_eq rfl) (locs rfl) ?_ rfl rfl rfl (by decide)
      intro base2 L2 h2 c0 c1 c2 FF NN X2 ⟨p2, loose2, mean2, mg2, mb2, T2⟩ G2 hlt2 hL2
      clear N2 F2
      clear hfo
      try dsimp only
      obtain ⟨mid, hmid⟩ : ∃ mid, mid = (i + j) / 2 := ⟨_, rfl⟩
      have hE : ((i : Int) + (j : Int)).fdiv (2 ^ Int.toNat 1) = (mid : Int) := by
        rw [Int.fdiv_eq_ediv_of_nonneg _ (by decide)]
        show ((i : Int) + j) / 2 = _
        first | lia | omega
      have hmj : mid < j := by (first | lia | omega)
      have hobj2 := fun q hq => (hobj q hq).2
      have hobj1 := fun q hq => (hobj q hq).1
      have e1 : i < mid ∨ i + 1 = j := by (first | lia | omega)
      have hmi : i ≤ mid := by (first | lia | omega)
      clear hmid
      k_steps
      · try dsimp only
        rename_i heq _ hN1 hF1 hNn1 hi1 hl1 hs1
        have hj1 : j - i = 1 := by (first | lia | omega)
        have hjj : j = i + 1 := by (first | lia | omega)
        rename Fr _ _ _ _ => F9
        rename News _ _ _ _ => N9
        rename IntsAre _ (List.set _ _ _) => i9
        rw [hj1, Nat.mul_one] at hx1
        rw [Int.toNat_natCast] at i9 N9
        rw [take_set_drop ds (by rw [← hiv.length]; (first | lia | omega)), ← hjj, ← digsN_one n hx0 hx1, ← hj1] at i9
        exact hret _ _ _ (keep_but c2 F9 N9 (fun q hq => hobj1 q hq) sub_tail) (N9.get (.head _)) (by simp [hvs]) i9
      · try dsimp only
        rename Fr _ _ _ _ => F9
        rename News _ _ _ _ => N9
        have hlo : i < mid := by (first | lia | omega)
        obtain ⟨sh, hshd⟩ : ∃ sh, sh = n * (mid - i) := ⟨_, rfl⟩
        have hsh : ((mid : Int) - i) * n = (sh : Int) := by
          rw [hshd, Int.natCast_mul, Int.natCast_sub (by (first | lia | omega)), Int.mul_comm]
        have hsh2 : sh ≤ 256 := hshd ▸ Nat.le_trans (Nat.mul_le_mul hn (show mid - i ≤ 16 by (first | lia | omega))) (by decide)
        have hbx : intBits xv ≤ 256 := intBits_le_iff.mpr (by
          have h1 : n * (j - i) ≤ 256 := Nat.le_trans (Nat.mul_le_mul hn (show j - i ≤ 16 by (first | lia | omega))) (by decide)
          have h2 := pow2_le h1
          have h4 : ((2 ^ 256 : Nat) : Int) = 2 ^ 256 := by norm_cast
          first | lia | omega)
        have hbu : intBits (xv.fdiv (2 ^ sh)) ≤ 256 := intBits_fdiv_le hbx
        rw [hE, hsh] at F9 ⊢
        clear hE
        refine rshift_int (by (first | lia | omega)) ?_
        rw [Int.toNat_natCast]
        k_steps
        refine lshift_int (by omega) (by have : (2:Int) ^ 27 = 134217728 := by decide
                                         first | lia | omega) ?_
        rw [Int.toNat_natCast]
        k_steps
        rename Fr _ _ _ _ => F8
        rename News _ _ _ _ => N8
        try dsimp only
        rw [xor_low hx0] at F8 ⊢
        have hxl := Int.emod_nonneg xv (Int.ne_of_gt (show (0 : Int) < 2 ^ sh from Int.pow_pos (by decide)))
        have hxu := Int.emod_lt_of_pos xv (show (0 : Int) < 2 ^ sh from Int.pow_pos (by decide))
        refine IH (mid - i) (by (first | lia | omega)) _ _ _ _ _ vs ds _ _ _ _ _ oI oN oD dI dN dD rfl hlo (by (first | lia | omega)) hxl (by rw [← hshd]; exact hxu) hvs hiv (GG.deep.less (by (first | lia | omega))) (fun b o e => F8.keep _ _ (c0 b o e)) (fun q hq => ⟨(N8 q hq).1, hobj2 q hq⟩) fun vs3 h3 tk3 k3 g3 hv3 i3 => ?_
        have F3 := fr_upd F8 N8 (.head _) k3
        have N3 := news_upd N8 k3 g3 (all5 hn1 hn2 hn3 hn4 hn5)
        clear F8 N8
        try dsimp only
        k_steps
        rename Fr _ _ _ _ => F7
        rename News _ _ _ _ => N7
        try dsimp only
        have hq : xv.fdiv (2 ^ sh) = xv / 2 ^ sh := Int.fdiv_eq_ediv_of_nonneg _ (Int.le_of_lt (Int.pow_pos (by decide)))
        rw [hq]
        have hu0 : 0 ≤ xv / 2 ^ sh := Int.ediv_nonneg hx0 (Int.le_of_lt (Int.pow_pos (by decide)))
        have hu1 : xv / 2 ^ sh < 2 ^ (n * (j - mid)) := by
          refine Int.ediv_lt_of_lt_mul (Int.pow_pos (by decide)) ?_
          rw [← Int.pow_add, hshd, ← Nat.mul_add, show j - mid + (mid - i) = j - i by (first | lia | omega)]
          exact hx1
        refine IH (j - mid) (by (first | lia | omega)) _ _ _ _ _ vs3 _ _ _ _ _ _ oI oN oD dI dN dD rfl hmj hj hu0 hu1 hv3 i3 (GG.deep.less (by (first | lia | omega))) (fun b o e => F7.keep _ _ (c0 b o e)) (fun q hq => ⟨(N7 q hq).1, none_sub c0 (N7 q hq).2.2⟩) fun vs4 h4 tk4 k4 g4 hv4 i4 => ?_
        have F4 := fr_upd F7 N7 (.head _) k4
        have N4 := news_upd N7 k4 g4 (all5 hn1 hn2 hn3 hn4 hn5)
        clear F7 N7
        have hdl : ds.length = D := by rw [← hiv.length, hvs]
        rw [cut_join ds _ _ (by rw [digsN_length]; (first | lia | omega)) (by rw [digsN_length]; (first | lia | omega)) (by (first | lia | omega)), hshd, ← digsN_split, show mid - i + (j - mid) = j - i by (first | lia | omega)] at i4
        try dsimp only
        k_steps
        try dsimp only
        exact hret _ _ _ (keep_but c2 F4 N4 (fun q hq => hobj1 q hq) sub_tail) (N4.get (.head _)) hv4 i4
    have hD0 : 0 < D := by
      have : 1 ≤ intBits a := by
        rcases Nat.eq_zero_or_pos (intBits a) with h | h
        · have := intBits_le_iff.mp (Nat.le_of_eq h)
          first | lia | omega
        · exact h
      rw [← hD]
      exact Nat.div_pos (by (first | lia | omega)) (by (first | lia | omega))
    have hal : a < 2 ^ (n * (D - 0)) := by
      have h1 : a.natAbs < 2 ^ intBits a := intBits_le_iff.mp (Nat.le_refl _)
      have h2 : intBits a ≤ n * (D - 0) := by
        have := Nat.div_add_mod (intBits a + n - 1) n
        have h3 := Nat.mod_lt (intBits a + n - 1) (show n > 0 by (first | lia | omega))
        rw [hD] at this
        rw [Nat.sub_zero]
        first | lia | omega
      have h3 := pow2_le h2
      have h4 : ((2 ^ intBits a : Nat) : Int) = 2 ^ intBits a := by push_cast; rfl
      first | lia | omega
    have hi0 : IntsAre vs0 (List.replicate D 0) := i1
    try dsimp only
    rw [show ((vs0.toArray.size : Nat) : Int) = (D : Nat) by simp [hvl]]
    have N5 : News base L _ [(lD, lstO vs0 0), (x, ox), (L + 1 + 1, oA), (30, tabObj ps')] := fun q hq => N2 q (by
      simp only [List.mem_cons, List.not_mem_nil, or_false] at hq
      rcases hq with rfl | rfl | rfl | rfl <;> simp)
    have hn6 : (30 : Addr) ≠ lD := neN (by (first | lia | omega))
    refine inner _ _ _ 0 D _ vs0 _ _ _ _ _ _ ?oI ?oN ?oD ?d1 ?d2 ?d3 rfl hD0 (Nat.le_refl _) ha hal hvl hi0 (G'.less (by (first | lia | omega))) (fun b o e => F2.keep _ _ e) ?hq ?fin
    case d1 => assumption
    case d2 => assumption
    case d3 => assumption
    case hq =>
      intro q hq
      simp only [List.mem_cons, List.not_mem_nil, or_false] at hq
      rcases hq with rfl | rfl | rfl | rfl | rfl | rfl <;> exact ⟨(N2 _ (by simp)).1, (N2 _ (by simp)).2.2⟩
    case fin =>
      intro vs3 h3 tk3 k3 g3 hv3 i3
      have F3 := fr_upd F2 N5 (.head _) k3
      have N3 := news_upd N5 k3 g3 (all3 hn2 hn4 hn6)
      clear F2 N2
      rw [List.take_zero, List.nil_append, List.drop_of_length_le (by simp), List.append_nil, Nat.sub_zero] at i3
      try dsimp only
      k_steps
      try dsimp only
      exact ret _ _ _ _ _ _ (aft F3 N3 (by simp) (by simp)) (N3.get (.head _)) (fresh_of b2 N3 (.head _) (fun hm => hn6 (List.mem_singleton.mp hm).symm)) i3
  · rename News _ _ _ _ => N2
    rename Fr _ _ _ _ => F2
    rename_i hz
    have hz' : D = 0 := by
      rw [← hD, hz]
      exact Nat.div_eq_of_lt (by rw [show intBits 0 = 0 from by decide]; (first | lia | omega))
    have hn6 : (30 : Addr) ≠ lD := neN (by (first | lia | omega))
    try dsimp only
    have i2 : IntsAre vs0 (digsN n D a) := by
      rw [hz'] at i1 ⊢
      exact i1
    exact ret _ _ _ _ _ _ (aft F2 N2 (by simp) (by simp)) (N2.get (by k_mem)) (fresh_of b2 N2 (o := lstO vs0 0) (by k_mem) (fun hm => hn6 (List.mem_singleton.mp hm).symm)) i2
end
end Mine
end
section
set_option maxRecDepth 100000
theorem Mine.off_F4 : True := by
  w_top off
  trivial
open PySem.Builtin.Int
open PySem PySem.W PyProof.Rows PySem.Calls
namespace Mine
local macro_rules | `(tactic| walk_at "my_side") => `(tactic| (
  (case k6 => k_is); (case k7 => k_is); (case k9 => first | exact BindsTo.of_eq rfl | exact binds_K (by k_in) rfl (by k_is) rfl rfl rfl); (case c5 => decide); (case kB => exact locs rfl); (case c2 => exact rfl); (case c3 => exact rfl); (case c4 => exact rfl)))
local macro_rules | `(tactic| walk_at "exec For Name Call cons nil") => `(tactic| (refine wpAny_For ?_ (fun _ => rfl)))
local macro_rules | `(tactic| k_all) => `(tactic| assumption)
local macro_rules | `(tactic| walk_at "eval Name") => `(tactic| (k_here; k_dflt (refine' nameX_L ?F ?v ?_ ?a ?b; (case F => k_asm); (case a => rfl); (case b => rfl); (case v => assumption); k_whole)))

theorem wpAny_post {M : Model} {A : Around} {α : Type} {t : Sem α} {Q E : _} {s : Shared} (h : ∀ P : α → Shared → Prop, (∀ a s', Q a s' → P a s') → wpAny M A t P E s) : wpAny M A t Q E s := h Q (fun _ _ x => x)
theorem ints_rev : ∀ {vs : List Value} {ns : List Int}, IntsAre vs ns → IntsAre vs.reverse ns.reverse
  | _, _, .nil => .nil
  | _, _, .cons n t r => by
    rw [List.reverse_cons, List.reverse_cons]
    exact (ints_rev r).append (.cons _ _ .nil)
section
variable {w : World} {g : Heap} {s : Shared} {A : Around} {Q : Value → Shared → Prop} {E : Value → Shared → Prop}

set_option maxHeartbeats 4000000 in
theorem divmod_pos_ok {tb : List (Addr × Obj)} (G : Gx w g A 30) (st : g.StaysIn s.heap) (hT : Tabs tb) (hs : ∀ q ∈ tb, s.heap.get? q.1 = some q.2 ∧ g.get? q.1 = none)
    {a b : Int} {ta tb' : Tok} (ha : 0 ≤ a) (ha2 : a < 65536) (hb : 0 < b) (hb2 : b < 65536)
    (ret : ∀ r t1 t2 h' tk tb', After tb tb' s.heap h' → h'.get? r = some (tupO [.int (a / b) t1, .int (a % b) t2]) → s.heap.get? r = none → Q (.ref r) { s with heap := h', toks := tk }) :
    wpAny (model PR w) A (call (.ref 49) [.int a ta, .int b tb']) Q E s := by
  refine' enter (binds := [("a", .int a ta), ("b", .int b tb')]) G st tb hs ?k6 ?k7 ?k9 ?kB ?_ ?c2 ?c3 ?c4 ?c5
  walk_at "my_side"
  intro base L h₁ b0 b1 b2 F N X' ⟨p, loose, mean, mg, mb, T'⟩ G' hlt hL
  obtain ⟨C1, C2, C3, C4⟩ := G'.C
  have hba : intBits a ≤ 16 := intBits_le_iff.mpr (by (first | lia | omega))
  have hbb : intBits b ≤ 16 := intBits_le_iff.mpr (by (first | lia | omega))
  have hbb1 : 1 ≤ intBits b := by
    rcases Nat.eq_zero_or_pos (intBits b) with h | h
    · have := intBits_le_iff.mp (Nat.le_of_eq h)
      first | lia | omega
    · exact h
  obtain ⟨n, hn⟩ : ∃ n, n = intBits b := ⟨_, rfl⟩
  rw [← hn] at hbb hbb1
  k_steps
  rw [← hn]
  rename Fr _ _ _ _ => F2
  rename News _ _ _ _ => N2
  have hD2 : (intBits a + n - 1) / n ≤ 16 := by
    refine Nat.le_of_lt_succ (Nat.div_lt_of_lt_mul ?_)
    have : n * 1 ≤ n := by (first | lia | omega)
    have : 17 ≤ 17 * n := by (first | lia | omega)
    first | lia | omega
  refine int2digits_ok (G'.less (by (first | lia | omega))) (fun b o e => F2.keep b o e) hT (fun q hq => ⟨(N2 q hq).1, (N2 q hq).2.2⟩) ha hbb1 hbb rfl hD2 fun lD dvs kD h3 tk3 tb3 aft3 g3 f3 i3 => ?_
  have F3 := after_fr (lits := []) F2 N2 hT aft3
  have N3 := news_add F2 (after_news (lits := []) F2 N2 hT aft3 True.intro) g3 f3
  clear F2 N2
  try dsimp only [List.nil_append] at N3 ⊢
  k_steps
  rename Fr _ _ _ _ => F4
  rename News _ _ _ _ => N4
  rename_i ha1 hb1 lq hc1 hlq hd1 lI he1 hlI
  obtain ⟨D, hD⟩ : ∃ D, D = (intBits a + n - 1) / n := ⟨_, rfl⟩
  rw [← hD] at i3 hD2
  have hdl : dvs.length = D := by rw [i3.length, digsN_length]
  have hIL : lI ≠ L := (N4 _ (.head _)).2.1
  have hqt : ∀ q ∈ tb3, q.1 ≠ lq := fun q hq => Nat.ne_of_lt (ktn_ltOf hlq.2 q hq)
  have hIt : ∀ q ∈ tb3, q.1 ≠ lI := fun q hq => Nat.ne_of_lt (ktn_ltOf hlI.2.2 q hq)
  have hIb := (N4 _ (.head _)).2.2
  have hlDn : lD ≠ L := (N4 (lD, lstO dvs kD) (by simp)).2.1
  have hal : a < 2 ^ (n * D) := by
    have h1 : a.natAbs < 2 ^ intBits a := intBits_le_iff.mp (Nat.le_refl _)
    have h2 : intBits a ≤ n * D := by
      have := Nat.div_add_mod (intBits a + n - 1) n
      have h3 := Nat.mod_lt (intBits a + n - 1) (show n > 0 by (first | lia | omega))
      rw [← hD] at this
      first | lia | omega
    have h3 := pow2_le h2
    have h4 : ((2 ^ intBits a : Nat) : Int) = 2 ^ intBits a := by push_cast; rfl
    first | lia | omega
  have W := Walks.listRev (prog := PR) (w := w) (A := (A.deeper _)) G'.hh lI lD (neN (by (first | lia | omega))) dvs.toArray
  have hsz : dvs.toArray.size = D := by simp [hdl]
  rw [hsz] at W
  have hst0 : 0 ≤ D ∧ Heap.IsRevIter he1 lI lD ((D : Int) - 1 - ((0 : Nat) : Int)) ∧ he1.IsList lD dvs.toArray :=
    ⟨Nat.zero_le _, ⟨_, N4.get (.head _), rfl, by rw [hdl]; simp [revObj]⟩, News.isList N4 (by k_mem)⟩
  have N4' : News base L _ ((lq, lstO [] 0) :: (lD, lstO dvs kD) :: tb3) := fun q hq => N4 q (.tail _ hq)
  refine wpAny_pyIter_revIter hst0.2.1 ?_
  refine forW (base := base) W rfl rfl ?hLf ?hwr ?hnw hst0 F4 N4'
    (fun i m₁ news₁ => ∃ r tr vs k qs, m₁ "b" = some (.int b tb') ∧ (∃ t, m₁ "n" = some (.int n t)) ∧ m₁ "r" = some (.int r tr) ∧ m₁ "q_digits" = some (.ref lq) ∧
      news₁ = (lq, lstO vs k) :: (lD, lstO dvs kD) :: tb3 ∧ IntsAre vs qs ∧ qs.length = i ∧ r = a / 2 ^ (n * (D - i)) % b ∧ valD n qs.reverse = a / 2 ^ (n * (D - i)) / b ∧ ∀ q ∈ qs, 0 ≤ q ∧ q < 2 ^ n)
    ?h0 ?step ?done
  case hLf =>
    intro hm
    simp only [List.mem_cons, List.not_mem_nil, or_false] at hm
    exact hm.elim (fun e => hIL e.symm) (fun e => hlDn e.symm)
  case hwr => intro c hc; rw [List.mem_singleton.mp hc]; exact hIb
  case hnw =>
    intro q hq hm
    rw [List.mem_singleton] at hm
    simp only [List.mem_cons] at hq
    rcases hq with rfl | rfl | hq
    · exact absurd hm (neN (by dsimp only; (first | lia | omega)))
    · exact absurd hm (neN (by dsimp only; (first | lia | omega)))
    · exact hIt q hq hm
  case h0 =>
    refine ⟨0, _, [], 0, [], rfl, ⟨_, by rw [hn]; rfl⟩, rfl, rfl, rfl, .nil, rfl, ?_, ?_, fun _ h => nomatch h⟩
    · rw [Nat.sub_zero, Int.ediv_eq_zero_of_lt ha hal]; rfl
    · rw [Nat.sub_zero, Int.ediv_eq_zero_of_lt ha hal]; simp [valD]
  case step =>
    rintro i v m₁ news₁ h tk hi hv ⟨r, tr, vs, k, qs, mb1, ⟨tn, mn1⟩, mr1, mq1, rfl, iq, hqi, hr, hqv, hqb⟩ hnw1 hst1 F5 N5
    have hx : (dvs.toArray)[D - 1 - i]? = some v := hv
    have hdg := digsN_get n D a (D - 1 - i) (by (first | lia | omega))
    obtain ⟨td, htd⟩ := i3.get (D - 1 - i) _ hdg
    have hv2 : v = .int (a / 2 ^ (n * (D - 1 - i)) % 2 ^ n) td := by
      rw [List.getElem?_toArray, htd] at hx
      exact (Option.some.inj hx).symm
    subst hv2
    refine wpAny_post fun P9 hP9 => ?_
    obtain ⟨hle1, ⟨oI, hoI, hcI, hdI⟩, hls1⟩ := hst1
    have N6 := news_it N5 hoI hIb hIL
    replace F5 : Fr base L h _ := F5
    replace N6 : News base L h _ := N6
    obtain ⟨t1, t2, t3, t4, t5, t6, t7⟩ := div_turn n D i a b r hi hb hr
    obtain ⟨d, hd⟩ : ∃ d, d = a / 2 ^ (n * (D - 1 - i)) % 2 ^ n := ⟨_, rfl⟩
    rw [← hd] at t1 t2 t3 t4 t5 F5
    have hp16 := pow2_le hbb
    have hp0 : (0 : Int) < 2 ^ n := Int.pow_pos (by decide)
    have hd1 : d < 2 ^ n := hd ▸ Int.emod_lt_of_pos _ hp0
    have hbig : r * 2 ^ n + d < 18446744073709551616 := by
      have h1 : r * 2 ^ n ≤ 65536 * 2 ^ n := Int.mul_le_mul_of_nonneg_right (by (first | lia | omega)) (by (first | lia | omega))
      have h2 : (2 : Int) ^ 16 = 65536 := by decide
      first | lia | omega
    clear N5
    k_steps
    try dsimp only
    rename Fr _ _ _ _ => F7
    rename News _ _ _ _ => N7
    rw [Int.toNat_natCast]
    refine div2n1n_ok ((G'.keeps (fun b o e => e)).less (by (first | lia | omega))) (fun b o e => F7.keep b o e) t5 (Int.ne_of_gt hb) hbig (by (first | lia | omega)) (by (first | lia | omega)) fun rt u1 u2 h8 tk8 k8 g8 f8 => ?_
    have F8 := fr_keep0 F7 k8
    have hrq : (rt : Nat) ≠ lq := fun e => apart_of N7 f8 (lq, lstO vs k) (by simp) e.symm
    have N8 := news_add F7 (news_keep0 N7 k8) g8 f8
    rw [Int.fdiv_eq_ediv_of_nonneg _ (Int.le_of_lt hb), Int.fmod_eq_emod_of_nonneg _ (Int.le_of_lt hb)] at N8
    clear F7 N7 g8
    try dsimp only
    refine assign2 G'.hh F8 N8 ⟨_, N8.get (.head _), rfl, _, rfl⟩ rfl rfl rfl fun h9 tk9 F9 N9 => ?_
    clear F8 N8
    replace F9 : Fr base L h9 _ := F9
    replace N9 : News base L h9 _ := N9
    try dsimp only
    k_steps
    rename Fr _ _ _ _ => F7
    rename News _ _ _ _ => N7
    refine hP9 _ _ ?_
    refine Turn.next (news' := (lq, lstO (vs ++ [.int ((r * 2 ^ n + d) / b) u1]) (k + 1)) :: (lD, lstO dvs kD) :: tb3) F7 ?n1 ?n2 ?n3 ?n4
    case n1 =>
      intro q hq
      rcases List.mem_cons.mp hq with rfl | hq
      · have := N7 (lq, PySem.W.listOf (vs.toArray.push (.int ((r * 2 ^ n + d) / b) u1)) (k + 1)) (by simp)
        rw [List.push_toArray] at this
        exact this
      · exact N7 q (.tail _ (.tail _ (.tail _ hq)))
    case n2 =>
      refine ⟨_, u2, vs ++ [.int ((r * 2 ^ n + d) / b) u1], k + 1, qs ++ [(r * 2 ^ n + d) / b], mb1, ⟨tn, mn1⟩, rfl, mq1, rfl, iq.append (.cons _ _ .nil), by simp [hqi], t1, ?_, ?_⟩
      · rw [List.reverse_append]
        show (r * 2 ^ n + d) / b + 2 ^ n * valD n qs.reverse = _
        rw [hqv, t2]
      · intro q hq
        rcases List.mem_append.mp hq with hq | hq
        · exact hqb q hq
        · rw [List.mem_singleton.mp hq]; exact ⟨t3, t4⟩
    case n3 =>
      intro q hq
      rcases List.mem_cons.mp hq with rfl | hq
      · exact hnw1 (lq, lstO vs k) (.head _)
      · exact hnw1 q (.tail _ hq)
    case n4 => exact ⟨hle1, ⟨oI, N7.get (by simp), hcI, hdI⟩, News.isList N7 (by k_mem)⟩
  case done =>
    rintro m' news' h' tk' ⟨r, tr, vs, k, qs, mb1, ⟨tn, mn1⟩, mr1, mq1, rfl, iq, hqi, hr, hqv, hqb⟩ F5 N5
    replace F5 : Fr base L h' _ := F5
    replace N5 : News base L h' _ := N5
    rw [Nat.sub_self, Nat.mul_zero, Int.pow_zero, Int.ediv_one] at hr hqv
    have hql : vs.length = D := by rw [iq.length, hqi]
    k_steps
    have hap : ∀ q ∈ (lD, lstO dvs kD) :: tb3, q.1 ≠ lq := fun q hq => by
      rcases List.mem_cons.mp hq with rfl | hq
      · exact neN (by dsimp only; (first | lia | omega))
      · exact hqt q hq
    refine kl_reverse (its := vs.toArray) (n := k) F5 N5 rfl (Upd.head hap) (by rw [sizeLine_eq]; simp; (first | lia | omega)) fun h6 F6 N6 => ?_
    have iq2 : IntsAre vs.reverse qs.reverse := ints_rev iq
    replace N6 : News base L h6 ([(lq, lstO vs.reverse k), (lD, lstO dvs kD)] ++ tb3) := N6
    clear F5 N5
    k_steps
    rename Fr _ _ _ _ => F6
    rename News _ _ _ _ => N6
    try dsimp only
    refine digits2int_ok ((G'.keeps (fun b o e => e)).less (by (first | lia | omega))) (fun b o e => F6.keep b o e) aft3.tabs (fun q hq => ⟨(N6 q (List.mem_append_right _ hq)).1, (N6 q (List.mem_append_right _ hq)).2.2⟩)
      (News.isList N6 (by k_mem)) iq2 (by simp; (first | lia | omega)) hbb (fun d hd' => hqb d (List.mem_reverse.mp hd')) fun t8 h8 tk8 tb8 aft8 => ?_
    have F8 := after_fr F6 N6 aft3.tabs aft8
    have N8 := after_news F6 N6 aft3.tabs aft8 ⟨NT.cls (fun h => by cases h), NT.cls (fun h => by cases h), True.intro⟩
    clear F6 N6
    rw [hqv]
    try dsimp only
    k_steps
    rename Fr _ _ _ _ => F9
    rename News _ _ _ _ => N9
    try dsimp only
    rw [hr] at N9
    have hcods : ∀ q ∈ tb, q.1 ∉ [30, 37, 119, 152] → q ∈ tb8 := fun q hq hn => aft8.cods q (aft3.cods q hq hn) hn
    exact ret _ _ _ _ _ _ (after_done hT b2 (fun q hq => (hs q hq).1) F9 N9 aft8.tabs (fun q hq => .tail _ (List.mem_append_right _ hq)) hcods) (N9.get (.head _)) (fresh_seq hT aft8.tabs b2 N9 (fun q hq => .tail _ (List.mem_append_right _ hq)) hcods (.head _) rfl)
end
end Mine
end
section
set_option maxRecDepth 100000
theorem Mine.off_F5 : True := by
  w_top off
  trivial
open PySem.Builtin.Int
open PySem PySem.W PyProof.Rows PySem.Calls
namespace Mine
local macro_rules | `(tactic| walk_at "my_side") => `(tactic| (
  (case k6 => k_is); (case k7 => k_is); (case k9 => first | exact BindsTo.of_eq rfl | exact binds_K (by k_in) rfl (by k_is) rfl rfl rfl); (case c5 => decide); (case kB => exact locs rfl); (case c2 => exact rfl); (case c3 => exact rfl); (case c4 => exact rfl)))

theorem div_nega {a b : Int} (_ha : a < 0) (hb : 0 < b) : -((-a - 1) / b) - 1 = a.fdiv b ∧ b + (-((-a - 1) % b) - 1) = a.fmod b := by
  rw [Int.fdiv_eq_ediv_of_nonneg _ (Int.le_of_lt hb), Int.fmod_eq_emod_of_nonneg _ (Int.le_of_lt hb)]
  obtain ⟨h1, h2⟩ := kbt_below a hb
  exact ⟨h1.symm, by rw [h2]; (first | lia | omega)⟩
theorem div_negb {a b : Int} : (-a).fdiv (-b) = a.fdiv b ∧ -((-a).fmod (-b)) = a.fmod b := by
  have h1 : (-a).fdiv (-b) = a.fdiv b := Int.neg_fdiv_neg a b
  refine ⟨h1, ?_⟩
  have h2 := Int.mul_fdiv_add_fmod a b
  have h3 := Int.mul_fdiv_add_fmod (-a) (-b)
  rw [h1, Int.neg_mul] at h3
  first | lia | omega

section
variable {w : World}

set_option maxHeartbeats 4000000 in
theorem int_divmod_k : ∀ (k : Nat) {g : Heap} {s : Shared} {A : Around} {Q : Value → Shared → Prop} {E : Value → Shared → Prop} {tb : List (Addr × Obj)} (_G : Gx w g A (31 + k)) (_st : g.StaysIn s.heap) (_hT : Tabs tb) (_hs : ∀ q ∈ tb, s.heap.get? q.1 = some q.2 ∧ g.get? q.1 = none)
    {a b : Int} {ta tb' : Tok} (_hlev : (b < 0 → 2 ≤ k) ∧ (a < 0 → 1 ≤ k)) (_ha : a.natAbs < 65536) (_hb : b ≠ 0) (_hb2 : b.natAbs < 65536)
    (_ret : ∀ r t1 t2 h' tk tb', After tb tb' s.heap h' → h'.get? r = some (tupO [.int (a.fdiv b) t1, .int (a.fmod b) t2]) → s.heap.get? r = none → Q (.ref r) { s with heap := h', toks := tk }),
    wpAny (model PR w) A (call (.ref 56) [.int a ta, .int b tb']) Q E s := by
  intro k
  induction k with
  | zero =>
    intro g s A Q E tb G st hT hs a b ta tb' hlev ha hb hb2 ret
    refine' enter (binds := [("a", .int a ta), ("b", .int b tb')]) G st tb hs ?k6 ?k7 ?k9 ?kB ?_ ?c2 ?c3 ?c4 ?c5
    walk_at "my_side"
    intro base L h₁ b0 b1 b2 F N X' ⟨p, loose, mean, mg, mb, T'⟩ G' hlt hL
    have hb3 : ¬ b < 0 := fun h => absurd (hlev.1 h) (by decide)
    have ha3 : ¬ a < 0 := fun h => absurd (hlev.2 h) (by decide)
    k_steps
    · exact absurd (by assumption) hb
    · rename Fr _ _ _ _ => F2
      rename News _ _ _ _ => N2
      try dsimp only
      rw [Int.fdiv_eq_ediv_of_nonneg _ (by (first | lia | omega)), Int.fmod_eq_emod_of_nonneg _ (by (first | lia | omega))] at ret
      refine divmod_pos_ok ((G'.keeps (fun b o e => e)).less (by (first | lia | omega))) (fun b o e => F2.keep b o e) hT (fun q hq => ⟨(N2 q hq).1, (N2 q hq).2.2⟩) (by (first | lia | omega)) (by (first | lia | omega)) (by (first | lia | omega)) (by (first | lia | omega)) fun r t1 t2 h8 tk8 tb8 aft8 g8 f8 => ?_
      have F8 := after_fr (lits := []) F2 N2 hT aft8
      have N8 := news_add F2 (after_news (lits := []) F2 N2 hT aft8 True.intro) g8 f8
      try dsimp only
      exact ret _ _ _ _ _ _ (after_done hT b2 (fun q hq => (hs q hq).1) F8 N8 aft8.tabs (fun q hq => .tail _ hq) aft8.cods) (N8.get (.head _)) (fresh_seq hT aft8.tabs b2 N8 (fun q hq => .tail _ hq) aft8.cods (.head _) rfl)
  | succ k IH =>
    intro g s A Q E tb G st hT hs a b ta tb' hlev ha hb hb2 ret
    by_cases hlow : (b < 0 → 2 ≤ k) ∧ (a < 0 → 1 ≤ k)
    · exact IH (G.less (by (first | lia | omega))) st hT hs hlow ha hb hb2 ret
    refine' enter (binds := [("a", .int a ta), ("b", .int b tb')]) (G.less (show 31 + k + 1 ≤ 31 + (k + 1) by (first | lia | omega))) st tb hs ?k6 ?k7 ?k9 ?kB ?_ ?c2 ?c3 ?c4 ?c5
    walk_at "my_side"
    intro base L h₁ b0 b1 b2 F N X' ⟨p, loose, mean, mg, mb, T'⟩ G' hlt hL
    k_steps
    · exact absurd (by assumption) hb
    · rename Fr _ _ _ _ => F2
      rename News _ _ _ _ => N2
      rename_i hbn
      try dsimp only
      refine IH ((G'.keeps (fun b o e => e)).less (by (first | lia | omega))) (fun b o e => F2.keep b o e) hT (fun q hq => ⟨(N2 q hq).1, (N2 q hq).2.2⟩) ⟨fun h => by (first | lia | omega), fun h => by (first | lia | omega)⟩ (by (first | lia | omega)) (by (first | lia | omega)) (by (first | lia | omega)) fun r t1 t2 h8 tk8 tb8 aft8 g8 f8 => ?_
      have F8 := after_fr (lits := []) F2 N2 hT aft8
      have N8 := news_add F2 (after_news (lits := []) F2 N2 hT aft8 True.intro) g8 f8
      rw [div_negb.1] at N8
      clear F2 N2 g8
      try dsimp only [List.nil_append]
      refine assign2 G'.hh F8 N8 ⟨_, N8.get (.head _), rfl, _, rfl⟩ rfl rfl rfl fun h9 tk9 F9 N9 => ?_
      replace F9 : Fr base L h9 _ := F9
      replace N9 : News base L h9 _ := N9
      clear F8 N8
      try dsimp only
      k_steps
      rename Fr _ _ _ _ => F7
      rename News _ _ _ _ => N7
      rw [div_negb.2] at N7
      try dsimp only
      exact ret _ _ _ _ _ _ (after_done hT b2 (fun q hq => (hs q hq).1) F7 N7 aft8.tabs (fun q hq => .tail _ (.tail _ hq)) aft8.cods) (N7.get (.head _)) (fresh_seq hT aft8.tabs b2 N7 (fun q hq => .tail _ (.tail _ hq)) aft8.cods (.head _) rfl)
    · rename Fr _ _ _ _ => F2
      rename News _ _ _ _ => N2
      try dsimp only
      have hna : Builtin.bitNot a = -a - 1 := rfl
      have ha0 : a < 0 := by (first | lia | omega)
      refine IH ((G'.keeps (fun b o e => e)).less (by (first | lia | omega))) (fun b o e => F2.keep b o e) hT (fun q hq => ⟨(N2 q hq).1, (N2 q hq).2.2⟩) ⟨fun h => by (first | lia | omega), fun h => by (first | lia | omega)⟩ (by (first | lia | omega)) hb (by (first | lia | omega)) fun r t1 t2 h8 tk8 tb8 aft8 g8 f8 => ?_
      have F8 := after_fr (lits := []) F2 N2 hT aft8
      have N8 := news_add F2 (after_news (lits := []) F2 N2 hT aft8 True.intro) g8 f8
      rw [hna, Int.fdiv_eq_ediv_of_nonneg _ (by (first | lia | omega)), Int.fmod_eq_emod_of_nonneg _ (by (first | lia | omega))] at N8
      clear F2 N2 g8
      try dsimp only [List.nil_append]
      refine assign2 G'.hh F8 N8 ⟨_, N8.get (.head _), rfl, _, rfl⟩ rfl rfl rfl fun h9 tk9 F9 N9 => ?_
      replace F9 : Fr base L h9 _ := F9
      replace N9 : News base L h9 _ := N9
      clear F8 N8
      try dsimp only
      k_steps
      rename Fr _ _ _ _ => F7
      rename News _ _ _ _ => N7
      rw [show Builtin.bitNot ((-a - 1) / b) = a.fdiv b from (div_nega ha0 (by (first | lia | omega))).1, show b + Builtin.bitNot ((-a - 1) % b) = a.fmod b from (div_nega ha0 (by (first | lia | omega))).2] at N7
      try dsimp only
      exact ret _ _ _ _ _ _ (after_done hT b2 (fun q hq => (hs q hq).1) F7 N7 aft8.tabs (fun q hq => .tail _ (.tail _ hq)) aft8.cods) (N7.get (.head _)) (fresh_seq hT aft8.tabs b2 N7 (fun q hq => .tail _ (.tail _ hq)) aft8.cods (.head _) rfl)
end
end Mine
end
section
set_option maxRecDepth 100000
theorem Mine.off_F6 : True := by
  w_top off
  trivial
open PySem.Builtin.Int
open PySem PySem.W PyProof.Rows PySem.Calls
namespace Mine
local macro_rules | `(tactic| walk_at "my_side") => `(tactic| (
  (case k6 => k_is); (case k7 => k_is);  (case c5 => decide); (case kB => exact locs rfl); (case c2 => exact rfl); (case c3 => exact rfl); (case c4 => exact rfl)))

/-- a function object that stands below -/
noncomputable def FnThere (base : Heap) (q : Addr) : Prop := ∃ oc od fd sl, base.get? q = some ⟨oc, od, .func fd, sl⟩
theorem FnThere.at {base h : Heap} {q L : Addr} {m : Str → Option Value} (x : FnThere base q) (F : Fr base L h m) : FnAt q h :=
  let ⟨oc, od, fd, sl, e⟩ := x; ⟨oc, od, fd, sl, F.keep _ _ e⟩
/-- a key: of a pair it gives the first -/
structure KeyOk (w : World) (fk : Addr) (hk : Heap) : Prop where
  fn : FnThere hk fk
  go : ∀ {g : Heap} {s : Shared} {A : Around} {Q : Value → Shared → Prop} {E : Value → Shared → Prop}, Gx w g A 1 → g.StaysIn s.heap → hk.StaysIn s.heap → ∀ {T : Addr} {v0 v1 : Value}, s.heap.get? T = some (tupO [v0, v1]) →
    (∀ h' tk, Keep [] s.heap h' → Q v0 { s with heap := h', toks := tk }) → wpAny (model PR w) A (call (.ref fk) [.ref T]) Q E s

/-- a row's pairs as they stand -/
inductive RowAt (h : Heap) : List Value → List (Int × Int) → Prop
  | nil : RowAt h [] []
  | cons {T : Addr} {p n : Int} {t1 t2 : Tok} {vs : List Value} {ps : List (Int × Int)} : h.get? T = some (tupO [.int p t1, .int n t2]) → RowAt h vs ps → RowAt h (.ref T :: vs) ((p, n) :: ps)
theorem RowAt.keeps {h h' : Heap} {vs : List Value} {ps : List (Int × Int)} (x : RowAt h vs ps) (k : ∀ b o, o.cls = .type "tuple" → h.get? b = some o → h'.get? b = some o) : RowAt h' vs ps := by
  induction x with
  | nil => exact .nil
  | cons e _ ih => exact .cons (k _ _ rfl e) ih
theorem RowAt.length {h : Heap} {vs : List Value} {ps : List (Int × Int)} (x : RowAt h vs ps) : vs.length = ps.length := by
  induction x with
  | nil => rfl
  | cons e _ ih => simp [ih]
theorem RowAt.get {h : Heap} {vs : List Value} {ps : List (Int × Int)} (x : RowAt h vs ps) : ∀ {i : Nat} {q : Int × Int}, ps[i]? = some q → ∃ T t1 t2, vs[i]? = some (.ref T) ∧ h.get? T = some (tupO [.int q.1 t1, .int q.2 t2]) := by
  induction x with
  | nil => intro i q e; cases e
  | cons e _ ih =>
    intro i q hq
    cases i with
    | zero => cases hq; exact ⟨_, _, _, rfl, e⟩
    | succ i => exact ih hq

local macro_rules | `(tactic| walk_at "exec While Compare cons nil") => `(tactic| (refine wpAny_While ?_))
local macro_rules | `(tactic| walk_at "callWith ref") => `(tactic| (k_here; k_dflt (refine' callWith_F ?k1 ?_; (case k1 => exact FnThere.at (by assumption) (by k_asm)); k_whole)))
local macro_rules | `(tactic| walk_at "FnAt") => `(tactic| (k_dflt (exact FnThere.at (by assumption) (by k_asm))))
local macro_rules | `(tactic| walk_at "eval Name") => `(tactic| (k_here; k_dflt (refine' nameX_L ?F ?v ?_ ?a ?b; (case F => k_asm); (case a => rfl); (case b => rfl); (case v => assumption); k_whole)))

section
variable {w : World} {g : Heap} {s : Shared} {A : Around} {Q : Value → Shared → Prop} {E : Value → Shared → Prop}

set_option maxHeartbeats 4000000 in
theorem bisect_left_gen {pos : List Value} {kw : List (Str × Value)} (G : Gx w g A 3) (st : g.StaysIn s.heap) {l fk : Addr} {hk : Heap} {vs : List Value} {ps : List (Int × Int)} {x : Int} {tx t0 : Tok} (hl : s.heap.IsList l vs.toArray) (hr : RowAt s.heap vs ps) (hlen : ps.length ≤ 1000) (hsrt : ps.Pairwise fun a b => a.1 ≤ b.1)
    (hkey : KeyOk w fk hk) (hks : hk.StaysIn s.heap)
    (hb : ∀ oc od fd osl, (hd.heap_39 w.params).lookup 92 = some ⟨oc, od, .func fd, osl⟩ → BindsTo s fd ⟨pos, kw⟩ [("a", .ref l), ("x", .int x tx), ("lo", .int 0 t0), ("hi", .none), ("key", .ref fk)])
    (ret : ∀ (k : Nat) t h' tk, k ≤ ps.length → (∀ q ∈ ps.take k, q.1 < x) → (∀ q ∈ ps.drop k, x ≤ q.1) → Keep [] s.heap h' → Q (.int k t) { s with heap := h', toks := tk }) :
    wpAny (model PR w) A (call (.ref 92) pos kw) Q E s := by
  have Xs := G.X.keeps st
  refine' enter (binds := [("a", .ref l), ("x", .int x tx), ("lo", .int 0 t0), ("hi", .none), ("key", .ref fk)]) G st [] (fun _ h => nomatch h) ?k6 ?k7 ?k9 ?kB ?_ ?c2 ?c3 ?c4 ?c5
  case k9 =>
    exact hb _ _ _ _ (by k_is)
  walk_at "my_side"
  intro base L h₁ b0 b1 b2 F N X' ⟨p, loose, mean, mg, mb, T'⟩ G' hlt hL
  have b3 : s.heap.StaysIn base := fun b o e => b2 b o (fun h => nomatch h) e
  have hfnt : FnThere base fk := let ⟨oc, od, fd, sl, e⟩ := hkey.fn; ⟨oc, od, fd, sl, b3 _ _ (hks _ _ e)⟩
  have hl' : base.IsList l vs.toArray := hl.at fun o e => b3 _ _ e
  k_steps
  refine len_list (hl'.at fun o e => by first | exact F.keep _ _ e | (rename Fr _ _ _ _ => F9; exact F9.keep _ _ e)) (by simp; have := hr.length; (first | lia | omega)) ?_
  k_steps
  rename Fr _ _ _ _ => F2
  rename News _ _ _ _ => N2
  have hsz : ((vs.toArray.size : Nat) : Int) = (ps.length : Nat) := by simp [hr.length]
  rw [hsz] at F2
  have hrb : RowAt base vs ps := hr.keeps fun b o _ e => b3 _ _ e
  refine whileW (base := base) (fun n m₁ news₁ => ∃ (lo hi : Nat) (tl th : Tok), m₁ "a" = some (.ref l) ∧ m₁ "x" = some (.int x tx) ∧ m₁ "key" = some (.ref fk) ∧ m₁ "lo" = some (.int lo tl) ∧ m₁ "hi" = some (.int hi th) ∧ news₁ = [] ∧
    lo ≤ hi ∧ hi ≤ ps.length ∧ (∀ q ∈ ps.take lo, q.1 < x) ∧ (∀ q ∈ ps.drop hi, x ≤ q.1) ∧ n = hi - lo) ps.length
    ⟨0, ps.length, _, _, rfl, rfl, rfl, rfl, rfl, rfl, Nat.zero_le _, Nat.le_refl _, fun _ h => by simp at h, fun _ h => by simp at h, rfl⟩ F2 N2 ?_
  clear F2 N2
  rintro n m₁ news₁ h tk ⟨lo, hi, tl, th, ma, mx, mk, ml, mh, rfl, hlh, hhp, hlt1, hge1, rfl⟩ F3 N3
  replace F3 : Fr base L h _ := F3
  replace N3 : News base L h _ := N3
  have hE : ((lo : Int) + (hi : Int)).fdiv 2 = (((lo + hi) / 2 : Nat) : Int) := by
    rw [Int.fdiv_eq_ediv_of_nonneg _ (by decide)]
    first | lia | omega
  k_steps
  · rename Fr _ _ _ _ => F4
    rename News _ _ _ _ => N4
    rename_i hlt9 _ _ _
    have hlt : lo < hi := by (first | lia | omega)
    rw [hE] at F4 ⊢
    obtain ⟨mid, hmid⟩ : ∃ mid, mid = (lo + hi) / 2 := ⟨_, rfl⟩
    rw [← hmid] at F4 ⊢
    have hm1 : lo ≤ mid := by (first | lia | omega)
    have hm2 : mid < hi := by (first | lia | omega)
    obtain ⟨q, hq⟩ : ∃ q, ps[mid]? = some q := ⟨_, List.getElem?_eq_getElem (by (first | lia | omega))⟩
    obtain ⟨T, u1, u2, hT1, hT2⟩ := hrb.get hq
    refine item_list (hl'.at fun o e => F4.keep _ _ e) (by (first | lia | omega)) (by (first | lia | omega)) (by rw [Int.toNat_natCast, List.getElem?_toArray]; exact hT1) ?_ rfl (fun _ => rfl)
    k_steps
    rename Fr _ _ _ _ => F5
    rename News _ _ _ _ => N5
    try dsimp only
    refine hkey.go ((G'.keeps (fun b o e => e)).less (by (first | lia | omega))) (fun b o e => F5.keep b o e) (fun b o e => F5.keep _ _ (b3 _ _ (hks _ _ e))) (F5.keep _ _ hT2) fun h6 tk6 k6 => ?_
    have F6 := fr_keep0 F5 k6
    have N6 := news_keep0 N5 k6
    clear F5 N5
    have lowq : q.1 < x → ∀ r ∈ ps.take (mid + 1), r.1 < x := fun hqx r hr' => by
      obtain ⟨i, hi, rfl⟩ := List.getElem_of_mem hr'
      rw [List.length_take] at hi
      rw [List.getElem_take]
      rcases Nat.lt_or_ge i mid with h1 | h1
      · have hpw := List.pairwise_iff_getElem.mp hsrt i mid (by (first | lia | omega)) (by (first | lia | omega)) h1
        have e := List.getElem?_eq_some_iff.mp hq
        rw [e.2] at hpw
        exact Int.lt_of_le_of_lt hpw hqx
      · have : i = mid := by (first | lia | omega)
        subst this
        rw [(List.getElem?_eq_some_iff.mp hq).2]
        exact hqx
    have highq : x ≤ q.1 → ∀ r ∈ ps.drop mid, x ≤ r.1 := fun hqx r hr' => by
      obtain ⟨i, hi, rfl⟩ := List.getElem_of_mem hr'
      rw [List.length_drop] at hi
      rw [List.getElem_drop]
      rcases Nat.eq_zero_or_pos i with h1 | h1
      · subst h1
        have e := (List.getElem?_eq_some_iff.mp hq).2
        simp only [Nat.add_zero]
        rw [e]
        exact hqx
      · have hpw := List.pairwise_iff_getElem.mp hsrt mid (mid + i) (by (first | lia | omega)) (by (first | lia | omega)) (by (first | lia | omega))
        have e := List.getElem?_eq_some_iff.mp hq
        rw [e.2] at hpw
        exact Int.le_trans hqx hpw
    k_steps
    · rename Fr _ _ _ _ => F7
      rename News _ _ _ _ => N7
      exact TurnW.next (n' := hi - (mid + 1)) F7 N7 (by (first | lia | omega)) ⟨mid + 1, hi, _, th, ma, mx, mk, rfl, mh, rfl, by (first | lia | omega), hhp, lowq (by (first | lia | omega)), hge1, rfl⟩
    · rename Fr _ _ _ _ => F7
      rename News _ _ _ _ => N7
      exact TurnW.next (n' := mid - lo) F7 N7 (by (first | lia | omega)) ⟨lo, mid, tl, _, ma, mx, mk, ml, rfl, rfl, hm1, by (first | lia | omega), hlt1, highq (by (first | lia | omega)), rfl⟩
  · try dsimp only
    rename_i hlt9 _
    have : lo = hi := by (first | lia | omega)
    subst this
    exact ret lo _ _ _ hhp hlt1 hge1 (keep_of b2 F3)
set_option maxHeartbeats 4000000 in
theorem bisect_right_gen {pos : List Value} {kw : List (Str × Value)} (G : Gx w g A 3) (st : g.StaysIn s.heap) {l fk : Addr} {hk : Heap} {vs : List Value} {ps : List (Int × Int)} {x : Int} {tx t0 : Tok} (hl : s.heap.IsList l vs.toArray) (hr : RowAt s.heap vs ps) (hlen : ps.length ≤ 1000) (hsrt : ps.Pairwise fun a b => a.1 ≤ b.1)
    (hkey : KeyOk w fk hk) (hks : hk.StaysIn s.heap)
    (hb : ∀ oc od fd osl, (hd.heap_39 w.params).lookup 74 = some ⟨oc, od, .func fd, osl⟩ → BindsTo s fd ⟨pos, kw⟩ [("a", .ref l), ("x", .int x tx), ("lo", .int 0 t0), ("hi", .none), ("key", .ref fk)])
    (ret : ∀ (k : Nat) t h' tk, k ≤ ps.length → (∀ q ∈ ps.take k, q.1 ≤ x) → (∀ q ∈ ps.drop k, x < q.1) → Keep [] s.heap h' → Q (.int k t) { s with heap := h', toks := tk }) :
    wpAny (model PR w) A (call (.ref 74) pos kw) Q E s := by
  have Xs := G.X.keeps st
  refine' enter (binds := [("a", .ref l), ("x", .int x tx), ("lo", .int 0 t0), ("hi", .none), ("key", .ref fk)]) G st [] (fun _ h => nomatch h) ?k6 ?k7 ?k9 ?kB ?_ ?c2 ?c3 ?c4 ?c5
  case k9 =>
    exact hb _ _ _ _ (by k_is)
  walk_at "my_side"
  intro base L h₁ b0 b1 b2 F N X' ⟨p, loose, mean, mg, mb, T'⟩ G' hlt hL
  have b3 : s.heap.StaysIn base := fun b o e => b2 b o (fun h => nomatch h) e
  have hfnt : FnThere base fk := let ⟨oc, od, fd, sl, e⟩ := hkey.fn; ⟨oc, od, fd, sl, b3 _ _ (hks _ _ e)⟩
  have hl' : base.IsList l vs.toArray := hl.at fun o e => b3 _ _ e
  k_steps
  refine len_list (hl'.at fun o e => by first | exact F.keep _ _ e | (rename Fr _ _ _ _ => F9; exact F9.keep _ _ e)) (by simp; have := hr.length; (first | lia | omega)) ?_
  k_steps
  rename Fr _ _ _ _ => F2
  rename News _ _ _ _ => N2
  have hsz : ((vs.toArray.size : Nat) : Int) = (ps.length : Nat) := by simp [hr.length]
  rw [hsz] at F2
  have hrb : RowAt base vs ps := hr.keeps fun b o _ e => b3 _ _ e
  refine whileW (base := base) (fun n m₁ news₁ => ∃ (lo hi : Nat) (tl th : Tok), m₁ "a" = some (.ref l) ∧ m₁ "x" = some (.int x tx) ∧ m₁ "key" = some (.ref fk) ∧ m₁ "lo" = some (.int lo tl) ∧ m₁ "hi" = some (.int hi th) ∧ news₁ = [] ∧
    lo ≤ hi ∧ hi ≤ ps.length ∧ (∀ q ∈ ps.take lo, q.1 ≤ x) ∧ (∀ q ∈ ps.drop hi, x < q.1) ∧ n = hi - lo) ps.length
    ⟨0, ps.length, _, _, rfl, rfl, rfl, rfl, rfl, rfl, Nat.zero_le _, Nat.le_refl _, fun _ h => by simp at h, fun _ h => by simp at h, rfl⟩ F2 N2 ?_
  clear F2 N2
  rintro n m₁ news₁ h tk ⟨lo, hi, tl, th, ma, mx, mk, ml, mh, rfl, hlh, hhp, hlt1, hge1, rfl⟩ F3 N3
  replace F3 : Fr base L h _ := F3
  replace N3 : News base L h _ := N3
  have hE : ((lo : Int) + (hi : Int)).fdiv 2 = (((lo + hi) / 2 : Nat) : Int) := by
    rw [Int.fdiv_eq_ediv_of_nonneg _ (by decide)]
    first | lia | omega
  k_steps
  · rename Fr _ _ _ _ => F4
    rename News _ _ _ _ => N4
    rename_i hlt9 _ _ _
    have hlt : lo < hi := by (first | lia | omega)
    rw [hE] at F4 ⊢
    obtain ⟨mid, hmid⟩ : ∃ mid, mid = (lo + hi) / 2 := ⟨_, rfl⟩
    rw [← hmid] at F4 ⊢
    have hm1 : lo ≤ mid := by (first | lia | omega)
    have hm2 : mid < hi := by (first | lia | omega)
    obtain ⟨q, hq⟩ : ∃ q, ps[mid]? = some q := ⟨_, List.getElem?_eq_getElem (by (first | lia | omega))⟩
    obtain ⟨T, u1, u2, hT1, hT2⟩ := hrb.get hq
    refine item_list (hl'.at fun o e => F4.keep _ _ e) (by (first | lia | omega)) (by (first | lia | omega)) (by rw [Int.toNat_natCast, List.getElem?_toArray]; exact hT1) ?_ rfl (fun _ => rfl)
    k_steps
    rename Fr _ _ _ _ => F5
    rename News _ _ _ _ => N5
    try dsimp only
    refine hkey.go ((G'.keeps (fun b o e => e)).less (by (first | lia | omega))) (fun b o e => F5.keep b o e) (fun b o e => F5.keep _ _ (b3 _ _ (hks _ _ e))) (F5.keep _ _ hT2) fun h6 tk6 k6 => ?_
    have F6 := fr_keep0 F5 k6
    have N6 := news_keep0 N5 k6
    clear F5 N5
    have lowq : q.1 ≤ x → ∀ r ∈ ps.take (mid + 1), r.1 ≤ x := fun hqx r hr' => by
      obtain ⟨i, hi, rfl⟩ := List.getElem_of_mem hr'
      rw [List.length_take] at hi
      rw [List.getElem_take]
      rcases Nat.lt_or_ge i mid with h1 | h1
      · have hpw := List.pairwise_iff_getElem.mp hsrt i mid (by (first | lia | omega)) (by (first | lia | omega)) h1
        have e := List.getElem?_eq_some_iff.mp hq
        rw [e.2] at hpw
        exact Int.le_trans hpw hqx
      · have : i = mid := by (first | lia | omega)
        subst this
        rw [(List.getElem?_eq_some_iff.mp hq).2]
        exact hqx
    have highq : x < q.1 → ∀ r ∈ ps.drop mid, x < r.1 := fun hqx r hr' => by
      obtain ⟨i, hi, rfl⟩ := List.getElem_of_mem hr'
      rw [List.length_drop] at hi
      rw [List.getElem_drop]
      rcases Nat.eq_zero_or_pos i with h1 | h1
      · subst h1
        have e := (List.getElem?_eq_some_iff.mp hq).2
        simp only [Nat.add_zero]
        rw [e]
        exact hqx
      · have hpw := List.pairwise_iff_getElem.mp hsrt mid (mid + i) (by (first | lia | omega)) (by (first | lia | omega)) (by (first | lia | omega))
        have e := List.getElem?_eq_some_iff.mp hq
        rw [e.2] at hpw
        exact Int.lt_of_lt_of_le hqx hpw
    k_steps
    · rename Fr _ _ _ _ => F7
      rename News _ _ _ _ => N7
      exact TurnW.next (n' := mid - lo) F7 N7 (by (first | lia | omega)) ⟨lo, mid, tl, _, ma, mx, mk, ml, rfl, rfl, hm1, by (first | lia | omega), hlt1, highq (by (first | lia | omega)), rfl⟩
    · rename Fr _ _ _ _ => F7
      rename News _ _ _ _ => N7
      exact TurnW.next (n' := hi - (mid + 1)) F7 N7 (by (first | lia | omega)) ⟨mid + 1, hi, _, th, ma, mx, mk, rfl, mh, rfl, by (first | lia | omega), hhp, lowq (by (first | lia | omega)), hge1, rfl⟩
  · try dsimp only
    rename_i hlt9 _
    have : lo = hi := by (first | lia | omega)
    subst this
    exact ret lo _ _ _ hhp hlt1 hge1 (keep_of b2 F3)

theorem binds_eq {K : Frag} {f : Addr} {oc oc' : Value} {od od' : Option Addr} {fd fd' : FuncData} {osl osl' : Array (Option Value)} {args : Args} {binds : List (Str × Value)} (e : K.lookup f = some ⟨oc, od, .func fd, osl⟩) (e' : K.lookup f = some ⟨oc', od', .func fd', osl'⟩) (h : BindsTo s fd' args binds) : BindsTo s fd args binds := by
  rw [e'] at e; cases e; exact h

theorem bisect_left_4 (G : Gx w g A 3) (st : g.StaysIn s.heap) {l fk : Addr} {hk : Heap} {vs : List Value} {ps : List (Int × Int)} {x : Int} {tx t0 : Tok} (hl : s.heap.IsList l vs.toArray) (hr : RowAt s.heap vs ps) (hlen : ps.length ≤ 1000) (hsrt : ps.Pairwise fun a b => a.1 ≤ b.1)
    (hkey : KeyOk w fk hk) (hks : hk.StaysIn s.heap)
    (ret : ∀ (k : Nat) t h' tk, k ≤ ps.length → (∀ q ∈ ps.take k, q.1 < x) → (∀ q ∈ ps.drop k, x ≤ q.1) → Keep [] s.heap h' → Q (.int k t) { s with heap := h', toks := tk }) :
    wpAny (model PR w) A (call (.ref 92) [.ref l, .int x tx, .int 0 t0, .none] [("key", .ref fk)]) Q E s := by
  have Xs := G.X.keeps st
  refine bisect_left_gen G st hl hr hlen hsrt hkey hks (tx := tx) (t0 := t0) ?_ ret
  intro oc od fd osl e
  refine' binds_eq e ?ka ?kb
  case ka => k_is
  case kb => first | exact BindsTo.of_eq rfl | exact binds_K Xs rfl (by k_is) rfl rfl rfl

theorem bisect_left_2 (G : Gx w g A 3) (st : g.StaysIn s.heap) {l fk : Addr} {hk : Heap} {vs : List Value} {ps : List (Int × Int)} {x : Int} {tx : Tok} (hl : s.heap.IsList l vs.toArray) (hr : RowAt s.heap vs ps) (hlen : ps.length ≤ 1000) (hsrt : ps.Pairwise fun a b => a.1 ≤ b.1)
    (hkey : KeyOk w fk hk) (hks : hk.StaysIn s.heap)
    (ret : ∀ (k : Nat) t h' tk, k ≤ ps.length → (∀ q ∈ ps.take k, q.1 < x) → (∀ q ∈ ps.drop k, x ≤ q.1) → Keep [] s.heap h' → Q (.int k t) { s with heap := h', toks := tk }) :
    wpAny (model PR w) A (call (.ref 92) [.ref l, .int x tx] [("key", .ref fk)]) Q E s := by
  have Xs := G.X.keeps st
  refine bisect_left_gen G st hl hr hlen hsrt hkey hks (tx := tx) (t0 := 311) ?_ ret
  intro oc od fd osl e
  refine' binds_eq e ?ka ?kb
  case ka => k_is
  case kb => first | exact BindsTo.of_eq rfl | exact binds_K Xs rfl (by k_is) rfl rfl rfl

theorem bisect_right_4 (G : Gx w g A 3) (st : g.StaysIn s.heap) {l fk : Addr} {hk : Heap} {vs : List Value} {ps : List (Int × Int)} {x : Int} {tx t0 : Tok} (hl : s.heap.IsList l vs.toArray) (hr : RowAt s.heap vs ps) (hlen : ps.length ≤ 1000) (hsrt : ps.Pairwise fun a b => a.1 ≤ b.1)
    (hkey : KeyOk w fk hk) (hks : hk.StaysIn s.heap)
    (ret : ∀ (k : Nat) t h' tk, k ≤ ps.length → (∀ q ∈ ps.take k, q.1 ≤ x) → (∀ q ∈ ps.drop k, x < q.1) → Keep [] s.heap h' → Q (.int k t) { s with heap := h', toks := tk }) :
    wpAny (model PR w) A (call (.ref 74) [.ref l, .int x tx, .int 0 t0, .none] [("key", .ref fk)]) Q E s := by
  have Xs := G.X.keeps st
  refine bisect_right_gen G st hl hr hlen hsrt hkey hks (tx := tx) (t0 := t0) ?_ ret
  intro oc od fd osl e
  refine' binds_eq e ?ka ?kb
  case ka => k_is
  case kb => first | exact BindsTo.of_eq rfl | exact binds_K Xs rfl (by k_is) rfl rfl rfl

theorem bisect_right_2 (G : Gx w g A 3) (st : g.StaysIn s.heap) {l fk : Addr} {hk : Heap} {vs : List Value} {ps : List (Int × Int)} {x : Int} {tx : Tok} (hl : s.heap.IsList l vs.toArray) (hr : RowAt s.heap vs ps) (hlen : ps.length ≤ 1000) (hsrt : ps.Pairwise fun a b => a.1 ≤ b.1)
    (hkey : KeyOk w fk hk) (hks : hk.StaysIn s.heap)
    (ret : ∀ (k : Nat) t h' tk, k ≤ ps.length → (∀ q ∈ ps.take k, q.1 ≤ x) → (∀ q ∈ ps.drop k, x < q.1) → Keep [] s.heap h' → Q (.int k t) { s with heap := h', toks := tk }) :
    wpAny (model PR w) A (call (.ref 74) [.ref l, .int x tx] [("key", .ref fk)]) Q E s := by
  have Xs := G.X.keeps st
  refine bisect_right_gen G st hl hr hlen hsrt hkey hks (tx := tx) (t0 := 284) ?_ ret
  intro oc od fd osl e
  refine' binds_eq e ?ka ?kb
  case ka => k_is
  case kb => first | exact BindsTo.of_eq rfl | exact binds_K Xs rfl (by k_is) rfl rfl rfl
end
end Mine
end
section
set_option maxRecDepth 100000
theorem Mine.off_F7 : True := by
  w_top off
  trivial
open PySem.Builtin.Int
open PySem PySem.W PyProof.Rows PySem.Calls
namespace Mine
local macro_rules | `(tactic| walk_at "my_side") => `(tactic| (
  (case k6 => k_is); (case k7 => k_is); (case k9 => first | exact BindsTo.of_eq rfl | exact binds_K (by k_in) rfl (by k_is) rfl rfl rfl); (case c5 => decide); (case kB => exact locs rfl); (case c2 => exact rfl); (case c3 => exact rfl); (case c4 => exact rfl)))
local macro_rules | `(tactic| walk_at "callWith ref") => `(tactic| (k_here; k_dflt (refine' callWith_F ?k1 ?_; (case k1 => exact FnThere.at (by assumption) (by k_asm)); k_whole)))
local macro_rules | `(tactic| walk_at "FnAt") => `(tactic| (k_dflt (exact FnThere.at (by assumption) (by k_asm))))

section
variable {w : World} {g : Heap} {s : Shared} {A : Around} {Q : Value → Shared → Prop} {E : Value → Shared → Prop}

set_option maxHeartbeats 4000000 in
theorem insort_left_ok (G : Gx w g A 5) (st : g.StaysIn s.heap) {l fk Tx : Addr} {hk : Heap} {vs : List Value} {n : Nat} {ps : List (Int × Int)} {x v : Int} {tx tv : Tok} (hl : s.heap.get? l = some (lstO vs n)) (hlg : g.get? l = none) (hr : RowAt s.heap vs ps) (hlen : ps.length ≤ 1000) (hsrt : ps.Pairwise fun a b => a.1 ≤ b.1)
    (hkey : KeyOk w fk hk) (hks : hk.StaysIn s.heap) (hkl : hk.get? l = none) (hx : s.heap.get? Tx = some (tupO [.int x tx, .int v tv]))
    (ret : ∀ (k : Nat) n' h' tk, k ≤ ps.length → (∀ q ∈ ps.take k, q.1 < x) → (∀ q ∈ ps.drop k, x ≤ q.1) → Keep [l] s.heap h' → h'.get? l = some (lstO (vs.take k ++ .ref Tx :: vs.drop k) n') → Q .none { s with heap := h', toks := tk }) :
    wpAny (model PR w) A (call (.ref 83) [.ref l, .ref Tx] [("key", .ref fk)]) Q E s := by
  have Xs := G.X.keeps st
  refine' enter (binds := [("a", .ref l), ("x", .ref Tx), ("lo", .int 0 298), ("hi", .none), ("key", .ref fk)]) G st [(l, lstO vs n)] (fun q hq => by rw [List.mem_singleton.mp hq]; exact ⟨hl, hlg⟩) ?k6 ?k7 ?k9 ?kB ?_ ?c2 ?c3 ?c4 ?c5
  walk_at "my_side"
  intro base L h₁ b0 b1 b2 F N X' ⟨p, loose, mean, mg, mb, T'⟩ G' hlt hL
  have hkb : hk.StaysIn base := fun b o e => b2 b o (fun hm => by rw [List.mem_singleton.mp hm] at e; rw [hkl] at e; cases e) (hks _ _ e)
  have hfnt : FnThere base fk := let ⟨oc, od, fd, sl, e⟩ := hkey.fn; ⟨oc, od, fd, sl, hkb _ _ e⟩
  have htup : ∀ b o, o.cls = .type "tuple" → s.heap.get? b = some o → base.get? b = some o := fun b o hc e => b2 b o (fun hm => by rw [List.mem_singleton.mp hm, hl] at e; cases e; exact absurd hc (by intro h; injection h with h; exact absurd h (by decide))) e
  have hrb : RowAt base vs ps := hr.keeps htup
  have hxb : base.get? Tx = some (tupO [.int x tx, .int v tv]) := htup _ _ rfl hx
  k_steps
  rename Fr _ _ _ _ => F2
  rename News _ _ _ _ => N2
  try dsimp only
  refine hkey.go ((G'.keeps (fun b o e => e)).less (by (first | lia | omega))) (fun b o e => F2.keep b o e) (fun b o e => F2.keep _ _ (hkb _ _ e)) (F2.keep _ _ hxb) fun h3 tk3 k3 => ?_
  have F3 := fr_keep0 F2 k3
  have N3 := news_keep0 N2 k3
  clear F2 N2
  k_steps
  rename Fr _ _ _ _ => F4
  rename News _ _ _ _ => N4
  try dsimp only
  refine bisect_left_4 ((G'.keeps (fun b o e => e)).less (by (first | lia | omega))) (fun b o e => F4.keep b o e) (News.isList N4 (.head _)) (hrb.keeps fun b o _ e => F4.keep _ _ e) hlen hsrt hkey (fun b o e => F4.keep _ _ (hkb _ _ e)) fun k t5 h5 tk5 hk1 hk2 hk3 k5 => ?_
  have F5 := fr_keep0 F4 k5
  have N5 := news_keep0 N4 k5
  clear F4 N4
  k_steps
  rename Fr _ _ _ _ => F6
  rename News _ _ _ _ => N6
  have hvl : vs.length = ps.length := hr.length
  refine kl_insert (its := vs.toArray) (n := n) (l := vs.take k ++ .ref Tx :: vs.drop k) F6 N6 (by unfold Builtin.List.listFitsIndex; simp; (first | lia | omega)) ?hins (Upd.head (fun _ h => nomatch h)) (by rw [sizeLine_eq]; simp; (first | lia | omega)) fun h7 F7 N7 => ?_
  case hins =>
    unfold kl_ins
    rw [if_neg (by (first | lia | omega)), Int.toNat_natCast, Nat.min_eq_left (by rw [hvl]; exact hk1)]
  clear F6 N6
  k_steps
  try dsimp only
  exact ret k _ _ _ hk1 hk2 hk3 (keep_but b2 F7 N7 (fun q hq => by rw [List.mem_singleton.mp hq]; exact hl) sub_tail) (N7.get (.head _))
set_option maxHeartbeats 4000000 in
theorem insort_right_ok (G : Gx w g A 5) (st : g.StaysIn s.heap) {l fk Tx : Addr} {hk : Heap} {vs : List Value} {n : Nat} {ps : List (Int × Int)} {x v : Int} {tx tv : Tok} (hl : s.heap.get? l = some (lstO vs n)) (hlg : g.get? l = none) (hr : RowAt s.heap vs ps) (hlen : ps.length ≤ 1000) (hsrt : ps.Pairwise fun a b => a.1 ≤ b.1)
    (hkey : KeyOk w fk hk) (hks : hk.StaysIn s.heap) (hkl : hk.get? l = none) (hx : s.heap.get? Tx = some (tupO [.int x tx, .int v tv]))
    (ret : ∀ (k : Nat) n' h' tk, k ≤ ps.length → (∀ q ∈ ps.take k, q.1 ≤ x) → (∀ q ∈ ps.drop k, x < q.1) → Keep [l] s.heap h' → h'.get? l = some (lstO (vs.take k ++ .ref Tx :: vs.drop k) n') → Q .none { s with heap := h', toks := tk }) :
    wpAny (model PR w) A (call (.ref 65) [.ref l, .ref Tx] [("key", .ref fk)]) Q E s := by
  have Xs := G.X.keeps st
  refine' enter (binds := [("a", .ref l), ("x", .ref Tx), ("lo", .int 0 271), ("hi", .none), ("key", .ref fk)]) G st [(l, lstO vs n)] (fun q hq => by rw [List.mem_singleton.mp hq]; exact ⟨hl, hlg⟩) ?k6 ?k7 ?k9 ?kB ?_ ?c2 ?c3 ?c4 ?c5
  walk_at "my_side"
  intro base L h₁ b0 b1 b2 F N X' ⟨p, loose, mean, mg, mb, T'⟩ G' hlt hL
  have hkb : hk.StaysIn base := fun b o e => b2 b o (fun hm => by rw [List.mem_singleton.mp hm] at e; rw [hkl] at e; cases e) (hks _ _ e)
  have hfnt : FnThere base fk := let ⟨oc, od, fd, sl, e⟩ := hkey.fn; ⟨oc, od, fd, sl, hkb _ _ e⟩
  have htup : ∀ b o, o.cls = .type "tuple" → s.heap.get? b = some o → base.get? b = some o := fun b o hc e => b2 b o (fun hm => by rw [List.mem_singleton.mp hm, hl] at e; cases e; exact absurd hc (by intro h; injection h with h; exact absurd h (by decide))) e
  have hrb : RowAt base vs ps := hr.keeps htup
  have hxb : base.get? Tx = some (tupO [.int x tx, .int v tv]) := htup _ _ rfl hx
  k_steps
  rename Fr _ _ _ _ => F2
  rename News _ _ _ _ => N2
  try dsimp only
  refine hkey.go ((G'.keeps (fun b o e => e)).less (by (first | lia | omega))) (fun b o e => F2.keep b o e) (fun b o e => F2.keep _ _ (hkb _ _ e)) (F2.keep _ _ hxb) fun h3 tk3 k3 => ?_
  have F3 := fr_keep0 F2 k3
  have N3 := news_keep0 N2 k3
  clear F2 N2
  k_steps
  rename Fr _ _ _ _ => F4
  rename News _ _ _ _ => N4
  try dsimp only
  refine bisect_right_4 ((G'.keeps (fun b o e => e)).less (by (first | lia | omega))) (fun b o e => F4.keep b o e) (News.isList N4 (.head _)) (hrb.keeps fun b o _ e => F4.keep _ _ e) hlen hsrt hkey (fun b o e => F4.keep _ _ (hkb _ _ e)) fun k t5 h5 tk5 hk1 hk2 hk3 k5 => ?_
  have F5 := fr_keep0 F4 k5
  have N5 := news_keep0 N4 k5
  clear F4 N4
  k_steps
  rename Fr _ _ _ _ => F6
  rename News _ _ _ _ => N6
  have hvl : vs.length = ps.length := hr.length
  refine kl_insert (its := vs.toArray) (n := n) (l := vs.take k ++ .ref Tx :: vs.drop k) F6 N6 (by unfold Builtin.List.listFitsIndex; simp; (first | lia | omega)) ?hins (Upd.head (fun _ h => nomatch h)) (by rw [sizeLine_eq]; simp; (first | lia | omega)) fun h7 F7 N7 => ?_
  case hins =>
    unfold kl_ins
    rw [if_neg (by (first | lia | omega)), Int.toNat_natCast, Nat.min_eq_left (by rw [hvl]; exact hk1)]
  clear F6 N6
  k_steps
  try dsimp only
  exact ret k _ _ _ hk1 hk2 hk3 (keep_but b2 F7 N7 (fun q hq => by rw [List.mem_singleton.mp hq]; exact hl) sub_tail) (N7.get (.head _))
end
end Mine
end
section
set_option maxRecDepth 100000
theorem Mine.off_F8 : True := by
  w_top off
  trivial
open PySem.Builtin.Int
open PySem PySem.W PyProof.Rows PySem.Calls
namespace Mine
local macro_rules | `(tactic| walk_at "my_side") => `(tactic| (
  (case k6 => k_is); (case k7 => k_is); (case k9 => first | exact BindsTo.of_eq rfl | exact binds_K (by k_in) rfl (by k_is) rfl rfl rfl); (case c5 => decide); (case kB => exact locs rfl); (case c2 => exact rfl); (case c3 => exact rfl); (case c4 => exact rfl)))
local macro_rules | `(tactic| walk_at "exec For Name Call cons cons") => `(tactic| (refine wpAny_For ?_ (fun _ => rfl)))
local macro_rules | `(tactic| walk_at "eval Name") => `(tactic| (k_here; k_dflt (refine' nameX_L ?F ?v ?_ ?a ?b; (case F => k_asm); (case a => rfl); (case b => rfl); (case v => assumption); k_whole)))

local macro_rules | `(tactic| walk_at "loadName") => `(tactic| (k_here; k_dflt (refine' ldn ?a ?b ?_; (case a => k_asm); (case b => assumption); k_whole)))

/-- the compiler flags' names -/
noncomputable def NAMES : List Str := ["OPTIMIZED", "NEWLOCALS", "VARARGS", "VARKEYWORDS", "NESTED", "GENERATOR", "NOFREE", "COROUTINE", "ITERABLE_COROUTINE", "ASYNC_GENERATOR"]
noncomputable def word (p : Nat) : Str := NAMES.getD p (baseText "0x" 16 (2 ^ p))
noncomputable def bitsI (n : Nat) (x : Int) : List Nat := (List.range n).filter fun i => x / 2 ^ i % 2 == 1
noncomputable def prettyL (x : Int) : List Str := if bitsI 32 x = [] then [baseText "0x" 16 0] else (bitsI 32 x).map word
noncomputable def flagD : List (Int × PyData) := [(1, .str (Str.ofString "OPTIMIZED")), (2, .str (Str.ofString "NEWLOCALS")), (4, .str (Str.ofString "VARARGS")), (8, .str (Str.ofString "VARKEYWORDS")), (16, .str (Str.ofString "NESTED")), (32, .str (Str.ofString "GENERATOR")), (64, .str (Str.ofString "NOFREE")), (128, .str (Str.ofString "COROUTINE")), (256, .str (Str.ofString "ITERABLE_COROUTINE")), (512, .str (Str.ofString "ASYNC_GENERATOR"))]
theorem flagK {w : World} {h : Heap} (X : (hd.heap_39 w.params).In h) : KTD.Keyed h 93 flagD := kt_keyed_in (a := 93) (D := flagD) X (by kernel_rfl)
theorem flagAt {i : Nat} (hi : i < 32) : KTD.datumAt (2 ^ i) flagD = if i < 10 then some (.str (NAMES.getD i (Str.ofString ""))) else none := by
  have e : (List.range 32).map (fun i => KTD.datumAt (2 ^ i) flagD) = (List.range 32).map (fun i => if i < 10 then some (.str (NAMES.getD i (Str.ofString ""))) else none) := rfl
  have e' := congrArg (fun l => l[i]?) e
  rw [List.getElem?_map, List.getElem?_map, List.getElem?_range hi] at e'
  exact Option.some.inj e'
theorem flagGet {i : Nat} (hi : i < 32) {v : Value} (hv : PyProof.V.Flat v ((PySem.Spec.lookup (PyData.int (2 ^ i)) (flagD.map fun p => (PyData.int p.1, p.2))).getD (.str (baseText "0x" 16 (2 ^ i))))) : ∃ t, v = .str (word i) t := by
  rw [KTD.lookup_keyed, flagAt hi] at hv
  have h10 : NAMES.length = 10 := rfl
  by_cases h : i < 10
  · rw [if_pos h] at hv
    obtain ⟨t, rfl⟩ := hv.str_inv
    exact ⟨t, by unfold word; rw [List.getD_eq_getElem?_getD, List.getD_eq_getElem?_getD, List.getElem?_eq_getElem (by (first | lia | omega))]; rfl⟩
  · rw [if_neg h] at hv
    obtain ⟨t, rfl⟩ := hv.str_inv
    exact ⟨t, by unfold word; rw [List.getD_eq_getElem?_getD, List.getElem?_eq_none (by (first | lia | omega))]; rfl⟩
theorem hexLen' {i : Nat} (hi : i < 32) : (baseText "0x" 16 (2 ^ i)).length ≤ 40 := by
  revert i
  decide +kernel
theorem hexLen {i : Nat} (hi : i < 32) : (baseText "0x" 16 (2 ^ i)).length ≤ sizeLine := Nat.le_trans (hexLen' hi) (by decide)
theorem bitsI_succ (n : Nat) (x : Int) : bitsI (n + 1) x = bitsI n x ++ if x / 2 ^ n % 2 = 1 then [n] else [] := by
  unfold bitsI
  rw [List.range_succ, List.filter_append]
  congr 1
  by_cases h : x / 2 ^ n % 2 = 1 <;> simp [h]
theorem bitsI_stop (n m : Nat) (x : Int) (h : n ≤ m) (hx : x / 2 ^ n = 0) : bitsI m x = bitsI n x := by
  obtain ⟨k, rfl⟩ : ∃ k, m = n + k := ⟨m - n, by (first | lia | omega)⟩
  clear h
  induction k with
  | zero => rfl
  | succ k ih =>
    rw [← Nat.add_assoc, bitsI_succ, ih]
    have : x / 2 ^ (n + k) = 0 := by
      rw [Int.pow_add, ← Int.ediv_ediv_of_nonneg (Int.le_of_lt (Int.pow_pos (by decide))), hx, Int.zero_ediv]
    simp [this]
theorem wordLen {i : Nat} (hi : i < 32) : (word i).length ≤ 40 := by
  revert i
  decide +kernel
theorem bitsI_lt {n : Nat} {x : Int} {i : Nat} (h : i ∈ bitsI n x) : i < n := List.mem_range.mp (List.mem_filter.mp h).1
theorem bitsI_len (n : Nat) (x : Int) : (bitsI n x).length ≤ n := Nat.le_trans (List.length_filter_le _ _) (by rw [List.length_range]; exact Nat.le_refl _)
theorem sum_le {l : List Nat} (h : ∀ a ∈ l, a ≤ 40) : l.sum ≤ 40 * l.length := by
  induction l with
  | nil => exact Nat.le_refl _
  | cons a l ih =>
    have h1 := h a (.head _)
    have h2 := ih fun b hb => h b (.tail _ hb)
    rw [List.sum_cons, List.length_cons, Nat.mul_add]
    first | lia | omega
theorem prettyFit (x : Int) : ((prettyL x).map (·.length)).sum + (prettyL x).length * 2 ≤ 16777216 := by
  have hall : ∀ a ∈ (prettyL x).map (·.length), a ≤ 40 := fun a ha => by
    obtain ⟨y, hy, rfl⟩ := List.mem_map.mp ha
    unfold prettyL at hy
    split at hy
    · rw [List.mem_singleton.mp hy]; decide +kernel
    · obtain ⟨p, hp, rfl⟩ := List.mem_map.mp hy
      exact wordLen (bitsI_lt hp)
  have h1 := sum_le hall
  have h2 : (prettyL x).length ≤ 32 := by
    unfold prettyL
    split
    · simp
    · rw [List.length_map]; exact bitsI_len _ _
  rw [List.length_map] at h1
  first | lia | omega
theorem strs_app : ∀ {vs : List Value} {ys : List Str} {vs' : List Value} {ys' : List Str}, StrsAre vs ys → StrsAre vs' ys' → StrsAre (vs ++ vs') (ys ++ ys')
  | _, _, _, _, .nil, h => h
  | _, _, _, _, .cons y t r, h => .cons y t (strs_app r h)
theorem xorBit {x : Int} (i : Nat) (h : x / 2 ^ i % 2 = 1) : Builtin.bitXor (x / 2 ^ i * 2 ^ i) (2 ^ i) = x / 2 ^ (i + 1) * 2 ^ (i + 1) := by
  have hp : (0 : Int) < 2 ^ i := Int.pow_pos (by decide)
  rw [bitXor_and, kbt_bit, Int.mul_ediv_cancel _ (Int.ne_of_gt hp), h, Int.pow_succ, ← Int.ediv_ediv_of_nonneg (Int.le_of_lt hp)]
  have e : x / 2 ^ i = 2 * (x / 2 ^ i / 2) + 1 := by (first | lia | omega)
  have e2 : x / 2 ^ i * 2 ^ i = (2 * (x / 2 ^ i / 2) + 1) * 2 ^ i := by rw [← e]
  rw [e2, Int.add_mul, Int.one_mul, ← Int.mul_assoc (x / 2 ^ i / 2)]
  rw [Int.mul_assoc 2, Int.mul_comm 2]
  first | lia | omega
theorem evenBit {x : Int} (i : Nat) (h : x / 2 ^ i % 2 ≠ 1) : x / 2 ^ i * 2 ^ i = x / 2 ^ (i + 1) * 2 ^ (i + 1) := by
  have hp : (0 : Int) < 2 ^ i := Int.pow_pos (by decide)
  rw [Int.pow_succ, ← Int.ediv_ediv_of_nonneg (Int.le_of_lt hp)]
  have e : x / 2 ^ i = 2 * (x / 2 ^ i / 2) := by (first | lia | omega)
  have e2 : x / 2 ^ i * 2 ^ i = (2 * (x / 2 ^ i / 2)) * 2 ^ i := by rw [← e]
  rw [e2, ← Int.mul_assoc (x / 2 ^ i / 2), Int.mul_assoc 2, Int.mul_comm 2]
theorem half_next (x : Int) (i : Nat) : x / 2 ^ (i + 1) = x / 2 ^ i / 2 := by
  rw [Int.pow_succ, ← Int.ediv_ediv_of_nonneg (Int.le_of_lt (Int.pow_pos (by decide)))]
local macro_rules | `(tactic| walk_at "call builtin:dict.get") => `(tactic| (refine call_get2_intTab (KTD.Keyed.keep (flagK (by assumption)) (Fr.keep (by assumption)) PR _) (PyProof.V.Flat.str _ _) (fun v hv => ?_); obtain ⟨tv, rfl⟩ := flagGet (by assumption) hv))
section
variable {w : World} {g : Heap} {s : Shared} {A : Around} {Q : Value → Shared → Prop} {E : Value → Shared → Prop}

set_option maxHeartbeats 4000000 in
theorem pretty_ok (G : Gx w g A 2) (st : g.StaysIn s.heap) {x : Int} {tx : Tok} (hx0 : 0 ≤ x) (hx1 : x < 2 ^ 32)
    (ret : ∀ t h' tk, Keep [] s.heap h' → Q (.str (Txt.join ", " (prettyL x)) t) { s with heap := h', toks := tk }) :
    wpAny (model PR w) A (call (.ref 100) [.int x tx]) Q E s := by
  refine' enter (binds := [("flags", .int x tx)]) G st [] (fun _ h => nomatch h) ?k6 ?k7 ?k9 ?kB ?_ ?c2 ?c3 ?c4 ?c5
  walk_at "my_side"
  intro base L h₁ b0 b1 b2 F N X' ⟨p, loose, mean, mg, mb, T'⟩ G' hlt hL
  k_steps
  rename IsRange _ _ _ _ _ _ _ _ => hr
  rename Fr _ _ _ _ => F2
  rename News _ _ _ _ => N2
  rename_i l _ _ _ _ _ h7 _ _ _ _ _
  refine wpAny_pyIter_range hr (by decide) ?_
  have W := Walks.range (prog := PR) (w := w) (A := (A.deeper _)) G'.hh h7.objs.size 0 1 32
  have F3 := F2.push { cls := .type "range_iterator", data := .fields #[rawInt 0, rawInt (Builtin.Range.rangeSize 0 32 1), rawInt 1] }
  have hIb := next_is_new F2
  have hIL : h7.objs.size ≠ L := Nat.ne_of_gt F2.ns.lt
  have hlI : ∀ q ∈ [(l, listOf #[] 0)], q.1 ≠ h7.objs.size := fun q hq => Nat.ne_of_lt (Heap.lt_size (N2 q hq).1)
  have hst0 : IsRangeIter (h7.push { cls := .type "range_iterator", data := .fields #[rawInt 0, rawInt (Builtin.Range.rangeSize 0 32 1), rawInt 1] }) h7.objs.size (0 + ((0 : Nat) : Int) * 1) (((32 : Nat) : Int) - ((0 : Nat) : Int)) 1 := Heap.get?_push_size _ rfl
  have hlI2 : @LT.lt Nat instLTNat l h7.objs.size := Heap.lt_size (N2 _ (.head _)).1
  have N3 : News base L (h7.push { cls := .type "range_iterator", data := .fields #[rawInt 0, rawInt (Builtin.Range.rangeSize 0 32 1), rawInt 1] }) [(l, listOf #[] 0)] := fun q hq => ⟨Heap.get?_push_of_some _ (N2 q hq).1, (N2 q hq).2⟩
  obtain ⟨I, hI⟩ : ∃ I, I = h7.objs.size := ⟨_, rfl⟩
  rw [← hI] at W hIb hIL hlI hst0 hlI2
  rw [← hI]
  refine forW (base := base) W rfl rfl ?hLf ?hwr ?hnw hst0 F3 N3
    (fun i m₁ news₁ => ∃ tf vs k, m₁ "flags" = some (.int (x / 2 ^ i * 2 ^ i) tf) ∧ m₁ "names" = some (.ref l) ∧
      news₁ = [(l, lstO vs k)] ∧ StrsAre vs ((bitsI i x).map word) ∧ (x = 0 ∨ x / 2 ^ i ≠ 0))
    ?h0 ?step ?done
  case hLf => intro hm; exact hIL (List.mem_singleton.mp hm).symm
  case hwr => intro c hc; rw [List.mem_singleton.mp hc]; exact hIb
  case hnw => intro q hq hm; exact hlI q hq (List.mem_singleton.mp hm)
  case h0 =>
    refine ⟨tx, [], 0, ?_, rfl, rfl, .nil, ?_⟩
    · rw [Int.pow_zero, Int.ediv_one, Int.mul_one]; rfl
    · rw [Int.pow_zero, Int.ediv_one]; (first | lia | omega)
  case step =>
    rintro i v m₁ news₁ h tk hi ⟨ti, rfl⟩ ⟨tf, vs, k, mf, mn, rfl, iv, hne⟩ hnw1 hst1 F5 N5
    replace hst1 : IsRangeIter _ _ _ _ _ := hst1
    have N6 := news_it N5 hst1 hIb hIL
    replace F5 : Fr base L h _ := F5
    replace N6 : News base L h _ := N6
    have hvl : vs.length ≤ 32 := by
      rw [iv.length, List.length_map]
      exact Nat.le_trans (List.length_filter_le _ _) (by rw [List.length_range]; (first | lia | omega))
    clear N5
    rw [show (0 : Int) + (i : Int) * 1 = i by (first | lia | omega)] at F5
    k_steps
    · rename Builtin.bitAnd _ _ ≠ 0 => hbit
      rename Fr _ _ _ _ => F6
      rename News _ _ _ _ => N7
      have hp : (0 : Int) < 2 ^ i := Int.pow_pos (by decide)
      have hfl : (1 : Int) * 2 ^ (i : Int).toNat = 2 ^ i := by rw [Int.one_mul, Int.toNat_natCast]
      rw [hfl] at hbit F6 ⊢
      have hb2 : x / 2 ^ i % 2 = 1 := by
        rw [kbt_bit, Int.mul_ediv_cancel _ (Int.ne_of_gt hp)] at hbit
        have : x / 2 ^ i % 2 ≠ 0 := fun e => hbit (by rw [e, Int.zero_mul])
        first | lia | omega
      refine P.hex_of_int (hsz := hexLen hi) ?_
      walk1
      refine call_get2_intTab (KTD.Keyed.keep (flagK (by assumption)) (Fr.keep (by assumption)) PR _) (PyProof.V.Flat.str _ _) (fun v hv => ?_)
      obtain ⟨tv, rfl⟩ := flagGet (by assumption) hv
      k_steps
      · rename Fr _ _ _ _ => F9
        rename News _ _ _ _ => N9
        rename ¬ Builtin.bitXor _ _ = 0 => hz
        rw [xorBit i hb2] at hz F9
        have N9' : News base L _ [(l, lstO (vs ++ [.str (word i) tv]) (k + 1))] := fun q hq => by
          rw [List.mem_singleton.mp hq]
          have := N9 (l, PySem.W.listOf (vs.toArray.push (.str (word i) tv)) (k + 1)) (by simp)
          rw [List.push_toArray] at this
          exact this
        have hIq : ∀ q ∈ [(l, lstO (vs ++ [.str (word i) tv]) (k + 1))], q.1 ∉ [I] := fun q hq => by rw [List.mem_singleton.mp hq]; exact hnw1 (l, lstO vs k) (.head _)
        refine Turn.next F9 N9' ⟨_, vs ++ [.str (word i) tv], k + 1, rfl, mn, rfl, ?_, .inr fun e => hz (by rw [e, Int.zero_mul])⟩ hIq (N9.get (.head _))
        rw [bitsI_succ, if_pos hb2, List.map_append]
        exact strs_app iv (.cons _ _ .nil)
      · rename Fr _ _ _ _ => F9
        rename News _ _ _ _ => N9
        rename Builtin.bitXor _ _ = 0 => hz
        rw [xorBit i hb2] at hz F9
        dsimp only
        unfold Turn
        dsimp only
        k_steps
        rename Fr _ _ _ _ => F10
        rename News _ _ _ _ => N10
        have hbits : bitsI 32 x = bitsI i x ++ [i] := by
          rw [bitsI_stop (i + 1) 32 x (by (first | lia | omega)) (by
            rcases Int.mul_eq_zero.mp hz with h | h
            · exact h
            · exact absurd h (Int.ne_of_gt (Int.pow_pos (by decide)))), bitsI_succ, if_pos hb2]
        have hpr : prettyL x = (bitsI i x ++ [i]).map word := by unfold prettyL; rw [hbits, if_neg (by simp)]
        have hS : StrsAre (vs.toArray.push (.str (word i) tv)).toList (prettyL x) := by
          rw [hpr, List.map_append, List.push_toArray]
          exact strs_app iv (.cons _ _ .nil)
        refine join_list (News.isList N10 (by k_mem)) hS (prettyFit x) (fun t' k' => ?_)
        k_steps
        exact ret _ _ _ (keep_of b2 F10)
    · rename Builtin.bitAnd _ _ = 0 => hbit
      rename Fr _ _ _ _ => F6
      rename News _ _ _ _ => N7
      have hp : (0 : Int) < 2 ^ i := Int.pow_pos (by decide)
      have hfl : (1 : Int) * 2 ^ (i : Int).toNat = 2 ^ i := by rw [Int.one_mul, Int.toNat_natCast]
      rw [hfl] at hbit F6
      have hb2 : x / 2 ^ i % 2 ≠ 1 := fun e => by
        rw [kbt_bit, Int.mul_ediv_cancel _ (Int.ne_of_gt hp), e, Int.one_mul] at hbit
        first | lia | omega
      rw [evenBit i hb2] at mf
      refine Turn.next F6 (fun q hq => N7 q (.tail _ hq)) ⟨tf, vs, k, mf, mn, rfl, ?_, ?_⟩ hnw1 (N7.get (.head _))
      · rw [bitsI_succ, if_neg hb2, List.append_nil]; exact iv
      · rw [half_next]; (first | lia | omega)
  case done =>
    rintro m' news' h' tk' ⟨tf, vs, k, mf, mn, rfl, iv, hne⟩ F5 N5
    replace F5 : Fr base L h' _ := F5
    replace N5 : News base L h' _ := N5
    have hx : x = 0 := by
      rcases hne with h | h
      · exact h
      · exact absurd (Int.ediv_eq_zero_of_lt hx0 hx1) h
    subst hx
    have hb0 : bitsI 32 0 = [] := by decide
    rw [hb0] at iv
    cases iv
    rw [Int.zero_ediv, Int.zero_mul] at mf
    k_steps
    rename Fr _ _ _ _ => F10
    have e : prettyL 0 = [baseText "0x" 16 0] := by unfold prettyL; rw [hb0, if_pos rfl]
    rw [e] at ret
    exact ret _ _ _ (keep_of b2 F10)
end
end Mine
end
section
set_option maxRecDepth 100000
theorem Mine.off_Comps : True := by
  w_top off
  trivial
open PySem.Builtin.Int
open PySem PySem.W PyProof.Rows PySem.Calls
namespace Mine
section
variable {w : World} {A : Around} {s : Shared} {env : Env} {base : Heap} {E : Value → Shared → Prop} {L : Addr} {m : Str → Option Value}

theorem comp_loop {elt target iter : Expr} {ifs : List Expr} {scope : Scope} {pos : Pos} {it acc : Value} {env : Env} {R : Result → Shared → Prop} (I : Nat → Shared → Prop)
    (turn : ∀ n s, I n s → wpAny (model PR w) A (pyNext it) (fun r s₁ => match r with
      | none => R (.ok .next) s₁
      | some v => wpAny (model PR w) A (letOwnedTupleGo target it v) (fun _ s₀ => wpAny (model PR w) A (assign target env v) (fun _ s₂ =>
          wpAny (model PR w) A (forIn ifs true fun c r => if r = true then do let ok ← isTrue c env (eval c env); pure (ForInStep.yield ok) else pure (ForInStep.yield r)) (fun ok s₃ => if ok = true then wpAny (model PR w) A (eval elt env) (fun x s₄ =>
            wpAny (model PR w) A (call (.builtin "list.append") [acc, x]) (fun _ s₅ => ∃ m, m < n ∧ I m s₅) (notedBy (model PR w) A env fun e s' => R (.error e) s') s₄) (notedBy (model PR w) A env fun e s' => R (.error e) s') s₃
            else ∃ m, m < n ∧ I m s₃) (notedBy (model PR w) A env fun e s' => R (.error e) s') s₂)
          (notedBy (model PR w) A env fun e s' => R (.error e) s') s₀) (notedBy (model PR w) A env fun e s' => R (.error e) s') s₁) (notedBy (model PR w) A env fun e s' => R (.error e) s') s)
    (n : Nat) (h : I n s) : codeAny (model PR w) A (.compLoop (.ListComp elt [⟨target, iter, ifs, 0⟩] scope pos) 0 it acc env) R s := by
  refine codeAny_loop rfl I (fun n s hI => ?_) n h
  show wpAny _ A ((compTurn (.ListComp elt [⟨target, iter, ifs, 0⟩] scope pos) 0 it acc env).onRaise (fun x => do noteFrame x env; theTreesLotGoes x)) _ _ s
  refine wpAny_noted ?_
  rw [compTurn_list]
  refine wpAny_bind (wpAny_standAt (wpAny_bind (wpAny_mono (turn n s hI) (fun r s₁ h₁ => ?_) fun _ _ h' => h')))
  cases r with
  | none => exact wpAny_pure h₁
  | some v =>
    refine wpAny_bind (wpAny_mono h₁ (fun _ s₀ h₀' => ?_) fun _ _ h' => h')
    refine wpAny_bind (wpAny_mono h₀' (fun _ s₂ h₂ => ?_) fun _ _ h' => h')
    refine wpAny_bind (wpAny_mono h₂ (fun okb s₃ h₃ => ?_) fun _ _ h' => h')
    cases okb with
    | false => exact wpAny_pure ⟨rfl, h₃⟩
    | true => exact wpAny_bind (wpAny_bind (wpAny_mono h₃ (fun x s₄ h₄ => wpAny_bind (wpAny_mono h₄ (fun _ s₅ h₅ => wpAny_pure (wpAny_pure ⟨rfl, h₅⟩)) fun _ _ h' => h')) fun _ _ h' => h'))

/-- how a turn of a comprehension ends -/
noncomputable def CTurn (base : Heap) (L : Addr) (m : Str → Option Value) (s : Shared) (wr : List Addr) (C D : Addr) (oC : Obj) (own : List (Addr × Obj)) (ys : List Value) (J : List Value → List (Addr × Obj) → Prop) (ys' : List Value) (s' : Shared) : Prop :=
  ∃ h' tk news', s' = { s with heap := h', toks := tk } ∧ Fr base L h' m ∧ News base L h' ((C, oC) :: (D, LCg.lst ys) :: (news' ++ own)) ∧ (∀ q ∈ news', q.1 ∉ wr ∧ q.1 ≠ C ∧ q.1 ≠ D) ∧ J ys' news'
theorem CTurn.intro {wr : List Addr} {C D : Addr} {oC : Obj} {own : List (Addr × Obj)} {ys : List Value} {J : List Value → List (Addr × Obj) → Prop} {ys' : List Value} {h' : Heap} {tk : Nat} (news' : List (Addr × Obj))
    (F : Fr base L h' m) (N : News base L h' ((C, oC) :: (D, LCg.lst ys) :: (news' ++ own))) (hw : ∀ q ∈ news', q.1 ∉ wr ∧ q.1 ≠ C ∧ q.1 ≠ D) (j : J ys' news') :
    CTurn base L m s wr C D oC own ys J ys' { s with heap := h', toks := tk } := ⟨h', tk, news', rfl, F, N, hw, j⟩

theorem comp_core {elt target iter : Expr} {ifs : List Expr} {scope : Scope} {cl : List (Str × Addr)} {pos : Pos} {s₂ : Shared} {I : Addr} {fp wr : List Addr} {n : Nat} {P Md : Nat → Value → Heap → Prop} {St : Nat → Heap → Prop} {PV : Nat → (Str → Option Value) → Prop}
    {news : List (Addr × Obj)} {RR : Value → Addr → Result → Shared → Prop}
    (W : KTurns PR w A target I fp wr n P Md St) (hsz : n ≤ sizeLine) (hself : ∀ (s : Shared) (Q : Value → Shared → Prop) (E : Value → Shared → Prop), St 0 s.heap → Q (.ref I) s → wpAny (model PR w) A (pyIter (.ref I)) Q E s)
    (hasg : ∀ (C : Addr) (i : Nat) (v : Value) (m' : Str → Option Value) (s : Shared) (Q : Unit → Shared → Prop) (E : Value → Shared → Prop), P i v s.heap → s.heap.Ns C m' →
      (∀ h₂ tk₂ m₂, h₂.Ns C m₂ → PV i m₂ → (∀ b o, b ≠ C → s.heap.get? b = some o → h₂.get? b = some o) → Q () { s with heap := h₂, toks := tk₂ }) → wpAny (model PR w) A (assign target (compEnvC scope cl C env) v) Q E s)
    (hcell : ∀ y ∈ scope.names, y.2 ≠ .cell) (hkind : scope.kind = .function) (hst : St 0 s₂.heap) (hfp : ∀ b ∈ fp, b < s₂.heap.objs.size)
    (F : Fr base L s₂.heap m) (N : News base L s₂.heap news) (hLf : L ∉ fp) (hwr : ∀ b ∈ wr, base.get? b = none) (hnw : ∀ q ∈ news, q.1 ∉ wr)
    (J : Nat → List Value → List (Addr × Obj) → Prop) (h0 : J 0 [] news) (hJn : ∀ i ys nw, J i ys nw → ys.length ≤ i)
    (step : ∀ i ys m₂ news₁ h tk C D oC own (E' : Value → Shared → Prop), i < n → PV i m₂ → LCg.NsObj oC m₂ → J i ys news₁ → C ≠ D → (∀ q ∈ news₁, q.1 ∉ wr ∧ q.1 ≠ C ∧ q.1 ≠ D) → (∀ q ∈ own, q.1 ≠ C ∧ q.1 ≠ D) → St (i + 1) h →
      Fr base L h m → News base L h ((C, oC) :: (D, LCg.lst ys) :: (news₁ ++ own)) →
      wpAny (model PR w) A (forIn ifs true fun c r => if r = true then do let ok ← isTrue c (compEnvC scope cl C env) (eval c (compEnvC scope cl C env)); pure (ForInStep.yield ok) else pure (ForInStep.yield r)) (fun ok s₃ =>
        if ok = true then wpAny (model PR w) A (eval elt (compEnvC scope cl C env)) (fun y s₄ => CTurn base L m { s₂ with heap := h, toks := tk } wr C D oC own ys (J (i + 1)) (ys ++ [y]) s₄) E' s₃
        else CTurn base L m { s₂ with heap := h, toks := tk } wr C D oC own ys (J (i + 1)) ys s₃) E' { s₂ with heap := h, toks := tk })
    (hRR : ∀ D C h tk m' ys news', Fr base L h m → News base L h ((D, LCg.lst ys) :: news') → h.Ns C m' → base.get? C = none → base.get? D = none → C ≠ L → D ≠ L → C ≠ D → (∀ q ∈ news', q.1 ≠ C ∧ q.1 ≠ D) → J n ys news' → RR (.ref D) C (.ok .next) { s₂ with heap := h, toks := tk }) :
    wpAny (model PR w) A (newList []) (fun acc s₃ => wpAny (model PR w) A (newFunctionEnv scope env.globals cl [] env.qual none .none (some env)) (fun cenv s₄ =>
      codeAny (model PR w) A (.compStart (.ListComp elt [⟨target, iter, ifs, 0⟩] scope pos) 0 (.ref I) acc { cenv with scope := relabel scope env }) (RR acc cenv.locals) s₄) E s₃) E s₂ := by
  refine wpAny_newObj_type (wpAny_newFunctionEnv hcell (by intro y hy; simp at hy) (fun h₁ hns₁ hsb₁ => ?_) hkind)
  dsimp only at hns₁ hsb₁ ⊢
  generalize hH2 : s₂.heap.push { cls := .type "list", dict := none, data := .seq ([] : List Value).toArray } = H2 at hns₁ hsb₁ ⊢
  have hC : H2.objs.size = s₂.heap.objs.size + 1 := by rw [← hH2, Heap.size_push]
  have hDC : s₂.heap.objs.size ≠ H2.objs.size := by rw [hC]; exact Nat.ne_of_lt (Nat.lt_succ_self _)
  have below : ∀ b, b < s₂.heap.objs.size → b ≠ H2.objs.size ∧ b ≠ s₂.heap.objs.size := fun b hb => ⟨by rw [hC]; exact Nat.ne_of_lt (Nat.lt_succ_of_lt hb), Nat.ne_of_lt hb⟩
  have hDf : s₂.heap.objs.size ∉ fp := fun hm => Nat.lt_irrefl _ (hfp _ hm)
  have hCf : H2.objs.size ∉ fp := fun hm => by have := hfp _ hm; rw [hC] at this; exact Nat.lt_irrefl _ (Nat.lt_of_succ_lt this)
  have old : ∀ b o, s₂.heap.get? b = some o → h₁.get? b = some o := fun b o e => hsb₁.extBut b o (below b (Heap.lt_size e)).1 (Heap.get?_push_of_some _ (hH2 ▸ Heap.get?_push_of_some _ e))
  have hacc : h₁.get? s₂.heap.objs.size = some (LCg.lst []) := hsb₁.extBut _ _ hDC (Heap.get?_push_of_some _ (hH2 ▸ Heap.get?_push_size _ rfl))
  have hst₁ : St 0 h₁ := W.frame _ _ _ hst fun b _ o e => old b o e
  have fresh : ∀ a, s₂.heap.objs.size ≤ a → s₂.heap.get? a = none := fun a ha => by
    cases e : s₂.heap.get? a with
    | none => rfl
    | some o' => exact absurd (Heap.lt_size e) (Nat.not_lt.mpr ha)
  have fresh₀ : ∀ a, s₂.heap.objs.size ≤ a → base.get? a = none := fun a ha => by
    cases e : base.get? a with
    | none => rfl
    | some o' => have := F.keep a o' e; rw [fresh a ha] at this; cases this
  have hD₀ : base.get? s₂.heap.objs.size = none := fresh₀ _ (Nat.le_refl _)
  have hC₀ : base.get? H2.objs.size = none := fresh₀ _ (by rw [hC]; exact Nat.le_succ _)
  have hLlt : L < s₂.heap.objs.size := F.ns.lt
  have hDL : s₂.heap.objs.size ≠ L := Ne.symm (below L hLlt).2
  have hCL : H2.objs.size ≠ L := Ne.symm (below L hLlt).1
  have hLw : L ∉ wr := fun h => hLf (W.sub _ h)
  have hCw : H2.objs.size ∉ wr := fun h => hCf (W.sub _ h)
  have hDw : s₂.heap.objs.size ∉ wr := fun h => hDf (W.sub _ h)
  have oldw : ∀ b o, base.get? b = some o → b ∉ wr := fun b o e hb => by rw [hwr b hb] at e; cases e
  have off₀ : ∀ q ∈ news, q.1 ∉ wr ∧ q.1 ≠ H2.objs.size ∧ q.1 ≠ s₂.heap.objs.size := fun q hq => ⟨hnw q hq, below _ (Heap.lt_size (N q hq).1)⟩
  have loop : ∀ s₃ : Shared, s₃ = { s₂ with heap := h₁, toks := s₂.toks + ([] : List (Str × Value)).length } →
      codeAny (model PR w) A (.compLoop (.ListComp elt [⟨target, iter, ifs, 0⟩] scope pos) 0 (.ref I) (.ref s₂.heap.objs.size) (compEnvC scope cl H2.objs.size env))
        (RR (.ref s₂.heap.objs.size) H2.objs.size) s₃ := by
    rintro s₃ rfl
    refine comp_loop
      (fun k s' => ∃ h' tk i ys m' news', s' = { s₂ with heap := h', toks := tk } ∧ i ≤ n ∧ k = n + 1 - i ∧ St i h' ∧ Fr base L h' m ∧ h'.Ns H2.objs.size m' ∧ News base L h' ((s₂.heap.objs.size, LCg.lst ys) :: news') ∧
        (∀ q ∈ news', q.1 ∉ wr ∧ q.1 ≠ H2.objs.size ∧ q.1 ≠ s₂.heap.objs.size) ∧ J i ys news') ?_ (n + 1)
      ⟨h₁, _, 0, [], _, news, rfl, Nat.zero_le _, rfl, hst₁, F.keeps old, hns₁, fun p hp => ?_, off₀, h0⟩
    · rintro k s' ⟨h', tk, i, ys, m', news', rfl, hi, rfl, hst', F', hn', N', off', hJ⟩
      have nextF : ∀ h₂ : Heap, (∀ b o, b ∉ wr → h'.get? b = some o → h₂.get? b = some o) → Fr base L h₂ m ∧ h₂.Ns H2.objs.size m' ∧ News base L h₂ ((s₂.heap.objs.size, LCg.lst ys) :: news') := fun h₂ hk₂ =>
        ⟨⟨F'.ns.at' fun o e => hk₂ _ o hLw e, fun b o e => hk₂ b o (oldw b o e) (F'.keep b o e), F'.above⟩, hn'.at' fun o e => hk₂ _ o hCw e, fun p hp => by
          refine ⟨hk₂ _ _ ?_ (N' p hp).1, (N' p hp).2⟩
          rcases List.mem_cons.mp hp with rfl | hp
          · exact hDw
          · exact (off' p hp).1⟩
      by_cases hlt : i < n
      · refine W.item i _ _ _ hlt hst' fun v h₂ tk₂ hMd hk₂ => ?_
        refine W.go i v _ _ _ hMd fun h₃ hP hst₃ hk₃ => ?_
        obtain ⟨F₃, n₃, N₃⟩ := nextF h₃ fun b o hb x => hk₃ b o hb (hk₂ b o hb x)
        refine hasg H2.objs.size i v m' _ _ _ hP n₃ fun h₄ tk₄ m₂ hn₄ hPV hk₄ => ?_
        replace hk₄ : ∀ b o, b ≠ H2.objs.size → h₃.get? b = some o → h₄.get? b = some o := hk₄
        have hst₄ : St (i + 1) h₄ := W.frame _ _ _ hst₃ fun b hb o e => hk₄ b o (fun q => hCf (by have q' : b = H2.objs.size := q; rw [← q']; exact hb)) e
        obtain ⟨oC, heC, hoC⟩ := LCg.ns_obj hn₄
        have F₄ : Fr base L h₄ m := ⟨F₃.ns.at' fun o e => hk₄ _ o (Ne.symm hCL) e, fun b o e => hk₄ b o (fun q => by rw [q, hC₀] at e; cases e) (F₃.keep b o e), F₃.above⟩
        have Nown : News base L h₄ (PyProof.Rows.ownOf base fp h₄) := news_ownOf hLf
        have N₄ : News base L h₄ ((H2.objs.size, oC) :: (s₂.heap.objs.size, LCg.lst ys) :: (news' ++ PyProof.Rows.ownOf base fp h₄)) := fun p hp => by
          rcases List.mem_cons.mp hp with rfl | hp
          · exact ⟨heC, hCL, hC₀⟩
          · rcases List.mem_cons.mp hp with rfl | hp
            · exact ⟨hk₄ _ _ hDC (N₃ _ (.head _)).1, (N₃ _ (.head _)).2⟩
            · rcases List.mem_append.mp hp with hp | hp
              · exact ⟨hk₄ _ _ (off' p hp).2.1 (N₃ p (.tail _ hp)).1, (N₃ p (.tail _ hp)).2⟩
              · exact Nown p hp
        have hback : ∀ (h₅ : Heap) (tk₅ : Nat) (ys' : List Value) (news₅ : List (Addr × Obj)), Fr base L h₅ m → News base L h₅ ((H2.objs.size, oC) :: (s₂.heap.objs.size, LCg.lst ys) :: (news₅ ++ PyProof.Rows.ownOf base fp h₄)) → St (i + 1) h₅ := fun h₅ tk₅ ys' news₅ F₅ N₅ => by
          refine W.frame _ _ _ hst₄ fun b hb o e => ?_
          cases hn : base.get? b with
          | some o₀ =>
            have : o₀ = o := by have q := F₄.keep b o₀ hn; rw [e] at q; exact (Option.some.inj q).symm
            exact this ▸ F₅.keep b o₀ hn
          | none => exact (N₅ _ (.tail _ (.tail _ (List.mem_append_right _ (mem_ownOf hb hn e))))).1
        have hoo : ∀ q ∈ PyProof.Rows.ownOf base fp h₄, q.1 ≠ H2.objs.size ∧ q.1 ≠ s₂.heap.objs.size := fun q hq =>
          have := ownOf_sub q hq
          ⟨fun e => hCf (e ▸ this), fun e => hDf (e ▸ this)⟩
        refine wpAny_mono (step i ys m₂ news' h₄ tk₄ H2.objs.size s₂.heap.objs.size oC (PyProof.Rows.ownOf base fp h₄) _ hlt hPV hoC hJ (Ne.symm hDC) off' hoo hst₄ F₄ N₄) (fun ok s₅ h₅ => ?_) fun _ _ e => e
        cases ok with
        | true =>
          simp only [if_true] at h₅ ⊢
          refine wpAny_mono h₅ (fun y s₆ h₆ => ?_) fun _ _ e => e
          obtain ⟨h₆', tk₆, news₆, rfl, F₆, N₆, off₆, hJ₆⟩ := h₆
          have hst₆ := hback h₆' tk₆ ys news₆ F₆ N₆
          have zD := (N₆ (s₂.heap.objs.size, LCg.lst ys) (.tail _ (.head _))).1
          have zC := (N₆ (H2.objs.size, oC) (.head _)).1
          refine append_at (hsz := by show ys.toArray.size ≤ sizeLine; rw [List.size_toArray]; exact Nat.le_trans (hJn _ _ _ hJ) (Nat.le_trans hi hsz)) zD fun h₇ hs₇ hD₇ => ?_
          refine ⟨n + 1 - (i + 1), by (first | lia | omega), h₇, tk₆, i + 1, ys ++ [y], _, news₆, rfl, hlt, rfl, W.frame _ _ _ hst₆ fun b hb o e => hs₇.extBut b o (fun q => hDf (q ▸ hb)) e, F₆.change hs₇ hDL hD₀,
            (hoC.ns zC).sameBut hs₇ (Ne.symm hDC), fun p hp => ?_, off₆, hJ₆⟩
          rcases List.mem_cons.mp hp with rfl | hp
          · exact ⟨hD₇.trans (congrArg some (LCg.lst_snoc ys y)), hDL, hD₀⟩
          · have z := N₆ p (.tail _ (.tail _ (List.mem_append_left _ hp)))
            exact ⟨hs₇.extBut _ _ (off₆ p hp).2.2 z.1, z.2⟩
        | false =>
          simp only [Bool.false_eq_true, if_false] at h₅ ⊢
          obtain ⟨h₆', tk₆, news₆, rfl, F₆, N₆, off₆, hJ₆⟩ := h₅
          have hst₆ := hback h₆' tk₆ ys news₆ F₆ N₆
          have zC := (N₆ (H2.objs.size, oC) (.head _)).1
          refine ⟨n + 1 - (i + 1), by (first | lia | omega), h₆', tk₆, i + 1, ys, _, news₆, rfl, hlt, rfl, hst₆, F₆, hoC.ns zC, fun p hp => ?_, off₆, hJ₆⟩
          rcases List.mem_cons.mp hp with rfl | hp
          · exact N₆ _ (.tail _ (.head _))
          · exact N₆ p (.tail _ (.tail _ (List.mem_append_left _ hp)))
      · obtain rfl : i = n := Nat.le_antisymm hi (Nat.not_lt.mp hlt)
        refine W.done _ _ _ hst' fun h₂ tk₂ hk₂ => ?_
        obtain ⟨F₃, n₃, N₃⟩ := nextF h₂ hk₂
        exact hRR _ _ h₂ tk₂ _ ys news' F₃ N₃ n₃ hC₀ hD₀ hCL hDL (Ne.symm hDC) (fun q hq => (off' q hq).2) hJ
    · rcases List.mem_cons.mp hp with rfl | hp
      · exact ⟨hacc, hDL, hD₀⟩
      · exact ⟨old _ _ (N p hp).1, (N p hp).2⟩
  exact codeAny_compStart_list (loop _ rfl) (hself _ _ _ hst₁ (loop _ rfl))

/-- a comprehension goes through its turns; then Fin -/
noncomputable def CGo (w : World) (A : Around) (base : Heap) (L : Addr) (m : Str → Option Value) (env : Env) (elt target iter : Expr) (ifs : List Expr) (scope : Scope) (cl : List (Str × Addr)) (pos : Pos) (Fin : List Value → List (Addr × Obj) → Prop) (it : Value) (s₂ : Shared) : Prop :=
  ∀ (RR : Value → Addr → Result → Shared → Prop) (E : Value → Shared → Prop),
    (∀ D C h tk m' ys news', Fr base L h m → News base L h ((D, LCg.lst ys) :: news') → h.Ns C m' → base.get? C = none → base.get? D = none → C ≠ L → D ≠ L → C ≠ D → (∀ q ∈ news', q.1 ≠ C ∧ q.1 ≠ D) → Fin ys news' → RR (.ref D) C (.ok .next) { s₂ with heap := h, toks := tk }) →
    wpAny (model PR w) A (newList []) (fun acc s₃ => wpAny (model PR w) A (newFunctionEnv scope env.globals cl [] env.qual none .none (some env)) (fun cenv s₄ =>
      codeAny (model PR w) A (.compStart (.ListComp elt [⟨target, iter, ifs, 0⟩] scope pos) 0 it acc { cenv with scope := relabel scope env }) (RR acc cenv.locals) s₄) E s₃) E s₂

theorem CGo.of {elt target iter : Expr} {ifs : List Expr} {scope : Scope} {cl : List (Str × Addr)} {pos : Pos} {s₂ : Shared} {I : Addr} {fp wr : List Addr} {n : Nat} {P Md : Nat → Value → Heap → Prop} {St : Nat → Heap → Prop} {PV : Nat → (Str → Option Value) → Prop}
    {news : List (Addr × Obj)}
    (W : KTurns PR w A target I fp wr n P Md St) (hself : ∀ (s : Shared) (Q : Value → Shared → Prop) (E : Value → Shared → Prop), St 0 s.heap → Q (.ref I) s → wpAny (model PR w) A (pyIter (.ref I)) Q E s)
    (hasg : ∀ (C : Addr) (i : Nat) (v : Value) (m' : Str → Option Value) (s : Shared) (Q : Unit → Shared → Prop) (E : Value → Shared → Prop), P i v s.heap → s.heap.Ns C m' →
      (∀ h₂ tk₂ m₂, h₂.Ns C m₂ → PV i m₂ → (∀ b o, b ≠ C → s.heap.get? b = some o → h₂.get? b = some o) → Q () { s with heap := h₂, toks := tk₂ }) → wpAny (model PR w) A (assign target (compEnvC scope cl C env) v) Q E s)
    (hcell : ∀ y ∈ scope.names, y.2 ≠ .cell) (hkind : scope.kind = .function) (hsz : n ≤ sizeLine) (hst : St 0 s₂.heap) (hfp : ∀ b ∈ fp, b < s₂.heap.objs.size)
    (F : Fr base L s₂.heap m) (N : News base L s₂.heap news) (hLf : L ∉ fp) (hwr : ∀ b ∈ wr, base.get? b = none) (hnw : ∀ q ∈ news, q.1 ∉ wr)
    (J : Nat → List Value → List (Addr × Obj) → Prop) (h0 : J 0 [] news) (hJn : ∀ i ys nw, J i ys nw → ys.length ≤ i)
    (step : ∀ i ys m₂ news₁ h tk C D oC own (E' : Value → Shared → Prop), i < n → PV i m₂ → LCg.NsObj oC m₂ → J i ys news₁ → C ≠ D → (∀ q ∈ news₁, q.1 ∉ wr ∧ q.1 ≠ C ∧ q.1 ≠ D) → (∀ q ∈ own, q.1 ≠ C ∧ q.1 ≠ D) → St (i + 1) h →
      Fr base L h m → News base L h ((C, oC) :: (D, LCg.lst ys) :: (news₁ ++ own)) →
      wpAny (model PR w) A (forIn ifs true fun c r => if r = true then do let ok ← isTrue c (compEnvC scope cl C env) (eval c (compEnvC scope cl C env)); pure (ForInStep.yield ok) else pure (ForInStep.yield r)) (fun ok s₃ =>
        if ok = true then wpAny (model PR w) A (eval elt (compEnvC scope cl C env)) (fun y s₄ => CTurn base L m { s₂ with heap := h, toks := tk } wr C D oC own ys (J (i + 1)) (ys ++ [y]) s₄) E' s₃
        else CTurn base L m { s₂ with heap := h, toks := tk } wr C D oC own ys (J (i + 1)) ys s₃) E' { s₂ with heap := h, toks := tk }) :
    CGo w A base L m env elt target iter ifs scope cl pos (J n) (.ref I) s₂ := fun RR E hRR =>
  comp_core (PV := PV) W hsz hself hasg hcell hkind hst hfp F N hLf hwr hnw J h0 hJn step hRR

theorem asg_name {scope : Scope} {cl : List (Str × Addr)} {x : Str} {px : Pos} {P' : Nat → Value → Prop} (hx : scope.names.lookup x = some .local) (hkind : scope.kind = .function) :
    ∀ (C : Addr) (i : Nat) (v : Value) (m' : Str → Option Value) (s : Shared) (Q : Unit → Shared → Prop) (E : Value → Shared → Prop), P' i v → s.heap.Ns C m' →
      (∀ h₂ tk₂ m₂, h₂.Ns C m₂ → (∃ v, P' i v ∧ m₂ x = some v) → (∀ b o, b ≠ C → s.heap.get? b = some o → h₂.get? b = some o) → Q () { s with heap := h₂, toks := tk₂ }) → wpAny (model PR w) A (assign (.Name x px) (compEnvC scope cl C env) v) Q E s :=
  fun C i v m' s Q E hP hn h => wpAny_assign_Name (wpAny_storeName_local (lookup_relabel_local hx) hn (fun h₃ hn₃ hs₃ => h h₃ _ _ hn₃ ⟨v, hP, by simp⟩ fun b o hb e => hs₃.extBut b o hb e) (by simp [compEnvC, relabel, hkind]))

theorem asg_pair {scope : Scope} {cl : List (Str × Addr)} {xi xc : Str} {pk pv pt : Pos} {x1 : Nat} {Pt : Nat → Array Value → Prop} (hh : A.handled = none) (h2 : ∀ i vals, Pt i vals → ∃ v0 v1, vals = #[v0, v1])
    (hxi : scope.names.lookup xi = some .local) (hxc : scope.names.lookup xc = some .local) (hne : xi ≠ xc) (hkind : scope.kind = .function) :
    ∀ (C : Addr) (i : Nat) (v : Value) (m' : Str → Option Value) (s : Shared) (Q : Unit → Shared → Prop) (E : Value → Shared → Prop), (∃ T vals, v = .ref T ∧ Pt i vals ∧ s.heap.IsTuple T vals) → s.heap.Ns C m' →
      (∀ h₂ tk₂ m₂, h₂.Ns C m₂ → (∃ v0 v1, Pt i #[v0, v1] ∧ m₂ xi = some v0 ∧ m₂ xc = some v1) → (∀ b o, b ≠ C → s.heap.get? b = some o → h₂.get? b = some o) → Q () { s with heap := h₂, toks := tk₂ }) →
      wpAny (model PR w) A (assign (.Tuple [.Name xi pk, .Name xc pv] x1 pt) (compEnvC scope cl C env) v) Q E s := by
  rintro C i v m' s Q E ⟨T, vals, rfl, hP, hT⟩ hn h
  obtain ⟨v0, v1, rfl⟩ := h2 i vals hP
  refine wpAny_assign_Tuple hh hT rfl rfl fun h₃ hx₃ => ?_
  replace hx₃ : Heap.ExtBut s.heap.objs.size s.heap h₃ := hx₃
  have up₃ : ∀ b o, s.heap.get? b = some o → h₃.get? b = some o := fun b o x => hx₃ b o (Nat.ne_of_lt (Heap.lt_size x)) x
  show wpAny _ A (do holding [v1] (assign (.Name xi pk) (compEnvC scope cl C env) v0); do holding [] (assign (.Name xc pv) (compEnvC scope cl C env) v1); pure ()) _ _ _
  have hp : ((compEnvC scope cl C env).scope.kind == .class || ((compEnvC scope cl C env).scope.kind == .module && (compEnvC scope cl C env).locals != (compEnvC scope cl C env).globals)) = false := by simp [compEnvC, relabel, hkind]
  refine wpAny_bind (wpAny_holding (wpAny_assign_Name (wpAny_storeName_local (lookup_relabel_local hxi) (hn.at' fun o e => up₃ _ o e) (fun h₄ hn₄ hs₄ => ?_) hp)))
  replace hs₄ : Heap.SameBut C h₃ h₄ := hs₄
  refine wpAny_bind (wpAny_holding (wpAny_assign_Name (wpAny_storeName_local (lookup_relabel_local hxc) hn₄ (fun h₅ hn₅ hs₅ => wpAny_pure ?_) hp)))
  replace hs₅ : Heap.SameBut C h₄ h₅ := hs₅
  refine h h₅ _ _ hn₅ ⟨v0, v1, hP, ?_, by simp⟩ fun b o hb e => hs₅.extBut b o hb (hs₄.extBut b o hb (up₃ b o e))
  simp [hne]

theorem ListComp_K {elt target iter : Expr} {ifs : List Expr} {scope : Scope} {cl : List (Str × Addr)} {pos : Pos} {Q : Value → Shared → Prop}
    (hclos : closureFor scope env = pure cl) (hkind : scope.kind = .function) (hnames : ∀ y ∈ scope.names, y.2 = .local → scope.names.lookup y.1 = some .local)
    (h : wpAny (model PR w) A (eval iter env) (fun xv s₁ => wpAny (model PR w) A (pyIter xv) (fun it s₂ => ∃ (base : Heap) (L : Addr) (m : Str → Option Value) (Fin : List Value → List (Addr × Obj) → Prop), CGo w A base L m env elt target iter ifs scope cl pos Fin it s₂ ∧
      ∀ D h tk ys news', Fr base L h m → News base L h ((D, LCg.lst ys) :: news') → (∀ q ∈ news', q.1 ≠ D) → Fin ys news' → Q (.ref D) { s₂ with heap := h, toks := tk }) E s₁) E s)
    (hs : ∀ x, foldedSetIterable iter env x = pure x := by intro _; rfl) :
    wpAny (model PR w) A (eval (.ListComp elt [⟨target, iter, ifs, 0⟩] scope pos) env) Q E s := by
  rw [eval_ListComp]
  refine wpAny_comprehension_free (use := none) rfl hs hclos hkind hnames (wpAny_mono h (fun xv s₁ h₁ => wpAny_mono h₁ (fun it s₂ h₂ => ?_) fun _ _ e => e) fun _ _ e => e)
  obtain ⟨base, L, m, Fin, G, k⟩ := h₂
  refine G _ _ ?_
  intro D C h tk m' ys news' F' N' hn hC₀ hD₀ hCL hDL hCD offC fin
  refine ⟨m', hn, fun h'' hs'' => k D h'' tk ys news' (F'.change hs'' hCL hC₀) (fun p hp => ?_) (fun q hq => (offC q hq).2) fin⟩
  refine ⟨hs''.extBut _ _ ?_ (N' p hp).1, (N' p hp).2⟩
  rcases List.mem_cons.mp hp with rfl | hp
  · exact Ne.symm hCD
  · exact (offC p hp).1

theorem Assign_K {elt target iter : Expr} {ifs : List Expr} {y : Str} {py : Pos} {scope : Scope} {cl : List (Str × Addr)} {pos spos : Pos} {Q : Flow → Shared → Prop}
    (hsw : swapsWith (.ListComp elt [⟨target, iter, ifs, 0⟩] scope pos) (some (.Name y py)) spos.line env = pure true)
    (hclos : closureFor scope env = pure cl) (hkind : scope.kind = .function) (hnames : ∀ y ∈ scope.names, y.2 = .local → scope.names.lookup y.1 = some .local)
    (hy : env.kindOf y = some .local) (hp : (env.scope.kind == .class || (env.scope.kind == .module && env.locals != env.globals)) = false)
    (h : wpAny (model PR w) A (eval iter env) (fun xv s₁ => wpAny (model PR w) A (pyIter xv) (fun it s₂ => ∃ (base : Heap) (m : Str → Option Value) (Fin : List Value → List (Addr × Obj) → Prop), CGo w A base env.locals m env elt target iter ifs scope cl pos Fin it s₂ ∧
      ∀ D h tk ys news', Fr base env.locals h (fun z => if z = y then some (.ref D) else m z) → News base env.locals h ((D, LCg.lst ys) :: news') → (∀ q ∈ news', q.1 ≠ D) → Fin ys news' → Q .next { s₂ with heap := h, toks := tk }) E s₁) E s)
    (hs : ∀ x, foldedSetIterable iter env x = pure x := by intro _; rfl) :
    wpAny (model PR w) A (exec (.Assign [.Name y py] (.ListComp elt [⟨target, iter, ifs, 0⟩] scope pos) spos) env) Q E s := by
  rw [exec_Assign_Name_used _ _ _ _ hsw]
  refine wpAny_bind (wpAny_standAt (wpAny_bind ?_))
  show wpAny _ A (do let _ ← comprehension (.ListComp elt [⟨target, iter, ifs, 0⟩] scope pos) scope env _ (newList []) false (eval iter env) (some (assign (.Name y py) env))) _ _ s
  refine wpAny_bind (wpAny_mono (wpAny_comprehension_free (use := some (assign (.Name y py) env)) (Q := fun _ s' => Q .next s') rfl hs hclos hkind hnames
    (wpAny_mono h (fun xv s₁ h₁ => wpAny_mono h₁ (fun it s₂ h₂ => ?_) fun _ _ e => e) fun _ _ e => e)) (fun _ s' hq => wpAny_pure (wpAny_pure hq)) fun _ _ e => e)
  obtain ⟨base, m, Fin, G, k⟩ := h₂
  refine G _ _ ?_
  intro D C h' tk m' ys news' F' N' hn hC₀ hD₀ hCL hDL hCD offC fin
  show wpAny _ A (assign (.Name y py) env (.ref D)) _ _ _
  refine wpAny_assign_Name (wpAny_storeName_local hy F'.ns (fun h₂ hn₂ hs₂ => ?_) hp)
  have hL₀ : base.get? env.locals = none := Heap.get?_none_of_le F'.above
  have F₂ : Fr base env.locals h₂ (fun z => if z = y then some (.ref D) else m z) := ⟨hn₂, fun b o e => hs₂.extBut b o (fun q => by rw [q, hL₀] at e; cases e) (F'.keep b o e), F'.above⟩
  refine ⟨m', hn.sameBut hs₂ hCL, fun h'' hs'' => k D h'' _ ys news' (F₂.change hs'' hCL hC₀) (fun p hp => ?_) (fun q hq => (offC q hq).2) fin⟩
  have z : h₂.get? p.1 = some p.2 := hs₂.extBut _ _ (N' p hp).2.1 (N' p hp).1
  refine ⟨hs''.extBut _ _ ?_ z, (N' p hp).2⟩
  rcases List.mem_cons.mp hp with rfl | hp
  · exact Ne.symm hCD
  · exact (offC p hp).1

theorem ld_cellN {M : Model} {h₀ : Heap} {news : List (Addr × Obj)} {C c : Addr} {o : Obj} {scope : Scope} {cl : List (Str × Addr)} {x : Str} {pos : Pos} {v : Value} {Q : Value → Shared → Prop} (N : News h₀ L s.heap news) (hc : cl.lookup x = some c) (hm : (c, o) ∈ news) (hd : o.data = .cell (some v)) (h : Q v s)
    (hk : (compEnvC scope cl C env).scope.kind = .function) (hl : (compEnvC scope cl C env).kindOf x = some .cell) (hb : (x == ("__debug__" : Str)) = false) :
    wpAny M A (eval (.Name x pos) (compEnvC scope cl C env)) Q E s := ldCellK hc ⟨o, N.get hm, hd⟩ h hk hl hb
end
end Mine
end
section
set_option maxRecDepth 100000
theorem Mine.off_Comps2 : True := by
  w_top off
  trivial
open PySem.Builtin.Int
open PySem PySem.W PyProof.Rows PySem.Calls
namespace Mine

/-- one turn of a comprehension -/
noncomputable def CStep (w : World) (A : Around) (base : Heap) (L : Addr) (m : Str → Option Value) (env : Env) (elt : Expr) (ifs : List Expr) (scope : Scope) (cl : List (Str × Addr)) (s : Shared) (wr : List Addr) (n : Nat) (PV : Nat → (Str → Option Value) → Prop) (J : Nat → List Value → List (Addr × Obj) → Prop) : Prop :=
  ∀ i ys m₂ news₁ h tk C D oC own (E' : Value → Shared → Prop), i < n → PV i m₂ → LCg.NsObj oC m₂ → J i ys news₁ → C ≠ D → (∀ q ∈ news₁, q.1 ∉ wr ∧ q.1 ≠ C ∧ q.1 ≠ D) → (∀ q ∈ own, q.1 ≠ C ∧ q.1 ≠ D) → (∀ b ∈ wr, ∃ o, h.get? b = some o) →
      Fr base L h m → News base L h ((C, oC) :: (D, LCg.lst ys) :: (news₁ ++ own)) →
      wpAny (model PR w) A (forIn ifs true fun c r => if r = true then do let ok ← isTrue c (compEnvC scope cl C env) (eval c (compEnvC scope cl C env)); pure (ForInStep.yield ok) else pure (ForInStep.yield r)) (fun ok s₃ =>
        if ok = true then wpAny (model PR w) A (eval elt (compEnvC scope cl C env)) (fun y s₄ => CTurn base L m { s with heap := h, toks := tk } wr C D oC own ys (J (i + 1)) (ys ++ [y]) s₄) E' s₃
        else CTurn base L m { s with heap := h, toks := tk } wr C D oC own ys (J (i + 1)) ys s₃) E' { s with heap := h, toks := tk }

section
variable {w : World} {A : Around} {s : Shared} {env : Env} {base : Heap} {E : Value → Shared → Prop} {L : Addr} {m : Str → Option Value} {news : List (Addr × Obj)} {elt iter : Expr} {ifs : List Expr} {scope : Scope} {cl : List (Str × Addr)} {pos : Pos}
  {J : Nat → List Value → List (Addr × Obj) → Prop} {Q : Value → Shared → Prop} {x xi xc : Str} {px pk pv pt : Pos} {x1 : Nat}

theorem comp_range {r : Addr} {a b : Int} {t u v : Tok} {n : Nat} (hh : A.handled = none) (hr : IsRange s.heap r a b 1 t u v) (hsm : Builtin.Range.small a b 1 = true) (hn : Builtin.Range.rangeSize a b 1 = ((n : Nat) : Int)) (hsz : n ≤ sizeLine)
    (hx : scope.names.lookup x = some .local) (hcell : ∀ y ∈ scope.names, y.2 ≠ .cell) (hkind : scope.kind = .function) (F : Fr base L s.heap m) (N : News base L s.heap news)
    (h0 : J 0 [] news) (hJn : ∀ i ys nw, J i ys nw → ys.length ≤ i)
    (step : CStep w A base L m env elt ifs scope cl s [s.heap.objs.size] n (fun i m₂ => ∃ v, (∃ t, v = .int (a + (i : Nat) * 1) t) ∧ m₂ x = some v) J)
    (fin : ∀ H, CGo w A base L m env elt (.Name x px) iter ifs scope cl pos (J n) (.ref s.heap.objs.size) { s with heap := H } → Q (.ref s.heap.objs.size) { s with heap := H }) :
    wpAny (model PR w) A (pyIter (.ref r)) Q E s := by
  refine wpAny_pyIter_range hr hsm (fin _ ?_)
  have W := Walks.range (prog := PR) (w := w) (A := A) hh s.heap.objs.size a 1 n
  refine CGo.of (KTurns.ofWalks W fun _ _ _ _ _ _ hQ => wpAny_pure hQ) (fun _ _ _ st hQ => W.self _ _ _ _ st hQ) (fun C i v m' s Q E hP => asg_name (P' := fun i v => ∃ t, v = .int (a + (i : Nat) * 1) t) hx hkind C i v m' s Q E hP)
    hcell hkind hsz (by show IsRangeIter _ _ _ _ _; rw [hn]; simpa using Heap.get?_push_size _ rfl) (fun b hb => ?_) (F.keeps fun _ _ e => Heap.get?_push_of_some _ e) (N.grown fun _ _ e => Heap.get?_push_of_some _ e) ?_ ?_ ?_ J h0 hJn
    (fun i ys m₂ news₁ h tk C D oC own E' hi hp hC hJ hCD h1 h2 hst F1 N1 => step i ys m₂ news₁ h tk C D oC own E' hi hp hC hJ hCD h1 h2 (fun b hb => (List.mem_singleton.mp hb).symm ▸ ⟨_, hst⟩) F1 N1)
  · rw [List.mem_singleton.mp hb]
    show s.heap.objs.size < (s.heap.push _).objs.size
    rw [Heap.size_push]; exact Nat.lt_succ_self _
  · intro hm; exact Nat.ne_of_lt F.ns.lt (List.mem_singleton.mp hm)
  · intro b hb; rw [List.mem_singleton.mp hb]; exact next_is_new F
  · intro q hq hm; exact Nat.ne_of_lt (Heap.lt_size (N q hq).1) (List.mem_singleton.mp hm)

theorem comp_list {ax : Addr} {its : Array Value} (hh : A.handled = none) (hl : s.heap.IsList ax its) (hLa : L ≠ ax) (hsz : its.size ≤ sizeLine)
    (hx : scope.names.lookup x = some .local) (hcell : ∀ y ∈ scope.names, y.2 ≠ .cell) (hkind : scope.kind = .function) (F : Fr base L s.heap m) (N : News base L s.heap news)
    (h0 : J 0 [] news) (hJn : ∀ i ys nw, J i ys nw → ys.length ≤ i)
    (step : CStep w A base L m env elt ifs scope cl s [s.heap.objs.size] its.size (fun i m₂ => ∃ v, its[i]? = some v ∧ m₂ x = some v) J)
    (fin : ∀ H, CGo w A base L m env elt (.Name x px) iter ifs scope cl pos (J its.size) (.ref s.heap.objs.size) { s with heap := H } → Q (.ref s.heap.objs.size) { s with heap := H }) :
    wpAny (model PR w) A (pyIter (.ref ax)) Q E s := by
  have hlt : ax < s.heap.objs.size := by obtain ⟨_, e, _⟩ := hl; exact Heap.lt_size e
  refine wpAny_pyIter_list hl (fin _ ?_)
  have W := Walks.list (prog := PR) (w := w) (A := A) hh s.heap.objs.size ax (Nat.ne_of_lt hlt) its
  refine CGo.of (KTurns.ofWalks W fun _ _ _ _ _ _ hQ => wpAny_pure hQ) (fun _ _ _ st hQ => W.self _ _ _ _ st hQ) (fun C i v m' s Q E hP => asg_name (P' := fun i v => its[i]? = some v) hx hkind C i v m' s Q E hP)
    hcell hkind hsz ⟨⟨_, Heap.get?_push_size _ rfl, rfl, rfl⟩, hl.push _⟩ (fun b hb => ?_) (F.keeps fun _ _ e => Heap.get?_push_of_some _ e) (N.grown fun _ _ e => Heap.get?_push_of_some _ e) ?_ ?_ ?_ J h0 hJn
    (fun i ys m₂ news₁ h tk C D oC own E' hi hp hC hJ hCD h1 h2 hst F1 N1 => step i ys m₂ news₁ h tk C D oC own E' hi hp hC hJ hCD h1 h2 (fun b hb => by rw [List.mem_singleton.mp hb]; obtain ⟨o, e, _⟩ := hst.1; exact ⟨o, e⟩) F1 N1)
  · show b < (s.heap.push _).objs.size
    rw [Heap.size_push]
    rcases List.mem_cons.mp hb with rfl | hb
    · exact Nat.lt_succ_self _
    · rw [List.mem_singleton.mp hb]; exact Nat.lt_succ_of_lt hlt
  · intro hm
    rcases List.mem_cons.mp hm with e | hm
    · exact Nat.ne_of_lt F.ns.lt e
    · exact hLa (List.mem_singleton.mp hm)
  · intro b hb; rw [List.mem_singleton.mp hb]; exact next_is_new F
  · intro q hq hm; exact Nat.ne_of_lt (Heap.lt_size (N q hq).1) (List.mem_singleton.mp hm)

theorem comp_enum {l : Addr} {its : Array Value} {E₂ : Value → Shared → Prop} (hh : A.handled = none) (hl : s.heap.IsList l its) (hLa : L ≠ l) (hsz : its.size ≤ sizeLine)
    (hxi : scope.names.lookup xi = some .local) (hxc : scope.names.lookup xc = some .local) (hne : xi ≠ xc) (hcell : ∀ y ∈ scope.names, y.2 ≠ .cell) (hkind : scope.kind = .function) (F : Fr base L s.heap m) (N : News base L s.heap news)
    (h0 : J 0 [] news) (hJn : ∀ i ys nw, J i ys nw → ys.length ≤ i)
    (step : CStep w A base L m env elt ifs scope cl s [s.heap.objs.size + 1, s.heap.objs.size] its.size (fun i m₂ => ∃ t v, its[i]? = some v ∧ m₂ xi = some (.int (i : Nat) t) ∧ m₂ xc = some v) J)
    (fin : ∀ e H, CGo w A base L m env elt (.Tuple [.Name xi pk, .Name xc pv] x1 pt) iter ifs scope cl pos (J its.size) (.ref e) { s with heap := H } → Q (.ref e) { s with heap := H }) :
    wpAny (model PR w) A (call (.type "enumerate") [.ref l]) (fun xv s₁ => wpAny (model PR w) A (pyIter xv) Q E₂ s₁) E s := by
  have hlt : l < s.heap.objs.size := by obtain ⟨_, e, _⟩ := hl; exact Heap.lt_size e
  have hLs : L < s.heap.objs.size := F.ns.lt
  refine call_enumerate_list hl fun h' hE hI hsz' hk => ?_
  refine wpAny_pyIter_enum hE (fin _ _ ?_)
  have W := (WalksT.enumerate (prog := PR) (w := w) (A := A) hh (s.heap.objs.size + 1) s.heap.objs.size l (Nat.succ_ne_self _) (ktu_ne 1 hlt) (Nat.ne_of_lt hlt) its).toU
  refine CGo.of (KTurns.ofWalksU W) (fun _ _ _ st hQ => W.self _ _ _ _ st hQ) (asg_pair hh (fun i vals ⟨t, v, _, e⟩ => ⟨_, _, e⟩) hxi hxc hne hkind)
    hcell hkind hsz ⟨⟨_, hE⟩, hI, hl.at fun o e => hk _ _ e⟩ (fun b hb => ?_) (F.keeps hk) (N.grown hk) ?_ ?_ ?_ J h0 hJn
    (fun i ys m₂ news₁ h tk C D oC own E' hi hp hC hJ hCD h1 h2 hst F1 N1 => step i ys m₂ news₁ h tk C D oC own E' hi ?_ hC hJ hCD h1 h2 ?_ F1 N1)
  · show b < h'.objs.size
    rw [hsz']
    have hb' : b = s.heap.objs.size + 1 ∨ b = s.heap.objs.size ∨ b = l := by simpa using hb
    rcases hb' with rfl | rfl | rfl
    · exact Nat.lt_succ_self _
    · exact Nat.lt_add_of_pos_right (by decide)
    · exact Nat.lt_add_right 2 hlt
  · intro hm
    have hb' : L = s.heap.objs.size + 1 ∨ L = s.heap.objs.size ∨ L = l := by simpa using hm
    rcases hb' with e | e | e
    · exact ktu_ne 1 hLs e
    · exact Nat.ne_of_lt hLs e
    · exact hLa e
  · intro b hb
    have hb' : b = s.heap.objs.size + 1 ∨ b = s.heap.objs.size := by simpa using hb
    rcases hb' with rfl | rfl
    · exact ktu_new F (Nat.le_add_right _ _)
    · exact ktu_new F (Nat.le_refl _)
  · intro p hp hI'
    have hb' : p.1 = s.heap.objs.size + 1 ∨ p.1 = s.heap.objs.size := by simpa using hI'
    have hlp := Heap.lt_size (N p hp).1
    rcases hb' with e | e
    · exact ktu_ne 1 hlp e
    · exact Nat.ne_of_lt hlp e
  · obtain ⟨v0, v1, ⟨t, v, e1, e2⟩, e3, e4⟩ := hp
    cases e2
    exact ⟨t, _, e1, e3, e4⟩
  · intro b hb
    have hb' : b = s.heap.objs.size + 1 ∨ b = s.heap.objs.size := by simpa using hb
    obtain ⟨⟨old, he⟩, ⟨oi, hoi, _⟩, _⟩ := hst
    rcases hb' with rfl | rfl
    · exact ⟨_, he⟩
    · exact ⟨_, hoi⟩

theorem comp_zip {l1 l2 : Addr} {xs ys : Array Value} {E₂ : Value → Shared → Prop} (hh : A.handled = none) (hl1 : s.heap.IsList l1 xs) (hl2 : s.heap.IsList l2 ys) (hLa1 : L ≠ l1) (hLa2 : L ≠ l2) (hsz : min xs.size ys.size ≤ sizeLine)
    (hxi : scope.names.lookup xi = some .local) (hxc : scope.names.lookup xc = some .local) (hne : xi ≠ xc) (hcell : ∀ y ∈ scope.names, y.2 ≠ .cell) (hkind : scope.kind = .function) (F : Fr base L s.heap m) (N : News base L s.heap news)
    (h0 : J 0 [] news) (hJn : ∀ i ys nw, J i ys nw → ys.length ≤ i)
    (step : CStep w A base L m env elt ifs scope cl s [s.heap.objs.size + 4, s.heap.objs.size + 3, s.heap.objs.size, s.heap.objs.size + 1] (min xs.size ys.size) (fun i m₂ => ∃ v0 v1, xs[i]? = some v0 ∧ ys[i]? = some v1 ∧ m₂ xi = some v0 ∧ m₂ xc = some v1) J)
    (fin : ∀ e H, CGo w A base L m env elt (.Tuple [.Name xi pk, .Name xc pv] x1 pt) iter ifs scope cl pos (J (min xs.size ys.size)) (.ref e) { s with heap := H } → Q (.ref e) { s with heap := H }) :
    wpAny (model PR w) A (call (.type "zip") [.ref l1, .ref l2]) (fun xv s₁ => wpAny (model PR w) A (pyIter xv) Q E₂ s₁) E s := by
  have hlt1 : l1 < s.heap.objs.size := by obtain ⟨_, e, _⟩ := hl1; exact Heap.lt_size e
  have hlt2 : l2 < s.heap.objs.size := by obtain ⟨_, e, _⟩ := hl2; exact Heap.lt_size e
  have hLs : L < s.heap.objs.size := F.ns.lt
  have D : ZipApart (s.heap.objs.size + 4) (s.heap.objs.size + 2) (s.heap.objs.size + 3) s.heap.objs.size (s.heap.objs.size + 1) l1 l2 := ktu_apart _ _ _ hlt1 hlt2
  refine call_zip_2 hl1 hl2 fun h' hz hTI hTO hi1 hi2 hsz' hk => ?_
  refine wpAny_pyIter_zip hz (fin _ _ ?_)
  have W := (WalksT.zip2 (prog := PR) (w := w) (A := A) hh _ _ _ _ _ _ _ D xs ys).toU
  refine CGo.of (KTurns.ofWalksU W) (fun _ _ _ st hQ => W.self _ _ _ _ st hQ) (asg_pair hh (fun i vals ⟨v0, v1, _, _, e⟩ => ⟨_, _, e⟩) hxi hxc hne hkind)
    hcell hkind hsz ⟨hz, hTI, ⟨_, _, hTO⟩, hi1, hi2, hl1.at fun o e => hk l1 o e, hl2.at fun o e => hk l2 o e⟩ (fun b hb => ?_) (F.keeps hk) (N.grown hk) ?_ ?_ ?_ J h0 hJn
    (fun i ys m₂ news₁ h tk C D oC own E' hi hp hC hJ hCD h1 h2 hst F1 N1 => step i ys m₂ news₁ h tk C D oC own E' hi ?_ hC hJ hCD h1 h2 ?_ F1 N1)
  · show b < h'.objs.size
    rw [hsz']
    have hb' : b = s.heap.objs.size + 4 ∨ b = s.heap.objs.size + 2 ∨ b = s.heap.objs.size + 3 ∨ b = s.heap.objs.size ∨ b = s.heap.objs.size + 1 ∨ b = l1 ∨ b = l2 := by simpa using hb
    rcases hb' with rfl | rfl | rfl | rfl | rfl | rfl | rfl
    · exact Nat.add_lt_add_left (by decide) _
    · exact Nat.add_lt_add_left (by decide) _
    · exact Nat.add_lt_add_left (by decide) _
    · exact Nat.lt_add_of_pos_right (by decide)
    · exact Nat.add_lt_add_left (by decide) _
    · exact Nat.lt_add_right 5 hlt1
    · exact Nat.lt_add_right 5 hlt2
  · intro hm
    have hb' : L = s.heap.objs.size + 4 ∨ L = s.heap.objs.size + 2 ∨ L = s.heap.objs.size + 3 ∨ L = s.heap.objs.size ∨ L = s.heap.objs.size + 1 ∨ L = l1 ∨ L = l2 := by simpa using hm
    rcases hb' with e | e | e | e | e | e | e
    · exact ktu_ne 4 hLs e
    · exact ktu_ne 2 hLs e
    · exact ktu_ne 3 hLs e
    · exact Nat.ne_of_lt hLs e
    · exact ktu_ne 1 hLs e
    · exact hLa1 e
    · exact hLa2 e
  · intro b hb
    have hb' : b = s.heap.objs.size + 4 ∨ b = s.heap.objs.size + 3 ∨ b = s.heap.objs.size ∨ b = s.heap.objs.size + 1 := by simpa using hb
    rcases hb' with rfl | rfl | rfl | rfl
    · exact ktu_new F (Nat.le_add_right _ _)
    · exact ktu_new F (Nat.le_add_right _ _)
    · exact ktu_new F (Nat.le_refl _)
    · exact ktu_new F (Nat.le_add_right _ _)
  · intro p hp hI'
    have hb' : p.1 = s.heap.objs.size + 4 ∨ p.1 = s.heap.objs.size + 3 ∨ p.1 = s.heap.objs.size ∨ p.1 = s.heap.objs.size + 1 := by simpa using hI'
    have hlp := Heap.lt_size (N p hp).1
    rcases hb' with e | e | e | e
    · exact ktu_ne 4 hlp e
    · exact ktu_ne 3 hlp e
    · exact Nat.ne_of_lt hlp e
    · exact ktu_ne 1 hlp e
  · obtain ⟨v0, v1, ⟨a, b, e1, e2, e5⟩, e3, e4⟩ := hp
    cases e5
    exact ⟨_, _, e1, e2, e3, e4⟩
  · intro b hb
    have hb' : b = s.heap.objs.size + 4 ∨ b = s.heap.objs.size + 3 ∨ b = s.heap.objs.size ∨ b = s.heap.objs.size + 1 := by simpa using hb
    obtain ⟨hz, hTI, ⟨a, b, hTO⟩, ⟨o1, ho1, _⟩, ⟨o2, ho2, _⟩, _⟩ := hst
    rcases hb' with rfl | rfl | rfl | rfl
    · exact ⟨_, hz⟩
    · exact ⟨_, hTO⟩
    · exact ⟨_, ho1⟩
    · exact ⟨_, ho2⟩

theorem comp_pairs {ax : Addr} {its : Array Value} {Ts : Nat → Addr} {vals : Nat → Array Value} (hh : A.handled = none) (hl : s.heap.IsList ax its) (hLa : L ≠ ax) (hsz : its.size ≤ sizeLine)
    (hit : ∀ j, j < its.size → its[j]? = some (.ref (Ts j))) (hT : ∀ j, j < its.size → s.heap.IsTuple (Ts j) (vals j)) (hLT : ∀ j, j < its.size → L ≠ Ts j) (h2 : ∀ j, j < its.size → ∃ v0 v1, vals j = #[v0, v1])
    (hxi : scope.names.lookup xi = some .local) (hxc : scope.names.lookup xc = some .local) (hne : xi ≠ xc) (hcell : ∀ y ∈ scope.names, y.2 ≠ .cell) (hkind : scope.kind = .function) (F : Fr base L s.heap m) (N : News base L s.heap news)
    (h0 : J 0 [] news) (hJn : ∀ i ys nw, J i ys nw → ys.length ≤ i)
    (step : CStep w A base L m env elt ifs scope cl s [s.heap.objs.size] its.size (fun i m₂ => ∃ v0 v1, vals i = #[v0, v1] ∧ m₂ xi = some v0 ∧ m₂ xc = some v1) J)
    (fin : ∀ H, CGo w A base L m env elt (.Tuple [.Name xi pk, .Name xc pv] x1 pt) iter ifs scope cl pos (J its.size) (.ref s.heap.objs.size) { s with heap := H } → Q (.ref s.heap.objs.size) { s with heap := H }) :
    wpAny (model PR w) A (pyIter (.ref ax)) Q E s := by
  have hlt : ax < s.heap.objs.size := by obtain ⟨_, e, _⟩ := hl; exact Heap.lt_size e
  have hTlt : ∀ j, j < its.size → Ts j < s.heap.objs.size := fun j hj => by obtain ⟨_, e, _⟩ := hT j hj; exact Heap.lt_size e
  refine wpAny_pyIter_list hl (fin _ ?_)
  have W := (WalksU.listOfTuples (prog := PR) (w := w) (A := A) hh s.heap.objs.size ax (Nat.ne_of_lt hlt) its Ts vals hit (fun j hj => Nat.ne_of_lt (hTlt j hj))).bound
  refine CGo.of (KTurns.ofWalksU W) (fun _ _ _ st hQ => W.self _ _ _ _ st hQ) (asg_pair hh (fun i vs ⟨hi, e⟩ => e ▸ h2 i hi) hxi hxc hne hkind)
    hcell hkind hsz ⟨⟨_, Heap.get?_push_size _ rfl, rfl, rfl⟩, hl.push _, fun k hk => (hT k hk).push _⟩ (fun b hb => ?_) (F.keeps fun _ _ e => Heap.get?_push_of_some _ e) (N.grown fun _ _ e => Heap.get?_push_of_some _ e) ?_ ?_ ?_ J h0 hJn
    (fun i ys m₂ news₁ h tk C D oC own E' hi hp hC hJ hCD h1 h2 hst F1 N1 => step i ys m₂ news₁ h tk C D oC own E' hi ?_ hC hJ hCD h1 h2 (fun b hb => by rw [List.mem_singleton.mp hb]; obtain ⟨o, e, _⟩ := hst.1; exact ⟨o, e⟩) F1 N1)
  · show b < (s.heap.push _).objs.size
    rw [Heap.size_push]
    rcases List.mem_cons.mp hb with rfl | hb
    · exact Nat.lt_succ_self _
    · rcases List.mem_cons.mp hb with rfl | hb
      · exact Nat.lt_succ_of_lt hlt
      · obtain ⟨k, hk, rfl⟩ := List.mem_map.mp hb
        exact Nat.lt_succ_of_lt (hTlt k (List.mem_range.mp hk))
  · intro hm
    rcases List.mem_cons.mp hm with e | hm
    · exact Nat.ne_of_lt F.ns.lt e
    · rcases List.mem_cons.mp hm with e | hm
      · exact hLa e
      · obtain ⟨k, hk, e⟩ := List.mem_map.mp hm
        exact hLT k (List.mem_range.mp hk) e.symm
  · intro b hb; rw [List.mem_singleton.mp hb]; exact next_is_new F
  · intro q hq hm; exact Nat.ne_of_lt (Heap.lt_size (N q hq).1) (List.mem_singleton.mp hm)
  · obtain ⟨v0, v1, ⟨_, e1⟩, e3, e4⟩ := hp
    exact ⟨_, _, e1.symm, e3, e4⟩
end
end Mine
end
section
set_option maxRecDepth 100000
theorem Mine.off_F9 : True := by
  w_top off
  trivial
open PySem.Builtin.Int
open PySem PySem.W PyProof.Rows PySem.Calls
namespace Mine
local macro_rules | `(tactic| walk_at "my_sideC") => `(tactic| (
  (case k6 => k_is); (case k7 => k_is); (case k9 => first | exact BindsTo.of_eq rfl | exact binds_K (by k_in) rfl (by k_is) rfl rfl rfl); (case kB => exact rfl); (case kD => decide +kernel); (case c2 => exact rfl); (case c3 => exact rfl); (case c4 => exact rfl)))
local macro_rules | `(tactic| walk_at "eval ListComp") => `(tactic| (k_here; k_dflt (refine ListComp_K (by rfl) (by rfl) (by decide) ?_ (fun _ => rfl))))
local macro_rules | `(tactic| walk_at "eval Name") => `(tactic| (k_here; k_dflt (refine' ld_cellN ?N ?c ?m ?d ?_ ?a ?b ?e; (case a => rfl); (case b => rfl); (case e => decide); (case N => k_asm); (case c => rfl); (case m => k_mem); (case d => assumption); k_whole)))
theorem words_snoc {ys : List Value} {f : Nat → Str} {i : Nat} {x : Str} {t : Tok} (hs : StrsAre ys ((List.range i).map f)) (e : x = f i) : StrsAre (ys ++ [.str x t]) ((List.range (i + 1)).map f) := by
  rw [List.range_succ, List.map_append, e]
  exact strs_app hs (.cons _ _ .nil)
theorem wordLow {k : Nat} (h : (k : Int) < 10) : NAMES.getD (k : Int).toNat Str.empty = word k := by
  have h10 : NAMES.length = 10 := rfl
  rw [Int.toNat_natCast]
  unfold word
  rw [List.getD_eq_getElem?_getD, List.getD_eq_getElem?_getD, List.getElem?_eq_getElem (by (first | lia | omega))]
  rfl
theorem wordHigh {k : Nat} (h : ¬ (k : Int) < 10) : baseText "0x" 16 (2 ^ k) = word k := by
  have h10 : NAMES.length = 10 := rfl
  unfold word
  rw [List.getD_eq_getElem?_getD, List.getElem?_eq_none (by (first | lia | omega))]
  rfl
section
variable {w : World} {g : Heap} {s : Shared} {A : Around} {Q : Value → Shared → Prop} {E : Value → Shared → Prop}

set_option maxHeartbeats 4000000 in
theorem words_ok (G : Gx w g A 2) (st : g.StaysIn s.heap) {r : Addr} {a n : Nat} {t u v : Tok} (hr : IsRange s.heap r (a : Int) (((a + n : Nat) : Int)) 1 t u v) (hn : a + n ≤ 32)
    (ret : ∀ D vs k h' tk, Keep [] s.heap h' → h'.get? D = some (lstO vs k) → s.heap.get? D = none → StrsAre vs ((List.range n).map fun i => word (a + i)) → Q (.ref D) { s with heap := h', toks := tk }) :
    wpAny (model PR w) A (call (.ref 112) [.ref r]) Q E s := by
  refine' enterC (binds := [("places", .ref r)]) G st [] (fun _ h => nomatch h) ?k6 ?k7 ?k9 ?kB ?kD ?_ ?c2 ?c3 ?c4
  walk_at "my_sideC"
  intro base L h₁ tk₁ cells b0 b1 b2 F N Y X' ⟨p, loose, mean, mg, mb, T'⟩ G' hlt hL
  k_cells Y
  (try simp only [List.cons_append, List.nil_append, List.append_nil] at N)
  have hr' : IsRange base r (a : Int) (((a + n : Nat) : Int)) 1 t u v := b2 _ _ (fun h => nomatch h) hr
  k_steps
  rename Fr _ _ _ _ => F2
  rename News _ _ _ _ => N2
  rename _ = Data.cell (some _) => hcd
  refine comp_range (J := fun i ys nw => nw = _ ∧ StrsAre ys ((List.range i).map fun i => word (a + i))) G'.hh (F2.keep _ _ hr') (small_one (by (first | lia | omega)) (by (first | lia | omega)) (by (first | lia | omega)) (by (first | lia | omega))) (n := n) (by rw [rangeSize_one]; split <;> (first | lia | omega)) (by rw [sizeLine_eq]; (first | lia | omega))
    rfl (by decide) rfl F2 N2 ⟨rfl, .nil⟩ (fun i ys nw h => by rw [h.2.length, List.length_map, List.length_range]; exact Nat.le_refl _) ?step (fun H go => ⟨base, L, _, _, go, fun D h tk ys news' F3 N3 off j => ?fin⟩)
  case fin =>
    obtain ⟨rfl, hs⟩ := j
    exact ret D _ _ h tk (keep_of b2 F3) (N3.get (.head _)) (fresh_of b2 N3 (.head _) (fun h => nomatch h)) hs
  case step =>
    rintro i ys m₂ news₁ h tk C D oC own E' hi ⟨v, ⟨tv, rfl⟩, hv⟩ hC ⟨rfl, hs⟩ hCD h1 h2 hex F3 N3
    rw [show (a : Int) + (i : Int) * 1 = ((a + i : Nat) : Int) by (first | lia | omega)] at hv
    simp only [List.cons_append, List.nil_append] at N3
    clear F2 N2
    refine wpAny_tests_nil ?_
    simp only [if_true]
    replace F3 : Fr base L h _ := F3
    replace N3 : News base L h _ := N3
    k_steps
    · refine CTurn.intro _ F3 N3 h1 ⟨rfl, words_snoc hs (x := NAMES.getD ((a + i : Nat) : Int).toNat Str.empty) (wordLow (by (first | lia | omega)))⟩
    · have hfl : (1 : Int) * 2 ^ ((a + i : Nat) : Int).toNat = 2 ^ (a + i) := by rw [Int.one_mul, Int.toNat_natCast]
      rw [hfl]
      refine P.hex_of_int (hsz := hexLen (by (first | lia | omega))) ?_
      k_steps
      refine CTurn.intro _ F3 N3 h1 ⟨rfl, words_snoc hs (wordHigh (by (first | lia | omega)))⟩
end
end Mine
end
section
set_option maxRecDepth 100000
theorem Mine.off_Lam : True := by
  w_top off
  trivial
open PySem.Builtin.Int
open PySem PySem.W PyProof.Rows PySem.Calls
namespace Mine
noncomputable def Stop (P : Prop) : Prop := P
theorem Stop.out {P : Prop} (h : Stop P) : P := h
local macro_rules | `(tactic| walk_at "subscriptTail") => `(tactic| (refine Stop.out ?_))

/-- a lambda is made: its code is made, or is found in the table -/
theorem lam_any {M : Model} {A : Around} {E : Value → Shared → Prop} {s : Shared} {h₀ : Heap} {L a c P : Addr} {m mg mb : Str → Option Value} {cn : Str} {cs : Scope} {ccd : Value} {cl : List (Str × Addr)} {news : List (Addr × Obj)} {g : Obj → List (Addr × Obj)}
    {p : Program} {loose : List Str} {mean : ExcName → Option Value} {name qual : Str} {params : Arguments} {body : Expr} {scope : Scope} {ps : Array Value} {pos : Pos} {firstLine : Nat} {clos : List (Str × Addr)} {cds : List (Addr × Obj)}
    {Q : Value → Shared → Prop} (F : Fr h₀ L s.heap m) (N : News h₀ L s.heap news) (T : Top p loose mean mg mb h₀) (C : CodeHd h₀ c P) (hcd : ccd = .ref c) (U : UpdF P (tabObj ps) news g)
    (tb : TabOk cds qual ps) (hcs : ∀ q ∈ cds, q ∈ news) (hcl : closureFor scope (envX cn cs L a ccd cl) = pure clos)
    (h : ∀ f c' x ox ps' ctv h' tk, Fr h₀ L h' m → News h₀ L h' ((f, kla_obj name qual params body scope clos ((mg "__name__").getD .none) c' ctv) :: (x, ox) :: g (tabObj ps')) →
      TabOk ((x, ox) :: cds) qual ps' → (∀ hh : Heap, (∀ q ∈ cds, h'.get? q.1 = some q.2 → hh.get? q.1 = some q.2) → hh.get? x = some ox → hh.CodeRec (.ref c') qual) → (∀ q ∈ news, q.1 < x) → (∀ q ∈ news, q.1 < f) → NoSeq ox → Q (.ref f) { s with heap := h', toks := tk }) :
    wpAny M A (makeFunction name qual params (.expr body) scope (envX cn cs L a ccd cl) [] [] [] pos firstLine) Q E s := by
  cases e : codeAmong pos ps.toList with
  | none =>
    refine kla_nest F N T C hcd U tb.tri e hcl fun f c' oc vs t ctv h' tk F' N' hd hv l1 l2 => ?_
    exact h f c' c' oc _ ctv h' tk F' N' (tb.push hd hv) (fun hh _ hx => ⟨c', oc, vs, t, rfl, hx, hd, hv⟩) l1 (fun q hq => Nat.lt_trans (l1 q hq) l2) (fun its n e => by rw [hd] at e; cases e)
  | some v =>
    obtain ⟨c', oc, vs, t, rfl, hm, hd, hv⟩ := tb.code pos v e
    obtain ⟨pre, post, e1, e2, e3, e4⟩ := U.split
    refine kla_hit F N T C hcd (by rw [e1]; exact List.mem_append_right _ (.head _)) tb.tri e hcl fun f ctv h' tk F' N' l1 => ?_
    refine h f c' f (kla_obj name qual params body scope clos ((mg "__name__").getD .none) c' ctv) ps ctv h' tk F' (fun q hq => N' q ?_) (tb.mono fun _ hp => .tail _ hp) (fun hh hk _ => ⟨c', oc, vs, t, rfl, hk _ hm (N' _ (.tail _ (hcs _ hm))).1, hd, hv⟩) l1 l1 (fun its n e => by cases e)
    rcases List.mem_cons.mp hq with rfl | hq
    · exact .head _
    · rcases List.mem_cons.mp hq with rfl | hq
      · exact .head _
      · rw [e2 (tabObj ps), ← e1] at hq; exact .tail _ hq

set_option maxHeartbeats 1000000 in
theorem key_lam {w : World} {hk : Heap} {f c' : Addr} {qual : Str} {pa p1 p2 p3 : Pos} {pm ctv : Value}
    (ho : hk.get? f = some (kla_obj "<lambda>" qual { posonlyargs := [], args := [{ arg := "item", annotation := none, pos := pa }], vararg := none, kwonlyargs := [], kw_defaults := [], kwarg := none, defaults := [] }
      (.Subscript (.Name "item" p1) (.Constant (.int 0) 0 p2) p3) { kind := .function, names := [("item", .local)], isGenerator := false, isCoroutine := false } [] pm c' ctv))
    (hcd : hk.CodeRec (.ref c') qual) : KeyOk w f hk := by
  refine ⟨⟨_, _, _, _, ho⟩, ?_⟩
  intro g s A Q E G st hks T v0 v1 hT ret
  refine enterL (binds := [("item", .ref T)]) G st (hks _ _ ho) rfl (hcd.keeps hks) rfl (locs rfl) ?_ rfl rfl rfl (by decide)
  intro base L h₁ b0 b1 b2 F N X' ⟨p, loose, mean, mg, mb, T'⟩ G' hL
  k_steps
  unfold Stop
  refine item_tupleT (l := [v0, v1]) (j := 0) ⟨_, F.keep _ _ (b2 _ _ hT), rfl, _, rfl⟩ (by decide) (by decide) rfl rfl ?_
  exact ret _ _ (fun b o _ e => F.keep _ _ (b2 _ _ e))
end Mine
end
section
set_option maxRecDepth 100000
theorem Mine.off_F10 : True := by
  w_top off
  trivial
open PySem.Builtin.Int
open PySem PySem.W PyProof.Rows PySem.Calls
namespace Mine

local macro_rules | `(tactic| walk_at "my_side") => `(tactic| (
  (case k6 => k_is); (case k7 => k_is); (case k9 => first | exact BindsTo.of_eq rfl | exact binds_K (by k_in) rfl (by k_is) rfl rfl rfl); (case c5 => decide); (case kB => exact locs rfl); (case c2 => exact rfl); (case c3 => exact rfl); (case c4 => exact rfl)))
local macro_rules | `(tactic| walk_at "eval ListComp") => `(tactic| (k_here; k_dflt (refine ListComp_K (by rfl) (by rfl) (by decide) ?_ (fun _ => rfl))))


local macro_rules | `(tactic| walk_at "call type:zip") => `(tactic| (refine Stop.out ?_))
theorem digsN_zero (n : Nat) : ∀ k, digsN n k 0 = List.replicate k 0
  | 0 => rfl
  | k + 1 => by simp [digsN, digsN_zero n k, List.replicate_succ]
theorem digsN_mod (n k : Nat) (x : Int) : digsN n k (x % 2 ^ (n * k)) = digsN n k x := by
  have := digsN_split n 0 k x
  rw [Nat.add_zero] at this
  rw [this]
  simp [digsN]
theorem flat_zero : ∀ k : Nat, (List.replicate k [(0 : Int)]).flatten = List.replicate k 0
  | 0 => rfl
  | k + 1 => by rw [List.replicate_succ, List.flatten_cons, flat_zero k]; rfl
theorem digs_pad {a : Int} (ha : 0 ≤ a) (k : Nat) : List.take ((k : Nat) : Int).toNat (digsN 1 ((intBits a + 1 - 1) / 1) a ++ (List.replicate ((k : Nat) : Int).toNat [(0 : Int)]).flatten) = digsN 1 k a := by
  rw [Int.toNat_natCast, flat_zero, Nat.add_sub_cancel, Nat.div_one]
  have h1 : a.natAbs < 2 ^ intBits a := intBits_le_iff.mp (Nat.le_refl _)
  have h2 : a < 2 ^ (1 * intBits a) := by
    have h4 : ((2 ^ intBits a : Nat) : Int) = 2 ^ intBits a := by push_cast; rfl
    rw [Nat.one_mul]; (first | lia | omega)
  have e1 : digsN 1 (intBits a) a ++ List.replicate k 0 = digsN 1 (intBits a + k) a := by
    rw [digsN_split 1 k, Int.emod_eq_of_lt ha h2, Int.ediv_eq_zero_of_lt ha h2, digsN_zero]
  rw [e1, Nat.add_comm, digsN_split 1 (intBits a) k, List.take_append_of_le_length (by rw [digsN_length]; exact Nat.le_refl _), List.take_of_length_le (by rw [digsN_length]; exact Nat.le_refl _), digsN_mod]
theorem ints_at : ∀ {vs : List Value} {ns : List Int} {i : Nat} {v : Value}, IntsAre vs ns → vs[i]? = some v → ∃ n t, v = .int n t ∧ ns[i]? = some n
  | _, _, i, v, .nil, h => by simp at h
  | _, _, 0, v, .cons n t r, h => ⟨n, t, by simpa using h.symm, rfl⟩
  | _, _, i + 1, v, .cons n t r, h => by simpa using ints_at r (by simpa using h)
theorem digsN_bits (k : Nat) : ∀ (a d : Int), d ∈ digsN 1 k a → d = 0 ∨ d = 1 := by
  induction k with
  | zero => intro a d h; cases h
  | succ k ih =>
    intro a d h
    rcases List.mem_cons.mp h with rfl | h
    · rw [Int.pow_succ, Int.pow_zero]; (first | lia | omega)
    · exact ih _ _ h
theorem xor_bits {d t : Int} (hd : d = 0 ∨ d = 1) (ht : t = 0 ∨ t = 1) : Builtin.bitXor d t = 0 ∨ Builtin.bitXor d t = 1 := by
  rcases hd with rfl | rfl <;> rcases ht with rfl | rfl <;> decide
/-- the place of a number -/
noncomputable def placeI (ts : List Int) (a : Int) : Int := valD 1 (List.zipWith (fun d t => Builtin.bitXor d t) (digsN 1 ts.length a).reverse ts)
theorem list_off {tb : List (Addr × Obj)} {h : Heap} {l : Addr} {its : Array Value} (T : Tabs tb) (hs : ∀ q ∈ tb, h.get? q.1 = some q.2) (hl : h.IsList l its) : l ∉ tb.map (·.1) := fun hm => by
  obtain ⟨q, hq, e⟩ := List.mem_map.mp hm
  have e : q.1 = l := e
  obtain ⟨o, ho, hc, n, hd⟩ := hl
  have := hs q hq
  rw [e, ho] at this
  cases this
  obtain ⟨a, b, c, d, cs, rfl, _, _, _, _, _, hseq⟩ := T
  simp only [List.mem_cons] at hq
  rcases hq with rfl | rfl | rfl | rfl | hq
  · cases hd
  · cases hd
  · cases hd
  · cases hd
  · exact hseq q hq its n hd
section
variable {w : World} {g : Heap} {s : Shared} {A : Around} {Q : Value → Shared → Prop} {E : Value → Shared → Prop}

set_option maxHeartbeats 4000000 in
theorem place_ok {tb : List (Addr × Obj)} (G : Gx w g A 22) (st : g.StaysIn s.heap) (hT : Tabs tb) (hs0 : ∀ q ∈ tb, s.heap.get? q.1 = some q.2 ∧ g.get? q.1 = none)
    {l : Addr} {vs : List Value} {ts : List Int} {a : Int} {tn : Tok} (hl : s.heap.IsList l vs.toArray) (hi : IntsAre vs ts) (hlen : ts.length ≤ 5) (hlen1 : 1 ≤ ts.length) (ht : ∀ t ∈ ts, t = 0 ∨ t = 1) (ha : 0 ≤ a) (ha2 : a < 65536)
    (ret : ∀ t h' tk tb', After tb tb' s.heap h' → Q (.int (placeI ts a) t) { s with heap := h', toks := tk }) :
    wpAny (model PR w) A (call (.ref 117) [.int a tn, .ref l]) Q E s := by
  refine' enter (binds := [("number", .int a tn), ("turned", .ref l)]) G st tb hs0 ?k6 ?k7 ?k9 ?kB ?_ ?c2 ?c3 ?c4 ?c5
  walk_at "my_side"
  intro base L h₁ b0 b1 b2 F N X' ⟨p, loose, mean, mg, mb, T'⟩ G' hlt hL
  have hl' : base.IsList l vs.toArray := hl.at fun o e => b2 _ _ (list_off hT (fun q hq => (hs0 q hq).1) hl) e
  have hba : intBits a ≤ 16 := intBits_le_iff.mpr (by (first | lia | omega))
  have hvl : vs.length = ts.length := hi.length
  have hi' := hi
  k_steps
  rename Fr _ _ _ _ => F2
  rename News _ _ _ _ => N2
  refine int2digits_ok (n := 1) (G'.less (by (first | lia | omega))) (fun b o e => F2.keep b o e) hT (fun q hq => ⟨(N2 q hq).1, (N2 q hq).2.2⟩) ha (by decide) (by decide) rfl (by (first | lia | omega)) fun lD dvs kD h3 tk3 tb3 aft3 g3 f3 i3 => ?_
  have F3 := after_fr (lits := []) F2 N2 hT aft3
  have N3 := news_add F2 (after_news (lits := []) F2 N2 hT aft3 True.intro) g3 f3
  clear F2 N2
  try dsimp only [List.nil_append] at N3 ⊢
  have hdl : dvs.length = intBits a := by rw [i3.length, digsN_length]; (first | lia | omega)
  k_steps
  rename Fr _ _ _ _ => F4
  rename News _ _ _ _ => N4
  rename IntsAre _ _ => hI4
  rw [digs_pad ha] at hI4
  have hlL : L ≠ l := fun e => by obtain ⟨o, ho, _⟩ := hl'; exact absurd (Heap.lt_size ho) (e ▸ Nat.not_lt.mpr F4.above)
  rename List Value => ws
  have hwl : ws.length = ts.length := by rw [hI4.length, List.length_reverse, digsN_length]
  have hmin : min ws.toArray.size vs.toArray.size = ts.length := by simp only [List.size_toArray]; (first | lia | omega)
  unfold Stop
  refine comp_zip (J := fun i ys nw => nw = _ ∧ IntsAre ys ((List.zipWith (fun d t => Builtin.bitXor d t) (digsN 1 ts.length a).reverse ts).take i)) G'.hh (News.isList N4 (by k_mem)) (hl'.at fun o e => F4.keep _ _ e) (Ne.symm (N4 _ (.head _)).2.1) hlL (by rw [hmin, sizeLine_eq]; (first | lia | omega))
    rfl rfl (by decide) (by decide) rfl F4 N4 ⟨rfl, .nil⟩ (fun i ys nw h => by rw [h.2.length, List.length_take]; exact Nat.min_le_left _ _) ?step (fun e H go => ⟨base, L, _, _, go, fun D h tk ys news' F5 N5 off j => ?fin⟩)
  case step =>
    rintro i ys m₂ news₁ h tk C D oC own E' hin ⟨v0, v1, e0, e1, hv0, hv1⟩ hC ⟨rfl, hs⟩ hCD h1 h2 hex F5 N5
    obtain ⟨d, td, rfl, hd⟩ := ints_at hI4 (by simpa using e0)
    obtain ⟨u, tu, rfl, hu⟩ := ints_at hi' (by simpa using e1)
    clear F4 N4
    refine wpAny_tests_nil ?_
    simp only [if_true]
    replace F5 : Fr base L h _ := F5
    replace N5 : News base L h _ := N5
    k_steps
    refine CTurn.intro _ F5 N5 h1 ⟨rfl, ?_⟩
    rw [List.take_add_one, List.getElem?_zipWith, hd, hu]
    exact hs.append (.cons _ _ .nil)
  case fin =>
    obtain ⟨rfl, hs⟩ := j
    rw [hmin, List.take_of_length_le (by rw [List.length_zipWith]; exact Nat.min_le_right _ _)] at hs
    have hzl : (List.zipWith (fun d t => Builtin.bitXor d t) (digsN 1 ts.length a).reverse ts).length ≤ 16 := by rw [List.length_zipWith]; (first | lia | omega)
    have hzb : ∀ d ∈ List.zipWith (fun d t => Builtin.bitXor d t) (digsN 1 ts.length a).reverse ts, 0 ≤ d ∧ d < 2 ^ 1 := fun d hd => by
      have h01 : d = 0 ∨ d = 1 := by
        rw [← List.map_uncurry_zip_eq_zipWith] at hd
        obtain ⟨⟨x, y⟩, hxy, rfl⟩ := List.mem_map.mp hd
        have := List.of_mem_zip hxy
        exact xor_bits (digsN_bits _ _ _ (List.mem_reverse.mp this.1)) (ht y this.2)
      rw [Int.pow_succ, Int.pow_zero]
      first | lia | omega
    k_steps
    replace N5 : News base L h ([_, _, _, _, _, _, _] ++ tb3) := N5
    refine digits2int_ok (n := 1) ((G'.keeps (fun b o e => e)).less (by (first | lia | omega))) (fun b o e => F5.keep b o e) aft3.tabs (fun q hq => ⟨(N5 q (List.mem_append_right _ hq)).1, (N5 q (List.mem_append_right _ hq)).2.2⟩)
      (News.isList N5 (by k_mem)) hs hzl (by decide) hzb fun t8 h8 tk8 tb8 aft8 => ?_
    have F8 := after_fr F5 N5 aft3.tabs aft8
    have N8 := after_news F5 N5 aft3.tabs aft8 ⟨NT.cls (fun h => by cases h), NT.cls (fun h => by cases h), NT.cls (fun h => by cases h), NT.cls (fun h => by cases h), NT.cls (fun h => by cases h), NT.cls (fun h => by cases h), NT.cls (fun h => by cases h), True.intro⟩
    have hcods : ∀ q ∈ tb, q.1 ∉ [30, 37, 119, 152] → q ∈ tb8 := fun q hq hn => aft8.cods q (aft3.cods q hq hn) hn
    exact ret _ _ _ _ (after_done hT b2 (fun q hq => (hs0 q hq).1) F8 N8 aft8.tabs (fun q hq => List.mem_append_right _ hq) hcods)
end
end Mine
end
section
set_option maxRecDepth 100000
theorem Mine.off_F11 : True := by
  w_top off
  trivial
open PySem.Builtin.Int
open PySem PySem.W PyProof.Rows PySem.Calls
namespace Mine
local macro_rules | `(tactic| walk_at "my_side") => `(tactic| (
  (case k6 => k_is); (case k7 => k_is); (case k9 => first | exact BindsTo.of_eq rfl | exact binds_K (by k_in) rfl (by k_is) rfl rfl rfl); (case c5 => decide); (case kB => exact locs rfl); (case c2 => exact rfl); (case c3 => exact rfl); (case c4 => exact rfl)))
local macro_rules | `(tactic| walk_at "eval Lambda") => `(tactic| (refine Stop.out ?_))

noncomputable def insL (ps : List (Int × Int)) (x v : Int) : List (Int × Int) := ps.takeWhile (fun q => decide (q.1 < x)) ++ (x, v) :: ps.dropWhile (fun q => decide (q.1 < x))
noncomputable def insR (ps : List (Int × Int)) (x v : Int) : List (Int × Int) := ps.takeWhile (fun q => decide (q.1 ≤ x)) ++ (x, v) :: ps.dropWhile (fun q => decide (q.1 ≤ x))
/-- the row when a number was put -/
noncomputable def putI (ts : List Int) (ps : List (Int × Int)) (a : Nat) : List (Int × Int) := if (a : Int) % 7 < 3 then insL ps (placeI ts a) (-a) else insR ps (placeI ts a) a

theorem cut_while {f : Int × Int → Bool} : ∀ {ps : List (Int × Int)} {k : Nat}, (∀ q ∈ ps.take k, f q = true) → (∀ q ∈ ps.drop k, f q = false) → ps.takeWhile f = ps.take k ∧ ps.dropWhile f = ps.drop k
  | [], k, _, _ => by simp
  | q :: ps, 0, _, h2 => by
    have := h2 q (by simp)
    simp [this]
  | q :: ps, k + 1, h1, h2 => by
    have e := h1 q (by simp)
    obtain ⟨a, b⟩ := cut_while (ps := ps) (k := k) (fun r hr => h1 r (by simp [hr])) (fun r hr => h2 r (by simpa using hr))
    simp [e, a, b]
theorem insL_of {ps : List (Int × Int)} {k : Nat} {x v : Int} (h1 : ∀ q ∈ ps.take k, q.1 < x) (h2 : ∀ q ∈ ps.drop k, x ≤ q.1) : insL ps x v = ps.take k ++ (x, v) :: ps.drop k := by
  obtain ⟨a, b⟩ := cut_while (f := fun q => decide (q.1 < x)) (k := k) (ps := ps) (fun q hq => decide_eq_true (h1 q hq)) (fun q hq => decide_eq_false (by have := h2 q hq; (first | lia | omega)))
  unfold insL; rw [a, b]
theorem insR_of {ps : List (Int × Int)} {k : Nat} {x v : Int} (h1 : ∀ q ∈ ps.take k, q.1 ≤ x) (h2 : ∀ q ∈ ps.drop k, x < q.1) : insR ps x v = ps.take k ++ (x, v) :: ps.drop k := by
  obtain ⟨a, b⟩ := cut_while (f := fun q => decide (q.1 ≤ x)) (k := k) (ps := ps) (fun q hq => decide_eq_true (h1 q hq)) (fun q hq => decide_eq_false (by have := h2 q hq; (first | lia | omega)))
  unfold insR; rw [a, b]
theorem RowAt.put {h : Heap} {T : Addr} {x v : Int} {t1 t2 : Tok} (e : h.get? T = some (tupO [.int x t1, .int v t2])) : ∀ {vs : List Value} {ps : List (Int × Int)} (_ : RowAt h vs ps) (k : Nat), RowAt h (vs.take k ++ .ref T :: vs.drop k) (ps.take k ++ (x, v) :: ps.drop k)
  | _, _, .nil, k => by simpa using .cons e .nil
  | _, _, .cons e1 r, 0 => .cons e (.cons e1 r)
  | _, _, .cons e1 r, k + 1 => .cons e1 (RowAt.put e r k)

theorem RowAt.keeps2 {h h' : Heap} {vs : List Value} {ps : List (Int × Int)} (x : RowAt h vs ps) (k : ∀ b us, h.get? b = some (tupO us) → h'.get? b = some (tupO us)) : RowAt h' vs ps := by
  induction x with
  | nil => exact .nil
  | cons e _ ih => exact .cons (k _ _ e) ih
theorem tabs_off {tb : List (Addr × Obj)} {h : Heap} {l : Addr} {o : Obj} {its : Array Value} {n : Nat} (T : Tabs tb) (hs : ∀ q ∈ tb, h.get? q.1 = some q.2) (hl : h.get? l = some o) (ho : o.data = .seq its n) : ∀ q ∈ tb, q.1 ≠ l := fun q hq e => by
  have := hs q hq
  rw [e, hl] at this
  cases this
  obtain ⟨a, b, c, d, cs, rfl, _, _, _, _, _, hseq⟩ := T
  simp only [List.mem_cons] at hq
  rcases hq with rfl | rfl | rfl | rfl | hq
  · cases ho
  · cases ho
  · cases ho
  · cases ho
  · exact hseq q hq its n ho

/-- what a call does that may make codes and changes one list -/
structure After2 (row : Addr) (o' : Obj) (tb tb' : List (Addr × Obj)) (h h' : Heap) : Prop where
  keep : Keep [row, 30, 37, 119, 152] h h'
  row : h'.get? row = some o'
  tabs : Tabs tb'
  get : ∀ q ∈ tb', h'.get? q.1 = some q.2
  old : ∀ q ∈ tb', (∃ q0 ∈ tb, q0.1 = q.1) ∨ h.get? q.1 = none
  cods : ∀ q ∈ tb, q.1 ∉ [30, 37, 119, 152] → q ∈ tb'
theorem after2_fr {h₀ h h' : Heap} {L row : Addr} {o o' : Obj} {m : Str → Option Value} {tb tb' lits : List (Addr × Obj)} (F : Fr h₀ L h m) (N : News h₀ L h ((row, o) :: (lits ++ tb))) (hT : Tabs tb) (x : After2 row o' tb tb' h h') : Fr h₀ L h' m :=
  fr_keep F x.keep (fun hL => by
      rcases List.mem_cons.mp hL with e | hL
      · exact (N _ (.head _)).2.1 e.symm
      · obtain ⟨ps, hp⟩ := tabs_at hT hL; exact (N _ (.tail _ (List.mem_append_right _ hp))).2.1 rfl)
    (fun a ha => by
      rcases List.mem_cons.mp ha with rfl | ha
      · exact (N _ (.head _)).2.2
      · obtain ⟨ps, hp⟩ := tabs_at hT ha; exact (N _ (.tail _ (List.mem_append_right _ hp))).2.2)
theorem after2_news {h₀ h h' : Heap} {L row : Addr} {o o' : Obj} {m : Str → Option Value} {tb tb' lits : List (Addr × Obj)} (F : Fr h₀ L h m) (N : News h₀ L h ((row, o) :: (lits ++ tb))) (hT : Tabs tb) (x : After2 row o' tb tb' h h') (hl : NTs lits) (hr : ∀ q ∈ lits, q.1 ≠ row) : News h₀ L h' ((row, o') :: (lits ++ tb')) := by
  intro q hq
  rcases List.mem_cons.mp hq with rfl | hq
  · exact ⟨x.row, (N (row, o) (.head _)).2⟩
  rcases List.mem_append.mp hq with hq | hq
  · have n := N q (.tail _ (List.mem_append_left _ hq))
    refine ⟨x.keep _ _ (fun hm => ?_) n.1, n.2⟩
    rcases List.mem_cons.mp hm with e | hm
    · exact hr q hq e
    obtain ⟨ps, hp⟩ := tabs_at hT hm
    have e := (N _ (.tail _ (List.mem_append_right _ hp))).1
    rw [n.1] at e
    exact hl.all _ hq ps (Option.some.inj e)
  · rcases x.old q hq with ⟨q0, h0, e⟩ | e
    · have n := N q0 (.tail _ (List.mem_append_right _ h0))
      rw [e] at n
      exact ⟨x.get q hq, n.2⟩
    · refine ⟨x.get q hq, fun eL => ?_, ?_⟩
      · obtain ⟨oL, es, ep, hoL, r⟩ := F.ns
        rw [eL, hoL] at e; cases e
      · cases e' : h₀.get? q.1 with
        | none => rfl
        | some o' => rw [F.keep _ _ e'] at e; cases e
theorem after2_done {tb tb' news : List (Addr × Obj)} {base h h' : Heap} {L row : Addr} {o o' : Obj} {its : Array Value} {n : Nat} {m : Str → Option Value} (ho' : o'.data = .seq its n)
    (b2 : ∀ b x, b ∉ ((row, o) :: tb).map (·.1) → h.get? b = some x → base.get? b = some x) (hs : ∀ q ∈ (row, o) :: tb, h.get? q.1 = some q.2) (F : Fr base L h' m) (N : News base L h' news) (hr : (row, o') ∈ news) (T' : Tabs tb') (sub : ∀ q ∈ tb', q ∈ news)
    (cods : ∀ q ∈ tb, q.1 ∉ [30, 37, 119, 152] → q ∈ tb') : After2 row o' tb tb' h h' := by
  refine ⟨fun b x hb e => ?_, (N _ hr).1, T', fun q hq => (N q (sub q hq)).1, fun q hq => ?_, cods⟩
  · by_cases hm : b ∈ ((row, o) :: tb).map (·.1)
    · obtain ⟨q, hq, rfl⟩ := List.mem_map.mp hm
      rw [hs q hq] at e; cases e
      rcases List.mem_cons.mp hq with rfl | hq
      · exact absurd (.head _) hb
      · exact (N q (sub q (cods q hq (fun h => hb (.tail _ h))))).1
    · exact F.keep _ _ (b2 b x hm e)
  · by_cases hm : q.1 ∈ ((row, o) :: tb).map (·.1)
    · obtain ⟨q0, hq0, e⟩ := List.mem_map.mp hm
      rcases List.mem_cons.mp hq0 with rfl | hq0
      · exact absurd e.symm (tabs_off T' (fun q hq => (N q (sub q hq)).1) (N _ hr).1 ho' q hq)
      · exact .inl ⟨q0, hq0, e⟩
    · refine .inr ?_
      cases e : h.get? q.1 with
      | none => rfl
      | some o => have := b2 _ _ hm e; rw [(N q (sub q hq)).2.2] at this; cases this
section
variable {w : World} {g : Heap} {s : Shared} {A : Around} {Q : Value → Shared → Prop} {E : Value → Shared → Prop}

set_option maxHeartbeats 4000000 in
theorem put_ok {tb : List (Addr × Obj)} (G : Gx w g A 24) (st : g.StaysIn s.heap) (hT : Tabs tb)
    {row l : Addr} {rs : List Value} {kR : Nat} {ps : List (Int × Int)} (hs0 : ∀ q ∈ (row, lstO rs kR) :: tb, s.heap.get? q.1 = some q.2 ∧ g.get? q.1 = none) (hr : RowAt s.heap rs ps) (hlen : ps.length ≤ 1000) (hsrt : ps.Pairwise fun a b => a.1 ≤ b.1)
    {vs : List Value} {ts : List Int} {a : Nat} {tn : Tok} (hl : s.heap.IsList l vs.toArray) (hlr : l ≠ row) (hi : IntsAre vs ts) (htl : ts.length ≤ 5) (htl1 : 1 ≤ ts.length) (ht : ∀ t ∈ ts, t = 0 ∨ t = 1) (ha2 : a < 100)
    (ret : ∀ rs' k' h' tk tb', After2 row (lstO rs' k') tb tb' s.heap h' → RowAt h' rs' (putI ts ps a) → ∀ v, Q v { s with heap := h', toks := tk }) :
    wpAny (model PR w) A (call (.ref 124) [.ref row, .int a tn, .ref l]) Q E s := by
  refine' enter (binds := [("row", .ref row), ("number", .int a tn), ("turned", .ref l)]) G st ((row, lstO rs kR) :: tb) hs0 ?k6 ?k7 ?k9 ?kB ?_ ?c2 ?c3 ?c4 ?c5
  walk_at "my_side"
  intro base L h₁ b0 b1 b2 F N X' ⟨p, loose, mean, mg, mb, T'⟩ G' hlt hL
  obtain ⟨C1, C2, C3, C4⟩ := G'.C
  have hs1 : ∀ q ∈ (row, lstO rs kR) :: tb, s.heap.get? q.1 = some q.2 := fun q hq => (hs0 q hq).1
  have htbs : ∀ q ∈ tb, s.heap.get? q.1 = some q.2 := fun q hq => hs1 q (.tail _ hq)
  have hrow := hs1 (row, lstO rs kR) (.head _)
  have hlT : l ∉ ((row, lstO rs kR) :: tb).map (·.1) := fun hm => by
    rcases List.mem_cons.mp hm with e | hm
    · exact hlr e
    · exact list_off hT htbs hl hm
  have hl' : base.IsList l vs.toArray := hl.at fun o e => b2 _ _ hlT e
  have htup : ∀ b us, s.heap.get? b = some (tupO us) → base.get? b = some (tupO us) := fun b us e => b2 _ _ (fun hm => by
    rcases List.mem_cons.mp hm with e' | hm
    · have e' : b = row := e'
      rw [e', hrow] at e
      injection e with e
      injection e with e1
      injection e1 with e1
      exact absurd e1 (by decide)
    · obtain ⟨q, hq, e2⟩ := List.mem_map.mp hm
      exact tabs_off hT htbs e rfl q hq e2) e
  have hrb : RowAt base rs ps := hr.keeps2 htup
  k_steps
  rename Fr _ _ _ _ => F2
  rename News _ _ _ _ => N2
  replace N2 : News base L _ ([_] ++ tb) := N2
  refine place_ok ((G'.keeps (fun b o e => e)).less (by (first | lia | omega))) (fun b o e => F2.keep b o e) hT (fun q hq => ⟨(N2 q (List.mem_append_right _ hq)).1, (N2 q (List.mem_append_right _ hq)).2.2⟩) (hl'.at fun o e => F2.keep _ _ e) hi htl htl1 ht (by (first | lia | omega)) (by (first | lia | omega)) fun t3 h3 tk3 tb3 aft3 => ?_
  have F3 := after_fr F2 N2 hT aft3
  have N3 := after_news F2 N2 hT aft3 ⟨NT.cls (fun h => by cases h), True.intro⟩
  clear F2 N2
  obtain ⟨ta, tb2, tc, td, cs, rfl, hTa, hTb, hTc, hTd, hoff, hseq⟩ := aft3.tabs
  try dsimp only [List.nil_append, List.cons_append] at N3 ⊢
  have hrow3 := (N3 _ (.head _)).1
  have hrne : ∀ q ∈ (30, tabObj ta) :: (37, tabObj tb2) :: (119, tabObj tc) :: (152, tabObj td) :: cs, q.1 ≠ row := tabs_off aft3.tabs (fun q hq => (N3 q (.tail _ hq)).1) hrow3 rfl
  k_steps
  · rename Fr _ _ _ _ => F4
    rename News _ _ _ _ => N4
    rename _ ∧ _ => hTx
    rename Addr => Tx
    rename Int.fmod _ _ < _ => hmod
    unfold Stop
    k_dflt (refine' kla_eval ?d0 ?_; (case d0 => exact rfl))
    have hTxg := hTx.2
    have hcsT := ktn_ltOf hTx.2.2.2.2.2
    k_dflt (refine' lam_any F4 N4 T' C3 rfl ?U hTc ?hcs ?cl ?_; (case cl => exact rfl); (case hcs => exact fun q hq => by simp [hq]); (case U => exact UpdF.tail (neN (by dsimp only; (first | lia | omega))) (UpdF.tail (fun e => hrne (119, tabObj tc) (by simp) e.symm) (UpdF.tail (show (30 : Nat) ≠ 119 by decide) (UpdF.tail (show (37 : Nat) ≠ 119 by decide) (UpdF.head (fun q hq => by
      rcases List.mem_cons.mp hq with rfl | hq
      · exact (show (152 : Nat) ≠ 119 by decide)
      · exact fun e => hoff q hq (by simp [e]))))))))
    intro f c' x ox ps' ctv h5 tk5 F5 N5 tbo hcode hx hf hxs
    have hxr : row < x := hx (row, lstO rs kR) (by simp)
    have hfr : row < f := hf (row, lstO rs kR) (by simp)
    replace N5 : News base L h5 ((f, _) :: (x, ox) :: (Tx, tupO [.int (placeI ts a) t3, .int (-a) _]) :: (row, lstO rs kR) :: (30, tabObj ta) :: (37, tabObj tb2) :: (119, tabObj ps') :: (152, tabObj td) :: cs) := N5
    have N6 : News base L h5 ((row, lstO rs kR) :: (f, _) :: (x, ox) :: (Tx, tupO [.int (placeI ts a) t3, .int (-a) _]) :: (30, tabObj ta) :: (37, tabObj tb2) :: (119, tabObj ps') :: (152, tabObj td) :: cs) := fun q hq => N5 q (by
      simp only [List.mem_cons] at hq ⊢
      rcases hq with h | h | h | h | h
      · exact .inr (.inr (.inr (.inl h)))
      · exact .inl h
      · exact .inr (.inl h)
      · exact .inr (.inr (.inl h))
      · exact .inr (.inr (.inr (.inr h))))
    clear N5 N4 F4
    k_steps
    have hkk : KeyOk w f (hideAll h5 [row]) := key_lam (hideAll_get _ (N6 _ (.tail _ (.head _))).1 (fun hm => Nat.ne_of_gt hfr (List.mem_singleton.mp hm)))
      (hcode _ (fun q hq e => hideAll_get _ e (fun hm => hrne q (by simp [hq]) (List.mem_singleton.mp hm))) (hideAll_get _ (N6 _ (.tail _ (.tail _ (.head _)))).1 (fun hm => Nat.ne_of_gt hxr (List.mem_singleton.mp hm))))
    refine insort_left_ok ((G'.keeps (fun b o e => e)).less (by (first | lia | omega))) (fun b o e => F5.keep b o e) (N6 _ (.head _)).1 (N6 _ (.head _)).2.2 (hrb.keeps2 fun b us e => F5.keep _ _ e) hlen hsrt hkk (fun b o e => of_hideAll _ e) (hideAll_none _ (.head _)) (N6.get (.tail _ (.tail _ (.tail _ (.head _))))) fun k n' h6 tk6 hk1 hk2 hk3 k6 g6 => ?_
    have F7 := fr_upd F5 N6 (.head _) k6
    have N7 := news_upd N6 k6 g6 (by
      intro q hq
      simp only [List.mem_cons] at hq
      rcases hq with rfl | rfl | rfl | rfl | rfl | rfl | rfl | hq
      · exact Nat.ne_of_gt hfr
      · exact Nat.ne_of_gt hxr
      · exact Nat.ne_of_gt hTx.1
      · exact hrne _ (by simp)
      · exact hrne _ (by simp)
      · exact hrne (119, tabObj tc) (by simp)
      · exact hrne (152, tabObj td) (by simp)
      · exact hrne q (by simp [hq]))
    have hRow : RowAt h6 (rs.take k ++ .ref Tx :: rs.drop k) (putI ts ps a) := by
      unfold putI
      rw [if_pos (by rw [Int.fmod_eq_emod_of_nonneg _ (by decide)] at hmod; exact hmod), insL_of hk2 hk3]
      exact RowAt.put (N7.get (.tail _ (.tail _ (.tail _ (.head _))))) (hrb.keeps2 fun b us e => F7.keep _ _ e) k
    have hxo : x ∉ ([30, 37, 119, 152] : List Addr) := fun hm => by
      have h30 := hx (30, tabObj ta) (by simp)
      have h37 := hx (37, tabObj tb2) (by simp)
      have h119 := hx (119, tabObj tc) (by simp)
      have h152 := hx (152, tabObj td) (by simp)
      simp only [List.mem_cons, List.not_mem_nil, or_false] at hm
      rcases hm with e | e | e | e
      · rw [e] at h30; exact Nat.lt_irrefl _ h30
      · rw [e] at h37; exact Nat.lt_irrefl _ h37
      · rw [e] at h119; exact Nat.lt_irrefl _ h119
      · rw [e] at h152; exact Nat.lt_irrefl _ h152
    have hTabs : Tabs ((30, tabObj ta) :: (37, tabObj tb2) :: (119, tabObj ps') :: (152, tabObj td) :: (x, ox) :: cs) :=
      ⟨ta, tb2, ps', td, (x, ox) :: cs, rfl, hTa.mono fun _ h => .tail _ h, hTb.mono fun _ h => .tail _ h, tbo, hTd.mono fun _ h => .tail _ h, fun q hq => by
        rcases List.mem_cons.mp hq with rfl | hq
        · exact hxo
        · exact hoff q hq, fun q hq => by
        rcases List.mem_cons.mp hq with rfl | hq
        · exact hxs
        · exact hseq q hq⟩
    k_steps
    exact ret _ _ _ _ _ (after2_done rfl b2 hs1 F7 N7 (.head _) hTabs (fun q hq => by
        simp only [List.mem_cons] at hq ⊢
        rcases hq with h | h | h | h | h | h
        · exact .inr (.inr (.inr (.inr (.inl h))))
        · exact .inr (.inr (.inr (.inr (.inr (.inl h)))))
        · exact .inr (.inr (.inr (.inr (.inr (.inr (.inl h))))))
        · exact .inr (.inr (.inr (.inr (.inr (.inr (.inr (.inl h)))))))
        · exact .inr (.inr (.inl h))
        · exact .inr (.inr (.inr (.inr (.inr (.inr (.inr (.inr h))))))))
      (fun q hq hn => by
        have := aft3.cods q hq hn
        simp only [List.mem_cons] at this
        rcases this with rfl | rfl | rfl | rfl | h
        · exact absurd (by simp) hn
        · exact absurd (by simp) hn
        · exact absurd (by simp) hn
        · exact absurd (by simp) hn
        · simp [h])) hRow _
  · rename Fr _ _ _ _ => F4
    rename News _ _ _ _ => N4
    rename _ ∧ _ => hTx
    rename Addr => Tx
    rename ¬ Int.fmod _ _ < _ => hmod
    unfold Stop
    k_dflt (refine' kla_eval ?d0 ?_; (case d0 => exact rfl))
    have hTxg := hTx.2
    have hcsT := ktn_ltOf hTx.2.2.2.2.2
    k_dflt (refine' lam_any F4 N4 T' C3 rfl ?U hTc ?hcs ?cl ?_; (case cl => exact rfl); (case hcs => exact fun q hq => by simp [hq]); (case U => exact UpdF.tail (neN (by dsimp only; (first | lia | omega))) (UpdF.tail (fun e => hrne (119, tabObj tc) (by simp) e.symm) (UpdF.tail (show (30 : Nat) ≠ 119 by decide) (UpdF.tail (show (37 : Nat) ≠ 119 by decide) (UpdF.head (fun q hq => by
      rcases List.mem_cons.mp hq with rfl | hq
      · exact (show (152 : Nat) ≠ 119 by decide)
      · exact fun e => hoff q hq (by simp [e]))))))))
    intro f c' x ox ps' ctv h5 tk5 F5 N5 tbo hcode hx hf hxs
    have hxr : row < x := hx (row, lstO rs kR) (by simp)
    have hfr : row < f := hf (row, lstO rs kR) (by simp)
    replace N5 : News base L h5 ((f, _) :: (x, ox) :: (Tx, tupO [.int (placeI ts a) t3, .int a _]) :: (row, lstO rs kR) :: (30, tabObj ta) :: (37, tabObj tb2) :: (119, tabObj ps') :: (152, tabObj td) :: cs) := N5
    have N6 : News base L h5 ((row, lstO rs kR) :: (f, _) :: (x, ox) :: (Tx, tupO [.int (placeI ts a) t3, .int a _]) :: (30, tabObj ta) :: (37, tabObj tb2) :: (119, tabObj ps') :: (152, tabObj td) :: cs) := fun q hq => N5 q (by
      simp only [List.mem_cons] at hq ⊢
      rcases hq with h | h | h | h | h
      · exact .inr (.inr (.inr (.inl h)))
      · exact .inl h
      · exact .inr (.inl h)
      · exact .inr (.inr (.inl h))
      · exact .inr (.inr (.inr (.inr h))))
    clear N5 N4 F4
    k_steps
    have hkk : KeyOk w f (hideAll h5 [row]) := key_lam (hideAll_get _ (N6 _ (.tail _ (.head _))).1 (fun hm => Nat.ne_of_gt hfr (List.mem_singleton.mp hm)))
      (hcode _ (fun q hq e => hideAll_get _ e (fun hm => hrne q (by simp [hq]) (List.mem_singleton.mp hm))) (hideAll_get _ (N6 _ (.tail _ (.tail _ (.head _)))).1 (fun hm => Nat.ne_of_gt hxr (List.mem_singleton.mp hm))))
    refine insort_right_ok ((G'.keeps (fun b o e => e)).less (by (first | lia | omega))) (fun b o e => F5.keep b o e) (N6 _ (.head _)).1 (N6 _ (.head _)).2.2 (hrb.keeps2 fun b us e => F5.keep _ _ e) hlen hsrt hkk (fun b o e => of_hideAll _ e) (hideAll_none _ (.head _)) (N6.get (.tail _ (.tail _ (.tail _ (.head _))))) fun k n' h6 tk6 hk1 hk2 hk3 k6 g6 => ?_
    have F7 := fr_upd F5 N6 (.head _) k6
    have N7 := news_upd N6 k6 g6 (by
      intro q hq
      simp only [List.mem_cons] at hq
      rcases hq with rfl | rfl | rfl | rfl | rfl | rfl | rfl | hq
      · exact Nat.ne_of_gt hfr
      · exact Nat.ne_of_gt hxr
      · exact Nat.ne_of_gt hTx.1
      · exact hrne _ (by simp)
      · exact hrne _ (by simp)
      · exact hrne (119, tabObj tc) (by simp)
      · exact hrne (152, tabObj td) (by simp)
      · exact hrne q (by simp [hq]))
    have hRow : RowAt h6 (rs.take k ++ .ref Tx :: rs.drop k) (putI ts ps a) := by
      unfold putI
      rw [if_neg (by rw [Int.fmod_eq_emod_of_nonneg _ (by decide)] at hmod; exact hmod), insR_of hk2 hk3]
      exact RowAt.put (N7.get (.tail _ (.tail _ (.tail _ (.head _))))) (hrb.keeps2 fun b us e => F7.keep _ _ e) k
    have hxo : x ∉ ([30, 37, 119, 152] : List Addr) := fun hm => by
      have h30 := hx (30, tabObj ta) (by simp)
      have h37 := hx (37, tabObj tb2) (by simp)
      have h119 := hx (119, tabObj tc) (by simp)
      have h152 := hx (152, tabObj td) (by simp)
      simp only [List.mem_cons, List.not_mem_nil, or_false] at hm
      rcases hm with e | e | e | e
      · rw [e] at h30; exact Nat.lt_irrefl _ h30
      · rw [e] at h37; exact Nat.lt_irrefl _ h37
      · rw [e] at h119; exact Nat.lt_irrefl _ h119
      · rw [e] at h152; exact Nat.lt_irrefl _ h152
    have hTabs : Tabs ((30, tabObj ta) :: (37, tabObj tb2) :: (119, tabObj ps') :: (152, tabObj td) :: (x, ox) :: cs) :=
      ⟨ta, tb2, ps', td, (x, ox) :: cs, rfl, hTa.mono fun _ h => .tail _ h, hTb.mono fun _ h => .tail _ h, tbo, hTd.mono fun _ h => .tail _ h, fun q hq => by
        rcases List.mem_cons.mp hq with rfl | hq
        · exact hxo
        · exact hoff q hq, fun q hq => by
        rcases List.mem_cons.mp hq with rfl | hq
        · exact hxs
        · exact hseq q hq⟩
    k_steps
    exact ret _ _ _ _ _ (after2_done rfl b2 hs1 F7 N7 (.head _) hTabs (fun q hq => by
        simp only [List.mem_cons] at hq ⊢
        rcases hq with h | h | h | h | h | h
        · exact .inr (.inr (.inr (.inr (.inl h))))
        · exact .inr (.inr (.inr (.inr (.inr (.inl h)))))
        · exact .inr (.inr (.inr (.inr (.inr (.inr (.inl h))))))
        · exact .inr (.inr (.inr (.inr (.inr (.inr (.inr (.inl h)))))))
        · exact .inr (.inr (.inl h))
        · exact .inr (.inr (.inr (.inr (.inr (.inr (.inr (.inr h))))))))
      (fun q hq hn => by
        have := aft3.cods q hq hn
        simp only [List.mem_cons] at this
        rcases this with rfl | rfl | rfl | rfl | h
        · exact absurd (by simp) hn
        · exact absurd (by simp) hn
        · exact absurd (by simp) hn
        · exact absurd (by simp) hn
        · simp [h])) hRow _
end
end Mine
end
section
set_option maxRecDepth 100000
theorem Mine.off_F12 : True := by
  w_top off
  trivial
open PySem.Builtin.Int
open PySem PySem.W PyProof.Rows PySem.Calls
namespace Mine
local macro_rules | `(tactic| walk_at "my_sideC") => `(tactic| (
  (case k6 => k_is); (case k7 => k_is); (case k9 => first | exact BindsTo.of_eq rfl | exact binds_K (by k_in) rfl (by k_is) rfl rfl rfl); (case kB => exact rfl); (case kD => decide +kernel); (case c2 => exact rfl); (case c3 => exact rfl); (case c4 => exact rfl)))
local macro_rules | `(tactic| walk_at "exec Assign cons ListComp") => `(tactic| (k_here; k_dflt (refine Assign_K (by with_unfolding_all rfl) (by rfl) (by rfl) (by decide) (by rfl) (by rfl) ?_ (fun _ => rfl))))
local macro_rules | `(tactic| walk_at "call type:enumerate") => `(tactic| (refine Stop.out ?_))
local macro_rules | `(tactic| walk_at "eval Name") => `(tactic| (k_here; k_dflt (refine' ld_cellN ?N ?c ?m ?d ?_ ?a ?b ?e; (case a => rfl); (case b => rfl); (case e => decide); (case N => k_asm); (case c => rfl); (case m => k_mem); (case d => assumption); k_whole)))
local macro_rules | `(tactic| walk_at "call builtin:len") => `(tactic| (refine Stop.out ?_))
local macro_rules | `(tactic| walk_at "subscriptTail") => `(tactic| (refine Stop.out ?_))
noncomputable def aheadI (ps : List (Int × Int)) (z : Nat) : List Int := ps.zipIdx.map fun q => ((q.2 : Int) + 1) * 2 ^ z - ps.length * q.1.1
noncomputable def behindI (ps : List (Int × Int)) (z : Nat) : List Int := ps.zipIdx.map fun q => ps.length * q.1.1 - (q.2 : Int) * 2 ^ z
theorem ints_snoc {ys : List Value} {l : List Int} {i : Nat} {x x' : Int} {t : Tok} (hs : IntsAre ys (l.take i)) (h : l[i]? = some x) (e : x' = x) : IntsAre (ys ++ [.int x' t]) (l.take (i + 1)) := by
  rw [List.take_add_one, h, e]
  exact hs.append (.cons _ _ .nil)
theorem aheadI_get {ps : List (Int × Int)} {z i : Nat} {q : Int × Int} (hq : ps[i]? = some q) : (aheadI ps z)[i]? = some (((i : Int) + 1) * 2 ^ z - ps.length * q.1) := by
  unfold aheadI
  rw [List.getElem?_map, List.getElem?_zipIdx, hq]
  simp
theorem behindI_get {ps : List (Int × Int)} {z i : Nat} {q : Int × Int} (hq : ps[i]? = some q) : (behindI ps z)[i]? = some (ps.length * q.1 - (i : Int) * 2 ^ z) := by
  unfold behindI
  rw [List.getElem?_map, List.getElem?_zipIdx, hq]
  simp
noncomputable def maxI : List Int → Int
  | [] => 0
  | [x] => x
  | x :: y :: r => max x (maxI (y :: r))
theorem maxI_spec : ∀ {l : List Int}, l ≠ [] → maxI l ∈ l ∧ ∀ a ∈ l, a ≤ maxI l
  | [], h => absurd rfl h
  | [x], _ => ⟨by simp [maxI], fun a ha => by rw [List.mem_singleton.mp ha]; exact Int.le_refl _⟩
  | x :: y :: r, _ => by
    obtain ⟨h1, h2⟩ := maxI_spec (l := y :: r) (by simp)
    constructor
    · show max x (maxI (y :: r)) ∈ _
      rcases Int.le_total x (maxI (y :: r)) with h | h
      · rw [Int.max_eq_right h]; exact .tail _ h1
      · rw [Int.max_eq_left h]; exact .head _
    · intro a ha
      show a ≤ max x (maxI (y :: r))
      rcases List.mem_cons.mp ha with rfl | ha
      · exact Int.le_max_left _ _
      · exact Int.le_trans (h2 a ha) (Int.le_max_right _ _)
theorem maxI_of {l : List Int} {M : Int} (h1 : M ∈ l) (h2 : ∀ a ∈ l, a ≤ M) : M = maxI l := by
  obtain ⟨a, b⟩ := maxI_spec (l := l) (fun e => by rw [e] at h1; cases h1)
  exact Int.le_antisymm (b _ h1) (h2 _ a)
section
variable {w : World} {g : Heap} {s : Shared} {A : Around} {Q : Value → Shared → Prop} {E : Value → Shared → Prop}

set_option maxHeartbeats 4000000 in
theorem by_row_ok (G : Gx w g A 2) (st : g.StaysIn s.heap) {row : Addr} {rs : List Value} {ps : List (Int × Int)} {z : Nat} {tz : Tok} (hrow : s.heap.IsList row rs.toArray) (hr : RowAt s.heap rs ps) (hlen : ps.length ≤ 1000) (hlen1 : 1 ≤ ps.length) (hz : z ≤ 5) 
    (ret : ∀ r t1 t2 h' tk, Keep [] s.heap h' → h'.get? r = some (tupO [.int (maxI (aheadI ps z)) t1, .int (maxI (behindI ps z)) t2]) → s.heap.get? r = none → Q (.ref r) { s with heap := h', toks := tk }) :
    wpAny (model PR w) A (call (.ref 129) [.ref row, .int z tz]) Q E s := by
  refine' enterC (binds := [("row", .ref row), ("size", .int z tz)]) G st [] (fun _ h => nomatch h) ?k6 ?k7 ?k9 ?kB ?kD ?_ ?c2 ?c3 ?c4
  walk_at "my_sideC"
  intro base L h₁ tk₁ cells b0 b1 b2 F N Y X' ⟨p, loose, mean, mg, mb, T'⟩ G' hlt hL
  k_cells Y
  (try simp only [List.cons_append, List.nil_append, List.append_nil] at N)
  have b3 : s.heap.StaysIn base := fun b o e => b2 b o (fun h => nomatch h) e
  have hrow' : base.IsList row rs.toArray := hrow.at fun o e => b3 _ _ e
  have hrb : RowAt base rs ps := hr.keeps fun b o _ e => b3 _ _ e
  k_steps
  have hLr : L ≠ row := fun e => by obtain ⟨o, ho, _⟩ := hrow'; exact absurd (Heap.lt_size ho) (e ▸ Nat.not_lt.mpr F.above)
  have hvl : rs.length = ps.length := hr.length
  have hal : (aheadI ps z).length = ps.length := by unfold aheadI; rw [List.length_map, List.length_zipIdx]
  unfold Stop
  refine comp_enum (J := fun i ys nw => nw = _ ∧ IntsAre ys ((aheadI ps z).take i)) G'.hh (hrow'.at fun o e => F.keep _ _ e) hLr (by rw [sizeLine_eq, List.size_toArray]; (first | lia | omega)) rfl rfl (by decide) (by decide) rfl F N ⟨rfl, .nil⟩
    (fun i ys nw h => by rw [h.2.length, List.length_take]; exact Nat.min_le_left _ _) ?step1 (fun e H go => ⟨base, _, _, go, fun D h tk ys news' F5 N5 off j => ?fin1⟩)
  case step1 =>
    rintro i ys m₂ news₁ h tk C D oC own E' hin ⟨t, v, e0, hv0, hv1⟩ hC ⟨rfl, hs⟩ hCD h1 h2 hex F5 N5
    rw [List.size_toArray, hvl] at hin
    obtain ⟨q, hq⟩ : ∃ q, ps[i]? = some q := ⟨_, List.getElem?_eq_getElem hin⟩
    obtain ⟨T, u1, u2, hT1, hT2⟩ := hrb.get hq
    rw [List.getElem?_toArray, hT1] at e0
    cases e0
    clear F N
    refine wpAny_tests_nil ?_
    simp only [if_true]
    replace F5 : Fr base L h _ := F5
    replace N5 : News base L h _ := N5
    k_steps
    unfold Stop
    refine len_list (hrow'.at fun o e => F5.keep _ _ e) (by simp; (first | lia | omega)) ?_
    k_steps
    unfold Stop
    refine item_tupleT (l := [.int q.1 u1, .int q.2 u2]) (j := 0) ⟨_, F5.keep _ _ hT2, rfl, _, rfl⟩ (by decide) (by decide) rfl rfl ?_
    k_steps
    exact CTurn.intro _ F5 N5 h1 ⟨rfl, ints_snoc hs (aheadI_get hq) (by rw [Int.toNat_natCast, List.size_toArray, hvl])⟩
  case fin1 =>
    obtain ⟨rfl, hs1⟩ := j
    rw [List.take_of_length_le (by rw [hal, List.size_toArray, hvl]; exact Nat.le_refl _)] at hs1
    clear F N
    replace F5 : Fr base L h _ := F5
    replace N5 : News base L h _ := N5
    k_steps
    have F6 := F5
    have N6 := N5
    clear F5 N5
    have hbl : (behindI ps z).length = ps.length := by unfold behindI; rw [List.length_map, List.length_zipIdx]
    unfold Stop
    refine comp_enum (J := fun i ys nw => nw = _ ∧ IntsAre ys ((behindI ps z).take i)) G'.hh (hrow'.at fun o e => F6.keep _ _ e) hLr (by rw [sizeLine_eq, List.size_toArray]; (first | lia | omega)) rfl rfl (by decide) (by decide) rfl F6 N6 ⟨rfl, .nil⟩
      (fun i ys nw h => by rw [h.2.length, List.length_take]; exact Nat.min_le_left _ _) ?step2 (fun e H go => ⟨base, _, _, go, fun D2 h tk ys2 news' F5 N5 off j => ?fin2⟩)
    case step2 =>
      rintro i ys m₂ news₁ h tk C D oC own E' hin ⟨t, v, e0, hv0, hv1⟩ hC ⟨rfl, hs⟩ hCD h1 h2 hex F5 N5
      rw [List.size_toArray, hvl] at hin
      obtain ⟨q, hq⟩ : ∃ q, ps[i]? = some q := ⟨_, List.getElem?_eq_getElem hin⟩
      obtain ⟨T, u1, u2, hT1, hT2⟩ := hrb.get hq
      rw [List.getElem?_toArray, hT1] at e0
      cases e0
      clear F6 N6
      refine wpAny_tests_nil ?_
      simp only [if_true]
      replace F5 : Fr base L h _ := F5
      replace N5 : News base L h _ := N5
      k_steps
      unfold Stop
      refine len_list (hrow'.at fun o e => F5.keep _ _ e) (by simp; (first | lia | omega)) ?_
      k_steps
      unfold Stop
      refine item_tupleT (l := [.int q.1 u1, .int q.2 u2]) (j := 0) ⟨_, F5.keep _ _ hT2, rfl, _, rfl⟩ (by decide) (by decide) rfl rfl ?_
      k_steps
      exact CTurn.intro _ F5 N5 h1 ⟨rfl, ints_snoc hs (behindI_get hq) (by rw [Int.toNat_natCast, List.size_toArray, hvl])⟩
    case fin2 =>
      obtain ⟨rfl, hs2⟩ := j
      rw [List.take_of_length_le (by rw [hbl, List.size_toArray, hvl]; exact Nat.le_refl _)] at hs2
      clear F6 N6
      replace F5 : Fr base L h _ := F5
      replace N5 : News base L h _ := N5
      k_steps
      refine max_list_N G'.hh F5 N5 (News.isList N5 (by k_mem)) hs1 (by (first | lia | omega)) fun h6 M1 t1 tk6 F6 N6 hM1 hM2 => ?_
      clear F5 N5
      k_steps
      refine max_list_N G'.hh F6 N6 (News.isList N6 (.head _)) hs2 (by (first | lia | omega)) fun h7 M2 t2 tk7 F7 N7 hM3 hM4 => ?_
      clear F6 N6
      rw [maxI_of hM1 hM2, maxI_of hM3 hM4]
      k_steps
      rename Fr _ _ _ _ => F8
      rename News _ _ _ _ => N8
      exact ret _ _ _ _ _ (keep_of b2 F8) (N8.get (.head _)) (fresh_of b2 N8 (.head _) (fun h => nomatch h))
end
end Mine
end
section
set_option maxRecDepth 100000
theorem Mine.off_Min2 : True := by
  w_top off
  trivial
open PySem.Builtin.Int
open PySem PySem.W PyProof.Rows PySem.Calls
namespace Mine
theorem min_tup {w : World} {A : Around} {E : Value → Shared → Prop} {s : Shared} {T : Addr} {a b : Int} {ta tb : Tok} {Q : Value → Shared → Prop} (hh : A.handled = none) (hl : s.heap.IsTuple T #[.int a ta, .int b tb])
    (h : ∀ t h' tk, Keep [] s.heap h' → Q (.int (min a b) t) { s with heap := h', toks := tk }) : wpAny (model PR w) A (call (.builtin "min") [.ref T]) Q E s := by
  have hlt : T < s.heap.objs.size := by obtain ⟨_, e, _⟩ := hl; exact Heap.lt_size e
  have hi2 : intItems #[(a, ta), (b, tb)] = #[.int a ta, .int b tb] := by simp [intItems]
  have hl2 : s.heap.IsTuple T (intItems #[(a, ta), (b, tb)]) := by rw [hi2]; exact hl
  refine call_min_walk (wpAny_pyIter_tuple hl2 ?_)
  refine ⟨_, _, _, _, _, _, _, rfl, Walks.tuple (A := A.in1) hh s.heap.objs.size T (Nat.ne_of_lt hlt) (intItems #[(a, ta), (b, tb)]), ⟨⟨_, Heap.get?_push_size _ rfl, rfl, rfl⟩, hl2.push _⟩, ?_, by simp [intItems], CmpOf.ints_lt (numAt #[(a, ta), (b, tb)]) (fun _ _ => intItems_at), fun v h' tk hP hk => ?_⟩
  · intro c hc
    show c < (s.heap.push _).objs.size
    rw [Heap.size_push]
    rcases List.mem_cons.mp hc with rfl | hc
    · exact Nat.lt_succ_self _
    · rw [List.mem_singleton.mp hc]; exact Nat.lt_succ_of_lt hlt
  · obtain ⟨t, rfl⟩ := intItems_at hP
    have e : numAt #[(a, ta), (b, tb)] (argBest (fun i j => decide (numAt #[(a, ta), (b, tb)] i < numAt #[(a, ta), (b, tb)] j)) ((intItems #[(a, ta), (b, tb)]).size - 1)) = min a b := by
      obtain ⟨h1, h2⟩ := argBest_lt (numAt #[(a, ta), (b, tb)]) 1
      have h3 := h2 0 (by decide)
      have h4 := h2 1 (by decide)
      generalize hk : argBest (fun i j => decide (numAt #[(a, ta), (b, tb)] i < numAt #[(a, ta), (b, tb)] j)) 1 = k at h1 h3 h4
      rw [show (intItems #[(a, ta), (b, tb)]).size - 1 = 1 by rw [hi2]; rfl, hk]
      have n0 : numAt #[(a, ta), (b, tb)] 0 = a := rfl
      have n1 : numAt #[(a, ta), (b, tb)] 1 = b := rfl
      rw [n0] at h3
      rw [n1] at h4
      have : k = 0 ∨ k = 1 := by (first | lia | omega)
      rcases this with rfl | rfl
      · rw [n0] at h4 ⊢; rw [Int.min_eq_left h4]
      · rw [n1] at h3 ⊢; rw [Int.min_eq_right h3]
    rw [e]
    exact h t h' tk fun c o _ ec => hk c o (fun hm => Nat.ne_of_lt (Heap.lt_size ec) (List.mem_singleton.mp hm)) (Heap.get?_push_of_some _ ec)
end Mine
end
section
set_option maxRecDepth 100000
theorem Mine.off_F13 : True := by
  w_top off
  trivial
open PySem.Builtin.Int
open PySem PySem.W PyProof.Rows PySem.Calls
namespace Mine
local macro_rules | `(tactic| walk_at "my_side") => `(tactic| (
  (case k6 => k_is); (case k7 => k_is); (case k9 => first | exact BindsTo.of_eq rfl | exact binds_K (by k_in) rfl (by k_is) rfl rfl rfl); (case c5 => decide); (case kB => exact locs rfl); (case c2 => exact rfl); (case c3 => exact rfl); (case c4 => exact rfl)))
local macro_rules | `(tactic| walk_at "exec For Name Call cons nil") => `(tactic| (refine wpAny_For ?_ (fun _ => rfl)))
local macro_rules | `(tactic| walk_at "eval Name") => `(tactic| (k_here; k_dflt (refine' nameX_L ?F ?v ?_ ?a ?b; (case F => k_asm); (case a => rfl); (case b => rfl); (case v => assumption); k_whole)))
local macro_rules | `(tactic| walk_at "subscriptTail") => `(tactic| (refine Stop.out ?_))
local macro_rules | `(tactic| walk_at "call builtin:len") => `(tactic| (refine Stop.out ?_))
local macro_rules | `(tactic| k_all) => `(tactic| assumption)

noncomputable def stepR (n : Int) (ts : List Int) (s : Int × Int) (j : Nat) : Int × Int :=
  let v := min (n.fmod (2 ^ j)) (-(n.fmod (-(2 ^ j)))) * 2 ^ (ts.length - j)
  if ts.getD (ts.length - j) 0 = 0 then (s.1 + v, s.2) else (s.1, s.2 + v)
noncomputable def restsI (n : Int) (ts : List Int) (k : Nat) : Int × Int := ((List.range k).map (· + 1)).foldl (stepR n ts) (n, 0)
theorem restsI_succ (n : Int) (ts : List Int) (k : Nat) : restsI n ts (k + 1) = stepR n ts (restsI n ts k) (k + 1) := by
  unfold restsI
  rw [List.range_succ, List.map_append, List.foldl_append]
  rfl
theorem after_ne {tb tb' : List (Addr × Obj)} {h h' : Heap} {I : Addr} {o : Obj} (x : After tb tb' h h') (e : h.get? I = some o) (hn : ∀ q ∈ tb, q.1 ≠ I) : ∀ q ∈ tb', q.1 ≠ I := fun q hq hI => by
  rcases x.old q hq with ⟨q0, h0, e0⟩ | e0
  · exact hn q0 h0 (e0.trans hI)
  · rw [hI, e] at e0; cases e0
theorem news_ne {h₀ h : Heap} {L a b : Addr} {o o' : Obj} {news : List (Addr × Obj)} (N : News h₀ L h news) (h1 : (a, o) ∈ news) (h2 : (b, o') ∈ news) (hc : o.cls ≠ o'.cls) : a ≠ b := fun e => by
  have x := (N _ h1).1
  have y := (N _ h2).1
  rw [show (a, o).1 = (b, o').1 from e, y] at x
  exact hc (congrArg Obj.cls (Option.some.inj x).symm)
theorem news_front {h₀ h : Heap} {L b : Addr} {o : Obj} {lits rest : List (Addr × Obj)} (N : News h₀ L h (lits ++ (b, o) :: rest)) : News h₀ L h ((b, o) :: (lits ++ rest)) := fun q hq => N q (by
  rcases List.mem_cons.mp hq with rfl | hq
  · exact List.mem_append_right _ (.head _)
  · rcases List.mem_append.mp hq with hq | hq
    · exact List.mem_append_left _ hq
    · exact List.mem_append_right _ (.tail _ hq))
theorem front_ne {h₀ h : Heap} {L b : Addr} {o : Obj} {lits rest : List (Addr × Obj)} (N : News h₀ L h (lits ++ (b, o) :: rest)) (hl : ∀ q ∈ lits, q.2.cls ≠ o.cls) (hr : ∀ q ∈ rest, q.1 ≠ b) : ∀ q ∈ lits ++ rest, q.1 ≠ b := fun q hq => by
  rcases List.mem_append.mp hq with h | h
  · exact news_ne (o := q.2) N (List.mem_append_left _ h) (List.mem_append_right _ (.head _)) (hl q h)
  · exact hr q h
section
variable {w : World} {g : Heap} {s : Shared} {A : Around} {Q : Value → Shared → Prop} {E : Value → Shared → Prop}

set_option maxHeartbeats 4000000 in
theorem by_rests_ok {tb : List (Addr × Obj)} (G : Gx w g A 35) (st : g.StaysIn s.heap) (hT : Tabs tb) (hs0 : ∀ q ∈ tb, s.heap.get? q.1 = some q.2 ∧ g.get? q.1 = none)
    {l : Addr} {vs : List Value} {ts : List Int} {n : Nat} {tn : Tok} (hl : s.heap.IsList l vs.toArray) (hi : IntsAre vs ts) (hlen : ts.length ≤ 5) (ht : ∀ t ∈ ts, t = 0 ∨ t = 1) (hn : n < 100)
    (ret : ∀ r t1 t2 h' tk tb', After tb tb' s.heap h' → h'.get? r = some (tupO [.int (restsI n ts ts.length).1 t1, .int (restsI n ts ts.length).2 t2]) → s.heap.get? r = none → Q (.ref r) { s with heap := h', toks := tk }) :
    wpAny (model PR w) A (call (.ref 136) [.int n tn, .ref l]) Q E s := by
  refine' enter (binds := [("length", .int n tn), ("turned", .ref l)]) G st tb hs0 ?k6 ?k7 ?k9 ?kB ?_ ?c2 ?c3 ?c4 ?c5
  walk_at "my_side"
  intro base L h₁ b0 b1 b2 F N X' ⟨p, loose, mean, mg, mb, T'⟩ G' hlt hL
  have htbs : ∀ q ∈ tb, s.heap.get? q.1 = some q.2 := fun q hq => (hs0 q hq).1
  have hl' : base.IsList l vs.toArray := hl.at fun o e => b2 _ _ (list_off hT htbs hl) e
  have hvl : vs.length = ts.length := hi.length
  k_steps
  unfold Stop
  refine len_list (hl'.at fun o e => F.keep _ _ e) (by simp; (first | lia | omega)) ?_
  rw [List.size_toArray, hvl]
  k_steps
  rename IsRange _ _ _ _ _ _ _ _ => hrg
  rename Fr _ _ _ _ => F2
  rename News _ _ _ _ => N2
  rename Heap => h7
  rename (∀ (p : Addr × Obj), p ∈ tb → p.1 < _) => hlS
  rename_i lS _ _ _ _ _ _ _ _ _
  refine wpAny_pyIter_range hrg (small_one (by (first | lia | omega)) (by (first | lia | omega)) (by (first | lia | omega)) (by (first | lia | omega))) ?_
  have hlS2 : ∀ q ∈ tb, q.1 ≠ lS := fun q hq => Nat.ne_of_lt (hlS q hq)
  have W := Walks.range (prog := PR) (w := w) (A := (A.deeper _)) G'.hh h7.objs.size 1 1 ts.length
  generalize hio : ({ cls := .type "range_iterator", data := .fields #[rawInt 1, rawInt (Builtin.Range.rangeSize 1 ((ts.length : Int) + 1) 1), rawInt 1] } : Obj) = io
  have F3 := F2.push io
  have N3 : News base L (h7.push io) _ := fun q hq => ⟨Heap.get?_push_of_some _ (N2 q hq).1, (N2 q hq).2⟩
  have hIb := next_is_new F2
  have hIL : h7.objs.size ≠ L := Nat.ne_of_gt F2.ns.lt
  have hIn := fun q hq => Nat.ne_of_lt (Heap.lt_size (N2 q hq).1)
  have hst0 : IsRangeIter (h7.push io) h7.objs.size (1 + ((0 : Nat) : Int) * 1) (((ts.length : Nat) : Int) - ((0 : Nat) : Int)) 1 := by
    show (h7.push io).get? _ = _
    rw [Heap.get?_push_size _ (by rw [← hio]; rfl), ← hio, rangeSize_one]
    have e1 : (if (1 : Int) < (ts.length : Int) + 1 then (ts.length : Int) + 1 - 1 else 0) = (ts.length : Int) - ((0 : Nat) : Int) := by split <;> (first | lia | omega)
    rw [e1]
    rfl
  have hlI : lS ≠ h7.objs.size := hIn _ (.head _)
  obtain ⟨I, hI⟩ : ∃ I, I = h7.objs.size := ⟨_, rfl⟩
  rw [← hI] at W hIb hIL hIn hst0 hlI
  rw [← hI]
  refine forW (base := base) W rfl rfl (fun hm => hIL (List.mem_singleton.mp hm).symm) (fun c hc => by rw [List.mem_singleton.mp hc]; exact hIb) (fun q hq hm => hIn q hq (List.mem_singleton.mp hm)) hst0 F3 N3
    (fun i m₁ news₁ => ∃ t0 t1 k tb', m₁ "length" = some (.int n tn) ∧ m₁ "turned" = some (.ref l) ∧ (∃ t, m₁ "size" = some (.int ts.length t)) ∧ m₁ "sums" = some (.ref lS) ∧ news₁ = (lS, lstO [.int (restsI n ts i).1 t0, .int (restsI n ts i).2 t1] k) :: tb' ∧
      Tabs tb' ∧ (∀ q ∈ tb', q.1 ≠ lS) ∧ (∀ q ∈ tb', q.1 ≠ I) ∧ ∀ q ∈ tb, q.1 ∉ [30, 37, 119, 152] → q ∈ tb')
    ⟨_, _, _, tb, rfl, rfl, ⟨_, rfl⟩, rfl, rfl, hT, hlS2, fun q hq => hIn q (.tail _ hq), fun q hq _ => hq⟩ ?step ?done
  case step =>
    clear F3 N3 F2 N2
    rintro i v m₁ news₁ h tk hin ⟨ti, rfl⟩ ⟨t0, t1, k, tb1, ml, mt, ⟨tz, mz⟩, ms, rfl, hT1, hl1, hI1, hc1⟩ hnw1 hst1 F5 N5
    replace hst1 : IsRangeIter _ _ _ _ _ := hst1
    rw [show (1 : Int) + (i : Int) * 1 = ((i + 1 : Nat) : Int) by (first | lia | omega)] at F5
    obtain ⟨oI, hoE, hst1⟩ : ∃ oI, oI = _ ∧ h.get? I = some oI := ⟨_, rfl, hst1⟩
    have hoIn : NT oI := by rw [hoE]; exact NT.cls (fun h => by cases h)
    have N6 := news_it N5 hst1 hIb hIL
    replace F5 : Fr base L h _ := F5
    replace N6 : News base L h _ := N6
    clear N5
    have hp32 : (2 : Int) ^ (i + 1) ≤ 32 := by have := pow2_le (show i + 1 ≤ 5 by (first | lia | omega)); have e : (2 : Int) ^ 5 = 32 := by decide
                                               first | lia | omega
    have hp0 : (0 : Int) < 2 ^ (i + 1) := Int.pow_pos (by decide)
    k_steps
    rename Fr _ _ _ _ => F6
    rename News _ _ _ _ => N7
    rw [show (1 : Int) * 2 ^ (((i + 1 : Nat) : Int)).toNat = 2 ^ (i + 1) by rw [Int.one_mul, Int.toNat_natCast]] at F6 ⊢
    replace N7 : News base L _ ([(I, oI), (lS, lstO [.int (restsI n ts i).1 t0, .int (restsI n ts i).2 t1] k)] ++ tb1) := N7
    refine int_divmod_k 2 ((G'.keeps (fun b o e => e)).less (by (first | lia | omega))) (fun b o e => F6.keep b o e) hT1 (fun q hq => ⟨(N7 q (List.mem_append_right _ hq)).1, (N7 q (List.mem_append_right _ hq)).2.2⟩) ⟨by (first | lia | omega), by (first | lia | omega)⟩ (by (first | lia | omega)) (by (first | lia | omega)) (by (first | lia | omega)) fun r1 u1 u2 h8 tk8 tb2 aft2 g2 f2 => ?_
    have F8 := after_fr F6 N7 hT1 aft2
    have N8 := news_add F6 (after_news F6 N7 hT1 aft2 ⟨hoIn, NT.cls (fun h => by cases h), True.intro⟩) g2 f2
    have hl2 := after_ne aft2 (N7 (lS, _) (.tail _ (.head _))).1 hl1
    have hI2 := after_ne aft2 (N7 (I, _) (.head _)).1 hI1
    clear F6 N7
    try dsimp only [List.nil_append, List.cons_append] at N8 ⊢
    k_steps
    unfold Stop
    refine item_tupleT (l := [_, _]) (j := 1) (News.isTup N8 (.head _)) (by decide) (by decide) rfl rfl ?_
    k_steps
    rename Fr _ _ _ _ => F6
    rename News _ _ _ _ => N7
    replace N7 : News base L _ ([(r1, tupO [.int ((n : Int).fdiv (2 ^ (i + 1))) u1, .int ((n : Int).fmod (2 ^ (i + 1))) u2]), (I, oI), (lS, lstO [.int (restsI n ts i).1 t0, .int (restsI n ts i).2 t1] k)] ++ tb2) := N7
    refine int_divmod_k 2 ((G'.keeps (fun b o e => e)).less (by (first | lia | omega))) (fun b o e => F6.keep b o e) aft2.tabs (fun q hq => ⟨(N7 q (List.mem_append_right _ hq)).1, (N7 q (List.mem_append_right _ hq)).2.2⟩) ⟨by (first | lia | omega), by (first | lia | omega)⟩ (by (first | lia | omega)) (by (first | lia | omega)) (by (first | lia | omega)) fun r3 u3 u4 h9 tk9 tb3 aft3 g3 f3 => ?_
    have F9 := after_fr F6 N7 aft2.tabs aft3
    have N9 := news_add F6 (after_news F6 N7 aft2.tabs aft3 ⟨NT.cls (fun h => by cases h), hoIn, NT.cls (fun h => by cases h), True.intro⟩) g3 f3
    have hl3 := after_ne aft3 (N7 (lS, _) (.tail _ (.tail _ (.head _)))).1 hl2
    have hI3 := after_ne aft3 (N7 (I, _) (.tail _ (.head _))).1 hI2
    clear F6 N7
    try dsimp only [List.nil_append, List.cons_append] at N9 ⊢
    k_steps
    unfold Stop
    refine item_tupleT (l := [_, _]) (j := 1) (News.isTup N9 (.head _)) (by decide) (by decide) rfl rfl ?_
    k_steps
    rename Fr _ _ _ _ => F6
    rename News _ _ _ _ => N7
    rename Addr => TT
    rw [show ((ts.length : Int) - ((i + 1 : Nat) : Int)).toNat = ts.length - (i + 1) by (first | lia | omega)]
    have hu01 : ts.getD (ts.length - (i + 1)) 0 = 0 ∨ ts.getD (ts.length - (i + 1)) 0 = 1 := by
      rw [List.getD_eq_getElem?_getD, List.getElem?_eq_getElem (by (first | lia | omega))]
      exact ht _ (List.getElem_mem _)
    generalize hu : ts.getD (ts.length - (i + 1)) 0 = u at hu01
    rcases hu01 with rfl | rfl
    · refine wpAny_getItem_list (x := .int (restsI n ts i).1 t0) (items := #[.int (restsI n ts i).1 t0, .int (restsI n ts i).2 t1]) (News.isList N7 (by k_mem)) (by decide) (by decide) rfl ?_
      k_steps
      refine min_tup G'.hh (by obtain ⟨e, _⟩ := N7 _ (.head _); exact ⟨_, e, rfl, _, rfl⟩) fun t9 h10 tk10 k10 => ?_
      have F11 := fr_keep0 F6 k10
      have N11 := news_keep0 N7 k10
      clear F6 N7
      k_steps
      have hq1 := front_ne (lits := [_, _, _, _]) N11 (by
        intro q hq
        simp only [List.mem_cons, List.not_mem_nil, or_false] at hq
        rcases hq with rfl | rfl | rfl | rfl
        · exact fun h => by injection h with h; exact absurd h (by decide)
        · exact fun h => by injection h with h; exact absurd h (by decide)
        · exact fun h => by injection h with h; exact absurd h (by decide)
        · rw [hoE]; exact fun h => by injection h with h; exact absurd h (by decide)) hl3
      refine ki_set (q := [_, _]) F11 (news_front (lits := [_, _, _, _]) N11) (by decide) (by decide) rfl (Upd.head hq1) fun h12 F12 N12 => ?_
      k_steps
      have hE : ((ts.length : Int) - ((i + 1 : Nat) : Int)).toNat = ts.length - (i + 1) := by (first | lia | omega)
      have hst : restsI n ts (i + 1) = ((restsI n ts i).1 + min ((n : Int).fmod (2 ^ (i + 1))) (-((n : Int).fmod (-(2 ^ (i + 1))))) * 2 ^ (ts.length - (i + 1)), (restsI n ts i).2) := by
        rw [restsI_succ]
        unfold stepR
        rw [hu]
        rfl
      have N13 : ∃ t5 t6, News base L h12 ((lS, lstO [.int (restsI n ts (i + 1)).1 t5, .int (restsI n ts (i + 1)).2 t6] k) :: tb3) := ⟨_, _, fun q hq => by
        rcases List.mem_cons.mp hq with rfl | hq
        · have := N12 _ (.head _)
          rw [hE] at this
          rw [hst]
          exact this
        · exact N12 q (.tail _ (List.mem_append_right _ hq))⟩
      obtain ⟨t5, t6, N13⟩ := N13
      refine Turn.next F12 N13 ⟨t5, t6, k, tb3, ml, mt, ⟨tz, mz⟩, ms, rfl, aft3.tabs, hl3, hI3, fun q hq hn => aft3.cods q (aft2.cods q (hc1 q hq hn) hn) hn⟩ (fun q hq hm => ?_) ((N12 (I, oI) (.tail _ (.tail _ (.tail _ (.tail _ (.head _)))))).1.trans (congrArg some hoE))
      rcases List.mem_cons.mp hq with rfl | hq
      · exact hlI (List.mem_singleton.mp hm)
      · exact hI3 q hq (List.mem_singleton.mp hm)
    · refine wpAny_getItem_list (x := .int (restsI n ts i).2 t1) (items := #[.int (restsI n ts i).1 t0, .int (restsI n ts i).2 t1]) (News.isList N7 (by k_mem)) (by decide) (by decide) rfl ?_
      k_steps
      refine min_tup G'.hh (by obtain ⟨e, _⟩ := N7 _ (.head _); exact ⟨_, e, rfl, _, rfl⟩) fun t9 h10 tk10 k10 => ?_
      have F11 := fr_keep0 F6 k10
      have N11 := news_keep0 N7 k10
      clear F6 N7
      k_steps
      have hq1 := front_ne (lits := [_, _, _, _]) N11 (by
        intro q hq
        simp only [List.mem_cons, List.not_mem_nil, or_false] at hq
        rcases hq with rfl | rfl | rfl | rfl
        · exact fun h => by injection h with h; exact absurd h (by decide)
        · exact fun h => by injection h with h; exact absurd h (by decide)
        · exact fun h => by injection h with h; exact absurd h (by decide)
        · rw [hoE]; exact fun h => by injection h with h; exact absurd h (by decide)) hl3
      refine ki_set (q := [_, _]) F11 (news_front (lits := [_, _, _, _]) N11) (by decide) (by decide) rfl (Upd.head hq1) fun h12 F12 N12 => ?_
      k_steps
      have hE : ((ts.length : Int) - ((i + 1 : Nat) : Int)).toNat = ts.length - (i + 1) := by (first | lia | omega)
      have hst : restsI n ts (i + 1) = ((restsI n ts i).1, (restsI n ts i).2 + min ((n : Int).fmod (2 ^ (i + 1))) (-((n : Int).fmod (-(2 ^ (i + 1))))) * 2 ^ (ts.length - (i + 1))) := by
        rw [restsI_succ]
        unfold stepR
        rw [hu]
        rfl
      have N13 : ∃ t5 t6, News base L h12 ((lS, lstO [.int (restsI n ts (i + 1)).1 t5, .int (restsI n ts (i + 1)).2 t6] k) :: tb3) := ⟨_, _, fun q hq => by
        rcases List.mem_cons.mp hq with rfl | hq
        · have := N12 _ (.head _)
          rw [hE] at this
          rw [hst]
          exact this
        · exact N12 q (.tail _ (List.mem_append_right _ hq))⟩
      obtain ⟨t5, t6, N13⟩ := N13
      refine Turn.next F12 N13 ⟨t5, t6, k, tb3, ml, mt, ⟨tz, mz⟩, ms, rfl, aft3.tabs, hl3, hI3, fun q hq hn => aft3.cods q (aft2.cods q (hc1 q hq hn) hn) hn⟩ (fun q hq hm => ?_) ((N12 (I, oI) (.tail _ (.tail _ (.tail _ (.tail _ (.head _)))))).1.trans (congrArg some hoE))
      rcases List.mem_cons.mp hq with rfl | hq
      · exact hlI (List.mem_singleton.mp hm)
      · exact hI3 q hq (List.mem_singleton.mp hm)
  case done =>
    rintro m' news' h' tk' ⟨t0, t1, k, tb1, ml, mt, ⟨tz, mz⟩, ms, rfl, hT1, hl1, hI1, hc1⟩ F5 N5
    replace F5 : Fr base L h' _ := F5
    replace N5 : News base L h' _ := N5
    clear F3 N3 F2 N2
    k_steps
    rename Fr _ _ _ _ => F9
    rename News _ _ _ _ => N9
    exact ret _ _ _ _ _ _ (after_done hT b2 htbs F9 N9 hT1 (fun q hq => .tail _ (.tail _ hq)) hc1) (N9.get (.head _)) (fresh_seq hT hT1 b2 N9 (fun q hq => .tail _ (.tail _ hq)) hc1 (.head _) rfl)
end
end Mine
end
section
set_option maxRecDepth 100000
theorem Mine.off_LoopK : True := by
  w_top off
  trivial
open PySem.Builtin.Int
open PySem PySem.W PyProof.Rows PySem.Calls
namespace Mine
section
variable {w : World} {A : Around} {s : Shared} {env : Env} {base : Heap} {Q : Flow → Shared → Prop} {E : Value → Shared → Prop}

/-- how a turn of a for ends: what the loop itself holds stands at the ledger's end -/
noncomputable def TurnK (base : Heap) (L : Addr) (wr : List Addr) (own : List (Addr × Obj)) (J : (Str → Option Value) → List (Addr × Obj) → Prop) (s : Shared) (Q : Flow → Shared → Prop) (f : Flow) (s' : Shared) : Prop :=
  match f with
  | .ret v => Q (.ret v) s'
  | .brk => Q .next s'
  | _ => ∃ h' tk m' news', s' = { s with heap := h', toks := tk } ∧ Fr base L h' m' ∧ News base L h' (news' ++ own) ∧ J m' news' ∧ (∀ q ∈ news', q.1 ∉ wr)
theorem TurnK.next {L : Addr} {wr : List Addr} {own : List (Addr × Obj)} {J : (Str → Option Value) → List (Addr × Obj) → Prop} {h' : Heap} {tk : Nat} {m' : Str → Option Value} (news' : List (Addr × Obj))
    (F : Fr base L h' m') (N : News base L h' (news' ++ own)) (j : J m' news') (hw : ∀ q ∈ news', q.1 ∉ wr) : TurnK base L wr own J s Q .next { s with heap := h', toks := tk } := ⟨h', tk, m', news', rfl, F, N, j, hw⟩

theorem forK {target : Expr} {body : List Stmt} {I : Addr} {fp wr : List Addr} {n : Nat} {P Md : Nat → Value → Heap → Prop} {St : Nat → Heap → Prop} {PV : Nat → (Str → Option Value) → (Str → Option Value) → Prop} {m : Str → Option Value} {news : List (Addr × Obj)}
    (W : KTurns PR w A target I fp wr n P Md St)
    (hasg : ∀ (i : Nat) (v : Value) (m' : Str → Option Value) (s : Shared) (Q : Unit → Shared → Prop) (E : Value → Shared → Prop), P i v s.heap → s.heap.Ns env.locals m' →
      (∀ h₂ tk₂ m₂, h₂.Ns env.locals m₂ → PV i m' m₂ → (∀ b o, b ≠ env.locals → s.heap.get? b = some o → h₂.get? b = some o) → Q () { s with heap := h₂, toks := tk₂ }) → wpAny (model PR w) A (assign target env v) Q E s)
    (hLf : env.locals ∉ fp) (hwr : ∀ b ∈ wr, base.get? b = none) (hnw : ∀ q ∈ news, q.1 ∉ wr)
    (hst : St 0 s.heap) (F : Fr base env.locals s.heap m) (N : News base env.locals s.heap news)
    (J : Nat → (Str → Option Value) → List (Addr × Obj) → Prop) (h0 : J 0 m news)
    (step : ∀ i m₀ m₁ news₁ h tk own, i < n → PV i m₀ m₁ → J i m₀ news₁ → (∀ q ∈ news₁, q.1 ∉ wr) → (∀ b ∈ wr, base.get? b = none → ∀ o, h.get? b = some o → (b, o) ∈ own) → (∀ q ∈ own, q.1 ∈ fp) → St (i + 1) h →
      Fr base env.locals h m₁ → News base env.locals h (news₁ ++ own) →
      wpAny (model PR w) A (execs body env) (TurnK base env.locals wr own (J (i + 1)) { s with heap := h, toks := tk } Q) (fun _ _ => False) { s with heap := h, toks := tk })
    (done : ∀ m' news' h' tk', J n m' news' → (∀ q ∈ news', q.1 ∉ wr) → Fr base env.locals h' m' → News base env.locals h' news' → Q .next { s with heap := h', toks := tk' }) :
    codeAny (model PR w) A (.forLoop target (.ref I) body [] env) (fun r s' => match r with | .ok f => Q f s' | .error e => cameBackBy (model PR w) A env E e s') s := by
  have hLw : env.locals ∉ wr := fun h => hLf (W.sub _ h)
  have old : ∀ b o, base.get? b = some o → b ∉ wr := fun b o e hb => by rw [hwr b hb] at e; cases e
  refine codeAny_forLoop_any
    (fun k s' => ∃ h' tk m' news' i, s' = { s with heap := h', toks := tk } ∧ St i h' ∧ Fr base env.locals h' m' ∧ News base env.locals h' news' ∧ (∀ q ∈ news', q.1 ∉ wr) ∧ J i m' news' ∧ i ≤ n ∧ k = n + 1 - i) ?_ (n + 1)
    ⟨s.heap, s.toks, m, news, 0, rfl, hst, F, N, hnw, h0, Nat.zero_le _, rfl⟩
  rintro k s' ⟨H, tk, m', news', i, rfl, hst', F', N', hnw', hJ, hi, rfl⟩
  have next : ∀ h₁ : Heap, (∀ b o, b ∉ wr → H.get? b = some o → h₁.get? b = some o) → Fr base env.locals h₁ m' ∧ News base env.locals h₁ news' := fun h₁ hk₁ =>
    ⟨⟨F'.ns.at' fun o e => hk₁ _ o hLw e, fun b o e => hk₁ b o (old b o e) (F'.keep b o e), F'.above⟩, fun p hp => ⟨hk₁ _ _ (hnw' p hp) (N' p hp).1, (N' p hp).2⟩⟩
  by_cases hlt : i < n
  · refine W.item i _ _ _ hlt hst' fun v h₁ tk₁ hMd hk₁ => ?_
    refine W.go i v _ _ _ hMd fun h₂ hP hst₂ hk₂ => ?_
    obtain ⟨F₂, N₂⟩ := next h₂ fun b o hb x => hk₂ b o hb (hk₁ b o hb x)
    have hL0 : base.get? env.locals = none := Heap.get?_none_of_le F'.above
    refine hasg i v m' _ _ _ hP F₂.ns fun h₃ tk₃ m₃ n₃ hPV hk₃ => ?_
    replace hk₃ : ∀ b o, b ≠ env.locals → h₂.get? b = some o → h₃.get? b = some o := hk₃
    have F₃ : Fr base env.locals h₃ m₃ := ⟨n₃, fun b o e => hk₃ b o (fun q => by rw [q, hL0] at e; cases e) (F₂.keep b o e), F₂.above⟩
    have N₃ : News base env.locals h₃ news' := fun p hp => ⟨hk₃ _ _ (N₂ p hp).2.1 (N₂ p hp).1, (N₂ p hp).2⟩
    have hst₃ : St (i + 1) h₃ := W.frame _ _ _ hst₂ fun b hb o e => hk₃ b o (fun q => hLf (by have q' : b = env.locals := q; rw [← q']; exact hb)) e
    have Nown : News base env.locals h₃ (PyProof.Rows.ownOf base fp h₃) := news_ownOf hLf
    have N₄ : News base env.locals h₃ (news' ++ PyProof.Rows.ownOf base fp h₃) := fun p hp => (List.mem_append.mp hp).elim (N₃ p) (Nown p)
    refine wpAny_mono (wpAny_noRaise (step i m' m₃ news' h₃ _ (PyProof.Rows.ownOf base fp h₃) hlt hPV hJ hnw' (fun b hb hn o e => mem_ownOf (W.sub _ hb) hn e) ownOf_sub hst₃ F₃ N₄)) (fun f s₃ h₆ => ?_) fun _ _ e => e
    have fin : (∃ h' tk m' nw, s₃ = { s with heap := h', toks := tk } ∧ Fr base env.locals h' m' ∧ News base env.locals h' (nw ++ PyProof.Rows.ownOf base fp h₃) ∧ J (i + 1) m' nw ∧ (∀ q ∈ nw, q.1 ∉ wr)) →
        ∃ m_1, m_1 < n + 1 - i ∧ ∃ h' tk m' news' i, s₃ = { s with heap := h', toks := tk } ∧ St i h' ∧ Fr base env.locals h' m' ∧ News base env.locals h' news' ∧ (∀ q ∈ news', q.1 ∉ wr) ∧ J i m' news' ∧ i ≤ n ∧ m_1 = n + 1 - i := by
      rintro ⟨h₃', tk₃, m₂, news₂, rfl, F₅, N₅, hJ₃, ha₃⟩
      refine ⟨n + 1 - (i + 1), by (first | lia | omega), h₃', tk₃, m₂, news₂, i + 1, rfl, ?_, F₅, fun p hp => N₅ p (List.mem_append_left _ hp), ha₃, hJ₃, hlt, rfl⟩
      refine W.frame _ _ _ hst₃ fun b hb o e => ?_
      cases hn : base.get? b with
      | some o₀ =>
        have : o₀ = o := by have q := F₃.keep b o₀ hn; rw [e] at q; exact (Option.some.inj q).symm
        exact this ▸ F₅.keep b o₀ hn
      | none => exact (N₅ _ (List.mem_append_right _ (mem_ownOf hb hn e))).1
    cases f with
    | ret v => exact h₆
    | brk => exact h₆
    | next => exact fin h₆
    | cont => exact fin h₆
  · have hin : i = n := by (first | lia | omega)
    subst hin
    refine W.done _ _ _ hst' fun h₁ tk₁ hk₁ => wpAny_execs_nil ?_
    obtain ⟨F₁, N₁⟩ := next h₁ hk₁
    exact done m' news' h₁ tk₁ hJ hnw' F₁ N₁

theorem asgF_name {x : Str} {px : Pos} {P' : Nat → Value → Prop} (hx : env.kindOf x = some .local) (hp : (env.scope.kind == .class || (env.scope.kind == .module && env.locals != env.globals)) = false) :
    ∀ (i : Nat) (v : Value) (m' : Str → Option Value) (s : Shared) (Q : Unit → Shared → Prop) (E : Value → Shared → Prop), P' i v → s.heap.Ns env.locals m' →
      (∀ h₂ tk₂ m₂, h₂.Ns env.locals m₂ → (∃ v, P' i v ∧ m₂ = fun y => if y = x then some v else m' y) → (∀ b o, b ≠ env.locals → s.heap.get? b = some o → h₂.get? b = some o) → Q () { s with heap := h₂, toks := tk₂ }) → wpAny (model PR w) A (assign (.Name x px) env v) Q E s :=
  fun i v m' s Q E hP hn h => wpAny_assign_Name (wpAny_storeName_local hx hn (fun h₃ hn₃ hs₃ => h h₃ _ _ hn₃ ⟨v, hP, rfl⟩ fun b o hb e => hs₃.extBut b o hb e) hp)

theorem asgF_pair {xi xc : Str} {pk pv pt : Pos} {x1 : Nat} {Pt : Nat → Array Value → Prop} (hh : A.handled = none) (h2 : ∀ i vals, Pt i vals → ∃ v0 v1, vals = #[v0, v1])
    (hxi : env.kindOf xi = some .local) (hxc : env.kindOf xc = some .local) (hp : (env.scope.kind == .class || (env.scope.kind == .module && env.locals != env.globals)) = false) :
    ∀ (i : Nat) (v : Value) (m' : Str → Option Value) (s : Shared) (Q : Unit → Shared → Prop) (E : Value → Shared → Prop), (∃ T vals, v = .ref T ∧ Pt i vals ∧ s.heap.IsTuple T vals) → s.heap.Ns env.locals m' →
      (∀ h₂ tk₂ m₂, h₂.Ns env.locals m₂ → (∃ v0 v1, Pt i #[v0, v1] ∧ m₂ = fun y => if y = xc then some v1 else if y = xi then some v0 else m' y) → (∀ b o, b ≠ env.locals → s.heap.get? b = some o → h₂.get? b = some o) → Q () { s with heap := h₂, toks := tk₂ }) →
      wpAny (model PR w) A (assign (.Tuple [.Name xi pk, .Name xc pv] x1 pt) env v) Q E s := by
  rintro i v m' s Q E ⟨T, vals, rfl, hP, hT⟩ hn h
  obtain ⟨v0, v1, rfl⟩ := h2 i vals hP
  refine wpAny_assign_Tuple hh hT rfl rfl fun h₃ hx₃ => ?_
  replace hx₃ : Heap.ExtBut s.heap.objs.size s.heap h₃ := hx₃
  have up₃ : ∀ b o, s.heap.get? b = some o → h₃.get? b = some o := fun b o x => hx₃ b o (Nat.ne_of_lt (Heap.lt_size x)) x
  show wpAny _ A (do holding [v1] (assign (.Name xi pk) env v0); do holding [] (assign (.Name xc pv) env v1); pure ()) _ _ _
  refine wpAny_bind (wpAny_holding (wpAny_assign_Name (wpAny_storeName_local hxi (hn.at' fun o e => up₃ _ o e) (fun h₄ hn₄ hs₄ => ?_) hp)))
  replace hs₄ : Heap.SameBut env.locals h₃ h₄ := hs₄
  refine wpAny_bind (wpAny_holding (wpAny_assign_Name (wpAny_storeName_local hxc hn₄ (fun h₅ hn₅ hs₅ => wpAny_pure ?_) hp)))
  replace hs₅ : Heap.SameBut env.locals h₄ h₅ := hs₅
  exact h h₅ _ _ hn₅ ⟨v0, v1, hP, rfl⟩ fun b o hb e => hs₅.extBut b o hb (hs₄.extBut b o hb (up₃ b o e))

/-- one turn of a for -/
noncomputable def FStep (w : World) (A : Around) (base : Heap) (env : Env) (body : List Stmt) (s : Shared) (fp wr : List Addr) (n : Nat) (PV : Nat → (Str → Option Value) → (Str → Option Value) → Prop) (J : Nat → (Str → Option Value) → List (Addr × Obj) → Prop) (Q : Flow → Shared → Prop) : Prop :=
  ∀ i m₀ m₁ news₁ h tk own, i < n → PV i m₀ m₁ → J i m₀ news₁ → (∀ q ∈ news₁, q.1 ∉ wr) → (∀ b ∈ wr, ∃ o, h.get? b = some o) → (∀ q ∈ own, q.1 ∈ fp) →
      Fr base env.locals h m₁ → News base env.locals h (news₁ ++ own) →
      wpAny (model PR w) A (execs body env) (TurnK base env.locals wr own (J (i + 1)) { s with heap := h, toks := tk } Q) (fun _ _ => False) { s with heap := h, toks := tk }

theorem for_enum {l : Addr} {its : Array Value} {xi xc : Str} {pk pv pt : Pos} {x1 : Nat} {body : List Stmt} {E₂ E₃ : Value → Shared → Prop} {m : Str → Option Value} {news : List (Addr × Obj)} (hh : A.handled = none) (hl : s.heap.IsList l its) (hLa : env.locals ≠ l)
    (hxi : env.kindOf xi = some .local) (hxc : env.kindOf xc = some .local) (hp : (env.scope.kind == .class || (env.scope.kind == .module && env.locals != env.globals)) = false) (F : Fr base env.locals s.heap m) (N : News base env.locals s.heap news)
    (J : Nat → (Str → Option Value) → List (Addr × Obj) → Prop) (h0 : J 0 m news)
    (step : FStep w A base env body s [s.heap.objs.size + 1, s.heap.objs.size, l] [s.heap.objs.size + 1, s.heap.objs.size] its.size (fun i m₀ m₁ => ∃ t v, its[i]? = some v ∧ m₁ = fun y => if y = xc then some v else if y = xi then some (.int (i : Nat) t) else m₀ y) J Q)
    (done : ∀ m' news' h' tk', J its.size m' news' → Fr base env.locals h' m' → News base env.locals h' news' → Q .next { s with heap := h', toks := tk' }) :
    wpAny (model PR w) A (call (.type "enumerate") [.ref l]) (fun xv s₁ => wpAny (model PR w) A (pyIter xv) (fun it s₂ => codeAny (model PR w) A (.forLoop (.Tuple [.Name xi pk, .Name xc pv] x1 pt) it body [] env) (fun r s' => match r with | .ok f => Q f s' | .error e => cameBackBy (model PR w) A env E₃ e s') s₂) E₂ s₁) E s := by
  have hlt : l < s.heap.objs.size := by obtain ⟨_, e, _⟩ := hl; exact Heap.lt_size e
  have hLs : env.locals < s.heap.objs.size := F.ns.lt
  refine call_enumerate_list hl fun h' hE hI hsz' hk => ?_
  refine wpAny_pyIter_enum hE ?_
  have W := (WalksT.enumerate (prog := PR) (w := w) (A := A) hh (s.heap.objs.size + 1) s.heap.objs.size l (Nat.succ_ne_self _) (ktu_ne 1 hlt) (Nat.ne_of_lt hlt) its).toU
  refine forK (KTurns.ofWalksU W) (asgF_pair hh (fun i vals ⟨t, v, _, e⟩ => ⟨_, _, e⟩) hxi hxc hp) ?_ ?_ ?_ ⟨⟨_, hE⟩, hI, hl.at fun o e => hk _ _ e⟩ (F.keeps hk) (N.grown hk) J h0
    (fun i m₀ m₁ news₁ h tk own hi hpv hJ h1 _ hof hst F1 N1 => step i m₀ m₁ news₁ h tk own hi ?_ hJ h1 ?_ hof F1 N1) fun m' news' h' tk' hJ _ F1 N1 => done m' news' h' tk' hJ F1 N1
  · intro hm
    have hb' : env.locals = s.heap.objs.size + 1 ∨ env.locals = s.heap.objs.size ∨ env.locals = l := by simpa using hm
    rcases hb' with e | e | e
    · exact ktu_ne 1 hLs e
    · exact Nat.ne_of_lt hLs e
    · exact hLa e
  · intro b hb
    have hb' : b = s.heap.objs.size + 1 ∨ b = s.heap.objs.size := by simpa using hb
    rcases hb' with rfl | rfl
    · exact ktu_new F (Nat.le_add_right _ _)
    · exact ktu_new F (Nat.le_refl _)
  · intro p hp hI'
    have hb' : p.1 = s.heap.objs.size + 1 ∨ p.1 = s.heap.objs.size := by simpa using hI'
    have hlp := Heap.lt_size (N p hp).1
    rcases hb' with e | e
    · exact ktu_ne 1 hlp e
    · exact Nat.ne_of_lt hlp e
  · obtain ⟨v0, v1, ⟨t, v, e1, e2⟩, e3⟩ := hpv
    cases e2
    exact ⟨t, _, e1, e3⟩
  · intro b hb
    have hb' : b = s.heap.objs.size + 1 ∨ b = s.heap.objs.size := by simpa using hb
    obtain ⟨⟨old, he⟩, ⟨oi, hoi, _⟩, _⟩ := hst
    rcases hb' with rfl | rfl
    · exact ⟨_, he⟩
    · exact ⟨_, hoi⟩

/-- three names take a triple's items -/
theorem assign3 {Q : Unit → Shared → Prop} {xi xc xd : Str} {pk pv pw pt : Pos} {x1 : Nat} {T : Addr} {v0 v1 v2 : Value} {m : Str → Option Value} {news : List (Addr × Obj)} (hh : A.handled = none)
    (F : Fr base env.locals s.heap m) (N : News base env.locals s.heap news) (ht : s.heap.IsTuple T #[v0, v1, v2])
    (hxi : env.kindOf xi = some .local) (hxc : env.kindOf xc = some .local) (hxd : env.kindOf xd = some .local)
    (hp : (env.scope.kind == .class || (env.scope.kind == .module && env.locals != env.globals)) = false)
    (h : ∀ h' tk', Fr base env.locals h' (fun y => if y = xd then some v2 else if y = xc then some v1 else if y = xi then some v0 else m y) → News base env.locals h' news → Q () { s with heap := h', toks := tk' }) :
    wpAny (model PR w) A (assign (.Tuple [.Name xi pk, .Name xc pv, .Name xd pw] x1 pt) env (.ref T)) Q E s := by
  refine wpAny_assign_Tuple hh ht rfl rfl fun h₃ hx₃ => ?_
  replace hx₃ : Heap.ExtBut s.heap.objs.size s.heap h₃ := hx₃
  have up₃ : ∀ b o, s.heap.get? b = some o → h₃.get? b = some o := fun b o x => hx₃ b o (Nat.ne_of_lt (Heap.lt_size x)) x
  have F₃ : Fr base env.locals h₃ m := ⟨F.ns.keeps up₃, fun b o e => up₃ b o (F.keep b o e), F.above⟩
  have N₃ : News base env.locals h₃ news := fun p hp => ⟨up₃ _ _ (N p hp).1, (N p hp).2⟩
  show wpAny _ A (do holding [v1, v2] (assign (.Name xi pk) env v0); do holding [v2] (assign (.Name xc pv) env v1); do holding [] (assign (.Name xd pw) env v2); pure ()) _ _ _
  refine wpAny_bind (wpAny_holding (wpAny_assign_Name (wpAny_storeName_local hxi F₃.ns (fun h₄ hn₄ hs₄ => ?_) hp)))
  replace hs₄ : Heap.SameBut env.locals h₃ h₄ := hs₄
  have F₄ := F₃.set hn₄ hs₄
  refine wpAny_bind (wpAny_holding (wpAny_assign_Name (wpAny_storeName_local hxc F₄.ns (fun h₅ hn₅ hs₅ => ?_) hp)))
  replace hs₅ : Heap.SameBut env.locals h₄ h₅ := hs₅
  have F₅ := F₄.set hn₅ hs₅
  refine wpAny_bind (wpAny_holding (wpAny_assign_Name (wpAny_storeName_local hxd F₅.ns (fun h₆ hn₆ hs₆ => wpAny_pure ?_) hp)))
  replace hs₆ : Heap.SameBut env.locals h₅ h₆ := hs₆
  exact h h₆ _ (F₅.set hn₆ hs₆) (((N₃.set hs₄).set hs₅).set hs₆)
end
end Mine
end
section
set_option maxRecDepth 100000
theorem Mine.off_F17 : True := by
  w_top off
  trivial
open PySem.Builtin.Int
open PySem PySem.W PyProof.Rows PySem.Calls
namespace Mine
local macro_rules | `(tactic| walk_at "my_side") => `(tactic| (
  (case k6 => k_is); (case k7 => k_is); (case k9 => first | exact BindsTo.of_eq rfl | exact binds_K (by k_in) rfl (by k_is) rfl rfl rfl); (case c5 => decide); (case kB => exact locs rfl); (case c2 => exact rfl); (case c3 => exact rfl); (case c4 => exact rfl)))
local macro_rules | `(tactic| walk_at "exec For Tuple Call cons nil") => `(tactic| (refine wpAny_For ?_ (fun _ => rfl)))
local macro_rules | `(tactic| walk_at "call type:enumerate") => `(tactic| (refine Stop.out ?_))
local macro_rules | `(tactic| walk_at "eval Name") => `(tactic| (k_here; k_dflt (refine' nameX_L ?F ?v ?_ ?a ?b; (case F => k_asm); (case a => rfl); (case b => rfl); (case v => assumption); k_whole)))
theorem news_head {h₀ h : Heap} {L a : Addr} {o : Obj} {r : List (Addr × Obj)} (_N : News h₀ L h ((a, o) :: r)) : ∃ b, b = a := ⟨_, rfl⟩
section
variable {w : World} {g : Heap} {s : Shared} {A : Around} {Q : Value → Shared → Prop} {E : Value → Shared → Prop}

set_option maxHeartbeats 4000000 in
theorem cells_ok (G : Gx w g A 2) (st : g.StaysIn s.heap) {l : Addr} {vs : List Value} {ns : List Int} (hl : s.heap.IsList l vs.toArray) (hi : IntsAre vs ns) (hlen : ns.length ≤ 63)
    (ret : ∀ r us cs k h' tk, Keep [] s.heap h' → h'.get? r = some (lstO us k) → IntsAre us cs → cs.length = 4 → (∀ c ∈ cs, 0 ≤ c ∧ c ≤ 100000000) → s.heap.get? r = none → Q (.ref r) { s with heap := h', toks := tk }) :
    wpAny (model PR w) A (call (.ref 107) [.ref l]) Q E s := by
  refine' enter (binds := [("script", .ref l)]) G st [] (fun _ h => nomatch h) ?k6 ?k7 ?k9 ?kB ?_ ?c2 ?c3 ?c4 ?c5
  walk_at "my_side"
  intro base L h₁ b0 b1 b2 F N X' ⟨p, loose, mean, mg, mb, T'⟩ G' hlt hL
  have hl' : base.IsList l vs.toArray := hl.at fun o e => b2 _ _ (fun h => nomatch h) e
  have hvl : vs.length = ns.length := hi.length
  k_steps
  rename Fr _ _ _ _ => F2
  rename News _ _ _ _ => N2
  rename IntsAre _ _ => hI2
  rename List Value => ws
  have hwl : ws.length ≤ 60 := by rw [hI2.length, List.length_take]; exact Nat.min_le_left _ _
  rename _ < _ => hlt2
  obtain ⟨DD, hDD⟩ := news_head N2
  subst hDD
  unfold Stop
  refine for_enum (Q := _) G'.hh (News.isList N2 (.head _)) (Ne.symm (N2 _ (.head _)).2.1) rfl rfl rfl F2 N2
    (fun i m₁ news₁ => ∃ lC us cs k ys kD, m₁ "cells" = some (.ref lC) ∧ news₁ = [(DD, lstO ys kD), (lC, lstO us k)] ∧ lC ≠ DD ∧ IntsAre us cs ∧ cs.length = 4 ∧ ∀ c ∈ cs, 0 ≤ c ∧ c ≤ 80 + i * 1000000) ?h0 ?step ?done
  case h0 =>
    refine ⟨_, _, [24, 5, 57, 80], 0, ws, 0, rfl, rfl, ?_, .cons _ _ (.cons _ _ (.cons _ _ (.cons _ _ .nil))), rfl, ?_⟩
    · exact Nat.ne_of_lt hlt2
    · intro c hc
      simp only [List.mem_cons, List.not_mem_nil, or_false] at hc
      first | lia | omega
  case step =>
    rintro i m₀ m₁ news₁ h tk own hin ⟨t, v, hv, rfl⟩ ⟨lC, us, cs, k, ys, kD, mC, rfl, hne, hus, hcl, hcb⟩ h1 hex hof F5 N5
    obtain ⟨x, tx, rfl, hx⟩ := ints_at hI2 (by simpa using hv)
    clear F2 N2
    replace F5 : Fr base L h _ := F5
    replace N5 : News base L h _ := N5
    have hown : ∀ q ∈ own, q.1 ≠ lC := fun q hq e => by
      have h2 := h1 (lC, lstO us k) (.tail _ (.head _))
      have h3 := hof q hq
      rw [e] at h3
      simp only [List.mem_cons, List.not_mem_nil, or_false] at h2 h3
      rcases h3 with h3 | h3 | h3
      · exact h2 (.inl h3)
      · exact h2 (.inr h3)
      · exact hne h3
    have hj0 : 0 ≤ (i : Int).fmod 4 ∧ (i : Int).fmod 4 < 4 := by rw [Int.fmod_eq_emod_of_nonneg _ (by decide)]; (first | lia | omega)
    k_steps
    rename Fr _ _ _ _ => F6
    rename News _ _ _ _ => N6
    refine ksa_set (k := (i : Int).fmod 4) (vs := us) (ns := cs) (n := k) F6 N6 (Upd.tail (Ne.symm hne) (Upd.head hown)) hus hj0.1 (by (first | lia | omega)) (by (first | lia | omega)) fun h7 F7 N7 i7 l7 s7 => ?_
    k_steps
    refine TurnK.next [(DD, lstO ys kD), (lC, lstO _ k)] F7 N7 ⟨lC, _, _, k, ys, kD, mC, rfl, hne, i7, by rw [l7]; exact hcl, fun c hc => ?_⟩ (fun q hq => ?_)
    · rcases List.mem_or_eq_of_mem_set hc with hc | hc
      · have := hcb c hc
        first | lia | omega
      · have hg : 0 ≤ cs.getD ((i : Int).fmod 4).toNat 0 ∧ cs.getD ((i : Int).fmod 4).toNat 0 ≤ 80 + (i : Int) * 1000000 := by
          rw [List.getD_eq_getElem?_getD, List.getElem?_eq_getElem (by (first | lia | omega))]
          exact hcb _ (List.getElem_mem _)
        have hm := Int.emod_nonneg x (show (1000000 : Int) ≠ 0 by decide)
        have hm2 := Int.emod_lt_of_pos x (show (0 : Int) < 1000000 by decide)
        have hme : x.fmod 1000000 = x % 1000000 := Int.fmod_eq_emod_of_nonneg _ (by decide)
        have hpw : (10 : Int) ^ Int.toNat 6 = 1000000 := by decide
        rw [hc]
        first
          | omega
          | (rw [hme]; (first | lia | omega))
          | (rw [hpw, hme]; (first | lia | omega))
    · rcases List.mem_cons.mp hq with rfl | hq
      · exact h1 (DD, lstO ys kD) (.head _)
      · rw [List.mem_singleton.mp hq]; exact h1 (lC, lstO us k) (.tail _ (.head _))
  case done =>
    rintro m' news' h' tk' ⟨lC, us, cs, k, ys, kD, mC, rfl, hne, hus, hcl, hcb⟩ F5 N5
    replace F5 : Fr base L h' _ := F5
    replace N5 : News base L h' _ := N5
    clear F2 N2
    k_steps
    exact ret _ _ _ _ _ _ (keep_of b2 F5) (N5.get (.tail _ (.head _))) hus hcl (fun c hc => by have := hcb c hc; simp only [List.size_toArray] at this; (first | lia | omega)) (fresh_of b2 N5 (.tail _ (.head _)) (fun h => nomatch h))
end
end Mine
end
section
set_option maxRecDepth 100000
theorem Mine.off_LoopL : True := by
  w_top off
  trivial
open PySem.Builtin.Int
open PySem PySem.W PyProof.Rows PySem.Calls
namespace Mine
section
variable {w : World} {A : Around} {s : Shared} {env : Env} {base : Heap} {Q : Flow → Shared → Prop} {E : Value → Shared → Prop}

/-- how a turn of a for ends: the loop's own objects stand at the ledger's head -/
noncomputable def TurnL (base : Heap) (L : Addr) (wr fp : List Addr) (own : List (Addr × Obj)) (h : Heap) (J : (Str → Option Value) → List (Addr × Obj) → Prop) (s : Shared) (Q : Flow → Shared → Prop) (f : Flow) (s' : Shared) : Prop :=
  match f with
  | .ret v => Q (.ret v) s'
  | .brk => Q .next s'
  | _ => ∃ h' tk m' news', s' = { s with heap := h', toks := tk } ∧ Fr base L h' m' ∧ News base L h' (own ++ news') ∧ J m' news' ∧ (∀ q ∈ news', q.1 ∉ wr) ∧ (∀ b ∈ fp, b ∉ wr → ∀ o, h.get? b = some o → h'.get? b = some o)
theorem TurnL.next {L : Addr} {wr fp : List Addr} {own : List (Addr × Obj)} {h : Heap} {J : (Str → Option Value) → List (Addr × Obj) → Prop} {h' : Heap} {tk : Nat} {m' : Str → Option Value} (news' : List (Addr × Obj))
    (F : Fr base L h' m') (N : News base L h' (own ++ news')) (j : J m' news') (hw : ∀ q ∈ news', q.1 ∉ wr) (hf : ∀ b ∈ fp, b ∉ wr → ∀ o, h.get? b = some o → h'.get? b = some o) : TurnL base L wr fp own h J s Q .next { s with heap := h', toks := tk } := ⟨h', tk, m', news', rfl, F, N, j, hw, hf⟩

/-- the loop's own objects -/
theorem own_list {Pw : Obj → Prop} {h : Heap} : ∀ {wr : List Addr}, (∀ b ∈ wr, ∃ o, h.get? b = some o ∧ NT o ∧ Pw o) → ∃ own : List (Addr × Obj), own.map (·.1) = wr ∧ NTs own ∧ (∀ q ∈ own, h.get? q.1 = some q.2) ∧ ∀ q ∈ own, Pw q.2
  | [], _ => ⟨[], rfl, True.intro, (fun _ h => nomatch h), fun _ h => nomatch h⟩
  | b :: r, H => by
    obtain ⟨o, e, n, pw⟩ := H b (.head _)
    obtain ⟨own, e1, e2, e3, e4⟩ := own_list (wr := r) fun c hc => H c (.tail _ hc)
    refine ⟨(b, o) :: own, by rw [List.map_cons, e1], ⟨n, e2⟩, fun q hq => ?_, fun q hq => ?_⟩
    · rcases List.mem_cons.mp hq with rfl | hq
      · exact e
      · exact e3 q hq
    · rcases List.mem_cons.mp hq with rfl | hq
      · exact pw
      · exact e4 q hq

theorem forL {Pw : Obj → Prop} {target : Expr} {body : List Stmt} {I : Addr} {fp wr : List Addr} {n : Nat} {P Md : Nat → Value → Heap → Prop} {St : Nat → Heap → Prop} {PV : Nat → (Str → Option Value) → (Str → Option Value) → Prop} {m : Str → Option Value} {news : List (Addr × Obj)}
    (W : KTurns PR w A target I fp wr n P Md St)
    (hasg : ∀ (i : Nat) (v : Value) (m' : Str → Option Value) (s : Shared) (Q : Unit → Shared → Prop) (E : Value → Shared → Prop), P i v s.heap → s.heap.Ns env.locals m' →
      (∀ h₂ tk₂ m₂, h₂.Ns env.locals m₂ → PV i m' m₂ → (∀ b o, b ≠ env.locals → s.heap.get? b = some o → h₂.get? b = some o) → Q () { s with heap := h₂, toks := tk₂ }) → wpAny (model PR w) A (assign target env v) Q E s)
    (hLf : env.locals ∉ fp) (hwr : ∀ b ∈ wr, base.get? b = none) (hnw : ∀ q ∈ news, q.1 ∉ wr) (hNT : ∀ i h, St i h → ∀ b ∈ wr, ∃ o, h.get? b = some o ∧ NT o ∧ Pw o)
    (hst : St 0 s.heap) (F : Fr base env.locals s.heap m) (N : News base env.locals s.heap news)
    (J : Nat → (Str → Option Value) → List (Addr × Obj) → Prop) (h0 : J 0 m news)
    (step : ∀ i m₀ m₁ news₁ h tk own, i < n → PV i m₀ m₁ → J i m₀ news₁ → (∀ q ∈ news₁, q.1 ∉ wr) → own.map (·.1) = wr → NTs own → (∀ q ∈ own, Pw q.2) →
      Fr base env.locals h m₁ → News base env.locals h (own ++ news₁) →
      wpAny (model PR w) A (execs body env) (TurnL base env.locals wr fp own h (J (i + 1)) { s with heap := h, toks := tk } Q) (fun _ _ => False) { s with heap := h, toks := tk })
    (done : ∀ m' news' h' tk', J n m' news' → (∀ q ∈ news', q.1 ∉ wr) → Fr base env.locals h' m' → News base env.locals h' news' → Q .next { s with heap := h', toks := tk' }) :
    codeAny (model PR w) A (.forLoop target (.ref I) body [] env) (fun r s' => match r with | .ok f => Q f s' | .error e => cameBackBy (model PR w) A env E e s') s := by
  have hLw : env.locals ∉ wr := fun h => hLf (W.sub _ h)
  have old : ∀ b o, base.get? b = some o → b ∉ wr := fun b o e hb => by rw [hwr b hb] at e; cases e
  refine codeAny_forLoop_any
    (fun k s' => ∃ h' tk m' news' i, s' = { s with heap := h', toks := tk } ∧ St i h' ∧ Fr base env.locals h' m' ∧ News base env.locals h' news' ∧ (∀ q ∈ news', q.1 ∉ wr) ∧ J i m' news' ∧ i ≤ n ∧ k = n + 1 - i) ?_ (n + 1)
    ⟨s.heap, s.toks, m, news, 0, rfl, hst, F, N, hnw, h0, Nat.zero_le _, rfl⟩
  rintro k s' ⟨H, tk, m', news', i, rfl, hst', F', N', hnw', hJ, hi, rfl⟩
  have next : ∀ h₁ : Heap, (∀ b o, b ∉ wr → H.get? b = some o → h₁.get? b = some o) → Fr base env.locals h₁ m' ∧ News base env.locals h₁ news' := fun h₁ hk₁ =>
    ⟨⟨F'.ns.at' fun o e => hk₁ _ o hLw e, fun b o e => hk₁ b o (old b o e) (F'.keep b o e), F'.above⟩, fun p hp => ⟨hk₁ _ _ (hnw' p hp) (N' p hp).1, (N' p hp).2⟩⟩
  by_cases hlt : i < n
  · refine W.item i _ _ _ hlt hst' fun v h₁ tk₁ hMd hk₁ => ?_
    refine W.go i v _ _ _ hMd fun h₂ hP hst₂ hk₂ => ?_
    obtain ⟨F₂, N₂⟩ := next h₂ fun b o hb x => hk₂ b o hb (hk₁ b o hb x)
    have hL0 : base.get? env.locals = none := Heap.get?_none_of_le F'.above
    refine hasg i v m' _ _ _ hP F₂.ns fun h₃ tk₃ m₃ n₃ hPV hk₃ => ?_
    replace hk₃ : ∀ b o, b ≠ env.locals → h₂.get? b = some o → h₃.get? b = some o := hk₃
    have F₃ : Fr base env.locals h₃ m₃ := ⟨n₃, fun b o e => hk₃ b o (fun q => by rw [q, hL0] at e; cases e) (F₂.keep b o e), F₂.above⟩
    have N₃ : News base env.locals h₃ news' := fun p hp => ⟨hk₃ _ _ (N₂ p hp).2.1 (N₂ p hp).1, (N₂ p hp).2⟩
    have hst₃ : St (i + 1) h₃ := W.frame _ _ _ hst₂ fun b hb o e => hk₃ b o (fun q => hLf (by have q' : b = env.locals := q; rw [← q']; exact hb)) e
    obtain ⟨own, o1, o2, o3, o4⟩ := own_list (hNT _ _ hst₃)
    have ow : ∀ q ∈ own, q.1 ∈ wr := fun q hq => o1 ▸ List.mem_map_of_mem hq
    have N₄ : News base env.locals h₃ (own ++ news') := fun p hp => (List.mem_append.mp hp).elim (fun hp => ⟨o3 p hp, fun e => hLw (by have e' : p.1 = env.locals := e; rw [← e']; exact ow p hp), hwr _ (ow p hp)⟩) (N₃ p)
    refine wpAny_mono (wpAny_noRaise (step i m' m₃ news' h₃ _ own hlt hPV hJ hnw' o1 o2 o4 F₃ N₄)) (fun f s₃ h₆ => ?_) fun _ _ e => e
    have fin : (∃ h' tk m' nw, s₃ = { s with heap := h', toks := tk } ∧ Fr base env.locals h' m' ∧ News base env.locals h' (own ++ nw) ∧ J (i + 1) m' nw ∧ (∀ q ∈ nw, q.1 ∉ wr) ∧ (∀ b ∈ fp, b ∉ wr → ∀ o, h₃.get? b = some o → h'.get? b = some o)) →
        ∃ m_1, m_1 < n + 1 - i ∧ ∃ h' tk m' news' i, s₃ = { s with heap := h', toks := tk } ∧ St i h' ∧ Fr base env.locals h' m' ∧ News base env.locals h' news' ∧ (∀ q ∈ news', q.1 ∉ wr) ∧ J i m' news' ∧ i ≤ n ∧ m_1 = n + 1 - i := by
      rintro ⟨h₃', tk₃, m₂, news₂, rfl, F₅, N₅, hJ₃, ha₃, hf₃⟩
      refine ⟨n + 1 - (i + 1), by (first | lia | omega), h₃', tk₃, m₂, news₂, i + 1, rfl, ?_, F₅, fun p hp => N₅ p (List.mem_append_right _ hp), ha₃, hJ₃, hlt, rfl⟩
      refine W.frame _ _ _ hst₃ fun b hb o e => ?_
      by_cases hw : b ∈ wr
      · rw [← o1] at hw
        obtain ⟨q, hq, rfl⟩ := List.mem_map.mp hw
        rw [o3 q hq] at e
        cases e
        exact (N₅ _ (List.mem_append_left _ hq)).1
      · exact hf₃ b hb hw o e
    cases f with
    | ret v => exact h₆
    | brk => exact h₆
    | next => exact fin h₆
    | cont => exact fin h₆
  · have hin : i = n := by (first | lia | omega)
    subst hin
    refine W.done _ _ _ hst' fun h₁ tk₁ hk₁ => wpAny_execs_nil ?_
    obtain ⟨F₁, N₁⟩ := next h₁ hk₁
    exact done m' news' h₁ tk₁ hJ hnw' F₁ N₁

theorem map_one {own : List (Addr × Obj)} {I : Addr} (h : own.map (·.1) = [I]) : ∃ o, own = [(I, o)] := by
  cases own with
  | nil => cases h
  | cons p r =>
    cases r with
    | nil => obtain ⟨a, o⟩ := p; simp only [List.map_cons, List.map_nil, List.cons.injEq, and_true] at h; subst h; exact ⟨o, rfl⟩
    | cons q r => simp at h
theorem map_two {own : List (Addr × Obj)} {I K : Addr} (h : own.map (·.1) = [I, K]) : ∃ o o', own = [(I, o), (K, o')] := by
  cases own with
  | nil => cases h
  | cons p r =>
    obtain ⟨a, o⟩ := p
    simp only [List.map_cons, List.cons.injEq] at h
    obtain ⟨rfl, h⟩ := h
    obtain ⟨o', rfl⟩ := map_one h
    exact ⟨o, o', rfl⟩

/-- one turn, the loop's one object by name -/
noncomputable def LStep1 (w : World) (A : Around) (base : Heap) (env : Env) (body : List Stmt) (s : Shared) (fp : List Addr) (n : Nat) (PV : Nat → (Str → Option Value) → (Str → Option Value) → Prop) (J : Nat → (Str → Option Value) → List (Addr × Obj) → Prop) (Q : Flow → Shared → Prop) (I : Addr) : Prop :=
  ∀ i m₀ m₁ news₁ h tk oI, i < n → PV i m₀ m₁ → J i m₀ news₁ → (∀ q ∈ news₁, q.1 ∉ [I]) → NT oI ∧ oI.cls ≠ .type "tuple" →
      Fr base env.locals h m₁ → News base env.locals h ((I, oI) :: news₁) →
      wpAny (model PR w) A (execs body env) (TurnL base env.locals [I] (I :: fp) [(I, oI)] h (J (i + 1)) { s with heap := h, toks := tk } Q) (fun _ _ => False) { s with heap := h, toks := tk }

theorem for_listL {x : Str} {px : Pos} {body : List Stmt} {D : Addr} {its : Array Value} {E₃ : Value → Shared → Prop} {m : Str → Option Value} {news : List (Addr × Obj)} (hh : A.handled = none) (hl : s.heap.IsList D its) (hLD : env.locals ≠ D)
    (hx : env.kindOf x = some .local) (hp : (env.scope.kind == .class || (env.scope.kind == .module && env.locals != env.globals)) = false) (F : Fr base env.locals s.heap m) (N : News base env.locals s.heap news)
    (J : Nat → (Str → Option Value) → List (Addr × Obj) → Prop) (h0 : J 0 m news)
    (step : ∀ I, LStep1 w A base env body s [D] its.size (fun i m₀ m₁ => ∃ v, its[i]? = some v ∧ m₁ = fun y => if y = x then some v else m₀ y) J Q I)
    (done : ∀ m' news' h' tk', J its.size m' news' → Fr base env.locals h' m' → News base env.locals h' news' → Q .next { s with heap := h', toks := tk' }) :
    wpAny (model PR w) A (pyIter (.ref D)) (fun it s₂ => codeAny (model PR w) A (.forLoop (.Name x px) it body [] env) (fun r s' => match r with | .ok f => Q f s' | .error e => cameBackBy (model PR w) A env E₃ e s') s₂) E s := by
  have hlt : D < s.heap.objs.size := by obtain ⟨_, e, _⟩ := hl; exact Heap.lt_size e
  have hLs : env.locals < s.heap.objs.size := F.ns.lt
  refine wpAny_pyIter_list hl ?_
  have W := Walks.list (prog := PR) (w := w) (A := A) hh s.heap.objs.size D (Nat.ne_of_lt hlt) its
  refine forL (Pw := fun o => o.cls ≠ .type "tuple") (KTurns.ofWalks W fun _ _ _ _ _ _ hQ => wpAny_pure hQ) (asgF_name (P' := fun i v => its[i]? = some v) hx hp) ?_ ?_ ?_ ?_ ⟨⟨_, Heap.get?_push_size _ rfl, rfl, rfl⟩, hl.push _⟩ (F.keeps fun _ _ e => Heap.get?_push_of_some _ e) (N.grown fun _ _ e => Heap.get?_push_of_some _ e) J h0
    (fun i m₀ m₁ news₁ h tk own hi hpv hJ h1 ho hn hpw F1 N1 => ?_) fun m' news' h' tk' hJ _ F1 N1 => done m' news' h' tk' hJ F1 N1
  · intro hm
    have hb' : env.locals = s.heap.objs.size ∨ env.locals = D := by simpa using hm
    rcases hb' with e | e
    · exact Nat.ne_of_lt hLs e
    · exact hLD e
  · intro b hb; rw [List.mem_singleton.mp hb]; exact next_is_new F
  · intro q hq hm; exact Nat.ne_of_lt (Heap.lt_size (N q hq).1) (List.mem_singleton.mp hm)
  · intro i h st b hb
    rw [List.mem_singleton.mp hb]
    obtain ⟨o, e, c, _⟩ := st.1
    exact ⟨o, e, NT.cls (by rw [c]; exact fun h => by cases h), by rw [c]; exact fun h => by injection h with h; exact absurd h (by decide)⟩
  · obtain ⟨oI, rfl⟩ := map_one ho
    exact step _ i m₀ m₁ news₁ h tk oI hi hpv hJ h1 ⟨hn.1, hpw _ (.head _)⟩ F1 N1

theorem for_rangeL {x : Str} {px : Pos} {body : List Stmt} {r : Addr} {a b : Int} {t u v : Tok} {n : Nat} {E₃ : Value → Shared → Prop} {m : Str → Option Value} {news : List (Addr × Obj)} (hh : A.handled = none) (hr : IsRange s.heap r a b 1 t u v) (hsm : Builtin.Range.small a b 1 = true) (hn : Builtin.Range.rangeSize a b 1 = ((n : Nat) : Int))
    (hx : env.kindOf x = some .local) (hp : (env.scope.kind == .class || (env.scope.kind == .module && env.locals != env.globals)) = false) (F : Fr base env.locals s.heap m) (N : News base env.locals s.heap news)
    (J : Nat → (Str → Option Value) → List (Addr × Obj) → Prop) (h0 : J 0 m news)
    (step : ∀ I, LStep1 w A base env body s [] n (fun i m₀ m₁ => ∃ t, m₁ = fun y => if y = x then some (.int (a + (i : Nat) * 1) t) else m₀ y) J Q I)
    (done : ∀ m' news' h' tk', J n m' news' → Fr base env.locals h' m' → News base env.locals h' news' → Q .next { s with heap := h', toks := tk' }) :
    wpAny (model PR w) A (pyIter (.ref r)) (fun it s₂ => codeAny (model PR w) A (.forLoop (.Name x px) it body [] env) (fun r s' => match r with | .ok f => Q f s' | .error e => cameBackBy (model PR w) A env E₃ e s') s₂) E s := by
  have hLs : env.locals < s.heap.objs.size := F.ns.lt
  refine wpAny_pyIter_range hr hsm ?_
  have W := Walks.range (prog := PR) (w := w) (A := A) hh s.heap.objs.size a 1 n
  refine forL (Pw := fun o => o.cls ≠ .type "tuple") (KTurns.ofWalks W fun _ _ _ _ _ _ hQ => wpAny_pure hQ) (asgF_name (P' := fun i v => ∃ t, v = .int (a + (i : Nat) * 1) t) hx hp) ?_ ?_ ?_ ?_ (by show IsRangeIter _ _ _ _ _; rw [hn]; simpa using Heap.get?_push_size _ rfl) (F.keeps fun _ _ e => Heap.get?_push_of_some _ e) (N.grown fun _ _ e => Heap.get?_push_of_some _ e) J h0
    (fun i m₀ m₁ news₁ h tk own hi hpv hJ h1 ho hn hpw F1 N1 => ?_) fun m' news' h' tk' hJ _ F1 N1 => done m' news' h' tk' hJ F1 N1
  · intro hm
    exact Nat.ne_of_lt hLs (List.mem_singleton.mp hm)
  · intro b hb; rw [List.mem_singleton.mp hb]; exact next_is_new F
  · intro q hq hm; exact Nat.ne_of_lt (Heap.lt_size (N q hq).1) (List.mem_singleton.mp hm)
  · intro i h st b hb
    rw [List.mem_singleton.mp hb]
    exact ⟨_, st, NT.cls (fun h => by cases h), fun h => by injection h with h; exact absurd h (by decide)⟩
  · obtain ⟨oI, rfl⟩ := map_one ho
    obtain ⟨_, ⟨t, rfl⟩, e⟩ := hpv
    exact step _ i m₀ m₁ news₁ h tk oI hi ⟨t, e⟩ hJ h1 ⟨hn.1, hpw _ (.head _)⟩ F1 N1

theorem for_pairsL {xi xc : Str} {pk pv pt : Pos} {x1 : Nat} {body : List Stmt} {ax : Addr} {its : Array Value} {Ts : Nat → Addr} {vals : Nat → Array Value} {E₃ : Value → Shared → Prop} {m : Str → Option Value} {news : List (Addr × Obj)} (hh : A.handled = none) (hl : s.heap.IsList ax its) (hLa : env.locals ≠ ax)
    (hit : ∀ j, j < its.size → its[j]? = some (.ref (Ts j))) (hT : ∀ j, j < its.size → s.heap.IsTuple (Ts j) (vals j)) (hLT : ∀ j, j < its.size → env.locals ≠ Ts j) (h2 : ∀ j, j < its.size → ∃ v0 v1, vals j = #[v0, v1])
    (hxi : env.kindOf xi = some .local) (hxc : env.kindOf xc = some .local) (hp : (env.scope.kind == .class || (env.scope.kind == .module && env.locals != env.globals)) = false) (F : Fr base env.locals s.heap m) (N : News base env.locals s.heap news)
    (J : Nat → (Str → Option Value) → List (Addr × Obj) → Prop) (h0 : J 0 m news)
    (step : ∀ I, LStep1 w A base env body s (ax :: (List.range its.size).map Ts) its.size (fun i m₀ m₁ => ∃ v0 v1, vals i = #[v0, v1] ∧ m₁ = fun y => if y = xc then some v1 else if y = xi then some v0 else m₀ y) J Q I)
    (done : ∀ m' news' h' tk', J its.size m' news' → Fr base env.locals h' m' → News base env.locals h' news' → Q .next { s with heap := h', toks := tk' }) :
    wpAny (model PR w) A (pyIter (.ref ax)) (fun it s₂ => codeAny (model PR w) A (.forLoop (.Tuple [.Name xi pk, .Name xc pv] x1 pt) it body [] env) (fun r s' => match r with | .ok f => Q f s' | .error e => cameBackBy (model PR w) A env E₃ e s') s₂) E s := by
  have hlt : ax < s.heap.objs.size := by obtain ⟨_, e, _⟩ := hl; exact Heap.lt_size e
  have hTlt : ∀ j, j < its.size → Ts j < s.heap.objs.size := fun j hj => by obtain ⟨_, e, _⟩ := hT j hj; exact Heap.lt_size e
  have hLs : env.locals < s.heap.objs.size := F.ns.lt
  refine wpAny_pyIter_list hl ?_
  have W := (WalksU.listOfTuples (prog := PR) (w := w) (A := A) hh s.heap.objs.size ax (Nat.ne_of_lt hlt) its Ts vals hit (fun j hj => Nat.ne_of_lt (hTlt j hj))).bound
  refine forL (Pw := fun o => o.cls ≠ .type "tuple") (KTurns.ofWalksU W) (asgF_pair hh (fun i vs ⟨hi, e⟩ => e ▸ h2 i hi) hxi hxc hp) ?_ ?_ ?_ ?_ ⟨⟨_, Heap.get?_push_size _ rfl, rfl, rfl⟩, hl.push _, fun j hj => (hT j hj).push _⟩ (F.keeps fun _ _ e => Heap.get?_push_of_some _ e) (N.grown fun _ _ e => Heap.get?_push_of_some _ e) J h0
    (fun i m₀ m₁ news₁ h tk own hi hpv hJ h1 ho hn hpw F1 N1 => ?_) fun m' news' h' tk' hJ _ F1 N1 => done m' news' h' tk' hJ F1 N1
  · intro hm
    rcases List.mem_cons.mp hm with e | hm
    · exact Nat.ne_of_lt hLs e
    rcases List.mem_cons.mp hm with e | hm
    · exact hLa e
    · obtain ⟨j, hj, e⟩ := List.mem_map.mp hm
      exact hLT j (List.mem_range.mp hj) e.symm
  · intro b hb; rw [List.mem_singleton.mp hb]; exact next_is_new F
  · intro q hq hm; exact Nat.ne_of_lt (Heap.lt_size (N q hq).1) (List.mem_singleton.mp hm)
  · intro i h st b hb
    rw [List.mem_singleton.mp hb]
    obtain ⟨o, e, c, _⟩ := st.1
    exact ⟨o, e, NT.cls (by rw [c]; exact fun h => by cases h), by rw [c]; exact fun h => by injection h with h; exact absurd h (by decide)⟩
  · obtain ⟨oI, rfl⟩ := map_one ho
    obtain ⟨v0, v1, ⟨_, e⟩, e2⟩ := hpv
    exact step _ i m₀ m₁ news₁ h tk oI hi ⟨v0, v1, e.symm, e2⟩ hJ h1 ⟨hn.1, hpw _ (.head _)⟩ F1 N1

/-- one turn, the loop's two objects by name -/
noncomputable def LStep2 (w : World) (A : Around) (base : Heap) (env : Env) (body : List Stmt) (s : Shared) (fp : List Addr) (n : Nat) (PV : Nat → (Str → Option Value) → (Str → Option Value) → Prop) (J : Nat → (Str → Option Value) → List (Addr × Obj) → Prop) (Q : Flow → Shared → Prop) (I K : Addr) : Prop :=
  ∀ i m₀ m₁ news₁ h tk oI oK, i < n → PV i m₀ m₁ → J i m₀ news₁ → (∀ q ∈ news₁, q.1 ∉ [I, K]) → NT oI → NT oK →
      Fr base env.locals h m₁ → News base env.locals h ((I, oI) :: (K, oK) :: news₁) →
      wpAny (model PR w) A (execs body env) (TurnL base env.locals [I, K] (I :: K :: fp) [(I, oI), (K, oK)] h (J (i + 1)) { s with heap := h, toks := tk } Q) (fun _ _ => False) { s with heap := h, toks := tk }

theorem for_enumL {l : Addr} {its : Array Value} {xi xc : Str} {pk pv pt : Pos} {x1 : Nat} {body : List Stmt} {E₂ E₃ : Value → Shared → Prop} {m : Str → Option Value} {news : List (Addr × Obj)} (hh : A.handled = none) (hl : s.heap.IsList l its) (hLa : env.locals ≠ l)
    (hxi : env.kindOf xi = some .local) (hxc : env.kindOf xc = some .local) (hp : (env.scope.kind == .class || (env.scope.kind == .module && env.locals != env.globals)) = false) (F : Fr base env.locals s.heap m) (N : News base env.locals s.heap news)
    (J : Nat → (Str → Option Value) → List (Addr × Obj) → Prop) (h0 : J 0 m news)
    (step : ∀ I K, LStep2 w A base env body s [l] its.size (fun i m₀ m₁ => ∃ t v, its[i]? = some v ∧ m₁ = fun y => if y = xc then some v else if y = xi then some (.int (i : Nat) t) else m₀ y) J Q I K)
    (done : ∀ m' news' h' tk', J its.size m' news' → Fr base env.locals h' m' → News base env.locals h' news' → Q .next { s with heap := h', toks := tk' }) :
    wpAny (model PR w) A (call (.type "enumerate") [.ref l]) (fun xv s₁ => wpAny (model PR w) A (pyIter xv) (fun it s₂ => codeAny (model PR w) A (.forLoop (.Tuple [.Name xi pk, .Name xc pv] x1 pt) it body [] env) (fun r s' => match r with | .ok f => Q f s' | .error e => cameBackBy (model PR w) A env E₃ e s') s₂) E₂ s₁) E s := by
  have hlt : l < s.heap.objs.size := by obtain ⟨_, e, _⟩ := hl; exact Heap.lt_size e
  have hLs : env.locals < s.heap.objs.size := F.ns.lt
  refine call_enumerate_list hl fun h' hE hI hsz' hk => ?_
  refine wpAny_pyIter_enum hE ?_
  have W := (WalksT.enumerate (prog := PR) (w := w) (A := A) hh (s.heap.objs.size + 1) s.heap.objs.size l (Nat.succ_ne_self _) (ktu_ne 1 hlt) (Nat.ne_of_lt hlt) its).toU
  refine forL (Pw := fun _ => True) (KTurns.ofWalksU W) (asgF_pair hh (fun i vals ⟨t, v, _, e⟩ => ⟨_, _, e⟩) hxi hxc hp) ?_ ?_ ?_ ?_ ⟨⟨_, hE⟩, hI, hl.at fun o e => hk _ _ e⟩ (F.keeps hk) (N.grown hk) J h0
    (fun i m₀ m₁ news₁ h tk own hi hpv hJ h1 ho hn hpw F1 N1 => ?_) fun m' news' h' tk' hJ _ F1 N1 => done m' news' h' tk' hJ F1 N1
  · intro hm
    have hb' : env.locals = s.heap.objs.size + 1 ∨ env.locals = s.heap.objs.size ∨ env.locals = l := by simpa using hm
    rcases hb' with e | e | e
    · exact ktu_ne 1 hLs e
    · exact Nat.ne_of_lt hLs e
    · exact hLa e
  · intro b hb
    have hb' : b = s.heap.objs.size + 1 ∨ b = s.heap.objs.size := by simpa using hb
    rcases hb' with rfl | rfl
    · exact ktu_new F (Nat.le_add_right _ _)
    · exact ktu_new F (Nat.le_refl _)
  · intro p hp hI'
    have hb' : p.1 = s.heap.objs.size + 1 ∨ p.1 = s.heap.objs.size := by simpa using hI'
    have hlp := Heap.lt_size (N p hp).1
    rcases hb' with e | e
    · exact ktu_ne 1 hlp e
    · exact Nat.ne_of_lt hlp e
  · intro i h hst b hb
    have hb' : b = s.heap.objs.size + 1 ∨ b = s.heap.objs.size := by simpa using hb
    obtain ⟨⟨old, he⟩, ⟨oi, hoi, hc, _⟩, _⟩ := hst
    rcases hb' with rfl | rfl
    · exact ⟨_, he, NT.cls (fun h => by cases h), trivial⟩
    · exact ⟨_, hoi, NT.cls (by rw [hc]; exact fun h => by cases h), trivial⟩
  · obtain ⟨oI, oK, rfl⟩ := map_two ho
    obtain ⟨v0, v1, ⟨t, v, e1, e2⟩, e3⟩ := hpv
    cases e2
    exact step _ _ i m₀ m₁ news₁ h tk oI oK hi ⟨t, _, e1, e3⟩ hJ h1 hn.1 hn.2.1 F1 N1
theorem NTs.app {l l' : List (Addr × Obj)} (h : NTs l) (h' : NTs l') : NTs (l ++ l') := by
  induction l with
  | nil => exact h'
  | cons p r ih => exact ⟨h.1, ih h.2⟩
end
end Mine
end
section
set_option maxRecDepth 100000
theorem Mine.off_Split : True := by
  w_top off
  trivial
open PySem PySem.W PyProof.Rows
open PySem.Builtin PySem.Builtin.Str PySem.StrLaws
namespace Mine

theorem comma_sep : (Str.ofString ", ").cps.toList = [44, 32] := by decide +kernel
theorem comma_len : (Str.ofString ", ").length = 2 := by decide +kernel
theorem at_iff (x : Str) (k : Nat) : At x (Str.ofString ", ") x.length k ↔ (x.cps.toList.drop k).take 2 = [44, 32] := by
  unfold At
  rw [subAt_eq, comma_sep, comma_len, beq_iff_eq]
  constructor
  · exact fun h => h.2
  · intro h
    refine ⟨?_, h⟩
    have := congrArg List.length h
    simp only [List.length_take, List.length_drop, List.length_cons, List.length_nil, Array.length_toList] at this
    unfold Str.length
    first | lia | omega

theorem join_toList : ∀ (p : Str) (ps : List Str), (Str.join (Str.ofString ", ") (p :: ps)).cps.toList = p.cps.toList ++ (match ps with | [] => [] | _ => 44 :: 32 :: (Str.join (Str.ofString ", ") ps).cps.toList)
  | p, [] => by simp [Str.join]
  | p, q :: r => by
    show (p ++ Str.ofString ", " ++ Str.join (Str.ofString ", ") (q :: r)).cps.toList = _
    simp only [Str.cps_append, Array.toList_append, comma_sep, List.append_assoc, List.cons_append, List.nil_append]

theorem not_at_in (x : Str) {a j : Nat} {p : List Nat} {rest : List Nat} (h : x.cps.toList.drop a = p ++ rest) (hf : 44 ∉ p) (hj : j < p.length) : ¬ At x (Str.ofString ", ") x.length (a + j) := by
  rw [at_iff, ← List.drop_drop, h, List.drop_append_of_le_length (Nat.le_of_lt hj), List.drop_eq_getElem_cons hj]
  intro e
  have := (List.cons.inj e).1
  exact hf (this ▸ List.getElem_mem hj)

theorem parts_of (x : Str) : ∀ (ps : List Str) (p : Str) (a f : Nat) (cuts : List Nat), ChainG x (Str.ofString ", ") x.length a cuts f → (∀ k, f ≤ k → ¬ At x (Str.ofString ", ") x.length k) →
    x.cps.toList.drop a = (Str.join (Str.ofString ", ") (p :: ps)).cps.toList → (∀ q ∈ p :: ps, 44 ∉ q.cps.toList) → partsFrom x 2 a cuts = p :: ps
  | [], p, a, f, cuts, hc, hn, hx, hfree => by
    have hxl : x.cps.toList.length = x.length := by simp [Str.length]
    rw [join_toList, List.append_nil] at hx
    have none : ∀ k, a ≤ k → ¬ At x (Str.ofString ", ") x.length k := fun k hk hA => by
      have hk2 := hA.1
      rw [comma_len] at hk2
      have hpl := congrArg List.length hx
      rw [List.length_drop, hxl] at hpl
      obtain ⟨j, rfl⟩ : ∃ j, k = a + j := ⟨k - a, by (first | lia | omega)⟩
      exact not_at_in x (rest := []) (by rw [hx, List.append_nil]) (hfree p (.head _)) (j := j) (by (first | lia | omega)) hA
    cases cuts with
    | nil =>
      have e : f = a := hc
      show [strSub x a x.length] = [p]
      congr 1
      apply Str.ext'
      apply Array.toList_inj.mp
      rw [strSub_toList, hx]
      exact List.take_of_length_le (by have := congrArg List.length hx; rw [List.length_drop, hxl] at this; (first | lia | omega))
    | cons c r => exact absurd hc.2.1 (none c hc.1)
  | q :: r, p, a, f, cuts, hc, hn, hx, hfree => by
    have hxl : x.cps.toList.length = x.length := by simp [Str.length]
    rw [join_toList] at hx
    dsimp only at hx
    have hA : At x (Str.ofString ", ") x.length (a + p.cps.toList.length) := by
      rw [at_iff, ← List.drop_drop, hx, List.drop_left]
      rfl
    have below : ∀ k, a ≤ k → k < a + p.cps.toList.length → ¬ At x (Str.ofString ", ") x.length k := fun k h1 h2 => by
      obtain ⟨j, rfl⟩ : ∃ j, k = a + j := ⟨k - a, by (first | lia | omega)⟩
      exact not_at_in x hx (hfree p (.head _)) (by (first | lia | omega))
    cases cuts with
    | nil =>
      have e : f = a := hc
      exact absurd hA (hn _ (by (first | lia | omega)))
    | cons c rr =>
      obtain ⟨h1, h2, h3, h4⟩ := hc
      have ec : c = a + p.cps.toList.length := by
        rcases Nat.lt_trichotomy c (a + p.cps.toList.length) with h | h | h
        · exact absurd h2 (below c h1 h)
        · exact h
        · exact absurd hA (h3 _ (by (first | lia | omega)) h)
      rw [comma_len] at h4
      have hx2 : x.cps.toList.drop (c + 2) = (Str.join (Str.ofString ", ") (q :: r)).cps.toList := by
        rw [ec, Nat.add_assoc, ← List.drop_drop, hx, ← List.drop_drop, List.drop_left]
        rfl
      show strSub x a c :: partsFrom x 2 (c + 2) rr = p :: q :: r
      rw [parts_of x r q (c + 2) f rr h4 hn hx2 fun q' hq => hfree q' (.tail _ hq)]
      congr 1
      apply Str.ext'
      apply Array.toList_inj.mp
      rw [strSub_toList, hx, ec, Nat.add_sub_cancel_left, List.take_left]

theorem split_join {p : Str} {ps : List Str} (hfree : ∀ q ∈ p :: ps, 44 ∉ q.cps.toList) : Txt.split (Txt.join (Str.ofString ", ") (p :: ps)) (Str.ofString ", ") = p :: ps := by
  have e0 : Txt.join (Str.ofString ", ") (p :: ps) = Str.join (Str.ofString ", ") (p :: ps) := glued_eq_join _ _
  rw [e0]
  generalize hx : Str.join (Str.ofString ", ") (p :: ps) = x
  obtain ⟨f, h1, h2⟩ := occ_tight x (Str.ofString ", ") (by rw [comma_len]; decide)
  have key := parts_of x ps p 0 f _ h1 h2 (by rw [List.drop_zero, hx]) hfree
  unfold Txt.split
  rw [comma_len]
  have hnil : occurrences x (Str.ofString ", ") 0 x.length (x.length + 1) = [] → [x] = p :: ps := fun e => by
    rw [e] at key
    rw [← key]
    show [x] = [strSub x 0 x.length]
    rw [sub_whole]
  split
  · rename_i hc
    apply hnil
    cases e : occurrences x (Str.ofString ", ") 0 x.length (x.length + 1) with
    | nil => rfl
    | cons c r =>
      rw [e] at h1
      have := h1.2.1.1
      rw [comma_len] at this
      simp only [Bool.or_eq_true, decide_eq_true_eq] at hc
      rcases hc with hc | hc
      · first | lia | omega
      · have k1 : PySem.Builtin.Str.strKind (Str.ofString ", ") = 1 := by decide +kernel
        rw [k1] at hc
        unfold PySem.Builtin.Str.strKind at hc
        split at hc
        · first | lia | omega
        · split at hc <;> (first | lia | omega)
  · split
    · rename_i he
      exact hnil (List.isEmpty_iff.mp he)
    · rw [partsBetween_eq]; exact key

theorem word_free {i : Nat} (hi : i < 32) : 44 ∉ (word i).cps.toList := by
  revert i
  decide +kernel
theorem split_pretty (x : Int) : Txt.split (Txt.join (Str.ofString ", ") (prettyL x)) (Str.ofString ", ") = prettyL x := by
  have hf : ∀ q ∈ prettyL x, 44 ∉ q.cps.toList := fun q hq => by
    unfold prettyL at hq
    split at hq
    · rw [List.mem_singleton.mp hq]; decide +kernel
    · obtain ⟨i, hi, rfl⟩ := List.mem_map.mp hq
      exact word_free (bitsI_lt hi)
  have hne : prettyL x ≠ [] := by
    unfold prettyL
    split
    · exact fun h => nomatch h
    · rename_i h; simpa using h
  cases e : prettyL x with
  | nil => exact absurd e hne
  | cons p ps => rw [e] at hf; exact split_join hf

theorem strs_get : ∀ {vs : List Value} {ys : List Str} {i : Nat} {y : Str}, StrsAre vs ys → ys[i]? = some y → ∃ t, vs[i]? = some (.str y t)
  | _, _, i, v, .nil, h => by simp at h
  | _, _, 0, v, .cons n t r, h => ⟨t, by simpa using h⟩
  | _, _, i + 1, v, .cons n t r, h => by simpa using strs_get r (by simpa using h)
theorem strs_at : ∀ {vs : List Value} {ys : List Str} {i : Nat} {v : Value}, StrsAre vs ys → vs[i]? = some v → ∃ y t, v = .str y t ∧ ys[i]? = some y
  | _, _, i, v, .nil, h => by simp at h
  | _, _, 0, v, .cons n t r, h => ⟨n, t, by simpa using h.symm, rfl⟩
  | _, _, i + 1, v, .cons n t r, h => by simpa using strs_at r (by simpa using h)
theorem strs_len : ∀ {vs : List Value} {ys : List Str}, StrsAre vs ys → vs.length = ys.length
  | _, _, .nil => rfl
  | _, _, .cons n t r => by simp [strs_len r]
theorem strs_rev : ∀ {vs : List Value} {ys : List Str}, StrsAre vs ys → StrsAre vs.reverse ys.reverse
  | _, _, .nil => .nil
  | _, _, .cons n t r => by
    simp only [List.reverse_cons]
    exact strs_app (strs_rev r) (.cons _ _ .nil)
section
variable {w : World} {A : Around} {E : Value → Shared → Prop} {s : Shared} {Q : Value → Shared → Prop}
/-- list.index of a str in a list of strs -/
theorem index_strs {D : Addr} {us : List Value} {k : Nat} {ys : List Str} {y : Str} {t : Tok} {j : Nat} (ho : s.heap.get? D = some (lstO us k)) (hs : StrsAre us ys) (hl : ys.length ≤ 1000) (hj : ys[j]? = some y) (hno : ∀ m, m < j → ys[m]? ≠ some y)
    (h : Q (.int j s.toks) { s with toks := s.toks + 1 }) : wpAny (model PR w) A (call (.builtin "list.index") [.ref D, .str y t]) Q E s := by
  obtain ⟨tj, ej⟩ := strs_get hs hj
  have hjl : j < us.length := (List.getElem?_eq_some_iff.mp ej).1
  have hul := strs_len hs
  refine call_meets PySem.F.slot_list_index ⟨_, ho, rfl⟩ PySem.F.entry_list_index (PySem.F.args_list_index_2 _ _)
    (MeetsSeq.list_index D us.toArray k (.str y t) (PyProof.Rows.isStrOf y) (fun v hv => eq_isStrOf y t hs v (by simpa using hv)) j (by simpa using hjl) (by (first | lia | omega)) ?_ (fun i hi hlt => ?_)) ⟨ho, h⟩
  · have := (List.getElem?_eq_some_iff.mp ej).2
    rw [List.getElem_toArray, this]
    show (y == y) = true
    exact beq_self_eq_true y
  · have hi' : i < us.length := by simpa using hi
    obtain ⟨z, tz, e1, e2⟩ := strs_at hs (List.getElem?_eq_getElem hi')
    rw [List.getElem_toArray, e1]
    show (z == y) = false
    rw [beq_eq_false_iff_ne]
    intro e
    exact hno i hlt (e ▸ e2)
end
end Mine
end
section
set_option maxRecDepth 100000
theorem Mine.off_W15 : True := by
  w_top off
  trivial
open PySem PySem.W PyProof.Rows
namespace Mine
theorem bits_shift : ∀ b : Fin 28, ∀ n : Fin 16, bitsI 32 (((n.1 * 2 ^ b.1 : Nat) : Int)) = (bitsI 4 (n.1 : Int)).map fun i => b.1 + i := by
  decide +kernel
theorem word_inj : ∀ i : Fin 32, ∀ j : Fin 32, word i.1 = word j.1 → i = j := by
  decide +kernel
/-- the words of a length at a base, the last first -/
theorem pretty_words {n b : Nat} (hn : n < 16) (hn1 : 1 ≤ n) (hb : b ≤ 27) : prettyL ((n : Int) * 2 ^ b) = (bitsI 4 (n : Int)).map fun i => word (b + i) := by
  have e := bits_shift ⟨b, by (first | lia | omega)⟩ ⟨n, hn⟩
  have e2 : ((n * 2 ^ b : Nat) : Int) = (n : Int) * 2 ^ b := by push_cast; rfl
  dsimp only at e
  rw [e2] at e
  have h0 : bitsI 4 (n : Int) ≠ [] := by
    have : ∀ n : Fin 16, 1 ≤ n.1 → bitsI 4 (n.1 : Int) ≠ [] := by decide +kernel
    exact this ⟨n, hn⟩ hn1
  unfold prettyL
  rw [e, if_neg (by simpa using h0), List.map_map]
  rfl
theorem names_at {b p : Nat} (hb : b ≤ 27) (hp : p < 4) : ((List.range 4).map fun i => word (b + i))[p]? = some (word (b + p)) ∧ ∀ m, m < p → ((List.range 4).map fun i => word (b + i))[m]? ≠ some (word (b + p)) := by
  have key : ∀ m, m < 4 → ((List.range 4).map fun i => word (b + i))[m]? = some (word (b + m)) := fun m hm => by
    rw [List.getElem?_map, List.getElem?_range hm]; rfl
  refine ⟨key p hp, fun m hm e => ?_⟩
  rw [key m (by (first | lia | omega))] at e
  have := word_inj ⟨b + m, by (first | lia | omega)⟩ ⟨b + p, by (first | lia | omega)⟩ (Option.some.inj e)
  have := Fin.mk.inj this
  first | lia | omega
theorem prettyFit2 (x : Int) : ((prettyL x).map (·.length)).sum + (prettyL x).length * 2 ≤ 2000 := by
  have hall : ∀ a ∈ (prettyL x).map (·.length), a ≤ 40 := fun a ha => by
    obtain ⟨y, hy, rfl⟩ := List.mem_map.mp ha
    unfold prettyL at hy
    split at hy
    · rw [List.mem_singleton.mp hy]; decide +kernel
    · obtain ⟨p, hp, rfl⟩ := List.mem_map.mp hy
      exact wordLen (bitsI_lt hp)
  have h1 := sum_le hall
  have h2 : (prettyL x).length ≤ 32 := by
    unfold prettyL
    split
    · simp
    · rw [List.length_map]; exact bitsI_len _ _
  rw [List.length_map] at h1
  first | lia | omega
/-- one word's turn: ahead, upto, first -/
noncomputable def stepW (so : Int) (ts : List Int) (s : Int × Int × Int) (p : Nat) : Int × Int × Int :=
  let wide : Int := 2 ^ (ts.length - p)
  let gap := so - (placeI ts s.2.2).fmod wide
  (s.1 - gap.fdiv (-wide), s.2.1 + (gap.fdiv wide + 1), s.2.2 + 2 ^ p)
noncomputable def wordsB (n : Nat) : List Nat := (bitsI 4 (n : Int)).reverse
noncomputable def wordsI (so : Int) (n : Nat) (ts : List Int) (k : Nat) : Int × Int × Int := ((wordsB n).take k).foldl (stepW so ts) (0, 0, 0)
theorem wordsI_succ {so : Int} {n : Nat} {ts : List Int} {k p : Nat} (h : (wordsB n)[k]? = some p) : wordsI so n ts (k + 1) = stepW so ts (wordsI so n ts k) p := by
  unfold wordsI
  rw [List.take_add_one, h, List.foldl_append]
  rfl
theorem wordsB_lt {n k p : Nat} (h : (wordsB n)[k]? = some p) : p < 4 := by
  have := List.mem_of_getElem? h
  unfold wordsB at this
  exact bitsI_lt (List.mem_reverse.mp this)
theorem wordsB_len (n : Nat) : (wordsB n).length ≤ 4 := by
  unfold wordsB
  rw [List.length_reverse]
  exact bitsI_len _ _
theorem first_ok (so : Int) (n : Nat) (ts : List Int) : ∀ k, 0 ≤ (wordsI so n ts k).2.2 ∧ (wordsI so n ts k).2.2 ≤ 8 * k := by
  intro k
  induction k with
  | zero => simp [wordsI]
  | succ k ih =>
    cases h : (wordsB n)[k]? with
    | none =>
      have e : wordsI so n ts (k + 1) = wordsI so n ts k := by
        unfold wordsI
        rw [List.take_add_one, h]
        simp
      rw [e]; (first | lia | omega)
    | some p =>
      have hp := wordsB_lt h
      rw [wordsI_succ h]
      show 0 ≤ (wordsI so n ts k).2.2 + 2 ^ p ∧ (wordsI so n ts k).2.2 + 2 ^ p ≤ 8 * ((k + 1 : Nat) : Int)
      have h1 : (2 : Int) ^ p ≤ 2 ^ 3 := pow2_le (by (first | lia | omega))
      have h2 : (0 : Int) < 2 ^ p := Int.pow_pos (by decide)
      have h3 : (2 : Int) ^ 3 = 8 := by decide
      first | lia | omega
end Mine
end
section
set_option maxRecDepth 100000
theorem Mine.off_F15 : True := by
  w_top off
  trivial
open PySem.Builtin.Int
open PySem PySem.W PyProof.Rows PySem.Calls
namespace Mine
local macro_rules | `(tactic| walk_at "my_side") => `(tactic| (
  (case k6 => k_is); (case k7 => k_is); (case k9 => first | exact BindsTo.of_eq rfl | exact binds_K (by k_in) rfl (by k_is) rfl rfl rfl); (case c5 => decide); (case kB => exact locs rfl); (case c2 => exact rfl); (case c3 => exact rfl); (case c4 => exact rfl)))
local macro_rules | `(tactic| walk_at "eval Name") => `(tactic| (k_here; k_dflt (refine' nameX_L ?F ?v ?_ ?a ?b; (case F => k_asm); (case a => rfl); (case b => rfl); (case v => assumption); k_whole)))
local macro_rules | `(tactic| walk_at "exec For Name Subscript cons nil") => `(tactic| (refine wpAny_For ?_ (fun _ => rfl)))
local macro_rules | `(tactic| walk_at "loadName") => `(tactic| (k_here; k_dflt (refine' ldn ?a ?b ?_; (case a => k_asm); (case b => assumption); k_whole)))
local macro_rules | `(tactic| walk_at "call builtin:len") => `(tactic| (refine Stop.out ?_))
local macro_rules | `(tactic| walk_at "call builtin:list.index") => `(tactic| (refine Stop.out ?_))
local macro_rules | `(tactic| walk_at "subscriptTail") => `(tactic| (refine Stop.out ?_))
local macro_rules | `(tactic| walk_at "call builtin:str.split") => `(tactic| (refine Stop.out ?_))
section
variable {w : World} {g : Heap} {s : Shared} {A : Around} {Q : Value → Shared → Prop} {E : Value → Shared → Prop}

set_option maxHeartbeats 4000000 in
theorem by_words_ok {tb : List (Addr × Obj)} (G : Gx w g A 35) (st : g.StaysIn s.heap) (hT : Tabs tb) (hs0 : ∀ q ∈ tb, s.heap.get? q.1 = some q.2 ∧ g.get? q.1 = none)
    {l : Addr} {vs : List Value} {ts : List Int} {so n b : Nat} {tso tn tbb : Tok} (hl : s.heap.IsList l vs.toArray) (hi : IntsAre vs ts) (hlen : ts.length ≤ 5) (hlen1 : 3 ≤ ts.length) (ht : ∀ t ∈ ts, t = 0 ∨ t = 1) (hn : n < 16) (hn1 : 1 ≤ n) (hb : b ≤ 27) (hso : so < 32)
    (ret : ∀ r t1 t2 h' tk tb', After tb tb' s.heap h' → h'.get? r = some (tupO [.int (wordsI so n ts (wordsB n).length).1 t1, .int (wordsI so n ts (wordsB n).length).2.1 t2]) → s.heap.get? r = none → Q (.ref r) { s with heap := h', toks := tk }) :
    wpAny (model PR w) A (call (.ref 150) [.int so tso, .int n tn, .int b tbb, .ref l]) Q E s := by
  refine' enter (binds := [("sought", .int so tso), ("length", .int n tn), ("base", .int b tbb), ("turned", .ref l)]) G st tb hs0 ?k6 ?k7 ?k9 ?kB ?_ ?c2 ?c3 ?c4 ?c5
  walk_at "my_side"
  intro base L h₁ b0 b1 b2 F N X' ⟨p, loose, mean, mg, mb, T'⟩ G' hlt hL
  have htbs : ∀ q ∈ tb, s.heap.get? q.1 = some q.2 := fun q hq => (hs0 q hq).1
  have hl' : base.IsList l vs.toArray := hl.at fun o e => b2 _ _ (list_off hT htbs hl) e
  have hvl : vs.length = ts.length := hi.length
  k_steps
  rename IsRange _ _ _ _ _ _ _ _ => hrg
  rename Fr _ _ _ _ => F2
  rename News _ _ _ _ => N2
  refine words_ok (a := b) (n := 4) ((G'.keeps (fun b o e => e)).less (by (first | lia | omega))) (fun b o e => F2.keep b o e) (by rw [show (((b + 4 : Nat) : Int)) = (b : Int) + 4 by (first | lia | omega)]; exact hrg) (by (first | lia | omega)) fun D us k h3 tk3 k3 g3 f3 sW => ?_
  have F3 := fr_keep0 F2 k3
  have N3 := news_add F2 (news_keep0 N2 k3) g3 f3
  clear F2 N2
  have hn2 : (n : Int) * 2 ^ b < 2 ^ 32 := by
    have h1 : (2 : Int) ^ b ≤ 2 ^ 27 := pow2_le hb
    have h2 : (2 : Int) ^ 27 = 134217728 := by decide
    have h3 : (2 : Int) ^ 32 = 4294967296 := by decide
    have h4 : (n : Int) * 2 ^ b ≤ 15 * 2 ^ b := Int.mul_le_mul_of_nonneg_right (by (first | lia | omega)) (Int.le_of_lt (Int.pow_pos (by decide)))
    first | lia | omega
  k_steps
  rename Fr _ _ _ _ => F4
  rename News _ _ _ _ => N4
  refine assign3 G'.hh F4 N4 ⟨_, N4.get (.head _), rfl, _, rfl⟩ rfl rfl rfl rfl fun h5 tk5 F5 N5 => ?_
  replace F5 : Fr base L h5 _ := F5
  replace N5 : News base L h5 _ := N5
  clear F4 N4
  k_steps
  refine pretty_ok ((G'.keeps (fun b o e => e)).less (by (first | lia | omega))) (fun b o e => F5.keep b o e) (by rw [Int.toNat_natCast]; exact Int.mul_nonneg (by (first | lia | omega)) (Int.le_of_lt (Int.pow_pos (by decide)))) (by rw [Int.toNat_natCast]; exact hn2) fun t6 h6 tk6 k6 => ?_
  have F6 := fr_keep0 F5 k6
  have N6 := news_keep0 N5 k6
  clear F5 N5
  k_steps
  try dsimp only
  unfold Stop
  refine KSpl.split1 F6 N6 (by decide) (fun D7 l7 h7 k7 e7 a7 F7 N7 lt7 => ?_) ?_
  case' _ =>
    rw [split_pretty] at e7
    rw [e7, Int.toNat_natCast, pretty_words hn hn1 hb] at a7
    clear F6 N6
    try dsimp only
    k_steps
    unfold Stop
    refine kba_turn (value' := PySem.Expr.Name (PySem.Str.ofString "_") ⟨0, 0, 0, 0⟩) (fun _ => rfl) ?_
    refine krv_lit (its := (strValues l7).toArray) (zs := (strValues l7).reverse) F7 N7 (News.isList N7 (.head _)) (IsPart.int _ _) rfl (fun D8 h8 F8 N8 lt8 => ?_) (by with_unfolding_all rfl) ?_ ?_
    rotate_left
    · kmk_pure
    · rw [List.size_toArray, strs_len a7, List.length_map, sizeLine_eq]
      have := bitsI_len 4 (n : Int)
      first | lia | omega
    try dsimp only
    have F9 := F8
    have N9 : News base L h8 ((D8, lstO (strValues l7).reverse 0) :: (D, lstO us k) :: tb) := fun q hq => N8 q (by
      simp only [List.mem_cons] at hq ⊢
      rcases hq with h | h | h
      · exact .inl h
      · exact .inr (.inr (.inr (.inl h)))
      · exact .inr (.inr (.inr (.inr h))))
    clear F8 N8 F7 N7
    have hz : StrsAre (strValues l7).reverse ((wordsB n).map fun i => word (b + i)) := by
      have := strs_rev a7
      rw [← List.map_reverse] at this
      exact this
    generalize (strValues l7).reverse = zs at hz N9
    have hzl : zs.length = (wordsB n).length := by rw [strs_len hz, List.length_map]
    refine for_listL (Q := _) G'.hh (News.isList N9 (.head _)) (Ne.symm (N9 _ (.head _)).2.1) rfl rfl F9 N9
      (fun i m₁ news₁ => ∃ ta tu tf tb1, m₁ "sought" = some (.int so tso) ∧ m₁ "turned" = some (.ref l) ∧ m₁ "names" = some (.ref D) ∧ m₁ "ahead" = some (.int (wordsI so n ts i).1 ta) ∧ m₁ "upto" = some (.int (wordsI so n ts i).2.1 tu) ∧ m₁ "first" = some (.int (wordsI so n ts i).2.2 tf) ∧
        news₁ = (D8, lstO zs 0) :: (D, lstO us k) :: tb1 ∧ Tabs tb1 ∧ ∀ q ∈ tb, q.1 ∉ [30, 37, 119, 152] → q ∈ tb1)
      ⟨_, _, _, tb, rfl, rfl, rfl, rfl, rfl, rfl, rfl, hT, fun q hq _ => hq⟩ ?step ?done
    case step =>
      rintro I i m₀ m₁ news₁ h tk oI hin ⟨v, hv, rfl⟩ ⟨ta, tu, tf, tb1, ms, mt, mn, ma, mu, mf, rfl, hT1, hc1⟩ hnw ⟨hnt, _⟩ F5 N5
      clear F9 N9
      replace F5 : Fr base L h _ := F5
      replace N5 : News base L h _ := N5
      obtain ⟨y, ty, rfl, hy⟩ := strs_at hz (by simpa using hv)
      obtain ⟨p, hp, rfl⟩ : ∃ p, (wordsB n)[i]? = some p ∧ y = word (b + p) := by
        rw [List.getElem?_map] at hy
        cases e : (wordsB n)[i]? with
        | none => rw [e] at hy; cases hy
        | some p => rw [e] at hy; cases hy; exact ⟨p, rfl, rfl⟩
      have hp4 := wordsB_lt hp
      have hD8 : h.get? D8 = some (lstO zs 0) := N5.get (.tail _ (.head _))
      obtain ⟨hn1', hn2'⟩ := names_at hb hp4
      k_steps
      unfold Stop
      refine index_strs (News.get N5 (.tail _ (.tail _ (.head _)))) sW (by simp) hn1' hn2' ?_
      k_steps
      unfold Stop
      refine len_list (hl'.at fun o e => by rename Fr _ _ _ _ => F6; exact F6.keep _ _ e) (by simp; (first | lia | omega)) ?_
      rw [List.size_toArray, hvl]
      k_steps
      rename Fr _ _ _ _ => F6
      rename News _ _ _ _ => N6
      have hI1 : ∀ q ∈ tb1, q.1 ≠ I := fun q hq e => hnw q (.tail _ (.tail _ hq)) (List.mem_singleton.mpr e)
      have hwide : ((1 : Int) * 2 ^ ((ts.length : Nat) : Int).toNat).fdiv (2 ^ ((p : Nat) : Int).toNat) = 2 ^ (ts.length - p) := by
        rw [Int.one_mul, Int.toNat_natCast, Int.toNat_natCast, Int.fdiv_eq_ediv_of_nonneg _ (Int.le_of_lt (Int.pow_pos (by decide)))]
        have e : ts.length = (ts.length - p) + p := by (first | lia | omega)
        conv => lhs; rw [e]
        rw [Int.pow_add, Int.mul_ediv_cancel _ (Int.ne_of_gt (Int.pow_pos (by decide)))]
      rw [hwide] at F6
      have hw0 : (0 : Int) < 2 ^ (ts.length - p) := Int.pow_pos (by decide)
      have hw32 : (2 : Int) ^ (ts.length - p) ≤ 32 := by
        have h1 : (2 : Int) ^ (ts.length - p) ≤ 2 ^ 5 := pow2_le (by (first | lia | omega))
        have h2 : (2 : Int) ^ 5 = 32 := by decide
        first | lia | omega
      generalize hwd : (2 : Int) ^ (ts.length - p) = wd at F6 hw0 hw32
      have hfo := first_ok so n ts i
      have hzn := wordsB_len n
      have hin4 : i < 4 := by
        have : i < zs.length := by simpa using hin
        first | lia | omega
      replace N6 : News base L _ ([_, _, _] ++ tb1) := N6
      try dsimp only
      refine place_ok ((G'.keeps (fun b o e => e)).less (by (first | lia | omega))) (fun b o e => F6.keep b o e) hT1 (fun q hq => ⟨(N6 q (List.mem_append_right _ hq)).1, (N6 q (List.mem_append_right _ hq)).2.2⟩) (hl'.at fun o e => F6.keep _ _ e) hi hlen (by (first | lia | omega)) ht hfo.1 (by (first | lia | omega)) fun t7 h7 tk7 tb2 aft2 => ?_
      have F7 := after_fr F6 N6 hT1 aft2
      have N7 := after_news F6 N6 hT1 aft2 ⟨hnt, NT.cls (fun h => by cases h), NT.cls (fun h => by cases h), True.intro⟩
      have hI2 := after_ne aft2 (N6 (I, oI) (.head _)).1 hI1
      clear F6 N6
      try dsimp only [List.nil_append, List.cons_append] at N7 ⊢
      generalize hpl : placeI ts (wordsI so n ts i).2.2 = pl
      have hm0 := Int.emod_nonneg pl (Int.ne_of_gt hw0)
      have hm1 := Int.emod_lt_of_pos pl hw0
      have hme : pl.fmod wd = pl % wd := Int.fmod_eq_emod_of_nonneg _ (Int.le_of_lt hw0)
      k_steps
      try dsimp only
      rename Fr _ _ _ _ => F6
      rename News _ _ _ _ => N6
      replace N6 : News base L _ ([_, _, _] ++ tb2) := N6
      refine int_divmod_k 2 ((G'.keeps (fun b o e => e)).less (by (first | lia | omega))) (fun b o e => F6.keep b o e) aft2.tabs (fun q hq => ⟨(N6 q (List.mem_append_right _ hq)).1, (N6 q (List.mem_append_right _ hq)).2.2⟩) ⟨by (first | lia | omega), by (first | lia | omega)⟩ (by (first | lia | omega)) (by (first | lia | omega)) (by (first | lia | omega)) fun r1 u1 u2 h8 tk8 tb3 aft3 g3 f3 => ?_
      have F7 := after_fr F6 N6 aft2.tabs aft3
      have N7 := news_add F6 (after_news F6 N6 aft2.tabs aft3 ⟨hnt, NT.cls (fun h => by cases h), NT.cls (fun h => by cases h), True.intro⟩) g3 f3
      have hI3 := after_ne aft3 (N6 (I, oI) (.head _)).1 hI2
      clear F6 N6
      try dsimp only [List.nil_append, List.cons_append] at N7 ⊢
      k_steps
      unfold Stop
      refine item_tupleT (l := [_, _]) (j := 0) (News.isTup N7 (.head _)) (by decide) (by decide) rfl rfl ?_
      k_steps
      try dsimp only
      rename Fr _ _ _ _ => F6
      rename News _ _ _ _ => N6
      replace N6 : News base L _ ([_, _, _, _] ++ tb3) := N6
      refine int_divmod_k 2 ((G'.keeps (fun b o e => e)).less (by (first | lia | omega))) (fun b o e => F6.keep b o e) aft3.tabs (fun q hq => ⟨(N6 q (List.mem_append_right _ hq)).1, (N6 q (List.mem_append_right _ hq)).2.2⟩) ⟨by (first | lia | omega), by (first | lia | omega)⟩ (by (first | lia | omega)) (by (first | lia | omega)) (by (first | lia | omega)) fun r4 u4 u5 h9 tk9 tb4 aft4 g4 f4 => ?_
      have F7 := after_fr F6 N6 aft3.tabs aft4
      have N7 := news_add F6 (after_news F6 N6 aft3.tabs aft4 ⟨NT.cls (fun h => by cases h), hnt, NT.cls (fun h => by cases h), NT.cls (fun h => by cases h), True.intro⟩) g4 f4
      have hI4 := after_ne aft4 (N6 (I, oI) (.tail _ (.head _))).1 hI3
      clear F6 N6
      try dsimp only [List.nil_append, List.cons_append] at N7 ⊢
      k_steps
      unfold Stop
      refine item_tupleT (l := [_, _]) (j := 0) (News.isTup N7 (.head _)) (by decide) (by decide) rfl rfl ?_
      k_steps
      try dsimp only
      rename Fr _ _ _ _ => F6
      rename News _ _ _ _ => N6
      have e1 : wordsI so n ts (i + 1) = ((wordsI so n ts i).1 - ((so : Int) - pl.fmod wd).fdiv (-wd), (wordsI so n ts i).2.1 + (((so : Int) - pl.fmod wd).fdiv wd + 1), (wordsI so n ts i).2.2 + 2 ^ p) := by
        rw [wordsI_succ hp]
        unfold stepW
        rw [hpl, hwd]
      rw [show (1 : Int) * 2 ^ ((p : Nat) : Int).toNat = 2 ^ p by rw [Int.one_mul, Int.toNat_natCast]] at F6
      refine TurnL.next ((D8, lstO zs 0) :: (D, lstO us k) :: tb4) F6 (fun q hq => N6 q (.tail _ (.tail _ hq))) ⟨_, _, _, tb4, ms, mt, mn, by rw [e1]; rfl, by rw [e1]; rfl, by rw [e1]; rfl, rfl, aft4.tabs, fun q hq hn => aft4.cods q (aft3.cods q (aft2.cods q (hc1 q hq hn) hn) hn) hn⟩ (fun q hq hm => ?_) (fun b' hb' hw o ho => ?_)
      · rcases List.mem_cons.mp hq with rfl | hq
        · exact hnw _ (.head _) hm
        · rcases List.mem_cons.mp hq with rfl | hq
          · exact hnw _ (.tail _ (.head _)) hm
          · exact hI4 q hq (List.mem_singleton.mp hm)
      · rcases List.mem_cons.mp hb' with rfl | hb'
        · exact absurd (.head _) hw
        · rw [List.mem_singleton.mp hb'] at ho ⊢
          rw [hD8] at ho
          cases ho
          exact N6.get (.tail _ (.tail _ (.tail _ (.head _))))
    case done =>
      rintro m' news' h' tk' ⟨ta, tu, tf, tb1, ms, mt, mn, ma, mu, mf, rfl, hT1, hc1⟩ F5 N5
      replace F5 : Fr base L h' _ := F5
      replace N5 : News base L h' _ := N5
      clear F9 N9
      have hze : zs.toArray.size = (wordsB n).length := by rw [List.size_toArray, hzl]
      rw [hze] at ma mu
      k_steps
      rename Fr _ _ _ _ => F6
      rename News _ _ _ _ => N6
      exact ret _ _ _ _ _ _ (after_done hT b2 htbs F6 N6 hT1 (fun q hq => .tail _ (.tail _ (.tail _ hq))) hc1) (N6.get (.head _)) (fresh_seq hT hT1 b2 N6 (fun q hq => .tail _ (.tail _ (.tail _ hq))) hc1 (.head _) rfl)
  · have h1 := prettyFit2 ((n : Int) * 2 ^ ((b : Nat) : Int).toNat)
    have h2 := StrLaws.join_length_le (Str.ofString ", ") (prettyL ((n : Int) * 2 ^ ((b : Nat) : Int).toNat))
    rw [comma_len] at h2
    have h3 : Txt.join (Str.ofString ", ") (prettyL ((n : Int) * 2 ^ ((b : Nat) : Int).toNat)) = Str.join (Str.ofString ", ") (prettyL ((n : Int) * 2 ^ ((b : Nat) : Int).toNat)) := StrLaws.glued_eq_join _ _
    rw [h3, sizeLine_eq]
    first | lia | omega
end
end Mine
end
section
set_option maxRecDepth 100000
theorem Mine.off_Tup : True := by
  w_top off
  trivial
open PySem PySem.W PyProof.Rows PySem.Calls PySem.SeqAt
namespace Mine
section
variable {w : World} {A : Around} {E : Value → Shared → Prop} {s : Shared} {Q : Value → Shared → Prop} {r1 r2 : Addr} {a b c d : Int} {t1 t2 t3 t4 : Tok}
theorem reads_pair {h : Heap} {r : Addr} {a b : Int} {t1 t2 : Tok} (h1 : h.get? r = some (tupO [.int a t1, .int b t2])) : Reads h (.ref r) (.tuple [.int a, .int b]) [] :=
  reads_tuple_at h1 rfl rfl (readsAll_cons_val (Reads.int _ _) (readsAll_cons_val (Reads.int _ _) ReadsAll.nil))
theorem eq_pair (h1 : s.heap.get? r1 = some (tupO [.int a t1, .int b t2])) (h2 : s.heap.get? r2 = some (tupO [.int c t3, .int d t4])) (hu : A.units + 64 < cLine)
    (h : Q (.bool (a == c && b == d)) s) : wpAny (model PR w) A (compareOp .Eq (.ref r1) (.ref r2)) Q E s := by
  refine eq_dataH (reads_pair h1) (reads_pair h2) rfl rfl hu ?_
  simpa only [PyData.eqv, PyData.eqvAll, Bool.and_true] using h
theorem ne_pair (h1 : s.heap.get? r1 = some (tupO [.int a t1, .int b t2])) (h2 : s.heap.get? r2 = some (tupO [.int c t3, .int d t4])) (hu : A.units + 64 < cLine)
    (h : Q (.bool (!(a == c && b == d))) s) : wpAny (model PR w) A (compareOp .NotEq (.ref r1) (.ref r2)) Q E s := by
  refine ne_dataH (reads_pair h1) (reads_pair h2) rfl rfl hu ?_
  simpa only [PyData.eqv, PyData.eqvAll, Bool.and_true] using h
end
end Mine
end
section
set_option maxRecDepth 100000
theorem Mine.off_Rz : True := by
  w_top off
  trivial
open PySem PySem.W PyProof.Rows PySem.Calls
namespace Mine
section
variable {w : World} {A : Around} {E : Value → Shared → Prop} {s : Shared} {env : Env} {Q : Flow → Shared → Prop}
theorem zero_self : isSubtype (.type "ZeroDivisionError") (.type "ZeroDivisionError") = pure true := by rw [isSubtype_type]; kernel_rfl
/-- raise ZeroDivisionError: the class is called without arguments -/
theorem raise_zero {x : Str} {np pos : Pos} (hh : A.handled = none)
    (hx : wpAny (model PR w) A (eval (.Name x np) env) (fun v s₁ => v = .type "ZeroDivisionError" ∧ s₁ = s) E s)
    (h : ∀ h' e, Heap.MadeExc s.heap h' e "ZeroDivisionError" [] → E (.ref e) { s with heap := h' }) :
    wpAny (model PR w) A (exec (.Raise (some (.Name x np)) none pos) env) Q E s := by
  have hc := excClass_ZeroDivisionError
  obtain ⟨hp, g, d, tk, os⟩ := s
  show wpAny _ A (do standAt pos; raiseStmt env (some (do let v ← eval (.Name x np) env; standAt pos; pure v)) none) Q E _
  refine wpAny_bind (wpAny_standAt ?_)
  unfold raiseStmt
  dsimp only
  refine wpAny_bind (wpAny_bind (wpAny_mono hx (fun v s₁ h₁ => ?_) fun _ _ e => e))
  obtain ⟨rfl, rfl⟩ := h₁
  refine wpAny_bind (wpAny_standAt (wpAny_pure (wpAny_bind (wpAny_pure ?_))))
  dsimp only
  refine wpAny_bind (wpAny_holding ?_)
  unfold excFromValue isExcClass
  refine wpAny_bind (wpAny_bind (wpAny_pure ?_))
  simp only [if_true]
  rw [hc.base]
  refine wpAny_pure ?_
  simp only [if_true]
  refine wpAny_bind (wpAny_call_exc PySem.F.excCall_ZeroDivisionError fun h' e hm => ?_)
  obtain ⟨ob, t, he, hcls, hd⟩ := hm.newExc.there
  have hT : Shared.TypeIs ⟨h', g, d, tk, os⟩ (.ref e) "ZeroDivisionError" := ⟨ob, he, hcls⟩
  refine wpAny_bind (wpAny_isInstance hT hc.base ?_)
  simp only [Bool.not_true, Bool.false_eq_true, if_false]
  refine wpAny_pure ?_
  first | (refine wpAny_bind (m := isType (.type "ZeroDivisionError")) (wpAny_pure ?_)) | (refine wpAny_bind (wpAny_pure ?_))
  first | (rw [if_pos rfl]) | (simp only [if_true]) | dsimp only
  refine wpAny_bind (wpAny_holding ?_)
  unfold raisedFor
  first | (simp only [Bool.false_eq_true, if_false]) | (rw [if_neg (by decide)]) | skip
  first | (refine wpAny_bind (wpAny_typeOf hT ?_)) | (refine wpAny_bind ?_; refine wpAny_bind (wpAny_typeOf hT ?_))
  refine wpAny_bind (call_issubclass (issubclass_self hc zero_self) ?_)
  first | (refine wpAny_bind (wpAny_truthy_bool ?_)) | (refine wpAny_truthy_bool ?_) | (dsimp only [wants]; first | (refine wpAny_bind (wpAny_truthy_bool ?_)) | (refine wpAny_truthy_bool ?_))
  first | (rw [if_pos rfl]) | (simp only [if_true]) | skip
  refine wpAny_pure ?_
  unfold setFlight raiseNew
  refine wpAny_bind (wpAny_bind (wpAny_field (i := 1) (x := Value.none) he hd rfl ?_))
  rw [if_neg (by decide)]
  refine wpAny_pure (wpAny_bind (wpAny_handled ?_))
  rw [hh]
  first
    | exact wpAny_throw (h h' e hm)
    | exact wpAny_bind (wpAny_pure (wpAny_throw (h h' e hm)))
end
end Mine
end
section
set_option maxRecDepth 100000
theorem Mine.off_F14 : True := by
  w_top off
  trivial
local macro_rules | `(tactic| walk_at "my_pad") => `(tactic| fail)
open PySem.Builtin.Int
open PySem PySem.W PyProof.Rows PySem.Calls
namespace Mine
local macro_rules | `(tactic| walk_at "my_side") => `(tactic| (
  (case k6 => k_is); (case k7 => k_is); (case k9 => first | exact BindsTo.of_eq rfl | exact binds_K (by k_in) rfl (by k_is) rfl rfl rfl); (case c5 => decide); (case kB => exact locs rfl); (case c2 => exact rfl); (case c3 => exact rfl); (case c4 => exact rfl)))
local macro_rules | `(tactic| walk_at "exec For Tuple Call cons nil") => `(tactic| (refine wpAny_For ?_ (fun _ => rfl)))
local macro_rules | `(tactic| walk_at "call type:enumerate") => `(tactic| (refine Stop.out ?_))
local macro_rules | `(tactic| walk_at "call builtin:len") => `(tactic| (refine Stop.out ?_))
local macro_rules | `(tactic| walk_at "subscriptTail") => `(tactic| (refine Stop.out ?_))
local macro_rules | `(tactic| walk_at "compareOp NotEq ref ref") => `(tactic| (refine Stop.out ?_))
local macro_rules | `(tactic| walk_at "exec Try") => `(tactic| (refine Stop.out ?_))
local macro_rules | `(tactic| walk_at "eval Name") => `(tactic| (k_here; k_dflt (refine' nameX_L ?F ?v ?_ ?a ?b; (case F => k_asm); (case a => rfl); (case b => rfl); (case v => assumption); k_whole)))
theorem NT.dict {o : Obj} (h : ∃ es n, o.data = .dict es n) : NT o := fun ps e => by
  obtain ⟨es, n, h⟩ := h
  rw [e] at h
  cases h
/-- what a call has done that raises within: besides, the callers' frames were turned in their slots -/
structure AfterF (fs tb tb' : List (Addr × Obj)) (h h' : Heap) : Prop where
  keep : ∀ b o, b ∉ [30, 37, 119, 152] → b ∉ fs.map (·.1) → h.get? b = some o → h'.get? b = some o
  fr : ∀ q ∈ fs, ∃ sl, h'.get? q.1 = some { q.2 with slots := sl }
  tabs : Tabs tb'
  get : ∀ q ∈ tb', h'.get? q.1 = some q.2
  old : ∀ q ∈ tb', (∃ q0 ∈ tb, q0.1 = q.1) ∨ h.get? q.1 = none
  cods : ∀ q ∈ tb, q.1 ∉ [30, 37, 119, 152] → q ∈ tb'
theorem lag_bound {n x i X : Int} (hn0 : 0 ≤ n) (hn : n ≤ 15) (hx0 : 0 ≤ x) (hx : x < 32) (hi0 : 0 ≤ i) (hi : i < 15) (hX0 : 0 < X) (hX : X ≤ 32) : ((n * x - i * X) * X).natAbs < 65536 := by
  have h1 : 0 ≤ n * x := Int.mul_nonneg hn0 hx0
  have h2 : n * x ≤ 15 * 31 := Int.mul_le_mul hn (by (first | lia | omega)) hx0 (by decide)
  have h3 : 0 ≤ i * X := Int.mul_nonneg hi0 (Int.le_of_lt hX0)
  have h4 : i * X ≤ 14 * 32 := Int.mul_le_mul (by (first | lia | omega)) hX (Int.le_of_lt hX0) (by decide)
  generalize n * x = a at h1 h2
  generalize i * X = b at h3 h4
  have h5 : (a - b) * X ≤ 465 * X := Int.mul_le_mul_of_nonneg_right (by (first | lia | omega)) (Int.le_of_lt hX0)
  have h6 : (-448) * X ≤ (a - b) * X := Int.mul_le_mul_of_nonneg_right (by (first | lia | omega)) (Int.le_of_lt hX0)
  first | lia | omega
section
variable {w : World} {g : Heap} {s : Shared} {A : Around} {Q : Value → Shared → Prop} {E : Value → Shared → Prop}

set_option maxHeartbeats 4000000 in
theorem divided_ok {tb : List (Addr × Obj)} (G : Gx w g A 34) (st : g.StaysIn s.heap) (hT : Tabs tb)
    {row L1 L2 : Addr} {o1 o2 : Obj} {e1 e2 : Env} (hs0 : ∀ q ∈ (L1, o1) :: (L2, o2) :: tb, s.heap.get? q.1 = some q.2 ∧ g.get? q.1 = none) (ho1 : ∃ es n, o1.data = .dict es n) (ho2 : ∃ es n, o2.data = .dict es n)
    (hLt : ∀ q ∈ tb, q.1 ≠ L1 ∧ q.1 ≠ L2) (hA : A.frames = some [e1, e2]) (he1 : e1.frame = some L1 ∧ e1.scope.kind ≠ .module) (he2 : e2.frame = some L2 ∧ e2.scope.kind ≠ .module)
    {rs : List Value} {ps : List (Int × Int)} (hrow : s.heap.IsList row rs.toArray) (hr : RowAt s.heap rs ps) (hlen : ps.length ≤ 15) (hlen1 : 1 ≤ ps.length) (hps : ∀ q ∈ ps, 0 ≤ q.1 ∧ q.1 < 32) {z : Nat} {tz : Tok} (hz : z ≤ 5)
    (ret : ∀ h' tk tb', AfterF [(L1, o1), (L2, o2)] tb tb' s.heap h' → Q (.bool true) { s with heap := h', toks := tk }) :
    wpAny (model PR w) A (call (.ref 143) [.ref row, .int z tz]) Q E s := by
  refine' enter (binds := [("row", .ref row), ("size", .int z tz)]) G st ((L1, o1) :: (L2, o2) :: tb) hs0 ?k6 ?k7 ?k9 ?kB ?_ ?c2 ?c3 ?c4 ?c5
  walk_at "my_side"
  intro base L h₁ b0 b1 b2 F N X' ⟨p, loose, mean, mg, mb, T'⟩ G' hlt hL
  have hTn : ∀ q ∈ (L1, o1) :: (L2, o2) :: tb, base.get? q.1 = none := fun q hq => (N q hq).2.2
  have hs1 : ∀ q ∈ (L1, o1) :: (L2, o2) :: tb, s.heap.get? q.1 = some q.2 := fun q hq => (hs0 q hq).1
  have htbs : ∀ q ∈ tb, s.heap.get? q.1 = some q.2 := fun q hq => hs1 q (.tail _ (.tail _ hq))
  have seqOff : ∀ b (o : Obj) its n, s.heap.get? b = some o → o.data = .seq its n → b ∉ ((L1, o1) :: (L2, o2) :: tb).map (·.1) := fun b o its n e hd hm => by
    obtain ⟨q, hq, e2⟩ := List.mem_map.mp hm
    rcases List.mem_cons.mp hq with rfl | hq
    · have := hs1 (L1, o1) (.head _)
      rw [show (L1, o1).1 = b from e2, e] at this
      cases this
      obtain ⟨es, n, h⟩ := ho1
      rw [h] at hd; cases hd
    rcases List.mem_cons.mp hq with rfl | hq
    · have := hs1 (L2, o2) (.tail _ (.head _))
      rw [show (L2, o2).1 = b from e2, e] at this
      cases this
      obtain ⟨es, n, h⟩ := ho2
      rw [h] at hd; cases hd
    · exact tabs_off hT htbs e hd q hq e2
  have hrow' : base.IsList row rs.toArray := by
    obtain ⟨o, ho, hc, n, hd⟩ := hrow
    exact ⟨o, b2 _ _ (seqOff _ _ _ _ ho hd) ho, hc, n, hd⟩
  have hrb : RowAt base rs ps := hr.keeps2 fun b us e => b2 _ _ (seqOff _ _ _ _ e rfl) e
  have hvl : rs.length = ps.length := hr.length
  have hLr : L ≠ row := fun e => by obtain ⟨o, ho, _⟩ := hrow'; exact absurd (Heap.lt_size ho) (e ▸ Nat.not_lt.mpr F.above)
  have hp0 : (0 : Int) < 2 ^ z := Int.pow_pos (by decide)
  have hp32 : (2 : Int) ^ z ≤ 32 := by
    have h1 : (2 : Int) ^ z ≤ 2 ^ 5 := pow2_le hz
    have h2 : (2 : Int) ^ 5 = 32 := by decide
    first | lia | omega
  k_steps
  unfold Stop
  refine for_enumL (Q := _) G'.hh (hrow'.at fun o e => F.keep _ _ e) hLr rfl rfl rfl F N
    (fun i m₁ news₁ => ∃ tb1, m₁ "row" = some (.ref row) ∧ m₁ "size" = some (.int z tz) ∧ news₁ = (L1, o1) :: (L2, o2) :: tb1 ∧ Tabs tb1 ∧ (∀ q ∈ tb1, q.1 ≠ L1 ∧ q.1 ≠ L2) ∧ ∀ q ∈ tb, q.1 ∉ [30, 37, 119, 152] → q ∈ tb1)
    ⟨tb, rfl, rfl, rfl, hT, hLt, fun q hq _ => hq⟩ ?step ?done
  case step =>
    rintro I K i m₀ m₁ news₁ h tk oI oK hin ⟨t, v, hv, rfl⟩ ⟨tb1, mr, mz, rfl, hT1, hL1, hc1⟩ hnw hnI hnK F5 N5
    rw [List.size_toArray, hvl] at hin
    obtain ⟨q, hq⟩ : ∃ q, ps[i]? = some q := ⟨_, List.getElem?_eq_getElem hin⟩
    obtain ⟨T, u1, u2, hT1', hT2'⟩ := hrb.get hq
    rw [List.getElem?_toArray, hT1'] at hv
    cases hv
    obtain ⟨hq0, hq32⟩ := hps q (List.mem_of_getElem? hq)
    clear F N
    replace F5 : Fr base L h _ := F5
    replace N5 : News base L h _ := N5
    obtain ⟨oR, hoR, hoR2⟩ := hrow'
    have hrow' : base.IsList row rs.toArray := ⟨oR, hoR, hoR2⟩
    have hR5 := F5.keep _ _ hoR
    k_steps
    unfold Stop
    refine len_list (hrow'.at fun o e => F5.keep _ _ e) (by simp; (first | lia | omega)) ?_
    rw [List.size_toArray, hvl]
    k_steps
    unfold Stop
    refine item_tupleT (l := [.int q.1 u1, .int q.2 u2]) (j := 0) ⟨_, F5.keep _ _ hT2', rfl, _, rfl⟩ (by decide) (by decide) rfl rfl ?_
    k_steps
    · unfold Stop
      refine len_list (hrow'.at fun o e => by rename Fr _ _ _ _ => F6; exact F6.keep _ _ e) (by simp; (first | lia | omega)) ?_
      rw [List.size_toArray, hvl]
      k_steps
      rename Fr _ _ _ _ => F6
      rename News _ _ _ _ => N6
      have hlb := lag_bound (n := (ps.length : Int)) (x := q.1) (i := (i : Int)) (X := 2 ^ z) (by (first | lia | omega)) (by (first | lia | omega)) hq0 hq32 (by (first | lia | omega)) (by (first | lia | omega)) hp0 hp32
      rw [Int.toNat_natCast] at F6 ⊢
      generalize ((ps.length : Int) * q.1 - (i : Int) * 2 ^ z) * 2 ^ z = lag at F6 hlb
      replace N6 : News base L _ ([_, _, _, _] ++ tb1) := N6
      try dsimp only
      refine int_divmod_k 2 ((G'.keeps (fun b o e => e)).less (by (first | lia | omega))) (fun b o e => F6.keep b o e) hT1 (fun q hq => ⟨(N6 q (List.mem_append_right _ hq)).1, (N6 q (List.mem_append_right _ hq)).2.2⟩) ⟨by (first | lia | omega), by (first | lia | omega)⟩ hlb (by (first | lia | omega)) (by (first | lia | omega)) fun r1 v1 v2 h8 tk8 tb3 aft3 g3 f3 => ?_
      have F7 := after_fr F6 N6 hT1 aft3
      have N7 := news_add F6 (after_news F6 N6 hT1 aft3 ⟨hnI, hnK, NT.dict ho1, NT.dict ho2, True.intro⟩) g3 f3
      have hIa := after_ne aft3 (N6 (I, oI) (.head _)).1 (fun q hq e => (hnw q (.tail _ (.tail _ hq))) (e ▸ .head _))
      have hKa := after_ne aft3 (N6 (K, oK) (.tail _ (.head _))).1 (fun q hq e => (hnw q (.tail _ (.tail _ hq))) (e ▸ .tail _ (.head _)))
      have hLa := after_ne aft3 (N6 (L1, o1) (.tail _ (.tail _ (.head _)))).1 (fun q hq => (hL1 q hq).1)
      have hLb := after_ne aft3 (N6 (L2, o2) (.tail _ (.tail _ (.tail _ (.head _))))).1 (fun q hq => (hL1 q hq).2)
      clear F6 N6
      try dsimp only [List.nil_append, List.cons_append] at N7 ⊢
      k_steps
      unfold Stop
      rename Fr _ _ _ _ => F6
      rename News _ _ _ _ => N6
      refine ne_pair (News.get N6 (.tail _ (.head _))) (News.get N6 (.head _)) (by have := G'.units; (first | lia | omega)) ?_
      rw [show (!(lag.fdiv (-(ps.length : Int)) == lag.fdiv (-(ps.length : Int)) && lag.fmod (-(ps.length : Int)) == lag.fmod (-(ps.length : Int)))) = false by simp]
      k_steps
      try dsimp only
      rename Fr _ _ _ _ => F8
      rename News _ _ _ _ => N8
      refine TurnL.next ((L1, o1) :: (L2, o2) :: tb3) F8 (fun q hq => N8 q (.tail _ (.tail _ hq))) ⟨tb3, mr, mz, rfl, aft3.tabs, fun q hq => ⟨hLa q hq, hLb q hq⟩, fun q hq hn => aft3.cods q (hc1 q hq hn) hn⟩ (fun q hq hm => ?_) (fun b' hb' hw o ho => ?_)
      · rcases List.mem_cons.mp hq with rfl | hq
        · exact hnw _ (.head _) hm
        rcases List.mem_cons.mp hq with rfl | hq
        · exact hnw _ (.tail _ (.head _)) hm
        rcases List.mem_cons.mp hm with e | hm
        · exact hIa q hq e
        · exact hKa q hq (List.mem_singleton.mp hm)
      · rcases List.mem_cons.mp hb' with rfl | hb'
        · exact absurd (.head _) hw
        rcases List.mem_cons.mp hb' with rfl | hb'
        · exact absurd (.tail _ (.head _)) hw
        rw [List.mem_singleton.mp hb'] at ho ⊢
        rw [hR5] at ho
        cases ho
        exact F8.keep _ _ hoR
    · unfold Stop
      refine len_list (hrow'.at fun o e => by rename Fr _ _ _ _ => F6; exact F6.keep _ _ e) (by simp; (first | lia | omega)) ?_
      rw [List.size_toArray, hvl]
      k_steps
      rename Fr _ _ _ _ => F6
      rename News _ _ _ _ => N6
      have hlb := lag_bound (n := (ps.length : Int)) (x := q.1) (i := (i : Int)) (X := 2 ^ z) (by (first | lia | omega)) (by (first | lia | omega)) hq0 hq32 (by (first | lia | omega)) (by (first | lia | omega)) hp0 hp32
      rw [Int.toNat_natCast] at F6 ⊢
      generalize ((ps.length : Int) * q.1 - (i : Int) * 2 ^ z) * 2 ^ z = lag at F6 hlb
      replace N6 : News base L _ ([_, _, _, _] ++ tb1) := N6
      try dsimp only
      refine int_divmod_k 2 ((G'.keeps (fun b o e => e)).less (by (first | lia | omega))) (fun b o e => F6.keep b o e) hT1 (fun q hq => ⟨(N6 q (List.mem_append_right _ hq)).1, (N6 q (List.mem_append_right _ hq)).2.2⟩) ⟨by (first | lia | omega), by (first | lia | omega)⟩ hlb (by (first | lia | omega)) (by (first | lia | omega)) fun r1 v1 v2 h8 tk8 tb3 aft3 g3 f3 => ?_
      have F7 := after_fr F6 N6 hT1 aft3
      have N7 := news_add F6 (after_news F6 N6 hT1 aft3 ⟨hnI, hnK, NT.dict ho1, NT.dict ho2, True.intro⟩) g3 f3
      have hIa := after_ne aft3 (N6 (I, oI) (.head _)).1 (fun q hq e => (hnw q (.tail _ (.tail _ hq))) (e ▸ .head _))
      have hKa := after_ne aft3 (N6 (K, oK) (.tail _ (.head _))).1 (fun q hq e => (hnw q (.tail _ (.tail _ hq))) (e ▸ .tail _ (.head _)))
      have hLa := after_ne aft3 (N6 (L1, o1) (.tail _ (.tail _ (.head _)))).1 (fun q hq => (hL1 q hq).1)
      have hLb := after_ne aft3 (N6 (L2, o2) (.tail _ (.tail _ (.tail _ (.head _))))).1 (fun q hq => (hL1 q hq).2)
      clear F6 N6
      try dsimp only [List.nil_append, List.cons_append] at N7 ⊢
      k_steps
      unfold Stop
      rename Fr _ _ _ _ => F6
      rename News _ _ _ _ => N6
      refine ne_pair (News.get N6 (.tail _ (.head _))) (News.get N6 (.head _)) (by have := G'.units; (first | lia | omega)) ?_
      rw [show (!(lag.fdiv (ps.length : Int) == lag.fdiv (ps.length : Int) && lag.fmod (ps.length : Int) == lag.fmod (ps.length : Int))) = false by simp]
      k_steps
      try dsimp only
      rename Fr _ _ _ _ => F8
      rename News _ _ _ _ => N8
      refine TurnL.next ((L1, o1) :: (L2, o2) :: tb3) F8 (fun q hq => N8 q (.tail _ (.tail _ hq))) ⟨tb3, mr, mz, rfl, aft3.tabs, fun q hq => ⟨hLa q hq, hLb q hq⟩, fun q hq hn => aft3.cods q (hc1 q hq hn) hn⟩ (fun q hq hm => ?_) (fun b' hb' hw o ho => ?_)
      · rcases List.mem_cons.mp hq with rfl | hq
        · exact hnw _ (.head _) hm
        rcases List.mem_cons.mp hq with rfl | hq
        · exact hnw _ (.tail _ (.head _)) hm
        rcases List.mem_cons.mp hm with e | hm
        · exact hIa q hq e
        · exact hKa q hq (List.mem_singleton.mp hm)
      · rcases List.mem_cons.mp hb' with rfl | hb'
        · exact absurd (.head _) hw
        rcases List.mem_cons.mp hb' with rfl | hb'
        · exact absurd (.tail _ (.head _)) hw
        rw [List.mem_singleton.mp hb'] at ho ⊢
        rw [hR5] at ho
        cases ho
        exact F8.keep _ _ hoR
  case done =>
    rintro m' news' h' tk' ⟨tb1, mr, mz, rfl, hT1, hL1, hc1⟩ F5 N5
    clear F N
    replace F5 : Fr base L h' _ := F5
    replace N5 : News base L h' _ := N5
    k_steps
    unfold Stop
    refine wpAny_Try_except ?_
    k_steps
    unfold Stop
    obtain ⟨q, hq⟩ : ∃ q, ps[0]? = some q := ⟨_, List.getElem?_eq_getElem (by (first | lia | omega))⟩
    obtain ⟨T, u1, u2, hT1', hT2'⟩ := hrb.get hq
    try dsimp only
    refine item_list (hrow'.at fun o e => F5.keep _ _ e) (by decide) (by decide) (by rw [List.getElem?_toArray]; exact hT1') ?_ rfl (fun _ => rfl)
    k_steps
    unfold Stop
    refine item_tupleT (l := [.int q.1 u1, .int q.2 u2]) (j := 0) ⟨_, F5.keep _ _ hT2', rfl, _, rfl⟩ (by decide) (by decide) rfl rfl ?_
    k_steps
    try dsimp only
    have hgs : ∀ b o, (hideAll s.heap (tb.map (·.1))).get? b = some o → s.heap.get? b = some o ∧ b ∉ tb.map (·.1) := fun b o e => ⟨of_hideAll _ e, fun hm => by rw [hideAll_none _ hm] at e; cases e⟩
    have hgo : ∀ b o, s.heap.get? b = some o → b ∉ tb.map (·.1) → (hideAll s.heap (tb.map (·.1))).get? b = some o := fun b o e hn => hideAll_get _ e hn
    have hbg : base.StaysIn (hideAll s.heap (tb.map (·.1))) := fun b o e => hideAll_get _ (b1 b o e) fun hm => by
      obtain ⟨q', hq', e'⟩ := List.mem_map.mp hm
      have := hTn q' (.tail _ (.tail _ hq'))
      rw [show q'.1 = b from e', e] at this
      cases this
    have hg1 : (hideAll s.heap (tb.map (·.1))).get? L1 = some o1 := hideAll_get _ (hs1 (L1, o1) (.head _)) fun hm => by
      obtain ⟨q', hq', e'⟩ := List.mem_map.mp hm
      exact (hLt q' hq').1 e'
    have hg2 : (hideAll s.heap (tb.map (·.1))).get? L2 = some o2 := hideAll_get _ (hs1 (L2, o2) (.tail _ (.head _))) fun hm => by
      obtain ⟨q', hq', e'⟩ := List.mem_map.mp hm
      exact (hLt q' hq').2 e'
    have hgS : (hideAll s.heap (tb.map (·.1))).objs.size = L := (hideAll_size _ _).trans hL.symm
    generalize hideAll s.heap (tb.map (·.1)) = gF at hgs hgo hbg hg1 hg2 hgS
    have hold : ∀ b o, gF.get? b = some o → b = L1 ∨ b = L2 ∨ base.get? b = some o := fun b o e => by
      obtain ⟨e1', e2'⟩ := hgs b o e
      by_cases h1 : b = L1
      · exact .inl h1
      by_cases h2 : b = L2
      · exact .inr (.inl h2)
      refine .inr (.inr (b2 b o (fun hm => ?_) e1'))
      rcases List.mem_cons.mp hm with h | hm
      · exact h1 h
      rcases List.mem_cons.mp hm with h | hm
      · exact h2 h
      · exact e2' hm
    have FG : Fr gF L h' m' := ⟨F5.ns, fun b o e => by
      rcases hold b o e with rfl | rfl | e'
      · rw [hg1] at e; cases e; exact N5.get (.head _)
      · rw [hg2] at e; cases e; exact N5.get (.tail _ (.head _))
      · exact F5.keep _ _ e', Nat.le_of_eq hgS⟩
    have NG : News gF L h' tb1 := fun q' hq' => ⟨(N5 q' (.tail _ (.tail _ hq'))).1, (N5 q' (.tail _ (.tail _ hq'))).2.1, by
      cases e : gF.get? q'.1 with
      | none => rfl
      | some o =>
        rcases hold _ _ e with h | h | h
        · exact absurd h (hL1 q' hq').1
        · exact absurd h (hL1 q' hq').2
        · rw [(N5 q' (.tail _ (.tail _ hq'))).2.2] at h; cases h⟩
    have noF : ∀ {o : Obj}, (∃ es n, o.data = .dict es n) → ∀ vs, o.data ≠ .fields vs := fun ⟨es, n, h⟩ vs e => by rw [h] at e; cases e
    have KG : Below A base [e1, e2] gF := ⟨hA, hbg, he1.2, ⟨L1, o1, he1.1, hTn (L1, o1) (.head _), hg1, noF ho1⟩, he2.2, ⟨L2, o2, he2.1, hTn (L2, o2) (.tail _ (.head _)), hg2, noF ho2⟩, True.intro⟩
    have DG : KtsDicts ([e1, e2].filterMap (·.frame)) gF := fun b hb => by
      simp only [List.filterMap_cons, he1.1, he2.1, List.filterMap_nil, List.mem_cons, List.not_mem_nil, or_false] at hb
      rcases hb with rfl | rfl
      · obtain ⟨es, n, h⟩ := ho1; exact ⟨o1, es, n, hg1, h⟩
      · obtain ⟨es, n, h⟩ := ho2; exact ⟨o2, es, n, hg2, h⟩
    have XG : (hd.heap_39 w.params).In gF := X'.keeps hbg
    have TG : Top p loose mean mg mb gF := T'.keeps hbg
    refine wpAny_call ?_
    refine' code_defS (K := hd.heap_39 w.params) (binds := [("a", .int q.1 u1), ("b", .int 0 (tk' + 1 + 1))]) (g₀ := gF) KG FG XG NG TG X' T' DG KtsTurn.refl (Around.frames_deeper hA) ?k6 ?k7 ?k8 ?k9 ?kB ?_ ?cK ?c2 ?c3 ?c4 ?c5
    case k8 => have := G'.room; (first | lia | omega)
    case cK => exact rfl
    walk_at "my_side"
    intro g' L' h'' FG' F' N' B' X' T' D'
    try dsimp only
    k_steps
    have kF : Fr g' L' h'' _ := F'
    refine' raise_zero G'.hh (name_B kF ?k1 ?k2 ?k3 ?k4 ?k5 ⟨rfl, rfl⟩) fun h6 ex hm => ?_
    case k1 => k_asm
    case k2 => exact topRead_of T'
    case k3 => k_is
    case k4 => boot_by_name
    case k5 => decide
    k_steps
    rename Got _ _ _ _ _ => kG
    refine str_got_none PySem.F.excStr_ZeroDivisionError (by assumption) kG (Nat.lt_of_le_of_lt (Nat.add_le_add_left (show 2 ≤ 8 * 33 by decide) _) G'.units) ?_
    k_steps
    rename Fr _ _ _ _ => FF
    rename News _ _ _ _ => NF
    rename KtsTurn _ _ _ => TT
    have hemp : (Str.empty == Str.ofString "") = true := by decide +kernel
    rw [hemp]
    have hfs : ∀ b, b ≠ L1 → b ≠ L2 → b ∉ [e1, e2].filterMap (·.frame) := fun b h1 h2 hb => by
      simp only [List.filterMap_cons, he1.1, he2.1, List.filterMap_nil, List.mem_cons, List.not_mem_nil, or_false] at hb
      rcases hb with h | h
      · exact h1 h
      · exact h2 h
    refine ret _ _ tb1 ⟨fun b o hb hf e => ?_, fun q' hq' => ?_, hT1, fun q' hq' => (NF q' hq').1, fun q' hq' => ?_, hc1⟩
    · by_cases hm : b ∈ tb.map (·.1)
      · obtain ⟨q', hq', rfl⟩ := List.mem_map.mp hm
        rw [htbs q' hq'] at e; cases e
        exact (NF q' (hc1 q' hq' hb)).1
      · exact FF.keep _ _ (TT.other b o (hgo b o e hm) (hfs b (fun h => hf (h ▸ .head _)) (fun h => hf (h ▸ .tail _ (.head _)))))
    · rcases List.mem_cons.mp hq' with rfl | hq'
      · obtain ⟨sl, e⟩ := TT.up hg1; exact ⟨sl, FF.keep _ _ e⟩
      · rw [List.mem_singleton.mp hq']
        obtain ⟨sl, e⟩ := TT.up hg2; exact ⟨sl, FF.keep _ _ e⟩
    · by_cases hm : q'.1 ∈ tb.map (·.1)
      · obtain ⟨q0, hq0, e⟩ := List.mem_map.mp hm
        exact .inl ⟨q0, hq0, e⟩
      · refine .inr ?_
        cases e : s.heap.get? q'.1 with
        | none => rfl
        | some o =>
          obtain ⟨sl, e'⟩ := TT.up (hgo _ _ e hm)
          rw [(NF q' hq').2.2] at e'; cases e'
end
end Mine
end
section
set_option maxRecDepth 100000
theorem Mine.off_Sorted : True := by
  w_top off
  trivial
open PySem PySem.W PyProof.Rows PySem.Calls
namespace Mine
/-- at most, by the first and then by the second -/
noncomputable def LexLe (a b : Int × Int) : Prop := a.1 < b.1 ∨ (a.1 = b.1 ∧ a.2 ≤ b.2)

theorem asc_all {cmp : Nat → Nat → (Bool → Shared → Prop) → Shared → Prop} {G : Nat → Shared → Prop} {p : Array Nat} {s : Shared} : ∀ (f n : Nat), (∀ i, n ≤ i → i < n + f → ∀ C : Bool → Shared → Prop, C false s → cmp (p.getD i 0) (p.getD (i - 1) 0) C s) → G (n + f) s →
    (kas_asc p f n).kasWp cmp G s
  | 0, n, _, h => h
  | f + 1, n, hc, h => by
    show cmp (p.getD n 0) (p.getD (n - 1) 0) (fun b s' => (if b = true then KasT.ret n else kas_asc p f (n + 1)).kasWp cmp G s') s
    refine hc n (Nat.le_refl _) (by (first | lia | omega)) _ ?_
    show (if false = true then KasT.ret n else kas_asc p f (n + 1)).kasWp cmp G s
    rw [if_neg Bool.false_ne_true]
    exact asc_all f (n + 1) (fun i h1 h2 => hc i (by (first | lia | omega)) (by (first | lia | omega))) (by rw [Nat.add_right_comm]; exact h)

/-- a list that rises stays as it is -/
theorem sort_rises {cmp : Nat → Nat → (Bool → Shared → Prop) → Shared → Prop} {G : Array Nat → Shared → Prop} {n : Nat} {s : Shared} (h1 : 1 ≤ n) (hc : ∀ i, 1 ≤ i → i < n → ∀ C : Bool → Shared → Prop, C false s → cmp i (i - 1) C s)
    (h : G (List.toArray (List.range n)) s) : (kas_sort n).kasWp cmp G s := by
  unfold kas_sort kas_count
  rw [KasT.kasWp_bind, KasT.kasWp_bind]
  have get : ∀ i, i < n → (List.toArray (List.range n)).getD i 0 = i := fun i hi => by simp [Array.getD, hi]
  refine asc_all (n - 1) 1 (fun i a b C hC => ?_) ?_
  · rw [get i (by (first | lia | omega)), get (i - 1) (by (first | lia | omega))]
    exact hc i a (by (first | lia | omega)) C hC
  · rw [show 1 + (n - 1) = n by (first | lia | omega)]
    rw [if_pos (beq_self_eq_true n)]
    show (if n < n then kas_bin (n - max n 1) (List.toArray (List.range n)) (max n 1) else KasT.ret (List.toArray (List.range n))).kasWp cmp G s
    rw [if_neg (Nat.lt_irrefl n)]
    exact h

section
variable {w : World} {A : Around} {E : Value → Shared → Prop} {s : Shared} {h₀ : Heap} {L l : Addr} {m : Str → Option Value} {news : List (Addr × Obj)} {rs : List Value} {ps : List (Int × Int)} {Q : Value → Shared → Prop}

theorem one_tree {a : Addr} {v : Value} {n : Nat} {P : Fin → Shared → Prop} (ho : s.heap.get? a = some (seqObj "list" [v].toArray n)) (h : P (.done (.ret .none)) { s with heap := sortedHeap s.heap a [v] #[v] }) :
    wpAny (model PR w) A (Builtin.«list.sort» ⟨[.ref a], []⟩) P E s := by
  have ha : a < s.heap.objs.size := Heap.lt_size ho
  obtain ⟨e1, ho1⟩ : ∃ e1, (s.heap.update a (Obj.mapSeq fun _ => #[])).get? a = some (seqObj "list" #[] e1) := ⟨_, get?_update_seq ho (fun _ => #[])⟩
  have ho6 : (((s.heap.update a (Obj.mapSeq fun _ => #[])).push (seqObj "tuple" [v].toArray 0)).push (seqObj "list" #[] 0)).get? a = some (seqObj "list" #[] e1) :=
    Heap.get?_push_of_some _ (Heap.get?_push_of_some _ ho1)
  rw [list_sort_plain]
  refine wpAny_bind (listItems_at ho rfl (wpAny_bind (listUpdate_at ho rfl ?_)))
  refine wpAny_bind (seqEpoch_at ho1 rfl (wpAny_bind (wpAny_newTuple (wpAny_bind (wpAny_newList (wpAny_holding ?_))))))
  show wpAny (model PR w) A _ P E { s with heap := ((s.heap.update a (Obj.mapSeq fun _ => #[])).push (seqObj "tuple" [v].toArray 0)).push (seqObj "list" #[] 0) }
  dsimp only
  have h2 : [v].toArray.size < 2 := by simp
  rw [if_pos h2, if_pos h2]
  refine wpAny_bind (wpAny_pure ?_)
  rw [StateT.run_pure]
  refine wpAny_bind (wpAny_pure ?_)
  dsimp only
  have e7 : Array.map (fun x : Value × Value => x.snd) (arrOf (SortSt.mk' general' ([v].toArray.zip [v].toArray) #[] 7 none)) = #[v] := by
    show Array.map (fun x : Value × Value => x.snd) ([v].toArray.zip [v].toArray) = #[v]
    simp
  refine wpAny_bind (seqEpoch_at ho6 rfl (wpAny_bind ?_))
  rw [e7]
  refine listUpdate_at ho6 rfl ?_ (hsz2 := by rw [sizeLine_eq]; exact (by decide : 1 ≤ 16777216 + 1))
  simp only [bne_self_eq_false, Bool.false_eq_true, if_false]
  exact wpAny_pure h

theorem sorted_one {v : Value} (F : Fr h₀ L s.heap m) (N : News h₀ L s.heap news) (hl : s.heap.IsList l [v].toArray)
    (h : ∀ D c h', Fr h₀ L h' m → News h₀ L h' ((D, lstO [v] c) :: news) → Q (.ref D) { s with heap := h' }) :
    wpAny (model PR w) A (call (.builtin "sorted") [.ref l]) Q E s := by
  refine Calls.call_function_entry kind_sorted plain_sorted entry_sorted (args_sorted1 _) ?_
  unfold Builtin.«sorted»
  refine wpAny_bind (m := checkCount "sorted" 1 1 _) (wpAny_pure (wpAny_bind (collect_list hl (wpAny_bind (wpAny_newList ?_)))))
  have hsz : ((s.heap.push (seqObj "list" #[] 0)).update s.heap.objs.size (Obj.mapSeq (· ++ [v].toArray))).objs.size = s.heap.objs.size + 1 := by
    rw [Heap.size_update, size_push']
  have hoL : (((s.heap.push (seqObj "list" #[] 0)).update s.heap.objs.size (Obj.mapSeq (· ++ [v].toArray))).push (seqObj "list" [v].toArray 0)).get? (s.heap.objs.size + 1) = some (seqObj "list" [v].toArray 0) := by
    rw [← hsz]; exact Heap.get?_push_size _ rfl
  show wpAny _ _ _ _ _ { s with heap := ((s.heap.push (seqObj "list" #[] 0)).update s.heap.objs.size (Obj.mapSeq (· ++ [v].toArray))).push (seqObj "list" [v].toArray 0) }
  rw [hsz]
  refine wpAny_bind (wpAny_holding (wpAny_call_entry slot_list_sort ⟨_, hoL, rfl⟩ entry_list_sort (one_tree hoL ⟨_, rfl, ?_⟩) (args_list_sort _)))
  refine wpAny_pure ⟨_, rfl, ?_⟩
  obtain ⟨e, he⟩ := sortedAll_at s.heap [v] #[v]
  have kp : ∀ b o, s.heap.get? b = some o → (sortedAll s.heap [v] #[v]).get? b = some o := fun b o e => sortedAll_old e
  have hL : L < s.heap.objs.size := F.ns.lt
  refine h _ e _ (F.keeps kp) (fun q hq => ?_)
  rcases List.mem_cons.mp hq with rfl | hq
  · exact ⟨he, Nat.ne_of_gt (Nat.lt_succ_of_lt hL), Heap.get?_none_of_le (Nat.le_trans F.above (Nat.le_succ_of_le (Nat.le_of_lt hL)))⟩
  · exact N.grown kp q hq

theorem tups_of {h : Heap} : ∀ {rs : List Value} {ps : List (Int × Int)}, RowAt h rs ps → ∃ fs, KatTups h rs fs ∧ fs.length = ps.length ∧ ∀ v ∈ fs, ∃ a t, v = .int a t
  | _, _, .nil => ⟨[], .nil, rfl, fun _ h => nomatch h⟩
  | _, _, .cons e r => by
    obtain ⟨fs, h1, h2, h3⟩ := tups_of r
    refine ⟨_ :: fs, .cons e rfl rfl rfl h1, by simp [h2], fun v hv => ?_⟩
    rcases List.mem_cons.mp hv with rfl | hv
    · exact ⟨_, _, rfl⟩
    · exact h3 v hv

/-- one pair is not below another that is at most it -/
theorem lt_pair {x y : Addr} {a b : Int × Int} {t1 t2 t3 t4 : Tok} {C : Bool → Shared → Prop} (hx : s.heap.get? x = some (tupO [.int a.1 t1, .int a.2 t2])) (hy : s.heap.get? y = some (tupO [.int b.1 t3, .int b.2 t4])) (hle : LexLe b a) (h : C false s) :
    wpAny (model PR w) A (keyLt' (tuples' true) (.ref x) (.ref y)) C E s := by
  refine kat_lt hx rfl hy rfl ?_
  show KatLex PR w A true (decide (2 < 2)) C [(.int a.1 t1, .int b.1 t3), (.int a.2 t2, .int b.2 t4)] 0 s
  refine kat_cons (wpAny_eqBool_int (kat_go (fun e1 => kat_yes (kat_cons (wpAny_eqBool_int (kat_go (fun e2 => kat_yes (kat_nil h)) fun e2 => kat_no ?_)))) fun e1 => kat_no ?_))
  · show wpAny _ A (oneLt' false (.int a.2 t2) (.int b.2 t4)) _ _ _
    refine kat_one _ _ (lt_int ?_)
    have h1 : a.1 = b.1 := by simpa using e1
    have h2 : ¬ a.2 < b.2 := by
      rcases hle with h | h
      · first | lia | omega
      · first | lia | omega
    rw [decide_eq_false h2]
    exact h
  · refine oneLt_int ?_
    have h1 : a.1 ≠ b.1 := by simpa using e1
    have h2 : ¬ a.1 < b.1 := by
      rcases hle with h | h
      · first | lia | omega
      · first | lia | omega
    rw [decide_eq_false h2]
    exact h

/-- sorted of a row that rises -/
theorem sorted_row (F : Fr h₀ L s.heap m) (N : News h₀ L s.heap news) (hl : s.heap.IsList l rs.toArray) (hr : RowAt h₀ rs ps) (h1 : 1 ≤ ps.length) (h64 : ps.length < 64) (hs : ps.Pairwise LexLe)
    (h : ∀ D c h', Fr h₀ L h' m → News h₀ L h' ((D, lstO rs c) :: news) → Q (.ref D) { s with heap := h' }) :
    wpAny (model PR w) A (call (.builtin "sorted") [.ref l]) Q E s := by
  have hlen := hr.length
  by_cases h2 : 2 ≤ rs.length
  · refine kat_sorted F N hl h2 (by (first | lia | omega)) fun D e1 h' F' N' lt => ?_
    have hr' : RowAt h' rs ps := hr.keeps fun b o _ e => F'.keep _ _ e
    obtain ⟨fs, t1, t2, t3⟩ := tups_of hr'
    refine kat_kind (T := .type "int") t1 (by (first | lia | omega)) (fun v hv => ?_) rfl ?_
    · obtain ⟨a, t, rfl⟩ := t3 v hv
      exact Looks.now
    · refine sort_rises (by (first | lia | omega)) (fun i a b C hC => ?_) ?_
      · show wpAny (model PR w) A.in1.in1 (keyLt' (tuples' true) (rs.getD i Value.none) (rs.getD (i - 1) Value.none)) C (fun _ _ => False) _
        obtain ⟨q, hq⟩ : ∃ q, ps[i]? = some q := ⟨_, List.getElem?_eq_getElem (by (first | lia | omega))⟩
        obtain ⟨q', hq'⟩ : ∃ q, ps[i - 1]? = some q := ⟨_, List.getElem?_eq_getElem (by (first | lia | omega))⟩
        obtain ⟨T, u1, u2, e1, e2⟩ := hr'.get hq
        obtain ⟨T', u3, u4, e3, e4⟩ := hr'.get hq'
        rw [List.getD_eq_getElem?_getD, List.getD_eq_getElem?_getD, e1, e3]
        refine lt_pair e2 e4 ?_ hC
        have := List.pairwise_iff_getElem.mp hs (i - 1) i (by (first | lia | omega)) (by (first | lia | omega)) (by (first | lia | omega))
        rw [(List.getElem?_eq_some_iff.mp hq).2, (List.getElem?_eq_some_iff.mp hq').2] at this
        exact this
      · refine KasFin.intro F' N' (UpdF.head fun q hq => Nat.ne_of_lt (lt q hq)) fun h3 c F3 N3 => ?_
        have e : ((List.range rs.length).map fun i => rs.getD i Value.none) = rs := by
          apply List.ext_getElem?
          intro i
          rw [List.getElem?_map]
          by_cases hi : i < rs.length
          · rw [List.getElem?_range hi, Option.map_some, List.getD_eq_getElem?_getD, List.getElem?_eq_getElem hi]
            rfl
          · rw [List.getElem?_eq_none (by simpa using hi), List.getElem?_eq_none (by (first | lia | omega))]
            rfl
        dsimp only at N3
        rw [e] at N3
        exact h D c h3 F3 N3
  · obtain ⟨v, rfl⟩ : ∃ v, rs = [v] := by
      match rs, hlen, h2 with
      | [], hlen, _ => simp at hlen; (first | lia | omega)
      | [v], _, _ => exact ⟨v, rfl⟩
      | _ :: _ :: _, _, h2 => simp at h2
    exact sorted_one F N hl h
end
end Mine
end
section
set_option maxRecDepth 100000
theorem Mine.off_RowEq : True := by
  w_top off
  trivial
open PySem PySem.W PyProof.Rows PySem.Calls PySem.SeqAt
namespace Mine
noncomputable def pairD (q : Int × Int) : PyData := .tuple [.int q.1, .int q.2]
theorem readsAll_row {h : Heap} : ∀ {rs : List Value} {ps : List (Int × Int)}, RowAt h rs ps → ReadsAll h rs (ps.map pairD) []
  | _, _, .nil => ReadsAll.nil
  | _, _, .cons e r => readsAll_cons_val (reads_pair e) (readsAll_row r)
theorem pair_canLay : ∀ ps : List (Int × Int), PyData.canLayAll0 (ps.map pairD) = true
  | [] => rfl
  | _ :: r => by simp [PyData.canLayAll0, PyData.canLay0, pair_canLay r, pairD]
theorem pair_depth : ∀ ps : List (Int × Int), PyData.depthAll (ps.map pairD) ≤ 1
  | [] => by simp [PyData.depthAll]
  | _ :: r => by
    have := pair_depth r
    simp [PyData.depthAll, PyData.depth, pairD]
    first | lia | omega
theorem pair_shaped (ps : List (Int × Int)) : shaped (.list (ps.map pairD)) = true := by
  have h1 := pair_canLay ps
  have h2 := pair_depth ps
  unfold shaped
  simp only [PyData.canLay0, PyData.depth, h1, Bool.true_and]
  exact decide_eq_true (by (first | lia | omega))
theorem pair_eqv : ∀ ps : List (Int × Int), PyData.eqvAll (ps.map pairD) (ps.map pairD) = true
  | [] => rfl
  | _ :: r => by simp [PyData.eqvAll, PyData.eqv, pairD, pair_eqv r]
section
variable {w : World} {A : Around} {E : Value → Shared → Prop} {s : Shared} {Q : Value → Shared → Prop}
/-- a row equals another list of the same pairs -/
theorem ne_rows {l D : Addr} {rs : List Value} {c : Nat} {ps : List (Int × Int)} (hl : s.heap.IsList l rs.toArray) (hD : s.heap.get? D = some (lstO rs c)) (hr : RowAt s.heap rs ps) (hu : A.units + 64 < cLine) (h : Q (.bool false) s) :
    wpAny (model PR w) A (compareOp .NotEq (.ref l) (.ref D)) Q E s := by
  obtain ⟨o, ho, hc, n, hd⟩ := hl
  refine ne_dataH (reads_list_at ho hc hd (readsAll_row hr)) (reads_list_at hD rfl rfl (readsAll_row hr)) (pair_shaped ps) (pair_shaped ps) hu ?_
  simp only [PyData.eqv, pair_eqv ps, Bool.not_true]
  exact h
end
end Mine
end
section
set_option maxRecDepth 100000
theorem Mine.off_F16 : True := by
  w_top off
  trivial
open PySem.Builtin.Int
open PySem PySem.W PyProof.Rows PySem.Calls
namespace Mine
local macro_rules | `(tactic| walk_at "my_side") => `(tactic| (
  (case k6 => k_is); (case k7 => k_is); (case k9 => first | exact BindsTo.of_eq rfl | exact binds_K (by k_in) rfl (by k_is) rfl rfl rfl); (case c5 => decide); (case kB => exact locs rfl); (case c2 => exact rfl); (case c3 => exact rfl); (case c4 => exact rfl)))
local macro_rules | `(tactic| walk_at "call builtin:sorted") => `(tactic| (refine Stop.out ?_))
local macro_rules | `(tactic| walk_at "call builtin:len") => `(tactic| (refine Stop.out ?_))
local macro_rules | `(tactic| walk_at "subscriptTail") => `(tactic| (refine Stop.out ?_))
local macro_rules | `(tactic| walk_at "compareOp NotEq ref ref") => `(tactic| (refine Stop.out ?_))
local macro_rules | `(tactic| walk_at "compareOp Eq ref ref") => `(tactic| (refine Stop.out ?_))
local macro_rules | `(tactic| walk_at "eval Lambda") => `(tactic| (refine Stop.out ?_))
/-- what a row must show for a wish -/
structure RowGood (ps : List (Int × Int)) (ts : List Int) (so : Nat) : Prop where
  lex : ps.Pairwise LexLe
  rests : maxI (aheadI ps ts.length) = (restsI ps.length ts ts.length).1 ∧ maxI (behindI ps ts.length) = (restsI ps.length ts ts.length).2
  words : ((ps.takeWhile fun q => decide (q.1 < (so : Int))).length : Int) = (wordsI so ps.length ts (wordsB ps.length).length).1 ∧ ((ps.takeWhile fun q => decide (q.1 ≤ (so : Int))).length : Int) = (wordsI so ps.length ts (wordsB ps.length).length).2.1
/-- after a call that raised within, as the caller sees it: its own frame was turned, and its caller's -/
theorem afterF_fr {h₀ h h' : Heap} {L L2 : Addr} {oL o2 : Obj} {m : Str → Option Value} {tb tb' lits : List (Addr × Obj)} (F : Fr h₀ L h m) (N : News h₀ L h (lits ++ (L2, o2) :: tb)) (hT : Tabs tb) (x : AfterF [(L, oL), (L2, o2)] tb tb' h h') (e : h.get? L = some oL) : Fr h₀ L h' m := by
  obtain ⟨oL', es, ep, hoL, r⟩ := F.ns
  rw [e] at hoL
  cases hoL
  obtain ⟨sl, hs⟩ := x.fr (L, oL) (.head _)
  have n2 := (N (L2, o2) (List.mem_append_right _ (.head _))).2.2
  refine ⟨⟨_, es, ep, hs, r⟩, fun b o e' => x.keep b o (fun hm => ?_) (fun hm => ?_) (F.keep b o e'), F.above⟩
  · obtain ⟨ps, hp⟩ := tabs_at hT hm
    have := (N _ (List.mem_append_right _ (.tail _ hp))).2.2
    rw [show (b, tabObj ps).1 = b from rfl, e'] at this
    cases this
  · rcases List.mem_cons.mp hm with h | hm
    · have h : b = L := h
      rw [h, kts_self F] at e'; cases e'
    · rw [List.mem_singleton.mp hm, n2] at e'; cases e'
theorem afterF_news {h₀ h h' : Heap} {L L2 : Addr} {oL o2 : Obj} {m : Str → Option Value} {tb tb' : List (Addr × Obj)} (F : Fr h₀ L h m) (N : News h₀ L h ((L2, o2) :: tb)) (x : AfterF [(L, oL), (L2, o2)] tb tb' h h') : ∃ sl, News h₀ L h' ((L2, { o2 with slots := sl }) :: tb') := by
  obtain ⟨sl, hs⟩ := x.fr (L2, o2) (.tail _ (.head _))
  refine ⟨sl, fun q hq => ?_⟩
  rcases List.mem_cons.mp hq with rfl | hq
  · exact ⟨hs, (N (L2, o2) (.head _)).2⟩
  · rcases x.old q hq with ⟨q0, h0, e⟩ | e
    · have n := N q0 (.tail _ h0)
      rw [e] at n
      exact ⟨x.get q hq, n.2⟩
    · refine ⟨x.get q hq, fun eL => ?_, ?_⟩
      · obtain ⟨oL', es, ep, hoL, r⟩ := F.ns
        rw [eL, hoL] at e; cases e
      · cases e' : h₀.get? q.1 with
        | none => rfl
        | some o' => rw [F.keep _ _ e'] at e; cases e
theorem afterF_ne {fs tb tb' : List (Addr × Obj)} {h h' : Heap} {I : Addr} {o : Obj} (x : AfterF fs tb tb' h h') (e : h.get? I = some o) (hn : ∀ q ∈ tb, q.1 ≠ I) : ∀ q ∈ tb', q.1 ≠ I := fun q hq hI => by
  rcases x.old q hq with ⟨q0, h0, e0⟩ | e0
  · exact hn q0 h0 (e0.trans hI)
  · rw [hI, e] at e0; cases e0
theorem afterF_done {tb tb' news : List (Addr × Obj)} {base h h' : Heap} {L L2 : Addr} {o2 : Obj} {sl : Array (Option Value)} {m : Str → Option Value}
    (b2 : ∀ b x, b ∉ ((L2, o2) :: tb).map (·.1) → h.get? b = some x → base.get? b = some x) (hs : ∀ q ∈ (L2, o2) :: tb, h.get? q.1 = some q.2) (F : Fr base L h' m) (N : News base L h' news) (hr : (L2, { o2 with slots := sl }) ∈ news) (T' : Tabs tb') (sub : ∀ q ∈ tb', q ∈ news) (hne : ∀ q ∈ tb', q.1 ≠ L2)
    (cods : ∀ q ∈ tb, q.1 ∉ [30, 37, 119, 152] → q ∈ tb') : AfterF [(L2, o2)] tb tb' h h' := by
  refine ⟨fun b x hb hf e => ?_, fun q hq => ?_, T', fun q hq => (N q (sub q hq)).1, fun q hq => ?_, cods⟩
  · by_cases hm : b ∈ ((L2, o2) :: tb).map (·.1)
    · obtain ⟨q, hq, rfl⟩ := List.mem_map.mp hm
      rw [hs q hq] at e; cases e
      rcases List.mem_cons.mp hq with rfl | hq
      · exact absurd (.head _) hf
      · exact (N q (sub q (cods q hq hb))).1
    · exact F.keep _ _ (b2 b x hm e)
  · rw [List.mem_singleton.mp hq]
    exact ⟨sl, (N _ hr).1⟩
  · by_cases hm : q.1 ∈ ((L2, o2) :: tb).map (·.1)
    · obtain ⟨q0, hq0, e⟩ := List.mem_map.mp hm
      rcases List.mem_cons.mp hq0 with rfl | hq0
      · exact absurd e.symm (hne q hq)
      · exact .inl ⟨q0, hq0, e⟩
    · refine .inr ?_
      cases e : h.get? q.1 with
      | none => rfl
      | some o => have := b2 _ _ hm e; rw [(N q (sub q hq)).2.2] at this; cases this
theorem tabs_hold {ta tb tc ps : Array Value} {x : Addr} {ox : Obj} {cs news : List (Addr × Obj)} (hTa : TabOk cs "_int2digits.<locals>.inner" ta) (hTb : TabOk cs "_digits2int.<locals>.inner" tb) (hTc : TabOk cs "_law_put.<locals>.<lambda>" tc) (tbo : TabOk ((x, ox) :: cs) "_law_holds.<locals>.<lambda>" ps)
    (hoff : ∀ q ∈ cs, q.1 ∉ [30, 37, 119, 152]) (hseq : ∀ q ∈ cs, NoSeq q.2) (hx : ∀ q ∈ news, q.1 < x) (h30 : (30, tabObj ta) ∈ news) (h37 : (37, tabObj tb) ∈ news) (h119 : (119, tabObj tc) ∈ news) {td : Array Value} (h152 : (152, tabObj td) ∈ news) (hxs : NoSeq ox) :
    Tabs ((30, tabObj ta) :: (37, tabObj tb) :: (119, tabObj tc) :: (152, tabObj ps) :: (x, ox) :: cs) := by
  have hxo : x ∉ ([30, 37, 119, 152] : List Addr) := fun hm => by
    have a := hx _ h30
    have b := hx _ h37
    have c := hx _ h119
    have d := hx _ h152
    simp only [List.mem_cons, List.not_mem_nil, or_false] at hm
    rcases hm with e | e | e | e
    · rw [e] at a; exact Nat.lt_irrefl _ a
    · rw [e] at b; exact Nat.lt_irrefl _ b
    · rw [e] at c; exact Nat.lt_irrefl _ c
    · rw [e] at d; exact Nat.lt_irrefl _ d
  refine ⟨ta, tb, tc, ps, (x, ox) :: cs, rfl, hTa.mono fun _ h => .tail _ h, hTb.mono fun _ h => .tail _ h, hTc.mono fun _ h => .tail _ h, tbo, fun q hq => ?_, fun q hq => ?_⟩
  · rcases List.mem_cons.mp hq with rfl | hq
    · exact hxo
    · exact hoff q hq
  · rcases List.mem_cons.mp hq with rfl | hq
    · exact hxs
    · exact hseq q hq
section
variable {w : World} {g : Heap} {s : Shared} {A : Around} {Q : Value → Shared → Prop} {E : Value → Shared → Prop}

set_option maxHeartbeats 4000000 in
theorem holds_ok {tb : List (Addr × Obj)} (G : Gx w g A 36) (st : g.StaysIn s.heap) (hT : Tabs tb)
    {row L2 : Addr} {o2 : Obj} {e2 : Env} (hs0 : ∀ q ∈ (L2, o2) :: tb, s.heap.get? q.1 = some q.2 ∧ g.get? q.1 = none) (ho2 : ∃ es n, o2.data = .dict es n)
    (hLt : ∀ q ∈ tb, q.1 ≠ L2) (hA : A.frames = some [e2]) (he2 : e2.frame = some L2 ∧ e2.scope.kind ≠ .module)
    {rs : List Value} {ps : List (Int × Int)} (hrow : s.heap.IsList row rs.toArray) (hr : RowAt s.heap rs ps) (hlen : ps.length ≤ 15) (hlen1 : 1 ≤ ps.length) (hps : ∀ q ∈ ps, 0 ≤ q.1 ∧ q.1 < 32)
    {l : Addr} {vs : List Value} {ts : List Int} {so b : Nat} {tso tbb : Tok} (hl : s.heap.IsList l vs.toArray) (hi : IntsAre vs ts) (htl : ts.length ≤ 5) (htl1 : 3 ≤ ts.length) (ht : ∀ t ∈ ts, t = 0 ∨ t = 1) (hb : b ≤ 27) (hso : so < 32) (hg : RowGood ps ts so)
    (ret : ∀ h' tk tb', AfterF [(L2, o2)] tb tb' s.heap h' → Q (.bool true) { s with heap := h', toks := tk }) :
    wpAny (model PR w) A (call (.ref 157) [.ref row, .int so tso, .int b tbb, .ref l]) Q E s := by
  refine' enter (binds := [("row", .ref row), ("sought", .int so tso), ("base", .int b tbb), ("turned", .ref l)]) G st ((L2, o2) :: tb) hs0 ?k6 ?k7 ?k9 ?kB ?_ ?c2 ?c3 ?c4 ?c5
  walk_at "my_side"
  intro base L h₁ b0 b1 b2 F N X' ⟨p, loose, mean, mg, mb, T'⟩ G' hlt hL
  obtain ⟨C1, C2, C3, C4⟩ := G'.C
  have hs1 : ∀ q ∈ (L2, o2) :: tb, s.heap.get? q.1 = some q.2 := fun q hq => (hs0 q hq).1
  have htbs : ∀ q ∈ tb, s.heap.get? q.1 = some q.2 := fun q hq => hs1 q (.tail _ hq)
  have seqOff : ∀ b (o : Obj) its n, s.heap.get? b = some o → o.data = .seq its n → b ∉ ((L2, o2) :: tb).map (·.1) := fun b o its n e hd hm => by
    obtain ⟨q, hq, e2⟩ := List.mem_map.mp hm
    rcases List.mem_cons.mp hq with rfl | hq
    · have := hs1 (L2, o2) (.head _)
      rw [show (L2, o2).1 = b from e2, e] at this
      cases this
      obtain ⟨es, n, h⟩ := ho2
      rw [h] at hd; cases hd
    · exact tabs_off hT htbs e hd q hq e2
  have listB : ∀ {a : Addr} {its : Array Value}, s.heap.IsList a its → base.IsList a its := fun ⟨o, ho, hc, n, hd⟩ => ⟨o, b2 _ _ (seqOff _ _ _ _ ho hd) ho, hc, n, hd⟩
  have hrow' := listB hrow
  have hl' := listB hl
  have hrb : RowAt base rs ps := hr.keeps2 fun b us e => b2 _ _ (seqOff _ _ _ _ e rfl) e
  have hvl : rs.length = ps.length := hr.length
  have hvt : vs.length = ts.length := hi.length
  have hu : A.units + 8 * 36 < cLine := G.units
  k_steps
  unfold Stop
  refine sorted_row F N (hrow'.at fun o e => F.keep _ _ e) hrb hlen1 (by (first | lia | omega)) hg.lex fun D c h2 F2 N2 => ?_
  k_steps
  unfold Stop
  refine ne_rows (hrow'.at fun o e => F2.keep _ _ e) (N2.get (.head _)) (hrb.keeps fun b o _ e => F2.keep _ _ e) (by have := G'.units; (first | lia | omega)) ?_
  k_steps
  unfold Stop
  refine len_list (hl'.at fun o e => F2.keep _ _ e) (by simp; (first | lia | omega)) ?_
  rw [List.size_toArray, hvt]
  k_steps
  refine by_row_ok ((G'.keeps (fun b o e => e)).less (by (first | lia | omega))) (fun b o e => F2.keep b o e) (hrow'.at fun o e => F2.keep _ _ e) (hrb.keeps fun b o _ e => F2.keep _ _ e) (by (first | lia | omega)) hlen1 htl fun r3 v1 v2 h3 tk3 k3 g3 f3 => ?_
  have F3 := fr_keep0 F2 k3
  have N3 := news_add F2 (news_keep0 N2 k3) g3 f3
  clear F2 N2
  try dsimp only
  k_steps
  unfold Stop
  refine len_list (hrow'.at fun o e => F3.keep _ _ e) (by simp; (first | lia | omega)) ?_
  rw [List.size_toArray, hvl]
  k_steps
  replace N3 : News base L h3 ([(r3, tupO [.int (maxI (aheadI ps ts.length)) v1, .int (maxI (behindI ps ts.length)) v2]), (D, lstO rs c), (L2, o2)] ++ tb) := N3
  refine by_rests_ok ((G'.keeps (fun b o e => e)).less (by (first | lia | omega))) (fun b o e => F3.keep b o e) hT (fun q hq => ⟨(N3 q (List.mem_append_right _ hq)).1, (N3 q (List.mem_append_right _ hq)).2.2⟩) (hl'.at fun o e => F3.keep _ _ e) hi htl ht (by (first | lia | omega)) fun r4 v3 v4 h4 tk4 tb4 aft4 g4 f4 => ?_
  have F4 := after_fr F3 N3 hT aft4
  have N4 := news_add F3 (after_news F3 N3 hT aft4 ⟨NT.cls (fun h => by cases h), NT.cls (fun h => by cases h), NT.dict ho2, True.intro⟩) g4 f4
  have hL4 := after_ne aft4 (N3 (L2, o2) (.tail _ (.tail _ (.head _)))).1 hLt
  clear F3 N3
  try dsimp only [List.nil_append, List.cons_append] at N4 ⊢
  k_steps
  unfold Stop
  refine ne_pair (N4.get (.tail _ (.head _))) (N4.get (.head _)) (by have := G'.units; (first | lia | omega)) ?_
  rw [show (!(maxI (aheadI ps ts.length) == (restsI ps.length ts ts.length).1 && maxI (behindI ps ts.length) == (restsI ps.length ts ts.length).2)) = false by rw [hg.rests.1, hg.rests.2]; simp]
  k_steps
  unfold Stop
  refine len_list (hl'.at fun o e => F4.keep _ _ e) (by simp; (first | lia | omega)) ?_
  rw [List.size_toArray, hvt]
  k_steps
  replace N4 : News base L h4 ((L2, o2) :: tb4) := fun q hq => N4 q (.tail _ (.tail _ (.tail _ hq)))
  obtain ⟨oL, es, ep, hoL, hoL2⟩ := F4.ns
  try dsimp only
  refine divided_ok (o1 := oL) (e1 := envOf _ _ L 157 (Value.ref 156)) ((G'.keeps (fun b o e => e)).less (by (first | lia | omega))) (fun b o e => F4.keep b o e) aft4.tabs (fun q hq => ?_) ⟨es, ep, hoL2.1⟩ ho2 (fun q hq => ⟨(N4 q (.tail _ hq)).2.1, hL4 q hq⟩) (Around.frames_deeper hA) ⟨rfl, (show ScopeKind.function ≠ ScopeKind.module by decide)⟩ he2 (hrow'.at fun o e => F4.keep _ _ e) (hrb.keeps fun b o _ e => F4.keep _ _ e) hlen hlen1 hps htl fun h5 tk5 tb5 aft5 => ?_
  · rcases List.mem_cons.mp hq with rfl | hq
    · exact ⟨hoL, kts_self F4⟩
    · exact ⟨(N4 q hq).1, (N4 q hq).2.2⟩
  have F5 := afterF_fr (lits := []) F4 N4 aft4.tabs aft5 hoL
  obtain ⟨sl, N5⟩ := afterF_news F4 N4 aft5
  have hL5 := afterF_ne aft5 (N4 (L2, o2) (.head _)).1 hL4
  have hc5 : ∀ q ∈ tb, q.1 ∉ [30, 37, 119, 152] → q ∈ tb5 := fun q hq hn => aft5.cods q (aft4.cods q hq hn) hn
  clear F4 N4
  have hT5 := aft5.tabs
  clear aft5
  generalize ho2' : ({ o2 with slots := sl } : Obj) = o2' at N5
  have ho3 : ∃ es n, o2'.data = .dict es n := by rw [← ho2']; exact ho2
  have hsrt : ps.Pairwise fun a b => a.1 ≤ b.1 := hg.lex.imp fun {a b} h => by
    rcases h with h | h
    · first | lia | omega
    · first | lia | omega
  k_steps
  unfold Stop
  obtain ⟨ta, tb2, tc, td, cs, rfl, hTa, hTb, hTc, hTd, hoff, hseq⟩ := hT5
  k_dflt (refine' kla_eval ?d0 ?_; (case d0 => exact rfl))
  k_dflt (refine' lam_any F5 N5 T' C4 rfl ?U hTd ?hcs ?cl ?_; (case cl => exact rfl); (case hcs => exact fun q hq => by simp [hq]); (case U => exact UpdF.tail (fun e => hL5 (152, tabObj td) (by simp) e.symm) (UpdF.tail (show (30 : Nat) ≠ 152 by decide) (UpdF.tail (show (37 : Nat) ≠ 152 by decide) (UpdF.tail (show (119 : Nat) ≠ 152 by decide) (UpdF.head (fun q hq e => hoff q hq (by simp [e]))))))))
  intro f c' x ox ps' ctv h6 tk6 F6 N6 tbo hcode hx hf hxs
  replace N6 : News base L h6 ((f, _) :: (x, ox) :: (L2, o2') :: (30, tabObj ta) :: (37, tabObj tb2) :: (119, tabObj tc) :: (152, tabObj ps') :: cs) := N6
  have hT6 := tabs_hold hTa hTb hTc tbo hoff hseq hx (by simp) (by simp) (by simp) (td := td) (by simp) hxs
  have hkey : KeyOk w f h6 := key_lam (N6.get (.head _)) (hcode _ (fun q hq e => e) (N6.get (.tail _ (.head _))))
  try dsimp only
  k_steps
  try dsimp only
  refine bisect_left_2 ((G'.keeps (fun b o e => e)).less (by (first | lia | omega))) (fun b o e => F6.keep b o e) (hrow'.at fun o e => F6.keep _ _ e) (hrb.keeps fun b o _ e => F6.keep _ _ e) (by (first | lia | omega)) hsrt hkey (fun b o e => e) fun k1 t1 h7 tk7 a1 a2 a3 k7 => ?_
  have F7 := fr_keep0 F6 k7
  have N7 : ∃ tb6, Tabs tb6 ∧ News base L h7 ((L2, o2') :: tb6) ∧ (∀ q ∈ tb6, q.1 ≠ L2) ∧ ∀ q ∈ tb, q.1 ∉ [30, 37, 119, 152] → q ∈ tb6 := by
    refine ⟨_, hT6, fun q hq => news_keep0 N6 k7 q ?_, fun q hq => ?_, fun q hq hn => ?_⟩
    · simp only [List.mem_cons] at hq ⊢
      rcases hq with h | h | h | h | h | h | h
      · exact .inr (.inr (.inl h))
      · exact .inr (.inr (.inr (.inl h)))
      · exact .inr (.inr (.inr (.inr (.inl h))))
      · exact .inr (.inr (.inr (.inr (.inr (.inl h)))))
      · exact .inr (.inr (.inr (.inr (.inr (.inr (.inl h))))))
      · exact .inr (.inl h)
      · exact .inr (.inr (.inr (.inr (.inr (.inr (.inr h))))))
    · simp only [List.mem_cons] at hq
      rcases hq with rfl | rfl | rfl | rfl | rfl | h
      · exact hL5 (30, tabObj ta) (by simp)
      · exact hL5 (37, tabObj tb2) (by simp)
      · exact hL5 (119, tabObj tc) (by simp)
      · exact hL5 (152, tabObj td) (by simp)
      · exact Nat.ne_of_gt (hx (L2, o2') (by simp))
      · exact hL5 q (by simp [h])
    · have := hc5 q hq hn
      simp only [List.mem_cons] at this ⊢
      rcases this with rfl | rfl | rfl | rfl | h
      · exact absurd (by simp) hn
      · exact absurd (by simp) hn
      · exact absurd (by simp) hn
      · exact absurd (by simp) hn
      · exact .inr (.inr (.inr (.inr (.inr h))))
  clear N6 F6 F5 N5 hT6
  obtain ⟨tb6, hT7, N7, hL7, hc7⟩ := N7
  try dsimp only
  k_steps
  rename Fr _ _ _ _ => F8
  rename News _ _ _ _ => N8
  unfold Stop
  obtain ⟨ta, tb2, tc, td, cs, rfl, hTa, hTb, hTc, hTd, hoff, hseq⟩ := hT7
  k_dflt (refine' kla_eval ?d0 ?_; (case d0 => exact rfl))
  k_dflt (refine' lam_any F8 N8 T' C4 rfl ?U hTd ?hcs ?cl ?_; (case cl => exact rfl); (case hcs => exact fun q hq => by simp [hq]); (case U => exact UpdF.tail (fun e => hL7 (152, tabObj td) (by simp) e.symm) (UpdF.tail (show (30 : Nat) ≠ 152 by decide) (UpdF.tail (show (37 : Nat) ≠ 152 by decide) (UpdF.tail (show (119 : Nat) ≠ 152 by decide) (UpdF.head (fun q hq e => hoff q hq (by simp [e]))))))))
  intro f c' x ox ps' ctv h9 tk6 F6 N6 tbo hcode hx hf hxs
  replace N6 : News base L h9 ((f, _) :: (x, ox) :: (L2, o2') :: (30, tabObj ta) :: (37, tabObj tb2) :: (119, tabObj tc) :: (152, tabObj ps') :: cs) := N6
  have hT6 := tabs_hold hTa hTb hTc tbo hoff hseq hx (by simp) (by simp) (by simp) (td := td) (by simp) hxs
  have hkey : KeyOk w f h9 := key_lam (N6.get (.head _)) (hcode _ (fun q hq e => e) (N6.get (.tail _ (.head _))))
  try dsimp only
  k_steps
  try dsimp only
  refine bisect_right_2 ((G'.keeps (fun b o e => e)).less (by (first | lia | omega))) (fun b o e => F6.keep b o e) (hrow'.at fun o e => F6.keep _ _ e) (hrb.keeps fun b o _ e => F6.keep _ _ e) (by (first | lia | omega)) hsrt hkey (fun b o e => e) fun kk t2 h10 tk7 d1 d2 d3 k7 => ?_
  have F7 := fr_keep0 F6 k7
  have N7 : ∃ tb6, Tabs tb6 ∧ News base L h10 ((L2, o2') :: tb6) ∧ (∀ q ∈ tb6, q.1 ≠ L2) ∧ ∀ q ∈ tb, q.1 ∉ [30, 37, 119, 152] → q ∈ tb6 := by
    refine ⟨_, hT6, fun q hq => news_keep0 N6 k7 q ?_, fun q hq => ?_, fun q hq hn => ?_⟩
    · simp only [List.mem_cons] at hq ⊢
      rcases hq with h | h | h | h | h | h | h
      · exact .inr (.inr (.inl h))
      · exact .inr (.inr (.inr (.inl h)))
      · exact .inr (.inr (.inr (.inr (.inl h))))
      · exact .inr (.inr (.inr (.inr (.inr (.inl h)))))
      · exact .inr (.inr (.inr (.inr (.inr (.inr (.inl h))))))
      · exact .inr (.inl h)
      · exact .inr (.inr (.inr (.inr (.inr (.inr (.inr h))))))
    · simp only [List.mem_cons] at hq
      rcases hq with rfl | rfl | rfl | rfl | rfl | h
      · exact hL7 (30, tabObj ta) (by simp)
      · exact hL7 (37, tabObj tb2) (by simp)
      · exact hL7 (119, tabObj tc) (by simp)
      · exact hL7 (152, tabObj td) (by simp)
      · exact Nat.ne_of_gt (hx (L2, o2') (by simp))
      · exact hL7 q (by simp [h])
    · have := hc7 q hq hn
      simp only [List.mem_cons] at this ⊢
      rcases this with rfl | rfl | rfl | rfl | h
      · exact absurd (by simp) hn
      · exact absurd (by simp) hn
      · exact absurd (by simp) hn
      · exact absurd (by simp) hn
      · exact .inr (.inr (.inr (.inr (.inr h))))
  clear N6 F6 F8 N8 hT6
  obtain ⟨tb6, hT10, N7, hL10, hc10⟩ := N7
  try dsimp only
  k_steps
  rename Fr _ _ _ _ => F11
  rename News _ _ _ _ => N11
  unfold Stop
  refine len_list (hrow'.at fun o e => F11.keep _ _ e) (by simp; (first | lia | omega)) ?_
  rw [List.size_toArray, hvl]
  k_steps
  try dsimp only
  replace N11 : News base L _ ([_, _] ++ tb6) := N11
  refine by_words_ok ((G'.keeps (fun b o e => e)).less (by (first | lia | omega))) (fun b o e => F11.keep b o e) hT10 (fun q hq => ⟨(N11 q (List.mem_append_right _ hq)).1, (N11 q (List.mem_append_right _ hq)).2.2⟩) (hl'.at fun o e => F11.keep _ _ e) hi htl htl1 ht (by (first | lia | omega)) hlen1 hb hso fun r12 v5 v6 h12 tk12 tb12 aft12 g12 f12 => ?_
  have F12 := after_fr F11 N11 hT10 aft12
  have N12 := news_add F11 (after_news F11 N11 hT10 aft12 ⟨NT.cls (fun h => by cases h), NT.dict ho3, True.intro⟩) g12 f12
  have hL12 := after_ne aft12 (N11 (L2, o2') (.tail _ (.head _))).1 hL10
  have hc12 : ∀ q ∈ tb, q.1 ∉ [30, 37, 119, 152] → q ∈ tb12 := fun q hq hn => aft12.cods q (hc10 q hq hn) hn
  clear F11 N11
  try dsimp only [List.nil_append, List.cons_append] at N12 ⊢
  have e1 : (k1 : Int) = (wordsI so ps.length ts (wordsB ps.length).length).1 := by
    rw [← hg.words.1, (cut_while (f := fun q => decide (q.1 < (so : Int))) (fun q hq => decide_eq_true (a2 q hq)) (fun q hq => decide_eq_false (by have := a3 q hq; omega))).1, List.length_take]
    first | lia | omega
  have e2 : (kk : Int) = (wordsI so ps.length ts (wordsB ps.length).length).2.1 := by
    rw [← hg.words.2, (cut_while (f := fun q => decide (q.1 ≤ (so : Int))) (fun q hq => decide_eq_true (d2 q hq)) (fun q hq => decide_eq_false (by have := d3 q hq; omega))).1, List.length_take]
    first | lia | omega
  k_steps
  unfold Stop
  refine eq_pair (N12.get (.tail _ (.head _))) (N12.get (.head _)) (by have := G'.units; (first | lia | omega)) ?_
  rw [show ((k1 : Int) == (wordsI so ps.length ts (wordsB ps.length).length).1 && (kk : Int) == (wordsI so ps.length ts (wordsB ps.length).length).2.1) = true by rw [← e1, ← e2]; simp]
  subst ho2'
  exact ret _ _ _ (afterF_done b2 hs1 F12 N12 (.tail _ (.tail _ (.head _))) aft12.tabs (fun q hq => .tail _ (.tail _ (.tail _ hq))) hL12 hc12)
end
end Mine
end
section
set_option maxRecDepth 100000
theorem Mine.off_Plain : True := by
  w_top off
  trivial
open PySem PySem.W PyProof.Rows
namespace Mine
noncomputable def turnedI (z shift : Nat) : List Int := (List.range z).map fun i => (((shift / 2 ^ i % 2 : Nat)) : Int)
noncomputable def rowI (ts : List Int) : Nat → List (Int × Int)
  | 0 => []
  | n + 1 => putI ts (rowI ts n) n
noncomputable def lexB : List (Int × Int) → Bool
  | [] => true
  | a :: r => (match r with | [] => true | b :: _ => decide (a.1 < b.1) || (decide (a.1 = b.1) && decide (a.2 ≤ b.2))) && lexB r
noncomputable def goodN (ps : List (Int × Int)) (ts : List Int) : Bool :=
  lexB ps && ((maxI (aheadI ps ts.length) == (restsI ps.length ts ts.length).1 && maxI (behindI ps ts.length) == (restsI ps.length ts ts.length).2) && ps.all fun q => decide (0 ≤ q.1) && decide (q.1 < 32))
/-- a word's width and its place's rest -/
noncomputable def pairsW (ts : List Int) : List Nat → Int → List (Int × Int)
  | [], _ => []
  | p :: r, f => (2 ^ (ts.length - p), (placeI ts f).fmod (2 ^ (ts.length - p))) :: pairsW ts r (f + 2 ^ p)
noncomputable def sumA (so : Int) : List (Int × Int) → Int → Int
  | [], a => a
  | q :: r, a => sumA so r (a - (so - q.2).fdiv (-q.1))
noncomputable def sumU (so : Int) : List (Int × Int) → Int → Int
  | [], a => a
  | q :: r, a => sumU so r (a + ((so - q.2).fdiv q.1 + 1))
theorem fold_pairs (so : Int) (ts : List Int) : ∀ (l : List Nat) (a u f : Int), (l.foldl (stepW so ts) (a, u, f)).1 = sumA so (pairsW ts l f) a ∧ (l.foldl (stepW so ts) (a, u, f)).2.1 = sumU so (pairsW ts l f) u
  | [], _, _, _ => ⟨rfl, rfl⟩
  | _ :: r, _, _, _ => fold_pairs so ts r _ _ _
noncomputable def cntL (so : Int) : List (Int × Int) → Int → Int
  | [], a => a
  | q :: r, a => if q.1 < so then cntL so r (a + 1) else a
noncomputable def cntR (so : Int) : List (Int × Int) → Int → Int
  | [], a => a
  | q :: r, a => if q.1 ≤ so then cntR so r (a + 1) else a
noncomputable def goodS (ps : List (Int × Int)) (W : List (Int × Int)) (so : Int) : Bool := cntL so ps 0 == sumA so W 0 && cntR so ps 0 == sumU so W 0
noncomputable def goodR (ps : List (Int × Int)) (ts : List Int) : Bool := goodN ps ts && (List.range (2 ^ ts.length)).all fun so => goodS ps (pairsW ts (wordsB ps.length) 0) (so : Int)
noncomputable def goodRows (ts : List Int) : Nat → List (Int × Int) → Bool
  | 0, _ => true
  | k + 1, ps => goodR (putI ts ps ps.length) ts && goodRows ts k (putI ts ps ps.length)
end Mine
end
section
set_option maxRecDepth 100000
theorem Mine.off_StrEq : True := by
  w_top off
  trivial
open PySem PySem.W PyProof.Rows PySem.Calls PySem.SeqAt
namespace Mine
theorem readsAll_strs {h : Heap} : ∀ {vs : List Value} {xs : List Str}, StrsAre vs xs → ReadsAll h vs (xs.map PyData.str) []
  | _, _, .nil => ReadsAll.nil
  | _, _, .cons x t r => readsAll_cons_val (Reads.str _ _) (readsAll_strs r)
theorem strs_canLay : ∀ xs : List Str, (∀ x ∈ xs, PyData.strOk x = true) → PyData.canLayAll0 (xs.map PyData.str) = true
  | [], _ => rfl
  | x :: r, h => by simp [PyData.canLayAll0, PyData.canLay0, strs_canLay r fun y hy => h y (.tail _ hy), h x (.head _)]
theorem strs_depth : ∀ xs : List Str, PyData.depthAll (xs.map PyData.str) = 0
  | [] => by simp [PyData.depthAll]
  | _ :: r => by simp [PyData.depthAll, PyData.depth, strs_depth r]
theorem strs_shaped (xs : List Str) (h : ∀ x ∈ xs, PyData.strOk x = true) : shaped (.list (xs.map PyData.str)) = true := by
  unfold shaped
  simp only [PyData.canLay0, PyData.depth, strs_canLay xs h, strs_depth xs, Bool.true_and]
  exact decide_eq_true (by (first | lia | omega))
theorem strs_eqv : ∀ xs : List Str, PyData.eqvAll (xs.map PyData.str) (xs.map PyData.str) = true
  | [] => rfl
  | _ :: r => by simp [PyData.eqvAll, PyData.eqv, strs_eqv r]
section
variable {w : World} {A : Around} {E : Value → Shared → Prop} {s : Shared} {Q : Value → Shared → Prop}
theorem ne_strs {l1 l2 : Addr} {vs ws : List Value} {xs : List Str} (h1 : s.heap.IsList l1 vs.toArray) (h2 : s.heap.IsList l2 ws.toArray) (i1 : StrsAre vs xs) (i2 : StrsAre ws xs) (hx : ∀ x ∈ xs, PyData.strOk x = true) (hu : A.units + 64 < cLine) (h : Q (.bool false) s) :
    wpAny (model PR w) A (compareOp .NotEq (.ref l1) (.ref l2)) Q E s := by
  obtain ⟨o, ho, hc, n, hd⟩ := h1
  obtain ⟨o2, ho2, hc2, n2, hd2⟩ := h2
  refine ne_dataH (reads_list_at ho hc hd (readsAll_strs i1)) (reads_list_at ho2 hc2 hd2 (readsAll_strs i2)) (strs_shaped xs hx) (strs_shaped xs hx) hu ?_
  simp only [PyData.eqv, strs_eqv xs, Bool.not_true]
  exact h
end
theorem bits_shift5 : ∀ b : Fin 28, ∀ n : Fin 32, bitsI 32 (((n.1 * 2 ^ b.1 : Nat) : Int)) = (bitsI 5 (n.1 : Int)).map fun i => b.1 + i := by
  decide +kernel
theorem bits_told {z sh bb : Nat} (hz : z ≤ 5) (hsh : sh < 2 ^ z) (hb : bb ≤ 27) : bitsI 32 ((sh : Int) * 2 ^ bb) = (bitsI z (sh : Int)).map fun i => bb + i := by
  have h5 : sh < 32 := by
    have : (2 : Nat) ^ z ≤ 2 ^ 5 := Nat.pow_le_pow_right (by decide) hz
    first | lia | omega
  have e := bits_shift5 ⟨bb, by (first | lia | omega)⟩ ⟨sh, h5⟩
  have e2 : ((sh * 2 ^ bb : Nat) : Int) = (sh : Int) * 2 ^ bb := by push_cast; rfl
  dsimp only at e
  rw [e2] at e
  have h4 : ((2 ^ z : Nat) : Int) = 2 ^ z := by push_cast; rfl
  rw [e, bitsI_stop z 5 _ hz (Int.ediv_eq_zero_of_lt (by (first | lia | omega)) (by (first | lia | omega)))]
/-- the words told -/
theorem told_some {z sh bb : Nat} (hz : z ≤ 5) (hsh : sh < 2 ^ z) (hb : bb ≤ 27) (h0 : bitsI z (sh : Int) ≠ []) : prettyL ((sh : Int) * 2 ^ bb) = (bitsI z (sh : Int)).map fun i => word (bb + i) := by
  unfold prettyL
  rw [bits_told hz hsh hb, if_neg (by simpa using h0), List.map_map]
  rfl
theorem told_none {z sh bb : Nat} (hz : z ≤ 5) (hsh : sh < 2 ^ z) (hb : bb ≤ 27) (h0 : bitsI z (sh : Int) = []) : prettyL ((sh : Int) * 2 ^ bb) = [Str.ofString "0x0"] := by
  unfold prettyL
  rw [bits_told hz hsh hb, h0, List.map_nil, if_pos rfl]
  have : baseText "0x" 16 0 = Str.ofString "0x0" := by decide +kernel
  rw [this]
theorem word_ok : ∀ i : Fin 32, PyData.strOk (word i.1) = true := by decide +kernel
theorem pretty_strOk (x : Int) : ∀ y ∈ prettyL x, PyData.strOk y = true := fun y hy => by
  unfold prettyL at hy
  split at hy
  · rw [List.mem_singleton.mp hy]; decide +kernel
  · obtain ⟨i, hi, rfl⟩ := List.mem_map.mp hy
    exact word_ok ⟨i, bitsI_lt hi⟩
theorem word_not0 : ∀ i : Fin 32, word i.1 ≠ Str.ofString "0x0" := by decide +kernel
theorem bits_mem {z : Nat} {x : Int} {i : Nat} (hi : i < z) : i ∈ bitsI z x ↔ x / 2 ^ i % 2 = 1 := by
  unfold bitsI
  rw [List.mem_filter, List.mem_range]
  simp [hi]
theorem told_any {z sh bb i : Nat} (hz : z ≤ 5) (hsh : sh < 2 ^ z) (hb : bb ≤ 27) (hi : i < z) : (prettyL ((sh : Int) * 2 ^ bb)).any (· == word (bb + i)) = ((sh : Int) / 2 ^ i % 2 == 1) := by
  by_cases h0 : bitsI z (sh : Int) = []
  · rw [told_none hz hsh hb h0]
    have h1 : ¬ (sh : Int) / 2 ^ i % 2 = 1 := fun h => by
      have := (bits_mem hi).mpr h
      rw [h0] at this; cases this
    have h2 : (Str.ofString "0x0" == word (bb + i)) = false := by
      rw [beq_eq_false_iff_ne]
      exact fun e => word_not0 ⟨bb + i, by (first | lia | omega)⟩ e.symm
    rw [List.any_cons, List.any_nil, h2]
    simp [h1]
  · rw [told_some hz hsh hb h0, List.any_map]
    by_cases h : (sh : Int) / 2 ^ i % 2 = 1
    · rw [h]
      have hm := (bits_mem hi).mpr h
      simp only [beq_self_eq_true]
      exact List.any_eq_true.mpr ⟨i, hm, by simp⟩
    · have e : ((sh : Int) / 2 ^ i % 2 == 1) = false := by simpa using h
      rw [e, List.any_eq_false]
      intro j hj hw
      have hjl := bitsI_lt hj
      have hw : word (bb + j) = word (bb + i) := by simpa using hw
      have := Fin.mk.inj (word_inj ⟨bb + j, by (first | lia | omega)⟩ ⟨bb + i, by (first | lia | omega)⟩ hw)
      have : j = i := by (first | lia | omega)
      subst this
      exact h ((bits_mem hi).mp hj)
theorem turned_get {z sh i : Nat} (hi : i < z) : (turnedI z sh)[i]? = some ((sh : Int) / 2 ^ i % 2) := by
  unfold turnedI
  rw [List.getElem?_map, List.getElem?_range hi, Option.map_some]
  congr 1
theorem turned_len (z sh : Nat) : (turnedI z sh).length = z := by unfold turnedI; rw [List.length_map, List.length_range]
theorem turned_bits (z sh : Nat) : ∀ t ∈ turnedI z sh, t = 0 ∨ t = 1 := fun t ht => by
  unfold turnedI at ht
  obtain ⟨i, _, rfl⟩ := List.mem_map.mp ht
  first | lia | omega
end Mine
end
section
set_option maxRecDepth 100000
theorem Mine.off_LawAux : True := by
  w_top off
  trivial
open PySem PySem.W PyProof.Rows PySem.Calls
namespace Mine
/-- the row's pairs, by what stands below and by a list of objects -/
noncomputable def RowTl (base : Heap) (tl : List (Addr × Obj)) (rs : List Value) (ps : List (Int × Int)) : Prop := ∀ h : Heap, base.StaysIn h → (∀ q ∈ tl, h.get? q.1 = some q.2) → RowAt h rs ps
/-- plain tuples -/
noncomputable def Tups (tl : List (Addr × Obj)) : Prop := ∀ q ∈ tl, ∃ us, q.2 = tupO us
theorem Tups.nts : ∀ {tl : List (Addr × Obj)}, Tups tl → NTs tl
  | [], _ => True.intro
  | p :: r, h => ⟨by obtain ⟨us, e⟩ := h p (.head _); rw [e]; exact NT.cls (fun h => by cases h), Tups.nts fun q hq => h q (.tail _ hq)⟩
theorem row_ledger {base h : Heap} {L : Addr} {m : Str → Option Value} {rs : List Value} {ps : List (Int × Int)} (F : Fr base L h m) (r : RowAt h rs ps) : ∃ tl, News base L h tl ∧ Tups tl ∧ RowTl base tl rs ps := by
  induction r with
  | nil => exact ⟨[], News.nil, (fun _ h => nomatch h), fun _ _ _ => .nil⟩
  | @cons T p n t1 t2 vs ps' e _ ih =>
    obtain ⟨tl, h1, h2, h3⟩ := ih
    cases eb : base.get? T with
    | some o =>
      have := F.keep _ _ eb
      rw [e] at this
      have e2 : o = tupO [.int p t1, .int n t2] := (Option.some.inj this).symm
      rw [e2] at eb
      exact ⟨tl, h1, h2, fun h hb ht => .cons (hb _ _ eb) (h3 h hb ht)⟩
    | none =>
      refine ⟨(T, tupO [.int p t1, .int n t2]) :: tl, fun q hq => ?_, fun q hq => ?_, fun h hb ht => .cons (ht _ (.head _)) (h3 h hb fun q hq => ht q (.tail _ hq))⟩
      · rcases List.mem_cons.mp hq with rfl | hq
        · refine ⟨e, fun eL => ?_, eb⟩
          obtain ⟨oL, es, ep, hoL, hd, _⟩ := F.ns
          have eL : T = L := eL
          rw [eL, hoL] at e
          cases e
          cases hd
        · exact h1 q hq
      · rcases List.mem_cons.mp hq with rfl | hq
        · exact ⟨_, rfl⟩
        · exact h2 q hq
/-- after a call that raised within, as the outermost caller sees it -/
theorem afterF1_fr {h₀ h h' : Heap} {L : Addr} {oL : Obj} {m : Str → Option Value} {tb tb' lits : List (Addr × Obj)} (F : Fr h₀ L h m) (N : News h₀ L h (lits ++ tb)) (hT : Tabs tb) (x : AfterF [(L, oL)] tb tb' h h') (e : h.get? L = some oL) : Fr h₀ L h' m := by
  obtain ⟨oL', es, ep, hoL, r⟩ := F.ns
  rw [e] at hoL
  cases hoL
  obtain ⟨sl, hs⟩ := x.fr (L, oL) (.head _)
  refine ⟨⟨_, es, ep, hs, r⟩, fun b o e' => x.keep b o (fun hm => ?_) (fun hm => ?_) (F.keep b o e'), F.above⟩
  · obtain ⟨ps, hp⟩ := tabs_at hT hm
    have := (N _ (List.mem_append_right _ hp)).2.2
    rw [show (b, tabObj ps).1 = b from rfl, e'] at this
    cases this
  · have h : b = L := List.mem_singleton.mp hm
    rw [h, kts_self F] at e'; cases e'
theorem afterF1_news {h₀ h h' : Heap} {L : Addr} {oL : Obj} {m : Str → Option Value} {tb tb' lits : List (Addr × Obj)} (F : Fr h₀ L h m) (N : News h₀ L h (lits ++ tb)) (hT : Tabs tb) (x : AfterF [(L, oL)] tb tb' h h') (hl : NTs lits) : News h₀ L h' (lits ++ tb') := by
  intro q hq
  rcases List.mem_append.mp hq with hq | hq
  · have n := N q (List.mem_append_left _ hq)
    refine ⟨x.keep _ _ (fun hm => ?_) (fun hm => n.2.1 (List.mem_singleton.mp hm)) n.1, n.2⟩
    obtain ⟨ps, hp⟩ := tabs_at hT hm
    have e := (N _ (List.mem_append_right _ hp)).1
    rw [n.1] at e
    exact hl.all _ hq ps (Option.some.inj e)
  · rcases x.old q hq with ⟨q0, h0, e⟩ | e
    · have n := N q0 (List.mem_append_right _ h0)
      rw [e] at n
      exact ⟨x.get q hq, n.2⟩
    · refine ⟨x.get q hq, fun eL => ?_, ?_⟩
      · obtain ⟨oL', es, ep, hoL, r⟩ := F.ns
        rw [eL, hoL] at e; cases e
      · cases e' : h₀.get? q.1 with
        | none => rfl
        | some o' => rw [F.keep _ _ e'] at e; cases e
/-- the rows that the law puts together hold whatever is wished -/
structure RowsGood (ts : List Int) : Prop where
  lex : ∀ n, n ≤ 15 → (rowI ts n).Pairwise LexLe
  low : ∀ n, n ≤ 15 → ∀ q ∈ rowI ts n, 0 ≤ q.1 ∧ q.1 < 32
  good : ∀ n, 1 ≤ n → n ≤ 15 → ∀ so : Nat, so < 2 ^ ts.length → RowGood (rowI ts n) ts so
theorem insL_len (ps : List (Int × Int)) (x v : Int) : (insL ps x v).length = ps.length + 1 := by
  have := congrArg List.length (List.takeWhile_append_dropWhile (p := fun q : Int × Int => decide (q.1 < x)) (l := ps))
  unfold insL
  rw [List.length_append] at this ⊢
  rw [List.length_cons]
  first | lia | omega
theorem insR_len (ps : List (Int × Int)) (x v : Int) : (insR ps x v).length = ps.length + 1 := by
  have := congrArg List.length (List.takeWhile_append_dropWhile (p := fun q : Int × Int => decide (q.1 ≤ x)) (l := ps))
  unfold insR
  rw [List.length_append] at this ⊢
  rw [List.length_cons]
  first | lia | omega
theorem rowI_len (ts : List Int) : ∀ n, (rowI ts n).length = n
  | 0 => rfl
  | n + 1 => by
    show (putI ts (rowI ts n) n).length = n + 1
    unfold putI
    split
    · rw [insL_len, rowI_len ts n]
    · rw [insR_len, rowI_len ts n]
theorem lexB_pw : ∀ {l : List (Int × Int)}, lexB l = true → l.Pairwise LexLe
  | [], _ => .nil
  | [a], _ => .cons (fun _ h => nomatch h) .nil
  | a :: b :: r, h => by
    unfold lexB at h
    rw [Bool.and_eq_true] at h
    have ih := lexB_pw h.2
    have hab : LexLe a b := by
      have h1 := h.1
      simp only [Bool.or_eq_true, Bool.and_eq_true, decide_eq_true_eq] at h1
      exact h1
    refine .cons (fun c hc => ?_) ih
    rcases List.mem_cons.mp hc with rfl | hc
    · exact hab
    · have hbc := (List.pairwise_cons.mp ih).1 c hc
      unfold LexLe at *
      first | lia | omega
theorem cntL_eq (so : Int) : ∀ (l : List (Int × Int)) (a : Int), cntL so l a = a + ((l.takeWhile fun q => decide (q.1 < so)).length : Int)
  | [], a => by simp [cntL]
  | q :: r, a => by
    unfold cntL
    by_cases h : q.1 < so
    · rw [if_pos h, cntL_eq so r, List.takeWhile_cons_of_pos (by simpa using h), List.length_cons]
      first | lia | omega
    · rw [if_neg h, List.takeWhile_cons_of_neg (by simpa using h)]
      simp
theorem cntR_eq (so : Int) : ∀ (l : List (Int × Int)) (a : Int), cntR so l a = a + ((l.takeWhile fun q => decide (q.1 ≤ so)).length : Int)
  | [], a => by simp [cntR]
  | q :: r, a => by
    unfold cntR
    by_cases h : q.1 ≤ so
    · rw [if_pos h, cntR_eq so r, List.takeWhile_cons_of_pos (by simpa using h), List.length_cons]
      first | lia | omega
    · rw [if_neg h, List.takeWhile_cons_of_neg (by simpa using h)]
      simp
theorem goodRows_at {ts : List Int} : ∀ {k n : Nat}, goodRows ts k (rowI ts n) = true → ∀ j, n < j → j ≤ n + k → goodR (rowI ts j) ts = true
  | 0, n, _, j, h1, h2 => by (first | lia | omega)
  | k + 1, n, h, j, h1, h2 => by
    unfold goodRows at h
    rw [rowI_len, Bool.and_eq_true] at h
    by_cases e : j = n + 1
    · subst e; exact h.1
    · exact goodRows_at (n := n + 1) h.2 j (by (first | lia | omega)) (by (first | lia | omega))
theorem rows_good {ts : List Int} (h : goodRows ts 15 [] = true) : RowsGood ts := by
  have key : ∀ n, 1 ≤ n → n ≤ 15 → goodR (rowI ts n) ts = true := fun n h1 h2 => goodRows_at (n := 0) h n h1 (by (first | lia | omega))
  have parts : ∀ n, 1 ≤ n → n ≤ 15 → lexB (rowI ts n) = true ∧ (maxI (aheadI (rowI ts n) ts.length) = (restsI (rowI ts n).length ts ts.length).1 ∧ maxI (behindI (rowI ts n) ts.length) = (restsI (rowI ts n).length ts ts.length).2) ∧ (∀ q ∈ rowI ts n, 0 ≤ q.1 ∧ q.1 < 32) ∧
      ∀ so : Nat, so < 2 ^ ts.length → goodS (rowI ts n) (pairsW ts (wordsB (rowI ts n).length) 0) (so : Int) = true := fun n h1 h2 => by
    have k := key n h1 h2
    unfold goodR goodN at k
    simp only [Bool.and_eq_true, beq_iff_eq, List.all_eq_true, decide_eq_true_eq, List.mem_range] at k
    exact ⟨k.1.1, k.1.2.1, k.1.2.2, k.2⟩
  refine ⟨fun n hn => ?_, fun n hn => ?_, fun n h1 h2 so hso => ?_⟩
  · cases n with
    | zero => exact .nil
    | succ n => exact lexB_pw (parts (n + 1) (by (first | lia | omega)) hn).1
  · cases n with
    | zero => exact fun _ h => nomatch h
    | succ n => exact (parts (n + 1) (by (first | lia | omega)) hn).2.2.1
  · obtain ⟨p1, p2, p3, p4⟩ := parts n h1 h2
    have p5 := p4 so hso
    unfold goodS at p5
    simp only [Bool.and_eq_true, beq_iff_eq] at p5
    rw [cntL_eq, cntR_eq, Int.zero_add, Int.zero_add] at p5
    have f := fold_pairs (so : Int) ts (wordsB (rowI ts n).length) 0 0 0
    have e : wordsI so (rowI ts n).length ts (wordsB (rowI ts n).length).length = (wordsB (rowI ts n).length).foldl (stepW so ts) (0, 0, 0) := by
      unfold wordsI
      rw [List.take_length]
    refine ⟨lexB_pw p1, p2, ?_, ?_⟩
    · rw [e, f.1]; exact p5.1
    · rw [e, f.2]; exact p5.2
set_option maxHeartbeats 4000000 in
theorem good3 : ∀ shift, shift < 8 → goodRows (turnedI 3 shift) 15 [] = true := by decide +kernel
theorem spread (P : Nat → Prop) (c : Nat) (h0 : ∀ s, s < 4 → P (s + 4 * c)) {s : Nat} (h : s / 4 = c) : P s := by
  have := h0 (s - 4 * c) (by (first | lia | omega))
  rwa [show s - 4 * c + 4 * c = s by (first | lia | omega)] at this
set_option maxHeartbeats 4000000 in
theorem good4_a : ∀ shift, shift < 4 → goodRows (turnedI 4 (shift + 4 * 0)) 15 [] = true := by decide +kernel
set_option maxHeartbeats 4000000 in
theorem good4_b : ∀ shift, shift < 4 → goodRows (turnedI 4 (shift + 4 * 1)) 15 [] = true := by decide +kernel
set_option maxHeartbeats 4000000 in
theorem good4_c : ∀ shift, shift < 4 → goodRows (turnedI 4 (shift + 4 * 2)) 15 [] = true := by decide +kernel
set_option maxHeartbeats 4000000 in
theorem good4_d : ∀ shift, shift < 4 → goodRows (turnedI 4 (shift + 4 * 3)) 15 [] = true := by decide +kernel
set_option maxHeartbeats 4000000 in
theorem good5_a : ∀ shift, shift < 4 → goodRows (turnedI 5 (shift + 4 * 0)) 15 [] = true := by decide +kernel
set_option maxHeartbeats 4000000 in
theorem good5_b : ∀ shift, shift < 4 → goodRows (turnedI 5 (shift + 4 * 1)) 15 [] = true := by decide +kernel
set_option maxHeartbeats 4000000 in
theorem good5_c : ∀ shift, shift < 4 → goodRows (turnedI 5 (shift + 4 * 2)) 15 [] = true := by decide +kernel
set_option maxHeartbeats 4000000 in
theorem good5_d : ∀ shift, shift < 4 → goodRows (turnedI 5 (shift + 4 * 3)) 15 [] = true := by decide +kernel
set_option maxHeartbeats 4000000 in
theorem good5_e : ∀ shift, shift < 4 → goodRows (turnedI 5 (shift + 4 * 4)) 15 [] = true := by decide +kernel
set_option maxHeartbeats 4000000 in
theorem good5_f : ∀ shift, shift < 4 → goodRows (turnedI 5 (shift + 4 * 5)) 15 [] = true := by decide +kernel
set_option maxHeartbeats 4000000 in
theorem good5_g : ∀ shift, shift < 4 → goodRows (turnedI 5 (shift + 4 * 6)) 15 [] = true := by decide +kernel
set_option maxHeartbeats 4000000 in
theorem good5_h : ∀ shift, shift < 4 → goodRows (turnedI 5 (shift + 4 * 7)) 15 [] = true := by decide +kernel
theorem law_rows {z sh : Nat} (h3 : 3 ≤ z) (h5 : z ≤ 5) (h : sh < 2 ^ z) : RowsGood (turnedI z sh) := by
  apply rows_good
  have : z = 3 ∨ z = 4 ∨ z = 5 := by (first | lia | omega)
  rcases this with rfl | rfl | rfl
  · exact good3 sh h
  · have e : sh / 4 = 0 ∨ sh / 4 = 1 ∨ sh / 4 = 2 ∨ sh / 4 = 3 := by (first | lia | omega)
    rcases e with e | e | e | e
    · exact spread (fun s => goodRows (turnedI 4 s) 15 [] = true) 0 good4_a e
    · exact spread (fun s => goodRows (turnedI 4 s) 15 [] = true) 1 good4_b e
    · exact spread (fun s => goodRows (turnedI 4 s) 15 [] = true) 2 good4_c e
    · exact spread (fun s => goodRows (turnedI 4 s) 15 [] = true) 3 good4_d e
  · have e : sh / 4 = 0 ∨ sh / 4 = 1 ∨ sh / 4 = 2 ∨ sh / 4 = 3 ∨ sh / 4 = 4 ∨ sh / 4 = 5 ∨ sh / 4 = 6 ∨ sh / 4 = 7 := by (first | lia | omega)
    rcases e with e | e | e | e | e | e | e | e
    · exact spread (fun s => goodRows (turnedI 5 s) 15 [] = true) 0 good5_a e
    · exact spread (fun s => goodRows (turnedI 5 s) 15 [] = true) 1 good5_b e
    · exact spread (fun s => goodRows (turnedI 5 s) 15 [] = true) 2 good5_c e
    · exact spread (fun s => goodRows (turnedI 5 s) 15 [] = true) 3 good5_d e
    · exact spread (fun s => goodRows (turnedI 5 s) 15 [] = true) 4 good5_e e
    · exact spread (fun s => goodRows (turnedI 5 s) 15 [] = true) 5 good5_f e
    · exact spread (fun s => goodRows (turnedI 5 s) 15 [] = true) 6 good5_g e
    · exact spread (fun s => goodRows (turnedI 5 s) 15 [] = true) 7 good5_h e
end Mine
end
section
set_option maxRecDepth 100000
theorem Mine.off_F18 : True := by
  w_top off
  trivial
open PySem.Builtin.Int
open PySem PySem.W PyProof.Rows PySem.Calls
namespace Mine
local macro_rules | `(tactic| walk_at "my_sideC") => `(tactic| (
  (case k6 => k_is); (case k7 => k_is); (case k9 => first | exact BindsTo.of_eq rfl | exact binds_K (by k_in) rfl (by k_is) rfl rfl rfl); (case kB => exact rfl); (case kD => decide +kernel); (case c2 => exact rfl); (case c3 => exact rfl); (case c4 => exact rfl)))
local macro_rules | `(tactic| walk_at "mem") => `(tactic| first | assumption | exact List.Mem.head _ | (refine List.Mem.tail _ ?_; walk_at "mem") | (refine List.mem_append_left _ ?_; walk_at "mem") | (refine List.mem_append_right _ ?_; walk_at "mem"))
local macro_rules | `(tactic| walk_at "call builtin:str.split") => `(tactic| (refine Stop.out ?_))
local macro_rules | `(tactic| walk_at "compareOp NotEq ref ref") => `(tactic| (refine Stop.out ?_))
local macro_rules | `(tactic| walk_at "subscriptTail Name Name ref int") => `(tactic| (refine Stop.out ?_))
local macro_rules | `(tactic| walk_at "eval BoolOp") => `(tactic| ((fail_if_success (rename Stop True => hs9)); refine Stop.out ?_))
local macro_rules | `(tactic| walk_at "exec For Name Call cons nil") => `(tactic| (refine wpAny_For ?_ (fun _ => rfl)))
local macro_rules | `(tactic| walk_at "exec For Tuple Name cons nil") => `(tactic| (refine wpAny_For ?_ (fun _ => rfl)))
local macro_rules | `(tactic| walk_at "truthy ref") => `(tactic| (refine Stop.out ?_))
local macro_rules | `(tactic| walk_at "compareOp In str ref") => `(tactic| (refine Stop.out ?_))
local macro_rules | `(tactic| walk_at "eval Name") => `(tactic| (k_here; k_dflt (refine' nameX_L ?F ?v ?_ ?a ?b; (case F => k_asm); (case a => rfl); (case b => rfl); (case v => assumption); k_whole)))
local macro_rules | `(tactic| walk_at "eval Name") => `(tactic| (k_here; k_dflt (refine' ld_cellN ?N ?c ?m ?d ?_ ?a ?b ?e; (case a => rfl); (case b => rfl); (case e => decide); (case N => k_asm); (case c => rfl); (case m => k_mem); (case d => assumption); k_whole)))
local macro_rules | `(tactic| walk_at "eval ListComp") => `(tactic| (k_here; k_dflt (refine ListComp_K (by rfl) (by rfl) (by decide) ?_ (fun _ => rfl))))
local macro_rules | `(tactic| walk_at "exec Assign cons ListComp") => `(tactic| (k_here; k_dflt (refine Assign_K (by with_unfolding_all rfl) (by rfl) (by rfl) (by decide) (by rfl) (by rfl) ?_ (fun _ => rfl))))
local macro_rules | `(tactic| k_all) => `(tactic| assumption)
noncomputable def HereNT : Prop := True
local macro_rules | `(tactic| walk_at "newTuple") => `(tactic| ((rename HereNT => hnt9); refine Stop.out ?_))
/-- a wish's values -/
theorem wish_of {c : Int} (z : Nat) : ∃ a b : Nat, 1 + c.fmod 15 = a ∧ (c.fdiv 15).fmod (1 * 2 ^ ((z : Nat) : Int).toNat) = b ∧ 1 ≤ a ∧ a ≤ 15 ∧ b < 2 ^ z := by
  have hp : (0 : Int) < 2 ^ z := Int.pow_pos (by decide)
  have e : (1 : Int) * 2 ^ ((z : Nat) : Int).toNat = 2 ^ z := by rw [Int.one_mul, Int.toNat_natCast]
  have h1 := Int.fmod_eq_emod_of_nonneg c (show (0 : Int) ≤ 15 by decide)
  have h2 := Int.emod_nonneg c (show (15 : Int) ≠ 0 by decide)
  have h3 := Int.emod_lt_of_pos c (show (0 : Int) < 15 by decide)
  have h4 := Int.fmod_eq_emod_of_nonneg (c.fdiv 15) (Int.le_of_lt hp)
  have h5 := Int.emod_nonneg (c.fdiv 15) (Int.ne_of_gt hp)
  have h6 := Int.emod_lt_of_pos (c.fdiv 15) hp
  have h7 : ((2 ^ z : Nat) : Int) = 2 ^ z := by push_cast; rfl
  rw [e]
  exact ⟨(1 + c.fmod 15).toNat, ((c.fdiv 15).fmod (2 ^ z)).toNat, by (first | lia | omega), by (first | lia | omega), by (first | lia | omega), by (first | lia | omega), by (first | lia | omega)⟩
section
variable {w : World} {g : Heap} {s : Shared} {A : Around} {Q : Value → Shared → Prop} {E : Value → Shared → Prop} {R : Result → Shared → Prop}
  {name qual : Str} {params : Arguments} {body : List Stmt} {scope : Scope} {dV kV doc pm cdv ct oc : Value} {an od : Option Addr} {osl : Array (Option Value)} {f : Addr} {pos : List Value} {kw : List (Str × Value)} {binds : List (Str × Value)} {n : Nat}
/-- the entry of the first call: what it gives goes to a result -/
theorem enterR (G : Gx w g A (n + 1)) (st : g.StaysIn s.heap)
    (T : List (Addr × Obj)) (hT : ∀ q ∈ T, s.heap.get? q.1 = some q.2 ∧ g.get? q.1 = none)
    (ho : (hd.heap_39 w.params).lookup f = some ⟨oc, od, .func (fnOf name qual params body scope dV kV doc pm an cdv ct), osl⟩) (hcd : codeIn (hd.heap_39 w.params) cdv qual = true)
    (hbind : BindsTo s (fnOf name qual params body scope dV kV doc pm an cdv ct) ⟨pos, kw⟩ binds)
    (hkind : (binds.all fun y => scope.names.lookup y.1 == some .local || scope.names.lookup y.1 == some .cell) = true)
    (hnd : ((cellsFrom 0 scope.names []).map (·.1)).Nodup)
    (h : ∀ base L h₁ tk cells, g.StaysIn base → base.StaysIn s.heap → (∀ b o, b ∉ T.map (·.1) → s.heap.get? b = some o → base.get? b = some o) →
      Fr base L h₁ (bindL (envOfC qual scope L f cdv).kindOf binds fun _ => none) → News base L h₁ (cells ++ T) →
      CellsAre (bindC (envOfC qual scope L f cdv).kindOf binds fun _ => none) (cellsFrom (L + 1) scope.names []) cells →
      (hd.heap_39 w.params).In base → (∃ p loose mean mg mb, Top p loose mean mg mb base) → Gx w base (A.deeper (envOfC qual scope L f cdv)) n → (∀ q ∈ T, q.1 < L) → L = s.heap.objs.size →
      wpAny (model PR w) (A.deeper (envOfC qual scope L f cdv)) (execs body (envOfC qual scope L f cdv))
        (fun fl s' => R (.ok (.ret (match fl with | .ret v => v | _ => .none))) s') (fun _ _ => False) { s with heap := h₁, toks := tk })
    (hco : scope.isCoroutine = false) (hgen : scope.isGenerator = false) (hk : scope.kind = .function) :
    codeAny (model PR w) A (.call (.ref f) ⟨pos, kw⟩) R s := by
  have hb := hide_base st hT
  have Gb := G.keeps hb
  obtain ⟨_, _, _, _, _, TT⟩ := G.T
  have hroom : A.depth < recursionLimit := by have := G.room; (first | lia | omega)
  refine codeAny_call_function hroom (G.X.keeps st _ _ ho) rfl hco hgen rfl (codeRec_of (G.X.keeps st) hcd) (hbind _ _ _ _ ?_)
  refine wpAny_newFunctionEnv_cells hk (kindsX hkind _) fun env' he s' x => ?_
  subst he
  refine ⟨(TT.nolimit.keeps st).keeps x.toInCall.keep, codeAny_func ?_⟩
  obtain ⟨h₁, tk, rfl, _⟩ := x.done
  have hk₁ := x.toInCall.keep
  obtain ⟨cells, NC, Y⟩ := Cl.news (h₀ := s.heap) (Nat.le_refl _) fun n c hm => ⟨x.cell n c (lookup_of_mem_nodup (cellsFrom_names scope.names 0 (s.heap.objs.size + 1) [] [] rfl ▸ hnd) hm), x.above n c hm⟩
  refine wpAny_mono (wpAny_noRaise (h (hideAll s.heap (T.map (·.1))) s.heap.objs.size h₁ tk cells hb (fun b o e => of_hideAll _ e) (fun b o hn e => hideAll_get _ e hn) ⟨x.toInCall.ns, fun b o e => hk₁ b o (of_hideAll _ e), Nat.le_of_eq (hideAll_size _ _)⟩ (fun q hq => ?_) Y Gb.X Gb.T Gb.deep (fun q hq => Heap.lt_size (hT q hq).1) rfl)) (fun _ _ x => x) fun _ _ x => x
  rcases List.mem_append.mp hq with hq | hq
  · refine ⟨(NC q hq).1, (NC q hq).2.1, ?_⟩
    cases e : (hideAll s.heap (T.map (·.1))).get? q.1 with
    | none => rfl
    | some o => have := of_hideAll _ e; rw [(NC q hq).2.2] at this; cases this
  · exact ⟨hk₁ _ _ (hT q hq).1, Nat.ne_of_lt (Heap.lt_size (hT q hq).1), hideAll_none _ (List.mem_map_of_mem hq)⟩

theorem assignCL {base : Heap} {L a : Addr} {cn : Str} {cs : Scope} {ccd : Value} {cl : List (Str × Addr)} {Q : Unit → Shared → Prop} {xi xc : Str} {pk pv pt : Pos} {x1 : Nat} {T c : Addr} {v0 v1 : Value} {m : Str → Option Value} {news : List (Addr × Obj)} {gn : Obj → List (Addr × Obj)} {o : Obj} {v₀ : Option Value} (hh : A.handled = none)
    (F : Fr base L s.heap m) (N : News base L s.heap news) (ht : s.heap.IsTuple T #[v0, v1]) (hc : cl.lookup xi = some c) (U : UpdF c o news gn) (hd : o.data = .cell v₀)
    (h : ∀ h' tk' o', Fr base L h' (fun y => if y = xc then some v1 else m y) → News base L h' (gn o') → o'.data = .cell (some v0) → Q () { s with heap := h', toks := tk' })
    (hk : cs.kind = .function) (hxi : (envX cn cs L a ccd cl).kindOf xi = some .cell) (hxc : (envX cn cs L a ccd cl).kindOf xc = some .local) :
    wpAny (model PR w) A (assign (.Tuple [.Name xi pk, .Name xc pv] x1 pt) (envX cn cs L a ccd cl) (.ref T)) Q E s := by
  refine wpAny_assign_Tuple hh ht rfl rfl fun h₃ hx₃ => ?_
  replace hx₃ : Heap.ExtBut s.heap.objs.size s.heap h₃ := hx₃
  have up₃ : ∀ b o, s.heap.get? b = some o → h₃.get? b = some o := fun b o x => hx₃ b o (Nat.ne_of_lt (Heap.lt_size x)) x
  have F₃ : Fr base L h₃ m := ⟨F.ns.keeps up₃, fun b o e => up₃ b o (F.keep b o e), F.above⟩
  have N₃ : News base L h₃ news := fun p hp => ⟨up₃ _ _ (N p hp).1, (N p hp).2⟩
  show wpAny _ A (do holding [v1] (assign (.Name xi pk) _ v0); do holding [] (assign (.Name xc pv) _ v1); pure ()) _ _ _
  refine wpAny_bind (wpAny_holding (wpAny_assign_Name (storeX_C F₃ N₃ hc U hd (fun h₄ o' F₄ N₄ d₄ => ?_) hk hxi)))
  refine wpAny_bind (wpAny_holding (wpAny_assign_Name (storeX_L F₄ N₄ (fun h₅ F₅ N₅ => wpAny_pure ?_) hk hxc)))
  exact h h₅ _ o' F₅ N₅ d₄
theorem ne_cell {h₀ h : Heap} {L a c : Addr} {o o' : Obj} {v : Option Value} {its : Array Value} {n : Nat} {news : List (Addr × Obj)} (N : News h₀ L h news) (h1 : (a, o) ∈ news) (h2 : (c, o') ∈ news) (hd : o.data = .seq its n) (hc : o'.data = .cell v) : @Ne Nat a c := fun e => by
  have x := (N _ h1).1
  have y := (N _ h2).1
  rw [show (a, o).1 = (c, o').1 from e, y] at x
  have e3 : o' = o := Option.some.inj x
  rw [← e3, hc] at hd
  cases hd

theorem wpAny_gen {M : Model} {α : Type} {t : Sem α} {Q : α → Shared → Prop} (P : (α → Shared → Prop) → Prop) (h1 : ∀ Q', P Q' → wpAny M A t Q' E s) (h2 : P Q) : wpAny M A t Q E s := h1 Q h2
theorem cturn_push {base h : Heap} {L C DD : Addr} {oC : Obj} {m : Str → Option Value} {wr : List Addr} {own nw : List (Addr × Obj)} {ys : List Value} {J : List Value → List (Addr × Obj) → Prop} {a b : Int} {t1 t2 : Tok} {tk : Nat} {sx : Shared} (F : Fr base L h m) (N : News base L h ((C, oC) :: (DD, LCg.lst ys) :: (nw ++ own)))
    (h1 : ∀ q ∈ nw, q.1 ∉ wr ∧ q.1 ≠ C ∧ q.1 ≠ DD) (hex : ∀ c ∈ wr, ∃ o, h.get? c = some o) (j : ∀ T t1 t2, J (ys ++ [.ref T]) ((T, tupO [.int a t1, .int b t2]) :: nw)) :
    CTurn base L m sx wr C DD oC own ys J (ys ++ [.ref h.objs.size]) { sx with heap := h.push (tupO [.int a t1, .int b t2]), toks := tk } := by
  have hC' := Heap.lt_size (N _ (.head _)).1
  have hD' := Heap.lt_size (N _ (.tail _ (.head _))).1
  refine CTurn.intro ((h.objs.size, tupO [.int a t1, .int b t2]) :: nw) (F.push _) (fun q hq => ?_) (fun q hq => ?_) (j _ _ _)
  · have hin' : q = (h.objs.size, tupO [.int a t1, .int b t2]) ∨ q ∈ (C, oC) :: (DD, LCg.lst ys) :: (nw ++ own) := by
      simp only [List.mem_cons, List.cons_append] at hq ⊢
      rcases hq with h | h | h | h
      · exact .inr (.inl h)
      · exact .inr (.inr (.inl h))
      · exact .inl h
      · exact .inr (.inr (.inr h))
    rcases hin' with rfl | hq
    · exact ⟨Heap.get?_push_size _ rfl, Nat.ne_of_gt F.ns.lt, next_is_new F⟩
    · exact ⟨Heap.get?_push_of_some _ (N q hq).1, (N q hq).2⟩
  · rcases List.mem_cons.mp hq with rfl | hq
    · refine ⟨fun hm => ?_, Nat.ne_of_gt hC', Nat.ne_of_gt hD'⟩
      obtain ⟨o9, e9⟩ := hex _ hm
      exact Nat.lt_irrefl _ (Heap.lt_size e9)
    · exact h1 q hq
theorem news_drop {h₀ h : Heap} {L : Addr} {a b : Addr × Obj} {r : List (Addr × Obj)} (N : News h₀ L h (a :: b :: r)) : News h₀ L h (a :: r) := fun q hq => N q (by
  rcases List.mem_cons.mp hq with rfl | hq
  · exact .head _
  · exact .tail _ (.tail _ hq))
theorem fr_gen {h₀ h : Heap} {L : Addr} {m : Str → Option Value} (F : Fr h₀ L h m) : ∃ m', m' = m ∧ Fr h₀ L h m' := ⟨m, rfl, F⟩
theorem obj_gen {o : Obj} {v : Data} (_d : o.data = v) : ∃ o', o' = o := ⟨o, rfl⟩
set_option maxHeartbeats 4000000 in
theorem law_ok {tb : List (Addr × Obj)} (G : Gx w g A 38) (st : g.StaysIn s.heap) (hT : Tabs tb) (hs0 : ∀ q ∈ tb, s.heap.get? q.1 = some q.2 ∧ g.get? q.1 = none) (hA : A.frames = some [])
    {l : Addr} {vs : List Value} {ns : List Int} (hl : s.heap.IsList l vs.toArray) (hi : IntsAre vs ns) (hlen : ns.length ≤ 63)
    (ret : ∀ h' tk tb', After tb tb' s.heap h' → R (.ok (.ret (.bool true))) { s with heap := h', toks := tk }) :
    codeAny (model PR w) A (.call (.ref 162) ⟨[.ref l], []⟩) R s := by
  refine' enterR (binds := [("script", .ref l)]) G st tb hs0 ?k6 ?k7 ?k9 ?kB ?kD ?_ ?c2 ?c3 ?c4
  walk_at "my_sideC"
  intro base L h₁ tk₁ cells b0 b1 b2 F N Y X' ⟨p, loose, mean, mg, mb, T'⟩ G' hlt hL
  have htbs : ∀ q ∈ tb, s.heap.get? q.1 = some q.2 := fun q hq => (hs0 q hq).1
  have hl' : base.IsList l vs.toArray := hl.at fun o e => b2 _ _ (list_off hT htbs hl) e
  k_cells Y
  (try simp only [List.cons_append, List.nil_append, List.append_nil] at N)
  k_steps
  refine cells_ok ((G'.keeps (fun b o e => e)).less (by (first | lia | omega))) (fun b o e => F.keep b o e) (hl'.at fun o e => F.keep _ _ e) hi hlen fun r us cs k h2 tk2 k2 g2 hus hcl hcb f2 => ?_
  have F2 := fr_keep0 F k2
  have N2 := news_add F (news_keep0 N k2) g2 f2
  clear F N
  obtain ⟨c0, c1, c2, c3, rfl⟩ : ∃ c0 c1 c2 c3, cs = [c0, c1, c2, c3] := by
    match cs, hcl with
    | [a, b, c, d], _ => exact ⟨a, b, c, d, rfl⟩
  have b0' := hcb c0 (by first | walk_at "mem" | simp)
  have b1' := hcb c1 (by first | walk_at "mem" | simp)
  have b2' := hcb c2 (by first | walk_at "mem" | simp)
  have b3' := hcb c3 (by first | walk_at "mem" | simp)
  clear hcb hcl g2
  cases hus with
  | cons _ t0 hus =>
  cases hus with
  | cons _ t1 hus =>
  cases hus with
  | cons _ t2 hus =>
  cases hus with
  | cons _ t3 hus =>
  cases hus
  try dsimp only
  k_steps
  rename Fr _ _ _ _ => F3
  rename News _ _ _ _ => N3
  have e0 : [c0, c1, c2, c3].getD (Int.toNat 0) 0 = c0 := rfl
  rw [e0] at N3
  obtain ⟨z, hz, hz3, hz5⟩ : ∃ z : Nat, (3 + c0.fmod 3 : Int) = z ∧ 3 ≤ z ∧ z ≤ 5 := by
    have h1 := Int.fmod_eq_emod_of_nonneg c0 (show (0 : Int) ≤ 3 by decide)
    have h2 := Int.emod_nonneg c0 (show (3 : Int) ≠ 0 by decide)
    have h3 := Int.emod_lt_of_pos c0 (show (0 : Int) < 3 by decide)
    exact ⟨(3 + c0.fmod 3).toNat, by (first | lia | omega), by (first | lia | omega), by (first | lia | omega)⟩
  obtain ⟨bb, hbb, hb27⟩ : ∃ b : Nat, ((c0.fdiv 3).fmod 28 : Int) = b ∧ b ≤ 27 := by
    have h1 := Int.fmod_eq_emod_of_nonneg (c0.fdiv 3) (show (0 : Int) ≤ 28 by decide)
    have h2 := Int.emod_nonneg (c0.fdiv 3) (show (28 : Int) ≠ 0 by decide)
    have h3 := Int.emod_lt_of_pos (c0.fdiv 3) (show (0 : Int) < 28 by decide)
    exact ⟨((c0.fdiv 3).fmod 28).toNat, by (first | lia | omega), by (first | lia | omega)⟩
  rw [hz, hbb] at N3
  have hr1 := ne_cell N3 (.tail _ (.head _)) (.tail _ (.tail _ (.head _))) rfl (by assumption)
  have hr2 := ne_cell N3 (.tail _ (.head _)) (.tail _ (.tail _ (.tail _ (.head _)))) rfl (by assumption)
  have hr3 := ne_cell N3 (.tail _ (.head _)) (.tail _ (.tail _ (.tail _ (.tail _ (.head _))))) rfl (by assumption)
  have hr4 := ne_cell N3 (.tail _ (.head _)) (.tail _ (.tail _ (.tail _ (.tail _ (.tail _ (.head _)))))) rfl (by assumption)
  have hT1 : ∀ q ∈ tb, q.1 ≠ L + 1 := fun q hq => Nat.ne_of_lt (Nat.lt_succ_of_lt (hlt q hq))
  have hT2 : ∀ q ∈ tb, q.1 ≠ L + 1 + 1 := fun q hq => Nat.ne_of_lt (Nat.lt_succ_of_lt (Nat.lt_succ_of_lt (hlt q hq)))
  have hT3 : ∀ q ∈ tb, q.1 ≠ L + 1 + 1 + 1 := fun q hq => Nat.ne_of_lt (Nat.lt_succ_of_lt (Nat.lt_succ_of_lt (Nat.lt_succ_of_lt (hlt q hq))))
  have hT4 : ∀ q ∈ tb, q.1 ≠ L + 1 + 1 + 1 + 1 := fun q hq => Nat.ne_of_lt (Nat.lt_succ_of_lt (Nat.lt_succ_of_lt (Nat.lt_succ_of_lt (Nat.lt_succ_of_lt (hlt q hq)))))
  refine' assignCL G'.hh F3 N3 ⟨_, N3.get (.head _), rfl, _, rfl⟩ ?hc ?U ?hd ?_ ?hk ?hxi ?hxc
  case hc => exact rfl
  case hk => exact rfl
  case hxi => exact rfl
  case hxc => exact rfl
  case U => k_updF
  case hd => assumption
  intro h4 tk4 o4 F4 N4 d4
  try dsimp only at F4 N4
  clear F3 N3
  k_steps
  rename Fr _ _ _ _ => F5
  rename News _ _ _ _ => N5
  rename _ = Data.cell (some (Value.int _ _)) => dS
  rename IsRange _ _ _ _ _ _ _ _ => hrg
  obtain ⟨sh, hsh, hsh2⟩ : ∃ sh : Nat, c1.fmod (1 * 2 ^ ((z : Nat) : Int).toNat) = sh ∧ sh < 2 ^ z := by
    have hp : (0 : Int) < 2 ^ z := Int.pow_pos (by decide)
    have e : (1 : Int) * 2 ^ ((z : Nat) : Int).toNat = 2 ^ z := by rw [Int.one_mul, Int.toNat_natCast]
    have h1 := Int.fmod_eq_emod_of_nonneg c1 (Int.le_of_lt hp)
    have h2 := Int.emod_nonneg c1 (Int.ne_of_gt hp)
    have h3 := Int.emod_lt_of_pos c1 hp
    have h4 : ((2 ^ z : Nat) : Int) = 2 ^ z := by push_cast; rfl
    rw [e, h1]
    exact ⟨(c1 % 2 ^ z).toNat, by (first | lia | omega), by (first | lia | omega)⟩
  have e1 : [c0, c1, c2, c3].getD (Int.toNat 1) 0 = c1 := rfl
  rw [e1, hsh] at dS
  try dsimp only
  refine words_ok (a := bb) (n := z) ((G'.keeps (fun b o e => e)).less (by (first | lia | omega))) (fun b o e => F5.keep b o e) (by rw [show (((bb + z : Nat) : Int)) = (bb : Int) + z by (first | lia | omega)]; exact hrg) (by (first | lia | omega)) fun D us' k' h6 tk6 k6 g6 f6 sW => ?_
  have F6 := fr_keep0 F5 k6
  have N6 := news_add F5 (news_keep0 N5 k6) g6 f6
  have hsh5 : sh < 32 := by
    have : (2 : Nat) ^ z ≤ 2 ^ 5 := Nat.pow_le_pow_right (by decide) hz5
    first | lia | omega
  have hx32 : (sh : Int) * 2 ^ bb < 2 ^ 32 := by
    have h1 : (2 : Int) ^ bb ≤ 2 ^ 27 := pow2_le hb27
    have h2 : (2 : Int) ^ 27 = 134217728 := by decide
    have h3 : (2 : Int) ^ 32 = 4294967296 := by decide
    have h4 : (sh : Int) * 2 ^ bb ≤ 31 * 2 ^ bb := Int.mul_le_mul_of_nonneg_right (by (first | lia | omega)) (Int.le_of_lt (Int.pow_pos (by decide)))
    first | lia | omega
  have hD1 := ne_cell N6 (.head _) (.tail _ (.tail _ (.tail _ (.head _)))) rfl (by assumption)
  have hD2 := ne_cell N6 (.head _) (.tail _ (.tail _ (.tail _ (.tail _ (.head _))))) rfl (by assumption)
  have hD3 := ne_cell N6 (.head _) (.tail _ (.tail _ (.tail _ (.tail _ (.tail _ (.head _)))))) rfl (by assumption)
  have hD4 := ne_cell N6 (.head _) (.tail _ (.tail _ (.tail _ (.tail _ (.tail _ (.tail _ (.head _))))))) rfl (by assumption)
  clear F5 N5
  try dsimp only
  k_steps
  rename Fr _ _ _ _ => F7
  rename News _ _ _ _ => N7
  try dsimp only
  refine pretty_ok ((G'.keeps (fun b o e => e)).less (by (first | lia | omega))) (fun b o e => F7.keep b o e) (by rw [Int.toNat_natCast]; exact Int.mul_nonneg (by (first | lia | omega)) (Int.le_of_lt (Int.pow_pos (by decide)))) (by rw [Int.toNat_natCast]; exact hx32) fun t8 h8 tk8 k8 => ?_
  have F8 := fr_keep0 F7 k8
  have N8 := news_keep0 N7 k8
  clear F7 N7
  try dsimp only
  k_steps
  unfold Stop
  refine KSpl.split1 F8 N8 (by decide) (fun D9 l9 h9 k9 e9 a9 F9 N9 lt9 => ?_) ?_
  rotate_left
  · have h1 := prettyFit2 ((sh : Int) * 2 ^ ((bb : Nat) : Int).toNat)
    have h2 := StrLaws.join_length_le (Str.ofString ", ") (prettyL ((sh : Int) * 2 ^ ((bb : Nat) : Int).toNat))
    rw [comma_len] at h2
    have h3 : Txt.join (Str.ofString ", ") (prettyL ((sh : Int) * 2 ^ ((bb : Nat) : Int).toNat)) = Str.join (Str.ofString ", ") (prettyL ((sh : Int) * 2 ^ ((bb : Nat) : Int).toNat)) := StrLaws.glued_eq_join _ _
    rw [h3, sizeLine_eq]
    first | lia | omega
  rw [split_pretty] at e9
  rw [e9, Int.toNat_natCast] at a9
  clear F8 N8 e9
  have hE1 := ne_cell N9 (.head _) (.tail _ (.tail _ (.tail _ (.tail _ (.head _))))) rfl (by assumption)
  have hE2 := ne_cell N9 (.head _) (.tail _ (.tail _ (.tail _ (.tail _ (.tail _ (.head _)))))) rfl (by assumption)
  have hE3 := ne_cell N9 (.head _) (.tail _ (.tail _ (.tail _ (.tail _ (.tail _ (.tail _ (.head _))))))) rfl (by assumption)
  have hE4 := ne_cell N9 (.head _) (.tail _ (.tail _ (.tail _ (.tail _ (.tail _ (.tail _ (.tail _ (.head _)))))))) rfl (by assumption)
  generalize strValues l9 = ws at N9 a9
  try dsimp only
  k_steps
  rename Fr _ _ _ _ => F10
  rename News _ _ _ _ => N10
  rename _ = Data.cell (some (Value.ref D9)) => dT
  rename _ = Data.cell (some (Value.ref D)) => dN
  obtain ⟨oT, hoT⟩ := obj_gen dT
  obtain ⟨oN, hoN⟩ := obj_gen dN
  obtain ⟨oS, hoS⟩ := obj_gen dS
  rw [← hoT] at dT N10
  rw [← hoN] at dN N10
  rw [← hoS] at dS N10
  obtain ⟨mm, hmm, F12⟩ := fr_gen F10
  obtain ⟨tB, mB⟩ : ∃ t, mm "base" = some (.int bb t) := ⟨_, by rw [hmm]; rfl⟩
  have mC : mm "cells" = some (.ref r) := by rw [hmm]; rfl
  clear hmm F10
  replace N10 : News base L _ ((D9, lstO ws 0) :: (D, lstO us' k') :: (r, lstO [.int c0 t0, .int c1 t1, .int c2 t2, .int c3 t3] k) :: (L + 1 + 1 + 1 + 1, oT) :: (L + 1 + 1 + 1, oN) :: (L + 1 + 1, oS) :: (L + 1, o4) :: tb) := fun q hq => N10 q (by
    simp only [List.mem_cons] at hq ⊢
    rcases hq with h | h | h
    · exact .inl h
    · exact .inr (.inl h)
    · exact .inr (.inr (.inr h)))
  unfold Stop
  refine wpAny_gen (fun Q' => ∀ X xs kk H tk, Fr base L H mm → News base L H ((X, lstO xs kk) :: (D9, lstO ws 0) :: (D, lstO us' k') :: (r, lstO [.int c0 t0, .int c1 t1, .int c2 t2, .int c3 t3] k) :: (L + 1 + 1 + 1 + 1, oT) :: (L + 1 + 1 + 1, oN) :: (L + 1 + 1, oS) :: (L + 1, o4) :: tb) → StrsAre xs (prettyL ((sh : Int) * 2 ^ bb)) →
    Q' (.ref X) { s with heap := H, toks := tk }) ?gen ?rest
  case gen =>
    intro Q' hQ'
    have hstop : Stop True := trivial
    k_steps
    rename IsRange _ _ _ _ _ _ _ _ => hrg2
    rename Fr _ _ _ _ => F10
    rename News _ _ _ _ => N10
    refine comp_range (n := z) (J := fun i ys nw => nw = _ ∧ StrsAre ys ((bitsI i sh).map fun j => word (bb + j))) G'.hh hrg2 (small_one (by (first | lia | omega)) (by (first | lia | omega)) (by (first | lia | omega)) (by (first | lia | omega))) (by rw [rangeSize_one]; split <;> (first | lia | omega)) (by rw [sizeLine_eq]; (first | lia | omega))
      rfl (by decide) rfl F10 N10 ⟨rfl, .nil⟩ (fun i ys nw h => by rw [strs_len h.2, List.length_map]; exact bitsI_len _ _) ?step1 (fun H go => ⟨base, _, _, _, go, fun D11 h11 tk11 ys11 news' F11 N11 off j => ?fin1⟩)
    case step1 =>
      rintro i ys m₂ news₁ h tk C DD oC own E' hin ⟨v, ⟨tv, rfl⟩, hv⟩ hC ⟨rfl, hs⟩ hCD h1 h2 hex F11 N11
      rw [show (0 : Int) + (i : Int) * 1 = ((i : Nat) : Int) by (first | lia | omega)] at hv
      clear F10 N10
      replace F11 : Fr base L h _ := F11
      replace N11 : News base L h _ := N11
      have hp : (0 : Int) < 2 ^ i := Int.pow_pos (by decide)
      have hbe : Builtin.bitAnd ((sh : Int).fdiv (2 ^ ((i : Nat) : Int).toNat)) 1 = (sh : Int) / 2 ^ i % 2 := by
        rw [Int.toNat_natCast, Int.fdiv_eq_ediv_of_nonneg _ (Int.le_of_lt hp)]
        have := kbt_bit ((sh : Int) / 2 ^ i) 0
        rw [Int.pow_zero] at this
        rw [this, Int.ediv_one, Int.mul_one]
      refine wpAny_tests_one ?_
      k_steps
      · rename Builtin.bitAnd _ _ ≠ 0 => hbit
        rw [hbe] at hbit
        obtain ⟨tw, hw⟩ := strs_get (i := i) (y := word (bb + i)) sW (by rw [List.getElem?_map, List.getElem?_range (by (first | lia | omega))]; rfl)
        unfold Stop
        refine item_list ⟨_, (N11 (D, lstO us' k') (by first | walk_at "mem" | simp)).1, rfl, _, rfl⟩ (by (first | lia | omega)) (by (first | lia | omega)) (by rw [Int.toNat_natCast, List.getElem?_toArray]; exact hw) ?_ rfl (fun _ => rfl)
        refine CTurn.intro _ F11 N11 h1 ⟨rfl, ?_⟩
        rw [bitsI_succ, if_pos (by (first | lia | omega)), List.map_append]
        exact strs_app hs (.cons _ _ .nil)
      · rename Builtin.bitAnd _ _ = 0 => hbit
        rw [hbe] at hbit
        refine CTurn.intro _ F11 N11 h1 ⟨rfl, ?_⟩
        rw [bitsI_succ, if_neg (by (first | lia | omega)), List.append_nil]
        exact hs
    case fin1 =>
      obtain ⟨rfl, hs11⟩ := j
      clear F10 N10
      k_steps
      unfold Stop
      have hbl : ys11.length ≤ 5 := by rw [strs_len hs11, List.length_map]; exact Nat.le_trans (bitsI_len _ _) hz5
      refine wpAny_truthy_list (items := ys11.toArray) (News.isList N11 (.head _)) (by rw [List.size_toArray]; (first | lia | omega)) ?_
      by_cases hb0 : bitsI z (sh : Int) = []
      · have he : ys11 = [] := by
          rw [hb0] at hs11
          cases hs11
          rfl
        subst he
        k_steps
        rename Fr _ _ _ _ => F13
        rename News _ _ _ _ => N13
        exact hQ' _ _ _ _ _ F13 (news_drop N13) (by rw [told_none hz5 hsh2 hb27 hb0]; exact .cons _ _ .nil)
      · have he : ys11.toArray.isEmpty = false := by
          rw [List.isEmpty_toArray]
          cases ys11 with
          | nil =>
            have := strs_len hs11
            rw [List.length_map, List.length_nil] at this
            exact absurd (List.eq_nil_of_length_eq_zero this.symm) hb0
          | cons => rfl
        rw [he]
        k_steps
        exact hQ' _ _ _ _ _ F11 N11 (told_some hz5 hsh2 hb27 hb0 ▸ hs11)
  case rest =>
    intro X xs kk H tkX FX NX hxs
    clear N10 F12
    k_steps
    unfold Stop
    refine ne_strs (News.isList NX (.tail _ (.head _))) (News.isList NX (.head _)) a9 hxs (pretty_strOk _) (by have := G'.units; (first | lia | omega)) ?_
    replace NX : News base L H ((D9, lstO ws 0) :: (D, lstO us' k') :: (r, lstO [.int c0 t0, .int c1 t1, .int c2 t2, .int c3 t3] k) :: (L + 1 + 1 + 1 + 1, oT) :: (L + 1 + 1 + 1, oN) :: (L + 1 + 1, oS) :: (L + 1, o4) :: tb) := fun q hq => NX q (.tail _ hq)
    k_steps
    rename Fr _ _ _ _ => F13
    rename News _ _ _ _ => N13
    have hul : us'.length = z := by rw [strs_len sW, List.length_map, List.length_range]
    refine comp_list (its := us'.toArray) (J := fun i ys nw => nw = _ ∧ IntsAre ys ((turnedI z sh).take i)) G'.hh (News.isList N13 (.tail _ (.head _))) (Ne.symm (N13 _ (.tail _ (.head _))).2.1) (by rw [sizeLine_eq, List.size_toArray]; (first | lia | omega)) rfl (by decide) rfl F13 N13 ⟨rfl, .nil⟩
      (fun i ys nw h => by rw [h.2.length, List.length_take]; exact Nat.min_le_left _ _) ?step2 (fun H go => ⟨base, _, _, go, fun D14 h14 tk14 ys14 news' F14 N14 off j => ?fin2⟩)
    case step2 =>
      rintro i ys m₂ news₁ h tk C DD oC own E' hin ⟨v, hv, hv2⟩ hC ⟨rfl, hs⟩ hCD h1 h2 hex F14 N14
      rw [List.size_toArray, hul] at hin
      obtain ⟨y, ty, rfl, hy⟩ := strs_at sW (by rw [← List.getElem?_toArray]; exact hv)
      rw [List.getElem?_map, List.getElem?_range hin, Option.map_some] at hy
      cases hy
      clear F13 N13
      replace F14 : Fr base L h _ := F14
      replace N14 : News base L h _ := N14
      refine wpAny_tests_nil ?_
      simp only [if_true]
      k_steps
      unfold Stop
      refine in_list_strs ⟨_, (N14 (D9, lstO ws 0) (by first | walk_at "mem" | simp)).1, rfl, _, rfl⟩ a9 ?_
      rw [told_any hz5 hsh2 hb27 hin]
      have hp : (0 : Int) < 2 ^ i := Int.pow_pos (by decide)
      have hx01 : (sh : Int) / 2 ^ i % 2 = 0 ∨ (sh : Int) / 2 ^ i % 2 = 1 := by (first | lia | omega)
      have htg := turned_get (sh := sh) hin
      rcases hx01 with hx | hx
      · rw [hx] at htg ⊢
        k_steps
        exact CTurn.intro _ F14 N14 h1 ⟨rfl, ints_snoc hs htg rfl⟩
      · rw [hx] at htg ⊢
        k_steps
        exact CTurn.intro _ F14 N14 h1 ⟨rfl, ints_snoc hs htg rfl⟩
    case fin2 =>
      obtain ⟨rfl, hs14⟩ := j
      rw [List.size_toArray, hul, List.take_of_length_le (by rw [turned_len]; exact Nat.le_refl _)] at hs14
      clear F13 N13
      k_steps
      rename Fr _ _ _ _ => F15
      rename News _ _ _ _ => N15
      rename Addr => D15
      replace N15 : News base L _ ((D15, lstO [.int c2 t2, .int c3 t3] 0) :: (D14, LCg.lst ys14) :: (D9, lstO ws 0) :: (D, lstO us' k') :: (r, lstO [.int c0 t0, .int c1 t1, .int c2 t2, .int c3 t3] k) :: (L + 1 + 1 + 1 + 1, oT) :: (L + 1 + 1 + 1, oN) :: (L + 1 + 1, oS) :: (L + 1, o4) :: tb) := N15
      refine comp_list (its := #[.int c2 t2, .int c3 t3]) (J := fun i ys nw => (i = 0 ∧ ys = [] ∧ nw = (D15, lstO [.int c2 t2, .int c3 t3] 0) :: (D14, LCg.lst ys14) :: (D9, lstO ws 0) :: (D, lstO us' k') :: (r, lstO [.int c0 t0, .int c1 t1, .int c2 t2, .int c3 t3] k) :: (L + 1 + 1 + 1 + 1, oT) :: (L + 1 + 1 + 1, oN) :: (L + 1 + 1, oS) :: (L + 1, o4) :: tb) ∨
          (i = 1 ∧ ∃ (T0 : Addr) (a0 b0 : Nat) (u0 u1 : Tok), ys = [.ref T0] ∧ nw = (T0, tupO [.int a0 u0, .int b0 u1]) :: (D15, lstO [.int c2 t2, .int c3 t3] 0) :: (D14, LCg.lst ys14) :: (D9, lstO ws 0) :: (D, lstO us' k') :: (r, lstO [.int c0 t0, .int c1 t1, .int c2 t2, .int c3 t3] k) :: (L + 1 + 1 + 1 + 1, oT) :: (L + 1 + 1 + 1, oN) :: (L + 1 + 1, oS) :: (L + 1, o4) :: tb ∧ 1 ≤ a0 ∧ a0 ≤ 15 ∧ b0 < 2 ^ z) ∨
          (i = 2 ∧ ∃ (T0 T1 : Addr) (a0 b0 a1 b1 : Nat) (u0 u1 u2 u3 : Tok), ys = [.ref T0, .ref T1] ∧ nw = (T1, tupO [.int a1 u2, .int b1 u3]) :: (T0, tupO [.int a0 u0, .int b0 u1]) :: (D15, lstO [.int c2 t2, .int c3 t3] 0) :: (D14, LCg.lst ys14) :: (D9, lstO ws 0) :: (D, lstO us' k') :: (r, lstO [.int c0 t0, .int c1 t1, .int c2 t2, .int c3 t3] k) :: (L + 1 + 1 + 1 + 1, oT) :: (L + 1 + 1 + 1, oN) :: (L + 1 + 1, oS) :: (L + 1, o4) :: tb ∧ (1 ≤ a0 ∧ a0 ≤ 15 ∧ b0 < 2 ^ z) ∧ 1 ≤ a1 ∧ a1 ≤ 15 ∧ b1 < 2 ^ z))
        G'.hh (News.isList N15 (.head _)) (Ne.symm (N15 _ (.head _)).2.1) (by rw [sizeLine_eq]; exact (show (2 : Nat) ≤ 16777216 by decide)) rfl (by decide) rfl F15 N15 (.inl ⟨rfl, rfl, rfl⟩)
        (fun i ys nw h => by
          rcases h with ⟨rfl, rfl, _⟩ | ⟨rfl, _, _, _, _, _, rfl, _⟩ | ⟨rfl, _, _, _, _, _, _, _, _, _, _, rfl, _⟩
          · exact Nat.le_refl _
          · exact Nat.le_refl _
          · exact Nat.le_refl _) ?step3 (fun H go => ⟨base, _, _, go, fun D17 h17 tk17 ys17 news' F17 N17 off j => ?fin3⟩)
      case step3 =>
        rintro i ys m₂ news₁ h tk C DD oC own E' hin ⟨v, hv, hv2⟩ hC hJ hCD h1 h2 hex F16 N16
        clear F15 N15
        rcases hJ with ⟨rfl, rfl, rfl⟩ | ⟨rfl, T0, a0, b0, u0, u1, rfl, rfl, hab0⟩ | ⟨rfl, _⟩
        rotate_right
        · exact absurd hin (show ¬ (2 : Nat) < 2 by decide)
        · skip
          have hnt : HereNT := trivial
          obtain ⟨a1, b1, ea1, eb1, hab⟩ := wish_of (c := c2) z
          have hv' : v = .int c2 t2 := by simpa using hv.symm
          subst hv'
          refine wpAny_tests_nil ?_
          simp only [if_true]
          replace F16 : Fr base L h _ := F16
          replace N16 : News base L h _ := N16
          k_steps
          unfold Stop
          rw [ea1, eb1]
          refine wpAny_newTuple ?_
          exact cturn_push F16 N16 h1 hex fun T t1 t2 => .inr (.inl ⟨by trivial, _, _, _, _, _, rfl, rfl, hab⟩)
        · skip
          have hnt : HereNT := trivial
          obtain ⟨a1, b1, ea1, eb1, hab⟩ := wish_of (c := c3) z
          have hv' : v = .int c3 t3 := by simpa using hv.symm
          subst hv'
          refine wpAny_tests_nil ?_
          simp only [if_true]
          replace F16 : Fr base L h _ := F16
          replace N16 : News base L h _ := N16
          k_steps
          unfold Stop
          rw [ea1, eb1]
          refine wpAny_newTuple ?_
          exact cturn_push F16 N16 h1 hex fun T t1 t2 => .inr (.inr ⟨by trivial, _, _, _, _, _, _, _, _, _, _, rfl, rfl, hab0, hab⟩)
      case fin3 =>
        clear F15 N15
        rcases j with ⟨h0, _⟩ | ⟨h0, _⟩ | ⟨_, T0, T1, a0, b0, a1, b1, u0, u1, u2, u3, rfl, rfl, hab0, hab1⟩
        · exact absurd h0 (show ¬ (2 : Nat) = 0 by decide)
        · exact absurd h0 (show ¬ (2 : Nat) = 1 by decide)
        k_steps
        rename Fr _ _ _ _ => F18
        rename News _ _ _ _ => N18
        obtain ⟨lR, hlR⟩ := news_head N18
        subst hlR
        rename (D17 : Nat) < _ ∧ _ => hlt17
        obtain ⟨hl17, hlT1, hlT0, _, hl14, _⟩ := hlt17
        replace N18 : News base L _ ((lR, lstO [] 0) :: (D17, lstO [.ref T0, .ref T1] 2) :: (T1, tupO [.int a1 u2, .int b1 u3]) :: (T0, tupO [.int a0 u0, .int b0 u1]) :: (D14, lstO ys14 ys14.length) :: tb) := fun q hq => N18 q (by
          simp only [List.mem_cons] at hq ⊢
          rcases hq with h | h | h | h | h | h
          · exact .inl h
          · exact .inr (.inl h)
          · exact .inr (.inr (.inl h))
          · exact .inr (.inr (.inr (.inl h)))
          · exact .inr (.inr (.inr (.inr (.inr (.inl h)))))
          · exact .inr (.inr (.inr (.inr (.inr (.inr (.inr (.inr (.inr (.inr (.inr (.inr (.inr h)))))))))))))
        have two : ∀ j, j < 2 → j = 0 ∨ j = 1 := fun j hj => by (first | lia | omega)
        refine comp_pairs (its := #[.ref T0, .ref T1]) (Ts := fun j => if j = 0 then T0 else T1) (vals := fun j => if j = 0 then #[.int a0 u0, .int b0 u1] else #[.int a1 u2, .int b1 u3])
          (J := fun i ys nw => nw = _ ∧ IntsAre ys (([(a0 : Int), (a1 : Int)]).take i)) G'.hh (News.isList N18 (.tail _ (.head _))) (Ne.symm (N18 _ (.tail _ (.head _))).2.1) (by rw [sizeLine_eq]; exact (show (2 : Nat) ≤ 16777216 by decide))
          (fun j hj => by rcases two j hj with rfl | rfl <;> rfl) (fun j hj => by
            rcases two j hj with rfl | rfl
            · exact ⟨_, (N18 _ (.tail _ (.tail _ (.tail _ (.head _))))).1, rfl, _, rfl⟩
            · exact ⟨_, (N18 _ (.tail _ (.tail _ (.head _)))).1, rfl, _, rfl⟩) (fun j hj => by
            rcases two j hj with rfl | rfl
            · exact Ne.symm (N18 _ (.tail _ (.tail _ (.tail _ (.head _))))).2.1
            · exact Ne.symm (N18 _ (.tail _ (.tail _ (.head _)))).2.1) (fun j hj => by rcases two j hj with rfl | rfl <;> exact ⟨_, _, rfl⟩)
          rfl rfl (by decide) (by decide) rfl F18 N18 ⟨rfl, .nil⟩ (fun i ys nw h => by rw [h.2.length, List.length_take]; exact Nat.min_le_left _ _) ?step4 (fun H go => ⟨base, _, _, _, go, fun D19 h19 tk19 ys19 news' F19 N19 off j => ?fin4⟩)
        case step4 =>
          rintro i ys m₂ news₁ h tk C DD oC own E' hin ⟨v0, v1, hvs, hv0, hv1⟩ hC ⟨rfl, hs⟩ hCD h1 h2 hex F19 N19
          clear F18 N18
          refine wpAny_tests_nil ?_
          simp only [if_true]
          replace F19 : Fr base L h _ := F19
          replace N19 : News base L h _ := N19
          rcases two i hin with rfl | rfl
          · cases hvs
            k_steps
            exact CTurn.intro _ F19 N19 h1 ⟨rfl, ints_snoc hs rfl rfl⟩
          · cases hvs
            k_steps
            exact CTurn.intro _ F19 N19 h1 ⟨rfl, ints_snoc hs rfl rfl⟩
        case fin4 =>
          obtain ⟨rfl, hs19⟩ := j
          clear F18 N18
          replace hs19 : IntsAre ys19 [(a0 : Int), (a1 : Int)] := hs19
          k_steps

          refine max_list_N G'.hh F19 N19 (News.isList N19 (.head _)) hs19 (by first | walk_at "mem" | simp) fun h20 M t20 tk20 F20 N20 hM1 hM2 => ?_
          obtain ⟨mx, rfl, hmx⟩ : ∃ mx : Nat, M = mx ∧ mx ≤ 15 := by
            simp only [List.mem_cons, List.not_mem_nil, or_false] at hM1
            rcases hM1 with rfl | rfl
            · exact ⟨a0, rfl, hab0.2.1⟩
            · exact ⟨a1, rfl, hab1.2.1⟩
          clear F19 N19
          k_steps
          rename Fr _ _ _ _ => F21
          rename News _ _ _ _ => N21
          rename IsRange _ _ _ _ _ _ _ _ => hrg3
          have hrows := law_rows hz3 hz5 hsh2
          have htln := turned_len z sh
          have htb := turned_bits z sh
          replace N21 : News base L _ ((lR, lstO [] 0) :: (D17, lstO [.ref T0, .ref T1] 2) :: (T1, tupO [.int a1 u2, .int b1 u3]) :: (T0, tupO [.int a0 u0, .int b0 u1]) :: (D14, lstO ys14 ys14.length) :: ([] ++ tb)) := fun q hq => N21 q (.tail _ hq)
          refine for_rangeL (n := mx) (Q := _) G'.hh hrg3 (small_one (by (first | lia | omega)) (by (first | lia | omega)) (by (first | lia | omega)) (by (first | lia | omega))) (by rw [rangeSize_one]; split <;> (first | lia | omega)) rfl rfl F21 N21
            (fun i m₁ news₁ => ∃ rs kR tl tb1, m₁ "row" = some (.ref lR) ∧ m₁ "wishes" = some (.ref D17) ∧ m₁ "turned" = some (.ref D14) ∧ m₁ "base" = some (.int bb tB) ∧ news₁ = (lR, lstO rs kR) :: (D17, lstO [.ref T0, .ref T1] 2) :: (T1, tupO [.int a1 u2, .int b1 u3]) :: (T0, tupO [.int a0 u0, .int b0 u1]) :: (D14, lstO ys14 ys14.length) :: (tl ++ tb1) ∧
              Tups tl ∧ RowTl base tl rs (rowI (turnedI z sh) i) ∧ Tabs tb1 ∧ ∀ q ∈ tb, q.1 ∉ [30, 37, 119, 152] → q ∈ tb1)
            ⟨[], 0, [], tb, rfl, rfl, rfl, mB, rfl, (fun _ h => nomatch h), (fun _ _ _ => .nil), hT, fun q hq _ => hq⟩ ?stepO ?doneO
          case doneO =>
            rintro m' news' h' tk' ⟨rs, kR, tl, tb1, mr, mw, mt, mb, rfl, htups, hrow, hT1, hc1⟩ F22 N22
            replace F22 : Fr base L h' _ := F22
            replace N22 : News base L h' _ := N22
            clear F21 N21
            k_steps
            exact ret _ _ _ (after_done hT b2 htbs F22 N22 hT1 (fun q hq => by first | walk_at "mem" | simp [hq]) hc1)
          case stepO =>
            rintro I i m₀ m₁ news₁ h tk oI hin ⟨tn, rfl⟩ ⟨rs, kR, tl, tb1, mr, mw, mt, mb, rfl, htups, hrow, hT1, hc1⟩ hnw ⟨hnI, hcI⟩ F22 N22
            clear F21 N21
            replace F22 : Fr base L h _ := F22
            replace N22 : News base L h _ := N22
            rw [show (0 : Int) + (i : Int) * 1 = ((i : Nat) : Int) by (first | lia | omega)] at F22
            have hR : RowAt h rs (rowI (turnedI z sh) i) := hrow h (fun b o e => F22.keep b o e) (fun q hq => (N22 q (by first | walk_at "mem" | simp [hq])).1)
            k_steps
            have hlr : D14 ≠ lR := Nat.ne_of_lt hl14
            have N23 : News base L h ((lR, lstO rs kR) :: ((((I, oI) :: [(D17, lstO [.ref T0, .ref T1] 2), (T1, tupO [.int a1 u2, .int b1 u3]), (T0, tupO [.int a0 u0, .int b0 u1]), (D14, lstO ys14 ys14.length)]) ++ tl) ++ tb1)) := fun q hq => N22 q (by
              simp only [List.mem_cons, List.mem_append, List.not_mem_nil, or_false] at hq ⊢
              rcases hq with h | (((h | h | h | h | h) | h) | h) <;> first | ((try subst h); walk_at "mem") | simp [h])
            try dsimp only
            refine put_ok (rs := rs) (kR := kR) ((G'.keeps (fun b o e => e)).less (by (first | lia | omega))) (fun b o e => F22.keep b o e) hT1 (fun q hq => ?_) hR (by rw [rowI_len]; (first | lia | omega)) ((hrows.lex i (by (first | lia | omega))).imp fun {a b} h => by
                rcases h with h | h
                · first | lia | omega
                · first | lia | omega) ⟨_, (N22 (D14, lstO ys14 ys14.length) (by first | walk_at "mem" | simp)).1, rfl, _, rfl⟩ hlr hs14 (by rw [htln]; (first | lia | omega)) (by rw [htln]; (first | lia | omega)) htb (by (first | lia | omega)) fun rs' k3 h3 tk3 tb3 aft3 hR3 v3 => ?_
            · rcases List.mem_cons.mp hq with rfl | hq
              · exact ⟨(N22 _ (.tail _ (.head _))).1, (N22 _ (.tail _ (.head _))).2.2⟩
              · exact ⟨(N22 q (by first | walk_at "mem" | simp [hq])).1, (N22 q (by first | walk_at "mem" | simp [hq])).2.2⟩
            have hlr2 : ∀ q ∈ ((I, oI) :: [(D17, lstO [.ref T0, .ref T1] 2), (T1, tupO [.int a1 u2, .int b1 u3]), (T0, tupO [.int a0 u0, .int b0 u1]), (D14, lstO ys14 ys14.length)]) ++ tl, q.1 ≠ lR := fun q hq => by
              rcases List.mem_append.mp hq with hq | hq
              · simp only [List.mem_cons, List.not_mem_nil, or_false] at hq
                rcases hq with rfl | rfl | rfl | rfl | rfl
                · exact fun e => hnw (lR, lstO rs kR) (.head _) (by rw [show I = lR from e]; exact .head _)
                · exact Nat.ne_of_lt hl17
                · exact Nat.ne_of_lt hlT1
                · exact Nat.ne_of_lt hlT0
                · exact hlr
              · intro e
                obtain ⟨us, eu⟩ := htups q hq
                have x := (N22 q (by first | walk_at "mem" | simp [hq])).1
                rw [e, (N22 (lR, lstO rs kR) (.tail _ (.head _))).1, eu] at x
                have x := congrArg Obj.cls (Option.some.inj x)
                injection x with x
                exact absurd x (by decide)
            have F23 := after2_fr F22 N23 hT1 aft3
            have N24 := after2_news F22 N23 hT1 aft3 (NTs.app ⟨hnI, NT.cls (fun h => by cases h), NT.cls (fun h => by cases h), NT.cls (fun h => by cases h), NT.cls (fun h => by cases h), True.intro⟩ htups.nts) hlr2
            obtain ⟨tl3, Ntl, htups3, hrow3⟩ := row_ledger F23 hR3
            have hI3 : ∀ q ∈ tb3, q.1 ≠ I := fun q hq e => by
              rcases aft3.old q hq with ⟨q0, h0, e0⟩ | e0
              · exact hnw q0 (by first | walk_at "mem" | simp [h0]) (by rw [e0, e]; exact .head _)
              · rw [e, (N22 (I, oI) (.head _)).1] at e0; cases e0
            have hIt : ∀ q ∈ tl3, q.1 ≠ I := fun q hq e => by
              obtain ⟨us, eu⟩ := htups3 q hq
              have x := (Ntl q hq).1
              rw [e, (N24 (I, oI) (by first | walk_at "mem" | simp)).1, eu] at x
              exact hcI (congrArg Obj.cls (Option.some.inj x))
            have N25 : News base L h3 ((I, oI) :: (lR, lstO rs' k3) :: (D17, lstO [.ref T0, .ref T1] 2) :: (T1, tupO [.int a1 u2, .int b1 u3]) :: (T0, tupO [.int a0 u0, .int b0 u1]) :: (D14, lstO ys14 ys14.length) :: (tl3 ++ tb3)) := fun q hq => by
              simp only [List.mem_cons, List.mem_append] at hq
              rcases hq with h | h | h | h | h | h | h | h
              · exact N24 q (by first | walk_at "mem" | simp [h])
              · exact N24 q (by first | walk_at "mem" | simp [h])
              · exact N24 q (by first | walk_at "mem" | simp [h])
              · exact N24 q (by first | walk_at "mem" | simp [h])
              · exact N24 q (by first | walk_at "mem" | simp [h])
              · exact N24 q (by first | walk_at "mem" | simp [h])
              · exact Ntl q h
              · exact N24 q (by first | walk_at "mem" | simp [h])
            have hc3 : ∀ q ∈ tb, q.1 ∉ [30, 37, 119, 152] → q ∈ tb3 := fun q hq hn => aft3.cods q (hc1 q hq hn) hn
            have hT3 := aft3.tabs
            clear F22 N22 N23 N24 Ntl hR3 hlr2 aft3 hR
            try dsimp only
            k_steps
            refine for_pairsL (its := #[.ref T0, .ref T1]) (Ts := fun j => if j = 0 then T0 else T1) (vals := fun j => if j = 0 then #[.int a0 u0, .int b0 u1] else #[.int a1 u2, .int b1 u3]) (Q := _) G'.hh ⟨_, (N25 _ (.tail _ (.tail _ (.head _)))).1, rfl, _, rfl⟩ (Ne.symm (N25 _ (.tail _ (.tail _ (.head _)))).2.1)
              (fun j hj => by rcases two j hj with rfl | rfl <;> rfl) (fun j hj => by
                rcases two j hj with rfl | rfl
                · exact ⟨_, (N25 _ (.tail _ (.tail _ (.tail _ (.tail _ (.head _)))))).1, rfl, _, rfl⟩
                · exact ⟨_, (N25 _ (.tail _ (.tail _ (.tail _ (.head _))))).1, rfl, _, rfl⟩) (fun j hj => by
                rcases two j hj with rfl | rfl
                · exact Ne.symm (N25 _ (.tail _ (.tail _ (.tail _ (.tail _ (.head _)))))).2.1
                · exact Ne.symm (N25 _ (.tail _ (.tail _ (.tail _ (.head _))))).2.1) (fun j hj => by rcases two j hj with rfl | rfl <;> exact ⟨_, _, rfl⟩)
              rfl rfl rfl F23 N25
              (fun j m₂ news₂ => ∃ tb4, m₂ "row" = some (.ref lR) ∧ m₂ "wishes" = some (.ref D17) ∧ m₂ "turned" = some (.ref D14) ∧ m₂ "base" = some (.int bb tB) ∧ m₂ "number" = some (.int i tn) ∧ news₂ = (I, oI) :: (lR, lstO rs' k3) :: (D17, lstO [.ref T0, .ref T1] 2) :: (T1, tupO [.int a1 u2, .int b1 u3]) :: (T0, tupO [.int a0 u0, .int b0 u1]) :: (D14, lstO ys14 ys14.length) :: (tl3 ++ tb4) ∧ Tabs tb4 ∧ (∀ q ∈ tb4, q.1 ≠ I) ∧ ∀ q ∈ tb, q.1 ∉ [30, 37, 119, 152] → q ∈ tb4)
              ⟨tb3, mr, mw, mt, mb, rfl, rfl, hT3, hI3, hc3⟩ ?stepI ?doneI
            case doneI =>
              rintro m' news' h' tk' ⟨tb4, mr4, mw4, mt4, mb4, mn4, rfl, hT4, hI4, hc4⟩ F26 N26
              replace F26 : Fr base L h' _ := F26
              replace N26 : News base L h' _ := N26
              clear F23 N25
              k_steps
              refine TurnL.next ((lR, lstO rs' k3) :: (D17, lstO [.ref T0, .ref T1] 2) :: (T1, tupO [.int a1 u2, .int b1 u3]) :: (T0, tupO [.int a0 u0, .int b0 u1]) :: (D14, lstO ys14 ys14.length) :: (tl3 ++ tb4)) F26 N26 ⟨rs', k3, tl3, tb4, mr4, mw4, mt4, mb4, rfl, htups3, hrow3, hT4, hc4⟩ (fun q hq hm => ?_) (fun b' hb' hw' => absurd hb' hw')
              have hm := List.mem_singleton.mp hm
              simp only [List.mem_cons, List.mem_append] at hq
              rcases hq with h | h | h | h | h | h | h
              · exact hnw (lR, lstO rs kR) (.head _) (by rw [← hm, h]; exact .head _)
              · exact hnw (D17, _) (.tail _ (.head _)) (by rw [← hm, h]; exact .head _)
              · exact hnw (T1, _) (.tail _ (.tail _ (.head _))) (by rw [← hm, h]; exact .head _)
              · exact hnw (T0, _) (.tail _ (.tail _ (.tail _ (.head _)))) (by rw [← hm, h]; exact .head _)
              · exact hnw (D14, _) (.tail _ (.tail _ (.tail _ (.tail _ (.head _))))) (by rw [← hm, h]; exact .head _)
              · exact hIt q h hm
              · exact hI4 q h hm
            case stepI =>
              rintro I2 j m₂ m₃ news₂ h4 tk4 oI2 hj ⟨v0, v1, hv, rfl⟩ ⟨tb4, mr4, mw4, mt4, mb4, mn4, rfl, hT4, hI4, hc4⟩ hnw2 ⟨hnI2, _⟩ F26 N26
              clear F23 N25
              replace F26 : Fr base L h4 _ := F26
              replace N26 : News base L h4 _ := N26
              obtain ⟨a, b, ua, ub, rfl, rfl, ha1, ha15, hb2⟩ : ∃ (a b : Nat) (ua ub : Tok), v0 = .int a ua ∧ v1 = .int b ub ∧ 1 ≤ a ∧ a ≤ 15 ∧ b < 2 ^ z := by
                rcases two j hj with rfl | rfl
                · cases hv; exact ⟨_, _, _, _, rfl, rfl, hab0⟩
                · cases hv; exact ⟨_, _, _, _, rfl, rfl, hab1⟩
              have hR4 : RowAt h4 rs' (rowI (turnedI z sh) (i + 1)) := hrow3 h4 (fun b o e => F26.keep b o e) (fun q hq => (N26 q (by first | walk_at "mem" | simp [hq])).1)
              k_steps
              · rename ((a : Nat) : Int) = _ => hae
                have hae : a = i + 1 := by (first | lia | omega)
                have N27 : News base L h4 ((((I2, oI2) :: (I, oI) :: (lR, lstO rs' k3) :: [(D17, lstO [.ref T0, .ref T1] 2), (T1, tupO [.int a1 u2, .int b1 u3]), (T0, tupO [.int a0 u0, .int b0 u1]), (D14, lstO ys14 ys14.length)]) ++ tl3) ++ tb4) := fun q hq => N26 q (by
                  simp only [List.mem_cons, List.mem_append, List.not_mem_nil, or_false] at hq ⊢
                  rcases hq with ((h | h | h | h | h | h | h) | h) | h <;> first | ((try subst h); walk_at "mem") | simp [h])
                obtain ⟨oL, es, ep, hoL, hoL2⟩ := F26.ns
                try dsimp only
                refine holds_ok (o2 := oL) (e2 := _) ((G'.keeps (fun b o e => e)).less (by (first | lia | omega))) (fun b o e => F26.keep b o e) hT4 (fun q hq => ?_) ⟨es, ep, hoL2.1⟩ (fun q hq => (N27 q (List.mem_append_right _ hq)).2.1) (Around.frames_deeper hA) ⟨rfl, (show ScopeKind.function ≠ ScopeKind.module by decide)⟩
                  ⟨_, (N26 (lR, lstO rs' k3) (by first | walk_at "mem" | simp)).1, rfl, _, rfl⟩ hR4 (by rw [rowI_len]; (first | lia | omega)) (by rw [rowI_len]; (first | lia | omega)) (hrows.low (i + 1) (by (first | lia | omega))) ⟨_, (N26 (D14, lstO ys14 ys14.length) (by first | walk_at "mem" | simp)).1, rfl, _, rfl⟩ hs14 (by rw [htln]; (first | lia | omega)) (by rw [htln]; (first | lia | omega)) htb hb27 (by
                    have : (2 : Nat) ^ z ≤ 2 ^ 5 := Nat.pow_le_pow_right (by decide) hz5
                    first | lia | omega) (hrows.good (i + 1) (by (first | lia | omega)) (by (first | lia | omega)) b (by rw [htln]; exact hb2)) fun h5 tk5 tb5 aft5 => ?_
                · rcases List.mem_cons.mp hq with rfl | hq
                  · exact ⟨hoL, kts_self F26⟩
                  · exact ⟨(N27 q (List.mem_append_right _ hq)).1, (N27 q (List.mem_append_right _ hq)).2.2⟩
                have F28 := afterF1_fr F26 N27 hT4 aft5 hoL
                have N28 := afterF1_news F26 N27 hT4 aft5 (NTs.app ⟨hnI2, hnI, NT.cls (fun h => by cases h), NT.cls (fun h => by cases h), NT.cls (fun h => by cases h), NT.cls (fun h => by cases h), NT.cls (fun h => by cases h), True.intro⟩ htups3.nts)
                have hI5 := afterF_ne aft5 (N26 (I, oI) (by first | walk_at "mem" | simp)).1 hI4
                have hI25 := afterF_ne aft5 (N26 (I2, oI2) (by first | walk_at "mem" | simp)).1 (fun q hq e => hnw2 q (by first | walk_at "mem" | simp [hq]) (by rw [e]; exact .head _))
                have N29 : News base L h5 ((I2, oI2) :: (I, oI) :: (lR, lstO rs' k3) :: (D17, lstO [.ref T0, .ref T1] 2) :: (T1, tupO [.int a1 u2, .int b1 u3]) :: (T0, tupO [.int a0 u0, .int b0 u1]) :: (D14, lstO ys14 ys14.length) :: (tl3 ++ tb5)) := fun q hq => N28 q (by
                  simp only [List.mem_cons, List.mem_append, List.not_mem_nil, or_false] at hq ⊢
                  rcases hq with h | h | h | h | h | h | h | h | h <;> first | ((try subst h); walk_at "mem") | simp [h])
                have hT5 := aft5.tabs
                have hc5 : ∀ q ∈ tb, q.1 ∉ [30, 37, 119, 152] → q ∈ tb5 := fun q hq hn => aft5.cods q (hc4 q hq hn) hn
                clear N28 N27
                k_steps
                refine TurnL.next ((I, oI) :: (lR, lstO rs' k3) :: (D17, lstO [.ref T0, .ref T1] 2) :: (T1, tupO [.int a1 u2, .int b1 u3]) :: (T0, tupO [.int a0 u0, .int b0 u1]) :: (D14, lstO ys14 ys14.length) :: (tl3 ++ tb5)) F28 N29 ⟨tb5, mr4, mw4, mt4, mb4, mn4, rfl, hT5, hI5, hc5⟩ (fun q hq hm => ?_) (fun b' hb' hw' o ho => ?_)
                · have hm := List.mem_singleton.mp hm
                  simp only [List.mem_cons, List.mem_append] at hq
                  rcases hq with h | h | h | h | h | h | h | h
                  · exact hnw2 (I, oI) (by first | walk_at "mem" | simp) (by rw [← hm, h]; exact .head _)
                  · exact hnw2 (lR, lstO rs' k3) (by first | walk_at "mem" | simp) (by rw [← hm, h]; exact .head _)
                  · exact hnw2 (D17, lstO [.ref T0, .ref T1] 2) (by first | walk_at "mem" | simp) (by rw [← hm, h]; exact .head _)
                  · exact hnw2 (T1, tupO [.int a1 u2, .int b1 u3]) (by first | walk_at "mem" | simp) (by rw [← hm, h]; exact .head _)
                  · exact hnw2 (T0, tupO [.int a0 u0, .int b0 u1]) (by first | walk_at "mem" | simp) (by rw [← hm, h]; exact .head _)
                  · exact hnw2 (D14, lstO ys14 ys14.length) (by first | walk_at "mem" | simp) (by rw [← hm, h]; exact .head _)
                  · exact hnw2 q (by first | walk_at "mem" | simp [h]) (by rw [hm]; exact .head _)
                  · exact hI25 q h hm
                · have hbb : ∃ ob, (b', ob) ∈ (I2, oI2) :: (I, oI) :: (lR, lstO rs' k3) :: (D17, lstO [.ref T0, .ref T1] 2) :: (T1, tupO [.int a1 u2, .int b1 u3]) :: (T0, tupO [.int a0 u0, .int b0 u1]) :: (D14, lstO ys14 ys14.length) :: (tl3 ++ tb5) ∧ h4.get? b' = some ob := by
                    rcases List.mem_cons.mp hb' with rfl | hb'
                    · exact absurd (.head _) hw'
                    rcases List.mem_cons.mp hb' with rfl | hb'
                    · exact ⟨_, by first | walk_at "mem" | simp, (N26 (_, lstO [.ref T0, .ref T1] 2) (by first | walk_at "mem" | simp)).1⟩
                    obtain ⟨jj, hjj, rfl⟩ := List.mem_map.mp hb'
                    rcases two jj (List.mem_range.mp hjj) with rfl | rfl
                    · exact ⟨tupO [.int a0 u0, .int b0 u1], by first | walk_at "mem" | simp, (N26 (T0, tupO [.int a0 u0, .int b0 u1]) (by first | walk_at "mem" | simp)).1⟩
                    · exact ⟨tupO [.int a1 u2, .int b1 u3], by first | walk_at "mem" | simp, (N26 (T1, tupO [.int a1 u2, .int b1 u3]) (by first | walk_at "mem" | simp)).1⟩
                  obtain ⟨ob, hm, e⟩ := hbb
                  rw [e] at ho
                  cases ho
                  exact (N29 _ hm).1
              · refine TurnL.next ((I, oI) :: (lR, lstO rs' k3) :: (D17, lstO [.ref T0, .ref T1] 2) :: (T1, tupO [.int a1 u2, .int b1 u3]) :: (T0, tupO [.int a0 u0, .int b0 u1]) :: (D14, lstO ys14 ys14.length) :: (tl3 ++ tb4)) F26 N26 ⟨tb4, mr4, mw4, mt4, mb4, mn4, rfl, hT4, hI4, hc4⟩ (fun q hq hm => ?_) (fun b' hb' hw' o ho => ?_)
                · have hm := List.mem_singleton.mp hm
                  simp only [List.mem_cons, List.mem_append] at hq
                  rcases hq with h | h | h | h | h | h | h | h
                  · exact hnw2 (I, oI) (by first | walk_at "mem" | simp) (by rw [← hm, h]; exact .head _)
                  · exact hnw2 (lR, lstO rs' k3) (by first | walk_at "mem" | simp) (by rw [← hm, h]; exact .head _)
                  · exact hnw2 (D17, lstO [.ref T0, .ref T1] 2) (by first | walk_at "mem" | simp) (by rw [← hm, h]; exact .head _)
                  · exact hnw2 (T1, tupO [.int a1 u2, .int b1 u3]) (by first | walk_at "mem" | simp) (by rw [← hm, h]; exact .head _)
                  · exact hnw2 (T0, tupO [.int a0 u0, .int b0 u1]) (by first | walk_at "mem" | simp) (by rw [← hm, h]; exact .head _)
                  · exact hnw2 (D14, lstO ys14 ys14.length) (by first | walk_at "mem" | simp) (by rw [← hm, h]; exact .head _)
                  · exact hnw2 q (by first | walk_at "mem" | simp [h]) (by rw [hm]; exact .head _)
                  · exact hnw2 q (by first | walk_at "mem" | simp [h]) (by rw [hm]; exact .head _)
                · have hbb : ∃ ob, (b', ob) ∈ (I2, oI2) :: (I, oI) :: (lR, lstO rs' k3) :: (D17, lstO [.ref T0, .ref T1] 2) :: (T1, tupO [.int a1 u2, .int b1 u3]) :: (T0, tupO [.int a0 u0, .int b0 u1]) :: (D14, lstO ys14 ys14.length) :: (tl3 ++ tb4) ∧ h4.get? b' = some ob := by
                    rcases List.mem_cons.mp hb' with rfl | hb'
                    · exact absurd (.head _) hw'
                    rcases List.mem_cons.mp hb' with rfl | hb'
                    · exact ⟨_, by first | walk_at "mem" | simp, (N26 (_, lstO [.ref T0, .ref T1] 2) (by first | walk_at "mem" | simp)).1⟩
                    obtain ⟨jj, hjj, rfl⟩ := List.mem_map.mp hb'
                    rcases two jj (List.mem_range.mp hjj) with rfl | rfl
                    · exact ⟨tupO [.int a0 u0, .int b0 u1], by first | walk_at "mem" | simp, (N26 (T0, tupO [.int a0 u0, .int b0 u1]) (by first | walk_at "mem" | simp)).1⟩
                    · exact ⟨tupO [.int a1 u2, .int b1 u3], by first | walk_at "mem" | simp, (N26 (T1, tupO [.int a1 u2, .int b1 u3]) (by first | walk_at "mem" | simp)).1⟩
                  obtain ⟨ob, hm, e⟩ := hbb
                  rw [e] at ho
                  cases ho
                  exact (N26 _ hm).1
end
end Mine
end
section
set_option maxRecDepth 100000
open PySem.Calls
namespace Mine
set_option maxHeartbeats 8000000 in
theorem law_holds : PySem.Challenge.rw_rs0177_01.Holds := behind hd "special-get-raises" opens half_0 half_1 (by
  k_fill
  intro w s₀ s₁ mg mb G Y fa o pm cd doc dV kV ho hd hcd hD hmg hg args vals as hpre hlay hrd hwl hlo
  have KX := km_in_of Y
  km_tabs Y
  have X := (Ground.X G).1
  have V := (Ground.X G).2
  refine Ground.open G ?_
  intro T B D TE TW
  try (refine guard_noD D (by decide +kernel) ?_; clear D)
  km_lay T hmg ho hd cd
  wrow_args hpre hlay hrd hwl hlo
  refine enter_call ?_
  refine kn_post hT9 (fun _ _ => rfl) ?_
  have e162 : fa = 162 := by
    have e1 := mg_of KX T.g (n := "law") (v := .ref 162) (by kernel_rfl)
    have e2 := hmg.symm.trans e1
    injection e2 with e2
    injection e2
  subst e162
  have hCA := ghost_code hT9
  have hgone : ∀ P, P ∈ [30, 37, 119, 152] → (ghostOf s₁.heap [(156, 152), (41, 37), (34, 30), (123, 119)]).get? P = none := fun P hP => hideAll_none _ (by
    simp only [List.mem_cons, List.not_mem_nil, or_false] at hP
    rcases hP with rfl | rfl | rfl | rfl <;> simp)
  have hTabs : Tabs [(30, tabObj #[]), (37, tabObj #[]), (119, tabObj #[]), (152, tabObj #[])] := ⟨#[], #[], #[], #[], [], rfl, TabOk.nil, TabOk.nil, TabOk.nil, TabOk.nil, (fun _ h => nomatch h), fun _ h => nomatch h⟩
  refine law_ok (g := ghostOf s₁.heap [(156, 152), (41, 37), (34, 30), (123, 119)]) ⟨ghost_K hT9 KX (by kernel_rfl), ⟨_, _, _, _, _, ghost_top hT9 T⟩, ⟨hCA.2.2.1, hCA.2.1, hCA.2.2.2.1, hCA.1⟩, rfl, by decide, by decide⟩ (fun b o e => of_hideAll _ e) hTabs (fun q hq => ?_) rfl (by assumption) (by assumption) (by (first | lia | omega)) fun h' tk tb' aft => ?_
  · simp only [List.mem_cons, List.not_mem_nil, or_false] at hq
    rcases hq with rfl | rfl | rfl | rfl
    · exact ⟨hT8 30 (by simp), hgone 30 (by simp)⟩
    · exact ⟨hT8 37 (by simp), hgone 37 (by simp)⟩
    · exact ⟨hT8 119 (by simp), hgone 119 (by simp)⟩
    · exact ⟨hT8 152 (by simp), hgone 152 (by simp)⟩
  have hgrown : ∀ P, P ∈ ([30, 37, 119, 152] : List Addr) → GrownAt P h' := fun P hP => by
    obtain ⟨ps, hp⟩ := tabs_at aft.tabs hP
    exact ⟨ps, aft.get _ hp⟩
  refine ⟨⟨.inl ⟨_, .bool true, [], rfl, raisesW_false (by wrow_none_raised), .bool true, ?post, unshared_nil⟩, fun b o e => aft.keep _ _ (fun hm => by rw [hgone b hm] at e; cases e) (of_hideAll _ e), rfl, hg⟩, hgrown 152 (by simp), hgrown 37 (by simp), hgrown 30 (by simp), hgrown 119 (by simp), trivial⟩
  first
    | wrow_post
    | kc_post)
end Mine
end
theorem PySem.Challenge.cw_rs0177_01_holds : PySem.Challenge.rw_rs0177_01.Holds := by
  exact Mine.law_holds
