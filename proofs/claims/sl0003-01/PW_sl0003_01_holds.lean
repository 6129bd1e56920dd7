import PyProof.Rows.All
import Wide.All
import OpenK.AllK
import Wide.FinOn
import PySem.Challenge.RW_sl0003_01
set_option Elab.async false
set_option maxRecDepth 100000
set_option linter.unusedVariables false
local macro_rules | `(tactic| omega) => `(tactic| first | lia | omega +splitDisjunctions)
local macro_rules | `(tactic| walk_at $s:str) => `(tactic| k_extra $s)
section
open PySem PySem.W PyProof.Rows
namespace Mine
theorem start_Hd : True := by
  w_top off
  k_with_none
  trivial
set_option maxRecDepth 100000 in
set_option maxHeartbeats 8000000 in
open_top hd for PySem.Challenge.rw_sl0003_01
end Mine
end
section
open PySem PySem.W PyProof.Rows
namespace Mine
theorem start_Pk : True := by
  w_top off
  k_with_none
  trivial
/-! The pieces of the law's text are taken out of the given row by their place in it. -/
noncomputable abbrev pk {α : Type} (place s : α) (_ : s = place) : α := s
noncomputable def noS : Stmt := .Pass ⟨0, 0, 0, 0⟩
noncomputable def noE : PySem.Expr := .Tuple [] 0 ⟨0, 0, 0, 0⟩
noncomputable def noSc : Scope := ⟨.function, [], false, false, []⟩
noncomputable def topS (n : Nat) : Stmt := PySem.Challenge.rw_sl0003_01.row.prog.main.body.getD n noS
noncomputable def kids : Stmt → List Stmt
  | .FunctionDef _ _ b .. => b | .ClassDef _ _ _ b .. => b | .For _ _ b .. => b | .If _ b .. => b | _ => []
noncomputable def kid (s : Stmt) (n : Nat) : Stmt := (kids s).getD n noS
noncomputable def els : Stmt → List Stmt
  | .If _ _ b .. => b | _ => []
noncomputable def scp : Stmt → Scope
  | .FunctionDef _ _ _ _ _ _ s .. => s | _ => noSc
noncomputable def itr : Stmt → PySem.Expr
  | .For _ i .. => i | .If t .. => t | .Assign _ v _ => v | _ => noE
noncomputable def tgt : Stmt → PySem.Expr
  | .For t .. => t | _ => noE
noncomputable def subE : PySem.Expr → Nat → PySem.Expr
  | .ListComp e .., 0 => e | .Lambda _ b .., 0 => b | .Compare l .., 0 => l | .Call _ as .., n + 1 => as.getD n noE | .BinOp l .., 0 => l | _, _ => noE
noncomputable def scpE : PySem.Expr → Scope
  | .ListComp _ _ s _ => s | .Lambda _ _ s _ => s | _ => noSc
noncomputable def argsE : PySem.Expr → Arguments
  | .Lambda a .. => a | _ => default
end Mine
end
section
open PySem PySem.W PyProof.Rows PySem.Calls PySem.Spec
namespace Mine
theorem start_Util : True := by
  w_top off
  k_with_none
  trivial
noncomputable abbrev PG : Program := PySem.Challenge.rw_sl0003_01.row.prog
noncomputable abbrev PM (w : World) : Model := model PySem.Challenge.rw_sl0003_01.row.prog w
noncomputable abbrev AA (dp un : Nat) (fr : Option (List Env)) (gd : Option (List Code)) : Around := { handled := none, depth := dp, frames := fr, guards := gd, units := un }
structure Bs (hb h : Heap) : Prop where
  stays : ∀ b o, hb.get? b = some o → h.get? b = some o
  size : hb.objs.size ≤ h.objs.size
noncomputable def Led (hb h : Heap) (news : List (Addr × Obj)) : Prop := ∀ p ∈ news, h.get? p.1 = some p.2 ∧ hb.get? p.1 = none
theorem Bs.rfl {h : Heap} : Bs h h := ⟨fun _ _ e => e, Nat.le_refl _⟩
theorem Led.nil {hb h : Heap} : Led hb h [] := fun _ hp => nomatch hp
section
variable {prog : Program} {w : World} {A : Around} {E Q : Value → Shared → Prop} {s : Shared} {K : Frag} {p : Program} {loose : List Str} {mean : ExcName → Option Value} {mg mb : Str → Option Value}
    {f : Addr} {oc dV kV doc pm cdv ct : Value} {od an : Option Addr} {name qual : Str} {params : Arguments} {body : List Stmt} {scope : Scope} {osl : Array (Option Value)} {vals : List Value} {binds : List (Str × Value)}
    {hb : Heap} {news : List (Addr × Obj)}
theorem entB (B : Bs hb s.heap) (X : K.In hb) (T : Top p loose mean mg mb hb) (N : Led hb s.heap news)
    (ho : K.lookup f = some ⟨oc, od, .func (fnOf name qual params body scope dV kV doc pm an cdv ct), osl⟩) (hcd : codeIn K cdv qual = true) (hroom : A.depth < recursionLimit)
    (hbind : bindArgs (fnOf name qual params body scope dV kV doc pm an cdv ct) ⟨vals, []⟩ = pure binds) (hloc : (binds.all fun x => decide (scope.names.lookup x.1 = some .local)) = true)
    (hco : scope.isCoroutine = false) (hgen : scope.isGenerator = false) (hk : scope.kind = .function) (hcell : ∀ x ∈ scope.names, x.2 ≠ .cell)
    (h : ∀ L h₁, s.heap.objs.size = L → Fr hb L h₁ (fun y => binds.reverse.lookup y) → News hb L h₁ news → (∀ b o, s.heap.get? b = some o → h₁.get? b = some o) →
      wpAny (model prog w) (A.deeper (envOf qual scope L f cdv)) (execs body (envOf qual scope L f cdv)) (fun fl s' => Q (match fl with | .ret v => v | _ => .none) s') (fun _ _ => False) { s with heap := h₁, toks := s.toks + binds.length }) :
    wpAny (model prog w) A (call (.ref f) vals) Q E s := by
  refine wpAny_call (codeAny_call_def (fd := fnOf name qual params body scope dV kV doc pm an cdv ct) (body := body) (binds := binds) hroom (B.stays _ _ (X _ _ ho)) rfl (T.nolimit.keeps B.stays) (codeRec_of (X.keeps B.stays) hcd) rfl (BindsTo.of_eq hbind) hcell (locs hloc) (fun h₁ hns hk₁ => ?_) hco hgen hk)
  exact wpAny_mono (h s.heap.objs.size h₁ rfl ⟨hns, fun b o e => hk₁ b o (B.stays b o e), B.size⟩ (fun q hq => ⟨hk₁ _ _ (N q hq).1, Nat.ne_of_lt (Heap.lt_size (N q hq).1), (N q hq).2⟩) hk₁) (fun _ _ x => x) fun _ _ x => x.elim
theorem entC (B : Bs hb s.heap) (X : K.In hb) (T : Top p loose mean mg mb hb) (N : Led hb s.heap news)
    (ho : K.lookup f = some ⟨oc, od, .func (fnOf name qual params body scope dV kV doc pm an cdv ct), osl⟩) (hcd : codeIn K cdv qual = true) (hroom : A.depth < recursionLimit)
    (hbind : bindArgs (fnOf name qual params body scope dV kV doc pm an cdv ct) ⟨vals, []⟩ = pure binds)
    (hkind : (binds.all fun y => scope.names.lookup y.1 == some .local || scope.names.lookup y.1 == some .cell) = true)
    (hnd : ((cellsFrom 0 scope.names []).map (·.1)).Nodup)
    (hco : scope.isCoroutine = false) (hgen : scope.isGenerator = false) (hk : scope.kind = .function)
    (h : ∀ L h₁ tk cells, s.heap.objs.size = L → Fr hb L h₁ (bindL (envOfC qual scope L f cdv).kindOf binds fun _ => none) → News hb L h₁ (cells ++ news) →
      CellsAre (bindC (envOfC qual scope L f cdv).kindOf binds fun _ => none) (cellsFrom (L + 1) scope.names []) cells → (∀ p ∈ news, p.1 < L) → (∀ b o, s.heap.get? b = some o → h₁.get? b = some o) →
      wpAny (model prog w) (A.deeper (envOfC qual scope L f cdv)) (execs body (envOfC qual scope L f cdv)) (fun fl s' => Q (match fl with | .ret v => v | _ => .none) s') (fun _ _ => False) { s with heap := h₁, toks := tk }) :
    wpAny (model prog w) A (call (.ref f) vals) Q E s := by
  refine wpAny_call (codeAny_call_function hroom (B.stays _ _ (X _ _ ho)) (fd := fnOf name qual params body scope dV kV doc pm an cdv ct) rfl hco hgen rfl (codeRec_of (X.keeps B.stays) hcd) ((BindsTo.of_eq hbind) _ _ _ _ ?_))
  refine wpAny_newFunctionEnv_cells hk (kindsX hkind _) fun env' he s' x => ?_
  subst he
  refine ⟨(T.nolimit.keeps B.stays).keeps x.toInCall.keep, codeAny_func ?_⟩
  obtain ⟨h₁, tk, rfl, _⟩ := x.done
  have hk₁ := x.toInCall.keep
  obtain ⟨cells, NC, Y⟩ := Cl.news (h₀ := s.heap) (Nat.le_refl _) fun n c hm => ⟨x.cell n c (lookup_of_mem_nodup (cellsFrom_names scope.names 0 (s.heap.objs.size + 1) [] [] rfl ▸ hnd) hm), x.above n c hm⟩
  refine wpAny_mono (h s.heap.objs.size h₁ tk cells rfl ⟨x.toInCall.ns, fun b o e => hk₁ b o (B.stays _ _ e), B.size⟩ (fun p hp => ?_) Y (fun p hp => Heap.lt_size (N p hp).1) hk₁) (fun fl s' hl => hl) fun _ _ x => x.elim
  rcases List.mem_append.mp hp with hp | hp
  · refine ⟨(NC p hp).1, (NC p hp).2.1, ?_⟩
    cases q : hb.get? p.1 with
    | none => rfl
    | some o => have := B.stays _ _ q; rw [(NC p hp).2.2] at this; cases this
  · exact ⟨hk₁ _ _ (N p hp).1, Nat.ne_of_lt (Heap.lt_size (N p hp).1), (N p hp).2⟩
end
section
variable {h₀ h h' g : Heap} {L : Addr} {m : Str → Option Value} {ns ns' rest : List (Addr × Obj)}
theorem Led.sub (N : Led h₀ h ns) (q : ∀ p ∈ ns', p ∈ ns) : Led h₀ h ns' := fun p hp => N p (q p hp)
theorem News.sub (N : News h₀ L h ns) (q : ∀ p ∈ ns', p ∈ ns) : News h₀ L h ns' := fun p hp => N p (q p hp)
theorem toLed (N : News h₀ L h ns) : Led h₀ h ns := fun p hp => ⟨(N p hp).1, (N p hp).2.2⟩
theorem toBs (F : Fr h₀ L h m) : Bs h₀ h := ⟨F.keep, by
  obtain ⟨oL, _, _, hL, _⟩ := F.ns
  exact Nat.le_trans F.above (Nat.le_of_lt (Heap.lt_size hL))⟩
theorem Bs.trans (B : Bs h₀ g) (B' : Bs g h) : Bs h₀ h := ⟨fun b o e => B'.stays _ _ (B.stays _ _ e), Nat.le_trans B.size B'.size⟩
theorem hide (F : Fr h₀ L h m) (N : News h₀ L h ns) : (∀ b o, h₀.get? b = some o → (hideAll h (ns.map (·.1))).get? b = some o) ∧ Bs (hideAll h (ns.map (·.1))) h ∧ Led (hideAll h (ns.map (·.1))) h ns := by
  refine ⟨fun b o e => hideAll_get _ (F.keep _ _ e) fun q => ?_, ⟨fun b o e => of_hideAll _ e, Nat.le_of_eq (hideAll_size _ _)⟩, fun p hp => ⟨(N p hp).1, hideAll_none _ (List.mem_map_of_mem hp)⟩⟩
  obtain ⟨p, hp, rfl⟩ := List.mem_map.mp q
  rw [(N p hp).2.2] at e; cases e
theorem back (F : Fr h₀ L h m) (N : News h₀ L h ns) (N₂ : News h₀ L h rest) (dj : ∀ p ∈ rest, p.1 ∉ ns.map (·.1)) (B' : Bs (hideAll h (ns.map (·.1))) h') (N' : Led (hideAll h (ns.map (·.1))) h' ns') :
    Fr h₀ L h' m ∧ News h₀ L h' (ns' ++ rest) := by
  obtain ⟨st, B, Ld⟩ := hide F N
  obtain ⟨oL, es, ep, hL, hLd, hLk, hLf⟩ := F.ns
  have nL : L ∉ ns.map (·.1) := fun q => by
    obtain ⟨p, hp, e⟩ := List.mem_map.mp q
    exact (N p hp).2.1 e
  have hLg := hideAll_get (ns.map (·.1)) hL nL
  refine ⟨⟨⟨oL, es, ep, B'.stays _ _ hLg, hLd, hLk, hLf⟩, fun b o e => B'.stays _ _ (st b o e), F.above⟩, fun p hp => ?_⟩
  rcases List.mem_append.mp hp with hp | hp
  · refine ⟨(N' p hp).1, fun q => ?_, ?_⟩
    · have := (N' p hp).2; rw [q, hLg] at this; cases this
    · cases q : h₀.get? p.1 with
      | none => rfl
      | some o => have := (N' p hp).2; rw [st _ _ q] at this; cases this
  · exact ⟨B'.stays _ _ (hideAll_get _ (N₂ p hp).1 (dj p hp)), (N₂ p hp).2⟩
theorem fin_all {news news' : List (Addr × Obj)} (F : Fr h₀ L h m) (N : News h₀ L h news) (sub : ∀ p ∈ ns, p ∈ news) (B' : Bs (hideAll h (ns.map (·.1))) h') (N' : Led (hideAll h (ns.map (·.1))) h' ns')
    (hall : ∀ p ∈ news', p ∈ ns' ∨ (p ∈ news ∧ (p.1 ∈ ns.map (·.1) → p ∈ ns'))) : Fr h₀ L h' m ∧ News h₀ L h' news' := by
  have Nn : News h₀ L h ns := News.sub N sub
  obtain ⟨st, B, Ld⟩ := hide F Nn
  obtain ⟨F', N2⟩ := back F Nn (News.nil : News h₀ L h []) (fun _ q => nomatch q) B' N'
  refine ⟨F', fun p hp => ?_⟩
  have key : p ∈ ns' → h'.get? p.1 = some p.2 ∧ p.1 ≠ L ∧ h₀.get? p.1 = none := fun q => N2 p (List.mem_append_left _ q)
  rcases hall p hp with q | ⟨q, q2⟩
  · exact key q
  · by_cases r : p.1 ∈ ns.map (·.1)
    · exact key (q2 r)
    · exact ⟨B'.stays _ _ (hideAll_get _ (N p q).1 r), (N p q).2⟩
theorem same_in {news : List (Addr × Obj)} (N : News h₀ L h news) (sub : ∀ p ∈ ns, p ∈ news) {p : Addr × Obj} (hp : p ∈ news) (q : p.1 ∈ ns.map (·.1)) : p ∈ ns := by
  obtain ⟨r, hr, e⟩ := List.mem_map.mp q
  have e1 := (N p hp).1
  have e2 := (N r (sub r hr)).1
  rw [e, e1] at e2
  have : r = p := Prod.ext e (Option.some.inj e2).symm
  exact this ▸ hr
theorem fin_upd {news news' : List (Addr × Obj)} {d : Addr} {o o' : Obj} (F : Fr h₀ L h m) (N : News h₀ L h news) (U : Upd d o o' news news') (sub : ∀ p ∈ ns, p ∈ news) (B' : Bs (hideAll h (ns.map (·.1))) h') (N' : Led (hideAll h (ns.map (·.1))) h' ns')
    (hd : (d, o') ∈ ns') (hk : ∀ p ∈ ns, p.1 ≠ d → p ∈ ns') : Fr h₀ L h' m ∧ News h₀ L h' news' := by
  refine fin_all F N sub B' N' fun p hp => ?_
  obtain ⟨pre, post, rfl, rfl, a, b⟩ := U.split
  rcases List.mem_append.mp hp with q | q
  · have q' : p ∈ pre ++ (d, o) :: post := List.mem_append_left _ q
    exact .inr ⟨q', fun r => hk p (same_in N sub q' r) (a p q)⟩
  · rcases List.mem_cons.mp q with rfl | q
    · exact .inl hd
    · have q' : p ∈ pre ++ (d, o) :: post := List.mem_append_right _ (.tail _ q)
      exact .inr ⟨q', fun r => hk p (same_in N sub q' r) (b p q)⟩
theorem Upd.inn {news news' : List (Addr × Obj)} {d : Addr} {o o' : Obj} (U : Upd d o o' news news') : (d, o) ∈ news := by
  obtain ⟨pre, post, rfl, rfl, a, b⟩ := U.split
  exact List.mem_append_right _ (.head _)
theorem open_all {news : List (Addr × Obj)} {P : Prop} {K : Frag} {p : Program} {loose : List Str} {mean : ExcName → Option Value} {mg mb : Str → Option Value} (F : Fr h₀ L h m) (N : News h₀ L h news) (X : K.In h₀) (T : Top p loose mean mg mb h₀)
    (sub : ∀ p ∈ ns, p ∈ news) (c : ∀ g, Bs g h → K.In g → Top p loose mean mg mb g → (∀ b o, h₀.get? b = some o → g.get? b = some o) → Led g h ns →
      (∀ h' ns' news', Bs g h' → Led g h' ns' → (∀ p ∈ news', p ∈ ns' ∨ (p ∈ news ∧ (p.1 ∈ ns.map (·.1) → p ∈ ns'))) → Fr h₀ L h' m ∧ News h₀ L h' news') → P) : P := by
  have ⟨st, B, Ld⟩ := hide F (News.sub N sub)
  exact c _ B (X.keeps st) (T.keeps st) st Ld fun h' ns' news' B' N' q => fin_all F N sub B' N' q
theorem open_same {news : List (Addr × Obj)} {P : Prop} {K : Frag} {p : Program} {loose : List Str} {mean : ExcName → Option Value} {mg mb : Str → Option Value} (F : Fr h₀ L h m) (N : News h₀ L h news) (X : K.In h₀) (T : Top p loose mean mg mb h₀)
    (sub : ∀ p ∈ ns, p ∈ news) (c : ∀ g, Bs g h → K.In g → Top p loose mean mg mb g → Led g h ns → (∀ h', Bs g h' → Led g h' ns → Fr h₀ L h' m ∧ News h₀ L h' news) → P) : P :=
  open_all F N X T sub fun g B X2 T2 _ Ld fin => c g B X2 T2 Ld fun h' B' N' => fin h' ns news B' N' fun _ hp => .inr ⟨hp, fun q => same_in N sub hp q⟩
theorem open_upd {news news' : List (Addr × Obj)} {d : Addr} {o o' : Obj} {P : Prop} {K : Frag} {p : Program} {loose : List Str} {mean : ExcName → Option Value} {mg mb : Str → Option Value} (F : Fr h₀ L h m) (N : News h₀ L h news) (X : K.In h₀) (T : Top p loose mean mg mb h₀)
    (U : Upd d o o' news news') (sub : ∀ p ∈ ns, p ∈ news) (hd : (d, o') ∈ ns') (hk : ∀ p ∈ ns, p.1 ≠ d → p ∈ ns')
    (c : ∀ g, Bs g h → K.In g → Top p loose mean mg mb g → Led g h ns → (∀ h', Bs g h' → Led g h' ns' → Fr h₀ L h' m ∧ News h₀ L h' news') → P) : P := by
  have ⟨st, B, Ld⟩ := hide F (News.sub N sub)
  exact c _ B (X.keeps st) (T.keeps st) Ld fun h' B' N' => fin_upd F N U sub B' N' hd hk
theorem fresh_in (B' : Bs (hideAll h (ns.map (·.1))) h') {b : Addr} {o : Obj} (e : h.get? b = some o) (q : b ∉ ns.map (·.1)) : h'.get? b = some o := B'.stays _ _ (hideAll_get _ e q)
end
end Mine
end
section
open PySem PySem.W PyProof.Rows PySem.Calls PySem.Spec
namespace Mine
theorem start_Lex1 : True := by
  w_top off
  k_with_none
  trivial
theorem entCode {prog : Program} {w : World} {A : Around} {R : Result → Shared → Prop} {s : Shared} {K : Frag} {p : Program} {loose : List Str} {mean : ExcName → Option Value} {mg mb : Str → Option Value}
    {f : Addr} {oc dV kV doc pm cdv ct : Value} {od an : Option Addr} {name qual : Str} {params : Arguments} {body : List Stmt} {scope : Scope} {osl : Array (Option Value)} {vals : List Value} {binds : List (Str × Value)}
    {hb : Heap} {news : List (Addr × Obj)} (B : Bs hb s.heap) (X : K.In hb) (T : Top p loose mean mg mb hb) (N : Led hb s.heap news)
    (ho : K.lookup f = some ⟨oc, od, .func (fnOf name qual params body scope dV kV doc pm an cdv ct), osl⟩) (hcd : codeIn K cdv qual = true) (hroom : A.depth < recursionLimit)
    (hbind : bindArgs (fnOf name qual params body scope dV kV doc pm an cdv ct) ⟨vals, []⟩ = pure binds) (hloc : (binds.all fun x => decide (scope.names.lookup x.1 = some .local)) = true)
    (hco : scope.isCoroutine = false) (hgen : scope.isGenerator = false) (hk : scope.kind = .function) (hcell : ∀ x ∈ scope.names, x.2 ≠ .cell)
    (h : ∀ L h₁, s.heap.objs.size = L → Fr hb L h₁ (fun y => binds.reverse.lookup y) → News hb L h₁ news → (∀ b o, s.heap.get? b = some o → h₁.get? b = some o) →
      wpAny (model prog w) (A.deeper (envOf qual scope L f cdv)) (execs body (envOf qual scope L f cdv)) (fun fl s' => R (.ok (.ret (match fl with | .ret v => v | _ => .none))) s') (fun _ _ => False) { s with heap := h₁, toks := s.toks + binds.length }) :
    codeAny (model prog w) A (.call (.ref f) ⟨vals, []⟩) R s := by
  refine (codeAny_call_def (fd := fnOf name qual params body scope dV kV doc pm an cdv ct) (body := body) (binds := binds) hroom (B.stays _ _ (X _ _ ho)) rfl (T.nolimit.keeps B.stays) (codeRec_of (X.keeps B.stays) hcd) rfl (BindsTo.of_eq hbind) hcell (locs hloc) (fun h₁ hns hk₁ => ?_) hco hgen hk)
  exact wpAny_mono (h s.heap.objs.size h₁ rfl ⟨hns, fun b o e => hk₁ b o (B.stays b o e), B.size⟩ (fun q hq => ⟨hk₁ _ _ (N q hq).1, Nat.ne_of_lt (Heap.lt_size (N q hq).1), (N q hq).2⟩) hk₁) (fun _ _ x => x) fun _ _ x => x.elim
noncomputable abbrev wsS : Str := Str.ofString "\n\t\x0d "
noncomputable abbrev lexEs (P : Params) (k1 k2 k3 k4 tl tw : Nat) (ln : Int) (v : Value) (pb : Nat) : List DictEntry :=
  [⟨PyData.keyHash P (Str.ofString "lineno"), .str (Str.ofString "lineno") k1, .int ln tl⟩, ⟨PyData.keyHash P (Str.ofString "instream"), .str (Str.ofString "instream") k2, v⟩,
    ⟨PyData.keyHash P (Str.ofString "whitespace"), .str (Str.ofString "whitespace") k3, .str wsS tw⟩, ⟨PyData.keyHash P (Str.ofString "pushback"), .str (Str.ofString "pushback") k4, .ref pb⟩]
set_option maxHeartbeats 8000000 in
theorem c_new {w : World} {p : Program} {loose : List Str} {mean : ExcName → Option Value} {mg mb : Str → Option Value} {dp un : Nat} {fr : Option (List Env)} {gd : Option (List Code)} {E Q : Value → Shared → Prop} {s : Shared}
    {h₀ : Heap} {L : Addr} {m : Str → Option Value} {news : List (Addr × Obj)} {v : Value}
    (X : (hd.heap_39 w.params).In h₀) (T : Top p loose mean mg mb h₀) (hroom : dp < 950) (F : Fr h₀ L s.heap m) (N : News h₀ L s.heap news)
    (ret : ∀ h' tk (x dx pb k1 k2 k3 k4 tl tw : Nat), Fr h₀ L h' m → News h₀ L h' ((pb, listOf #[] 0) :: (x, instObj 83 dx) :: (dx, dictOf (lexEs w.params k1 k2 k3 k4 tl tw 1 v pb) 4) :: news) →
      (∀ p ∈ news, @LT.lt Nat _ p.1 dx) → dx < x → x < pb → Q (.ref x) { s with heap := h', toks := tk }) :
    wpAny (model PySem.Challenge.rw_sl0003_01.row.prog w) (AA dp un fr gd) (call (.ref 83) [v]) Q E s := by
  revert X; k_fill; intro X
  refine' call_cls F X N ?k1 ?k2 ?k3 ?_; (case k1 => k_is); (case k2 => k_is); (case k3 => k_is)
  intro x dx h' F' N' l1 l2
  k_lt2 l2
  have ⟨st, B, Ld⟩ := hide (ns := [(x, instObj 83 dx), (dx, dictOf [] 0)]) F' (News.sub N' (by simp))
  have X2 := (X.keeps st)
  have T2 := (T.keeps st)
  generalize hg : hideAll h' (List.map (fun x => x.fst) [(x, instObj 83 dx), (dx, dictOf [] 0)]) = g at st B Ld X2 T2
  refine entCode (binds := [(Str.ofString "self", .ref x), (Str.ofString "fp", v)]) B X2 T2 Ld rfl rfl ?_ rfl rfl rfl rfl rfl (by decide) fun L2 h2 e F2 N2 K2 => ?_
  · simp only [depth_under_make, recursionLimit]; omega
  change wpAny _ _ _ _ _ _
  k_fold
  k_steps
  dsimp only [qk, InitBack]
  refine ⟨rfl, ?_⟩
  rename News g L2 _ _ => N9
  rename Fr g L2 _ _ => F9
  rename _ ∧ _ => l9
  subst hg
  have ⟨F8, N8⟩ := back (rest := news) F' (News.sub N' (by simp)) (News.sub N' (fun p hp => .tail _ (.tail _ hp))) (fun p hp q => by
    have : @LT.lt Nat _ p.1 dx := l1 p hp
    simp only [List.map_cons, List.map_nil, List.mem_cons, List.not_mem_nil, or_false] at q
    rcases q with q | q <;> (have q' : @Eq Nat p.1 _ := q; omega)) (toBs F9) (toLed N9)
  exact ret _ _ _ _ _ _ _ _ _ _ _ F8 N8 l1 l2 l9.1
end Mine
end
section
open PySem PySem.W PyProof.Rows PySem.Calls PySem.Spec
namespace Mine
theorem start_Lex2 : True := by
  w_top off
  k_with_none
  trivial
inductive SV : List Value → List Str → Prop
  | nil : SV [] []
  | cons {t : Tok} {x : Str} {vs : List Value} {xs : List Str} : SV vs xs → SV (.str x t :: vs) (x :: xs)
theorem SV.length : ∀ {vs : List Value} {xs : List Str}, SV vs xs → vs.length = xs.length
  | _, _, .nil => rfl
  | _, _, .cons r => by simp [r.length]
theorem SV.append : ∀ {vs : List Value} {xs : List Str} {vs' : List Value} {xs' : List Str}, SV vs xs → SV vs' xs' → SV (vs ++ vs') (xs ++ xs')
  | _, _, _, _, .nil, h => h
  | _, _, _, _, .cons r, h => .cons (r.append h)
theorem SV.reverse : ∀ {vs : List Value} {xs : List Str}, SV vs xs → SV vs.reverse xs.reverse
  | _, _, .nil => .nil
  | _, _, .cons r => by rw [List.reverse_cons, List.reverse_cons]; exact r.reverse.append (.cons .nil)
theorem SV.of_carried : ∀ {vs : List Value} {xs : List Str}, CarriedAll vs (xs.map .str) → SV vs xs
  | _, [], h => by cases h; exact .nil
  | _, x :: xs, h => by
    cases h with
    | cons h1 h2 => cases h1; exact .cons (SV.of_carried h2)
theorem SV.get : ∀ {vs : List Value} {xs : List Str}, SV vs xs → ∀ (k : Nat) (x : Str), xs[k]? = some x → ∃ t, vs[k]? = some (.str x t)
  | _, _, .nil, k, x, h => by simp at h
  | _, _, .cons (t := t) r, 0, x, h => by simp at h; subst h; exact ⟨t, rfl⟩
  | _, _, .cons r, k + 1, x, h => by simpa using r.get k x (by simpa using h)
section
variable {prog : Program} {w : World} {A : Around} {E : Value → Shared → Prop} {s : Shared} {h₀ : Heap} {L : Addr} {m : Str → Option Value} {Q : Value → Shared → Prop} {news : List (Addr × Obj)}
theorem fresh_lt (N : News h₀ L s.heap news) : ∀ p ∈ news, @LT.lt Nat _ p.1 s.heap.objs.size := fun p hp => Heap.lt_size (N p hp).1
theorem list_strN {x : Str} {t : Tok} (hh : A.handled = none) (F : Fr h₀ L s.heap m) (N : News h₀ L s.heap news) (hsz : x.length ≤ sizeLine)
    (hQ : ∀ (D : Nat) h' tk (ys : List Value) n, Fr h₀ L h' m → News h₀ L h' ((D, listOf ys.toArray n) :: news) → SV ys (signs x) → (∀ p ∈ news, @LT.lt Nat _ p.1 D) → Q (.ref D) { s with heap := h', toks := tk }) :
    wpAny (model prog w) A (call (.type "list") [.str x t]) Q E s := by
  refine list_strD hh F N (fun h' tk ys F' N' k hn hl hp hc => ?_) hsz
  obtain ⟨⟨n, hg⟩, hne⟩ := hp
  refine hQ s.heap.objs.size h' tk ys n F' (fun p hp => ?_) (SV.of_carried hc) (fresh_lt N)
  rcases List.mem_cons.mp hp with rfl | hp
  · refine ⟨hg, ?_, hn⟩
    obtain ⟨oL, _, _, hL, _⟩ := F.ns
    exact Nat.ne_of_gt (Heap.lt_size hL)
  · exact N' p hp
end
theorem reg1_Lex2 : True := by
  k_with "call type:list" => ((k_here; (with_reducible show wpAny _ _ (call (Value.type _) [Value.str _ _]) _ _ _); k_dflt (apply list_strN; (case hh => with_unfolding_all rfl); (case F => k_asm); (case N => k_asm); (case hsz => assumption)); intro _ _ _ _ _ _ _ _ l1zz9; (try k_lt l1zz9)))
  k_with "getMethod ref" => ((k_here; (with_reducible show wpAny _ _ (getMethod (Value.ref _) (PySem.Str.ofString "reverse") _) _ _ _); k_dflt (apply kl_method; (case slot => exact PySem.F.slot_list_reverse); (case hty => exact PySem.F.type_list_reverse); (case N => k_asm); (case hm => k_mem))))
  trivial
theorem sv_size {ys : List Value} {x : Str} (h : SV ys (signs x)) (hx : x.length ≤ sizeLine) : ys.toArray.toList.length ≤ sizeLine := by
  have := h.length
  simp only [PyProof.Rows.signs, List.length_map] at this
  rw [List.toList_toArray, this]; exact hx
theorem reg2_Lex2 : True := by
  k_with "call builtin:list.reverse" => ((k_here; (with_reducible show wpAny _ _ (call (Value.builtin _) [Value.ref _]) _ _ _); k_dflt (apply kl_reverse; (case F => k_asm); (case N => k_asm); (case U => k_upd); (case e => exact rfl); (case hz => exact sv_size (by assumption) (by assumption))); kl_rest))
  k_with "call ref" => ((k_here; (with_reducible show wpAny _ _ (call (Value.ref 83) [_]) _ _ _); k_dflt (apply c_new; (case F => k_asm); (case N => k_asm); (case X => k_asm); (case T => k_asm); (case hroom => ((try simp only [depth_under_make, depth_in1, depth_deeper]); (try dsimp only); omega))); intro _ _ _ _ _ _ _ _ _ _ _ _ _ l1zz9 _ _; (try k_lt l1zz9)))
  trivial
end Mine
end
section
open PySem PySem.W PyProof.Rows PySem.Calls PySem.Spec
namespace Mine
theorem start_Lex3 : True := by
  w_top off
  k_with_none
  trivial
theorem reg1_Lex3 : True := by
  k_with "getAttr ref" => ((k_here; k_dflt (apply get_own; (case F => k_asm); (case X₀ => k_asm); (case I => k_inst); (case hg => k_is); (case hh => k_is); (case ha => k_is); (case hn => k_is); (case hl => assumption); (case hv => k_handed); k_whole)))
  k_with "call builtin:list.append" => ((k_here; (with_reducible show wpAny _ _ (call (Value.builtin _) [Value.ref _, _]) _ _ _); k_dflt (apply append_K; (case F => k_asm); (case N => k_asm); (case U => k_upd); (case hsz => first | size_fits | (simp only [Array.size_push, List.size_toArray] at *; simp only [sizeLine]; omega)); k_whole); intro _ _ _))
  trivial
set_option maxHeartbeats 8000000 in
theorem c_push {w : World} {p : Program} {loose : List Str} {mean : ExcName → Option Value} {mg mb : Str → Option Value} {dp un : Nat} {fr : Option (List Env)} {gd : Option (List Code)} {E Q : Value → Shared → Prop} {s : Shared}
    {h₀ : Heap} {L lx ld pb : Nat} {m : Str → Option Value} {news news' : List (Addr × Obj)} {v : Value} {es : List DictEntry} {n k : Nat} {its : Array Value}
    (X : (hd.heap_39 w.params).In h₀) (T : Top p loose mean mg mb h₀) (hroom : dp < 950) (F : Fr h₀ L s.heap m) (N : News h₀ L s.heap news)
    (m1 : (lx, instObj 83 ld) ∈ news) (m2 : (ld, dictOf es n) ∈ news) (U : Upd pb (listOf its k) (listOf (its.push v) (k + 1)) news news') (hes : getL (Str.ofString "pushback") es = some (some (.ref pb)))
    (a1 : lx ≠ pb) (a2 : ld ≠ pb) (hsz : its.size < 1000000)
    (ret : ∀ h' tk, Fr h₀ L h' m → News h₀ L h' news' → Q .none { s with heap := h', toks := tk }) :
    wpAny (model PySem.Challenge.rw_sl0003_01.row.prog w) (AA dp un fr gd) (call (.ref 80) [.ref lx, v]) Q E s := by
  revert X; k_fill; intro X
  have sub : ∀ p ∈ [(lx, instObj 83 ld), (ld, dictOf es n), (pb, listOf its k)], p ∈ news := List.forall_mem_cons.mpr ⟨m1, List.forall_mem_cons.mpr ⟨m2, List.forall_mem_cons.mpr ⟨Upd.inn U, List.forall_mem_nil _⟩⟩⟩
  have ⟨st, B, Ld⟩ := hide (ns := [(lx, instObj 83 ld), (ld, dictOf es n), (pb, listOf its k)]) F (News.sub N sub)
  have X2 := (X.keeps st)
  have T2 := (T.keeps st)
  have fin := fun h' (B' : Bs _ h') N' => fin_upd (ns' := [(lx, instObj 83 ld), (ld, dictOf es n), (pb, listOf (its.push v) (k + 1))]) F N U sub B' N' (.tail _ (.tail _ (.head _))) (List.forall_mem_cons.mpr ⟨fun _ => .head _, List.forall_mem_cons.mpr ⟨fun _ => .tail _ (.head _), List.forall_mem_cons.mpr ⟨fun q => absurd rfl q, List.forall_mem_nil _⟩⟩⟩)
  generalize hg : hideAll s.heap (List.map (fun x => x.fst) [(lx, instObj 83 ld), (ld, dictOf es n), (pb, listOf its k)]) = g at st B Ld X2 T2 fin
  clear F N X T
  refine entB (binds := [(Str.ofString "self", .ref lx), (Str.ofString "token", v)]) B X2 T2 Ld rfl rfl (by show dp < _; simp only [recursionLimit]; omega) rfl rfl rfl rfl rfl (by decide) fun L2 h2 e F2 N2 K2 => ?_
  change wpAny _ _ _ _ _ _
  k_fold
  k_steps
  all_goals (
    (try dsimp only [qk])
    rename Fr _ _ _ _ => F9
    rename News _ _ _ _ => N9
    obtain ⟨F', N'⟩ := fin _ (toBs F9) (toLed N9)
    exact ret _ _ F' N')
end Mine
end
section
open PySem PySem.W PyProof.Rows PySem.Calls PySem.Spec
namespace Mine
theorem start_Lex4 : True := by
  w_top off
  k_with_none
  trivial
theorem reg1_Lex4 : True := by
  k_with "callWith ref" => ((k_here; k_dflt (apply callWith_K; (case he => rfl); (case hplain => rfl); (case _X => k_asm); (case hk => k_is); k_whole)))
  k_with "call type:list" => ((k_here; (with_reducible show wpAny _ _ (call (Value.type _) [Value.str _ _]) _ _ _); k_dflt (apply list_strN; (case hh => with_unfolding_all rfl); (case F => k_asm); (case N => k_asm); (case hsz => assumption)); intro _ _ _ _ _ _ _ _ l1zz9; (try k_lt l1zz9)))
  k_with "getMethod ref" => ((k_here; (with_reducible show wpAny _ _ (getMethod (Value.ref _) (PySem.Str.ofString "reverse") _) _ _ _); k_dflt (apply kl_method; (case slot => exact PySem.F.slot_list_reverse); (case hty => exact PySem.F.type_list_reverse); (case N => k_asm); (case hm => k_mem))))
  k_with "call builtin:list.reverse" => ((k_here; (with_reducible show wpAny _ _ (call (Value.builtin _) [Value.ref _]) _ _ _); k_dflt (apply kl_reverse; (case F => k_asm); (case N => k_asm); (case U => k_upd); (case e => exact rfl); (case hz => exact sv_size (by assumption) (by assumption))); kl_rest))
  k_with "call ref" => ((k_here; (with_reducible show wpAny _ _ (call (Value.ref 83) [_]) _ _ _); k_dflt (apply c_new; (case F => k_asm); (case N => k_asm); (case X => k_asm); (case T => k_asm); (case hroom => ((try simp only [depth_under_make, depth_in1, depth_deeper]); (try dsimp only); omega))); intro _ _ _ _ _ _ _ _ _ _ _ _ _ l1zz9 _ _; (try k_lt l1zz9)))
  trivial
theorem reg2_Lex4 : True := by
  k_with "call ref" => ((k_here; (with_reducible show wpAny _ _ (call (Value.ref 80) [_, _]) _ _ _); k_dflt (apply c_push; (case F => k_asm); (case N => k_asm); (case m1 => k_mem); (case m2 => k_mem); (case hes => exact rfl); (case U => k_upd); (case X => k_asm); (case T => k_asm); (case hroom => ((try simp only [depth_under_make, depth_in1, depth_deeper]); (try dsimp only); omega)); (case a1 => omega); (case a2 => omega); (case hsz => decide)); intro _ _ _ _))
  trivial
noncomputable abbrev lamBody : Expr := pk (subE (itr (kid (topS 13) 3)) 0) _ (by conv => rhs; whnf; rfl)
noncomputable abbrev lamScope : Scope := pk (scpE (itr (kid (topS 13) 3))) _ (by conv => rhs; whnf; rfl)
noncomputable abbrev lamParams : Arguments := pk (argsE (itr (kid (topS 13) 3))) _ (by conv => rhs; whnf; rfl)
noncomputable abbrev lamQ : Str := Str.ofString "_law_reader" ++ Str.ofString ".<locals>." ++ Str.ofString "<lambda>"
noncomputable abbrev lamObj (pm : Value) (c c' : Nat) (ctv : Value) : Obj := kla_obj (Str.ofString "<lambda>") lamQ lamParams lamBody lamScope [(Str.ofString "signs", c)] pm c' ctv
noncomputable abbrev tabO (c' : Nat) : Obj := tabObj #[rawInt 75, rawInt 18, .ref c']
inductive TabS : List (Addr × Obj) → Prop
  | fresh : TabS [(113, tabObj #[])]
  | made {c' : Nat} {occ : Obj} {vs : Array Value} {t : Tok} (d : occ.data = .fields vs) (e : vs[1]? = some (.str lamQ t)) (hne : c' ≠ 113) : TabS [(c', occ), (113, tabO c')]
set_option maxHeartbeats 8000000 in
theorem c_reader {w : World} {p : Program} {loose : List Str} {mean : ExcName → Option Value} {mg mb : Str → Option Value} {dp un : Nat} {fr : Option (List Env)} {gd : Option (List Code)} {E Q : Value → Shared → Prop} {s : Shared}
    {hb : Heap} {x : Str} {tx : Tok} {tab : List (Addr × Obj)} (B : Bs hb s.heap) (X : (hd.heap_39 w.params).In hb) (T : Top p loose mean mg mb hb) (C : CodeHd hb 117 113) (hroom : dp < 800) (N : Led hb s.heap tab) (tS : TabS tab)
    (hx : x.length ≤ sizeLine) (hrr : (Builtin.Str.occurrences x (Str.ofString "\x0d\x0d") 0 x.length 1).isEmpty = true)
    (ret : ∀ h' tk (lx ld pb st sd fn c sg c' k1 k2 k3 k4 tl tw n5 nsg : Nat) (es5 : List DictEntry) (oc occ : Obj) (chs : List Value) (pm ctv : Value) (vs : Array Value) (t : Tok), Bs hb h' →
      Led hb h' [(pb, listOf #[] 0), (lx, instObj 83 ld), (ld, dictOf (lexEs w.params k1 k2 k3 k4 tl tw 1 (.ref st) pb) 4), (fn, lamObj pm c c' ctv), (st, instObj 83 sd), (sd, dictOf es5 n5), (sg, listOf chs.reverse.toArray nsg), (c, oc), (c', occ), (113, tabO c')] →
      occ.data = .fields vs → vs[1]? = some (.str lamQ t) → oc.data = .cell (some (.ref sg)) → getL (Str.ofString "read") es5 = some (some (.ref fn)) → SV chs (signs x) →
      113 < c → s.heap.objs.size < c → c < sg → sg < sd → sd < st → st < fn → fn < ld → ld < lx → lx < pb → (c' < c ∨ st < c' ∧ c' < fn) → c' ≠ 113 → Q (.ref lx) { s with heap := h', toks := tk }) :
    wpAny (model PySem.Challenge.rw_sl0003_01.row.prog w) (AA dp un fr gd) (call (.ref 118) [.str x tx]) Q E s := by
  revert X; k_fill; intro X
  cases tS
  all_goals (
    refine entC (binds := [(Str.ofString "text", .str x tx)]) B X T N rfl rfl (by show dp < _; simp only [recursionLimit]; omega) rfl rfl (by decide +kernel) rfl rfl rfl ?_
    intro L h₁ tk cells e F' N' Y' l0 K'
    k_lt l0
    k_cells Y'
    simp only [List.cons_append, List.nil_append] at N'
    change wpAny _ _ _ _ _ _
    k_fold
    k_steps
    (try dsimp only [qk])
    rename Fr _ _ _ _ => F9
    rename News _ _ _ _ => N9
    rename SV _ _ => S9
    refine ret _ _ _ _ _ _ _ _ _ _ _ _ _ _ _ _ _ _ _ _ _ _ _ _ _ _ _ (toBs F9) (Led.sub (toLed N9) (List.forall_mem_cons.mpr ⟨by k_mem, List.forall_mem_cons.mpr ⟨by k_mem, List.forall_mem_cons.mpr ⟨by k_mem, List.forall_mem_cons.mpr ⟨by k_mem, List.forall_mem_cons.mpr ⟨by k_mem, List.forall_mem_cons.mpr ⟨by k_mem, List.forall_mem_cons.mpr ⟨by k_mem, List.forall_mem_cons.mpr ⟨by k_mem, List.forall_mem_cons.mpr ⟨by k_mem, List.forall_mem_cons.mpr ⟨by k_mem, List.forall_mem_nil _⟩⟩⟩⟩⟩⟩⟩⟩⟩⟩))
      (by assumption) (by assumption) (by assumption) (by exact rfl) S9 (by omega) (by omega) (by omega) (by omega) (by omega) (by omega) (by omega) (by omega) (by omega) (by omega) (by omega))
end Mine
end
section
open PySem PySem.W PyProof.Rows PySem.Calls PySem.Spec
namespace Mine
theorem start_Lex5 : True := by
  w_top off
  k_with_none
  trivial
theorem entL {prog : Program} {w : World} {A : Around} {E Q : Value → Shared → Prop} {s : Shared} {p : Program} {loose : List Str} {mean : ExcName → Option Value} {mg mb : Str → Option Value}
    {f c' : Addr} {pm ctv : Value} {name qual : Str} {params : Arguments} {body : Expr} {scope : Scope} {cl : List (Str × Addr)} {vals : List Value} {binds : List (Str × Value)}
    {hb : Heap} {news : List (Addr × Obj)} (B : Bs hb s.heap) (T : Top p loose mean mg mb hb) (N : Led hb s.heap news)
    (ho : (f, kla_obj name qual params body scope cl pm c' ctv) ∈ news) (hcd : s.heap.CodeRec (.ref c') qual) (hroom : A.depth < recursionLimit)
    (hbind : bindArgs (kla_fn name qual params body scope cl pm (.ref c') ctv) ⟨vals, []⟩ = pure binds) (hloc : (binds.all fun x => decide (scope.names.lookup x.1 = some .local)) = true)
    (hco : scope.isCoroutine = false) (hgen : scope.isGenerator = false) (hk : scope.kind = .function) (hcell : ∀ x ∈ scope.names, x.2 ≠ .cell)
    (h : ∀ L h₁, s.heap.objs.size = L → Fr hb L h₁ (fun y => binds.reverse.lookup y) → News hb L h₁ news → (∀ p ∈ news, @LT.lt Nat _ p.1 L) →
      wpAny (model prog w) (A.deeper (envX qual scope L f (.ref c') cl)) (eval body (envX qual scope L f (.ref c') cl)) (fun v s' => Q v s') (fun _ _ => False) { s with heap := h₁, toks := s.toks + binds.length }) :
    wpAny (model prog w) A (call (.ref f) vals) Q E s := by
  refine wpAny_call (kla_callFunE hroom (N _ ho).1 rfl hco hgen rfl hcd ?_)
  rw [hbind]
  refine wpAny_pure (wpAny_newFunctionEnv hcell (locs hloc) (fun h₁ hns hsb => ⟨((T.nolimit).keeps B.stays).fresh _ hsb, ?_⟩) hk)
  show codeAny _ _ (.expr body (envX qual scope s.heap.objs.size f (.ref c') cl)) _ _
  have hk₁ : ∀ b o, s.heap.get? b = some o → h₁.get? b = some o := fun b o e => hsb.extBut b o (Nat.ne_of_lt (Heap.lt_size e)) (Heap.get?_push_of_some _ e)
  exact kla_codeExpr (wpAny_mono (h s.heap.objs.size h₁ rfl ⟨hns, fun b o e => hk₁ b o (B.stays _ _ e), B.size⟩
    (fun p hp => ⟨hk₁ _ _ (N p hp).1, Nat.ne_of_lt (Heap.lt_size (N p hp).1), (N p hp).2⟩) (fun p hp => Heap.lt_size (N p hp).1)) (fun v s' hl => hl) fun _ _ x => x.elim)
theorem kl_last_snoc : ∀ (l : List Value) (y : Value), kl_last (l ++ [y]) = some (l, y)
  | [], y => rfl
  | x :: r, y => by
    show (match kl_last (r ++ [y]) with | some (p, z) => some (x :: p, z) | none => some ([], x)) = _
    rw [kl_last_snoc r y]
theorem truthy_snoc {prog : Program} {w : World} {A : Around} {E : Value → Shared → Prop} {s : Shared} {Q : Bool → Shared → Prop} {l : Addr} {ps : List Value} {y : Value} (hl : s.heap.IsList l (ps ++ [y]).toArray) (hz : ps.length < 1000000) (h : Q true { s with toks := s.toks + 1 + 1 }) :
    wpAny (model prog w) A (truthy (.ref l)) Q E s := wpAny_truthy_list hl (by simp; omega) (by
    have he : (!(ps ++ [y]).toArray.isEmpty) = true := by cases ps <;> rfl
    rw [he]; exact h)
theorem reg1_Lex5 : True := by
  k_with "eval Name" => ((k_here; k_dflt (first
  | (apply nameX_F; (case hb => decide); (case hn => decide); (case hk => exact rfl); (case hx => exact rfl); (case N => k_asm); (case hc => exact rfl); (case hm => k_mem); (case hd => assumption))
  | (apply nameX_L; (case hd => decide); (case F => k_asm); (case hk => exact rfl); (case hx => exact rfl); (case hv => exact rfl)))))
  k_with "truthy ref" => ((k_here; k_dflt (apply truthy_snoc; (case hl => exact News.isList (by k_asm) (by k_mem)); (case hz => assumption))))
  k_with "call builtin:list.pop" => ((k_here; k_dflt (apply kl_pop; (case F => k_asm); (case N => k_asm); (case U => k_upd); (case e => exact kl_last_snoc _ _); (case hz => (simp; simp only [sizeLine]; omega))); kl_rest))
  trivial
set_option maxHeartbeats 8000000 in
theorem c_lam1 {w : World} {p : Program} {loose : List Str} {mean : ExcName → Option Value} {mg mb : Str → Option Value} {dp un : Nat} {fr : Option (List Env)} {gd : Option (List Code)} {E Q : Value → Shared → Prop} {s : Shared}
    {h₀ : Heap} {L fn c c' sg ns : Nat} {m : Str → Option Value} {news news' : List (Addr × Obj)} {pm ctv y : Value} {ps : List Value} {oc occ : Obj} {vs : Array Value} {t ti : Tok}
    (X : (hd.heap_39 w.params).In h₀) (T : Top p loose mean mg mb h₀) (hroom : dp < 950) (F : Fr h₀ L s.heap m) (N : News h₀ L s.heap news)
    (m1 : (fn, lamObj pm c c' ctv) ∈ news) (m2 : (c, oc) ∈ news) (m3 : (c', occ) ∈ news) (d1 : occ.data = .fields vs) (d2 : vs[1]? = some (.str lamQ t)) (d3 : oc.data = .cell (some (.ref sg)))
    (U : Upd sg (listOf (ps ++ [y]).toArray ns) (listOf ps.toArray (ns + 1)) news news')
    (a1 : fn ≠ sg) (a2 : c ≠ sg) (a3 : c' ≠ sg) (hsz : ps.length < 1000000)
    (ret : ∀ h' tk, Fr h₀ L h' m → News h₀ L h' news' → Q y { s with heap := h', toks := tk }) :
    wpAny (model PySem.Challenge.rw_sl0003_01.row.prog w) (AA dp un fr gd) (call (.ref fn) [.int 1 ti]) Q E s := by
  revert X; k_fill; intro X
  have hcd : s.heap.CodeRec (.ref c') lamQ := ⟨c', occ, vs, t, rfl, (N _ m3).1, d1, d2⟩
  refine open_upd (ns := [(fn, lamObj pm c c' ctv), (c, oc), (c', occ), (sg, listOf (ps ++ [y]).toArray ns)]) (ns' := [(fn, lamObj pm c c' ctv), (c, oc), (c', occ), (sg, listOf ps.toArray (ns + 1))]) F N X T U
    (List.forall_mem_cons.mpr ⟨m1, List.forall_mem_cons.mpr ⟨m2, List.forall_mem_cons.mpr ⟨m3, List.forall_mem_cons.mpr ⟨Upd.inn U, List.forall_mem_nil _⟩⟩⟩⟩) (.tail _ (.tail _ (.tail _ (.head _))))
    (List.forall_mem_cons.mpr ⟨fun _ => .head _, List.forall_mem_cons.mpr ⟨fun _ => .tail _ (.head _), List.forall_mem_cons.mpr ⟨fun _ => .tail _ (.tail _ (.head _)), List.forall_mem_cons.mpr ⟨fun q => absurd rfl q, List.forall_mem_nil _⟩⟩⟩⟩) fun g B X2 T2 Ld fin => ?_
  clear F N X T m1 m2 m3 U
  refine entL (binds := [(Str.ofString "size", .int 1 ti)]) B T2 Ld (.head _) hcd (by show dp < _; simp only [recursionLimit]; omega) rfl rfl rfl rfl rfl (by decide) fun L2 h2 e F2 N2 l0 => ?_
  k_lt l0
  change wpAny _ _ _ _ _ _
  k_fold
  k_steps
  all_goals (
    (try dsimp only [qk])
    rename Fr _ _ _ _ => F9
    rename News _ _ _ _ => N9
    obtain ⟨F', N'⟩ := fin _ (toBs F9) (toLed N9)
    exact ret _ _ F' N')
theorem reg2_Lex5 : True := by
  k_with "truthy ref" => ((k_here; k_dflt (apply wpAny_truthy_list; (case hl => exact News.isList (by k_asm) (by k_mem)); (case hfit => decide)); dsimp only [Array.isEmpty_empty, Bool.not_true]))
  trivial
set_option maxHeartbeats 8000000 in
theorem c_lam0 {w : World} {p : Program} {loose : List Str} {mean : ExcName → Option Value} {mg mb : Str → Option Value} {dp un : Nat} {fr : Option (List Env)} {gd : Option (List Code)} {E Q : Value → Shared → Prop} {s : Shared}
    {h₀ : Heap} {L fn c c' sg ns : Nat} {m : Str → Option Value} {news : List (Addr × Obj)} {pm ctv : Value} {oc occ : Obj} {vs : Array Value} {t ti : Tok}
    (X : (hd.heap_39 w.params).In h₀) (T : Top p loose mean mg mb h₀) (hroom : dp < 950) (F : Fr h₀ L s.heap m) (N : News h₀ L s.heap news)
    (m1 : (fn, lamObj pm c c' ctv) ∈ news) (m2 : (c, oc) ∈ news) (m3 : (c', occ) ∈ news) (d1 : occ.data = .fields vs) (d2 : vs[1]? = some (.str lamQ t)) (d3 : oc.data = .cell (some (.ref sg)))
    (m4 : (sg, listOf #[] ns) ∈ news)
    (ret : ∀ h' tk u, Fr h₀ L h' m → News h₀ L h' news → Q (.str (Str.ofString "") u) { s with heap := h', toks := tk }) :
    wpAny (model PySem.Challenge.rw_sl0003_01.row.prog w) (AA dp un fr gd) (call (.ref fn) [.int 1 ti]) Q E s := by
  revert X; k_fill; intro X
  have hcd : s.heap.CodeRec (.ref c') lamQ := ⟨c', occ, vs, t, rfl, (N _ m3).1, d1, d2⟩
  refine open_same (ns := [(fn, lamObj pm c c' ctv), (c, oc), (c', occ), (sg, listOf #[] ns)]) F N X T
    (List.forall_mem_cons.mpr ⟨m1, List.forall_mem_cons.mpr ⟨m2, List.forall_mem_cons.mpr ⟨m3, List.forall_mem_cons.mpr ⟨m4, List.forall_mem_nil _⟩⟩⟩⟩) fun g B X2 T2 Ld fin2 => ?_
  clear F N X T m1 m2 m3 m4
  refine entL (binds := [(Str.ofString "size", .int 1 ti)]) B T2 Ld (.head _) hcd (by show dp < _; simp only [recursionLimit]; omega) rfl rfl rfl rfl rfl (by decide) fun L2 h2 e F2 N2 l0 => ?_
  k_lt l0
  change wpAny _ _ _ _ _ _
  k_fold
  k_steps
  all_goals (
    (try dsimp only [qk])
    rename Fr _ _ _ _ => F9
    rename News _ _ _ _ => N9
    obtain ⟨F', N'⟩ := fin2 _ (toBs F9) (toLed N9)
    exact ret _ _ _ F' N')
end Mine
end
section
open PySem PySem.W PyProof.Rows PySem.Calls PySem.Spec
namespace Mine
theorem start_Lex6 : True := by
  w_top off
  k_with_none
  trivial
theorem reg1_Lex6 : True := by
  k_with "getMethod ref" => ((k_here; k_dflt (apply kmu_own; (case F => k_asm); (case X₀ => k_asm); (case I => k_inst); (case hg => k_is); (case hf => k_is); k_whole)))
  k_with "call ref" => ((k_here; k_dflt (apply c_lam1; (case F => k_asm); (case N => k_asm); (case m1 => k_mem); (case m2 => k_mem); (case d1 => assumption); (case d2 => assumption); (case d3 => assumption); (case m3 => k_mem); (case U => k_upd); (case X => k_asm); (case T => k_asm); (case hroom => ((try simp only [depth_under_make, depth_in1, depth_deeper]); (try dsimp only); omega)); (case a1 => omega); (case a2 => omega); (case a3 => omega); (case hsz => assumption)); intro _ _ _ _))
  k_with "getAttr ref" => ((k_here; k_dflt (apply get_own; (case F => k_asm); (case X₀ => k_asm); (case I => k_inst); (case hg => k_is); (case hh => k_is); (case ha => k_is); (case hn => k_is); (case hl => first | k_get | assumption); (case hv => k_handed); k_whole)))
  k_with "callWith ref" => ((k_here; k_dflt (first
  | (apply callWith_F; (case he => rfl); (case hplain => rfl); (case _X => exact FnAt.of (by k_asm) (by k_mem)); k_whole)
  | (apply callWith_F0; (case X => exact FnAt.of (by k_asm) (by k_mem)); k_whole; try dsimp only [List.nil_append, List.cons_append]))))
  trivial
noncomputable def lineAdd (x : Nat) (ln : Int) : Int := if x = 10 then ln + 1 else ln
theorem nl_eq : (({ cps := #[10] } : Str) == Str.ofString "\n") = true := by decide +kernel
theorem nl_ne {x : Nat} (h : x ≠ 10) : (({ cps := #[x] } : Str) == Str.ofString "\n") = false := by
  rw [show Str.ofString "\n" = ⟨#[10]⟩ from by decide +kernel]
  cases q : (({ cps := #[x] } : Str) == ⟨#[10]⟩) with
  | false => rfl
  | true =>
    have := congrArg Str.cps (eq_of_beq q)
    simp at this
    exact absurd this h
theorem Upd.anns {d : Addr} {o o' : Obj} {news news' : List (Addr × Obj)} (U : Upd d o o' news news') : (d, o) ∈ news := Upd.inn U
set_option maxHeartbeats 8000000 in
/-- inside the callee: one sign read; the ledger of the lexer alone -/
theorem read_in {w : World} {p : Program} {loose : List Str} {mean : ExcName → Option Value} {mg mb : Str → Option Value} {dp un : Nat} {fr : Option (List Env)} {gd : Option (List Code)} {R : Result → Shared → Prop} {s : Shared}
    {lx ld pb st sd fn c sg c' k1 k2 k3 k4 tl tw n5 ns : Nat} {ln : Int} {pm ctv : Value} {oc occ : Obj} {vs : Array Value} {t : Tok} {es5 : List DictEntry} {ps : List Value} {x : Nat} {ty : Tok} {hb : Heap} (B : Bs hb s.heap) (X : (hd.heap_39 w.params).In hb) (T : Top p loose mean mg mb hb) (hroom : dp < 940)
    (N : Led hb s.heap [(lx, instObj 83 ld), (ld, dictOf (lexEs w.params k1 k2 k3 k4 tl tw ln (.ref st) pb) 4), (st, instObj 83 sd), (sd, dictOf es5 n5), (fn, lamObj pm c c' ctv), (c, oc), (c', occ), (sg, listOf (ps ++ [Value.str ⟨#[x]⟩ ty]).toArray ns)])
    (d1 : occ.data = .fields vs) (d2 : vs[1]? = some (.str lamQ t)) (d3 : oc.data = .cell (some (.ref sg))) (d4 : getL (Str.ofString "read") es5 = some (some (.ref fn)))
    (Ds : sg ≠ lx ∧ sg ≠ ld ∧ sg ≠ st ∧ sg ≠ sd ∧ sg ≠ fn ∧ sg ≠ c ∧ sg ≠ c' ∧ lx ≠ ld ∧ st ≠ ld ∧ sd ≠ ld ∧ fn ≠ ld ∧ c ≠ ld ∧ c' ≠ ld) (hsz : ps.length < 1000000)
    (ret : ∀ h' tk tl', Bs hb h' → Led hb h' [(lx, instObj 83 ld), (ld, dictOf (lexEs w.params k1 k2 k3 k4 tl' tw (lineAdd x ln) (.ref st) pb) 4), (st, instObj 83 sd), (sd, dictOf es5 n5), (fn, lamObj pm c c' ctv), (c, oc), (c', occ), (sg, listOf ps.toArray (ns + 1))] → R (.ok (.ret (.str ⟨#[x]⟩ ty))) { s with heap := h', toks := tk }) :
    codeAny (model PySem.Challenge.rw_sl0003_01.row.prog w) (AA dp un fr gd) (.call (.ref 66) ⟨[.ref lx], []⟩) R s := by
  revert X; k_fill; intro X
  obtain ⟨a4, a5, a6, a7, a1, a2, a3, b1, b2, b3, b4, b5, b6⟩ := Ds
  by_cases hx : x = 10
  · subst hx
    have he := nl_eq
    have hl : lineAdd 10 ln = ln + 1 := rfl
    rw [hl] at ret
    refine entCode (binds := [(Str.ofString "self", .ref lx)]) B X T N rfl rfl (by show dp < _; simp only [recursionLimit]; omega) rfl rfl rfl rfl rfl (by decide) fun L2 h2 e F2 N2 K2 => ?_
    change wpAny _ _ _ _ _ _
    clear N
    k_fold
    k_steps
    all_goals (
      (try dsimp only [qk])
      rename Fr _ _ _ _ => F9
      rename News _ _ _ _ => N9
      exact ret _ _ _ (toBs F9) (toLed N9))
  · have he := nl_ne hx
    have hl : lineAdd x ln = ln := if_neg hx
    rw [hl] at ret
    refine entCode (binds := [(Str.ofString "self", .ref lx)]) B X T N rfl rfl (by show dp < _; simp only [recursionLimit]; omega) rfl rfl rfl rfl rfl (by decide) fun L2 h2 e F2 N2 K2 => ?_
    change wpAny _ _ _ _ _ _
    clear N
    k_fold
    k_steps
    all_goals (
      (try dsimp only [qk])
      rename Fr _ _ _ _ => F9
      rename News _ _ _ _ => N9
      exact ret _ _ _ (toBs F9) (toLed N9))
theorem reg2_Lex6 : True := by
  k_with "call ref" => ((k_here; k_dflt (apply c_lam0; (case F => k_asm); (case N => k_asm); (case m1 => k_mem); (case m2 => k_mem); (case d1 => assumption); (case d2 => assumption); (case d3 => assumption); (case m3 => k_mem); (case m4 => k_mem); (case X => k_asm); (case T => k_asm); (case hroom => ((try simp only [depth_under_make, depth_in1, depth_deeper]); (try dsimp only); omega))); intro _ _ _ _ _))
  trivial
set_option maxHeartbeats 8000000 in
/-- inside the callee: one sign read; the ledger of the lexer alone -/
theorem read_end {w : World} {p : Program} {loose : List Str} {mean : ExcName → Option Value} {mg mb : Str → Option Value} {dp un : Nat} {fr : Option (List Env)} {gd : Option (List Code)} {R : Result → Shared → Prop} {s : Shared}
    {lx ld pb st sd fn c sg c' k1 k2 k3 k4 tl tw n5 ns : Nat} {ln : Int} {pm ctv : Value} {oc occ : Obj} {vs : Array Value} {t : Tok} {es5 : List DictEntry} {hb : Heap} (B : Bs hb s.heap) (X : (hd.heap_39 w.params).In hb) (T : Top p loose mean mg mb hb) (hroom : dp < 940)
    (N : Led hb s.heap [(lx, instObj 83 ld), (ld, dictOf (lexEs w.params k1 k2 k3 k4 tl tw ln (.ref st) pb) 4), (st, instObj 83 sd), (sd, dictOf es5 n5), (fn, lamObj pm c c' ctv), (c, oc), (c', occ), (sg, listOf #[] ns)])
    (d1 : occ.data = .fields vs) (d2 : vs[1]? = some (.str lamQ t)) (d3 : oc.data = .cell (some (.ref sg))) (d4 : getL (Str.ofString "read") es5 = some (some (.ref fn)))
    (Ds : sg ≠ lx ∧ sg ≠ ld ∧ sg ≠ st ∧ sg ≠ sd ∧ sg ≠ fn ∧ sg ≠ c ∧ sg ≠ c' ∧ lx ≠ ld ∧ st ≠ ld ∧ sd ≠ ld ∧ fn ≠ ld ∧ c ≠ ld ∧ c' ≠ ld)
    (ret : ∀ h' tk u, Bs hb h' → Led hb h' [(lx, instObj 83 ld), (ld, dictOf (lexEs w.params k1 k2 k3 k4 tl tw ln (.ref st) pb) 4), (st, instObj 83 sd), (sd, dictOf es5 n5), (fn, lamObj pm c c' ctv), (c, oc), (c', occ), (sg, listOf #[] ns)] → R (.ok (.ret (.str (Str.ofString "") u))) { s with heap := h', toks := tk }) :
    codeAny (model PySem.Challenge.rw_sl0003_01.row.prog w) (AA dp un fr gd) (.call (.ref 66) ⟨[.ref lx], []⟩) R s := by
  revert X; k_fill; intro X
  obtain ⟨a4, a5, a6, a7, a1, a2, a3, b1, b2, b3, b4, b5, b6⟩ := Ds
  have he : (Str.ofString "" == Str.ofString "\n") = false := by decide +kernel
  refine entCode (binds := [(Str.ofString "self", .ref lx)]) B X T N rfl rfl (by show dp < _; simp only [recursionLimit]; omega) rfl rfl rfl rfl rfl (by decide) fun L2 h2 e F2 N2 K2 => ?_
  change wpAny _ _ _ _ _ _
  clear N
  k_fold
  k_steps
  all_goals (
    (try dsimp only [qk])
    rename Fr _ _ _ _ => F9
    rename News _ _ _ _ => N9
    exact ret _ _ _ (toBs F9) (toLed N9))
end Mine
end
section
open PySem PySem.W PyProof.Rows PySem.Calls PySem.Spec
open Sem (wp)
namespace Mine
theorem start_Cit : True := by
  w_top off
  k_with_none
  trivial
theorem slot_cit_next : Slot "callable_iterator" "__next__" "callable_iterator.__next__" :=
  .of (owner := "callable_iterator") (n := "__next__") (by rw [typeLookup_type, builtinLookup_eq_fast]; kernel_rfl) (by decide +kernel) (by decide +kernel) (by decide +kernel)
    (by first | exact .inl (by decide +kernel) | exact .inr (by decide +kernel)) (by rw [isSubtype_type]; kernel_rfl)
theorem entry_cit_next : entryFor table "callable_iterator.__next__" = some Builtin.«callable_iterator.__next__» := entryFor_of_fast (by kernel_rfl)
theorem args_cit_next (a : Value) : argsOk "callable_iterator.__next__" ⟨[a], []⟩ := by unfold argsOk; kernel_rfl
noncomputable abbrev citObj (q : Nat) (ts : Nat) (b : Bool) : Obj := { cls := .type "callable_iterator", data := .fields #[.ref q, .str (Str.ofString "") ts, .bool b] }
noncomputable abbrev citEnd : Obj := { cls := .type "callable_iterator", data := .fields #[.none, .none, .bool true] }
section
variable {prog : Program} {w : World} {A : Around} {E : Value → Shared → Prop} {s : Shared}
theorem wpAny_callBorrowed {M : Model} {f : Value} {pos : List Value} {Q : Value → Shared → Prop}
    (hc : codeAny M A (.call f ⟨pos, []⟩) (fun r s' => match r with | .ok (.ret v) => Q v s' | .ok _ => False | .error e => E e s') s) :
    wpAny M A (callBorrowed f pos) Q E s := fun Γ p hΓ => by
  show wpCode M (Γ.enter (.call f ⟨pos, []⟩) none p) (fun r s' => wp M Γ _ _ _ p s') p s
  refine wpCode_mono (fun r s' hr => ?_) (hc _ p rfl (hΓ.enter _ none p (by intro x; cases x)))
  cases r with
  | error e => exact hr
  | ok f => cases f <;> exact hr
theorem wpAny_borrows {M : Model} {q lx : Nat} {of : Obj} {fd : FuncData} {Q : Bool → Shared → Prop} (hq : s.heap.get? q = some (methodObj (.ref 66) (.ref lx))) (hf : s.heap.get? 66 = some of) (hfd : of.data = .func fd) (h : Q true s) :
    wpAny M A (borrowsExactly (.ref q)) Q E s := by
  unfold borrowsExactly
  refine wpAny_bind (wpAny_load hq ?_)
  show wpAny _ _ (load 66 >>= _) _ _ s
  refine wpAny_bind (wpAny_load hf ?_)
  rw [hfd]
  exact wpAny_pure h
theorem cit_some {it q lx ts : Nat} {Q : Option Value → Shared → Prop} {of : Obj} {fd : FuncData}
    (ho : s.heap.get? it = some (citObj q ts false)) (hq : s.heap.get? q = some (methodObj (.ref 66) (.ref lx))) (hf : s.heap.get? 66 = some of) (hfd : of.data = .func fd)
    (h : codeAny (model prog w) A.in1 (.call (.ref 66) ⟨[.ref lx], []⟩) (fun r s' => ∃ x t, r = .ok (.ret (.str x t)) ∧ s'.heap.get? it = some (citObj q ts false) ∧ x ≠ Str.ofString "" ∧ Q (some (.str x t)) s') s) :
    wpAny (model prog w) A (pyNext (.ref it)) Q E s := by
  unfold pyNext
  refine wpAny_bind (wpAny_attempt (wpAny_callSpecial?_slot (name := Str.ofString "__next__") (T := "callable_iterator") ⟨_, ho, rfl⟩ slot_cit_next
    (wpAny_call_entry slot_cit_next ⟨_, ho, rfl⟩ entry_cit_next ?_ (args_cit_next _))))
  show wpAny _ _ (field (.ref it) 2 >>= _) _ _ s
  refine wpAny_bind (wpAny_field ho rfl (x := .bool false) rfl ?_)
  show wpAny _ _ (field (.ref it) 0 >>= _) _ _ s
  refine wpAny_bind (wpAny_field ho rfl (x := .ref q) rfl ?_)
  refine wpAny_bind (wpAny_attempt ?_)
  unfold callOutOfASlot
  refine wpAny_bind (wpAny_borrows hq hf hfd ?_)
  simp only [if_true]
  refine wpAny_callBorrowed (method_call hq (codeAny_mono h fun r s' hr => ?_))
  obtain ⟨x, t, rfl, hit, hne, hQ⟩ := hr
  show wpAny _ _ (field (.ref it) 2 >>= _) _ _ s'
  refine wpAny_bind (wpAny_field hit rfl (x := .bool false) rfl ?_)
  show wpAny _ _ (field (.ref it) 1 >>= _) _ _ s'
  refine wpAny_bind (wpAny_field hit rfl (x := .str (Str.ofString "") ts) rfl ?_)
  refine wpAny_bind (wpAny_holding (wpAny_eqBool_str ?_))
  rw [decide_eq_false (Ne.symm hne)]
  exact wpAny_pure ⟨_, rfl, wpAny_pure hQ⟩
theorem stop_tail {α : Type} {Q0 : α → Shared → Prop} {Q : Option Value → Shared → Prop} (hh : A.handled = none) {h : Heap} {tk : Nat}
    (hQ : ∀ h', (∀ b o, h.get? b = some o → h'.get? b = some o) → h.objs.size ≤ h'.objs.size → Q none { s with heap := h', toks := tk }) :
    wpAny (model prog w) A.in1 (Builtin.SmallTypes.stopIteration : Sem α) Q0
      (fun e s' => wpAny (model prog w) A (do
          let b ← isInstance e (Value.type "StopIteration")
          if b = true then pure none else throw e) Q E s') { s with heap := h, toks := tk } := by
  show wpAny _ _ (newExc (.type "StopIteration") [] >>= _) _ _ _
  refine wpAny_bind ?_
  simp only [newExc, newTuple]
  refine wpAny_bind (wpAny_newObj_type ?_ (by size_fits))
  refine wpAny_bind (m := firstArgMember _ _) (wpAny_of_eq (a := Value.none) (by first | rfl | (simp only [firstArgMember]; rfl)) ?_)
  refine wpAny_newObj_type ?_ (by size_fits)
  simp only [raiseNew]
  refine wpAny_bind (wpAny_handled ?_)
  first | rw [show A.in1.handled = none from hh] | rw [hh]
  refine wpAny_bind (wpAny_pure (wpAny_throw ?_))
  refine wpAny_bind (wpAny_isInstance (T := "StopIteration") (b := true) ⟨_, Heap.get?_push_size _ rfl, rfl⟩ isSubtype_stop ?_)
  refine wpAny_pure (hQ _ (fun b o e => Heap.get?_push_of_some _ (Heap.get?_push_of_some _ e)) ?_)
  simp only [Heap.size_push]; omega
theorem cit_ended {it : Nat} {Q : Option Value → Shared → Prop} (hh : A.handled = none) (ho : s.heap.get? it = some citEnd)
    (hQ : ∀ h', (∀ b o, s.heap.get? b = some o → h'.get? b = some o) → s.heap.objs.size ≤ h'.objs.size → Q none { s with heap := h' }) :
    wpAny (model prog w) A (pyNext (.ref it)) Q E s := by
  unfold pyNext
  refine wpAny_bind (wpAny_attempt (wpAny_callSpecial?_slot (name := Str.ofString "__next__") (T := "callable_iterator") ⟨_, ho, rfl⟩ slot_cit_next
    (wpAny_call_entry slot_cit_next ⟨_, ho, rfl⟩ entry_cit_next ?_ (args_cit_next _))))
  show wpAny _ _ (field (.ref it) 2 >>= _) _ _ s
  refine wpAny_bind (wpAny_field ho rfl (x := .bool true) rfl ?_)
  show wpAny _ _ (rule _ >>= _) _ _ s
  refine wpAny_bind (wpAny_rule ?_)
  exact wpAny_bind (stop_tail (s := s) (tk := s.toks) hh hQ)
theorem cit_none {it q lx ts : Nat} {Q : Option Value → Shared → Prop} {of : Obj} {fd : FuncData} (hh : A.handled = none)
    (ho : s.heap.get? it = some (citObj q ts false)) (hq : s.heap.get? q = some (methodObj (.ref 66) (.ref lx))) (hf : s.heap.get? 66 = some of) (hfd : of.data = .func fd)
    (h : codeAny (model prog w) A.in1 (.call (.ref 66) ⟨[.ref lx], []⟩) (fun r s' => ∃ t, r = .ok (.ret (.str (Str.ofString "") t)) ∧ s'.heap.get? it = some (citObj q ts false) ∧ s'.heap.get? q = some (methodObj (.ref 66) (.ref lx)) ∧ (∃ of', s'.heap.get? 66 = some of' ∧ of'.data = .func fd) ∧
      ∀ h', h'.get? it = some citEnd → (∀ b o, b ≠ it → s'.heap.get? b = some o → h'.get? b = some o) → s'.heap.objs.size ≤ h'.objs.size → Q none { s' with heap := h' }) s) :
    wpAny (model prog w) A (pyNext (.ref it)) Q E s := by
  unfold pyNext
  refine wpAny_bind (wpAny_attempt (wpAny_callSpecial?_slot (name := Str.ofString "__next__") (T := "callable_iterator") ⟨_, ho, rfl⟩ slot_cit_next
    (wpAny_call_entry slot_cit_next ⟨_, ho, rfl⟩ entry_cit_next ?_ (args_cit_next _))))
  show wpAny _ _ (field (.ref it) 2 >>= _) _ _ s
  refine wpAny_bind (wpAny_field ho rfl (x := .bool false) rfl ?_)
  show wpAny _ _ (field (.ref it) 0 >>= _) _ _ s
  refine wpAny_bind (wpAny_field ho rfl (x := .ref q) rfl ?_)
  refine wpAny_bind (wpAny_attempt ?_)
  unfold callOutOfASlot
  refine wpAny_bind (wpAny_borrows hq hf hfd ?_)
  simp only [if_true]
  refine wpAny_callBorrowed (method_call hq (codeAny_mono h fun r s' hr => ?_))
  obtain ⟨t, rfl, hit, hq', ⟨of', hf', hfd'⟩, hQ⟩ := hr
  show wpAny _ _ (field (.ref it) 2 >>= _) _ _ s'
  refine wpAny_bind (wpAny_field hit rfl (x := .bool false) rfl ?_)
  show wpAny _ _ (field (.ref it) 1 >>= _) _ _ s'
  refine wpAny_bind (wpAny_field hit rfl (x := .str (Str.ofString "") ts) rfl ?_)
  refine wpAny_bind (wpAny_holding (wpAny_eqBool_str ?_))
  rw [decide_eq_true rfl]
  show wpAny _ _ (rule _ >>= fun _ => _ >>= _) _ _ s'
  refine wpAny_bind (wpAny_rule (wpAny_bind ?_))
  show wpAny _ _ (field (.ref it) 0 >>= fun x => slotLetsGo _ x _ >>= _) _ _ s'
  refine wpAny_bind (wpAny_field hit rfl (x := .ref q) rfl (wpAny_bind ?_))
  unfold slotLetsGo
  refine wpAny_bind (wpAny_borrows hq' hf' hfd' ?_)
  simp only [if_true]
  refine wpAny_pure ?_
  refine wpAny_bind (wpAny_setField_rec hit (by simp) fun h1 e1 k1 => ?_)
  refine wpAny_bind (wpAny_setField_rec e1 (by simp) fun h2 e2 k2 => ?_)
  refine wpAny_setField_rec e2 (by simp) fun h3 e3 k3 => ?_
  refine stop_tail (s := s') (tk := s'.toks) hh fun h' k' sz => hQ h' (by simpa using k' _ _ e3) (fun b o hb e => k' _ _ (k3.extBut _ _ hb (k2.extBut _ _ hb (k1.extBut _ _ hb e)))) ?_
  exact Nat.le_trans (Nat.le_of_eq ((k3.1.trans (k2.1.trans k1.1))).symm) sz
end
end Mine
end
section
open PySem PySem.W PyProof.Rows PySem.Calls PySem.Spec
namespace Mine
theorem start_Tok1 : True := by
  w_top off
  k_with_none
  trivial
theorem slot_cit_iter : Slot "callable_iterator" "__iter__" "callable_iterator.__iter__" :=
  .of (owner := "callable_iterator") (n := "__iter__") (by rw [typeLookup_type, builtinLookup_eq_fast]; kernel_rfl) (by decide +kernel) (by decide +kernel) (by decide +kernel)
    (by first | exact .inl (by decide +kernel) | exact .inr (by decide +kernel)) (by rw [isSubtype_type]; kernel_rfl)
theorem entry_cit_iter : entryFor table "callable_iterator.__iter__" = some Builtin.«dict_keyiterator.__iter__» :=
  entryFor_alias (id' := "dict_keyiterator.__iter__") (by kernel_rfl) rfl (by decide +kernel) (by kernel_rfl)
theorem args_cit_iter (a : Value) : argsOk "callable_iterator.__iter__" ⟨[a], []⟩ := by unfold argsOk; kernel_rfl
theorem look_method_call : typeLookup (.type "method") (Str.ofString "__call__") = pure (some (.builtin "method.__call__")) := by rw [typeLookup_type, builtinLookup_eq_fast]; kernel_rfl
theorem entry_iter : entryFor table "iter" = some Builtin.«iter» := entryFor_of_fast (by kernel_rfl)
theorem args_iter2 (a b : Value) : argsOk "iter" ⟨[a, b], []⟩ := by unfold argsOk; kernel_rfl
section
variable {prog : Program} {w : World} {A : Around} {E : Value → Shared → Prop} {s : Shared} {h₀ : Heap} {L : Addr} {m : Str → Option Value} {news : List (Addr × Obj)}
theorem pyIter_cit {it : Nat} {vs : Array Value} {Q : Value → Shared → Prop} (hit : s.heap.get? it = some { cls := .type "callable_iterator", data := .fields vs }) (h : Q (.ref it) s) :
    wpAny (model prog w) A (pyIter (.ref it)) Q E s := by
  have T : s.TypeIs (.ref it) "callable_iterator" := ⟨_, hit, rfl⟩
  refine wpAny_pyIter_slot T slot_cit_iter (wpAny_call_entry slot_cit_iter T entry_cit_iter ?_ (args_cit_iter _))
  show wpAny _ _ (ret (.ref it)) _ _ s
  exact wpAny_pure ⟨_, rfl, "callable_iterator", _, T, slot_cit_next.lookup, h⟩
theorem iter2 {q lx ts : Nat} {Q : Value → Shared → Prop} (F : Fr h₀ L s.heap m) (N : News h₀ L s.heap news) (hq : (q, methodObj (.ref 66) (.ref lx)) ∈ news)
    (h : ∀ (it : Nat) h', Fr h₀ L h' m → News h₀ L h' ((it, citObj q ts false) :: news) → (∀ p ∈ news, @LT.lt Nat _ p.1 it) → Q (.ref it) { s with heap := h' }) :
    wpAny (model prog w) A (call (.builtin "iter") [.ref q, .str (Str.ofString "") ts]) Q E s := by
  refine call_function_entry (by decide +kernel) (by decide +kernel) entry_iter (args_iter2 _ _) ?_
  show wpAny _ _ (specialOf (.ref q) "__call__" >>= _) _ _ s
  have T : s.TypeIs (.ref q) "method" := ⟨_, (N _ hq).1, rfl⟩
  refine wpAny_bind (wpAny_specialOf T look_method_call ?_)
  show wpAny _ _ (rule _ >>= _) _ _ s
  refine wpAny_bind (wpAny_rule (wpAny_bind (wpAny_newObj_type (wpAny_pure ⟨_, rfl, ?_⟩) (by size_fits))))
  exact h s.heap.objs.size _ (F.push _) (N.push F _) (fun p hp => Heap.lt_size (N p hp).1)
noncomputable def TurnEnd (I : Nat → Shared → Prop) (Q : Flow → Shared → Prop) (n : Nat) (f : Flow) (s₃ : Shared) : Prop := match f with
  | .next | .cont => ∃ m, m < n ∧ I m s₃
  | .brk => Q .next s₃
  | .ret v => Q (.ret v) s₃
theorem wpAny_ForI {env : Env} {target iter : Expr} {body orelse : List Stmt} {pos : Pos} {Q : Flow → Shared → Prop} (I : Nat → Shared → Prop) (it : Value)
    (hi : wpAny (model prog w) A (eval iter env) (fun x s₁ => wpAny (model prog w) A (pyIter x) (fun it' s₂ => it' = it ∧ ∃ n, I n s₂) (fun _ _ => False) s₁) (fun _ _ => False) s)
    (turn : ∀ n s, I n s → wpAny (model prog w) A (pyNext it) (fun r s₁ => match r with
      | none => wpAny (model prog w) A (execs orelse env) Q (fun _ _ => False) s₁
      | some v => wpAny (model prog w) A (assign target env v) (fun _ s₂ => wpAny (model prog w) A (execs body env) (TurnEnd I Q n) (fun _ _ => False) s₂) (fun _ _ => False) s₁) (fun _ _ => False) s)
    (ht : ∀ v, letOwnedTupleGo target it v = pure () := by intro _; rfl)
    (hs : ∀ x, foldedSetIterable iter env x = pure x := by intro _; rfl) :
    wpAny (model prog w) A (exec (.For target iter body orelse pos) env) Q E s := by
  refine wpAny_For (wpAny_mono hi (fun x s₁ h₁ => wpAny_mono h₁ (fun it' s₂ h₂ => ?_) fun _ _ x => x.elim) fun _ _ x => x.elim) hs
  obtain ⟨rfl, n, hI⟩ := h₂
  refine codeAny_forLoop I (fun n s h => wpAny_mono (turn n s h) (fun r s₁ h₁ => ?_) fun _ _ x => x.elim) n hI ht
  cases r with
  | none => exact wpAny_mono h₁ (fun _ _ x => x) fun _ _ x => x.elim
  | some v =>
    refine wpAny_mono h₁ (fun _ s₂ h₂ => wpAny_mono h₂ (fun f s₃ h₃ => ?_) fun _ _ x => x.elim) fun _ _ x => x.elim
    cases f <;> exact h₃
end
inductive BareT : List Nat → List Nat → List Nat → Prop
  | fin : BareT [] [] []
  | stop {c : Nat} {r : List Nat} : c ∈ [10, 9, 13, 32] → BareT (c :: r) [] r
  | plain {c : Nat} {r t r' : List Nat} : c ∉ [10, 9, 13, 32] → c ≠ 92 → BareT r t r' → BareT (c :: r) (c :: t) r'
  | esc {d : Nat} {r t r' : List Nat} : BareT r t r' → BareT (92 :: d :: r) (d :: t) r'
inductive QuoT : List Nat → List Nat → List Nat → Prop
  | stop {r : List Nat} : QuoT (34 :: r) [] r
  | plain {c : Nat} {r t r' : List Nat} : c ≠ 34 → c ≠ 92 → QuoT r t r' → QuoT (c :: r) (c :: t) r'
  | esc {d : Nat} {r t r' : List Nat} : QuoT r t r' → QuoT (92 :: d :: r) (d :: t) r'
inductive TokT : List Nat → List Nat → List Nat → Prop
  | fin : TokT [] [] []
  | skip {c : Nat} {r t r' : List Nat} : c ∈ [10, 9, 13, 32] → TokT r t r' → TokT (c :: r) t r'
  | quo {r t r' : List Nat} : QuoT r t r' → TokT (34 :: r) t r'
  | esc {d : Nat} {r t r' : List Nat} : BareT r t r' → TokT (92 :: d :: r) (d :: t) r'
  | bare {c : Nat} {r t r' : List Nat} : c ∉ [10, 9, 13, 32] → c ≠ 34 → c ≠ 92 → BareT r t r' → TokT (c :: r) (c :: t) r'
end Mine
end
section
open PySem PySem.W PyProof.Rows PySem.Calls PySem.Spec
namespace Mine
theorem start_Tok2 : True := by
  w_top off
  k_with_none
  trivial
noncomputable abbrev gtScope : Scope := pk (scp (kid (topS 5) 2)) _ (by conv => rhs; whnf; rfl)
noncomputable abbrev gtEnv (L : Nat) : Env := envOf (Str.ofString "_netrclex.get_token") gtScope L 73 (.ref 72)
noncomputable abbrev gtBare : Stmt := pk ((els (kid (kid (kid (topS 5) 2) 3) 1)).getD 2 noS) _ (by conv => rhs; whnf; rfl)
noncomputable abbrev gtQuo : Stmt := pk (kid (kid (kid (kid (topS 5) 2) 3) 1) 0) _ (by conv => rhs; whnf; rfl)
noncomputable abbrev mT (lx it : Nat) (acc : Str) (ta : Nat) (ch : Option Value) : Str → Option Value := fun y =>
  if y = Str.ofString "ch" then ch else if y = Str.ofString "token" then some (.str acc ta) else if y = Str.ofString "fiter" then some (.ref it) else if y = Str.ofString "self" then some (.ref lx) else none
noncomputable abbrev lexLed (P : Params) (lx ld st sd fn c c' sg pb k1 k2 k3 k4 tl tw n5 ns np : Nat) (ln : Int) (es5 : List DictEntry) (pm ctv : Value) (oc occ : Obj) (its : Array Value) : List (Addr × Obj) :=
  [(lx, instObj 83 ld), (ld, dictOf (lexEs P k1 k2 k3 k4 tl tw ln (.ref st) pb) 4), (st, instObj 83 sd), (sd, dictOf es5 n5), (fn, lamObj pm c c' ctv), (c, oc), (c', occ), (sg, listOf its ns), (pb, listOf #[] np)]
noncomputable def sgn (x : Nat) : Str := ⟨#[x]⟩
noncomputable def nl : List Nat → Int
  | [] => 0
  | x :: r => (if x = 10 then 1 else 0) + nl r
theorem Fr.congr {h₀ h : Heap} {L : Addr} {m m' : Str → Option Value} (F : Fr h₀ L h m) (e : ∀ y, m y = m' y) : Fr h₀ L h m' := (funext e : m = m') ▸ F
theorem ws_in {x : Nat} : (!(Builtin.Str.occurrences wsS ⟨#[x]⟩ 0 wsS.length 1).isEmpty) = decide (x ∈ [10, 9, 13, 32]) := by
  rw [StrLaws.found_one]
  rw [show wsS.cps.toList = [10, 9, 13, 32] from by decide +kernel]
section
variable {w : World} {p : Program} {loose : List Str} {mean : ExcName → Option Value} {mg mb : Str → Option Value} {dp un : Nat} {fr : Option (List Env)} {gd : Option (List Code)} {s : Shared}
  {lx ld pb st sd fn c sg c' k1 k2 k3 k4 tl tw n5 ns np it q ts L : Nat} {ln : Int} {pm ctv : Value} {oc occ : Obj} {vs : Array Value} {t : Tok} {es5 : List DictEntry} {hb : Heap} {m : Str → Option Value}
structure LexOk (lx ld pb st sd fn c sg c' : Nat) (es5 : List DictEntry) (oc occ : Obj) (vs : Array Value) (t : Tok) : Prop where
  d1 : occ.data = .fields vs
  d2 : vs[1]? = some (.str lamQ t)
  d3 : oc.data = .cell (some (.ref sg))
  d4 : getL (Str.ofString "read") es5 = some (some (.ref fn))
  ds : sg ≠ lx ∧ sg ≠ ld ∧ sg ≠ st ∧ sg ≠ sd ∧ sg ≠ fn ∧ sg ≠ c ∧ sg ≠ c' ∧ lx ≠ ld ∧ st ≠ ld ∧ sd ≠ ld ∧ fn ≠ ld ∧ c ≠ ld ∧ c' ≠ ld
  dp : pb ≠ lx ∧ pb ≠ ld ∧ pb ≠ st ∧ pb ≠ sd ∧ pb ≠ fn ∧ pb ≠ c ∧ pb ≠ c' ∧ pb ≠ sg
theorem sv_cons {chs : List Value} {x : Nat} {r : List Nat} (h : SV chs ((x :: r).map sgn)) : ∃ ty chs', chs = .str ⟨#[x]⟩ ty :: chs' ∧ SV chs' (r.map sgn) := by
  cases h with
  | cons h => exact ⟨_, _, rfl, h⟩
theorem sv_nil {chs : List Value} (h : SV chs (([] : List Nat).map sgn)) : chs = [] := by cases h; rfl
theorem sub89 {a1 a2 a3 a4 a5 a6 a7 a8 a9 : Addr × Obj} {own : List (Addr × Obj)} : ∀ p ∈ [a1, a2, a3, a4, a5, a6, a7, a8], p ∈ own ++ [a1, a2, a3, a4, a5, a6, a7, a8, a9] :=
  fun _ hp => List.mem_append_right _ (List.mem_append_left [a9] hp)
theorem pick9 {P : Addr × Obj → Prop} {a1 a2 a3 a4 a5 a6 a7 a8 a9 p : Addr × Obj} (e : p ∈ [a1, a2, a3, a4, a5, a6, a7, a8, a9]) (h1 : P a1) (h2 : P a2) (h3 : P a3) (h4 : P a4) (h5 : P a5) (h6 : P a6) (h7 : P a7) (h8 : P a8) (h9 : P a9) : P p := by
  cases e with
  | head => exact h1
  | tail _ e => cases e with
  | head => exact h2
  | tail _ e => cases e with
  | head => exact h3
  | tail _ e => cases e with
  | head => exact h4
  | tail _ e => cases e with
  | head => exact h5
  | tail _ e => cases e with
  | head => exact h6
  | tail _ e => cases e with
  | head => exact h7
  | tail _ e => cases e with
  | head => exact h8
  | tail _ e => cases e with
  | head => exact h9
  | tail _ e => cases e
theorem led_turn {h₀ h : Heap} {L : Addr} {own : List (Addr × Obj)} {a1 a2 b2 a3 a4 a5 a6 a7 a8 b8 a9 : Addr × Obj} (N : News h₀ L h (own ++ [a1, a2, a3, a4, a5, a6, a7, a8, a9])) (ho : ∀ p ∈ own, p.1 ≠ a8.1 ∧ p.1 ≠ a2.1)
    (h9 : a9.1 ≠ a1.1 ∧ a9.1 ≠ a2.1 ∧ a9.1 ≠ a3.1 ∧ a9.1 ≠ a4.1 ∧ a9.1 ≠ a5.1 ∧ a9.1 ≠ a6.1 ∧ a9.1 ≠ a7.1 ∧ a9.1 ≠ a8.1) :
    ∀ p ∈ own ++ [a1, b2, a3, a4, a5, a6, a7, b8, a9], p ∈ [a1, b2, a3, a4, a5, a6, a7, b8] ∨ (p ∈ own ++ [a1, a2, a3, a4, a5, a6, a7, a8, a9] ∧ (p.1 ∈ [a1, a2, a3, a4, a5, a6, a7, a8].map (·.1) → p ∈ [a1, b2, a3, a4, a5, a6, a7, b8])) := by
  intro p hp
  rcases List.mem_append.mp hp with q | q
  · refine .inr ⟨List.mem_append_left _ q, fun r => ?_⟩
    have e := same_in N (ns := [a1, a2, a3, a4, a5, a6, a7, a8]) sub89 (List.mem_append_left _ q) r
    refine pick9 (P := fun x => (x.1 ≠ a8.1 ∧ x.1 ≠ a2.1) → x ∈ [a1, b2, a3, a4, a5, a6, a7, b8]) (a9 := a1) (List.mem_append_left [a1] e) ?_ ?_ ?_ ?_ ?_ ?_ ?_ ?_ ?_ (ho p q)
    · exact fun _ => .head _
    · exact fun n => absurd rfl n.2
    · exact fun _ => .tail _ (.tail _ (.head _))
    · exact fun _ => .tail _ (.tail _ (.tail _ (.head _)))
    · exact fun _ => .tail _ (.tail _ (.tail _ (.tail _ (.head _))))
    · exact fun _ => .tail _ (.tail _ (.tail _ (.tail _ (.tail _ (.head _)))))
    · exact fun _ => .tail _ (.tail _ (.tail _ (.tail _ (.tail _ (.tail _ (.head _))))))
    · exact fun n => absurd rfl n.1
    · exact fun _ => .head _
  · rcases List.mem_append.mp (show p ∈ [a1, b2, a3, a4, a5, a6, a7, b8] ++ [a9] from q) with q | q
    · exact .inl q
    · cases List.mem_singleton.mp q
      refine .inr ⟨List.mem_append_right _ (List.mem_append_right [a1, a2, a3, a4, a5, a6, a7, a8] (.head _)), fun r => ?_⟩
      obtain ⟨x, hx, e⟩ := List.mem_map.mp r
      exact absurd e (pick9 (P := fun x => ¬ x.1 = a9.1) (a9 := a1) (List.mem_append_left [a1] hx) (Ne.symm h9.1) (Ne.symm h9.2.1) (Ne.symm h9.2.2.1) (Ne.symm h9.2.2.2.1) (Ne.symm h9.2.2.2.2.1) (Ne.symm h9.2.2.2.2.2.1) (Ne.symm h9.2.2.2.2.2.2.1) (Ne.symm h9.2.2.2.2.2.2.2) (Ne.symm h9.1))
theorem led_turn9 {h₀ h : Heap} {L : Addr} {own : List (Addr × Obj)} {a1 a2 b2 a3 a4 a5 a6 a7 a8 b8 a9 : Addr × Obj} (N : News h₀ L h (own ++ [a1, a2, a3, a4, a5, a6, a7, a8, a9])) (ho : ∀ p ∈ own, p.1 ≠ a8.1 ∧ p.1 ≠ a2.1) :
    ∀ p ∈ own ++ [a1, b2, a3, a4, a5, a6, a7, b8, a9], p ∈ [a1, b2, a3, a4, a5, a6, a7, b8, a9] ∨ (p ∈ own ++ [a1, a2, a3, a4, a5, a6, a7, a8, a9] ∧ (p.1 ∈ [a1, a2, a3, a4, a5, a6, a7, a8, a9].map (·.1) → p ∈ [a1, b2, a3, a4, a5, a6, a7, b8, a9])) := by
  intro p hp
  rcases List.mem_append.mp hp with q | q
  · refine .inr ⟨List.mem_append_left _ q, fun r => ?_⟩
    have e := same_in N (ns := [a1, a2, a3, a4, a5, a6, a7, a8, a9]) (fun _ hp => List.mem_append_right _ hp) (List.mem_append_left _ q) r
    refine pick9 (P := fun x => (x.1 ≠ a8.1 ∧ x.1 ≠ a2.1) → x ∈ [a1, b2, a3, a4, a5, a6, a7, b8, a9]) e ?_ ?_ ?_ ?_ ?_ ?_ ?_ ?_ ?_ (ho p q)
    · exact fun _ => .head _
    · exact fun n => absurd rfl n.2
    · exact fun _ => .tail _ (.tail _ (.head _))
    · exact fun _ => .tail _ (.tail _ (.tail _ (.head _)))
    · exact fun _ => .tail _ (.tail _ (.tail _ (.tail _ (.head _))))
    · exact fun _ => .tail _ (.tail _ (.tail _ (.tail _ (.tail _ (.head _)))))
    · exact fun _ => .tail _ (.tail _ (.tail _ (.tail _ (.tail _ (.tail _ (.head _))))))
    · exact fun n => absurd rfl n.1
    · exact fun _ => List.mem_append_right [a1, b2, a3, a4, a5, a6, a7, b8] (.head _)
  · exact .inl q
/-- a sign is read: the ledger in the caller's frame -/
theorem read_fr {R : Result → Shared → Prop} {r : List Nat} {x : Nat} {chs : List Value} {own : List (Addr × Obj)} (X : (hd.heap_39 w.params).In hb) (T : Top p loose mean mg mb hb) (hroom : dp < 940)
    (F : Fr hb L s.heap m) (N : News hb L s.heap (own ++ lexLed w.params lx ld st sd fn c c' sg pb k1 k2 k3 k4 tl tw n5 ns np ln es5 pm ctv oc occ chs.reverse.toArray))
    (ho : ∀ p ∈ own, p.1 ≠ sg ∧ p.1 ≠ ld) (ok : LexOk lx ld pb st sd fn c sg c' es5 oc occ vs t) (hsv : SV chs ((x :: r).map sgn)) (hsz : r.length < 1000000)
    (ret : ∀ h' tk tl' ty chs', Fr hb L h' m → News hb L h' (own ++ lexLed w.params lx ld st sd fn c c' sg pb k1 k2 k3 k4 tl' tw n5 (ns + 1) np (lineAdd x ln) es5 pm ctv oc occ chs'.reverse.toArray) → SV chs' (r.map sgn) →
      R (.ok (.ret (.str ⟨#[x]⟩ ty))) { s with heap := h', toks := tk }) :
    codeAny (model PySem.Challenge.rw_sl0003_01.row.prog w) (AA dp un fr gd) (.call (.ref 66) ⟨[.ref lx], []⟩) R s := by
  obtain ⟨ty, chs', rfl, hsv'⟩ := sv_cons hsv
  rw [List.reverse_cons] at N
  refine open_all (ns := [(lx, instObj 83 ld), (ld, dictOf (lexEs w.params k1 k2 k3 k4 tl tw ln (.ref st) pb) 4), (st, instObj 83 sd), (sd, dictOf es5 n5), (fn, lamObj pm c c' ctv), (c, oc), (c', occ), (sg, listOf (chs'.reverse ++ [Value.str ⟨#[x]⟩ ty]).toArray ns)]) F N X T
    sub89 fun g B X2 T2 st' Ld fin => ?_
  refine read_in B X2 T2 hroom Ld ok.d1 ok.d2 ok.d3 ok.d4 ok.ds (by have := hsv'.length; simp at this ⊢; omega) fun h' tk tl' B' L' => ?_
  obtain ⟨F', N'⟩ := fin h' _ (own ++ lexLed w.params lx ld st sd fn c c' sg pb k1 k2 k3 k4 tl' tw n5 (ns + 1) np (lineAdd x ln) es5 pm ctv oc occ chs'.reverse.toArray) B' L' (led_turn N ho ok.dp)
  exact ret h' tk tl' ty chs' F' N' hsv'
end
end Mine
end
section
open PySem PySem.W PyProof.Rows PySem.Calls PySem.Spec
namespace Mine
theorem start_Tok3 : True := by
  w_top off
  k_with_none
  trivial
theorem mkI {C : (Nat → Shared → Prop) → Prop} (hC : C (fun n s' => ∀ P, C P → P n s')) : ∃ I, C I ∧ ∀ n s', I n s' → ∀ G : Prop, C (fun a b => a = n → b = s' → G) → G := ⟨_, hC, fun _ _ h _ k => h _ k rfl rfl⟩
section
variable {w : World} {p : Program} {loose : List Str} {mean : ExcName → Option Value} {mg mb : Str → Option Value} {dp un : Nat} {fr : Option (List Env)} {gd : Option (List Code)} {s : Shared}
  {lx ld pb st sd fn c sg c' k1 k2 k3 k4 tl tw n5 ns np it q ts L : Nat} {ln : Int} {pm ctv : Value} {oc occ : Obj} {vs : Array Value} {t : Tok} {es5 : List DictEntry} {hb : Heap} {m : Str → Option Value}
theorem end_fr {R : Result → Shared → Prop} {own : List (Addr × Obj)} (X : (hd.heap_39 w.params).In hb) (T : Top p loose mean mg mb hb) (hroom : dp < 940)
    (F : Fr hb L s.heap m) (N : News hb L s.heap (own ++ lexLed w.params lx ld st sd fn c c' sg pb k1 k2 k3 k4 tl tw n5 ns np ln es5 pm ctv oc occ #[]))
    (ok : LexOk lx ld pb st sd fn c sg c' es5 oc occ vs t)
    (ret : ∀ h' tk u, Fr hb L h' m → News hb L h' (own ++ lexLed w.params lx ld st sd fn c c' sg pb k1 k2 k3 k4 tl tw n5 ns np ln es5 pm ctv oc occ #[]) →
      R (.ok (.ret (.str (Str.ofString "") u))) { s with heap := h', toks := tk }) :
    codeAny (model PySem.Challenge.rw_sl0003_01.row.prog w) (AA dp un fr gd) (.call (.ref 66) ⟨[.ref lx], []⟩) R s := by
  refine open_same (ns := [(lx, instObj 83 ld), (ld, dictOf (lexEs w.params k1 k2 k3 k4 tl tw ln (.ref st) pb) 4), (st, instObj 83 sd), (sd, dictOf es5 n5), (fn, lamObj pm c c' ctv), (c, oc), (c', occ), (sg, listOf #[] ns)]) F N X T
    sub89 fun g B X2 T2 Ld fin => ?_
  refine read_end B X2 T2 hroom Ld ok.d1 ok.d2 ok.d3 ok.d4 ok.ds fun h' tk u B' L' => ?_
  obtain ⟨F', N'⟩ := fin h' B' L'
  exact ret h' tk u F' N'
theorem ext_upd {h h' : Heap} {a : Addr} {o o' : Obj} {rest : List (Addr × Obj)} (F : Fr hb L h m) (N : News hb L h ((a, o) :: rest)) (e : h'.get? a = some o') (k : ∀ b o, b ≠ a → h.get? b = some o → h'.get? b = some o)
    (d : ∀ p ∈ rest, p.1 ≠ a) : Fr hb L h' m ∧ News hb L h' ((a, o') :: rest) := by
  have n := N _ (.head _)
  refine ⟨⟨F.ns.extBut k n.2.1.symm, fun b x e => k _ _ (fun q => by rw [q, n.2.2] at e; cases e) (F.keep _ _ e), F.above⟩, fun p hp => ?_⟩
  rcases List.mem_cons.mp hp with rfl | hp
  · exact ⟨e, n.2⟩
  · have n2 := N p (.tail _ hp)
    exact ⟨k _ _ (d p hp) n2.1, n2.2⟩
theorem sgn_ne {x : Nat} : (⟨#[x]⟩ : Str) ≠ Str.ofString "" := fun e => by
  have := congrArg (fun s => s.cps.size) e
  revert this
  rw [show (Str.ofString "").cps = #[] from by decide +kernel]
  simp
theorem line_nl (x : Nat) (l : Int) (r : List Nat) : lineAdd x l + nl r = l + nl (x :: r) := by
  simp only [lineAdd, nl]; split <;> omega
theorem chtok : (Str.ofString "ch" = Str.ofString "token") = False := eq_false (by decide)
theorem tokch : (Str.ofString "token" = Str.ofString "ch") = False := eq_false (by decide)
theorem cat_nil {a b : Str} {t : List Nat} (h : a ++ ⟨([] : List Nat).toArray⟩ = b ++ ⟨t.toArray⟩) : a = b ++ ⟨t.toArray⟩ := by
  rw [← h]; apply Str.ext'; simp [Str.cps_append]
theorem cat_cons (a : Str) (x : Nat) (t : List Nat) : (a ++ ⟨#[x]⟩) ++ ⟨t.toArray⟩ = a ++ ⟨(x :: t).toArray⟩ := by
  apply Str.ext'
  simp only [Str.cps_append]
  apply Array.toList_inj.mp
  simp
theorem len_one (a : Str) (x : Nat) : (a ++ ⟨#[x]⟩).length = a.length + 1 := by
  simp [Str.length, Str.cps_append]
theorem bs_eq : (({ cps := #[92] } : Str) == Str.ofString "\\") = true := by decide +kernel
theorem bs_ne {x : Nat} (h : x ≠ 92) : (({ cps := #[x] } : Str) == Str.ofString "\\") = false := by
  rw [show Str.ofString "\\" = ⟨#[92]⟩ from by decide +kernel]
  cases q : (({ cps := #[x] } : Str) == ⟨#[92]⟩) with
  | false => rfl
  | true => have := congrArg Str.cps (eq_of_beq q); simp at this; exact absurd this h
theorem qu_eq : (({ cps := #[34] } : Str) == Str.ofString "\"") = true := by decide +kernel
theorem qu_ne {x : Nat} (h : x ≠ 34) : (({ cps := #[x] } : Str) == Str.ofString "\"") = false := by
  rw [show Str.ofString "\"" = ⟨#[34]⟩ from by decide +kernel]
  cases q : (({ cps := #[x] } : Str) == ⟨#[34]⟩) with
  | false => rfl
  | true => have := congrArg Str.cps (eq_of_beq q); simp at this; exact absurd this h
theorem frC {h : Heap} {acc : Str} {ta : Nat} {ch : Option Value} {v : Value} (F : Fr hb L h (fun y => if y = Str.ofString "ch" then some v else mT lx it acc ta ch y)) : Fr hb L h (mT lx it acc ta (some v)) :=
  Fr.congr F (by intro y; by_cases h1 : y = Str.ofString "ch" <;> simp [mT, h1])
theorem frTC {h : Heap} {acc a : Str} {ta ta2 : Nat} {ch : Option Value} {v : Value} (F : Fr hb L h (fun y => if y = Str.ofString "token" then some (.str a ta2) else if y = Str.ofString "ch" then some v else mT lx it acc ta ch y)) : Fr hb L h (mT lx it a ta2 (some v)) :=
  Fr.congr F (by intro y; by_cases h1 : y = Str.ofString "ch" <;> by_cases h2 : y = Str.ofString "token" <;> simp_all [mT, chtok, tokch])
noncomputable abbrev ownI (it q lx ts : Nat) (b : Bool) : List (Addr × Obj) := [(it, citObj q ts b), (q, methodObj (.ref 66) (.ref lx))]
structure Apart (it q lx ld st sd fn c sg c' pb : Nat) : Prop where
  a : q ≠ it ∧ lx ≠ it ∧ ld ≠ it ∧ st ≠ it ∧ sd ≠ it ∧ fn ≠ it ∧ c ≠ it ∧ c' ≠ it ∧ sg ≠ it ∧ pb ≠ it
  b : q ≠ sg ∧ q ≠ ld
set_option maxHeartbeats 8000000 in
theorem bare_loop {E : Value → Shared → Prop} {Q : Flow → Shared → Prop} {r tr r' : List Nat} {acc : Str} {ta : Nat} {ch : Option Value} {chs : List Value}
    (X : (hd.heap_39 w.params).In hb) (T : Top p loose mean mg mb hb) (hroom : dp < 930) (ok : LexOk lx ld pb st sd fn c sg c' es5 oc occ vs t) (ap : Apart it q lx ld st sd fn c sg c' pb)
    (F : Fr hb L s.heap (mT lx it acc ta ch)) (N : News hb L s.heap (ownI it q lx ts false ++ lexLed w.params lx ld st sd fn c c' sg pb k1 k2 k3 k4 tl tw n5 ns np ln es5 pm ctv oc occ chs.reverse.toArray))
    (hsv : SV chs (r.map sgn)) (hB : BareT r tr r') (hsz : r.length < 1000000) (hacc : acc.length + tr.length < 1000000)
    (retS : ∀ h' tk ta' ch' tl' ns' chs' ln', Fr hb L h' (mT lx it (acc ++ ⟨tr.toArray⟩) ta' ch') → News hb L h' (ownI it q lx ts false ++ lexLed w.params lx ld st sd fn c c' sg pb k1 k2 k3 k4 tl' tw n5 ns' np ln' es5 pm ctv oc occ chs'.reverse.toArray) →
      SV chs' (r'.map sgn) → ln' + nl r' = ln + nl r → Q (.ret (.str (acc ++ ⟨tr.toArray⟩) ta')) { s with heap := h', toks := tk })
    (retF : ∀ h' tk ta' ch' tl' ns' ln', r' = [] → Fr hb L h' (mT lx it (acc ++ ⟨tr.toArray⟩) ta' ch') → News hb L h' ((it, citEnd) :: (q, methodObj (.ref 66) (.ref lx)) :: lexLed w.params lx ld st sd fn c c' sg pb k1 k2 k3 k4 tl' tw n5 ns' np ln' es5 pm ctv oc occ #[]) →
      ln' = ln + nl r → Q .next { s with heap := h', toks := tk }) :
    wpAny (model PySem.Challenge.rw_sl0003_01.row.prog w) (AA dp un fr gd) (exec gtBare (gtEnv L)) Q E s := by
  revert X; k_fill; intro X
  have h66 := X 66 _ rfl
  have dd := ap.a
  have d2 := ap.b
  obtain ⟨e1, e2, e3, e4, e5, e6, e7, e8, e9, e10⟩ := dd
  have dpq := ok.ds
  have hown : ∀ p ∈ ownI it q lx ts false, p.1 ≠ sg ∧ p.1 ≠ ld := List.forall_mem_cons.mpr ⟨⟨Ne.symm e9, Ne.symm e3⟩, List.forall_mem_cons.mpr ⟨d2, List.forall_mem_nil _⟩⟩
  obtain ⟨I, i1, i2⟩ := mkI (C := fun P => ∀ h tk acc' ta ch r2 t2 chs tl ns ln2, Fr hb L h (mT lx it acc' ta ch) →
      News hb L h (ownI it q lx ts false ++ lexLed w.params lx ld st sd fn c c' sg pb k1 k2 k3 k4 tl tw n5 ns np ln2 es5 pm ctv oc occ chs.reverse.toArray) →
      SV chs (r2.map sgn) → BareT r2 t2 r' → r2.length < 1000000 → acc'.length + t2.length < 1000000 → acc' ++ ⟨t2.toArray⟩ = acc ++ ⟨tr.toArray⟩ → ln2 + nl r2 = ln + nl r → P (r2.length + 1) { s with heap := h, toks := tk })
    (fun h tk acc' ta ch r2 t2 chs tl ns ln2 a1 a2 a3 a4 a5 a6 a7 a8 P k => k h tk acc' ta ch r2 t2 chs tl ns ln2 a1 a2 a3 a4 a5 a6 a7 a8)
  refine wpAny_ForI (I := I) (.ref it) ?_ ?_
  · refine PyProof.Rows.ld F (v := .ref it) (by rfl) ?_
    exact pyIter_cit (N _ (.head _)).1 ⟨rfl, _, i1 s.heap s.toks acc ta ch r tr chs tl ns ln F N hsv hB hsz hacc rfl rfl⟩
  intro n s' hI
  refine i2 n s' hI _ fun h tk acc' ta' ch' r2 t2 chs2 tl2 ns2 ln2 F2 N2 sv2 hB2 hz2 ha2 hcat hln en es => ?_
  clear hI i2
  subst en es
  have n66 := F2.keep _ _ h66
  clear F N hsv hB hsz hacc
  cases hB2 with
  | fin =>
    obtain rfl := sv_nil sv2
    refine cit_none (lx := lx) rfl (N2 _ (.head _)).1 (N2 _ (.tail _ (.head _))).1 n66 rfl (end_fr (own := ownI it q lx ts false) X T (by simp; omega) F2 N2 ok fun h' tk u F' N' => ?_)
    refine ⟨u, rfl, (N' _ (.head _)).1, (N' _ (.tail _ (.head _))).1, ⟨_, F'.keep _ _ h66, rfl⟩, fun h'' e k _ => ?_⟩
    have ⟨F3, N3⟩ := ext_upd (a := it) (rest := (q, methodObj (.ref 66) (.ref lx)) :: lexLed w.params lx ld st sd fn c c' sg pb k1 k2 k3 k4 tl2 tw n5 ns2 np ln2 es5 pm ctv oc occ #[]) F' N' e k (by
      intro p hp
      simp only [List.mem_cons, List.not_mem_nil, or_false] at hp
      rcases hp with r | r | r | r | r | r | r | r | r | r <;> (rw [r]; assumption))
    have he := cat_nil hcat
    rw [he] at F3
    show wpAny _ _ (execs [] _) _ _ _
    exact wpAny_pure (retF _ _ _ _ _ _ _ rfl F3 N3 (by simpa [nl] using hln))
  | @stop x r3 hc =>
    refine cit_some (lx := lx) (N2 _ (.head _)).1 (N2 _ (.tail _ (.head _))).1 n66 rfl (read_fr (own := ownI it q lx ts false) X T (by simp; omega) F2 N2 hown ok sv2 (by simp at hz2; omega) fun h' tk tl' ty chs' F' N' sv' => ?_)
    refine ⟨⟨#[x]⟩, ty, rfl, (N' _ (.head _)).1, sgn_ne, ?_⟩
    clear N2 F2
    have hws : (!(Builtin.Str.occurrences wsS ⟨#[x]⟩ 0 wsS.length 1).isEmpty) = true := by rw [ws_in]; exact decide_eq_true hc
    dsimp only [lexLed, ownI, List.cons_append, List.nil_append] at N'
    k_steps
    rename Fr _ _ _ _ => F9
    rename News _ _ _ _ => N9
    (try dsimp only)
    rw [cat_nil hcat] at F9 ⊢
    exact retS _ _ _ _ _ _ _ _ (frC F9) N9 sv' (by rw [line_nl]; exact hln)
  | @plain x r3 t3 _ hc1 hc2 hr =>
    refine cit_some (lx := lx) (N2 _ (.head _)).1 (N2 _ (.tail _ (.head _))).1 n66 rfl (read_fr (own := ownI it q lx ts false) X T (by simp; omega) F2 N2 hown ok sv2 (by simp at hz2; omega) fun h' tk tl' ty chs' F' N' sv' => ?_)
    refine ⟨⟨#[x]⟩, ty, rfl, (N' _ (.head _)).1, sgn_ne, ?_⟩
    clear N2 F2
    have hws : (!(Builtin.Str.occurrences wsS ⟨#[x]⟩ 0 wsS.length 1).isEmpty) = false := by rw [ws_in]; exact decide_eq_false hc1
    have hbs := bs_ne hc2
    have hlen := len_one acc' x
    simp only [List.length_cons] at ha2 hz2
    dsimp only [lexLed, ownI, List.cons_append, List.nil_append] at N'
    k_steps
    rename Fr _ _ _ _ => F9
    rename News _ _ _ _ => N9
    exact ⟨r3.length + 1, by simp, i1 _ _ (acc' ++ ⟨#[x]⟩) _ _ r3 t3 chs' _ _ _ (frTC F9) N9 sv' hr (by omega) (by omega) (by rw [cat_cons]; exact hcat) (by rw [line_nl]; exact hln)⟩
  | @esc x r3 t3 _ hr =>
    refine cit_some (lx := lx) (N2 _ (.head _)).1 (N2 _ (.tail _ (.head _))).1 n66 rfl (read_fr (own := ownI it q lx ts false) X T (by simp; omega) F2 N2 hown ok sv2 (by simp at hz2 ⊢; omega) fun h' tk tl' ty chs' F' N' sv' => ?_)
    refine ⟨⟨#[92]⟩, ty, rfl, (N' _ (.head _)).1, sgn_ne, ?_⟩
    clear N2 F2
    have hws : (!(Builtin.Str.occurrences wsS ⟨#[92]⟩ 0 wsS.length 1).isEmpty) = false := by rw [ws_in]; decide
    have hws2 : (!(Builtin.Str.occurrences wsS (Str.ofString "\\") 0 wsS.length 1).isEmpty) = false := by decide +kernel
    have hbs := bs_eq
    have hlen := len_one acc' x
    simp only [List.length_cons] at ha2 hz2
    dsimp only [lexLed, ownI, List.cons_append, List.nil_append] at N'
    k_steps
    rotate_left
    · exfalso; rename (Builtin.Str.occurrences wsS (Str.ofString "\\") 0 wsS.length 1).isEmpty = false => hbad; rw [hbad] at hws2; cases hws2
    rename Fr _ _ _ _ => F9
    rename News _ _ _ _ => N9
    refine wpAny_call (read_fr (own := ownI it q lx ts false) (ns := ns2 + 1) X T (by omega) (frC F9) N9 hown ok sv' (by omega) fun h3 tk3 tl3 ty3 chs3 F3 N3 sv3 => ?_)
    clear F9 N9
    dsimp only [lexLed, ownI, List.cons_append, List.nil_append] at N3
    k_steps
    rename Fr _ _ _ _ => F9
    rename News _ _ _ _ => N9
    exact ⟨r3.length + 1, by simp, i1 _ _ (acc' ++ ⟨#[x]⟩) _ _ r3 t3 chs3 _ _ _ (frTC F9) N9 sv3 hr (by omega) (by omega) (by rw [cat_cons]; exact hcat) (by rw [line_nl, line_nl]; exact hln)⟩
end
end Mine
end
section
open PySem PySem.W PyProof.Rows PySem.Calls PySem.Spec
namespace Mine
theorem start_Tok4 : True := by
  w_top off
  k_with_none
  trivial
section
variable {w : World} {p : Program} {loose : List Str} {mean : ExcName → Option Value} {mg mb : Str → Option Value} {dp un : Nat} {fr : Option (List Env)} {gd : Option (List Code)} {s : Shared}
  {lx ld pb st sd fn c sg c' k1 k2 k3 k4 tl tw n5 ns np it q ts L : Nat} {ln : Int} {pm ctv : Value} {oc occ : Obj} {vs : Array Value} {t : Tok} {es5 : List DictEntry} {hb : Heap} {m : Str → Option Value}
set_option maxHeartbeats 8000000 in
theorem quo_loop {E : Value → Shared → Prop} {Q : Flow → Shared → Prop} {r tr r' : List Nat} {acc : Str} {ta : Nat} {ch : Option Value} {chs : List Value}
    (X : (hd.heap_39 w.params).In hb) (T : Top p loose mean mg mb hb) (hroom : dp < 930) (ok : LexOk lx ld pb st sd fn c sg c' es5 oc occ vs t) (ap : Apart it q lx ld st sd fn c sg c' pb)
    (F : Fr hb L s.heap (mT lx it acc ta ch)) (N : News hb L s.heap (ownI it q lx ts false ++ lexLed w.params lx ld st sd fn c c' sg pb k1 k2 k3 k4 tl tw n5 ns np ln es5 pm ctv oc occ chs.reverse.toArray))
    (hsv : SV chs (r.map sgn)) (hB : QuoT r tr r') (hsz : r.length < 1000000) (hacc : acc.length + tr.length < 1000000)
    (retS : ∀ h' tk ta' ch' tl' ns' chs' ln', Fr hb L h' (mT lx it (acc ++ ⟨tr.toArray⟩) ta' ch') → News hb L h' (ownI it q lx ts false ++ lexLed w.params lx ld st sd fn c c' sg pb k1 k2 k3 k4 tl' tw n5 ns' np ln' es5 pm ctv oc occ chs'.reverse.toArray) →
      SV chs' (r'.map sgn) → ln' + nl r' = ln + nl r → Q (.ret (.str (acc ++ ⟨tr.toArray⟩) ta')) { s with heap := h', toks := tk }) :
    wpAny (model PySem.Challenge.rw_sl0003_01.row.prog w) (AA dp un fr gd) (exec gtQuo (gtEnv L)) Q E s := by
  revert X; k_fill; intro X
  have h66 := X 66 _ rfl
  have dd := ap.a
  have d2 := ap.b
  obtain ⟨e1, e2, e3, e4, e5, e6, e7, e8, e9, e10⟩ := dd
  have dpq := ok.ds
  have hown : ∀ p ∈ ownI it q lx ts false, p.1 ≠ sg ∧ p.1 ≠ ld := List.forall_mem_cons.mpr ⟨⟨Ne.symm e9, Ne.symm e3⟩, List.forall_mem_cons.mpr ⟨d2, List.forall_mem_nil _⟩⟩
  obtain ⟨I, i1, i2⟩ := mkI (C := fun P => ∀ h tk acc' ta ch r2 t2 chs tl ns ln2, Fr hb L h (mT lx it acc' ta ch) →
      News hb L h (ownI it q lx ts false ++ lexLed w.params lx ld st sd fn c c' sg pb k1 k2 k3 k4 tl tw n5 ns np ln2 es5 pm ctv oc occ chs.reverse.toArray) →
      SV chs (r2.map sgn) → QuoT r2 t2 r' → r2.length < 1000000 → acc'.length + t2.length < 1000000 → acc' ++ ⟨t2.toArray⟩ = acc ++ ⟨tr.toArray⟩ → ln2 + nl r2 = ln + nl r → P (r2.length + 1) { s with heap := h, toks := tk })
    (fun h tk acc' ta ch r2 t2 chs tl ns ln2 a1 a2 a3 a4 a5 a6 a7 a8 P k => k h tk acc' ta ch r2 t2 chs tl ns ln2 a1 a2 a3 a4 a5 a6 a7 a8)
  refine wpAny_ForI (I := I) (.ref it) ?_ ?_
  · refine PyProof.Rows.ld F (v := .ref it) (by rfl) ?_
    exact pyIter_cit (N _ (.head _)).1 ⟨rfl, _, i1 s.heap s.toks acc ta ch r tr chs tl ns ln F N hsv hB hsz hacc rfl rfl⟩
  intro n s' hI
  refine i2 n s' hI _ fun h tk acc' ta' ch' r2 t2 chs2 tl2 ns2 ln2 F2 N2 sv2 hB2 hz2 ha2 hcat hln en es => ?_
  clear hI i2
  subst en es
  have n66 := F2.keep _ _ h66
  clear F N hsv hB hsz hacc
  cases hB2 with
  | @stop r3 =>
    refine cit_some (lx := lx) (N2 _ (.head _)).1 (N2 _ (.tail _ (.head _))).1 n66 rfl (read_fr (own := ownI it q lx ts false) X T (by simp; omega) F2 N2 hown ok sv2 (by simp at hz2; omega) fun h' tk tl' ty chs' F' N' sv' => ?_)
    refine ⟨⟨#[34]⟩, ty, rfl, (N' _ (.head _)).1, sgn_ne, ?_⟩
    clear N2 F2
    have hqu := qu_eq
    dsimp only [lexLed, ownI, List.cons_append, List.nil_append] at N'
    k_steps
    rename Fr _ _ _ _ => F9
    rename News _ _ _ _ => N9
    (try dsimp only)
    rw [cat_nil hcat] at F9 ⊢
    exact retS _ _ _ _ _ _ _ _ (frC F9) N9 sv' (by rw [line_nl]; exact hln)
  | @plain x r3 t3 _ hc1 hc2 hr =>
    refine cit_some (lx := lx) (N2 _ (.head _)).1 (N2 _ (.tail _ (.head _))).1 n66 rfl (read_fr (own := ownI it q lx ts false) X T (by simp; omega) F2 N2 hown ok sv2 (by simp at hz2; omega) fun h' tk tl' ty chs' F' N' sv' => ?_)
    refine ⟨⟨#[x]⟩, ty, rfl, (N' _ (.head _)).1, sgn_ne, ?_⟩
    clear N2 F2
    have hqu := qu_ne hc1
    have hbs := bs_ne hc2
    have hlen := len_one acc' x
    simp only [List.length_cons] at ha2 hz2
    dsimp only [lexLed, ownI, List.cons_append, List.nil_append] at N'
    k_steps
    rename Fr _ _ _ _ => F9
    rename News _ _ _ _ => N9
    exact ⟨r3.length + 1, by simp, i1 _ _ (acc' ++ ⟨#[x]⟩) _ _ r3 t3 chs' _ _ _ (frTC F9) N9 sv' hr (by omega) (by omega) (by rw [cat_cons]; exact hcat) (by rw [line_nl]; exact hln)⟩
  | @esc x r3 t3 _ hr =>
    refine cit_some (lx := lx) (N2 _ (.head _)).1 (N2 _ (.tail _ (.head _))).1 n66 rfl (read_fr (own := ownI it q lx ts false) X T (by simp; omega) F2 N2 hown ok sv2 (by simp at hz2 ⊢; omega) fun h' tk tl' ty chs' F' N' sv' => ?_)
    refine ⟨⟨#[92]⟩, ty, rfl, (N' _ (.head _)).1, sgn_ne, ?_⟩
    clear N2 F2
    have hqu : (({ cps := #[92] } : Str) == Str.ofString "\"") = false := qu_ne (by decide)
    have hbs := bs_eq
    have hlen := len_one acc' x
    simp only [List.length_cons] at ha2 hz2
    dsimp only [lexLed, ownI, List.cons_append, List.nil_append] at N'
    k_steps
    rename Fr _ _ _ _ => F9
    rename News _ _ _ _ => N9
    refine wpAny_call (read_fr (own := ownI it q lx ts false) (ns := ns2 + 1) X T (by omega) (frC F9) N9 hown ok sv' (by omega) fun h3 tk3 tl3 ty3 chs3 F3 N3 sv3 => ?_)
    clear F9 N9
    dsimp only [lexLed, ownI, List.cons_append, List.nil_append] at N3
    k_steps
    rename Fr _ _ _ _ => F9
    rename News _ _ _ _ => N9
    exact ⟨r3.length + 1, by simp, i1 _ _ (acc' ++ ⟨#[x]⟩) _ _ r3 t3 chs3 _ _ _ (frTC F9) N9 sv3 hr (by omega) (by omega) (by rw [cat_cons]; exact hcat) (by rw [line_nl, line_nl]; exact hln)⟩
end
end Mine
end
section
open PySem PySem.W PyProof.Rows PySem.Calls PySem.Spec
namespace Mine
theorem start_Tok5 : True := by
  w_top off
  k_with_none
  trivial
theorem mkI2 {C D : (Nat → Shared → Prop) → Prop} (hC : C (fun n s' => ∀ P, C P → D P → P n s')) (hD : D (fun n s' => ∀ P, C P → D P → P n s')) : ∃ I, C I ∧ D I ∧ ∀ n s', I n s' → ∀ G : Prop, C (fun a b => a = n → b = s' → G) → D (fun a b => a = n → b = s' → G) → G := ⟨_, hC, hD, fun _ _ h _ k k2 => h _ k k2 rfl rfl⟩
noncomputable abbrev gtOuter : Stmt := pk (kid (kid (topS 5) 2) 3) _ (by conv => rhs; whnf; rfl)
section
variable {w : World} {p : Program} {loose : List Str} {mean : ExcName → Option Value} {mg mb : Str → Option Value} {dp un : Nat} {fr : Option (List Env)} {gd : Option (List Code)} {s : Shared}
  {lx ld pb st sd fn c sg c' k1 k2 k3 k4 tl tw n5 ns np it q ts L : Nat} {ln : Int} {pm ctv : Value} {oc occ : Obj} {vs : Array Value} {t : Tok} {es5 : List DictEntry} {hb : Heap} {m : Str → Option Value}
noncomputable def Stuck (P : Prop) : Prop := P
theorem stuck {P : Prop} (h : Stuck P) : P := h
theorem reg1_Tok5 : True := by
  k_with "exec For Name Name cons nil" => ((k_here; (with_reducible show wpAny _ _ (exec (Stmt.For _ _ _ _ _) _) _ _ _); apply stuck))
  trivial
theorem pre_cat (x : Nat) (t : List Nat) : (Str.ofString "" ++ ⟨#[x]⟩) ++ ⟨t.toArray⟩ = ⟨(x :: t).toArray⟩ := by
  rw [cat_cons]; apply Str.ext'; rw [Str.cps_append, show (Str.ofString "").cps = #[] from by decide +kernel]; simp
theorem pre_nil (t : List Nat) : Str.ofString "" ++ ⟨t.toArray⟩ = ⟨t.toArray⟩ := by
  apply Str.ext'; rw [Str.cps_append, show (Str.ofString "").cps = #[] from by decide +kernel]; simp
theorem pre_len (x : Nat) : (Str.ofString "" ++ ⟨#[x]⟩).length = 1 := by
  rw [len_one, show (Str.ofString "").length = 0 from by decide +kernel]
set_option maxHeartbeats 16000000 in
theorem outer_loop {E : Value → Shared → Prop} {Q : Flow → Shared → Prop} {r tr r' : List Nat} {ta : Nat} {chs : List Value}
    (X : (hd.heap_39 w.params).In hb) (T : Top p loose mean mg mb hb) (hroom : dp < 930) (ok : LexOk lx ld pb st sd fn c sg c' es5 oc occ vs t) (ap : Apart it q lx ld st sd fn c sg c' pb)
    (F : Fr hb L s.heap (mT lx it (Str.ofString "") ta none)) (N : News hb L s.heap (ownI it q lx ts false ++ lexLed w.params lx ld st sd fn c c' sg pb k1 k2 k3 k4 tl tw n5 ns np ln es5 pm ctv oc occ chs.reverse.toArray))
    (hsv : SV chs (r.map sgn)) (hB : TokT r tr r') (hsz : r.length < 1000000) (hacc : tr.length < 900000)
    (retS : ∀ h' tk m' ta' tl' ns' chs' ln', Fr hb L h' m' → News hb L h' (ownI it q lx ts false ++ lexLed w.params lx ld st sd fn c c' sg pb k1 k2 k3 k4 tl' tw n5 ns' np ln' es5 pm ctv oc occ chs'.reverse.toArray) →
      SV chs' (r'.map sgn) → ln' + nl r' = ln + nl r → Q (.ret (.str ⟨tr.toArray⟩ ta')) { s with heap := h', toks := tk })
    (retF : ∀ h' tk ta' ch' tl' ns' ln', r' = [] → Fr hb L h' (mT lx it ⟨tr.toArray⟩ ta' ch') → News hb L h' ((it, citEnd) :: (q, methodObj (.ref 66) (.ref lx)) :: lexLed w.params lx ld st sd fn c c' sg pb k1 k2 k3 k4 tl' tw n5 ns' np ln' es5 pm ctv oc occ #[]) →
      ln' = ln + nl r → Q .next { s with heap := h', toks := tk }) :
    wpAny (model PySem.Challenge.rw_sl0003_01.row.prog w) (AA dp un fr gd) (exec gtOuter (gtEnv L)) Q E s := by
  revert X; k_fill; intro X
  have h66 := X 66 _ rfl
  have dd := ap.a
  have d2 := ap.b
  obtain ⟨e1, e2, e3, e4, e5, e6, e7, e8, e9, e10⟩ := dd
  have dpq := ok.ds
  have hown : ∀ p ∈ ownI it q lx ts false, p.1 ≠ sg ∧ p.1 ≠ ld := List.forall_mem_cons.mpr ⟨⟨Ne.symm e9, Ne.symm e3⟩, List.forall_mem_cons.mpr ⟨d2, List.forall_mem_nil _⟩⟩
  obtain ⟨I, i1, i3, i2⟩ := mkI2 (C := fun P => ∀ h tk ta ch r2 chs tl ns ln2, Fr hb L h (mT lx it (Str.ofString "") ta ch) → News hb L h (ownI it q lx ts false ++ lexLed w.params lx ld st sd fn c c' sg pb k1 k2 k3 k4 tl tw n5 ns np ln2 es5 pm ctv oc occ chs.reverse.toArray) → SV chs (r2.map sgn) → TokT r2 tr r' → r2.length < 1000000 → ln2 + nl r2 = ln + nl r → P (r2.length + 1) { s with heap := h, toks := tk })
    (D := fun P => ∀ h tk ta ch tl ns ln2, Fr hb L h (mT lx it ⟨tr.toArray⟩ ta ch) → News hb L h ((it, citEnd) :: (q, methodObj (.ref 66) (.ref lx)) :: lexLed w.params lx ld st sd fn c c' sg pb k1 k2 k3 k4 tl tw n5 ns np ln2 es5 pm ctv oc occ #[]) → r' = [] → ln2 = ln + nl r → P 0 { s with heap := h, toks := tk })
    (fun h tk ta ch r2 chs tl ns ln2 a1 a2 a3 a4 a5 a6 P k _ => k h tk ta ch r2 chs tl ns ln2 a1 a2 a3 a4 a5 a6) (fun h tk ta ch tl ns ln2 a1 a2 a3 a4 P _ k => k h tk ta ch tl ns ln2 a1 a2 a3 a4)
  refine wpAny_ForI (I := I) (.ref it) ?_ ?_
  · refine PyProof.Rows.ld F (v := .ref it) (by rfl) ?_
    exact pyIter_cit (N _ (.head _)).1 ⟨rfl, _, i1 s.heap s.toks ta none r chs tl ns ln F N hsv hB hsz rfl⟩
  intro n s' hI
  refine i2 n s' hI _ (fun h tk ta' ch' r2 chs2 tl2 ns2 ln2 F2 N2 sv2 hB2 hz2 hln en es => ?_) fun h tk ta' ch' tl2 ns2 ln2 F2 N2 hr hln en es => ?_
  all_goals clear hI i2
  all_goals subst en es
  rotate_left
  · refine cit_ended rfl (N2 _ (.head _)).1 fun h' k _ => ?_
    exact wpAny_pure (retF _ _ _ _ _ _ _ hr ⟨F2.ns.keeps k, fun b o e => k _ _ (F2.keep _ _ e), F2.above⟩ (fun p hp => ⟨k _ _ (N2 p hp).1, (N2 p hp).2⟩) hln)
  have n66 := F2.keep _ _ h66
  clear F N hsv hB hsz
  cases hB2 with
  | fin =>
    obtain rfl := sv_nil sv2
    refine cit_none (lx := lx) rfl (N2 _ (.head _)).1 (N2 _ (.tail _ (.head _))).1 n66 rfl (end_fr (own := ownI it q lx ts false) X T (by simp; omega) F2 N2 ok fun h' tk u F' N' => ?_)
    refine ⟨u, rfl, (N' _ (.head _)).1, (N' _ (.tail _ (.head _))).1, ⟨_, F'.keep _ _ h66, rfl⟩, fun h'' e k _ => ?_⟩
    have ⟨F3, N3⟩ := ext_upd (a := it) (rest := (q, methodObj (.ref 66) (.ref lx)) :: lexLed w.params lx ld st sd fn c c' sg pb k1 k2 k3 k4 tl2 tw n5 ns2 np ln2 es5 pm ctv oc occ #[]) F' N' e k (by
      intro p hp
      simp only [List.mem_cons, List.not_mem_nil, or_false] at hp
      rcases hp with r | r | r | r | r | r | r | r | r | r <;> (rw [r]; assumption))
    exact wpAny_pure (retF _ _ _ _ _ _ _ rfl (show Fr hb L h'' (mT lx it ⟨[].toArray⟩ ta' ch') from F3) N3 (by simpa [nl] using hln))
  | @skip x r3 _ _ hc hr =>
    refine cit_some (lx := lx) (N2 _ (.head _)).1 (N2 _ (.tail _ (.head _))).1 n66 rfl (read_fr (own := ownI it q lx ts false) X T (by simp; omega) F2 N2 hown ok sv2 (by simp at hz2; omega) fun h' tk tl' ty chs' F' N' sv' => ?_)
    refine ⟨⟨#[x]⟩, ty, rfl, (N' _ (.head _)).1, sgn_ne, ?_⟩
    clear N2 F2
    have hws : (!(Builtin.Str.occurrences wsS ⟨#[x]⟩ 0 wsS.length 1).isEmpty) = true := by rw [ws_in]; exact decide_eq_true hc
    dsimp only [lexLed, ownI, List.cons_append, List.nil_append] at N'
    k_steps
    rename Fr _ _ _ _ => F9
    rename News _ _ _ _ => N9
    exact ⟨r3.length + 1, by simp, i1 _ _ _ _ r3 chs' _ _ _ (frC F9) N9 sv' hr (by simp at hz2; omega) (by rw [line_nl]; exact hln)⟩
  | @quo r3 _ _ hr =>
    refine cit_some (lx := lx) (N2 _ (.head _)).1 (N2 _ (.tail _ (.head _))).1 n66 rfl (read_fr (own := ownI it q lx ts false) X T (by simp; omega) F2 N2 hown ok sv2 (by simp at hz2; omega) fun h' tk tl' ty chs' F' N' sv' => ?_)
    refine ⟨⟨#[34]⟩, ty, rfl, (N' _ (.head _)).1, sgn_ne, ?_⟩
    clear N2 F2
    have hws : (!(Builtin.Str.occurrences wsS ⟨#[34]⟩ 0 wsS.length 1).isEmpty) = false := by rw [ws_in]; decide
    have hws2 : (!(Builtin.Str.occurrences wsS (Str.ofString "\"") 0 wsS.length 1).isEmpty) = false := by decide +kernel
    have hqu := qu_eq
    dsimp only [lexLed, ownI, List.cons_append, List.nil_append] at N'
    k_steps
    rotate_left
    · exfalso; rename (Builtin.Str.occurrences wsS (Str.ofString "\"") 0 wsS.length 1).isEmpty = false => hbad; rw [hbad] at hws2; cases hws2
    rename Fr _ _ _ _ => F9
    rename News _ _ _ _ => N9
    refine quo_loop (acc := Str.ofString "") X T hroom ok ap (frC F9) N9 sv' hr (by simp at hz2; omega) (by rw [show (Str.ofString "").length = 0 from by decide +kernel]; omega) fun h3 tk3 ta3 ch3 tl3 ns3 chs3 ln3 F3 N3 sv3 hl3 => ?_
    rw [pre_nil]
    exact retS _ _ _ _ _ _ _ _ F3 N3 sv3 (by rw [hl3, line_nl]; exact hln)
  | @esc x r3 t3 _ hr =>
    refine cit_some (lx := lx) (N2 _ (.head _)).1 (N2 _ (.tail _ (.head _))).1 n66 rfl (read_fr (own := ownI it q lx ts false) X T (by simp; omega) F2 N2 hown ok sv2 (by simp at hz2 ⊢; omega) fun h' tk tl' ty chs' F' N' sv' => ?_)
    refine ⟨⟨#[92]⟩, ty, rfl, (N' _ (.head _)).1, sgn_ne, ?_⟩
    clear N2 F2
    have hws : (!(Builtin.Str.occurrences wsS ⟨#[92]⟩ 0 wsS.length 1).isEmpty) = false := by rw [ws_in]; decide
    have hws2 : (!(Builtin.Str.occurrences wsS (Str.ofString "\\") 0 wsS.length 1).isEmpty) = false := by decide +kernel
    have hbs := bs_eq
    have hqu : (({ cps := #[92] } : Str) == Str.ofString "\"") = false := qu_ne (by decide)
    have hlen := pre_len x
    simp only [List.length_cons] at hacc hz2
    dsimp only [lexLed, ownI, List.cons_append, List.nil_append] at N'
    k_steps
    rotate_left
    · exfalso; rename (Builtin.Str.occurrences wsS (Str.ofString "\\") 0 wsS.length 1).isEmpty = false => hbad; rw [hbad] at hws2; cases hws2
    rename Fr _ _ _ _ => F9
    rename News _ _ _ _ => N9
    refine wpAny_call (read_fr (own := ownI it q lx ts false) (ns := ns2 + 1) X T (by omega) (frC F9) N9 hown ok sv' (by omega) fun h3 tk3 tl3 ty3 chs3 F3 N3 sv3 => ?_)
    clear F9 N9
    dsimp only [lexLed, ownI, List.cons_append, List.nil_append] at N3
    k_steps
    rename Fr _ _ _ _ => F9
    rename News _ _ _ _ => N9
    refine bare_loop (acc := Str.ofString "" ++ ⟨#[x]⟩) X T hroom ok ap (frTC F9) N9 sv3 hr (by omega) (by omega) (fun h3 tk3 ta3 ch3 tl3 ns3 chs3 ln3 F3 N3 sv3 hl3 => ?_) fun h3 tk3 ta3 ch3 tl3 ns3 ln3 hr3 F3 N3 hl3 => ?_
    · rw [pre_cat]
      exact retS _ _ _ _ _ _ _ _ F3 N3 sv3 (by rw [hl3, line_nl, line_nl]; exact hln)
    · rw [pre_cat] at F3
      exact wpAny_pure (wpAny_pure ⟨0, by simp, i3 _ _ _ _ _ _ _ F3 N3 hr3 (by rw [hl3, line_nl, line_nl]; exact hln)⟩)
  | @bare x r3 t3 _ h1 h2 h3 hr =>
    refine cit_some (lx := lx) (N2 _ (.head _)).1 (N2 _ (.tail _ (.head _))).1 n66 rfl (read_fr (own := ownI it q lx ts false) X T (by simp; omega) F2 N2 hown ok sv2 (by simp at hz2; omega) fun h' tk tl' ty chs' F' N' sv' => ?_)
    refine ⟨⟨#[x]⟩, ty, rfl, (N' _ (.head _)).1, sgn_ne, ?_⟩
    clear N2 F2
    have hws : (!(Builtin.Str.occurrences wsS ⟨#[x]⟩ 0 wsS.length 1).isEmpty) = false := by rw [ws_in]; exact decide_eq_false h1
    have hbs := bs_ne h3
    have hqu := qu_ne h2
    have hlen := pre_len x
    simp only [List.length_cons] at hacc hz2
    dsimp only [lexLed, ownI, List.cons_append, List.nil_append] at N'
    k_steps
    rename Fr _ _ _ _ => F9
    rename News _ _ _ _ => N9
    refine bare_loop (acc := Str.ofString "" ++ ⟨#[x]⟩) X T hroom ok ap (frTC F9) N9 sv' hr (by omega) (by omega) (fun h3 tk3 ta3 ch3 tl3 ns3 chs3 ln3 F3 N3 sv3 hl3 => ?_) fun h3 tk3 ta3 ch3 tl3 ns3 ln3 hr3 F3 N3 hl3 => ?_
    · rw [pre_cat]
      exact retS _ _ _ _ _ _ _ _ F3 N3 sv3 (by rw [hl3, line_nl]; exact hln)
    · rw [pre_cat] at F3
      exact wpAny_pure (wpAny_pure ⟨0, by simp, i3 _ _ _ _ _ _ _ F3 N3 hr3 (by rw [hl3, line_nl]; exact hln)⟩)
end
end Mine
end
section
open PySem PySem.W PyProof.Rows PySem.Calls PySem.Spec
namespace Mine
theorem start_Tok6 : True := by
  w_top off
  k_with_none
  trivial
section
variable {w : World} {p : Program} {loose : List Str} {mean : ExcName → Option Value} {mg mb : Str → Option Value} {dp un : Nat} {fr : Option (List Env)} {gd : Option (List Code)} {s : Shared}
  {lx ld pb st sd fn c sg c' k1 k2 k3 k4 tl tw n5 ns np it q ts L : Nat} {ln : Int} {pm ctv : Value} {oc occ : Obj} {vs : Array Value} {t : Tok} {es5 : List DictEntry} {hb : Heap} {m : Str → Option Value}
theorem reg1_Tok6 : True := by
  k_with "exec For Name Name cons nil" => ((k_here; (with_reducible show wpAny _ _ (exec (Stmt.For _ _ _ _ _) _) _ _ _); apply stuck))
  k_with "call builtin:iter" => ((k_here; (with_reducible show wpAny _ _ (call (Value.builtin _) [Value.ref _, Value.str _ _]) _ _ _); k_dflt (apply iter2; (case F => k_asm); (case N => k_asm); (case hq => k_mem)); intro _ _ _ _ l1zz9; (try k_lt l1zz9)))
  trivial
theorem frInit {h : Heap} {ta : Nat} (F : Fr hb L h (fun y => if y = Str.ofString "fiter" then some (.ref it) else if y = Str.ofString "token" then some (.str (Str.ofString "") ta) else List.lookup y [(Str.ofString "self", Value.ref lx)].reverse)) :
    Fr hb L h (mT lx it (Str.ofString "") ta none) := Fr.congr F (by
  intro y
  by_cases h1 : y = Str.ofString "fiter"
  · subst h1; rfl
  by_cases h2 : y = Str.ofString "token"
  · subst h2; rfl
  by_cases h3 : y = Str.ofString "self"
  · subst h3; rfl
  have h4 : (y == Str.ofString "self") = false := by simpa using h3
  simp [mT, h1, h2, h3, h4, List.lookup])
set_option maxHeartbeats 16000000 in
theorem tok_in {E Q : Value → Shared → Prop} {r tr r' : List Nat} {chs : List Value}
    (B : Bs hb s.heap) (X : (hd.heap_39 w.params).In hb) (T : Top p loose mean mg mb hb) (hroom : dp < 920)
    (N : Led hb s.heap (lexLed w.params lx ld st sd fn c c' sg pb k1 k2 k3 k4 tl tw n5 ns np ln es5 pm ctv oc occ chs.reverse.toArray)) (ok : LexOk lx ld pb st sd fn c sg c' es5 oc occ vs t)
    (hsv : SV chs (r.map sgn)) (hB : TokT r tr r') (hsz : r.length < 1000000) (hacc : tr.length < 900000)
    (ret : ∀ h' tk ta' tl' ns' chs' ln', Bs hb h' → Led hb h' (lexLed w.params lx ld st sd fn c c' sg pb k1 k2 k3 k4 tl' tw n5 ns' np ln' es5 pm ctv oc occ chs'.reverse.toArray) →
      SV chs' (r'.map sgn) → ln' + nl r' = ln + nl r → Q (.str ⟨tr.toArray⟩ ta') { s with heap := h', toks := tk }) :
    wpAny (model PySem.Challenge.rw_sl0003_01.row.prog w) (AA dp un fr gd) (call (.ref 73) [.ref lx]) Q E s := by
  revert X; k_fill; intro X
  obtain ⟨b1, b2, b3, b4, b5, b6, b7, b8⟩ := ok.dp
  obtain ⟨a1, a2, a3, a4, a5, a6, a7, a8, a9, a10, a11, a12, a13⟩ := ok.ds
  refine entB (binds := [(Str.ofString "self", .ref lx)]) B X T N rfl rfl (by show dp < _; simp only [recursionLimit]; omega) rfl rfl rfl rfl rfl (by decide) fun L2 h2 e F2 N2 K2 => ?_
  have l0 := fun p hp => (Heap.lt_size (N p hp).1 : @LT.lt Nat _ p.1 s.heap.objs.size)
  k_lt l0
  clear N
  dsimp only [lexLed] at N2
  change wpAny _ _ _ _ _ _
  k_fold
  k_steps
  rename Fr _ _ _ _ => F9
  rename News _ _ _ _ => N9
  refine outer_loop (dp := dp + 1) X T (by omega) ok ⟨by omega, by omega⟩ (frInit F9) N9 hsv hB hsz hacc (fun h3 tk3 m3 ta3 tl3 ns3 chs3 ln3 F3 N3 sv3 hl3 => ?_) fun h3 tk3 ta3 ch3 tl3 ns3 ln3 hr3 F3 N3 hl3 => ?_
  · exact ret _ _ _ _ _ _ _ (toBs F3) (Led.sub (toLed N3) (fun p hp => .tail _ (.tail _ hp))) sv3 hl3
  · clear F9 N9
    have hl4 : ln3 + nl r' = ln + nl r := by rw [hr3, hl3]; simp [nl]
    have sv4 : SV [] (r'.map sgn) := by rw [hr3]; exact .nil
    k_steps
    rename Fr _ _ _ _ => F9
    rename News _ _ _ _ => N9
    exact ret _ _ _ tl3 ns3 [] ln3 (toBs F9) (Led.sub (toLed N9) (fun p hp => .tail _ (.tail _ hp))) sv4 hl4
end
end Mine
end
section
open PySem PySem.W PyProof.Rows PySem.Calls PySem.Spec
namespace Mine
theorem start_Tok7 : True := by
  w_top off
  k_with_none
  trivial
theorem truthy_cons {prog : Program} {w : World} {A : Around} {E : Value → Shared → Prop} {s : Shared} {Q : Bool → Shared → Prop} {l : Addr} {ps : List Value} {y : Value} (hl : s.heap.IsList l (y :: ps).toArray) (hz : ps.length < 1000000) (h : Q true { s with toks := s.toks + 1 + 1 }) :
    wpAny (model prog w) A (truthy (.ref l)) Q E s := wpAny_truthy_list hl (by simp; omega) (by
    have he : (!(y :: ps).toArray.isEmpty) = true := rfl
    rw [he]; exact h)
theorem idx0 (n : Nat) : seqIndex? 0 (n + 1) = some 0 := by simp [seqIndex?]
theorem reg1_Tok7 : True := by
  k_with "truthy ref" => ((k_here; k_dflt (apply truthy_cons; (case hl => exact News.isList (by k_asm) (by k_mem)); (case hz => assumption))))
  k_with "call builtin:list.pop" => ((k_here; k_dflt (apply kl_popAt; (case F => k_asm); (case N => k_asm); (case U => k_upd); (case hf => rfl); (case hk => exact idx0 _); (case e => exact rfl); (case hz => (simp; simp only [sizeLine]; omega))); kl_rest))
  k_with "getAttr ref" => ((k_here; k_dflt (apply get_own; (case F => k_asm); (case X₀ => k_asm); (case I => k_inst); (case hg => k_is); (case hh => k_is); (case ha => k_is); (case hn => k_is); (case hl => assumption); (case hv => k_handed); k_whole)))
  trivial
set_option maxHeartbeats 8000000 in
theorem c_pop {w : World} {p : Program} {loose : List Str} {mean : ExcName → Option Value} {mg mb : Str → Option Value} {dp un : Nat} {fr : Option (List Env)} {gd : Option (List Code)} {E Q : Value → Shared → Prop} {s : Shared}
    {h₀ : Heap} {L lx ld pb : Nat} {m : Str → Option Value} {news news' : List (Addr × Obj)} {y : Value} {ps : List Value} {es : List DictEntry} {n k : Nat}
    (X : (hd.heap_39 w.params).In h₀) (T : Top p loose mean mg mb h₀) (hroom : dp < 900) (F : Fr h₀ L s.heap m) (N : News h₀ L s.heap news)
    (m1 : (lx, instObj 83 ld) ∈ news) (m2 : (ld, dictOf es n) ∈ news) (U : Upd pb (listOf (y :: ps).toArray k) (listOf ps.toArray (k + 1)) news news') (hes : getL (Str.ofString "pushback") es = some (some (.ref pb)))
    (a1 : lx ≠ pb) (a2 : ld ≠ pb) (hsz : ps.length < 1000000)
    (ret : ∀ h' tk, Fr h₀ L h' m → News h₀ L h' news' → Q y { s with heap := h', toks := tk }) :
    wpAny (model PySem.Challenge.rw_sl0003_01.row.prog w) (AA dp un fr gd) (call (.ref 73) [.ref lx]) Q E s := by
  revert X; k_fill; intro X
  refine open_upd (ns := [(lx, instObj 83 ld), (ld, dictOf es n), (pb, listOf (y :: ps).toArray k)]) (ns' := [(lx, instObj 83 ld), (ld, dictOf es n), (pb, listOf ps.toArray (k + 1))]) F N X T U
    (List.forall_mem_cons.mpr ⟨m1, List.forall_mem_cons.mpr ⟨m2, List.forall_mem_cons.mpr ⟨Upd.inn U, List.forall_mem_nil _⟩⟩⟩) (.tail _ (.tail _ (.head _)))
    (List.forall_mem_cons.mpr ⟨fun _ => .head _, List.forall_mem_cons.mpr ⟨fun _ => .tail _ (.head _), List.forall_mem_cons.mpr ⟨fun q => absurd rfl q, List.forall_mem_nil _⟩⟩⟩) fun g B X2 T2 Ld fin => ?_
  clear F N X T m1 m2 U
  refine entB (binds := [(Str.ofString "self", .ref lx)]) B X2 T2 Ld rfl rfl (by show dp < _; simp only [recursionLimit]; omega) rfl rfl rfl rfl rfl (by decide) fun L2 h2 e F2 N2 K2 => ?_
  change wpAny _ _ _ _ _ _
  k_fold
  k_steps
  all_goals (
    (try dsimp only [qk])
    rename Fr _ _ _ _ => F9
    rename News _ _ _ _ => N9
    obtain ⟨F', N'⟩ := fin _ (toBs F9) (toLed N9)
    exact ret _ _ F' N')
end Mine
end
section
open PySem PySem.W PyProof.Rows PySem.Calls PySem.Spec
namespace Mine
theorem start_For1 : True := by
  w_top off
  k_with_none
  trivial
section
variable {prog : Program} {w : World} {A : Around} {E : Value → Shared → Prop} {s : Shared} {hb : Heap} {L : Addr} {m : Str → Option Value}
theorem wpAny_ForJ {env : Env} {target iter : Expr} {body orelse : List Stmt} {pos : Pos} {Q : Flow → Shared → Prop} (I : Value → Nat → Shared → Prop)
    (hi : wpAny (model prog w) A (eval iter env) (fun x s₁ => wpAny (model prog w) A (pyIter x) (fun it' s₂ => ∃ n, I it' n s₂) (fun _ _ => False) s₁) (fun _ _ => False) s)
    (turn : ∀ it n s, I it n s → wpAny (model prog w) A (pyNext it) (fun r s₁ => match r with
      | none => wpAny (model prog w) A (execs orelse env) Q (fun _ _ => False) s₁
      | some v => wpAny (model prog w) A (assign target env v) (fun _ s₂ => wpAny (model prog w) A (execs body env) (TurnEnd (I it) Q n) (fun _ _ => False) s₂) (fun _ _ => False) s₁) (fun _ _ => False) s)
    (ht : ∀ it v, letOwnedTupleGo target it v = pure () := by intro _ _; rfl)
    (hs : ∀ x, foldedSetIterable iter env x = pure x := by intro _; rfl) :
    wpAny (model prog w) A (exec (.For target iter body orelse pos) env) Q E s := by
  refine wpAny_For (wpAny_mono hi (fun x s₁ h₁ => wpAny_mono h₁ (fun it' s₂ h₂ => ?_) fun _ _ x => x.elim) fun _ _ x => x.elim) hs
  obtain ⟨n, hI⟩ := h₂
  refine codeAny_forLoop (I it') (fun n s h => wpAny_mono (turn it' n s h) (fun r s₁ h₁ => ?_) fun _ _ x => x.elim) n hI (ht it')
  cases r with
  | none => exact wpAny_mono h₁ (fun _ _ x => x) fun _ _ x => x.elim
  | some v =>
    refine wpAny_mono h₁ (fun _ s₂ h₂ => wpAny_mono h₂ (fun f s₃ h₃ => ?_) fun _ _ x => x.elim) fun _ _ x => x.elim
    cases f <;> exact h₃
noncomputable abbrev rIt (x left : Int) : Obj := { cls := .type "range_iterator", data := .fields #[rawInt x, rawInt left, rawInt 1] }
theorem next_rng {I : Nat} {x left : Int} {news : List (Addr × Obj)} {Q : Option Value → Shared → Prop} (F : Fr hb L s.heap m) (N : News hb L s.heap ((I, rIt x left) :: news)) (d : ∀ p ∈ news, p.1 ≠ I) (hl : 0 < left)
    (h : ∀ h' tk t, Fr hb L h' m → News hb L h' ((I, rIt (x + 1) (left - 1)) :: news) → Q (some (.int x t)) { s with heap := h', toks := tk }) : wpAny (model prog w) A (pyNext (.ref I)) Q E s :=
  wpAny_pyNext_range_item (N _ (.head _)).1 hl fun h' hit hs => by
    obtain ⟨F', N'⟩ := ext_upd F N hit (fun b o hb e => hs.extBut b o hb e) d
    exact h h' _ _ F' N'
theorem end_rng {I : Nat} {x left : Int} {news : List (Addr × Obj)} {Q : Option Value → Shared → Prop} (hh : A.handled = none) (F : Fr hb L s.heap m) (N : News hb L s.heap ((I, rIt x left) :: news)) (d : ∀ p ∈ news, p.1 ≠ I) (hl : left ≤ 0)
    (h : ∀ h' tk, Fr hb L h' m → News hb L h' news → Q none { s with heap := h', toks := tk }) : wpAny (model prog w) A (pyNext (.ref I)) Q E s :=
  wpAny_pyNext_range_end hh (N _ (.head _)).1 hl fun h' k => by
    have n := N _ (.head _)
    refine h h' s.toks ⟨F.ns.extBut k n.2.1.symm, fun b x e => k _ _ (fun q => by rw [q, n.2.2] at e; cases e) (F.keep _ _ e), F.above⟩ fun p hp => ?_
    have n2 := N p (.tail _ hp)
    exact ⟨k _ _ (d p hp) n2.1, n2.2⟩
theorem iter_rng {R : Nat} {n : Int} {news : List (Addr × Obj)} {t u v : Tok} {Q : Value → Shared → Prop} (F : Fr hb L s.heap m) (N : News hb L s.heap news) (hr : IsRange s.heap R 0 n 1 t u v) (h0 : 0 ≤ n) (h1 : n < 2 ^ 62)
    (h : ∀ (I : Nat) h', Fr hb L h' m → News hb L h' ((I, rIt 0 n) :: news) → (∀ p ∈ news, @LT.lt Nat _ p.1 I) → Q (.ref I) { s with heap := h' }) : wpAny (model prog w) A (pyIter (.ref R)) Q E s := by
  refine wpAny_pyIter_range hr (small_one (by omega) (by omega) (by omega) h1) ?_
  have e : Builtin.Range.rangeSize 0 n 1 = n := by rw [rangeSize_one]; split <;> omega
  rw [e]
  exact h s.heap.objs.size _ (F.push _) (N.push F _) (fresh_lt N)
end
end Mine
end
section
open PySem PySem.W PyProof.Rows PySem.Calls PySem.Spec PySem.Builtin.Re
namespace Mine
theorem start_Re1 : True := by
  w_top off
  k_with_none
  trivial
open PySem.Sre
/-! the matcher runs to its end -/
theorem step_stable {m : M} (h : m.outcome.isSome = true) : m.step = m := by unfold M.step; rw [if_pos h]
theorem runFor_stable {m : M} (h : m.outcome.isSome = true) : ∀ n, M.runFor n m = m
  | 0 => rfl
  | n + 1 => by show (if m.outcome.isSome then m else M.runFor n m.step) = m; rw [if_pos h]
theorem runFor_succ (n : Nat) (m : M) : M.runFor (n + 1) m = M.runFor n m.step := by
  show (if m.outcome.isSome then m else M.runFor n m.step) = _
  by_cases h : m.outcome.isSome = true
  · rw [if_pos h, step_stable h, runFor_stable h]
  · rw [if_neg h]
theorem runFor_add (a b : Nat) (m : M) : M.runFor (a + b) m = M.runFor b (M.runFor a m) := by
  induction a generalizing m with
  | zero => simp [M.runFor]
  | succ a ih => rw [Nat.succ_add, runFor_succ, runFor_succ, ih]
section
variable {prog : Program} {w : World} {A : Around} {E : Value → Shared → Prop} {s : Shared}
theorem drive {Q : M → Shared → Prop} : ∀ (n k : Nat) (m : M), (M.runFor k m).outcome.isSome = true → k ≤ 4 * n → 0 < n → Q (M.runFor k m) s → wpAny (model prog w) A (reDrive n m) Q E s
  | 0, _, _, _, _, h0, _ => absurd h0 (Nat.lt_irrefl _)
  | n + 1, k, m, hs, hk, _, hQ => by
    show wpAny _ _ (if (m.runFor reTurnSteps).outcome.isSome then pure (m.runFor reTurnSteps) else do rule "sre.turn"; reDrive n (m.runFor reTurnSteps)) _ _ _
    by_cases h4 : k ≤ 4
    · have e : M.runFor 4 m = M.runFor k m := by
        rw [show 4 = k + (4 - k) from by omega, runFor_add, runFor_stable hs]
      rw [show m.runFor reTurnSteps = M.runFor k m from e, if_pos hs]
      exact wpAny_pure hQ
    · have e : M.runFor k m = M.runFor (k - 4) (M.runFor 4 m) := by rw [← runFor_add]; congr 1; omega
      by_cases h : (m.runFor reTurnSteps).outcome.isSome = true
      · rw [if_pos h]
        rw [e, runFor_stable (m := M.runFor 4 m) h] at hQ
        exact wpAny_pure hQ
      · rw [if_neg h]
        refine wpAny_bind (wpAny_rule ?_)
        exact drive n (k - 4) (m.runFor 4) (e ▸ hs) (by omega) (by omega) (e ▸ hQ)
theorem forRules {α : Type} {Q : PUnit → Shared → Prop} (f : α → PUnit → Sem (ForInStep PUnit)) (hf : ∀ i u (Q : ForInStep PUnit → Shared → Prop) s, Q (.yield ⟨⟩) s → wpAny (model prog w) A (f i u) Q E s) :
    ∀ (l : List α) (s : Shared), Q ⟨⟩ s → wpAny (model prog w) A (forIn l ⟨⟩ f) Q E s
  | [], s, h => by
    rw [List.forIn_nil]; exact wpAny_pure h
  | i :: l, s, h => by
    rw [List.forIn_cons]
    exact wpAny_bind (hf i _ _ _ (forRules f hf l s h))
theorem toEnd_some {Q : Option M → Shared → Prop} {k : Nat} {m m' : M} (hm : M.runFor k m = m') (ho : m'.outcome = some .matched) (hk : k ≤ 100000000) (hQ : Q (some m') s) : wpAny (model prog w) A (reRunToEnd m) Q E s := by
  unfold reRunToEnd
  refine wpAny_bind (drive (2 ^ 64) k m (by rw [hm, ho]; rfl) (by omega) (by omega) ?_)
  rw [hm]
  refine wpAny_bind (forRules _ (fun i u Q s h => ?_) _ _ ?_)
  · split
    · exact wpAny_bind (wpAny_rule (wpAny_pure h))
    · exact wpAny_pure h
  · rw [ho]; exact wpAny_pure hQ
theorem toEnd_none {Q : Option M → Shared → Prop} {k : Nat} {m m' : M} (hm : M.runFor k m = m') (ho : m'.outcome = some .failed) (hk : k ≤ 100000000) (hQ : Q none s) : wpAny (model prog w) A (reRunToEnd m) Q E s := by
  unfold reRunToEnd
  refine wpAny_bind (drive (2 ^ 64) k m (by rw [hm, ho]; rfl) (by omega) (by omega) ?_)
  rw [hm]
  refine wpAny_bind (forRules _ (fun i u Q s h => ?_) _ _ ?_)
  · split
    · exact wpAny_bind (wpAny_rule (wpAny_pure h))
    · exact wpAny_pure h
  · rw [ho]; exact wpAny_pure hQ
end
/-! the first pattern: a dot at a line's beginning -/
noncomputable def C1 : Array Nat := #[14, 4, 0, 1, 1, 6, 1, 16, 46, 1]
noncomputable def m1 (text : Array Nat) (lim : Nat) (seen : Sre.Seen) (s : Nat) (first : Bool) (ls pc pos handed : Nat) (answer : Option Bool) : M :=
  { code := C1, text, lim, start := s, lastStart := ls, pc, pos, handed, outermost := first, marks := #[], frames := [{ wait := .nextStart, pc := 5, pos := s, outermost := first }], weight := 1, seen, answer }
noncomputable def m1o (text : Array Nat) (lim : Nat) (seen : Sre.Seen) (s : Nat) (first : Bool) (ls pc pos handed : Nat) (answer : Option Bool) : M :=
  { code := C1, text, lim, start := s, lastStart := ls, pc, pos, handed, outermost := first, marks := #[], frames := [], weight := 0, seen, answer }
noncomputable def fr1 (s : Nat) (first : Bool) : Sre.Frame := { wait := .nextStart, pc := 5, pos := s, outermost := first }
noncomputable def bol (text : Array Nat) (s : Nat) : Bool := s == 0 || text.getD (s - 1) 0 == 10
variable {text : Array Nat} {lim s ls : Nat} {seen : Sre.Seen} {first : Bool}
theorem m1_at : ∃ seen', (m1 text lim seen s first ls 5 s s none).step = (if bol text s then m1 text lim seen' s first ls 7 s s none else m1 text lim seen' s first ls 5 s s (some false)) := by
  refine ⟨(seen.add 6).add 44, ?_⟩
  show M.exec (m1 text lim seen s first ls 5 s s none) = _
  unfold M.exec
  show (if bol text s then _ else _) = _
  cases bol text s <;> rfl
theorem m1_no {pc : Nat} (h : s < ls) : (m1 text lim seen s first ls pc s s (some false)).step = m1 text lim seen (s + 1) false ls 5 (s + 1) (s + 1) none := by
  show M.resume (m1o text lim seen s first ls 5 s s none) (fr1 s first) false = _
  unfold M.resume
  show (if s < ls then _ else _) = _
  rw [if_pos h]
  rfl
theorem m1_over {pc : Nat} (h : ¬ s < ls) : ∃ m', M.runFor 2 (m1 text lim seen s first ls pc s s (some false)) = m' ∧ m'.outcome = some .failed := by
  refine ⟨_, rfl, ?_⟩
  rw [runFor_succ]
  have e : (m1 text lim seen s first ls pc s s (some false)).step = m1o text lim seen s first ls 5 s s (some false) := by
    show M.resume (m1o text lim seen s first ls 5 s s none) (fr1 s first) false = _
    unfold M.resume
    show (if s < ls then _ else _) = _
    rw [if_neg h]
    rfl
  rw [e]
  rfl
theorem m1_litNo (h : ¬ (s < lim ∧ text.getD s 0 = 46)) : ∃ seen', (m1 text lim seen s first ls 7 s s none).step = m1 text lim seen' s first ls 7 s s (some false) := by
  by_cases h1 : s < lim
  · have h2 : ¬ text.getD s 0 = 46 := fun e => h ⟨h1, e⟩
    refine ⟨seen.add 16, ?_⟩
    show M.exec (m1 text lim seen s first ls 7 s s none) = _
    unfold M.exec
    show (if s ≥ lim then _ else _) = _
    rw [if_neg (by omega)]
    have hb : (text.getD s 0 == 46) = false := by simpa using h2
    show (match (Except.ok (text.getD s 0 == 46, seen.add 16) : Except String (Bool × Sre.Seen)) with | .error why => _ | .ok (false, seen) => _ | .ok (true, seen) => _) = _
    rw [hb]
    rfl
  · refine ⟨seen.add 16, ?_⟩
    show M.exec (m1 text lim seen s first ls 7 s s none) = _
    unfold M.exec
    show (if s ≥ lim then _ else _) = _
    rw [if_pos (by omega)]
    rfl
theorem m1_litYes (h1 : s < lim) (h2 : text.getD s 0 = 46) :
    ∃ m', M.runFor 4 (m1 text lim seen s first ls 7 s s none) = m' ∧ m'.outcome = some .matched ∧ m'.start = s ∧ m'.handed = s + 1 := by
  have e1 : (m1 text lim seen s first ls 7 s s none).step = m1 text lim (seen.add 16) s first ls 9 (s + 1) s none := by
    show M.exec (m1 text lim seen s first ls 7 s s none) = _
    unfold M.exec
    show (if s ≥ lim then _ else _) = _
    rw [if_neg (by omega)]
    have hb : (text.getD s 0 == 46) = true := by simpa using h2
    show (match (Except.ok (text.getD s 0 == 46, seen.add 16) : Except String (Bool × Sre.Seen)) with | .error why => _ | .ok (false, seen) => _ | .ok (true, seen) => _) = _
    rw [hb]
    rfl
  have e2 : (m1 text lim (seen.add 16) s first ls 9 (s + 1) s none).step = m1 text lim ((seen.add 16).add 1) s first ls 9 (s + 1) (s + 1) (some true) := by
    show M.exec (m1 text lim (seen.add 16) s first ls 9 (s + 1) s none) = _
    unfold M.exec
    show (if (first && ((false && (s + 1 != lim)) || (false && (s + 1 == s)))) = true then _ else _) = _
    simp only [Bool.false_and, Bool.or_self, Bool.and_false]
    rfl
  refine ⟨_, rfl, ?_⟩
  rw [runFor_succ, e1, runFor_succ, e2]
  exact ⟨rfl, rfl, rfl⟩
/-- from a position on: the first dot at a line's beginning, or none -/
noncomputable def next1 (text : Array Nat) (lim : Nat) : Nat → Nat → Option Nat
  | 0, _ => none
  | n + 1, s => if s < lim ∧ text.getD s 0 = 46 ∧ bol text s = true then some s else if s < lim then next1 text lim n (s + 1) else none
theorem run1 : ∀ (n s : Nat) (seen : Sre.Seen) (first : Bool), lim + 1 - s ≤ n → s ≤ lim → ∃ k m', k ≤ 4 * n + 4 ∧ M.runFor k (m1 text lim seen s first lim 5 s s none) = m' ∧
    (match next1 text lim n s with | some e => m'.outcome = some .matched ∧ m'.start = e ∧ m'.handed = e + 1 | none => m'.outcome = some .failed)
  | 0, s, _, _, h, hs => by omega
  | n + 1, s, seen, first, h, hs => by
    obtain ⟨sn, e1⟩ := m1_at (text := text) (lim := lim) (s := s) (ls := lim) (seen := seen) (first := first)
    have go : ∀ pc sn2, s < lim → ∃ k m', k ≤ 4 * n + 5 ∧ M.runFor k (m1 text lim sn2 s first lim pc s s (some false)) = m' ∧ (match next1 text lim n (s + 1) with | some e => m'.outcome = some .matched ∧ m'.start = e ∧ m'.handed = e + 1 | none => m'.outcome = some .failed) := fun pc sn2 hl => by
      obtain ⟨k, m', hk, hr, hm⟩ := run1 n (s + 1) sn2 false (by omega) (by omega)
      exact ⟨k + 1, m', by omega, by rw [runFor_succ, m1_no hl]; exact hr, hm⟩
    by_cases hd : s < lim ∧ text.getD s 0 = 46 ∧ bol text s = true
    · obtain ⟨m', hr, ho, hst, hh⟩ := m1_litYes (seen := sn) (first := first) (ls := lim) hd.1 hd.2.1
      refine ⟨5, m', by omega, ?_, ?_⟩
      · rw [runFor_succ, e1, if_pos hd.2.2]; exact hr
      · unfold next1; rw [if_pos hd]; exact ⟨ho, hst, hh⟩
    · unfold next1
      rw [if_neg hd]
      cases hb : bol text s with
      | false =>
        rw [hb] at e1
        by_cases hl : s < lim
        · obtain ⟨k, m', hk, hr, hm⟩ := go 5 sn hl
          exact ⟨k + 1, m', by omega, by rw [runFor_succ, e1]; exact hr, by rw [if_pos hl]; exact hm⟩
        · obtain ⟨m', hr, ho⟩ := m1_over (text := text) (lim := lim) (seen := sn) (first := first) (pc := 5) hl
          exact ⟨3, m', by omega, by rw [runFor_succ, e1]; exact hr, by rw [if_neg hl]; exact ho⟩
      | true =>
        rw [hb] at e1
        obtain ⟨sn2, e2⟩ := m1_litNo (text := text) (lim := lim) (s := s) (ls := lim) (seen := sn) (first := first) (fun q => hd ⟨q.1, q.2, hb⟩)
        by_cases hl : s < lim
        · obtain ⟨k, m', hk, hr, hm⟩ := go 7 sn2 hl
          exact ⟨k + 2, m', by omega, by rw [runFor_succ, e1, if_pos rfl, runFor_succ, e2]; exact hr, by rw [if_pos hl]; exact hm⟩
        · obtain ⟨m', hr, ho⟩ := m1_over (text := text) (lim := lim) (seen := sn2) (first := first) (pc := 7) hl
          exact ⟨4, m', by omega, by rw [runFor_succ, e1, if_pos rfl, runFor_succ, e2]; exact hr, by rw [if_neg hl]; exact ho⟩
end Mine
end
section
open PySem PySem.W PyProof.Rows PySem.Calls PySem.Spec PySem.Builtin.Re
namespace Mine
theorem start_Re2 : True := by
  w_top off
  k_with_none
  trivial
open PySem.Sre
noncomputable def C2 : Array Nat := #[14, 9, 4, 1, 2, 16, 10, 16, 13, 0, 7, 7, 16, 13, 16, 10, 15, 18, 5, 16, 10, 15, 13, 11, 16, 13, 5, 5, 0, 16, 10, 1, 15, 2, 0, 1]
noncomputable def kp : Sre.Kept := { lastmark := -1, lastindex := -1, whole := false, marks := #[] }
noncomputable def NS (s : Nat) (first : Bool) : Sre.Frame := { wait := .nextStart, pc := 10, pos := s, outermost := first }
noncomputable def NB (p s : Nat) (first : Bool) : Sre.Frame := { wait := .nextBranch, pc := p, pos := s, outermost := first, kept := kp }
noncomputable def LN (s : Nat) (first : Bool) : Sre.Frame := { wait := .lookNot, pc := 26, pos := s, outermost := first, kept := kp }
noncomputable def m2 (text : Array Nat) (lim : Nat) (seen : Sre.Seen) (s : Nat) (ls pc pos handed : Nat) (out : Bool) (answer : Option Bool) (frames : List Sre.Frame) (weight : Nat) : M :=
  { code := C2, text, lim, start := s, lastStart := ls, pc, pos, handed, outermost := out, marks := #[], frames, weight, seen, answer }
variable {text : Array Nat} {lim s ls pos handed wt : Nat} {seen : Sre.Seen} {first out : Bool} {frames : List Sre.Frame}
theorem y12 (h1 : pos < lim) (h2 : text.getD pos 0 = 13) : ∃ seen', (m2 text lim seen s ls 12 pos handed out none frames wt).step = m2 text lim seen' s ls 14 (pos + 1) handed out none frames wt := by
  refine ⟨seen.add 16, ?_⟩
  show M.exec (m2 text lim seen s ls 12 pos handed out none frames wt) = _
  unfold M.exec
  show (if pos ≥ lim then _ else _) = _
  rw [if_neg (by omega)]
  have hb : (text.getD pos 0 == 13) = true := by simpa using h2
  show (match (Except.ok (text.getD pos 0 == 13, seen.add 16) : Except String (Bool × Sre.Seen)) with | .error why => _ | .ok (false, seen) => _ | .ok (true, seen) => _) = _
  rw [hb]
  rfl
theorem n12 (h : ¬ (pos < lim ∧ text.getD pos 0 = 13)) : ∃ seen', (m2 text lim seen s ls 12 pos handed out none frames wt).step = m2 text lim seen' s ls 12 pos handed out (some false) frames wt := by
  refine ⟨seen.add 16, ?_⟩
  show M.exec (m2 text lim seen s ls 12 pos handed out none frames wt) = _
  unfold M.exec
  show (if pos ≥ lim then _ else _) = _
  by_cases h1 : pos < lim
  · rw [if_neg (by omega)]
    have hb : (text.getD pos 0 == 13) = false := by simpa using fun e => h ⟨h1, e⟩
    show (match (Except.ok (text.getD pos 0 == 13, seen.add 16) : Except String (Bool × Sre.Seen)) with | .error why => _ | .ok (false, seen) => _ | .ok (true, seen) => _) = _
    rw [hb]
    rfl
  · rw [if_pos (by omega)]
    rfl
theorem y14 (h1 : pos < lim) (h2 : text.getD pos 0 = 10) : ∃ seen', (m2 text lim seen s ls 14 pos handed out none frames wt).step = m2 text lim seen' s ls 16 (pos + 1) handed out none frames wt := by
  refine ⟨seen.add 16, ?_⟩
  show M.exec (m2 text lim seen s ls 14 pos handed out none frames wt) = _
  unfold M.exec
  show (if pos ≥ lim then _ else _) = _
  rw [if_neg (by omega)]
  have hb : (text.getD pos 0 == 10) = true := by simpa using h2
  show (match (Except.ok (text.getD pos 0 == 10, seen.add 16) : Except String (Bool × Sre.Seen)) with | .error why => _ | .ok (false, seen) => _ | .ok (true, seen) => _) = _
  rw [hb]
  rfl
theorem n14 (h : ¬ (pos < lim ∧ text.getD pos 0 = 10)) : ∃ seen', (m2 text lim seen s ls 14 pos handed out none frames wt).step = m2 text lim seen' s ls 14 pos handed out (some false) frames wt := by
  refine ⟨seen.add 16, ?_⟩
  show M.exec (m2 text lim seen s ls 14 pos handed out none frames wt) = _
  unfold M.exec
  show (if pos ≥ lim then _ else _) = _
  by_cases h1 : pos < lim
  · rw [if_neg (by omega)]
    have hb : (text.getD pos 0 == 10) = false := by simpa using fun e => h ⟨h1, e⟩
    show (match (Except.ok (text.getD pos 0 == 10, seen.add 16) : Except String (Bool × Sre.Seen)) with | .error why => _ | .ok (false, seen) => _ | .ok (true, seen) => _) = _
    rw [hb]
    rfl
  · rw [if_pos (by omega)]
    rfl
theorem y19 (h1 : pos < lim) (h2 : text.getD pos 0 = 10) : ∃ seen', (m2 text lim seen s ls 19 pos handed out none frames wt).step = m2 text lim seen' s ls 21 (pos + 1) handed out none frames wt := by
  refine ⟨seen.add 16, ?_⟩
  show M.exec (m2 text lim seen s ls 19 pos handed out none frames wt) = _
  unfold M.exec
  show (if pos ≥ lim then _ else _) = _
  rw [if_neg (by omega)]
  have hb : (text.getD pos 0 == 10) = true := by simpa using h2
  show (match (Except.ok (text.getD pos 0 == 10, seen.add 16) : Except String (Bool × Sre.Seen)) with | .error why => _ | .ok (false, seen) => _ | .ok (true, seen) => _) = _
  rw [hb]
  rfl
theorem n19 (h : ¬ (pos < lim ∧ text.getD pos 0 = 10)) : ∃ seen', (m2 text lim seen s ls 19 pos handed out none frames wt).step = m2 text lim seen' s ls 19 pos handed out (some false) frames wt := by
  refine ⟨seen.add 16, ?_⟩
  show M.exec (m2 text lim seen s ls 19 pos handed out none frames wt) = _
  unfold M.exec
  show (if pos ≥ lim then _ else _) = _
  by_cases h1 : pos < lim
  · rw [if_neg (by omega)]
    have hb : (text.getD pos 0 == 10) = false := by simpa using fun e => h ⟨h1, e⟩
    show (match (Except.ok (text.getD pos 0 == 10, seen.add 16) : Except String (Bool × Sre.Seen)) with | .error why => _ | .ok (false, seen) => _ | .ok (true, seen) => _) = _
    rw [hb]
    rfl
  · rw [if_pos (by omega)]
    rfl
theorem y24 (h1 : pos < lim) (h2 : text.getD pos 0 = 13) : ∃ seen', (m2 text lim seen s ls 24 pos handed out none frames wt).step = m2 text lim seen' s ls 26 (pos + 1) handed out none frames wt := by
  refine ⟨seen.add 16, ?_⟩
  show M.exec (m2 text lim seen s ls 24 pos handed out none frames wt) = _
  unfold M.exec
  show (if pos ≥ lim then _ else _) = _
  rw [if_neg (by omega)]
  have hb : (text.getD pos 0 == 13) = true := by simpa using h2
  show (match (Except.ok (text.getD pos 0 == 13, seen.add 16) : Except String (Bool × Sre.Seen)) with | .error why => _ | .ok (false, seen) => _ | .ok (true, seen) => _) = _
  rw [hb]
  rfl
theorem n29 (h : ¬ (pos < lim ∧ text.getD pos 0 = 10)) : ∃ seen', (m2 text lim seen s ls 29 pos handed out none frames wt).step = m2 text lim seen' s ls 29 pos handed out (some false) frames wt := by
  refine ⟨seen.add 16, ?_⟩
  show M.exec (m2 text lim seen s ls 29 pos handed out none frames wt) = _
  unfold M.exec
  show (if pos ≥ lim then _ else _) = _
  by_cases h1 : pos < lim
  · rw [if_neg (by omega)]
    have hb : (text.getD pos 0 == 10) = false := by simpa using fun e => h ⟨h1, e⟩
    show (match (Except.ok (text.getD pos 0 == 10, seen.add 16) : Except String (Bool × Sre.Seen)) with | .error why => _ | .ok (false, seen) => _ | .ok (true, seen) => _) = _
    rw [hb]
    rfl
  · rw [if_pos (by omega)]
    rfl
theorem succ35 (hp : s < pos) : ∃ seen', (m2 text lim seen s ls 35 pos handed out none frames wt).step = m2 text lim seen' s ls 35 pos pos out (some true) frames wt := by
  refine ⟨seen.add 1, ?_⟩
  show M.exec (m2 text lim seen s ls 35 pos handed out none frames wt) = _
  unfold M.exec
  show (if (out && ((false && (pos != lim)) || (false && (pos == s)))) = true then _ else _) = _
  simp only [Bool.false_and, Bool.or_self, Bool.and_false]
  rfl
theorem fin35 {b : Nat} (hp : s < pos) : ∃ m', M.runFor 4 (m2 text lim seen s ls 35 pos handed out none [NB b s first, NS s first] wt) = m' ∧ m'.outcome = some .matched ∧ m'.start = s ∧ m'.handed = pos := by
  obtain ⟨sn, e⟩ := succ35 (text := text) (lim := lim) (seen := seen) (ls := ls) (handed := handed) (out := out) (frames := [NB b s first, NS s first]) (wt := wt) hp
  refine ⟨_, rfl, ?_⟩
  rw [runFor_succ, e]
  exact ⟨rfl, rfl, rfl⟩
theorem start2 : ∃ seen', (m2 text lim seen s ls 10 s s first none [NS s first] 1).step = m2 text lim seen' s ls 12 s s first none [NB 11 s first, NS s first] 2 := ⟨_, rfl⟩
theorem alt18 {pc : Nat} {h : Nat} {p : Nat} : ∃ seen', (m2 text lim seen s ls pc p h out (some false) [NB 11 s first, NS s first] 2).step = m2 text lim seen' s ls 19 s s first none [NB 18 s first, NS s first] 2 := ⟨_, rfl⟩
theorem alt23 {pc : Nat} {h : Nat} {p : Nat} : ∃ seen', (m2 text lim seen s ls pc p h out (some false) [NB 18 s first, NS s first] 2).step = m2 text lim seen' s ls 24 s s first none [NB 23 s first, NS s first] 2 := ⟨_, rfl⟩
theorem jump16 : ∃ seen', (m2 text lim seen s ls 16 pos handed out none frames wt).step = m2 text lim seen' s ls 35 pos handed out none frames wt := ⟨_, rfl⟩
theorem jump21 : ∃ seen', (m2 text lim seen s ls 21 pos handed out none frames wt).step = m2 text lim seen' s ls 35 pos handed out none frames wt := ⟨_, rfl⟩
theorem jump32 : ∃ seen', (m2 text lim seen s ls 32 pos handed out none frames wt).step = m2 text lim seen' s ls 35 pos handed out none frames wt := ⟨_, rfl⟩
theorem assert26 : ∃ seen', (m2 text lim seen s ls 26 pos handed first none [NB 23 s first, NS s first] 2).step = m2 text lim seen' s ls 29 pos pos false none [LN pos first, NB 23 s first, NS s first] 3 := ⟨_, rfl⟩
theorem look26 {p : Nat} : ∃ seen', (m2 text lim seen s ls 29 p handed out (some false) [LN pos first, NB 23 s first, NS s first] 3).step = m2 text lim seen' s ls 32 pos handed first none [NB 23 s first, NS s first] 2 := ⟨_, rfl⟩
theorem run2_10 (h1 : s < lim) (h2 : text.getD s 0 = 10) : ∃ k m', k ≤ 20 ∧ M.runFor k (m2 text lim seen s ls 10 s s first none [NS s first] 1) = m' ∧ m'.outcome = some .matched ∧ m'.start = s ∧ m'.handed = s + 1 := by
  obtain ⟨n1, e1⟩ := start2 (text := text) (lim := lim) (seen := seen) (s := s) (ls := ls) (first := first)
  obtain ⟨n2, e2⟩ := n12 (text := text) (lim := lim) (seen := n1) (s := s) (ls := ls) (pos := s) (handed := s) (out := first) (frames := [NB 11 s first, NS s first]) (wt := 2) (by rw [h2]; omega)
  obtain ⟨n3, e3⟩ := alt18 (text := text) (lim := lim) (seen := n2) (s := s) (ls := ls) (first := first) (out := first) (pc := 12) (h := s) (p := s)
  obtain ⟨n4, e4⟩ := y19 (text := text) (lim := lim) (seen := n3) (s := s) (ls := ls) (pos := s) (handed := s) (out := first) (frames := [NB 18 s first, NS s first]) (wt := 2) h1 h2
  obtain ⟨n5, e5⟩ := jump21 (text := text) (lim := lim) (seen := n4) (s := s) (ls := ls) (pos := s + 1) (handed := s) (out := first) (frames := [NB 18 s first, NS s first]) (wt := 2)
  obtain ⟨m', hr, ho⟩ := fin35 (text := text) (lim := lim) (seen := n5) (s := s) (ls := ls) (pos := s + 1) (handed := s) (out := first) (first := first) (wt := 2) (b := 18) (by omega)
  exact ⟨9, m', by omega, by rw [runFor_succ, e1, runFor_succ, e2, runFor_succ, e3, runFor_succ, e4, runFor_succ, e5]; exact hr, ho⟩
theorem run2_1310 (h1 : s + 1 < lim) (h2 : text.getD s 0 = 13) (h3 : text.getD (s + 1) 0 = 10) : ∃ k m', k ≤ 20 ∧ M.runFor k (m2 text lim seen s ls 10 s s first none [NS s first] 1) = m' ∧ m'.outcome = some .matched ∧ m'.start = s ∧ m'.handed = s + 2 := by
  obtain ⟨n1, e1⟩ := start2 (text := text) (lim := lim) (seen := seen) (s := s) (ls := ls) (first := first)
  obtain ⟨n2, e2⟩ := y12 (text := text) (lim := lim) (seen := n1) (s := s) (ls := ls) (pos := s) (handed := s) (out := first) (frames := [NB 11 s first, NS s first]) (wt := 2) (by omega) h2
  obtain ⟨n3, e3⟩ := y14 (text := text) (lim := lim) (seen := n2) (s := s) (ls := ls) (pos := s + 1) (handed := s) (out := first) (frames := [NB 11 s first, NS s first]) (wt := 2) h1 h3
  obtain ⟨n4, e4⟩ := jump16 (text := text) (lim := lim) (seen := n3) (s := s) (ls := ls) (pos := s + 1 + 1) (handed := s) (out := first) (frames := [NB 11 s first, NS s first]) (wt := 2)
  obtain ⟨m', hr, ho⟩ := fin35 (text := text) (lim := lim) (seen := n4) (s := s) (ls := ls) (pos := s + 1 + 1) (handed := s) (out := first) (first := first) (wt := 2) (b := 11) (by omega)
  exact ⟨8, m', by omega, by rw [runFor_succ, e1, runFor_succ, e2, runFor_succ, e3, runFor_succ, e4]; exact hr, ho⟩
theorem run2_13 (h1 : s < lim) (h2 : text.getD s 0 = 13) (h3 : ¬ (s + 1 < lim ∧ text.getD (s + 1) 0 = 10)) : ∃ k m', k ≤ 20 ∧ M.runFor k (m2 text lim seen s ls 10 s s first none [NS s first] 1) = m' ∧ m'.outcome = some .matched ∧ m'.start = s ∧ m'.handed = s + 1 := by
  obtain ⟨n1, e1⟩ := start2 (text := text) (lim := lim) (seen := seen) (s := s) (ls := ls) (first := first)
  obtain ⟨n2, e2⟩ := y12 (text := text) (lim := lim) (seen := n1) (s := s) (ls := ls) (pos := s) (handed := s) (out := first) (frames := [NB 11 s first, NS s first]) (wt := 2) h1 h2
  obtain ⟨n3, e3⟩ := n14 (text := text) (lim := lim) (seen := n2) (s := s) (ls := ls) (pos := s + 1) (handed := s) (out := first) (frames := [NB 11 s first, NS s first]) (wt := 2) h3
  obtain ⟨n4, e4⟩ := alt18 (text := text) (lim := lim) (seen := n3) (s := s) (ls := ls) (first := first) (out := first) (pc := 14) (h := s) (p := s + 1)
  obtain ⟨n5, e5⟩ := n19 (text := text) (lim := lim) (seen := n4) (s := s) (ls := ls) (pos := s) (handed := s) (out := first) (frames := [NB 18 s first, NS s first]) (wt := 2) (by rw [h2]; omega)
  obtain ⟨n6, e6⟩ := alt23 (text := text) (lim := lim) (seen := n5) (s := s) (ls := ls) (first := first) (out := first) (pc := 19) (h := s) (p := s)
  obtain ⟨n7, e7⟩ := y24 (text := text) (lim := lim) (seen := n6) (s := s) (ls := ls) (pos := s) (handed := s) (out := first) (frames := [NB 23 s first, NS s first]) (wt := 2) h1 h2
  obtain ⟨n8, e8⟩ := assert26 (text := text) (lim := lim) (seen := n7) (s := s) (ls := ls) (pos := s + 1) (handed := s) (first := first)
  obtain ⟨n9, e9⟩ := n29 (text := text) (lim := lim) (seen := n8) (s := s) (ls := ls) (pos := s + 1) (handed := s + 1) (out := false) (frames := [LN (s + 1) first, NB 23 s first, NS s first]) (wt := 3) h3
  obtain ⟨n10, e10⟩ := look26 (text := text) (lim := lim) (seen := n9) (s := s) (ls := ls) (pos := s + 1) (handed := s + 1) (out := false) (first := first) (p := s + 1)
  obtain ⟨n11, e11⟩ := jump32 (text := text) (lim := lim) (seen := n10) (s := s) (ls := ls) (pos := s + 1) (handed := s + 1) (out := first) (frames := [NB 23 s first, NS s first]) (wt := 2)
  obtain ⟨m', hr, ho⟩ := fin35 (text := text) (lim := lim) (seen := n11) (s := s) (ls := ls) (pos := s + 1) (handed := s + 1) (out := first) (first := first) (wt := 2) (b := 23) (by omega)
  exact ⟨15, m', by omega, by rw [runFor_succ, e1, runFor_succ, e2, runFor_succ, e3, runFor_succ, e4, runFor_succ, e5, runFor_succ, e6, runFor_succ, e7, runFor_succ, e8, runFor_succ, e9, runFor_succ, e10, runFor_succ, e11]; exact hr, ho⟩
end Mine
end
section
open PySem PySem.W PyProof.Rows PySem.Calls PySem.Spec PySem.Builtin.Re
namespace Mine
theorem start_Re3 : True := by
  w_top off
  k_with_none
  trivial
open PySem.Sre
theorem inSet2 (c : Nat) (seen : Sre.Seen) : ∃ seen', inSet C2 c 36 5 true seen = .ok (decide (c = 10 ∨ c = 13), seen') := by
  by_cases h1 : c = 10
  · subst h1; exact ⟨_, rfl⟩
  · by_cases h2 : c = 13
    · subst h2; exact ⟨_, rfl⟩
    · have b1 : (c == 10) = false := by simpa using h1
      have b2 : (c == 13) = false := by simpa using h2
      refine ⟨((seen.add 16).add 16).add 0, ?_⟩
      show (if c == 10 then _ else if c == 13 then _ else _) = _
      rw [b1, b2]
      simp only [Bool.false_eq_true, if_false]
      have : decide (c = 10 ∨ c = 13) = false := by simp [h1, h2]
      rw [this]
      rfl
noncomputable def next2 (text : Array Nat) (lim : Nat) : Nat → Nat → Option Nat
  | 0, _ => none
  | n + 1, s => if s ≥ lim then none else if text.getD s 0 = 10 ∨ text.getD s 0 = 13 then some s else next2 text lim n (s + 1)
theorem admitted2 (m : M) (hc : m.code = C2) : ∀ (n s : Nat) (seen : Sre.Seen), ∃ seen', M.admitted m n s seen = .ok (next2 m.text m.lim n s, seen')
  | 0, s, seen => ⟨seen, rfl⟩
  | n + 1, s, seen => by
    unfold M.admitted next2
    by_cases h : s ≥ m.lim
    · rw [if_pos h, if_pos h]; exact ⟨_, rfl⟩
    · rw [if_neg h, if_neg h, hc]
      obtain ⟨sn, e⟩ := inSet2 (m.text.getD s 0) seen
      rw [show C2.size = 36 from rfl, e]
      by_cases h2 : m.text.getD s 0 = 10 ∨ m.text.getD s 0 = 13
      · rw [if_pos h2, decide_eq_true h2]; exact ⟨_, rfl⟩
      · rw [if_neg h2, decide_eq_false h2]; exact admitted2 m hc n (s + 1) sn
noncomputable def step2 (text : Array Nat) (lim e : Nat) : Nat := if text.getD e 0 = 13 ∧ e + 1 < lim ∧ text.getD (e + 1) 0 = 10 then e + 2 else e + 1
theorem next2_spec {text : Array Nat} {lim : Nat} : ∀ (n s e : Nat), next2 text lim n s = some e → e < lim ∧ (text.getD e 0 = 10 ∨ text.getD e 0 = 13) ∧ s ≤ e
  | 0, _, _, h => by cases h
  | n + 1, s, e, h => by
    unfold next2 at h
    by_cases h1 : s ≥ lim
    · rw [if_pos h1] at h; cases h
    · rw [if_neg h1] at h
      by_cases h2 : text.getD s 0 = 10 ∨ text.getD s 0 = 13
      · rw [if_pos h2] at h; cases h; exact ⟨by omega, h2, Nat.le_refl _⟩
      · rw [if_neg h2] at h
        obtain ⟨a, b, c⟩ := next2_spec n (s + 1) e h
        exact ⟨a, b, by omega⟩
noncomputable def fresh2 (text : Array Nat) (pos lim : Nat) (seen : Sre.Seen) : M := { code := C2, text, lim, start := pos, lastStart := lim, pc := 10, pos, handed := pos, marks := #[], seen }
noncomputable def fresh1 (text : Array Nat) (pos lim : Nat) (seen : Sre.Seen) : M := { code := C1, text, lim, start := pos, lastStart := lim, pc := 5, pos, handed := pos, marks := #[], seen }
theorem say_failed (m : M) (ho : m.outcome = none) (hf : m.frames = []) : M.runFor 1 (m.say false) = { m.say false with outcome := some .failed } := by
  rw [runFor_succ]
  obtain ⟨code, text, lim, start, lastStart, wholeText, mustAdvance, pc, pos, handed, outermost, marks, lastmark, lastindex, loops, inner, frames, weight, answer, seen, outcome⟩ := m
  dsimp only at ho hf
  subst ho hf
  rfl
theorem search2 {text : Array Nat} {pos lim : Nat} (hp : pos ≤ lim) : ∃ k m', k ≤ 30 ∧ M.runFor k (forSearch C2 text 0 pos lim false) = m' ∧
    (match next2 text lim (lim + 1 - pos) pos with | some e => m'.outcome = some .matched ∧ m'.start = e ∧ m'.handed = step2 text lim e | none => m'.outcome = some .failed) := by
  by_cases h0 : lim - pos < 1
  · have e1 : forSearch C2 text 0 pos lim false = ({ fresh2 text pos lim (({} : Sre.Seen).add 14) with lastStart := 0 } : M).say false := by
      show (if (decide (pos > lim) || decide (lim - pos < 1)) = true then _ else _) = _
      rw [if_pos (by simp; omega)]
      rfl
    refine ⟨1, _, by omega, rfl, ?_⟩
    rw [e1, say_failed _ rfl rfl]
    have hn : next2 text lim (lim + 1 - pos) pos = none := by
      rw [show lim + 1 - pos = 1 from by omega]
      show (if pos ≥ lim then none else _) = none
      rw [if_pos (by omega)]
    rw [hn]
  · have e1 : forSearch C2 text 0 pos lim false = (fresh2 text pos lim (({} : Sre.Seen).add 14)).attemptFrom pos true := by
      show (if (decide (pos > lim) || decide (lim - pos < 1)) = true then _ else _) = _
      rw [if_neg (by simp; omega)]
      rfl
    obtain ⟨sn, e2⟩ := admitted2 (fresh2 text pos lim (({} : Sre.Seen).add 14)) rfl (lim + 1 - pos) pos (({} : Sre.Seen).add 14)
    have e3 : (fresh2 text pos lim (({} : Sre.Seen).add 14)).attemptFrom pos true = (match next2 text lim (lim + 1 - pos) pos with | some s => m2 text lim sn s lim 10 s s true none [NS s true] 1 | none => ({ fresh2 text pos lim sn with seen := sn } : M).say false) := by
      show (match M.admitted (fresh2 text pos lim (({} : Sre.Seen).add 14)) (lim + 1 - pos) pos (({} : Sre.Seen).add 14) with
        | .ok (some s, seen) => _ | .ok (none, seen) => _ | .error why => _) = _
      rw [e2]
      show (match (Except.ok (next2 text lim (lim + 1 - pos) pos, sn) : Except String (Option Nat × Sre.Seen)) with | .ok (some s, seen) => _ | .ok (none, seen) => _ | .error why => _) = _
      cases next2 text lim (lim + 1 - pos) pos <;> rfl
    rw [e1, e3]
    cases hn : next2 text lim (lim + 1 - pos) pos with
    | none =>
      refine ⟨1, _, by omega, rfl, ?_⟩
      dsimp only
      rw [say_failed _ rfl rfl]
    | some e =>
      obtain ⟨h1, h2, _⟩ := next2_spec _ _ _ hn
      dsimp only
      rcases h2 with h2 | h2
      · obtain ⟨k, m', hk, hr, ho, hs, hh⟩ := run2_10 (seen := sn) (ls := lim) (first := true) h1 h2
        exact ⟨k, m', by omega, hr, ho, hs, by rw [hh]; unfold step2; rw [if_neg (by rw [h2]; omega)]⟩
      · by_cases h3 : e + 1 < lim ∧ text.getD (e + 1) 0 = 10
        · obtain ⟨k, m', hk, hr, ho, hs, hh⟩ := run2_1310 (seen := sn) (ls := lim) (first := true) h3.1 h2 h3.2
          exact ⟨k, m', by omega, hr, ho, hs, by rw [hh]; unfold step2; rw [if_pos ⟨h2, h3⟩]⟩
        · obtain ⟨k, m', hk, hr, ho, hs, hh⟩ := run2_13 (seen := sn) (ls := lim) (first := true) h1 h2 h3
          exact ⟨k, m', by omega, hr, ho, hs, by rw [hh]; unfold step2; rw [if_neg (fun q => h3 q.2)]⟩
theorem search1 {text : Array Nat} {pos lim : Nat} (hp : pos ≤ lim) : ∃ k m', k ≤ 4 * lim + 20 ∧ M.runFor k (forSearch C1 text 0 pos lim false) = m' ∧
    (match next1 text lim (lim + 1 - pos) pos with | some e => m'.outcome = some .matched ∧ m'.start = e ∧ m'.handed = e + 1 | none => m'.outcome = some .failed) := by
  by_cases h0 : lim - pos < 1
  · have e1 : forSearch C1 text 0 pos lim false = ({ fresh1 text pos lim (({} : Sre.Seen).add 14) with lastStart := 0 } : M).say false := by
      show (if (decide (pos > lim) || decide (lim - pos < 1)) = true then _ else _) = _
      rw [if_pos (by simp; omega)]
      rfl
    refine ⟨1, _, by omega, rfl, ?_⟩
    rw [e1, say_failed _ rfl rfl]
    have hn : next1 text lim (lim + 1 - pos) pos = none := by
      rw [show lim + 1 - pos = 1 from by omega]
      show (if pos < lim ∧ _ then some pos else if pos < lim then _ else none) = none
      rw [if_neg (by omega), if_neg (by omega)]
    rw [hn]
  · have e1 : forSearch C1 text 0 pos lim false = m1 text lim (({} : Sre.Seen).add 14) pos true lim 5 pos pos none := by
      show (if (decide (pos > lim) || decide (lim - pos < 1)) = true then _ else _) = _
      rw [if_neg (by simp; omega)]
      rfl
    rw [e1]
    obtain ⟨k, m', hk, hr, hm⟩ := run1 (text := text) (lim := lim) (lim + 1 - pos) pos (({} : Sre.Seen).add 14) true (Nat.le_refl _) hp
    exact ⟨k, m', by omega, hr, hm⟩
end Mine
end
section
open PySem PySem.W PyProof.Rows PySem.Calls PySem.Spec PySem.Builtin.Re
namespace Mine
theorem start_Re4 : True := by
  w_top off
  k_with_none
  trivial
theorem SV.strs : ∀ {vs : List Value} {xs : List Str}, SV vs xs → ∃ l, vs = strValues l ∧ l.map (·.1) = xs
  | _, _, .nil => ⟨[], rfl, rfl⟩
  | _, _, .cons (t := t) (x := x) r => by
    obtain ⟨l, e1, e2⟩ := SV.strs r
    exact ⟨(x, t) :: l, by rw [e1]; rfl, by rw [← e2]; rfl⟩
noncomputable def catL (xs : List Str) : List Nat := (xs.map (·.cps.toList)).flatten
theorem glued_cat (e : Str) (he : e.cps = #[]) : ∀ xs : List Str, (Txt.join e xs).cps.toList = catL xs
  | [] => by
    show (Str.empty).cps.toList = []
    rfl
  | x :: xs => by
    show (List.foldl (fun acc (p : Str) => acc ++ e.cps ++ p.cps) x.cps xs).toList = x.cps.toList ++ catL xs
    have gen : ∀ (xs : List Str) (a : Array Nat), (List.foldl (fun acc (p : Str) => acc ++ e.cps ++ p.cps) a xs).toList = a.toList ++ catL xs := by
      intro xs
      induction xs with
      | nil => intro a; simp [catL]
      | cons y ys ih => intro a; rw [List.foldl_cons, ih, he]; simp [catL]
    exact gen xs _
theorem joinOk_cat (e : Str) (he : e.length = 0) {xs : List Str} (h : (catL xs).length ≤ 16777216) : JoinOk e xs = true := by
  refine joinOk_of ?_
  rw [he]
  have : (xs.map (·.length)).sum = (catL xs).length := by
    induction xs with
    | nil => rfl
    | cons y ys ih => simp only [List.map_cons, List.sum_cons, catL, List.flatten_cons, List.length_append]; rw [ih (by simp [catL] at h ⊢; omega)]; rfl
  omega
section
variable {prog : Program} {w : World} {A : Around} {E : Value → Shared → Prop} {s : Shared}
theorem wholeTarget {Q : ReTarget → Shared → Prop} {pat cd : Nat} {x : Str} {tx : Tok} {C : Array Nat} {src : Value} {fl : Int} {tf : Nat} {o : Obj} {vs : Array Value} {n : Nat}
    (hp : s.heap.get? pat = some o) (ho : o.data = .fields #[src, .int fl tf, .int 0 0, .none, .none, .ref cd, .int 0 0]) {oc : Obj} (hc : s.heap.get? cd = some oc) (hd : oc.data = .seq vs n)
    (hv : (vs.map reRawOf).map (·.toNat) = C) (h : Q { pattern := .ref pat, string := .str x tx, code := C, text := x.cps, kind := 0, groups := 0, pos := 0, lim := x.cps.size } s) :
    wpAny (model prog w) A (reWholeTarget (.ref pat) (.str x tx)) Q E s := by
  unfold reWholeTarget
  refine wpAny_bind (wpAny_fieldsOf hp ho ?_)
  refine wpAny_bind (wpAny_pure (a := ((x.cps, 0) : Array Nat × Nat)) ?_)
  show wpAny _ _ (reRawItems (.ref cd) >>= _) _ _ s
  refine wpAny_bind ?_
  unfold reRawItems
  refine wpAny_bind (wpAny_seqItems hc hd ?_)
  refine wpAny_pure ?_
  show wpAny _ _ (pure _) _ _ s
  refine wpAny_pure ?_
  rw [show (Array.map reRawOf ((some vs).getD #[])).map (·.toNat) = C from hv]
  exact h
/-- what is laid for a match: the text from here on -/
noncomputable def subF (text repl : List Nat) (nx : Nat → Option Nat) (stp : Nat → Nat) : Nat → Nat → List Nat
  | 0, _ => []
  | n + 1, pos => match nx pos with
    | some e => ((text.drop pos).take (e - pos) ++ repl) ++ subF text repl nx stp n (stp e)
    | none => text.drop pos
theorem entry_subloop : entryFor table "re.Pattern.sub.loop" = some Builtin.«re.Pattern.sub.loop» := entryFor_of_fast (by kernel_rfl)
structure PatOk (h : Heap) (pat cd : Nat) (C : Array Nat) : Prop where
  ex : ∃ o src fl tf oc vs n, h.get? pat = some o ∧ o.data = .fields #[src, .int fl tf, .int 0 0, .none, .none, .ref cd, .int 0 0] ∧ h.get? cd = some oc ∧ oc.data = .seq vs n ∧ (vs.map reRawOf).map (·.toNat) = C
theorem PatOk.keeps {h h' : Heap} {pat cd : Nat} {C : Array Nat} (x : PatOk h pat cd C) (k : ∀ b o, h.get? b = some o → h'.get? b = some o) : PatOk h' pat cd C :=
  let ⟨o, src, fl, tf, oc, vs, n, h1, h2, h3, h4, h5⟩ := x.ex
  ⟨o, src, fl, tf, oc, vs, n, k _ _ h1, h2, k _ _ h3, h4, h5⟩
theorem upd_led {hb : Heap} {D c : Nat} {its : Array Value} {v : Value} {Q : Unit → Shared → Prop} (B : Bs hb s.heap) (N : Led hb s.heap [(D, listOf its c)]) (hz : its.size < 10000000)
    (h : ∀ h', Bs hb h' → Led hb h' [(D, listOf (its.push v) (c + 1))] → Q () { s with heap := h' }) : wpAny (model prog w) A (updateSeq D (·.push v)) Q E s := by
  have n := N _ (.head _)
  have hs := Heap.SameBut.update s.heap D (Obj.mapSeq (·.push v))
  refine wpAny_updateSeq n.1 rfl (h _ ⟨fun b o e => (hs.2 b fun q => by rw [q, n.2] at e; cases e).trans (B.stays _ _ e), Nat.le_trans B.size (Nat.le_of_eq hs.1.symm)⟩ fun p hp => ?_) (by simp only [sizeLine]; omega) (by rw [Array.size_push]; simp only [sizeLine]; omega)
  obtain rfl := List.mem_singleton.mp hp
  refine ⟨?_, n.2⟩
  have q := PySem.IsL.update n.1 (·.push v)
  rw [if_neg (by simp)] at q
  exact q
theorem slice_ok {x : Str} {a b : Nat} {Q : Value → Shared → Prop} (hx : x.cps.size ≤ 1000000) (h : Q (.str ⟨x.cps.extract a b⟩ s.toks) { s with toks := s.toks + 1 }) : wpAny (model prog w) A (reSlice x.cps 0 a b) Q E s := by
  show wpAny _ _ (mkStr _) _ _ _
  refine wpAny_mkStr h ?_
  show (x.cps.extract a b).size ≤ _
  simp only [Array.size_extract, sizeLine]; omega
theorem catL_snoc (xs : List Str) (y : Str) : catL (xs ++ [y]) = catL xs ++ y.cps.toList := by simp [catL]
theorem subloop {hb : Heap} {pat cd D tr : Nat} {C : Array Nat} {x rp : Str} {tx : Tok} {nx : Nat → Option Nat} {stp : Nat → Nat} {R : Result → Shared → Prop} (hP : PatOk hb pat cd C) (hx : x.cps.size ≤ 1000000) (hrp : rp.length ≤ 10)
    (hs : ∀ pos, pos ≤ x.cps.size → ∃ k m', k ≤ 100000000 ∧ Sre.M.runFor k (Sre.forSearch C x.cps 0 pos x.cps.size false) = m' ∧
      (match nx pos with | some e => m'.outcome = some .matched ∧ m'.start = e ∧ m'.handed = stp e | none => m'.outcome = some .failed))
    (hn : ∀ pos e, nx pos = some e → pos ≤ e ∧ e < stp e ∧ stp e ≤ x.cps.size) :
    ∀ (fuel pos : Nat) (n : Int) (s : Shared) (vs : List Value) (xs : List Str) (c : Nat), x.cps.size + 1 - pos ≤ fuel → pos ≤ x.cps.size → Bs hb s.heap → Led hb s.heap [(D, listOf vs.toArray c)] → SV vs xs → (catL xs).length ≤ 12 * pos → vs.length ≤ 2 * pos →
      (∀ h' tk t, Bs hb h' → R (.ok (.ret (.str ⟨(catL xs ++ subF x.cps.toList rp.cps.toList nx stp fuel pos).toArray⟩ t))) { s with heap := h', toks := tk }) →
      codeAny (model prog w) A (.builtin "re.Pattern.sub.loop" ⟨[.ref pat, .str x tx, .str rp tr, rawInt 0, rawInt 0, rawInt n, rawInt pos, rawInt pos, .bool false, .ref D, .bool false], []⟩) R s
  | 0, pos, n, s, vs, xs, c, hf, hp, _, _, _, _, _, _ => by omega
  | fuel + 1, pos, n, s, vs, xs, c, hf, hp, B, N, sv, hl1, hl2, hR => by
    refine codeAny_builtin entry_subloop ?_
    obtain ⟨o, src, fl, tf, oc, ws, nn, h1, h2, h3, h4, h5⟩ := hP.ex
    show wpAny _ _ (reWholeTarget (.ref pat) (.str x tx) >>= _) _ _ s
    refine wpAny_bind (wholeTarget (B.stays _ _ h1) h2 (B.stays _ _ h3) h4 h5 ?_)
    show wpAny _ _ (reRunToEnd (Sre.forSearch C x.cps 0 pos x.cps.size false) >>= _) _ _ s
    obtain ⟨k, m', hk, hr, hm⟩ := hs pos hp
    refine wpAny_bind ?_
    cases hnx : nx pos with
    | some e =>
      rw [hnx] at hm
      obtain ⟨ho, hst, hh⟩ := hm
      obtain ⟨q1, q2, q3⟩ := hn pos e hnx
      refine toEnd_some hr ho hk ?_
      have hsub : subF x.cps.toList rp.cps.toList nx stp (fuel + 1) pos = ((x.cps.toList.drop pos).take (e - pos) ++ rp.cps.toList) ++ subF x.cps.toList rp.cps.toList nx stp fuel (stp e) := by
        show (match nx pos with | some e => _ | none => _) = _
        rw [hnx]
      have hmust : (m'.handed == m'.start) = false := by rw [hst, hh]; exact beq_false_of_ne (by omega)
      have hexl : (x.cps.extract pos e).toList = (x.cps.toList.drop pos).take (e - pos) := by simp
      have hlenx : ((x.cps.toList.drop pos).take (e - pos)).length ≤ e - pos := by rw [List.length_take]; omega
      have hrpl : rp.cps.toList.length ≤ 10 := by rw [Array.length_toList]; exact hrp
      have tail : ∀ (s : Shared) (vs : List Value) (xs' : List Str) (c : Nat) , Bs hb s.heap → Led hb s.heap [(D, listOf vs.toArray c)] → SV vs xs' → catL xs' = catL xs ++ (x.cps.toList.drop pos).take (e - pos) → vs.length ≤ 2 * pos + 1 →
          (∀ h' tk t, Bs hb h' → R (.ok (.ret (.str ⟨(catL xs ++ subF x.cps.toList rp.cps.toList nx stp (fuel + 1) pos).toArray⟩ t))) { s with heap := h', toks := tk }) →
          wpAny (model prog w) (A.under (.builtin "re.Pattern.sub.loop" ⟨[.ref pat, .str x tx, .str rp tr, rawInt 0, rawInt 0, rawInt n, rawInt pos, rawInt pos, .bool false, .ref D, .bool false], []⟩))
            (do updateSeq D (·.push (.str rp tr)); again (.builtin "re.Pattern.sub.loop" ⟨[.ref pat, .str x tx, .str rp tr, rawInt 0, rawInt 0, rawInt (n + 1), rawInt m'.handed, rawInt m'.handed, .bool (m'.handed == m'.start), .ref D, .bool false], []⟩))
            (fun fin s' => match fin with | .done f => R (.ok f) s' | .again c' => c'.quiet = true ∧ codeAny (model prog w) A c' R s') (fun e s' => R (.error e) s') s := by
        intro s vs xs' c B N sv hc hl hR
        refine wpAny_bind (upd_led B N (by simp; omega) fun h' B' N' => ?_)
        refine wpAny_pure ⟨plainId_quiet (by decide +kernel) _, ?_⟩
        rw [hmust, hh]
        refine subloop hP hx hrp hs hn fuel (stp e) (n + 1) _ (vs ++ [.str rp tr]) (xs' ++ [rp]) (c + 1) (by omega) q3 B' (by simpa using N') (sv.append (.cons .nil)) ?_ ?_ fun h2 tk t B2 => ?_
        · rw [catL_snoc, hc]; simp only [List.length_append]; omega
        · simp; omega
        · rw [catL_snoc, hc]
          have := hR h2 tk t B2
          rw [hsub] at this
          simpa [List.append_assoc] using this
      show wpAny _ _ (if pos < m'.start then _ else _) _ _ _
      by_cases hlt : pos < m'.start
      · rw [if_pos hlt]
        refine wpAny_bind (slice_ok hx ?_)
        refine wpAny_bind (upd_led (s := { s with toks := s.toks + 1 }) B N (by simp; omega) fun h' B' N' => ?_)
        rw [hst] at N' hlt
        exact tail { s with heap := h', toks := s.toks + 1 } (vs ++ [.str ⟨x.cps.extract pos e⟩ s.toks]) (xs ++ [⟨x.cps.extract pos e⟩]) (c + 1) B' (by simpa using N') (sv.append (.cons .nil)) (by rw [catL_snoc, hexl]) (by simp; omega) hR
      · rw [if_neg hlt]
        rw [hst] at hlt
        have hpe : e = pos := by omega
        exact tail s vs xs c B N sv (by rw [hpe]; simp) (by omega) hR
    | none =>
      rw [hnx] at hm
      refine toEnd_none hr hm hk ?_
      have hsub : subF x.cps.toList rp.cps.toList nx stp (fuel + 1) pos = x.cps.toList.drop pos := by
        show (match nx pos with | some e => _ | none => _) = _
        rw [hnx]
      rw [hsub] at hR
      have hexl : (x.cps.extract pos x.cps.size).toList = x.cps.toList.drop pos := by
        simp only [Array.toList_extract, List.extract_eq_take_drop]; exact List.take_of_length_le (by simp)
      have he0 : x.cps.extract 0 0 = #[] := by simp
      have tail : ∀ (s : Shared) (vs : List Value) (xs' : List Str) (c : Nat) , Bs hb s.heap → Led hb s.heap [(D, listOf vs.toArray c)] → SV vs xs' → catL xs' = catL xs ++ x.cps.toList.drop pos →
          (∀ h' tk t, Bs hb h' → R (.ok (.ret (.str ⟨(catL xs ++ x.cps.toList.drop pos).toArray⟩ t))) { s with heap := h', toks := tk }) →
          wpAny (model prog w) (A.under (.builtin "re.Pattern.sub.loop" ⟨[.ref pat, .str x tx, .str rp tr, rawInt 0, rawInt 0, rawInt n, rawInt pos, rawInt pos, .bool false, .ref D, .bool false], []⟩))
            (do
              let joiner ← reSlice x.cps 0 0 0
              let text ← if ((← seqItems? (.ref D)).getD #[]).isEmpty then pure joiner else call (.builtin "str.join") [joiner, .ref D]
              ret text)
            (fun fin s' => match fin with | .done f => R (.ok f) s' | .again c' => c'.quiet = true ∧ codeAny (model prog w) A c' R s') (fun e s' => R (.error e) s') s := by
        intro s vs xs' c B N sv hc hR
        refine wpAny_bind (slice_ok hx ?_)
        rw [he0]
        refine wpAny_bind (wpAny_seqItems (N _ (.head _)).1 rfl ?_)
        have hcl : (catL xs').length ≤ 16777216 := by rw [hc]; simp only [List.length_append, List.length_drop, Array.length_toList]; omega
        cases sv with
        | nil =>
          refine wpAny_pure ?_
          have := hR s.heap (s.toks + 1) s.toks B
          rw [← hc] at this
          exact this
        | @cons t y vs2 xs2 sv2 =>
          obtain ⟨l, e1, e2⟩ := SV.strs (.cons sv2)
          have hl : s.heap.IsList D (strValues l).toArray := ⟨_, (N _ (.head _)).1, rfl, _, by rw [← e1]⟩
          show wpAny _ _ (call (.builtin "str.join") [.str ⟨#[]⟩ s.toks, .ref D] >>= _) _ _ _
          refine wpAny_bind ?_
          refine SC.join (s := { s with toks := s.toks + 1 }) hl e2 (joinOk_cat _ rfl hcl) fun t' k' => ?_
          refine wpAny_pure ?_
          have := hR s.heap k' t' B
          rw [← hc, ← glued_cat ⟨#[]⟩ rfl] at this
          simpa using this
      show wpAny _ _ (if pos < x.cps.size then _ else _) _ _ _
      by_cases hlt : pos < x.cps.size
      · rw [if_pos hlt]
        refine wpAny_bind (slice_ok hx ?_)
        refine wpAny_bind (upd_led (s := { s with toks := s.toks + 1 }) B N (by simp; omega) fun h' B' N' => ?_)
        exact tail { s with heap := h', toks := s.toks + 1 } (vs ++ [.str ⟨x.cps.extract pos x.cps.size⟩ s.toks]) (xs ++ [⟨x.cps.extract pos x.cps.size⟩]) (c + 1) B' (by simpa using N') (sv.append (.cons .nil)) (by rw [catL_snoc, hexl]) hR
      · rw [if_neg hlt]
        exact tail s vs xs c B N sv (by rw [List.drop_of_length_le (by rw [Array.length_toList]; omega)]; simp) hR
end
end Mine
end
section
open PySem PySem.W PyProof.Rows PySem.Calls PySem.Spec
namespace Mine
theorem start_Cmp1 : True := by
  w_top off
  k_with_none
  trivial
theorem SV.of_paired {α : Type} {f : α → Str} {R : Value → α → Prop} : ∀ {vs : List Value} {cs : List α} {ys : List Value}, Paired (fun v y => ∀ c, R v c → ∃ u, y = Value.str (f c) u) vs ys → vs.length = cs.length → (∀ (j : Nat) v c, vs[j]? = some v → cs[j]? = some c → R v c) → SV ys (cs.map f)
  | _, [], _, .nil, _, _ => .nil
  | _, c :: cs, _, .nil, h, _ => by simp at h
  | _, [], _, .cons _ _, h, _ => by simp at h
  | _, c :: cs, _, .cons (a := v) h1 h2, hl, hR => by
    obtain ⟨u, rfl⟩ := h1 c (hR 0 v c rfl rfl)
    exact .cons (SV.of_paired h2 (by simpa using hl) fun j v' c' hv hc => hR (j + 1) v' c' (by simpa using hv) (by simpa using hc))
noncomputable def GotText (s : Shared) (hb : Heap) (L : Addr) (m : Str → Option Value) (news : List (Addr × Obj)) (wd : Str) (xv : Value) (s₁ : Shared) : Prop :=
  ∃ h tk t, xv = .str wd t ∧ s₁ = { s with heap := h, toks := tk } ∧ Fr hb L h m ∧ News hb L h news
noncomputable def GotElt (f : Str) (s₃ : Shared) (y : Value) (s₄ : Shared) : Prop := (∃ u, y = .str f u) ∧ Keeps s₃ s₄
section
variable {prog : Program} {w : World} {A : Around} {E : Value → Shared → Prop} {s : Shared} {hb : Heap} {L : Addr} {m : Str → Option Value} {news : List (Addr × Obj)}
theorem comp_text {env : Env} {elt iter : Expr} {x : Str} {px : Pos} {scope : Scope} {cl : List (Str × Addr)} {pos : Pos} {Q : Value → Shared → Prop} {wd : Str} (f : Nat → Str) (_F : Fr hb L s.heap m) (_N : News hb L s.heap news) (hh : A.handled = none)
    (hclos : closureFor scope env = pure cl) (hcell : ∀ y ∈ scope.names, y.2 ≠ .cell) (hkind : scope.kind = .function)
    (hnames : ∀ y ∈ scope.names, y.2 = .local → scope.names.lookup y.1 = some .local) (hx : scope.names.lookup x = some .local) (hsz : wd.cps.size ≤ 1000000)
    (hi : wpAny (model prog w) A (eval iter env) (GotText s hb L m news wd) E s)
    (he : ∀ c t' C s₃ m₃ E', c ∈ wd.cps.toList → s₃.heap.Ns C m₃ → m₃ x = some (.str ⟨#[c]⟩ t') → (∀ b o, hb.get? b = some o → s₃.heap.get? b = some o) →
      wpAny (model prog w) A (eval elt (compEnvC scope cl C env)) (GotElt (f c) s₃) E' s₃)
    (h : ∀ h' tk (D : Nat) ys k, Fr hb L h' m → News hb L h' ((D, listOf ys.toArray k) :: news) → SV ys (wd.cps.toList.map f) → (∀ p ∈ news, p.1 ≠ D) → Q (.ref D) { s with heap := h', toks := tk })
    (hs : ∀ x, foldedSetIterable iter env x = pure x := by intro _; rfl) :
    wpAny (model prog w) A (eval (.ListComp elt [⟨.Name x px, iter, [], 0⟩] scope pos) env) Q E s := by
  refine wpAny_ListComp_free (fun _ => true) (fun v y => ∀ c, (c ∈ wd.cps.toList ∧ ∃ t', v = Value.str ⟨#[c]⟩ t') → ∃ u, y = Value.str (f c) u) hclos hcell hkind hnames hx (wpAny_mono hi (fun xv s₁ h₁ => ?_) fun _ _ e => e) hs
  obtain ⟨h1, tk1, t, rfl, rfl, F, N⟩ := h₁
  have key : ∀ (o : Obj) (St : Nat → Heap → Prop), Walks prog w A h1.objs.size [h1.objs.size] [h1.objs.size] wd.cps.size (SignAt wd) St →
      St 0 (h1.push o) → ∃ I fp wr n P St, Value.ref h1.objs.size = .ref I ∧ Walks prog w A I fp wr n P St ∧ n ≤ sizeLine ∧ St 0 (h1.push o) ∧ (∀ b ∈ fp, b < (h1.push o).objs.size) ∧
        QuietOnC prog w A env scope cl x [] elt wr P (fun _ => true) (fun v y => ∀ c, (c ∈ wd.cps.toList ∧ ∃ t', v = Value.str ⟨#[c]⟩ t') → ∃ u, y = Value.str (f c) u) { s with heap := h1.push o, toks := tk1 } ∧
        (∀ D h' tk ys (vs : List Value), (h1.push o).get? D = none → h'.IsList D ys → h'.PlainList D ys → vs.length = n → (∀ j v, vs[j]? = some v → P j v) → Paired (fun v y => ∀ c, (c ∈ wd.cps.toList ∧ ∃ t', v = Value.str ⟨#[c]⟩ t') → ∃ u, y = Value.str (f c) u) (vs.filter fun _ => true) ys.toList →
          (∀ b o', b ∉ wr → (h1.push o).get? b = some o' → h'.get? b = some o') → Q (.ref D) { s with heap := h', toks := tk }) := by
    intro o St W hit
    refine ⟨_, _, _, _, _, _, rfl, W, by simp only [sizeLine]; omega, hit, fun b hb => ?_, ⟨fun C i v s₃ m₃ E' _ _ _ _ _ _ => ?_, fun C i v s₃ m₃ E' _ hv _ hn hm hk _ => ?_⟩, fun D h' tk ys vs hD hl hpl hlen hP hF hk => ?_⟩
    · rw [List.mem_singleton.mp hb, Heap.size_push]; exact Nat.lt_succ_self _
    · rw [List.forIn_nil]; exact wpAny_pure ⟨rfl, ⟨_, _, rfl, fun _ _ e => e⟩⟩
    · obtain ⟨c, u, hc, rfl⟩ := hv
      have hcm : c ∈ wd.cps.toList := by obtain ⟨h1, rfl⟩ := Array.getElem?_eq_some_iff.mp hc; simp
      refine wpAny_mono (he c u C s₃ m₃ E' hcm hn hm fun b o' e => hk b o' (fun q => ?_) (Heap.get?_push_of_some _ (F.keep _ _ e))) (fun y s₄ h₄ => ⟨fun c' hc' => ?_, h₄.2⟩) fun _ _ e => e
      · rw [List.mem_singleton.mp q] at e; exact absurd (Heap.lt_size (F.keep _ _ e)) (Nat.lt_irrefl _)
      · obtain ⟨_, t', e⟩ := hc'
        cases e
        exact h₄.1
    · have nD : ∀ b o', h1.get? b = some o' → h'.get? b = some o' := fun b o' e => hk b o' (fun q => by rw [List.mem_singleton.mp q] at e; exact absurd (Heap.lt_size e) (Nat.lt_irrefl _)) (Heap.get?_push_of_some _ e)
      have h1D : h1.get? D = none := by
        cases q : h1.get? D with
        | none => rfl
        | some o' => rw [Heap.get?_push_of_some _ q] at hD; cases hD
      obtain ⟨k, hpl⟩ := hpl
      refine h h' tk D ys.toList k (F.keeps nD) (fun p hp => ?_) ?_ fun p hp e => ?_
      · rcases List.mem_cons.mp hp with rfl | hp
        · refine ⟨by simpa using hpl, fun q => ?_, ?_⟩
          · obtain ⟨oL, _, _, hL, _⟩ := F.ns
            have q' : D = L := q
            rw [← q', h1D] at hL; cases hL
          · cases q : hb.get? D with
            | none => rfl
            | some o' => rw [F.keep _ _ q] at h1D; cases h1D
        · exact ⟨nD _ _ (N p hp).1, (N p hp).2⟩
      · rw [List.filter_eq_self.mpr (fun _ _ => rfl)] at hF
        refine SV.of_paired (R := fun v c => c ∈ wd.cps.toList ∧ ∃ t', v = Value.str ⟨#[c]⟩ t') hF (by rw [hlen]; simp) fun j v c hv hc => ?_
        obtain ⟨c', u, hc', rfl⟩ := hP j v hv
        have : c' = c := by
          have e1 : wd.cps.toList[j]? = some c' := by simpa using hc'
          rw [hc] at e1; exact (Option.some.inj e1).symm
        subst this
        exact ⟨List.mem_of_getElem? hc, u, rfl⟩
      · rw [← e, (N p hp).1] at h1D; cases h1D
  exact wpAny_pyIter_str fun o St W hst => key o St (W A hh) hst
theorem join_sv {D : Nat} {ys : List Value} {xs : List Str} {k te : Nat} {J : Str} {Q : Value → Shared → Prop} (N : News hb L s.heap news) (hm : (D, listOf ys.toArray k) ∈ news) (sv : SV ys xs) (hJ : J = ⟨(catL xs).toArray⟩) (hlen : (catL xs).length ≤ 16777216)
    (h : ∀ t' k, Q (.str J t') { s with toks := k }) : wpAny (model prog w) A (call (.builtin "str.join") [.str (Str.ofString "") te, .ref D]) Q E s := by
  subst hJ
  obtain ⟨l, e1, e2⟩ := SV.strs sv
  have e0 : (Str.ofString "").cps = #[] := by decide +kernel
  refine SC.join (by have := News.isList N hm; rw [e1] at this; exact this) e2 (joinOk_cat _ (by decide +kernel) hlen) fun t' k => ?_
  have := h t' k
  rw [← glued_cat _ e0] at this
  simpa using this
end
noncomputable def bareC (c : Nat) : Str := if c = 46 ∨ c = 34 then ⟨#[c]⟩ else ⟨#[92, c]⟩
noncomputable def quoC (c : Nat) : Str := if c = 34 ∨ c = 92 then ⟨#[92, c]⟩ else ⟨#[c]⟩
noncomputable def bareW (w : List Nat) : List Nat := catL (w.map bareC)
noncomputable def quoW (w : List Nat) : List Nat := catL (w.map quoC)
theorem bareW_len (w : List Nat) : (bareW w).length ≤ 2 * w.length := by
  induction w with
  | nil => simp [bareW, catL]
  | cons c r ih =>
    have : (bareW (c :: r)).length = (bareC c).cps.toList.length + (bareW r).length := by simp [bareW, catL]
    rw [this, List.length_cons]
    have : (bareC c).cps.toList.length ≤ 2 := by unfold bareC; split <;> simp
    omega
theorem quoW_len (w : List Nat) : (quoW w).length ≤ 2 * w.length := by
  induction w with
  | nil => simp [quoW, catL]
  | cons c r ih =>
    have : (quoW (c :: r)).length = (quoC c).cps.toList.length + (quoW r).length := by simp [quoW, catL]
    rw [this, List.length_cons]
    have : (quoC c).cps.toList.length ≤ 2 := by unfold quoC; split <;> simp
    omega
theorem in_dq {c : Nat} : (!(Builtin.Str.occurrences (Str.ofString ".\"") ⟨#[c]⟩ 0 (Str.ofString ".\"").length 1).isEmpty) = decide (c = 46 ∨ c = 34) := by
  rw [StrLaws.found_one, show (Str.ofString ".\"").cps.toList = [46, 34] from by decide +kernel]; simp
theorem in_qb {c : Nat} : (!(Builtin.Str.occurrences (Str.ofString "\"\\") ⟨#[c]⟩ 0 (Str.ofString "\"\\").length 1).isEmpty) = decide (c = 34 ∨ c = 92) := by
  rw [StrLaws.found_one, show (Str.ofString "\"\\").cps.toList = [34, 92] from by decide +kernel]; simp
theorem bs_cat (c : Nat) : Str.ofString "\\" ++ (⟨#[c]⟩ : Str) = ⟨#[92, c]⟩ := by
  apply Str.ext'; rw [Str.cps_append, show (Str.ofString "\\").cps = #[92] from by decide +kernel]; rfl
end Mine
end
section
open PySem PySem.W PyProof.Rows PySem.Calls PySem.Spec
namespace Mine
theorem start_Pg0 : True := by
  w_top off
  k_with_none
  trivial
noncomputable def eolL (q : Nat) : List Nat := if q = 0 then [10] else if q = 1 then [13] else [13, 10]
noncomputable def preC (r : Nat) : Nat := if r = 1 then 32 else if r = 2 then 92 else 9
noncomputable def rowL (gap number i : Nat) (w : List Nat) : List Nat :=
  (if i = gap ∨ i = gap + 1 then bareW w else if (number + i) % 4 = 0 then 34 :: quoW w ++ [34] else preC ((number + i) % 4) :: bareW w) ++ eolL ((number / 4 + i) % 3)
noncomputable def pageL (gap number : Nat) : Nat → List (List Nat) → List Nat
  | _, [] => []
  | i, w :: r => rowL gap number i w ++ pageL gap number (i + 1) r
theorem any2_t {gap i : Nat} (h : ([(gap : Int), (gap : Int) + 1].any fun x => x == (i : Int)) = true) : i = gap ∨ i = gap + 1 := by
  simp at h; omega
theorem any2_f {gap i : Nat} (h : ([(gap : Int), (gap : Int) + 1].any fun x => x == (i : Int)) = false) : ¬ (i = gap ∨ i = gap + 1) := by
  simp at h; omega
theorem fm3 (n i : Nat) : (Int.fdiv (n : Int) 4 + (i : Int)).fmod 3 = ((n / 4 + i) % 3 : Nat) := by
  rw [Int.fdiv_eq_ediv_of_nonneg _ (by omega), Int.fmod_eq_emod_of_nonneg _ (by omega)]; omega
theorem fm4 (n i : Nat) : ((n : Int) + (i : Int)).fmod 4 = ((n + i) % 4 : Nat) := by
  rw [Int.fmod_eq_emod_of_nonneg _ (by omega)]; omega
theorem n_cps : (Str.ofString "\n").cps.toList = [10] := by decide +kernel
theorem r_cps : (Str.ofString "\x0d").cps.toList = [13] := by decide +kernel
theorem rn_cps : (Str.ofString "\x0d\n").cps.toList = [13, 10] := by decide +kernel
theorem q_cps : (Str.ofString "\"").cps.toList = [34] := by decide +kernel
theorem cat_cps (a b : Str) : (a ++ b).cps.toList = a.cps.toList ++ b.cps.toList := by rw [Str.cps_append]; simp
theorem item_pre {m : Nat} (h0 : m ≠ 0) (h4 : m < 4) : (Txt.item (Str.ofString " \\\t") ((m : Int) - 1)).cps.toList = [preC m] := by
  have : m = 1 ∨ m = 2 ∨ m = 3 := by omega
  rcases this with rfl | rfl | rfl <;> decide +kernel
theorem row_b {pg J x : Str} {gap number i : Nat} (hJ : J.cps.toList = bareW x.cps.toList) (ha : ([(gap : Int), (gap : Int) + 1].any fun x => x == (i : Int)) = true) {e : Str} (he : e.cps.toList = eolL ((number / 4 + i) % 3)) :
    (pg ++ J ++ e).cps.toList = pg.cps.toList ++ rowL gap number i x.cps.toList := by
  rw [cat_cps, cat_cps, hJ, he, rowL, if_pos (any2_t ha), List.append_assoc]
theorem row_q {pg K x : Str} {gap number i : Nat} (hK : K.cps.toList = quoW x.cps.toList) (ha : ([(gap : Int), (gap : Int) + 1].any fun x => x == (i : Int)) = false) (h4 : ((number : Int) + (i : Int)).fmod 4 = 0) {e : Str} (he : e.cps.toList = eolL ((number / 4 + i) % 3)) :
    (pg ++ (Str.ofString "\"" ++ K ++ Str.ofString "\"") ++ e).cps.toList = pg.cps.toList ++ rowL gap number i x.cps.toList := by
  rw [fm4] at h4
  simp only [cat_cps, hK, he, q_cps]
  rw [rowL, if_neg (any2_f ha), if_pos (by omega)]
  simp
theorem row_p {pg J x : Str} {gap number i : Nat} (hJ : J.cps.toList = bareW x.cps.toList) (ha : ([(gap : Int), (gap : Int) + 1].any fun x => x == (i : Int)) = false) (h4 : ((number : Int) + (i : Int)).fmod 4 ≠ 0) {e : Str} (he : e.cps.toList = eolL ((number / 4 + i) % 3)) :
    (pg ++ (Txt.item (Str.ofString " \\\t") (((number : Int) + (i : Int)).fmod 4 - 1) ++ J) ++ e).cps.toList = pg.cps.toList ++ rowL gap number i x.cps.toList := by
  rw [fm4] at h4 ⊢
  simp only [cat_cps, hJ, he]
  rw [item_pre (by omega) (by omega), rowL, if_neg (any2_f ha), if_neg (by omega)]
  simp
theorem e0 {n i : Nat} (h : (Int.fdiv (n : Int) 4 + (i : Int)).fmod 3 = 0) : (Str.ofString "\n").cps.toList = eolL ((n / 4 + i) % 3) := by
  rw [fm3] at h; rw [n_cps, eolL, if_pos (by omega)]
theorem e1 {n i : Nat} (h : (Int.fdiv (n : Int) 4 + (i : Int)).fmod 3 = 1) : (Str.ofString "\x0d").cps.toList = eolL ((n / 4 + i) % 3) := by
  rw [fm3] at h; rw [r_cps, eolL, if_neg (by omega), if_pos (by omega)]
theorem e2 {n i : Nat} (h : (Int.fdiv (n : Int) 4 + (i : Int)).fmod 3 = 2) : (Str.ofString "\x0d\n").cps.toList = eolL ((n / 4 + i) % 3) := by
  rw [fm3] at h; rw [rn_cps, eolL, if_neg (by omega), if_neg (by omega)]
noncomputable abbrev mP (a gap number : Nat) (tg tn : Nat) (pg : Str) (tp : Nat) (cb ch : Option Value) : Str → Option Value := fun y =>
  if y = Str.ofString "page" then some (.str pg tp) else if y = Str.ofString "bare" then cb else if y = Str.ofString "k" then ch else List.lookup y [(Str.ofString "row", Value.ref a), (Str.ofString "gap", .int gap tg), (Str.ofString "number", .int number tn)].reverse
theorem frP {hb h : Heap} {L : Addr} {a gap number tg tn tp tp2 : Nat} {pg V : Str} {c1 cb ch : Option Value} {B K : Value}
    (F : Fr hb L h (fun y => if y = Str.ofString "page" then some (.str V tp2) else if y = Str.ofString "page" then c1 else if y = Str.ofString "bare" then some B else if y = Str.ofString "k" then some K else mP a gap number tg tn pg tp cb ch y)) :
    Fr hb L h (mP a gap number tg tn V tp2 (some B) (some K)) := Fr.congr F (by
  intro y
  by_cases h1 : y = Str.ofString "page"
  · subst h1; rfl
  · by_cases h2 : y = Str.ofString "bare"
    · subst h2; rfl
    · by_cases h3 : y = Str.ofString "k"
      · subst h3; rfl
      · simp [mP, h1, h2, h3])
end Mine
end
section
open PySem PySem.W PyProof.Rows PySem.Calls PySem.Spec
namespace Mine
theorem start_Cmp2 : True := by
  w_top off
  k_with_none
  trivial
noncomputable def RelAll {α : Type} (R : Value → α → Prop) (vs : List Value) (cs : List α) : Prop := vs.length = cs.length ∧ ∀ (j : Nat) v c, vs[j]? = some v → cs[j]? = some c → R v c
theorem RelAll.get {α : Type} {R : Value → α → Prop} {vs : List Value} {cs : List α} (h : RelAll R vs cs) {j : Nat} {v : Value} (hv : vs[j]? = some v) : ∃ c, cs[j]? = some c ∧ R v c := by
  have hj : j < vs.length := (List.getElem?_eq_some_iff.mp hv).1
  have hj' : j < cs.length := h.1 ▸ hj
  exact ⟨cs[j], List.getElem?_eq_getElem hj', h.2 j v _ hv (List.getElem?_eq_getElem hj')⟩
theorem RelAll.tail {α : Type} {R : Value → α → Prop} {v : Value} {vs : List Value} {c : α} {cs : List α} (h : RelAll R (v :: vs) (c :: cs)) : R v c ∧ RelAll R vs cs :=
  ⟨h.2 0 v c rfl rfl, by have := h.1; simpa using this, fun j v' c' hv hc => h.2 (j + 1) v' c' (by simpa using hv) (by simpa using hc)⟩
theorem filter_len {α : Type} {R : Value → α → Prop} {p : Value → Bool} {pz : α → Bool} (hp : ∀ v c, R v c → p v = pz c) : ∀ {vs : List Value} {cs : List α}, RelAll R vs cs → (vs.filter p).length = (cs.filter pz).length
  | [], [], _ => rfl
  | [], c :: cs, h => by have := h.1; simp at this
  | v :: vs, [], h => by have := h.1; simp at this
  | v :: vs, c :: cs, h => by
    obtain ⟨h1, h2⟩ := h.tail
    have ih := filter_len hp h2
    rw [List.filter_cons, List.filter_cons, hp v c h1]
    split <;> simp [ih]
noncomputable def GotRef (s : Shared) (hb : Heap) (L : Addr) (m : Str → Option Value) (news : List (Addr × Obj)) (vs : List Value) (news' : List (Addr × Obj)) (xv : Value) (s₁ : Shared) : Prop :=
  ∃ (a : Nat) (h : Heap) (tk : Nat), xv = .ref a ∧ s₁ = { s with heap := h, toks := tk } ∧ Fr hb L h m ∧ News hb L h news ∧ h.IsList a vs.toArray ∧ (∀ p ∈ news', p ∈ news)
noncomputable def GotBool (b : Bool) (s₃ : Shared) (y : Bool) (s₄ : Shared) : Prop := y = b ∧ Keeps s₃ s₄
noncomputable def GotSame (v : Value) (s₃ : Shared) (y : Value) (s₄ : Shared) : Prop := y = v ∧ Keeps s₃ s₄
section
variable {prog : Program} {w : World} {A : Around} {E : Value → Shared → Prop} {s : Shared} {hb : Heap} {L : Addr} {m : Str → Option Value} {news : List (Addr × Obj)}
theorem new_ledger {h1 h' : Heap} {D k : Nat} {ys : Array Value} (F : Fr hb L h1 m) (N : News hb L h1 news) (h1D : h1.get? D = none) (nD : ∀ b o', h1.get? b = some o' → h'.get? b = some o') (hpl : h'.get? D = some (listOf ys k)) :
    Fr hb L h' m ∧ News hb L h' ((D, listOf ys k) :: news) ∧ ∀ p ∈ news, p.1 ≠ D := by
  refine ⟨F.keeps nD, fun p hp => ?_, fun p hp e => ?_⟩
  · rcases List.mem_cons.mp hp with rfl | hp
    · refine ⟨hpl, fun q => ?_, ?_⟩
      · obtain ⟨oL, _, _, hL, _⟩ := F.ns
        have q' : D = L := q
        rw [← q', h1D] at hL; cases hL
      · cases q : hb.get? D with
        | none => rfl
        | some o' => rw [F.keep _ _ q] at h1D; cases h1D
    · exact ⟨nD _ _ (N p hp).1, (N p hp).2⟩
  · rw [← e, (N p hp).1] at h1D; cases h1D
theorem comp_filt {α : Type} {env : Env} {cond iter : Expr} {x : Str} {px px2 : Pos} {scope : Scope} {cl : List (Str × Addr)} {pos : Pos} {Q : Value → Shared → Prop} {vs : List Value} {cs : List α} {news' : List (Addr × Obj)} (R : Value → α → Prop) (pz : α → Bool)
    (hrel : RelAll R vs cs) (hfun : ∀ v c c', R v c → R v c' → pz c = pz c') (hh : A.handled = none) (hclos : closureFor scope env = pure cl) (hcell : ∀ y ∈ scope.names, y.2 ≠ .cell) (hkind : scope.kind = .function)
    (hnames : ∀ y ∈ scope.names, y.2 = .local → scope.names.lookup y.1 = some .local) (hx : scope.names.lookup x = some .local) (hsz : vs.length ≤ 1000000)
    (hi : wpAny (model prog w) A (eval iter env) (GotRef s hb L m news vs news') E s)
    (ht : ∀ v c C s₃ m₃ E', R v c → c ∈ cs → s₃.heap.Ns C m₃ → m₃ x = some v → (∀ b o, hb.get? b = some o → s₃.heap.get? b = some o) → (∀ p ∈ news, s₃.heap.get? p.1 = some p.2) →
      wpAny (model prog w) A (isTrue cond (compEnvC scope cl C env) (eval cond (compEnvC scope cl C env))) (GotBool (pz c) s₃) E' s₃)
    (he : ∀ v c C s₃ m₃ E', R v c → s₃.heap.Ns C m₃ → m₃ x = some v → wpAny (model prog w) A (eval (.Name x px2) (compEnvC scope cl C env)) (GotSame v s₃) E' s₃)
    (h : ∀ h' tk (D : Nat) (ys : List Value) k, Fr hb L h' m → News hb L h' ((D, listOf ys.toArray k) :: news) → ys.length = (cs.filter pz).length → (∀ p ∈ news, p.1 ≠ D) → Q (.ref D) { s with heap := h', toks := tk })
    (hs : ∀ x, foldedSetIterable iter env x = pure x := by intro _; rfl) :
    wpAny (model prog w) A (eval (.ListComp (.Name x px2) [⟨.Name x px, iter, [cond], 0⟩] scope pos) env) Q E s := by
  classical
  have hp : ∀ v c, R v c → (fun v => decide (∃ c, R v c ∧ pz c = true)) v = pz c := fun v c hr => by
    cases q : pz c with
    | true => exact decide_eq_true ⟨c, hr, q⟩
    | false => exact decide_eq_false fun ⟨c', hr', q'⟩ => by rw [hfun v c' c hr' hr, q] at q'; cases q'
  refine wpAny_ListComp_free (fun v => decide (∃ c, R v c ∧ pz c = true)) (fun v y => True) hclos hcell hkind hnames hx (wpAny_mono hi (fun xv s₁ h₁ => ?_) fun _ _ e => e) hs
  obtain ⟨a, h1, tk1, rfl, rfl, F, N, hl, _⟩ := h₁
  have hne : a ≠ h1.objs.size := by obtain ⟨o, ho, _⟩ := hl; exact Nat.ne_of_lt (Heap.lt_size ho)
  have hlt : a < h1.objs.size := by obtain ⟨o, ho, _⟩ := hl; exact Heap.lt_size ho
  refine wpAny_pyIter_list hl ⟨_, _, _, _, _, _, rfl, Walks.list hh h1.objs.size a hne vs.toArray, by simp only [sizeLine, List.size_toArray]; omega, ⟨⟨_, Heap.get?_push_size _ rfl, rfl, rfl⟩, hl.at fun o e => Heap.get?_push_of_some _ e⟩, fun b hb => ?_, ⟨fun C i v s₃ m₃ E' _ hv hn hm hk _ => ?_, fun C i v s₃ m₃ E' _ hv _ hn hm hk _ => ?_⟩, fun D h' tk ys vs' hD hl' hpl hlen hP hF hk => ?_⟩
  · rcases List.mem_cons.mp hb with rfl | hb
    · rw [Heap.size_push]; exact Nat.lt_succ_self _
    · rw [List.mem_singleton.mp hb, Heap.size_push]; exact Nat.lt_succ_of_lt hlt
  · obtain ⟨c, hc, hRv⟩ := hrel.get (j := i) (v := v) (by simpa using hv)
    have hcm : c ∈ cs := List.mem_of_getElem? hc
    rw [List.forIn_cons]
    refine wpAny_bind ?_
    simp only [if_true]
    refine wpAny_bind (wpAny_mono (ht v c C s₃ m₃ E' hRv hcm hn hm (fun b o' e => hk b o' (fun q => ?_) (Heap.get?_push_of_some _ (F.keep _ _ e))) fun p hp => hk _ _ (fun q => ?_) (Heap.get?_push_of_some _ (N p hp).1)) (fun y s₄ h₄ => ?_) fun _ _ e => e)
    · rw [List.mem_singleton.mp q] at e; exact absurd (Heap.lt_size (F.keep _ _ e)) (Nat.lt_irrefl _)
    · have := Heap.lt_size (N p hp).1; rw [List.mem_singleton.mp q] at this; exact absurd this (Nat.lt_irrefl _)
    · refine wpAny_pure ?_
      dsimp only
      rw [List.forIn_nil]
      exact wpAny_pure ⟨h₄.1.trans (hp v c hRv).symm, h₄.2⟩
  · obtain ⟨c, hc, hRv⟩ := hrel.get (j := i) (v := v) (by simpa using hv)
    exact wpAny_mono (he v c C s₃ m₃ E' hRv hn hm) (fun y s₄ h₄ => ⟨trivial, h₄.2⟩) fun _ _ e => e
  · have nD : ∀ b o', h1.get? b = some o' → h'.get? b = some o' := fun b o' e => hk b o' (fun q => by rw [List.mem_singleton.mp q] at e; exact absurd (Heap.lt_size e) (Nat.lt_irrefl _)) (Heap.get?_push_of_some _ e)
    have h1D : h1.get? D = none := by
      cases q : h1.get? D with
      | none => rfl
      | some o' => rw [Heap.get?_push_of_some _ q] at hD; cases hD
    obtain ⟨k, hpl⟩ := hpl
    obtain ⟨F', N', d'⟩ := new_ledger F N h1D nD hpl
    refine h h' tk D ys.toList k F' (by simpa using N') ?_ d'
    rw [← hF.length]
    refine filter_len hp ⟨by rw [hlen, List.size_toArray]; exact hrel.1, fun j v c hv hc => ?_⟩
    exact hrel.2 j v c (by simpa using hP j v hv) hc
end
end Mine
end
section
open PySem PySem.W PyProof.Rows PySem.Calls PySem.Spec
namespace Mine
theorem start_Cmp3 : True := by
  w_top off
  k_with_none
  trivial
noncomputable def GotRel {α : Type} (s : Shared) (hb : Heap) (L : Addr) (m : Str → Option Value) (news : List (Addr × Obj)) (R : Value → α → Prop) (cs : List α) (xv : Value) (s₁ : Shared) : Prop :=
  ∃ (a : Nat) (h : Heap) (tk : Nat) (vs : List Value), xv = .ref a ∧ s₁ = { s with heap := h, toks := tk } ∧ Fr hb L h m ∧ News hb L h news ∧ h.IsList a vs.toArray ∧ RelAll R vs cs
section
variable {prog : Program} {w : World} {A : Around} {E : Value → Shared → Prop} {s : Shared} {hb : Heap} {L : Addr} {m : Str → Option Value} {news : List (Addr × Obj)}
theorem comp_listE {α : Type} {env : Env} {elt iter : Expr} {x : Str} {px : Pos} {scope : Scope} {cl : List (Str × Addr)} {pos : Pos} {Q : Value → Shared → Prop} {cs : List α} (R : Value → α → Prop) (f : α → Str)
    (_F : Fr hb L s.heap m) (_N : News hb L s.heap news) (hfun : ∀ v c c', R v c → R v c' → f c = f c') (hh : A.handled = none) (hclos : closureFor scope env = pure cl) (hcell : ∀ y ∈ scope.names, y.2 ≠ .cell) (hkind : scope.kind = .function)
    (hnames : ∀ y ∈ scope.names, y.2 = .local → scope.names.lookup y.1 = some .local) (hx : scope.names.lookup x = some .local) (hsz : cs.length ≤ 1000000)
    (hi : wpAny (model prog w) A (eval iter env) (GotRel s hb L m news R cs) E s)
    (he : ∀ v c C s₃ m₃ E', R v c → c ∈ cs → s₃.heap.Ns C m₃ → m₃ x = some v → (∀ b o, hb.get? b = some o → s₃.heap.get? b = some o) → (∀ p ∈ news, s₃.heap.get? p.1 = some p.2) →
      wpAny (model prog w) A (eval elt (compEnvC scope cl C env)) (GotElt (f c) s₃) E' s₃)
    (h : ∀ h' tk (D : Nat) (ys : List Value) k, Fr hb L h' m → News hb L h' ((D, listOf ys.toArray k) :: news) → SV ys (cs.map f) → (∀ p ∈ news, p.1 ≠ D) → Q (.ref D) { s with heap := h', toks := tk })
    (hs : ∀ x, foldedSetIterable iter env x = pure x := by intro _; rfl) :
    wpAny (model prog w) A (eval (.ListComp elt [⟨.Name x px, iter, [], 0⟩] scope pos) env) Q E s := by
  refine wpAny_ListComp_free (fun _ => true) (fun v y => ∀ c, (R v c ∧ c ∈ cs) → ∃ u, y = Value.str (f c) u) hclos hcell hkind hnames hx (wpAny_mono hi (fun xv s₁ h₁ => ?_) fun _ _ e => e) hs
  obtain ⟨a, h1, tk1, vs, rfl, rfl, F, N, hl, hrel⟩ := h₁
  have hlen0 := hrel.1
  have hne : a ≠ h1.objs.size := by obtain ⟨o, ho, _⟩ := hl; exact Nat.ne_of_lt (Heap.lt_size ho)
  have hlt : a < h1.objs.size := by obtain ⟨o, ho, _⟩ := hl; exact Heap.lt_size ho
  refine wpAny_pyIter_list hl ⟨_, _, _, _, _, _, rfl, Walks.list hh h1.objs.size a hne vs.toArray, by simp only [sizeLine, List.size_toArray]; omega, ⟨⟨_, Heap.get?_push_size _ rfl, rfl, rfl⟩, hl.at fun o e => Heap.get?_push_of_some _ e⟩, fun b hb => ?_, ⟨fun C i v s₃ m₃ E' _ _ _ _ _ _ => ?_, fun C i v s₃ m₃ E' _ hv _ hn hm hk _ => ?_⟩, fun D h' tk ys vs' hD hl' hpl hlen hP hF hk => ?_⟩
  · rcases List.mem_cons.mp hb with rfl | hb
    · rw [Heap.size_push]; exact Nat.lt_succ_self _
    · rw [List.mem_singleton.mp hb, Heap.size_push]; exact Nat.lt_succ_of_lt hlt
  · rw [List.forIn_nil]; exact wpAny_pure ⟨rfl, ⟨_, _, rfl, fun _ _ e => e⟩⟩
  · obtain ⟨c, hc, hRv⟩ := hrel.get (j := i) (v := v) (by simpa using hv)
    have hcm : c ∈ cs := List.mem_of_getElem? hc
    refine wpAny_mono (he v c C s₃ m₃ E' hRv hcm hn hm (fun b o' e => hk b o' (fun q => ?_) (Heap.get?_push_of_some _ (F.keep _ _ e))) fun p hp => hk _ _ (fun q => ?_) (Heap.get?_push_of_some _ (N p hp).1)) (fun y s₄ h₄ => ⟨fun c' hc' => ?_, h₄.2⟩) fun _ _ e => e
    · rw [List.mem_singleton.mp q] at e; exact absurd (Heap.lt_size (F.keep _ _ e)) (Nat.lt_irrefl _)
    · have := Heap.lt_size (N p hp).1; rw [List.mem_singleton.mp q] at this; exact absurd this (Nat.lt_irrefl _)
    · rw [← hfun v c c' hRv hc'.1]; exact h₄.1
  · have nD : ∀ b o', h1.get? b = some o' → h'.get? b = some o' := fun b o' e => hk b o' (fun q => by rw [List.mem_singleton.mp q] at e; exact absurd (Heap.lt_size e) (Nat.lt_irrefl _)) (Heap.get?_push_of_some _ e)
    have h1D : h1.get? D = none := by
      cases q : h1.get? D with
      | none => rfl
      | some o' => rw [Heap.get?_push_of_some _ q] at hD; cases hD
    obtain ⟨k, hpl⟩ := hpl
    obtain ⟨F', N', d'⟩ := new_ledger F N h1D nD hpl
    refine h h' tk D ys.toList k F' (by simpa using N') ?_ d'
    rw [List.filter_eq_self.mpr (fun _ _ => rfl)] at hF
    refine SV.of_paired (R := fun v c => R v c ∧ c ∈ cs) hF (by rw [hlen, List.size_toArray]; exact hrel.1) fun j v c hv hc => ?_
    have := hP j v hv
    exact ⟨hrel.2 j v c (by simpa using this) hc, List.mem_of_getElem? hc⟩
end
end Mine
end
section
open PySem PySem.W PyProof.Rows PySem.Calls PySem.Spec
namespace Mine
theorem start_Let1 : True := by
  w_top off
  k_with_none
  trivial
noncomputable def lettersF (a b : Nat) : List Int := (rangeKs 0 ((a : Int) + b - 0).toNat).map fun k' => ((k' + 1) * (b : Int)).fdiv ((a : Int) + b) - (k' * (b : Int)).fdiv ((a : Int) + b)
end Mine
end
section
open PySem PySem.W PyProof.Rows PySem.Calls PySem.Spec
namespace Mine
theorem start_Let2 : True := by
  w_top off
  k_with_none
  trivial
set_option maxHeartbeats 4000000 in
theorem c_lettersT {w : World} {p : Program} {loose : List Str} {mean : ExcName → Option Value} {mg mb : Str → Option Value} {dp un : Nat} {fr : Option (List Env)} {gd : Option (List Code)} {E Q : Value → Shared → Prop} {s : Shared}
    {hb : Heap} {P : Nat} {a b : Nat} {ta tb : Nat} (B : Bs hb s.heap) (X : (hd.heap_39 w.params).In hb) (T : Top p loose mean mg mb hb) (hroom : dp < 900)
    (I : IsTup s.heap P #[.int a ta, .int b tb]) (ha : a ≤ 1000) (hb1 : b ≤ 1000) (hab : 0 < a + b)
    (ret : ∀ h' tk (D : Nat) ys, (∀ b o, s.heap.get? b = some o → h'.get? b = some o) → Led s.heap h' [(D, LCg.lst ys)] → IntsAre ys (lettersF a b) → Q (.ref D) { s with heap := h', toks := tk }) :
    wpAny (model PySem.Challenge.rw_sl0003_01.row.prog w) (AA dp un fr gd) (call (.ref 123) [.ref P]) Q E s := by
  revert X; k_fill; intro X
  refine entC (hb := s.heap) (binds := [(Str.ofString "pair", .ref P)]) Bs.rfl (X.keeps B.stays) (T.keeps B.stays) Led.nil rfl rfl (by show dp < _; simp only [recursionLimit]; omega) rfl rfl (by decide +kernel) rfl rfl rfl ?_
  intro L h₁ tk cells e F' N' Y' l0 K'
  have X2 := X.keeps B.stays
  have T2 := T.keeps B.stays
  have I2 := I.keeps F'.keep
  clear X T
  k_cells Y'
  simp only [List.cons_append, List.nil_append] at N'
  change wpAny _ _ _ _ _ _
  k_fold
  k_steps
  rename Fr _ _ _ _ => F9
  rename News _ _ _ _ => N9
  rename IntsAre _ _ => I9
  exact ret _ _ _ _ F9.keep (Led.sub (toLed N9) (List.forall_mem_cons.mpr ⟨by k_mem, List.forall_mem_nil _⟩)) I9
end Mine
end
section
open PySem PySem.W PyProof.Rows PySem.Calls PySem.Spec
namespace Mine
theorem start_Due0 : True := by
  w_top off
  k_with_none
  trivial
noncomputable def dotL : List (List Nat) → List Nat
  | [] => []
  | [x] => x
  | x :: y :: r => x ++ 46 :: dotL (y :: r)
theorem dot_join : ∀ xs : List Str, (Txt.join (Str.ofString ".") xs).cps.toList = dotL (xs.map (·.cps.toList)) := by
  have e : (Str.ofString ".").cps.toList = [46] := by decide +kernel
  have key : ∀ xs : List Str, (Str.join (Str.ofString ".") xs).cps.toList = dotL (xs.map (·.cps.toList)) := by
    intro xs
    induction xs with
    | nil => rfl
    | cons x r ih =>
      cases r with
      | nil => rfl
      | cons y r =>
        show (x ++ Str.ofString "." ++ Str.join (Str.ofString ".") (y :: r)).cps.toList = _
        rw [cat_cps, cat_cps, ih, e]
        simp [dotL]
  intro xs
  show (Builtin.Str.glued (Str.ofString ".") xs).cps.toList = _
  rw [StrLaws.glued_eq_join]
  exact key xs
theorem dotL_len : ∀ {xs : List (List Nat)} {n : Nat}, (∀ x ∈ xs, x.length ≤ n) → (dotL xs).length ≤ (n + 1) * xs.length
  | [], n, _ => by simp [dotL]
  | [x], n, h => by have := h x (.head _); simp [dotL]; omega
  | x :: y :: r, n, h => by
    have h1 := h x (.head _)
    have h2 := dotL_len (xs := y :: r) (n := n) fun z hz => h z (.tail _ hz)
    simp only [dotL, List.length_append, List.length_cons] at h2 ⊢
    rw [Nat.mul_succ]
    omega
theorem SV.snoc {vs : List Value} {xs : List Str} (h : SV vs xs) {v : Value} {x : Str} {t : Tok} (e : v = .str x t) : SV (vs ++ [v]) (xs ++ [x]) := by
  subst e
  induction h with
  | nil => exact .cons .nil
  | cons r ih => exact .cons ih
section
variable {prog : Program} {w : World} {A : Around} {E : Value → Shared → Prop} {s : Shared} {hb : Heap} {L : Addr} {m : Str → Option Value} {news : List (Addr × Obj)}
theorem join_dot {D : Nat} {ys : List Value} {xs : List Str} {k te : Nat} {Q : Value → Shared → Prop} (N : News hb L s.heap news) (hm : (D, listOf ys.toArray k) ∈ news) (sv : SV ys xs) (hx : ∀ x ∈ xs, x.length ≤ 10) (hn : xs.length ≤ 1000)
    (h : ∀ (J : Str) t' k, J.cps.toList = dotL (xs.map (·.cps.toList)) → J.length ≤ 11000 → Q (.str J t') { s with toks := k }) : wpAny (model prog w) A (call (.builtin "str.join") [.str (Str.ofString ".") te, .ref D]) Q E s := by
  obtain ⟨l, e1, e2⟩ := SV.strs sv
  have hs : ∀ xs : List Str, (∀ x ∈ xs, x.length ≤ 10) → (xs.map (·.length)).sum ≤ 10 * xs.length := by
    intro xs
    induction xs with
    | nil => intro _; simp
    | cons x r ih =>
      intro h
      have h1 := h x (.head _)
      have h2 := ih fun z hz => h z (.tail _ hz)
      simp only [List.map_cons, List.sum_cons, List.length_cons]
      omega
  have e0 : (Str.ofString ".").length = 1 := by decide +kernel
  have := hs xs hx
  refine SC.join (by have := News.isList N hm; rw [e1] at this; exact this) e2 (joinOk_of (by rw [e0]; omega)) fun t' k => h _ t' k (dot_join xs) ?_
  have h3 := dotL_len (xs := xs.map (·.cps.toList)) (n := 10) fun z hz => by
    obtain ⟨x, hx', rfl⟩ := List.mem_map.mp hz
    show x.cps.toList.length ≤ 10
    rw [Array.length_toList]
    exact hx x hx'
  rw [← dot_join, List.length_map] at h3
  simp only [Array.length_toList] at h3
  show (Txt.join (Str.ofString ".") xs).cps.size ≤ _
  omega
theorem elt_sign {env : Env} {p1 p2 p3 : Pos} {oc : Obj} {sg cA : Nat} {m₃ : Str → Option Value} {c t t0 t1 : Nat} {s0 s1 : Str} (hc : c = 0 ∨ c = 1) (hk : env.scope.kind = .function) (hl : env.kindOf (Str.ofString "signs") = some .cell) (hcl : env.cells.lookup (Str.ofString "signs") = some cA)
    (hcell : s.heap.get? cA = some oc) (ho : oc.data = .cell (some (.ref sg))) (hs : s.heap.IsList sg #[.str s0 t0, .str s1 t1])
    (hb : env.kindOf (Str.ofString "bit") = some .local) (hn : s.heap.Ns env.locals m₃) (hv : m₃ (Str.ofString "bit") = some (.int c t)) :
    wpAny (model prog w) A (eval (.Subscript (.Name (Str.ofString "signs") p1) (.Name (Str.ofString "bit") p2) p3) env) (GotElt (if c = 0 then s0 else s1) s) E s := by
  refine wpAny_Subscript_Name slot_list_getitem.lookup (wpAny_Name (wpAny_loadName_cell hk hl hcl ⟨oc, hcell, ho⟩ (wpAny_Name (wpAny_loadName_local hk hb hn hv ⟨hs.typeIs, ?_⟩)))) 
  rcases hc with rfl | rfl
  · exact wpAny_getItem_list hs (by omega) (by omega) rfl ⟨⟨t0, rfl⟩, ⟨_, _, rfl, fun _ _ e => e⟩⟩
  · exact wpAny_getItem_list hs (by omega) (by omega) rfl ⟨⟨t1, rfl⟩, ⟨_, _, rfl, fun _ _ e => e⟩⟩
end
theorem letters_in {w : World} {p : Program} {loose : List Str} {mean : ExcName → Option Value} {mg mb : Str → Option Value} {dp un : Nat} {fr : Option (List Env)} {gd : Option (List Code)} {E Q : Value → Shared → Prop} {s : Shared}
    {hb : Heap} {L : Addr} {m : Str → Option Value} {news : List (Addr × Obj)} {P : Nat} {a b : Nat} {ta tb : Nat} (X : (hd.heap_39 w.params).In hb) (T : Top p loose mean mg mb hb) (hroom : dp < 900) (F : Fr hb L s.heap m) (N : News hb L s.heap news)
    (I : IsTup hb P #[.int a ta, .int b tb]) (ha : a ≤ 1000) (hb1 : b ≤ 1000) (hab : 0 < a + b)
    (h : ∀ h' tk (D : Nat) ys, Fr hb L h' m → News hb L h' ((D, LCg.lst ys) :: news) → IntsAre ys (lettersF a b) → Q (.ref D) { s with heap := h', toks := tk }) :
    wpAny (model PySem.Challenge.rw_sl0003_01.row.prog w) (AA dp un fr gd) (call (.ref 123) [.ref P]) Q E s := by
  refine c_lettersT (toBs F) X T hroom (I.keeps F.keep) ha hb1 hab fun h' tk D ys k N' hi => ?_
  have n := N' _ (.head _)
  refine h h' tk D ys (F.keeps k) (fun p hp => ?_) hi
  rcases List.mem_cons.mp hp with rfl | hp
  · refine ⟨n.1, fun q => ?_, ?_⟩
    · obtain ⟨oL, _, _, hL, _⟩ := F.ns
      have q' : D = L := q
      have n2 := n.2
      simp only at n2
      rw [q', hL] at n2; cases n2
    · cases q : hb.get? D with
      | none => rfl
      | some o' => have n2 := n.2; simp only at n2; rw [F.keep _ _ q] at n2; cases n2
  · exact ⟨k _ _ (N p hp).1, (N p hp).2⟩
end Mine
end
section
open PySem PySem.W PyProof.Rows PySem.Calls PySem.Spec
namespace Mine
theorem start_Due : True := by
  w_top off
  k_with_none
  trivial
noncomputable abbrev duTgt : PySem.Expr := pk (tgt (kid (topS 17) 1)) _ (by conv => rhs; whnf; rfl)
noncomputable abbrev duScope : Scope := pk (scp (topS 17)) _ (by conv => rhs; whnf; rfl)
noncomputable abbrev duEnv (L : Nat) : Env := envOfC (Str.ofString "_law_due") duScope L 138 (.ref 137)
noncomputable abbrev duBody : List Stmt := pk (kids (kid (topS 17) 1)) _ (by conv => rhs; whnf; rfl)
noncomputable def bitsOf (a b : Nat) : List Nat := (List.range (a + b)).map fun k => (k + 1) * b / (a + b) - k * b / (a + b)
theorem bits_le {a b : Nat} (h : 0 < a + b) : ∀ c ∈ bitsOf a b, c = 0 ∨ c = 1 := by
  intro c hc
  obtain ⟨k, _, rfl⟩ := List.mem_map.mp hc
  have h1 : (k + 1) * b ≤ k * b + (a + b) := by rw [Nat.succ_mul]; omega
  have h2 : (k + 1) * b / (a + b) ≤ k * b / (a + b) + 1 := by
    have := Nat.div_le_div_right (c := a + b) h1
    rwa [Nat.add_div_right _ h] at this
  omega
theorem letters_eq {a b : Nat} : lettersF a b = (bitsOf a b).map fun n : Nat => (n : Int) := by
  have e : ((a : Int) + b - 0).toNat = a + b := by omega
  unfold lettersF bitsOf
  rw [e]
  simp only [rangeKs, List.map_map]
  refine List.map_congr_left fun k hk => ?_
  simp only [Function.comp]
  have h0 : (0 : Int) ≤ (a : Int) + b := by omega
  rw [Int.fdiv_eq_ediv_of_nonneg _ h0, Int.fdiv_eq_ediv_of_nonneg _ h0]
  have hm : k * b / (a + b) ≤ (k + 1) * b / (a + b) := Nat.div_le_div_right (Nat.mul_le_mul_right _ (Nat.le_succ k))
  rw [Int.ofNat_sub hm, Int.natCast_ediv, Int.natCast_ediv]
  push_cast
  simp
noncomputable def dotsOf (ps : List (Nat × Nat)) (k : Nat) : Nat :=
  if k = 0 then (ps.getD 1 (0, 0)).1 + 2 else if k = ps.length - 1 then (ps.getD (k - 1) (0, 0)).2 + 2
  else (((ps.getD (k - 1) (0, 0)).1 + (ps.getD (k - 1) (0, 0)).2) + ((ps.getD (k + 1) (0, 0)).1 + (ps.getD (k + 1) (0, 0)).2)) / ((ps.getD k (0, 0)).1 + (ps.getD k (0, 0)).2)
noncomputable def nameW (s0 s1 : Str) (p : Nat × Nat) : List Nat := dotL ((bitsOf p.1 p.2).map fun c => if c = 0 then s0.cps.toList else s1.cps.toList)
noncomputable def dueW (s0 s1 : Str) (ps : List (Nat × Nat)) (k : Nat) : Str := ⟨(List.replicate (dotsOf ps k) 46 ++ nameW s0 s1 (ps.getD k (0, 0))).toArray⟩
noncomputable def PairsAt (hb : Heap) (vs : List Value) (ps : List (Nat × Nat)) : Prop :=
  vs.length = ps.length ∧ (∀ k, k < ps.length → ∃ (P ta tb : Nat), vs[k]? = some (.ref P) ∧ IsTup hb P #[.int ((ps.getD k (0, 0)).1 : Nat) ta, .int ((ps.getD k (0, 0)).2 : Nat) tb]) ∧ ∀ p ∈ ps, p.1 ≤ 300 ∧ p.2 ≤ 300 ∧ 0 < p.1 + p.2
theorem item_pr {prog : Program} {w : World} {A : Around} {E : Value → Shared → Prop} {s : Shared} {hb : Heap} {value slice : PySem.Expr} {l : Addr} {vs : List Value} {ps : List (Nat × Nat)} {k : Int} {u : Tok} {Q : Value → Shared → Prop}
    (hl : s.heap.IsList l vs.toArray) (pr : PairsAt hb vs ps) (h0 : 0 ≤ k) (hhi : k < 2 ^ 63) (hx : k.toNat < ps.length)
    (h : ∀ (P ta tb : Nat), IsTup hb P #[.int ((ps.getD k.toNat (0, 0)).1 : Nat) ta, .int ((ps.getD k.toNat (0, 0)).2 : Nat) tb] → (ps.getD k.toNat (0, 0)).1 ≤ 300 → (ps.getD k.toNat (0, 0)).2 ≤ 300 → 0 < (ps.getD k.toNat (0, 0)).1 + (ps.getD k.toNat (0, 0)).2 → Q (.ref P) s)
    (hs : subscripted slice false (.ref l) (.int k u) = operate [.ref l, .int k u] (getItem (.ref l) (.int k u)) := by with_unfolding_all rfl) :
    wpAny (model prog w) A (subscriptTail value slice (.ref l) (.int k u)) Q E s := by
  obtain ⟨P, ta, tb, hv, ht⟩ := pr.2.1 k.toNat hx
  have hm : ps.getD k.toNat (0, 0) ∈ ps := by
    rw [List.getD_eq_getElem?_getD, List.getElem?_eq_getElem hx]; exact List.getElem_mem hx
  have hb := pr.2.2 _ hm
  exact tail_any hl.typeIs slot_list_getitem.lookup (wpAny_getItem_list hl h0 hhi (by simpa using hv) (h P ta tb ht hb.1 hb.2.1 hb.2.2)) hs
theorem sum_pr {prog : Program} {w : World} {A : Around} {E : Value → Shared → Prop} {s : Shared} {P : Nat} {a b : Nat} {ta tb : Nat} {Q : Value → Shared → Prop} {hb : Heap} {L : Addr} {m : Str → Option Value} {news : List (Addr × Obj)} (F : Fr hb L s.heap m) (N : News hb L s.heap news) (hh : A.handled = none)
    (ht : IsTup hb P #[.int a ta, .int b tb])
    (h : ∀ h' tk t', Fr hb L h' m → News hb L h' news → Q (.int ((a + b : Nat) : Int) t') { s with heap := h', toks := tk }) :
    wpAny (model prog w) A (call (.builtin "sum") [.ref P]) Q E s := by
  have I : s.heap.IsTuple P (intItems #[((a : Int), ta), ((b : Int), tb)]) := by
    have e : intItems #[((a : Int), ta), ((b : Int), tb)] = #[.int a ta, .int b tb] := by simp [intItems]
    rw [e]; exact ht.keeps F.keep
  refine ktm_sumG hh I fun h' tk t' k => ?_
  have e : preSum (numAt #[((a : Int), ta), ((b : Int), tb)]) 2 = ((a + b : Nat) : Int) := by
    simp [preSum, numAt]
  have := h h' tk t' (F.keeps k) fun p hp => ⟨k _ _ (N p hp).1, (N p hp).2⟩
  rw [← e] at this
  exact this
theorem grabD {hb h : Heap} {L : Addr} {D : Nat} {o : Obj} {r : List (Addr × Obj)} (_ : News hb L h ((D, o) :: r)) : ∃ D' : Nat, D' = D := ⟨_, rfl⟩
theorem mul_cps (n : Nat) : (Txt.mul (Str.ofString ".") (n : Int)).cps.toList = List.replicate n 46 := by
  have e : (Str.ofString ".").cps = #[46] := by decide +kernel
  have key : ∀ (k : Nat) (a : Array Nat), ((List.replicate k #[46]).foldl (· ++ ·) a).toList = a.toList ++ List.replicate k 46 := by
    intro k
    induction k with
    | zero => intro a; simp
    | succ k ih => intro a; rw [List.replicate_succ, List.foldl_cons, ih, List.replicate_succ]; simp
  unfold Txt.mul
  split
  · rename_i h1
    have : n = 0 := by omega
    subst this
    rfl
  · split
    · rename_i h1 h2
      rcases Bool.or_eq_true _ _ |>.mp h2 with h3 | h3
      · have : n = 1 := by have := eq_of_beq h3; omega
        subst this
        rw [e]; rfl
      · exact absurd h3 (by decide +kernel)
    · rw [e, Int.toNat_natCast]
      have := key n #[]
      simpa using this
theorem mul_due {prog : Program} {w : World} {A : Around} {E : Value → Shared → Prop} {s : Shared} {t u : Nat} {z : Int} {d : Nat} {Q : Value → Shared → Prop} (hz : d ≤ 1300) (e : z = (d : Int))
    (h : ∀ (x : Str) t' k, x.cps.toList = List.replicate d 46 → x.length ≤ 1300 → Q (.str x t') { s with toks := k }) : wpAny (model prog w) A (binaryOp .Mult (.str (Str.ofString ".") t) (.int z u)) Q E s := by
  subst e
  have e1 : (Str.ofString ".").length = 1 := by decide +kernel
  refine SB.mul (mulOk_of 16 1048576 (by omega) (by omega) (by omega) (by decide) (by decide)) fun t' k => h _ _ _ (mul_cps d) ?_
  have := congrArg List.length (mul_cps d)
  simp at this
  show (Txt.mul (Str.ofString ".") (d : Int)).cps.size ≤ 1300
  omega
theorem due_e0 {ps : List (Nat × Nat)} {i : Nat} (h : i = 0) : ((ps.getD (1 : Int).toNat (0, 0)).1 : Int) + 2 = (dotsOf ps i : Nat) := by
  unfold dotsOf; rw [if_pos h]; rfl
theorem due_e1 {ps : List (Nat × Nat)} {i : Nat} (h : i ≠ 0) (h1 : i = ps.length - 1) : ((ps.getD ((i : Int) - 1).toNat (0, 0)).2 : Int) + 2 = (dotsOf ps i : Nat) := by
  unfold dotsOf; rw [if_neg h, if_pos h1, show ((i : Int) - 1).toNat = i - 1 by omega]; rfl
theorem due_e2 {ps : List (Nat × Nat)} {i : Nat} (h : i ≠ 0) (h1 : i ≠ ps.length - 1) : Int.fdiv ((((ps.getD ((i : Int) - 1).toNat (0, 0)).1 + (ps.getD ((i : Int) - 1).toNat (0, 0)).2 : Nat) : Int) + (((ps.getD ((i : Int) + 1).toNat (0, 0)).1 + (ps.getD ((i : Int) + 1).toNat (0, 0)).2 : Nat) : Int)) (((ps.getD (i : Int).toNat (0, 0)).1 + (ps.getD (i : Int).toNat (0, 0)).2 : Nat) : Int) = (dotsOf ps i : Nat) := by
  unfold dotsOf; rw [if_neg h, if_neg h1, show ((i : Int) - 1).toNat = i - 1 by omega, show ((i : Int) + 1).toNat = i + 1 by omega, show (i : Int).toNat = i by omega, Int.fdiv_eq_ediv_of_nonneg _ (by omega)]
  norm_cast
theorem dots_le {hb : Heap} {vs : List Value} {ps : List (Nat × Nat)} (h : PairsAt hb vs ps) (i : Nat) : dotsOf ps i ≤ 1300 := by
  have key : ∀ k, (ps.getD k (0, 0)).1 ≤ 300 ∧ (ps.getD k (0, 0)).2 ≤ 300 := fun k => by
    rw [List.getD_eq_getElem?_getD]
    cases q : ps[k]? with
    | none => exact ⟨Nat.zero_le _, Nat.zero_le _⟩
    | some v => have := h.2.2 v (List.mem_of_getElem? q); exact ⟨this.1, this.2.1⟩
  unfold dotsOf
  have k1 := key 1
  have k2 := key (i - 1)
  have k3 := key (i + 1)
  split
  · omega
  split
  · omega
  · exact Nat.le_trans (Nat.div_le_self _ _) (by omega)
theorem reg1_Due : True := by
  k_with "binaryOp Mult str int" => ((k_here; (with_reducible show wpAny _ _ (binaryOp Operator.Mult (Value.str _ _) (Value.int _ _)) _ _ _); k_dflt (apply mul_due; (case hz => assumption); (case e => first | exact due_e0 (by omega) | exact due_e1 (by omega) (by omega) | exact due_e2 (by omega) (by omega))); intro _ _ _ _ _))
  k_with "exec For Name Call cons nil" => ((k_here; (with_reducible show wpAny _ _ (exec (Stmt.For _ _ _ _ _) _) _ _ _); apply stuck))
  k_with "pyIter ref" => ((k_here; (with_reducible show wpAny _ _ (pyIter (Value.ref _)) _ _ _); apply stuck))
  k_with "eval ListComp" => ((k_here; (with_reducible show wpAny _ _ (eval (Expr.ListComp _ _ _ _) _) _ _ _); apply stuck))
  k_with "subscriptTail" => ((k_here; (with_reducible show wpAny _ _ (subscriptTail _ _ (Value.ref _) (Value.int _ _)) _ _ _); k_dflt (apply item_pr; (case pr => assumption); (case hl => exact Heap.IsList.at (by assumption) (fun o e => Fr.keep (by k_asm) _ _ e)); (case h0 => omega); (case hhi => omega); (case hx => omega); (case hs => with_unfolding_all rfl)); intro _ _ _ _ _ _ _))
  k_with "subscriptTail Name Name ref int" => ((k_here; (with_reducible show wpAny _ _ (subscriptTail _ _ (Value.ref _) (Value.int _ _)) _ _ _); k_dflt (apply item_pr; (case pr => assumption); (case hl => exact Heap.IsList.at (by assumption) (fun o e => Fr.keep (by k_asm) _ _ e)); (case h0 => omega); (case hhi => omega); (case hx => omega); (case hs => with_unfolding_all rfl)); intro _ _ _ _ _ _ _))
  k_with "subscriptTail Name BinOp ref int" => ((k_here; (with_reducible show wpAny _ _ (subscriptTail _ _ (Value.ref _) (Value.int _ _)) _ _ _); k_dflt (apply item_pr; (case pr => assumption); (case hl => exact Heap.IsList.at (by assumption) (fun o e => Fr.keep (by k_asm) _ _ e)); (case h0 => omega); (case hhi => omega); (case hx => omega); (case hs => with_unfolding_all rfl)); intro _ _ _ _ _ _ _))
  k_with "subscriptTail" => ((k_here; (with_reducible show wpAny _ _ (subscriptTail (PySem.Expr.Subscript _ _ _) _ (Value.ref _) (Value.int _ _)) _ _ _); k_dflt (refine kba_turn (value' := PySem.Expr.Name (PySem.Str.ofString "_") ⟨0, 0, 0, 0⟩) (fun _ => rfl) ?_; refine item_tupleL (by first | assumption | exact Fr.tup (by assumption) (by assumption)) (by decide) (by decide) (by rfl) (by rfl) ?_)))
  k_with "call builtin:sum" => ((k_here; (with_reducible show wpAny _ _ (call (Value.builtin _) [Value.ref _]) _ _ _); k_dflt (apply sum_pr; (case F => k_asm); (case N => k_asm); (case hh => rfl); (case ht => assumption)); intro _ _ _ _ _))
  k_with "call ref" => ((k_here; (with_reducible show wpAny _ _ (call (Value.ref 123) [_]) _ _ _); k_dflt (apply letters_in; (case F => k_asm); (case N => k_asm); (case X => k_asm); (case T => k_asm); (case I => assumption); (case ha => omega); (case hb1 => omega); (case hab => omega); (case hroom => ((try simp only [depth_under_make, depth_in1, depth_deeper]); (try dsimp only); omega))); intro _ _ _ _ _ _ _))
  k_with "call builtin:list.append" => ((k_here; (with_reducible show wpAny _ _ (call (Value.builtin _) [Value.ref _, _]) _ _ _); k_dflt (apply append_K; (case F => k_asm); (case N => k_asm); (case U => k_upd); (case hsz => (simp only [List.size_toArray, sizeLine]; omega)); k_whole); intro _ _ _))
  k_with "call builtin:str.join" => ((k_here; (with_reducible show wpAny _ _ (call (Value.builtin _) [Value.str _ _, Value.ref _]) _ _ _); k_dflt (apply join_dot; (case N => k_asm); (case hm => k_mem); (case sv => assumption); (case hx => assumption); (case hn => assumption)); intro _ _ _ _ _))
  trivial
theorem rel_bits {ys : List Value} {ps : List (Nat × Nat)} {i : Nat} (hti : (i : Int).toNat = i) (h : IntsAre ys (lettersF (ps.getD (i : Int).toNat (0, 0)).1 (ps.getD (i : Int).toNat (0, 0)).2)) :
    RelAll (fun v (c : Nat) => ∃ t, v = .int c t) ys (bitsOf (ps.getD i (0, 0)).1 (ps.getD i (0, 0)).2) := by
  rw [hti, letters_eq] at h
  refine ⟨by have := h.length; simpa using this, fun j v c hv hc => ?_⟩
  obtain ⟨k, t, e, hk⟩ := IntsAre.at h j v hv
  rw [List.getElem?_map, hc] at hk
  obtain rfl := Option.some.inj hk
  exact ⟨t, e⟩
theorem bindL_du {L a sg : Nat} : bindL (duEnv L).kindOf [(Str.ofString "pairs", Value.ref a), (Str.ofString "signs", Value.ref sg)] (fun _ => none) = fun y => if y = Str.ofString "pairs" then some (Value.ref a) else none := by
  have e1 : (duEnv L).kindOf (Str.ofString "pairs") = some .local := rfl
  have e2 : (duEnv L).kindOf (Str.ofString "signs") = some .cell := rfl
  rw [bindL, bindL, bindL, e1, e2, if_pos rfl, if_neg (by decide)]
section
variable {w : World} {p : Program} {loose : List Str} {mean : ExcName → Option Value} {mg mb : Str → Option Value} {dp un : Nat} {fr : Option (List Env)} {gd : Option (List Code)} {s : Shared}
    {hb : Heap} {a sg : Nat} {vs : List Value} {ps : List (Nat × Nat)} {s0 s1 : Str} {t0 t1 : Nat} {Q : Value → Shared → Prop}
noncomputable def DInv (s : Shared) (hb : Heap) (L2 a : Nat) (cs : List (Addr × Obj)) (ps : List (Nat × Nat)) (s0 s1 : Str) (D : Nat) (it : Value) (n : Nat) (s' : Shared) : Prop :=
  ∃ (I : Nat) (h : Heap) (tk : Nat) (i : Nat) (c1 c2 : Option Value) (ds : List Value) (kD : Nat), it = .ref I ∧ D ≠ I ∧ (∀ p ∈ cs, p.1 ≠ I) ∧ s' = { s with heap := h, toks := tk } ∧
    Fr hb L2 h (fun y => if y = Str.ofString "dots" then c1 else if y = Str.ofString "k" then c2 else if y = Str.ofString "due" then some (.ref D) else if y = Str.ofString "pairs" then some (.ref a) else none) ∧
    News hb L2 h ((I, rIt i ((ps.length : Int) - i)) :: (D, listOf ds.toArray kD) :: cs) ∧ SV ds ((List.range i).map (dueW s0 s1 ps)) ∧ i ≤ ps.length ∧ n = ps.length - i
theorem due_end {Q : Flow → Shared → Prop} {L I D i tk k2 : Nat} {h : Heap} {oc oE : Obj} {E6 : Nat} {ds : List Value} {V1 V2 c1 c2 : Option Value} {x J : Str} {tv : Nat} (hlt : i < ps.length) (hDI : D ≠ I) (hcs : ∀ p ∈ [(L + 1, oc)], p.1 ≠ I)
    (hx : x.cps.toList = List.replicate (dotsOf ps i) 46) (hJ : J.cps.toList = dotL (((bitsOf (ps.getD i (0, 0)).1 (ps.getD i (0, 0)).2).map (fun c => if c = 0 then s0 else s1)).map (·.cps.toList))) (hds : SV ds ((List.range i).map (dueW s0 s1 ps)))
    (F : Fr s.heap L h (fun y => if y = Str.ofString "dots" then V1 else if y = Str.ofString "k" then V2 else if y = Str.ofString "dots" then c1 else if y = Str.ofString "k" then c2 else if y = Str.ofString "due" then some (.ref D) else if y = Str.ofString "pairs" then some (.ref a) else none))
    (N : News s.heap L h [(E6, oE), (I, rIt ((i : Int) + 1) ((ps.length : Int) - i - 1)), (D, listOf (ds.toArray.push (.str (x ++ J) tv)) k2), (L + 1, oc)]) :
    TurnEnd (DInv s s.heap L a [(L + 1, oc)] ps s0 s1 D (.ref I)) Q (ps.length - i) .next { s with heap := h, toks := tk } := by
  have e2 : (ps.length : Int) - ((i + 1 : Nat) : Int) = (ps.length : Int) - i - 1 := by omega
  have e1' : ((i + 1 : Nat) : Int) = (i : Int) + 1 := by omega
  refine ⟨ps.length - (i + 1), by omega, I, h, tk, i + 1, V1, V2, ds ++ [.str (x ++ J) tv], k2, rfl, hDI, hcs, rfl, Fr.congr F ?_, ?_, ?_, by omega, rfl⟩
  · intro y
    by_cases h1 : y = Str.ofString "dots"
    · subst h1; rfl
    by_cases h2 : y = Str.ofString "k"
    · subst h2; rfl
    rw [if_neg h1, if_neg h2, if_neg h1, if_neg h2]
    rw [if_neg h1, if_neg h2]
  · rw [e2, e1']
    have : (ds ++ [Value.str (x ++ J) tv]).toArray = ds.toArray.push (.str (x ++ J) tv) := by simp
    rw [this]
    exact News.sub N fun _ q => .tail _ q
  · rw [List.range_succ, List.map_append]
    refine SV.append hds (SV.cons (t := tv) (x := dueW s0 s1 ps i) SV.nil |> fun q => ?_)
    have e : x ++ J = dueW s0 s1 ps i := by
      apply Str.ext'
      rw [Str.cps_append]
      apply Array.toList_inj.mp
      rw [Array.toList_append, hx, hJ, List.map_map]
      show _ = (List.replicate (dotsOf ps i) 46 ++ nameW s0 s1 (ps.getD i (0, 0)))
      unfold nameW
      congr 2
      refine List.map_congr_left fun c _ => ?_
      simp only [Function.comp]
      split <;> rfl
    rw [e]; exact q
set_option maxHeartbeats 8000000 in
theorem due_body {Q : Flow → Shared → Prop} {L I D i tk t kD : Nat} {h' : Heap} {oc : Obj} {ds : List Value} {c1 c2 : Option Value} (X : (hd.heap_39 w.params).In s.heap) (T : Top p loose mean mg mb s.heap) (hroom : dp < 895)
    (hl : s.heap.IsList a vs.toArray) (hp : PairsAt s.heap vs ps) (hn : 2 ≤ ps.length) (hn2 : ps.length ≤ 50) (hs : s.heap.IsList sg #[.str s0 t0, .str s1 t1]) (z0 : s0.length ≤ 10) (z1 : s1.length ≤ 10)
    (hDI : D ≠ I) (hLI : @Ne Nat (L + 1) I) (hLD : @LT.lt Nat _ (L + 1) D) (hcs : ∀ p ∈ [(L + 1, oc)], p.1 ≠ I) (hlt : i < ps.length) (hoc : oc.data = .cell (some (.ref sg))) (hds : SV ds ((List.range i).map (dueW s0 s1 ps)))
    (F' : Fr s.heap L h' (fun y => if y = Str.ofString "dots" then c1 else if y = Str.ofString "k" then c2 else if y = Str.ofString "due" then some (.ref D) else if y = Str.ofString "pairs" then some (.ref a) else none))
    (N' : News s.heap L h' ((I, rIt ((i : Int) + 1) ((ps.length : Int) - i - 1)) :: (D, listOf ds.toArray kD) :: [(L + 1, oc)])) :
    wpAny (model PySem.Challenge.rw_sl0003_01.row.prog w) (AA dp un fr gd) (assign duTgt (duEnv L) (.int i t)) (fun _ s₂ =>
      wpAny (model PySem.Challenge.rw_sl0003_01.row.prog w) (AA dp un fr gd) (execs duBody (duEnv L)) (TurnEnd (DInv s s.heap L a [(L + 1, oc)] ps s0 s1 D (.ref I)) Q (ps.length - i)) (fun _ _ => False) s₂) (fun _ _ => False) { s with heap := h', toks := tk } := by
  revert X; k_fill; intro X
  have hi0 : (0 : Int) ≤ (i : Int) := by omega
  have hi1 : (i : Int) < ps.length := by omega
  have hll : vs.toArray.size = ps.length := by simpa using hp.1
  have hz := dots_le hp i
  have hti : (i : Int).toNat = i := by omega
  have hpi : (ps.getD i (0, 0)).1 ≤ 300 ∧ (ps.getD i (0, 0)).2 ≤ 300 ∧ 0 < (ps.getD i (0, 0)).1 + (ps.getD i (0, 0)).2 := hp.2.2 _ (by rw [List.getD_eq_getElem?_getD, List.getElem?_eq_getElem hlt]; exact List.getElem_mem hlt)
  have hoc' : oc.data = .cell (some (.ref sg)) := hoc
  k_steps
  all_goals (
    change wpAny _ _ _ _ _ _
    rename Fr _ _ _ _ => F4
    rename News _ _ _ _ => N4
    refine comp_listE (cl := [(Str.ofString "signs", L + 1)]) (cs := bitsOf (ps.getD i (0, 0)).1 (ps.getD i (0, 0)).2) (fun v c => ∃ t, v = .int (c : Nat) t) (fun c => if c = 0 then s0 else s1) F4 N4 ?_ rfl rfl (by decide) rfl (by decide) rfl ?_ ?_ ?_ ?_
    · rintro v c c' ⟨t1, rfl⟩ ⟨t2, e2⟩
      cases e2
      rfl
    · show (bitsOf _ _).length ≤ 1000000
      unfold bitsOf; rw [List.length_map, List.length_range]; omega
    · k_steps
      rename Fr _ _ _ _ => F9
      rename News _ _ _ _ => N9
      rename IntsAre _ _ => I9
      exact ⟨_, _, _, _, rfl, rfl, F9, News.sub N9 (fun _ q => .tail _ q), News.isList N9 (.head _), rel_bits hti I9⟩
    · intro v c C s₃ m₃ E' hR hcm hn3 hm3 hk3 hN3
      obtain ⟨t3, rfl⟩ := hR
      exact elt_sign (bits_le hpi.2.2 c hcm) rfl rfl rfl (hN3 (L + 1, oc) (by k_mem)) hoc' (hs.at fun o e => hk3 _ _ e) rfl hn3 hm3
    · intro h6 tk6 E6 ys6 k6 F6 N6 sv6 d6
      clear F4 N4
      have hx6 : ∀ x ∈ (bitsOf (ps.getD i (0, 0)).1 (ps.getD i (0, 0)).2).map (fun c => if c = 0 then s0 else s1), x.length ≤ 10 := by
        intro x hx
        obtain ⟨c, _, rfl⟩ := List.mem_map.mp hx
        show (if c = 0 then s0 else s1).length ≤ 10
        split <;> assumption
      have hn6 : ((bitsOf (ps.getD i (0, 0)).1 (ps.getD i (0, 0)).2).map (fun c => if c = 0 then s0 else s1)).length ≤ 1000 := by
        rw [List.length_map]; unfold bitsOf; rw [List.length_map, List.length_range]; omega
      have e6 : E6 ≠ I := fun q => d6 _ (.head _) q.symm
      have e7 : E6 ≠ D := fun q => d6 _ (.tail _ (.head _)) q.symm
      have e8 : E6 ≠ L + 1 := fun q => d6 _ (.tail _ (.tail _ (.head _))) q.symm
      clear d6
      have hID : @Ne Nat I D := Ne.symm hDI
      have hLD2 : @Ne Nat (L + 1) D := by omega
      have hdl : ds.length ≤ 50 := by have := hds.length; simp at this; omega
      k_steps
      rename Fr _ _ _ _ => F9
      rename News _ _ _ _ => N9
      rename (_ = List.replicate _ _) => hx1
      rename (_ = dotL _) => hJ1
      exact due_end hlt hDI hcs hx1 hJ1 hds F9 N9)
set_option maxHeartbeats 8000000 in
theorem c_due {E Q : Value → Shared → Prop} (B : Bs hb s.heap) (X : (hd.heap_39 w.params).In hb) (T : Top p loose mean mg mb hb) (hroom : dp < 890)
    (hl : s.heap.IsList a vs.toArray) (hp : PairsAt s.heap vs ps) (hn : 2 ≤ ps.length) (hn2 : ps.length ≤ 50) (hs : s.heap.IsList sg #[.str s0 t0, .str s1 t1]) (z0 : s0.length ≤ 10) (z1 : s1.length ≤ 10)
    (ret : ∀ h' tk (D : Nat) ds kD, (∀ b o, s.heap.get? b = some o → h'.get? b = some o) → Led s.heap h' [(D, listOf ds.toArray kD)] → SV ds ((List.range ps.length).map (dueW s0 s1 ps)) → Q (.ref D) { s with heap := h', toks := tk }) :
    wpAny (model PySem.Challenge.rw_sl0003_01.row.prog w) (AA dp un fr gd) (call (.ref 138) [.ref a, .ref sg]) Q E s := by
  revert X; k_fill; intro X
  refine entC (hb := s.heap) (binds := [(Str.ofString "pairs", .ref a), (Str.ofString "signs", .ref sg)]) Bs.rfl (X.keeps B.stays) (T.keeps B.stays) Led.nil rfl rfl (by show dp < _; simp only [recursionLimit]; omega) rfl rfl (by decide +kernel) rfl rfl rfl ?_
  intro L h₁ tk cells e F' N' Y' l0 K'
  have X2 := X.keeps B.stays
  have T2 := T.keeps B.stays
  clear X T
  k_cells Y'
  simp only [List.cons_append, List.nil_append] at N'
  change wpAny _ _ _ _ _ _
  k_fold
  k_steps
  change wpAny _ _ _ _ _ _
  rename Fr _ _ _ _ => F2
  rename News _ _ _ _ => N2
  obtain ⟨D, hD⟩ := grabD N2
  subst hD
  rename Obj => oc
  rename (Obj.data _ = _) => hoc
  rename (@LT.lt Addr _ _ _) => hLD
  k_lt2 hLD
  have hp0 := hp.1
  refine wpAny_ForJ (I := DInv s s.heap L a [(L + 1, oc)] ps s0 s1 D) ?_ ?_
  · have hll : vs.toArray.size = ps.length := by simpa using hp.1
    k_steps
    change wpAny _ _ _ _ _ _
    rename IsRange _ _ _ _ _ _ _ _ => hr
    rename Fr _ _ _ _ => F9
    rename News _ _ _ _ => N9
    refine iter_rng F9 N9 hr (by omega) (by omega) fun I h' F' N' l1 => ?_
    k_lt l1
    refine ⟨ps.length, I, h', _, 0, none, none, [], 0, rfl, by omega, by intro p hp; obtain rfl := List.mem_singleton.mp hp; show @Ne Nat (L + 1) I; omega, rfl, Fr.congr F' ?_, by rw [← hp0]; simpa using N', .nil, by omega, rfl⟩
    intro y
    by_cases h1 : y = Str.ofString "dots"
    · subst h1; rfl
    by_cases h2 : y = Str.ofString "k"
    · subst h2; rfl
    by_cases h3 : y = Str.ofString "due"
    · subst h3; rfl
    by_cases h4 : y = Str.ofString "pairs"
    · subst h4; rfl
    by_cases h5 : y = Str.ofString "signs"
    · subst h5; rfl
    have h4' : (Str.ofString "pairs" == y) = false := beq_eq_false_iff_ne.mpr (Ne.symm h4)
    rw [if_neg h3, if_neg h1, if_neg h2, if_neg h3]
    exact congrFun (bindL_du (L := L) (a := a) (sg := sg)) y
  rintro it n s' ⟨I, h, tk, i, c1, c2, ds, kD, rfl, hDI, hcs, rfl, F3, N3, hds, hin, rfl⟩
  clear F2 N2
  have hLI : @Ne Nat (L + 1) I := hcs _ (.head _)
  by_cases hlt : i < ps.length
  · refine next_rng F3 N3 (by intro p hp; rcases List.mem_cons.mp hp with rfl | hp; exact hDI; exact hcs p hp) (by omega) fun h' tk t F' N' => ?_
    clear F3 N3
    exact due_body (dp := dp + 1) X2 T2 (by omega) hl hp hn hn2 hs z0 z1 hDI hLI hLD hcs hlt hoc hds F' N'
  · refine end_rng rfl F3 N3 (by intro p hp; rcases List.mem_cons.mp hp with rfl | hp; exact hDI; exact hcs p hp) (by omega) fun h' tk F' N' => ?_
    clear F3 N3
    refine wpAny_pure ?_
    dsimp only
    k_steps
    rename Fr _ _ _ _ => F9
    rename News _ _ _ _ => N9
    have : i = ps.length := by omega
    subst this
    exact ret _ _ D ds kD F9.keep (Led.sub (toLed N9) (List.forall_mem_cons.mpr ⟨by k_mem, List.forall_mem_nil _⟩)) hds
end
end Mine
end
section
open PySem PySem.W PyProof.Rows PySem.Calls PySem.Spec
namespace Mine
theorem start_Rf0 : True := by
  w_top off
  k_with_none
  trivial
section
variable {M : Model} {A : Around} {E : Value → Shared → Prop} {s : Shared}
/-- a frame is noted upon an exception that has no traceback yet; the exception's other fields stay -/
theorem note_own {base : Heap} {env : Env} {outer : List Env} {L e : Addr} {oe : Obj} {vs : Array Value} {Q : Unit → Shared → Prop}
    (hfr : A.frames = some (env :: outer)) (hl : s.heap.FunFrames base (env :: outer)) (hf : env.frame = some L)
    (he : s.heap.get? e = some oe) (hkb : base.StaysIn s.heap) (hen : base.get? e = none) (hd : oe.data = .fields vs) (h1 : vs[1]? = some .none)
    (h : ∀ h' T oT ts, base.StaysIn h' → h'.FunFrames base (env :: outer) → base.get? T = none → T ≠ e → h'.get? e = some (oe.mapFields (·.setIfInBounds 1 (.ref T))) →
      h'.get? T = some oT → oT.data = .fields ts → ts[3]? = some (rawInt L) → s.heap.UpToSlots h' → Q () { s with heap := h' }) :
    wpAny M A (noteFrame (.ref e) env) Q E s := by
  have apart : e ∉ (env :: outer).filterMap (·.frame) := fun hm => by
    obtain ⟨_, o, ho, hnf⟩ := hl.mem hm
    rw [he] at ho
    cases ho
    exact hnf vs hd
  unfold noteFrame
  simp only [hf]
  refine wpAny_bind (wpAny_field he hd h1 ?_)
  rw [if_neg (by decide)]
  refine wpAny_bind (wpAny_frameOf_fun hfr hl hf fun g hg => ?_)
  refine wpAny_bind (wpAny_entryPlaceOf fun pl hpl => ?_)
  unfold EntryCells.newEntry newFields
  refine wpAny_bind (wpAny_newObj_type ?_ (hpl.sizeOk5 _ _ _ _ _))
  have eg : g.get? e = some oe := (hg.2.1 e apart).trans he
  have bg : base.StaysIn g := fun b o q => (hg.2.1 b fun hm => by rw [(hl.mem hm).1] at q; cases q).trans (hkb b o q)
  generalize ht : ({ cls := .type "traceback", dict := none, data := .fields ([Value.none, .ref L, .none, rawInt L, .none] ++ (if pl.isEmpty then List.replicate 6 Value.none else pl)).toArray } : Obj) = tb
  have e2 : (g.push tb).get? e = some oe := Heap.get?_push_of_some _ eg
  refine wpAny_setField e2 hd (Array.getElem?_eq_some_iff.mp h1).1 ?_
  have hne : g.objs.size ≠ e := Nat.ne_of_gt (Heap.lt_size eg)
  have hT : ((g.push tb).update e (Obj.mapFields (·.setIfInBounds 1 (Value.ref g.objs.size)))).get? g.objs.size = some tb :=
    (Heap.get?_update_other _ _ (Ne.symm hne)).trans (by subst ht; exact Heap.get?_push_size g rfl)
  have keep : ∀ b o, b ≠ e → g.get? b = some o → ((g.push tb).update e (Obj.mapFields (·.setIfInBounds 1 (Value.ref g.objs.size)))).get? b = some o := fun b o hb q =>
    (Heap.get?_update_other _ _ (Ne.symm hb)).trans (Heap.get?_push_of_some _ q)
  have norec : ∀ b o, s.heap.get? b = some o → (∀ vs, o.data ≠ .fields vs) → b ≠ e := fun b o q hn r => by
    rw [r, he] at q
    cases q
    exact hn vs hd
  refine h _ g.objs.size tb _ (fun b o q => keep b o (fun r => by rw [r, hen] at q; cases q) (bg b o q)) (hl.of_keeps fun b o q hn => ?_) bg.fresh hne
    (Heap.get?_update_self _ e2 (Obj.isFreed_of_fields (Obj.data_mapFields hd _))) hT (by subst ht; rfl) ?_ fun b o q hn => ?_
  · obtain ⟨sl, hs⟩ := hg.2.2 b o q
    exact ⟨_, keep b _ (norec b o q hn) hs, rfl⟩
  · first | (simp; done) | (rcases hpl with rfl | ⟨_, _, _, _, _, _, _, rfl⟩ <;> simp)
  · obtain ⟨sl, hs⟩ := hg.2.2 b o q
    exact ⟨sl, keep b _ (norec b o q hn) hs⟩
end
end Mine
end
section
open PySem PySem.W PyProof.Rows PySem.Calls PySem.Spec
namespace Mine
theorem start_Rf1 : True := by
  w_top off
  k_with_none
  trivial
theorem entry_unchain : entryFor table "proto.unchain" = some Builtin.«proto.unchain» := entryFor_of_fast (by kernel_rfl)
theorem wpAny_updateField1 {M : Model} {A : Around} {E : Value → Shared → Prop} {s : Shared} {a : Addr} {o : Obj} {vs : Array Value} {i : Nat} {x : Value} {Q : Unit → Shared → Prop} (ho : s.heap.get? a = some o)
    (hd : o.data = .fields vs) (hi : i < vs.size) (h : Q () { s with heap := s.heap.update a (Obj.mapFields (·.setIfInBounds i x)) }) : wpAny M A (updateField a i x) Q E s := by
  have := wpAny_setField (M := M) (A := A) (E := E) (x := x) (Q := Q) ho hd hi h
  exact this
section
variable {prog : Program} {w : World} {A : Around} {E : Value → Shared → Prop} {s : Shared} {env : Env}
theorem unchain_none {e : Value} {hx : Addr} {oh : Obj} {hv : Array Value} {Q : Value → Shared → Prop} (hg : s.heap.get? hx = some oh) (hd : oh.data = .fields hv) (h2 : hv[2]? = some .none) (h : Q .none s) :
    wpAny (model prog w) A (runValue (.builtin "proto.unchain" ⟨[e, .ref hx, .ref hx, .bool false], []⟩)) Q E s := by
  refine wpAny_runValue (codeAny_builtin entry_unchain ?_)
  unfold Builtin.«proto.unchain»
  dsimp only
  refine wpAny_bind (wpAny_field hg hd h2 ?_)
  rw [if_pos (by rfl)]
  exact wpAny_pure h
theorem raiseNew_some {α : Type} {a hx : Addr} {oh oa : Obj} {hv av : Array Value} {Q : α → Shared → Prop} (hh : A.handled = some (.ref hx)) (hne : hx ≠ a) (hg : s.heap.get? hx = some oh) (hd : oh.data = .fields hv) (h2 : hv[2]? = some .none)
    (ha : s.heap.get? a = some oa) (hda : oa.data = .fields av) (hsz : 2 < av.size) (h : E (.ref a) { s with heap := s.heap.update a (Obj.mapFields (·.setIfInBounds 2 (.ref hx))) }) :
    wpAny (model prog w) A (raiseNew (.ref a) : Sem α) Q E s := by
  unfold raiseNew
  refine wpAny_bind (wpAny_handled ?_)
  rw [hh]
  have e : (Value.ref hx != Value.ref a) = true := by simpa using hne
  simp only [e, if_true]
  refine wpAny_bind (wpAny_holding (unchain_none hg hd h2 (wpAny_bind (wpAny_updateField1 ha hda hsz ?_))))
  exact wpAny_throw h
theorem excFrom_ref {cls : String} (FR : ExcRaiseFacts cls) {e : Addr} {vs : Array Value} {c : String} {Q : Value → Shared → Prop} (he : s.heap.get? e = some { cls := .type cls, data := .fields vs }) (h : Q (.ref e) s) :
    wpAny (model prog w) A (excFromValue (.ref e) c) Q E s := by
  obtain ⟨hp, g, d, tk, os⟩ := s
  have hsub := FR.isExc
  unfold excFromValue
  repeat (first | refine wpAny_loadPart he ?_ | wp_step)
  exact h
theorem raisedInst_ref {cls : String} (FR : ExcRaiseFacts cls) {e : Addr} {vs : Array Value} {Q : Value → Shared → Prop} (he : s.heap.get? e = some { cls := .type cls, data := .fields vs }) (h : Q (.ref e) s) :
    wpAny (model prog w) A (raisedInstance (.ref e)) Q E s := by
  obtain ⟨hp, g, d, tk, os⟩ := s
  have hmeta := FR.plainMeta
  unfold raisedInstance
  repeat (first | refine wpAny_loadPart he ?_ | wp_step)
  exact h
theorem isType_ref {cls : String} (FR : ExcRaiseFacts cls) {e : Addr} {vs : Array Value} {Q : Bool → Shared → Prop} (he : s.heap.get? e = some { cls := .type cls, data := .fields vs }) (h : Q false s) :
    wpAny (model prog w) A (isType (.ref e)) Q E s := by
  obtain ⟨hp, g, d, tk, os⟩ := s
  unfold isType
  repeat (first | refine wpAny_loadPart he ?_ | wp_step)
  exact h
theorem setFlight_clean {e : Addr} {oe : Obj} {vs : Array Value} {Q : Unit → Shared → Prop} (he : s.heap.get? e = some oe) (hd : oe.data = .fields vs) (h1 : vs[1]? = some .none) (h : Q () s) :
    wpAny (model prog w) A (setFlight (.ref e) none) Q E s := by
  unfold setFlight
  refine wpAny_bind (wpAny_field he hd h1 ?_)
  rw [if_neg (by decide)]
  exact wpAny_pure h
theorem raise_from_none {cls newId initId : String} (FC : ExcCallFacts cls newId initId) (FR : ExcRaiseFacts cls) {x : Str} {np cpos pos cp : Pos} {args : List Expr} {kk : Nat} {Q : Flow → Shared → Prop} {hx : Addr} {oh : Obj} {hv : Array Value}
    (hh : A.handled = some (.ref hx)) (hd : oh.data = .fields hv) (h2 : hv[2]? = some .none) (hplain : (backTo cpos (starEach args env)).any (·.1) = false)
    (h : wpAny (model prog w) A (eval (.Name x np) env) (fun f s₁ => f = .type cls ∧ wpAny (model prog w) A (evalArgs (.type cls) true (backTo cpos (starEach args env)) [])
      (fun a s₂ => a.kw = [] ∧ a.pos.length ≤ sizeLine ∧ s₂.heap.get? hx = some oh ∧ ∀ h' e t, (∀ b o, s₂.heap.get? b = some o → h'.get? b = some o) → s₂.heap.get? e = none →
        h'.get? e = some { cls := .type cls, data := .fields #[.ref t, .none, .ref hx, .none, .bool true, .none] } → E (.ref e) { s₂ with heap := h' }) E s₁) E s) :
    wpAny (model prog w) A (exec (.Raise (some (.Call (.Name x np) args [] cpos)) (some (.Constant .none kk cp)) pos) env) Q E s := by
  rw [arm_exec_Raise]
  refine wpAny_bind (wpAny_standAt ?_)
  show wpAny _ _ (raiseStmt env (some (do let v ← eval (.Call (.Name x np) args [] cpos) env; standAt pos; pure v)) (some (do let c ← eval (.Constant .none kk cp) env; standAt pos; pure c))) Q E s
  unfold raiseStmt
  dsimp only
  refine wpAny_bind (wpAny_bind (wpAny_Call_ofName (wpAny_mono h (fun f s₁ h₁ => ?_) fun _ _ x => x)))
  obtain ⟨rfl, h₁⟩ := h₁
  refine callWith_excType hplain (wpAny_mono h₁ (fun a s₂ h₂ => ?_) fun _ _ x => x)
  obtain ⟨apos, akw⟩ := a
  obtain ⟨hkw, hlen, hgx, h₂⟩ := h₂
  obtain rfl : akw = [] := hkw
  obtain ⟨hp, g, d, tk, os⟩ := s₂
  refine wpAny_call_exc FC (hrest := hlen) fun h' e hm => ?_
  obtain ⟨t, ht, _, _⟩ := hm.there
  have hk := hm.keeps
  have hn := hm.new
  refine wpAny_bind (wpAny_standAt (wpAny_pure ?_))
  refine wpAny_bind (wpAny_holding (wpAny_bind (wpAny_pure (wpAny_bind (wpAny_standAt (wpAny_pure ?_))))))
  refine wpAny_bind (wpAny_pure ?_)
  refine wpAny_bind (wpAny_holding (excFrom_ref FR ht ?_))
  dsimp only
  rw [if_pos (by rfl)]
  refine wpAny_bind (wpAny_pure ?_)
  refine wpAny_bind (wpAny_setField ht rfl (by simp) ?_)
  have h3 : (h'.update e (Obj.mapFields (·.setIfInBounds 3 Value.none))).get? e = some { cls := Value.type cls, data := Data.fields #[Value.ref t, Value.none, Value.none, Value.none, Value.bool false, Value.none] } := Heap.get?_update_self (Obj.mapFields (·.setIfInBounds 3 Value.none)) ht rfl
  refine wpAny_bind (wpAny_setField h3 rfl (by simp) ?_)
  have h4 : ((h'.update e (Obj.mapFields (·.setIfInBounds 3 Value.none))).update e (Obj.mapFields (·.setIfInBounds 4 (Value.bool true)))).get? e = some { cls := Value.type cls, data := Data.fields #[Value.ref t, Value.none, Value.none, Value.none, Value.bool true, Value.none] } := Heap.get?_update_self (Obj.mapFields (·.setIfInBounds 4 (Value.bool true))) h3 rfl
  refine wpAny_bind (isType_ref FR h4 ?_)
  rw [if_neg (by decide)]
  refine wpAny_bind (raisedInst_ref FR h4 ?_)
  refine wpAny_bind (setFlight_clean h4 rfl rfl ?_)
  have hne : hx ≠ e := fun q => by
    have := hgx
    simp only [q] at this
    rw [hn] at this
    cases this
  have oth : ∀ b o, hp.get? b = some o → ((h'.update e (Obj.mapFields (·.setIfInBounds 3 Value.none))).update e (Obj.mapFields (·.setIfInBounds 4 (Value.bool true)))).get? b = some o := fun b o q => by
    have hb : b ≠ e := fun r => by rw [r, hn] at q; cases q
    rw [Heap.get?_update_other _ _ (Ne.symm hb), Heap.get?_update_other _ _ (Ne.symm hb)]
    exact hk b o q
  refine raiseNew_some hh hne (oth _ _ hgx) hd h2 h4 rfl (by simp) (h₂ _ e t (fun b o q => ?_) hn (Heap.get?_update_self (Obj.mapFields (·.setIfInBounds 2 (Value.ref hx))) h4 rfl))
  have hb : b ≠ e := fun r => by
    have q' : hp.get? b = some o := q
    rw [r, hn] at q'; cases q'
  rw [Heap.get?_update_other _ _ (Ne.symm hb)]
  exact oth b o q
end
end Mine
end
section
open PySem PySem.W PyProof.Rows PySem.Calls PySem.Spec
namespace Mine
theorem start_Rf3 : True := by
  w_top off
  k_with_none
  trivial
theorem sub_vt : isSubtype (.type "ValueError") (.type "TypeError") = pure false := by rw [isSubtype_type]; kernel_rfl
theorem sub_vv : isSubtype (.type "ValueError") (.type "ValueError") = pure true := by rw [isSubtype_type]; kernel_rfl
section
variable {prog : Program} {w : World} {A : Around} {E : Value → Shared → Prop} {s' : Shared} {K : Frag} {p : Program} {loose : List Str} {mean : ExcName → Option Value} {mg mb : Str → Option Value}
  {base hs h1 : Heap} {outer : List Env} {L a e : Nat} {m : Str → Option Value} {name : Str} {scope : Scope} {cd : Value} {Q : Flow → Shared → Prop}
  {p1 p2 p3 p4 p5 p6 p7 p8 tpos : Pos} {kk k4 k6 : Nat} {msg : Str}
theorem frames_cons {h g : Heap} (hk : scope.kind = .function) (F : Fr hs L h m) (hL : base.get? L = none) (hff : h.FunFrames base outer) (k : ∀ b o, h.get? b = some o → g.get? b = some o) : g.FunFrames base (envOf name scope L a cd :: outer) :=
  Heap.FunFrames.cons (by show scope.kind ≠ .module; rw [hk]; decide) rfl (F.keeps k).ns hL (hff.of_keeps fun b o q _ => ⟨o, k b o q, rfl⟩)
theorem refuse_chain (hfr : A.frames = some outer) (hff : h1.FunFrames base outer) (hst : base.StaysIn h1) (hL : base.get? L = none) (hab : base.objs.size ≤ L) (F : Fr hs L h1 m) (X : K.In base) (T : Top p loose mean mg mb base)
    (hx : Heap.NewExc h1 s'.heap e "ValueError") (ex1 : nsIn K mainGlobals (Str.ofString "TypeError") = some none) (ex2 : nsIn K mainGlobals (Str.ofString "ValueError") = some none)
    (hk : scope.kind = .function) (k1 : (envOf name scope L a cd).kindOf (Str.ofString "TypeError") = some .globalImplicit) (k2 : (envOf name scope L a cd).kindOf (Str.ofString "ValueError") = some .globalImplicit)
    (ret : ∀ h' tk e2 t, Heap.FlyingW base outer e2 (.type "TypeError") (.ref t) h' → h1.UpToSlots h' → E (.ref e2) { s' with heap := h', toks := tk }) :
    wpAny (model prog w) (A.deeper (envOf name scope L a cd)) (noteFrame (.ref e) (envOf name scope L a cd)) (fun _ s₂ => wpAny (model prog w) (A.deeper (envOf name scope L a cd)) (setFlight (.ref e) none) (fun _ s₃ =>
      wpAny (model prog w) (A.deeper (envOf name scope L a cd)) (handleBy (.ref e) (envOf name scope L a cd) [.ExceptHandler (some (.Tuple [.Name (Str.ofString "TypeError") p1, .Name (Str.ofString "ValueError") p2] kk tpos)) none
        [.Raise (some (.Call (.Name (Str.ofString "TypeError") p3) [.Constant (.str msg) k4 p4] [] p5)) (some (.Constant .none k6 p6)) p7] p8]) Q
        (fun e s' => wpAny (model prog w) (A.deeper (envOf name scope L a cd)) (leaving (envOf name scope L a cd) e) (fun _ s'' => E e s'') (fun e' s'' => E e' s'') s') s₃)
        (fun e s' => wpAny (model prog w) (A.deeper (envOf name scope L a cd)) (leaving (envOf name scope L a cd) e) (fun _ s'' => E e s'') (fun e' s'' => E e' s'') s') s₂)
        (fun e s' => wpAny (model prog w) (A.deeper (envOf name scope L a cd)) (leaving (envOf name scope L a cd) e) (fun _ s'' => E e s'') (fun e' s'' => E e' s'') s') s' := by
  obtain ⟨ob, tp, he, hcls, hd⟩ := hx.there
  have hfr' : (A.deeper (envOf name scope L a cd)).frames = some (envOf name scope L a cd :: outer) := Around.frames_deeper hfr
  have hen : base.get? e = none := by
    cases q : base.get? e with
    | none => rfl
    | some o => have := hst _ _ q; rw [hx.new] at this; cases this
  have st' : base.StaysIn s'.heap := fun b o q => hx.keeps b o (hst b o q)
  refine note_own hfr' (frames_cons hk F hL hff hx.keeps) rfl he st' hen hd rfl fun h2 T2 oT ts st2 ff2 hT2 hTe he2 hgT hdT h3T up2 => ?_
  have hd2 : (ob.mapFields (·.setIfInBounds 1 (.ref T2))).data = .fields #[tp, .ref T2, .none, .none, .bool false, .none] := by rw [Obj.data_mapFields hd]; rfl
  have hsz3 : 3 < ts.size := (Array.getElem?_eq_some_iff.mp h3T).1
  refine wpAny_setFlight_none he2 hd2 rfl hgT hdT hsz3 ?_
  -- the heap behind the two steps
  generalize hh3 : h2.update T2 (Obj.mapFields (·.setIfInBounds 3 .none)) = h3
  have oth3 : ∀ b, b ≠ T2 → h3.get? b = h2.get? b := fun b hb => by rw [← hh3]; exact Heap.get?_update_other _ _ (Ne.symm hb)
  have norec : ∀ b o, h2.get? b = some o → (∀ vs, o.data ≠ .fields vs) → b ≠ T2 := fun b o q hn r => by
    rw [r, hgT] at q
    cases q
    exact hn _ hdT
  have st3 : base.StaysIn h3 := fun b o q => (oth3 b fun r => by rw [r, hT2] at q; cases q).trans (st2 b o q)
  have up3 : h1.UpToSlots h3 := ((Heap.UpToSlots.of_keeps hx.keeps).trans up2).trans fun b o q hn => ⟨o.slots, (oth3 b (norec b o q hn)).trans q⟩
  have he3 : h3.get? e = some (ob.mapFields (·.setIfInBounds 1 (.ref T2))) := (oth3 e (Ne.symm hTe)).trans he2
  have hT3 : h3.get? T2 = some (oT.mapFields (·.setIfInBounds 3 .none)) := by rw [← hh3]; exact Heap.get?_update_self _ hgT (Obj.isFreed_of_fields (Obj.data_mapFields hdT _))
  have hdT3 : (oT.mapFields (·.setIfInBounds 3 Value.none)).data = .fields (ts.setIfInBounds 3 .none) := Obj.data_mapFields hdT _
  have F3 : Fr base L h3 m := ⟨up3.ns F.ns, st3, hab⟩
  have ff3 : h3.FunFrames base (envOf name scope L a cd :: outer) := ff2.of_keeps fun b o q hn => ⟨o, (oth3 b (norec b o q hn)).trans q, rfl⟩
  have TR := topRead_of T
  refine wpAny_handleBy_tup2 (T1 := "TypeError") (T2 := "ValueError") (X := "ValueError") PySem.F.isExc_TypeError PySem.F.notTuple_TypeError PySem.F.isExc_ValueError PySem.F.notTuple_ValueError sub_vt sub_vv ?_
  refine wpAny_Tuple (wpAny_items_cons (name_B F3 X TR ex1 PyProof.Rows.Boot.«TypeError» (by decide) (wpAny_items_cons (name_B F3 X TR ex2 PyProof.Rows.Boot.«ValueError» (by decide) (wpAny_items_nil ⟨by size_fits, ?_⟩) hk k2)) hk k1))
  refine ⟨_, rfl, IsTup.new _ _, ⟨_, Heap.get?_push_of_some _ he3, by rw [Obj.cls_mapFields]; exact hcls⟩, ?_⟩
  rw [if_pos (by rfl)]
  dsimp only
  have he4 := Heap.get?_push_of_some (h := h3) { cls := .type "tuple", data := .seq [Value.type "TypeError", Value.type "ValueError"].toArray } he3
  have hT4 := Heap.get?_push_of_some (h := h3) { cls := .type "tuple", data := .seq [Value.type "TypeError", Value.type "ValueError"].toArray } hT3
  refine wpAny_setFlight_none he4 hd2 rfl hT4 hdT3 (by simpa using hsz3) ?_
  generalize hh5 : (h3.push { cls := .type "tuple", data := .seq [Value.type "TypeError", Value.type "ValueError"].toArray }).update T2 (Obj.mapFields (·.setIfInBounds 3 .none)) = h5
  have oth5 : ∀ b o, b ≠ T2 → h3.get? b = some o → h5.get? b = some o := fun b o hb q => by rw [← hh5]; exact (Heap.get?_update_other _ _ (Ne.symm hb)).trans (Heap.get?_push_of_some _ q)
  have norec3 : ∀ b o, h3.get? b = some o → (∀ vs, o.data ≠ .fields vs) → b ≠ T2 := fun b o q hn r => by
    rw [r, hT3] at q
    cases q
    exact hn _ hdT3
  have st5 : base.StaysIn h5 := fun b o q => oth5 b o (fun r => by rw [r, hT2] at q; cases q) (st3 b o q)
  have up5 : h1.UpToSlots h5 := up3.trans fun b o q hn => ⟨o.slots, oth5 b o (norec3 b o q hn) q⟩
  have he5 : h5.get? e = some (ob.mapFields (·.setIfInBounds 1 (.ref T2))) := oth5 e _ (Ne.symm hTe) he3
  have F5 : Fr base L h5 m := ⟨up5.ns F.ns, st5, hab⟩
  have ff5 : h5.FunFrames base (envOf name scope L a cd :: outer) := ff3.of_keeps fun b o q hn => ⟨o, oth5 b o (norec3 b o q hn) q, rfl⟩
  refine wpAny_execs_cons (raise_from_none PySem.F.excCall_TypeError PySem.F.excRaise_TypeError (hx := e) rfl hd2 rfl rfl ?_)
  refine name_B F5 X TR ex1 PyProof.Rows.Boot.«TypeError» (by decide) ⟨rfl, ?_⟩ hk k1
  refine Calls.evalArgs_plain (spliced_more (wpAny_Constant_str (spliced_none ⟨rfl, by size_fits, he5, fun h6 e2 t k6 hn6 he6 => ?_⟩)))
  -- the new error leaves the suite, and the frame
  have hen2 : base.get? e2 = none := by
    cases q : base.get? e2 with
    | none => rfl
    | some o => have := st5 _ _ q; rw [hn6] at this; cases this
  have st6 : base.StaysIn h6 := fun b o q => k6 b o (st5 b o q)
  have ff6 : h6.FunFrames base (envOf name scope L a cd :: outer) := ff5.of_keeps fun b o q _ => ⟨o, k6 b o q, rfl⟩
  refine note_own (s := { s' with heap := h6, toks := _ }) hfr' ff6 rfl he6 st6 hen2 rfl rfl fun h7 T7 oT7 ts7 st7 ff7 hT7 hTe7 he7 hgT7 hdT7 h3T7 up7 => ?_
  have up71 : h1.UpToSlots h7 := (up5.trans (Heap.UpToSlots.of_keeps k6)).trans up7
  unfold cameBackBy
  refine wpAny_bind (wpAny_field he7 rfl (x := .ref T7) rfl ?_)
  rw [if_neg (by simp)]
  have hsz7 : 3 < ts7.size := (Array.getElem?_eq_some_iff.mp h3T7).1
  show wpAny (model prog w) (A.deeper (envOf name scope L a cd)) (setFlight (.ref e2) (some L)) _ _ _
  unfold setFlight
  refine wpAny_bind (wpAny_field he7 rfl (x := .ref T7) rfl ?_)
  rw [if_pos (show (Value.ref T7 != Value.none) = true from by simp)]
  refine wpAny_setField hgT7 hdT7 hsz7 ?_
  generalize hh8 : h7.update T7 (Obj.mapFields (·.setIfInBounds 3 ((some L).elim Value.none fun f => rawInt f))) = h8
  have oth8 : ∀ b o, b ≠ T7 → h7.get? b = some o → h8.get? b = some o := fun b o hb q => by rw [← hh8]; exact (Heap.get?_update_other _ _ (Ne.symm hb)).trans q
  have norec7 : ∀ b o, h7.get? b = some o → (∀ vs, o.data ≠ .fields vs) → b ≠ T7 := fun b o q hn r => by
    rw [r, hgT7] at q
    cases q
    exact hn _ hdT7
  have H8 : Heap.HeldW base (envOf name scope L a cd :: outer) e2 (.type "TypeError") (.ref t) L h8 := by
    refine ⟨fun b o q => oth8 b o (fun r => by rw [r, hT7] at q; cases q) (st7 b o q), hen2, ff7.of_keeps fun b o q hn => ⟨o, oth8 b o (norec7 b o q hn) q, rfl⟩, _, _, T7, _, _, oth8 _ _ (Ne.symm hTe7) he7, ⟨rfl, rfl⟩, rfl, rfl, hT7, hTe7, ?_, Obj.data_mapFields hdT7 (·.setIfInBounds 3 ((some L).elim Value.none fun f => rawInt f)), ?_⟩
    · rw [← hh8]; exact Heap.get?_update_self _ hgT7 (Obj.isFreed_of_fields (Obj.data_mapFields hdT7 _))
    · simp [hsz7]
  have up8 : h1.UpToSlots h8 := up71.trans fun b o q hn => ⟨o.slots, oth8 b o (norec7 b o q hn) q⟩
  unfold leaving
  refine wpAny_bind (wpAny_noteFrame_againW (L := L) rfl H8.2.2.2 ?_)
  refine wpAny_landsW H8 fun h9 fl9 up9 => ?_
  obtain ⟨f1, f2, ⟨_, _, f3⟩, f4⟩ := fl9
  exact ret h9 _ e2 t ⟨f1, f2, f3, f4⟩ (up8.trans up9)
end
end Mine
end
section
open PySem PySem.W PyProof.Rows PySem.Calls PySem.Spec
namespace Mine
theorem start_Unp : True := by
  w_top off
  k_with_none
  trivial
section
variable {prog : Program} {w : World} {A : Around} {E : Value → Shared → Prop} {I : Addr} {fp wr : List Addr} {n : Nat} {P : Nat → Value → Prop} {St : Nat → Heap → Prop}
theorem draw_walk (W : Walks prog w A I fp wr n P St) : ∀ (k i : Nat) (s : Shared) (Q : List Value → Shared → Prop), i + k ≤ n → St i s.heap →
    (∀ vs h' tk, vs.length = k → (∀ j v, vs[j]? = some v → P (i + j) v) → St (i + k) h' → (∀ b o, b ∉ wr → s.heap.get? b = some o → h'.get? b = some o) → Q vs { s with heap := h', toks := tk }) → wpAny (model prog w) A (draw (.ref I) k) Q E s
  | 0, i, s, Q, _, hst, hQ => wpAny_pure (hQ [] s.heap s.toks rfl (fun j v h => by simp at h) hst fun _ _ _ e => e)
  | k + 1, i, s, Q, hi, hst, hQ => by
    show wpAny _ _ (pyNext (.ref I) >>= _) Q E s
    refine wpAny_bind (W.item i s _ E (by omega) hst fun v h' tk hv hst' hk => ?_)
    refine wpAny_bind (wpAny_holding (draw_walk W k (i + 1) _ _ (by omega) hst' fun vs h2 tk2 hl hP hst2 hk2 => wpAny_pure ?_))
    refine hQ (v :: vs) h2 tk2 (by simp [hl]) (fun j u hj => ?_) (by rw [show i + (k + 1) = i + 1 + k by omega]; exact hst2) fun b o hb e => hk2 b o hb (hk b o hb e)
    cases j with
    | zero => simp at hj; subst hj; exact hv
    | succ j => rw [show i + (j + 1) = i + 1 + j by omega]; exact hP j u (by simpa using hj)
theorem unpackItems_walk {v : Value} {s : Shared} {Q : List Value → Shared → Prop} {T : String} {r : Value} (W : Walks prog w A I fp wr n P St) (hT : s.TypeIs v T) (hlook : typeLookup (.type T) "__iter__" = pure (some r))
    (hi : ∀ Q' : Value → Shared → Prop, (∀ h', (∀ b o, s.heap.get? b = some o → h'.get? b = some o) → s.heap.get? I = none → (∀ b ∈ wr, b = I) → St 0 h' → Q' (.ref I) { s with heap := h' }) → wpAny (model prog w) A (pyIter v) Q' E s)
    (hQ : ∀ vs h' tk, vs.length = n → (∀ j v, vs[j]? = some v → P j v) → (∀ b o, s.heap.get? b = some o → h'.get? b = some o) → Q vs { s with heap := h', toks := tk }) :
    wpAny (model prog w) A (unpackItems v n none) Q E s := by
  unfold unpackItems
  refine wpAny_bind ?_
  unfold notIterableAtAll
  refine wpAny_bind (wpAny_specialOf hT hlook ?_)
  refine wpAny_pure ?_
  simp only [Bool.false_eq_true, if_false]
  refine wpAny_bind (wpAny_holding (hi _ fun h' hk hI hwr hst => ?_))
  refine wpAny_bind (wpAny_holding (draw_walk W n 0 _ _ (by omega) hst fun vs h2 tk2 hl hP hst2 hk2 => ?_))
  rw [if_neg (by omega)]
  refine wpAny_bind (wpAny_holding (W.done _ _ E (by simpa using hst2) fun h3 tk3 hk3 => ?_))
  simp only [Option.isSome_none, Bool.false_eq_true, if_false]
  have hne : ∀ b o, s.heap.get? b = some o → b ∉ wr := fun b o e q => by rw [hwr b q, hI] at e; cases e
  exact wpAny_pure (hQ vs h3 tk3 hl (fun j v hj => by simpa using hP j v hj) fun b o e => hk3 b o (hne b o e) (hk2 b o (hne b o e) (hk b o e)))
theorem unpackL {s : Shared} {env : Env} {h₀ : Heap} {L : Addr} {m : Str → Option Value} {news : List (Addr × Obj)} {elts : List Expr} {k} {pos : Pos} {a : Addr} {items : Array Value} {Q : Unit → Shared → Prop} (F : Fr h₀ L s.heap m) (N : News h₀ L s.heap news) (hl : s.heap.IsList a items)
    (hh : A.handled = none) (hn : (assignEach elts env).length = items.size) (hstar : (assignEach elts env).findIdx? (·.1) = none)
    (h : ∀ h' tk, Fr h₀ L h' m → News h₀ L h' news → wpAny (model prog w) A (assignInOrder ((assignEach elts env).map (·.2)) items.toList) Q E { s with heap := h', toks := tk }) :
    wpAny (model prog w) A (assign (.Tuple elts k pos) env (.ref a)) Q E s := by
  rw [assign_Tuple]
  refine wpAny_bind (wpAny_standAt ?_)
  unfold unpack
  rw [hstar, hn]
  have hne : a ≠ s.heap.objs.size := by obtain ⟨o, ho, _⟩ := hl; exact Nat.ne_of_lt (Heap.lt_size ho)
  refine wpAny_bind (wpAny_holding (unpackItems_walk (Walks.list hh s.heap.objs.size a hne items) hl.typeIs slot_list_iter.lookup (fun Q' hq => ?_) fun vs h' tk hlen hP hk => ?_))
  · refine wpAny_pyIter_list hl (hq _ (fun b o e => Heap.get?_push_of_some _ e) ?_ (fun b hb => List.mem_singleton.mp hb) ⟨⟨_, Heap.get?_push_size _ rfl, rfl, rfl⟩, hl.at fun o e => Heap.get?_push_of_some _ e⟩)
    cases q : s.heap.get? s.heap.objs.size with
    | none => rfl
    | some o => exact absurd (Heap.lt_size q) (Nat.lt_irrefl _)
  · have e : vs = items.toList := by
      apply List.ext_getElem?
      intro j
      cases q : vs[j]? with
      | none =>
        have : vs.length ≤ j := by simpa using q
        symm; simp; omega
      | some v => have := hP j v q; simpa using this.symm
    rw [e]
    exact h h' tk (F.keeps hk) fun p hp => ⟨hk _ _ (N p hp).1, (N p hp).2⟩
end
end Mine
end
section
open PySem PySem.W PyProof.Rows PySem.Calls PySem.Spec
namespace Mine
theorem start_Unp2 : True := by
  w_top off
  k_with_none
  trivial
section
variable {prog : Program} {w : World} {A : Around} {E : Value → Shared → Prop} {I : Addr} {fp wr : List Addr} {n : Nat} {P : Nat → Value → Prop} {St : Nat → Heap → Prop}
theorem draw_all (W : Walks prog w A I fp wr n P St) : ∀ (k i : Nat) (s : Shared) (Q : List Value → Shared → Prop), n < i + k → i ≤ n → St i s.heap →
    (∀ vs h' tk, vs.length = n - i → (∀ b o, b ∉ wr → s.heap.get? b = some o → h'.get? b = some o) → Q vs { s with heap := h', toks := tk }) → wpAny (model prog w) A (draw (.ref I) k) Q E s
  | 0, i, s, Q, h1, h2, hst, hQ => by omega
  | k + 1, i, s, Q, h1, h2, hst, hQ => by
    show wpAny _ _ (pyNext (.ref I) >>= _) Q E s
    by_cases hi : i < n
    · refine wpAny_bind (W.item i s _ E hi hst fun v h' tk hv hst' hk => ?_)
      refine wpAny_bind (wpAny_holding (draw_all W k (i + 1) _ _ (by omega) (by omega) hst' fun vs h2 tk2 hl hk2 => wpAny_pure ?_))
      exact hQ (v :: vs) h2 tk2 (by simp [hl]; omega) fun b o hb e => hk2 b o hb (hk b o hb e)
    · obtain rfl : i = n := by omega
      refine wpAny_bind (W.done _ _ E hst fun h' tk hk => ?_)
      exact wpAny_pure (hQ [] h' tk (by simp) hk)
theorem unpackItems_bad {v : Value} {s : Shared} {Q : List Value → Shared → Prop} {T : String} {r : Value} (W : Walks prog w A I fp wr n P St) (hh : A.handled = none) (hT : s.TypeIs v T) (hlook : typeLookup (.type T) "__iter__" = pure (some r)) (hn : n ≠ 2)
    (hi : ∀ Q' : Value → Shared → Prop, (∀ h', (∀ b o, s.heap.get? b = some o → h'.get? b = some o) → s.heap.get? I = none → (∀ b ∈ wr, b = I) → St 0 h' → Q' (.ref I) { s with heap := h' }) → wpAny (model prog w) A (pyIter v) Q' E s)
    (hQ : ∀ h1 h' tk e, (∀ b o, s.heap.get? b = some o → h1.get? b = some o) → Heap.NewExc h1 h' e "ValueError" → E (.ref e) { s with heap := h', toks := tk }) :
    wpAny (model prog w) A (unpackItems v 2 none) Q E s := by
  unfold unpackItems
  refine wpAny_bind ?_
  unfold notIterableAtAll
  refine wpAny_bind (wpAny_specialOf hT hlook ?_)
  refine wpAny_pure ?_
  simp only [Bool.false_eq_true, if_false]
  refine wpAny_bind (wpAny_holding (hi _ fun h' hk hI hwr hst => ?_))
  have hne : ∀ b o, s.heap.get? b = some o → b ∉ wr := fun b o e q => by rw [hwr b q, hI] at e; cases e
  by_cases hbig : 2 < n
  · refine wpAny_bind (wpAny_holding (draw_walk W 2 0 _ _ (by omega) hst fun vs h2 tk2 hl hP hst2 hk2 => ?_))
    rw [if_neg (by omega)]
    refine wpAny_bind (wpAny_holding (W.item 2 _ _ E hbig (by simpa using hst2) fun v h3 tk3 hv hst3 hk3 => ?_))
    simp only [Option.isSome_some, if_true]
    refine wpAny_bind (wpAny_rule ?_)
    refine wpAny_bind (wpAny_raiseErrorMade plainExc_ValueError hh (fun h' tk e hx => ?_) (by decide))
    exact hQ _ h' _ e (fun b o e => hk3 b o (hne b o e) (hk2 b o (hne b o e) (hk b o e))) hx
  · refine wpAny_bind (wpAny_holding (draw_all W 2 0 _ _ (by omega) (by omega) hst fun vs h2 tk2 hl hk2 => ?_))
    rw [if_pos (by omega)]
    refine wpAny_bind (wpAny_rule ?_)
    rw [hl]
    refine wpAny_bind (wpAny_raiseErrorMade plainExc_ValueError hh (fun h' tk e hx => ?_) ?_)
    · exact hQ _ h' _ e (fun b o e => hk2 b o (hne b o e) (hk b o e)) hx
    · have : n = 0 ∨ n = 1 := by omega
      rcases this with rfl | rfl <;> decide
theorem unpackL_bad {s : Shared} {env : Env} {h₀ : Heap} {L : Addr} {m : Str → Option Value} {news : List (Addr × Obj)} {e1 e2 : Expr} {k} {pos : Pos} {a : Addr} {items : Array Value} {Q : Unit → Shared → Prop} (F : Fr h₀ L s.heap m) (N : News h₀ L s.heap news) (hl : s.heap.IsList a items)
    (hh : A.handled = none) (hn : items.size ≠ 2) (hstar : (assignEach [e1, e2] env).findIdx? (·.1) = none) (hlen : (assignEach [e1, e2] env).length = 2)
    (h : ∀ h1 h' tk e, Fr h₀ L h1 m → News h₀ L h1 news → Heap.NewExc h1 h' e "ValueError" → E (.ref e) { s with heap := h', toks := tk }) :
    wpAny (model prog w) A (assign (.Tuple [e1, e2] k pos) env (.ref a)) Q E s := by
  rw [assign_Tuple]
  refine wpAny_bind (wpAny_standAt ?_)
  unfold unpack
  rw [hstar, hlen]
  have hne : a ≠ s.heap.objs.size := by obtain ⟨o, ho, _⟩ := hl; exact Nat.ne_of_lt (Heap.lt_size ho)
  refine wpAny_bind (wpAny_holding (unpackItems_bad (Walks.list hh s.heap.objs.size a hne items) hh hl.typeIs slot_list_iter.lookup hn (fun Q' hq => ?_) fun h1 h' tk e hk hx => ?_))
  · refine wpAny_pyIter_list hl (hq _ (fun b o e => Heap.get?_push_of_some _ e) ?_ (fun b hb => List.mem_singleton.mp hb) ⟨⟨_, Heap.get?_push_size _ rfl, rfl, rfl⟩, hl.at fun o e => Heap.get?_push_of_some _ e⟩)
    cases q : s.heap.get? s.heap.objs.size with
    | none => rfl
    | some o => exact absurd (Heap.lt_size q) (Nat.lt_irrefl _)
  · exact h h1 h' tk e (F.keeps hk) (fun p hp => ⟨hk _ _ (N p hp).1, (N p hp).2⟩) hx
end
end Mine
end
section
open PySem PySem.W PyProof.Rows PySem.Calls PySem.Spec
namespace Mine
theorem start_Rf2 : True := by
  w_top off
  k_with_none
  trivial
section
variable {prog : Program} {w : World} {A : Around} {E Q : Value → Shared → Prop} {s : Shared} {K : Frag} {p : Program} {loose : List Str} {mean : ExcName → Option Value} {mg mb : Str → Option Value}
    {f : Addr} {oc dV kV doc pm cdv ct : Value} {od an : Option Addr} {name qual : Str} {params : Arguments} {body : List Stmt} {scope : Scope} {osl : Array (Option Value)} {vals : List Value} {binds : List (Str × Value)}
/-- entry of a def over the heap as it stands, the def's errors handed on -/
theorem entE (X : K.In s.heap) (T : Top p loose mean mg mb s.heap)
    (ho : K.lookup f = some ⟨oc, od, .func (fnOf name qual params body scope dV kV doc pm an cdv ct), osl⟩) (hcd : codeIn K cdv qual = true) (hroom : A.depth < recursionLimit)
    (hbind : bindArgs (fnOf name qual params body scope dV kV doc pm an cdv ct) ⟨vals, []⟩ = pure binds) (hloc : (binds.all fun x => decide (scope.names.lookup x.1 = some .local)) = true)
    (hco : scope.isCoroutine = false) (hgen : scope.isGenerator = false) (hk : scope.kind = .function) (hcell : ∀ x ∈ scope.names, x.2 ≠ .cell)
    (h : ∀ L h₁, s.heap.objs.size = L → Fr s.heap L h₁ (fun y => binds.reverse.lookup y) →
      wpAny (model prog w) (A.deeper (envOf qual scope L f cdv)) (execs body (envOf qual scope L f cdv)) (fun fl s' => Q (match fl with | .ret v => v | _ => .none) s')
        (fun e s' => wpAny (model prog w) (A.deeper (envOf qual scope L f cdv)) (leaving (envOf qual scope L f cdv) e) (fun _ s'' => E e s'') (fun e' s'' => E e' s'') s') { s with heap := h₁, toks := s.toks + binds.length }) :
    wpAny (model prog w) A (call (.ref f) vals) Q E s := by
  refine wpAny_call (codeAny_call_def (fd := fnOf name qual params body scope dV kV doc pm an cdv ct) (body := body) (binds := binds) hroom (X _ _ ho) rfl T.nolimit (codeRec_of X hcd) rfl (BindsTo.of_eq hbind) hcell (locs hloc) (fun h₁ hns hk₁ => ?_) hco hgen hk)
  exact h s.heap.objs.size h₁ rfl ⟨hns, hk₁, Nat.le_refl _⟩
end
noncomputable def IsSeq (h : Heap) (a : Addr) (items : Array Value) : Prop := h.IsList a items ∨ IsTup h a items
theorem IsSeq.at {h h' : Heap} {a : Addr} {items : Array Value} (x : IsSeq h a items) (k : ∀ b o, h.get? b = some o → h'.get? b = some o) : IsSeq h' a items :=
  x.elim (fun y => .inl (y.at fun o e => k _ _ e)) fun y => .inr (y.keeps k)
section
variable {prog : Program} {w : World} {A : Around} {E : Value → Shared → Prop}
theorem unpackS_bad {s : Shared} {env : Env} {h₀ : Heap} {L : Addr} {m : Str → Option Value} {news : List (Addr × Obj)} {e1 e2 : Expr} {k} {pos : Pos} {a : Addr} {items : Array Value} {Q : Unit → Shared → Prop} (F : Fr h₀ L s.heap m) (N : News h₀ L s.heap news) (hl : IsSeq s.heap a items)
    (hh : A.handled = none) (hn : items.size ≠ 2) (hstar : (assignEach [e1, e2] env).findIdx? (·.1) = none) (hlen : (assignEach [e1, e2] env).length = 2)
    (h : ∀ h1 h' tk e, Fr h₀ L h1 m → News h₀ L h1 news → Heap.NewExc h1 h' e "ValueError" → E (.ref e) { s with heap := h', toks := tk }) :
    wpAny (model prog w) A (assign (.Tuple [e1, e2] k pos) env (.ref a)) Q E s := by
  rcases hl with hl | hl
  · exact unpackL_bad F N hl hh hn hstar hlen h
  rw [assign_Tuple]
  refine wpAny_bind (wpAny_standAt ?_)
  unfold unpack
  rw [hstar, hlen]
  have hne : a ≠ s.heap.objs.size := by obtain ⟨o, ho, _⟩ := hl; exact Nat.ne_of_lt (Heap.lt_size ho)
  refine wpAny_bind (wpAny_holding (unpackItems_bad (Walks.tuple hh s.heap.objs.size a hne items) hh hl.typeIs PySem.F.slot_tuple_iter.lookup hn (fun Q' hq => ?_) fun h1 h' tk e hk hx => ?_))
  · refine wpAny_pyIter_tuple hl (hq _ (fun b o e => Heap.get?_push_of_some _ e) ?_ (fun b hb => List.mem_singleton.mp hb) ⟨⟨_, Heap.get?_push_size _ rfl, rfl, rfl⟩, Heap.IsTuple.push hl _⟩)
    cases q : s.heap.get? s.heap.objs.size with
    | none => rfl
    | some o => exact absurd (Heap.lt_size q) (Nat.lt_irrefl _)
  · exact h h1 h' tk e (F.keeps hk) (fun p hp => ⟨hk _ _ (N p hp).1, (N p hp).2⟩) hx
end
theorem reg1_Rf2 : True := by
  k_with "assign Tuple" => ((k_here; (with_reducible show wpAny _ _ (assign (Expr.Tuple _ _ _) _ (Value.ref _)) _ _ _); k_dflt (apply unpackS_bad; (case F => k_asm); (case N => k_asm); (case hl => exact IsSeq.at (by assumption) (Fr.keep (by k_asm))); (case hh => assumption); (case hn => assumption); (case hstar => exact rfl); (case hlen => exact rfl)); intro _ _ _ _ _ _ _))
  trivial
set_option maxHeartbeats 4000000 in
theorem c45_badL {w : World} {p : Program} {loose : List Str} {mean : ExcName → Option Value} {mg mb : Str → Option Value} {A : Around} {outer : List Env} {E Q : Value → Shared → Prop} {s : Shared}
    {hb : Heap} {a : Nat} {vs : List Value} (hst : hb.StaysIn s.heap) (hsz : hb.objs.size ≤ s.heap.objs.size) (X : (hd.heap_39 w.params).In hb) (T : Top p loose mean mg mb hb) (hroom : A.depth < 900) (hh : A.handled = none) (hfr : A.frames = some outer) (hff : s.heap.FunFrames hb outer)
    (hl : IsSeq hb a vs.toArray) (hne : vs.toArray.size ≠ 2)
    (ret : ∀ h' tk e t, Heap.FlyingW hb outer e (.type "TypeError") (.ref t) h' → s.heap.UpToSlots h' → E (.ref e) { s with heap := h', toks := tk }) :
    wpAny (model PySem.Challenge.rw_sl0003_01.row.prog w) A (call (.ref 45) [.ref a]) Q E s := by
  revert X; k_fill; intro X
  refine entE (binds := [(Str.ofString "localetuple", .ref a)]) (X.keeps hst) (T.keeps hst) rfl rfl (by simp only [recursionLimit]; omega) rfl rfl rfl rfl rfl (by decide) fun L3 h3 e F3 => ?_
  have X2 := X.keeps hst
  have T2 := T.keeps hst
  have l2 := hl.at hst
  have N3 : News s.heap L3 h3 [] := News.nil
  change wpAny _ _ _ _ _ _
  k_fold
  k_steps
  rename Fr _ _ _ _ => F9
  rename Heap.NewExc _ _ _ _ => hx9
  have k9 := F9.keep
  have hL9 : hb.get? L3 = none := by
    cases q : hb.get? L3 with
    | none => rfl
    | some o => have := Heap.lt_size (hst _ _ q); rw [e] at this; exact absurd this (Nat.lt_irrefl _)
  refine refuse_chain (outer := outer) hfr (hff.of_keeps fun b o q _ => ⟨o, k9 b o q, rfl⟩) (fun b o q => k9 b o (hst b o q)) hL9 (by rw [← e]; exact hsz) F9 X T hx9 (by k_is) (by k_is) rfl rfl rfl fun h' tk' e2 t fl up => ?_
  exact ret h' tk' e2 t fl ((Heap.UpToSlots.of_keeps k9).trans up)
noncomputable def Stuck3 (P : Prop) : Prop := P
theorem stuck3 {P : Prop} (h : Stuck3 P) : P := h
theorem sub_tt : isSubtype (.type "TypeError") (.type "TypeError") = pure true := by rw [isSubtype_type]; kernel_rfl
section
variable {prog : Program} {w : World} {A : Around} {E : Value → Shared → Prop} {s' : Shared} {K : Frag} {p : Program} {loose : List Str} {mean : ExcName → Option Value} {mg mb : Str → Option Value}
  {base hs h1 : Heap} {outer : List Env} {L a e t : Nat} {m : Str → Option Value} {name : Str} {scope : Scope} {cd : Value} {Q : Flow → Shared → Prop} {p1 p2 p3 p4 : Pos} {kk : Nat}
theorem caught_chain (hfr : A.frames = some outer) (hab : base.objs.size ≤ L) (F : Fr hs L h1 m) (X : K.In base) (T : Top p loose mean mg mb base)
    (fl : Heap.FlyingW base (envOf name scope L a cd :: outer) e (.type "TypeError") (.ref t) s'.heap) (up : h1.UpToSlots s'.heap) (ex1 : nsIn K mainGlobals (Str.ofString "TypeError") = some none)
    (hk : scope.kind = .function) (k1 : (envOf name scope L a cd).kindOf (Str.ofString "TypeError") = some .globalImplicit)
    (ret : ∀ h' tk, base.StaysIn h' → h1.UpToSlots h' → Q (.ret (.bool true)) { s' with heap := h', toks := tk }) :
    wpAny (model prog w) (A.deeper (envOf name scope L a cd)) (noteFrame (.ref e) (envOf name scope L a cd)) (fun _ s₂ => wpAny (model prog w) (A.deeper (envOf name scope L a cd)) (setFlight (.ref e) none) (fun _ s₃ =>
      wpAny (model prog w) (A.deeper (envOf name scope L a cd)) (handleBy (.ref e) (envOf name scope L a cd) [.ExceptHandler (some (.Name (Str.ofString "TypeError") p1)) none [.Return (some (.Constant (.bool true) kk p2)) p3] p4]) Q E s₃) E s₂) E s' := by
  refine wpAny_looks_onW (Around.frames_deeper hfr) rfl fl fun h2 hh2 up2 => ?_
  refine wpAny_landsW hh2 fun h3 fl3 up3 => ?_
  have up13 := (up.trans up2).trans up3
  have F3 : Fr base L h3 m := ⟨up13.ns F.ns, fl3.1, hab⟩
  obtain ⟨ob, hob, hc⟩ := fl3.there
  refine wpAny_handleBy_builtin (X := "TypeError") (T := "TypeError") (b := true) PySem.F.isExc_TypeError PySem.F.notTuple_TypeError sub_tt (name_B F3 X (topRead_of T) ex1 PyProof.Rows.Boot.«TypeError» (by decide) ⟨rfl, ⟨ob, hob, hc⟩, ?_⟩ hk k1)
  rw [if_pos rfl]
  refine lands_againW fl3 fun h4 fl4 up4 => ?_
  refine wpAny_execs_cons (wpAny_Return_some (wpAny_Constant_bool ?_))
  exact ret h4 _ fl4.1 (up13.trans up4)
end
theorem reg2_Rf2 : True := by
  k_with "call ref" => ((k_here; (with_reducible show wpAny _ _ (call (Value.ref 45) [_]) _ _ _); apply stuck3))
  trivial
set_option maxHeartbeats 4000000 in
theorem c_refused {w : World} {p : Program} {loose : List Str} {mean : ExcName → Option Value} {mg mb : Str → Option Value} {A : Around} {outer : List Env} {E Q : Value → Shared → Prop} {s : Shared}
    {hb : Heap} {a : Nat} {vs : List Value} (hst : hb.StaysIn s.heap) (hsz : hb.objs.size ≤ s.heap.objs.size) (X : (hd.heap_39 w.params).In hb) (T : Top p loose mean mg mb hb) (hroom : A.depth < 890) (hh : A.handled = none) (hfr : A.frames = some outer) (hff : s.heap.FunFrames hb outer)
    (hl : IsSeq hb a vs.toArray) (hne : vs.toArray.size ≠ 2)
    (ret : ∀ h' tk, hb.StaysIn h' → s.heap.UpToSlots h' → Q (.bool true) { s with heap := h', toks := tk }) :
    wpAny (model PySem.Challenge.rw_sl0003_01.row.prog w) A (call (.ref 145) [.ref a]) Q E s := by
  revert X; k_fill; intro X
  refine entE (binds := [(Str.ofString "pieces", .ref a)]) (X.keeps hst) (T.keeps hst) rfl rfl (by simp only [recursionLimit]; omega) rfl rfl rfl rfl rfl (by decide) fun L2 h2 e F2 => ?_
  have X2 := X.keeps hst
  have T2 := T.keeps hst
  have N2 : News s.heap L2 h2 [] := News.nil
  change wpAny _ _ _ _ _ _
  k_fold
  k_steps
  have k2 := F2.keep
  have hL2 : hb.get? L2 = none := by
    cases q : hb.get? L2 with
    | none => rfl
    | some o => have := Heap.lt_size (hst _ _ q); rw [e] at this; exact absurd this (Nat.lt_irrefl _)
  change wpAny _ _ _ _ _ _
  refine c45_badL (outer := _ :: outer) (fun b o q => k2 b o (hst b o q)) (Nat.le_trans hsz (toBs F2).size) X T (by simp only [depth_deeper]; omega) hh (Around.frames_deeper hfr) (frames_cons rfl F2 hL2 (hff.of_keeps fun b o q _ => ⟨o, k2 b o q, rfl⟩) fun _ _ q => q) hl hne fun h' tk' e2 t fl up => ?_
  exact caught_chain (outer := outer) hfr (by rw [← e]; exact hsz) F2 X T fl up (by k_is) rfl rfl fun h'' tk'' st'' up'' => ret h'' tk'' st'' ((Heap.UpToSlots.of_keeps k2).trans up'')
end Mine
end
section
open PySem PySem.W PyProof.Rows PySem.Calls PySem.Spec
namespace Mine
theorem start_Bld : True := by
  w_top off
  k_with_none
  trivial
theorem reg1_Bld : True := by
  k_with "assign Tuple" => ((k_here; (with_reducible show wpAny _ _ (assign (Expr.Tuple _ _ _) _ (Value.ref _)) _ _ _); k_dflt (first
  | (apply unpackN_; (case F => k_asm); (case N => k_asm); (case ht => assumption); (case hh => exact rfl); (case hn => exact rfl); (case hstar => exact rfl); intro hzz9 Fzz9 Nzz9)
  | (apply unpackL; (case F => k_asm); (case N => k_asm); (case hl => assumption); (case hh => exact rfl); (case hn => exact rfl); (case hstar => exact rfl); intro _ _ _ _))))
  trivial
set_option maxHeartbeats 8000000 in
theorem c_build_tss {w : World} {p : Program} {loose : List Str} {mean : ExcName → Option Value} {mg mb : Str → Option Value} {dp un : Nat} {fr : Option (List Env)} {gd : Option (List Code)} {E Q : Value → Shared → Prop} {s : Shared} {hb : Heap}
    {x y : Str} {tx ty : Tok} {a : Addr} (B : Bs hb s.heap) (X : (hd.heap_39 w.params).In hb) (T : Top p loose mean mg mb hb) (hroom : dp < 940) (I : IsTup s.heap a #[.str x tx, .str y ty]) (hx : x.length < 1000000) (hy : y.length < 1000000)
    (ret : ∀ h' tk t, (∀ b o, s.heap.get? b = some o → h'.get? b = some o) → Bs hb h' → Q (.str (x ++ Str.ofString "." ++ y) t) { s with heap := h', toks := tk }) :
    wpAny (model PySem.Challenge.rw_sl0003_01.row.prog w) (AA dp un fr gd) (call (.ref 45) [.ref a]) Q E s := by
  revert X; k_fill; intro X
  have B0 := B.size
  refine entB (hb := s.heap) (binds := [(Str.ofString "localetuple", .ref a)]) Bs.rfl (X.keeps B.stays) (T.keeps B.stays) Led.nil rfl rfl (by show dp < _; simp only [recursionLimit]; omega) rfl rfl rfl rfl rfl (by decide) fun L2 h2 e F2 N2 K2 => ?_
  have X2 := X.keeps B.stays
  have T2 := T.keeps B.stays
  have I2 := I.keeps F2.keep
  clear I X T
  change wpAny _ _ _ _ _ _
  k_fold
  k_steps
  all_goals (
    rename Fr _ _ _ _ => F9
    (try dsimp only [qk])
    exact ret _ _ _ F9.keep ⟨fun b o e => F9.keep _ _ (B.stays _ _ e), Nat.le_trans B0 (toBs F9).size⟩)
set_option maxHeartbeats 8000000 in
theorem c_build_lss {w : World} {p : Program} {loose : List Str} {mean : ExcName → Option Value} {mg mb : Str → Option Value} {dp un : Nat} {fr : Option (List Env)} {gd : Option (List Code)} {E Q : Value → Shared → Prop} {s : Shared} {hb : Heap}
    {x y : Str} {tx ty : Tok} {a : Addr} (B : Bs hb s.heap) (X : (hd.heap_39 w.params).In hb) (T : Top p loose mean mg mb hb) (hroom : dp < 940) (I : s.heap.IsList a #[.str x tx, .str y ty]) (hx : x.length < 1000000) (hy : y.length < 1000000)
    (ret : ∀ h' tk t, (∀ b o, s.heap.get? b = some o → h'.get? b = some o) → Bs hb h' → Q (.str (x ++ Str.ofString "." ++ y) t) { s with heap := h', toks := tk }) :
    wpAny (model PySem.Challenge.rw_sl0003_01.row.prog w) (AA dp un fr gd) (call (.ref 45) [.ref a]) Q E s := by
  revert X; k_fill; intro X
  have B0 := B.size
  refine entB (hb := s.heap) (binds := [(Str.ofString "localetuple", .ref a)]) Bs.rfl (X.keeps B.stays) (T.keeps B.stays) Led.nil rfl rfl (by show dp < _; simp only [recursionLimit]; omega) rfl rfl rfl rfl rfl (by decide) fun L2 h2 e F2 N2 K2 => ?_
  have X2 := X.keeps B.stays
  have T2 := T.keeps B.stays
  have I2 := (I.at fun o e => F2.keep _ _ e)
  clear I X T
  change wpAny _ _ _ _ _ _
  k_fold
  k_steps
  all_goals (
    rename Fr _ _ _ _ => F9
    (try dsimp only [qk])
    exact ret _ _ _ F9.keep ⟨fun b o e => F9.keep _ _ (B.stays _ _ e), Nat.le_trans B0 (toBs F9).size⟩)
set_option maxHeartbeats 8000000 in
theorem c_build_lns {w : World} {p : Program} {loose : List Str} {mean : ExcName → Option Value} {mg mb : Str → Option Value} {dp un : Nat} {fr : Option (List Env)} {gd : Option (List Code)} {E Q : Value → Shared → Prop} {s : Shared} {hb : Heap}
    {x y : Str} {tx ty : Tok} {a : Addr} (B : Bs hb s.heap) (X : (hd.heap_39 w.params).In hb) (T : Top p loose mean mg mb hb) (hroom : dp < 940) (I : s.heap.IsList a #[.none, .str y ty]) (hx : x.length < 1000000) (hy : y.length < 1000000)
    (ret : ∀ h' tk t, (∀ b o, s.heap.get? b = some o → h'.get? b = some o) → Bs hb h' → Q (.str (Str.ofString "C" ++ Str.ofString "." ++ y) t) { s with heap := h', toks := tk }) :
    wpAny (model PySem.Challenge.rw_sl0003_01.row.prog w) (AA dp un fr gd) (call (.ref 45) [.ref a]) Q E s := by
  revert X; k_fill; intro X
  have B0 := B.size
  refine entB (hb := s.heap) (binds := [(Str.ofString "localetuple", .ref a)]) Bs.rfl (X.keeps B.stays) (T.keeps B.stays) Led.nil rfl rfl (by show dp < _; simp only [recursionLimit]; omega) rfl rfl rfl rfl rfl (by decide) fun L2 h2 e F2 N2 K2 => ?_
  have X2 := X.keeps B.stays
  have T2 := T.keeps B.stays
  have I2 := (I.at fun o e => F2.keep _ _ e)
  clear I X T
  change wpAny _ _ _ _ _ _
  k_fold
  k_steps
  all_goals (
    rename Fr _ _ _ _ => F9
    (try dsimp only [qk])
    exact ret _ _ _ F9.keep ⟨fun b o e => F9.keep _ _ (B.stays _ _ e), Nat.le_trans B0 (toBs F9).size⟩)
set_option maxHeartbeats 8000000 in
theorem c_build_tsn {w : World} {p : Program} {loose : List Str} {mean : ExcName → Option Value} {mg mb : Str → Option Value} {dp un : Nat} {fr : Option (List Env)} {gd : Option (List Code)} {E Q : Value → Shared → Prop} {s : Shared} {hb : Heap}
    {x y : Str} {tx ty : Tok} {a : Addr} (B : Bs hb s.heap) (X : (hd.heap_39 w.params).In hb) (T : Top p loose mean mg mb hb) (hroom : dp < 940) (I : IsTup s.heap a #[.str x tx, .none]) (hx : x.length < 1000000) (hy : y.length < 1000000)
    (ret : ∀ h' tk t, (∀ b o, s.heap.get? b = some o → h'.get? b = some o) → Bs hb h' → Q (.str (x) t) { s with heap := h', toks := tk }) :
    wpAny (model PySem.Challenge.rw_sl0003_01.row.prog w) (AA dp un fr gd) (call (.ref 45) [.ref a]) Q E s := by
  revert X; k_fill; intro X
  have B0 := B.size
  refine entB (hb := s.heap) (binds := [(Str.ofString "localetuple", .ref a)]) Bs.rfl (X.keeps B.stays) (T.keeps B.stays) Led.nil rfl rfl (by show dp < _; simp only [recursionLimit]; omega) rfl rfl rfl rfl rfl (by decide) fun L2 h2 e F2 N2 K2 => ?_
  have X2 := X.keeps B.stays
  have T2 := T.keeps B.stays
  have I2 := I.keeps F2.keep
  clear I X T
  change wpAny _ _ _ _ _ _
  k_fold
  k_steps
  all_goals (
    rename Fr _ _ _ _ => F9
    (try dsimp only [qk])
    exact ret _ _ _ F9.keep ⟨fun b o e => F9.keep _ _ (B.stays _ _ e), Nat.le_trans B0 (toBs F9).size⟩)
set_option maxHeartbeats 8000000 in
theorem c_build_tnn {w : World} {p : Program} {loose : List Str} {mean : ExcName → Option Value} {mg mb : Str → Option Value} {dp un : Nat} {fr : Option (List Env)} {gd : Option (List Code)} {E Q : Value → Shared → Prop} {s : Shared} {hb : Heap}
    {x y : Str} {tx ty : Tok} {a : Addr} (B : Bs hb s.heap) (X : (hd.heap_39 w.params).In hb) (T : Top p loose mean mg mb hb) (hroom : dp < 940) (I : IsTup s.heap a #[.none, .none]) (hx : x.length < 1000000) (hy : y.length < 1000000)
    (ret : ∀ h' tk t, (∀ b o, s.heap.get? b = some o → h'.get? b = some o) → Bs hb h' → Q (.str (Str.ofString "C") t) { s with heap := h', toks := tk }) :
    wpAny (model PySem.Challenge.rw_sl0003_01.row.prog w) (AA dp un fr gd) (call (.ref 45) [.ref a]) Q E s := by
  revert X; k_fill; intro X
  have B0 := B.size
  refine entB (hb := s.heap) (binds := [(Str.ofString "localetuple", .ref a)]) Bs.rfl (X.keeps B.stays) (T.keeps B.stays) Led.nil rfl rfl (by show dp < _; simp only [recursionLimit]; omega) rfl rfl rfl rfl rfl (by decide) fun L2 h2 e F2 N2 K2 => ?_
  have X2 := X.keeps B.stays
  have T2 := T.keeps B.stays
  have I2 := I.keeps F2.keep
  clear I X T
  change wpAny _ _ _ _ _ _
  k_fold
  k_steps
  all_goals (
    rename Fr _ _ _ _ => F9
    (try dsimp only [qk])
    exact ret _ _ _ F9.keep ⟨fun b o e => F9.keep _ _ (B.stays _ _ e), Nat.le_trans B0 (toBs F9).size⟩)
end Mine
end
section
open PySem PySem.W PyProof.Rows
namespace Mine
theorem start_Strc : True := by
  w_top off
  k_with_none
  trivial
theorem ent {prog : Program} {w : World} {A : Around} {E Q : Value → Shared → Prop} {s : Shared} {K : Frag} {p : Program} {loose : List Str} {mean : ExcName → Option Value} {mg mb : Str → Option Value}
    {f : Addr} {oc dV kV doc pm cdv ct : Value} {od an : Option Addr} {name qual : Str} {params : Arguments} {body : List Stmt} {scope : Scope} {osl : Array (Option Value)} {vals : List Value} {binds : List (Str × Value)}
    (X : K.In s.heap) (T : Top p loose mean mg mb s.heap)
    (ho : K.lookup f = some ⟨oc, od, .func (fnOf name qual params body scope dV kV doc pm an cdv ct), osl⟩) (hcd : codeIn K cdv qual = true) (hroom : A.depth < recursionLimit)
    (hbind : bindArgs (fnOf name qual params body scope dV kV doc pm an cdv ct) ⟨vals, []⟩ = pure binds) (hloc : (binds.all fun x => decide (scope.names.lookup x.1 = some .local)) = true)
    (hco : scope.isCoroutine = false) (hgen : scope.isGenerator = false) (hk : scope.kind = .function) (hcell : ∀ x ∈ scope.names, x.2 ≠ .cell)
    (h : ∀ h₀ L h₁, h₀ = s.heap → Fr h₀ L h₁ (fun y => binds.reverse.lookup y) → K.In h₀ → Top p loose mean mg mb h₀ → News h₀ L h₁ [] →
      wpAny (model prog w) (A.deeper (envOf qual scope L f cdv)) (execs body (envOf qual scope L f cdv)) (fun fl s' => Q (match fl with | .ret v => v | _ => .none) s') (fun _ _ => False) { s with heap := h₁, toks := s.toks + binds.length }) :
    wpAny (model prog w) A (call (.ref f) vals) Q E s := by
  refine wpAny_call (codeAny_call_def (fd := fnOf name qual params body scope dV kV doc pm an cdv ct) (body := body) (binds := binds) hroom (X _ _ ho) rfl T.nolimit (codeRec_of X hcd) rfl (BindsTo.of_eq hbind) hcell (locs hloc) (fun h₁ hns hk₁ => ?_) hco hgen hk)
  exact wpAny_mono (h _ s.heap.objs.size h₁ rfl ⟨hns, hk₁, Nat.le_refl _⟩ X T News.nil) (fun _ _ x => x) fun _ _ x => x.elim
noncomputable def strcoll (x y : Str) : Int := b2i (decide (y.cps.toList < x.cps.toList)) - b2i (decide (x.cps.toList < y.cps.toList))
set_option maxHeartbeats 8000000 in
theorem c_strcoll {w : World} {p : Program} {loose : List Str} {mean : ExcName → Option Value} {mg mb : Str → Option Value} {A : Around} {E Q : Value → Shared → Prop} {s : Shared}
    {x y : Str} {tx ty : Tok} (X : (hd.heap_39 w.params).In s.heap) (T : Top p loose mean mg mb s.heap) (hroom : A.depth < recursionLimit)
    (ret : ∀ t s', Keeps s s' → Q (.int (strcoll x y) t) s') :
    wpAny (model PySem.Challenge.rw_sl0003_01.row.prog w) A (call (.ref 38) [.str x tx, .str y ty]) Q E s := by
  revert X; k_fill; intro X
  refine ent (binds := [(Str.ofString "a", .str x tx), (Str.ofString "b", .str y ty)]) X T rfl rfl hroom rfl rfl rfl rfl rfl (by decide) ?_
  intro h₀ L h₁ e F' X' T' N'
  k_steps
  all_goals exact ret _ _ ⟨_, _, rfl, by subst e; exact F'.keep⟩
end Mine
end
section
open PySem PySem.W PyProof.Rows PySem.Calls PySem.Spec PySem.Builtin.Re
namespace Mine
theorem start_Re5 : True := by
  w_top off
  k_with_none
  trivial
theorem slot_pat_sub : Slot "re.Pattern" "sub" "re.Pattern.sub" :=
  .of (owner := "re.Pattern") (n := "sub") (by rw [typeLookup_type, builtinLookup_eq_fast]; kernel_rfl) (by decide +kernel) (by decide +kernel) (by decide +kernel)
    (by first | exact .inl (by decide +kernel) | exact .inr (by decide +kernel)) (by rw [isSubtype_type]; kernel_rfl)
theorem entry_pat_sub : entryFor table "re.Pattern.sub" = some Builtin.«re.Pattern.sub» := entryFor_of_fast (by kernel_rfl)
theorem args_pat_sub (a b c : Value) : argsOk "re.Pattern.sub" ⟨[a, b, c], []⟩ := by unfold argsOk; kernel_rfl
theorem look_str_call : typeLookup (.type "str") (Str.ofString "__call__") = pure none := by rw [typeLookup_type, builtinLookup_eq_fast]; kernel_rfl
theorem type_pat_sub : typeOf (.builtin "re.Pattern.sub") = pure (.type "method_descriptor") := by show builtinType _ = _; rw [builtinType_eq_fast]; kernel_rfl
theorem plainAttrs_pat : PlainAttrs "re.Pattern" :=
  ⟨⟨"object.__getattribute__", by rw [typeLookup_type, builtinLookup_eq_fast]; kernel_rfl, by decide +kernel⟩, by rw [typeLookup_type, builtinLookup_eq_fast]; kernel_rfl⟩
section
variable {prog : Program} {w : World} {A : Around} {E Q : Value → Shared → Prop} {s : Shared}
theorem c_sub {hb : Heap} {pat cd tr : Nat} {C : Array Nat} {x rp : Str} {tx : Tok} {nx : Nat → Option Nat} {stp : Nat → Nat} (hP : PatOk hb pat cd C) (hT : s.TypeIs (.ref pat) "re.Pattern") (hx : x.cps.size ≤ 1000000) (hrp : rp.length ≤ 10) (h92 : rp.cps.contains 92 = false)
    (hs : ∀ pos, pos ≤ x.cps.size → ∃ k m', k ≤ 100000000 ∧ Sre.M.runFor k (Sre.forSearch C x.cps 0 pos x.cps.size false) = m' ∧
      (match nx pos with | some e => m'.outcome = some .matched ∧ m'.start = e ∧ m'.handed = stp e | none => m'.outcome = some .failed))
    (hn : ∀ pos e, nx pos = some e → pos ≤ e ∧ e < stp e ∧ stp e ≤ x.cps.size) (B : Bs hb s.heap)
    (ret : ∀ h' tk t, Bs hb h' → Q (.str ⟨(subF x.cps.toList rp.cps.toList nx stp (x.cps.size + 1) 0).toArray⟩ t) { s with heap := h', toks := tk }) :
    wpAny (model prog w) A (call (.builtin "re.Pattern.sub") [.ref pat, .str rp tr, .str x tx]) Q E s := by
  refine wpAny_call (codeAny_call_builtin slot_pat_sub.plain entry_pat_sub (slot_pat_sub.check _ _ _ _ _ _ _ _ hT (args_pat_sub _ _ _) ?_))
  show wpAny _ _ (reNamed "re.Pattern.sub" "sub" ["repl", "string", "count"] 2 [.str rp tr, .str x tx] [] >>= _) _ _ s
  refine wpAny_bind (wpAny_pure (a := [some (Value.str rp tr), some (Value.str x tx), none]) ?_)
  refine wpAny_bind (wpAny_pure (a := (0 : Int)) ?_)
  refine wpAny_bind (wpAny_specialOf (typeIs_str _ _ _) look_str_call ?_)
  refine wpAny_bind (wpAny_pure (a := some rp) ?_)
  refine wpAny_bind (wpAny_pure (a := !rp.cps.contains 92) ?_)
  rw [h92]
  refine wpAny_bind (wpAny_pure (a := (Value.str rp tr, (0 : Int))) ?_)
  obtain ⟨o, src, fl, tf, oc, ws, nn, h1, h2, h3, h4, h5⟩ := hP.ex
  refine wpAny_bind (wpAny_holding (wholeTarget (B.stays _ _ h1) h2 (B.stays _ _ h3) h4 h5 ?_))
  refine wpAny_bind (wpAny_newObj_type ?_ (by size_fits))
  refine wpAny_pure ⟨plainId_quiet (by decide +kernel) _, ?_⟩
  have hnew : hb.get? s.heap.objs.size = none := by
    cases q : hb.get? s.heap.objs.size with
    | none => rfl
    | some o => exact absurd (Heap.lt_size (B.stays _ _ q)) (Nat.lt_irrefl _)
  refine subloop hP hx hrp hs hn (x.cps.size + 1) 0 0 _ [] [] 0 (by omega) (by omega) ⟨fun b o e => Heap.get?_push_of_some _ (B.stays _ _ e), Nat.le_trans B.size (by simp [Heap.size_push])⟩ (fun p hp => ?_) .nil (by simp [catL]) (by simp) fun h' tk t B' => ?_
  · obtain rfl := List.mem_singleton.mp hp
    exact ⟨Heap.get?_push_size _ rfl, hnew⟩
  · have := ret h' tk t B'
    simpa [catL] using this
end
end Mine
end
section
open PySem PySem.W PyProof.Rows PySem.Calls PySem.Spec PySem.Builtin.Re
namespace Mine
theorem start_Re6 : True := by
  w_top off
  k_with_none
  trivial
noncomputable def nxA (x : Str) (pos : Nat) : Option Nat := next2 x.cps x.cps.size (x.cps.size + 1 - pos) pos
noncomputable def nxB (x : Str) (pos : Nat) : Option Nat := next1 x.cps x.cps.size (x.cps.size + 1 - pos) pos
noncomputable def crS (x : Str) : Str := ⟨(subF x.cps.toList [13, 10] (nxA x) (step2 x.cps x.cps.size) (x.cps.size + 1) 0).toArray⟩
noncomputable def doS (x : Str) : Str := ⟨(subF x.cps.toList [46, 46] (nxB x) (· + 1) (x.cps.size + 1) 0).toArray⟩
theorem next1_spec {text : Array Nat} {lim : Nat} : ∀ (n s e : Nat), next1 text lim n s = some e → e < lim ∧ s ≤ e ∧ text.getD e 0 = 46 ∧ bol text e = true
  | 0, _, _, h => by cases h
  | n + 1, s, e, h => by
    unfold next1 at h
    split at h
    · rename_i hc; cases h; exact ⟨hc.1, Nat.le_refl _, hc.2.1, hc.2.2⟩
    · split at h
      · obtain ⟨a, b, c⟩ := next1_spec n (s + 1) e h
        exact ⟨a, by omega, c⟩
      · cases h
theorem hnA (x : Str) : ∀ pos e, nxA x pos = some e → pos ≤ e ∧ e < step2 x.cps x.cps.size e ∧ step2 x.cps x.cps.size e ≤ x.cps.size := fun pos e h => by
  obtain ⟨a, b, c⟩ := next2_spec _ _ _ h
  unfold step2
  by_cases hc : x.cps.getD e 0 = 13 ∧ e + 1 < x.cps.size ∧ x.cps.getD (e + 1) 0 = 10
  · rw [if_pos hc]; exact ⟨c, by omega, by omega⟩
  · rw [if_neg hc]; exact ⟨c, by omega, by omega⟩
theorem hnB (x : Str) : ∀ pos e, nxB x pos = some e → pos ≤ e ∧ e < e + 1 ∧ e + 1 ≤ x.cps.size := fun pos e h => by
  obtain ⟨a, b, c⟩ := next1_spec _ _ _ h
  omega
section
variable {prog : Program} {w : World} {A : Around} {E Q : Value → Shared → Prop} {s : Shared}
theorem c_cr {hb : Heap} {tr : Nat} {x : Str} {tx : Tok} (hP : PatOk hb 97 96 C2) (hT : s.TypeIs (.ref 97) "re.Pattern") (hx : x.cps.size ≤ 1000000) (B : Bs hb s.heap)
    (ret : ∀ h' tk t, Bs hb h' → Q (.str (crS x) t) { s with heap := h', toks := tk }) :
    wpAny (model prog w) A (call (.builtin "re.Pattern.sub") [.ref 97, .str (Str.ofString "\r\n") tr, .str x tx]) Q E s :=
  c_sub (nx := nxA x) (stp := step2 x.cps x.cps.size) hP hT hx (by decide +kernel) (by decide +kernel) (fun pos hp => by
    obtain ⟨k, m', hk, hr, hm⟩ := search2 (text := x.cps) hp
    exact ⟨k, m', by omega, hr, hm⟩) (hnA x) B fun h' tk t B' => by
    have := ret h' tk t B'
    rw [show (Str.ofString "\r\n").cps.toList = [13, 10] from by decide +kernel]
    exact this
theorem c_do {hb : Heap} {tr : Nat} {x : Str} {tx : Tok} (hP : PatOk hb 92 91 C1) (hT : s.TypeIs (.ref 92) "re.Pattern") (hx : x.cps.size ≤ 1000000) (B : Bs hb s.heap)
    (ret : ∀ h' tk t, Bs hb h' → Q (.str (doS x) t) { s with heap := h', toks := tk }) :
    wpAny (model prog w) A (call (.builtin "re.Pattern.sub") [.ref 92, .str (Str.ofString "..") tr, .str x tx]) Q E s :=
  c_sub (nx := nxB x) (stp := (· + 1)) hP hT hx (by decide +kernel) (by decide +kernel) (fun pos hp => by
    obtain ⟨k, m', hk, hr, hm⟩ := search1 (text := x.cps) hp
    exact ⟨k, m', by omega, hr, hm⟩) (hnB x) B fun h' tk t B' => by
    have := ret h' tk t B'
    rw [show (Str.ofString "..").cps.toList = [46, 46] from by decide +kernel]
    exact this
end
noncomputable def Stuck2 (P : Prop) : Prop := P
theorem stuck2 {P : Prop} (h : Stuck2 P) : P := h
theorem reg1_Re6 : True := by
  k_with "call builtin:re.Pattern.sub" => ((k_here; (with_reducible show wpAny _ _ (call (Value.builtin _) _) _ _ _); apply stuck2))
  k_with "getMethod ref" => ((k_here; (with_reducible show wpAny _ _ (getMethod (Value.ref _) (PySem.Str.ofString "sub") _) _ _ _); k_dflt (apply getMethod_builtin; (case pa => exact plainAttrs_pat); (case slot => exact slot_pat_sub); (case hty => exact type_pat_sub); (case hT => exact ⟨_, (Fr.keep (by k_asm)) _ _ ((by assumption : Frag.In _ _) _ _ (by k_is)), rfl⟩); (case hd => exact (fun a e => by cases e; exact ⟨_, (Fr.keep (by k_asm)) _ _ ((by assumption : Frag.In _ _) _ _ (by k_is)), rfl⟩)))))
  trivial
set_option maxHeartbeats 8000000 in
theorem c_quote {w : World} {p : Program} {loose : List Str} {mean : ExcName → Option Value} {mg mb : Str → Option Value} {dp un : Nat} {fr : Option (List Env)} {gd : Option (List Code)} {E Q : Value → Shared → Prop} {s : Shared} {hb : Heap}
    {x : Str} {tx : Tok} (B : Bs hb s.heap) (X : (hd.heap_39 w.params).In hb) (T : Top p loose mean mg mb hb) (hroom : dp < 940) (hx : x.cps.size ≤ 1000000) (hx2 : (crS x).cps.size ≤ 1000000)
    (ret : ∀ h' tk t, Bs hb h' → Q (.str (doS (crS x)) t) { s with heap := h', toks := tk }) :
    wpAny (model PySem.Challenge.rw_sl0003_01.row.prog w) (AA dp un fr gd) (call (.ref 104) [.str x tx]) Q E s := by
  revert X; k_fill; intro X
  have P1 : PatOk hb 92 91 C1 := ⟨_, _, _, _, _, _, _, X 92 _ rfl, rfl, X 91 _ rfl, rfl, by decide +kernel⟩
  have P2 : PatOk hb 97 96 C2 := ⟨_, _, _, _, _, _, _, X 97 _ rfl, rfl, X 96 _ rfl, rfl, by decide +kernel⟩
  refine entB (binds := [(Str.ofString "data", .str x tx)]) B X T Led.nil rfl rfl (by show dp < _; simp only [recursionLimit]; omega) rfl rfl rfl rfl rfl (by decide) fun L2 h2 e F2 N2 K2 => ?_
  change wpAny _ _ _ _ _ _
  k_fold
  k_steps
  have S := F2.keep
  change wpAny _ _ _ _ _ _
  refine c_cr (hb := h2) (P2.keeps S) ⟨_, S _ _ (X 97 _ rfl), rfl⟩ hx Bs.rfl fun h3 tk3 t3 B3 => ?_
  have F3 := F2.keeps B3.stays
  clear F2 N2
  have N3 : News hb L2 h3 [] := News.nil
  k_steps
  have S3 := F3.keep
  change wpAny _ _ _ _ _ _
  refine c_do (hb := h3) (P1.keeps S3) ⟨_, S3 _ _ (X 92 _ rfl), rfl⟩ hx2 Bs.rfl fun h5 tk5 t5 B5 => ?_
  have F5 := F3.keeps B5.stays
  clear F3 N3
  have N5 : News hb L2 h5 [] := News.nil
  k_steps
  exact ret _ _ _ (toBs F5)
end Mine
end
section
open PySem PySem.W PyProof.Rows PySem.Calls PySem.Spec
namespace Mine
theorem start_Pg2 : True := by
  w_top off
  k_with_none
  trivial
noncomputable abbrev pgTgt : PySem.Expr := pk (tgt (kid (topS 15) 1)) _ (by conv => rhs; whnf; rfl)
noncomputable abbrev pgScope : Scope := pk (scp (topS 15)) _ (by conv => rhs; whnf; rfl)
noncomputable abbrev pgEnv (L : Nat) : Env := envOf (Str.ofString "_law_page") pgScope L 128 (.ref 127)
noncomputable abbrev pgBody : List Stmt := pk (kids (kid (topS 15) 1)) _ (by conv => rhs; whnf; rfl)
theorem sv_len {vs : List Value} {xs : List Str} (h : SV vs xs) : vs.length = xs.length := h.length
theorem item_sv {prog : Program} {w : World} {A : Around} {E : Value → Shared → Prop} {s : Shared} {value slice : PySem.Expr} {l : Addr} {vs : List Value} {xs : List Str} {k : Int} {u : Tok} {x : Str} {Q : Value → Shared → Prop}
    (hl : s.heap.IsList l vs.toArray) (sv : SV vs xs) (h0 : 0 ≤ k) (hhi : k < 2 ^ 63) (hx : xs[k.toNat]? = some x) (h : ∀ t, Q (.str x t) s)
    (hs : subscripted slice false (.ref l) (.int k u) = operate [.ref l, .int k u] (getItem (.ref l) (.int k u)) := by with_unfolding_all rfl) :
    wpAny (model prog w) A (subscriptTail value slice (.ref l) (.int k u)) Q E s := by
  obtain ⟨t, ht⟩ := sv.get _ _ hx
  exact tail_any hl.typeIs slot_list_getitem.lookup (wpAny_getItem_list hl h0 hhi (by simpa using ht) (h t)) hs
theorem reg1_Pg2 : True := by
  k_with "exec For Name Call cons nil" => ((k_here; (with_reducible show wpAny _ _ (exec (Stmt.For _ _ _ _ _) _) _ _ _); apply stuck))
  k_with "pyIter ref" => ((k_here; (with_reducible show wpAny _ _ (pyIter (Value.ref _)) _ _ _); apply stuck))
  k_with "eval ListComp" => ((k_here; (with_reducible show wpAny _ _ (eval (Expr.ListComp _ _ _ _) _) _ _ _); apply stuck))
  k_with "subscriptTail" => ((k_here; (with_reducible show wpAny _ _ (subscriptTail _ _ (Value.ref _) (Value.int _ _)) _ _ _); k_dflt (apply item_sv; (case hl => exact News.isList (by k_asm) (by k_mem)); (case sv => assumption); (case h0 => omega); (case hhi => omega); (case hx => assumption); (case hs => with_unfolding_all rfl)); intro _))
  k_with "subscriptTail Name Name ref int" => ((k_here; (with_reducible show wpAny _ _ (subscriptTail _ _ (Value.ref _) (Value.int _ _)) _ _ _); k_dflt (apply item_sv; (case hl => exact News.isList (by k_asm) (by k_mem)); (case sv => assumption); (case h0 => omega); (case hhi => omega); (case hx => assumption); (case hs => with_unfolding_all rfl)); intro _))
  k_with "call builtin:str.join" => ((k_here; (with_reducible show wpAny _ _ (call (Value.builtin _) [Value.str _ _, Value.ref _]) _ _ _); k_dflt (apply join_sv; (case N => k_asm); (case hm => k_mem); (case sv => assumption); (case hJ => assumption); (case hlen => assumption)); intro _ _))
  trivial
noncomputable def pageS (gap number : Nat) (xs : List Str) : List Nat := pageL gap number 0 (xs.map (·.cps.toList))
section
variable {w : World} {p : Program} {loose : List Str} {mean : ExcName → Option Value} {mg mb : Str → Option Value} {dp un : Nat} {fr : Option (List Env)} {gd : Option (List Code)} {s : Shared}
    {hb : Heap} {a kr : Nat} {vs : List Value} {xs : List Str} {gap number : Nat} {tg tn : Nat} {L2 : Nat} {Q : Flow → Shared → Prop}
noncomputable def PInv (s : Shared) (hb : Heap) (L2 a kr : Nat) (vs : List Value) (xs : List Str) (gap number tg tn : Nat) (it : Value) (n : Nat) (s' : Shared) : Prop :=
  ∃ (I : Nat) (h : Heap) (tk : Nat) (i : Nat) (pg : Str) (tp : Nat) (cb : Option Value) (ch : Option Value), it = .ref I ∧ a ≠ I ∧ s' = { s with heap := h, toks := tk } ∧
    Fr hb L2 h (mP a gap number tg tn pg tp cb ch) ∧
    News hb L2 h [(I, rIt i ((xs.length : Int) - i)), (a, listOf vs.toArray kr)] ∧ pg.length ≤ 10000 * i ∧ i ≤ xs.length ∧ pg.cps.toList ++ pageL gap number i ((xs.drop i).map (·.cps.toList)) = pageS gap number xs ∧ n = xs.length - i
theorem frP0 {h : Heap} {tp : Nat} {pg : Str} (F : Fr hb L2 h (fun y => if y = Str.ofString "page" then some (.str pg tp) else List.lookup y [(Str.ofString "row", Value.ref a), (Str.ofString "gap", .int gap tg), (Str.ofString "number", .int number tn)].reverse)) :
    Fr hb L2 h (mP a gap number tg tn pg tp none none) := Fr.congr F (by
  intro y
  by_cases h1 : y = Str.ofString "page"
  · subst h1; rfl
  · by_cases h2 : y = Str.ofString "bare"
    · subst h2; rfl
    · by_cases h3 : y = Str.ofString "k"
      · subst h3; rfl
      · simp [mP, h1, h2, h3])
theorem endP {h : Heap} {tk I i tp tp2 : Nat} {pg V x : Str} {c1 cb ch : Option Value} {B K : Value} {news : List (Addr × Obj)} (haI : a ≠ I) (hlt : i < xs.length) (hx : xs[i]? = some x)
    (htot : pg.cps.toList ++ pageL gap number i ((xs.drop i).map (·.cps.toList)) = pageS gap number xs)
    (F : Fr hb L2 h (fun y => if y = Str.ofString "page" then some (.str V tp2) else if y = Str.ofString "page" then c1 else if y = Str.ofString "bare" then some B else if y = Str.ofString "k" then some K else mP a gap number tg tn pg tp cb ch y))
    (N : News hb L2 h news) (m1 : (I, rIt ((i : Int) + 1) ((xs.length : Int) - i - 1)) ∈ news) (m2 : (a, listOf vs.toArray kr) ∈ news)
    (hV : V.cps.toList = pg.cps.toList ++ rowL gap number i x.cps.toList) (hl : V.length ≤ 10000 * i + 10000) :
    TurnEnd (PInv s hb L2 a kr vs xs gap number tg tn (.ref I)) Q (xs.length - i) .next { s with heap := h, toks := tk } := by
  have hdrop : xs.drop i = x :: xs.drop (i + 1) := by
    rw [List.drop_eq_getElem_cons hlt]
    rw [List.getElem?_eq_getElem hlt] at hx
    rw [Option.some.inj hx]
  rw [hdrop] at htot
  have e2 : (xs.length : Int) - ((i + 1 : Nat) : Int) = (xs.length : Int) - i - 1 := by omega
  have e1' : ((i + 1 : Nat) : Int) = (i : Int) + 1 := by omega
  exact ⟨xs.length - (i + 1), by omega, I, h, tk, i + 1, V, tp2, some B, some K, rfl, haI, rfl, frP F, by rw [e2, e1']; exact News.sub N (List.forall_mem_cons.mpr ⟨m1, List.forall_mem_cons.mpr ⟨m2, List.forall_mem_nil _⟩⟩), by omega, by omega,
    by rw [hV, ← htot, List.map_cons, pageL, List.append_assoc], rfl⟩
set_option maxHeartbeats 8000000 in
theorem page_body {h' : Heap} {tk t I i tp : Nat} {pg x : Str} {cb ch : Option Value} (X : (hd.heap_39 w.params).In hb) (T : Top p loose mean mg mb hb) (hroom : dp < 900)
    (sv : SV vs xs) (hn : xs.length ≤ 50) (hxl : x.length ≤ 1000) (hgap : gap ≤ 100) (hnum : number ≤ 100000000) (haI : a ≠ I) (hlt : i < xs.length) (hx : xs[i]? = some x) (hpl : pg.length ≤ 10000 * i)
    (htot : pg.cps.toList ++ pageL gap number i ((xs.drop i).map (·.cps.toList)) = pageS gap number xs)
    (F' : Fr hb L2 h' (mP a gap number tg tn pg tp cb ch)) (N' : News hb L2 h' [(I, rIt ((i : Int) + 1) ((xs.length : Int) - i - 1)), (a, listOf vs.toArray kr)]) :
    wpAny (model PySem.Challenge.rw_sl0003_01.row.prog w) (AA dp un fr gd) (assign pgTgt (pgEnv L2) (.int i t)) (fun _ s₂ =>
      wpAny (model PySem.Challenge.rw_sl0003_01.row.prog w) (AA dp un fr gd) (execs pgBody (pgEnv L2)) (TurnEnd (PInv s hb L2 a kr vs xs gap number tg tn (.ref I)) Q (xs.length - i)) (fun _ _ => False) s₂) (fun _ _ => False) { s with heap := h', toks := tk } := by
  revert X; k_fill; intro X
  have hi0 : (0 : Int) ≤ (i : Int) := by omega
  have hi1 : (i : Int) < xs.length := by omega
  have hx2 : xs[(i : Int).toNat]? = some x := hx
  have h3 : x.cps.size = x.length := rfl
  k_steps
  change wpAny _ _ _ _ _ _
  rename Fr _ _ _ _ => F4
  rename News _ _ _ _ => N4
  refine comp_text (wd := x) (cl := []) bareC F4 N4 rfl rfl (by decide) rfl (by decide) rfl ?_ ?_ ?_ ?_
  · omega
  · k_steps
    rename Fr _ _ _ _ => F9
    rename News _ _ _ _ => N9
    exact ⟨_, _, _, rfl, rfl, F9, N9⟩
  · intro c t' C s₃ m₃ E' hc hn3 hm3 hk3
    have hq := in_dq (c := c)
    by_cases hc2 : c = 46 ∨ c = 34
    · rw [decide_eq_true hc2] at hq
      have hb : bareC c = ⟨#[c]⟩ := if_pos hc2
      rw [hb]
      k_steps
      exact ⟨⟨_, rfl⟩, ⟨_, _, rfl, fun _ _ e => e⟩⟩
    · rw [decide_eq_false hc2] at hq
      have hb : bareC c = ⟨#[92, c]⟩ := if_neg hc2
      rw [hb, ← bs_cat]
      k_steps
      exact ⟨⟨_, rfl⟩, ⟨_, _, rfl, fun _ _ e => e⟩⟩
  · intro h6 tk6 D ys kD F6 N6 sv6 d6
    have h1 := bareW_len x.cps.toList
    simp only [bareW, Array.length_toList] at h1
    have z6 : (catL (x.cps.toList.map bareC)).length ≤ 16777216 := by omega
    obtain ⟨J, hJ⟩ : ∃ J : Str, J = ⟨(catL (x.cps.toList.map bareC)).toArray⟩ := ⟨_, rfl⟩
    have hJc : J.cps.toList = bareW x.cps.toList := by rw [hJ]; rfl
    have hJl : J.length ≤ 2000 := by rw [hJ]; show (catL (x.cps.toList.map bareC)).toArray.size ≤ _; rw [List.size_toArray]; omega
    have hpg : pg.length ≤ 500000 := by omega
    have hIa : I ≠ a := Ne.symm haI
    have dI : D ≠ I := fun q => d6 _ (.head _) q.symm
    have dA : D ≠ a := fun q => d6 _ (.tail _ (.head _)) q.symm
    have l1 : (Str.ofString "\n").length = 1 := by decide +kernel
    have l2 : (Str.ofString "\x0d").length = 1 := by decide +kernel
    have l3 : (Str.ofString "\x0d\n").length = 2 := by decide +kernel
    have l4 : (Str.ofString "\"").length = 1 := by decide +kernel
    clear F4 N4 d6 h1
    k_steps
    · rename Fr _ _ _ _ => F9
      rename News _ _ _ _ => N9
      rename (List.any _ _ = _) => hany
      rename (Int.fmod _ 3 = _) => hq3
      exact endP haI hlt hx htot F9 N9 (by k_mem) (by k_mem) (row_b hJc hany (e0 hq3)) (by omega)
    · rename Fr _ _ _ _ => F9
      rename News _ _ _ _ => N9
      rename (List.any _ _ = _) => hany
      rename (Int.fmod _ 3 = _) => hq3
      exact endP haI hlt hx htot F9 N9 (by k_mem) (by k_mem) (row_b hJc hany (e1 hq3)) (by omega)
    · rename Fr _ _ _ _ => F9
      rename News _ _ _ _ => N9
      rename (List.any _ _ = _) => hany
      rename (Int.fmod _ 3 = _) => hq3
      exact endP haI hlt hx htot F9 N9 (by k_mem) (by k_mem) (row_b hJc hany (e2 hq3)) (by omega)
    · change wpAny _ _ _ _ _ _
      rename Fr _ _ _ _ => F7
      rename News _ _ _ _ => N7
      rename (List.any _ _ = _) => hany
      rename (Int.fmod _ 4 = 0) => hq4
      refine comp_text (wd := x) (cl := []) quoC F7 N7 rfl rfl (by decide) rfl (by decide) rfl ?_ ?_ ?_ ?_
      · omega
      · k_steps
        rename Fr _ _ _ _ => F9
        rename News _ _ _ _ => N9
        exact ⟨_, _, _, rfl, rfl, F9, N9⟩
      · intro c t' C s₃ m₃ E' hc hn3 hm3 hk3
        have hq := in_qb (c := c)
        by_cases hc2 : c = 34 ∨ c = 92
        · rw [decide_eq_true hc2] at hq
          have hb : quoC c = ⟨#[92, c]⟩ := if_pos hc2
          rw [hb, ← bs_cat]
          k_steps
          exact ⟨⟨_, rfl⟩, ⟨_, _, rfl, fun _ _ e => e⟩⟩
        · rw [decide_eq_false hc2] at hq
          have hb : quoC c = ⟨#[c]⟩ := if_neg hc2
          rw [hb]
          k_steps
          exact ⟨⟨_, rfl⟩, ⟨_, _, rfl, fun _ _ e => e⟩⟩
      · intro h8 tk8 D8 ys8 kD8 F8 N8 sv8 d8
        have g1 := quoW_len x.cps.toList
        simp only [quoW, Array.length_toList] at g1
        have z8 : (catL (x.cps.toList.map quoC)).length ≤ 16777216 := by omega
        obtain ⟨K, hK⟩ : ∃ K : Str, K = ⟨(catL (x.cps.toList.map quoC)).toArray⟩ := ⟨_, rfl⟩
        have hKc : K.cps.toList = quoW x.cps.toList := by rw [hK]; rfl
        have hKl : K.length ≤ 2000 := by rw [hK]; show (catL (x.cps.toList.map quoC)).toArray.size ≤ _; rw [List.size_toArray]; omega
        clear F7 N7 d8 g1 sv6 z6
        k_steps
        · rename Fr _ _ _ _ => F9
          rename News _ _ _ _ => N9
          rename (Int.fmod _ 3 = _) => hq3
          exact endP haI hlt hx htot F9 N9 (by k_mem) (by k_mem) (row_q hKc hany hq4 (e0 hq3)) (by omega)
        · rename Fr _ _ _ _ => F9
          rename News _ _ _ _ => N9
          rename (Int.fmod _ 3 = _) => hq3
          exact endP haI hlt hx htot F9 N9 (by k_mem) (by k_mem) (row_q hKc hany hq4 (e1 hq3)) (by omega)
        · rename Fr _ _ _ _ => F9
          rename News _ _ _ _ => N9
          rename (Int.fmod _ 3 = _) => hq3
          exact endP haI hlt hx htot F9 N9 (by k_mem) (by k_mem) (row_q hKc hany hq4 (e2 hq3)) (by omega)
    · rename Fr _ _ _ _ => F9
      rename News _ _ _ _ => N9
      rename (List.any _ _ = _) => hany
      rename (Int.fmod _ 3 = _) => hq3
      rename (Int.fmod _ 4 ≠ 0) => hq4
      exact endP haI hlt hx htot F9 N9 (by k_mem) (by k_mem) (row_p hJc hany hq4 (e0 hq3)) (by omega)
    · rename Fr _ _ _ _ => F9
      rename News _ _ _ _ => N9
      rename (List.any _ _ = _) => hany
      rename (Int.fmod _ 3 = _) => hq3
      rename (Int.fmod _ 4 ≠ 0) => hq4
      exact endP haI hlt hx htot F9 N9 (by k_mem) (by k_mem) (row_p hJc hany hq4 (e1 hq3)) (by omega)
    · rename Fr _ _ _ _ => F9
      rename News _ _ _ _ => N9
      rename (List.any _ _ = _) => hany
      rename (Int.fmod _ 3 = _) => hq3
      rename (Int.fmod _ 4 ≠ 0) => hq4
      exact endP haI hlt hx htot F9 N9 (by k_mem) (by k_mem) (row_p hJc hany hq4 (e2 hq3)) (by omega)
set_option maxHeartbeats 8000000 in
theorem c_page {E Q : Value → Shared → Prop} (B : Bs hb s.heap) (X : (hd.heap_39 w.params).In hb) (T : Top p loose mean mg mb hb) (hroom : dp < 890)
    (N : Led hb s.heap [(a, listOf vs.toArray kr)]) (sv : SV vs xs) (hn : xs.length ≤ 50) (hwl : ∀ (i : Nat) x, xs[i]? = some x → x.length ≤ 1000) (hgap : gap ≤ 100) (hnum : number ≤ 100000000)
    (ret : ∀ h' tk t pg, Bs hb h' → Led hb h' [(a, listOf vs.toArray kr)] → pg.cps.toList = pageS gap number xs → pg.length ≤ 500000 → Q (.str pg t) { s with heap := h', toks := tk }) :
    wpAny (model PySem.Challenge.rw_sl0003_01.row.prog w) (AA dp un fr gd) (call (.ref 128) [.ref a, .int gap tg, .int number tn]) Q E s := by
  revert X; k_fill; intro X
  refine entB (binds := [(Str.ofString "row", .ref a), (Str.ofString "gap", .int gap tg), (Str.ofString "number", .int number tn)]) B X T N rfl rfl (by show dp < _; simp only [recursionLimit]; omega) rfl rfl rfl rfl rfl (by decide) fun L2 h2 e F2 N2 K2 => ?_
  have l0 := fun p hp => (Heap.lt_size (N p hp).1 : @LT.lt Nat _ p.1 s.heap.objs.size)
  k_lt l0
  clear N
  change wpAny _ _ _ _ _ _
  k_fold
  k_steps
  change wpAny _ _ _ _ _ _
  rename Fr _ _ _ _ => F2
  rename News _ _ _ _ => N2
  have hsl := sv.length
  refine wpAny_ForJ (I := PInv s hb L2 a kr vs xs gap number tg tn) ?_ ?_
  · have hll : vs.toArray.size = xs.length := by simpa using hsl
    k_steps
    change wpAny _ _ _ _ _ _
    rename IsRange _ _ _ _ _ _ _ _ => hr
    rename Fr _ _ _ _ => F9
    rename News _ _ _ _ => N9
    refine iter_rng F9 N9 hr (by omega) (by omega) fun I h' F' N' l1 => ?_
    k_lt l1
    exact ⟨xs.length, I, h', _, 0, Str.ofString "", _, none, none, rfl, by omega, rfl, frP0 F', by simpa using N', by rw [show (Str.ofString "").length = 0 from by decide +kernel]; omega, by omega, by
      rw [show (Str.ofString "").cps.toList = [] from by decide +kernel]; rfl, rfl⟩
  rintro it n s' ⟨I, h, tk, i, pg, tp, cb, ch, rfl, haI, rfl, F3, N3, hpl, hin, htot, rfl⟩
  clear F2 N2
  by_cases hlt : i < xs.length
  · refine next_rng F3 N3 (by intro p hp; obtain rfl := List.mem_singleton.mp hp; exact haI) (by omega) fun h' tk t F' N' => ?_
    obtain ⟨x, hx⟩ : ∃ x, xs[i]? = some x := ⟨_, List.getElem?_eq_getElem hlt⟩
    exact page_body (dp := dp + 1) X T (by omega) sv hn (hwl i x hx) hgap hnum haI hlt hx hpl htot F' N'
  · refine end_rng rfl F3 N3 (by intro p hp; obtain rfl := List.mem_singleton.mp hp; exact haI) (by omega) fun h' tk F' N' => ?_
    clear F3 N3
    refine wpAny_pure ?_
    dsimp only
    k_steps
    rename Fr _ _ _ _ => F9
    rename News _ _ _ _ => N9
    have hd0 : xs.drop i = [] := List.drop_of_length_le (by omega)
    rw [hd0] at htot
    exact ret _ _ _ _ (toBs F9) (toLed N9) (by simpa [pageL] using htot) (by omega)
end
end Mine
end
section
open PySem PySem.W PyProof.Rows PySem.Calls PySem.Spec
namespace Mine
theorem start_Cel1 : True := by
  w_top off
  k_with_none
  trivial
theorem reg1_Cel1 : True := by
  k_with "exec For Name Call cons nil" => ((k_here; (with_reducible show wpAny _ _ (exec (Stmt.For _ _ _ _ _) _) _ _ _); apply stuck))
  k_with "pyIter ref" => ((k_here; (with_reducible show wpAny _ _ (pyIter (Value.ref _)) _ _ _); apply stuck))
  trivial
set_option maxHeartbeats 4000000 in
theorem c_cells {w : World} {p : Program} {loose : List Str} {mean : ExcName → Option Value} {mg mb : Str → Option Value} {dp un : Nat} {fr : Option (List Env)} {gd : Option (List Code)} {E Q : Value → Shared → Prop} {s : Shared}
    {hb : Heap} {a c k : Nat} {vs cvs : List Value} {ns cns : List Int} (B : Bs hb s.heap) (X : (hd.heap_39 w.params).In hb) (T : Top p loose mean mg mb hb) (hroom : dp < 900)
    (N : Led hb s.heap [(c, listOf cvs.toArray k)]) (hl : hb.IsList a vs.toArray) (hi : IntsAre vs ns) (hn : ns.length ≤ 63) (hc : IntsAre cvs cns) (hc5 : cns.length = 5) (hcb : ∀ n ∈ cns, 0 ≤ n ∧ n ≤ 100)
    (ret : ∀ h' tk cvs' cns' k', Bs hb h' → Led hb h' [(c, listOf cvs'.toArray k')] → IntsAre cvs' cns' → cns'.length = 5 → (∀ n ∈ cns', 0 ≤ n ∧ n ≤ 100000000) → Q (.ref c) { s with heap := h', toks := tk }) :
    wpAny (model PySem.Challenge.rw_sl0003_01.row.prog w) (AA dp un fr gd) (call (.ref 111) [.ref a, .ref c]) Q E s := by
  revert X; k_fill; intro X
  refine entB (binds := [(Str.ofString "script", .ref a), (Str.ofString "cells", .ref c)]) B X T N rfl rfl (by show dp < _; simp only [recursionLimit]; omega) rfl rfl rfl rfl rfl (by decide) fun L2 h2 e F2 N2 K2 => ?_
  have l0 := fun p hp => (Heap.lt_size (N p hp).1 : @LT.lt Nat _ p.1 s.heap.objs.size)
  k_lt l0
  clear N
  change wpAny _ _ _ _ _ _
  k_fold
  k_steps
  change wpAny _ _ _ _ _ _
  refine wpAny_ForJ (I := fun it n s' => ∃ (I : Nat) (h : Heap) (tk : Nat) (i : Nat) (ch : Option Value) (cvs : List Value) (cns : List Int) (k : Nat), it = .ref I ∧ c ≠ I ∧ s' = { s with heap := h, toks := tk } ∧ Fr hb L2 h (fun y => if y = Str.ofString "k" then ch else List.lookup y [(Str.ofString "script", Value.ref a), (Str.ofString "cells", Value.ref c)].reverse) ∧
    News hb L2 h [(I, rIt i ((ns.length : Int) - i)), (c, listOf cvs.toArray k)] ∧ IntsAre cvs cns ∧ cns.length = 5 ∧ (∀ n ∈ cns, 0 ≤ n ∧ n ≤ 100 + 1000000 * i) ∧ i ≤ ns.length ∧ n = ns.length - i) ?_ ?_
  · k_steps
    change wpAny _ _ _ _ _ _
    rename IsRange _ _ _ _ _ _ _ _ => hr
    rename Fr _ _ _ _ => F9
    rename News _ _ _ _ => N9
    refine iter_rng F9 N9 hr (by omega) (by omega) fun I h' F' N' l1 => ?_
    k_lt l1
    exact ⟨ns.length, I, h', _, 0, none, cvs, cns, k, rfl, by omega, rfl, Fr.congr F' (by intro y; by_cases hy : y = Str.ofString "k"; (subst hy; rfl); simp [hy]), by simpa using N', hc, hc5, fun n hn => by have := hcb n hn; omega, by omega, rfl⟩
  rintro it n s' ⟨I, h, tk, i, ch, cvs2, cns2, k2, rfl, hcI, rfl, F3, N3, hc2, hc52, hcb2, hin, rfl⟩
  clear F2 N2 hc hc5 hcb
  by_cases hlt : i < ns.length
  · refine next_rng F3 N3 (by intro p hp; obtain rfl := List.mem_singleton.mp hp; exact hcI) (by omega) fun h' tk t F' N' => ?_
    clear F3 N3
    have hi0 : (0 : Int) ≤ (i : Int) := by omega
    have hi1 : (i : Int) < ns.length := by omega
    dsimp only
    k_steps
    rename Fr _ _ _ _ => F9
    rename News _ _ _ _ => N9
    have e2 : (ns.length : Int) - ((i + 1 : Nat) : Int) = (ns.length : Int) - i - 1 := by omega
    have e1 : ((i + 1 : Nat) : Int) = (i : Int) + 1 := by omega
    have hg : ∀ j, 0 ≤ cns2.getD j 0 ∧ cns2.getD j 0 ≤ 100 + 1000000 * (i : Int) := fun j => by
      rw [List.getD_eq_getElem?_getD]
      cases q : cns2[j]? with
      | none => simp; omega
      | some v => exact hcb2 v (List.mem_of_getElem? q)
    refine ⟨ns.length - (i + 1), by omega, I, _, _, i + 1, some (.int i t), _, _, k2, rfl, hcI, rfl, Fr.congr F9 (by intro y; by_cases hy : y = Str.ofString "k" <;> simp [hy]), by rw [e2, e1]; exact N9, ints_set hc2 _, by rw [List.length_set]; exact hc52, fun n hn => ?_, by omega, rfl⟩
    rcases List.mem_or_eq_of_mem_set hn with hn | hn
    · have := hcb2 n hn; omega
    · have a1 := hg ((i : Int).fmod (cns2.length : Int)).toNat
      have a2 := Int.fmod_nonneg_of_pos (ns.getD (i : Int).toNat 0) (b := 1000000) (by omega)
      have a3 := Int.fmod_lt_of_pos (ns.getD (i : Int).toNat 0) (b := 1000000) (by omega)
      omega
  · refine end_rng rfl F3 N3 (by intro p hp; obtain rfl := List.mem_singleton.mp hp; exact hcI) (by omega) fun h' tk F' N' => ?_
    clear F3 N3
    refine wpAny_pure ?_
    dsimp only
    k_steps
    rename Fr _ _ _ _ => F9
    rename News _ _ _ _ => N9
    exact ret _ _ cvs2 cns2 k2 (toBs F9) (toLed N9) hc2 hc52 (fun n hn => by have := hcb2 n hn; omega)
end Mine
end
section
open PySem PySem.W PyProof.Rows PySem.Calls PySem.Spec
namespace Mine
theorem start_Gr0 : True := by
  w_top off
  k_with_none
  trivial
section
variable {prog : Program} {w : World} {p : Program} {loose : List Str} {mean : ExcName → Option Value} {mg mb : Str → Option Value} {dp un : Nat} {fr : Option (List Env)} {gd : Option (List Code)} {E Q : Value → Shared → Prop} {s : Shared}
  {hb : Heap} {L : Nat} {m : Str → Option Value} {news : List (Addr × Obj)}
theorem fr_grow {h h' : Heap} (F : Fr hb L h m) (N : News hb L h news) (k : ∀ b o, h.get? b = some o → h'.get? b = some o) : Fr hb L h' m ∧ News hb L h' news :=
  ⟨F.keeps k, fun p hp => ⟨k _ _ (N p hp).1, (N p hp).2⟩⟩
theorem build_tss {x y : Str} {tx ty a : Nat} (X : (hd.heap_39 w.params).In hb) (T : Top p loose mean mg mb hb) (hroom : dp < 940) (F : Fr hb L s.heap m) (N : News hb L s.heap news)
    (I : IsTup s.heap a #[.str x tx, .str y ty]) (hx : x.length < 1000000) (hy : y.length < 1000000)
    (ret : ∀ h' tk t, Fr hb L h' m → News hb L h' news → Q (.str (x ++ Str.ofString "." ++ y) t) { s with heap := h', toks := tk }) :
    wpAny (model PySem.Challenge.rw_sl0003_01.row.prog w) (AA dp un fr gd) (call (.ref 45) [.ref a]) Q E s :=
  c_build_tss (hb := s.heap) Bs.rfl (X.keeps F.keep) (T.keeps F.keep) hroom I hx hy fun h' tk t k _ => ret h' tk t (fr_grow F N k).1 (fr_grow F N k).2
theorem build_lss {x y : Str} {tx ty a : Nat} (X : (hd.heap_39 w.params).In hb) (T : Top p loose mean mg mb hb) (hroom : dp < 940) (F : Fr hb L s.heap m) (N : News hb L s.heap news)
    (I : s.heap.IsList a #[.str x tx, .str y ty]) (hx : x.length < 1000000) (hy : y.length < 1000000)
    (ret : ∀ h' tk t, Fr hb L h' m → News hb L h' news → Q (.str (x ++ Str.ofString "." ++ y) t) { s with heap := h', toks := tk }) :
    wpAny (model PySem.Challenge.rw_sl0003_01.row.prog w) (AA dp un fr gd) (call (.ref 45) [.ref a]) Q E s :=
  c_build_lss (hb := s.heap) Bs.rfl (X.keeps F.keep) (T.keeps F.keep) hroom I hx hy fun h' tk t k _ => ret h' tk t (fr_grow F N k).1 (fr_grow F N k).2
theorem build_lns {y : Str} {ty a : Nat} (X : (hd.heap_39 w.params).In hb) (T : Top p loose mean mg mb hb) (hroom : dp < 940) (F : Fr hb L s.heap m) (N : News hb L s.heap news)
    (I : s.heap.IsList a #[.none, .str y ty]) (hy : y.length < 1000000)
    (ret : ∀ h' tk t, Fr hb L h' m → News hb L h' news → Q (.str (Str.ofString "C" ++ Str.ofString "." ++ y) t) { s with heap := h', toks := tk }) :
    wpAny (model PySem.Challenge.rw_sl0003_01.row.prog w) (AA dp un fr gd) (call (.ref 45) [.ref a]) Q E s :=
  c_build_lns (hb := s.heap) (x := Str.ofString "") (tx := 0) Bs.rfl (X.keeps F.keep) (T.keeps F.keep) hroom I (by decide +kernel) hy fun h' tk t k _ => ret h' tk t (fr_grow F N k).1 (fr_grow F N k).2
theorem quote_fr {x : Str} {tx : Nat} (X : (hd.heap_39 w.params).In hb) (T : Top p loose mean mg mb hb) (hroom : dp < 940) (F : Fr hb L s.heap m) (N : News hb L s.heap news) (hx : x.cps.size ≤ 1000000) (hx2 : (crS x).cps.size ≤ 1000000)
    (ret : ∀ h' tk t, Fr hb L h' m → News hb L h' news → Q (.str (doS (crS x)) t) { s with heap := h', toks := tk }) :
    wpAny (model PySem.Challenge.rw_sl0003_01.row.prog w) (AA dp un fr gd) (call (.ref 104) [.str x tx]) Q E s :=
  c_quote (hb := s.heap) Bs.rfl (X.keeps F.keep) (T.keeps F.keep) hroom hx hx2 fun h' tk t B => ret h' tk t (fr_grow F N B.stays).1 (fr_grow F N B.stays).2
theorem page_fr {a kr tg tn gap number : Nat} {vs : List Value} {xs : List Str} (X : (hd.heap_39 w.params).In hb) (T : Top p loose mean mg mb hb) (hroom : dp < 890) (F : Fr hb L s.heap m) (N : News hb L s.heap news) (hm : (a, listOf vs.toArray kr) ∈ news)
    (sv : SV vs xs) (hn : xs.length ≤ 50) (hwl : ∀ (i : Nat) x, xs[i]? = some x → x.length ≤ 1000) (hgap : gap ≤ 100) (hnum : number ≤ 100000000)
    (ret : ∀ h' tk t pg, Fr hb L h' m → News hb L h' news → pg.cps.toList = pageS gap number xs → pg.length ≤ 500000 → Q (.str pg t) { s with heap := h', toks := tk }) :
    wpAny (model PySem.Challenge.rw_sl0003_01.row.prog w) (AA dp un fr gd) (call (.ref 128) [.ref a, .int gap tg, .int number tn]) Q E s := by
  refine open_same (ns := [(a, listOf vs.toArray kr)]) F N X T (List.forall_mem_cons.mpr ⟨hm, List.forall_mem_nil _⟩) fun g B X2 T2 Ld fin => ?_
  exact c_page B X2 T2 hroom Ld sv hn hwl hgap hnum fun h' tk t pg B' N' e z => ret h' tk t pg (fin h' B' N').1 (fin h' B' N').2 e z
theorem strcoll_fr {A : Around} {x y : Str} {tx ty : Nat} (X : (hd.heap_39 w.params).In s.heap) (T : Top p loose mean mg mb s.heap) (hroom : A.depth < recursionLimit)
    (ret : ∀ t s', Keeps s s' → Q (.int (strcoll x y) t) s') : wpAny (model PySem.Challenge.rw_sl0003_01.row.prog w) A (call (.ref 38) [.str x tx, .str y ty]) Q E s :=
  c_strcoll X T hroom ret
end
end Mine
end
section
open PySem PySem.W PyProof.Rows PySem.Calls PySem.Spec
namespace Mine
theorem start_Gr1 : True := by
  w_top off
  k_with_none
  trivial
section
variable {w : World} {p : Program} {loose : List Str} {mean : ExcName → Option Value} {mg mb : Str → Option Value} {dp un : Nat} {fr : Option (List Env)} {gd : Option (List Code)} {s : Shared}
  {lx ld pb st sd fn c sg c' k1 k2 k3 k4 tl tw n5 ns np L : Nat} {ln : Int} {pm ctv : Value} {oc occ : Obj} {vs : Array Value} {t : Tok} {es5 : List DictEntry} {hb : Heap} {m : Str → Option Value}
/-- a token is read, the pushback empty: in the caller's frame -/
theorem tok_fr {E Q : Value → Shared → Prop} {r tr r' : List Nat} {chs : List Value} {own : List (Addr × Obj)} (X : (hd.heap_39 w.params).In hb) (T : Top p loose mean mg mb hb) (hroom : dp < 920)
    (F : Fr hb L s.heap m) (N : News hb L s.heap (own ++ lexLed w.params lx ld st sd fn c c' sg pb k1 k2 k3 k4 tl tw n5 ns np ln es5 pm ctv oc occ chs.reverse.toArray))
    (ho : ∀ p ∈ own, p.1 ≠ sg ∧ p.1 ≠ ld) (ok : LexOk lx ld pb st sd fn c sg c' es5 oc occ vs t)
    (hsv : SV chs (r.map sgn)) (hB : TokT r tr r') (hsz : r.length < 1000000) (hacc : tr.length < 900000)
    (ret : ∀ h' tk ta' tl' ns' chs' ln', Fr hb L h' m → News hb L h' (own ++ lexLed w.params lx ld st sd fn c c' sg pb k1 k2 k3 k4 tl' tw n5 ns' np ln' es5 pm ctv oc occ chs'.reverse.toArray) →
      SV chs' (r'.map sgn) → ln' + nl r' = ln + nl r → Q (.str ⟨tr.toArray⟩ ta') { s with heap := h', toks := tk }) :
    wpAny (model PySem.Challenge.rw_sl0003_01.row.prog w) (AA dp un fr gd) (call (.ref 73) [.ref lx]) Q E s := by
  refine open_all (ns := lexLed w.params lx ld st sd fn c c' sg pb k1 k2 k3 k4 tl tw n5 ns np ln es5 pm ctv oc occ chs.reverse.toArray) F N X T (fun p hp => List.mem_append_right _ hp) fun g B X2 T2 _ Ld fin => ?_
  refine tok_in B X2 T2 hroom Ld ok hsv hB hsz hacc fun h' tk ta' tl' ns' chs' ln' B' L' sv' hl' => ?_
  obtain ⟨F', N'⟩ := fin h' _ (own ++ lexLed w.params lx ld st sd fn c c' sg pb k1 k2 k3 k4 tl' tw n5 ns' np ln' es5 pm ctv oc occ chs'.reverse.toArray) B' L' (led_turn9 N ho)
  exact ret h' tk ta' tl' ns' chs' ln' F' N' sv' hl'
end
section
variable {prog : Program} {w : World} {A : Around} {E : Value → Shared → Prop} {s : Shared} {hb : Heap} {L : Addr} {m : Str → Option Value} {news : List (Addr × Obj)}
theorem comp_filtE {α : Type} {env : Env} {cond iter : Expr} {x : Str} {px px2 : Pos} {scope : Scope} {cl : List (Str × Addr)} {pos : Pos} {Q : Value → Shared → Prop} {vs : List Value} {cs : List α} (R : Value → α → Prop) (pz : α → Bool) (_F : Fr hb L s.heap m) (_N : News hb L s.heap news)
    (hrel : RelAll R vs cs) (hfun : ∀ v c c', R v c → R v c' → pz c = pz c') (hh : A.handled = none) (hclos : closureFor scope env = pure cl) (hcell : ∀ y ∈ scope.names, y.2 ≠ .cell) (hkind : scope.kind = .function)
    (hnames : ∀ y ∈ scope.names, y.2 = .local → scope.names.lookup y.1 = some .local) (hx : scope.names.lookup x = some .local) (hsz : vs.length ≤ 1000000)
    (hi : wpAny (model prog w) A (eval iter env) (GotRef s hb L m news vs []) E s)
    (ht : ∀ v c C s₃ m₃ E', R v c → c ∈ cs → s₃.heap.Ns C m₃ → m₃ x = some v → (∀ b o, hb.get? b = some o → s₃.heap.get? b = some o) → (∀ p ∈ news, s₃.heap.get? p.1 = some p.2) →
      wpAny (model prog w) A (isTrue cond (compEnvC scope cl C env) (eval cond (compEnvC scope cl C env))) (GotBool (pz c) s₃) E' s₃)
    (he : ∀ v c C s₃ m₃ E', R v c → s₃.heap.Ns C m₃ → m₃ x = some v → wpAny (model prog w) A (eval (.Name x px2) (compEnvC scope cl C env)) (GotSame v s₃) E' s₃)
    (h : ∀ h' tk (D : Nat) (ys : List Value) k, Fr hb L h' m → News hb L h' ((D, listOf ys.toArray k) :: news) → ys.length = (cs.filter pz).length → (∀ p ∈ news, p.1 ≠ D) → Q (.ref D) { s with heap := h', toks := tk })
    (hs : ∀ x, foldedSetIterable iter env x = pure x := by intro _; rfl) :
    wpAny (model prog w) A (eval (.ListComp (.Name x px2) [⟨.Name x px, iter, [cond], 0⟩] scope pos) env) Q E s :=
  comp_filt (news' := []) R pz hrel hfun hh hclos hcell hkind hnames hx hsz hi ht he h hs
end
end Mine
end
section
open PySem PySem.W PyProof.Rows PySem.Calls PySem.Spec
namespace Mine
theorem start_Gr2 : True := by
  w_top off
  k_with_none
  trivial
noncomputable abbrev grScope : Scope := pk (scp (topS 16)) _ (by conv => rhs; whnf; rfl)
noncomputable abbrev grEnv (L : Nat) : Env := envOfC (Str.ofString "_law_grow") grScope L 133 (.ref 132)
noncomputable abbrev grGap : Expr := pk (subE (itr (kid (topS 16) 0)) 1) _ (by conv => rhs; whnf; rfl)
noncomputable abbrev grForBody : List Stmt := pk (kids (kid (topS 16) 4)) _ (by conv => rhs; whnf; rfl)
theorem bindL_gr {L a tt tn : Nat} {text : Str} {number : Int} : bindL (grEnv L).kindOf [(Str.ofString "row", Value.ref a), (Str.ofString "text", .str text tt), (Str.ofString "number", .int number tn)] (fun _ => none) = fun y => if y = Str.ofString "number" then some (Value.int number tn) else if y = Str.ofString "row" then some (Value.ref a) else none := by
  have e1 : (grEnv L).kindOf (Str.ofString "row") = some .local := rfl
  have e2 : (grEnv L).kindOf (Str.ofString "text") = some .cell := rfl
  have e3 : (grEnv L).kindOf (Str.ofString "number") = some .local := rfl
  rw [bindL, bindL, bindL, bindL, e1, e2, e3, if_pos rfl, if_neg (by decide), if_pos rfl]
theorem nmC {M : Model} {A : Around} {E : Value → Shared → Prop} {s : Shared} {K : Frag} {env : Env} {p : Program} {loose : List Str} {mean : ExcName → Option Value} {mg mb : Str → Option Value} {x : Str} {pos : Pos} {v : Value} {Q : Value → Shared → Prop} (X : K.In s.heap) (T : Top p loose mean mg mb s.heap)
    (e : nsIn K mainGlobals x = some (some v)) (h : Q v s) (hg : env.globals = mainGlobals) (hk : env.scope.kind = .function) (hx : env.kindOf x = some .globalImplicit) (hd : (x == ("__debug__" : Str)) = false) : wpAny M A (eval (.Name x pos) env) Q E s :=
  Calls.Name_function_global hk hx (Calls.loadGlobal_global (env := env) (by rw [hg]; exact T.g) (mg_of X T.g e) h) hd
theorem nmCell {M : Model} {A : Around} {E : Value → Shared → Prop} {s : Shared} {env : Env} {x : Str} {pos : Pos} {v : Value} {Q : Value → Shared → Prop} {cA : Addr} {oc : Obj} (hk : env.scope.kind = .function) (hl : env.kindOf x = some .cell) (hcl : env.cells.lookup x = some cA)
    (hcell : s.heap.get? cA = some oc) (ho : oc.data = .cell (some v)) (h : Q v s) (hd : (x == ("__debug__" : Str)) = false := by decide) : wpAny M A (eval (.Name x pos) env) Q E s :=
  wpAny_Name (wpAny_loadName_cell hk hl hcl ⟨oc, hcell, ho⟩ h) hd
theorem reg1_Gr2 : True := by
  k_with "eval Name" => ((k_here; (with_reducible show wpAny _ _ (eval (Expr.Name (Str.ofString "_strcoll") _) _) _ _ _); k_dflt (apply nmC; (case X => assumption); (case T => assumption); (case e => k_is); (case hg => rfl); (case hk => rfl); (case hx => rfl); (case hd => decide))))
  k_with "eval Name" => ((k_here; (with_reducible show wpAny _ _ (eval (Expr.Name (Str.ofString "text") _) _) _ _ _); k_dflt (apply nmCell; (case hd => decide); (case hk => rfl); (case hl => rfl); (case hcl => rfl); (case hcell => assumption); (case ho => assumption))))
  k_with "call ref" => ((k_here; (with_reducible show wpAny _ _ (call (Value.ref 38) [_, _]) _ _ _); k_dflt (apply strcoll_fr; (case X => assumption); (case T => assumption); (case hroom => ((try simp only [depth_under_make, depth_in1, depth_deeper]); (try dsimp only); simp only [recursionLimit]; omega))); intro _ _ kpzz9; obtain ⟨hzz9, tkzz9, rfl, khzz9⟩ := kpzz9))
  k_with "subscriptTail Name Slice ref ref" => ((k_here; (with_reducible show wpAny _ _ (subscriptTail _ (PySem.Expr.Slice _ _ none _) (Value.ref _) (Value.ref _)) _ _ _); k_dflt (apply kmk_slice; (case F => k_asm); (case N => k_asm); (case hl => exact News.isList (by assumption) (by assumption)); (case pl => kmk_part); (case pu => kmk_part); (case hs => with_unfolding_all rfl); (case ht => kmk_pure); (case hz => (simp only [List.size_toArray, sizeLine]; omega))); intro _ _ _ _ _))
  trivial
section
variable {w : World} {p : Program} {loose : List Str} {mean : ExcName → Option Value} {mg mb : Str → Option Value} {dp un : Nat} {fr : Option (List Env)} {gd : Option (List Code)} {s : Shared}
    {hb : Heap} {a kr tt tn L : Nat} {vs : List Value} {xs : List Str} {text : Str} {number : Int} {oc1 : Obj} {news : List (Addr × Obj)}
noncomputable def gapP (text : Str) (c : Str) : Bool := decide (strcoll (Txt.lstripChars c (Str.ofString ".")) text < 1)
noncomputable def inner {α : Type} (l : List α) : List α := (l.drop 1).take (l.length - 2)
theorem pick_inner (vs : List Value) : slicePick vs.toArray (some 1) (some (-1)) none = (inner vs).toArray := by
  rw [kms_pick_eq]
  unfold kms_pick inner kms_lo kms_hi
  dsimp only
  by_cases h : 1 ≤ vs.length
  · have e1 : (if (1 : Int) < 0 then vs.length - (-(1 : Int)).toNat else min (1 : Int).toNat vs.length) = 1 := by simp; omega
    have e2 : (if (-1 : Int) < 0 then vs.length - (-(-1 : Int)).toNat else min (-1 : Int).toNat vs.length) = vs.length - 1 := by simp
    rw [e1, e2, show vs.length - 1 - 1 = vs.length - 2 by omega]
  · have : vs = [] := by cases vs with | nil => rfl | cons _ _ => simp at h
    subst this; rfl
theorem SV.rel {vs : List Value} {xs : List Str} (h : SV vs xs) : RelAll (fun v c => ∃ t, v = .str c t) vs xs :=
  ⟨h.length, fun j v c hv hc => by obtain ⟨t, e⟩ := h.get j c hc; rw [hv] at e; exact ⟨t, Option.some.inj e⟩⟩
theorem RelAll.inner {α : Type} {R : Value → α → Prop} {vs : List Value} {cs : List α} (h : RelAll R vs cs) : RelAll R (inner vs) (inner cs) := by
  refine ⟨by unfold Mine.inner; simp [h.1], fun j v c hv hc => ?_⟩
  unfold Mine.inner at hv hc
  rw [List.getElem?_take] at hv hc
  split at hv
  · rename_i hj
    rw [h.1] at hj
    rw [if_pos hj] at hc
    rw [List.getElem?_drop] at hv hc
    exact h.2 _ v c hv hc
  · cases hv
set_option maxHeartbeats 8000000 in
theorem grow_gap {E Q : Value → Shared → Prop} (X : (hd.heap_39 w.params).In hb) (T : Top p loose mean mg mb hb) (hroom : dp < 890)
    (F : Fr hb L s.heap (fun y => if y = Str.ofString "number" then some (Value.int number tn) else if y = Str.ofString "row" then some (Value.ref a) else none)) (N : News hb L s.heap news)
    (m1 : (a, listOf vs.toArray kr) ∈ news) (m2 : (L + 1, oc1) ∈ news) (d2 : oc1.data = .cell (some (.str text tt))) (sv : SV vs xs) (hn2 : xs.length ≤ 40) (hz : ∀ x ∈ xs, x.length ≤ 1000)
    (ret : ∀ h' tk (D : Nat) (ys : List Value) k, Fr hb L h' (fun y => if y = Str.ofString "number" then some (Value.int number tn) else if y = Str.ofString "row" then some (Value.ref a) else none) → News hb L h' ((D, listOf ys.toArray k) :: news) →
      ys.length = ((inner xs).filter (gapP text)).length → (∀ p ∈ news, p.1 ≠ D) → Q (.ref D) { s with heap := h', toks := tk }) :
    wpAny (model PySem.Challenge.rw_sl0003_01.row.prog w) (AA dp un fr gd) (eval grGap (grEnv L)) Q E s := by
  revert X; k_fill; intro X
  have hsl := sv.length
  refine comp_filtE (cl := [(Str.ofString "text", L + 1)]) (vs := inner vs) (cs := inner xs) (fun v c => ∃ t, v = .str c t) (gapP text) F N sv.rel.inner ?_ rfl rfl (by decide) rfl (by decide) rfl ?_ ?_ ?_ ?_ ret
  · rintro v c c' ⟨t1, rfl⟩ ⟨t2, e2⟩; cases e2; rfl
  · unfold inner; simp; omega
  · k_steps
    rename Fr _ _ _ _ => F9
    rename News _ _ _ _ => N9
    rw [pick_inner] at N9
    obtain ⟨D9, hD9⟩ := grabD N9
    subst hD9
    exact ⟨_, _, _, rfl, rfl, F9, News.sub N9 (fun _ q => .tail _ q), News.isList N9 (.head _), fun _ q => nomatch q⟩
  · intro v c C s₃ m₃ E' hR hcm hn3 hm3 hk3 hN3
    obtain ⟨t3, rfl⟩ := hR
    have X3 := X.keeps hk3
    have T3 := T.keeps hk3
    have hc3 := hN3 _ m2
    have hcl : c.length ≤ 1000 := hz c (List.mem_of_mem_drop (List.mem_of_mem_take hcm))
    clear X T F N
    k_steps
    subst_vars
    exact ⟨rfl, _, _, rfl, by assumption⟩
  · intro v c C s₃ m₃ E' hR hn3 hm3
    obtain ⟨t3, rfl⟩ := hR
    k_steps
    exact ⟨rfl, _, _, rfl, fun _ _ e => e⟩
end
end Mine
end
section
open PySem PySem.W PyProof.Rows PySem.Calls PySem.Spec
namespace Mine
theorem start_Gr2b : True := by
  w_top off
  k_with_none
  trivial
theorem perm10 {t lx ld st sd fn c d sg pb : Addr × Obj} : ∀ p ∈ t :: [lx, ld, st, sd, fn, c, d, sg, pb], p ∈ [pb, lx, ld, fn, st, sd, sg, c, d, t] := by
  intro p q
  cases q with
  | head => exact (.tail _ (.tail _ (.tail _ (.tail _ (.tail _ (.tail _ (.tail _ (.tail _ (.tail _ (.head _))))))))))
  | tail _ q => exact pick9 (P := fun x => x ∈ [pb, lx, ld, fn, st, sd, sg, c, d, t]) q (.tail _ (.head _)) (.tail _ (.tail _ (.head _))) (.tail _ (.tail _ (.tail _ (.tail _ (.head _))))) (.tail _ (.tail _ (.tail _ (.tail _ (.tail _ (.head _)))))) (.tail _ (.tail _ (.tail _ (.head _)))) (.tail _ (.tail _ (.tail _ (.tail _ (.tail _ (.tail _ (.tail _ (.head _)))))))) (.tail _ (.tail _ (.tail _ (.tail _ (.tail _ (.tail _ (.tail _ (.tail _ (.head _))))))))) (.tail _ (.tail _ (.tail _ (.tail _ (.tail _ (.tail _ (.head _))))))) (.head _)
section
variable {w : World} {p : Program} {loose : List Str} {mean : ExcName → Option Value} {mg mb : Str → Option Value} {dp un : Nat} {fr : Option (List Env)} {gd : Option (List Code)} {s : Shared}
    {hb : Heap} {L : Nat} {m : Str → Option Value} {tab : List (Addr × Obj)}
theorem reader_fr {E Q : Value → Shared → Prop} {own : List (Addr × Obj)} {x : Str} {tx : Tok} (X : (hd.heap_39 w.params).In hb) (T : Top p loose mean mg mb hb) (C : CodeHd hb 117 113) (hroom : dp < 800) (F : Fr hb L s.heap m) (N : News hb L s.heap (own ++ tab)) (tS : TabS tab)
    (hap : ∀ p ∈ own, ∀ q ∈ tab, p.1 ≠ q.1) (hx : x.length ≤ sizeLine) (hrr : (Builtin.Str.occurrences x (Str.ofString "\x0d\x0d") 0 x.length 1).isEmpty = true)
    (ret : ∀ h' tk (lx ld pb st sd fn c sg c' k1 k2 k3 k4 tl tw n5 nsg : Nat) (es5 : List DictEntry) (oc occ : Obj) (chs : List Value) (pm ctv : Value) (vs : Array Value) (t : Tok), Fr hb L h' m →
      News hb L h' (own ++ ((113, tabO c') :: lexLed w.params lx ld st sd fn c c' sg pb k1 k2 k3 k4 tl tw n5 nsg 0 1 es5 pm ctv oc occ chs.reverse.toArray)) →
      LexOk lx ld pb st sd fn c sg c' es5 oc occ vs t → SV chs (signs x) → (∀ p ∈ own, @LT.lt Nat _ p.1 c) → (113 < c ∧ c < sg ∧ sg < sd ∧ sd < st ∧ st < fn ∧ fn < ld ∧ ld < lx ∧ lx < pb ∧ c' < fn) → TabS [(c', occ), (113, tabO c')] → c' ≠ 113 → Q (.ref lx) { s with heap := h', toks := tk }) :
    wpAny (model PySem.Challenge.rw_sl0003_01.row.prog w) (AA dp un fr gd) (call (.ref 118) [.str x tx]) Q E s := by
  refine open_all (ns := tab) F N X T (fun p hp => List.mem_append_right _ hp) fun g B X2 T2 st2 Ld fin => ?_
  have hlt := fresh_lt N
  refine c_reader B X2 T2 (C.keeps st2) hroom Ld tS hx hrr fun h' tk lx ld pb st sd fn c sg c' k1 k2 k3 k4 tl tw n5 nsg es5 oc occ chs pm ctv vs t B' L' d1 d2 d3 d4 sv o1 o2 o3 o4 o5 o6 o7 o8 o9 o10 o11 => ?_
  obtain ⟨F', N'⟩ := fin h' _ (own ++ ((113, tabO c') :: lexLed w.params lx ld st sd fn c c' sg pb k1 k2 k3 k4 tl tw n5 nsg 0 1 es5 pm ctv oc occ chs.reverse.toArray)) B' L' (fun p hp => by
    rcases List.mem_append.mp hp with q | q
    · refine .inr ⟨List.mem_append_left _ q, fun r => ?_⟩
      obtain ⟨p2, hp2, e⟩ := List.mem_map.mp r
      exact absurd e.symm (hap p q p2 hp2)
    · exact .inl (perm10 p q))
  have lo : ∀ p ∈ own, @LT.lt Nat _ p.1 s.heap.objs.size := fun p hp => hlt p (List.mem_append_left _ hp)
  refine ret h' tk lx ld pb st sd fn c sg c' k1 k2 k3 k4 tl tw n5 nsg es5 oc occ chs pm ctv vs t F' N' ⟨d1, d2, d3, d4, ⟨?_, ?_, ?_, ?_, ?_, ?_, ?_, ?_, ?_, ?_, ?_, ?_, ?_⟩, ⟨?_, ?_, ?_, ?_, ?_, ?_, ?_, ?_⟩⟩ sv (fun p hp => ?_) (by omega) (.made d1 d2 o11) o11
  all_goals (try (show @Ne Nat _ _; omega))
  have := lo p hp
  omega
end
end Mine
end
section
open PySem PySem.W PyProof.Rows PySem.Calls PySem.Spec
namespace Mine
theorem start_Gr4m : True := by
  w_top off
  k_with_none
  trivial
noncomputable abbrev grM1 : Stmt := pk (kid (kid (kid (topS 16) 4) 2) 0) _ (by conv => rhs; whnf; rfl)
noncomputable abbrev grM2 : Stmt := pk (kid (kid (kid (topS 16) 4) 2) 1) _ (by conv => rhs; whnf; rfl)
noncomputable abbrev grM3 : Stmt := pk (kid (kid (kid (topS 16) 4) 2) 2) _ (by conv => rhs; whnf; rfl)
noncomputable abbrev grM4 : Stmt := pk (kid (kid (kid (topS 16) 4) 2) 3) _ (by conv => rhs; whnf; rfl)
noncomputable abbrev grM5 : Stmt := pk (kid (kid (kid (topS 16) 4) 2) 4) _ (by conv => rhs; whnf; rfl)
noncomputable abbrev mG (D a gap number tg tn td : Nat) (ck cw cl cr cn : Option Value) : Str → Option Value := fun y =>
  if y = Str.ofString "k" then ck else if y = Str.ofString "told" then some (.ref D) else if y = Str.ofString "dot" then some (.str (Str.ofString ".") td) else if y = Str.ofString "gap" then some (.int (gap : Nat) tg) else
  if y = Str.ofString "number" then some (.int (number : Nat) tn) else if y = Str.ofString "row" then some (.ref a) else
  if y = Str.ofString "word" then cw else if y = Str.ofString "left" then cl else if y = Str.ofString "right" then cr else if y = Str.ofString "name" then cn else none
structure Ord (D L a lx ld pb st sd fn c sg c' : Nat) : Prop where
  o1 : 113 < c ∧ a < L ∧ L + 1 + 1 < c ∧ c < sg ∧ sg < sd ∧ sd < st ∧ st < fn ∧ fn < ld ∧ ld < lx ∧ lx < pb ∧ pb < D ∧ c' < fn
noncomputable abbrev gOwn (I D kD a kr L : Nat) (rI oc1 oc2 : Obj) (vs : List Value) (ds : Array Value) (c' : Nat) : List (Addr × Obj) :=
  [(I, rI), (D, listOf ds kD), (L + 1 + 1, oc2), (L + 1, oc1), (a, listOf vs.toArray kr), (113, tabO c')]
noncomputable abbrev lexLedP (P : Params) (lx ld st sd fn c c' sg pb k1 k2 k3 k4 tl tw n5 ns np : Nat) (ln : Int) (es5 : List DictEntry) (pm ctv : Value) (oc occ : Obj) (its pbs : Array Value) : List (Addr × Obj) :=
  [(lx, instObj 83 ld), (ld, dictOf (lexEs P k1 k2 k3 k4 tl tw ln (.ref st) pb) 4), (st, instObj 83 sd), (sd, dictOf es5 n5), (fn, lamObj pm c c' ctv), (c, oc), (c', occ), (sg, listOf its ns), (pb, listOf pbs np)]
theorem item_sv2 {prog : Program} {w : World} {A : Around} {E : Value → Shared → Prop} {s : Shared} {value slice : PySem.Expr} {l : Addr} {vs : Array Value} {k : Int} {u : Tok} {x : Str} {t : Tok} {Q : Value → Shared → Prop}
    (hl : s.heap.IsList l vs) (h0 : 0 ≤ k) (hhi : k < 2 ^ 63) (hx : vs[k.toNat]? = some (.str x t)) (h : Q (.str x t) s)
    (hs : subscripted slice false (.ref l) (.int k u) = operate [.ref l, .int k u] (getItem (.ref l) (.int k u)) := by with_unfolding_all rfl) :
    wpAny (model prog w) A (subscriptTail value slice (.ref l) (.int k u)) Q E s :=
  tail_any hl.typeIs slot_list_getitem.lookup (wpAny_getItem_list hl h0 hhi hx h) hs
theorem catlen (a b : Str) : (a ++ b).length = a.length + b.length := by show (a ++ b).cps.size = _; rw [Str.cps_append, Array.size_append]; rfl
theorem reg1_Gr4m : True := by
  k_with "assign Tuple" => ((k_here; (with_reducible show wpAny _ _ (assign (Expr.Tuple _ _ _) _ (Value.ref _)) _ _ _); k_dflt (apply unpackN_; (case F => k_asm); (case N => k_asm); (case ht => exact News.isTup (by k_asm) (by news_mem)); (case hh => exact rfl); (case hn => exact rfl); (case hstar => exact rfl); intro _ _ _)))
  k_with "subscriptTail" => ((k_here; (with_reducible show wpAny _ _ (subscriptTail _ _ (Value.ref _) (Value.int _ _)) _ _ _); k_dflt (apply item_sv2; (case hl => exact News.isList (by k_asm) (by k_mem)); (case h0 => omega); (case hhi => omega); (case hx => assumption); (case hs => with_unfolding_all rfl))))
  k_with "call ref" => ((k_here; (with_reducible show wpAny _ _ (call (Value.ref 45) [Value.ref _]) _ _ _); k_dflt (first
  | (apply build_tss; (case F => k_asm); (case N => k_asm); (case X => k_asm); (case T => k_asm); (case I => exact News.isTup (by k_asm) (by news_mem)); (case hroom => ((try simp only [depth_under_make, depth_in1, depth_deeper]); (try dsimp only); omega)); (case hx => first | assumption | decide +kernel); (case hy => first | assumption | decide +kernel | omega))
  | (apply build_lss; (case F => k_asm); (case N => k_asm); (case X => k_asm); (case T => k_asm); (case I => exact News.isList (by k_asm) (by k_mem)); (case hroom => ((try simp only [depth_under_make, depth_in1, depth_deeper]); (try dsimp only); omega)); (case hx => first | assumption | decide +kernel | omega); (case hy => first | assumption | decide +kernel | omega))
  | (apply build_lns; (case F => k_asm); (case N => k_asm); (case X => k_asm); (case T => k_asm); (case I => exact News.isList (by k_asm) (by k_mem)); (case hroom => ((try simp only [depth_under_make, depth_in1, depth_deeper]); (try dsimp only); omega)); (case hy => first | assumption | decide +kernel | omega))); intro _ _ _ _ _))
  k_with "call ref" => ((k_here; (with_reducible show wpAny _ _ (call (Value.ref 80) [_, _]) _ _ _); k_dflt (apply c_push; (case F => k_asm); (case N => k_asm); (case m1 => k_mem); (case m2 => k_mem); (case hes => exact rfl); (case U => k_upd); (case X => k_asm); (case T => k_asm); (case hroom => ((try simp only [depth_under_make, depth_in1, depth_deeper]); (try dsimp only); omega)); (case a1 => omega); (case a2 => omega); (case hsz => first | decide | (simp; done))); intro _ _ _ _))
  k_with "call builtin:list.pop" => ((k_here; k_dflt (apply kl_pop; (case F => k_asm); (case N => k_asm); (case U => k_upd); (case e => exact kl_last_snoc _ _); (case hz => (simp; simp only [sizeLine]; omega))); kl_rest))
  trivial
section
variable {w : World} {p : Program} {loose : List Str} {mean : ExcName → Option Value} {mg mb : Str → Option Value} {dp un : Nat} {fr : Option (List Env)} {gd : Option (List Code)} {s : Shared}
    {hb : Heap} {L D a kr tg tn td : Nat} {vs : List Value} {gap number : Nat} {oc1 oc2 rI : Obj}
    {lx ld pb st sd fn c sg c' k1 k2 k3 k4 tl tw n5 ns np : Nat} {ln : Int} {pm ctv : Value} {oc occ : Obj} {vc : Array Value} {t : Tok} {es5 : List DictEntry}
theorem frMid {h : Heap} {ck cw cl cr cn : Option Value} {vn vl vr : Value} (F : Fr hb L h (fun y => if y = Str.ofString "name" then some vn else if y = Str.ofString "left" then some vl else if y = Str.ofString "right" then some vr else mG D a gap number tg tn td ck cw cl cr cn y)) :
    Fr hb L h (mG D a gap number tg tn td ck cw (some vl) (some vr) (some vn)) := Fr.congr F (by
  intro y
  by_cases h1 : y = Str.ofString "name"
  · subst h1; rfl
  by_cases h2 : y = Str.ofString "left"
  · subst h2; rfl
  by_cases h3 : y = Str.ofString "right"
  · subst h3; rfl
  rw [if_neg h1, if_neg h2, if_neg h3]
  simp only [mG, if_neg h1, if_neg h2, if_neg h3])
set_option maxHeartbeats 4000000 in
theorem grow_mid1 {Q : Flow → Shared → Prop} {I kD ti tr tlw : Nat} {ds0 chs : List Value} {wl wr : Str} {cw cl cr cn : Option Value} {rest : List Stmt}
    (X : (hd.heap_39 w.params).In hb) (T : Top p loose mean mg mb hb) (hroom : dp < 790) (o : Ord D L a lx ld pb st sd fn c sg c')
    (hDI : D < I) (hg : gap < 100) (hds : ds0.length = gap + 1) (hwl : ds0[gap]? = some (Value.str wl tlw)) (hzl : wl.length ≤ 10000) (hzr : wr.length ≤ 10000)
    (F : Fr hb L s.heap (mG D a gap number tg tn td (some (.int ((gap + 1 : Nat) : Int) ti)) cw cl cr cn)) (N : News hb L s.heap (gOwn I D kD a kr L rI oc1 oc2 vs (ds0 ++ [Value.str wr tr]).toArray c' ++ lexLedP w.params lx ld st sd fn c c' sg pb k1 k2 k3 k4 tl tw n5 ns np ln es5 pm ctv oc occ chs.reverse.toArray #[]))
    (ret : ∀ h' tk cl' cr' (nm : Str) tm, nm = Txt.lstripChars wl (Str.ofString ".") ++ Str.ofString "." ++ Txt.lstripChars wr (Str.ofString ".") → Fr hb L h' (mG D a gap number tg tn td (some (.int ((gap + 1 : Nat) : Int) ti)) cw (some cl') (some cr') (some (.str nm tm))) →
      News hb L h' (gOwn I D kD a kr L rI oc1 oc2 vs (ds0 ++ [Value.str wr tr]).toArray c' ++ lexLedP w.params lx ld st sd fn c c' sg pb k1 k2 k3 k4 tl tw n5 ns np ln es5 pm ctv oc occ chs.reverse.toArray #[]) →
      wpAny (model PySem.Challenge.rw_sl0003_01.row.prog w) (AA dp un fr gd) (execs rest (grEnv L)) Q (fun _ _ => False) { s with heap := h', toks := tk }) :
    wpAny (model PySem.Challenge.rw_sl0003_01.row.prog w) (AA dp un fr gd) (execs (grM1 :: grM2 :: rest) (grEnv L)) Q (fun _ _ => False) s := by
  revert X; k_fill; intro X
  obtain ⟨o1, o2, o3, o4, o5, o6, o7, o8, o9, o10, o11, o12⟩ := o.o1
  dsimp only [gOwn, lexLedP, List.cons_append, List.nil_append] at N
  have hx1 : (ds0 ++ [Value.str wr tr]).toArray[((gap : Nat) : Int).toNat]? = some (Value.str wl tlw) := by
    show (ds0 ++ [Value.str wr tr]).toArray[gap]? = _
    rw [List.getElem?_toArray, List.getElem?_append_left (by omega)]; exact hwl
  have hx2 : (ds0 ++ [Value.str wr tr]).toArray[((gap + 1 : Nat) : Int).toNat]? = some (Value.str wr tr) := by simp [hds]
  have hl1 := len_lstripChars wl (Str.ofString ".")
  have hl2 := len_lstripChars wr (Str.ofString ".")
  k_steps
  · rename Fr _ _ _ _ => F9
    rename News _ _ _ _ => N9
    rename (_ == Str.ofString "C") = true => hq
    have hq2 := eq_of_beq hq
    refine ret _ _ _ _ _ _ ?_ (frMid F9) (News.sub N9 ?_)
    · rw [hq2]; first | rfl | (congr 1; decide +kernel)
    · refine List.forall_mem_cons.mpr ⟨by k_mem, List.forall_mem_cons.mpr ⟨by k_mem, List.forall_mem_cons.mpr ⟨by k_mem, List.forall_mem_cons.mpr ⟨by k_mem, List.forall_mem_cons.mpr ⟨by k_mem, List.forall_mem_cons.mpr ⟨by k_mem, List.forall_mem_cons.mpr ⟨by k_mem, List.forall_mem_cons.mpr ⟨by k_mem, List.forall_mem_cons.mpr ⟨by k_mem, List.forall_mem_cons.mpr ⟨by k_mem, List.forall_mem_cons.mpr ⟨by k_mem, List.forall_mem_cons.mpr ⟨by k_mem, List.forall_mem_cons.mpr ⟨by k_mem, List.forall_mem_cons.mpr ⟨by k_mem, List.forall_mem_cons.mpr ⟨by k_mem, List.forall_mem_nil _⟩⟩⟩⟩⟩⟩⟩⟩⟩⟩⟩⟩⟩⟩⟩
  · rename Fr _ _ _ _ => F9
    rename News _ _ _ _ => N9
    refine ret _ _ _ _ _ _ rfl (frMid F9) (News.sub N9 ?_)
    refine List.forall_mem_cons.mpr ⟨by k_mem, List.forall_mem_cons.mpr ⟨by k_mem, List.forall_mem_cons.mpr ⟨by k_mem, List.forall_mem_cons.mpr ⟨by k_mem, List.forall_mem_cons.mpr ⟨by k_mem, List.forall_mem_cons.mpr ⟨by k_mem, List.forall_mem_cons.mpr ⟨by k_mem, List.forall_mem_cons.mpr ⟨by k_mem, List.forall_mem_cons.mpr ⟨by k_mem, List.forall_mem_cons.mpr ⟨by k_mem, List.forall_mem_cons.mpr ⟨by k_mem, List.forall_mem_cons.mpr ⟨by k_mem, List.forall_mem_cons.mpr ⟨by k_mem, List.forall_mem_cons.mpr ⟨by k_mem, List.forall_mem_cons.mpr ⟨by k_mem, List.forall_mem_nil _⟩⟩⟩⟩⟩⟩⟩⟩⟩⟩⟩⟩⟩⟩⟩
end
end Mine
end
section
open PySem PySem.W PyProof.Rows PySem.Calls PySem.Spec
namespace Mine
theorem start_ForT : True := by
  w_top off
  k_with_none
  trivial
section
variable {prog : Program} {w : World} {A : Around} {E : Value → Shared → Prop} {s : Shared} {hb : Heap} {L : Addr} {m : Str → Option Value}
noncomputable def StepT (s : Shared) (hb : Heap) (L : Addr) (J : Nat → (Str → Option Value) → List (Addr × Obj) → Prop) (Q : Flow → Shared → Prop) (j : Nat) (I2 : Addr) (oI : Obj) (f : Flow) (s3 : Shared) : Prop := match f with
  | .next | .cont => ∃ h tk m news, s3 = { s with heap := h, toks := tk } ∧ Fr hb L h m ∧ News hb L h ((I2, oI) :: news) ∧ (∀ p ∈ news, p.1 ≠ I2) ∧ J (j + 1) m news
  | .brk => Q .next s3
  | .ret v => Q (.ret v) s3
noncomputable def TupRun (prog : Program) (w : World) (A : Around) (env : Env) (target : Expr) (body : List Stmt) (s : Shared) (hb : Heap) (L : Addr) (Q : Flow → Shared → Prop) (x : Value) (s₁ : Shared) : Prop :=
  ∃ (P : Addr) (oP : Obj) (vals : List Value) (nP : Nat) (bd : Nat → Prop) (J : Nat → (Str → Option Value) → List (Addr × Obj) → Prop) (h : Heap) (tk : Nat) (m : Str → Option Value) (news : List (Addr × Obj)),
    x = .ref P ∧ s₁ = { s with heap := h, toks := tk } ∧ Fr hb L h m ∧ News hb L h news ∧ oP.cls = .type "tuple" ∧ oP.data = .seq vals.toArray nP ∧ (∀ j m news, J j m news → (P, oP) ∈ news) ∧
    (∀ I2, (∀ p ∈ news, @LT.lt Nat _ p.1 I2) → bd I2) ∧ J 0 m news ∧
    (∀ j v I2 oI h tk m news, vals[j]? = some v → J j m news → bd I2 → Fr hb L h m → News hb L h ((I2, oI) :: news) → (∀ p ∈ news, p.1 ≠ I2) →
      wpAny (model prog w) A (assign target env v) (fun _ s₂ => wpAny (model prog w) A (execs body env) (StepT s hb L J Q j I2 oI) (fun _ _ => False) s₂) (fun _ _ => False) { s with heap := h, toks := tk }) ∧
    (∀ h tk m news, J vals.length m news → Fr hb L h m → News hb L h news → Q .next { s with heap := h, toks := tk })
theorem for_tup {env : Env} {target iter : Expr} {body : List Stmt} {pos : Pos} {Q : Flow → Shared → Prop} (hh : A.handled = none)
    (hi : wpAny (model prog w) A (eval iter env) (TupRun prog w A env target body s hb L Q) (fun _ _ => False) s)
    (ht : ∀ it v, letOwnedTupleGo target it v = pure () := by intro _ _; rfl)
    (hs : ∀ x, foldedSetIterable iter env x = pure x := by intro _; rfl) :
    wpAny (model prog w) A (exec (.For target iter body [] pos) env) Q E s := by
  refine wpAny_For (wpAny_mono hi (fun x s₁ h₁ => ?_) fun _ _ e => e.elim) hs
  obtain ⟨P, oP, vals, nP, bd, J, h0, tk0, m0, news0, rfl, rfl, F0, N0, hc, hd, hJP, hb0, hJ0, step, done⟩ := h₁
  have hT0 : h0.IsTuple P vals.toArray := ⟨oP, (N0 _ (hJP _ _ _ hJ0)).1, hc, nP, hd⟩
  refine wpAny_pyIter_tuple hT0 ?_
  have lt : ∀ p ∈ news0, @LT.lt Nat _ p.1 h0.objs.size := fun p hp => Heap.lt_size (N0 p hp).1
  refine codeAny_forLoop (fun n s' => ∃ I2 oI h tk m news j, h0.objs.size = I2 ∧ s' = { s with heap := h, toks := tk } ∧ Fr hb L h m ∧ News hb L h ((I2, oI) :: news) ∧ (∀ p ∈ news, p.1 ≠ I2) ∧ bd I2 ∧ J j m news ∧ h.IsTupleIter I2 P j ∧ j ≤ vals.length ∧ n = vals.length - j) ?_ vals.length
    ⟨h0.objs.size, _, _, _, m0, news0, 0, rfl, rfl, F0.push _, N0.push F0 _, fun p hp e => by have := lt p hp; have e' : @Eq Nat p.1 h0.objs.size := e; omega, hb0 _ lt, hJ0, ⟨_, Heap.get?_push_size _ rfl, rfl, rfl⟩, Nat.zero_le _, rfl⟩ (ht _)
  rintro n s' ⟨I2, oI, h, tk, m, news, j, rfl, rfl, F, N, hne, hb', hJ, hit, hj, rfl⟩
  generalize h0.objs.size = I2 at *
  have hP := N _ (.tail _ (hJP _ _ _ hJ))
  have hT : h.IsTuple P vals.toArray := ⟨oP, hP.1, hc, nP, hd⟩
  by_cases hlt : j < vals.length
  · refine wpAny_pyNext_tuple_item hit hT (x := vals[j]) (by simp [hlt]) fun h' hit' hs' => ?_
    obtain ⟨oI', ho', _⟩ := id hit'
    obtain ⟨F', N'⟩ := ext_upd F N ho' (fun b o hb e => hs'.extBut b o hb e) hne
    refine wpAny_mono (step j _ I2 oI' h' _ m news (List.getElem?_eq_getElem hlt) hJ hb' F' N' hne) (fun _ s₂ h₂ => wpAny_mono h₂ (fun f s₃ h₃ => ?_) fun _ _ e => e.elim) fun _ _ e => e.elim
    have key : ∀ h3 tk3 m3 news3, s₃ = { s with heap := h3, toks := tk3 } → Fr hb L h3 m3 → News hb L h3 ((I2, oI') :: news3) → (∀ p ∈ news3, p.1 ≠ I2) → J (j + 1) m3 news3 → ∃ mm, mm < vals.length - j ∧ ∃ I2' oI h tk m news j', I2 = I2' ∧ s₃ = { s with heap := h, toks := tk } ∧ Fr hb L h m ∧ News hb L h ((I2', oI) :: news) ∧ (∀ p ∈ news, p.1 ≠ I2') ∧ bd I2' ∧ J j' m news ∧ h.IsTupleIter I2' P j' ∧ j' ≤ vals.length ∧ mm = vals.length - j' := fun h3 tk3 m3 news3 e F3 N3 hne3 hJ3 => by
      refine ⟨vals.length - (j + 1), by omega, I2, oI', h3, tk3, m3, news3, j + 1, rfl, e, F3, N3, hne3, hb', hJ3, ?_, hlt, rfl⟩
      obtain ⟨o2, e2, r2⟩ := hit'
      rw [ho'] at e2
      cases e2
      exact ⟨oI', (N3 _ (.head _)).1, r2⟩
    cases f with
    | next =>
      obtain ⟨h3, tk3, m3, news3, e, F3, N3, hne3, hJ3⟩ := h₃
      exact key h3 tk3 m3 news3 e F3 N3 hne3 hJ3
    | cont =>
      obtain ⟨h3, tk3, m3, news3, e, F3, N3, hne3, hJ3⟩ := h₃
      exact key h3 tk3 m3 news3 e F3 N3 hne3 hJ3
    | brk => exact h₃
    | ret v => exact h₃
  · obtain rfl : j = vals.length := by omega
    refine wpAny_pyNext_tuple_end hh hit hT (by simp) fun h' hk => ?_
    have n := N _ (.head _)
    refine wpAny_execs_nil (done h' _ m news hJ ⟨F.ns.extBut hk n.2.1.symm, fun b x e => hk _ _ (fun q => by rw [q, n.2.2] at e; cases e) (F.keep _ _ e), F.above⟩ fun p hp => ?_)
    have n2 := N p (.tail _ hp)
    exact ⟨hk _ _ (hne p hp) n2.1, n2.2⟩
end
end Mine
end
section
open PySem PySem.W PyProof.Rows PySem.Calls PySem.Spec
namespace Mine
theorem start_Gr4n : True := by
  w_top off
  k_with_none
  trivial
noncomputable abbrev grM3Tgt : PySem.Expr := pk (tgt (kid (kid (kid (topS 16) 4) 2) 2)) _ (by conv => rhs; whnf; rfl)
noncomputable abbrev grM3Body : List Stmt := pk (kids (kid (kid (kid (topS 16) 4) 2) 2)) _ (by conv => rhs; whnf; rfl)
theorem reg1_Gr4n : True := by
  k_with "pyIter ref" => ((k_here; (with_reducible show wpAny _ _ (pyIter (Value.ref _)) _ _ _); apply stuck))
  k_with "call ref" => ((k_here; (with_reducible show wpAny _ _ (call (Value.ref 45) [Value.ref _]) _ _ _); k_dflt (apply build_tss; (case F => k_asm); (case N => k_asm); (case X => k_asm); (case T => k_asm); (case I => exact News.isTup (by k_asm) (by news_mem)); (case hroom => ((try simp only [depth_under_make, depth_in1, depth_deeper]); (try dsimp only); omega)); (case hx => first | assumption | decide +kernel); (case hy => first | assumption | decide +kernel | omega)); intro _ _ _ _ _))
  k_with "call ref" => ((k_here; (with_reducible show wpAny _ _ (call (Value.ref 80) [_, _]) _ _ _); k_dflt (apply c_push; (case F => k_asm); (case N => k_asm); (case m1 => k_mem); (case m2 => k_mem); (case hes => exact rfl); (case U => k_upd); (case X => k_asm); (case T => k_asm); (case hroom => ((try simp only [depth_under_make, depth_in1, depth_deeper]); (try dsimp only); omega)); (case a1 => omega); (case a2 => omega); (case hsz => assumption)); intro _ _ _ _))
  k_with "call ref" => ((k_here; k_dflt (show wpAny _ _ (call (Value.ref 73) [Value.ref _]) _ _ _); k_dflt (apply c_pop; (case F => k_asm); (case N => k_asm); (case m1 => k_mem); (case m2 => k_mem); (case hes => exact rfl); (case U => k_upd); (case X => k_asm); (case T => k_asm); (case hroom => ((try simp only [depth_under_make, depth_in1, depth_deeper]); (try dsimp only); omega)); (case a1 => omega); (case a2 => omega); (case hsz => (simp; done))); intro _ _ _ _))
  k_with "call builtin:list.pop" => ((k_here; k_dflt (apply kl_pop; (case F => k_asm); (case N => k_asm); (case U => k_upd); (case e => exact kl_last_snoc _ _); (case hz => (simp; simp only [sizeLine]; omega))); kl_rest))
  k_with "call builtin:list.append" => ((k_here; (with_reducible show wpAny _ _ (call (Value.builtin _) [Value.ref _, _]) _ _ _); k_dflt (apply append_K; (case F => k_asm); (case N => k_asm); (case U => k_upd); (case hsz => (simp only [List.size_toArray, Array.size_push, sizeLine]; omega)); k_whole); intro _ _ _))
  trivial
section
variable {w : World} {p : Program} {loose : List Str} {mean : ExcName → Option Value} {mg mb : Str → Option Value} {dp un : Nat} {fr : Option (List Env)} {gd : Option (List Code)} {s : Shared}
    {hb : Heap} {L D a kr tg tn td : Nat} {vs : List Value} {gap number : Nat} {oc1 oc2 rI : Obj}
    {lx ld pb st sd fn c sg c' k1 k2 k3 k4 tl tw n5 ns np : Nat} {ln : Int} {pm ctv : Value} {oc occ : Obj} {vc : Array Value} {t : Tok} {es5 : List DictEntry}
noncomputable def dotNm (nm : Str) : Str := Str.ofString "" ++ Str.ofString "." ++ nm
noncomputable abbrev tupObj (vals : List Value) : Obj := { cls := .type "tuple", data := .seq vals.toArray }
noncomputable def midJ (P : Params) (D a gap number tg tn td : Nat) (ck cl cr cn : Option Value) (PP I kD kr L : Nat) (rI oc1 oc2 : Obj) (vs ds0 vals : List Value) (lx ld st sd fn c c' sg pb k1 k2 k3 k4 tl tw n5 ns np : Nat) (ln : Int) (es5 : List DictEntry) (pm ctv : Value) (oc occ : Obj) (chs : List Value)
    (j : Nat) (m : Str → Option Value) (news : List (Addr × Obj)) : Prop :=
  ∃ cw, m = mG D a gap number tg tn td ck cw cl cr cn ∧ news = (PP, tupObj vals) :: (gOwn I D kD a kr L rI oc1 oc2 vs ds0.toArray c' ++ lexLedP P lx ld st sd fn c c' sg pb k1 k2 k3 k4 tl tw n5 ns (np + j) ln es5 pm ctv oc occ chs.reverse.toArray (vals.take j).toArray)
theorem frWord {h : Heap} {ck cw cl cr cn : Option Value} {v : Value} (F : Fr hb L h (fun y => if y = Str.ofString "word" then some v else mG D a gap number tg tn td ck cw cl cr cn y)) :
    Fr hb L h (mG D a gap number tg tn td ck (some v) cl cr cn) := Fr.congr F (by
  intro y
  by_cases h1 : y = Str.ofString "word"
  · subst h1; rfl
  rw [if_neg h1]
  simp only [mG, if_neg h1])
set_option maxHeartbeats 4000000 in
theorem mid_step {I PP kD I2 j tk : Nat} {ds0 vals chs : List Value} {ck cw cl cr cn : Option Value} {v : Value} {oI : Obj} {h : Heap} {Q : Flow → Shared → Prop}
    (X : (hd.heap_39 w.params).In hb) (T : Top p loose mean mg mb hb) (hroom : dp < 790) (o : Ord D L a lx ld pb st sd fn c sg c') (d2 : oc2.data = .cell (some (.ref lx))) (hDI : D < I) (hP : I < PP) (hv : vals[j]? = some v) (hj : j < 100) (hI2 : PP < I2)
    (F : Fr hb L h (mG D a gap number tg tn td ck cw cl cr cn))
    (N : News hb L h ((I2, oI) :: (PP, tupObj vals) :: (gOwn I D kD a kr L rI oc1 oc2 vs ds0.toArray c' ++ lexLedP w.params lx ld st sd fn c c' sg pb k1 k2 k3 k4 tl tw n5 ns (np + j) ln es5 pm ctv oc occ chs.reverse.toArray (vals.take j).toArray))) :
    wpAny (model PySem.Challenge.rw_sl0003_01.row.prog w) (AA dp un fr gd) (assign grM3Tgt (grEnv L) v) (fun _ s₂ => wpAny (model PySem.Challenge.rw_sl0003_01.row.prog w) (AA dp un fr gd) (execs grM3Body (grEnv L))
      (StepT s hb L (midJ w.params D a gap number tg tn td ck cl cr cn PP I kD kr L rI oc1 oc2 vs ds0 vals lx ld st sd fn c c' sg pb k1 k2 k3 k4 tl tw n5 ns np ln es5 pm ctv oc occ chs) Q j I2 oI) (fun _ _ => False) s₂) (fun _ _ => False) { s with heap := h, toks := tk } := by
  revert X; k_fill; intro X
  obtain ⟨o1, o2, o3, o4, o5, o6, o7, o8, o9, o10, o11, o12⟩ := o.o1
  dsimp only [gOwn, lexLedP, List.cons_append, List.nil_append] at N
  have hsz : (vals.take j).toArray.size < 1000000 := by simp; omega
  k_steps
  rename Fr _ _ _ _ => F9
  rename News _ _ _ _ => N9
  have e9 : (vals.take j).toArray.push v = (vals.take (j + 1)).toArray := by
    rw [List.take_add_one, hv]; simp
  rw [e9] at N9
  refine ⟨_, _, _, _, rfl, frWord F9, N9, ?_, _, rfl, rfl⟩
  intro p hp
  have hne := fun (x : Nat) (q : x < I2) => (show @Ne Nat x I2 by omega)
  simp only [List.mem_cons, List.not_mem_nil, or_false] at hp
  rcases hp with rfl | rfl | rfl | rfl | rfl | rfl | rfl | rfl | rfl | rfl | rfl | rfl | rfl | rfl | rfl | rfl <;> (apply hne; dsimp only; omega)
theorem push_unit (a : Str) : a ++ Str.ofString "" = a := by
  apply Str.ext'; rw [Str.cps_append, show (Str.ofString "").cps = #[] from by decide +kernel]; simp
theorem mid_fin {h : Heap} {PP I : Nat} {oP : Obj} {ds0 : List Value} {v1 v2 : Value} {kD' : Nat} {rest : List (Addr × Obj)} (N : News hb L h ((PP, oP) :: (I, rI) :: (D, listOf ((ds0.toArray.push v1).push v2) kD') :: rest)) : News hb L h ((I, rI) :: (D, listOf (ds0 ++ [v1, v2]).toArray kD') :: rest) := by
  have e9 : (ds0 ++ [v1, v2]).toArray = (ds0.toArray.push v1).push v2 := by simp
  rw [e9]
  exact News.sub N fun p hp => .tail _ hp
set_option maxHeartbeats 4000000 in
theorem mid_done {I PP kD tk t1 t2 tr : Nat} {ds0 chs : List Value} {dn wr : Str} {ck cw cl cr cn : Option Value} {oP : Obj} {h : Heap} {Q : Flow → Shared → Prop}
    (X : (hd.heap_39 w.params).In hb) (T : Top p loose mean mg mb hb) (hroom : dp < 790) (o : Ord D L a lx ld pb st sd fn c sg c') (d2 : oc2.data = .cell (some (.ref lx))) (hDI : D < I) (hP : I < PP) (hds : ds0.length ≤ 100) (hdn : dn.length < 1000000)
    (F : Fr hb L h (mG D a gap number tg tn td ck cw cl cr cn))
    (N : News hb L h ((PP, oP) :: (gOwn I D kD a kr L rI oc1 oc2 vs ds0.toArray c' ++ lexLedP w.params lx ld st sd fn c c' sg pb k1 k2 k3 k4 tl tw n5 ns np ln es5 pm ctv oc occ chs.reverse.toArray [Value.str dn t1, Value.str (Str.ofString "") t2, Value.str wr tr].toArray)))
    (ret : ∀ h' tk kD' np' t', Fr hb L h' (mG D a gap number tg tn td ck cw cl cr cn) → News hb L h' (gOwn I D kD' a kr L rI oc1 oc2 vs (ds0 ++ [Value.str dn t', Value.str wr tr]).toArray c' ++ lexLedP w.params lx ld st sd fn c c' sg pb k1 k2 k3 k4 tl tw n5 ns np' ln es5 pm ctv oc occ chs.reverse.toArray #[]) →
      Q .next { s with heap := h', toks := tk }) :
    wpAny (model PySem.Challenge.rw_sl0003_01.row.prog w) (AA dp un fr gd) (execs [grM4, grM5] (grEnv L)) Q (fun _ _ => False) { s with heap := h, toks := tk } := by
  revert X; k_fill; intro X
  obtain ⟨o1, o2, o3, o4, o5, o6, o7, o8, o9, o10, o11, o12⟩ := o.o1
  dsimp only [gOwn, lexLedP, List.cons_append, List.nil_append] at N
  k_steps
  rename Fr _ _ _ _ => F9
  rename News _ _ _ _ => N9
  rw [push_unit] at N9
  have N10 := mid_fin N9
  exact ret _ _ _ _ _ F9 N10
theorem mid_run {Q : Flow → Shared → Prop} {PP I kD tk tr t1 t2 : Nat} {ds0 chs : List Value} {dn wr : Str} {ck cw cl cr cn : Option Value} {h : Heap}
    (X : (hd.heap_39 w.params).In hb) (T : Top p loose mean mg mb hb) (hroom : dp < 790) (o : Ord D L a lx ld pb st sd fn c sg c')
    (d2 : oc2.data = .cell (some (.ref lx))) (hDI : D < I) (hP : I < PP) (hP2 : pb < PP) (hds : ds0.length ≤ 100) (hdn : dn.length < 1000000)
    (F : Fr hb L h (mG D a gap number tg tn td ck cw cl cr cn)) (N : News hb L h ((PP, tupObj [Value.str dn t1, Value.str (Str.ofString "") t2, Value.str wr tr]) :: (gOwn I D kD a kr L rI oc1 oc2 vs ds0.toArray c' ++ lexLedP w.params lx ld st sd fn c c' sg pb k1 k2 k3 k4 tl tw n5 ns np ln es5 pm ctv oc occ chs.reverse.toArray #[])))
    (ret : ∀ h' tk kD' np' t' cw', Fr hb L h' (mG D a gap number tg tn td ck cw' cl cr cn) → News hb L h' (gOwn I D kD' a kr L rI oc1 oc2 vs (ds0 ++ [Value.str dn t', Value.str wr tr]).toArray c' ++ lexLedP w.params lx ld st sd fn c c' sg pb k1 k2 k3 k4 tl tw n5 ns np' ln es5 pm ctv oc occ chs.reverse.toArray #[]) →
      Q .next { s with heap := h', toks := tk }) :
    TupRun PySem.Challenge.rw_sl0003_01.row.prog w (AA dp un fr gd) (grEnv L) grM3Tgt grM3Body s hb L
      (fun f s' => match f with | .next => wpAny (model PySem.Challenge.rw_sl0003_01.row.prog w) (AA dp un fr gd) (execs [grM4, grM5] (grEnv L)) Q (fun _ _ => False) s' | f => Q f s') (.ref PP) { s with heap := h, toks := tk } := by
  refine ⟨PP, tupObj [Value.str dn t1, Value.str (Str.ofString "") t2, Value.str wr tr], [Value.str dn t1, Value.str (Str.ofString "") t2, Value.str wr tr], _, fun x => PP < x, midJ w.params D a gap number tg tn td ck cl cr cn PP I kD kr L rI oc1 oc2 vs ds0 [Value.str dn t1, Value.str (Str.ofString "") t2, Value.str wr tr] lx ld st sd fn c c' sg pb k1 k2 k3 k4 tl tw n5 ns np ln es5 pm ctv oc occ chs, h, tk, _, _, rfl, rfl, F, N, rfl, rfl, ?_, ?_, ⟨_, rfl, rfl⟩, ?_, ?_⟩
  · rintro j m news ⟨cw', rfl, rfl⟩; exact .head _
  · intro I2 h2; exact h2 _ (.head _)
  · rintro j v I2 oI h tk m news hv ⟨cw', rfl, rfl⟩ hb2 F2 N2 hne
    have hj : j < 3 := (List.getElem?_eq_some_iff.mp hv).1
    exact mid_step X T hroom o d2 hDI hP hv (by omega) hb2 F2 N2
  · rintro h tk m news ⟨cw', rfl, rfl⟩ F2 N2
    exact mid_done X T hroom o d2 hDI hP hds hdn F2 N2 fun h' tk' kD' np' t' F3 N3 => ret h' tk' kD' np' t' _ F3 N3
set_option maxHeartbeats 4000000 in
theorem grow_mid2 {Q : Flow → Shared → Prop} {I kD tr tm : Nat} {ds0 chs : List Value} {nm wr : Str} {ck cw cl cr : Option Value}
    (X : (hd.heap_39 w.params).In hb) (T : Top p loose mean mg mb hb) (hroom : dp < 790) (o : Ord D L a lx ld pb st sd fn c sg c')
    (d2 : oc2.data = .cell (some (.ref lx))) (hDI : D < I) (hds : ds0.length ≤ 100) (hnz : nm.length < 900000) (hzr : wr.length ≤ 10000)
    (F : Fr hb L s.heap (mG D a gap number tg tn td ck cw cl cr (some (.str nm tm)))) (N : News hb L s.heap (gOwn I D kD a kr L rI oc1 oc2 vs (ds0 ++ [Value.str wr tr]).toArray c' ++ lexLedP w.params lx ld st sd fn c c' sg pb k1 k2 k3 k4 tl tw n5 ns np ln es5 pm ctv oc occ chs.reverse.toArray #[]))
    (ret : ∀ h' tk kD' np' t' cw', Fr hb L h' (mG D a gap number tg tn td ck cw' cl cr (some (.str nm tm))) → News hb L h' (gOwn I D kD' a kr L rI oc1 oc2 vs (ds0 ++ [Value.str (Str.ofString "." ++ nm) t', Value.str wr tr]).toArray c' ++ lexLedP w.params lx ld st sd fn c c' sg pb k1 k2 k3 k4 tl tw n5 ns np' ln es5 pm ctv oc occ chs.reverse.toArray #[]) →
      Q .next { s with heap := h', toks := tk }) :
    wpAny (model PySem.Challenge.rw_sl0003_01.row.prog w) (AA dp un fr gd) (execs [grM3, grM4, grM5] (grEnv L)) Q (fun _ _ => False) s := by
  have X0 := X
  revert X; k_fill; intro X
  obtain ⟨o1, o2, o3, o4, o5, o6, o7, o8, o9, o10, o11, o12⟩ := o.o1
  dsimp only [gOwn, lexLedP, List.cons_append, List.nil_append] at N
  refine wpAny_execs_cons (for_tup (hb := hb) (L := L) rfl ?_)
  k_steps
  rename Fr _ _ _ _ => F9
  rename News _ _ _ _ => N9
  have hln : (Str.ofString "." ++ nm).length < 1000000 := by rw [catlen, show (Str.ofString ".").length = 1 from by decide +kernel]; omega
  exact mid_run X0 T hroom o d2 hDI (by omega) (by omega) hds hln F9 (News.sub N9 fun p hp => by
    rcases List.mem_cons.mp hp with rfl | hp
    · exact .head _
    · exact .tail _ (.tail _ hp)) ret
end
end Mine
end
section
open PySem PySem.W PyProof.Rows PySem.Calls PySem.Spec
namespace Mine
theorem start_Gr5 : True := by
  w_top off
  k_with_none
  trivial
noncomputable abbrev grTgt : PySem.Expr := pk (tgt (kid (topS 16) 4)) _ (by conv => rhs; whnf; rfl)
theorem reg1_Gr5 : True := by
  k_with "call builtin:list.append" => ((k_here; (with_reducible show wpAny _ _ (call (Value.builtin _) [Value.ref _, _]) _ _ _); k_dflt (apply append_K; (case F => k_asm); (case N => k_asm); (case U => k_upd); (case hsz => (simp only [List.size_toArray, sizeLine]; omega)); k_whole); intro _ _ _))
  k_with "execs cons" => ((k_here; (with_reducible show wpAny _ _ (execs (Stmt.Assign [Expr.Tuple _ _ _] _ _ :: _) _) _ _ _); apply stuck))
  trivial
section
variable {w : World} {p : Program} {loose : List Str} {mean : ExcName → Option Value} {mg mb : Str → Option Value} {dp un : Nat} {fr : Option (List Env)} {gd : Option (List Code)} {s : Shared}
    {hb : Heap} {L D a kr tg tn td : Nat} {vs : List Value} {gap number n0 : Nat} {oc1 oc2 : Obj}
    {lx ld pb st sd fn c sg c' k1 k2 k3 k4 tw n5 : Nat} {pm ctv : Value} {oc occ : Obj} {vc : Array Value} {t : Tok} {es5 : List DictEntry}
    {R dw : Nat → List Nat} {newS : Str}
noncomputable def dwS (dw : Nat → List Nat) (k : Nat) : Str := ⟨(dw k).toArray⟩
noncomputable def toldS (dw : Nat → List Nat) (gap : Nat) (newS : Str) (i : Nat) : List Str := (List.range i).flatMap fun k => if k = gap + 1 then [newS, dwS dw k] else [dwS dw k]
theorem told_succ (dw : Nat → List Nat) (gap : Nat) (newS : Str) (i : Nat) : toldS dw gap newS (i + 1) = toldS dw gap newS i ++ (if i = gap + 1 then [newS, dwS dw i] else [dwS dw i]) := by
  unfold toldS; rw [List.range_succ, List.flatMap_append]; simp
theorem told_len : ∀ i, i ≤ gap + 1 → (toldS dw gap newS i).length = i
  | 0, _ => rfl
  | i + 1, h => by rw [told_succ, if_neg (by omega), List.length_append, told_len i (by omega)]; rfl
theorem told_len2 : ∀ i, (toldS dw gap newS i).length ≤ 2 * i
  | 0 => Nat.le_refl _
  | i + 1 => by
    rw [told_succ, List.length_append]
    have := told_len2 i
    split <;> (simp only [List.length_cons, List.length_nil]; omega)
theorem told_gap : (toldS dw gap newS (gap + 1))[gap]? = some (dwS dw gap) := by
  rw [told_succ, if_neg (by omega), List.getElem?_append_right (by rw [told_len gap (by omega)]; exact Nat.le_refl _), told_len gap (by omega)]
  simp
noncomputable def GInv (P : Params) (s : Shared) (hb : Heap) (L D a kr tg tn td gap number n0 : Nat) (vs : List Value) (oc1 oc2 : Obj) (lx ld pb st sd fn c sg c' k1 k2 k3 k4 tw n5 : Nat) (pm ctv : Value) (oc occ : Obj) (es5 : List DictEntry) (R dw : Nat → List Nat) (newS : Str) (it : Value) (n : Nat) (s' : Shared) : Prop :=
  ∃ (I : Nat) (h : Heap) (tk i : Nat) (ck cw cl cr cn : Option Value) (kD : Nat) (ds : List Value) (tl ns np : Nat) (chs : List Value) (ln : Int), it = .ref I ∧ D < I ∧ s' = { s with heap := h, toks := tk } ∧ Fr hb L h (mG D a gap number tg tn td ck cw cl cr cn) ∧
    News hb L h (gOwn I D kD a kr L (rIt i ((n0 : Int) - i)) oc1 oc2 vs ds.toArray c' ++ lexLedP P lx ld st sd fn c c' sg pb k1 k2 k3 k4 tl tw n5 ns np ln es5 pm ctv oc occ chs.reverse.toArray #[]) ∧
    SV ds (toldS dw gap newS i) ∧ SV chs ((R i).map sgn) ∧ ln + nl (R i) = 1 + nl (R 0) ∧ i ≤ n0 ∧ n = n0 - i
theorem frK {h : Heap} {ck cw cl cr cn : Option Value} {v : Value} (F : Fr hb L h (fun y => if y = Str.ofString "k" then some v else mG D a gap number tg tn td ck cw cl cr cn y)) :
    Fr hb L h (mG D a gap number tg tn td (some v) cw cl cr cn) := Fr.congr F (by
  intro y
  by_cases h1 : y = Str.ofString "k"
  · subst h1; rfl
  rw [if_neg h1]
  simp only [mG, if_neg h1])
theorem g_conv {h : Heap} {I : Nat} {rI : Obj} {ds : List Value} {v : Value} {kD : Nat} {rest : List (Addr × Obj)} (N : News hb L h ((I, rI) :: (D, listOf (ds.toArray.push v) kD) :: rest)) : News hb L h ((I, rI) :: (D, listOf (ds ++ [v]).toArray kD) :: rest) := by
  have e9 : (ds ++ [v]).toArray = ds.toArray.push v := by simp
  rw [e9]; exact N
theorem g_end {Q : Flow → Shared → Prop} {I i tk kD tl ns np : Nat} {h : Heap} {ds chs : List Value} {ck cw cl cr cn : Option Value} (hDI : D < I) (hi : i < n0) (hl3 : ((i : Int) + 1) + nl (R (i + 1)) = 1 + nl (R 0)) (sv2 : SV chs ((R (i + 1)).map sgn))
    (F : Fr hb L h (mG D a gap number tg tn td ck cw cl cr cn)) (N : News hb L h (gOwn I D kD a kr L (rIt ((i : Int) + 1) ((n0 : Int) - i - 1)) oc1 oc2 vs ds.toArray c' ++ lexLedP w.params lx ld st sd fn c c' sg pb k1 k2 k3 k4 tl tw n5 ns np ((i : Int) + 1) es5 pm ctv oc occ chs.reverse.toArray #[]))
    (hds : SV ds (toldS dw gap newS (i + 1))) :
    TurnEnd (GInv w.params s hb L D a kr tg tn td gap number n0 vs oc1 oc2 lx ld pb st sd fn c sg c' k1 k2 k3 k4 tw n5 pm ctv oc occ es5 R dw newS (.ref I)) Q (n0 - i) .next { s with heap := h, toks := tk } := by
  have e2 : (n0 : Int) - ((i + 1 : Nat) : Int) = (n0 : Int) - i - 1 := by omega
  have e1' : ((i + 1 : Nat) : Int) = (i : Int) + 1 := by omega
  exact ⟨n0 - (i + 1), by omega, I, h, tk, i + 1, ck, cw, cl, cr, cn, kD, ds, tl, ns, np, chs, _, rfl, hDI, rfl, F, by rw [e2, e1']; exact N, hds, sv2, hl3, hi, rfl⟩
set_option maxHeartbeats 4000000 in
theorem grow_body {Q : Flow → Shared → Prop} {I i tk t' kD tl ns np : Nat} {ln : Int} {h' : Heap} {ds chs : List Value} {ck cw cl cr cn : Option Value}
    (X : (hd.heap_39 w.params).In hb) (T : Top p loose mean mg mb hb) (hroom : dp < 790) (ok : LexOk lx ld pb st sd fn c sg c' es5 oc occ vc t) (o : Ord D L a lx ld pb st sd fn c sg c')
    (d2 : oc2.data = .cell (some (.ref lx))) (hT : TokT (R i) (dw i) (R (i + 1))) (hz1 : (R i).length < 1000000) (hz2 : ∀ k, (dw k).length ≤ 5000) (sv : SV chs ((R i).map sgn)) (hDI : D < I) (hi : i < n0) (hn0 : n0 ≤ 40) (hg : gap + 1 < n0) (hds : SV ds (toldS dw gap newS i))
    (hln : ln + nl (R i) = 1 + nl (R 0)) (hln2 : 1 + nl (R 0) = (i : Int) + 1 + nl (R (i + 1)))
    (hnew : newS = Str.ofString "." ++ (Txt.lstripChars (dwS dw gap) (Str.ofString ".") ++ Str.ofString "." ++ Txt.lstripChars (dwS dw (gap + 1)) (Str.ofString ".")))
    (F : Fr hb L h' (mG D a gap number tg tn td ck cw cl cr cn)) (N : News hb L h' (gOwn I D kD a kr L (rIt ((i : Int) + 1) ((n0 : Int) - i - 1)) oc1 oc2 vs ds.toArray c' ++ lexLedP w.params lx ld st sd fn c c' sg pb k1 k2 k3 k4 tl tw n5 ns np ln es5 pm ctv oc occ chs.reverse.toArray #[])) :
    wpAny (model PySem.Challenge.rw_sl0003_01.row.prog w) (AA dp un fr gd) (assign grTgt (grEnv L) (.int (i : Nat) t')) (fun _ s₂ =>
      wpAny (model PySem.Challenge.rw_sl0003_01.row.prog w) (AA dp un fr gd) (execs grForBody (grEnv L)) (TurnEnd (GInv w.params s hb L D a kr tg tn td gap number n0 vs oc1 oc2 lx ld pb st sd fn c sg c' k1 k2 k3 k4 tw n5 pm ctv oc occ es5 R dw newS (.ref I)) Q (n0 - i)) (fun _ _ => False) s₂) (fun _ _ => False) { s with heap := h', toks := tk } := by
  have X0 := X
  revert X; k_fill; intro X
  obtain ⟨o1, o2, o3, o4, o5, o6, o7, o8, o9, o10, o11, o12⟩ := o.o1
  have hdl : ds.length ≤ 80 := by have h1 := hds.length; have h2 := told_len2 (dw := dw) (gap := gap) (newS := newS) i; omega
  dsimp only [gOwn, lexLedP, List.cons_append, List.nil_append] at N
  have own : ∀ (R1 O1 : Obj), ∀ p ∈ [(I, R1), (D, O1), (L + 1 + 1, oc2), (L + 1, oc1), (a, listOf vs.toArray kr), (113, tabO c')], p.1 ≠ sg ∧ p.1 ≠ ld := fun R1 O1 => by
    refine List.forall_mem_cons.mpr ⟨?_, List.forall_mem_cons.mpr ⟨?_, List.forall_mem_cons.mpr ⟨?_, List.forall_mem_cons.mpr ⟨?_, List.forall_mem_cons.mpr ⟨?_, List.forall_mem_cons.mpr ⟨?_, List.forall_mem_nil _⟩⟩⟩⟩⟩⟩ <;> (refine ⟨?_, ?_⟩ <;> (show @Ne Nat _ _; omega))
  k_steps
  change wpAny _ _ _ _ _ _
  rename Fr _ _ _ _ => F1
  rename News _ _ _ _ => N1
  show wpAny (model PySem.Challenge.rw_sl0003_01.row.prog w) (AA dp un fr gd) (call (.ref 73) [.ref lx]) _ _ _
  have N1' : News hb L _ ([(I, rIt ((i : Int) + 1) ((n0 : Int) - i - 1)), (D, listOf ds.toArray kD), (L + 1 + 1, oc2), (L + 1, oc1), (a, listOf vs.toArray kr), (113, tabO c')] ++ lexLed w.params lx ld st sd fn c c' sg pb k1 k2 k3 k4 tl tw n5 ns np ln es5 pm ctv oc occ chs.reverse.toArray) := N1
  have hz3 := hz2 i
  refine tok_fr X T (by omega) F1 N1' (own _ _) ok sv hT hz1 (by omega) fun h2 tk2 ta2 tl2 ns2 chs2 ln2 F2 N2 sv2 hl2 => ?_
  clear F1 N1 N1' own
  have hln3 : ln2 = (i : Int) + 1 := by omega
  have hl3 : ((i : Int) + 1) + nl (R (i + 1)) = 1 + nl (R 0) := by omega
  rw [hln3] at N2
  clear hln3 hl2 hln hln2 sv hT hz1
  dsimp only [lexLed, List.cons_append, List.nil_append] at N2
  have F2' := frK F2
  clear F2
  by_cases hgi : i = gap + 1
  · have hne : ((i : Int) == (gap : Int) + 1) = true := beq_iff_eq.mpr (by omega)
    subst hgi
    obtain ⟨tlw, hwl⟩ := hds.get gap _ told_gap
    have hds1 : ds.length = gap + 1 := by rw [hds.length, told_len _ (Nat.le_refl _)]
    k_steps
    change wpAny _ _ _ _ _ _
    rename Fr _ _ _ _ => F9
    rename News _ _ _ _ => N9
    have N10 := g_conv N9
    have hza : (dwS dw gap).length ≤ 5000 := by have := hz2 gap; show (dw gap).toArray.size ≤ 5000; simpa using this
    have hzb : (dwS dw (gap + 1)).length ≤ 5000 := by have := hz2 (gap + 1); show (dw (gap + 1)).toArray.size ≤ 5000; simpa using this
    refine grow_mid1 (wl := dwS dw gap) (wr := dwS dw (gap + 1)) (rest := [grM3, grM4, grM5]) X0 T hroom o hDI (by omega) hds1 hwl (by omega) (by omega) F9 N10 fun h3 tk3 cl3 cr3 nm tm hnm F3 N3 => ?_
    refine grow_mid2 X0 T hroom o d2 hDI (by omega) ?_ (by omega) F3 N3 fun h4 tk4 kD4 np4 t4 cw4 F4 N4 => ?_
    · have hl1 := len_lstripChars (dwS dw gap) (Str.ofString ".")
      have hl2 := len_lstripChars (dwS dw (gap + 1)) (Str.ofString ".")
      rw [hnm, catlen, catlen, show (Str.ofString ".").length = 1 from by decide +kernel]; omega
    · refine wpAny_execs_nil ?_
      rw [hnm, ← hnew] at N4
      refine g_end hDI hi hl3 sv2 F4 N4 ?_
      rw [told_succ, if_pos rfl]
      exact hds.append (.cons (.cons .nil))
  · have hne : ((i : Int) == (gap : Int) + 1) = false := beq_eq_false_iff_ne.mpr (by omega)
    k_steps
    rename Fr _ _ _ _ => F9
    rename News _ _ _ _ => N9
    have N10 := g_conv N9
    refine g_end hDI hi hl3 sv2 F9 N10 ?_
    rw [told_succ, if_neg hgi]
    exact hds.append (.cons .nil)
end
end Mine
end
section
open PySem PySem.W PyProof.Rows PySem.Calls PySem.Spec
namespace Mine
theorem start_Gr7 : True := by
  w_top off
  k_with_none
  trivial
noncomputable abbrev grFor : Stmt := pk (kid (topS 16) 4) _ (by conv => rhs; whnf; rfl)
noncomputable abbrev grS6 : Stmt := pk (kid (topS 16) 5) _ (by conv => rhs; whnf; rfl)
noncomputable abbrev grS7 : Stmt := pk (kid (topS 16) 6) _ (by conv => rhs; whnf; rfl)
theorem reg1_Gr7 : True := by
  k_with "pyIter ref" => ((k_here; (with_reducible show wpAny _ _ (pyIter (Value.ref _)) _ _ _); apply stuck))
  trivial
section
variable {w : World} {p : Program} {loose : List Str} {mean : ExcName → Option Value} {mg mb : Str → Option Value} {dp un : Nat} {fr : Option (List Env)} {gd : Option (List Code)} {s : Shared}
    {hb : Heap} {L D a kr tg tn td : Nat} {vs : List Value} {gap number n0 : Nat} {oc1 oc2 : Obj}
    {lx ld pb st sd fn c sg c' k1 k2 k3 k4 tw n5 : Nat} {pm ctv : Value} {oc occ : Obj} {vc : Array Value} {t : Tok} {es5 : List DictEntry}
    {R dw : Nat → List Nat} {newS : Str}
theorem gI_fresh {h : Heap} {I i kD : Nat} {rest : List (Addr × Obj)} {oD : Obj} {v : Int × Int} (N : News hb L h ((I, rIt v.1 v.2) :: (D, oD) :: rest)) : News hb L h ((D, oD) :: rest) := News.sub N fun p hp => .tail _ hp
set_option maxHeartbeats 4000000 in
theorem grow_loop {Q : Flow → Shared → Prop} {tl ns np : Nat} {chs : List Value} 
    (X : (hd.heap_39 w.params).In hb) (T : Top p loose mean mg mb hb) (hroom : dp < 790) (ok : LexOk lx ld pb st sd fn c sg c' es5 oc occ vc t) (o : Ord D L a lx ld pb st sd fn c sg c')
    (d2 : oc2.data = .cell (some (.ref lx))) (hT : ∀ i, i < n0 → TokT (R i) (dw i) (R (i + 1))) (hz1 : ∀ i, (R i).length < 1000000) (hz2 : ∀ k, (dw k).length ≤ 5000) (sv : SV chs ((R 0).map sgn)) (hn0 : n0 ≤ 40) (hvs : vs.length = n0) (hg : gap + 1 < n0)
    (hln2 : ∀ i, i < n0 → 1 + nl (R 0) = (i : Int) + 1 + nl (R (i + 1)))
    (hnew : newS = Str.ofString "." ++ (Txt.lstripChars (dwS dw gap) (Str.ofString ".") ++ Str.ofString "." ++ Txt.lstripChars (dwS dw (gap + 1)) (Str.ofString ".")))
    (F : Fr hb L s.heap (mG D a gap number tg tn td none none none none none)) (N : News hb L s.heap ([(D, listOf #[] 0), (L + 1 + 1, oc2), (L + 1, oc1), (a, listOf vs.toArray kr), (113, tabO c')] ++ lexLedP w.params lx ld st sd fn c c' sg pb k1 k2 k3 k4 tl tw n5 ns np 1 es5 pm ctv oc occ chs.reverse.toArray #[]))
    (ret : ∀ h' tk ck cw cl cr cn kD ds tl ns np chs (ln : Int), Fr hb L h' (mG D a gap number tg tn td ck cw cl cr cn) → News hb L h' ([(D, listOf ds kD), (L + 1 + 1, oc2), (L + 1, oc1), (a, listOf vs.toArray kr), (113, tabO c')] ++ lexLedP w.params lx ld st sd fn c c' sg pb k1 k2 k3 k4 tl tw n5 ns np ln es5 pm ctv oc occ (List.reverse chs).toArray #[]) →
      SV ds.toList (toldS dw gap newS n0) → SV chs ((R n0).map sgn) → ln + nl (R n0) = 1 + nl (R 0) → Q .next { s with heap := h', toks := tk }) :
    wpAny (model PySem.Challenge.rw_sl0003_01.row.prog w) (AA dp un fr gd) (exec grFor (grEnv L)) Q (fun _ _ => False) s := by
  have X0 := X
  revert X; k_fill; intro X
  obtain ⟨o1, o2, o3, o4, o5, o6, o7, o8, o9, o10, o11, o12⟩ := o.o1
  refine wpAny_ForJ (I := GInv w.params s hb L D a kr tg tn td gap number n0 vs oc1 oc2 lx ld pb st sd fn c sg c' k1 k2 k3 k4 tw n5 pm ctv oc occ es5 R dw newS) ?_ ?_
  · have hll : vs.toArray.size = n0 := by simpa using hvs
    dsimp only [lexLedP, List.cons_append, List.nil_append] at N
    k_steps
    change wpAny _ _ _ _ _ _
    rename IsRange _ _ _ _ _ _ _ _ => hr
    rename Fr _ _ _ _ => F9
    rename News _ _ _ _ => N9
    refine iter_rng F9 N9 hr (by omega) (by omega) fun I h' F' N' l1 => ?_
    k_lt l1
    refine ⟨n0, I, h', _, 0, none, none, none, none, none, 0, [], tl, ns, np, chs, 1, rfl, by omega, rfl, F', by simpa using N', .nil, sv, rfl, Nat.zero_le _, rfl⟩
  rintro it n s' ⟨I, h, tk, i, ck, cw, cl, cr, cn, kD, ds, tl2, ns2, np2, chs2, ln, rfl, hDI, rfl, F3, N3, hds, sv3, hl3, hin, rfl⟩
  have hne : ∀ p ∈ [(D, listOf ds.toArray kD), (L + 1 + 1, oc2), (L + 1, oc1), (a, listOf vs.toArray kr), (113, tabO c')] ++ lexLedP w.params lx ld st sd fn c c' sg pb k1 k2 k3 k4 tl2 tw n5 ns2 np2 ln es5 pm ctv oc occ chs2.reverse.toArray #[], p.1 ≠ I := by
    intro p hp
    have hne := fun (x : Nat) (q : x < I) => (show @Ne Nat x I by omega)
    simp only [lexLedP, List.cons_append, List.nil_append, List.mem_cons, List.not_mem_nil, or_false] at hp
    rcases hp with rfl | rfl | rfl | rfl | rfl | rfl | rfl | rfl | rfl | rfl | rfl | rfl | rfl | rfl <;> (apply hne; dsimp only; omega)
  by_cases hlt : i < n0
  · refine next_rng F3 N3 hne (by omega) fun h' tk t' F' N' => ?_
    clear F3 N3
    exact grow_body X0 T hroom ok o d2 (hT i hlt) (hz1 i) hz2 sv3 hDI hlt hn0 hg hds hl3 (hln2 i hlt) hnew F' N'
  · refine end_rng rfl F3 N3 hne (by omega) fun h' tk F' N' => ?_
    clear F3 N3
    obtain rfl : i = n0 := by omega
    refine wpAny_execs_nil ?_
    exact ret h' tk ck cw cl cr cn kD ds.toArray tl2 ns2 np2 chs2 ln F' N' (by simpa using hds) sv3 hl3
end
end Mine
end
section
open PySem PySem.W PyProof.Rows PySem.Calls PySem.Spec
namespace Mine
theorem start_Gr8 : True := by
  w_top off
  k_with_none
  trivial
noncomputable abbrev grComp : Expr := pk (subE (subE (itr (kid (topS 16) 5)) 0) 0) _ (by conv => rhs; whnf; rfl)
noncomputable abbrev grElt : Expr := pk (subE (subE (subE (itr (kid (topS 16) 5)) 0) 0) 0) _ (by conv => rhs; whnf; rfl)
noncomputable abbrev grCScope : Scope := pk (scpE (subE (subE (itr (kid (topS 16) 5)) 0) 0)) _ (by conv => rhs; whnf; rfl)
theorem nmCell2 {M : Model} {A : Around} {E : Value → Shared → Prop} {s : Shared} {env : Env} {x : Str} {pos : Pos} {v : Value} {Q : Value → Shared → Prop} {cA : Addr} {oc : Obj} {hb : Heap} {L : Addr} {news : List (Addr × Obj)} (N : News hb L s.heap news) (hk : env.scope.kind = .function) (hl : env.kindOf x = some .cell) (hcl : env.cells.lookup x = some cA)
    (hm : (cA, oc) ∈ news) (ho : oc.data = .cell (some v)) (h : Q v s) (hd : (x == ("__debug__" : Str)) = false := by decide) : wpAny M A (eval (.Name x pos) env) Q E s :=
  wpAny_Name (wpAny_loadName_cell hk hl hcl ⟨oc, (N _ hm).1, ho⟩ h) hd
theorem reg1_Gr8 : True := by
  k_with "eval Name" => ((k_here; (with_reducible show wpAny _ _ (eval (Expr.Name (Str.ofString "lexer") _) (compEnvC _ _ _ _)) _ _ _); k_dflt (apply nmCell2; (case hd => decide); (case N => assumption); (case hk => rfl); (case hl => rfl); (case hcl => rfl); (case hm => k_mem); (case ho => assumption))))
  trivial
section
variable {w : World} {p : Program} {loose : List Str} {mean : ExcName → Option Value} {mg mb : Str → Option Value} {dp un : Nat} {fr : Option (List Env)} {gd : Option (List Code)} {s : Shared}
    {hb : Heap} {L D a kr tg tn td kD : Nat} {vs : List Value} {ds : Array Value} {gap number n0 : Nat} {oc1 oc2 : Obj}
    {lx ld pb st sd fn c sg c' k1 k2 k3 k4 tw n5 np : Nat} {pm ctv : Value} {oc occ : Obj} {vc : Array Value} {t : Tok} {es5 : List DictEntry}
    {RR TT : Nat → List Nat} {ck cw cl cr cn : Option Value}
noncomputable abbrev cLed (P : Params) (D kD a kr L : Nat) (oc1 oc2 : Obj) (vs : List Value) (ds : Array Value) (lx ld st sd fn c c' sg pb k1 k2 k3 k4 tl tw n5 ns np : Nat) (ln : Int) (es5 : List DictEntry) (pm ctv : Value) (oc occ : Obj) (its : Array Value) : List (Addr × Obj) :=
  [(D, listOf ds kD), (L + 1 + 1, oc2), (L + 1, oc1), (a, listOf vs.toArray kr), (113, tabO c')] ++ lexLedP P lx ld st sd fn c c' sg pb k1 k2 k3 k4 tl tw n5 ns np ln es5 pm ctv oc occ its #[]
set_option maxHeartbeats 4000000 in
theorem comp_elt {I C D2 tl ns i tk : Nat} {oI oC : Obj} {ys chs : List Value} {ln : Int} {h : Heap} {E' : Value → Shared → Prop} {rest : Value → List (Addr × Obj) → Prop}
    (X : (hd.heap_39 w.params).In hb) (T : Top p loose mean mg mb hb) (hroom : dp < 790) (ok : LexOk lx ld pb st sd fn c sg c' es5 oc occ vc t) (o : Ord D L a lx ld pb st sd fn c sg c')
    (d2 : oc2.data = .cell (some (.ref lx))) (hT : TokT (RR i) (TT i) (RR (i + 1))) (hz1 : (RR i).length < 1000000) (hz2 : (TT i).length ≤ 5000) (sv : SV chs ((RR i).map sgn))
    (F : Fr hb L h (mG D a gap number tg tn td ck cw cl cr cn))
    (N : News hb L h ((I, oI) :: (C, oC) :: (D2, LCg.lst ys) :: cLed w.params D kD a kr L oc1 oc2 vs ds lx ld st sd fn c c' sg pb k1 k2 k3 k4 tl tw n5 ns np ln es5 pm ctv oc occ chs.reverse.toArray))
    (off : LCg.Off3 I C D2 (cLed w.params D kD a kr L oc1 oc2 vs ds lx ld st sd fn c c' sg pb k1 k2 k3 k4 tl tw n5 ns np ln es5 pm ctv oc occ chs.reverse.toArray))
    (ret : ∀ tl' ns' ta chs' ln', SV chs' ((RR (i + 1)).map sgn) → ln' + nl (RR (i + 1)) = ln + nl (RR i) → rest (.str ⟨(TT i).toArray⟩ ta) (cLed w.params D kD a kr L oc1 oc2 vs ds lx ld st sd fn c c' sg pb k1 k2 k3 k4 tl' tw n5 ns' np ln' es5 pm ctv oc occ (List.reverse chs').toArray)) :
    wpAny (model PySem.Challenge.rw_sl0003_01.row.prog w) (AA dp un fr gd) (eval grElt (compEnvC grCScope [(Str.ofString "lexer", L + 1 + 1)] C (grEnv L)))
      (LCg.CompEnd hb L (mG D a gap number tg tn td ck cw cl cr cn) { s with heap := h, toks := tk } I oI C oC D2 (LCg.lst ys) (fun _ => True) rest) E' { s with heap := h, toks := tk } := by
  have X0 := X
  revert X; k_fill; intro X
  obtain ⟨o1, o2, o3, o4, o5, o6, o7, o8, o9, o10, o11, o12⟩ := o.o1
  have off3 := off.mem
  have own : ∀ p ∈ [(I, oI), (C, oC), (D2, LCg.lst ys), (D, listOf ds kD), (L + 1 + 1, oc2), (L + 1, oc1), (a, listOf vs.toArray kr), (113, tabO c')], p.1 ≠ sg ∧ p.1 ≠ ld := by
    have hsg := off3 (sg, listOf chs.reverse.toArray ns) (by simp [cLed])
    have hld := off3 (ld, dictOf (lexEs w.params k1 k2 k3 k4 tl tw ln (.ref st) pb) 4) (by simp [cLed])
    refine List.forall_mem_cons.mpr ⟨⟨Ne.symm hsg.1, Ne.symm hld.1⟩, List.forall_mem_cons.mpr ⟨⟨Ne.symm hsg.2.1, Ne.symm hld.2.1⟩, List.forall_mem_cons.mpr ⟨⟨Ne.symm hsg.2.2, Ne.symm hld.2.2⟩, List.forall_mem_cons.mpr ⟨?_, List.forall_mem_cons.mpr ⟨?_, List.forall_mem_cons.mpr ⟨?_, List.forall_mem_cons.mpr ⟨?_, List.forall_mem_cons.mpr ⟨?_, List.forall_mem_nil _⟩⟩⟩⟩⟩⟩⟩⟩ <;> (refine ⟨?_, ?_⟩ <;> (show @Ne Nat _ _; omega))
  dsimp only [cLed, lexLedP, List.cons_append, List.nil_append] at N
  k_steps
  show wpAny (model PySem.Challenge.rw_sl0003_01.row.prog w) (AA dp un fr gd) (call (.ref 73) [.ref lx]) _ _ _
  have N1' : News hb L h ([(I, oI), (C, oC), (D2, LCg.lst ys), (D, listOf ds kD), (L + 1 + 1, oc2), (L + 1, oc1), (a, listOf vs.toArray kr), (113, tabO c')] ++ lexLed w.params lx ld st sd fn c c' sg pb k1 k2 k3 k4 tl tw n5 ns np ln es5 pm ctv oc occ chs.reverse.toArray) := N
  refine tok_fr X0 T (by omega) F N1' own ok sv hT hz1 (by omega) fun h2 tk2 ta2 tl2 ns2 chs2 ln2 F2 N2 sv2 hl2 => ?_
  exact ⟨h2, tk2, _, rfl, F2, N2, off, trivial, ret tl2 ns2 ta2 chs2 ln2 sv2 hl2⟩
theorem reg2_Gr8 : True := by
  k_with "CompSrc" => ((apply stuck))
  trivial
set_option maxHeartbeats 4000000 in
theorem comp_rest {Q : Value → Shared → Prop}
    (X : (hd.heap_39 w.params).In hb) (T : Top p loose mean mg mb hb) (hroom : dp < 790) (ok : LexOk lx ld pb st sd fn c sg c' es5 oc occ vc t) (o : Ord D L a lx ld pb st sd fn c sg c')
    (d2 : oc2.data = .cell (some (.ref lx))) (hT : ∀ i, i < 5 → TokT (RR i) (TT i) (RR (i + 1))) (hz1 : ∀ i, (RR i).length < 1000000) (hz2 : ∀ i, (TT i).length ≤ 5000) {l0 : Int}
    (ret : ∀ h' tk (D2 : Nat) ys tl ns chs (ln : Int), Fr hb L h' (mG D a gap number tg tn td ck cw cl cr cn) → News hb L h' ((D2, LCg.lst ys) :: cLed w.params D kD a kr L oc1 oc2 vs ds lx ld st sd fn c c' sg pb k1 k2 k3 k4 tl tw n5 ns np ln es5 pm ctv oc occ (List.reverse chs).toArray) → SV ys ((List.range 5).map (dwS TT)) → ln + nl (RR 5) = l0 →
      LCg.Off1 D2 (cLed w.params D kD a kr L oc1 oc2 vs ds lx ld st sd fn c c' sg pb k1 k2 k3 k4 tl tw n5 ns np ln es5 pm ctv oc occ (List.reverse chs).toArray) → Q (.ref D2) { s with heap := h', toks := tk }) :
    ∀ (k i : Nat) (ys : List Value) (tl ns : Nat) (chs : List Value) (ln : Int), i + k = 5 → SV chs ((RR i).map sgn) → ln + nl (RR i) = l0 → SV ys ((List.range i).map (dwS TT)) →
      LCg.CompRest PySem.Challenge.rw_sl0003_01.row.prog w (AA dp un fr gd) hb L (mG D a gap number tg tn td ck cw cl cr cn) (grEnv L) grElt (Str.ofString "turn") grCScope [(Str.ofString "lexer", L + 1 + 1)] s (fun _ => True) (fun i v => ∃ t, v = .int (0 + (i : Int)) t)
        (LCg.FinE hb L (mG D a gap number tg tn td ck cw cl cr cn) s Q) k i ys (cLed w.params D kD a kr L oc1 oc2 vs ds lx ld st sd fn c c' sg pb k1 k2 k3 k4 tl tw n5 ns np ln es5 pm ctv oc occ (List.reverse chs).toArray)
  | 0, i, ys, tl, ns, chs, ln, hi, sv, hln, hys => by
    obtain rfl : i = 5 := by omega
    intro D2 h tk F N off
    exact ret h tk D2 ys tl ns chs ln F N hys hln off
  | k + 1, i, ys, tl, ns, chs, ln, hi, sv, hln, hys => by
    intro v I oI C oC D2 m₂ h tk E' hv hoC hx F N off hne
    refine comp_elt X T hroom ok o d2 (hT i (by omega)) (hz1 i) (hz2 i) sv F N off fun tl' ns' ta chs' ln' sv' hl' => ?_
    refine comp_rest X T hroom ok o d2 hT hz1 hz2 ret k (i + 1) _ tl' ns' chs' ln' (by omega) sv' (by omega) ?_
    rw [List.range_succ, List.map_append]
    exact hys.append (.cons .nil)
set_option maxHeartbeats 4000000 in
theorem comp5 {Q : Value → Shared → Prop} {tl ns : Nat} {chs : List Value} {ln : Int}
    (X : (hd.heap_39 w.params).In hb) (T : Top p loose mean mg mb hb) (hroom : dp < 790) (ok : LexOk lx ld pb st sd fn c sg c' es5 oc occ vc t) (o : Ord D L a lx ld pb st sd fn c sg c')
    (d2 : oc2.data = .cell (some (.ref lx))) (hT : ∀ i, i < 5 → TokT (RR i) (TT i) (RR (i + 1))) (hz1 : ∀ i, (RR i).length < 1000000) (hz2 : ∀ i, (TT i).length ≤ 5000) (sv : SV chs ((RR 0).map sgn))
    (F : Fr hb L s.heap (mG D a gap number tg tn td ck cw cl cr cn)) (N : News hb L s.heap (cLed w.params D kD a kr L oc1 oc2 vs ds lx ld st sd fn c c' sg pb k1 k2 k3 k4 tl tw n5 ns np ln es5 pm ctv oc occ chs.reverse.toArray))
    (ret : ∀ h' tk (D2 : Nat) ys tl ns chs (ln' : Int), Fr hb L h' (mG D a gap number tg tn td ck cw cl cr cn) → News hb L h' ((D2, LCg.lst ys) :: cLed w.params D kD a kr L oc1 oc2 vs ds lx ld st sd fn c c' sg pb k1 k2 k3 k4 tl tw n5 ns np ln' es5 pm ctv oc occ (List.reverse chs).toArray) → SV ys ((List.range 5).map (dwS TT)) → ln' + nl (RR 5) = ln + nl (RR 0) →
      LCg.Off1 D2 (cLed w.params D kD a kr L oc1 oc2 vs ds lx ld st sd fn c c' sg pb k1 k2 k3 k4 tl tw n5 ns np ln' es5 pm ctv oc occ (List.reverse chs).toArray) → Q (.ref D2) { s with heap := h', toks := tk }) :
    wpAny (model PySem.Challenge.rw_sl0003_01.row.prog w) (AA dp un fr gd) (eval grComp (grEnv L)) Q (fun _ _ => False) s := by
  have X0 := X
  revert X; k_fill; intro X
  refine LCg.ListComp_U (cl := [(Str.ofString "lexer", L + 1 + 1)]) F rfl (by decide) rfl (by decide) rfl ?_
  have N0 := N
  dsimp only [cLed, lexLedP, List.cons_append, List.nil_append] at N
  k_steps
  show LCg.CompSrc _ _ _ _ _ _ _ _ _ _ _ _ _ _
  rename IsRange _ _ _ _ _ _ _ _ => hr
  rename Fr _ _ _ _ => F9
  rename News _ _ _ _ => N9
  refine LCg.CompSrc.range (n := 5) rfl F9 N9 hr (by decide) (by decide) (by decide) fun g => ?_
  exact comp_rest X0 T hroom ok o d2 hT hz1 hz2 (fun h' tk D2 ys tl ns chs ln' F N hys hl off => ret h' tk D2 ys tl ns chs ln' F N hys hl off) 5 0 [] tl ns chs ln rfl sv rfl .nil
end
end Mine
end
section
open PySem PySem.W PyProof.Rows PySem.Calls PySem.Spec
namespace Mine
theorem start_Gr9 : True := by
  w_top off
  k_with_none
  trivial
section
variable {prog : Program} {w : World} {A : Around} {E : Value → Shared → Prop} {s : Shared} {a b : Addr} {xs ys : List Value} {ds es : List PyData} {Q : Value → Shared → Prop}
theorem ne_lists {r : Bool} (ha : s.heap.IsList a xs.toArray) (hb : s.heap.IsList b ys.toArray) (ca : CarriedAll xs ds) (cb : CarriedAll ys es) (sa : SeqAt.shaped (.list ds) = true) (sb : SeqAt.shaped (.list es) = true) (hu : A.units + 64 < cLine) (he : PyData.eqv (.list ds) (.list es) = r)
    (h : Q (.bool (!r)) s) : wpAny (model prog w) A (compareOp .NotEq (.ref a) (.ref b)) Q E s :=
  ne_dataH (reads_newData ha ca) (reads_newData hb cb) sa sb hu (by rw [he]; exact h)
noncomputable def finD (n : Int) : List PyData := [.str (Str.ofString ".."), .str (Str.ofString ""), .str (Str.ofString "#\x0b."), .str (Str.ofString ".."), .str (Str.ofString ""), .int n]
theorem fin_carried {n : Int} {t0 t1 t2 t3 t4 t5 : Nat} : CarriedAll [Value.str (Str.ofString "..") t0, Value.str (Str.ofString "") t1, Value.str (Str.ofString "#\x0b.") t2, Value.str (Str.ofString "..") t3, Value.str (Str.ofString "") t4, Value.int n t5] (finD n) :=
  .cons (.str _ _) (.cons (.str _ _) (.cons (.str _ _) (.cons (.str _ _) (.cons (.str _ _) (.cons (.int _ _) .nil)))))
theorem fin_shaped (n : Int) : SeqAt.shaped (.list (finD n)) = true := by
  simp only [finD, SeqAt.shaped, PyData.canLay0, PyData.canLayAll0, PyData.depth, PyData.depthAll]
  decide +kernel
theorem fin_eqv (n : Int) : PyData.eqv (.list (finD n)) (.list (finD n)) = true := by
  simp [finD, PyData.eqv, PyData.eqvAll]
end
theorem reg1_Gr9 : True := by
  k_with "compareOp NotEq ref ref" => ((k_here; (with_reducible show wpAny _ _ (compareOp CmpOp.NotEq (Value.ref _) (Value.ref _)) _ _ _); k_dflt (apply ne_lists; (case ha => exact News.isList (by k_asm) (by k_mem)); (case hb => exact News.isList (by k_asm) (by k_mem)); (case ca => exact fin_carried); (case cb => exact fin_carried); (case sa => exact fin_shaped _); (case sb => exact fin_shaped _); (case hu => (simp only [cLine]; omega)); (case he => exact fin_eqv _))))
  k_with "eval ListComp" => ((k_here; (with_reducible show wpAny _ _ (eval (Expr.ListComp _ _ _ _) _) _ _ _); apply stuck))
  trivial
section
variable {w : World} {p : Program} {loose : List Str} {mean : ExcName → Option Value} {mg mb : Str → Option Value} {dp un : Nat} {fr : Option (List Env)} {gd : Option (List Code)} {s : Shared}
    {hb : Heap} {L D a kr tg tn td kD : Nat} {vs : List Value} {ds : Array Value} {gap number n0 : Nat} {oc1 oc2 : Obj}
    {lx ld pb st sd fn c sg c' k1 k2 k3 k4 tw n5 np : Nat} {pm ctv : Value} {oc occ : Obj} {vc : Array Value} {t : Tok} {es5 : List DictEntry}
    {RR : Nat → List Nat} {ck cw cl cr cn : Option Value}
noncomputable def TT : Nat → List Nat | 0 => [46, 46] | 1 => [] | 2 => [35, 11, 46] | 3 => [46, 46] | _ => []
theorem TT_len (i : Nat) : (TT i).length ≤ 5000 := by
  unfold TT; split <;> simp
theorem TT_map : (List.range 5).map (dwS TT) = [Str.ofString "..", Str.ofString "", Str.ofString "#\x0b.", Str.ofString "..", Str.ofString ""] := by decide +kernel
theorem sv5 {ys : List Value} {x0 x1 x2 x3 x4 : Str} (h : SV ys [x0, x1, x2, x3, x4]) : ∃ t0 t1 t2 t3 t4, ys = [.str x0 t0, .str x1 t1, .str x2 t2, .str x3 t3, .str x4 t4] := by
  cases h with | cons h => cases h with | cons h => cases h with | cons h => cases h with | cons h => cases h with | cons h => cases h; exact ⟨_, _, _, _, _, rfl⟩
set_option maxHeartbeats 4000000 in
theorem grow_fin {Q : Flow → Shared → Prop} {tl ns : Nat} {chs : List Value} {ln : Int}
    (X : (hd.heap_39 w.params).In hb) (T : Top p loose mean mg mb hb) (hroom : dp < 790) (hun : un < 5000) (ok : LexOk lx ld pb st sd fn c sg c' es5 oc occ vc t) (o : Ord D L a lx ld pb st sd fn c sg c')
    (d2 : oc2.data = .cell (some (.ref lx))) (hT : ∀ i, i < 5 → TokT (RR i) (TT i) (RR (i + 1))) (hz1 : ∀ i, (RR i).length < 1000000) (sv : SV chs ((RR 0).map sgn)) (hvs : vs.length = n0) (hn0 : n0 ≤ 40)
    (hln : ln + nl (RR 0) = (n0 : Int) + 4 + nl (RR 5))
    (F : Fr hb L s.heap (mG D a gap number tg tn td ck cw cl cr cn)) (N : News hb L s.heap (cLed w.params D kD a kr L oc1 oc2 vs ds lx ld st sd fn c c' sg pb k1 k2 k3 k4 tl tw n5 ns np ln es5 pm ctv oc occ chs.reverse.toArray))
    (ret : ∀ h' tk, Fr hb L h' (mG D a gap number tg tn td ck cw cl cr cn) → News hb L h' [(D, listOf ds kD), (a, listOf vs.toArray kr), (c', occ), (113, tabO c')] → Q (.ret (.ref D)) { s with heap := h', toks := tk }) :
    wpAny (model PySem.Challenge.rw_sl0003_01.row.prog w) (AA dp un fr gd) (execs [grS6, grS7] (grEnv L)) Q (fun _ _ => False) s := by
  have X0 := X
  revert X; k_fill; intro X
  have N0 := N
  obtain ⟨o1, o2, o3, o4, o5, o6, o7, o8, o9, o10, o11, o12⟩ := o.o1
  have hll : vs.toArray.size = n0 := by simpa using hvs
  dsimp only [cLed, lexLedP, List.cons_append, List.nil_append] at N
  k_steps
  show wpAny (model PySem.Challenge.rw_sl0003_01.row.prog w) (AA dp un fr gd) (eval grComp (grEnv L)) _ _ _
  refine comp5 X0 T hroom ok o d2 hT hz1 TT_len sv F N0 fun h2 tk2 D2 ys tl2 ns2 chs2 ln2 F2 N2 hys hl2 off2 => ?_
  rw [TT_map] at hys
  obtain ⟨t0, t1, t2, t3, t4, rfl⟩ := sv5 hys
  obtain rfl : ln2 = (n0 : Int) + 4 := by omega
  clear N N0 F hys hl2 off2 hln
  dsimp only [cLed, lexLedP, List.cons_append, List.nil_append] at N2
  k_steps
  rename Fr _ _ _ _ => F9
  rename News _ _ _ _ => N9
  exact ret _ _ F9 (News.sub N9 (List.forall_mem_cons.mpr ⟨by k_mem, List.forall_mem_cons.mpr ⟨by k_mem, List.forall_mem_cons.mpr ⟨by k_mem, List.forall_mem_cons.mpr ⟨by k_mem, List.forall_mem_nil _⟩⟩⟩⟩))
end
end Mine
end
section
open PySem PySem.W PyProof.Rows PySem.Calls PySem.Spec
namespace Mine
theorem start_Gr6 : True := by
  w_top off
  k_with_none
  trivial
noncomputable def tailS : List Nat := [13, 46, 13, 34, 34, 32, 35, 11, 46, 10, 46]
noncomputable def pgT (gap number : Nat) (xs : List Str) : Str := ⟨(pageS gap number xs ++ tailS).toArray⟩
theorem pgT_eq {gap number : Nat} {xs : List Str} {pg : Str} (h : pg.cps.toList = pageS gap number xs) : pg ++ Str.ofString "\x0d" ++ Str.ofString "." ++ Str.ofString "\x0d\"\" #\x0b.\n" ++ Str.ofString "." = pgT gap number xs := by
  apply Str.ext'
  apply Array.toList_inj.mp
  rw [cat_cps, cat_cps, cat_cps, cat_cps, h, show (Str.ofString "\x0d").cps.toList = [13] from by decide +kernel, show (Str.ofString ".").cps.toList = [46] from by decide +kernel, show (Str.ofString "\x0d\"\" #\x0b.\n").cps.toList = [13, 34, 34, 32, 35, 11, 46, 10] from by decide +kernel]
  simp [pgT, tailS]
theorem reg1_Gr6 : True := by
  k_with "callWith ref" => ((k_here; k_dflt (apply callWith_K; (case he => rfl); (case hplain => rfl); (case _X => k_asm); (case hk => k_is); k_whole)))
  k_with "eval ListComp" => ((k_here; (with_reducible show wpAny _ _ (eval (Expr.ListComp _ _ _ _) _) _ _ _); apply stuck))
  k_with "pyIter ref" => ((k_here; (with_reducible show wpAny _ _ (pyIter (Value.ref _)) _ _ _); apply stuck))
  k_with "exec For Name Call cons nil" => ((k_here; (with_reducible show wpAny _ _ (exec (Stmt.For _ _ _ _ _) _) _ _ _); apply stuck))
  k_with "call ref" => ((k_here; (with_reducible show wpAny _ _ (call (Value.ref 45) [Value.ref _]) _ _ _); k_dflt (apply build_tss; (case F => k_asm); (case N => k_asm); (case X => k_asm); (case T => k_asm); (case I => exact News.isTup (by k_asm) (by news_mem)); (case hroom => ((try simp only [depth_under_make, depth_in1, depth_deeper]); (try dsimp only); omega)); (case hx => first | assumption | decide +kernel); (case hy => first | assumption | decide +kernel)); intro _ _ _ _ _))
  k_with "call ref" => ((k_here; (with_reducible show wpAny _ _ (call (Value.ref 128) [Value.ref _, _, _]) _ _ _); k_dflt (apply page_fr; (case F => k_asm); (case N => k_asm); (case X => k_asm); (case T => k_asm); (case hm => k_mem); (case sv => assumption); (case hn => omega); (case hwl => assumption); (case hgap => omega); (case hnum => assumption); (case hroom => ((try simp only [depth_under_make, depth_in1, depth_deeper]); (try dsimp only); omega))); intro _ _ _ _ _ _ _ _))
  k_with "call ref" => ((k_here; (with_reducible show wpAny _ _ (call (Value.ref 104) [_]) _ _ _); apply stuck))
  k_with "call ref" => ((k_here; (with_reducible show wpAny _ _ (call (Value.ref 118) [_]) _ _ _); apply stuck))
  trivial
theorem grabS {hb h : Heap} {L : Nat} {a1 a2 a3 a4 a5 : Addr} {o1 o2 o3 o4 o5 : Obj} {tab : List (Addr × Obj)} (N : News hb L h ((a1, o1) :: (a2, o2) :: (a3, o3) :: (a4, o4) :: (a5, o5) :: tab)) : News hb L h ([(a3, o3), (a4, o4), (a5, o5)] ++ tab) :=
  News.sub N fun p hp => .tail _ (.tail _ hp)
theorem AllLt.mem' {L : Nat} : ∀ {l : List (Addr × Obj)}, AllLt L l → ∀ q ∈ l, @LT.lt Nat _ q.1 L
  | [], _, _, h => nomatch h
  | _ :: _, x, q, h => by
    rcases List.mem_cons.mp h with rfl | h
    · exact x.1
    · exact AllLt.mem' x.2 q h
theorem cell_ne {hb h : Heap} {L : Nat} {news : List (Addr × Obj)} {x y : Nat} {ox oy : Obj} {v : Option Value} {vs : Array Value} (N : News hb L h news) (m1 : (x, ox) ∈ news) (m2 : (y, oy) ∈ news) (d1 : ox.data = .cell v) (d2 : oy.data = .fields vs) : x ≠ y := fun e => by
  have h1 := (N _ m1).1
  have h2 := (N _ m2).1
  simp only [e] at h1
  simp only at h2
  rw [h2] at h1
  cases h1
  rw [d2] at d1
  cases d1
theorem frG0 {hb h : Heap} {L D a gap number tg tn td : Nat} (F : Fr hb L h (fun y => if y = Str.ofString "told" then some (.ref D) else if y = Str.ofString "dot" then some (.str (Str.ofString ".") td) else if y = Str.ofString "gap" then some (.int (gap : Nat) tg) else
  if y = Str.ofString "number" then some (.int (number : Nat) tn) else if y = Str.ofString "row" then some (.ref a) else none)) : Fr hb L h (mG D a gap number tg tn td none none none none none) := Fr.congr F (by
  intro y
  by_cases h1 : y = Str.ofString "k"
  · subst h1; rfl
  simp only [mG, if_neg h1]
  by_cases h2 : y = Str.ofString "word"
  · subst h2; rfl
  by_cases h3 : y = Str.ofString "left"
  · subst h3; rfl
  by_cases h4 : y = Str.ofString "right"
  · subst h4; rfl
  by_cases h5 : y = Str.ofString "name"
  · subst h5; rfl
  rw [if_neg h2, if_neg h3, if_neg h4, if_neg h5])
section
variable {w : World} {p : Program} {loose : List Str} {mean : ExcName → Option Value} {mg mb : Str → Option Value} {dp un : Nat} {fr : Option (List Env)} {gd : Option (List Code)} {s : Shared}
    {hb : Heap} {a kr tt tn : Nat} {vs : List Value} {xs : List Str} {text : Str} {number gap : Nat} {tab : List (Addr × Obj)} {R dw : Nat → List Nat} {newS : Str}
structure GrowOk (xs : List Str) (text : Str) (number gap : Nat) (R dw : Nat → List Nat) (newS : Str) : Prop where
  gp : gap = ((inner xs).filter (gapP text)).length
  lt : gap + 1 < xs.length
  n40 : xs.length ≤ 40
  wl : ∀ (i : Nat) x, xs[i]? = some x → x.length ≤ 1000
  num : number ≤ 100000000
  z1 : (pgT gap number xs).cps.size ≤ 1000000
  z2 : (crS (pgT gap number xs)).cps.size ≤ 1000000
  txt : (doS (crS (pgT gap number xs))).cps.toList = R 0
  rr : (Builtin.Str.occurrences (doS (crS (pgT gap number xs))) (Str.ofString "\x0d\x0d") 0 (doS (crS (pgT gap number xs))).length 1).isEmpty = true
  tok : ∀ i, i < xs.length → TokT (R i) (dw i) (R (i + 1))
  rz : ∀ i, (R i).length < 1000000
  dz : ∀ i, (dw i).length ≤ 5000
  ln : ∀ i, i < xs.length → 1 + nl (R 0) = (i : Int) + 1 + nl (R (i + 1))
  tail : ∀ i, i < 5 → TokT (R (xs.length + i)) (TT i) (R (xs.length + i + 1))
  fin : 1 + nl (R 0) = (xs.length : Int) + 4 + nl (R (xs.length + 5))
  new : newS = Str.ofString "." ++ (Txt.lstripChars (dwS dw gap) (Str.ofString ".") ++ Str.ofString "." ++ Txt.lstripChars (dwS dw (gap + 1)) (Str.ofString "."))
set_option maxHeartbeats 8000000 in
theorem c_grow {E Q : Value → Shared → Prop} (B : Bs hb s.heap) (X : (hd.heap_39 w.params).In hb) (T : Top p loose mean mg mb hb) (C : CodeHd hb 117 113) (hroom : dp < 780) (hun : un < 4000)
    (N : Led hb s.heap ((a, listOf vs.toArray kr) :: tab)) (tS : TabS tab) (hat : ∀ q ∈ tab, a ≠ q.1) (sv : SV vs xs) (G : GrowOk xs text number gap R dw newS)
    (ret : ∀ h' tk (D : Nat) ds kD (c' : Nat) occ, Bs hb h' → Led hb h' [(D, listOf ds kD), (a, listOf vs.toArray kr), (c', occ), (113, tabO c')] → SV ds.toList (toldS dw gap newS xs.length) → TabS [(c', occ), (113, tabO c')] → 113 < D → a < D → c' < D → Q (.ref D) { s with heap := h', toks := tk }) :
    wpAny (model PySem.Challenge.rw_sl0003_01.row.prog w) (AA dp un fr gd) (call (.ref 133) [.ref a, .str text tt, .int number tn]) Q E s := by
  have X0 := X
  revert X; k_fill; intro X
  have hn2 := G.n40
  have hlt := G.lt
  have hgl : gap ≤ 40 := by omega
  have hnum := G.num
  have hwl := G.wl
  refine entC (binds := [(Str.ofString "row", .ref a), (Str.ofString "text", .str text tt), (Str.ofString "number", .int number tn)]) B X T N rfl rfl (by show dp < _; simp only [recursionLimit]; omega) rfl rfl (by decide +kernel) rfl rfl rfl ?_
  intro L h₁ tk cells e F' N' Y' l0 K'
  k_lt l0
  k_cells Y'
  simp only [List.cons_append, List.nil_append] at N'
  change wpAny _ _ _ _ _ _
  k_fold
  k_steps
  change wpAny _ _ _ _ _ _
  rename Fr _ _ _ _ => F4
  rename News _ _ _ _ => N4
  have F5 := F4
  rw [bindL_gr] at F5
  refine grow_gap (dp := dp + 1) X T (by omega) F5 N4 (.tail _ (.tail _ (.head _))) (.tail _ (.head _)) (by assumption) sv hn2 (fun x hx => by obtain ⟨i, hi, e⟩ := List.getElem_of_mem hx; exact hwl i x (by rw [← e]; exact List.getElem?_eq_getElem hi)) fun h6 tk6 D6 ys6 k6 F6 N6 hl6 d6 => ?_
  rw [← G.gp] at hl6
  clear F4 N4 F5
  have hl7 : ys6.toArray.size = gap := by simpa using hl6
  k_steps
  change wpAny _ _ _ _ _ _
  rename Fr _ _ _ _ => F8
  rename News _ _ _ _ => N8
  rename (_ = pageS _ _ _) => hpg
  rw [pgT_eq hpg]
  refine quote_fr (dp := dp + 1) X T (by omega) F8 N8 G.z1 G.z2 fun h9 tk9 t9 F9 N9 => ?_
  clear F8 N8 hpg
  k_steps
  change wpAny _ _ _ _ _ _
  have N10 := grabS N9
  have htab : ∀ q ∈ tab, @LT.lt Nat _ q.1 L := AllLt.mem' l0.2
  refine reader_fr (dp := dp + 1) X T C (by omega) F9 N10 tS ?_ ?_ G.rr fun h11 tk11 lx ld pb st sd fn c sg c' k1 k2 k3 k4 tl tw n5 nsg es5 oc occ chs pm ctv vc t F11 N11 ok svs how h113 tS' hc113 => ?_
  · refine List.forall_mem_cons.mpr ⟨fun q hq => ?_, List.forall_mem_cons.mpr ⟨fun q hq => ?_, List.forall_mem_cons.mpr ⟨fun q hq => hat q hq, List.forall_mem_nil _⟩⟩⟩
    · have := htab q hq; show @Ne Nat _ _; omega
    · have := htab q hq; show @Ne Nat _ _; omega
  · have h1 := congrArg List.length G.txt
    have h2 := G.rz 0
    rw [Array.length_toList] at h1
    show (doS (crS (pgT gap number xs))).cps.size ≤ _
    simp only [sizeLine]; omega
  clear F9 N9 N10
  dsimp only [lexLed, List.cons_append, List.nil_append] at N11
  obtain ⟨p1, p2, p3, p4, p5, p6, p7, p8, p9⟩ := h113
  have q1 : L + 1 + 1 < c := how _ (.head _)
  have q2 : a < L := l0.1
  have q3 : 113 < L := by cases tS <;> first | exact htab _ (.head _) | exact htab _ (.tail _ (.head _))
  rename (Obj.data _ = _) => dA
  rename (Obj.data _ = _) => dB
  have q4 : L + 1 + 1 ≠ c' := cell_ne N11 (.head _) (.tail _ (.tail _ (.tail _ (.tail _ (.tail _ (.tail _ (.tail _ (.tail _ (.tail _ (.tail _ (.head _))))))))))) (by assumption) ok.d1
  have q5 : L + 1 ≠ c' := cell_ne N11 (.tail _ (.head _)) (.tail _ (.tail _ (.tail _ (.tail _ (.tail _ (.tail _ (.tail _ (.tail _ (.tail _ (.tail _ (.head _))))))))))) (by assumption) ok.d1
  k_steps
  change wpAny _ _ _ _ _ _
  rename Fr _ _ _ _ => F13
  rename News _ _ _ _ => N13
  have F14 := frG0 F13
  obtain ⟨D, hD⟩ := grabD N13
  subst hD
  have oD : Ord D L a lx ld pb st sd fn c sg c' := ⟨by omega⟩
  have sv0 : SV chs ((R 0).map sgn) := by rw [← G.txt]; exact svs
  have hvl : vs.length = xs.length := sv.length
  refine grow_loop (dp := dp + 1) (un := un + 3) (newS := newS) (n0 := xs.length) X0 T (by omega) ok oD (by assumption) G.tok G.rz G.dz sv0 hn2 hvl hlt G.ln G.new F14 N13 fun h15 tk15 ck cw cl cr cn kD ds tl2 ns2 np2 chs2 ln2 F15 N15 hds15 sv15 hl15 => ?_
  refine grow_fin (dp := dp + 1) (un := un + 3) (RR := fun i => R (xs.length + i)) X0 T (by omega) (by omega) ok oD (by assumption) G.tail (fun i => G.rz _) sv15 hvl hn2 (by have := G.fin; show ln2 + nl (R xs.length) = _; omega) F15 N15 fun h16 tk16 F16 N16 => ?_
  exact ret h16 tk16 D ds kD c' occ (toBs F16) (toLed N16) hds15 tS' (by omega) (by omega) (by omega)
end
end Mine
end
section
open PySem PySem.W PyProof.Rows PySem.Calls PySem.Spec
namespace Mine
theorem start_Le : True := by
  w_top off
  k_with_none
  trivial
noncomputable def leInts : List Int → List Int → Bool
  | [], _ => true
  | _ :: _, [] => false
  | x :: r, y :: t => if x = y then leInts r t else decide (x ≤ y)
theorem ints_length : ∀ {vs : List Value} {ns : List Int}, IntsAre vs ns → vs.length = ns.length
  | _, _, .nil => rfl
  | _, _, .cons _ _ h => congrArg (· + 1) (ints_length h)
section
open AutoSeq1 (wpAny_loadPart')
open MeetsSeq MeetsSeq2 MeetsSeq3 SeqRoads2
set_option maxHeartbeats 4000000 in
theorem le_loop (l b : Addr) (vs ws : List Value) (ns ms : List Int) (hi : IntsAre vs ns) (hj : IntsAre ws ms) (n n2 : Nat) (dd dd2 : Option Addr) (sl sl2 : Array (Option Value)) (k : Nat) :
    ∀ i : Nat, vs.length - i = k → Meets (Builtin.«list.__eq__.loop» ⟨[.ref l, .ref b, rawInt i, rawInt 1], []⟩)
      (fun A R s => s.heap.get? l = some { cls := .type "list", dict := dd, data := .seq vs.toArray n, slots := sl } ∧ s.heap.get? b = some { cls := .type "list", dict := dd2, data := .seq ws.toArray n2, slots := sl2 } ∧
        i ≤ vs.length ∧ i ≤ ws.length ∧
        R (.ok (.ret (.bool (leInts (ns.drop i) (ms.drop i))))) s) := by
  have ln : vs.length = ns.length := ints_length hi
  have lm : ws.length = ms.length := ints_length hj
  induction k with
  | zero =>
    intro i hk prog w A R s h
    obtain ⟨hp, g, d, tk, os⟩ := s; obtain ⟨hl, hb, h1, h2, h⟩ := h
    wp_walk using wpAny_loadPart' hl, wpAny_loadPart' hb
    have hi1 : vs.toArray[((i : Nat) : Int).toNat]? = none := by simp; omega
    have hd : ns.drop i = [] := by simp; omega
    rw [hd] at h
    rw [hi1]
    have e : ∀ o : Option Value, (match (none : Option Value), o with | some x, some y => True | _, _ => False) = False := fun _ => rfl
    cases hq : ws.toArray[((i : Nat) : Int).toNat]? with
    | none =>
      wp_walk using wpAny_loadPart' hl, wpAny_loadPart' hb
      show R (.ok (.ret (.bool (decide (vs.toArray.size ≤ ws.toArray.size))))) _
      rw [decide_eq_true (by simp; omega)]
      exact h
    | some y =>
      wp_walk using wpAny_loadPart' hl, wpAny_loadPart' hb
      show R (.ok (.ret (.bool (decide (vs.toArray.size ≤ ws.toArray.size))))) _
      rw [decide_eq_true (by simp; omega)]
      exact h
  | succ k ih =>
    intro i hk prog w A R s h
    obtain ⟨hp, g, d, tk, os⟩ := s; obtain ⟨hl, hb, h1, h2, h⟩ := h
    wp_walk using wpAny_loadPart' hl, wpAny_loadPart' hb
    have hlt : i < vs.length := by omega
    obtain ⟨x, tx, hx, hxn⟩ := hi.at i _ (List.getElem?_eq_getElem hlt)
    have hi1 : vs.toArray[((i : Nat) : Int).toNat]? = some (.int x tx) := by simp [hlt, hx]
    rw [hi1]
    have hd : ns.drop i = x :: ns.drop (i + 1) := by
      have h' : i < ns.length := by omega
      rw [List.drop_eq_getElem_cons h']
      rw [List.getElem?_eq_getElem h'] at hxn
      injection hxn with e; rw [e]
    by_cases hlt2 : i < ws.length
    · obtain ⟨y, ty, hy, hyn⟩ := hj.at i _ (List.getElem?_eq_getElem hlt2)
      have hi2 : ws.toArray[((i : Nat) : Int).toNat]? = some (.int y ty) := by simp [hlt2, hy]
      rw [hi2]
      have hd2 : ms.drop i = y :: ms.drop (i + 1) := by
        have h' : i < ms.length := by omega
        rw [List.drop_eq_getElem_cons h']
        rw [List.getElem?_eq_getElem h'] at hyn
        injection hyn with e; rw [e]
      rw [hd, hd2, leInts] at h
      refine wpAny_bind ((EqGives.int x y tx ty).at A.in1 _ prog w _ _ ?_)
      by_cases hxy : x = y
      · rw [if_pos hxy] at h
        rw [show (x == y) = true from by simpa using hxy]
        have hc : ((i : Int) + 1) = ((i + 1 : Nat) : Int) := by push_cast; rfl
        wp_walk
        rw [hc]
        exact ⟨plainId_quiet plain_eq_loop _, codeAny_builtin entry_eq_loop (by
          rw [Around.under_plainId plain_eq_loop _]
          exact ih (i + 1) (by omega) prog w A R _ ⟨hl, hb, by omega, by omega, h⟩)⟩
      · rw [if_neg hxy] at h
        rw [show (x == y) = false from by simpa using hxy]
        wp_walk using wpAny_loadPart' hl, wpAny_loadPart' hb
        rw [hi1, hi2]
        refine wpAny_bind (show wpAny _ _ (compareOp .LtE (.int x tx) (.int y ty)) _ _ _ from le_int ?_)
        wp_walk
        exact h
    · have hi2 : ws.toArray[((i : Nat) : Int).toNat]? = none := by simp; omega
      rw [hi2]
      have hd2 : ms.drop i = [] := by simp; omega
      rw [hd, hd2] at h
      wp_walk using wpAny_loadPart' hl, wpAny_loadPart' hb
      show R (.ok (.ret (.bool (decide (vs.toArray.size ≤ ws.toArray.size))))) _
      rw [decide_eq_false (by simp; omega)]
      exact h
theorem list_leAt (l b : Addr) (vs ws : List Value) (ns ms : List Int) (hi : IntsAre vs ns) (hj : IntsAre ws ms) (n n2 : Nat) (dd dd2 : Option Addr) (sl sl2 : Array (Option Value)) :
    Meets (Builtin.«list.__le__» ⟨[.ref l, .ref b], []⟩)
      (fun A R s => s.heap.get? l = some { cls := .type "list", dict := dd, data := .seq vs.toArray n, slots := sl } ∧ s.heap.get? b = some { cls := .type "list", dict := dd2, data := .seq ws.toArray n2, slots := sl2 } ∧
        R (.ok (.ret (.bool (leInts ns ms)))) s) := by
  intro prog w A R s h
  obtain ⟨hp, g, d, tk, os⟩ := s; obtain ⟨hl, hb, h⟩ := h
  have f3 := AutoSeq1.sub_list_list
  wp_walk using wpAny_loadPart' hl, wpAny_loadPart' hb
  exact ⟨plainId_quiet plain_eq_loop _, codeAny_builtin entry_eq_loop (by
    rw [Around.under_plainId plain_eq_loop _]
    exact le_loop l b vs ws ns ms hi hj n n2 dd dd2 sl sl2 _ 0 rfl prog w A R _ ⟨hl, hb, Nat.zero_le _, Nat.zero_le _, h⟩)⟩
theorem le_lists {prog : Program} {w : World} {A : Around} {E : Value → Shared → Prop} {s : Shared} {l b : Addr} {vs ws : List Value} {ns ms : List Int} {Q : Value → Shared → Prop} (hl : s.heap.IsList l vs.toArray) (hb : s.heap.IsList b ws.toArray)
    (hi : IntsAre vs ns) (hj : IntsAre ws ms) (hu : A.units < cLine) (h : Q (.bool (leInts ns ms)) s) : wpAny (model prog w) A (compareOp .LtE (.ref l) (.ref b)) Q E s := by
  obtain ⟨⟨cls, dd, data, sl⟩, ho, hc, n, hd⟩ := id hl
  obtain ⟨⟨cls2, dd2, data2, sl2⟩, ho2, hc2, n2, hd2⟩ := id hb
  simp only at hc hd hc2 hd2
  subst hc hd hc2 hd2
  show wpAny _ _ (richCompare .LtE (.ref l) (.ref b)) Q E s
  exact richCompare_meets_room (op := .LtE) ⟨_, ho, rfl⟩ ⟨_, ho2, rfl⟩ F.slot_list_le F.entry_list_le (F.args_list_le_2 _ _) (list_leAt l b vs ws ns ms hi hj n n2 dd dd2 sl sl2)
    ⟨ho, ho2, show Value.bool (leInts ns ms) ≠ Value.notImplemented ∧ Q (.bool (leInts ns ms)) s from ⟨(fun x => nomatch x), h⟩⟩ hu
end
end Mine
end
section
open PySem PySem.W PyProof.Rows PySem.Calls PySem.Spec
namespace Mine
theorem start_La0 : True := by
  w_top off
  k_with_none
  trivial
section
variable {prog : Program} {w : World} {A : Around} {E : Value → Shared → Prop} {s : Shared} {hb : Heap} {L : Addr} {m : Str → Option Value}
noncomputable def LstRun (prog : Program) (w : World) (A : Around) (env : Env) (target : Expr) (body : List Stmt) (s : Shared) (hb : Heap) (L : Addr) (Q : Flow → Shared → Prop) (x : Value) (s₁ : Shared) : Prop :=
  ∃ (P : Addr) (oP : Obj) (vals : List Value) (nP : Nat) (bd : Nat → Prop) (J : Nat → (Str → Option Value) → List (Addr × Obj) → Prop) (h : Heap) (tk : Nat) (m : Str → Option Value) (news : List (Addr × Obj)),
    x = .ref P ∧ s₁ = { s with heap := h, toks := tk } ∧ Fr hb L h m ∧ News hb L h news ∧ oP.cls = .type "list" ∧ oP.data = .seq vals.toArray nP ∧ (∀ j m news, J j m news → (P, oP) ∈ news) ∧
    (∀ I2, (∀ p ∈ news, @LT.lt Nat _ p.1 I2) → bd I2) ∧ J 0 m news ∧
    (∀ j v I2 oI h tk m news, vals[j]? = some v → J j m news → bd I2 → Fr hb L h m → News hb L h ((I2, oI) :: news) → (∀ p ∈ news, p.1 ≠ I2) →
      wpAny (model prog w) A (assign target env v) (fun _ s₂ => wpAny (model prog w) A (execs body env) (StepT s hb L J Q j I2 oI) (fun _ _ => False) s₂) (fun _ _ => False) { s with heap := h, toks := tk }) ∧
    (∀ h tk m news, J vals.length m news → Fr hb L h m → News hb L h news → Q .next { s with heap := h, toks := tk })
theorem for_lst {env : Env} {target iter : Expr} {body : List Stmt} {pos : Pos} {Q : Flow → Shared → Prop} (hh : A.handled = none)
    (hi : wpAny (model prog w) A (eval iter env) (LstRun prog w A env target body s hb L Q) (fun _ _ => False) s)
    (ht : ∀ it v, letOwnedTupleGo target it v = pure () := by intro _ _; rfl)
    (hs : ∀ x, foldedSetIterable iter env x = pure x := by intro _; rfl) :
    wpAny (model prog w) A (exec (.For target iter body [] pos) env) Q E s := by
  refine wpAny_For (wpAny_mono hi (fun x s₁ h₁ => ?_) fun _ _ e => e.elim) hs
  obtain ⟨P, oP, vals, nP, bd, J, h0, tk0, m0, news0, rfl, rfl, F0, N0, hc, hd, hJP, hb0, hJ0, step, done⟩ := h₁
  have hT0 : h0.IsList P vals.toArray := ⟨oP, (N0 _ (hJP _ _ _ hJ0)).1, hc, nP, hd⟩
  refine wpAny_pyIter_list hT0 ?_
  have lt : ∀ p ∈ news0, @LT.lt Nat _ p.1 h0.objs.size := fun p hp => Heap.lt_size (N0 p hp).1
  refine codeAny_forLoop (fun n s' => ∃ I2 oI h tk m news j, h0.objs.size = I2 ∧ s' = { s with heap := h, toks := tk } ∧ Fr hb L h m ∧ News hb L h ((I2, oI) :: news) ∧ (∀ p ∈ news, p.1 ≠ I2) ∧ bd I2 ∧ J j m news ∧ h.IsListIter I2 P j ∧ j ≤ vals.length ∧ n = vals.length - j) ?_ vals.length
    ⟨h0.objs.size, _, _, _, m0, news0, 0, rfl, rfl, F0.push _, N0.push F0 _, fun p hp e => by have := lt p hp; have e' : @Eq Nat p.1 h0.objs.size := e; omega, hb0 _ lt, hJ0, ⟨_, Heap.get?_push_size _ rfl, rfl, rfl⟩, Nat.zero_le _, rfl⟩ (ht _)
  rintro n s' ⟨I2, oI, h, tk, m, news, j, rfl, rfl, F, N, hne, hb', hJ, hit, hj, rfl⟩
  generalize h0.objs.size = I2 at *
  have hP := N _ (.tail _ (hJP _ _ _ hJ))
  have hT : h.IsList P vals.toArray := ⟨oP, hP.1, hc, nP, hd⟩
  by_cases hlt : j < vals.length
  · refine wpAny_pyNext_list_item hit hT (x := vals[j]) (by simp [hlt]) fun h' hit' hs' => ?_
    obtain ⟨oI', ho', _⟩ := id hit'
    obtain ⟨F', N'⟩ := ext_upd F N ho' (fun b o hb e => hs'.extBut b o hb e) hne
    refine wpAny_mono (step j _ I2 oI' h' _ m news (List.getElem?_eq_getElem hlt) hJ hb' F' N' hne) (fun _ s₂ h₂ => wpAny_mono h₂ (fun f s₃ h₃ => ?_) fun _ _ e => e.elim) fun _ _ e => e.elim
    have key : ∀ h3 tk3 m3 news3, s₃ = { s with heap := h3, toks := tk3 } → Fr hb L h3 m3 → News hb L h3 ((I2, oI') :: news3) → (∀ p ∈ news3, p.1 ≠ I2) → J (j + 1) m3 news3 → ∃ mm, mm < vals.length - j ∧ ∃ I2' oI h tk m news j', I2 = I2' ∧ s₃ = { s with heap := h, toks := tk } ∧ Fr hb L h m ∧ News hb L h ((I2', oI) :: news) ∧ (∀ p ∈ news, p.1 ≠ I2') ∧ bd I2' ∧ J j' m news ∧ h.IsListIter I2' P j' ∧ j' ≤ vals.length ∧ mm = vals.length - j' := fun h3 tk3 m3 news3 e F3 N3 hne3 hJ3 => by
      refine ⟨vals.length - (j + 1), by omega, I2, oI', h3, tk3, m3, news3, j + 1, rfl, e, F3, N3, hne3, hb', hJ3, ?_, hlt, rfl⟩
      obtain ⟨o2, e2, r2⟩ := hit'
      rw [ho'] at e2
      cases e2
      exact ⟨oI', (N3 _ (.head _)).1, r2⟩
    cases f with
    | next =>
      obtain ⟨h3, tk3, m3, news3, e, F3, N3, hne3, hJ3⟩ := h₃
      exact key h3 tk3 m3 news3 e F3 N3 hne3 hJ3
    | cont =>
      obtain ⟨h3, tk3, m3, news3, e, F3, N3, hne3, hJ3⟩ := h₃
      exact key h3 tk3 m3 news3 e F3 N3 hne3 hJ3
    | brk => exact h₃
    | ret v => exact h₃
  · obtain rfl : j = vals.length := by omega
    refine wpAny_pyNext_list_end hh hit hT (by simp) fun h' hk => ?_
    have n := N _ (.head _)
    refine wpAny_execs_nil (done h' _ m news hJ ⟨F.ns.extBut hk n.2.1.symm, fun b x e => hk _ _ (fun q => by rw [q, n.2.2] at e; cases e) (F.keep _ _ e), F.above⟩ fun p hp => ?_)
    have n2 := N p (.tail _ hp)
    exact ⟨hk _ _ (hne p hp) n2.1, n2.2⟩
end
noncomputable def GotRelT {α : Type} (s : Shared) (hb : Heap) (L : Addr) (m : Str → Option Value) (news : List (Addr × Obj)) (R : Value → α → Prop) (cs : List α) (xv : Value) (s₁ : Shared) : Prop :=
  ∃ (a : Nat) (h : Heap) (tk : Nat) (vs : List Value), xv = .ref a ∧ s₁ = { s with heap := h, toks := tk } ∧ Fr hb L h m ∧ News hb L h news ∧ IsTup h a vs.toArray ∧ RelAll R vs cs
section
variable {prog : Program} {w : World} {A : Around} {E : Value → Shared → Prop} {s : Shared} {hb : Heap} {L : Addr} {m : Str → Option Value} {news : List (Addr × Obj)}
theorem comp_tupE {α : Type} {env : Env} {elt iter : Expr} {x : Str} {px : Pos} {scope : Scope} {cl : List (Str × Addr)} {pos : Pos} {Q : Value → Shared → Prop} {cs : List α} (R : Value → α → Prop) (f : α → Str)
    (_F : Fr hb L s.heap m) (_N : News hb L s.heap news) (hfun : ∀ v c c', R v c → R v c' → f c = f c') (hh : A.handled = none) (hclos : closureFor scope env = pure cl) (hcell : ∀ y ∈ scope.names, y.2 ≠ .cell) (hkind : scope.kind = .function)
    (hnames : ∀ y ∈ scope.names, y.2 = .local → scope.names.lookup y.1 = some .local) (hx : scope.names.lookup x = some .local) (hsz : cs.length ≤ 1000000)
    (hi : wpAny (model prog w) A (eval iter env) (GotRelT s hb L m news R cs) E s)
    (he : ∀ v c C s₃ m₃ E', R v c → c ∈ cs → s₃.heap.Ns C m₃ → m₃ x = some v → (∀ b o, hb.get? b = some o → s₃.heap.get? b = some o) → (∀ p ∈ news, s₃.heap.get? p.1 = some p.2) →
      wpAny (model prog w) A (eval elt (compEnvC scope cl C env)) (GotElt (f c) s₃) E' s₃)
    (h : ∀ h' tk (D : Nat) (ys : List Value) k, Fr hb L h' m → News hb L h' ((D, listOf ys.toArray k) :: news) → SV ys (cs.map f) → (∀ p ∈ news, p.1 ≠ D) → Q (.ref D) { s with heap := h', toks := tk })
    (hs : ∀ x, foldedSetIterable iter env x = pure x := by intro _; rfl) :
    wpAny (model prog w) A (eval (.ListComp elt [⟨.Name x px, iter, [], 0⟩] scope pos) env) Q E s := by
  refine wpAny_ListComp_free (fun _ => true) (fun v y => ∀ c, (R v c ∧ c ∈ cs) → ∃ u, y = Value.str (f c) u) hclos hcell hkind hnames hx (wpAny_mono hi (fun xv s₁ h₁ => ?_) fun _ _ e => e) hs
  obtain ⟨a, h1, tk1, vs, rfl, rfl, F, N, hl, hrel⟩ := h₁
  have hlen0 := hrel.1
  have hne : a ≠ h1.objs.size := by obtain ⟨o, ho, _⟩ := hl; exact Nat.ne_of_lt (Heap.lt_size ho)
  have hlt : a < h1.objs.size := by obtain ⟨o, ho, _⟩ := hl; exact Heap.lt_size ho
  refine wpAny_pyIter_tuple hl ⟨_, _, _, _, _, _, rfl, Walks.tuple hh h1.objs.size a hne vs.toArray, by simp only [sizeLine, List.size_toArray]; omega, ⟨⟨_, Heap.get?_push_size _ rfl, rfl, rfl⟩, Heap.IsTuple.push hl _⟩, fun b hb => ?_, ⟨fun C i v s₃ m₃ E' _ _ _ _ _ _ => ?_, fun C i v s₃ m₃ E' _ hv _ hn hm hk _ => ?_⟩, fun D h' tk ys vs' hD hl' hpl hlen hP hF hk => ?_⟩
  · rcases List.mem_cons.mp hb with rfl | hb
    · rw [Heap.size_push]; exact Nat.lt_succ_self _
    · rw [List.mem_singleton.mp hb, Heap.size_push]; exact Nat.lt_succ_of_lt hlt
  · rw [List.forIn_nil]; exact wpAny_pure ⟨rfl, ⟨_, _, rfl, fun _ _ e => e⟩⟩
  · obtain ⟨c, hc, hRv⟩ := hrel.get (j := i) (v := v) (by simpa using hv)
    have hcm : c ∈ cs := List.mem_of_getElem? hc
    refine wpAny_mono (he v c C s₃ m₃ E' hRv hcm hn hm (fun b o' e => hk b o' (fun q => ?_) (Heap.get?_push_of_some _ (F.keep _ _ e))) fun p hp => hk _ _ (fun q => ?_) (Heap.get?_push_of_some _ (N p hp).1)) (fun y s₄ h₄ => ⟨fun c' hc' => ?_, h₄.2⟩) fun _ _ e => e
    · rw [List.mem_singleton.mp q] at e; exact absurd (Heap.lt_size (F.keep _ _ e)) (Nat.lt_irrefl _)
    · have := Heap.lt_size (N p hp).1; rw [List.mem_singleton.mp q] at this; exact absurd this (Nat.lt_irrefl _)
    · rw [← hfun v c c' hRv hc'.1]; exact h₄.1
  · have nD : ∀ b o', h1.get? b = some o' → h'.get? b = some o' := fun b o' e => hk b o' (fun q => by rw [List.mem_singleton.mp q] at e; exact absurd (Heap.lt_size e) (Nat.lt_irrefl _)) (Heap.get?_push_of_some _ e)
    have h1D : h1.get? D = none := by
      cases q : h1.get? D with
      | none => rfl
      | some o' => rw [Heap.get?_push_of_some _ q] at hD; cases hD
    obtain ⟨k, hpl⟩ := hpl
    obtain ⟨F', N', d'⟩ := new_ledger F N h1D nD hpl
    refine h h' tk D ys.toList k F' (by simpa using N') ?_ d'
    rw [List.filter_eq_self.mpr (fun _ _ => rfl)] at hF
    refine SV.of_paired (R := fun v c => R v c ∧ c ∈ cs) hF (by rw [hlen, List.size_toArray]; exact hrel.1) fun j v c hv hc => ?_
    have := hP j v hv
    exact ⟨hrel.2 j v c (by simpa using this) hc, List.mem_of_getElem? hc⟩
end
end Mine
end
section
open PySem PySem.W PyProof.Rows PySem.Calls PySem.Spec PySem.Builtin.Re
namespace Mine
theorem start_Lw1 : True := by
  w_top off
  k_with_none
  trivial
noncomputable def crB : Bool → List Nat → List Nat
  | _, [] => []
  | b, c :: r => if b = true ∧ c = 10 then crB false r else if c = 13 then 13 :: 10 :: crB true r else if c = 10 then 13 :: 10 :: crB false r else c :: crB false r
noncomputable def crL (l : List Nat) : List Nat := crB false l
noncomputable def doL : Bool → List Nat → List Nat
  | _, [] => []
  | b, c :: r => if b = true ∧ c = 46 then 46 :: 46 :: doL false r else c :: doL (c == 10) r
theorem drop_at {text : Array Nat} {s : Nat} (h : s < text.size) : text.toList.drop s = text.getD s 0 :: text.toList.drop (s + 1) := by
  rw [List.drop_eq_getElem_cons (by simpa using h)]
  simp [Array.getD, h]
theorem drop_over {text : Array Nat} {s : Nat} (h : ¬ s < text.size) : text.toList.drop s = [] := List.drop_of_length_le (by simp; omega)
theorem crL_nil : crL [] = [] := rfl
theorem crL_plain {c : Nat} {r : List Nat} (h : c ≠ 13) (h2 : c ≠ 10) : crL (c :: r) = c :: crL r := by
  unfold crL; rw [crB, if_neg (by simp), if_neg h, if_neg h2]
theorem crL_10 (r : List Nat) : crL (10 :: r) = 13 :: 10 :: crL r := rfl
theorem crL_1310 (r : List Nat) : crL (13 :: 10 :: r) = 13 :: 10 :: crL r := rfl
theorem crL_13 {r : List Nat} (h : ∀ r', r ≠ 10 :: r') : crL (13 :: r) = 13 :: 10 :: crL r := by
  show 13 :: 10 :: crB true r = 13 :: 10 :: crB false r
  cases r with
  | nil => rfl
  | cons c r =>
    have h2 : c ≠ 10 := fun e => h r (by rw [e])
    simp [crB, h2]
theorem next2_crL {text : Array Nat} : ∀ n s, text.size + 1 - s ≤ n → match next2 text text.size n s with
    | some e => crL (text.toList.drop s) = (text.toList.drop s).take (e - s) ++ [13, 10] ++ crL (text.toList.drop (step2 text text.size e))
    | none => crL (text.toList.drop s) = text.toList.drop s
  | 0, s, h => by
    show crL _ = _
    rw [drop_over (by omega)]; exact crL_nil
  | n + 1, s, h => by
    unfold next2
    by_cases h1 : s ≥ text.size
    · rw [if_pos h1]
      show crL _ = _
      rw [drop_over (by omega)]; exact crL_nil
    rw [if_neg h1]
    have hd := drop_at (text := text) (s := s) (by omega)
    by_cases h2 : text.getD s 0 = 10 ∨ text.getD s 0 = 13
    · rw [if_pos h2]
      show crL _ = _
      rw [Nat.sub_self, List.take_zero, List.nil_append]
      unfold step2
      by_cases h3 : text.getD s 0 = 13 ∧ s + 1 < text.size ∧ text.getD (s + 1) 0 = 10
      · rw [if_pos h3, hd, drop_at h3.2.1, h3.1, h3.2.2, crL_1310]; rfl
      · rw [if_neg h3, hd]
        rcases h2 with h2 | h2
        · rw [h2, crL_10]; rfl
        · rw [h2, crL_13]
          · rfl
          · intro r' e
            by_cases h4 : s + 1 < text.size
            · rw [drop_at h4] at e
              exact h3 ⟨h2, h4, by injection e⟩
            · rw [drop_over h4] at e; cases e
    · rw [if_neg h2]
      have ih := next2_crL (text := text) n (s + 1) (by omega)
      have hp := crL_plain (r := text.toList.drop (s + 1)) (fun q => h2 (.inr q)) (fun q => h2 (.inl q))
      cases q : next2 text text.size n (s + 1) with
      | none =>
        rw [q] at ih
        show crL _ = _
        rw [hd, hp]; exact congrArg _ ih
      | some e =>
        rw [q] at ih
        show crL _ = _
        have he : s + 1 ≤ e := (next2_spec _ _ _ q).2.2
        obtain ⟨k, rfl⟩ : ∃ k, e = s + 1 + k := ⟨e - (s + 1), by omega⟩
        rw [hd, hp, ih, show s + 1 + k - s = k + 1 by omega, show s + 1 + k - (s + 1) = k by omega, List.take_succ_cons]
        rfl
theorem crS_eq (x : Str) : (crS x).cps.toList = crL x.cps.toList := by
  have key : ∀ fuel pos, x.cps.size + 1 - pos ≤ fuel → pos ≤ x.cps.size → subF x.cps.toList [13, 10] (nxA x) (step2 x.cps x.cps.size) fuel pos = crL (x.cps.toList.drop pos) := by
    intro fuel
    induction fuel with
    | zero => intro pos h hp; omega
    | succ f ih =>
      intro pos h hp
      have hn := next2_crL (text := x.cps) (x.cps.size + 1 - pos) pos (Nat.le_refl _)
      unfold subF
      have e0 : nxA x pos = next2 x.cps x.cps.size (x.cps.size + 1 - pos) pos := rfl
      cases q : next2 x.cps x.cps.size (x.cps.size + 1 - pos) pos with
      | none => rw [q] at hn e0; rw [e0]; exact hn.symm
      | some e =>
        rw [q] at hn e0
        rw [e0]
        obtain ⟨a, b, c⟩ := hnA x pos e e0
        show _ ++ subF _ _ _ _ f (step2 x.cps x.cps.size e) = _
        rw [ih _ (by omega) c]
        exact hn.symm
  have := key (x.cps.size + 1) 0 (by omega) (by omega)
  simpa [crS] using this
theorem bol_succ (text : Array Nat) (s : Nat) : bol text (s + 1) = (text.getD s 0 == 10) := by simp [bol]
theorem next1_doL {text : Array Nat} : ∀ n s, text.size + 1 - s ≤ n → match next1 text text.size n s with
    | some e => doL (bol text s) (text.toList.drop s) = (text.toList.drop s).take (e - s) ++ [46, 46] ++ doL (bol text (e + 1)) (text.toList.drop (e + 1))
    | none => doL (bol text s) (text.toList.drop s) = text.toList.drop s
  | 0, s, h => by
    show doL _ _ = _
    rw [drop_over (by omega)]; rfl
  | n + 1, s, h => by
    unfold next1
    by_cases h1 : s < text.size ∧ text.getD s 0 = 46 ∧ bol text s = true
    · rw [if_pos h1]
      show doL _ _ = _
      rw [Nat.sub_self, List.take_zero, List.nil_append, drop_at h1.1, bol_succ, h1.2.1, h1.2.2]
      rfl
    rw [if_neg h1]
    by_cases h2 : s < text.size
    · rw [if_pos h2]
      have hd := drop_at h2
      have ih := next1_doL (text := text) n (s + 1) (by omega)
      have hp : doL (bol text s) (text.getD s 0 :: text.toList.drop (s + 1)) = text.getD s 0 :: doL (bol text (s + 1)) (text.toList.drop (s + 1)) := by
        rw [doL, if_neg (fun q => h1 ⟨h2, q.2, q.1⟩), bol_succ]
      cases q : next1 text text.size n (s + 1) with
      | none =>
        rw [q] at ih
        show doL _ _ = _
        rw [hd, hp]; exact congrArg _ ih
      | some e =>
        rw [q] at ih
        show doL _ _ = _
        have he : s + 1 ≤ e := (next1_spec _ _ _ q).2.1
        obtain ⟨k, rfl⟩ : ∃ k, e = s + 1 + k := ⟨e - (s + 1), by omega⟩
        rw [hd, hp, ih, show s + 1 + k - s = k + 1 by omega, show s + 1 + k - (s + 1) = k by omega, List.take_succ_cons]
        rfl
    · rw [if_neg h2]
      show doL _ _ = _
      rw [drop_over h2]; rfl
theorem doS_eq (x : Str) : (doS x).cps.toList = doL true x.cps.toList := by
  have key : ∀ fuel pos, x.cps.size + 1 - pos ≤ fuel → pos ≤ x.cps.size → subF x.cps.toList [46, 46] (nxB x) (· + 1) fuel pos = doL (bol x.cps pos) (x.cps.toList.drop pos) := by
    intro fuel
    induction fuel with
    | zero => intro pos h hp; omega
    | succ f ih =>
      intro pos h hp
      have hn := next1_doL (text := x.cps) (x.cps.size + 1 - pos) pos (Nat.le_refl _)
      unfold subF
      have e0 : nxB x pos = next1 x.cps x.cps.size (x.cps.size + 1 - pos) pos := rfl
      cases q : next1 x.cps x.cps.size (x.cps.size + 1 - pos) pos with
      | none => rw [q] at hn e0; rw [e0]; exact hn.symm
      | some e =>
        rw [q] at hn e0
        rw [e0]
        obtain ⟨a, b, c⟩ := hnB x pos e e0
        show _ ++ subF _ _ _ _ f (e + 1) = _
        rw [ih _ (by omega) c]
        exact hn.symm
  have := key (x.cps.size + 1) 0 (by omega) (by omega)
  simpa [doS, bol] using this
end Mine
end
section
open PySem PySem.W PyProof.Rows PySem.Calls PySem.Spec
namespace Mine
theorem start_Lw2 : True := by
  w_top off
  k_with_none
  trivial
noncomputable def Clean (l : List Nat) : Prop := ∀ c ∈ l, c ≠ 10 ∧ c ≠ 13
theorem Clean.cons {c : Nat} {l : List Nat} (h : Clean (c :: l)) : (c ≠ 10 ∧ c ≠ 13) ∧ Clean l := ⟨h c (.head _), fun x hx => h x (.tail _ hx)⟩
theorem Clean.append {a b : List Nat} (ha : Clean a) (hb : Clean b) : Clean (a ++ b) := fun c hc => (List.mem_append.mp hc).elim (ha c) (hb c)
theorem crL_clean : ∀ {l r : List Nat}, Clean l → crL (l ++ r) = l ++ crL r
  | [], _, _ => rfl
  | c :: l, r, h => by
    obtain ⟨⟨h1, h2⟩, h3⟩ := h.cons
    rw [List.cons_append, crL_plain h2 h1, crL_clean h3]; rfl
theorem doL_clean : ∀ {l r : List Nat}, Clean l → doL false (l ++ r) = l ++ doL false r
  | [], _, _ => rfl
  | c :: l, r, h => by
    obtain ⟨⟨h1, h2⟩, h3⟩ := h.cons
    rw [List.cons_append, doL, if_neg (by simp), show (c == 10) = false from by simpa using h1, doL_clean h3]; rfl
theorem bareW_cons (c : Nat) (w : List Nat) : bareW (c :: w) = (bareC c).cps.toList ++ bareW w := by simp [bareW, catL]
theorem quoW_cons (c : Nat) (w : List Nat) : quoW (c :: w) = (quoC c).cps.toList ++ quoW w := by simp [quoW, catL]
theorem bareC_clean {c : Nat} (h : c ≠ 10 ∧ c ≠ 13) : Clean (bareC c).cps.toList := by
  unfold bareC
  split
  · intro x hx; simp at hx; subst hx; exact h
  · intro x hx; simp at hx; rcases hx with rfl | rfl
    · exact ⟨by decide, by decide⟩
    · exact h
theorem quoC_clean {c : Nat} (h : c ≠ 10 ∧ c ≠ 13) : Clean (quoC c).cps.toList := by
  unfold quoC
  split
  · intro x hx; simp at hx; rcases hx with rfl | rfl
    · exact ⟨by decide, by decide⟩
    · exact h
  · intro x hx; simp at hx; subst hx; exact h
theorem bareW_clean : ∀ {w : List Nat}, Clean w → Clean (bareW w)
  | [], _ => fun _ h => nomatch h
  | c :: w, h => by rw [bareW_cons]; exact (bareC_clean h.cons.1).append (bareW_clean h.cons.2)
theorem quoW_clean : ∀ {w : List Nat}, Clean w → Clean (quoW w)
  | [], _ => fun _ h => nomatch h
  | c :: w, h => by rw [quoW_cons]; exact (quoC_clean h.cons.1).append (quoW_clean h.cons.2)
theorem bareT_w : ∀ {w : List Nat} {r : List Nat}, Clean w → BareT (bareW w ++ 13 :: r) w r
  | [], r, _ => .stop (by decide)
  | c :: w, r, h => by
    rw [bareW_cons]
    have ih := bareT_w (r := r) h.cons.2
    unfold bareC
    split
    · rename_i hc
      refine BareT.plain ?_ ?_ ih
      · rcases hc with rfl | rfl <;> decide
      · rcases hc with rfl | rfl <;> decide
    · exact BareT.esc ih
theorem quoT_w : ∀ {w : List Nat} {r : List Nat}, QuoT (quoW w ++ 34 :: r) w r
  | [], r => .stop
  | c :: w, r => by
    rw [quoW_cons]
    have ih := quoT_w (w := w) (r := r)
    unfold quoC
    split
    · exact QuoT.esc ih
    · rename_i hc
      exact QuoT.plain (fun q => hc (.inl q)) (fun q => hc (.inr q)) ih
/-- a row's body before and after quotedata -/
noncomputable def isN (gap i : Nat) : Bool := decide (i = gap ∨ i = gap + 1)
noncomputable def bodyL (gap q i : Nat) (w : List Nat) : List Nat := if i = gap ∨ i = gap + 1 then bareW w else if (q + i) % 4 = 0 then 34 :: quoW w ++ [34] else preC ((q + i) % 4) :: bareW w
noncomputable def bodyQ (gap q i : Nat) (w : List Nat) : List Nat := if i = gap ∨ i = gap + 1 then 46 :: bareW w else if (q + i) % 4 = 0 then 34 :: quoW w ++ [34] else preC ((q + i) % 4) :: bareW w
noncomputable def tailT : List Nat := [13, 10, 46, 46, 13, 10, 34, 34, 32, 35, 11, 46, 13, 10, 46, 46]
noncomputable def txtL (gap q : Nat) : Nat → List (List Nat) → List Nat
  | _, [] => tailT
  | i, w :: r => bodyQ gap q i w ++ 13 :: 10 :: txtL gap q (i + 1) r
noncomputable def WordOk (w : List Nat) : Prop := Clean w ∧ ∃ w', w = 46 :: w'
theorem preC_val (m : Nat) : preC m = 32 ∨ preC m = 92 ∨ preC m = 9 := by
  unfold preC
  split
  · exact .inl rfl
  split
  · exact .inr (.inl rfl)
  · exact .inr (.inr rfl)
theorem bodyL_clean {gap q i : Nat} {w : List Nat} (h : Clean w) : Clean (bodyL gap q i w) := by
  unfold bodyL
  split
  · exact bareW_clean h
  split
  · intro c hc
    rcases List.mem_cons.mp hc with rfl | hc
    · exact ⟨by decide, by decide⟩
    rcases List.mem_append.mp hc with hc | hc
    · exact quoW_clean h c hc
    · obtain rfl := List.mem_singleton.mp hc; exact ⟨by decide, by decide⟩
  · intro c hc
    rcases List.mem_cons.mp hc with rfl | hc
    · rcases preC_val ((q + i) % 4) with e | e | e <;> rw [e] <;> exact ⟨by decide, by decide⟩
    · exact bareW_clean h c hc
theorem bodyL_head {gap q i : Nat} {w : List Nat} (h : WordOk w) : ∃ c t, bodyL gap q i w = c :: t ∧ (c = 46 → bodyQ gap q i w = 46 :: c :: t) ∧ (c ≠ 46 → bodyQ gap q i w = c :: t) := by
  obtain ⟨_, w', rfl⟩ := h
  unfold bodyL bodyQ
  by_cases h1 : i = gap ∨ i = gap + 1
  · rw [if_pos h1, if_pos h1]
    refine ⟨46, bareW w', by rw [bareW_cons]; rfl, fun _ => by rw [bareW_cons]; rfl, fun q => absurd rfl q⟩
  rw [if_neg h1, if_neg h1]
  by_cases h2 : (q + i) % 4 = 0
  · rw [if_pos h2]
    refine ⟨34, quoW (46 :: w') ++ [34], rfl, fun q => absurd q (by decide), fun _ => rfl⟩
  rw [if_neg h2]
  refine ⟨_, _, rfl, fun e => ?_, fun _ => rfl⟩
  rcases preC_val ((q + i) % 4) with e' | e' | e' <;> rw [e'] at e <;> cases e
theorem eol_crL {m : Nat} {r : List Nat} (h : ∀ r', r ≠ 10 :: r') : crL (eolL m ++ r) = 13 :: 10 :: crL r := by
  unfold eolL
  split
  · rfl
  split
  · exact crL_13 h
  · rfl
theorem rowL_eq (gap q i : Nat) (w : List Nat) : rowL gap q i w = bodyL gap q i w ++ eolL ((q / 4 + i) % 3) := rfl
theorem page_head {gap q i : Nat} {ws : List (List Nat)} (h : ∀ w ∈ ws, WordOk w) : ∀ r', pageL gap q i ws ++ tailS ≠ 10 :: r' := by
  intro r' e
  cases ws with
  | nil => cases e
  | cons w ws =>
    obtain ⟨c, t, hb, _, _⟩ := bodyL_head (gap := gap) (q := q) (i := i) (h w (.head _))
    have hc := bodyL_clean (gap := gap) (q := q) (i := i) (h w (.head _)).1 c (by rw [hb]; exact .head _)
    rw [pageL, rowL_eq, hb] at e
    simp only [List.cons_append] at e
    injection e with e1 e2
    exact hc.1 e1
theorem cr_page {gap q : Nat} : ∀ {ws : List (List Nat)} {i : Nat}, (∀ w ∈ ws, WordOk w) → doL true (crL (pageL gap q i ws ++ tailS)) = txtL gap q i ws
  | [], i, _ => by show doL true (crL tailS) = tailT; decide
  | w :: ws, i, h => by
    have hw := h w (.head _)
    have ih := cr_page (gap := gap) (q := q) (ws := ws) (i := i + 1) fun x hx => h x (.tail _ hx)
    rw [pageL, rowL_eq, List.append_assoc, List.append_assoc, crL_clean (bodyL_clean hw.1), eol_crL (page_head fun x hx => h x (.tail _ hx))]
    obtain ⟨c, t, hb, h1, h2⟩ := bodyL_head (gap := gap) (q := q) (i := i) hw
    have hcl := bodyL_clean (gap := gap) (q := q) (i := i) hw.1
    rw [hb] at hcl ⊢
    have ht : doL false (t ++ 13 :: 10 :: crL (pageL gap q (i + 1) ws ++ tailS)) = t ++ 13 :: 10 :: txtL gap q (i + 1) ws := by
      rw [doL_clean hcl.cons.2]
      show t ++ 13 :: 10 :: doL true _ = _
      rw [ih]
    rw [List.cons_append, doL, txtL]
    by_cases hc : c = 46
    · rw [if_pos ⟨rfl, hc⟩, ht, h1 hc, hc]; rfl
    · rw [if_neg (fun q => hc q.2), show (c == 10) = false from by simpa using hcl.cons.1.1, ht, h2 hc]; rfl
/-- the rests -/
noncomputable def quoted (gap q i : Nat) : Bool := !decide (i = gap ∨ i = gap + 1) && decide ((q + i) % 4 = 0)
noncomputable def leadL (gap q : Nat) : Nat → List Nat
  | 0 => []
  | i + 1 => if quoted gap q i then [13, 10] else [10]
noncomputable def tlR : Nat → List Nat
  | 0 => tailT | 1 => [10, 34, 34, 32, 35, 11, 46, 13, 10, 46, 46] | 2 => [32, 35, 11, 46, 13, 10, 46, 46] | 3 => [10, 46, 46] | _ => []
noncomputable def RF (gap q : Nat) (ws : List (List Nat)) (i : Nat) : List Nat := if i ≤ ws.length then leadL gap q i ++ txtL gap q i (ws.drop i) else tlR (i - ws.length)
noncomputable def DW (gap : Nat) (ws : List (List Nat)) (i : Nat) : List Nat := if i = gap ∨ i = gap + 1 then 46 :: ws.getD i [] else ws.getD i []
theorem leadL_succ (gap q i : Nat) : leadL gap q (i + 1) = if quoted gap q i then [13, 10] else [10] := rfl
theorem tok_lead {gap q i : Nat} {r t r' : List Nat} (h : TokT r t r') : TokT (leadL gap q i ++ r) t r' := by
  cases i with
  | zero => exact h
  | succ i =>
    rw [leadL_succ]
    split
    · exact TokT.skip (c := 13) (by decide) (TokT.skip (c := 10) (by decide) h)
    · exact TokT.skip (c := 10) (by decide) h
theorem tok_row {gap q i : Nat} {w r : List Nat} (h : WordOk w) : TokT (bodyQ gap q i w ++ 13 :: 10 :: r) (if i = gap ∨ i = gap + 1 then 46 :: w else w) (leadL gap q (i + 1) ++ r) := by
  obtain ⟨hc, w', rfl⟩ := h
  have hb : bareW (46 :: w') = 46 :: bareW w' := by rw [bareW_cons]; rfl
  rw [leadL_succ]
  unfold bodyQ
  by_cases h1 : i = gap ∨ i = gap + 1
  · rw [if_pos h1, if_pos h1, show quoted gap q i = false from by simp [quoted, h1]]
    show TokT (46 :: bareW (46 :: w') ++ 13 :: 10 :: r) (46 :: 46 :: w') (10 :: r)
    exact .bare (by decide) (by decide) (by decide) (bareT_w hc)
  rw [if_neg h1, if_neg h1]
  by_cases h2 : (q + i) % 4 = 0
  · rw [if_pos h2, show quoted gap q i = true from by unfold quoted; rw [decide_eq_false h1, decide_eq_true h2]; rfl]
    show TokT (34 :: quoW (46 :: w') ++ [34] ++ 13 :: 10 :: r) (46 :: w') (13 :: 10 :: r)
    have := quoT_w (w := 46 :: w') (r := 13 :: 10 :: r)
    refine .quo ?_
    simpa using this
  · rw [if_neg h2, show quoted gap q i = false from by unfold quoted; rw [decide_eq_false h2, Bool.and_false], hb]
    show TokT (preC ((q + i) % 4) :: 46 :: bareW w' ++ 13 :: 10 :: r) (46 :: w') (10 :: r)
    have hB := bareT_w (r := 10 :: r) hc.cons.2
    rcases preC_val ((q + i) % 4) with e | e | e
    · rw [e]; exact .skip (by decide) (.bare (by decide) (by decide) (by decide) hB)
    · rw [e]; exact .esc hB
    · rw [e]; exact .skip (by decide) (.bare (by decide) (by decide) (by decide) hB)
theorem tok_all {gap q : Nat} {ws : List (List Nat)} (h : ∀ w ∈ ws, WordOk w) {i : Nat} (hi : i < ws.length) : TokT (RF gap q ws i) (DW gap ws i) (RF gap q ws (i + 1)) := by
  have er : ∀ j, j ≤ ws.length → RF gap q ws j = leadL gap q j ++ txtL gap q j (ws.drop j) := fun j hj => if_pos hj
  rw [er i (by omega), er (i + 1) hi]
  unfold DW
  rw [List.drop_eq_getElem_cons hi, txtL]
  have e : ws.getD i [] = ws[i] := by simp [List.getD_eq_getElem?_getD, hi]
  rw [e]
  exact tok_lead (tok_row (h _ (List.getElem_mem hi)))
theorem tok_tail {gap q : Nat} {ws : List (List Nat)} {i : Nat} (hi : i < 5) : TokT (RF gap q ws (ws.length + i)) (TT i) (RF gap q ws (ws.length + i + 1)) := by
  have e0 : ∀ j, 0 < j → RF gap q ws (ws.length + j) = tlR j := fun j hj => by
    unfold RF; rw [if_neg (by omega), show ws.length + j - ws.length = j by omega]
  have b : TokT [46, 46] [46, 46] [] := .bare (by decide) (by decide) (by decide) (.plain (by decide) (by decide) .fin)
  rw [Nat.add_assoc, e0 (i + 1) (by omega)]
  have : i = 0 ∨ i = 1 ∨ i = 2 ∨ i = 3 ∨ i = 4 := by omega
  rcases this with rfl | rfl | rfl | rfl | rfl
  · unfold RF
    rw [if_pos (by omega), Nat.add_zero, List.drop_length]
    refine tok_lead ?_
    exact .skip (by decide) (.skip (by decide) (.bare (by decide) (by decide) (by decide) (.plain (by decide) (by decide) (.stop (by decide)))))
  · rw [e0 1 (by omega)]
    exact .skip (by decide) (.quo .stop)
  · rw [e0 2 (by omega)]
    exact .skip (by decide) (.bare (by decide) (by decide) (by decide) (.plain (by decide) (by decide) (.plain (by decide) (by decide) (.stop (by decide)))))
  · rw [e0 3 (by omega)]
    exact .skip (by decide) b
  · rw [e0 4 (by omega)]
    exact .fin
theorem nl_app : ∀ a b : List Nat, nl (a ++ b) = nl a + nl b
  | [], b => by simp [nl]
  | x :: a, b => by simp only [List.cons_append, nl, nl_app a b]; omega
theorem nl_clean : ∀ {l : List Nat}, Clean l → nl l = 0
  | [], _ => rfl
  | c :: l, h => by simp [nl, h.cons.1.1, nl_clean h.cons.2]
theorem bodyQ_clean {gap q i : Nat} {w : List Nat} (h : WordOk w) : Clean (bodyQ gap q i w) := by
  obtain ⟨c, t, hb, h1, h2⟩ := bodyL_head (gap := gap) (q := q) (i := i) h
  have hc := bodyL_clean (gap := gap) (q := q) (i := i) h.1
  by_cases hc2 : c = 46
  · rw [h1 hc2, ← hb]
    intro x hx
    rcases List.mem_cons.mp hx with rfl | hx
    · exact ⟨by decide, by decide⟩
    · exact hc x hx
  · rw [h2 hc2, ← hb]; exact hc
theorem nl_txt {gap q : Nat} : ∀ {ws : List (List Nat)} {i : Nat}, (∀ w ∈ ws, WordOk w) → nl (txtL gap q i ws) = ws.length + 3
  | [], _, _ => by show nl tailT = _; decide
  | w :: ws, i, h => by
    rw [txtL, nl_app, nl_clean (bodyQ_clean (h w (.head _)))]
    have := nl_txt (gap := gap) (q := q) (ws := ws) (i := i + 1) fun x hx => h x (.tail _ hx)
    simp only [nl, this, List.length_cons]
    push_cast
    simp; omega
theorem nl_RF {gap q : Nat} {ws : List (List Nat)} (h : ∀ w ∈ ws, WordOk w) {i : Nat} (hi : i ≤ ws.length) : nl (RF gap q ws i) = (if i = 0 then 0 else 1) + (ws.length - i) + 3 := by
  unfold RF
  rw [if_pos hi, nl_app, nl_txt fun w hw => h w (List.mem_of_mem_drop hw), List.length_drop]
  have : nl (leadL gap q i) = if i = 0 then 0 else 1 := by
    cases i with
    | zero => rfl
    | succ i => rw [leadL_succ]; split <;> simp [nl]
  rw [this]
  split <;> omega
end Mine
end
section
open PySem PySem.W PyProof.Rows PySem.Calls PySem.Spec
namespace Mine
theorem start_Lw3 : True := by
  w_top off
  k_with_none
  trivial
theorem bodyL_len (gap q i : Nat) (w : List Nat) : (bodyL gap q i w).length ≤ 2 * w.length + 2 := by
  have := bareW_len w; have := quoW_len w
  unfold bodyL; split
  · omega
  split
  · simp only [List.length_append, List.length_cons, List.length_nil]; omega
  · simp only [List.length_cons]; omega
theorem bodyQ_len (gap q i : Nat) (w : List Nat) : (bodyQ gap q i w).length ≤ 2 * w.length + 2 := by
  have := bareW_len w; have := quoW_len w
  unfold bodyQ; split
  · simp only [List.length_cons]; omega
  split
  · simp only [List.length_append, List.length_cons, List.length_nil]; omega
  · simp only [List.length_cons]; omega
theorem eolL_len (m : Nat) : (eolL m).length ≤ 2 := by 
  unfold eolL; split
  · simp
  split <;> simp
theorem pageL_len (gap q n : Nat) : ∀ (ws : List (List Nat)) (i : Nat), (∀ w ∈ ws, w.length ≤ n) → (pageL gap q i ws).length ≤ (2 * n + 4) * ws.length
  | [], _, _ => Nat.zero_le _
  | w :: ws, i, h => by
    have := pageL_len gap q n ws (i + 1) fun x hx => h x (.tail _ hx)
    have h1 := bodyL_len gap q i w
    have h2 := eolL_len ((q / 4 + i) % 3)
    have h3 := h w (.head _)
    rw [pageL, rowL_eq, List.length_append, List.length_append, List.length_cons, Nat.mul_succ]
    omega
theorem txtL_len (gap q n : Nat) : ∀ (ws : List (List Nat)) (i : Nat), (∀ w ∈ ws, w.length ≤ n) → (txtL gap q i ws).length ≤ (2 * n + 4) * ws.length + 16
  | [], _, _ => by show tailT.length ≤ _; simp [tailT]
  | w :: ws, i, h => by
    have := txtL_len gap q n ws (i + 1) fun x hx => h x (.tail _ hx)
    have h1 := bodyQ_len gap q i w
    have h3 := h w (.head _)
    rw [txtL, List.length_append, List.length_cons, List.length_cons, List.length_cons, Nat.mul_succ]
    omega
theorem crB_len : ∀ (l : List Nat) (b : Bool), (crB b l).length ≤ 2 * l.length
  | [], _ => by simp [crB]
  | c :: r, b => by
    have h1 := crB_len r true
    have h2 := crB_len r false
    unfold crB
    split
    · simp only [List.length_cons]; omega
    split
    · simp only [List.length_cons]; omega
    split
    · simp only [List.length_cons]; omega
    · simp only [List.length_cons]; omega
theorem leadL_len (gap q i : Nat) : (leadL gap q i).length ≤ 2 := by
  cases i with
  | zero => simp [leadL]
  | succ i => rw [leadL_succ]; split <;> simp
theorem tlR_len (i : Nat) : (tlR i).length ≤ 20 := by unfold tlR; split <;> simp [tailT]
theorem RF_len {gap q n : Nat} {ws : List (List Nat)} (h : ∀ w ∈ ws, w.length ≤ n) (i : Nat) : (RF gap q ws i).length ≤ (2 * n + 4) * ws.length + 20 := by
  unfold RF
  split
  · have h1 := txtL_len gap q n (ws.drop i) i fun w hw => h w (List.mem_of_mem_drop hw)
    have h2 := leadL_len gap q i
    have h3 : (2 * n + 4) * (ws.drop i).length ≤ (2 * n + 4) * ws.length := Nat.mul_le_mul_left _ (by simp)
    rw [List.length_append]; omega
  · have := tlR_len (i - ws.length); omega
theorem DW_len {gap n : Nat} {ws : List (List Nat)} (h : ∀ w ∈ ws, w.length ≤ n) (i : Nat) : (DW gap ws i).length ≤ n + 1 := by
  have e : (ws.getD i []).length ≤ n := by
    rw [List.getD_eq_getElem?_getD]
    cases q : ws[i]? with
    | none => simp
    | some w => exact h w (List.mem_of_getElem? q)
  unfold DW; split
  · simp only [List.length_cons]; omega
  · omega
/-- no two returns side by side -/
noncomputable def NoRR : List Nat → Prop
  | 13 :: 13 :: _ => False
  | _ :: r => NoRR r
  | [] => True
theorem NoRR.clean : ∀ {l r : List Nat}, Clean l → NoRR r → NoRR (l ++ r)
  | [], _, _, h => h
  | c :: l, r, hc, h => by
    have ih := NoRR.clean hc.cons.2 h
    rw [List.cons_append]
    unfold NoRR
    split
    · rename_i e; injection e with e1 _; exact hc.cons.1.2 e1
    · rename_i e; injection e with e1 e2; rw [← e2]; exact ih
    · rename_i e; cases e
theorem NoRR.eol {r : List Nat} (h : NoRR r) : NoRR (13 :: 10 :: r) := h
theorem noRR_txt {gap q : Nat} : ∀ {ws : List (List Nat)} {i : Nat}, (∀ w ∈ ws, WordOk w) → NoRR (txtL gap q i ws)
  | [], _, _ => by show NoRR tailT; trivial
  | w :: ws, i, h => by
    rw [txtL]
    exact NoRR.clean (bodyQ_clean (h w (.head _))) (noRR_txt (ws := ws) (i := i + 1) fun x hx => h x (.tail _ hx)).eol
theorem noRR_at : ∀ {l : List Nat}, NoRR l → ∀ i, (l.drop i).take 2 ≠ [13, 13]
  | [], _, i, e => by simp at e
  | c :: r, h, 0, e => by
    cases r with
    | nil => simp at e
    | cons d r =>
      simp at e
      obtain ⟨rfl, rfl⟩ := e
      exact h
  | c :: r, h, i + 1, e => by
    have h' : NoRR r := by
      unfold NoRR at h
      split at h
      · exact h.elim
      · rename_i e1; injection e1 with _ e2; rw [e2]; exact h
      · rename_i e1; cases e1
    exact noRR_at h' i e
theorem rr_of {x : Str} (h : NoRR x.cps.toList) : (Builtin.Str.occurrences x (Str.ofString "\x0d\x0d") 0 x.length 1).isEmpty = true := by
  have e : (Str.ofString "\x0d\x0d").cps.toList = [13, 13] := by decide +kernel
  have el : (Str.ofString "\x0d\x0d").length = 2 := by decide +kernel
  cases hq : (Builtin.Str.occurrences x (Str.ofString "\x0d\x0d") 0 x.length 1).isEmpty with
  | true => rfl
  | false =>
    obtain ⟨i, _, h2⟩ := (StrLaws.found_iff x (Str.ofString "\x0d\x0d")).mp (by rw [hq]; rfl)
    rw [StrLaws.subAt_eq, e, el] at h2
    exact absurd (by simpa using h2) (noRR_at h i)
noncomputable def newOf (gap : Nat) (xs : List Str) : Str := Str.ofString "." ++ (Txt.lstripChars (dwS (DW gap (xs.map (·.cps.toList))) gap) (Str.ofString ".") ++ Str.ofString "." ++ Txt.lstripChars (dwS (DW gap (xs.map (·.cps.toList))) (gap + 1)) (Str.ofString "."))
theorem grow_ok {xs : List Str} {text : Str} {number gap : Nat} (gp : gap = ((inner xs).filter (gapP text)).length) (lt : gap + 1 < xs.length) (n40 : xs.length ≤ 40)
    (wl : ∀ x ∈ xs, x.length ≤ 1000) (num : number ≤ 100000000) (ok : ∀ x ∈ xs, WordOk x.cps.toList) :
    GrowOk xs text number gap (RF gap number (xs.map (·.cps.toList))) (DW gap (xs.map (·.cps.toList))) (newOf gap xs) := by
  have hw : ∀ w ∈ xs.map (·.cps.toList), WordOk w := by
    intro w h; obtain ⟨x, hx, rfl⟩ := List.mem_map.mp h; exact ok x hx
  have hl : ∀ w ∈ xs.map (·.cps.toList), w.length ≤ 1000 := by
    intro w h; obtain ⟨x, hx, rfl⟩ := List.mem_map.mp h; simpa [Str.length] using wl x hx
  have hn : (xs.map (·.cps.toList)).length = xs.length := by simp
  generalize hws : xs.map (·.cps.toList) = ws at *
  have hpg : (pgT gap number xs).cps.toList = pageL gap number 0 ws ++ tailS := by simp [pgT, pageS, hws]
  have hcr : (crS (pgT gap number xs)).cps.toList = crL (pageL gap number 0 ws ++ tailS) := by rw [crS_eq, hpg]
  have hdo : (doS (crS (pgT gap number xs))).cps.toList = txtL gap number 0 ws := by rw [doS_eq, hcr, cr_page hw]
  have hpl : (pageL gap number 0 ws ++ tailS).length ≤ 2004 * ws.length + 11 := by
    have := pageL_len gap number 1000 ws 0 hl
    rw [List.length_append]; simp only [tailS, List.length_cons, List.length_nil]; omega
  have hR := RF_len (gap := gap) (q := number) hl
  have hnw : newOf gap xs = Str.ofString "." ++ (Txt.lstripChars (dwS (DW gap ws) gap) (Str.ofString ".") ++ Str.ofString "." ++ Txt.lstripChars (dwS (DW gap ws) (gap + 1)) (Str.ofString ".")) := by
    unfold newOf; rw [hws]
  refine ⟨gp, lt, n40, fun i x e => wl x (List.mem_of_getElem? e), num, ?_, ?_, ?_, rr_of ?_, fun i hi => tok_all hw (by omega), fun i => ?_, fun i => ?_, fun i hi => ?_, fun i hi => ?_, ?_, hnw⟩
  · rw [← Array.length_toList, hpg]; omega
  · rw [← Array.length_toList, hcr]
    have := crB_len (pageL gap number 0 ws ++ tailS) false
    unfold crL; omega
  · rw [hdo]; unfold RF; rw [if_pos (Nat.zero_le _)]; rfl
  · rw [hdo]; exact noRR_txt hw
  · have := hR i; omega
  · have := DW_len (gap := gap) hl i; omega
  · rw [nl_RF hw (Nat.zero_le _), nl_RF hw (by omega)]
    rw [if_pos rfl, if_neg (by omega)]; omega
  · rw [← hn]; exact tok_tail hi
  · rw [nl_RF hw (Nat.zero_le _)]
    have : RF gap number ws (xs.length + 5) = [] := by
      unfold RF; rw [if_neg (by omega), show xs.length + 5 - ws.length = 5 by omega]; rfl
    rw [this, if_pos rfl]; simp only [nl]; omega
end Mine
end
section
open PySem PySem.W PyProof.Rows PySem.Calls PySem.Spec
namespace Mine
theorem start_Lw4 : True := by
  w_top off
  k_with_none
  trivial
theorem lstrip_cps (x y : Str) : (Txt.lstripChars x y).cps.toList = x.cps.toList.drop (x.cps.toList.takeWhile y.cps.contains).length := by
  unfold Txt.lstripChars Txt.stripBy
  split
  · rename_i h
    unfold stripSame at h
    have h1 : stripLo y.cps.contains true x = 0 := by
      have := (Bool.and_eq_true_iff.mp h).1; simpa using this
    unfold stripLo at h1
    rw [if_pos rfl] at h1
    rw [h1]; rfl
  · unfold PySem.stripped
    rw [StrLaws.strSub_toList]
    unfold stripLo stripHi
    simp only [if_true, Bool.false_eq_true, if_false]
    apply List.take_of_length_le
    simp [Str.length]
theorem takeWhile_rep {p : Nat → Bool} {c : Nat} {r : List Nat} (h1 : p 46 = true) (h2 : p c = false) : ∀ d, ((List.replicate d 46 ++ c :: r).takeWhile p).length = d
  | 0 => by simp [h2]
  | d + 1 => by
    rw [List.replicate_succ, List.cons_append, List.takeWhile_cons_of_pos h1, List.length_cons, takeWhile_rep h1 h2 d]
theorem lstrip_dots {x : Str} {d c : Nat} {r : List Nat} (h : x.cps.toList = List.replicate d 46 ++ c :: r) (hc : c ≠ 46) : (Txt.lstripChars x (Str.ofString ".")).cps.toList = c :: r := by
  have e : (Str.ofString ".").cps = #[46] := by decide +kernel
  rw [lstrip_cps, h, e, takeWhile_rep (by simp) (by simpa using hc)]
  simp
noncomputable def ltB : List Nat → List Nat → Bool
  | [], [] => false
  | [], _ :: _ => true
  | _ :: _, [] => false
  | x :: r, y :: t => decide (x < y) || (decide (x = y) && ltB r t)
theorem ltB_asymm : ∀ {u v : List Nat}, ltB u v = true → ltB v u = false
  | [], [], h => by cases h
  | [], _ :: _, _ => rfl
  | _ :: _, [], h => by cases h
  | x :: r, y :: t, h => by
    rw [ltB, Bool.or_eq_true] at h
    rcases h with h | h
    · have := of_decide_eq_true h
      rw [ltB, decide_eq_false (by omega), decide_eq_false (by omega)]; rfl
    · obtain ⟨h1, h2⟩ := Bool.and_eq_true_iff.mp h
      have := of_decide_eq_true h1
      rw [ltB, ltB_asymm h2, decide_eq_false (by omega), Bool.and_false]; rfl
theorem leInts_eq : ∀ u v : List Nat, leInts (u.map fun n : Nat => (n : Int)) (v.map fun n : Nat => (n : Int)) = !(ltB v u)
  | [], v => by cases v <;> rfl
  | _ :: _, [] => rfl
  | x :: r, y :: t => by
    rw [List.map_cons, List.map_cons, leInts, ltB]
    by_cases h : x = y
    · subst h
      rw [if_pos rfl, leInts_eq r t, decide_eq_false (Nat.lt_irrefl _), decide_eq_true rfl]; simp
    · rw [if_neg (by omega), show decide (y = x) = false from decide_eq_false (by omega)]
      by_cases h2 : y < x
      · rw [show decide (y < x) = true from decide_eq_true h2, show decide ((x : Int) ≤ (y : Int)) = false from decide_eq_false (by omega)]; rfl
      · rw [show decide (y < x) = false from decide_eq_false h2, show decide ((x : Int) ≤ (y : Int)) = true from decide_eq_true (by omega)]; rfl
noncomputable def Bits (l : List Nat) : Prop := ∀ c ∈ l, c = 0 ∨ c = 1
theorem Bits.cons {c : Nat} {l : List Nat} (h : Bits (c :: l)) : (c = 0 ∨ c = 1) ∧ Bits l := ⟨h c (.head _), fun x hx => h x (.tail _ hx)⟩
section
variable {a b : Nat}
noncomputable def sgC (a b c : Nat) : Nat := if c = 0 then a else b
noncomputable def dotT (a b : Nat) : List Nat → List Nat
  | [] => []
  | c :: r => 46 :: sgC a b c :: dotT a b r
theorem dotL_cons : ∀ (c : Nat) (r : List Nat), dotL ((c :: r).map fun c => [sgC a b c]) = sgC a b c :: dotT a b r
  | c, [] => rfl
  | c, d :: r => by
    show [sgC a b c] ++ 46 :: dotL ((d :: r).map fun c => [sgC a b c]) = _
    rw [dotL_cons d r]; rfl
theorem sgC_lt (hab : a < b) {c d : Nat} (hc : c = 0 ∨ c = 1) (hd : d = 0 ∨ d = 1) : (sgC a b c < sgC a b d ↔ c < d) ∧ (sgC a b c = sgC a b d ↔ c = d) := by
  rcases hc with rfl | rfl <;> rcases hd with rfl | rfl <;> simp [sgC] <;> omega
theorem dotT_lt (hab : a < b) : ∀ {u v : List Nat}, Bits u → Bits v → (dotT a b u < dotT a b v ↔ ltB u v = true)
  | [], [], _, _ => by simp [dotT, ltB]
  | [], _ :: _, _, _ => by simp [dotT, ltB]
  | _ :: _, [], _, _ => by simp [dotT, ltB]
  | c :: u, d :: v, hu, hv => by
    have h := sgC_lt hab hu.cons.1 hv.cons.1
    simp only [dotT, List.cons_lt_cons_iff, ltB, Bool.or_eq_true, Bool.and_eq_true, decide_eq_true_eq, h.1, h.2, dotT_lt hab hu.cons.2 hv.cons.2]
    simp
theorem dotL_lt (hab : a < b) {u v : List Nat} (hu : Bits u) (hv : Bits v) : dotL (u.map fun c => [sgC a b c]) < dotL (v.map fun c => [sgC a b c]) ↔ ltB u v = true := by
  cases u with
  | nil =>
    cases v with
    | nil => simp [dotL, ltB]
    | cons d v => rw [dotL_cons]; simp [dotL, ltB]
  | cons c u =>
    cases v with
    | nil => rw [dotL_cons]; simp [dotL, ltB]
    | cons d v =>
      have h := sgC_lt hab hu.cons.1 hv.cons.1
      rw [dotL_cons, dotL_cons]
      simp only [List.cons_lt_cons_iff, ltB, Bool.or_eq_true, Bool.and_eq_true, decide_eq_true_eq, h.1, h.2, dotT_lt hab hu.cons.2 hv.cons.2]
theorem dotT_app : ∀ u v : List Nat, dotT a b (u ++ v) = dotT a b u ++ dotT a b v
  | [], _ => rfl
  | c :: u, v => by simp only [List.cons_append, dotT, dotT_app u v]
theorem dotL_app {c d : Nat} {u v : List Nat} : dotL (((c :: u) ++ (d :: v)).map fun c => [sgC a b c]) = dotL ((c :: u).map fun c => [sgC a b c]) ++ 46 :: dotL ((d :: v).map fun c => [sgC a b c]) := by
  rw [List.cons_append, dotL_cons, dotL_cons, dotL_cons, dotT_app]; rfl
theorem dotT_clean (ha : a ≠ 10 ∧ a ≠ 13) (hb : b ≠ 10 ∧ b ≠ 13) : ∀ u : List Nat, Clean (dotT a b u)
  | [], _, h => nomatch h
  | c :: u, x, h => by
    rcases List.mem_cons.mp h with rfl | h
    · exact ⟨by decide, by decide⟩
    rcases List.mem_cons.mp h with rfl | h
    · unfold sgC; split <;> assumption
    · exact dotT_clean ha hb u x h
theorem dotT_length : ∀ u : List Nat, (dotT a b u).length = 2 * u.length
  | [] => rfl
  | c :: u => by simp only [dotT, List.length_cons, dotT_length u]; omega
end
noncomputable def Signs (s0 s1 : Str) (a b : Nat) : Prop := s0.cps.toList = [a] ∧ s1.cps.toList = [b] ∧ a < b ∧ (a ≠ 10 ∧ a ≠ 13) ∧ (b ≠ 10 ∧ b ≠ 13) ∧ a ≠ 46 ∧ b ≠ 46
section
variable {s0 s1 : Str} {a b : Nat}
theorem nameW_eq (S : Signs s0 s1 a b) (p : Nat × Nat) : nameW s0 s1 p = dotL ((bitsOf p.1 p.2).map fun c => [sgC a b c]) := by
  unfold nameW
  congr 1
  refine List.map_congr_left fun c _ => ?_
  unfold sgC
  rw [S.1, S.2.1]; split <;> rfl
theorem bits_cons {p : Nat × Nat} (h : 0 < p.1 + p.2) : ∃ c r, bitsOf p.1 p.2 = c :: r := by
  cases hq : bitsOf p.1 p.2 with
  | nil => have := congrArg List.length hq; simp [bitsOf] at this; omega
  | cons c r => exact ⟨c, r, rfl⟩
theorem bits_length (p : Nat × Nat) : (bitsOf p.1 p.2).length = p.1 + p.2 := by simp [bitsOf]
theorem name_cons (S : Signs s0 s1 a b) {p : Nat × Nat} (h : 0 < p.1 + p.2) : ∃ c r, bitsOf p.1 p.2 = c :: r ∧ nameW s0 s1 p = sgC a b c :: dotT a b r ∧ sgC a b c ≠ 46 ∧ (sgC a b c ≠ 10 ∧ sgC a b c ≠ 13) := by
  obtain ⟨c, r, e⟩ := bits_cons h
  refine ⟨c, r, e, by rw [nameW_eq S, e, dotL_cons], ?_, ?_⟩
  · have := S.2.2.2.2.2.1; have := S.2.2.2.2.2.2; unfold sgC; split <;> assumption
  · have := S.2.2.2.1; have := S.2.2.2.2.1; unfold sgC; split <;> assumption
noncomputable def dueWs (s0 s1 : Str) (ps : List (Nat × Nat)) : List Str := (List.range ps.length).map (dueW s0 s1 ps)
theorem due_cps (ps : List (Nat × Nat)) (k : Nat) : (dueW s0 s1 ps k).cps.toList = List.replicate (dotsOf ps k) 46 ++ nameW s0 s1 (ps.getD k (0, 0)) := by simp [dueW]
theorem due_strip (S : Signs s0 s1 a b) {ps : List (Nat × Nat)} {k : Nat} (h : 0 < (ps.getD k (0, 0)).1 + (ps.getD k (0, 0)).2) : (Txt.lstripChars (dueW s0 s1 ps k) (Str.ofString ".")).cps.toList = nameW s0 s1 (ps.getD k (0, 0)) := by
  obtain ⟨c, r, _, e, h2, _⟩ := name_cons S h
  rw [e]
  exact lstrip_dots (d := dotsOf ps k) (by rw [due_cps, e]) h2
theorem strcoll_bits (hab : a < b) {x y : Str} {u v : List Nat} (hu : Bits u) (hv : Bits v) (hx : x.cps.toList = dotL (u.map fun c => [sgC a b c])) (hy : y.cps.toList = dotL (v.map fun c => [sgC a b c])) :
    strcoll x y = b2i (ltB v u) - b2i (ltB u v) := by
  unfold strcoll
  rw [hx, hy]
  congr 2
  · rw [Bool.eq_iff_iff, decide_eq_true_iff]; exact dotL_lt hab hv hu
  · rw [Bool.eq_iff_iff, decide_eq_true_iff]; exact dotL_lt hab hu hv
theorem gapP_bits (hab : a < b) {text c : Str} {u v : List Nat} (hu : Bits u) (hv : Bits v) (hx : (Txt.lstripChars c (Str.ofString ".")).cps.toList = dotL (u.map fun c => [sgC a b c])) (hy : text.cps.toList = dotL (v.map fun c => [sgC a b c])) :
    gapP text c = !(ltB v u) := by
  unfold gapP
  rw [strcoll_bits hab hu hv hx hy]
  cases h : ltB v u with
  | true => rw [ltB_asymm h]; decide
  | false => cases ltB u v <;> decide
end
noncomputable def ins (g : Nat) (ps : List (Nat × Nat)) : List (Nat × Nat) := ps.take (g + 1) ++ ((ps.getD g (0, 0)).1 + (ps.getD (g + 1) (0, 0)).1, (ps.getD g (0, 0)).2 + (ps.getD (g + 1) (0, 0)).2) :: ps.drop (g + 1)
noncomputable def reach : Nat → List (List (Nat × Nat))
  | 0 => [[(1, 0), (0, 1)]]
  | k + 1 => (reach k).flatMap fun ps => (List.range (ps.length - 1)).map fun g => ins g ps
noncomputable def okStep (ps : List (Nat × Nat)) (g : Nat) : Bool :=
  (bitsOf ((ps.getD g (0, 0)).1 + (ps.getD (g + 1) (0, 0)).1) ((ps.getD g (0, 0)).2 + (ps.getD (g + 1) (0, 0)).2) == bitsOf (ps.getD g (0, 0)).1 (ps.getD g (0, 0)).2 ++ bitsOf (ps.getD (g + 1) (0, 0)).1 (ps.getD (g + 1) (0, 0)).2) &&
  (List.range (ps.length + 1)).all fun k =>
    if k ≤ g then dotsOf (ins g ps) k == dotsOf ps k + (if k = g then 1 else 0) && (ins g ps).getD k (0, 0) == ps.getD k (0, 0)
    else if k = g + 1 then dotsOf (ins g ps) k == 1 && (ins g ps).getD k (0, 0) == ((ps.getD g (0, 0)).1 + (ps.getD (g + 1) (0, 0)).1, (ps.getD g (0, 0)).2 + (ps.getD (g + 1) (0, 0)).2)
    else dotsOf (ins g ps) k == dotsOf ps (k - 1) + (if k - 1 = g + 1 then 1 else 0) && (ins g ps).getD k (0, 0) == ps.getD (k - 1) (0, 0)
noncomputable def okState (ps : List (Nat × Nat)) : Bool :=
  decide (2 ≤ ps.length) && decide (ps.length ≤ 7) && (ps.all fun p => decide (p.1 ≤ 100) && decide (p.2 ≤ 100) && decide (0 < p.1 + p.2)) &&
  (List.range ps.length).all fun k => decide (1 ≤ dotsOf ps k) && decide (dotsOf ps k ≤ 300)
noncomputable def okOrder (ps : List (Nat × Nat)) : Bool :=
  decide (ps.length = 7) && (List.range ps.length).all fun i => (List.range ps.length).all fun j => ltB (bitsOf (ps.getD i (0, 0)).1 (ps.getD i (0, 0)).2) (bitsOf (ps.getD j (0, 0)).1 (ps.getD j (0, 0)).2) == decide (i < j)
theorem steps_ok : ((List.range 5).all fun k => (reach k).all fun ps => (List.range (ps.length - 1)).all fun g => okStep ps g) = true := by decide +kernel
theorem states_ok : ((List.range 6).all fun k => (reach k).all okState) = true := by decide +kernel
theorem order_ok : (reach 5).all okOrder = true := by decide +kernel
end Mine
end
section
open PySem PySem.W PyProof.Rows PySem.Calls PySem.Spec
namespace Mine
theorem start_Lw5 : True := by
  w_top off
  k_with_none
  trivial
theorem inner_map {α β : Type} (f : α → β) (l : List α) : inner (l.map f) = (inner l).map f := by simp [inner, List.map_drop, List.map_take]
theorem getD_map_range (ps : List (Nat × Nat)) : (List.range ps.length).map (fun k => ps.getD k (0, 0)) = ps := by
  apply List.ext_getElem (by simp)
  intro i h1 h2
  simp [List.getD_eq_getElem?_getD, h2]
noncomputable def gapN (ps : List (Nat × Nat)) (bs : List Nat) : Nat := ((inner ps).filter fun p => !(ltB bs (bitsOf p.1 p.2))).length
noncomputable def toldF (dw : Nat → List Nat) (gap : Nat) (newS : Str) (k : Nat) : Str := if k ≤ gap then dwS dw k else if k = gap + 1 then newS else dwS dw (k - 1)
theorem told_eq (dw : Nat → List Nat) (gap : Nat) (newS : Str) : ∀ i, toldS dw gap newS i = if i ≤ gap + 1 then (List.range i).map (toldF dw gap newS) else (List.range (i + 1)).map (toldF dw gap newS)
  | 0 => by rw [if_pos (by omega)]; rfl
  | i + 1 => by
    rw [told_succ, told_eq dw gap newS i]
    by_cases h1 : i + 1 ≤ gap + 1
    · rw [if_pos (show i ≤ gap + 1 by omega), if_pos h1, if_neg (by omega), List.range_succ, List.map_append, List.map_singleton]
      unfold toldF; rw [if_pos (show i ≤ gap by omega)]
    · rw [if_neg h1]
      by_cases h2 : i = gap + 1
      · rw [if_pos (show i ≤ gap + 1 by omega), if_pos h2, List.range_succ (n := i + 1), List.range_succ (n := i), List.map_append, List.map_append, List.map_singleton, List.map_singleton, List.append_assoc]
        congr 1
        unfold toldF
        rw [if_neg (show ¬ i ≤ gap by omega), if_pos h2, if_neg (show ¬ i + 1 ≤ gap by omega), if_neg (show ¬ i + 1 = gap + 1 by omega)]; rfl
      · rw [if_neg (show ¬ i ≤ gap + 1 by omega), if_neg h2, List.range_succ (n := i + 1), List.map_append, List.map_singleton]
        congr 1
        unfold toldF
        rw [if_neg (show ¬ i + 1 ≤ gap by omega), if_neg (show ¬ i + 1 = gap + 1 by omega)]; rfl
structure StateOk (ps : List (Nat × Nat)) : Prop where
  two : 2 ≤ ps.length
  seven : ps.length ≤ 7
  pr : ∀ p ∈ ps, p.1 ≤ 100 ∧ p.2 ≤ 100 ∧ 0 < p.1 + p.2
  dots : ∀ k, k < ps.length → 1 ≤ dotsOf ps k ∧ dotsOf ps k ≤ 300
theorem state_ok {k : Nat} (hk : k < 6) {ps : List (Nat × Nat)} (h : ps ∈ reach k) : StateOk ps := by
  have := List.all_eq_true.mp (List.all_eq_true.mp states_ok k (List.mem_range.mpr hk)) ps h
  unfold okState at this
  simp only [Bool.and_eq_true, decide_eq_true_eq, List.all_eq_true, List.mem_range] at this
  obtain ⟨⟨⟨h1, h2⟩, h3⟩, h4⟩ := this
  exact ⟨h1, h2, fun p hp => ⟨(h3 p hp).1.1, (h3 p hp).1.2, (h3 p hp).2⟩, h4⟩
theorem StateOk.at {ps : List (Nat × Nat)} (h : StateOk ps) {k : Nat} (hk : k < ps.length) : (ps.getD k (0, 0)).1 ≤ 100 ∧ (ps.getD k (0, 0)).2 ≤ 100 ∧ 0 < (ps.getD k (0, 0)).1 + (ps.getD k (0, 0)).2 := by
  have e : ps.getD k (0, 0) = ps[k] := by simp [List.getD_eq_getElem?_getD, hk]
  rw [e]; exact h.pr _ (List.getElem_mem hk)
theorem reach_ins {k : Nat} {ps : List (Nat × Nat)} (h : ps ∈ reach k) {g : Nat} (hg : g + 1 < ps.length) : ins g ps ∈ reach (k + 1) := by
  unfold reach
  exact List.mem_flatMap.mpr ⟨ps, h, List.mem_map.mpr ⟨g, List.mem_range.mpr (by omega), rfl⟩⟩
theorem step_ok {k : Nat} (hk : k < 5) {ps : List (Nat × Nat)} (h : ps ∈ reach k) {g : Nat} (hg : g + 1 < ps.length) : okStep ps g = true :=
  List.all_eq_true.mp (List.all_eq_true.mp (List.all_eq_true.mp steps_ok k (List.mem_range.mpr hk)) ps h) g (List.mem_range.mpr (by omega))
section
variable {s0 s1 : Str} {a b : Nat}
theorem name_clean (S : Signs s0 s1 a b) {p : Nat × Nat} (h : 0 < p.1 + p.2) : Clean (nameW s0 s1 p) := by
  obtain ⟨c, r, _, e, _, h3⟩ := name_cons S h
  rw [e]
  intro x hx
  rcases List.mem_cons.mp hx with rfl | hx
  · exact h3
  · exact dotT_clean S.2.2.2.1 S.2.2.2.2.1 r x hx
theorem name_len (S : Signs s0 s1 a b) {p : Nat × Nat} (h : 0 < p.1 + p.2) : (nameW s0 s1 p).length ≤ 2 * (p.1 + p.2) := by
  obtain ⟨c, r, e1, e, _, _⟩ := name_cons S h
  have := bits_length p
  rw [e1, List.length_cons] at this
  rw [e, List.length_cons, dotT_length]; omega
theorem due_ok (S : Signs s0 s1 a b) {ps : List (Nat × Nat)} (so : StateOk ps) {x : Str} (hx : x ∈ dueWs s0 s1 ps) : WordOk x.cps.toList ∧ x.length ≤ 1000 := by
  obtain ⟨k, hk, rfl⟩ := List.mem_map.mp hx
  have hk := List.mem_range.mp hk
  have hp := so.at hk
  have hd := so.dots k hk
  refine ⟨⟨?_, ?_⟩, ?_⟩
  · rw [due_cps]
    refine Clean.append ?_ (name_clean S hp.2.2)
    intro c hc
    obtain ⟨_, rfl⟩ := List.mem_replicate.mp hc
    exact ⟨by decide, by decide⟩
  · rw [due_cps]
    obtain ⟨d, e⟩ : ∃ d, dotsOf ps k = d + 1 := ⟨dotsOf ps k - 1, by omega⟩
    rw [e, List.replicate_succ, List.cons_append]
    exact ⟨_, rfl⟩
  · show (dueW s0 s1 ps k).cps.size ≤ 1000
    rw [← Array.length_toList, due_cps, List.length_append, List.length_replicate]
    have := name_len S hp.2.2
    omega
theorem gap_eq (S : Signs s0 s1 a b) {ps : List (Nat × Nat)} (so : StateOk ps) {bs : List Nat} (hbs : Bits bs) {text : Str} (ht : text.cps.toList = dotL (bs.map fun c => [sgC a b c])) :
    gapN ps bs = ((inner (dueWs s0 s1 ps)).filter (gapP text)).length := by
  have e1 : inner ps = (inner (List.range ps.length)).map fun k => ps.getD k (0, 0) := by rw [← inner_map, getD_map_range]
  unfold gapN dueWs
  rw [e1, inner_map, List.filter_map, List.filter_map, List.length_map, List.length_map]
  congr 1
  refine List.filter_congr fun k hk => ?_
  have hk' : k < ps.length := by
    unfold inner at hk
    exact List.mem_range.mp (List.mem_of_mem_drop (List.mem_of_mem_take hk))
  have hp := so.at hk'
  show (!(ltB bs _)) = gapP text (dueW s0 s1 ps k)
  rw [gapP_bits S.2.2.1 (bits_le hp.2.2) hbs (by rw [due_strip S hp.2.2, nameW_eq S]) ht]
theorem gap_lt {ps : List (Nat × Nat)} (so : StateOk ps) (bs : List Nat) : gapN ps bs + 1 < ps.length := by
  have h1 : gapN ps bs ≤ (inner ps).length := List.length_filter_le _ _
  have h2 : (inner ps).length ≤ ps.length - 2 := by unfold inner; simp; omega
  have := so.two; omega
theorem told_due (S : Signs s0 s1 a b) {k : Nat} (hk : k < 5) {ps : List (Nat × Nat)} (hp : ps ∈ reach k) {g : Nat} (hg : g + 1 < ps.length) :
    toldS (DW g ((dueWs s0 s1 ps).map (·.cps.toList))) g (newOf g (dueWs s0 s1 ps)) (dueWs s0 s1 ps).length = dueWs s0 s1 (ins g ps) := by
  have so := state_ok (by omega) hp
  have st := step_ok hk hp hg
  unfold okStep at st
  simp only [Bool.and_eq_true, List.all_eq_true, List.mem_range, beq_iff_eq] at st
  obtain ⟨hb, hs⟩ := st
  have hl : (dueWs s0 s1 ps).length = ps.length := by simp [dueWs]
  have hil : (ins g ps).length = ps.length + 1 := by simp [ins]; omega
  rw [told_eq, if_neg (by omega), hl]
  show _ = (List.range (ins g ps).length).map _
  rw [hil]
  refine List.map_congr_left fun j hj => ?_
  have hj := List.mem_range.mp hj
  have hw : ∀ i, i < ps.length → ((dueWs s0 s1 ps).map (·.cps.toList)).getD i [] = List.replicate (dotsOf ps i) 46 ++ nameW s0 s1 (ps.getD i (0, 0)) := by
    intro i hi
    rw [← due_cps]
    simp [dueWs, List.getD_eq_getElem?_getD, hi]
  have hD : ∀ i, i < ps.length → (DW g ((dueWs s0 s1 ps).map (·.cps.toList)) i) = List.replicate (dotsOf ps i + (if i = g ∨ i = g + 1 then 1 else 0)) 46 ++ nameW s0 s1 (ps.getD i (0, 0)) := by
    intro i hi
    unfold DW
    rw [hw i hi]
    split
    · rfl
    · rfl
  have h1 := hs j hj
  apply Str.ext'
  apply Array.toList_inj.mp
  rw [due_cps]
  unfold toldF
  by_cases c1 : j ≤ g
  · rw [if_pos c1] at h1 ⊢
    simp only [Bool.and_eq_true, beq_iff_eq] at h1
    show (DW g _ j) = _
    rw [hD j (by omega), h1.1, h1.2]
    congr 2
    by_cases c2 : j = g
    · rw [if_pos c2, if_pos (.inl c2)]
    · rw [if_neg c2, if_neg (by omega)]
  rw [if_neg c1] at h1 ⊢
  by_cases c2 : j = g + 1
  · rw [if_pos c2] at h1 ⊢
    simp only [Bool.and_eq_true, beq_iff_eq] at h1
    rw [h1.1, h1.2]
    have hpg := (so.at (show g < ps.length by omega)).2.2
    have hpg1 := (so.at hg).2.2
    have strip : ∀ i, i < ps.length → (Txt.lstripChars (dwS (DW g ((dueWs s0 s1 ps).map (·.cps.toList))) i) (Str.ofString ".")).cps.toList = nameW s0 s1 (ps.getD i (0, 0)) := by
      intro i hi
      obtain ⟨c, r, _, e, h2, _⟩ := name_cons S (so.at hi).2.2
      rw [e]
      refine lstrip_dots (d := dotsOf ps i + (if i = g ∨ i = g + 1 then 1 else 0)) ?_ h2
      show (DW g _ i) = _
      rw [hD i hi, e]
    unfold newOf
    rw [cat_cps, cat_cps, cat_cps, strip g (by omega), strip (g + 1) hg, show (Str.ofString ".").cps.toList = [46] from by decide +kernel]
    obtain ⟨c, r, e, _⟩ := name_cons S hpg
    obtain ⟨c', r', e', _⟩ := name_cons S hpg1
    rw [nameW_eq S, nameW_eq S, nameW_eq S]
    dsimp only
    rw [hb, e, e', dotL_app]
    simp [List.replicate]
  · rw [if_neg c2] at h1 ⊢
    simp only [Bool.and_eq_true, beq_iff_eq] at h1
    show (DW g _ (j - 1)) = _
    rw [hD (j - 1) (by omega), h1.1, h1.2]
    congr 2
    by_cases c3 : j - 1 = g + 1
    · rw [if_pos c3, if_pos (.inr c3)]
    · rw [if_neg c3, if_neg (by omega)]
theorem law_step (S : Signs s0 s1 a b) {k : Nat} (hk : k < 5) {ps : List (Nat × Nat)} (hp : ps ∈ reach k) {bs : List Nat} (hbs : Bits bs) {text : Str} (ht : text.cps.toList = dotL (bs.map fun c => [sgC a b c])) {number : Nat} (hn : number ≤ 100000000) :
    ∃ R dw newS, GrowOk (dueWs s0 s1 ps) text number (gapN ps bs) R dw newS ∧ toldS dw (gapN ps bs) newS (dueWs s0 s1 ps).length = dueWs s0 s1 (ins (gapN ps bs) ps) ∧ ins (gapN ps bs) ps ∈ reach (k + 1) ∧ gapN ps bs + 1 < ps.length := by
  have so := state_ok (by omega) hp
  have hl : (dueWs s0 s1 ps).length = ps.length := by simp [dueWs]
  have hg := gap_lt so bs
  have := so.seven
  exact ⟨_, _, _, grow_ok (gap_eq S so hbs ht) (by omega) (by omega) (fun x hx => (due_ok S so hx).2) hn (fun x hx => (due_ok S so hx).1), told_due S hk hp hg, reach_ins hp hg, hg⟩
/-- the order of the last row -/
theorem law_order (S : Signs s0 s1 a b) {ps : List (Nat × Nat)} (hp : ps ∈ reach 5) {i j : Nat} (hi : i < ps.length) (hj : j < ps.length) {x y : Str} (hx : x.cps.toList = nameW s0 s1 (ps.getD i (0, 0))) (hy : y.cps.toList = nameW s0 s1 (ps.getD j (0, 0))) :
    strcoll x y = min 1 (max (-1) ((i : Int) - j)) := by
  have so := state_ok (by omega) hp
  have ho := List.all_eq_true.mp order_ok ps hp
  unfold okOrder at ho
  simp only [Bool.and_eq_true, List.all_eq_true, List.mem_range, decide_eq_true_eq, beq_iff_eq] at ho
  rw [strcoll_bits S.2.2.1 (bits_le (so.at hi).2.2) (bits_le (so.at hj).2.2) (by rw [hx, nameW_eq S]) (by rw [hy, nameW_eq S]), ho.2 i hi j hj, ho.2 j hj i hi]
  by_cases h1 : i < j
  · rw [decide_eq_true h1, decide_eq_false (by omega)]
    show (0 : Int) - 1 = _; omega
  by_cases h2 : j < i
  · rw [decide_eq_true h2, decide_eq_false h1]
    show (1 : Int) - 0 = _; omega
  · rw [decide_eq_false h2, decide_eq_false h1]
    show (0 : Int) - 0 = _; omega
theorem law_seven {ps : List (Nat × Nat)} (hp : ps ∈ reach 5) : ps.length = 7 := by
  have ho := List.all_eq_true.mp order_ok ps hp
  unfold okOrder at ho
  exact of_decide_eq_true (Bool.and_eq_true_iff.mp ho).1
/-- a word and its own name -/
theorem law_own (S : Signs s0 s1 a b) {k : Nat} (hk : k < 6) {ps : List (Nat × Nat)} (hp : ps ∈ reach k) {i : Nat} (hi : i < ps.length) {y : Str} (hy : y.cps.toList = nameW s0 s1 (ps.getD i (0, 0))) :
    ∃ c r, y.cps.toList = c :: r ∧ (c = a ∨ c = b) ∧ strcoll (dueW s0 s1 ps i) y = if c < 46 then 1 else -1 := by
  have so := state_ok hk hp
  obtain ⟨c, r, _, e, h2, _⟩ := name_cons S (so.at hi).2.2
  have hd := so.dots i hi
  obtain ⟨d, ed⟩ : ∃ d, dotsOf ps i = d + 1 := ⟨dotsOf ps i - 1, by omega⟩
  refine ⟨_, _, by rw [hy, e], ?_, ?_⟩
  · unfold sgC; split <;> simp
  · unfold strcoll
    rw [due_cps, hy, e, ed, List.replicate_succ, List.cons_append]
    have l1 : ∀ (x y : Nat) (u v : List Nat), x < y → decide ((x :: u) < (y :: v)) = true := fun x y u v h => decide_eq_true (List.cons_lt_cons_iff.mpr (.inl h))
    have l2 : ∀ (x y : Nat) (u v : List Nat), y < x → decide ((x :: u) < (y :: v)) = false := fun x y u v h => decide_eq_false fun q => by
      rcases List.cons_lt_cons_iff.mp q with q | q
      · omega
      · omega
    by_cases h : sgC a b c < 46
    · rw [if_pos h, l1 _ _ _ _ h, l2 _ _ _ _ h]; rfl
    · have h' : 46 < sgC a b c := by omega
      rw [if_neg h, l1 _ _ _ _ h', l2 _ _ _ _ h']; rfl
end
end Mine
end
section
open PySem PySem.W PyProof.Rows PySem.Calls PySem.Spec
namespace Mine
theorem start_La1 : True := by
  w_top off
  k_with_none
  trivial
noncomputable abbrev lwScope : Scope := pk (scp (topS 19)) _ (by conv => rhs; whnf; rfl)
noncomputable abbrev lwEnv (L f : Nat) (cd : Value) : Env := envOfC (Str.ofString "law") lwScope L f cd
noncomputable abbrev lwS0 : Stmt := pk (kid (topS 19) 0) _ (by conv => rhs; whnf; rfl)
noncomputable abbrev lwS1 : Stmt := pk (kid (topS 19) 1) _ (by conv => rhs; whnf; rfl)
noncomputable abbrev lwS2 : Stmt := pk (kid (topS 19) 2) _ (by conv => rhs; whnf; rfl)
noncomputable abbrev lwS3 : Stmt := pk (kid (topS 19) 3) _ (by conv => rhs; whnf; rfl)
noncomputable abbrev lwS4 : Stmt := pk (kid (topS 19) 4) _ (by conv => rhs; whnf; rfl)
noncomputable abbrev lwFor5 : List Stmt := pk (kids (kid (topS 19) 5)) _ (by conv => rhs; whnf; rfl)
noncomputable abbrev lwS5 : Stmt := pk (kid (topS 19) 5) _ (by conv => rhs; whnf; rfl)
noncomputable abbrev lwS6 : Stmt := pk (kid (topS 19) 6) _ (by conv => rhs; whnf; rfl)
noncomputable abbrev lwS7 : Stmt := pk (kid (topS 19) 7) _ (by conv => rhs; whnf; rfl)
noncomputable abbrev lwIn : List Stmt := pk (kids (kid (kid (topS 19) 8) 2)) _ (by conv => rhs; whnf; rfl)
noncomputable abbrev lwFor8 : List Stmt := pk (kids (kid (topS 19) 8)) _ (by conv => rhs; whnf; rfl)
noncomputable abbrev lwS8 : Stmt := pk (kid (topS 19) 8) _ (by conv => rhs; whnf; rfl)
noncomputable abbrev lwS9 : Stmt := pk (kid (topS 19) 9) _ (by conv => rhs; whnf; rfl)
noncomputable abbrev tab0 : Obj := tabObj #[]
section
variable {w : World} {p : Program} {loose : List Str} {mean : ExcName → Option Value} {mg mb : Str → Option Value} {dp un : Nat} {fr : Option (List Env)} {gd : Option (List Code)} {s : Shared}
    {hb : Heap} {L a f : Nat} {cd : Value}
theorem cells_fr {E Q : Value → Shared → Prop} {m : Str → Option Value} {rest : List (Addr × Obj)} {c k : Nat} {vs cvs : List Value} {ns cns : List Int} (X : (hd.heap_39 w.params).In hb) (T : Top p loose mean mg mb hb) (hroom : dp < 900) (F : Fr hb L s.heap m)
    (N : News hb L s.heap ((c, listOf cvs.toArray k) :: rest)) (hne : ∀ p ∈ rest, p.1 ≠ c) (hl : hb.IsList a vs.toArray) (hi : IntsAre vs ns) (hn : ns.length ≤ 63) (hc : IntsAre cvs cns) (hc5 : cns.length = 5) (hcb : ∀ n ∈ cns, 0 ≤ n ∧ n ≤ 100)
    (ret : ∀ h' tk cvs' cns' k', Fr hb L h' m → News hb L h' ((c, listOf cvs'.toArray k') :: rest) → IntsAre cvs' cns' → cns'.length = 5 → (∀ n ∈ cns', 0 ≤ n ∧ n ≤ 100000000) → Q (.ref c) { s with heap := h', toks := tk }) :
    wpAny (model PySem.Challenge.rw_sl0003_01.row.prog w) (AA dp un fr gd) (call (.ref 111) [.ref a, .ref c]) Q E s := by
  refine open_all (ns := [(c, listOf cvs.toArray k)]) F N X T (List.forall_mem_cons.mpr ⟨.head _, List.forall_mem_nil _⟩) fun g B X2 T2 st Ld fin => ?_
  refine c_cells B X2 T2 hroom Ld (hl.at fun o e => st _ _ e) hi hn hc hc5 hcb fun h' tk cvs' cns' k' B' N' i5 l5 b5 => ?_
  have := fin h' _ ((c, listOf cvs'.toArray k') :: rest) B' N' (fun p hp => by
    rcases List.mem_cons.mp hp with rfl | hp
    · exact .inl (.head _)
    · exact .inr ⟨.tail _ hp, fun q => absurd (List.mem_singleton.mp q) (hne p hp)⟩)
  exact ret h' tk cvs' cns' k' this.1 this.2 i5 l5 b5
end
noncomputable def PieceV (v : Value) : Option Str → Prop | none => v = .none | some x => ∃ t, v = .str x t
noncomputable def Four (o0 o1 : Option Str) : Prop := (o0 = none ∧ o1 = some (Str.ofString "b")) ∨ (o0 = some (Str.ofString "\"") ∧ o1 = some (Str.ofString "\\")) ∨ (o0 = some (Str.ofString "\t") ∧ o1 = some (Str.ofString " ")) ∨ (o0 = some (Str.ofString "#") ∧ o1 = none)
theorem subN {hb h : Heap} {L : Addr} {news : List (Addr × Obj)} {p1 p2 p3 p4 p5 p6 : Addr × Obj} (N : News hb L h news) (m1 : p1 ∈ news) (m2 : p2 ∈ news) (m3 : p3 ∈ news) (m4 : p4 ∈ news) (m5 : p5 ∈ news) (m6 : p6 ∈ news) : News hb L h [p1, p2, p3, p4, p5, p6] :=
  News.sub N (List.forall_mem_cons.mpr ⟨m1, List.forall_mem_cons.mpr ⟨m2, List.forall_mem_cons.mpr ⟨m3, List.forall_mem_cons.mpr ⟨m4, List.forall_mem_cons.mpr ⟨m5, List.forall_mem_cons.mpr ⟨m6, List.forall_mem_nil _⟩⟩⟩⟩⟩⟩)
noncomputable def Stuck4 (P : Prop) : Prop := P
theorem stuck4 {P : Prop} (h : Stuck4 P) : P := h
theorem reg1_La1 : True := by
  k_with "call ref" => ((k_here; (with_reducible show wpAny _ _ (call (Value.ref 111) [_, _]) _ _ _); apply stuck4))
  trivial
section
variable {w : World} {p : Program} {loose : List Str} {mean : ExcName → Option Value} {mg mb : Str → Option Value} {dp un : Nat} {fr : Option (List Env)} {gd : Option (List Code)} {s : Shared}
    {hb : Heap} {L a f : Nat} {cd : Value}
set_option maxHeartbeats 4000000 in
theorem law_head {Q : Flow → Shared → Prop} {rest : List Stmt} {vs : List Value} {ns : List Int} {c1 c2 c3 : Obj} (X : (hd.heap_39 w.params).In hb) (T : Top p loose mean mg mb hb) (hroom : dp < 700) (hun : un < 3000)
    (F : Fr hb L s.heap (fun y => if y = Str.ofString "script" then some (.ref a) else none)) (N : News hb L s.heap [(L + 1 + 1 + 1, c3), (L + 1 + 1, c2), (L + 1, c1), (113, tab0)]) (l0 : @LT.lt Nat _ 113 L)
    (d1 : c1.data = .cell none) (d2 : c2.data = .cell none) (d3 : c3.data = .cell none) (hl : hb.IsList a vs.toArray) (hi : IntsAre vs ns) (hn : ns.length ≤ 63)
    (cont : ∀ h' tk (c P : Nat) cvs cns kc v0 v1 o0 o1, Fr hb L h' (fun y => if y = Str.ofString "pieces" then some (.ref P) else if y = Str.ofString "cells" then some (.ref c) else if y = Str.ofString "script" then some (.ref a) else none) →
      News hb L h' [(P, { cls := .type "tuple", data := .seq #[v0, v1] 0 }), (c, listOf cvs.toArray kc), (L + 1 + 1 + 1, c3), (L + 1 + 1, c2), (L + 1, c1), (113, tab0)] → PieceV v0 o0 → PieceV v1 o1 → Four o0 o1 → @LT.lt Nat _ (L + 1 + 1 + 1) c → @LT.lt Nat _ c P →
      IntsAre cvs cns → cns.length = 5 → (∀ n ∈ cns, 0 ≤ n ∧ n ≤ 100000000) → wpAny (model PySem.Challenge.rw_sl0003_01.row.prog w) (AA dp un fr gd) (execs rest (lwEnv L f cd)) Q (fun _ _ => False) { s with heap := h', toks := tk }) :
    wpAny (model PySem.Challenge.rw_sl0003_01.row.prog w) (AA dp un fr gd) (execs (lwS0 :: lwS1 :: rest) (lwEnv L f cd)) Q (fun _ _ => False) s := by
  have X0 := X
  revert X; k_fill; intro X
  k_steps
  show wpAny (model PySem.Challenge.rw_sl0003_01.row.prog w) (AA dp un fr gd) (call (Value.ref 111) _) _ _ _
  rename Fr _ _ _ _ => F1
  rename News _ _ _ _ => N1
  obtain ⟨c, hcD⟩ := grabD N1
  subst hcD
  rename (_ ∧ _) => l1
  obtain ⟨q1, q2, q3, q4⟩ := l1
  refine cells_fr (ns := ns) (cvs := [_, _, _, _, _]) (cns := [2, 5, 11, 1, 53]) X0 T (by omega) F1 N1 ?_ hl hi hn (.cons _ _ (.cons _ _ (.cons _ _ (.cons _ _ (.cons _ _ .nil))))) rfl (by decide) fun h2 tk2 cvs cns kc F2 N2 i2 l2 b2 => ?_
  · refine List.forall_mem_cons.mpr ⟨?_, List.forall_mem_cons.mpr ⟨?_, List.forall_mem_cons.mpr ⟨?_, List.forall_mem_cons.mpr ⟨?_, List.forall_mem_nil _⟩⟩⟩⟩
    all_goals (show @Ne Nat _ _; omega)
  clear F1 N1
  k_steps
  all_goals (
    change wpAny _ _ _ _ _ _
    rename Fr _ _ _ _ => F9
    rename News _ _ _ _ => N9
    first
    | exact cont _ _ c _ cvs cns kc _ _ none (some (Str.ofString "b")) F9 (subN N9 (by k_mem) (by k_mem) (by k_mem) (by k_mem) (by k_mem) (by k_mem)) rfl ⟨_, rfl⟩ (.inl ⟨rfl, rfl⟩) q1 (by rename ((@LT.lt Addr _ c _) ∧ _) => z; exact z.1) i2 l2 b2
    | exact cont _ _ c _ cvs cns kc _ _ (some (Str.ofString "\"")) (some (Str.ofString "\\")) F9 (subN N9 (by k_mem) (by k_mem) (by k_mem) (by k_mem) (by k_mem) (by k_mem)) ⟨_, rfl⟩ ⟨_, rfl⟩ (.inr (.inl ⟨rfl, rfl⟩)) q1 (by rename (_ ∧ (@LT.lt Addr _ c _) ∧ _) => z; exact z.2.1) i2 l2 b2
    | exact cont _ _ c _ cvs cns kc _ _ (some (Str.ofString "\t")) (some (Str.ofString " ")) F9 (subN N9 (by k_mem) (by k_mem) (by k_mem) (by k_mem) (by k_mem) (by k_mem)) ⟨_, rfl⟩ ⟨_, rfl⟩ (.inr (.inr (.inl ⟨rfl, rfl⟩))) q1 (by rename (_ ∧ _ ∧ (@LT.lt Addr _ c _) ∧ _) => z; exact z.2.2.1) i2 l2 b2
    | exact cont _ _ c _ cvs cns kc _ _ (some (Str.ofString "#")) none F9 (subN N9 (by k_mem) (by k_mem) (by k_mem) (by k_mem) (by k_mem) (by k_mem)) ⟨_, rfl⟩ rfl (.inr (.inr (.inr ⟨rfl, rfl⟩))) q1 (by rename (_ ∧ _ ∧ _ ∧ (@LT.lt Addr _ c _) ∧ _) => z; exact z.2.2.2.1) i2 l2 b2)
end
end Mine
end
section
open PySem PySem.W PyProof.Rows PySem.Calls PySem.Spec
namespace Mine
theorem start_La0b : True := by
  w_top off
  k_with_none
  trivial
section
variable {prog : Program} {w : World} {A : Around} {E : Value → Shared → Prop} {s : Shared} {hb : Heap} {L : Addr} {m : Str → Option Value} {news : List (Addr × Obj)}
theorem comp_tupA {α : Type} {env : Env} {elt iter : Expr} {x y : Str} {px py spos : Pos} {scope : Scope} {cl : List (Str × Addr)} {pos : Pos} {Q : Flow → Shared → Prop} {cs : List α} (R : Value → α → Prop) (f : α → Str)
    (_F : Fr hb L s.heap m) (_N : News hb L s.heap news) (hsw : swapsWith (.ListComp elt [⟨.Name x px, iter, [], 0⟩] scope pos) (some (.Name y py)) spos.line env = pure true) (hy : env.kindOf y = some .local) (hp : (env.scope.kind == .class || (env.scope.kind == .module && env.locals != env.globals)) = false) (hEL : env.locals = L) (hfun : ∀ v c c', R v c → R v c' → f c = f c') (hh : A.handled = none) (hclos : closureFor scope env = pure cl) (hcell : ∀ y ∈ scope.names, y.2 ≠ .cell) (hkind : scope.kind = .function)
    (hnames : ∀ y ∈ scope.names, y.2 = .local → scope.names.lookup y.1 = some .local) (hx : scope.names.lookup x = some .local) (hsz : cs.length ≤ 1000000)
    (hi : wpAny (model prog w) A (eval iter env) (GotRelT s hb L m news R cs) E s)
    (he : ∀ v c C s₃ m₃ E', R v c → c ∈ cs → s₃.heap.Ns C m₃ → m₃ x = some v → (∀ b o, hb.get? b = some o → s₃.heap.get? b = some o) → (∀ p ∈ news, s₃.heap.get? p.1 = some p.2) →
      wpAny (model prog w) A (eval elt (compEnvC scope cl C env)) (GotElt (f c) s₃) E' s₃)
    (h : ∀ h' tk (D : Nat) (ys : List Value) k, Fr hb L h' (fun z => if z = y then some (.ref D) else m z) → News hb L h' ((D, listOf ys.toArray k) :: news) → SV ys (cs.map f) → (∀ p ∈ news, p.1 ≠ D) → Q .next { s with heap := h', toks := tk })
    (hs : ∀ x, foldedSetIterable iter env x = pure x := by intro _; rfl) :
    wpAny (model prog w) A (exec (.Assign [.Name y py] (.ListComp elt [⟨.Name x px, iter, [], 0⟩] scope pos) spos) env) Q E s := by
  refine wpAny_Assign_ListComp_free (fun _ => true) (fun v y => ∀ c, (R v c ∧ c ∈ cs) → ∃ u, y = Value.str (f c) u) hsw hclos hcell hkind hnames hx hy hp (wpAny_mono hi (fun xv s₁ h₁ => ?_) fun _ _ e => e) hs
  obtain ⟨a, h1, tk1, vs, rfl, rfl, F, N, hl, hrel⟩ := h₁
  have hlen0 := hrel.1
  have hne : a ≠ h1.objs.size := by obtain ⟨o, ho, _⟩ := hl; exact Nat.ne_of_lt (Heap.lt_size ho)
  have hlt : a < h1.objs.size := by obtain ⟨o, ho, _⟩ := hl; exact Heap.lt_size ho
  refine wpAny_pyIter_tuple hl ⟨_, _, _, _, _, _, m, rfl, Walks.tuple hh h1.objs.size a hne vs.toArray, by simp only [sizeLine, List.size_toArray]; omega, ⟨⟨_, Heap.get?_push_size _ rfl, rfl, rfl⟩, Heap.IsTuple.push hl _⟩, fun b hb => ?_, ?_, ?_, ⟨fun C i v s₃ m₃ E' _ _ _ _ _ _ => ?_, fun C i v s₃ m₃ E' _ hv _ hn hm hk _ => ?_⟩, fun D h' tk ys vs' hD hl' hpl hlen hP hF hns hk => ?_⟩
  · rcases List.mem_cons.mp hb with rfl | hb
    · rw [Heap.size_push]; exact Nat.lt_succ_self _
    · rw [List.mem_singleton.mp hb, Heap.size_push]; exact Nat.lt_succ_of_lt hlt
  · intro q
    obtain ⟨oL, _, _, hL, _⟩ := F.ns
    rw [hEL, List.mem_singleton] at q
    exact absurd (Heap.lt_size hL) (by rw [q]; exact Nat.lt_irrefl _)
  · rw [hEL]; exact F.ns.at' fun o e => Heap.get?_push_of_some _ e
  · rw [List.forIn_nil]; exact wpAny_pure ⟨rfl, ⟨_, _, rfl, fun _ _ e => e⟩⟩
  · obtain ⟨c, hc, hRv⟩ := hrel.get (j := i) (v := v) (by simpa using hv)
    have hcm : c ∈ cs := List.mem_of_getElem? hc
    refine wpAny_mono (he v c C s₃ m₃ E' hRv hcm hn hm (fun b o' e => hk b o' (fun q => ?_) (Heap.get?_push_of_some _ (F.keep _ _ e))) fun p hp => hk _ _ (fun q => ?_) (Heap.get?_push_of_some _ (N p hp).1)) (fun y s₄ h₄ => ⟨fun c' hc' => ?_, h₄.2⟩) fun _ _ e => e
    · rw [List.mem_singleton.mp q] at e; exact absurd (Heap.lt_size (F.keep _ _ e)) (Nat.lt_irrefl _)
    · have := Heap.lt_size (N p hp).1; rw [List.mem_singleton.mp q] at this; exact absurd this (Nat.lt_irrefl _)
    · rw [← hfun v c c' hRv hc'.1]; exact h₄.1
  · have nD : ∀ b o', b ≠ L → h1.get? b = some o' → h'.get? b = some o' := fun b o' hbL e => hk b o' (by rw [hEL]; exact hbL) (fun q => by rw [List.mem_singleton.mp q] at e; exact absurd (Heap.lt_size e) (Nat.lt_irrefl _)) (Heap.get?_push_of_some _ e)
    have h1D : h1.get? D = none := by
      cases q : h1.get? D with
      | none => rfl
      | some o' => rw [Heap.get?_push_of_some _ q] at hD; cases hD
    obtain ⟨k, hpl⟩ := hpl
    have hDL : D ≠ L := fun q => by
      obtain ⟨oL, _, _, hL, _⟩ := F.ns
      rw [← q, h1D] at hL; cases hL
    have hbL : ∀ b o, hb.get? b = some o → b ≠ L := fun b o e q => by
      have := Heap.lt_size e
      have h2 := F.above
      rw [q] at this; exact absurd (Nat.lt_of_lt_of_le this h2) (Nat.lt_irrefl _)
    have hbD : hb.get? D = none := by
      cases q : hb.get? D with
      | none => rfl
      | some o' => rw [F.keep _ _ q] at h1D; cases h1D
    rw [hEL] at hns
    refine h h' tk D ys.toList k ⟨hns, fun b o e => nD b o (hbL b o e) (F.keep _ _ e), F.above⟩ (fun p hp => ?_) ?_ fun p hp e => by rw [← e, (N p hp).1] at h1D; cases h1D
    · rcases List.mem_cons.mp hp with rfl | hp
      · exact ⟨by simpa using hpl, hDL, hbD⟩
      · exact ⟨nD _ _ (N p hp).2.1 (N p hp).1, (N p hp).2⟩
    rw [List.filter_eq_self.mpr (fun _ _ => rfl)] at hF
    refine SV.of_paired (R := fun v c => R v c ∧ c ∈ cs) hF (by rw [hlen, List.size_toArray]; exact hrel.1) fun j v c hv hc => ?_
    have := hP j v hv
    exact ⟨hrel.2 j v c (by simpa using this) hc, List.mem_of_getElem? hc⟩
end
end Mine
end
section
open PySem PySem.W PyProof.Rows PySem.Calls PySem.Spec
namespace Mine
theorem start_La2 : True := by
  w_top off
  k_with_none
  trivial
noncomputable def signOf (c : Option Str) : Str := c.getD (Str.ofString "C")
noncomputable def f2 (c : Option Str) : Str := doS (crS (Str.ofString "" ++ Str.ofString "." ++ signOf c))
theorem PieceV.inj {v : Value} {c c' : Option Str} (h : PieceV v c) (h' : PieceV v c') : c = c' := by
  cases c <;> cases c'
  · rfl
  · obtain ⟨t, e⟩ := h'; have h : v = .none := h; rw [e] at h; cases h
  · obtain ⟨t, e⟩ := h; have h' : v = .none := h'; rw [e] at h'; cases h'
  · obtain ⟨t, e⟩ := h; obtain ⟨t', e'⟩ := h'; rw [e] at e'; cases e'; rfl
section
variable {w : World} {p : Program} {loose : List Str} {mean : ExcName → Option Value} {mg mb : Str → Option Value} {dp un : Nat} {fr : Option (List Env)} {gd : Option (List Code)} {s : Shared} {E : Value → Shared → Prop} {Q : Value → Shared → Prop}
theorem tupK {vals : List Value} (X : (hd.heap_39 w.params).In s.heap) (T : Top p loose mean mg mb s.heap) (hz : vals.length ≤ 100)
    (h : ∀ (D : Nat) h', (hd.heap_39 w.params).In h' → Top p loose mean mg mb h' → (∀ b o, s.heap.get? b = some o → h'.get? b = some o) → IsTup h' D vals.toArray → Q (.ref D) { s with heap := h' }) :
    wpAny (model PySem.Challenge.rw_sl0003_01.row.prog w) (AA dp un fr gd) (newTuple vals) Q E s := by
  have k : ∀ b o, s.heap.get? b = some o → (s.heap.push { cls := .type "tuple", data := .seq vals.toArray }).get? b = some o := fun b o e => Heap.get?_push_of_some _ e
  exact wpAny_newTuple (h _ _ (X.keeps k) (T.keeps k) k ⟨_, Heap.get?_push_size _ rfl, rfl, _, rfl⟩) (by simp only [sizeLine]; omega)
theorem buildK {v : Value} {c : Option Str} {a : Nat} (X : (hd.heap_39 w.params).In s.heap) (T : Top p loose mean mg mb s.heap) (hroom : dp < 940) (hv : PieceV v c) (hz : (signOf c).length ≤ 10) (I : IsTup s.heap a #[v, .none])
    (ret : ∀ h' tk t, (hd.heap_39 w.params).In h' → Top p loose mean mg mb h' → (∀ b o, s.heap.get? b = some o → h'.get? b = some o) → Q (.str (signOf c) t) { s with heap := h', toks := tk }) :
    wpAny (model PySem.Challenge.rw_sl0003_01.row.prog w) (AA dp un fr gd) (call (.ref 45) [.ref a]) Q E s := by
  cases c with
  | none =>
    have hv : v = .none := hv
    subst hv
    exact c_build_tnn (hb := s.heap) (x := Str.ofString "") (y := Str.ofString "") (tx := 0) (ty := 0) Bs.rfl X T hroom I (by decide +kernel) (by decide +kernel) fun h' tk t k _ => ret h' tk t (X.keeps k) (T.keeps k) k
  | some x =>
    obtain ⟨t, rfl⟩ := hv
    have hz : x.length ≤ 10 := hz
    exact c_build_tsn (hb := s.heap) (y := Str.ofString "") (ty := 0) Bs.rfl X T hroom I (by omega) (by decide +kernel) fun h' tk t k _ => ret h' tk t (X.keeps k) (T.keeps k) k
theorem buildK2 {x y : Str} {tx ty : Tok} {a : Nat} (X : (hd.heap_39 w.params).In s.heap) (T : Top p loose mean mg mb s.heap) (hroom : dp < 940) (hx : x.length ≤ 10) (hy : y.length ≤ 10) (I : IsTup s.heap a #[.str x tx, .str y ty])
    (ret : ∀ h' tk t, (hd.heap_39 w.params).In h' → Top p loose mean mg mb h' → (∀ b o, s.heap.get? b = some o → h'.get? b = some o) → Q (.str (x ++ Str.ofString "." ++ y) t) { s with heap := h', toks := tk }) :
    wpAny (model PySem.Challenge.rw_sl0003_01.row.prog w) (AA dp un fr gd) (call (.ref 45) [.ref a]) Q E s :=
  c_build_tss (hb := s.heap) Bs.rfl X T hroom I (by omega) (by omega) fun h' tk t k _ => ret h' tk t (X.keeps k) (T.keeps k) k
theorem quoteK {x : Str} {tx : Tok} (X : (hd.heap_39 w.params).In s.heap) (T : Top p loose mean mg mb s.heap) (hroom : dp < 940) (hx : x.length ≤ 100)
    (ret : ∀ h' tk t, (∀ b o, s.heap.get? b = some o → h'.get? b = some o) → Q (.str (doS (crS x)) t) { s with heap := h', toks := tk }) :
    wpAny (model PySem.Challenge.rw_sl0003_01.row.prog w) (AA dp un fr gd) (call (.ref 104) [.str x tx]) Q E s := by
  have h1 : x.cps.size ≤ 100 := hx
  refine c_quote (hb := s.heap) Bs.rfl X T hroom (by omega) ?_ fun h' tk t B => ret h' tk t B.stays
  rw [← Array.length_toList, crS_eq]
  have := crB_len x.cps.toList false
  have h2 : x.cps.toList.length = x.cps.size := Array.length_toList
  unfold crL; omega
end
noncomputable abbrev rowElt : PySem.Expr := pk (subE (itr (kid (topS 19) 3)) 0) _ (by conv => rhs; whnf; rfl)
noncomputable abbrev rowScope : Scope := pk (scpE (itr (kid (topS 19) 3))) _ (by conv => rhs; whnf; rfl)
noncomputable abbrev sgElt : PySem.Expr := pk (subE (itr (kid (topS 19) 2)) 0) _ (by conv => rhs; whnf; rfl)
noncomputable abbrev sgScope : Scope := pk (scpE (itr (kid (topS 19) 2))) _ (by conv => rhs; whnf; rfl)
theorem reg1_La2 : True := by
  k_with "eval Name" => ((k_here; (with_reducible show wpAny _ _ (eval (Expr.Name (Str.ofString "quotedata") _) _) _ _ _); k_dflt (apply nmC; (case X => assumption); (case T => assumption); (case e => k_is); (case hg => rfl); (case hk => rfl); (case hx => rfl); (case hd => decide))))
  k_with "eval Name" => ((k_here; (with_reducible show wpAny _ _ (eval (Expr.Name (Str.ofString "_build_localename") _) _) _ _ _); k_dflt (apply nmC; (case X => assumption); (case T => assumption); (case e => k_is); (case hg => rfl); (case hk => rfl); (case hx => rfl); (case hd => decide))))
  k_with "newTuple" => ((k_here; (with_reducible show wpAny _ _ (newTuple _) _ _ _); k_dflt (apply tupK; (case X => assumption); (case T => assumption); (case hz => simp)); intro _ _ _ _ _ _))
  k_with "call ref" => ((k_here; (with_reducible show wpAny _ _ (call (Value.ref 45) [Value.ref _]) _ _ _); k_dflt (first | (apply buildK2; (case I => assumption); (case X => assumption); (case T => assumption); (case hroom => omega); (case hx => decide +kernel); (case hy => assumption)) | (apply buildK; (case I => assumption); (case X => assumption); (case T => assumption); (case hroom => omega); (case hv => assumption); (case hz => assumption))); intro _ _ _ _ _ _))
  k_with "call ref" => ((k_here; (with_reducible show wpAny _ _ (call (Value.ref 104) [_]) _ _ _); k_dflt (apply quoteK; (case X => assumption); (case T => assumption); (case hroom => omega); (case hx => assumption)); intro _ _ _ _))
  trivial
section
variable {w : World} {p : Program} {loose : List Str} {mean : ExcName → Option Value} {mg mb : Str → Option Value} {dp un : Nat} {fr : Option (List Env)} {gd : Option (List Code)} {s : Shared} {E : Value → Shared → Prop} {Q : Value → Shared → Prop}
set_option maxHeartbeats 2000000 in
theorem row_elt {L f C : Nat} {cd : Value} {v : Value} {c : Option Str} {m₃ : Str → Option Value} (X : (hd.heap_39 w.params).In s.heap) (T : Top p loose mean mg mb s.heap) (hroom : dp < 700) (hv : PieceV v c) (hz : (signOf c).length ≤ 10) (hn3 : s.heap.Ns C m₃) (hm3 : m₃ (Str.ofString "piece") = some v) :
    wpAny (model PySem.Challenge.rw_sl0003_01.row.prog w) (AA dp un fr gd) (eval rowElt (compEnvC rowScope [] C (lwEnv L f cd))) (GotElt (f2 c) s) E s := by
  revert X; k_fill; intro X
  have hz2 : (Str.ofString "" ++ Str.ofString "." ++ signOf c).length ≤ 100 := by
    rw [Str.length_append, Str.length_append, show (Str.ofString "").length = 0 from by decide +kernel, show (Str.ofString ".").length = 1 from by decide +kernel]; omega
  k_steps
  refine ⟨⟨_, rfl⟩, _, _, rfl, fun b o e => ?_⟩
  solve_by_elim (maxDepth := 12)
theorem sg_elt {L f C : Nat} {cd : Value} {v : Value} {c : Option Str} {m₃ : Str → Option Value} (hv : PieceV v c) (hn3 : s.heap.Ns C m₃) (hm3 : m₃ (Str.ofString "piece") = some v) :
    wpAny (model PySem.Challenge.rw_sl0003_01.row.prog w) (AA dp un fr gd) (eval sgElt (compEnvC sgScope [] C (lwEnv L f cd))) (GotElt (signOf c) s) E s := by
  cases c with
  | none =>
    have hv : v = .none := hv
    subst hv
    k_steps
    exact ⟨⟨_, rfl⟩, _, _, rfl, fun _ _ e => e⟩
  | some x =>
    obtain ⟨t, rfl⟩ := hv
    k_steps
    exact ⟨⟨_, rfl⟩, _, _, rfl, fun _ _ e => e⟩
end
theorem reg2_La2 : True := by
  k_with "eval ListComp" => ((k_here; (with_reducible show wpAny _ _ (eval (Expr.ListComp _ _ _ _) _) _ _ _); apply stuck))
  trivial
noncomputable abbrev tupO (items : Array Value) : Obj := { cls := .type "tuple", data := .seq items 0 }
noncomputable def mW (P c a R PA : Nat) (gp bt : Option Value) : Str → Option Value := fun y => if y = Str.ofString "pairs" then some (.ref PA) else if y = Str.ofString "row" then some (.ref R) else if y = Str.ofString "gap" then gp else if y = Str.ofString "between" then bt else
  if y = Str.ofString "pieces" then some (.ref P) else if y = Str.ofString "cells" then some (.ref c) else if y = Str.ofString "script" then some (.ref a) else none
noncomputable def PairsIn (tl : List (Addr × Obj)) (pvs : List Value) (ps : List (Nat × Nat)) : Prop :=
  pvs.length = ps.length ∧ ∀ k, k < ps.length → ∃ (P ta tb : Nat), pvs[k]? = some (.ref P) ∧ ((P, tupO #[.int ((ps.getD k (0, 0)).1 : Nat) ta, .int ((ps.getD k (0, 0)).2 : Nat) tb]) : Addr × Obj) ∈ tl
noncomputable abbrev LwL (L R kR PA kPA S kS c kc : Nat) (rvs pvs svs cvs : List Value) (oN oB oS : Obj) (tl : List (Addr × Obj)) : List (Addr × Obj) :=
  (L + 1 + 1, oN) :: (L + 1 + 1 + 1, oB) :: (R, listOf rvs.toArray kR) :: (PA, listOf pvs.toArray kPA) :: (S, listOf svs.toArray kS) :: (c, listOf cvs.toArray kc) :: (L + 1, oS) :: tl
noncomputable def LInv (L c P a S kS kc : Nat) (cvs svs : List Value) (oS : Obj) (s0 s1 : Str) (j : Nat) (m : Str → Option Value) (news : List (Addr × Obj)) : Prop :=
  ∃ (R kR : Nat) (rvs : List Value) (PA kPA : Nat) (pvs : List Value) (ps : List (Nat × Nat)) (tab tl : List (Addr × Obj)) (oN oB : Obj) (gp bt vN vB : Option Value), m = mW P c a R PA gp bt ∧ news = LwL L R kR PA kPA S kS c kc rvs pvs svs cvs oN oB oS (tab ++ tl) ∧
    oN.data = .cell vN ∧ oB.data = .cell vB ∧ TabS tab ∧ (∀ p ∈ tl, ∃ its, p.2 = tupO its) ∧ SV rvs (dueWs s0 s1 ps) ∧ PairsIn tl pvs ps ∧ ps ∈ reach j
theorem f2_cps {c : Option Str} {a : Nat} (h : (signOf c).cps.toList = [a]) (ha : a ≠ 10 ∧ a ≠ 13) : (f2 c).cps.toList = [46, 46, a] := by
  unfold f2
  rw [doS_eq, crS_eq, cat_cps, cat_cps, h, show (Str.ofString "").cps.toList = [] from by decide +kernel, show (Str.ofString ".").cps.toList = [46] from by decide +kernel]
  show doL true (crL [46, a]) = _
  rw [crL_plain (by decide) (by decide), crL_plain ha.2 ha.1, crL_nil]
  simp [doL]
theorem f2_due {o0 o1 : Option Str} {a b : Nat} (S : Signs (signOf o0) (signOf o1) a b) : dueWs (signOf o0) (signOf o1) [(1, 0), (0, 1)] = [f2 o0, f2 o1] := by
  have e0 : dueW (signOf o0) (signOf o1) [(1, 0), (0, 1)] 0 = f2 o0 := by
    apply Str.ext'
    apply Array.toList_inj.mp
    rw [due_cps, f2_cps S.1 S.2.2.2.1]
    show [46, 46] ++ nameW (signOf o0) (signOf o1) (1, 0) = _
    rw [nameW_eq S]; rfl
  have e1 : dueW (signOf o0) (signOf o1) [(1, 0), (0, 1)] 1 = f2 o1 := by
    apply Str.ext'
    apply Array.toList_inj.mp
    rw [due_cps, f2_cps S.2.1 S.2.2.2.2.1]
    show [46, 46] ++ nameW (signOf o0) (signOf o1) (0, 1) = _
    rw [nameW_eq S]; rfl
  rw [← e0, ← e1]; rfl
theorem pairs0 {D0 D1 t0 t1 t2 t3 : Nat} : PairsIn [(D0, tupO #[.int 1 t0, .int 0 t1]), (D1, tupO #[.int 0 t2, .int 1 t3])] [.ref D0, .ref D1] [(1, 0), (0, 1)] := by
  refine ⟨rfl, fun k hk => ?_⟩
  match k, hk with
  | 0, _ => exact ⟨D0, t0, t1, rfl, .head _⟩
  | 1, _ => exact ⟨D1, t2, t3, rfl, .tail _ (.head _)⟩
  | k + 2, h => exact absurd h (by simp)
theorem mid_fr {hb h : Heap} {L P c a R PA : Nat} (F : Fr hb L h (fun y => if y = Str.ofString "pairs" then some (.ref PA) else if y = Str.ofString "row" then some (.ref R) else if y = Str.ofString "pieces" then some (.ref P) else if y = Str.ofString "cells" then some (.ref c) else if y = Str.ofString "script" then some (.ref a) else none)) :
    Fr hb L h (mW P c a R PA none none) := Fr.congr F (by
  intro y
  by_cases h1 : y = Str.ofString "pairs"
  · subst h1; rfl
  simp only [mW, if_neg h1]
  by_cases h2 : y = Str.ofString "row"
  · subst h2; rfl
  simp only [if_neg h2]
  by_cases h3 : y = Str.ofString "gap"
  · subst h3; rfl
  by_cases h4 : y = Str.ofString "between"
  · subst h4; rfl
  rw [if_neg h3, if_neg h4])
theorem mid_news {hb h : Heap} {L P c R PA S D0 D1 kR kS kc t0 t1 t2 t3 : Nat} {ys8 ys6 cvs : List Value} {v0 v1 : Value} {c2 c3 oS : Obj}
    (N : News hb L h [(PA, listOf #[Value.ref D0, Value.ref D1] 0), (D1, tupO #[.int 0 t2, .int 1 t3]), (D0, tupO #[.int 1 t0, .int 0 t1]), (R, listOf ys8.toArray kR), (S, listOf ys6.toArray kS), (P, tupO #[v0, v1]), (c, listOf cvs.toArray kc), (L + 1 + 1 + 1, c3), (L + 1 + 1, c2), (L + 1, oS), (113, tab0)]) :
    News hb L h (LwL L R kR PA 0 S kS c kc ys8 [.ref D0, .ref D1] ys6 cvs c2 c3 oS ([(113, tab0)] ++ [(D0, tupO #[.int 1 t0, .int 0 t1]), (D1, tupO #[.int 0 t2, .int 1 t3])])) :=
  News.sub N (List.forall_mem_cons.mpr ⟨by k_mem, List.forall_mem_cons.mpr ⟨by k_mem, List.forall_mem_cons.mpr ⟨by k_mem, List.forall_mem_cons.mpr ⟨by k_mem, List.forall_mem_cons.mpr ⟨by k_mem, List.forall_mem_cons.mpr ⟨by k_mem, List.forall_mem_cons.mpr ⟨by k_mem, List.forall_mem_cons.mpr ⟨by k_mem, List.forall_mem_cons.mpr ⟨by k_mem, List.forall_mem_cons.mpr ⟨by k_mem, List.forall_mem_nil _⟩⟩⟩⟩⟩⟩⟩⟩⟩⟩)
theorem mid_inv {L P c a R PA S D0 D1 kR kS kc t0 t1 t2 t3 : Nat} {ys8 ys6 cvs : List Value} {c2 c3 oS : Obj} {o0 o1 : Option Str} {sa sb : Nat} (SS : Signs (signOf o0) (signOf o1) sa sb) (d2 : c2.data = .cell none) (d3 : c3.data = .cell none) (sv : SV ys8 ([o0, o1].map f2)) :
    LInv L c P a S kS kc cvs ys6 oS (signOf o0) (signOf o1) 0 (mW P c a R PA none none) (LwL L R kR PA 0 S kS c kc ys8 [.ref D0, .ref D1] ys6 cvs c2 c3 oS ([(113, tab0)] ++ [(D0, tupO #[.int 1 t0, .int 0 t1]), (D1, tupO #[.int 0 t2, .int 1 t3])])) :=
  ⟨R, kR, ys8, PA, 0, _, [(1, 0), (0, 1)], [(113, tab0)], _, c2, c3, none, none, none, none, rfl, rfl, d2, d3, .fresh, List.forall_mem_cons.mpr ⟨⟨_, rfl⟩, List.forall_mem_cons.mpr ⟨⟨_, rfl⟩, List.forall_mem_nil _⟩⟩, by rw [f2_due SS]; exact sv, pairs0, .head _⟩
theorem reg3_La2 : True := by
  k_with "exec Assign cons ListComp" => ((k_here; (with_reducible show wpAny _ _ (exec (Stmt.Assign [Expr.Name (Str.ofString "row") _] (Expr.ListComp _ _ _ _) _) _) _ _ _); apply stuck))
  trivial
section
variable {w : World} {p : Program} {loose : List Str} {mean : ExcName → Option Value} {mg mb : Str → Option Value} {dp un : Nat} {fr : Option (List Env)} {gd : Option (List Code)} {s : Shared}
    {hb : Heap} {L a f : Nat} {cd : Value}
set_option maxHeartbeats 4000000 in
theorem law_mid {Q : Flow → Shared → Prop} {rest : List Stmt} {c P kc : Nat} {cvs : List Value} {v0 v1 : Value} {o0 o1 : Option Str} {c1 c2 c3 : Obj} (X : (hd.heap_39 w.params).In hb) (T : Top p loose mean mg mb hb) (hroom : dp < 690) (hun : un < 3000)
    (F : Fr hb L s.heap (fun y => if y = Str.ofString "pieces" then some (.ref P) else if y = Str.ofString "cells" then some (.ref c) else if y = Str.ofString "script" then some (.ref a) else none))
    (N : News hb L s.heap [(P, { cls := .type "tuple", data := .seq #[v0, v1] 0 }), (c, listOf cvs.toArray kc), (L + 1 + 1 + 1, c3), (L + 1 + 1, c2), (L + 1, c1), (113, tab0)]) (l0 : @LT.lt Nat _ 113 L) (q1 : @LT.lt Nat _ (L + 1 + 1 + 1) c) (q2 : @LT.lt Nat _ c P)
    (d1 : c1.data = .cell none) (d2 : c2.data = .cell none) (d3 : c3.data = .cell none) (hv0 : PieceV v0 o0) (hv1 : PieceV v1 o1) (z0 : (signOf o0).length ≤ 10) (z1 : (signOf o1).length ≤ 10) {sa sb : Nat} (SS : Signs (signOf o0) (signOf o1) sa sb)
    (cont : ∀ h' tk (S kS : Nat) svs oS m news, Fr hb L h' m → News hb L h' news → LInv L c P a S kS kc cvs svs oS (signOf o0) (signOf o1) 0 m news → SV svs [signOf o0, signOf o1] → oS.data = .cell (some (.ref S)) →
      wpAny (model PySem.Challenge.rw_sl0003_01.row.prog w) (AA dp un fr gd) (execs rest (lwEnv L f cd)) Q (fun _ _ => False) { s with heap := h', toks := tk }) :
    wpAny (model PySem.Challenge.rw_sl0003_01.row.prog w) (AA dp un fr gd) (execs (lwS2 :: lwS3 :: lwS4 :: rest) (lwEnv L f cd)) Q (fun _ _ => False) s := by
  have X0 := X
  revert X; k_fill; intro X
  have rel : RelAll PieceV [v0, v1] [o0, o1] := by
    refine ⟨rfl, fun j v c hv hc => ?_⟩
    match j with
    | 0 => cases hv; cases hc; exact hv0
    | 1 => cases hv; cases hc; exact hv1
    | j + 2 => cases hv
  k_steps
  change wpAny _ _ _ _ _ _
  refine comp_tupE (cl := []) (cs := [o0, o1]) PieceV signOf F N (fun v c c' h h' => by rw [h.inj h']) rfl rfl (by decide) rfl (by decide) rfl (by simp) ?_ ?_ ?_
  · k_steps
    exact ⟨_, _, _, [v0, v1], rfl, rfl, F, N, News.isTup N (.head _), rel⟩
  · intro v c C s₃ m₃ E' hR hcm hn3 hm3 hk3 hN3
    exact sg_elt hR hn3 hm3
  intro h6 tk6 S6 ys6 k6 F6 N6 sv6 d6
  clear F N
  have e1 : (S6 : Nat) ≠ P := fun q => d6 _ (.head _) q.symm
  have e2 : (S6 : Nat) ≠ c := fun q => d6 _ (.tail _ (.head _)) q.symm
  have e3 : (S6 : Nat) ≠ L + 1 + 1 + 1 := fun q => d6 _ (.tail _ (.tail _ (.head _))) q.symm
  have e4 : (S6 : Nat) ≠ L + 1 + 1 := fun q => d6 _ (.tail _ (.tail _ (.tail _ (.head _)))) q.symm
  have e5 : (S6 : Nat) ≠ L + 1 := fun q => d6 _ (.tail _ (.tail _ (.tail _ (.tail _ (.head _))))) q.symm
  have e6 : (S6 : Nat) ≠ 113 := fun q => d6 _ (.tail _ (.tail _ (.tail _ (.tail _ (.tail _ (.head _)))))) q.symm
  clear d6
  k_steps
  change wpAny _ _ _ _ _ _
  rename Fr _ _ _ _ => F7
  rename News _ _ _ _ => N7
  refine comp_tupA (cl := []) (cs := [o0, o1]) PieceV f2 F7 N7 (by with_unfolding_all rfl) rfl (by rfl) rfl (fun v c c' h h' => by rw [h.inj h']) rfl rfl (by decide) rfl (by decide) rfl (by simp) ?_ ?_ ?_
  · k_steps
    exact ⟨_, _, _, [v0, v1], rfl, rfl, F7, N7, News.isTup N7 (by k_mem), rel⟩
  · intro v c C s₃ m₃ E' hR hcm hn3 hm3 hk3 hN3
    refine row_elt (X0.keeps hk3) (T.keeps hk3) (by omega) hR ?_ hn3 hm3
    rcases List.mem_cons.mp hcm with rfl | hcm
    · exact z0
    · rw [List.mem_singleton.mp hcm]; exact z1
  intro h8 tk8 R8 ys8 k8 F8 N8 sv8 d8
  clear F7 N7 d8
  k_steps
  change wpAny _ _ _ _ _ _
  rename Fr _ _ _ _ => F9
  rename News _ _ _ _ => N9
  exact cont _ _ S6 k6 ys6 _ _ _ (mid_fr F9) (mid_news N9) (mid_inv SS d2 d3 sv8) sv6 (by assumption)
end
end Mine
end
section
open PySem PySem.W PyProof.Rows PySem.Calls PySem.Spec
namespace Mine
theorem start_La3 : True := by
  w_top off
  k_with_none
  trivial
noncomputable abbrev lwB0 : Stmt := pk (kid (kid (topS 19) 5) 0) _ (by conv => rhs; whnf; rfl)
noncomputable abbrev lwB1 : Stmt := pk (kid (kid (topS 19) 5) 1) _ (by conv => rhs; whnf; rfl)
noncomputable abbrev lwB2 : Stmt := pk (kid (kid (topS 19) 5) 2) _ (by conv => rhs; whnf; rfl)
noncomputable abbrev lwB3 : Stmt := pk (kid (kid (topS 19) 5) 3) _ (by conv => rhs; whnf; rfl)
noncomputable abbrev lwB4 : Stmt := pk (kid (kid (topS 19) 5) 4) _ (by conv => rhs; whnf; rfl)
noncomputable def bsOf (n : Nat) : List Nat := (List.range (n % 5 + 1)).map fun k => n / 5 / 2 ^ k % 2
theorem bsOf_bits (n : Nat) : Bits (bsOf n) := by
  intro c hc
  obtain ⟨k, _, rfl⟩ := List.mem_map.mp hc
  omega
theorem bits_conv (n : Nat) : List.map (fun k' : Int => (((n : Int).fdiv 5).fdiv (2 ^ k'.toNat)).fmod 2) (rangeKs 0 ((n : Int).fmod 5 + 1 - 0).toNat) = (bsOf n).map fun k : Nat => (k : Int) := by
  have e : ((n : Int).fmod 5 + 1 - 0).toNat = n % 5 + 1 := by
    rw [Int.fmod_eq_emod_of_nonneg _ (by omega)]; omega
  rw [e]
  unfold bsOf
  simp only [rangeKs, List.map_map]
  refine List.map_congr_left fun k hk => ?_
  simp only [Function.comp]
  have e2 : (0 + (k : Int)).toNat = k := by omega
  have e3 : ((2 : Int) ^ k) = ((2 ^ k : Nat) : Int) := by push_cast; rfl
  first | rw [e2] | skip
  have e4 : (n : Int).fdiv 5 = ((n / 5 : Nat) : Int) := by
    rw [Int.fdiv_eq_ediv_of_nonneg _ (by omega)]; rfl
  have e5 : ((n / 5 : Nat) : Int).fdiv ((2 ^ k : Nat) : Int) = ((n / 5 / 2 ^ k : Nat) : Int) := by
    rw [Int.fdiv_eq_ediv_of_nonneg _ (Int.natCast_nonneg _)]; rfl
  rw [e3, e4, e5, Int.fmod_eq_emod_of_nonneg _ (by omega)]
  rfl
theorem reg1_La3 : True := by
  k_with "storeName" => ((k_here; k_dflt (apply storeX_C; (case hk => rfl); (case hx => rfl); (case F => k_asm); (case N => k_asm); (case hc => rfl); (case U => first | (exact UpdF.tail (by assumption) (UpdF.head (by assumption))) | (exact UpdF.tail (by k_ne) (UpdF.tail (by assumption) (UpdF.tail (by k_ne) (UpdF.head (by assumption)))))); (case hd => k_asm)); intro _ _ _ Nzz9 _; (try dsimp only at Nzz9)))
  trivial
section
variable {w : World} {p : Program} {loose : List Str} {mean : ExcName → Option Value} {mg mb : Str → Option Value} {dp un : Nat} {fr : Option (List Env)} {gd : Option (List Code)} {s : Shared}
    {hb : Heap} {L a f : Nat} {cd : Value}
set_option maxHeartbeats 4000000 in
theorem turn_bits {Q : Flow → Shared → Prop} {rest : List Stmt} {I2 n t : Nat} {oI oN oB : Obj} {m : Str → Option Value} {tl : List (Addr × Obj)} {vN vB : Option Value} {pq : Pos} (X : (hd.heap_39 w.params).In hb) (T : Top p loose mean mg mb hb) (hroom : dp < 690) (hun : un < 3000)
    (F : Fr hb L s.heap m) (N : News hb L s.heap ((I2, oI) :: (L + 1 + 1, oN) :: (L + 1 + 1 + 1, oB) :: tl)) (dN : oN.data = .cell vN) (dB : oB.data = .cell vB)
    (a1 : @Ne Addr I2 (L + 1 + 1)) (a2 : ∀ p ∈ (L + 1 + 1 + 1, oB) :: tl, p.1 ≠ L + 1 + 1) (a3 : @Ne Addr I2 (L + 1 + 1 + 1)) (a4 : ∀ p ∈ tl, p.1 ≠ L + 1 + 1 + 1) (hn : n ≤ 100000000)
    (cont : ∀ h' tk (B : Nat) ys oN' oB', Fr hb L h' m → News hb L h' ((B, LCg.lst ys) :: (I2, oI) :: (L + 1 + 1, oN') :: (L + 1 + 1 + 1, oB') :: tl) → IntsAre ys ((bsOf n).map fun k : Nat => (k : Int)) → oN'.data = .cell (some (.int (n : Nat) t)) → oB'.data = .cell (some (.ref B)) →
      @Ne Addr I2 B → LCg.Off1 B tl → wpAny (model PySem.Challenge.rw_sl0003_01.row.prog w) (AA dp un fr gd) (execs rest (lwEnv L f cd)) Q (fun _ _ => False) { s with heap := h', toks := tk }) :
    wpAny (model PySem.Challenge.rw_sl0003_01.row.prog w) (AA dp un fr gd) (assign (Expr.Name (Str.ofString "number") pq) (lwEnv L f cd) (.int (n : Nat) t)) (fun _ s₂ =>
      wpAny (model PySem.Challenge.rw_sl0003_01.row.prog w) (AA dp un fr gd) (execs (lwB0 :: rest) (lwEnv L f cd)) Q (fun _ _ => False) s₂) (fun _ _ => False) s := by
  have X0 := X
  revert X; k_fill; intro X
  have hn0 : (0 : Int) ≤ (n : Int) := by omega
  have hn1 : (n : Int) ≤ 100000000 := by omega
  k_steps
  change wpAny _ _ _ _ _ _
  rename Fr _ _ _ _ => F9
  rename News _ _ _ _ => N9
  rename IntsAre _ _ => I9
  rename (_ ∧ _) => o9
  rw [bits_conv] at I9
  exact cont _ _ _ _ _ _ F9 N9 I9 (by assumption) (by assumption) o9.1 o9.2.2.2
end
end Mine
end
section
open PySem PySem.W PyProof.Rows PySem.Calls PySem.Spec
namespace Mine
theorem start_La4 : True := by
  w_top off
  k_with_none
  trivial
section
variable {w : World} {p : Program} {loose : List Str} {mean : ExcName → Option Value} {mg mb : Str → Option Value} {dp un : Nat} {fr : Option (List Env)} {gd : Option (List Code)} {s : Shared}
    {hb : Heap} {L : Addr} {m : Str → Option Value} {news keep : List (Addr × Obj)} {tab : List (Addr × Obj)}
theorem grow_fr {E Q : Value → Shared → Prop} {R kR tt tn number gap : Nat} {rvs : List Value} {xs : List Str} {text newS : Str} {Rr dw : Nat → List Nat} (X : (hd.heap_39 w.params).In hb) (T : Top p loose mean mg mb hb) (C : CodeHd hb 117 113) (hroom : dp < 780) (hun : un < 4000)
    (F : Fr hb L s.heap m) (N : News hb L s.heap news) (sub : ∀ q ∈ (R, listOf rvs.toArray kR) :: tab, q ∈ news) (tS : TabS tab) (hat : ∀ q ∈ tab, R ≠ q.1) (sv : SV rvs xs) (G : GrowOk xs text number gap Rr dw newS)
    (hk : ∀ q ∈ keep, q ∈ news ∧ q.1 ≠ R ∧ ∀ r ∈ tab, q.1 ≠ r.1)
    (ret : ∀ h' tk (D : Nat) ds kD (c' : Nat) occ, Fr hb L h' m → News hb L h' ((D, listOf ds kD) :: keep ++ [(c', occ), (113, tabO c')]) → SV ds.toList (toldS dw gap newS xs.length) → TabS [(c', occ), (113, tabO c')] → (∀ q ∈ keep, ∀ r ∈ [(D, listOf ds kD), (c', occ), (113, tabO c')], q.1 ≠ r.1) → Q (.ref D) { s with heap := h', toks := tk }) :
    wpAny (model PySem.Challenge.rw_sl0003_01.row.prog w) (AA dp un fr gd) (call (.ref 133) [.ref R, .str text tt, .int number tn]) Q E s := by
  have ⟨st, B, Ld⟩ := hide F (News.sub N sub)
  refine c_grow B (X.keeps st) (T.keeps st) (C.keeps st) hroom hun Ld tS hat sv G fun h' tk D ds kD c' occ B' N' sv' tS' _ _ _ => ?_
  have hkm : ∀ q ∈ keep, q.1 ∉ ((R, listOf rvs.toArray kR) :: tab).map (·.1) := fun q hq hm => by
    obtain ⟨_, h1, h2⟩ := hk q hq
    obtain ⟨r, hr, e⟩ := List.mem_map.mp hm
    rcases List.mem_cons.mp hr with rfl | hr
    · exact h1 e.symm
    · exact h2 r hr e.symm
  have := fin_all (news' := (D, listOf ds kD) :: keep ++ [(c', occ), (113, tabO c')]) F N sub B' N' (fun q hq => by
    rcases List.mem_append.mp hq with hq | hq
    · rcases List.mem_cons.mp hq with rfl | hq
      · exact .inl (.head _)
      · exact .inr ⟨(hk q hq).1, fun hm => absurd hm (hkm q hq)⟩
    · exact .inl (.tail _ (.tail _ hq)))
  refine ret h' tk D ds kD c' occ this.1 this.2 sv' tS' fun q hq r hr e => ?_
  have hr2 : r ∈ [(D, listOf ds kD), (R, listOf rvs.toArray kR), (c', occ), (113, tabO c')] := by
    rcases List.mem_cons.mp hr with rfl | hr
    · exact .head _
    · exact .tail _ (.tail _ hr)
  have h1 := (N' r hr2).2
  have h2 := hideAll_get _ (N q (hk q hq).1).1 (hkm q hq)
  rw [e, h1] at h2
  cases h2
end
theorem grow_mW {hb h : Heap} {L P c a R PA D : Nat} {gp bt : Option Value} (F : Fr hb L h (fun y => if y = Str.ofString "row" then some (.ref D) else if y = Str.ofString "pairs" then some (.ref PA) else if y = Str.ofString "row" then some (.ref R) else if y = Str.ofString "gap" then gp else if y = Str.ofString "between" then bt else
  if y = Str.ofString "pieces" then some (.ref P) else if y = Str.ofString "cells" then some (.ref c) else if y = Str.ofString "script" then some (.ref a) else none)) : Fr hb L h (mW P c a D PA gp bt) := Fr.congr F (by
  intro y
  by_cases h1 : y = Str.ofString "row"
  · subst h1; rfl
  simp only [mW, if_neg h1])
theorem rel_ints {ys : List Value} {bs : List Nat} (h : IntsAre ys (bs.map fun k : Nat => (k : Int))) : RelAll (fun v (c : Nat) => ∃ t, v = .int (c : Nat) t) ys bs := by
  refine ⟨by have := h.length; simpa using this, fun j v c hv hc => ?_⟩
  obtain ⟨k, t, e, hk⟩ := IntsAre.at h j v hv
  rw [List.getElem?_map, hc] at hk
  obtain rfl := Option.some.inj hk
  exact ⟨t, e⟩
theorem text_eq {s0 s1 text : Str} {sa sb : Nat} {bs : List Nat} (S : Signs s0 s1 sa sb) (h : text.cps.toList = dotL ((bs.map (fun c => if c = 0 then s0 else s1)).map (·.cps.toList))) : text.cps.toList = dotL (bs.map fun c => [sgC sa sb c]) := by
  rw [h, List.map_map]
  congr 1
  refine List.map_congr_left fun c _ => ?_
  simp only [Function.comp, sgC]
  split
  · rw [S.1]
  · rw [S.2.1]
theorem reg1_La4 : True := by
  k_with "eval ListComp" => ((k_here; (with_reducible show wpAny _ _ (eval (Expr.ListComp _ _ _ _) _) _ _ _); apply stuck))
  k_with "call builtin:str.join" => ((k_here; (with_reducible show wpAny _ _ (call (Value.builtin _) [Value.str _ _, Value.ref _]) _ _ _); k_dflt (apply join_dot; (case N => k_asm); (case hm => k_mem); (case sv => assumption); (case hx => assumption); (case hn => assumption)); intro _ _ _ _ _))
  k_with "call ref" => ((k_here; (with_reducible show wpAny _ _ (call (Value.ref 133) [_, _, _]) _ _ _); apply stuck))
  trivial
section
variable {w : World} {p : Program} {loose : List Str} {mean : ExcName → Option Value} {mg mb : Str → Option Value} {dp un : Nat} {fr : Option (List Env)} {gd : Option (List Code)} {s : Shared}
    {hb : Heap} {L a f : Nat} {cd : Value}
set_option maxHeartbeats 4000000 in
theorem turn_grow {Q : Flow → Shared → Prop} {rest : List Stmt} {P c R PA S B I2 kR kPA kS kc n t t0 t1 : Nat} {rvs pvs cvs ys : List Value} {bs : List Nat} {s0 s1 : Str} {oI oN oB oS : Obj} {tab tl : List (Addr × Obj)} {gp bt : Option Value} (X : (hd.heap_39 w.params).In hb) (T : Top p loose mean mg mb hb) (C : CodeHd hb 117 113) (hroom : dp < 690) (hun : un < 3000)
    (F : Fr hb L s.heap (mW P c a R PA gp bt)) (N : News hb L s.heap ((B, LCg.lst ys) :: (I2, oI) :: (L + 1 + 1, oN) :: (L + 1 + 1 + 1, oB) :: (R, listOf rvs.toArray kR) :: (PA, listOf pvs.toArray kPA) :: (S, listOf #[.str s0 t0, .str s1 t1] kS) :: (c, listOf cvs.toArray kc) :: (L + 1, oS) :: (tab ++ tl)))
    (dN : oN.data = .cell (some (.int (n : Nat) t))) (dB : oB.data = .cell (some (.ref B))) (dS : oS.data = .cell (some (.ref S))) (i9 : IntsAre ys (bs.map fun k : Nat => (k : Int))) (hbs : Bits bs) (hbl : bs.length ≤ 5) (z0 : s0.length ≤ 10) (z1 : s1.length ≤ 10) (hn : n ≤ 100000000)
    {xs xs' : List Str} {gap sa sb : Nat} (SS : Signs s0 s1 sa sb) (sv : SV rvs xs) (tS : TabS tab) (hat : ∀ q ∈ tab, R ≠ q.1)
    (hk : ∀ q ∈ (B, LCg.lst ys) :: (I2, oI) :: (L + 1 + 1, oN) :: (L + 1 + 1 + 1, oB) :: (PA, listOf pvs.toArray kPA) :: (S, listOf #[.str s0 t0, .str s1 t1] kS) :: (c, listOf cvs.toArray kc) :: (L + 1, oS) :: tl, q.1 ≠ R ∧ ∀ r ∈ tab, q.1 ≠ r.1)
    (hG : ∀ text : Str, text.cps.toList = dotL (bs.map fun c => [sgC sa sb c]) → ∃ Rr dw newS, GrowOk xs text (n / 160) gap Rr dw newS ∧ toldS dw gap newS xs.length = xs')
    (cont : ∀ h' tk (D kD : Nat) ds tab', Fr hb L h' (mW P c a D PA gp bt) → News hb L h' ((B, LCg.lst ys) :: (I2, oI) :: (L + 1 + 1, oN) :: (L + 1 + 1 + 1, oB) :: (D, listOf ds.toArray kD) :: (PA, listOf pvs.toArray kPA) :: (S, listOf #[.str s0 t0, .str s1 t1] kS) :: (c, listOf cvs.toArray kc) :: (L + 1, oS) :: (tab' ++ tl)) →
      SV ds xs' → TabS tab' → @Ne Addr I2 D → (∀ q ∈ tab', @Ne Addr I2 q.1) → wpAny (model PySem.Challenge.rw_sl0003_01.row.prog w) (AA dp un fr gd) (execs rest (lwEnv L f cd)) Q (fun _ _ => False) { s with heap := h', toks := tk }) :
    wpAny (model PySem.Challenge.rw_sl0003_01.row.prog w) (AA dp un fr gd) (execs (lwB1 :: rest) (lwEnv L f cd)) Q (fun _ _ => False) s := by
  have X0 := X
  revert X; k_fill; intro X
  have hn0 : (0 : Int) ≤ (n : Int) := by omega
  have hn1 : (n : Int) ≤ 100000000 := by omega
  unfold mW at F
  k_steps
  change wpAny _ _ _ _ _ _
  refine comp_listE (cl := [(Str.ofString "signs", L + 1)]) (cs := bs) (fun v c => ∃ t, v = .int (c : Nat) t) (fun c => if c = 0 then s0 else s1) F N ?_ rfl rfl (by decide) rfl (by decide) rfl (by omega) ?_ ?_ ?_
  · rintro v c c' ⟨t1, rfl⟩ ⟨t2, e2⟩
    cases e2
    rfl
  · k_steps
    exact ⟨B, _, _, ys, rfl, rfl, F, N, News.isList N (.head _), rel_ints i9⟩
  · intro v c C s₃ m₃ E' hR hcm hn3 hm3 hk3 hN3
    obtain ⟨t3, rfl⟩ := hR
    exact elt_sign (hbs c hcm) rfl rfl rfl (hN3 (L + 1, oS) (by k_mem)) dS ⟨_, hN3 (S, listOf #[.str s0 t0, .str s1 t1] kS) (by k_mem), rfl, _, rfl⟩ rfl hn3 hm3
  · intro h6 tk6 E6 ys6 k6 F6 N6 sv6 d6
    clear F N
    have hx6 : ∀ x ∈ bs.map (fun c => if c = 0 then s0 else s1), x.length ≤ 10 := by
      intro x hx
      obtain ⟨c, _, rfl⟩ := List.mem_map.mp hx
      show (if c = 0 then s0 else s1).length ≤ 10
      split <;> assumption
    have hn6 : (bs.map (fun c => if c = 0 then s0 else s1)).length ≤ 1000 := by rw [List.length_map]; omega
    k_steps
    change wpAny _ _ _ _ _ _
    rename (_ = dotL _) => hJ1
    rename Fr _ _ _ _ => F7
    rename News _ _ _ _ => N7
    have ht := (text_eq SS hJ1)
    obtain ⟨Rr, dw, newS, G, et⟩ := hG _ ht
    rw [show (n : Int).fdiv 160 = ((n / 160 : Nat) : Int) from by rw [Int.fdiv_eq_ediv_of_nonneg _ (by omega)]; rfl]
    refine grow_fr (dp := dp) (un := un) (kR := kR) (tab := tab) (keep := (B, LCg.lst ys) :: (I2, oI) :: (L + 1 + 1, oN) :: (L + 1 + 1 + 1, oB) :: (PA, listOf pvs.toArray kPA) :: (S, listOf #[.str s0 t0, .str s1 t1] kS) :: (c, listOf cvs.toArray kc) :: (L + 1, oS) :: tl) X0 T C (by omega) (by omega) F7 N7 ?_ tS hat sv G (fun q hq => ⟨?_, hk q hq⟩) fun h8 tk8 D ds kD c' occ F8 N8 sv8 tS8 hD8 => ?_
    · refine List.forall_mem_cons.mpr ⟨by k_mem, fun q hq => ?_⟩
      iterate 10 apply List.mem_cons_of_mem
      exact List.mem_append_left _ hq
    · revert q
      refine List.forall_mem_cons.mpr ⟨by k_mem, List.forall_mem_cons.mpr ⟨by k_mem, List.forall_mem_cons.mpr ⟨by k_mem, List.forall_mem_cons.mpr ⟨by k_mem, List.forall_mem_cons.mpr ⟨by k_mem, List.forall_mem_cons.mpr ⟨by k_mem, List.forall_mem_cons.mpr ⟨by k_mem, List.forall_mem_cons.mpr ⟨by k_mem, fun q hq => ?_⟩⟩⟩⟩⟩⟩⟩⟩
      iterate 10 apply List.mem_cons_of_mem
      exact List.mem_append_right _ hq
    rw [et] at sv8
    clear F7 N7
    k_steps
    change wpAny _ _ _ _ _ _
    rename Fr _ _ _ _ => F9
    rename News _ _ _ _ => N9
    refine cont _ _ D kD ds.toList [(c', occ), (113, tabO c')] (grow_mW F9) (News.sub N9 ?_) sv8 tS8 (hD8 _ (.tail _ (.head _)) _ (.head _)) fun q hq => hD8 _ (.tail _ (.head _)) q (.tail _ hq)
    refine List.forall_mem_cons.mpr ⟨by k_mem, List.forall_mem_cons.mpr ⟨by k_mem, List.forall_mem_cons.mpr ⟨by k_mem, List.forall_mem_cons.mpr ⟨by k_mem, List.forall_mem_cons.mpr ⟨.head _, List.forall_mem_cons.mpr ⟨by k_mem, List.forall_mem_cons.mpr ⟨by k_mem, List.forall_mem_cons.mpr ⟨by k_mem, List.forall_mem_cons.mpr ⟨by k_mem, fun q hq => ?_⟩⟩⟩⟩⟩⟩⟩⟩⟩
    rcases List.mem_append.mp hq with hq | hq
    · exact List.mem_append_right _ hq
    · refine List.mem_append_left _ ?_
      iterate 9 apply List.mem_cons_of_mem
      exact hq
end
end Mine
end
section
open PySem PySem.W PyProof.Rows PySem.Calls PySem.Spec
namespace Mine
theorem start_La5 : True := by
  w_top off
  k_with_none
  trivial
section
variable {w : World} {p : Program} {loose : List Str} {mean : ExcName → Option Value} {mg mb : Str → Option Value} {dp un : Nat} {fr : Option (List Env)} {gd : Option (List Code)} {s : Shared} {E Q : Value → Shared → Prop}
theorem lettersK {P cB a b ta tb Bb : Nat} {oB : Obj} {vs : List Value} (X : (hd.heap_39 w.params).In s.heap) (T : Top p loose mean mg mb s.heap) (hroom : dp < 900) (I : IsTup s.heap P #[.int a ta, .int b tb]) (ha : a ≤ 1000) (hb1 : b ≤ 1000) (hab : 0 < a + b)
    (hB : s.heap.get? cB = some oB) (hL : s.heap.IsList Bb vs.toArray)
    (ret : ∀ h' tk (D : Nat) ys, (∀ b o, s.heap.get? b = some o → h'.get? b = some o) → h'.get? cB = some oB → h'.IsList D ys.toArray → h'.IsList Bb vs.toArray → IntsAre ys ((bitsOf a b).map fun k : Nat => (k : Int)) → Q (.ref D) { s with heap := h', toks := tk }) :
    wpAny (model PySem.Challenge.rw_sl0003_01.row.prog w) (AA dp un fr gd) (call (.ref 123) [.ref P]) Q E s :=
  c_lettersT (hb := s.heap) Bs.rfl X T hroom I ha hb1 hab fun h' tk D ys k N' i => ret h' tk D ys k (k _ _ hB) ⟨_, (N' _ (.head _)).1, rfl, _, rfl⟩ (hL.at fun o e => k _ _ e) (by rw [← letters_eq]; exact i)
end
noncomputable abbrev pairsR (tl : List (Addr × Obj)) (v : Value) (q : Nat × Nat) : Prop := ∃ (P ta tb : Nat), v = .ref P ∧ ((P, tupO #[.int (q.1 : Nat) ta, .int (q.2 : Nat) tb]) : Addr × Obj) ∈ tl
theorem PairsIn.rel {tl : List (Addr × Obj)} {pvs : List Value} {ps : List (Nat × Nat)} (h : PairsIn tl pvs ps) : RelAll (pairsR tl) pvs ps := by
  refine ⟨h.1, fun j v c hv hc => ?_⟩
  obtain ⟨hj, e⟩ := List.getElem?_eq_some_iff.mp hc
  obtain ⟨P, ta, tb, e1, e2⟩ := h.2 j hj
  have e3 : ps.getD j (0, 0) = c := by rw [List.getD_eq_getElem?_getD, hc]; rfl
  rw [e3] at e2
  rw [e1] at hv
  cases hv
  exact ⟨P, ta, tb, rfl, e2⟩
theorem pairsR.inj {hb h : Heap} {L : Addr} {news tl : List (Addr × Obj)} (N : News hb L h news) (sub : ∀ q ∈ tl, q ∈ news) {v : Value} {c c' : Nat × Nat} (h1 : pairsR tl v c) (h2 : pairsR tl v c') : c = c' := by
  obtain ⟨P, ta, tb, rfl, m1⟩ := h1
  obtain ⟨P', ta', tb', e, m2⟩ := h2
  cases e
  have e1 := (N _ (sub _ m1)).1
  have e2 := (N _ (sub _ m2)).1
  dsimp only at e1 e2
  rw [e1] at e2
  injection e2 with e2
  injection e2 with _ _ e2 _
  injection e2 with e2 _
  have e3 := congrArg Array.toList e2
  simp only [List.cons.injEq, Value.int.injEq, and_true] at e3
  obtain ⟨⟨q1, _⟩, ⟨q2, _⟩⟩ := e3
  exact Prod.ext (by omega) (by omega)
theorem gap_mW {hb h : Heap} {L P c a R PA : Nat} {g gp bt : Option Value} (F : Fr hb L h (fun y => if y = Str.ofString "gap" then g else if y = Str.ofString "pairs" then some (.ref PA) else if y = Str.ofString "row" then some (.ref R) else if y = Str.ofString "gap" then gp else if y = Str.ofString "between" then bt else
  if y = Str.ofString "pieces" then some (.ref P) else if y = Str.ofString "cells" then some (.ref c) else if y = Str.ofString "script" then some (.ref a) else none)) : Fr hb L h (mW P c a R PA g bt) := Fr.congr F (by
  intro y
  by_cases h1 : y = Str.ofString "gap"
  · subst h1; rfl
  simp only [mW, if_neg h1])
theorem reg1_La5 : True := by
  k_with "subscriptTail Name Slice ref ref" => ((k_here; (with_reducible show wpAny _ _ (subscriptTail _ (PySem.Expr.Slice _ _ none _) (Value.ref _) (Value.ref _)) _ _ _); k_dflt (apply kmk_slice; (case F => k_asm); (case N => k_asm); (case hl => exact News.isList (by k_asm) (by k_mem)); (case pl => kmk_part); (case pu => kmk_part); (case hs => with_unfolding_all rfl); (case ht => kmk_pure); (case hz => (simp only [List.size_toArray, sizeLine]; omega))); intro _ _ _ _ _))
  k_with "eval ListComp" => ((k_here; (with_reducible show wpAny _ _ (eval (Expr.ListComp _ _ _ _) _) _ _ _); apply stuck))
  k_with "eval Name" => ((k_here; (with_reducible show wpAny _ _ (eval (Expr.Name (Str.ofString "_law_letters") _) _) _ _ _); k_dflt (apply nmC; (case X => assumption); (case T => assumption); (case e => k_is); (case hg => rfl); (case hk => rfl); (case hx => rfl); (case hd => decide))))
  k_with "eval Name" => ((k_here; (with_reducible show wpAny _ _ (eval (Expr.Name (Str.ofString "bits") _) (compEnvC _ _ _ _)) _ _ _); k_dflt (apply nmCell; (case hd => decide); (case hk => rfl); (case hl => rfl); (case hcl => rfl); (case hcell => assumption); (case ho => assumption))))
  k_with "call ref" => ((k_here; (with_reducible show wpAny _ _ (call (Value.ref 123) [Value.ref _]) _ _ _); k_dflt (apply lettersK; (case X => assumption); (case T => assumption); (case hroom => omega); (case I => assumption); (case ha => omega); (case hb1 => omega); (case hab => omega); (case hB => assumption); (case hL => assumption)); intro _ _ _ _ _ _ _ _ _))
  k_with "compareOp LtE ref ref" => ((k_here; (with_reducible show wpAny _ _ (compareOp CmpOp.LtE (Value.ref _) (Value.ref _)) _ _ _); k_dflt (apply le_lists; (case hl => assumption); (case hb => assumption); (case hi => assumption); (case hj => assumption); (case hu => (simp only [cLine]; omega)))))
  k_with "compareOp LtE ref" => ((k_here; (with_reducible show wpAny _ _ (compareOp CmpOp.LtE (Value.ref _) (Value.ref _)) _ _ _); k_dflt (apply le_lists; (case hl => assumption); (case hb => assumption); (case hi => assumption); (case hj => assumption); (case hu => (simp only [cLine]; omega)))))
  trivial
section
variable {w : World} {p : Program} {loose : List Str} {mean : ExcName → Option Value} {mg mb : Str → Option Value} {dp un : Nat} {fr : Option (List Env)} {gd : Option (List Code)} {s : Shared}
    {hb : Heap} {L a f : Nat} {cd : Value}
set_option maxHeartbeats 4000000 in
theorem turn_gap {Q : Flow → Shared → Prop} {rest : List Stmt} {P c R PA S B I2 kR kPA kS kc : Nat} {rvs pvs cvs svs ys : List Value} {bs : List Nat} {ps : List (Nat × Nat)} {oI oN oB oS : Obj} {tab tl : List (Addr × Obj)} {gp bt : Option Value} (X : (hd.heap_39 w.params).In hb) (T : Top p loose mean mg mb hb) (hroom : dp < 690) (hun : un < 3000)
    (F : Fr hb L s.heap (mW P c a R PA gp bt)) (N : News hb L s.heap ((B, LCg.lst ys) :: (I2, oI) :: (L + 1 + 1, oN) :: (L + 1 + 1 + 1, oB) :: (R, listOf rvs.toArray kR) :: (PA, listOf pvs.toArray kPA) :: (S, listOf svs.toArray kS) :: (c, listOf cvs.toArray kc) :: (L + 1, oS) :: (tab ++ tl)))
    (dB : oB.data = .cell (some (.ref B))) (i9 : IntsAre ys (bs.map fun k : Nat => (k : Int))) (pr : PairsIn tl pvs ps) (so : StateOk ps) 
    (cont : ∀ h' tk t, Fr hb L h' (mW P c a R PA (some (.int (gapN ps bs : Nat) t)) bt) → News hb L h' ((I2, oI) :: (L + 1 + 1, oN) :: (L + 1 + 1 + 1, oB) :: (R, listOf rvs.toArray kR) :: (PA, listOf pvs.toArray kPA) :: (S, listOf svs.toArray kS) :: (c, listOf cvs.toArray kc) :: (L + 1, oS) :: (tab ++ tl)) →
      wpAny (model PySem.Challenge.rw_sl0003_01.row.prog w) (AA dp un fr gd) (execs rest (lwEnv L f cd)) Q (fun _ _ => False) { s with heap := h', toks := tk }) :
    wpAny (model PySem.Challenge.rw_sl0003_01.row.prog w) (AA dp un fr gd) (execs (lwB2 :: rest) (lwEnv L f cd)) Q (fun _ _ => False) s := by
  have X0 := X
  revert X; k_fill; intro X
  have hsub : ∀ q ∈ tl, q ∈ ((B, LCg.lst ys) :: (I2, oI) :: (L + 1 + 1, oN) :: (L + 1 + 1 + 1, oB) :: (R, listOf rvs.toArray kR) :: (PA, listOf pvs.toArray kPA) :: (S, listOf svs.toArray kS) :: (c, listOf cvs.toArray kc) :: (L + 1, oS) :: (tab ++ tl)) := fun q hq => by
    iterate 9 apply List.mem_cons_of_mem
    exact List.mem_append_right _ hq
  have hlen := pr.1
  have h7 := so.seven
  unfold mW at F
  k_steps
  change wpAny _ _ _ _ _ _
  rename Fr _ _ _ _ => F4
  rename News _ _ _ _ => N4
  refine comp_filtE (cl := [(Str.ofString "bits", L + 1 + 1 + 1)]) (vs := inner pvs) (cs := inner ps) (pairsR tl) (fun q => !(ltB bs (bitsOf q.1 q.2))) F4 N4 pr.rel.inner ?_ rfl rfl (by decide) rfl (by decide) rfl ?_ ?_ ?_ ?_ ?_
  · intro v c c' h1 h2
    rw [h1.inj N4 hsub h2]
  · unfold inner; simp; omega
  · k_steps
    rename Fr _ _ _ _ => F9
    rename News _ _ _ _ => N9
    rw [pick_inner] at N9
    obtain ⟨D9, hD9⟩ := grabD N9
    subst hD9
    exact ⟨_, _, _, rfl, rfl, F9, News.sub N9 (fun _ q => .tail _ q), News.isList N9 (.head _), fun _ q => nomatch q⟩
  · intro v q C s₃ m₃ E' hR hcm hn3 hm3 hk3 hN3
    obtain ⟨PP, ta, tb, rfl, hm⟩ := hR
    have X3 := X.keeps hk3
    have T3 := T.keeps hk3
    have hc3 := hN3 (L + 1 + 1 + 1, oB) (by k_mem)
    have hB3 : s₃.heap.IsList B ys.toArray := ⟨_, hN3 (B, LCg.lst ys) (by k_mem), rfl, _, rfl⟩
    have I3 : IsTup s₃.heap PP #[.int (q.1 : Nat) ta, .int (q.2 : Nat) tb] := ⟨_, hN3 _ (hsub _ hm), rfl, _, rfl⟩
    have hq : q.1 ≤ 100 ∧ q.2 ≤ 100 ∧ 0 < q.1 + q.2 := so.pr q (List.mem_of_mem_drop (List.mem_of_mem_take hcm))
    clear X T F4 N4
    k_steps
    exact ⟨leInts_eq _ _, _, _, rfl, by assumption⟩
  · intro v c C s₃ m₃ E' hR hn3 hm3
    obtain ⟨PP, ta, tb, rfl, hm⟩ := hR
    k_steps
    exact ⟨rfl, _, _, rfl, fun _ _ e => e⟩
  · intro h6 tk6 D6 ys6 k6 F6 N6 hl6 d6
    clear F4 N4
    have hl7 : ys6.toArray.size = gapN ps bs := by rw [List.size_toArray]; exact hl6
    clear hl6
    have hg7 := gap_lt so bs
    k_steps
    change wpAny _ _ _ _ _ _
    rename Fr _ _ _ _ => F9
    rename News _ _ _ _ => N9
    exact cont _ _ _ (gap_mW F9) (News.sub N9 fun q hq => .tail _ (.tail _ hq))
end
end Mine
end
section
open PySem PySem.W PyProof.Rows PySem.Calls PySem.Spec
namespace Mine
theorem start_La6 : True := by
  w_top off
  k_with_none
  trivial
theorem pick_take {vs : List Value} {g : Nat} (h : g + 1 ≤ vs.length) : slicePick vs.toArray none (some ((g : Int) + 1)) none = (vs.take (g + 1)).toArray := by
  rw [kms_pick_eq]
  unfold kms_pick kms_lo kms_hi
  dsimp only
  rw [if_neg (by omega)]
  have e : min ((g : Int) + 1).toNat vs.length - 0 = g + 1 := by omega
  simp only [List.drop_zero]
  rw [e]
theorem pick_drop {vs : List Value} {g : Nat} (h : g + 1 ≤ vs.length) : slicePick vs.toArray (some ((g : Int) + 1)) none none = (vs.drop (g + 1)).toArray := by
  rw [kms_pick_eq]
  unfold kms_pick kms_lo kms_hi
  dsimp only
  rw [if_neg (by omega)]
  have e : min ((g : Int) + 1).toNat vs.length = g + 1 := by omega
  rw [e, List.take_of_length_le (by simp)]
section
variable {prog : Program} {w : World} {A : Around} {E : Value → Shared → Prop} {s : Shared} {hb : Heap} {L : Addr} {m : Str → Option Value} {news : List (Addr × Obj)}
theorem addA {l b : Addr} {xs ys : Array Value} {Q : Value → Shared → Prop} (F : Fr hb L s.heap m) (N : News hb L s.heap news) (hl : s.heap.IsList l xs) (hb1 : s.heap.IsList b ys) (hsz : xs.size + ys.size ≤ 1000)
    (h : ∀ (D : Nat) h', Fr hb L h' m → News hb L h' ((D, listOf (xs ++ ys) 0) :: news) → (∀ q ∈ news, @LT.lt Nat _ q.1 D) → Q (.ref D) { s with heap := h' }) :
    wpAny (model prog w) A (binaryOp .Add (.ref l) (.ref b)) Q E s := by
  refine add_lists (vs := xs.toList) (ws := ys.toList) F N hl hb1 (fun h' F' N' => ?_) (by simp only [sizeLine, Array.length_toList]; omega)
  have e : (xs.toList ++ ys.toList).toArray = xs ++ ys := by simp
  rw [e] at N'
  exact h _ h' F' N' fun q hq => Heap.lt_size (N q hq).1
end
theorem pairs_mW {hb h : Heap} {L P c a R PA D BW : Nat} {g bt : Option Value} (F : Fr hb L h (fun y => if y = Str.ofString "pairs" then some (.ref D) else if y = Str.ofString "between" then some (.ref BW) else if y = Str.ofString "pairs" then some (.ref PA) else if y = Str.ofString "row" then some (.ref R) else if y = Str.ofString "gap" then g else if y = Str.ofString "between" then bt else
  if y = Str.ofString "pieces" then some (.ref P) else if y = Str.ofString "cells" then some (.ref c) else if y = Str.ofString "script" then some (.ref a) else none)) : Fr hb L h (mW P c a R D g (some (.ref BW))) := Fr.congr F (by
  intro y
  by_cases h1 : y = Str.ofString "pairs"
  · subst h1; rfl
  simp only [mW, if_neg h1]
  by_cases h2 : y = Str.ofString "between"
  · subst h2; rfl
  simp only [if_neg h2])
theorem pairs_news {hb h : Heap} {L : Addr} {D7 BW g t1 t2 : Nat} {z1 z2 : Int} {pvs : List Value} {x1 x2 x3 x4 i c1 c2 r pa ss cc c3 : Addr × Obj} {tab tl : List (Addr × Obj)}
    (N : News hb L h ((D7, listOf ((pvs.take (g + 1)).toArray ++ #[Value.ref BW] ++ (pvs.drop (g + 1)).toArray) 0) :: x1 :: x2 :: x3 :: x4 :: (BW, tupO #[.int z1 t1, .int z2 t2]) :: i :: c1 :: c2 :: r :: pa :: ss :: cc :: c3 :: (tab ++ tl))) :
    News hb L h (i :: c1 :: c2 :: r :: (D7, listOf (pvs.take (g + 1) ++ Value.ref BW :: pvs.drop (g + 1)).toArray 0) :: ss :: cc :: c3 :: (tab ++ ((BW, tupO #[.int z1 t1, .int z2 t2]) :: tl))) := by
  have e : (pvs.take (g + 1)).toArray ++ #[Value.ref BW] ++ (pvs.drop (g + 1)).toArray = (pvs.take (g + 1) ++ Value.ref BW :: pvs.drop (g + 1)).toArray := by simp
  rw [e] at N
  refine News.sub N (List.forall_mem_cons.mpr ⟨by k_mem, List.forall_mem_cons.mpr ⟨by k_mem, List.forall_mem_cons.mpr ⟨by k_mem, List.forall_mem_cons.mpr ⟨by k_mem, List.forall_mem_cons.mpr ⟨.head _, List.forall_mem_cons.mpr ⟨by k_mem, List.forall_mem_cons.mpr ⟨by k_mem, List.forall_mem_cons.mpr ⟨by k_mem, fun q hq => ?_⟩⟩⟩⟩⟩⟩⟩⟩)
  rcases List.mem_append.mp hq with hq | hq
  · iterate 14 apply List.mem_cons_of_mem
    exact List.mem_append_left _ hq
  · rcases List.mem_cons.mp hq with rfl | hq
    · k_mem
    · iterate 14 apply List.mem_cons_of_mem
      exact List.mem_append_right _ hq
theorem ins_pairs {tl : List (Addr × Obj)} {pvs : List Value} {ps : List (Nat × Nat)} {g BW t1 t2 : Nat} {z1 z2 : Int} (pr : PairsIn tl pvs ps) (hg : g + 1 < ps.length) (e1 : z1 = (((ps.getD g (0, 0)).1 + (ps.getD (g + 1) (0, 0)).1 : Nat) : Int)) (e2 : z2 = (((ps.getD g (0, 0)).2 + (ps.getD (g + 1) (0, 0)).2 : Nat) : Int)) :
    PairsIn ((BW, tupO #[.int z1 t1, .int z2 t2]) :: tl) (pvs.take (g + 1) ++ .ref BW :: pvs.drop (g + 1)) (ins g ps) := by
  subst e1 e2
  have hl := pr.1
  refine ⟨by simp [ins]; omega, fun k hk => ?_⟩
  have hk : k < ps.length + 1 := by simp [ins] at hk; omega
  have gd : (ins g ps).getD k (0, 0) = if k ≤ g then ps.getD k (0, 0) else if k = g + 1 then ((ps.getD g (0, 0)).1 + (ps.getD (g + 1) (0, 0)).1, (ps.getD g (0, 0)).2 + (ps.getD (g + 1) (0, 0)).2) else ps.getD (k - 1) (0, 0) := by
    unfold ins
    rw [List.getD_eq_getElem?_getD, List.getElem?_append]
    have hm : min (g + 1) ps.length = g + 1 := by omega
    rw [List.length_take, hm]
    by_cases h1 : k ≤ g
    · rw [if_pos (by omega), if_pos h1, List.getElem?_take, if_pos (by omega), ← List.getD_eq_getElem?_getD]
    · rw [if_neg (by omega), if_neg h1]
      by_cases h2 : k = g + 1
      · rw [if_pos h2, h2, Nat.sub_self]; rfl
      · rw [if_neg h2]
        obtain ⟨j, rfl⟩ : ∃ j, k = g + 1 + 1 + j := ⟨k - (g + 2), by omega⟩
        rw [show g + 1 + 1 + j - (g + 1) = j + 1 by omega, List.getElem?_cons_succ, List.getElem?_drop, show g + 1 + j = g + 1 + 1 + j - 1 by omega, ← List.getD_eq_getElem?_getD]
  have gv : (pvs.take (g + 1) ++ Value.ref BW :: pvs.drop (g + 1))[k]? = if k ≤ g then pvs[k]? else if k = g + 1 then some (.ref BW) else pvs[k - 1]? := by
    rw [List.getElem?_append]
    have hm : min (g + 1) pvs.length = g + 1 := by omega
    rw [List.length_take, hm]
    by_cases h1 : k ≤ g
    · rw [if_pos (by omega), if_pos h1, List.getElem?_take, if_pos (by omega)]
    · rw [if_neg (by omega), if_neg h1]
      by_cases h2 : k = g + 1
      · rw [if_pos h2, h2, Nat.sub_self]; rfl
      · rw [if_neg h2]
        obtain ⟨j, rfl⟩ : ∃ j, k = g + 1 + 1 + j := ⟨k - (g + 2), by omega⟩
        rw [show g + 1 + 1 + j - (g + 1) = j + 1 by omega, List.getElem?_cons_succ, List.getElem?_drop, show g + 1 + j = g + 1 + 1 + j - 1 by omega]
  rw [gd, gv]
  by_cases h1 : k ≤ g
  · rw [if_pos h1, if_pos h1]
    obtain ⟨P, ta, tb, e, hm⟩ := pr.2 k (by omega)
    exact ⟨P, ta, tb, e, .tail _ hm⟩
  rw [if_neg h1, if_neg h1]
  by_cases h2 : k = g + 1
  · rw [if_pos h2, if_pos h2]
    exact ⟨BW, t1, t2, rfl, .head _⟩
  · rw [if_neg h2, if_neg h2]
    obtain ⟨P, ta, tb, e, hm⟩ := pr.2 (k - 1) (by omega)
    exact ⟨P, ta, tb, e, .tail _ hm⟩
theorem reg1_La6 : True := by
  k_with "subscriptTail Name Slice ref ref" => ((k_here; (with_reducible show wpAny _ _ (subscriptTail _ (PySem.Expr.Slice _ _ none _) (Value.ref _) (Value.ref _)) _ _ _); k_dflt (apply kmk_slice; (case F => k_asm); (case N => k_asm); (case hl => exact News.isList (by k_asm) (by k_mem)); (case pl => kmk_part); (case pu => kmk_part); (case hs => with_unfolding_all rfl); (case ht => kmk_pure); (case hz => (simp only [List.size_toArray, sizeLine]; omega))); intro _ _ _ _ _))
  k_with "subscriptTail" => ((k_here; (with_reducible show wpAny _ _ (subscriptTail _ _ (Value.ref _) (Value.int _ _)) _ _ _); k_dflt (apply item_pr; (case pr => assumption); (case hl => exact News.isList (by k_asm) (by k_mem)); (case h0 => omega); (case hhi => omega); (case hx => omega); (case hs => with_unfolding_all rfl)); intro _ _ _ _ _ _ _))
  k_with "subscriptTail" => ((k_here; (with_reducible show wpAny _ _ (subscriptTail (PySem.Expr.Subscript _ _ _) _ (Value.ref _) (Value.int _ _)) _ _ _); k_dflt (refine kba_turn (value' := PySem.Expr.Name (PySem.Str.ofString "_") ⟨0, 0, 0, 0⟩) (fun _ => rfl) ?_; refine item_tupleL (by first | assumption | exact Fr.tup (by assumption) (by assumption)) (by decide) (by decide) (by rfl) (by rfl) ?_)))
  k_with "binaryOp Add ref ref" => ((k_here; (with_reducible show wpAny _ _ (binaryOp Operator.Add (Value.ref _) (Value.ref _)) _ _ _); apply stuck))
  trivial
section
variable {w : World} {p : Program} {loose : List Str} {mean : ExcName → Option Value} {mg mb : Str → Option Value} {dp un : Nat} {fr : Option (List Env)} {gd : Option (List Code)} {s : Shared}
    {hb : Heap} {L a f : Nat} {cd : Value}
set_option maxHeartbeats 4000000 in
theorem turn_pairs {Q : Flow → Shared → Prop} {P c R PA S I2 kR kPA kS kc g t : Nat} {rvs pvs cvs svs : List Value} {ps : List (Nat × Nat)} {oI oN oB oS : Obj} {tab tl : List (Addr × Obj)} {bt : Option Value} (X : (hd.heap_39 w.params).In hb) (T : Top p loose mean mg mb hb) (hroom : dp < 690) (hun : un < 3000)
    (F : Fr hb L s.heap (mW P c a R PA (some (.int (g : Nat) t)) bt)) (N : News hb L s.heap ((I2, oI) :: (L + 1 + 1, oN) :: (L + 1 + 1 + 1, oB) :: (R, listOf rvs.toArray kR) :: (PA, listOf pvs.toArray kPA) :: (S, listOf svs.toArray kS) :: (c, listOf cvs.toArray kc) :: (L + 1, oS) :: (tab ++ tl)))
    (pr : PairsIn tl pvs ps) (so : StateOk ps) (hg : g + 1 < ps.length) (htl : ∀ q ∈ tl, ∃ its, q.2 = tupO its) (hI : ∀ q ∈ tl, @Ne Addr I2 q.1)
    (cont : ∀ h' tk (PA' kPA' : Nat) pvs' tl' gp' bt', Fr hb L h' (mW P c a R PA' gp' bt') → News hb L h' ((I2, oI) :: (L + 1 + 1, oN) :: (L + 1 + 1 + 1, oB) :: (R, listOf rvs.toArray kR) :: (PA', listOf pvs'.toArray kPA') :: (S, listOf svs.toArray kS) :: (c, listOf cvs.toArray kc) :: (L + 1, oS) :: (tab ++ tl')) →
      PairsIn tl' pvs' (ins g ps) → (∀ q ∈ tl', ∃ its, q.2 = tupO its) → @Ne Addr I2 PA' → (∀ q ∈ tl', @Ne Addr I2 q.1) → Q .next { s with heap := h', toks := tk }) :
    wpAny (model PySem.Challenge.rw_sl0003_01.row.prog w) (AA dp un fr gd) (execs [lwB3, lwB4] (lwEnv L f cd)) Q (fun _ _ => False) s := by
  have X0 := X
  revert X; k_fill; intro X
  have hlen := pr.1
  have h7 := so.seven
  have hll : pvs.toArray.size = ps.length := by simpa using hlen
  have pa : PairsAt s.heap pvs ps := ⟨hlen, fun k hk => by
    obtain ⟨P, ta, tb, e, hm⟩ := pr.2 k hk
    exact ⟨P, ta, tb, e, _, (N _ (by iterate 8 apply List.mem_cons_of_mem
                                     exact List.mem_append_right _ hm)).1, rfl, _, rfl⟩, fun q hq => by
    have := so.pr q hq; omega⟩
  unfold mW at F
  have hgt : ((g : Int)).toNat = g := by omega
  have hgt1 : ((g : Int) + 1).toNat = g + 1 := by omega
  have hg0 : (0 : Int) ≤ (g : Int) := by omega
  k_steps
  change wpAny _ _ _ _ _ _
  rename Fr _ _ _ _ => F4
  rename News _ _ _ _ => N4
  rw [pick_take (by omega)] at N4
  refine addA F4 N4 (News.isList N4 (.tail _ (.head _))) (News.isList N4 (.head _)) ?_ fun D5 h5 F5 N5 l5 => ?_
  · simp; omega
  clear F4 N4
  k_steps
  change wpAny _ _ _ _ _ _
  rename Fr _ _ _ _ => F6
  rename News _ _ _ _ => N6
  rw [pick_drop (by omega)] at N6
  refine addA F6 N6 (News.isList N6 (.tail _ (.head _))) (News.isList N6 (.head _)) ?_ fun D7 h7 F7 N7 l7 => ?_
  · simp; omega
  clear F6 N6
  k_steps
  rename Fr _ _ _ _ => F8
  rename News _ _ _ _ => N8
  refine cont _ _ D7 0 _ _ _ _ (pairs_mW F8) (pairs_news N8) (ins_pairs pr hg ?_ ?_) (List.forall_mem_cons.mpr ⟨⟨_, rfl⟩, htl⟩) (Nat.ne_of_lt (l7 (I2, oI) (.tail _ (.tail _ (.tail _ (.tail _ (.tail _ (.head _)))))))) (List.forall_mem_cons.mpr ⟨Nat.ne_of_lt (by rename ((@LT.lt Addr _ I2 _) ∧ _) => z; exact z.1), hI⟩)
  · rw [hgt, hgt1]; push_cast; rfl
  · rw [hgt, hgt1]; push_cast; rfl
end
end Mine
end
section
open PySem PySem.W PyProof.Rows PySem.Calls PySem.Spec
namespace Mine
theorem start_La7 : True := by
  w_top off
  k_with_none
  trivial
section
variable {hb h : Heap} {L : Addr} {news : List (Addr × Obj)}
theorem apart_of (N : News hb L h news) {q r : Addr × Obj} (mq : q ∈ news) (mr : r ∈ news) (hne : q.2 ≠ r.2) : q.1 ≠ r.1 := fun e => by
  have h1 := (N q mq).1
  have h2 := (N r mr).1
  rw [e, h2] at h1
  exact hne (Option.some.inj h1).symm
theorem data_ne {o o' : Obj} (h : o.data ≠ o'.data) : o ≠ o' := fun e => h (by rw [e])
theorem cell_seq {o : Obj} {v : Option Value} {xs : Array Value} {k : Nat} (d : o.data = .cell v) : (listOf xs k) ≠ o := data_ne (by rw [d]; exact fun e => nomatch e)
theorem cell_tup {o : Obj} {v : Option Value} {xs : Array Value} (d : o.data = .cell v) : (tupO xs) ≠ o := data_ne (by rw [d]; exact fun e => nomatch e)
end
theorem off1_all {D : Addr} : ∀ {l : List (Addr × Obj)}, LCg.Off1 D l → ∀ q ∈ l, q.1 ≠ D
  | [], _, _, h => nomatch h
  | _ :: _, x, q, h => by
    rcases List.mem_cons.mp h with rfl | h
    · exact x.1
    · exact off1_all x.2 q h
theorem TabS.fields {tab : List (Addr × Obj)} (t : TabS tab) : ∀ q ∈ tab, ∃ vs, q.2.data = .fields vs := by
  cases t with
  | fresh => intro q hq; obtain rfl := List.mem_singleton.mp hq; exact ⟨_, rfl⟩
  | made d e hne =>
    refine List.forall_mem_cons.mpr ⟨⟨_, d⟩, List.forall_mem_cons.mpr ⟨⟨_, rfl⟩, List.forall_mem_nil _⟩⟩
theorem ne_fields {o o' : Obj} {v : Array Value} (d : o'.data = .fields v) (h : ∀ v, o.data ≠ .fields v) : o ≠ o' := fun e => h v (by rw [e]; exact d)
section
variable {w : World} {p : Program} {loose : List Str} {mean : ExcName → Option Value} {mg mb : Str → Option Value} {dp un : Nat} {fr : Option (List Env)} {gd : Option (List Code)} {s : Shared}
    {hb : Heap} {L a f : Nat} {cd : Value}
set_option maxHeartbeats 4000000 in
theorem law_turn {Q : Flow → Shared → Prop} {P c S kS kc t0 t1 I2 sa sb : Nat} {cvs : List Value} {cns : List Int} {s0 s1 : Str} {oI oS : Obj} {m : Str → Option Value} {news : List (Addr × Obj)} {j : Nat} {v : Value} {pq : Pos}
    (X : (hd.heap_39 w.params).In hb) (T : Top p loose mean mg mb hb) (C : CodeHd hb 117 113) (hroom : dp < 690) (hun : un < 3000) (SS : Signs s0 s1 sa sb) (z0 : s0.length ≤ 10) (z1 : s1.length ≤ 10)
    (hi : IntsAre cvs cns) (hc5 : cns.length = 5) (hcb : ∀ n ∈ cns, 0 ≤ n ∧ n ≤ 100000000) (dS : oS.data = .cell (some (.ref S))) (hj : cvs[j]? = some v)
    (J : LInv L c P a S kS kc cvs [.str s0 t0, .str s1 t1] oS s0 s1 j m news) (F : Fr hb L s.heap m) (N : News hb L s.heap ((I2, oI) :: news)) (hne : ∀ q ∈ news, q.1 ≠ I2) :
    wpAny (model PySem.Challenge.rw_sl0003_01.row.prog w) (AA dp un fr gd) (assign (Expr.Name (Str.ofString "number") pq) (lwEnv L f cd) v) (fun _ s₂ =>
      wpAny (model PySem.Challenge.rw_sl0003_01.row.prog w) (AA dp un fr gd) (execs lwFor5 (lwEnv L f cd)) (StepT s hb L (LInv L c P a S kS kc cvs [.str s0 t0, .str s1 t1] oS s0 s1) Q j I2 oI) (fun _ _ => False) s₂) (fun _ _ => False) s := by
  obtain ⟨R, kR, rvs, PA, kPA, pvs, ps, tab, tl, oN, oB, gp, bt, vN, vB, rfl, rfl, dN, dB, tS, htl, sv, pr, hp⟩ := J
  have hj5 : j < 5 := by
    have h1 := (List.getElem?_eq_some_iff.mp hj).1
    rw [ints_length hi, hc5] at h1; exact h1
  have so := state_ok (show j < 6 by omega) hp
  obtain ⟨nz, t, rfl, hz⟩ := IntsAre.at hi j v hj
  have hzb := hcb nz (List.mem_of_getElem? hz)
  obtain ⟨n, rfl⟩ : ∃ n : Nat, nz = (n : Int) := ⟨nz.toNat, by omega⟩
  have hn : n ≤ 100000000 := by omega
  have hlen := pr.1
  have h2 := so.two
  have hrl : rvs.length = ps.length := by have := sv.length; simpa [dueWs] using this
  have hIL : ∀ q ∈ LwL L R kR PA kPA S kS c kc rvs pvs [.str s0 t0, .str s1 t1] cvs oN oB oS (tab ++ tl), @Ne Addr I2 q.1 := fun q hq => (hne q hq).symm
  have mtab : ∀ q ∈ tab, q ∈ LwL L R kR PA kPA S kS c kc rvs pvs [.str s0 t0, .str s1 t1] cvs oN oB oS (tab ++ tl) := fun q hq => by
    iterate 7 apply List.mem_cons_of_mem
    exact List.mem_append_left _ hq
  have mtl : ∀ q ∈ tl, q ∈ LwL L R kR PA kPA S kS c kc rvs pvs [.str s0 t0, .str s1 t1] cvs oN oB oS (tab ++ tl) := fun q hq => by
    iterate 7 apply List.mem_cons_of_mem
    exact List.mem_append_right _ hq
  have N0 : News hb L s.heap (LwL L R kR PA kPA S kS c kc rvs pvs [.str s0 t0, .str s1 t1] cvs oN oB oS (tab ++ tl)) := News.sub N fun q hq => .tail _ hq
  -- nothing but a cell lies at a cell
  have hcell : ∀ cA o vv, (cA, o) ∈ LwL L R kR PA kPA S kS c kc rvs pvs [.str s0 t0, .str s1 t1] cvs oN oB oS (tab ++ tl) → o.data = .cell vv → @Ne Nat (L + 1) cA → ∀ q ∈ (R, listOf rvs.toArray kR) :: (PA, listOf pvs.toArray kPA) :: (S, listOf #[Value.str s0 t0, .str s1 t1] kS) :: (c, listOf cvs.toArray kc) :: (L + 1, oS) :: (tab ++ tl), q.1 ≠ cA := by
    intro cA o vv mc dc hL
    refine List.forall_mem_cons.mpr ⟨apart_of N0 (by k_mem) mc (cell_seq dc), List.forall_mem_cons.mpr ⟨apart_of N0 (by k_mem) mc (cell_seq dc), List.forall_mem_cons.mpr ⟨apart_of N0 (by k_mem) mc (cell_seq dc), List.forall_mem_cons.mpr ⟨apart_of N0 (by k_mem) mc (cell_seq dc), List.forall_mem_cons.mpr ⟨hL, fun q hq => ?_⟩⟩⟩⟩⟩
    rcases List.mem_append.mp hq with hq | hq
    · obtain ⟨vs, d⟩ := tS.fields q hq
      exact apart_of N0 (mtab q hq) mc (data_ne (by rw [d, dc]; exact fun e => nomatch e))
    · obtain ⟨its, e⟩ := htl q hq
      exact apart_of N0 (mtl q hq) mc (by rw [e]; exact cell_tup dc)
  have hL2 : @Ne Nat (L + 1) (L + 1 + 1) := by omega
  have hL3 : @Ne Nat (L + 1) (L + 1 + 1 + 1) := by omega
  have hL4 : @Ne Nat (L + 1 + 1 + 1) (L + 1 + 1) := by omega
  refine turn_bits (rest := [lwB1, lwB2, lwB3, lwB4]) X T hroom hun F N dN dB (hIL (L + 1 + 1, oN) (by k_mem)) (List.forall_mem_cons.mpr ⟨hL4, hcell (L + 1 + 1) oN vN (by k_mem) dN hL2⟩) (hIL (L + 1 + 1 + 1, oB) (by k_mem)) (hcell (L + 1 + 1 + 1) oB vB (by k_mem) dB hL3) hn fun h1 tk1 B ys oN' oB' F1 N1 i1 dN1 dB1 hIB hoff => ?_
  clear F N N0 hcell
  have hoff' : ∀ q ∈ (R, listOf rvs.toArray kR) :: (PA, listOf pvs.toArray kPA) :: (S, listOf #[Value.str s0 t0, .str s1 t1] kS) :: (c, listOf cvs.toArray kc) :: (L + 1, oS) :: (tab ++ tl), q.1 ≠ B := off1_all hoff
  have mt1 : ∀ q ∈ tab, q ∈ (B, LCg.lst ys) :: (I2, oI) :: (L + 1 + 1, oN') :: (L + 1 + 1 + 1, oB') :: (R, listOf rvs.toArray kR) :: (PA, listOf pvs.toArray kPA) :: (S, listOf #[Value.str s0 t0, .str s1 t1] kS) :: (c, listOf cvs.toArray kc) :: (L + 1, oS) :: (tab ++ tl) := fun q hq => by
    iterate 9 apply List.mem_cons_of_mem
    exact List.mem_append_left _ hq
  have ml1 : ∀ q ∈ tl, q ∈ (B, LCg.lst ys) :: (I2, oI) :: (L + 1 + 1, oN') :: (L + 1 + 1 + 1, oB') :: (R, listOf rvs.toArray kR) :: (PA, listOf pvs.toArray kPA) :: (S, listOf #[Value.str s0 t0, .str s1 t1] kS) :: (c, listOf cvs.toArray kc) :: (L + 1, oS) :: (tab ++ tl) := fun q hq => by
    iterate 9 apply List.mem_cons_of_mem
    exact List.mem_append_right _ hq
  have nf : ∀ q ∈ (B, LCg.lst ys) :: (I2, oI) :: (L + 1 + 1, oN') :: (L + 1 + 1 + 1, oB') :: (R, listOf rvs.toArray kR) :: (PA, listOf pvs.toArray kPA) :: (S, listOf #[Value.str s0 t0, .str s1 t1] kS) :: (c, listOf cvs.toArray kc) :: (L + 1, oS) :: (tab ++ tl), (∀ vs, q.2.data ≠ .fields vs) → ∀ r ∈ tab, q.1 ≠ r.1 := fun q hq h r hr => by
    obtain ⟨vs, d⟩ := tS.fields r hr
    exact apart_of N1 hq (mt1 r hr) (ne_fields d h)
  have mR : ((R, listOf rvs.toArray kR) : Addr × Obj) ∈ (B, LCg.lst ys) :: (I2, oI) :: (L + 1 + 1, oN') :: (L + 1 + 1 + 1, oB') :: (R, listOf rvs.toArray kR) :: (PA, listOf pvs.toArray kPA) :: (S, listOf #[Value.str s0 t0, .str s1 t1] kS) :: (c, listOf cvs.toArray kc) :: (L + 1, oS) :: (tab ++ tl) := by k_mem
  obtain ⟨r0, hr0⟩ : ∃ t, rvs[0]? = some (.str (dueW s0 s1 ps 0) t) := sv.get 0 _ (by unfold dueWs; rw [List.getElem?_map, List.getElem?_range (by omega)]; rfl)
  have lne : ∀ (xs : List Value) k, xs[0]? ≠ rvs[0]? → listOf xs.toArray k ≠ listOf rvs.toArray kR := fun xs k h e => h (by
    injection e with _ _ e _
    injection e with e _
    have := congrArg Array.toList e
    simp only at this
    rw [this])
  refine turn_grow (rest := [lwB2, lwB3, lwB4]) (xs := dueWs s0 s1 ps) (xs' := dueWs s0 s1 (ins (gapN ps (bsOf n)) ps)) (gap := gapN ps (bsOf n)) X T C hroom hun F1 N1 dN1 dB1 dS i1 (bsOf_bits n) (by simp [bsOf]; omega) z0 z1 hn SS sv tS (nf _ mR fun vs e => nomatch e) ?_ (fun text ht => ?_) fun h2 tk2 D kD ds tab' F2 N2 sv2 tS2 hID hIt => ?_
  · refine List.forall_mem_cons.mpr ⟨⟨(hoff' _ (by k_mem)).symm, nf _ (by k_mem) fun vs e => nomatch e⟩, List.forall_mem_cons.mpr ⟨⟨hIL (R, listOf rvs.toArray kR) (by k_mem), fun r hr => hIL _ (mtab r hr)⟩, List.forall_mem_cons.mpr ⟨⟨?_, nf _ (by k_mem) ?_⟩, List.forall_mem_cons.mpr ⟨⟨?_, nf _ (by k_mem) ?_⟩, List.forall_mem_cons.mpr ⟨⟨?_, nf _ (by k_mem) fun vs e => nomatch e⟩, List.forall_mem_cons.mpr ⟨⟨?_, nf _ (by k_mem) fun vs e => nomatch e⟩, List.forall_mem_cons.mpr ⟨⟨?_, nf _ (by k_mem) fun vs e => nomatch e⟩, List.forall_mem_cons.mpr ⟨⟨?_, nf _ (by k_mem) ?_⟩, fun q hq => ⟨?_, ?_⟩⟩⟩⟩⟩⟩⟩⟩⟩
    · exact apart_of N1 (by k_mem) mR (Ne.symm (cell_seq dN1))
    · intro vs; rw [dN1]; exact fun e => nomatch e
    · exact apart_of N1 (by k_mem) mR (Ne.symm (cell_seq dB1))
    · intro vs; rw [dB1]; exact fun e => nomatch e
    · refine apart_of N1 (by k_mem) mR (lne pvs kPA ?_)
      obtain ⟨PP, ta, tb, e, _⟩ := pr.2 0 (by omega)
      rw [e, hr0]; exact fun e => nomatch e
    · refine apart_of N1 (by k_mem) mR (lne [.str s0 t0, .str s1 t1] kS ?_)
      rw [hr0]
      intro e
      have e : some (Value.str s0 t0) = some (.str (dueW s0 s1 ps 0) r0) := e
      injection e with e
      injection e with e _
      have e2 := congrArg (fun x : Str => x.cps.toList) e
      simp only [due_cps, SS.1] at e2
      obtain ⟨d, ed⟩ : ∃ d, dotsOf ps 0 = d + 1 := ⟨dotsOf ps 0 - 1, by have := (so.dots 0 (by omega)).1; omega⟩
      rw [ed, List.replicate_succ, List.cons_append] at e2
      injection e2 with e2 _
      exact SS.2.2.2.2.2.1 e2
    · refine apart_of N1 (by k_mem) mR (lne cvs kc ?_)
      have hcl : 0 < cvs.length := by rw [ints_length hi]; omega
      obtain ⟨z, tz, e, _⟩ := IntsAre.at hi 0 (cvs[0]'hcl) (List.getElem?_eq_getElem hcl)
      rw [hr0, List.getElem?_eq_getElem hcl, e]
      exact fun e => nomatch e
    · exact apart_of N1 (by k_mem) mR (Ne.symm (cell_seq dS))
    · intro vs; rw [dS]; exact fun e => nomatch e
    · obtain ⟨its, e⟩ := htl q hq
      refine apart_of N1 (ml1 q hq) mR ?_
      rw [e]
      intro h
      injection h with h1
      injection h1 with h1
      exact absurd h1 (by decide)
    · obtain ⟨its, e⟩ := htl q hq
      exact nf q (ml1 q hq) (by rw [e]; exact fun vs e => nomatch e)
  · obtain ⟨Rr, dw, newS, G, et, _⟩ := law_step SS hj5 hp (bsOf_bits n) ht (number := n / 160) (by omega)
    exact ⟨Rr, dw, newS, G, et⟩
  have hg := gap_lt so (bsOf n)
  refine turn_gap (rest := [lwB3, lwB4]) X T hroom hun F2 N2 dB1 i1 pr so fun h3 tk3 t3 F3 N3 => ?_
  refine turn_pairs X T hroom hun F3 N3 pr so hg htl (fun q hq => hIL q (mtl q hq)) fun h4 tk4 PA' kPA' pvs' tl' gp' bt' F4 N4 pr' htl' hIP hIt' => ?_
  refine ⟨h4, tk4, _, _, rfl, F4, N4, ?_, D, kD, ds, PA', kPA', pvs', _, tab', tl', oN', oB', gp', bt', _, _, rfl, rfl, dN1, dB1, tS2, htl', sv2, pr', reach_ins hp hg⟩
  refine List.forall_mem_cons.mpr ⟨hne (L + 1 + 1, oN) (by k_mem), List.forall_mem_cons.mpr ⟨hne (L + 1 + 1 + 1, oB) (by k_mem), List.forall_mem_cons.mpr ⟨hID.symm, List.forall_mem_cons.mpr ⟨hIP.symm, List.forall_mem_cons.mpr ⟨hne (S, listOf #[Value.str s0 t0, .str s1 t1] kS) (by k_mem), List.forall_mem_cons.mpr ⟨hne (c, listOf cvs.toArray kc) (by k_mem), List.forall_mem_cons.mpr ⟨hne (L + 1, oS) (by k_mem), fun q hq => ?_⟩⟩⟩⟩⟩⟩⟩
  rcases List.mem_append.mp hq with hq | hq
  · exact (hIt q hq).symm
  · exact (hIt' q hq).symm
end
end Mine
end
section
open PySem PySem.W PyProof.Rows PySem.Calls PySem.Spec
namespace Mine
theorem start_La8 : True := by
  w_top off
  k_with_none
  trivial
noncomputable abbrev lwIt5 : PySem.Expr := pk (itr (kid (topS 19) 5)) _ (by conv => rhs; whnf; rfl)
section
variable {w : World} {p : Program} {loose : List Str} {mean : ExcName → Option Value} {mg mb : Str → Option Value} {dp un : Nat} {fr : Option (List Env)} {gd : Option (List Code)} {s : Shared}
    {hb : Heap} {L a f : Nat} {cd : Value}
set_option maxHeartbeats 2000000 in
theorem law_loop {Q : Flow → Shared → Prop} {rest : List Stmt} {P c S kS kc t0 t1 sa sb : Nat} {cvs : List Value} {cns : List Int} {s0 s1 : Str} {oS : Obj} {m : Str → Option Value} {news : List (Addr × Obj)}
    (X : (hd.heap_39 w.params).In hb) (T : Top p loose mean mg mb hb) (C : CodeHd hb 117 113) (hroom : dp < 690) (hun : un < 3000) (SS : Signs s0 s1 sa sb) (z0 : s0.length ≤ 10) (z1 : s1.length ≤ 10)
    (hi : IntsAre cvs cns) (hc5 : cns.length = 5) (hcb : ∀ n ∈ cns, 0 ≤ n ∧ n ≤ 100000000) (dS : oS.data = .cell (some (.ref S)))
    (J : LInv L c P a S kS kc cvs [.str s0 t0, .str s1 t1] oS s0 s1 0 m news) (F : Fr hb L s.heap m) (N : News hb L s.heap news)
    (cont : ∀ h' tk m' news', Fr hb L h' m' → News hb L h' news' → LInv L c P a S kS kc cvs [.str s0 t0, .str s1 t1] oS s0 s1 5 m' news' →
      wpAny (model PySem.Challenge.rw_sl0003_01.row.prog w) (AA dp un fr gd) (execs rest (lwEnv L f cd)) Q (fun _ _ => False) { s with heap := h', toks := tk }) :
    wpAny (model PySem.Challenge.rw_sl0003_01.row.prog w) (AA dp un fr gd) (execs (lwS5 :: rest) (lwEnv L f cd)) Q (fun _ _ => False) s := by
  have hm : ∀ {j m news}, LInv L c P a S kS kc cvs [.str s0 t0, .str s1 t1] oS s0 s1 j m news → (c, listOf cvs.toArray kc) ∈ news ∧ m (Str.ofString "cells") = some (.ref c) := by
    rintro j m news ⟨R, kR, rvs, PA, kPA, pvs, ps, tab, tl, oN, oB, gp, bt, vN, vB, rfl, rfl, _⟩
    exact ⟨by k_mem, rfl⟩
  refine wpAny_execs_cons (for_lst (hb := hb) (L := L) rfl ?_)
  have hN := (hm J).2
  have iter : wpAny (model PySem.Challenge.rw_sl0003_01.row.prog w) (AA dp un fr gd) (eval lwIt5 (lwEnv L f cd)) (fun v s' => v = .ref c ∧ s' = s) (fun _ _ => False) s := by
    obtain ⟨R, kR, rvs, PA, kPA, pvs, ps, tab, tl, oN, oB, gp, bt, vN, vB, rfl, rfl, _⟩ := J
    unfold mW at F
    k_steps
  refine wpAny_mono iter (fun x s₁ ⟨e1, e2⟩ => ?_) fun _ _ e => e
  subst e1 e2
  exact ⟨c, _, cvs, kc, fun _ => True, LInv L c P a S kS kc cvs [.str s0 t0, .str s1 t1] oS s0 s1, s₁.heap, s₁.toks, m, news, rfl, rfl, F, N, rfl, rfl, fun j m news J => (hm J).1, fun _ _ => trivial, J,
    fun j v I2 oI h tk m news hv J _ F N hne => wpAny_mono (law_turn (Q := fun fl s' => match fl with | .next => wpAny (model PySem.Challenge.rw_sl0003_01.row.prog w) (AA dp un fr gd) (execs rest (lwEnv L f cd)) Q (fun _ _ => False) s' | g => Q g s') (s := { s₁ with heap := h, toks := tk }) X T C hroom hun SS z0 z1 hi hc5 hcb dS hv J F N hne)
      (fun _ s₂ h₂ => wpAny_mono h₂ (fun g s₃ h₃ => by cases g <;> exact h₃) fun _ _ e => e) fun _ _ e => e,
    fun h tk m news J F N => cont h tk m news F N (by rw [ints_length hi, hc5] at J; exact J)⟩
end
end Mine
end
section
open PySem PySem.W PyProof.Rows PySem.Calls PySem.Spec
namespace Mine
theorem start_La9 : True := by
  w_top off
  k_with_none
  trivial
section
variable {w : World} {p : Program} {loose : List Str} {mean : ExcName → Option Value} {mg mb : Str → Option Value} {dp un : Nat} {fr : Option (List Env)} {gd : Option (List Code)} {s : Shared}
    {hb : Heap} {L f : Nat} {cd : Value} {m : Str → Option Value} {news tl : List (Addr × Obj)} {E Q : Value → Shared → Prop}
theorem fresh_news {h h' : Heap} {ns : List (Addr × Obj)} (F : Fr hb L h m) (N : News hb L h news) (k : ∀ b o, h.get? b = some o → h'.get? b = some o) (Ld : Led h h' ns) : Fr hb L h' m ∧ News hb L h' (ns ++ news) ∧ ∀ r ∈ ns, ∀ q ∈ news, q.1 ≠ r.1 := by
  refine ⟨F.keeps k, fun q hq => ?_, fun r hr q hq e => ?_⟩
  · rcases List.mem_append.mp hq with hq | hq
    · refine ⟨(Ld q hq).1, fun e => ?_, ?_⟩
      · obtain ⟨oL, _, _, hL, _⟩ := F.ns
        have := (Ld q hq).2
        rw [e, hL] at this; cases this
      · cases z : hb.get? q.1 with
        | none => rfl
        | some o => have := (Ld q hq).2; rw [F.keep _ _ z] at this; cases this
    · exact ⟨k _ _ (N q hq).1, (N q hq).2⟩
  · have := (Ld r hr).2
    rw [← e, (N q hq).1] at this; cases this
theorem due_fr {PA kPA S kS t0 t1 : Nat} {pvs : List Value} {ps : List (Nat × Nat)} {s0 s1 : Str} (X : (hd.heap_39 w.params).In hb) (T : Top p loose mean mg mb hb) (hroom : dp < 890) (F : Fr hb L s.heap m) (N : News hb L s.heap news)
    (mP : (PA, listOf pvs.toArray kPA) ∈ news) (pr : PairsIn tl pvs ps) (sub : ∀ q ∈ tl, q ∈ news) (so : StateOk ps) (mS : (S, listOf #[.str s0 t0, .str s1 t1] kS) ∈ news) (z0 : s0.length ≤ 10) (z1 : s1.length ≤ 10)
    (ret : ∀ h' tk (D : Nat) ds kD, Fr hb L h' m → News hb L h' ((D, listOf ds.toArray kD) :: news) → SV ds (dueWs s0 s1 ps) → (∀ q ∈ news, q.1 ≠ D) → Q (.ref D) { s with heap := h', toks := tk }) :
    wpAny (model PySem.Challenge.rw_sl0003_01.row.prog w) (AA dp un fr gd) (call (.ref 138) [.ref PA, .ref S]) Q E s := by
  have h7 := so.seven
  refine c_due (hb := hb) (toBs F) X T hroom (News.isList N mP) ⟨pr.1, fun k hk => ?_, fun q hq => ?_⟩ so.two (by omega) (News.isList N mS) z0 z1 fun h' tk D ds kD k Ld sv => ?_
  · obtain ⟨P, ta, tb, e, hm⟩ := pr.2 k hk
    exact ⟨P, ta, tb, e, _, (N _ (sub _ hm)).1, rfl, _, rfl⟩
  · have := so.pr q hq; omega
  · obtain ⟨F', N', d⟩ := fresh_news F N k Ld
    exact ret h' tk D ds kD F' N' sv fun q hq => d _ (.head _) q hq
theorem refused_any {a : Nat} {o : Obj} {vs : List Value} (X : (hd.heap_39 w.params).In hb) (T : Top p loose mean mg mb hb) (hroom : dp < 880) (hfr : fr = some [lwEnv L f cd]) (F : Fr hb L s.heap m) (N : News hb L s.heap news) (ma : (a, o) ∈ news)
    (ho : (∃ k, o = listOf vs.toArray k) ∨ (∃ k, o = { cls := .type "tuple", data := .seq vs.toArray k })) (hne : vs.toArray.size ≠ 2)
    (ret : ∀ h' tk, Fr hb L h' m → News hb L h' news → Q (.bool true) { s with heap := h', toks := tk }) :
    wpAny (model PySem.Challenge.rw_sl0003_01.row.prog w) (AA dp un fr gd) (call (.ref 145) [.ref a]) Q E s := by
  have hbL : ∀ b o, hb.get? b = some o → b ∉ [L] := fun b o e q => by
    rw [List.mem_singleton.mp q] at e
    exact absurd (Nat.lt_of_lt_of_le (Heap.lt_size e) F.above) (Nat.lt_irrefl _)
  have st : ∀ b o, hb.get? b = some o → (hideAll s.heap [L]).get? b = some o := fun b o e => hideAll_get _ (F.keep _ _ e) (hbL b o e)
  have sn : ∀ q ∈ news, (hideAll s.heap [L]).get? q.1 = some q.2 := fun q hq => hideAll_get _ (N q hq).1 fun z => (N q hq).2.1 (List.mem_singleton.mp z)
  refine c_refused (hb := hideAll s.heap [L]) (outer := [lwEnv L f cd]) (fun b o e => of_hideAll _ e) (Nat.le_of_eq (hideAll_size _ _)) (X.keeps st) (T.keeps st) (by show dp < 890; omega) rfl (by show fr = _; exact hfr) (Heap.FunFrames.cons (show ScopeKind.function ≠ ScopeKind.module by decide) rfl F.ns (hideAll_none _ (.head _)) trivial) ?_ hne fun h' tk k up => ?_
  · rcases ho with ⟨k, rfl⟩ | ⟨k, rfl⟩
    · exact .inl ⟨_, sn _ ma, rfl, _, rfl⟩
    · exact .inr ⟨_, sn _ ma, rfl, _, rfl⟩
  · exact ret h' tk ⟨Heap.UpToSlots.ns up F.ns, fun b o e => k _ _ (st b o e), F.above⟩ fun q hq => ⟨k _ _ (sn q hq), (N q hq).2⟩
theorem refused_l {a k : Nat} {xs : Array Value} (X : (hd.heap_39 w.params).In hb) (T : Top p loose mean mg mb hb) (hroom : dp < 880) (hfr : fr = some [lwEnv L f cd]) (F : Fr hb L s.heap m) (N : News hb L s.heap news) (ma : (a, listOf xs k) ∈ news) (hne : xs.size ≠ 2)
    (ret : ∀ h' tk, Fr hb L h' m → News hb L h' news → Q (.bool true) { s with heap := h', toks := tk }) :
    wpAny (model PySem.Challenge.rw_sl0003_01.row.prog w) (AA dp un fr gd) (call (.ref 145) [.ref a]) Q E s :=
  refused_any (vs := xs.toList) X T hroom hfr F N ma (.inl ⟨k, rfl⟩) hne ret
theorem refused_t {a k : Nat} {xs : Array Value} (X : (hd.heap_39 w.params).In hb) (T : Top p loose mean mg mb hb) (hroom : dp < 880) (hfr : fr = some [lwEnv L f cd]) (F : Fr hb L s.heap m) (N : News hb L s.heap news) (ma : (a, ({ cls := .type "tuple", data := .seq xs k } : Obj)) ∈ news) (hne : xs.size ≠ 2)
    (ret : ∀ h' tk, Fr hb L h' m → News hb L h' news → Q (.bool true) { s with heap := h', toks := tk }) :
    wpAny (model PySem.Challenge.rw_sl0003_01.row.prog w) (AA dp un fr gd) (call (.ref 145) [.ref a]) Q E s :=
  refused_any (vs := xs.toList) X T hroom hfr F N ma (.inr ⟨k, rfl⟩) hne ret
end
theorem sv_carried : ∀ {vs : List Value} {xs : List Str}, SV vs xs → CarriedAll vs (xs.map .str)
  | _, [], h => by cases h; exact .nil
  | _, x :: xs, h => by cases h with | cons h => exact .cons (.str _ _) (sv_carried h)
theorem strs_canLay : ∀ {xs : List Str}, (∀ x ∈ xs, PyData.strOk x = true) → PyData.canLayAll0 (xs.map .str) = true
  | [], _ => rfl
  | x :: xs, h => by
    rw [List.map_cons, PyData.canLayAll0, PyData.canLay0, h x (.head _), strs_canLay fun y hy => h y (.tail _ hy)]; rfl
theorem strs_depth : ∀ xs : List Str, PyData.depthAll (xs.map .str) = 0
  | [] => rfl
  | x :: xs => by rw [List.map_cons, PyData.depthAll, strs_depth xs]; rfl
theorem strs_shaped {xs : List Str} (h : ∀ x ∈ xs, PyData.strOk x = true) : SeqAt.shaped (.list (xs.map .str)) = true := by
  unfold SeqAt.shaped
  rw [PyData.canLay0, strs_canLay h, PyData.depth, strs_depth]; rfl
theorem strs_eqv : ∀ xs : List Str, PyData.eqvAll (xs.map .str) (xs.map .str) = true
  | [] => rfl
  | x :: xs => by rw [List.map_cons, PyData.eqvAll, PyData.eqv, strs_eqv xs]; simp
theorem dotT_small {a b : Nat} (ha : a < 1000) (hb : b < 1000) : ∀ u : List Nat, ∀ c ∈ dotT a b u, c < 1000
  | [], _, h => nomatch h
  | c :: u, x, h => by
    rcases List.mem_cons.mp h with rfl | h
    · omega
    rcases List.mem_cons.mp h with rfl | h
    · unfold sgC; split <;> assumption
    · exact dotT_small ha hb u x h
theorem due_small {s0 s1 : Str} {a b : Nat} (S : Signs s0 s1 a b) (ha : a < 1000) (hb : b < 1000) {ps : List (Nat × Nat)} (so : StateOk ps) : ∀ x ∈ dueWs s0 s1 ps, PyData.strOk x = true := by
  intro x hx
  obtain ⟨k, hk, rfl⟩ := List.mem_map.mp hx
  have hp := so.at (List.mem_range.mp hk)
  obtain ⟨c, r, _, e, _, _⟩ := name_cons S hp.2.2
  unfold PyData.strOk
  rw [← Array.all_toList, due_cps, e, List.all_eq_true]
  intro y hy
  rcases List.mem_append.mp hy with hy | hy
  · rw [(List.mem_replicate.mp hy).2]; decide
  rcases List.mem_cons.mp hy with rfl | hy
  · have : sgC a b c < 1000 := by unfold sgC; split <;> assumption
    exact decide_eq_true (by omega)
  · have := dotT_small ha hb r y hy
    exact decide_eq_true (by omega)
theorem ne_rows {prog : Program} {w : World} {A : Around} {E : Value → Shared → Prop} {s : Shared} {a b : Addr} {vs ds : List Value} {xs : List Str} {Q : Value → Shared → Prop} (ha : s.heap.IsList a vs.toArray) (hb : s.heap.IsList b ds.toArray) (sa : SV vs xs) (sb : SV ds xs) (ok : ∀ x ∈ xs, PyData.strOk x = true) (hu : A.units + 64 < cLine)
    (h : Q (.bool false) s) : wpAny (model prog w) A (compareOp .NotEq (.ref a) (.ref b)) Q E s :=
  ne_lists (r := true) ha hb (sv_carried sa) (sv_carried sb) (strs_shaped ok) (strs_shaped ok) hu (by rw [PyData.eqv]; exact strs_eqv xs) h
end Mine
end
section
open PySem PySem.W PyProof.Rows PySem.Calls PySem.Spec
namespace Mine
theorem start_La10 : True := by
  w_top off
  k_with_none
  trivial
theorem pick_n {vs : List Value} {n : Nat} (h : n ≤ vs.length) : (slicePick vs.toArray none (some (n : Int)) none).size = n := by
  rw [kms_pick_eq]
  unfold kms_pick kms_lo kms_hi
  dsimp only
  rw [if_neg (by omega)]
  simp; omega
theorem reg1_La10 : True := by
  k_with "subscriptTail Name Slice ref ref" => ((k_here; (with_reducible show wpAny _ _ (subscriptTail _ (PySem.Expr.Slice _ _ none _) (Value.ref _) (Value.ref _)) _ _ _); k_dflt (apply kmk_slice; (case F => k_asm); (case N => k_asm); (case hl => exact News.isList (by k_asm) (by k_mem)); (case pl => kmk_part); (case pu => kmk_part); (case hs => with_unfolding_all rfl); (case ht => kmk_pure); (case hz => (simp only [List.size_toArray, sizeLine]; omega))); intro _ _ _ _ _))
  k_with "call ref" => ((k_here; (with_reducible show wpAny _ _ (call (Value.ref 138) [Value.ref _, Value.ref _]) _ _ _); k_dflt (apply due_fr; (case X => k_asm); (case T => k_asm); (case hroom => omega); (case F => k_asm); (case N => k_asm); (case mP => k_mem); (case pr => assumption); (case sub => assumption); (case so => assumption); (case mS => k_mem); (case z0 => assumption); (case z1 => assumption)); intro _ _ _ _ _ _ _ _ _))
  k_with "call ref" => ((k_here; (with_reducible show wpAny _ _ (call (Value.ref 145) [Value.ref _]) _ _ _); k_dflt (first | (apply refused_l; (case X => k_asm); (case T => k_asm); (case hroom => omega); (case hfr => assumption); (case F => k_asm); (case N => k_asm); (case ma => k_mem); (case hne => assumption)) | (apply refused_t; (case X => k_asm); (case T => k_asm); (case hroom => omega); (case hfr => assumption); (case F => k_asm); (case N => k_asm); (case ma => k_mem); (case hne => assumption))); intro _ _ _ _))
  k_with "call type:tuple" => ((k_here; (with_reducible show wpAny _ _ (call (Value.type _) [Value.ref _]) _ _ _); k_dflt (apply kde_tupleOf; (case F => k_asm); (case N => k_asm); (case hl => exact News.isList (by k_asm) (by k_mem)); (case hz => omega); (case e => exact rfl)); intro _ _ _ _ _))
  k_with "compareOp NotEq ref ref" => ((k_here; (with_reducible show wpAny _ _ (compareOp CmpOp.NotEq (Value.ref _) (Value.ref _)) _ _ _); k_dflt (apply ne_rows; (case ha => exact News.isList (by k_asm) (by k_mem)); (case hb => exact News.isList (by k_asm) (by k_mem)); (case sa => assumption); (case sb => assumption); (case ok => assumption); (case hu => (simp only [cLine]; omega)))))
  k_with "compareOp NotEq ref" => ((k_here; (with_reducible show wpAny _ _ (compareOp CmpOp.NotEq (Value.ref _) (Value.ref _)) _ _ _); k_dflt (apply ne_rows; (case ha => exact News.isList (by k_asm) (by k_mem)); (case hb => exact News.isList (by k_asm) (by k_mem)); (case sa => assumption); (case sb => assumption); (case ok => assumption); (case hu => (simp only [cLine]; omega)))))
  trivial
section
variable {w : World} {p : Program} {loose : List Str} {mean : ExcName → Option Value} {mg mb : Str → Option Value} {dp un : Nat} {fr : Option (List Env)} {gd : Option (List Code)} {s : Shared}
    {hb : Heap} {L a f : Nat} {cd : Value}
set_option maxHeartbeats 4000000 in
theorem law_ifs {Q : Flow → Shared → Prop} {rest : List Stmt} {P c R PA S kR kPA kS kc t0 t1 : Nat} {rvs pvs cvs : List Value} {ps : List (Nat × Nat)} {s0 s1 : Str} {oN oB oS : Obj} {tab tl : List (Addr × Obj)} {gp bt : Option Value} (X : (hd.heap_39 w.params).In hb) (T : Top p loose mean mg mb hb) (hroom : dp < 690) (hun : un < 3000) (hfr : fr = some [lwEnv L f cd])
    (F : Fr hb L s.heap (mW P c a R PA gp bt)) (N : News hb L s.heap (LwL L R kR PA kPA S kS c kc rvs pvs [.str s0 t0, .str s1 t1] cvs oN oB oS (tab ++ tl))) (dS : oS.data = .cell (some (.ref S))) (sv : SV rvs (dueWs s0 s1 ps)) (ok : ∀ x ∈ dueWs s0 s1 ps, PyData.strOk x = true) (pr : PairsIn tl pvs ps) (so : StateOk ps) (z0 : s0.length ≤ 10) (z1 : s1.length ≤ 10) (h7 : ps.length = 7)
    (cont : ∀ h' tk, Fr hb L h' (mW P c a R PA gp bt) → News hb L h' (LwL L R kR PA kPA S kS c kc rvs pvs [.str s0 t0, .str s1 t1] cvs oN oB oS (tab ++ tl)) → wpAny (model PySem.Challenge.rw_sl0003_01.row.prog w) (AA dp un fr gd) (execs rest (lwEnv L f cd)) Q (fun _ _ => False) { s with heap := h', toks := tk }) :
    wpAny (model PySem.Challenge.rw_sl0003_01.row.prog w) (AA dp un fr gd) (execs (lwS6 :: lwS7 :: rest) (lwEnv L f cd)) Q (fun _ _ => False) s := by
  have X0 := X
  revert X; k_fill; intro X
  have hlen : rvs.length = 7 := by have := sv.length; simpa [dueWs, h7] using this
  have hll : rvs.toArray.size = 7 := by simpa using hlen
  have hR7 : rvs.toArray.size ≠ 2 := by omega
  have hp3 : (slicePick rvs.toArray none (some 3) none).size ≠ 2 := by have := pick_n (vs := rvs) (n := 3) (by omega); have e : slicePick rvs.toArray none (some ((3 : Nat) : Int)) none = slicePick rvs.toArray none (some 3) none := rfl; rw [e] at this; omega
  have hp1 : (slicePick rvs.toArray none (some 1) none).size ≠ 2 := by have := pick_n (vs := rvs) (n := 1) (by omega); have e : slicePick rvs.toArray none (some ((1 : Nat) : Int)) none = slicePick rvs.toArray none (some 1) none := rfl; rw [e] at this; omega
  have hp3s : (slicePick rvs.toArray none (some 3) none).size = 3 := pick_n (vs := rvs) (n := 3) (by omega)
  have hp3' : (slicePick rvs.toArray none (some 3) none).toList.toArray.size ≠ 2 := by rw [Array.toArray_toList]; exact hp3
  have sub : ∀ q ∈ tl, q ∈ LwL L R kR PA kPA S kS c kc rvs pvs [.str s0 t0, .str s1 t1] cvs oN oB oS (tab ++ tl) := fun q hq => by
    iterate 7 apply List.mem_cons_of_mem
    exact List.mem_append_right _ hq
  unfold mW at F
  k_steps
  change wpAny _ _ _ _ _ _
  rename Fr _ _ _ _ => F9
  rename News _ _ _ _ => N9
  exact cont _ _ F9 (News.sub N9 fun q hq => .tail _ (.tail _ (.tail _ (.tail _ hq))))
end
end Mine
end
section
open PySem PySem.W PyProof.Rows PySem.Calls PySem.Spec
namespace Mine
theorem start_La11 : True := by
  w_top off
  k_with_none
  trivial
section
variable {prog : Program} {w : World} {A : Around} {s : Shared} {hb : Heap} {L : Addr}
noncomputable def RngRun (prog : Program) (w : World) (A : Around) (env : Env) (target : Expr) (body : List Stmt) (s : Shared) (hb : Heap) (L : Addr) (Q : Flow → Shared → Prop) (x : Value) (s₁ : Shared) : Prop :=
  ∃ (R n : Nat) (t u v : Tok) (J : Nat → (Str → Option Value) → List (Addr × Obj) → Prop) (h : Heap) (tk : Nat) (m : Str → Option Value) (news : List (Addr × Obj)),
    x = .ref R ∧ s₁ = { s with heap := h, toks := tk } ∧ Fr hb L h m ∧ News hb L h news ∧ IsRange h R 0 (n : Int) 1 t u v ∧ n < 1000000 ∧ J 0 m news ∧
    (∀ j I2 h tk m news t, j < n → J j m news → Fr hb L h m → News hb L h ((I2, rIt ((j : Int) + 1) ((n : Int) - j - 1)) :: news) → (∀ p ∈ news, p.1 ≠ I2) →
      wpAny (model prog w) A (assign target env (.int (j : Nat) t)) (fun _ s₂ => wpAny (model prog w) A (execs body env) (StepT s hb L J Q j I2 (rIt ((j : Int) + 1) ((n : Int) - j - 1))) (fun _ _ => False) s₂) (fun _ _ => False) { s with heap := h, toks := tk }) ∧
    (∀ h tk m news, J n m news → Fr hb L h m → News hb L h news → Q .next { s with heap := h, toks := tk })
theorem for_rng {env : Env} {target iter : Expr} {body : List Stmt} {pos : Pos} {Q : Flow → Shared → Prop} (hh : A.handled = none)
    (hi : wpAny (model prog w) A (eval iter env) (RngRun prog w A env target body s hb L Q) (fun _ _ => False) s)
    (ht : ∀ it v, letOwnedTupleGo target it v = pure () := by intro _ _; rfl)
    (hs : ∀ x, foldedSetIterable iter env x = pure x := by intro _; rfl) :
    wpAny (model prog w) A (exec (.For target iter body [] pos) env) Q (fun _ _ => False) s := by
  refine wpAny_For (wpAny_mono hi (fun x s₁ h₁ => ?_) fun _ _ e => e.elim) hs
  obtain ⟨R, n, t, u, v, J, h0, tk0, m0, news0, rfl, rfl, F0, N0, hr, hn, hJ0, step, done⟩ := h₁
  refine iter_rng F0 N0 hr (by omega) (by omega) fun I h' F' N' l1 => ?_
  refine codeAny_forLoop (fun k s' => ∃ h tk m news j, s' = { s with heap := h, toks := tk } ∧ Fr hb L h m ∧ News hb L h ((I, rIt (j : Nat) ((n : Int) - (j : Nat))) :: news) ∧ (∀ p ∈ news, p.1 ≠ I) ∧ J j m news ∧ j ≤ n ∧ k = n - j) ?_ n
    ⟨h', _, m0, news0, 0, rfl, F', by simpa using N', fun p hp e => by have := l1 p hp; have e' : @Eq Nat p.1 I := e; omega, hJ0, Nat.zero_le _, rfl⟩ (ht _)
  rintro k s' ⟨h, tk, m, news, j, rfl, F, N, hne, hJ, hj, rfl⟩
  by_cases hlt : j < n
  · refine next_rng F N hne (by omega) fun h' tk' t' F' N' => ?_
    refine wpAny_mono (step j I h' _ m news t' hlt hJ F' N' hne) (fun _ s₂ h₂ => wpAny_mono h₂ (fun f s₃ h₃ => ?_) fun _ _ e => e.elim) fun _ _ e => e.elim
    have e1 : ((j + 1 : Nat) : Int) = (j : Int) + 1 := by omega
    have e2 : (n : Int) - ((j + 1 : Nat) : Int) = (n : Int) - j - 1 := by omega
    have key : ∀ h3 tk3 m3 news3, s₃ = { s with heap := h3, toks := tk3 } → Fr hb L h3 m3 → News hb L h3 ((I, rIt ((j : Int) + 1) ((n : Int) - j - 1)) :: news3) → (∀ p ∈ news3, p.1 ≠ I) → J (j + 1) m3 news3 →
        ∃ mm, mm < n - j ∧ ∃ h tk m news j', s₃ = { s with heap := h, toks := tk } ∧ Fr hb L h m ∧ News hb L h ((I, rIt (j' : Nat) ((n : Int) - (j' : Nat))) :: news) ∧ (∀ p ∈ news, p.1 ≠ I) ∧ J j' m news ∧ j' ≤ n ∧ mm = n - j' := by
      intro h3 tk3 m3 news3 e F3 N3 hne3 hJ3
      exact ⟨n - (j + 1), by omega, h3, tk3, m3, news3, j + 1, e, F3, by rw [e2, e1]; exact N3, hne3, hJ3, hlt, rfl⟩
    cases f with
    | next =>
      obtain ⟨h3, tk3, m3, news3, e, F3, N3, hne3, hJ3⟩ := h₃
      exact key h3 tk3 m3 news3 e F3 N3 hne3 hJ3
    | cont =>
      obtain ⟨h3, tk3, m3, news3, e, F3, N3, hne3, hJ3⟩ := h₃
      exact key h3 tk3 m3 news3 e F3 N3 hne3 hJ3
    | brk => exact h₃
    | ret v => exact h₃
  · obtain rfl : j = n := by omega
    refine end_rng hh F N hne (by omega) fun h' tk' F' N' => ?_
    exact wpAny_execs_nil (done h' _ m news hJ F' N')
end
section
variable {prog : Program} {w : World} {p : Program} {loose : List Str} {mean : ExcName → Option Value} {mg mb : Str → Option Value} {dp un : Nat} {fr : Option (List Env)} {gd : Option (List Code)} {E Q : Value → Shared → Prop} {s : Shared}
  {hb : Heap} {L : Nat} {m : Str → Option Value} {news : List (Addr × Obj)}
theorem strcoll_F {x y : Str} {tx ty : Nat} {z : Int} (hz : strcoll x y = z) (X : (hd.heap_39 w.params).In hb) (T : Top p loose mean mg mb hb) (hroom : dp < 900) (F : Fr hb L s.heap m) (N : News hb L s.heap news)
    (ret : ∀ h' tk t, Fr hb L h' m → News hb L h' news → Q (.int z t) { s with heap := h', toks := tk }) :
    wpAny (model PySem.Challenge.rw_sl0003_01.row.prog w) (AA dp un fr gd) (call (.ref 38) [.str x tx, .str y ty]) Q E s := by
  refine c_strcoll (X.keeps F.keep) (T.keeps F.keep) (by simp only [recursionLimit]; omega) fun t s' ⟨h', tk', e, k⟩ => ?_
  subst e
  rw [hz]
  exact ret h' tk' t (fr_grow F N k).1 (fr_grow F N k).2
end
end Mine
end
section
open PySem PySem.W PyProof.Rows PySem.Calls PySem.Spec
namespace Mine
theorem start_La12 : True := by
  w_top off
  k_with_none
  trivial
noncomputable abbrev lwInS : Stmt := pk (kid (kid (topS 19) 8) 2) _ (by conv => rhs; whnf; rfl)
noncomputable abbrev lwInIter : PySem.Expr := pk (itr (kid (kid (topS 19) 8) 2)) _ (by conv => rhs; whnf; rfl)
noncomputable abbrev lwOutIter : PySem.Expr := pk (itr (kid (topS 19) 8)) _ (by conv => rhs; whnf; rfl)
noncomputable def mF (P c a R PA : Nat) (gp bt iv nm jv td : Option Value) : Str → Option Value := fun y => if y = Str.ofString "told" then td else if y = Str.ofString "j" then jv else if y = Str.ofString "name" then nm else if y = Str.ofString "i" then iv else mW P c a R PA gp bt y
theorem in_mF {hb h : Heap} {L P c a R PA : Nat} {gp bt iv nm jv td t1 j1 : Option Value} (F : Fr hb L h (fun y => if y = Str.ofString "told" then t1 else if y = Str.ofString "j" then j1 else if y = Str.ofString "told" then td else if y = Str.ofString "j" then jv else if y = Str.ofString "name" then nm else if y = Str.ofString "i" then iv else
    if y = Str.ofString "pairs" then some (.ref PA) else if y = Str.ofString "row" then some (.ref R) else if y = Str.ofString "gap" then gp else if y = Str.ofString "between" then bt else
    if y = Str.ofString "pieces" then some (.ref P) else if y = Str.ofString "cells" then some (.ref c) else if y = Str.ofString "script" then some (.ref a) else none)) : Fr hb L h (mF P c a R PA gp bt iv nm j1 t1) := Fr.congr F (by
  intro y
  by_cases h1 : y = Str.ofString "told"
  · subst h1; rfl
  simp only [mF, mW, if_neg h1]
  by_cases h2 : y = Str.ofString "j"
  · subst h2; rfl
  simp only [if_neg h2])
theorem out_mF {hb h : Heap} {L P c a R PA : Nat} {gp bt iv nm jv td n1 i1 : Option Value} (F : Fr hb L h (fun y => if y = Str.ofString "name" then n1 else if y = Str.ofString "i" then i1 else if y = Str.ofString "told" then td else if y = Str.ofString "j" then jv else if y = Str.ofString "name" then nm else if y = Str.ofString "i" then iv else
    if y = Str.ofString "pairs" then some (.ref PA) else if y = Str.ofString "row" then some (.ref R) else if y = Str.ofString "gap" then gp else if y = Str.ofString "between" then bt else
    if y = Str.ofString "pieces" then some (.ref P) else if y = Str.ofString "cells" then some (.ref c) else if y = Str.ofString "script" then some (.ref a) else none)) : Fr hb L h (mF P c a R PA gp bt i1 n1 jv td) := Fr.congr F (by
  intro y
  by_cases h1 : y = Str.ofString "name"
  · subst h1; rfl
  simp only [mF, mW, if_neg h1]
  by_cases h2 : y = Str.ofString "i"
  · subst h2; rfl
  simp only [if_neg h2])
theorem item_hd {prog : Program} {w : World} {A : Around} {s : Shared} {value slice : PySem.Expr} {x : Str} {t u : Tok} {c : Nat} {r : List Nat} {E Q : Value → Shared → Prop}
    (hx : x.cps.toList = c :: r) (h : ∀ t' k, Q (.str ⟨#[c]⟩ t') { s with toks := k })
    (hs : subscripted slice false (.str x t) (.int 0 u) = operate [.str x t, .int 0 u] (getItem (.str x t) (.int 0 u)) := by with_unfolding_all rfl) :
    wpAny (model prog w) A (subscriptTail value slice (.str x t) (.int 0 u)) Q E s := by
  have hl : x.length = r.length + 1 := by show x.cps.size = _; rw [← Array.length_toList, hx]; rfl
  refine tail_any (typeIs_str s x t) PySem.F.slot_str_getitem.lookup (P.getItem_str (c := c) (by decide) ?_ (h _ _)) hs
  have e : seqIndex? 0 x.length = some 0 := by rw [hl]; simp [seqIndex?]
  rw [e]
  show x.cps[0]? = some c
  rw [← Array.getElem?_toList, hx]; rfl
theorem in_set {prog : Program} {w : World} {A : Around} {s : Shared} {t u : Tok} {c : Nat} {E Q : Value → Shared → Prop} (hc : c ∈ [67, 98, 34, 92, 9, 32, 35]) (h : Q (.bool (decide (c < 46))) s) :
    wpAny (model prog w) A (compareOp .In (.str ⟨#[c]⟩ u) (.str (Str.ofString "\"\t #") t)) Q E s := by
  refine P.in_str ?_
  have e : (!(Builtin.Str.occurrences (Str.ofString "\"\t #") ⟨#[c]⟩ 0 (Str.ofString "\"\t #").length 1).isEmpty) = decide (c < 46) := by
    simp only [List.mem_cons, List.not_mem_nil, or_false] at hc
    rcases hc with rfl | rfl | rfl | rfl | rfl | rfl | rfl <;> decide +kernel
  rw [e]; exact h
theorem item_rowE {prog : Program} {w : World} {A : Around} {s : Shared} {value slice : PySem.Expr} {l : Addr} {vs : List Value} {xs : List Str} {k : Nat} {u : Tok} {x : Str} {E Q : Value → Shared → Prop}
    (hl : s.heap.IsList l vs.toArray) (sv : SV vs xs) (hx : xs[k]? = some x) (hz : xs.length ≤ 1000) (h : ∀ t, Q (.str x t) s)
    (hs : subscripted slice false (.ref l) (.int (k : Nat) u) = operate [.ref l, .int (k : Nat) u] (getItem (.ref l) (.int (k : Nat) u)) := by with_unfolding_all rfl) :
    wpAny (model prog w) A (subscriptTail value slice (.ref l) (.int (k : Nat) u)) Q E s := by
  obtain ⟨t, e⟩ := sv.get k _ hx
  have := (List.getElem?_eq_some_iff.mp hx).1
  exact tail_any hl.typeIs slot_list_getitem.lookup (wpAny_getItem_list hl (by omega) (by omega) (by simpa using e) (h t)) hs
theorem reg1_La12 : True := by
  k_with "subscriptTail" => ((k_here; (with_reducible show wpAny _ _ (subscriptTail _ _ (Value.ref _) (Value.int _ _)) _ _ _); k_dflt (apply item_rowE; (case sv => assumption); (case hl => exact News.isList (by k_asm) (by k_mem)); (case hx => assumption); (case hz => assumption); (case hs => with_unfolding_all rfl)); intro _))
  k_with "subscriptTail" => ((k_here; (with_reducible show wpAny _ _ (subscriptTail _ _ (Value.str _ _) (Value.int _ _)) _ _ _); k_dflt (apply item_hd; (case hx => assumption); (case hs => with_unfolding_all rfl)); intro _ _))
  k_with "subscriptTail Name Constant str int" => ((k_here; (with_reducible show wpAny _ _ (subscriptTail _ _ (Value.str _ _) (Value.int _ _)) _ _ _); k_dflt (apply item_hd; (case hx => assumption); (case hs => with_unfolding_all rfl)); intro _ _))
  k_with "compareOp In str str" => ((k_here; (with_reducible show wpAny _ _ (compareOp CmpOp.In (Value.str _ _) (Value.str _ _)) _ _ _); k_dflt (apply in_set; (case hc => assumption))))
  k_with "call ref" => ((k_here; (with_reducible show wpAny _ _ (call (Value.ref 38) [_, _]) _ _ _); apply stuck))
  trivial
section
variable {w : World} {p : Program} {loose : List Str} {mean : ExcName → Option Value} {mg mb : Str → Option Value} {dp un : Nat} {fr : Option (List Env)} {gd : Option (List Code)} {s : Shared}
    {hb : Heap} {L a f : Nat} {cd : Value}
set_option maxHeartbeats 4000000 in
theorem in_turn {Q : Flow → Shared → Prop} {P c R PA S kR kPA kS kc t0 t1 i j ti tj tn I2 J2 : Nat} {rvs pvs cvs : List Value} {nmS : Str} {xs : List Str} {s0 s1 : Str} {oN oB oS oI oJ : Obj} {tl : List (Addr × Obj)} {gp bt jv td : Option Value} {pq : Pos} (X : (hd.heap_39 w.params).In hb) (T : Top p loose mean mg mb hb) (hroom : dp < 690) (hun : un < 3000)
    (F : Fr hb L s.heap (mF P c a R PA gp bt (some (.int (i : Nat) ti)) (some (.str nmS tn)) jv td)) (N : News hb L s.heap ((J2, oJ) :: (I2, oI) :: LwL L R kR PA kPA S kS c kc rvs pvs [.str s0 t0, .str s1 t1] cvs oN oB oS tl)) (sv : SV rvs xs) (hj : j < xs.length) (hz : xs.length ≤ 1000) (hi : i < 1000) (hxl : ∀ x ∈ xs, x.length ≤ 1000) (hnl : nmS.length ≤ 1000)
    (hcol : ∀ x, xs[j]? = some x → strcoll nmS (Txt.lstripChars x (Str.ofString ".")) = min 1 (max (-1) ((i : Int) - j)))
    (cont : ∀ h' tk jv' td', Fr hb L h' (mF P c a R PA gp bt (some (.int (i : Nat) ti)) (some (.str nmS tn)) jv' td') → News hb L h' ((J2, oJ) :: (I2, oI) :: LwL L R kR PA kPA S kS c kc rvs pvs [.str s0 t0, .str s1 t1] cvs oN oB oS tl) → Q .next { s with heap := h', toks := tk }) :
    wpAny (model PySem.Challenge.rw_sl0003_01.row.prog w) (AA dp un fr gd) (assign (Expr.Name (Str.ofString "j") pq) (lwEnv L f cd) (.int (j : Nat) tj)) (fun _ s₂ =>
      wpAny (model PySem.Challenge.rw_sl0003_01.row.prog w) (AA dp un fr gd) (execs lwIn (lwEnv L f cd)) Q (fun _ _ => False) s₂) (fun _ _ => False) s := by
  have X0 := X
  revert X; k_fill; intro X
  unfold mF mW at F
  have hj0 : (0 : Int) ≤ (j : Int) := by omega
  have hi0 : (0 : Int) ≤ (i : Int) := by omega
  have hj1 : (j : Int) < 1000 := by omega
  have hi1 : (i : Int) < 1000 := by omega
  have hll : rvs.toArray.size = xs.length := by simpa using sv.length
  have hxj : xs[j]? = some xs[j] := List.getElem?_eq_getElem hj
  have hlj : xs[j].length ≤ 1000 := hxl _ (List.getElem_mem hj)
  generalize xs[j] = xj at hxj hlj
  k_steps
  change wpAny _ _ _ _ _ _
  rename Fr _ _ _ _ => F4
  rename News _ _ _ _ => N4
  refine strcoll_F (dp := dp) (hcol _ hxj) X0 T (by omega) F4 N4 fun h5 tk5 t5 F5 N5 => ?_
  clear F4 N4
  k_steps
  · rename Fr _ _ _ _ => F9
    rename News _ _ _ _ => N9
    exact cont _ _ _ _ (in_mF F9) N9
end
section
variable {w : World} {p : Program} {loose : List Str} {mean : ExcName → Option Value} {mg mb : Str → Option Value} {dp un : Nat} {fr : Option (List Env)} {gd : Option (List Code)} {s : Shared}
    {hb : Heap} {L a f : Nat} {cd : Value}
set_option maxHeartbeats 4000000 in
theorem in_loop {Q : Flow → Shared → Prop} {P c R PA S kR kPA kS kc t0 t1 i ti tn I2 : Nat} {rvs pvs cvs : List Value} {nmS : Str} {xs : List Str} {s0 s1 : Str} {oN oB oS oI : Obj} {tl : List (Addr × Obj)} {gp bt jv td : Option Value} (X : (hd.heap_39 w.params).In hb) (T : Top p loose mean mg mb hb) (hroom : dp < 690) (hun : un < 3000)
    (F : Fr hb L s.heap (mF P c a R PA gp bt (some (.int (i : Nat) ti)) (some (.str nmS tn)) jv td)) (N : News hb L s.heap ((I2, oI) :: LwL L R kR PA kPA S kS c kc rvs pvs [.str s0 t0, .str s1 t1] cvs oN oB oS tl)) (sv : SV rvs xs) (hz : xs.length ≤ 1000) (hi : i < 1000) (hxl : ∀ x ∈ xs, x.length ≤ 1000) (hnl : nmS.length ≤ 1000)
    (hcol : ∀ (j : Nat) x, xs[j]? = some x → strcoll nmS (Txt.lstripChars x (Str.ofString ".")) = min 1 (max (-1) ((i : Int) - j)))
    (cont : ∀ h' tk jv' td', Fr hb L h' (mF P c a R PA gp bt (some (.int (i : Nat) ti)) (some (.str nmS tn)) jv' td') → News hb L h' ((I2, oI) :: LwL L R kR PA kPA S kS c kc rvs pvs [.str s0 t0, .str s1 t1] cvs oN oB oS tl) → Q .next { s with heap := h', toks := tk }) :
    wpAny (model PySem.Challenge.rw_sl0003_01.row.prog w) (AA dp un fr gd) (exec lwInS (lwEnv L f cd)) Q (fun _ _ => False) s := by
  refine for_rng (hb := hb) (L := L) rfl ?_
  have X0 := X
  revert X; k_fill; intro X
  have F0 := F
  unfold mF mW at F
  have hll : rvs.toArray.size = xs.length := by simpa using sv.length
  show wpAny _ _ (eval lwInIter (lwEnv L f cd)) _ _ s
  k_steps
  rename IsRange _ _ _ _ _ _ _ _ => hr
  rename Fr _ _ _ _ => F9
  rename News _ _ _ _ => N9
  refine ⟨_, xs.length, _, _, _, fun j m news => ∃ jv td, m = mF P c a R PA gp bt (some (.int (i : Nat) ti)) (some (.str nmS tn)) jv td ∧ news = (I2, oI) :: LwL L R kR PA kPA S kS c kc rvs pvs [.str s0 t0, .str s1 t1] cvs oN oB oS tl, _, _, _, _, rfl, rfl, F9, N9, hr, by omega, ⟨jv, td, rfl, rfl⟩, ?_, ?_⟩
  · rintro j J2 h tk m news t hj ⟨jv, td, rfl, rfl⟩ F N hne
    refine in_turn (s := { s with heap := h, toks := tk }) X0 T hroom hun F N sv hj hz hi hxl hnl (hcol j) fun h' tk' jv' td' F' N' => ?_
    exact ⟨h', tk', _, _, rfl, F', N', hne, jv', td', rfl, rfl⟩
  · rintro h tk m news ⟨jv, td, rfl, rfl⟩ F N
    exact cont h tk jv td F N
end
theorem reg2_La12 : True := by
  k_with "exec For Name Call cons nil" => ((k_here; (with_reducible show wpAny _ _ (exec (Stmt.For _ _ _ _ _) _) _ _ _); apply stuck))
  trivial
section
variable {w : World} {p : Program} {loose : List Str} {mean : ExcName → Option Value} {mg mb : Str → Option Value} {dp un : Nat} {fr : Option (List Env)} {gd : Option (List Code)} {s : Shared}
    {hb : Heap} {L a f : Nat} {cd : Value}
set_option maxHeartbeats 4000000 in
theorem out_turn {Q : Flow → Shared → Prop} {P c R PA S kR kPA kS kc t0 t1 i ti I2 : Nat} {rvs pvs cvs : List Value} {xs : List Str} {s0 s1 : Str} {oN oB oS oI : Obj} {tl : List (Addr × Obj)} {gp bt iv nm jv td : Option Value} {pq : Pos} (X : (hd.heap_39 w.params).In hb) (T : Top p loose mean mg mb hb) (hroom : dp < 690) (hun : un < 3000)
    (F : Fr hb L s.heap (mF P c a R PA gp bt iv nm jv td)) (N : News hb L s.heap ((I2, oI) :: LwL L R kR PA kPA S kS c kc rvs pvs [.str s0 t0, .str s1 t1] cvs oN oB oS tl)) (sv : SV rvs xs) (hi : i < xs.length) (hz : xs.length ≤ 1000) (hxl : ∀ x ∈ xs, x.length ≤ 1000)
    (hown : ∀ x, xs[i]? = some x → ∃ c r, (Txt.lstripChars x (Str.ofString ".")).cps.toList = c :: r ∧ c ∈ [67, 98, 34, 92, 9, 32, 35] ∧ strcoll x (Txt.lstripChars x (Str.ofString ".")) = if c < 46 then 1 else -1)
    (hcol : ∀ (j : Nat) x y, xs[i]? = some x → xs[j]? = some y → strcoll (Txt.lstripChars x (Str.ofString ".")) (Txt.lstripChars y (Str.ofString ".")) = min 1 (max (-1) ((i : Int) - j)))
    (cont : ∀ h' tk iv nm jv td, Fr hb L h' (mF P c a R PA gp bt iv nm jv td) → News hb L h' ((I2, oI) :: LwL L R kR PA kPA S kS c kc rvs pvs [.str s0 t0, .str s1 t1] cvs oN oB oS tl) → Q .next { s with heap := h', toks := tk }) :
    wpAny (model PySem.Challenge.rw_sl0003_01.row.prog w) (AA dp un fr gd) (assign (Expr.Name (Str.ofString "i") pq) (lwEnv L f cd) (.int (i : Nat) ti)) (fun _ s₂ =>
      wpAny (model PySem.Challenge.rw_sl0003_01.row.prog w) (AA dp un fr gd) (execs lwFor8 (lwEnv L f cd)) Q (fun _ _ => False) s₂) (fun _ _ => False) s := by
  have X0 := X
  revert X; k_fill; intro X
  unfold mF mW at F
  have hi0 : (0 : Int) ≤ (i : Int) := by omega
  have hi1 : (i : Int) < 1000 := by omega
  have hll : rvs.toArray.size = xs.length := by simpa using sv.length
  have hxi : xs[i]? = some xs[i] := List.getElem?_eq_getElem hi
  have hli : xs[i].length ≤ 1000 := hxl _ (List.getElem_mem hi)
  generalize xs[i] = xi at hxi hli
  obtain ⟨cc, r, hc, hm, hs⟩ := hown xi hxi
  k_steps
  change wpAny _ _ _ _ _ _
  rename Fr _ _ _ _ => F4
  rename News _ _ _ _ => N4
  refine strcoll_F (dp := dp) hs X0 T (by omega) F4 N4 fun h5 tk5 t5 F5 N5 => ?_
  clear F4 N4
  have hnl := Nat.le_trans (len_lstripChars xi (Str.ofString ".")) hli
  k_steps
  · change wpAny _ _ _ _ _ _
    rename Fr _ _ _ _ => F6
    rename News _ _ _ _ => N6
    refine in_loop X0 T hroom hun (out_mF F6) N6 sv hz (by omega) hxl hnl (fun j y hy => hcol j xi y hxi hy) fun h7 tk7 jv7 td7 F7 N7 => ?_
    exact wpAny_execs_nil (cont _ _ _ _ _ _ F7 N7)
  · change wpAny _ _ _ _ _ _
    rename Fr _ _ _ _ => F6
    rename News _ _ _ _ => N6
    refine in_loop X0 T hroom hun (out_mF F6) N6 sv hz (by omega) hxl hnl (fun j y hy => hcol j xi y hxi hy) fun h7 tk7 jv7 td7 F7 N7 => ?_
    exact wpAny_execs_nil (cont _ _ _ _ _ _ F7 N7)
end
end Mine
end
section
open PySem PySem.W PyProof.Rows PySem.Calls PySem.Spec
namespace Mine
theorem start_La13 : True := by
  w_top off
  k_with_none
  trivial
section
variable {w : World} {p : Program} {loose : List Str} {mean : ExcName → Option Value} {mg mb : Str → Option Value} {dp un : Nat} {fr : Option (List Env)} {gd : Option (List Code)} {s : Shared}
    {hb : Heap} {L a f : Nat} {cd : Value}
theorem mF_none {P c a R PA : Nat} {gp bt : Option Value} : mW P c a R PA gp bt = mF P c a R PA gp bt none none none none := by
  funext y
  by_cases h1 : y = Str.ofString "told"
  · subst h1; rfl
  by_cases h2 : y = Str.ofString "j"
  · subst h2; rfl
  by_cases h3 : y = Str.ofString "name"
  · subst h3; rfl
  by_cases h4 : y = Str.ofString "i"
  · subst h4; rfl
  simp only [mF, if_neg h1, if_neg h2, if_neg h3, if_neg h4]
set_option maxHeartbeats 4000000 in
theorem out_loop {Q : Flow → Shared → Prop} {rest : List Stmt} {P c R PA S kR kPA kS kc t0 t1 : Nat} {rvs pvs cvs : List Value} {xs : List Str} {s0 s1 : Str} {oN oB oS : Obj} {tl : List (Addr × Obj)} {gp bt : Option Value} (X : (hd.heap_39 w.params).In hb) (T : Top p loose mean mg mb hb) (hroom : dp < 690) (hun : un < 3000)
    (F : Fr hb L s.heap (mW P c a R PA gp bt)) (N : News hb L s.heap (LwL L R kR PA kPA S kS c kc rvs pvs [.str s0 t0, .str s1 t1] cvs oN oB oS tl)) (sv : SV rvs xs) (hz : xs.length ≤ 1000) (hxl : ∀ x ∈ xs, x.length ≤ 1000)
    (hown : ∀ (i : Nat) x, xs[i]? = some x → ∃ c r, (Txt.lstripChars x (Str.ofString ".")).cps.toList = c :: r ∧ c ∈ [67, 98, 34, 92, 9, 32, 35] ∧ strcoll x (Txt.lstripChars x (Str.ofString ".")) = if c < 46 then 1 else -1)
    (hcol : ∀ (i j : Nat) x y, xs[i]? = some x → xs[j]? = some y → strcoll (Txt.lstripChars x (Str.ofString ".")) (Txt.lstripChars y (Str.ofString ".")) = min 1 (max (-1) ((i : Int) - j)))
    (cont : ∀ h' tk m, Fr hb L h' m → News hb L h' (LwL L R kR PA kPA S kS c kc rvs pvs [.str s0 t0, .str s1 t1] cvs oN oB oS tl) → wpAny (model PySem.Challenge.rw_sl0003_01.row.prog w) (AA dp un fr gd) (execs rest (lwEnv L f cd)) Q (fun _ _ => False) { s with heap := h', toks := tk }) :
    wpAny (model PySem.Challenge.rw_sl0003_01.row.prog w) (AA dp un fr gd) (execs (lwS8 :: rest) (lwEnv L f cd)) Q (fun _ _ => False) s := by
  refine wpAny_execs_cons (for_rng (hb := hb) (L := L) rfl ?_)
  have X0 := X
  revert X; k_fill; intro X
  unfold mW at F
  have hll : rvs.toArray.size = xs.length := by simpa using sv.length
  show wpAny _ _ (eval lwOutIter (lwEnv L f cd)) _ _ s
  k_steps
  rename IsRange _ _ _ _ _ _ _ _ => hr
  rename Fr _ _ _ _ => F9
  rename News _ _ _ _ => N9
  refine ⟨_, xs.length, _, _, _, fun j m news => ∃ iv nm jv td, m = mF P c a R PA gp bt iv nm jv td ∧ news = LwL L R kR PA kPA S kS c kc rvs pvs [.str s0 t0, .str s1 t1] cvs oN oB oS tl, _, _, _, _, rfl, rfl, F9, N9, hr, by omega, ⟨none, none, none, none, mF_none, rfl⟩, ?_, ?_⟩
  · rintro i I2 h tk m news t hi ⟨iv, nm, jv, td, rfl, rfl⟩ F N hne
    refine out_turn (s := { s with heap := h, toks := tk }) X0 T hroom hun F N sv hi hz hxl (hown i) (hcol i) fun h' tk' iv' nm' jv' td' F' N' => ?_
    exact ⟨h', tk', _, _, rfl, F', N', hne, iv', nm', jv', td', rfl, rfl⟩
  · rintro h tk m news ⟨iv, nm, jv, td, rfl, rfl⟩ F N
    exact cont h tk _ F N
theorem four_signs {o0 o1 : Option Str} (h : Four o0 o1) : ∃ a b, Signs (signOf o0) (signOf o1) a b ∧ a ∈ [67, 98, 34, 92, 9, 32, 35] ∧ b ∈ [67, 98, 34, 92, 9, 32, 35] ∧ a < 1000 ∧ b < 1000 ∧ (signOf o0).length ≤ 10 ∧ (signOf o1).length ≤ 10 := by
  rcases h with ⟨rfl, rfl⟩ | ⟨rfl, rfl⟩ | ⟨rfl, rfl⟩ | ⟨rfl, rfl⟩
  · exact ⟨67, 98, ⟨by decide +kernel, by decide +kernel, by decide, by decide, by decide, by decide, by decide⟩, by decide, by decide, by decide, by decide, by decide +kernel, by decide +kernel⟩
  · exact ⟨34, 92, ⟨by decide +kernel, by decide +kernel, by decide, by decide, by decide, by decide, by decide⟩, by decide, by decide, by decide, by decide, by decide +kernel, by decide +kernel⟩
  · exact ⟨9, 32, ⟨by decide +kernel, by decide +kernel, by decide, by decide, by decide, by decide, by decide⟩, by decide, by decide, by decide, by decide, by decide +kernel, by decide +kernel⟩
  · exact ⟨35, 67, ⟨by decide +kernel, by decide +kernel, by decide, by decide, by decide, by decide, by decide⟩, by decide, by decide, by decide, by decide, by decide +kernel, by decide +kernel⟩
theorem due_get {s0 s1 : Str} {ps : List (Nat × Nat)} {i : Nat} {x : Str} (h : (dueWs s0 s1 ps)[i]? = some x) : i < ps.length ∧ x = dueW s0 s1 ps i := by
  unfold dueWs at h
  obtain ⟨hi, e⟩ := List.getElem?_eq_some_iff.mp h
  have hi' : i < ps.length := by simpa using hi
  refine ⟨hi', ?_⟩
  rw [← e]; simp
set_option maxHeartbeats 4000000 in
theorem law_walk {Q : Flow → Shared → Prop} {vs : List Value} {ns : List Int} {c1 c2 c3 : Obj} (X : (hd.heap_39 w.params).In hb) (T : Top p loose mean mg mb hb) (C : CodeHd hb 117 113) (hroom : dp < 690) (hun : un < 3000) (hfr : fr = some [lwEnv L f cd])
    (F : Fr hb L s.heap (fun y => if y = Str.ofString "script" then some (.ref a) else none)) (N : News hb L s.heap [(L + 1 + 1 + 1, c3), (L + 1 + 1, c2), (L + 1, c1), (113, tab0)]) (l0 : @LT.lt Nat _ 113 L)
    (d1 : c1.data = .cell none) (d2 : c2.data = .cell none) (d3 : c3.data = .cell none) (hl : hb.IsList a vs.toArray) (hi : IntsAre vs ns) (hn : ns.length ≤ 63)
    (ret : ∀ h' tk ps, (∀ b o, hb.get? b = some o → h'.get? b = some o) → h'.get? 113 = some (tabObj ps) → Q (.ret (.bool true)) { s with heap := h', toks := tk }) :
    wpAny (model PySem.Challenge.rw_sl0003_01.row.prog w) (AA dp un fr gd) (execs [lwS0, lwS1, lwS2, lwS3, lwS4, lwS5, lwS6, lwS7, lwS8, lwS9] (lwEnv L f cd)) Q (fun _ _ => False) s := by
  refine law_head (rest := [lwS2, lwS3, lwS4, lwS5, lwS6, lwS7, lwS8, lwS9]) X T (by omega) hun F N l0 d1 d2 d3 hl hi hn fun h1 tk1 c P cvs cns kc v0 v1 o0 o1 F1 N1 hv0 hv1 hF q1 q2 i1 l1 b1 => ?_
  obtain ⟨sa, sb, SS, ma, mb', ha, hb', z0, z1⟩ := four_signs hF
  refine law_mid (rest := [lwS5, lwS6, lwS7, lwS8, lwS9]) X T hroom hun F1 N1 l0 q1 q2 d1 d2 d3 hv0 hv1 z0 z1 SS fun h2 tk2 S kS svs oS m2 news2 F2 N2 J2 sv2 dS => ?_
  obtain ⟨t0, t1, rfl⟩ : ∃ t0 t1, svs = [.str (signOf o0) t0, .str (signOf o1) t1] := by
    cases sv2 with | cons h => cases h with | cons h => cases h; exact ⟨_, _, rfl⟩
  refine law_loop (rest := [lwS6, lwS7, lwS8, lwS9]) X T C hroom hun SS z0 z1 i1 l1 b1 dS J2 F2 N2 fun h3 tk3 m3 news3 F3 N3 J3 => ?_
  obtain ⟨R, kR, rvs, PA, kPA, pvs, ps, tab, tl, oN, oB, gp, bt, vN, vB, rfl, rfl, dN, dB, tS, htl, sv, pr, hp⟩ := J3
  have so := state_ok (show 5 < 6 by omega) hp
  have h7 := law_seven hp
  have hxl : ∀ x ∈ dueWs (signOf o0) (signOf o1) ps, x.length ≤ 1000 := fun x hx => (due_ok SS so hx).2
  refine law_ifs (rest := [lwS8, lwS9]) X T hroom hun hfr F3 N3 dS sv (due_small SS ha hb' so) pr so z0 z1 h7 fun h4 tk4 F4 N4 => ?_
  refine out_loop (rest := [lwS9]) X T hroom hun F4 N4 sv (by simp [dueWs]; omega) hxl (fun i x hx => ?_) (fun i j x y hx hy => ?_) fun h5 tk5 m5 F5 N5 => ?_
  · obtain ⟨hi', rfl⟩ := due_get hx
    obtain ⟨c, r, e, hc, hs⟩ := law_own SS (show 5 < 6 by omega) hp hi' (due_strip SS (so.at hi').2.2)
    exact ⟨c, r, e, by rcases hc with rfl | rfl <;> assumption, hs⟩
  · obtain ⟨hi', rfl⟩ := due_get hx
    obtain ⟨hj', rfl⟩ := due_get hy
    exact law_order SS hp hi' hj' (due_strip SS (so.at hi').2.2) (due_strip SS (so.at hj').2.2)
  · have h113 : ∃ ps, h5.get? 113 = some (tabObj ps) := by
      cases tS with
      | fresh => exact ⟨_, (N5 (113, tab0) (by k_mem)).1⟩
      | made d e hne => exact ⟨_, (N5 (113, tabO _) (by k_mem)).1⟩
    obtain ⟨tps, ht⟩ := h113
    have K5 := F5.keep
    revert X; k_fill; intro X
    k_steps
    exact ret _ _ tps K5 ht
end
end Mine
end
section
open PySem PySem.W PyProof.Rows PySem.Calls PySem.Spec
namespace Mine
theorem start_La14 : True := by
  w_top off
  k_with_none
  trivial
theorem bind_law {L f a : Nat} {cd : Value} : bindL (lwEnv L f cd).kindOf [(Str.ofString "script", Value.ref a)] (fun _ => none) = fun y => if y = Str.ofString "script" then some (Value.ref a) else none := by
  have e1 : (lwEnv L f cd).kindOf (Str.ofString "script") = some .local := rfl
  rw [bindL, bindL, e1, if_pos rfl]
theorem law_fr {hb h : Heap} {L f a : Nat} {cd : Value} (F : Fr hb L h (bindL (lwEnv L f cd).kindOf [(Str.ofString "script", Value.ref a)] (fun _ => none))) : Fr hb L h (fun y => if y = Str.ofString "script" then some (Value.ref a) else none) := by
  rw [bind_law] at F; exact F
set_option maxHeartbeats 8000000 in
theorem law0 : PySem.Challenge.rw_sl0003_01.Holds := hd (by
  k_go0
  (all_goals try k_fold)
  rename Fr _ _ _ _ => F9
  rename News _ _ _ _ => N9
  rename Top _ _ _ _ _ _ => T9
  rename Frag.In _ _ => X9
  rename CodeHd _ _ _ => C9
  rename IntsAre _ _ => I9
  rename Heap.IsList _ _ _ => L9
  rename (¬ (_ < _)) => n9
  refine wpAny_mono (law_walk X9 T9 C9 ?_ ?_ ?_ (law_fr F9) N9 ?_ ?_ ?_ ?_ L9 I9 ?_ ?_) (fun _ _ q => q) fun _ _ e => e.elim
  · simp only [depth_caller]; omega
  · simp only [units_caller]; omega
  · rfl
  · assumption
  · exact Eq.trans (by assumption) rfl
  · exact Eq.trans (by assumption) rfl
  · exact Eq.trans (by assumption) rfl
  · omega
  · intro h' tk ps k e
    refine ⟨⟨.inl ⟨.bool true, .bool true, [], rfl, ?_, ?_, ?_, ?_⟩, k, rfl, ?_⟩, ⟨?_, True.intro⟩⟩
    · intro _; rfl
    · first | exact .bool _ | constructor
    · first | rfl | with_unfolding_all rfl
    · intro _; exact ⟨List.nodup_nil, fun _ h => nomatch h⟩
    · show Shared.gens _ = #[]
      assumption
    · exact ⟨ps, e⟩)
end Mine
end
theorem PySem.Challenge.cw_sl0003_01_holds : PySem.Challenge.rw_sl0003_01.Holds :=
  Mine.law0
