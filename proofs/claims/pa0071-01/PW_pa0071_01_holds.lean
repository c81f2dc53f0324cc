import PyProof.Rows.All
import Wide.All
import OpenK.AllK
import Wide.FinOn
import PySem.Challenge.RW_pa0071_01
set_option Elab.async false
set_option linter.unusedVariables false
set_option linter.unusedSimpArgs false
set_option rowWalk.seconds 0
section
open PySem PySem.W PyProof.Rows
set_option Elab.async false
namespace Mine
/-- the top's run over a tree of objects, by the library's quick twins -/
noncomputable def runT (p : Program) (w : World) (n₀ : Nat) (ann : Option Value) : Nat → SharedT → Thread → Option SharedT
  | 0, _, _ => none
  | n + 1, s, t => match through t with
    | true => some s
    | false => match PySem.W.Fast.tw6613529449190102663 n₀ ann t with
      | false => none
      | true => match PySem.W.Fast.tw10156331382660048174 (PySem.W.Fast.tw11892475500146522536 PySem.W.Fast.tw14364793385576792824) p w s t with
        | some (s', t') => runT p w n₀ ann n s' t'
        | none => none
theorem runT_spec {p : Program} {w : World} {n₀ : Nat} {ann : Option Value} : ∀ {n : Nat} {s s' : SharedT} {t : Thread}, runT p w n₀ ann n s t = some s' → topRun treeTable p w n₀ ann n s.abs t = some s'.abs
  | 0, s, s', t, h => by cases h
  | n + 1, s, s', t, h => by
    rw [runT, ← PySem.W.Fast.te6613529449190102663, ← PySem.W.Fast.te10156331382660048174, ← PySem.W.Fast.te11892475500146522536, ← PySem.W.Fast.te14364793385576792824] at h
    rw [topRun]
    cases e : through t with
    | true => rw [e] at h; cases h; rfl
    | false =>
      rw [e] at h
      cases k : stepOk n₀ ann t with
      | false => rw [k] at h; cases h
      | true =>
        rw [k] at h
        cases g : stepT (denote treeTable) p w s t with
        | none => rw [g] at h; cases h
        | some x =>
          obtain ⟨s1, t1⟩ := x
          rw [g] at h
          dsimp only
          rw [stepT_spec g]
          exact runT_spec h
noncomputable def toT : List Obj → BT → Nat → Option (BT × Nat)
  | [], t, n => some (t, n)
  | o :: l, t, n => match ((t.ins n o).get n).isSome with
    | true => toT l (t.ins n o) (n + 1)
    | false => none
theorem toT_spec {life : Life} : ∀ {l : List Obj} {t t' : BT} {n n' : Nat}, toT l t n = some (t', n') → absHeap t' n' life = ⟨(absHeap t n life).objs ++ l.toArray, life⟩
  | [], t, t', n, n', h => by
    cases h
    rw [Array.append_empty]; rfl
  | o :: l, t, t', n, n', h => by
    rw [toT] at h
    cases e : ((t.ins n o).get n).isSome with
    | false => rw [e] at h; cases h
    | true =>
      rw [e] at h
      rw [toT_spec h, absHeap_ins e]
      show Heap.mk ((absHeap t n life).objs.push o ++ l.toArray) life = _
      congr 1
      simp
noncomputable def ends (p : Program) (w : World) (N : Nat) : Option Shared :=
  (fencedOpening treeTable p w N).bind fun s₀ =>
    match s₀.heap.isNs mainGlobals && s₀.gens.size == 0 with
    | true => match toT s₀.heap.objs.toList .nil 0 with
      | some (t, n) => (runT p w n (PySem.W.Fast.tw8920871248978507458 s₀.heap mainGlobals "__annotations__") N ⟨t, n, s₀.heap.life, s₀.gens, s₀.drawn, s₀.toks, s₀.os⟩ (topStub p)).bind fun s₁ =>
        match staticsOk (PySem.W.Fast.tw5923862056798008813 p.main.body) s₀.heap s₁.abs.heap && namesBound p s₁.abs.heap && gensDone s₁.abs && laidKept s₀.heap s₁.abs.heap with
        | true => some s₁.abs
        | false => none
      | none => none
    | false => none
theorem ends_spec {p : Program} {w : World} {N : Nat} {s : Shared} (h : ends p w N = some s) : openEnds treeTable p w N = some s := by
  unfold ends at h
  rw [← PySem.W.Fast.te8920871248978507458, ← PySem.W.Fast.te5923862056798008813] at h
  obtain ⟨s₀, e0, h⟩ := Option.bind_eq_some_iff.mp h
  unfold openEnds
  rw [e0]
  show topFrom treeTable p w N s₀ = some s
  unfold topFrom
  cases e1 : (s₀.heap.isNs mainGlobals && s₀.gens.size == 0) with
  | false => rw [e1] at h; cases h
  | true =>
    rw [e1] at h
    cases e2 : toT s₀.heap.objs.toList .nil 0 with
    | none => rw [e2] at h; cases h
    | some x =>
      obtain ⟨t, n⟩ := x
      rw [e2] at h
      have e3 := toT_spec (life := s₀.heap.life) e2
      have e4 : (⟨t, n, s₀.heap.life, s₀.gens, s₀.drawn, s₀.toks, s₀.os⟩ : SharedT).abs = s₀ := by
        show Shared.mk (absHeap t n s₀.heap.life) s₀.gens s₀.drawn s₀.toks s₀.os = s₀
        rw [e3]
        show Shared.mk ⟨#[] ++ s₀.heap.objs.toList.toArray, s₀.heap.life⟩ s₀.gens s₀.drawn s₀.toks s₀.os = s₀
        rw [Array.empty_append]
      have e5 : n = s₀.heap.objs.size := by
        have := absHeap_size t n s₀.heap.life
        rw [← this]
        exact congrArg (fun x => x.heap.objs.size) e4
      obtain ⟨s₁, h1, h⟩ := Option.bind_eq_some_iff.mp h
      have e6 := runT_spec h1
      rw [e4, e5] at e6
      dsimp only
      rw [e6]
      exact h
theorem ends_map {p : Program} {w : World} {N : Nat} {α : Type} {f : Shared → α} {a : α} (h : (ends p w N).map f = some a) : (openEnds treeTable p w N).map f = some a := by
  obtain ⟨s, hs, e⟩ := Option.map_eq_some_iff.mp h
  rw [ends_spec hs, ← e]; rfl
/-- the library's `holds_open` at this row, its first premise over a tree and the quick twins: so the head is checked in one piece -/
theorem PySem.W.holds_open {q : Program} {loose : List Str} {Xt : Shared → Bool} {XP : (Str → Option Value) → Heap → Prop} {α : Type} {Yf : Shared → α} {Ya : World → α} {YP : World → Heap → Prop} {d : DefRec} {kwd : List (Str × Expr)} {N : Nat}
    (left : ∀ w, (ends PySem.Challenge.rw_pa0071_01.row.prog w N).map (fun s => (PySem.W.Fast.tw4187177175401517315 q loose (PySem.W.Fast.tw5923862056798008813 PySem.Challenge.rw_pa0071_01.row.prog.main.body) Xt true s, Yf s)) = some (openGood q loose, Ya w))
    (hY : ∀ w s, Yf s = Ya w → YP w s.heap) (hYk : ∀ w h h', YP w h → (∀ b o, h.get? b = some o → h'.get? b = some o) → YP w h')
    (hX : ∀ s, Xt s = true → XP (s.heap.nsMap mainGlobals) s.heap) (hXk : ∀ mg h h', XP mg h → (∀ b o, h.get? b = some o → h'.get? b = some o) → XP mg h')
    (hdef : defOf q PySem.Challenge.rw_pa0071_01.row.name = some (d, kwd)) (hp : PySem.Challenge.rw_pa0071_01.row.prog.theDef PySem.Challenge.rw_pa0071_01.row.name = some (d.params, d.body, d.scope)) (hk : kwWritten? d.params.kwonlyargs d.params.kw_defaults = some kwd) (hRf : ∀ s, Xt s = true → RecFacts PySem.Challenge.rw_pa0071_01.row.records s.heap) (hwr : (!PySem.Challenge.rw_pa0071_01.row.writes || PySem.Challenge.rw_pa0071_01.row.records.isEmpty) = true)
    (k1 : PySem.Challenge.rw_pa0071_01.row.wellSaid = true) (ok : (chainsOk q && opensWell PySem.Challenge.rw_pa0071_01.row.prog && (frees PySem.Challenge.rw_pa0071_01.row.toRowW && PySem.Challenge.rw_pa0071_01.row.within.isEmpty)) = true) (hb : PySem.Challenge.rw_pa0071_01.row.prog.bare) (hw : PySem.Challenge.rw_pa0071_01.row.toRowW.promised)
    (call : WalkO q loose XP YP PySem.Challenge.rw_pa0071_01.row.toRowW d kwd fun f vs => PySem.call f vs) :
    PySem.Challenge.rw_pa0071_01.row.Holds := by
  refine _root_.PySem.W.holds_open (N := N) (fun w => ?_) hY hYk hX hXk hdef hp hk hRf hwr k1 ok hb hw call
  have l0 := left w
  rw [← PySem.W.Fast.te4187177175401517315, ← PySem.W.Fast.te5923862056798008813] at l0
  exact ends_map l0
set_option maxRecDepth 100000
set_option maxHeartbeats 8000000
open_top hd for PySem.Challenge.rw_pa0071_01
end Mine
end
section
theorem Mine.rstBase {M : PySem.Model} {A : PySem.Around} {pos : PySem.Pos} {env : PySem.Env} {Q : PySem.Flow → PySem.Shared → Prop} {E : PySem.Value → PySem.Shared → Prop} {s : PySem.Shared} (h : PySem.wpAny M A (PySem.exec (.Pass pos) env) Q E s) : PySem.wpAny M A (PySem.exec (.Pass pos) env) Q E s := by
  w_top off
  k_with_none
  first | (walk1; fail) | exact h
open PySem PySem.W PyProof.Rows PySem.Calls
set_option Elab.async false
namespace Mine
def pinL : List (Str × Value) → (Str → Option Value) → Str → Option Value
  | [], m => m
  | (x, v) :: r, m => fun y => if y = x then some v else pinL r m y
theorem pinL_eq {m : Str → Option Value} : ∀ {ps : List (Str × Value)}, (∀ p ∈ ps, m p.1 = some p.2) → pinL ps m = m
  | [], _ => rfl
  | (x, v) :: r, h => by
    have ih := pinL_eq (ps := r) fun p hp => h p (.tail _ hp)
    funext y
    show (if y = x then some v else pinL r m y) = m y
    rw [ih]
    by_cases q : y = x
    · rw [if_pos q, q]; exact (h (x, v) (.head _)).symm
    · rw [if_neg q]
theorem pinAll {h₀ h : Heap} {L : Addr} {m : Str → Option Value} (ps : List (Str × Value)) (F : Fr h₀ L h m) (e : ∀ p ∈ ps, m p.1 = some p.2) : Fr h₀ L h (pinL ps m) := by
  rw [pinL_eq e]; exact F
theorem unpin {m : Str → Option Value} {ps : List (Str × Value)} (e : ∀ p ∈ ps, m p.1 = some p.2) (y : Str) : pinL ps m y = m y := congrFun (pinL_eq e) y
theorem all1 {P : Str × Value → Prop} {a : Str × Value} (h1 : P a) : ∀ p ∈ [a], P p := by intro p hp; simp at hp; subst hp; exact h1
theorem allC {P : Str × Value → Prop} {a : Str × Value} {l : List (Str × Value)} (h1 : P a) (h2 : ∀ p ∈ l, P p) : ∀ p ∈ a :: l, P p := by
  intro p hp
  rcases List.mem_cons.mp hp with q | q
  · subst q; exact h1
  · exact h2 p q
theorem lookEq {α : Type} {x : Option α} {o₁ o₂ : α} (h1 : x = some o₁) (h2 : x = some o₂) : o₁ = o₂ := Option.some.inj (h1.symm.trans h2)
/-- all that stands in h stands in h' -/
def Kept (h h' : Heap) : Prop := ∀ b o, h.get? b = some o → h'.get? b = some o
theorem Kept.refl (h : Heap) : Kept h h := fun _ _ e => e
theorem Kept.trans {a b c : Heap} (x : Kept a b) (y : Kept b c) : Kept a c := fun _ _ e => y _ _ (x _ _ e)
theorem Kept.fr {h₀ h h' : Heap} {L : Addr} {m : Str → Option Value} (k : Kept h h') (F : Fr h₀ L h m) : Fr h₀ L h' m := ⟨F.ns.keeps k, fun b o e => k _ _ (F.keep b o e), F.above⟩
theorem Kept.news {h₀ h h' : Heap} {L : Addr} {news : List (Addr × Obj)} (k : Kept h h') (N : News h₀ L h news) : News h₀ L h' news := fun p hp => ⟨k _ _ (N p hp).1, (N p hp).2⟩
theorem ret_int {Q : Value → Shared → Prop} {s : Shared} {x y : Int} {t : Tok} {h' : Heap} {tk' : Nat} (hret : ∀ t h' tk', Kept s.heap h' → Q (.int x t) { s with heap := h', toks := tk' }) (e : y = x) (k : Kept s.heap h') : Q (.int y t) { s with heap := h', toks := tk' } := by
  subst e; exact hret _ _ _ k
/-- a def of the text is entered: the whole heap ahead of the call is the base -/
theorem enter {prog : Program} {w : World} {A : Around} {s : Shared} {K : Frag} {p : Program} {loose : List Str} {mean : ExcName → Option Value} {mg mb : Str → Option Value} {Q E : Value → Shared → Prop}
    {name qual : Str} {params : Arguments} {body : List Stmt} {scope : Scope} {dV kV doc pm cdv ct oc : Value} {an od : Option Addr} {osl : Array (Option Value)} {f : Addr} {vals : List Value} {kw : List (Str × Value)} {binds : List (Str × Value)}
    (X : K.In s.heap) (T : Top p loose mean mg mb s.heap) (ho : K.lookup f = some ⟨oc, od, .func (fnOf name qual params body scope dV kV doc pm an cdv ct), osl⟩) (hcd : codeIn K cdv qual = true) (hroom : A.depth < recursionLimit)
    (hbind : BindsTo s (fnOf name qual params body scope dV kV doc pm an cdv ct) ⟨vals, kw⟩ binds) (hloc : ∀ y ∈ binds, scope.names.lookup y.1 = some .local)
    (h : ∀ L' h₁, Fr s.heap L' h₁ (fun y => binds.reverse.lookup y) → News s.heap L' h₁ [] →
      wpAny (model prog w) (A.deeper (envOf qual scope L' f cdv)) (execs body (envOf qual scope L' f cdv)) (fun fl s' => Q (match fl with | .ret v => v | _ => .none) s') (fun _ _ => False) { s with heap := h₁, toks := s.toks + binds.length })
    (hco : scope.isCoroutine = false) (hgen : scope.isGenerator = false) (hk : scope.kind = .function) (hcell : ∀ x ∈ scope.names, x.2 ≠ .cell) : wpAny (model prog w) A (call (.ref f) vals kw) Q E s := by
  refine wpAny_call ?_
  refine codeAny_call_def (fd := fnOf name qual params body scope dV kV doc pm an cdv ct) (body := body) (binds := binds) hroom (X _ _ ho) rfl T.nolimit (codeRec_of X hcd) rfl hbind hcell hloc (fun h₁ hns hk₁ => ?_) hco hgen hk
  exact wpAny_mono (h s.heap.objs.size h₁ ⟨hns, hk₁, Nat.le_refl _⟩ News.nil) (fun fl s' hl => hl) fun _ _ y => y.elim
/-! the parts of a def, read off its object -/
def bodyP (o : Obj) : List Stmt := match o.data with | .func fd => (match fd.body with | .stmts b => b | _ => []) | _ => []
def scopeP (o : Obj) : Scope := match o.data with | .func fd => fd.scope | _ => default
def qualP (o : Obj) : Str := match o.data with | .func fd => fd.qualname | _ => default
def codeP (o : Obj) : Value := match o.data with | .func fd => fd.code | _ => .none
theorem useK {o : Obj} {oc : Value} {od : Option Addr} {osl : Array (Option Value)} {name qual : Str} {params : Arguments} {body : List Stmt} {scope : Scope} {dV kV doc pm cdv ct : Value} {an : Option Addr}
    (e : o = ⟨oc, od, .func (fnOf name qual params body scope dV kV doc pm an cdv ct), osl⟩) : body = bodyP o ∧ scope = scopeP o ∧ qual = qualP o ∧ cdv = codeP o := by subst e; exact ⟨rfl, rfl, rfl, rfl⟩
/-- the body of a loop that stands at a place -/
def loopAt (b : List Stmt) (i : Nat) : List Stmt := match b[i]? with | some (.For _ _ c _ _) => c | _ => []
theorem someEq {α : Type} {a b : α} {P : α → Prop} (e : some a = some b) (h : P a) : P b := by cases e; exact h
/-! lists of what is held, one within another -/
theorem sub_nil {α : Type} {C : List α} : ∀ p ∈ ([] : List α), p ∈ C := fun _ h => absurd h List.not_mem_nil
theorem sub_cons {α : Type} {x : α} {A C : List α} (h : x ∈ C) (t : ∀ p ∈ A, p ∈ C) : ∀ p ∈ x :: A, p ∈ C := by
  intro p hp
  rcases List.mem_cons.mp hp with rfl | hp
  · exact h
  · exact t p hp
theorem sub_app {α : Type} {A B C : List α} (h : ∀ p ∈ A, p ∈ C) (t : ∀ p ∈ B, p ∈ C) : ∀ p ∈ A ++ B, p ∈ C := fun p hp => (List.mem_append.mp hp).elim (h p) (t p)
theorem memOf {α : Type} {A B : List α} {q : α} (h : ∀ p ∈ A, p ∈ B) (hq : q ∈ A) : q ∈ B := h q hq
end Mine
end
section
theorem Mine.rstEnc {M : PySem.Model} {A : PySem.Around} {pos : PySem.Pos} {env : PySem.Env} {Q : PySem.Flow → PySem.Shared → Prop} {E : PySem.Value → PySem.Shared → Prop} {s : PySem.Shared} (h : PySem.wpAny M A (PySem.exec (.Pass pos) env) Q E s) : PySem.wpAny M A (PySem.exec (.Pass pos) env) Q E s := by
  w_top off
  k_with_none
  first | (walk1; fail) | exact h
open PySem PySem.W PyProof.Rows PySem.Calls PyProof.V PySem.Spec PySem.Builtin
set_option Elab.async false
set_option linter.unusedVariables false
set_option maxRecDepth 100000
set_option maxHeartbeats 8000000
namespace Mine
theorem enc_tree1 (t u : Tok) : «str.encode» ⟨[.str (Str.ofString "gaQH") t, .str (Str.ofString "ascii") u], []⟩ = (mkBytes #[103, 97, 81, 72] >>= ret) := by kernel_rfl
theorem enc_tree2 (t u : Tok) : «str.encode» ⟨[.str (Str.ofString "Qe1N") t, .str (Str.ofString "ascii") u], []⟩ = (mkBytes #[81, 101, 49, 78] >>= ret) := by kernel_rfl
theorem enc_tree3 (t u : Tok) : «str.encode» ⟨[.str (Str.ofString "qf+T") t, .str (Str.ofString "ascii") u], []⟩ = (mkBytes #[113, 102, 43, 84] >>= ret) := by kernel_rfl
theorem enc_tree4 (t u : Tok) : «str.encode» ⟨[.str (Str.ofString "E4DZ") t, .str (Str.ofString "ascii") u], []⟩ = (mkBytes #[69, 52, 68, 90] >>= ret) := by kernel_rfl
section
variable {prog : Program} {w : World} {A : Around} {E : Value → Shared → Prop} {s : Shared} {x : Str} {bs : Array UInt8} {t u : Tok}
theorem my_encode_method {M : Model} {pl : Sem Bool} {Q : Value × List Value → Shared → Prop} (h : Q (.builtin "str.encode", [.str x t]) s) : wpAny M A (getMethod (.str x t) "encode" pl) Q E s := by
  with_reducible exact GM.of (.str x t) (typeIs_str _ _ _) F.slot_str_encode F.type_str_encode GM.noRef h
theorem my_encode {Q : Value → Shared → Prop} (e : ∀ t u, «str.encode» ⟨[.str x t, .str (Str.ofString "ascii") u], []⟩ = (mkBytes bs >>= ret)) (hz : bs.size ≤ 1000) (h : ∀ t' k, Q (.bytes bs t') { s with toks := k }) :
    wpAny (model prog w) A (call (.builtin "str.encode") [.str x t, .str (Str.ofString "ascii") u]) Q E s := by
  refine call_meets F.slot_str_encode (typeIs_str _ _ _) F.entry_str_encode (F.args_str_encode_2 _ _) (S := fun _ R s => ∀ t' k, R (.ok (.ret (.bytes bs t'))) { s with toks := k }) (.of_wp fun prog w A R s hS => ?_) h
  rw [e]
  exact wpAny_bind (wpAny_mkBytes (wpAny_pure ⟨_, rfl, hS _ _⟩) (Nat.le_trans hz (by decide)))
end
end Mine
end
section
theorem Mine.rstB2 {M : PySem.Model} {A : PySem.Around} {pos : PySem.Pos} {env : PySem.Env} {Q : PySem.Flow → PySem.Shared → Prop} {E : PySem.Value → PySem.Shared → Prop} {s : PySem.Shared} (h : PySem.wpAny M A (PySem.exec (.Pass pos) env) Q E s) : PySem.wpAny M A (PySem.exec (.Pass pos) env) Q E s := by
  w_top off
  k_with_none
  first | (walk1; fail) | exact h
open PySem PySem.W PyProof.Rows PySem.Calls PyProof.V PySem.Spec
set_option Elab.async false
set_option linter.unusedVariables false
set_option maxRecDepth 100000
set_option maxHeartbeats 8000000
namespace Mine
section
theorem abuf_call {w : World} {loose : List Str} {mean : ExcName → Option Value} {mg mb : Str → Option Value} {dp un : Nat} {gd : Option (List Code)} {cn : Str} {cs : Scope} {Lc ac : Addr} {ccd : Value} {cl : List (Str × Addr)} {outer : List Env}
    {s : Shared} {Q E : Value → Shared → Prop} {b : Array UInt8} {tb : Tok} (X : (Mine.hd.heap_39 w.params).In s.heap) (T : Top Mine.hd.view_39 loose mean mg mb s.heap)
    (hd : dp + 4 < recursionLimit) (hu : un + 40 < cLine)
    (hret : ∀ (t : Tok) h' tk', Kept s.heap h' → Q (.bytes b tb) { s with heap := h', toks := tk' }) :
    wpAny (model PySem.Challenge.rw_pa0071_01.row.prog w) (ktrTop dp un gd cn cs Lc ac ccd cl outer) (call (.ref 49) [.bytes b tb]) Q E s := by
  k_with_none
  k_with "own" => (k_here; (with_reducible show wpAny _ _ (getMethod _ _ _) _ _ _); with_reducible refine my_encode_method ?_)
  k_with "own" => (k_here; (with_reducible show wpAny _ _ (call (Value.builtin "str.encode") _ _) _ _ _); (first | refine my_encode enc_tree1 (by decide) ?_ | refine my_encode enc_tree2 (by decide) ?_ | refine my_encode enc_tree3 (by decide) ?_ | refine my_encode enc_tree4 (by decide) ?_); intro _ _)
  k_with "own" => (k_here; (with_reducible show wpAny _ _ (call (Value.type "type") _ _) _ _ _); first | refine call_type_of (PySem.W.typeIs_bytes _ _ _) (by decide +kernel) ?_ | refine call_type_of (Tx := "bool") (typeIs_bool _ _) (by decide +kernel) ?_ | refine call_type_of (Tx := "str") (typeIs_str _ _ _) (by decide +kernel) ?_)
  k_with "own" => (k_here; (with_reducible show wpAny _ _ (compareOp CmpOp.Is (Value.type _) (Value.type _)) _ _ _); first | refine wpAny_is_self (by rfl) ?_ | refine wpAny_is_other (by rfl) (by decide) ?_)
  revert X; k_fill; intro X
  k_dflt (refine' enter X T ?k6 ?k7 ?k8 ?k9 ?kB ?_ ?c2 ?c3 ?c4 ?c5; (case k6 => k_is); (case k7 => k_is); (case k8 => ktr_room); (case k9 => first | exact BindsTo.of_eq rfl | exact binds_K (by k_in) rfl (by k_is) rfl rfl rfl); (case c5 => decide); (case kB => exact locs rfl); (case c2 => exact rfl); (case c3 => exact rfl); (case c4 => exact rfl))
  intro L' h₁ F N
  (try dsimp only); (try k_fold)
  repeat' (first | (k_unfold; (try dsimp only)) | (k_end; wrow_close) | k_extra "own" | walk1 | (dsimp only; k_extra "own") | (dsimp only; walk1) | (leave1; walk_say "STEP leave1"; try dsimp only) | fail "no step")
  all_goals exact hret 0 _ _ (Fr.keep (by assumption))

theorem buf_call {w : World} {loose : List Str} {mean : ExcName → Option Value} {mg mb : Str → Option Value} {dp un : Nat} {gd : Option (List Code)} {cn : Str} {cs : Scope} {Lc ac : Addr} {ccd : Value} {cl : List (Str × Addr)} {outer : List Env}
    {s : Shared} {Q E : Value → Shared → Prop} {b : Array UInt8} {tb : Tok} (X : (Mine.hd.heap_39 w.params).In s.heap) (T : Top Mine.hd.view_39 loose mean mg mb s.heap)
    (hd : dp + 4 < recursionLimit) (hu : un + 40 < cLine)
    (hret : ∀ (t : Tok) h' tk', Kept s.heap h' → Q (.bytes b tb) { s with heap := h', toks := tk' }) :
    wpAny (model PySem.Challenge.rw_pa0071_01.row.prog w) (ktrTop dp un gd cn cs Lc ac ccd cl outer) (call (.ref 56) [.bytes b tb]) Q E s := by
  k_with_none
  k_with "own" => (k_here; (with_reducible show wpAny _ _ (getMethod _ _ _) _ _ _); with_reducible refine my_encode_method ?_)
  k_with "own" => (k_here; (with_reducible show wpAny _ _ (call (Value.builtin "str.encode") _ _) _ _ _); (first | refine my_encode enc_tree1 (by decide) ?_ | refine my_encode enc_tree2 (by decide) ?_ | refine my_encode enc_tree3 (by decide) ?_ | refine my_encode enc_tree4 (by decide) ?_); intro _ _)
  k_with "own" => (k_here; (with_reducible show wpAny _ _ (call (Value.type "type") _ _) _ _ _); first | refine call_type_of (PySem.W.typeIs_bytes _ _ _) (by decide +kernel) ?_ | refine call_type_of (Tx := "bool") (typeIs_bool _ _) (by decide +kernel) ?_ | refine call_type_of (Tx := "str") (typeIs_str _ _ _) (by decide +kernel) ?_)
  k_with "own" => (k_here; (with_reducible show wpAny _ _ (compareOp CmpOp.Is (Value.type _) (Value.type _)) _ _ _); first | refine wpAny_is_self (by rfl) ?_ | refine wpAny_is_other (by rfl) (by decide) ?_)
  revert X; k_fill; intro X
  k_dflt (refine' enter X T ?k6 ?k7 ?k8 ?k9 ?kB ?_ ?c2 ?c3 ?c4 ?c5; (case k6 => k_is); (case k7 => k_is); (case k8 => ktr_room); (case k9 => first | exact BindsTo.of_eq rfl | exact binds_K (by k_in) rfl (by k_is) rfl rfl rfl); (case c5 => decide); (case kB => exact locs rfl); (case c2 => exact rfl); (case c3 => exact rfl); (case c4 => exact rfl))
  intro L' h₁ F N
  (try dsimp only); (try k_fold)
  repeat' (first | (k_unfold; (try dsimp only)) | (k_end; wrow_close) | k_extra "own" | walk1 | (dsimp only; k_extra "own") | (dsimp only; walk1) | (leave1; walk_say "STEP leave1"; try dsimp only) | fail "no step")
  all_goals exact hret 0 _ _ (Fr.keep (by assumption))

theorem truth_call {w : World} {loose : List Str} {mean : ExcName → Option Value} {mg mb : Str → Option Value} {dp un : Nat} {gd : Option (List Code)} {cn : Str} {cs : Scope} {Lc ac : Addr} {ccd : Value} {cl : List (Str × Addr)} {outer : List Env}
    {s : Shared} {Q E : Value → Shared → Prop}  (X : (Mine.hd.heap_39 w.params).In s.heap) (T : Top Mine.hd.view_39 loose mean mg mb s.heap)
    (hd : dp + 4 < recursionLimit) (hu : un + 40 < cLine)
    (hret : ∀ (t : Tok) h' tk', Kept s.heap h' → Q (.bool false) { s with heap := h', toks := tk' }) :
    wpAny (model PySem.Challenge.rw_pa0071_01.row.prog w) (ktrTop dp un gd cn cs Lc ac ccd cl outer) (call (.ref 63) [.bool false]) Q E s := by
  k_with_none
  k_with "own" => (k_here; (with_reducible show wpAny _ _ (getMethod _ _ _) _ _ _); with_reducible refine my_encode_method ?_)
  k_with "own" => (k_here; (with_reducible show wpAny _ _ (call (Value.builtin "str.encode") _ _) _ _ _); (first | refine my_encode enc_tree1 (by decide) ?_ | refine my_encode enc_tree2 (by decide) ?_ | refine my_encode enc_tree3 (by decide) ?_ | refine my_encode enc_tree4 (by decide) ?_); intro _ _)
  k_with "own" => (k_here; (with_reducible show wpAny _ _ (call (Value.type "type") _ _) _ _ _); first | refine call_type_of (PySem.W.typeIs_bytes _ _ _) (by decide +kernel) ?_ | refine call_type_of (Tx := "bool") (typeIs_bool _ _) (by decide +kernel) ?_ | refine call_type_of (Tx := "str") (typeIs_str _ _ _) (by decide +kernel) ?_)
  k_with "own" => (k_here; (with_reducible show wpAny _ _ (compareOp CmpOp.Is (Value.type _) (Value.type _)) _ _ _); first | refine wpAny_is_self (by rfl) ?_ | refine wpAny_is_other (by rfl) (by decide) ?_)
  revert X; k_fill; intro X
  k_dflt (refine' enter X T ?k6 ?k7 ?k8 ?k9 ?kB ?_ ?c2 ?c3 ?c4 ?c5; (case k6 => k_is); (case k7 => k_is); (case k8 => ktr_room); (case k9 => first | exact BindsTo.of_eq rfl | exact binds_K (by k_in) rfl (by k_is) rfl rfl rfl); (case c5 => decide); (case kB => exact locs rfl); (case c2 => exact rfl); (case c3 => exact rfl); (case c4 => exact rfl))
  intro L' h₁ F N
  (try dsimp only); (try k_fold)
  repeat' (first | (k_unfold; (try dsimp only)) | (k_end; wrow_close) | k_extra "own" | walk1 | (dsimp only; k_extra "own") | (dsimp only; walk1) | (leave1; walk_say "STEP leave1"; try dsimp only) | fail "no step")
  all_goals exact hret 0 _ _ (Fr.keep (by assumption))

theorem bfd1_call {w : World} {loose : List Str} {mean : ExcName → Option Value} {mg mb : Str → Option Value} {dp un : Nat} {gd : Option (List Code)} {cn : Str} {cs : Scope} {Lc ac : Addr} {ccd : Value} {cl : List (Str × Addr)} {outer : List Env}
    {s : Shared} {Q E : Value → Shared → Prop} {tb : Tok} (X : (Mine.hd.heap_39 w.params).In s.heap) (T : Top Mine.hd.view_39 loose mean mg mb s.heap)
    (hd : dp + 4 < recursionLimit) (hu : un + 40 < cLine)
    (hret : ∀ (t : Tok) h' tk', Kept s.heap h' → Q (.bytes #[103, 97, 81, 72] t) { s with heap := h', toks := tk' }) :
    wpAny (model PySem.Challenge.rw_pa0071_01.row.prog w) (ktrTop dp un gd cn cs Lc ac ccd cl outer) (call (.ref 29) [.str (Str.ofString "gaQH") tb]) Q E s := by
  k_with_none
  k_with "own" => (k_here; (with_reducible show wpAny _ _ (getMethod _ _ _) _ _ _); with_reducible refine my_encode_method ?_)
  k_with "own" => (k_here; (with_reducible show wpAny _ _ (call (Value.builtin "str.encode") _ _) _ _ _); (first | refine my_encode enc_tree1 (by decide) ?_ | refine my_encode enc_tree2 (by decide) ?_ | refine my_encode enc_tree3 (by decide) ?_ | refine my_encode enc_tree4 (by decide) ?_); intro _ _)
  k_with "own" => (k_here; (with_reducible show wpAny _ _ (call (Value.type "type") _ _) _ _ _); first | refine call_type_of (PySem.W.typeIs_bytes _ _ _) (by decide +kernel) ?_ | refine call_type_of (Tx := "bool") (typeIs_bool _ _) (by decide +kernel) ?_ | refine call_type_of (Tx := "str") (typeIs_str _ _ _) (by decide +kernel) ?_)
  k_with "own" => (k_here; (with_reducible show wpAny _ _ (compareOp CmpOp.Is (Value.type _) (Value.type _)) _ _ _); first | refine wpAny_is_self (by rfl) ?_ | refine wpAny_is_other (by rfl) (by decide) ?_)
  revert X; k_fill; intro X
  k_dflt (refine' enter X T ?k6 ?k7 ?k8 ?k9 ?kB ?_ ?c2 ?c3 ?c4 ?c5; (case k6 => k_is); (case k7 => k_is); (case k8 => ktr_room); (case k9 => first | exact BindsTo.of_eq rfl | exact binds_K (by k_in) rfl (by k_is) rfl rfl rfl); (case c5 => decide); (case kB => exact locs rfl); (case c2 => exact rfl); (case c3 => exact rfl); (case c4 => exact rfl))
  intro L' h₁ F N
  (try dsimp only); (try k_fold)
  repeat' (first | (k_unfold; (try dsimp only)) | (k_end; wrow_close) | k_extra "own" | walk1 | (dsimp only; k_extra "own") | (dsimp only; walk1) | (leave1; walk_say "STEP leave1"; try dsimp only) | fail "no step")
  all_goals exact hret _ _ _ (Fr.keep (by assumption))

theorem bfd2_call {w : World} {loose : List Str} {mean : ExcName → Option Value} {mg mb : Str → Option Value} {dp un : Nat} {gd : Option (List Code)} {cn : Str} {cs : Scope} {Lc ac : Addr} {ccd : Value} {cl : List (Str × Addr)} {outer : List Env}
    {s : Shared} {Q E : Value → Shared → Prop} {tb : Tok} (X : (Mine.hd.heap_39 w.params).In s.heap) (T : Top Mine.hd.view_39 loose mean mg mb s.heap)
    (hd : dp + 4 < recursionLimit) (hu : un + 40 < cLine)
    (hret : ∀ (t : Tok) h' tk', Kept s.heap h' → Q (.bytes #[81, 101, 49, 78] t) { s with heap := h', toks := tk' }) :
    wpAny (model PySem.Challenge.rw_pa0071_01.row.prog w) (ktrTop dp un gd cn cs Lc ac ccd cl outer) (call (.ref 29) [.str (Str.ofString "Qe1N") tb]) Q E s := by
  k_with_none
  k_with "own" => (k_here; (with_reducible show wpAny _ _ (getMethod _ _ _) _ _ _); with_reducible refine my_encode_method ?_)
  k_with "own" => (k_here; (with_reducible show wpAny _ _ (call (Value.builtin "str.encode") _ _) _ _ _); (first | refine my_encode enc_tree1 (by decide) ?_ | refine my_encode enc_tree2 (by decide) ?_ | refine my_encode enc_tree3 (by decide) ?_ | refine my_encode enc_tree4 (by decide) ?_); intro _ _)
  k_with "own" => (k_here; (with_reducible show wpAny _ _ (call (Value.type "type") _ _) _ _ _); first | refine call_type_of (PySem.W.typeIs_bytes _ _ _) (by decide +kernel) ?_ | refine call_type_of (Tx := "bool") (typeIs_bool _ _) (by decide +kernel) ?_ | refine call_type_of (Tx := "str") (typeIs_str _ _ _) (by decide +kernel) ?_)
  k_with "own" => (k_here; (with_reducible show wpAny _ _ (compareOp CmpOp.Is (Value.type _) (Value.type _)) _ _ _); first | refine wpAny_is_self (by rfl) ?_ | refine wpAny_is_other (by rfl) (by decide) ?_)
  revert X; k_fill; intro X
  k_dflt (refine' enter X T ?k6 ?k7 ?k8 ?k9 ?kB ?_ ?c2 ?c3 ?c4 ?c5; (case k6 => k_is); (case k7 => k_is); (case k8 => ktr_room); (case k9 => first | exact BindsTo.of_eq rfl | exact binds_K (by k_in) rfl (by k_is) rfl rfl rfl); (case c5 => decide); (case kB => exact locs rfl); (case c2 => exact rfl); (case c3 => exact rfl); (case c4 => exact rfl))
  intro L' h₁ F N
  (try dsimp only); (try k_fold)
  repeat' (first | (k_unfold; (try dsimp only)) | (k_end; wrow_close) | k_extra "own" | walk1 | (dsimp only; k_extra "own") | (dsimp only; walk1) | (leave1; walk_say "STEP leave1"; try dsimp only) | fail "no step")
  all_goals exact hret _ _ _ (Fr.keep (by assumption))

theorem bfd3_call {w : World} {loose : List Str} {mean : ExcName → Option Value} {mg mb : Str → Option Value} {dp un : Nat} {gd : Option (List Code)} {cn : Str} {cs : Scope} {Lc ac : Addr} {ccd : Value} {cl : List (Str × Addr)} {outer : List Env}
    {s : Shared} {Q E : Value → Shared → Prop} {tb : Tok} (X : (Mine.hd.heap_39 w.params).In s.heap) (T : Top Mine.hd.view_39 loose mean mg mb s.heap)
    (hd : dp + 4 < recursionLimit) (hu : un + 40 < cLine)
    (hret : ∀ (t : Tok) h' tk', Kept s.heap h' → Q (.bytes #[113, 102, 43, 84] t) { s with heap := h', toks := tk' }) :
    wpAny (model PySem.Challenge.rw_pa0071_01.row.prog w) (ktrTop dp un gd cn cs Lc ac ccd cl outer) (call (.ref 29) [.str (Str.ofString "qf+T") tb]) Q E s := by
  k_with_none
  k_with "own" => (k_here; (with_reducible show wpAny _ _ (getMethod _ _ _) _ _ _); with_reducible refine my_encode_method ?_)
  k_with "own" => (k_here; (with_reducible show wpAny _ _ (call (Value.builtin "str.encode") _ _) _ _ _); (first | refine my_encode enc_tree1 (by decide) ?_ | refine my_encode enc_tree2 (by decide) ?_ | refine my_encode enc_tree3 (by decide) ?_ | refine my_encode enc_tree4 (by decide) ?_); intro _ _)
  k_with "own" => (k_here; (with_reducible show wpAny _ _ (call (Value.type "type") _ _) _ _ _); first | refine call_type_of (PySem.W.typeIs_bytes _ _ _) (by decide +kernel) ?_ | refine call_type_of (Tx := "bool") (typeIs_bool _ _) (by decide +kernel) ?_ | refine call_type_of (Tx := "str") (typeIs_str _ _ _) (by decide +kernel) ?_)
  k_with "own" => (k_here; (with_reducible show wpAny _ _ (compareOp CmpOp.Is (Value.type _) (Value.type _)) _ _ _); first | refine wpAny_is_self (by rfl) ?_ | refine wpAny_is_other (by rfl) (by decide) ?_)
  revert X; k_fill; intro X
  k_dflt (refine' enter X T ?k6 ?k7 ?k8 ?k9 ?kB ?_ ?c2 ?c3 ?c4 ?c5; (case k6 => k_is); (case k7 => k_is); (case k8 => ktr_room); (case k9 => first | exact BindsTo.of_eq rfl | exact binds_K (by k_in) rfl (by k_is) rfl rfl rfl); (case c5 => decide); (case kB => exact locs rfl); (case c2 => exact rfl); (case c3 => exact rfl); (case c4 => exact rfl))
  intro L' h₁ F N
  (try dsimp only); (try k_fold)
  repeat' (first | (k_unfold; (try dsimp only)) | (k_end; wrow_close) | k_extra "own" | walk1 | (dsimp only; k_extra "own") | (dsimp only; walk1) | (leave1; walk_say "STEP leave1"; try dsimp only) | fail "no step")
  all_goals exact hret _ _ _ (Fr.keep (by assumption))

theorem bfd4_call {w : World} {loose : List Str} {mean : ExcName → Option Value} {mg mb : Str → Option Value} {dp un : Nat} {gd : Option (List Code)} {cn : Str} {cs : Scope} {Lc ac : Addr} {ccd : Value} {cl : List (Str × Addr)} {outer : List Env}
    {s : Shared} {Q E : Value → Shared → Prop} {tb : Tok} (X : (Mine.hd.heap_39 w.params).In s.heap) (T : Top Mine.hd.view_39 loose mean mg mb s.heap)
    (hd : dp + 4 < recursionLimit) (hu : un + 40 < cLine)
    (hret : ∀ (t : Tok) h' tk', Kept s.heap h' → Q (.bytes #[69, 52, 68, 90] t) { s with heap := h', toks := tk' }) :
    wpAny (model PySem.Challenge.rw_pa0071_01.row.prog w) (ktrTop dp un gd cn cs Lc ac ccd cl outer) (call (.ref 29) [.str (Str.ofString "E4DZ") tb]) Q E s := by
  k_with_none
  k_with "own" => (k_here; (with_reducible show wpAny _ _ (getMethod _ _ _) _ _ _); with_reducible refine my_encode_method ?_)
  k_with "own" => (k_here; (with_reducible show wpAny _ _ (call (Value.builtin "str.encode") _ _) _ _ _); (first | refine my_encode enc_tree1 (by decide) ?_ | refine my_encode enc_tree2 (by decide) ?_ | refine my_encode enc_tree3 (by decide) ?_ | refine my_encode enc_tree4 (by decide) ?_); intro _ _)
  k_with "own" => (k_here; (with_reducible show wpAny _ _ (call (Value.type "type") _ _) _ _ _); first | refine call_type_of (PySem.W.typeIs_bytes _ _ _) (by decide +kernel) ?_ | refine call_type_of (Tx := "bool") (typeIs_bool _ _) (by decide +kernel) ?_ | refine call_type_of (Tx := "str") (typeIs_str _ _ _) (by decide +kernel) ?_)
  k_with "own" => (k_here; (with_reducible show wpAny _ _ (compareOp CmpOp.Is (Value.type _) (Value.type _)) _ _ _); first | refine wpAny_is_self (by rfl) ?_ | refine wpAny_is_other (by rfl) (by decide) ?_)
  revert X; k_fill; intro X
  k_dflt (refine' enter X T ?k6 ?k7 ?k8 ?k9 ?kB ?_ ?c2 ?c3 ?c4 ?c5; (case k6 => k_is); (case k7 => k_is); (case k8 => ktr_room); (case k9 => first | exact BindsTo.of_eq rfl | exact binds_K (by k_in) rfl (by k_is) rfl rfl rfl); (case c5 => decide); (case kB => exact locs rfl); (case c2 => exact rfl); (case c3 => exact rfl); (case c4 => exact rfl))
  intro L' h₁ F N
  (try dsimp only); (try k_fold)
  repeat' (first | (k_unfold; (try dsimp only)) | (k_end; wrow_close) | k_extra "own" | walk1 | (dsimp only; k_extra "own") | (dsimp only; walk1) | (leave1; walk_say "STEP leave1"; try dsimp only) | fail "no step")
  all_goals exact hret _ _ _ (Fr.keep (by assumption))

theorem ifmt_call {w : World} {loose : List Str} {mean : ExcName → Option Value} {mg mb : Str → Option Value} {dp un : Nat} {gd : Option (List Code)} {cn : Str} {cs : Scope} {Lc ac : Addr} {ccd : Value} {cl : List (Str × Addr)} {outer : List Env}
    {s : Shared} {Q E : Value → Shared → Prop} {i : Int} {ti : Tok} (X : (Mine.hd.heap_39 w.params).In s.heap) (T : Top Mine.hd.view_39 loose mean mg mb s.heap)
    (hd : dp + 4 < recursionLimit) (hu : un + 40 < cLine)
    (hret : ∀ (t : Tok) h' tk', Kept s.heap h' → Q (.int (Builtin.bitAnd i 61440) t) { s with heap := h', toks := tk' }) :
    wpAny (model PySem.Challenge.rw_pa0071_01.row.prog w) (ktrTop dp un gd cn cs Lc ac ccd cl outer) (call (.ref 109) [.int i ti]) Q E s := by
  k_with_none
  k_with "own" => (k_here; (with_reducible show wpAny _ _ (getMethod _ _ _) _ _ _); with_reducible refine my_encode_method ?_)
  k_with "own" => (k_here; (with_reducible show wpAny _ _ (call (Value.builtin "str.encode") _ _) _ _ _); (first | refine my_encode enc_tree1 (by decide) ?_ | refine my_encode enc_tree2 (by decide) ?_ | refine my_encode enc_tree3 (by decide) ?_ | refine my_encode enc_tree4 (by decide) ?_); intro _ _)
  k_with "own" => (k_here; (with_reducible show wpAny _ _ (call (Value.type "type") _ _) _ _ _); first | refine call_type_of (PySem.W.typeIs_bytes _ _ _) (by decide +kernel) ?_ | refine call_type_of (Tx := "bool") (typeIs_bool _ _) (by decide +kernel) ?_ | refine call_type_of (Tx := "str") (typeIs_str _ _ _) (by decide +kernel) ?_)
  k_with "own" => (k_here; (with_reducible show wpAny _ _ (compareOp CmpOp.Is (Value.type _) (Value.type _)) _ _ _); first | refine wpAny_is_self (by rfl) ?_ | refine wpAny_is_other (by rfl) (by decide) ?_)
  revert X; k_fill; intro X
  k_dflt (refine' enter X T ?k6 ?k7 ?k8 ?k9 ?kB ?_ ?c2 ?c3 ?c4 ?c5; (case k6 => k_is); (case k7 => k_is); (case k8 => ktr_room); (case k9 => first | exact BindsTo.of_eq rfl | exact binds_K (by k_in) rfl (by k_is) rfl rfl rfl); (case c5 => decide); (case kB => exact locs rfl); (case c2 => exact rfl); (case c3 => exact rfl); (case c4 => exact rfl))
  intro L' h₁ F N
  (try dsimp only); (try k_fold)
  repeat' (first | (k_unfold; (try dsimp only)) | (k_end; wrow_close) | k_extra "own" | walk1 | (dsimp only; k_extra "own") | (dsimp only; walk1) | (leave1; walk_say "STEP leave1"; try dsimp only) | fail "no step")
  all_goals exact hret _ _ _ (Fr.keep (by assumption))

def b64v (c : Int) : Int := if 65 ≤ c ∧ c ≤ 90 then c - 65 else if 97 ≤ c ∧ c ≤ 122 then c - 71 else if 48 ≤ c ∧ c ≤ 57 then c + 4 else if c = 43 then 62 else if c = 47 then 63 else 64
theorem val_call {w : World} {loose : List Str} {mean : ExcName → Option Value} {mg mb : Str → Option Value} {dp un : Nat} {gd : Option (List Code)} {cn : Str} {cs : Scope} {Lc ac : Addr} {ccd : Value} {cl : List (Str × Addr)} {outer : List Env}
    {s : Shared} {Q E : Value → Shared → Prop} {c : Int} {tc : Tok} (X : (Mine.hd.heap_39 w.params).In s.heap) (T : Top Mine.hd.view_39 loose mean mg mb s.heap)
    (hd : dp + 4 < recursionLimit) (hu : un + 40 < cLine)
    (hret : ∀ (t : Tok) h' tk', Kept s.heap h' → Q (.int (b64v c) t) { s with heap := h', toks := tk' }) :
    wpAny (model PySem.Challenge.rw_pa0071_01.row.prog w) (ktrTop dp un gd cn cs Lc ac ccd cl outer) (call (.ref 70) [.int c tc]) Q E s := by
  k_with_none
  k_with "own" => (k_here; (with_reducible show wpAny _ _ (getMethod _ _ _) _ _ _); with_reducible refine my_encode_method ?_)
  k_with "own" => (k_here; (with_reducible show wpAny _ _ (call (Value.builtin "str.encode") _ _) _ _ _); (first | refine my_encode enc_tree1 (by decide) ?_ | refine my_encode enc_tree2 (by decide) ?_ | refine my_encode enc_tree3 (by decide) ?_ | refine my_encode enc_tree4 (by decide) ?_); intro _ _)
  k_with "own" => (k_here; (with_reducible show wpAny _ _ (call (Value.type "type") _ _) _ _ _); first | refine call_type_of (PySem.W.typeIs_bytes _ _ _) (by decide +kernel) ?_ | refine call_type_of (Tx := "bool") (typeIs_bool _ _) (by decide +kernel) ?_ | refine call_type_of (Tx := "str") (typeIs_str _ _ _) (by decide +kernel) ?_)
  k_with "own" => (k_here; (with_reducible show wpAny _ _ (compareOp CmpOp.Is (Value.type _) (Value.type _)) _ _ _); first | refine wpAny_is_self (by rfl) ?_ | refine wpAny_is_other (by rfl) (by decide) ?_)
  revert X; k_fill; intro X
  k_dflt (refine' enter X T ?k6 ?k7 ?k8 ?k9 ?kB ?_ ?c2 ?c3 ?c4 ?c5; (case k6 => k_is); (case k7 => k_is); (case k8 => ktr_room); (case k9 => first | exact BindsTo.of_eq rfl | exact binds_K (by k_in) rfl (by k_is) rfl rfl rfl); (case c5 => decide); (case kB => exact locs rfl); (case c2 => exact rfl); (case c3 => exact rfl); (case c4 => exact rfl))
  intro L' h₁ F N
  (try dsimp only); (try k_fold)
  repeat' (first | (k_unfold; (try dsimp only)) | (k_end; wrow_close) | k_extra "own" | walk1 | (dsimp only; k_extra "own") | (dsimp only; walk1) | (leave1; walk_say "STEP leave1"; try dsimp only) | fail "no step")
  all_goals (refine ret_int (s := s) hret ?_ (Fr.keep (by assumption)))
  all_goals (unfold b64v; (repeat' split) <;> omega)

end
end Mine
end
section
theorem Mine.rstB3 {M : PySem.Model} {A : PySem.Around} {pos : PySem.Pos} {env : PySem.Env} {Q : PySem.Flow → PySem.Shared → Prop} {E : PySem.Value → PySem.Shared → Prop} {s : PySem.Shared} (h : PySem.wpAny M A (PySem.exec (.Pass pos) env) Q E s) : PySem.wpAny M A (PySem.exec (.Pass pos) env) Q E s := by
  w_top off
  k_with_none
  first | (walk1; fail) | exact h
open PySem PySem.W PyProof.Rows PySem.Calls PyProof.V PySem.Spec
set_option Elab.async false
set_option linter.unusedVariables false
set_option maxRecDepth 100000
set_option maxHeartbeats 8000000
namespace Mine
section
variable {w : World} {loose : List Str} {mean : ExcName → Option Value} {mg mb : Str → Option Value} {dp un : Nat} {gd : Option (List Code)} {cn : Str} {cs : Scope} {Lc ac : Addr} {ccd : Value} {cl : List (Str × Addr)} {outer : List Env}
    {g : Heap} {L : Addr} {s : Shared} {m : Str → Option Value} {news : List (Addr × Obj)} {Q E : Value → Shared → Prop}
theorem val_use {c : Int} {tc : Tok} (X : (Mine.hd.heap_39 w.params).In g) (T : Top Mine.hd.view_39 loose mean mg mb g) (F : Fr g L s.heap m) (N : News g L s.heap news) (hd : dp + 4 < recursionLimit) (hu : un + 40 < cLine)
    (h : ∀ (t : Tok) h' tk', Fr g L h' m → News g L h' news → Q (.int (b64v c) t) { s with heap := h', toks := tk' }) :
    wpAny (model PySem.Challenge.rw_pa0071_01.row.prog w) (ktrTop dp un gd cn cs Lc ac ccd cl outer) (call (.ref 70) [.int c tc]) Q E s :=
  val_call (X.keeps F.keep) (T.keeps F.keep) hd hu fun t h' tk' k => h t h' tk' (k.fr F) (k.news N)
theorem abuf_use {b : Array UInt8} {tb : Tok} (X : (Mine.hd.heap_39 w.params).In g) (T : Top Mine.hd.view_39 loose mean mg mb g) (F : Fr g L s.heap m) (N : News g L s.heap news) (hd : dp + 4 < recursionLimit) (hu : un + 40 < cLine)
    (h : ∀ (t : Tok) h' tk', Fr g L h' m → News g L h' news → Q (.bytes b tb) { s with heap := h', toks := tk' }) :
    wpAny (model PySem.Challenge.rw_pa0071_01.row.prog w) (ktrTop dp un gd cn cs Lc ac ccd cl outer) (call (.ref 49) [.bytes b tb]) Q E s :=
  abuf_call (X.keeps F.keep) (T.keeps F.keep) hd hu fun t h' tk' k => h t h' tk' (k.fr F) (k.news N)
theorem truth_use (X : (Mine.hd.heap_39 w.params).In g) (T : Top Mine.hd.view_39 loose mean mg mb g) (F : Fr g L s.heap m) (N : News g L s.heap news) (hd : dp + 4 < recursionLimit) (hu : un + 40 < cLine)
    (h : ∀ (t : Tok) h' tk', Fr g L h' m → News g L h' news → Q (.bool false) { s with heap := h', toks := tk' }) :
    wpAny (model PySem.Challenge.rw_pa0071_01.row.prog w) (ktrTop dp un gd cn cs Lc ac ccd cl outer) (call (.ref 63) [.bool false]) Q E s :=
  truth_call (X.keeps F.keep) (T.keeps F.keep) hd hu fun t h' tk' k => h t h' tk' (k.fr F) (k.news N)
end
def stA1 (st : Int × Int × List Int) (c : Int) : Int × Int × List Int :=
  if st.1 = 0 then (1, b64v c, st.2.2) else if st.1 = 1 then (2, Builtin.bitAnd (b64v c) 15, st.2.2 ++ [Builtin.bitOr (st.2.1 * 2 ^ Int.toNat 2) ((b64v c).fdiv (2 ^ Int.toNat 4))])
  else if st.1 = 2 then (3, Builtin.bitAnd (b64v c) 3, st.2.2 ++ [Builtin.bitOr (st.2.1 * 2 ^ Int.toNat 4) ((b64v c).fdiv (2 ^ Int.toNat 2))]) else (0, 0, st.2.2 ++ [Builtin.bitOr (st.2.1 * 2 ^ Int.toNat 6) (b64v c)])
theorem band_small {x : Int} (h0 : 0 ≤ x) (h1 : x < 64) : (0 ≤ Builtin.bitAnd x 15 ∧ Builtin.bitAnd x 15 < 64) ∧ (0 ≤ Builtin.bitAnd x 3 ∧ Builtin.bitAnd x 3 < 64) := by
  have : ∀ k : Nat, k < 64 → (0 ≤ Builtin.bitAnd (k : Int) 15 ∧ Builtin.bitAnd (k : Int) 15 < 64) ∧ (0 ≤ Builtin.bitAnd (k : Int) 3 ∧ Builtin.bitAnd (k : Int) 3 < 64) := by decide +kernel
  have e : x = (x.toNat : Int) := by omega
  rw [e]
  exact this _ (by omega)
theorem ints_snoc {vs : List Value} {ns : List Int} (h : IntsAre vs ns) (n : Int) (t : Tok) : IntsAre (vs ++ [.int n t]) (ns ++ [n]) := by
  induction h with
  | nil => exact .cons n t .nil
  | cons m u _ ih => exact .cons m u ih
def stA (pre : List Int) : Int × Int × List Int := pre.foldl stA1 (0, 0, [])
structure SA where
  q : Int
  tq : Tok
  l : Int
  tl : Tok
  p : Int
  tp : Tok
  i : Int
  ti : Tok
  vs : List Value
  out : List Int
  nn : Nat
def A2Ok (pre : List Int) (q l p i : Int) (out : List Int) : Prop := p = 0 ∧ (q, l, out) = stA pre ∧ 0 ≤ q ∧ q ≤ 3 ∧ 0 ≤ l ∧ l < 64 ∧ out.length ≤ pre.length
theorem stA_snoc (pre : List Int) (n : Int) : stA (pre ++ [n]) = stA1 (stA pre) n := by unfold stA; rw [List.foldl_append]; rfl
theorem a2_start : A2Ok [] 0 0 0 0 [] := ⟨rfl, rfl, by decide, by decide, by decide, by decide, by decide⟩
section
theorem a2b_call {w : World} {loose : List Str} {mean : ExcName → Option Value} {mg mb : Str → Option Value} {dp un : Nat} {gd : Option (List Code)} {cn : Str} {cs : Scope} {Lc ac : Addr} {ccd : Value} {cl : List (Str × Addr)} {outer : List Env}
    {s : Shared} {Q E : Value → Shared → Prop} {b : Array UInt8} {tb : Tok} (X : (Mine.hd.heap_39 w.params).In s.heap) (T : Top Mine.hd.view_39 loose mean mg mb s.heap)
    (hd : dp + 8 < recursionLimit) (hu : un + 80 < cLine) (hb : b.size = 4) {res : List Int} (hst : stA (KBw.bInts b) = (0, 0, res)) (hrs : ∀ e ∈ res, 0 ≤ e ∧ e < 256) (hv : ∀ c ∈ KBw.bInts b, c ≠ 61 ∧ 0 ≤ b64v c ∧ b64v c < 64)
    (hret : ∀ (t : Tok) h' tk', Kept s.heap h' → Q (.bytes (byteArr res) t) { s with heap := h', toks := tk' }) :
    wpAny (model PySem.Challenge.rw_pa0071_01.row.prog w) (ktrTop dp un gd cn cs Lc ac ccd cl outer) (call (.ref 78) [.bytes b tb] [(Str.ofString "strict_mode", .bool false)]) Q E s := by
  k_with_none
  k_with "own" => (k_here; (with_reducible show wpAny _ _ (call (Value.ref 70) [Value.int _ _]) _ _ _); k_dflt (refine' val_use ?k1 ?k2 ?k3 ?k4 ?kd ?ku ?_; (case k1 => k_asm); (case k2 => k_asm); (case k3 => k_asm); (case k4 => k_asm); (case kd => ktr_room); (case ku => ktr_units)); intro _ _ _ _ _; (try dsimp only); (try k_fold))
  k_with "own" => (k_here; (with_reducible show wpAny _ _ (call (Value.ref 49) [Value.bytes _ _]) _ _ _); k_dflt (refine' abuf_use ?k1 ?k2 ?k3 ?k4 ?kd ?ku ?_; (case k1 => k_asm); (case k2 => k_asm); (case k3 => k_asm); (case k4 => k_asm); (case kd => ktr_room); (case ku => ktr_units)); intro _ _ _ _ _; (try dsimp only); (try k_fold))
  k_with "own" => (k_here; (with_reducible show wpAny _ _ (call (Value.ref 63) [Value.bool false]) _ _ _); k_dflt (refine' truth_use ?k1 ?k2 ?k3 ?k4 ?kd ?ku ?_; (case k1 => k_asm); (case k2 => k_asm); (case k3 => k_asm); (case k4 => k_asm); (case kd => ktr_room); (case ku => ktr_units)); intro _ _ _ _ _; (try dsimp only); (try k_fold))
  revert X; k_fill; intro X
  k_dflt (refine' enter X T ?k6 ?k7 ?k8 ?k9 ?kB ?_ ?c2 ?c3 ?c4 ?c5; (case k6 => k_is); (case k7 => k_is); (case k8 => ktr_room); (case k9 => first | exact BindsTo.of_eq rfl | exact binds_K (by k_in) rfl (by k_is) rfl rfl rfl); (case c5 => decide); (case kB => exact locs rfl); (case c2 => exact rfl); (case c3 => exact rfl); (case c4 => exact rfl))
  intro L' h₁ F N
  (try dsimp only); (try k_fold)
  repeat' ((fail_if_success (with_reducible show wpAny _ _ (exec (Stmt.For _ _ _ _ _) _) _ _ _)); (first | (k_unfold; (try dsimp only)) | (k_end; wrow_close) | k_extra "own" | walk1 | (dsimp only; k_extra "own") | (dsimp only; walk1) | (leave1; walk_say "STEP leave1"; try dsimp only)))
  rename Fr _ _ _ _ => lF
  (with_unfolding_all refine' For_invVF lF ?k1 ?k2 ?_; (case k1 => exact rfl); (case k2 => exact rfl))
  repeat' ((fail_if_success (with_reducible show wpAny _ _ (pyIter _) _ _ _)); (first | (k_unfold; (try dsimp only)) | (k_end; wrow_close) | k_extra "own" | walk1 | (dsimp only; k_extra "own") | (dsimp only; walk1) | (leave1; walk_say "STEP leave1"; try dsimp only)))
  rename Fr _ _ _ _ => lF2
  rename News _ _ _ _ => lN2
  k_dflt (refine' KStb.kst_bytes (σ := SA) (fun c => [(_, listOf c.vs.toArray c.nn)]) (fun c => [(Str.ofString "quad_pos", Value.int c.q c.tq), (Str.ofString "leftchar", Value.int c.l c.tl), (Str.ofString "pads", Value.int c.p c.tp), (Str.ofString "i", Value.int c.i c.ti)]) (fun c => IntsAre c.vs c.out) [] (fun pre c => A2Ok pre c.q c.l c.p c.i c.out) ⟨0, _, 0, _, 0, _, 0, _, [], [], 0⟩ rfl rfl rfl lF2 ?kn ?kf ?kk ?kp ?_ ?_)
  case kn => exact lN2
  case kf => exact .nil
  case kk => exact allC (by with_unfolding_all rfl) (allC (by with_unfolding_all rfl) (allC (by with_unfolding_all rfl) (all1 (by with_unfolding_all rfl))))
  case kp => exact a2_start
  · intro c pre post n t u h tk own e1 hlt n0 n1 hoff hf hp F9 N9
    obtain ⟨q, tq, l, tl', p, tp, i, ti, vs, out, nn⟩ := c
    obtain ⟨hp0, hp1, q0, q3, l0, l64, ho⟩ := hp
    dsimp only at hf hp0 hp1 q0 q3 l0 l64 ho F9 N9
    dsimp only [kstB] at F9
    obtain ⟨n61, v0, v64⟩ := hv n (by rw [e1]; simp)
    subst hp0
    have hq : q = 0 ∨ q = 1 ∨ q = 2 ∨ q = 3 := by omega
    have hsz : pre.length < 4 := by rw [← hb]; simpa [KBw.ints_length] using hlt
    clear hret hv
    obtain ⟨⟨b0, b1⟩, b2, b3⟩ := band_small v0 v64
    rcases hq with rfl | rfl | rfl | rfl
    · repeat' (first | (k_unfold; (try dsimp only)) | (k_end; wrow_close) | k_extra "own" | walk1 | (dsimp only; k_extra "own") | (dsimp only; walk1) | (leave1; walk_say "STEP leave1"; try dsimp only) | fail "no step")
      refine' kst_end (⟨1, _, b64v n, _, 0, _, i + 1, _, vs, out, nn⟩ : SA) (by assumption) (by assumption) ?hn (fun p hp => .tail _ hp) rfl hf ?hk ?hr ?hp
      case hk =>
        exact allC (by with_unfolding_all rfl) (allC (by with_unfolding_all rfl) (allC (by with_unfolding_all rfl) (all1 (by with_unfolding_all rfl))))
      case hn =>
        intro p hp; simp only [List.mem_singleton] at hp; subst hp; exact .head _
      case hr =>
        intro z h1 h2 h3
        simp only [List.forall_mem_cons, List.not_mem_nil, false_implies, implies_true, and_true, ne_eq] at h2
        simp [h1, h2]
      case hp =>
        refine ⟨rfl, ?_, (by show (0 : Int) ≤ 1; decide), (by show (1 : Int) ≤ 3; decide), v0, v64, ?_⟩
        · rw [stA_snoc, ← hp1]; rfl
        · simp only [List.length_append, List.length_cons, List.length_nil]; omega
    · repeat' (first | (k_unfold; (try dsimp only)) | (k_end; wrow_close) | k_extra "own" | walk1 | (dsimp only; k_extra "own") | (dsimp only; walk1) | (leave1; walk_say "STEP leave1"; try dsimp only) | fail "no step")
      rename News _ _ _ (_ :: _) => N5
      simp only [List.push_toArray] at N5
      refine' kst_end (⟨2, _, Builtin.bitAnd (b64v n) 15, _, 0, _, i + 1, _, vs ++ [_], out ++ [Builtin.bitOr (l * 2 ^ Int.toNat 2) ((b64v n).fdiv (2 ^ Int.toNat 4))], nn + 1⟩ : SA) (by assumption) (by assumption) ?hn (fun p hp => .tail _ hp) rfl (ints_snoc hf _ _) ?hk ?hr ?hp
      case hk =>
        exact allC (by with_unfolding_all rfl) (allC (by with_unfolding_all rfl) (allC (by with_unfolding_all rfl) (all1 (by with_unfolding_all rfl))))
      case hn =>
        intro p hp; simp only [List.mem_singleton] at hp; subst hp; exact .head _
      case hr =>
        intro z h1 h2 h3
        simp only [List.forall_mem_cons, List.not_mem_nil, false_implies, implies_true, and_true, ne_eq] at h2
        simp [h1, h2]
      case hp =>
        refine ⟨rfl, ?_, (by show (0 : Int) ≤ 2; decide), (by show (2 : Int) ≤ 3; decide), b0, b1, ?_⟩
        · rw [stA_snoc, ← hp1]; rfl
        · simp only [List.length_append, List.length_cons, List.length_nil]; omega
    · repeat' (first | (k_unfold; (try dsimp only)) | (k_end; wrow_close) | k_extra "own" | walk1 | (dsimp only; k_extra "own") | (dsimp only; walk1) | (leave1; walk_say "STEP leave1"; try dsimp only) | fail "no step")
      rename News _ _ _ (_ :: _) => N5
      simp only [List.push_toArray] at N5
      refine' kst_end (⟨3, _, Builtin.bitAnd (b64v n) 3, _, 0, _, i + 1, _, vs ++ [_], out ++ [Builtin.bitOr (l * 2 ^ Int.toNat 4) ((b64v n).fdiv (2 ^ Int.toNat 2))], nn + 1⟩ : SA) (by assumption) (by assumption) ?hn (fun p hp => .tail _ hp) rfl (ints_snoc hf _ _) ?hk ?hr ?hp
      case hk =>
        exact allC (by with_unfolding_all rfl) (allC (by with_unfolding_all rfl) (allC (by with_unfolding_all rfl) (all1 (by with_unfolding_all rfl))))
      case hn =>
        intro p hp; simp only [List.mem_singleton] at hp; subst hp; exact .head _
      case hr =>
        intro z h1 h2 h3
        simp only [List.forall_mem_cons, List.not_mem_nil, false_implies, implies_true, and_true, ne_eq] at h2
        simp [h1, h2]
      case hp =>
        refine ⟨rfl, ?_, (by show (0 : Int) ≤ 3; decide), (by show (3 : Int) ≤ 3; decide), b2, b3, ?_⟩
        · rw [stA_snoc, ← hp1]; rfl
        · simp only [List.length_append, List.length_cons, List.length_nil]; omega
    · repeat' (first | (k_unfold; (try dsimp only)) | (k_end; wrow_close) | k_extra "own" | walk1 | (dsimp only; k_extra "own") | (dsimp only; walk1) | (leave1; walk_say "STEP leave1"; try dsimp only) | fail "no step")
      rename News _ _ _ (_ :: _) => N5
      simp only [List.push_toArray] at N5
      refine' kst_end (⟨0, _, 0, _, 0, _, i + 1, _, vs ++ [_], out ++ [Builtin.bitOr (l * 2 ^ Int.toNat 6) (b64v n)], nn + 1⟩ : SA) (by assumption) (by assumption) ?hn (fun p hp => .tail _ hp) rfl (ints_snoc hf _ _) ?hk ?hr ?hp
      case hk =>
        exact allC (by with_unfolding_all rfl) (allC (by with_unfolding_all rfl) (allC (by with_unfolding_all rfl) (all1 (by with_unfolding_all rfl))))
      case hn =>
        intro p hp; simp only [List.mem_singleton] at hp; subst hp; exact .head _
      case hr =>
        intro z h1 h2 h3
        simp only [List.forall_mem_cons, List.not_mem_nil, false_implies, implies_true, and_true, ne_eq] at h2
        simp [h1, h2]
      case hp =>
        refine ⟨rfl, ?_, (by show (0 : Int) ≤ 0; decide), (by show (0 : Int) ≤ 3; decide), (by show (0 : Int) ≤ 0; decide), (by show (0 : Int) < 64; decide), ?_⟩
        · rw [stA_snoc, ← hp1]; rfl
        · simp only [List.length_append, List.length_cons, List.length_nil]; omega
  · intro c u h tk hlen hf hp F9 N9
    obtain ⟨q, tq, l, tl', p, tp, i, ti, vs, out, nn⟩ := c
    obtain ⟨hp0, hp1, q0, q3, l0, l64, ho⟩ := hp
    dsimp only at hf hp0 hp1 q0 q3 l0 l64 ho F9 N9
    dsimp only [kstB] at F9
    rw [hst] at hp1
    simp only [Prod.mk.injEq] at hp1
    obtain ⟨rfl, rfl, rfl⟩ := hp1
    repeat' ((fail_if_success (with_reducible show wpAny _ _ (call (Value.type "bytes") _ _) _ _ _)); (first | (k_unfold; (try dsimp only)) | (k_end; wrow_close) | k_extra "own" | walk1 | (dsimp only; k_extra "own") | (dsimp only; walk1) | (leave1; walk_say "STEP leave1"; try dsimp only)))
    rename News _ _ _ (_ :: _) => N5
    rename Fr _ _ _ _ => F5
    k_dflt (refine' call_bytes_ints (News.isList N5 (.head _)) hf hrs ?hz rfl ?_)
    case hz => (rw [hf.length]; exact Nat.le_trans ho (by rw [KBw.ints_length, hb]; decide))
    intro h6 t6 k6 kk
    exact hret _ _ _ (fun b o e => kk b o (F5.keep b o e))
end
end Mine
end
section
theorem Mine.rstB6 {M : PySem.Model} {A : PySem.Around} {pos : PySem.Pos} {env : PySem.Env} {Q : PySem.Flow → PySem.Shared → Prop} {E : PySem.Value → PySem.Shared → Prop} {s : PySem.Shared} (h : PySem.wpAny M A (PySem.exec (.Pass pos) env) Q E s) : PySem.wpAny M A (PySem.exec (.Pass pos) env) Q E s := by
  w_top off
  k_with_none
  first | (walk1; fail) | exact h
open PySem PySem.W PyProof.Rows PySem.Calls PyProof.V PySem.Spec
set_option Elab.async false
set_option linter.unusedVariables false
set_option maxRecDepth 100000
set_option maxHeartbeats 8000000
namespace Mine
section
variable {w : World} {loose : List Str} {mean : ExcName → Option Value} {mg mb : Str → Option Value} {dp un : Nat} {gd : Option (List Code)} {cn : Str} {cs : Scope} {Lc ac : Addr} {ccd : Value} {cl : List (Str × Addr)} {outer : List Env}
    {g : Heap} {L : Addr} {s : Shared} {m : Str → Option Value} {news : List (Addr × Obj)} {Q E : Value → Shared → Prop}
theorem buf_use {b : Array UInt8} {tb : Tok} (X : (Mine.hd.heap_39 w.params).In g) (T : Top Mine.hd.view_39 loose mean mg mb g) (F : Fr g L s.heap m) (N : News g L s.heap news) (hd : dp + 4 < recursionLimit) (hu : un + 40 < cLine)
    (h : ∀ (t : Tok) h' tk', Fr g L h' m → News g L h' news → Q (.bytes b tb) { s with heap := h', toks := tk' }) :
    wpAny (model PySem.Challenge.rw_pa0071_01.row.prog w) (ktrTop dp un gd cn cs Lc ac ccd cl outer) (call (.ref 56) [.bytes b tb]) Q E s :=
  buf_call (X.keeps F.keep) (T.keeps F.keep) hd hu fun t h' tk' k => h t h' tk' (k.fr F) (k.news N)
end
def b64K : List Int := ((List.range 26).map fun i : Nat => (i : Int) + 65) ++ ((List.range 26).map fun i : Nat => (i : Int) + 97) ++ ((List.range 10).map fun i : Nat => (i : Int) + 48) ++ [43, 47]
theorem b64_item {prog : Program} {w : World} {A : Around} {E : Value → Shared → Prop} {s : Shared} {value slice : Expr} {b : Array UInt8} {x : Int} {t ui : Tok} {Q : Value → Shared → Prop} (hk : KBw.bInts b = b64K)
    (h : ∀ t' k, Q (.int (b64K.getD (Builtin.bitAnd x 63).toNat 0) t') { s with toks := k })
    (hs : subscripted slice false (.bytes b t) (.int (Builtin.bitAnd x 63) ui) = operate [.bytes b t, .int (Builtin.bitAnd x 63) ui] (getItem (.bytes b t) (.int (Builtin.bitAnd x 63) ui)) := by with_unfolding_all rfl)
    (ht : ∀ r, letTemporaryGo value (.bytes b t) r = pure () := by intro _; with_unfolding_all rfl) : wpAny (model prog w) A (subscriptTail value slice (.bytes b t) (.int (Builtin.bitAnd x 63) ui)) Q E s :=
  have r := bitAnd_range x (y := 63) (by decide)
  KBw.item_K hk (by decide) r.1 (by have e : b64K.length = 64 := by decide
                                    rw [e]; omega) (fun t' k _ _ => h t' k) hs ht
def lcB (l n : Int) : Int := Builtin.bitAnd (Builtin.bitOr (l * 2 ^ Int.toNat 8) n) 65535
def chB (x k : Int) : Int := b64K.getD (Builtin.bitAnd (x.fdiv (2 ^ k.toNat)) 63).toNat 0
def stB1 (st : Int × Int × List Int) (n : Int) : Int × Int × List Int :=
  if st.1 = 0 then (2, lcB st.2.1 n, st.2.2 ++ [chB (lcB st.2.1 n) (0 + 8 - 6)]) else if st.1 = 2 then (4, lcB st.2.1 n, st.2.2 ++ [chB (lcB st.2.1 n) (2 + 8 - 6)])
  else (0, lcB st.2.1 n, st.2.2 ++ [chB (lcB st.2.1 n) (4 + 8 - 6)] ++ [chB (lcB st.2.1 n) (4 + 8 - 6 - 6)])
def stB (pre : List Int) : Int × Int × List Int := pre.foldl stB1 (0, 0, [])
theorem stB_snoc (pre : List Int) (n : Int) : stB (pre ++ [n]) = stB1 (stB pre) n := by unfold stB; rw [List.foldl_append]; rfl
theorem lcB_range (l n : Int) : 0 ≤ lcB l n ∧ lcB l n < 65536 := by
  have := bitAnd_range (Builtin.bitOr (l * 2 ^ Int.toNat 8) n) (y := 65535) (by decide)
  unfold lcB
  omega
structure SB where
  l : Int
  tl : Tok
  n : Int
  tn : Tok
  vs : List Value
  out : List Int
  nn : Nat
section
theorem b2a_call {w : World} {loose : List Str} {mean : ExcName → Option Value} {mg mb : Str → Option Value} {dp un : Nat} {gd : Option (List Code)} {cn : Str} {cs : Scope} {Lc ac : Addr} {ccd : Value} {cl : List (Str × Addr)} {outer : List Env}
    {s : Shared} {Q E : Value → Shared → Prop} {b : Array UInt8} {tb : Tok} (X : (Mine.hd.heap_39 w.params).In s.heap) (T : Top Mine.hd.view_39 loose mean mg mb s.heap)
    (hd : dp + 8 < recursionLimit) (hu : un + 80 < cLine) (hb : b.size = 3) {res : List Int} {lz : Int} (hst : stB (KBw.bInts b) = (0, lz, res)) (hrs : ∀ e ∈ res, 0 ≤ e ∧ e < 256)
    (hret : ∀ (t : Tok) h' tk', Kept s.heap h' → Q (.bytes (byteArr res) t) { s with heap := h', toks := tk' }) :
    wpAny (model PySem.Challenge.rw_pa0071_01.row.prog w) (ktrTop dp un gd cn cs Lc ac ccd cl outer) (call (.ref 86) [.bytes b tb] [(Str.ofString "newline", .bool false)]) Q E s := by
  k_with_none
  k_with "own" => (k_here; (with_reducible show wpAny _ _ (call (Value.ref 56) [Value.bytes _ _]) _ _ _); k_dflt (refine' buf_use ?k1 ?k2 ?k3 ?k4 ?kd ?ku ?_; (case k1 => k_asm); (case k2 => k_asm); (case k3 => k_asm); (case k4 => k_asm); (case kd => ktr_room); (case ku => ktr_units)); intro _ _ _ _ _; (try dsimp only); (try k_fold))
  k_with "own" => (k_here; (with_reducible show wpAny _ _ (call (Value.ref 63) [Value.bool false]) _ _ _); k_dflt (refine' truth_use ?k1 ?k2 ?k3 ?k4 ?kd ?ku ?_; (case k1 => k_asm); (case k2 => k_asm); (case k3 => k_asm); (case k4 => k_asm); (case kd => ktr_room); (case ku => ktr_units)); intro _ _ _ _ _; (try dsimp only); (try k_fold))
  k_with "own" => (k_here; (with_reducible show wpAny _ _ (subscriptTail _ _ (Value.bytes _ _) (Value.int (Builtin.bitAnd _ 63) _)) _ _ _); (refine b64_item (by decide +kernel) ?_); intro _ _)
  revert X; k_fill; intro X
  k_dflt (refine' enter X T ?k6 ?k7 ?k8 ?k9 ?kB ?_ ?c2 ?c3 ?c4 ?c5; (case k6 => k_is); (case k7 => k_is); (case k8 => ktr_room); (case k9 => first | exact BindsTo.of_eq rfl | exact binds_K (by k_in) rfl (by k_is) rfl rfl rfl); (case c5 => decide); (case kB => exact locs rfl); (case c2 => exact rfl); (case c3 => exact rfl); (case c4 => exact rfl))
  intro L' h₁ F N
  (try dsimp only); (try k_fold)
  repeat' ((fail_if_success (with_reducible show wpAny _ _ (exec (Stmt.For _ _ _ _ _) _) _ _ _)); (first | (k_unfold; (try dsimp only)) | (k_end; wrow_close) | k_extra "own" | walk1 | (dsimp only; k_extra "own") | (dsimp only; walk1) | (leave1; walk_say "STEP leave1"; try dsimp only)))
  rename Fr _ _ _ _ => lF
  (with_unfolding_all refine' For_invVF lF ?k1 ?k2 ?_; (case k1 => exact rfl); (case k2 => exact rfl))
  repeat' ((fail_if_success (with_reducible show wpAny _ _ (pyIter _) _ _ _)); (first | (k_unfold; (try dsimp only)) | (k_end; wrow_close) | k_extra "own" | walk1 | (dsimp only; k_extra "own") | (dsimp only; walk1) | (leave1; walk_say "STEP leave1"; try dsimp only)))
  rename Fr _ _ _ _ => lF2
  rename News _ _ _ _ => lN2
  k_dflt (refine' KStb.kst_bytes (σ := SB) (fun c => [(_, listOf c.vs.toArray c.nn)]) (fun c => [(Str.ofString "leftbits", Value.int c.n c.tn), (Str.ofString "leftchar", Value.int c.l c.tl)]) (fun c => IntsAre c.vs c.out) [] (fun pre c => (c.n = 0 ∨ c.n = 2 ∨ c.n = 4) ∧ 0 ≤ c.l ∧ c.l < 65536 ∧ c.out.length ≤ 2 * pre.length ∧ (c.n, c.l, c.out) = stB pre) ⟨0, _, 0, _, [], [], 0⟩ rfl rfl rfl lF2 ?kn ?kf ?kk ?kp ?_ ?_)
  case kn => exact lN2
  case kf => exact .nil
  case kk => exact allC (by with_unfolding_all rfl) (all1 (by with_unfolding_all rfl))
  case kp => exact ⟨.inl rfl, (by show (0 : Int) ≤ 0; decide), (by show (0 : Int) < 65536; decide), Nat.le_refl _, rfl⟩
  · intro c pre post n t u h tk own e1 hlt n0 n1 hoff hf hp F9 N9
    obtain ⟨l, tl', q, tq, vs, out, nn⟩ := c
    obtain ⟨hq, l0, l1, ho, hp1⟩ := hp
    dsimp only at hf hq l0 l1 ho hp1 F9 N9
    have hsz : pre.length < 3 := by rw [← hb]; simpa [KBw.ints_length] using hlt
    have hvl := hf.length
    dsimp only [kstB] at F9
    clear hret
    rcases hq with rfl | rfl | rfl
    · repeat' (first | (k_unfold; (try dsimp only)) | (k_end; wrow_close) | k_extra "own" | walk1 | (dsimp only; k_extra "own") | (dsimp only; walk1) | (leave1; walk_say "STEP leave1"; try dsimp only) | fail "no step")
      rename News _ _ _ (_ :: _) => N5
      simp only [List.push_toArray] at N5
      refine' kst_end (⟨lcB l n, _, 2, _, vs ++ [_], out ++ [chB (lcB l n) (0 + 8 - 6)], nn + 1⟩ : SB) (by assumption) N5 ?hn (fun p hp => .tail _ hp) rfl (ints_snoc hf _ _) ?hk ?hr ?hp
      case hk => exact allC (by with_unfolding_all rfl) (all1 (by with_unfolding_all rfl))
      case hn => intro p hp; simp only [List.mem_singleton] at hp; subst hp; exact .head _
      case hr =>
        intro z h1 h2 h3
        simp only [List.forall_mem_cons, List.not_mem_nil, false_implies, implies_true, and_true, ne_eq] at h2
        simp [h1, h2]
      case hp =>
        refine ⟨.inr (.inl rfl), (lcB_range l n).1, (lcB_range l n).2, ?_, ?_⟩
        · simp only [List.length_append, List.length_cons, List.length_nil]; omega
        · rw [stB_snoc, ← hp1]; rfl
    · repeat' (first | (k_unfold; (try dsimp only)) | (k_end; wrow_close) | k_extra "own" | walk1 | (dsimp only; k_extra "own") | (dsimp only; walk1) | (leave1; walk_say "STEP leave1"; try dsimp only) | fail "no step")
      rename News _ _ _ (_ :: _) => N5
      simp only [List.push_toArray] at N5
      refine' kst_end (⟨lcB l n, _, 4, _, vs ++ [_], out ++ [chB (lcB l n) (2 + 8 - 6)], nn + 1⟩ : SB) (by assumption) N5 ?hn (fun p hp => .tail _ hp) rfl (ints_snoc hf _ _) ?hk ?hr ?hp
      case hk => exact allC (by with_unfolding_all rfl) (all1 (by with_unfolding_all rfl))
      case hn => intro p hp; simp only [List.mem_singleton] at hp; subst hp; exact .head _
      case hr =>
        intro z h1 h2 h3
        simp only [List.forall_mem_cons, List.not_mem_nil, false_implies, implies_true, and_true, ne_eq] at h2
        simp [h1, h2]
      case hp =>
        refine ⟨.inr (.inr rfl), (lcB_range l n).1, (lcB_range l n).2, ?_, ?_⟩
        · simp only [List.length_append, List.length_cons, List.length_nil]; omega
        · rw [stB_snoc, ← hp1]; rfl
    · repeat' (first | (k_unfold; (try dsimp only)) | (k_end; wrow_close) | k_extra "own" | walk1 | (dsimp only; k_extra "own") | (dsimp only; walk1) | (leave1; walk_say "STEP leave1"; try dsimp only) | fail "no step")
      rename News _ _ _ (_ :: _) => N5
      simp only [List.push_toArray] at N5
      refine' kst_end (⟨lcB l n, _, 0, _, vs ++ [_] ++ [_], out ++ [chB (lcB l n) (4 + 8 - 6)] ++ [chB (lcB l n) (4 + 8 - 6 - 6)], nn + 1 + 1⟩ : SB) (by assumption) N5 ?hn (fun p hp => .tail _ hp) rfl (ints_snoc (ints_snoc hf _ _) _ _) ?hk ?hr ?hp
      case hk => exact allC (by with_unfolding_all rfl) (all1 (by with_unfolding_all rfl))
      case hn => intro p hp; simp only [List.mem_singleton] at hp; subst hp; exact .head _
      case hr =>
        intro z h1 h2 h3
        simp only [List.forall_mem_cons, List.not_mem_nil, false_implies, implies_true, and_true, ne_eq] at h2
        simp [h1, h2]
      case hp =>
        refine ⟨.inl rfl, (lcB_range l n).1, (lcB_range l n).2, ?_, ?_⟩
        · simp only [List.length_append, List.length_cons, List.length_nil]; omega
        · rw [stB_snoc, ← hp1]; rfl
  · intro c u h tk hlen hf hp F9 N9
    obtain ⟨l, tl', q, tq, vs, out, nn⟩ := c
    obtain ⟨hq, l0, l1, ho, hp1⟩ := hp
    dsimp only at hf hq l0 l1 ho hp1 F9 N9
    dsimp only [kstB] at F9
    rw [hst] at hp1
    simp only [Prod.mk.injEq] at hp1
    obtain ⟨rfl, rfl, rfl⟩ := hp1
    repeat' ((fail_if_success (with_reducible show wpAny _ _ (call (Value.type "bytes") _ _) _ _ _)); (first | (k_unfold; (try dsimp only)) | (k_end; wrow_close) | k_extra "own" | walk1 | (dsimp only; k_extra "own") | (dsimp only; walk1) | (leave1; walk_say "STEP leave1"; try dsimp only)))
    rename News _ _ _ (_ :: _) => N5
    rename Fr _ _ _ _ => F5
    k_dflt (refine' call_bytes_ints (News.isList N5 (.head _)) hf hrs ?hz rfl ?_)
    case hz => (rw [hf.length]; exact Nat.le_trans ho (by rw [KBw.ints_length, hb]; decide))
    intro h6 t6 k6 kk
    exact hret _ _ _ (fun b o e => kk b o (F5.keep b o e))
end
end Mine
end
section
theorem Mine.rstB5 {M : PySem.Model} {A : PySem.Around} {pos : PySem.Pos} {env : PySem.Env} {Q : PySem.Flow → PySem.Shared → Prop} {E : PySem.Value → PySem.Shared → Prop} {s : PySem.Shared} (h : PySem.wpAny M A (PySem.exec (.Pass pos) env) Q E s) : PySem.wpAny M A (PySem.exec (.Pass pos) env) Q E s := by
  w_top off
  k_with_none
  first | (walk1; fail) | exact h
open PySem PySem.W PyProof.Rows PySem.Calls PyProof.V PySem.Spec
set_option Elab.async false
set_option linter.unusedVariables false
set_option maxRecDepth 100000
set_option maxHeartbeats 8000000
namespace Mine
theorem dec1_call {w : World} {loose : List Str} {mean : ExcName → Option Value} {mg mb : Str → Option Value} {dp un : Nat} {gd : Option (List Code)} {cn : Str} {cs : Scope} {Lc ac : Addr} {ccd : Value} {cl : List (Str × Addr)} {outer : List Env}
    {s : Shared} {Q E : Value → Shared → Prop} {tx : Tok} (X : (Mine.hd.heap_39 w.params).In s.heap) (T : Top Mine.hd.view_39 loose mean mg mb s.heap)
    (hd : dp + 12 < recursionLimit) (hu : un + 120 < cLine)
    (hret : ∀ (t : Tok) h' tk', Kept s.heap h' → Q (.bytes #[129, 164, 7] t) { s with heap := h', toks := tk' }) :
    wpAny (model PySem.Challenge.rw_pa0071_01.row.prog w) (ktrTop dp un gd cn cs Lc ac ccd cl outer) (call (.ref 102) [.str (Str.ofString "gaQH") tx]) Q E s := by
  revert X; k_fill; intro X
  k_dflt (refine' enter X T ?k6 ?k7 ?k8 ?k9 ?kB ?_ ?c2 ?c3 ?c4 ?c5; (case k6 => k_is); (case k7 => k_is); (case k8 => ktr_room); (case k9 => first | exact BindsTo.of_eq rfl | exact binds_K (by k_in) rfl (by k_is) rfl rfl rfl); (case c5 => decide); (case kB => exact locs rfl); (case c2 => exact rfl); (case c3 => exact rfl); (case c4 => exact rfl))
  intro L' h₁ F N
  (try dsimp only); (try k_fold)
  repeat' ((fail_if_success (with_reducible show wpAny _ _ (call (Value.ref _) _ _) _ _ _)); (first | (k_unfold; (try dsimp only)) | (k_end; wrow_close) | walk1 | (dsimp only; walk1) | (leave1; walk_say "STEP leave1"; try dsimp only)))
  k_dflt (refine' bfd1_call (X.keeps F.keep) (T.keeps F.keep) ?hd ?hu ?_)
  case hd => ((try simp only [depth_deeper]); (try dsimp only [ktrTop]); omega)
  case hu => ((try simp only [units_deeper]); (try dsimp only [ktrTop]); omega)
  intro t9 h9 tk9 k9
  have F9 := k9.fr F
  have N9 : News s.heap L' h9 [] := News.nil
  clear F N
  (try dsimp only)
  repeat' ((fail_if_success (with_reducible show wpAny _ _ (call (Value.ref _) _ _) _ _ _)); (first | (k_unfold; (try dsimp only)) | (k_end; wrow_close) | walk1 | (dsimp only; walk1) | (leave1; walk_say "STEP leave1"; try dsimp only)))
  rename Fr _ _ _ _ => F10
  k_dflt (refine' a2b_call (res := [129, 164, 7]) (X.keeps F10.keep) (T.keeps F10.keep) ?hd ?hu ?hb ?hst ?hrs ?hv ?_)
  case hd => ((try simp only [depth_deeper]); (try dsimp only [ktrTop]); omega)
  case hu => ((try simp only [units_deeper]); (try dsimp only [ktrTop]); omega)
  case hb => decide
  case hst => decide +kernel
  case hrs => decide
  case hv => decide +kernel
  intro t8 h8 tk8 k8
  exact hret _ _ _ (fun b o e => k8 b o (F10.keep b o e))
theorem dec2_call {w : World} {loose : List Str} {mean : ExcName → Option Value} {mg mb : Str → Option Value} {dp un : Nat} {gd : Option (List Code)} {cn : Str} {cs : Scope} {Lc ac : Addr} {ccd : Value} {cl : List (Str × Addr)} {outer : List Env}
    {s : Shared} {Q E : Value → Shared → Prop} {tx : Tok} (X : (Mine.hd.heap_39 w.params).In s.heap) (T : Top Mine.hd.view_39 loose mean mg mb s.heap)
    (hd : dp + 12 < recursionLimit) (hu : un + 120 < cLine)
    (hret : ∀ (t : Tok) h' tk', Kept s.heap h' → Q (.bytes #[65, 237, 77] t) { s with heap := h', toks := tk' }) :
    wpAny (model PySem.Challenge.rw_pa0071_01.row.prog w) (ktrTop dp un gd cn cs Lc ac ccd cl outer) (call (.ref 102) [.str (Str.ofString "Qe1N") tx]) Q E s := by
  revert X; k_fill; intro X
  k_dflt (refine' enter X T ?k6 ?k7 ?k8 ?k9 ?kB ?_ ?c2 ?c3 ?c4 ?c5; (case k6 => k_is); (case k7 => k_is); (case k8 => ktr_room); (case k9 => first | exact BindsTo.of_eq rfl | exact binds_K (by k_in) rfl (by k_is) rfl rfl rfl); (case c5 => decide); (case kB => exact locs rfl); (case c2 => exact rfl); (case c3 => exact rfl); (case c4 => exact rfl))
  intro L' h₁ F N
  (try dsimp only); (try k_fold)
  repeat' ((fail_if_success (with_reducible show wpAny _ _ (call (Value.ref _) _ _) _ _ _)); (first | (k_unfold; (try dsimp only)) | (k_end; wrow_close) | walk1 | (dsimp only; walk1) | (leave1; walk_say "STEP leave1"; try dsimp only)))
  k_dflt (refine' bfd2_call (X.keeps F.keep) (T.keeps F.keep) ?hd ?hu ?_)
  case hd => ((try simp only [depth_deeper]); (try dsimp only [ktrTop]); omega)
  case hu => ((try simp only [units_deeper]); (try dsimp only [ktrTop]); omega)
  intro t9 h9 tk9 k9
  have F9 := k9.fr F
  have N9 : News s.heap L' h9 [] := News.nil
  clear F N
  (try dsimp only)
  repeat' ((fail_if_success (with_reducible show wpAny _ _ (call (Value.ref _) _ _) _ _ _)); (first | (k_unfold; (try dsimp only)) | (k_end; wrow_close) | walk1 | (dsimp only; walk1) | (leave1; walk_say "STEP leave1"; try dsimp only)))
  rename Fr _ _ _ _ => F10
  k_dflt (refine' a2b_call (res := [65, 237, 77]) (X.keeps F10.keep) (T.keeps F10.keep) ?hd ?hu ?hb ?hst ?hrs ?hv ?_)
  case hd => ((try simp only [depth_deeper]); (try dsimp only [ktrTop]); omega)
  case hu => ((try simp only [units_deeper]); (try dsimp only [ktrTop]); omega)
  case hb => decide
  case hst => decide +kernel
  case hrs => decide
  case hv => decide +kernel
  intro t8 h8 tk8 k8
  exact hret _ _ _ (fun b o e => k8 b o (F10.keep b o e))
theorem dec3_call {w : World} {loose : List Str} {mean : ExcName → Option Value} {mg mb : Str → Option Value} {dp un : Nat} {gd : Option (List Code)} {cn : Str} {cs : Scope} {Lc ac : Addr} {ccd : Value} {cl : List (Str × Addr)} {outer : List Env}
    {s : Shared} {Q E : Value → Shared → Prop} {tx : Tok} (X : (Mine.hd.heap_39 w.params).In s.heap) (T : Top Mine.hd.view_39 loose mean mg mb s.heap)
    (hd : dp + 12 < recursionLimit) (hu : un + 120 < cLine)
    (hret : ∀ (t : Tok) h' tk', Kept s.heap h' → Q (.bytes #[169, 255, 147] t) { s with heap := h', toks := tk' }) :
    wpAny (model PySem.Challenge.rw_pa0071_01.row.prog w) (ktrTop dp un gd cn cs Lc ac ccd cl outer) (call (.ref 102) [.str (Str.ofString "qf+T") tx]) Q E s := by
  revert X; k_fill; intro X
  k_dflt (refine' enter X T ?k6 ?k7 ?k8 ?k9 ?kB ?_ ?c2 ?c3 ?c4 ?c5; (case k6 => k_is); (case k7 => k_is); (case k8 => ktr_room); (case k9 => first | exact BindsTo.of_eq rfl | exact binds_K (by k_in) rfl (by k_is) rfl rfl rfl); (case c5 => decide); (case kB => exact locs rfl); (case c2 => exact rfl); (case c3 => exact rfl); (case c4 => exact rfl))
  intro L' h₁ F N
  (try dsimp only); (try k_fold)
  repeat' ((fail_if_success (with_reducible show wpAny _ _ (call (Value.ref _) _ _) _ _ _)); (first | (k_unfold; (try dsimp only)) | (k_end; wrow_close) | walk1 | (dsimp only; walk1) | (leave1; walk_say "STEP leave1"; try dsimp only)))
  k_dflt (refine' bfd3_call (X.keeps F.keep) (T.keeps F.keep) ?hd ?hu ?_)
  case hd => ((try simp only [depth_deeper]); (try dsimp only [ktrTop]); omega)
  case hu => ((try simp only [units_deeper]); (try dsimp only [ktrTop]); omega)
  intro t9 h9 tk9 k9
  have F9 := k9.fr F
  have N9 : News s.heap L' h9 [] := News.nil
  clear F N
  (try dsimp only)
  repeat' ((fail_if_success (with_reducible show wpAny _ _ (call (Value.ref _) _ _) _ _ _)); (first | (k_unfold; (try dsimp only)) | (k_end; wrow_close) | walk1 | (dsimp only; walk1) | (leave1; walk_say "STEP leave1"; try dsimp only)))
  rename Fr _ _ _ _ => F10
  k_dflt (refine' a2b_call (res := [169, 255, 147]) (X.keeps F10.keep) (T.keeps F10.keep) ?hd ?hu ?hb ?hst ?hrs ?hv ?_)
  case hd => ((try simp only [depth_deeper]); (try dsimp only [ktrTop]); omega)
  case hu => ((try simp only [units_deeper]); (try dsimp only [ktrTop]); omega)
  case hb => decide
  case hst => decide +kernel
  case hrs => decide
  case hv => decide +kernel
  intro t8 h8 tk8 k8
  exact hret _ _ _ (fun b o e => k8 b o (F10.keep b o e))
theorem dec4_call {w : World} {loose : List Str} {mean : ExcName → Option Value} {mg mb : Str → Option Value} {dp un : Nat} {gd : Option (List Code)} {cn : Str} {cs : Scope} {Lc ac : Addr} {ccd : Value} {cl : List (Str × Addr)} {outer : List Env}
    {s : Shared} {Q E : Value → Shared → Prop} {tx : Tok} (X : (Mine.hd.heap_39 w.params).In s.heap) (T : Top Mine.hd.view_39 loose mean mg mb s.heap)
    (hd : dp + 12 < recursionLimit) (hu : un + 120 < cLine)
    (hret : ∀ (t : Tok) h' tk', Kept s.heap h' → Q (.bytes #[19, 128, 217] t) { s with heap := h', toks := tk' }) :
    wpAny (model PySem.Challenge.rw_pa0071_01.row.prog w) (ktrTop dp un gd cn cs Lc ac ccd cl outer) (call (.ref 102) [.str (Str.ofString "E4DZ") tx]) Q E s := by
  revert X; k_fill; intro X
  k_dflt (refine' enter X T ?k6 ?k7 ?k8 ?k9 ?kB ?_ ?c2 ?c3 ?c4 ?c5; (case k6 => k_is); (case k7 => k_is); (case k8 => ktr_room); (case k9 => first | exact BindsTo.of_eq rfl | exact binds_K (by k_in) rfl (by k_is) rfl rfl rfl); (case c5 => decide); (case kB => exact locs rfl); (case c2 => exact rfl); (case c3 => exact rfl); (case c4 => exact rfl))
  intro L' h₁ F N
  (try dsimp only); (try k_fold)
  repeat' ((fail_if_success (with_reducible show wpAny _ _ (call (Value.ref _) _ _) _ _ _)); (first | (k_unfold; (try dsimp only)) | (k_end; wrow_close) | walk1 | (dsimp only; walk1) | (leave1; walk_say "STEP leave1"; try dsimp only)))
  k_dflt (refine' bfd4_call (X.keeps F.keep) (T.keeps F.keep) ?hd ?hu ?_)
  case hd => ((try simp only [depth_deeper]); (try dsimp only [ktrTop]); omega)
  case hu => ((try simp only [units_deeper]); (try dsimp only [ktrTop]); omega)
  intro t9 h9 tk9 k9
  have F9 := k9.fr F
  have N9 : News s.heap L' h9 [] := News.nil
  clear F N
  (try dsimp only)
  repeat' ((fail_if_success (with_reducible show wpAny _ _ (call (Value.ref _) _ _) _ _ _)); (first | (k_unfold; (try dsimp only)) | (k_end; wrow_close) | walk1 | (dsimp only; walk1) | (leave1; walk_say "STEP leave1"; try dsimp only)))
  rename Fr _ _ _ _ => F10
  k_dflt (refine' a2b_call (res := [19, 128, 217]) (X.keeps F10.keep) (T.keeps F10.keep) ?hd ?hu ?hb ?hst ?hrs ?hv ?_)
  case hd => ((try simp only [depth_deeper]); (try dsimp only [ktrTop]); omega)
  case hu => ((try simp only [units_deeper]); (try dsimp only [ktrTop]); omega)
  case hb => decide
  case hst => decide +kernel
  case hrs => decide
  case hv => decide +kernel
  intro t8 h8 tk8 k8
  exact hret _ _ _ (fun b o e => k8 b o (F10.keep b o e))
end Mine
end
section
theorem Mine.rstB7 {M : PySem.Model} {A : PySem.Around} {pos : PySem.Pos} {env : PySem.Env} {Q : PySem.Flow → PySem.Shared → Prop} {E : PySem.Value → PySem.Shared → Prop} {s : PySem.Shared} (h : PySem.wpAny M A (PySem.exec (.Pass pos) env) Q E s) : PySem.wpAny M A (PySem.exec (.Pass pos) env) Q E s := by
  w_top off
  k_with_none
  first | (walk1; fail) | exact h
open PySem PySem.W PyProof.Rows PySem.Calls PyProof.V PySem.Spec
set_option Elab.async false
set_option linter.unusedVariables false
set_option maxRecDepth 100000
set_option maxHeartbeats 8000000
namespace Mine
theorem enc_call {w : World} {loose : List Str} {mean : ExcName → Option Value} {mg mb : Str → Option Value} {dp un : Nat} {gd : Option (List Code)} {cn : Str} {cs : Scope} {Lc ac : Addr} {ccd : Value} {cl : List (Str × Addr)} {outer : List Env}
    {s : Shared} {Q E : Value → Shared → Prop} {b : Array UInt8} {tb : Tok} (X : (Mine.hd.heap_39 w.params).In s.heap) (T : Top Mine.hd.view_39 loose mean mg mb s.heap)
    (hd : dp + 12 < recursionLimit) (hu : un + 120 < cLine) (hb : b.size = 3) {res : List Int} {lz : Int} (hst : stB (KBw.bInts b) = (0, lz, res)) (hrs : ∀ e ∈ res, 0 ≤ e ∧ e < 256)
    (hret : ∀ (t : Tok) h' tk', Kept s.heap h' → Q (.bytes (byteArr res) t) { s with heap := h', toks := tk' }) :
    wpAny (model PySem.Challenge.rw_pa0071_01.row.prog w) (ktrTop dp un gd cn cs Lc ac ccd cl outer) (call (.ref 94) [.bytes b tb]) Q E s := by
  revert X; k_fill; intro X
  k_dflt (refine' enter X T ?k6 ?k7 ?k8 ?k9 ?kB ?_ ?c2 ?c3 ?c4 ?c5; (case k6 => k_is); (case k7 => k_is); (case k8 => ktr_room); (case k9 => first | exact BindsTo.of_eq rfl | exact binds_K (by k_in) rfl (by k_is) rfl rfl rfl); (case c5 => decide); (case kB => exact locs rfl); (case c2 => exact rfl); (case c3 => exact rfl); (case c4 => exact rfl))
  intro L' h₁ F N
  (try dsimp only); (try k_fold)
  repeat' ((fail_if_success (with_reducible show wpAny _ _ (call (Value.ref _) _ _) _ _ _)); (first | (k_unfold; (try dsimp only)) | (k_end; wrow_close) | walk1 | (dsimp only; walk1) | (leave1; walk_say "STEP leave1"; try dsimp only)))
  k_dflt (refine' b2a_call (X.keeps F.keep) (T.keeps F.keep) ?hd ?hu hb hst hrs ?_)
  case hd => ((try simp only [depth_deeper]); (try dsimp only [ktrTop]); omega)
  case hu => ((try simp only [units_deeper]); (try dsimp only [ktrTop]); omega)
  intro t9 h9 tk9 k9
  have F9 := k9.fr F
  have N9 : News s.heap L' h9 [] := News.nil
  clear F N
  (try dsimp only)
  k_steps
  exact hret _ _ _ (Fr.keep (by assumption))
end Mine
end
section
theorem Mine.rstSub {M : PySem.Model} {A : PySem.Around} {pos : PySem.Pos} {env : PySem.Env} {Q : PySem.Flow → PySem.Shared → Prop} {E : PySem.Value → PySem.Shared → Prop} {s : PySem.Shared} (h : PySem.wpAny M A (PySem.exec (.Pass pos) env) Q E s) : PySem.wpAny M A (PySem.exec (.Pass pos) env) Q E s := by
  w_top off
  k_with_none
  first | (walk1; fail) | exact h
open PySem PySem.W PyProof.Rows PySem.Calls
set_option Elab.async false
set_option maxRecDepth 100000
set_option maxHeartbeats 8000000
namespace Mine
def sub0 (a b : Str) : Int := if a = b then 0 else if Txt.lower a = Txt.lower b then 1 else 2
theorem sub0_1 {a b : Str} (h : (a == b) = true) : 0 = sub0 a b := by unfold sub0; rw [if_pos (beq_iff_eq.mp h)]
theorem sub0_2 {a b : Str} (h : (a == b) = false) (h2 : (Txt.lower a == Txt.lower b) = true) : 1 = sub0 a b := by unfold sub0; rw [if_neg (beq_eq_false_iff_ne.mp h), if_pos (beq_iff_eq.mp h2)]
theorem sub0_3 {a b : Str} (h : (a == b) = false) (h2 : (Txt.lower a == Txt.lower b) = false) : 2 = sub0 a b := by unfold sub0; rw [if_neg (beq_eq_false_iff_ne.mp h), if_neg (beq_eq_false_iff_ne.mp h2)]
theorem sub_call {w : World} {loose : List Str} {mean : ExcName → Option Value} {mg mb : Str → Option Value} {dp un : Nat} {gd : Option (List Code)} {cn : Str} {cs : Scope} {Lc ac : Addr} {ccd : Value} {cl : List (Str × Addr)} {outer : List Env}
    {s : Shared} {Q E : Value → Shared → Prop} {a b : Str} {ta tb : Tok} (X : (Mine.hd.heap_39 w.params).In s.heap) (T : Top Mine.hd.view_39 loose mean mg mb s.heap)
    (la : a.length ≤ 64) (lb : b.length ≤ 64) (hd : dp + 1 < recursionLimit) (hu : un + 8 < cLine)
    (hret : ∀ t h' tk', Kept s.heap h' → Q (.int (sub0 a b) t) { s with heap := h', toks := tk' }) :
    wpAny (model PySem.Challenge.rw_pa0071_01.row.prog w) (ktrTop dp un gd cn cs Lc ac ccd cl outer) (call (.ref 156) [.str a ta, .str b tb]) Q E s := by
  revert X; k_fill; intro X
  k_dflt (refine' enter X T ?k6 ?k7 ?k8 ?k9 ?kB ?_ ?c2 ?c3 ?c4 ?c5; (case k6 => k_is); (case k7 => k_is); (case k8 => ktr_room); (case k9 => exact BindsTo.of_eq rfl); (case c5 => decide); (case kB => exact locs rfl); (case c2 => exact rfl); (case c3 => exact rfl); (case c4 => exact rfl))
  intro L' h₁ F N
  (try dsimp only); (try k_fold)
  k_steps
  all_goals (refine ret_int (s := s) hret ?_ (Fr.keep (by assumption)))
  all_goals first | exact sub0_1 (by assumption) | exact sub0_2 (by assumption) (by assumption) | exact sub0_3 (by assumption) (by assumption)
end Mine
end
section
set_option Elab.async false
namespace Mine
/-! the plain law: edit distance by alignments -/
structure Cost (sc : Nat → Nat → Int) : Prop where
  same : ∀ x, sc x x = 0
  symm : ∀ x y, sc x y = sc y x
  nonneg : ∀ x y, 0 ≤ sc x y
  le2 : ∀ x y, sc x y ≤ 2
def D (sc : Nat → Nat → Int) : List Nat → List Nat → Int
  | [], b => 2 * (b.length : Int)
  | x :: a, [] => 2 * ((x :: a).length : Int)
  | x :: a, y :: b => min (min (D sc a (y :: b) + 2) (D sc (x :: a) b + 2)) (D sc a b + sc x y)
termination_by a b => a.length + b.length
inductive Al (sc : Nat → Nat → Int) : List Nat → List Nat → Int → Prop
  | nil : Al sc [] [] 0
  | del {a b c} (x : Nat) : Al sc a b c → Al sc (x :: a) b (c + 2)
  | ins {a b c} (y : Nat) : Al sc a b c → Al sc a (y :: b) (c + 2)
  | sub {a b c} (x y : Nat) : Al sc a b c → Al sc (x :: a) (y :: b) (c + sc x y)
variable {sc : Nat → Nat → Int}
theorem D_nil_left (b : List Nat) : D sc [] b = 2 * (b.length : Int) := by rw [D]
theorem D_nil_right (a : List Nat) : D sc a [] = 2 * (a.length : Int) := by
  cases a with
  | nil => rw [D]
  | cons x a => rw [D]
theorem D_cons (x y : Nat) (a b : List Nat) : D sc (x :: a) (y :: b) = min (min (D sc a (y :: b) + 2) (D sc (x :: a) b + 2)) (D sc a b + sc x y) := by rw [D]
theorem al_nil_left : ∀ b : List Nat, Al sc [] b (2 * (b.length : Int))
  | [] => by simpa using Al.nil
  | y :: b => by
    have := Al.ins y (al_nil_left b)
    have e : 2 * (b.length : Int) + 2 = 2 * ((y :: b).length : Int) := by simp only [List.length_cons]; omega
    rw [← e]; exact this
theorem al_nil_right : ∀ a : List Nat, Al sc a [] (2 * (a.length : Int))
  | [] => by simpa using Al.nil
  | y :: b => by
    have := Al.del y (al_nil_right b)
    have e : 2 * (b.length : Int) + 2 = 2 * ((y :: b).length : Int) := by simp only [List.length_cons]; omega
    rw [← e]; exact this
theorem al_D : ∀ a b : List Nat, Al sc a b (D sc a b)
  | [], b => by rw [D_nil_left]; exact al_nil_left b
  | x :: a, [] => by rw [D_nil_right]; exact al_nil_right (x :: a)
  | x :: a, y :: b => by
    have h1 := Al.del x (al_D a (y :: b))
    have h2 := Al.ins y (al_D (x :: a) b)
    have h3 := Al.sub x y (al_D a b)
    rw [D_cons]
    by_cases q1 : D sc a (y :: b) + 2 ≤ D sc (x :: a) b + 2
    · rw [show min (D sc a (y :: b) + 2) (D sc (x :: a) b + 2) = D sc a (y :: b) + 2 by omega]
      by_cases q2 : D sc a (y :: b) + 2 ≤ D sc a b + sc x y
      · rw [show min (D sc a (y :: b) + 2) (D sc a b + sc x y) = D sc a (y :: b) + 2 by omega]; exact h1
      · rw [show min (D sc a (y :: b) + 2) (D sc a b + sc x y) = D sc a b + sc x y by omega]; exact h3
    · rw [show min (D sc a (y :: b) + 2) (D sc (x :: a) b + 2) = D sc (x :: a) b + 2 by omega]
      by_cases q2 : D sc (x :: a) b + 2 ≤ D sc a b + sc x y
      · rw [show min (D sc (x :: a) b + 2) (D sc a b + sc x y) = D sc (x :: a) b + 2 by omega]; exact h2
      · rw [show min (D sc (x :: a) b + 2) (D sc a b + sc x y) = D sc a b + sc x y by omega]; exact h3
termination_by a b => a.length + b.length
theorem D_le {a b : List Nat} {c : Int} (h : Al sc a b c) : D sc a b ≤ c := by
  induction h with
  | nil => rw [D_nil_left]; simp
  | @del a b c x h ih =>
    cases b with
    | nil => rw [D_nil_right] at ih ⊢; simp only [List.length_cons]; omega
    | cons y b => rw [D_cons]; omega
  | @ins a b c y h ih =>
    cases a with
    | nil => rw [D_nil_left] at ih ⊢; simp only [List.length_cons]; omega
    | cons x a => rw [D_cons]; omega
  | sub x y h ih => rw [D_cons]; omega
theorem al_append {a b a' b' : List Nat} {c c' : Int} (h : Al sc a b c) (h' : Al sc a' b' c') : Al sc (a ++ a') (b ++ b') (c + c') := by
  induction h with
  | nil => simpa using h'
  | @del a b c x h ih =>
    have := Al.del x ih
    rw [show c + 2 + c' = c + c' + 2 by omega]; exact this
  | @ins a b c y h ih =>
    have := Al.ins y ih
    rw [show c + 2 + c' = c + c' + 2 by omega]; exact this
  | @sub a b c x y h ih =>
    have := Al.sub x y ih
    rw [show c + sc x y + c' = c + c' + sc x y by omega]; exact this
theorem al_rev {a b : List Nat} {c : Int} (h : Al sc a b c) : Al sc a.reverse b.reverse c := by
  induction h with
  | nil => exact .nil
  | @del a b c x h ih =>
    have := al_append ih (Al.del x Al.nil)
    simpa using this
  | @ins a b c y h ih =>
    have := al_append ih (Al.ins y Al.nil)
    simpa using this
  | @sub a b c x y h ih =>
    have := al_append ih (Al.sub x y Al.nil)
    simpa using this
theorem D_rev (a b : List Nat) : D sc a.reverse b.reverse = D sc a b := by
  have h1 := D_le (al_rev (al_D (sc := sc) a b))
  have h2 := D_le (al_rev (al_D (sc := sc) a.reverse b.reverse))
  rw [List.reverse_reverse, List.reverse_reverse] at h2
  omega
theorem al_symm (C : Cost sc) {a b : List Nat} {c : Int} (h : Al sc a b c) : Al sc b a c := by
  induction h with
  | nil => exact .nil
  | del x h ih => exact .ins x ih
  | ins y h ih => exact .del y ih
  | sub x y h ih => rw [C.symm x y]; exact .sub y x ih
theorem D_symm (C : Cost sc) (a b : List Nat) : D sc a b = D sc b a := by
  have h1 := D_le (al_symm C (al_D (sc := sc) a b))
  have h2 := D_le (al_symm C (al_D (sc := sc) b a))
  omega
theorem D_snoc (a b : List Nat) (x y : Nat) : D sc (a ++ [x]) (b ++ [y]) = min (min (D sc a (b ++ [y]) + 2) (D sc (a ++ [x]) b + 2)) (D sc a b + sc x y) := by
  have e := D_cons (sc := sc) x y a.reverse b.reverse
  have e1 : (x :: a.reverse) = (a ++ [x]).reverse := by simp
  have e2 : (y :: b.reverse) = (b ++ [y]).reverse := by simp
  rw [e1, e2, D_rev, D_rev, D_rev, D_rev] at e
  exact e
theorem al_nonneg (C : Cost sc) {a b : List Nat} {c : Int} (h : Al sc a b c) : 0 ≤ c := by
  induction h with
  | nil => omega
  | del x h ih => omega
  | ins y h ih => omega
  | sub x y h ih => have := C.nonneg x y; omega
theorem D_nonneg (C : Cost sc) (a b : List Nat) : 0 ≤ D sc a b := al_nonneg C (al_D a b)
theorem al_shrink (C : Cost sc) {a b' : List Nat} {c : Int} (h : Al sc a b' c) : ∀ {x : Nat} {b : List Nat}, b' = x :: b → ∃ c', Al sc a b c' ∧ c' ≤ c + 2 := by
  induction h with
  | nil => intro x b e; cases e
  | del z h ih => intro x b e; obtain ⟨c', h', l⟩ := ih e; exact ⟨_, .del z h', by omega⟩
  | @ins a b0 c z h ih => intro x b e; cases e; exact ⟨_, h, by omega⟩
  | @sub a b0 c z v h ih => intro x b e; cases e; exact ⟨_, .del z h, by have := C.nonneg z v; omega⟩
theorem D_shrink (C : Cost sc) (a b : List Nat) (x : Nat) : D sc a b ≤ D sc a (x :: b) + 2 := by
  obtain ⟨c', h, l⟩ := al_shrink C (al_D (sc := sc) a (x :: b)) rfl
  have := D_le h
  omega
theorem D_same (C : Cost sc) (x : Nat) (a b : List Nat) : D sc (x :: a) (x :: b) = D sc a b := by
  have h1 := D_shrink C a b x
  have h2 := D_shrink C b a x
  rw [D_symm C b a, D_symm C b (x :: a)] at h2
  rw [D_cons, C.same]
  omega
theorem D_prefix (C : Cost sc) (p a b : List Nat) : D sc (p ++ a) (p ++ b) = D sc a b := by
  induction p with
  | nil => rfl
  | cons x p ih => rw [List.cons_append, List.cons_append, D_same C, ih]
theorem D_suffix (C : Cost sc) (p a b : List Nat) : D sc (a ++ p) (b ++ p) = D sc a b := by
  rw [← D_rev (sc := sc) (a ++ p) (b ++ p), List.reverse_append, List.reverse_append, D_prefix C, D_rev]
theorem al_len (C : Cost sc) {a b : List Nat} {c : Int} (h : Al sc a b c) : 2 * ((b.length : Int) - (a.length : Int)) ≤ c := by
  induction h with
  | nil => simp
  | del x h ih => simp only [List.length_cons]; omega
  | ins y h ih => simp only [List.length_cons]; omega
  | sub x y h ih => have := C.nonneg x y; simp only [List.length_cons]; omega
theorem D_len (C : Cost sc) (a b : List Nat) : 2 * ((b.length : Int) - (a.length : Int)) ≤ D sc a b := al_len C (al_D a b)
theorem D_top (a b : List Nat) : D sc a b ≤ 2 * ((a.length : Int) + (b.length : Int)) := by
  have h := D_le (al_append (al_nil_right (sc := sc) a) (al_nil_left b))
  rw [List.append_nil, List.nil_append] at h
  omega
theorem al_split {a b : List Nat} {c : Int} (h : Al sc a b c) : ∀ {b1 b2 : List Nat}, b = b1 ++ b2 → ∃ a1 a2 c1 c2, a = a1 ++ a2 ∧ Al sc a1 b1 c1 ∧ Al sc a2 b2 c2 ∧ c = c1 + c2 := by
  induction h with
  | nil =>
    intro b1 b2 e
    have e' := e.symm
    rw [List.append_eq_nil_iff] at e'
    obtain ⟨rfl, rfl⟩ := e'
    exact ⟨[], [], 0, 0, rfl, .nil, .nil, rfl⟩
  | del x h ih =>
    intro b1 b2 e
    obtain ⟨a1, a2, c1, c2, rfl, h1, h2, rfl⟩ := ih e
    exact ⟨x :: a1, a2, c1 + 2, c2, rfl, .del x h1, h2, by omega⟩
  | @ins a b c y h ih =>
    intro b1 b2 e
    cases b1 with
    | nil =>
      rw [List.nil_append] at e; subst e
      exact ⟨[], a, 0, c + 2, rfl, .nil, .ins y h, by omega⟩
    | cons z b1 =>
      rw [List.cons_append] at e
      cases e
      obtain ⟨a1, a2, c1, c2, rfl, h1, h2, rfl⟩ := ih rfl
      exact ⟨a1, a2, c1 + 2, c2, rfl, .ins _ h1, h2, by omega⟩
  | @sub a b c x y h ih =>
    intro b1 b2 e
    cases b1 with
    | nil =>
      rw [List.nil_append] at e; subst e
      exact ⟨[], x :: a, 0, c + sc x y, rfl, .nil, .sub x y h, by omega⟩
    | cons z b1 =>
      rw [List.cons_append] at e
      cases e
      obtain ⟨a1, a2, c1, c2, rfl, h1, h2, rfl⟩ := ih rfl
      exact ⟨x :: a1, a2, c1 + sc x y, c2, rfl, .sub x y h1, h2, by omega⟩
theorem D_split (C : Cost sc) (a b1 b2 : List Nat) : ∃ k, k ≤ a.length ∧ D sc (a.take k) b1 ≤ D sc a (b1 ++ b2) := by
  obtain ⟨a1, a2, c1, c2, e, h1, h2, ec⟩ := al_split (al_D (sc := sc) a (b1 ++ b2)) rfl
  refine ⟨a1.length, by rw [e]; simp, ?_⟩
  have e1 : a.take a1.length = a1 := by rw [e]; simp
  rw [e1]
  have := D_le h1
  have := al_nonneg C h2
  omega
theorem D_one (C : Cost sc) (x : Nat) (b : List Nat) (h : b ≠ []) : D sc [x] b ≤ 2 * (b.length : Int) := by
  cases b with
  | nil => exact absurd rfl h
  | cons y b =>
    rw [D_cons, D_nil_left (sc := sc) b]
    have := C.le2 x y
    simp only [List.length_cons]
    omega
/-- a row all of whose places lie above c -/
theorem row_above (C : Cost sc) {a b : List Nat} {j : Nat} {c : Int} (ha : a ≠ []) (hj : j < b.length) (h : ∀ k, 1 ≤ k → k ≤ a.length → c < D sc (a.take k) (b.take (j + 1))) : c < D sc a b := by
  obtain ⟨k, hk, l⟩ := D_split C a (b.take (j + 1)) (b.drop (j + 1))
  rw [List.take_append_drop] at l
  cases k with
  | zero =>
    rw [List.take_zero, D_nil_left] at l
    cases a with
    | nil => exact absurd rfl ha
    | cons x a =>
      have h1 := h 1 (Nat.le_refl _) (by simp)
      rw [List.take_succ_cons, List.take_zero] at h1
      have h2 := D_one C x (b.take (j + 1)) (by
        intro q
        have := congrArg List.length q
        rw [List.length_take] at this
        simp only [List.length_nil] at this
        omega)
      omega
  | succ k => have := h (k + 1) (by omega) hk; omega
end Mine
end
section
theorem Mine.rstTx {M : PySem.Model} {A : PySem.Around} {pos : PySem.Pos} {env : PySem.Env} {Q : PySem.Flow → PySem.Shared → Prop} {E : PySem.Value → PySem.Shared → Prop} {s : PySem.Shared} (h : PySem.wpAny M A (PySem.exec (.Pass pos) env) Q E s) : PySem.wpAny M A (PySem.exec (.Pass pos) env) Q E s := by
  w_top off
  k_with_none
  first | (walk1; fail) | exact h
open PySem PySem.W PyProof.Rows PySem.Builtin PySem.Builtin.Str
set_option Elab.async false
namespace Mine
abbrev tl (x : Str) : List Nat := x.cps.toList
def sg (c : Nat) : Str := ⟨#[c]⟩
theorem sg_inj {c d : Nat} (h : sg c = sg d) : c = d := by
  unfold sg at h
  injection h with h
  simpa using h
theorem tl_len (x : Str) : (tl x).length = x.length := by unfold tl Str.length; simp
theorem tl_inj {x y : Str} (h : tl x = tl y) : x = y := by
  cases x; cases y
  simp only [tl] at h
  rw [Array.toList_inj] at h
  rw [h]
theorem tl_slice_from {x : Str} {k : Int} (h0 : 0 ≤ k) (h1 : k ≤ (x.length : Int)) : tl (Txt.slice x (some k) none) = (tl x).drop k.toNat := by
  rw [slice_from_eq (b := (x.length : Int)) h0 h1 rfl]
  show (List.take _ (List.drop _ _)) = _
  rw [List.take_of_length_le]
  rw [List.length_drop, tl_len]
  omega
theorem slice_none (x : Str) : Txt.slice x none none = x := by
  unfold Txt.slice
  rw [if_pos]
  unfold strSliceIndices sliceRange
  simp
  omega
theorem tl_slice_to {x : Str} {k : Int} (h0 : 0 ≤ k) (h1 : k ≤ (x.length : Int)) : tl (Txt.slice x none (some k)) = (tl x).take k.toNat := by
  have := slice_closes_toL (x := x) h0 h1
  rw [beq_iff_eq] at this
  rw [this]
  simp [tl]
theorem slice_neg {x : Str} {j : Int} (h0 : j < 0) (h1 : 0 ≤ j + (x.length : Int)) : Txt.slice x none (some j) = Txt.slice x none (some (j + (x.length : Int))) := by
  have e : strSliceIndices none (some j) 1 x.length = strSliceIndices none (some (j + (x.length : Int))) 1 x.length := by
    have h2 : (1 : Int) > 0 := by decide
    have h3 : ¬ (j + (x.length : Int) < 0) := by omega
    simp only [strSliceIndices, h0, h2, h3, if_true, if_false]
  unfold Txt.slice
  rw [e]
theorem tl_slice_neg {x : Str} {j : Int} (h0 : j < 0) (h1 : 0 ≤ j + (x.length : Int)) : tl (Txt.slice x none (some j)) = (tl x).take (j + (x.length : Int)).toNat := by
  rw [slice_neg h0 h1, tl_slice_to h1 (by omega)]
theorem item_at {x : Str} {k : Int} (h0 : 0 ≤ k) (h1 : k < (x.length : Int)) : Txt.item x k = sg ((tl x).getD k.toNat 0) := by
  unfold Txt.item Txt.charAt seqIndex? sg
  simp only [if_neg (show ¬ k < 0 by omega), h0, h1, decide_true, Bool.and_self, if_true, Option.bind_some]
  simp [tl, List.getD_eq_getElem?_getD]
theorem item_neg {x : Str} {k : Int} (h0 : k < 0) (h1 : 0 ≤ k + (x.length : Int)) : Txt.item x k = sg ((tl x).getD (k + (x.length : Int)).toNat 0) := by
  unfold Txt.item Txt.charAt seqIndex? sg
  simp only [if_pos h0, h1, show k + (x.length : Int) < (x.length : Int) by omega, decide_true, Bool.and_self, if_true, Option.bind_some]
  simp [tl, List.getD_eq_getElem?_getD]
def sc (x y : Nat) : Int := sub0 (sg x) (sg y)
theorem cost : Cost sc where
  same x := by simp [sc, sub0]
  symm x y := by
    unfold sc sub0
    simp only [eq_comm (a := sg y) (b := sg x), eq_comm (a := Txt.lower (sg y)) (b := Txt.lower (sg x))]
  nonneg x y := by unfold sc sub0; split <;> (try split) <;> omega
  le2 x y := by unfold sc sub0; split <;> (try split) <;> omega
theorem take_next {l l' : List Nat} {k : Nat} (h : l.take k = l'.take k) (h1 : k < l.length) (h2 : k < l'.length) (e : l.getD k 0 = l'.getD k 0) : l.take (k + 1) = l'.take (k + 1) := by
  rw [List.take_add_one, List.take_add_one, h]
  rw [List.getD_eq_getElem?_getD, List.getD_eq_getElem?_getD] at e
  rw [List.getElem?_eq_getElem h1, List.getElem?_eq_getElem h2] at e ⊢
  simp only [Option.getD_some] at e
  rw [e]
end Mine
end
section
theorem Mine.rstLev1 {M : PySem.Model} {A : PySem.Around} {pos : PySem.Pos} {env : PySem.Env} {Q : PySem.Flow → PySem.Shared → Prop} {E : PySem.Value → PySem.Shared → Prop} {s : PySem.Shared} (h : PySem.wpAny M A (PySem.exec (.Pass pos) env) Q E s) : PySem.wpAny M A (PySem.exec (.Pass pos) env) Q E s := by
  w_top off
  k_with_none
  first | (walk1; fail) | exact h
open PySem PySem.W PyProof.Rows
set_option Elab.async false
set_option linter.unusedVariables false
set_option maxRecDepth 100000
set_option maxHeartbeats 8000000
namespace Mine
theorem w1_step {a b : Str} {k : Int} (h0 : 0 ≤ k) (ha : k ≤ (a.length : Int)) (hb : k ≤ (b.length : Int)) (ht : (tl a).take k.toNat = (tl b).take k.toNat)
    (fa : (0 ≤ k → k ≤ (a.length : Int) → ((Txt.slice a (some k) none).length : Int) = (a.length : Int) - k) ∧ ((a.length : Int) ≤ k → ((Txt.slice a (some k) none).length : Int) = 0)) (na : ((Txt.slice a (some k) none).length : Int) ≠ 0)
    (fb : (0 ≤ k → k ≤ (b.length : Int) → ((Txt.slice b (some k) none).length : Int) = (b.length : Int) - k) ∧ ((b.length : Int) ≤ k → ((Txt.slice b (some k) none).length : Int) = 0)) (nb : ((Txt.slice b (some k) none).length : Int) ≠ 0)
    (e : (Txt.item a k == Txt.item b k) = true) : 0 ≤ k + 1 ∧ k + 1 ≤ (a.length : Int) ∧ k + 1 ≤ (b.length : Int) ∧ (tl a).take (k + 1).toNat = (tl b).take (k + 1).toNat := by
  have h1 : k < (a.length : Int) := by omega
  have h2 : k < (b.length : Int) := by omega
  refine ⟨by omega, by omega, by omega, ?_⟩
  rw [beq_iff_eq, item_at h0 h1, item_at h0 h2] at e
  rw [show (k + 1).toNat = k.toNat + 1 by omega]
  exact take_next ht (by rw [tl_len]; omega) (by rw [tl_len]; omega) (sg_inj e)
theorem lev_w1 {w : World} {loose : List Str} {mean : ExcName → Option Value} {mg mb : Str → Option Value} {dp un : Nat} {gd : Option (List Code)} {cn : Str} {cs : Scope} {Lc ac : Addr} {ccd : Value} {cl : List (Str × Addr)} {outer : List Env}
    {g : Heap} {L : Addr} {s : Shared} {m : Str → Option Value} {news : List (Addr × Obj)} {Q : Flow → Shared → Prop} {E : Value → Shared → Prop}
    {nm qual : Str} {params : Arguments} {body : List Stmt} {scope : Scope} {dV kV doc pm cdv ct oc : Value} {an od : Option Addr} {osl : Array (Option Value)} {st : Stmt} {a b : Str} {ta tb tp : Tok}
    (hK : (Mine.hd.heap_39 w.params).lookup 163 = some ⟨oc, od, .func (fnOf nm qual params body scope dV kV doc pm an cdv ct), osl⟩)
    (hst : body[2]? = some st)
    (X : (Mine.hd.heap_39 w.params).In g) (T : Top Mine.hd.view_39 loose mean mg mb g)
    (F : Fr g L s.heap m) (N : News g L s.heap news) (hp : m (Str.ofString "pre") = some (.int 0 tp)) (ha : m (Str.ofString "a") = some (.str a ta)) (hb : m (Str.ofString "b") = some (.str b tb))
    (la : a.length ≤ 64) (lb : b.length ≤ 64)
    (hQ : ∀ (k : Int) t m' h' tk', 0 ≤ k → k ≤ (a.length : Int) → k ≤ (b.length : Int) → a.cps.toList.take k.toNat = b.cps.toList.take k.toNat → Fr g L h' m' → News g L h' news →
      m' (Str.ofString "pre") = some (.int k t) → (∀ y, y ≠ Str.ofString "pre" → m' y = m y) → Q .next { s with heap := h', toks := tk' }) :
    wpAny (model PySem.Challenge.rw_pa0071_01.row.prog w) ((ktrTop dp un gd cn cs Lc ac ccd cl outer).deeper (envOf qual scope L 163 cdv)) (exec st (envOf qual scope L 163 cdv)) Q E s := by
  refine wpAny_mono (E := fun _ _ => False) ?_ (fun _ _ x => x) (fun _ _ x => x.elim)
  revert X; k_fill; intro X
  have e := lookEq (by k_is) hK
  clear hK
  obtain ⟨rfl, rfl, rfl, rfl⟩ := useK e
  clear e
  dsimp only [scopeP, qualP, codeP]
  obtain rfl := Option.some.inj hst
  clear hst
  have hpins : ∀ p ∈ [(Str.ofString "pre", Value.int 0 tp), (Str.ofString "a", .str a ta), (Str.ofString "b", .str b tb)], m p.1 = some p.2 := allC hp (allC ha (all1 hb))
  have F1 := pinAll _ F hpins
  clear F
  dsimp only [pinL] at F1
  k_with "state" => exact w1_step (by assumption) (by assumption) (by assumption) (by assumption) (by assumption) (by assumption) (by assumption) (by assumption) (by assumption)
  k_while (fun _ pre => 0 ≤ pre ∧ pre ≤ (a.length : Int) ∧ pre ≤ (b.length : Int) ∧ a.cps.toList.take pre.toNat = b.cps.toList.take pre.toNat) (fun _ pre => a.length - pre.toNat) "pre"
  k_steps
  all_goals (refine hQ _ _ _ _ _ (by assumption) (by assumption) (by assumption) (by assumption) (by assumption) (by assumption) rfl ?_; intro y hy; refine Eq.trans ?_ (unpin hpins y); simp [pinL, hy])
end Mine
end
section
theorem Mine.rstLev2 {M : PySem.Model} {A : PySem.Around} {pos : PySem.Pos} {env : PySem.Env} {Q : PySem.Flow → PySem.Shared → Prop} {E : PySem.Value → PySem.Shared → Prop} {s : PySem.Shared} (h : PySem.wpAny M A (PySem.exec (.Pass pos) env) Q E s) : PySem.wpAny M A (PySem.exec (.Pass pos) env) Q E s := by
  w_top off
  k_with_none
  first | (walk1; fail) | exact h
open PySem PySem.W PyProof.Rows
set_option Elab.async false
set_option linter.unusedVariables false
set_option maxRecDepth 100000
set_option maxHeartbeats 8000000
namespace Mine
section
variable {prog : Program} {w : World} {A : Around} {E : Value → Shared → Prop} {s : Shared} {value slice : Expr} {x : Str} {t : Tok} {h₀ : Heap} {L : Addr} {m : Str → Option Value} {news : List (Addr × Obj)} {Q : Value → Shared → Prop}
theorem my_slice_nn (hF : Fr h₀ L s.heap m) (hN : News h₀ L s.heap news) (h : ∀ h' t' k, Fr h₀ L h' m → News h₀ L h' news → Q (.str x t') { s with heap := h', toks := k })
    (hs : subscripted slice false (.str x t) (.ref s.heap.objs.size) = operate [.ref s.heap.objs.size, .str x t] (getItem (.str x t) (.ref s.heap.objs.size)) := by with_unfolding_all rfl)
    (ht : ∀ r, letTemporaryGo value (.str x t) r = pure () := by intro _; with_unfolding_all rfl) (hsz : x.length ≤ sizeLine := by size_fits) :
    wpAny (model prog w) A (subscriptTail value slice (.str x t) (.ref s.heap.objs.size)) Q E { s with heap := s.heap.push { cls := .type "slice", data := .fields #[.none, .none, .none] } } :=
  slice_strN_nn hF hN (by rw [slice_none]; exact h) hs ht hsz
theorem my_slice_neg {j : Int} {uj : Tok} (hF : Fr h₀ L s.heap m) (hN : News h₀ L s.heap news) (h0 : j < 0) (h1 : 0 ≤ j + (x.length : Int))
    (h : ∀ h' t' k, Fr h₀ L h' m → News h₀ L h' news → ((Txt.slice x none (some j)).length : Int) = (x.length : Int) + j → Q (.str (Txt.slice x none (some j)) t') { s with heap := h', toks := k })
    (hs : subscripted slice false (.str x t) (.ref s.heap.objs.size) = operate [.ref s.heap.objs.size, .str x t] (getItem (.str x t) (.ref s.heap.objs.size)) := by with_unfolding_all rfl)
    (ht : ∀ r, letTemporaryGo value (.str x t) r = pure () := by intro _; with_unfolding_all rfl) (hsz : x.length ≤ sizeLine := by size_fits) :
    wpAny (model prog w) A (subscriptTail value slice (.str x t) (.ref s.heap.objs.size)) Q E { s with heap := s.heap.push { cls := .type "slice", data := .fields #[.none, .int j uj, .none] } } :=
  slice_strN_ns hF hN (fun h' t' k F' N' => h h' t' k F' N' (by
    rw [← tl_len, tl_slice_neg h0 h1, List.length_take, tl_len]; omega)) hs ht hsz
end
theorem w2_start {a b : Str} : (0 : Int) ≤ 0 ∧ 0 ≤ (a.length : Int) + 0 ∧ 0 ≤ (b.length : Int) + 0 ∧ (tl a).drop ((a.length : Int) + 0).toNat = (tl b).drop ((b.length : Int) + 0).toNat := by
  refine ⟨by omega, by omega, by omega, ?_⟩
  rw [List.drop_of_length_le (by rw [tl_len]; omega), List.drop_of_length_le (by rw [tl_len]; omega)]
theorem drop_prev {l l' : List Nat} {i j : Nat} (h : l.drop (i + 1) = l'.drop (j + 1)) (h1 : i < l.length) (h2 : j < l'.length) (e : l.getD i 0 = l'.getD j 0) : l.drop i = l'.drop j := by
  rw [List.drop_eq_getElem_cons h1, List.drop_eq_getElem_cons h2, h]
  rw [List.getD_eq_getElem?_getD, List.getD_eq_getElem?_getD, List.getElem?_eq_getElem h1, List.getElem?_eq_getElem h2] at e
  simp only [Option.getD_some] at e
  rw [e]
theorem w2_step {a b : Str} {k : Int} (h0 : k ≤ 0) (ha : 0 < (a.length : Int) + k) (hb : 0 < (b.length : Int) + k) (ht : (tl a).drop ((a.length : Int) + k).toNat = (tl b).drop ((b.length : Int) + k).toNat)
    (e : (Txt.item a (k - 1) == Txt.item b (k - 1)) = true) :
    k - 1 ≤ 0 ∧ 0 ≤ (a.length : Int) + (k - 1) ∧ 0 ≤ (b.length : Int) + (k - 1) ∧ (tl a).drop ((a.length : Int) + (k - 1)).toNat = (tl b).drop ((b.length : Int) + (k - 1)).toNat := by
  refine ⟨by omega, by omega, by omega, ?_⟩
  rw [beq_iff_eq, item_neg (by omega) (by omega), item_neg (by omega) (by omega)] at e
  have e' := sg_inj e
  refine drop_prev ?_ (by rw [tl_len]; omega) (by rw [tl_len]; omega) ?_
  · rw [show ((a.length : Int) + (k - 1)).toNat + 1 = ((a.length : Int) + k).toNat by omega, show ((b.length : Int) + (k - 1)).toNat + 1 = ((b.length : Int) + k).toNat by omega]; exact ht
  · rw [show ((a.length : Int) + (k - 1)).toNat = (k - 1 + (a.length : Int)).toNat by omega, show ((b.length : Int) + (k - 1)).toNat = (k - 1 + (b.length : Int)).toNat by omega]; exact e'
theorem lev_w2 {w : World} {loose : List Str} {mean : ExcName → Option Value} {mg mb : Str → Option Value} {dp un : Nat} {gd : Option (List Code)} {cn : Str} {cs : Scope} {Lc ac : Addr} {ccd : Value} {cl : List (Str × Addr)} {outer : List Env}
    {g : Heap} {L : Addr} {s : Shared} {m : Str → Option Value} {news : List (Addr × Obj)} {Q : Flow → Shared → Prop} {E : Value → Shared → Prop}
    {nm qual : Str} {params : Arguments} {body : List Stmt} {scope : Scope} {dV kV doc pm cdv ct oc : Value} {an od : Option Addr} {osl : Array (Option Value)} {st : Stmt} {a b : Str} {ta tb tp : Tok}
    (hK : (Mine.hd.heap_39 w.params).lookup 163 = some ⟨oc, od, .func (fnOf nm qual params body scope dV kV doc pm an cdv ct), osl⟩)
    (hst : body[6]? = some st)
    (X : (Mine.hd.heap_39 w.params).In g) (T : Top Mine.hd.view_39 loose mean mg mb g)
    (F : Fr g L s.heap m) (N : News g L s.heap news) (hp : m (Str.ofString "post") = some (.int 0 tp)) (ha : m (Str.ofString "a") = some (.str a ta)) (hb : m (Str.ofString "b") = some (.str b tb))
    (la : a.length ≤ 64) (lb : b.length ≤ 64)
    (hQ : ∀ (k : Int) t m' h' tk', k ≤ 0 → 0 ≤ (a.length : Int) + k → 0 ≤ (b.length : Int) + k → a.cps.toList.drop ((a.length : Int) + k).toNat = b.cps.toList.drop ((b.length : Int) + k).toNat → Fr g L h' m' → News g L h' news →
      m' (Str.ofString "post") = some (.int k t) → (∀ y, y ≠ Str.ofString "post" → m' y = m y) → Q .next { s with heap := h', toks := tk' }) :
    wpAny (model PySem.Challenge.rw_pa0071_01.row.prog w) ((ktrTop dp un gd cn cs Lc ac ccd cl outer).deeper (envOf qual scope L 163 cdv)) (exec st (envOf qual scope L 163 cdv)) Q E s := by
  k_with_none
  k_with "own" => ((with_reducible show wpAny _ _ (subscriptTail _ (Expr.Slice none (some (Expr.BoolOp _ _ _)) none _) _ _) _ _ _); (with_reducible rename Fr _ _ _ _ => F'); (with_reducible rename News _ _ _ _ => N'); first | ((refine my_slice_nn (hsz := ?hsz) (s := ⟨_, _, _, _, _⟩) F' N' ?_); (case hsz => size_fits); intro _ _ _ _ _) | ((refine my_slice_neg (hsz := ?hsz) (s := ⟨_, _, _, _, _⟩) F' N' (by omega) (by omega) ?_); (case hsz => size_fits); intro _ _ _ _ _ _))
  k_with "own" => ((with_reducible show wpAny _ _ (eval (Expr.BoolOp _ _ _) _) _ _ _); exfalso; omega)
  refine wpAny_mono (E := fun _ _ => False) ?_ (fun _ _ x => x) (fun _ _ x => x.elim)
  revert X; k_fill; intro X
  have e := lookEq (by k_is) hK
  clear hK
  obtain ⟨rfl, rfl, rfl, rfl⟩ := useK e
  clear e
  dsimp only [scopeP, qualP, codeP]
  obtain rfl := Option.some.inj hst
  clear hst
  have hpins : ∀ p ∈ [(Str.ofString "post", Value.int 0 tp), (Str.ofString "a", .str a ta), (Str.ofString "b", .str b tb)], m p.1 = some p.2 := allC hp (allC ha (all1 hb))
  have F1 := pinAll _ F hpins
  clear F
  dsimp only [pinL] at F1
  k_with "state" => first | exact w2_start | exact w2_step (by omega) (by omega) (by omega) (by assumption) (by assumption)
  k_while (fun _ post => post ≤ 0 ∧ 0 ≤ (a.length : Int) + post ∧ 0 ≤ (b.length : Int) + post ∧ a.cps.toList.drop ((a.length : Int) + post).toNat = b.cps.toList.drop ((b.length : Int) + post).toNat) (fun _ post => ((a.length : Int) + post).toNat) "post"
  rename (_ : Int) ≤ 0 => hle
  rcases Int.lt_or_eq_of_le hle with hz | hz
  rotate_left
  · subst hz
    repeat' (first | (k_unfold; (try dsimp only)) | (k_end; wrow_close) | k_extra "own" | walk1 | (dsimp only; k_extra "own") | (dsimp only; walk1) | (leave1; walk_say "STEP leave1"; try dsimp only) | fail "no step")
    all_goals (refine hQ _ _ _ _ _ (by omega) (by omega) (by omega) (by assumption) (by assumption) (by assumption) rfl ?_; intro y hy; refine Eq.trans ?_ (unpin hpins y); simp [pinL, hy])
  · repeat' (first | (k_unfold; (try dsimp only)) | (k_end; wrow_close) | k_extra "own" | walk1 | (dsimp only; k_extra "own") | (dsimp only; walk1) | (leave1; walk_say "STEP leave1"; try dsimp only) | fail "no step")
    all_goals (refine hQ _ _ _ _ _ (by omega) (by omega) (by omega) (by assumption) (by assumption) (by assumption) rfl ?_; intro y hy; refine Eq.trans ?_ (unpin hpins y); simp [pinL, hy])
end Mine
end
section
theorem Mine.rstLev3 {M : PySem.Model} {A : PySem.Around} {pos : PySem.Pos} {env : PySem.Env} {Q : PySem.Flow → PySem.Shared → Prop} {E : PySem.Value → PySem.Shared → Prop} {s : PySem.Shared} (h : PySem.wpAny M A (PySem.exec (.Pass pos) env) Q E s) : PySem.wpAny M A (PySem.exec (.Pass pos) env) Q E s := by
  w_top off
  k_with_none
  first | (walk1; fail) | exact h
open PySem PySem.W PyProof.Rows
set_option Elab.async false
set_option linter.unusedVariables false
set_option maxRecDepth 100000
set_option maxHeartbeats 8000000
namespace Mine
theorem sub_use {w : World} {loose : List Str} {mean : ExcName → Option Value} {mg mb : Str → Option Value} {dp un : Nat} {gd : Option (List Code)} {cn : Str} {cs : Scope} {Lc ac : Addr} {ccd : Value} {cl : List (Str × Addr)} {outer : List Env}
    {g : Heap} {L : Addr} {s : Shared} {m : Str → Option Value} {news : List (Addr × Obj)} {Q E : Value → Shared → Prop} {a b : Str} {ta tb : Tok}
    (X : (Mine.hd.heap_39 w.params).In g) (T : Top Mine.hd.view_39 loose mean mg mb g) (F : Fr g L s.heap m) (N : News g L s.heap news)
    (la : a.length ≤ 64) (lb : b.length ≤ 64) (hd : dp + 1 < recursionLimit) (hu : un + 8 < cLine)
    (h : ∀ t h' tk', Fr g L h' m → News g L h' news → Q (.int (sub0 a b) t) { s with heap := h', toks := tk' }) :
    wpAny (model PySem.Challenge.rw_pa0071_01.row.prog w) (ktrTop dp un gd cn cs Lc ac ccd cl outer) (call (.ref 156) [.str a ta, .str b tb]) Q E s :=
  sub_call (X.keeps F.keep) (T.keeps F.keep) la lb hd hu fun t h' tk' k => h t h' tk' (k.fr F) (k.news N)
theorem appOff {R : Addr} {l l' : List (Addr × Obj)} (h : ∀ p ∈ l, p.1 ≠ R) (h' : ∀ p ∈ l', p.1 ≠ R) : ∀ p ∈ l ++ l', p.1 ≠ R := fun p hp => (List.mem_append.mp hp).elim (h p) (h' p)
local macro_rules | `(tactic| k_all) => `(tactic| exact appOff (by assumption) (OwnOff.ne (by assumption) (by k_memK)))
def InOk (A p : List Nat) (y : Nat) (k : Nat) (dist res mi : Int) (row : List Int) : Prop :=
  row.length = A.length ∧ dist = D sc (A.take k) p ∧ res = (if k = 0 then 2 * (p.length : Int) else D sc (A.take k) (p ++ [y])) ∧
  (∀ i, 1 ≤ i → i ≤ k → mi ≤ D sc (A.take i) (p ++ [y])) ∧ (∀ i, i < A.length → row.getD i 0 = if i < k then D sc (A.take (i + 1)) (p ++ [y]) else D sc (A.take (i + 1)) p)
theorem in_next {A p : List Nat} {y k : Nat} {d r mi mi' v : Int} {row : List Int} (h : InOk A p y k d r mi row) (hk : k < A.length) (hv : v = min (min r (row.getD k 0) + 2) (d + sc y (A.getD k 0))) (hm1 : mi' ≤ mi) (hm2 : mi' ≤ v) :
    InOk A p y (k + 1) (row.getD k 0) v mi' (row.set k v) := by
  obtain ⟨hl, hd, hr, hm, hrow⟩ := h
  have hx : row.getD k 0 = D sc (A.take (k + 1)) p := by rw [hrow k hk, if_neg (Nat.lt_irrefl k)]
  have hA : A.take (k + 1) = A.take k ++ [A.getD k 0] := by
    rw [List.take_add_one, List.getElem?_eq_getElem hk, List.getD_eq_getElem?_getD, List.getElem?_eq_getElem hk]; rfl
  have hV : v = D sc (A.take (k + 1)) (p ++ [y]) := by
    have e := D_snoc (sc := sc) (A.take k) p (A.getD k 0) y
    rw [← hA] at e
    rw [e, hv, hx, hd, cost.symm y (A.getD k 0)]
    cases k with
    | zero =>
      rw [if_pos rfl] at hr
      have c2 := cost.le2 (A.getD 0 0) y
      rw [hr, List.take_zero, D_nil_left, D_nil_left]
      simp only [List.length_append, List.length_cons, List.length_nil]
      omega
    | succ k =>
      rw [if_neg (Nat.succ_ne_zero k)] at hr
      rw [hr]
      omega
  refine ⟨by rw [List.length_set]; exact hl, hx, by rw [if_neg (Nat.succ_ne_zero k)]; exact hV, fun i h1 h2 => ?_, fun i hi => ?_⟩
  · rcases Nat.lt_or_eq_of_le h2 with q | q
    · have := hm i h1 (by omega); omega
    · subst q; rw [← hV]; exact hm2
  · rw [List.getD_eq_getElem?_getD, List.getElem?_set]
    by_cases q : k = i
    · subst q
      rw [if_pos rfl, if_pos (by omega), if_pos (by omega)]
      exact hV
    · rw [if_neg q, ← List.getD_eq_getElem?_getD, hrow i hi]
      by_cases q2 : i < k
      · rw [if_pos q2, if_pos (by omega)]
      · rw [if_neg q2, if_neg (by omega)]
theorem ite_min {x y : Int} : (if x < y then x else y) = min y x := by
  by_cases h : x < y
  · rw [if_pos h]; omega
  · rw [if_neg h]; omega
theorem in_start {a : Str} {p : List Nat} {y : Nat} {d0 mx : Int} {ns : List Int} (ln : ns.length = a.length) (h0 : d0 = 2 * (p.length : Int)) (hns : ∀ i, i < a.length → ns.getD i 0 = D sc ((tl a).take (i + 1)) p) :
    ns.length = a.length ∧ InOk (tl a) p y ([] : List Int).length d0 d0 mx ns := by
  refine ⟨ln, by rw [ln, tl_len], ?_, ?_, ?_, ?_⟩
  · rw [List.length_nil, List.take_zero, D_nil_left]; exact h0
  · rw [List.length_nil, if_pos rfl]; exact h0
  · intro i h1 h2; rw [List.length_nil] at h2; omega
  · intro i hi; rw [List.length_nil, if_neg (Nat.not_lt_zero i)]; exact hns i (by rw [← tl_len]; exact hi)
theorem in_turn {a : Str} {p : List Nat} {y : Nat} {d r mi mi' kN : Int} {row pre : List Int} (hl : row.length = a.length) (h : InOk (tl a) p y pre.length d r mi row) (kEq : kN = 0 + (pre.length : Int)) (kLt : pre.length < ((a.length : Int) - 0).toNat)
    (hm1 : mi' ≤ mi) (hm2 : mi' ≤ (if d + sub0 (sg y) (Txt.item a kN) < (if row.getD kN.toNat 0 < r then row.getD kN.toNat 0 else r) + 2 then d + sub0 (sg y) (Txt.item a kN) else (if row.getD kN.toNat 0 < r then row.getD kN.toNat 0 else r) + 2)) :
    (row.set kN.toNat (if d + sub0 (sg y) (Txt.item a kN) < (if row.getD kN.toNat 0 < r then row.getD kN.toNat 0 else r) + 2 then d + sub0 (sg y) (Txt.item a kN) else (if row.getD kN.toNat 0 < r then row.getD kN.toNat 0 else r) + 2)).length = a.length ∧
    InOk (tl a) p y (pre ++ [kN]).length (row.getD kN.toNat 0) (if d + sub0 (sg y) (Txt.item a kN) < (if row.getD kN.toNat 0 < r then row.getD kN.toNat 0 else r) + 2 then d + sub0 (sg y) (Txt.item a kN) else (if row.getD kN.toNat 0 < r then row.getD kN.toNat 0 else r) + 2) mi'
      (row.set kN.toNat (if d + sub0 (sg y) (Txt.item a kN) < (if row.getD kN.toNat 0 < r then row.getD kN.toNat 0 else r) + 2 then d + sub0 (sg y) (Txt.item a kN) else (if row.getD kN.toNat 0 < r then row.getD kN.toNat 0 else r) + 2)) := by
  refine ⟨by rw [List.length_set]; exact hl, ?_⟩
  have e : kN.toNat = pre.length := by omega
  rw [List.length_append, List.length_cons, List.length_nil, Nat.zero_add]
  rw [e] at hm2 ⊢
  refine in_next h (by rw [tl_len]; omega) ?_ hm1 hm2
  rw [item_at (by omega) (by omega), e, ite_min, ite_min]
  rfl
theorem in_done {a : Str} {p : List Nat} {y : Nat} {d r mi : Int} {row : List Int} (h : InOk (tl a) p y (rangeKs 0 ((a.length : Int) - 0).toNat).length d r mi row) :
    (∀ i, i < a.length → row.getD i 0 = D sc ((tl a).take (i + 1)) (p ++ [y])) ∧ (∀ i, 1 ≤ i → i ≤ a.length → mi ≤ D sc ((tl a).take i) (p ++ [y])) ∧ (0 < a.length → r = D sc (tl a) (p ++ [y])) := by
  rw [rangeKs_length] at h
  have e : ((a.length : Int) - 0).toNat = a.length := by omega
  rw [e] at h
  obtain ⟨hl, hd, hr, hm, hrow⟩ := h
  refine ⟨fun i hi => ?_, hm, fun h0 => ?_⟩
  · rw [hrow i (by rw [tl_len]; exact hi), if_pos hi]
  · rw [if_neg (by omega), List.take_of_length_le (by rw [tl_len]; omega)] at hr
    exact hr
theorem lev_in {w : World} {loose : List Str} {mean : ExcName → Option Value} {mg mb : Str → Option Value} {dp un : Nat} {gd : Option (List Code)} {cn : Str} {cs : Scope} {Lc ac : Addr} {ccd : Value} {cl : List (Str × Addr)} {outer : List Env}
    {g : Heap} {L R : Addr} {nn : Nat} {s : Shared} {m : Str → Option Value} {news : List (Addr × Obj)} {Q : Flow → Shared → Prop} {E : Value → Shared → Prop}
    {nm qual : Str} {params : Arguments} {body ibody orelse : List Stmt} {tgt itr : Expr} {ps : Pos} {scope : Scope} {dV kV doc pm cdv ct oc : Value} {an od : Option Addr} {osl : Array (Option Value)} {st : Stmt} {a bc : Str} {y : Nat} {p : List Nat} {d0 mx : Int} {vs : List Value} {ns : List Int} {ta tb td tr tm : Tok}
    (hK : (Mine.hd.heap_39 w.params).lookup 163 = some ⟨oc, od, .func (fnOf nm qual params body scope dV kV doc pm an cdv ct), osl⟩)
    (hst0 : body[15]? = some (.For tgt itr ibody orelse ps)) (hst : ibody[3]? = some st)
    (X : (Mine.hd.heap_39 w.params).In g) (T : Top Mine.hd.view_39 loose mean mg mb g)
    (hd : dp + 3 < recursionLimit) (hu : un + 30 < cLine)
    (F : Fr g L s.heap m) (N : News g L s.heap ((R, listOf vs.toArray nn) :: news)) (hoff : ∀ p ∈ news, p.1 ≠ R) (hi : IntsAre vs ns) (hrow : m (Str.ofString "row") = some (.ref R)) (ha : m (Str.ofString "a") = some (.str a ta)) (hbc : m (Str.ofString "bchar") = some (.str bc tb)) (hy : bc = sg y)
    (hdi : m (Str.ofString "distance") = some (.int d0 td)) (hre : m (Str.ofString "result") = some (.int d0 tr)) (hmi : m (Str.ofString "minimum") = some (.int mx tm))
    (la : a.length ≤ 64) (ln : ns.length = a.length) (h0 : d0 = 2 * (p.length : Int)) (hns : ∀ i, i < a.length → ns.getD i 0 = D sc ((tl a).take (i + 1)) p)
    (hQ : ∀ (re mi : Int) (row : List Int) (vs' : List Value) (nn' : Nat) (t t2 : Tok) (m' : Str → Option Value) (h' : Heap) (tk' : Nat), IntsAre vs' row → row.length = a.length → (∀ i, i < a.length → row.getD i 0 = D sc ((tl a).take (i + 1)) (p ++ [y])) →
      (∀ i, 1 ≤ i → i ≤ a.length → mi ≤ D sc ((tl a).take i) (p ++ [y])) → (0 < a.length → re = D sc (tl a) (p ++ [y])) → Fr g L h' m' → News g L h' ((R, listOf vs'.toArray nn') :: news) →
      m' (Str.ofString "result") = some (.int re t) → m' (Str.ofString "minimum") = some (.int mi t2) →
      (∀ z, z ≠ Str.ofString "index" → z ≠ Str.ofString "substitute" → z ≠ Str.ofString "distance" → z ≠ Str.ofString "insert_delete" → z ≠ Str.ofString "result" → z ≠ Str.ofString "minimum" → m' z = m z) → Q .next { s with heap := h', toks := tk' }) :
    wpAny (model PySem.Challenge.rw_pa0071_01.row.prog w) ((ktrTop dp un gd cn cs Lc ac ccd cl outer).deeper (envOf qual scope L 163 cdv)) (exec st (envOf qual scope L 163 cdv)) Q E s := by
  k_with_none
  k_with "own" => (k_here; (with_reducible show wpAny _ _ (call (Value.ref 156) [Value.str _ _, Value.str _ _]) _ _ _); k_dflt (refine' sub_use ?k1 ?k2 ?k3 ?k4 ?la ?lb ?kd ?ku ?_; (case k1 => k_asm); (case k2 => k_asm); (case k3 => k_asm); (case k4 => k_asm); (case la => omega); (case lb => omega); (case kd => ktr_room); (case ku => ktr_units)); intro _ _ _ _ _; (try dsimp only); (try k_fold))
  refine wpAny_mono (E := fun _ _ => False) ?_ (fun _ _ x => x) (fun _ _ x => x.elim)
  revert X; k_fill; intro X
  have e := lookEq (by k_is) hK
  clear hK
  have hst1 : (loopAt body 15)[3]? = some st := by (unfold loopAt; rw [hst0]; exact hst)
  clear hst0 hst
  obtain ⟨rfl, rfl, rfl, rfl⟩ := useK e
  clear e
  dsimp only [scopeP, qualP, codeP]
  obtain rfl := Option.some.inj hst1
  clear hst1
  subst hy
  have hpins : ∀ p ∈ [(Str.ofString "row", Value.ref R), (Str.ofString "a", .str a ta), (Str.ofString "bchar", .str (sg y) tb), (Str.ofString "distance", .int d0 td), (Str.ofString "result", .int d0 tr), (Str.ofString "minimum", .int mx tm)], m p.1 = some p.2 := allC hrow (allC ha (allC hbc (allC hdi (allC hre (all1 hmi)))))
  have F1 := pinAll _ F hpins
  clear F
  dsimp only [pinL] at F1
  have lb : (sg y).length ≤ 64 := by show (1 : Nat) ≤ 64; decide
  k_with "state" => first | exact in_start (by assumption) (by assumption) (by assumption) | exact in_turn (by assumption) (by assumption) (by assumption) (by assumption) (by first | exact Int.le_refl _ | omega) (by first | exact Int.le_refl _ | omega)
  k_with "pyIter ref" => k_state (fun pre distance result minimum row => row.length = a.length ∧ InOk (tl a) p y pre.length distance result minimum row) "distance" "result" "minimum" "row"
  repeat' (first | (k_unfold; (try dsimp only)) | (k_end; wrow_close) | k_extra "own" | walk1 | (dsimp only; k_extra "own") | (dsimp only; walk1) | (leave1; walk_say "STEP leave1"; try dsimp only) | fail "no step")
  have hz := in_done (by assumption)
  refine hQ _ _ _ _ _ _ _ _ _ _ (by assumption) (by assumption) hz.1 hz.2.1 hz.2.2 kFr kNews (by with_unfolding_all rfl) (by with_unfolding_all rfl) ?_
  intro z h1 h2 h3 h4 h5 h6
  refine Eq.trans ?_ (unpin hpins z)
  simp [pinL, h1, h2, h3, h4, h5, h6]
end Mine
end
section
theorem Mine.rstLev4 {M : PySem.Model} {A : PySem.Around} {pos : PySem.Pos} {env : PySem.Env} {Q : PySem.Flow → PySem.Shared → Prop} {E : PySem.Value → PySem.Shared → Prop} {s : PySem.Shared} (h : PySem.wpAny M A (PySem.exec (.Pass pos) env) Q E s) : PySem.wpAny M A (PySem.exec (.Pass pos) env) Q E s := by
  w_top off
  k_with_none
  first | (walk1; fail) | exact h
open PySem PySem.W PyProof.Rows PySem.Calls
set_option Elab.async false
set_option linter.unusedVariables false
set_option maxRecDepth 100000
set_option maxHeartbeats 8000000
namespace Mine
def OutOk (A B : List Nat) (j : Nat) (re : Int) (row : List Int) : Prop :=
  (∀ i, i < A.length → row.getD i 0 = D sc (A.take (i + 1)) (B.take j)) ∧ (0 < j → re = D sc A (B.take j))
theorem overMap {m m' : Str → Option Value} {v1 v2 : Value} {n1 n2 n3 n4 n5 n6 : Str} (e1 : m' n5 = some v1) (e2 : m' n6 = some v2) (e3 : ∀ z, z ≠ n1 → z ≠ n2 → z ≠ n3 → z ≠ n4 → z ≠ n5 → z ≠ n6 → m' z = m z) :
    m' = fun y => if y = n5 then some v1 else if y = n6 then some v2 else if y = n1 then m' y else if y = n2 then m' y else if y = n3 then m' y else if y = n4 then m' y else m y := by
  funext y
  by_cases h5 : y = n5
  · rw [if_pos h5, h5, e1]
  rw [if_neg h5]
  by_cases h6 : y = n6
  · rw [if_pos h6, h6, e2]
  rw [if_neg h6]
  by_cases h1 : y = n1
  · rw [if_pos h1]
  rw [if_neg h1]
  by_cases h2 : y = n2
  · rw [if_pos h2]
  rw [if_neg h2]
  by_cases h3 : y = n3
  · rw [if_pos h3]
  rw [if_neg h3]
  by_cases h4 : y = n4
  · rw [if_pos h4]
  rw [if_neg h4]
  exact e3 y h1 h2 h3 h4 h5 h6
theorem out_start {a b : Str} {r0 : Int} {ns : List Int} (ln : ns.length = a.length) (hns : ∀ i, i < a.length → ns.getD i 0 = D sc ((tl a).take (i + 1)) []) : ns.length = a.length ∧ OutOk (tl a) (tl b) ([] : List Int).length r0 ns := by
  refine ⟨ln, fun i hi => ?_, fun h => ?_⟩
  · rw [List.length_nil, List.take_zero]; exact hns i (by rw [← tl_len]; exact hi)
  · rw [List.length_nil] at h; omega
theorem take_one_more {l : List Nat} {k : Nat} (h : k < l.length) : l.take k ++ [l.getD k 0] = l.take (k + 1) := by
  rw [List.take_add_one, List.getElem?_eq_getElem h, List.getD_eq_getElem?_getD, List.getElem?_eq_getElem h]; rfl
theorem out_turn {a b : Str} {re kN : Int} {row pre : List Int} (hl : row.length = a.length) (kEq : kN = 0 + (pre.length : Int)) (kLt : pre.length < ((b.length : Int) - 0).toNat) (la1 : 1 ≤ a.length)
    (hr : ∀ i, i < a.length → row.getD i 0 = D sc ((tl a).take (i + 1)) ((tl b).take pre.length ++ [(tl b).getD kN.toNat 0])) (he : 0 < a.length → re = D sc (tl a) ((tl b).take pre.length ++ [(tl b).getD kN.toNat 0])) :
    row.length = a.length ∧ OutOk (tl a) (tl b) (pre ++ [kN]).length re row := by
  have e : kN.toNat = pre.length := by omega
  rw [e, take_one_more (by rw [tl_len]; omega)] at hr he
  rw [List.length_append, List.length_cons, List.length_nil, Nat.zero_add]
  exact ⟨hl, fun i hi => hr i (by rw [← tl_len]; exact hi), fun _ => he (by omega)⟩
theorem out_above {a b : Str} {mi c kN : Int} {pre : List Int} (kEq : kN = 0 + (pre.length : Int)) (kLt : pre.length < ((b.length : Int) - 0).toNat) (la1 : 1 ≤ a.length)
    (hm : ∀ i, 1 ≤ i → i ≤ a.length → mi ≤ D sc ((tl a).take i) ((tl b).take pre.length ++ [(tl b).getD kN.toNat 0])) (hc : c < mi) : c < D sc (tl a) (tl b) := by
  have e : kN.toNat = pre.length := by omega
  rw [e, take_one_more (by rw [tl_len]; omega)] at hm
  refine row_above cost (j := pre.length) ?_ (by rw [tl_len]; omega) fun k h1 h2 => ?_
  · intro q; have := congrArg List.length q; rw [tl_len, List.length_nil] at this; omega
  · have := hm k h1 (by rw [← tl_len]; exact h2); omega
theorem out_done {a b : Str} {re : Int} {row : List Int} (lb1 : 1 ≤ b.length) (h : OutOk (tl a) (tl b) (rangeKs 0 ((b.length : Int) - 0).toNat).length re row) : re = D sc (tl a) (tl b) := by
  rw [rangeKs_length] at h
  have := h.2 (by omega)
  rw [List.take_of_length_le (by rw [tl_len]; omega)] at this
  exact this
theorem lev_out {w : World} {loose : List Str} {mean : ExcName → Option Value} {mg mb : Str → Option Value} {dp un : Nat} {gd : Option (List Code)} {cn : Str} {cs : Scope} {Lc ac : Addr} {ccd : Value} {cl : List (Str × Addr)} {outer : List Env}
    {g : Heap} {L R : Addr} {nn : Nat} {s : Shared} {m : Str → Option Value} {Q : Flow → Shared → Prop} {E : Value → Shared → Prop}
    {nm qual : Str} {params : Arguments} {body : List Stmt} {scope : Scope} {dV kV doc pm cdv ct oc : Value} {an od : Option Addr} {osl : Array (Option Value)} {st : Stmt} {a b : Str} {c r0 : Int} {vs : List Value} {ns : List Int} {ta tb tc tr : Tok}
    (hK : (Mine.hd.heap_39 w.params).lookup 163 = some ⟨oc, od, .func (fnOf nm qual params body scope dV kV doc pm an cdv ct), osl⟩)
    (hst : body[15]? = some st)
    (X : (Mine.hd.heap_39 w.params).In g) (T : Top Mine.hd.view_39 loose mean mg mb g)
    (hd : dp + 3 < recursionLimit) (hu : un + 30 < cLine)
    (F : Fr g L s.heap m) (N : News g L s.heap [(R, listOf vs.toArray nn)]) (hi : IntsAre vs ns) (hrow : m (Str.ofString "row") = some (.ref R)) (ha : m (Str.ofString "a") = some (.str a ta)) (hb : m (Str.ofString "b") = some (.str b tb))
    (hc : m (Str.ofString "max_cost") = some (.int c tc)) (hre : m (Str.ofString "result") = some (.int r0 tr))
    (la : a.length ≤ 64) (lb : b.length ≤ 64) (la1 : 1 ≤ a.length) (lb1 : 1 ≤ b.length) (c0 : 0 ≤ c) (c1 : c ≤ 1000) (ln : ns.length = a.length) (hns : ∀ i, i < a.length → ns.getD i 0 = D sc ((tl a).take (i + 1)) [])
    (hQ : ∀ t m' h' tk', Fr g L h' m' → m' (Str.ofString "result") = some (.int (D sc (tl a) (tl b)) t) → Q .next { s with heap := h', toks := tk' })
    (hR : ∀ t m' h' tk', Fr g L h' m' → c < D sc (tl a) (tl b) → Q (.ret (.int (c + 1) t)) { s with heap := h', toks := tk' }) :
    wpAny (model PySem.Challenge.rw_pa0071_01.row.prog w) ((ktrTop dp un gd cn cs Lc ac ccd cl outer).deeper (envOf qual scope L 163 cdv)) (exec st (envOf qual scope L 163 cdv)) Q E s := by
  refine wpAny_mono (E := fun _ _ => False) ?_ (fun _ _ x => x) (fun _ _ x => x.elim)
  revert X; k_fill; intro X
  have e := lookEq (by k_is) hK
  clear hK
  obtain ⟨rfl, rfl, rfl, rfl⟩ := useK e
  clear e
  dsimp only [scopeP, qualP, codeP]
  obtain rfl := Option.some.inj hst
  clear hst
  have hpins : ∀ p ∈ [(Str.ofString "row", Value.ref R), (Str.ofString "a", .str a ta), (Str.ofString "b", .str b tb), (Str.ofString "max_cost", .int c tc), (Str.ofString "result", .int r0 tr)], m p.1 = some p.2 := allC hrow (allC ha (allC hb (allC hc (all1 hre))))
  have F1 := pinAll _ F hpins
  clear F
  dsimp only [pinL] at F1
  k_with "state" => first | exact out_start (by assumption) (by assumption) | exact out_turn (by assumption) (by assumption) (by assumption) (by assumption) (by assumption) (by assumption)
  k_with "pyIter ref" => k_state (fun pre result row => row.length = a.length ∧ OutOk (tl a) (tl b) pre.length result row) "result" "row"
  first | walk1 | (dsimp only; walk1)
  repeat' ((fail_if_success (with_reducible show wpAny _ _ (exec (Stmt.For _ _ _ _ _) _) _ _ _)); (first | (k_unfold; (try dsimp only)) | (k_end; wrow_close) | walk1 | (dsimp only; walk1) | (leave1; walk_say "STEP leave1"; try dsimp only)))
  · rename OutOk _ _ _ _ _ => hO
    k_dflt (refine' lev_in (p := (tl b).take kPre.length) (y := (tl b).getD kN.toNat 0) ?hK ?hst0 ?hst X T hd hu ?F ?N ?hoff ?hi ?hrow ?ha ?hbc ?hy ?hdi ?hre ?hmi la ?ln ?h0 ?hns ?_)
    case hK => k_is
    case hst0 => rfl
    case hst => rfl
    case F => assumption
    case N => assumption
    case hoff => exact OwnOff.ne kOff (by simp)
    case hi => exact kFacts
    case hrow => with_unfolding_all rfl
    case ha => with_unfolding_all rfl
    case hbc => with_unfolding_all rfl
    case hy => exact item_at (by omega) (by omega)
    case hdi => with_unfolding_all rfl
    case hre => with_unfolding_all rfl
    case hmi => with_unfolding_all rfl
    case ln => assumption
    case h0 => rw [List.length_take, tl_len]; omega
    case hns => exact fun i hi => hO.1 i (by rw [tl_len]; exact hi)
    intro re9 mi9 row9 vs9 nn9 t9 u9 m9 h9 tk9 hi9 hl9 hr9 hm9 he9 F9 N9 e1 e2 e3
    rw [overMap e1 e2 e3] at F9
    (try dsimp only)
    k_steps
    exact hR _ _ _ _ (by assumption) (out_above kEq kLt la1 hm9 (by omega))
  · rename OutOk _ _ _ _ _ => hO
    have hre := out_done lb1 hO
    rw [← hre] at hQ
    exact hQ _ _ _ _ kFr (by with_unfolding_all rfl)
end Mine
end
section
theorem Mine.rstLev5 {M : PySem.Model} {A : PySem.Around} {pos : PySem.Pos} {env : PySem.Env} {Q : PySem.Flow → PySem.Shared → Prop} {E : PySem.Value → PySem.Shared → Prop} {s : PySem.Shared} (h : PySem.wpAny M A (PySem.exec (.Pass pos) env) Q E s) : PySem.wpAny M A (PySem.exec (.Pass pos) env) Q E s := by
  w_top off
  k_with_none
  first | (walk1; fail) | exact h
open PySem PySem.W PyProof.Rows PySem.Calls
set_option Elab.async false
set_option linter.unusedVariables false
set_option maxRecDepth 100000
set_option maxHeartbeats 8000000
namespace Mine
theorem ints_of_items {a c : Int} : ∀ {n : Nat} {k : Nat} {l : List Value}, l.length = n → (∀ i v, l[i]? = some v → ∃ t, v = Value.int (a + ((k + i : Nat) : Int) * c) t) → IntsAre l ((List.range n).map fun i : Nat => a + ((k + i : Nat) : Int) * c)
  | n, k, [], h, _ => by
    obtain rfl : n = 0 := h.symm
    exact .nil
  | n, k, v :: l, h, hv => by
    obtain ⟨n, rfl⟩ : ∃ n', n = n' + 1 := ⟨l.length, by rw [← h]; rfl⟩
    obtain ⟨t, e⟩ := hv 0 v rfl
    subst e
    have ih := ints_of_items (a := a) (c := c) (n := n) (k := k + 1) (l := l) (by simpa using h) (fun i v hi => by
      obtain ⟨t, e⟩ := hv (i + 1) v (by simpa using hi)
      exact ⟨t, by rw [e]; congr 3; omega⟩)
    rw [List.range_succ_eq_map, List.map_cons, List.map_map]
    refine IntsAre.cons _ t ?_
    refine Eq.mp ?_ ih
    congr 1
    refine List.map_congr_left fun i _ => ?_
    show a + ((k + 1 + i : Nat) : Int) * c = a + ((k + (i + 1) : Nat) : Int) * c
    rw [show k + 1 + i = k + (i + 1) by omega]
theorem my_list_range {prog : Program} {w : World} {A : Around} {E : Value → Shared → Prop} {s : Shared} {g : Heap} {L : Addr} {m : Str → Option Value} {news : List (Addr × Obj)} {Q : Value → Shared → Prop} {r : Addr} {a b c : Int} {t u v : Tok} {n : Nat}
    (hh : A.handled = none) (F : Fr g L s.heap m) (N : News g L s.heap news) (hr : IsRange s.heap r a b c t u v) (hsmall : Builtin.Range.small a b c = true) (hn : Builtin.Range.rangeSize a b c = n) (hlen : n ≤ 2 ^ 24)
    (hQ : ∀ R vs nn h' tk, Fr g L h' m → News g L h' ((R, listOf vs.toArray nn) :: news) → IntsAre vs ((List.range n).map fun i : Nat => a + (i : Int) * c) → Q (.ref R) { s with heap := h', toks := tk }) :
    wpAny (model prog w) A (call (.type "list") [.ref r]) Q E s := by
  refine call_list_range hh hr hsmall hn hlen fun h' tk acc' c' hk hS' hacc => ?_
  have k : Kept s.heap h' := hk
  refine hQ s.heap.objs.size acc'.toList c' h' tk (k.fr F) ?_ ?_
  · intro p hp
    rcases List.mem_cons.mp hp with rfl | hp
    · refine ⟨by simpa using hS', Nat.ne_of_gt F.ns.lt, ?_⟩
      cases q : g.get? s.heap.objs.size with
      | none => rfl
      | some o => exact absurd (Heap.lt_size (F.keep _ _ q)) (Nat.lt_irrefl _)
    · exact k.news N p hp
  · have := ints_of_items (a := a) (c := c) (n := n) (k := 0) (l := acc'.toList) (by rw [Array.length_toList]; exact hacc.1) (fun i v hi => by
      obtain ⟨t, e⟩ := hacc.2 i v (by simpa using hi)
      exact ⟨t, by rw [e]; congr 3; omega⟩)
    simpa using this
theorem row_start {a : Str} {ns : List Int} (e : ns = (List.range a.length).map fun i : Nat => 2 + (i : Int) * 2) : ns.length = a.length ∧ ∀ i, i < a.length → ns.getD i 0 = D sc ((tl a).take (i + 1)) [] := by
  subst e
  refine ⟨by simp, fun i hi => ?_⟩
  rw [D_nil_right, List.getD_eq_getElem?_getD, List.getElem?_map, List.getElem?_range hi, List.length_take, tl_len]
  simp only [Option.map_some, Option.getD_some]
  omega
theorem range_small2 {n : Nat} (h : n ≤ 64) : Builtin.Range.small 2 (2 * ((n : Int) + 1)) 2 = true ∧ Builtin.Range.rangeSize 2 (2 * ((n : Int) + 1)) 2 = (n : Int) := by
  have e : Builtin.Range.rangeSize 2 (2 * ((n : Int) + 1)) 2 = (n : Int) := by
    unfold Builtin.Range.rangeSize
    rw [if_pos (by decide)]
    by_cases q : (2 : Int) < 2 * ((n : Int) + 1)
    · rw [if_pos q]; omega
    · rw [if_neg q]; omega
  refine ⟨?_, e⟩
  unfold Builtin.Range.small
  rw [e]
  unfold Builtin.Range.rangeFitsLong
  simp only [Bool.and_eq_true, decide_eq_true_eq, Bool.or_eq_true, beq_iff_eq]
  refine ⟨⟨⟨⟨⟨by omega, by omega⟩, by omega, by omega⟩, by omega, by omega⟩, by omega, by omega⟩, ?_⟩
  right
  rw [if_pos (by decide)]
  simp only [Bool.and_eq_true, decide_eq_true_eq]
  omega
def LevOk (a b : List Nat) (c r : Int) : Prop := (D sc a b ≤ c → r = D sc a b) ∧ (c < D sc a b → c < r)
theorem lev_tail2 {w : World} {loose : List Str} {mean : ExcName → Option Value} {mg mb : Str → Option Value} {dp un : Nat} {gd : Option (List Code)} {cn : Str} {cs : Scope} {Lc ac : Addr} {ccd : Value} {cl : List (Str × Addr)} {outer : List Env}
    {g : Heap} {L : Addr} {s : Shared} {m : Str → Option Value} {Q : Flow → Shared → Prop} {E : Value → Shared → Prop}
    {nm qual : Str} {params : Arguments} {body rest : List Stmt} {scope : Scope} {dV kV doc pm cdv ct oc : Value} {an od : Option Addr} {osl : Array (Option Value)} {a b : Str} {c : Int} {ta tb tc : Tok}
    (hK : (Mine.hd.heap_39 w.params).lookup 163 = some ⟨oc, od, .func (fnOf nm qual params body scope dV kV doc pm an cdv ct), osl⟩)
    (hst : body.drop 12 = rest)
    (X : (Mine.hd.heap_39 w.params).In g) (T : Top Mine.hd.view_39 loose mean mg mb g)
    (hd : dp + 3 < recursionLimit) (hu : un + 30 < cLine)
    (F : Fr g L s.heap m) (N : News g L s.heap []) (ha : m (Str.ofString "a") = some (.str a ta)) (hb : m (Str.ofString "b") = some (.str b tb)) (hc : m (Str.ofString "max_cost") = some (.int c tc))
    (la : a.length ≤ 40) (lb : b.length ≤ 40) (la1 : 1 ≤ a.length) (lab : a.length ≤ b.length) (c0 : 0 ≤ c) (c1 : c ≤ 1000)
    (hret : ∀ r t m' h' tk', Fr g L h' m' → LevOk (tl a) (tl b) c r → Q (.ret (.int r t)) { s with heap := h', toks := tk' }) :
    wpAny (model PySem.Challenge.rw_pa0071_01.row.prog w) ((ktrTop dp un gd cn cs Lc ac ccd cl outer).deeper (envOf qual scope L 163 cdv)) (execs rest (envOf qual scope L 163 cdv)) Q E s := by
  refine wpAny_mono (E := fun _ _ => False) ?_ (fun _ _ x => x) (fun _ _ x => x.elim)
  revert X; k_fill; intro X
  have e := lookEq (by k_is) hK
  clear hK
  cases e
  subst hst
  have hpins : ∀ p ∈ [(Str.ofString "a", Value.str a ta), (Str.ofString "b", .str b tb), (Str.ofString "max_cost", .int c tc)], m p.1 = some p.2 := allC ha (allC hb (all1 hc))
  have F1 := pinAll _ F hpins
  clear F
  dsimp only [pinL] at F1
  simp only [List.drop_succ_cons, List.drop_zero]
  repeat' ((fail_if_success (with_reducible show wpAny _ _ (exec (Stmt.For _ _ _ _ _) _) _ _ _)); (fail_if_success (with_reducible show wpAny _ _ (call (Value.type "list") _) _ _ _)); (first | (k_unfold; (try dsimp only)) | (k_end; wrow_close) | walk1 | (dsimp only; walk1) | (leave1; walk_say "STEP leave1"; try dsimp only)))
  · refine hret _ _ _ _ _ (by assumption) ⟨fun h => ?_, fun h => by omega⟩
    exfalso
    have := D_len cost (tl a) (tl b)
    rw [tl_len, tl_len] at this
    omega
  · k_dflt (refine' my_list_range (n := a.length) rfl ?F ?N ?hr ?hs ?hn ?hl ?_)
    case F => assumption
    case N => assumption
    case hr => assumption
    case hs => exact (range_small2 (by omega)).1
    case hn => exact (range_small2 (by omega)).2
    case hl => omega
    intro R vs nn h9 tk9 F9 N9 hi9
    obtain ⟨hl9, hr9⟩ := row_start (a := a) rfl
    (try dsimp only)
    repeat' ((fail_if_success (with_reducible show wpAny _ _ (exec (Stmt.For _ _ _ _ _) _) _ _ _)); (first | (k_unfold; (try dsimp only)) | (k_end; wrow_close) | walk1 | (dsimp only; walk1) | (leave1; walk_say "STEP leave1"; try dsimp only)))
    k_dflt (refine' lev_out (a := a) (b := b) (c := c) ?hK ?hst X T hd hu ?F ?N hi9 ?hrow ?ha ?hb ?hc ?hre ?la ?lb la1 ?lb1 c0 c1 hl9 hr9 ?_ ?_)
    case hK => k_is
    case hst => rfl
    case F => assumption
    case N => assumption
    case hrow => with_unfolding_all rfl
    case ha => with_unfolding_all rfl
    case hb => with_unfolding_all rfl
    case hc => with_unfolding_all rfl
    case hre => with_unfolding_all rfl
    case la => omega
    case lb => omega
    case lb1 => omega
    · intro t8 m8 h8 tk8 F8 e8
      have F10 := pinAll [(Str.ofString "result", Value.int (D sc (tl a) (tl b)) t8)] F8 (all1 e8)
      clear F8
      dsimp only [pinL] at F10
      (try dsimp only)
      k_steps
      exact hret _ _ _ _ _ (by assumption) ⟨fun _ => rfl, fun h => h⟩
    · intro t8 m8 h8 tk8 F8 e8
      exact hret _ _ _ _ _ F8 ⟨fun h => by omega, fun _ => by omega⟩
end Mine
end
section
theorem Mine.rstLev6 {M : PySem.Model} {A : PySem.Around} {pos : PySem.Pos} {env : PySem.Env} {Q : PySem.Flow → PySem.Shared → Prop} {E : PySem.Value → PySem.Shared → Prop} {s : PySem.Shared} (h : PySem.wpAny M A (PySem.exec (.Pass pos) env) Q E s) : PySem.wpAny M A (PySem.exec (.Pass pos) env) Q E s := by
  w_top off
  k_with_none
  first | (walk1; fail) | exact h
open PySem PySem.W PyProof.Rows PySem.Calls
set_option Elab.async false
set_option linter.unusedVariables false
set_option maxRecDepth 100000
set_option maxHeartbeats 8000000
namespace Mine
theorem LevOk.symm {a b : List Nat} {c r : Int} (h : LevOk a b c r) : LevOk b a c r := by unfold LevOk at *; rw [D_symm cost b a]; exact h
theorem lev_empty {a b : Str} {c : Int} (h : a.length = 0 ∨ b.length = 0) : LevOk (tl a) (tl b) c (2 * ((a.length : Int) + (b.length : Int))) := by
  have e : D sc (tl a) (tl b) = 2 * ((a.length : Int) + (b.length : Int)) := by
    rcases h with h | h
    · have q : tl a = [] := List.length_eq_zero_iff.mp (by rw [tl_len]; exact h)
      rw [q, D_nil_left, tl_len, h]; simp
    · have q : tl b = [] := List.length_eq_zero_iff.mp (by rw [tl_len]; exact h)
      rw [q, D_nil_right, tl_len, h]; simp
  exact ⟨fun _ => e.symm, fun h => by rw [← e]; exact h⟩
theorem lev_tail {w : World} {loose : List Str} {mean : ExcName → Option Value} {mg mb : Str → Option Value} {dp un : Nat} {gd : Option (List Code)} {cn : Str} {cs : Scope} {Lc ac : Addr} {ccd : Value} {cl : List (Str × Addr)} {outer : List Env}
    {g : Heap} {L : Addr} {s : Shared} {m : Str → Option Value} {Q : Flow → Shared → Prop} {E : Value → Shared → Prop}
    {nm qual : Str} {params : Arguments} {body rest : List Stmt} {scope : Scope} {dV kV doc pm cdv ct oc : Value} {an od : Option Addr} {osl : Array (Option Value)} {a b : Str} {c : Int} {ta tb tc : Tok}
    (hK : (Mine.hd.heap_39 w.params).lookup 163 = some ⟨oc, od, .func (fnOf nm qual params body scope dV kV doc pm an cdv ct), osl⟩)
    (hst : body.drop 9 = rest)
    (X : (Mine.hd.heap_39 w.params).In g) (T : Top Mine.hd.view_39 loose mean mg mb g)
    (hd : dp + 3 < recursionLimit) (hu : un + 30 < cLine)
    (F : Fr g L s.heap m) (N : News g L s.heap []) (ha : m (Str.ofString "a") = some (.str a ta)) (hb : m (Str.ofString "b") = some (.str b tb)) (hc : m (Str.ofString "max_cost") = some (.int c tc))
    (la : a.length ≤ 40) (lb : b.length ≤ 40) (c0 : 0 ≤ c) (c1 : c ≤ 1000)
    (hret : ∀ r t m' h' tk', Fr g L h' m' → LevOk (tl a) (tl b) c r → Q (.ret (.int r t)) { s with heap := h', toks := tk' }) :
    wpAny (model PySem.Challenge.rw_pa0071_01.row.prog w) ((ktrTop dp un gd cn cs Lc ac ccd cl outer).deeper (envOf qual scope L 163 cdv)) (execs rest (envOf qual scope L 163 cdv)) Q E s := by
  refine wpAny_mono (E := fun _ _ => False) ?_ (fun _ _ x => x) (fun _ _ x => x.elim)
  revert X; k_fill; intro X
  have e := lookEq (by k_is) hK
  clear hK
  cases e
  subst hst
  have hpins : ∀ p ∈ [(Str.ofString "a", Value.str a ta), (Str.ofString "b", .str b tb), (Str.ofString "max_cost", .int c tc)], m p.1 = some p.2 := allC ha (allC hb (all1 hc))
  have F1 := pinAll _ F hpins
  clear F
  dsimp only [pinL] at F1
  simp only [List.drop_succ_cons, List.drop_zero]
  repeat' ((fail_if_success (with_reducible show wpAny _ _ (execs [_, _, _, _, _] _) _ _ _)); (first | (k_unfold; (try dsimp only)) | (k_end; wrow_close) | walk1 | (dsimp only; walk1) | (leave1; walk_say "STEP leave1"; try dsimp only)))
  · (with_reducible show wpAny _ _ (execs [_, _, _, _, _] _) _ _ _)
    k_dflt (refine' lev_tail2 (a := b) (b := a) (c := c) ?hK ?hst X T hd hu ?F News.nil ?ha ?hb ?hc ?la ?lb ?la1 ?lab c0 c1 ?_)
    case hK => k_is
    case hst => rfl
    case F => assumption
    case ha => with_unfolding_all rfl
    case hb => with_unfolding_all rfl
    case hc => with_unfolding_all rfl
    case la => omega
    case lb => omega
    case la1 => omega
    case lab => omega
    intro r9 t9 m9 h9 tk9 F9 ok9
    exact hret _ _ _ _ _ F9 ok9.symm
  · (with_reducible show wpAny _ _ (execs [_, _, _, _, _] _) _ _ _)
    k_dflt (refine' lev_tail2 (a := a) (b := b) (c := c) ?hK ?hst X T hd hu ?F News.nil ?ha ?hb ?hc ?la ?lb ?la1 ?lab c0 c1 ?_)
    case hK => k_is
    case hst => rfl
    case F => assumption
    case ha => with_unfolding_all rfl
    case hb => with_unfolding_all rfl
    case hc => with_unfolding_all rfl
    case la => omega
    case lb => omega
    case la1 => omega
    case lab => omega
    intro r9 t9 m9 h9 tk9 F9 ok9
    exact hret _ _ _ _ _ F9 ok9
  all_goals (refine hret _ _ _ _ _ (by assumption) (lev_empty (by omega)))
end Mine
end
section
theorem Mine.rstLev7 {M : PySem.Model} {A : PySem.Around} {pos : PySem.Pos} {env : PySem.Env} {Q : PySem.Flow → PySem.Shared → Prop} {E : PySem.Value → PySem.Shared → Prop} {s : PySem.Shared} (h : PySem.wpAny M A (PySem.exec (.Pass pos) env) Q E s) : PySem.wpAny M A (PySem.exec (.Pass pos) env) Q E s := by
  w_top off
  k_with_none
  first | (walk1; fail) | exact h
open PySem PySem.W PyProof.Rows PySem.Calls
set_option Elab.async false
set_option linter.unusedVariables false
set_option maxRecDepth 100000
set_option maxHeartbeats 8000000
namespace Mine
theorem lev_same {a b : Str} {c : Int} (h : (a == b) = true) (c0 : 0 ≤ c) : LevOk (tl a) (tl b) c 0 := by
  rw [beq_iff_eq] at h
  subst h
  have e : D sc (tl a) (tl a) = 0 := by
    have := D_prefix cost (tl a) [] []
    rw [List.append_nil, D_nil_left] at this
    simpa using this
  exact ⟨fun _ => e.symm, fun h => by omega⟩
theorem lev_pre {a b : Str} {k : Int} (h0 : 0 ≤ k) (ha : k ≤ (a.length : Int)) (hb : k ≤ (b.length : Int)) (ht : (tl a).take k.toNat = (tl b).take k.toNat) :
    D sc (tl (Txt.slice a (some k) none)) (tl (Txt.slice b (some k) none)) = D sc (tl a) (tl b) := by
  rw [tl_slice_from h0 ha, tl_slice_from h0 hb]
  have e1 := List.take_append_drop k.toNat (tl a)
  have e2 := List.take_append_drop k.toNat (tl b)
  rw [← ht] at e2
  conv => rhs; rw [← e1, ← e2]
  rw [D_prefix cost]
theorem lev_post {a b a' b' : List Nat} {i j : Nat} (ht : a.drop i = b.drop j) (ha : a' = a.take i) (hb : b' = b.take j) : D sc a' b' = D sc a b := by
  subst ha; subst hb
  have e1 := List.take_append_drop i a
  have e2 := List.take_append_drop j b
  rw [← ht] at e2
  conv => rhs; rw [← e1, ← e2]
  rw [D_suffix cost]
theorem lev_call {w : World} {loose : List Str} {mean : ExcName → Option Value} {mg mb : Str → Option Value} {dp un : Nat} {gd : Option (List Code)} {cn : Str} {cs : Scope} {Lc ac : Addr} {ccd : Value} {cl : List (Str × Addr)} {outer : List Env}
    {s : Shared} {Q E : Value → Shared → Prop} {a b : Str} {c : Int} {ta tb tc : Tok} (X : (Mine.hd.heap_39 w.params).In s.heap) (T : Top Mine.hd.view_39 loose mean mg mb s.heap)
    (la : a.length ≤ 40) (lb : b.length ≤ 40) (c0 : 0 ≤ c) (c1 : c ≤ 1000) (hd : dp + 4 < recursionLimit) (hu : un + 40 < cLine)
    (hret : ∀ r t h' tk', Kept s.heap h' → LevOk (tl a) (tl b) c r → Q (.int r t) { s with heap := h', toks := tk' }) :
    wpAny (model PySem.Challenge.rw_pa0071_01.row.prog w) (ktrTop dp un gd cn cs Lc ac ccd cl outer) (call (.ref 163) [.str a ta, .str b tb, .int c tc]) Q E s := by
  k_with_none
  k_with "own" => ((with_reducible show wpAny _ _ (subscriptTail _ (Expr.Slice none (some (Expr.BoolOp _ _ _)) none _) _ _) _ _ _); (with_reducible rename Fr _ _ _ _ => F'); (with_reducible rename News _ _ _ _ => N'); first | ((refine my_slice_nn (hsz := ?hsz) (s := ⟨_, _, _, _, _⟩) F' N' ?_); (case hsz => size_fits); intro _ _ _ _ _) | ((refine my_slice_neg (hsz := ?hsz) (s := ⟨_, _, _, _, _⟩) F' N' (by omega) (by omega) ?_); (case hsz => size_fits); intro _ _ _ _ _ _))
  k_with "own" => ((with_reducible show wpAny _ _ (eval (Expr.BoolOp _ _ _) _) _ _ _); exfalso; omega)
  revert X; k_fill; intro X
  k_dflt (refine' enter X T ?k6 ?k7 ?k8 ?k9 ?kB ?_ ?c2 ?c3 ?c4 ?c5; (case k6 => k_is); (case k7 => k_is); (case k8 => ktr_room); (case k9 => exact BindsTo.of_eq rfl); (case c5 => decide); (case kB => exact locs rfl); (case c2 => exact rfl); (case c3 => exact rfl); (case c4 => exact rfl))
  intro L' h₁ F N
  (try dsimp only); (try k_fold)
  repeat' ((fail_if_success (with_reducible show wpAny _ _ (exec (Stmt.While _ _ _ _) _) _ _ _)); (first | (k_unfold; (try dsimp only)) | (k_end; wrow_close) | k_extra "own" | walk1 | (dsimp only; k_extra "own") | (dsimp only; walk1) | (leave1; walk_say "STEP leave1"; try dsimp only)))
  · exact hret _ _ _ _ (Fr.keep (by assumption)) (lev_same (by assumption) c0)
  · k_dflt (refine' lev_w1 (a := a) (b := b) ?hK ?hst X T ?F ?N ?hp ?ha ?hb ?la ?lb ?_)
    case hK => k_is
    case hst => rfl
    case F => assumption
    case N => assumption
    case hp => with_unfolding_all rfl
    case ha => with_unfolding_all rfl
    case hb => with_unfolding_all rfl
    case la => omega
    case lb => omega
    intro k t9 m9 h9 tk9 k0 k1 k2 kt F9 N9 e1 e2
    have hpins : ∀ p ∈ [(Str.ofString "pre", Value.int k t9), (Str.ofString "a", .str a ta), (Str.ofString "b", .str b tb), (Str.ofString "max_cost", .int c tc)], m9 p.1 = some p.2 :=
      allC e1 (allC ((e2 (Str.ofString "a") (by decide)).trans (by with_unfolding_all rfl)) (allC ((e2 (Str.ofString "b") (by decide)).trans (by with_unfolding_all rfl)) (all1 ((e2 (Str.ofString "max_cost") (by decide)).trans (by with_unfolding_all rfl)))))
    have F10 := pinAll _ F9 hpins
    clear F9
    dsimp only [pinL] at F10
    (try dsimp only)
    repeat' ((fail_if_success (with_reducible show wpAny _ _ (exec (Stmt.While _ _ _ _) _) _ _ _)); (first | (k_unfold; (try dsimp only)) | (k_end; wrow_close) | k_extra "own" | walk1 | (dsimp only; k_extra "own") | (dsimp only; walk1) | (leave1; walk_say "STEP leave1"; try dsimp only)))
    have la' : (Txt.slice a (some k) none).length ≤ 40 := by omega
    have lb' : (Txt.slice b (some k) none).length ≤ 40 := by omega
    have hD1 := lev_pre k0 k1 k2 kt
    generalize Txt.slice a (some k) none = a' at *
    generalize Txt.slice b (some k) none = b' at *
    k_dflt (refine' lev_w2 (a := a') (b := b') ?hK ?hst X T ?F ?N ?hp ?ha ?hb ?la ?lb ?_)
    case hK => k_is
    case hst => rfl
    case F => assumption
    case N => assumption
    case hp => with_unfolding_all rfl
    case ha => with_unfolding_all rfl
    case hb => with_unfolding_all rfl
    case la => omega
    case lb => omega
    intro j t8 m8 h8 tk8 j0 j1 j2 jt F8 N8 f1 f2
    have hpin8 : ∀ p ∈ [(Str.ofString "post", Value.int j t8), (Str.ofString "a", .str a' _), (Str.ofString "b", .str b' _), (Str.ofString "max_cost", .int c tc)], m8 p.1 = some p.2 :=
      allC f1 (allC ((f2 (Str.ofString "a") (by decide)).trans (by with_unfolding_all rfl)) (allC ((f2 (Str.ofString "b") (by decide)).trans (by with_unfolding_all rfl)) (all1 ((f2 (Str.ofString "max_cost") (by decide)).trans (by with_unfolding_all rfl)))))
    have F12 := pinAll _ F8 hpin8
    clear F8
    dsimp only [pinL] at F12
    (try dsimp only)
    rcases Int.lt_or_eq_of_le j0 with hz | hz
    rotate_left
    · subst hz
      repeat' ((fail_if_success (with_reducible show wpAny _ _ (execs [_, _, _, _, _, _, _, _] _) _ _ _)); (first | (k_unfold; (try dsimp only)) | (k_end; wrow_close) | k_extra "own" | walk1 | (dsimp only; k_extra "own") | (dsimp only; walk1) | (leave1; walk_say "STEP leave1"; try dsimp only)))
      (with_reducible show wpAny _ _ (execs [_, _, _, _, _, _, _, _] _) _ _ _)
      k_dflt (refine' lev_tail (a := a') (b := b') (c := c) ?hK ?hst X T ?hd ?hu ?F News.nil ?ha ?hb ?hc ?la ?lb c0 c1 ?_)
      case hK => k_is
      case hst => rfl
      case hd => omega
      case hu => omega
      case F => assumption
      case ha => with_unfolding_all rfl
      case hb => with_unfolding_all rfl
      case hc => with_unfolding_all rfl
      case la => omega
      case lb => omega
      intro r9 t9 m9 h9 tk9 F9 ok9
      have hD2 : D sc (tl a') (tl b') = D sc (tl a') (tl b') := rfl
      unfold LevOk at ok9
      rw [hD2, hD1] at ok9
      exact hret _ _ _ _ F9.keep ok9
    · repeat' ((fail_if_success (with_reducible show wpAny _ _ (execs [_, _, _, _, _, _, _, _] _) _ _ _)); (first | (k_unfold; (try dsimp only)) | (k_end; wrow_close) | k_extra "own" | walk1 | (dsimp only; k_extra "own") | (dsimp only; walk1) | (leave1; walk_say "STEP leave1"; try dsimp only)))
      (with_reducible show wpAny _ _ (execs [_, _, _, _, _, _, _, _] _) _ _ _)
      k_dflt (refine' lev_tail (a := Txt.slice a' none (some j)) (b := Txt.slice b' none (some j)) (c := c) ?hK ?hst X T ?hd ?hu ?F News.nil ?ha ?hb ?hc ?la ?lb c0 c1 ?_)
      case hK => k_is
      case hst => rfl
      case hd => omega
      case hu => omega
      case F => assumption
      case ha => with_unfolding_all rfl
      case hb => with_unfolding_all rfl
      case hc => with_unfolding_all rfl
      case la => omega
      case lb => omega
      intro r9 t9 m9 h9 tk9 F9 ok9
      have hD2 : D sc (tl (Txt.slice a' none (some j))) (tl (Txt.slice b' none (some j))) = D sc (tl a') (tl b') := lev_post jt (by rw [tl_slice_neg hz (by omega)]; congr 1; omega) (by rw [tl_slice_neg hz (by omega)]; congr 1; omega)
      unfold LevOk at ok9
      rw [hD2, hD1] at ok9
      exact hret _ _ _ _ F9.keep ok9
end Mine
end
section
theorem Mine.rstAp1 {M : PySem.Model} {A : PySem.Around} {pos : PySem.Pos} {env : PySem.Env} {Q : PySem.Flow → PySem.Shared → Prop} {E : PySem.Value → PySem.Shared → Prop} {s : PySem.Shared} (h : PySem.wpAny M A (PySem.exec (.Pass pos) env) Q E s) : PySem.wpAny M A (PySem.exec (.Pass pos) env) Q E s := by
  w_top off
  k_with_none
  first | (walk1; fail) | exact h
open PySem PySem.W PyProof.Rows PySem.Calls PyProof.V PySem.Spec
set_option Elab.async false
set_option linter.unusedVariables false
set_option maxRecDepth 100000
set_option maxHeartbeats 8000000
namespace Mine
/-- a def is entered from a frame with a ledger; what it leaves is the caller's -/
theorem enterN {prog : Program} {w : World} {A : Around} {s : Shared} {K : Frag} {p : Program} {loose : List Str} {mean : ExcName → Option Value} {mg mb : Str → Option Value} {Q E : Value → Shared → Prop} {h₀ : Heap} {L : Addr} {m : Str → Option Value} {news : List (Addr × Obj)}
    {name qual : Str} {params : Arguments} {body : List Stmt} {scope : Scope} {dV kV doc pm cdv ct oc : Value} {an od : Option Addr} {osl : Array (Option Value)} {f : Addr} {vals : List Value} {kw : List (Str × Value)} {binds : List (Str × Value)}
    (X : K.In h₀) (T : Top p loose mean mg mb h₀) (F : Fr h₀ L s.heap m) (N : News h₀ L s.heap news) (ho : K.lookup f = some ⟨oc, od, .func (fnOf name qual params body scope dV kV doc pm an cdv ct), osl⟩) (hcd : codeIn K cdv qual = true) (hroom : A.depth < recursionLimit)
    (hbind : BindsTo s (fnOf name qual params body scope dV kV doc pm an cdv ct) ⟨vals, kw⟩ binds) (hloc : ∀ y ∈ binds, scope.names.lookup y.1 = some .local)
    (h : ∀ g L' h₁, K.In g → Top p loose mean mg mb g → Fr g L' h₁ (fun y => binds.reverse.lookup y) → News g L' h₁ news → (∀ h' m' news', Fr g L' h' m' → News g L' h' news' → Fr h₀ L h' m ∧ News h₀ L h' news') →
      wpAny (model prog w) (A.deeper (envOf qual scope L' f cdv)) (execs body (envOf qual scope L' f cdv)) (fun fl s' => Q (match fl with | .ret v => v | _ => .none) s') (fun _ _ => False) { s with heap := h₁, toks := s.toks + binds.length })
    (hco : scope.isCoroutine = false) (hgen : scope.isGenerator = false) (hk : scope.kind = .function) (hcell : ∀ x ∈ scope.names, x.2 ≠ .cell) : wpAny (model prog w) A (call (.ref f) vals kw) Q E s := by
  refine wpAny_call ?_
  refine codeAny_call_def (fd := fnOf name qual params body scope dV kV doc pm an cdv ct) (body := body) (binds := binds) hroom (F.keep _ _ (X _ _ ho)) rfl (T.nolimit.keeps F.keep) (codeRec_of (X.keeps F.keep) hcd) rfl hbind hcell hloc (fun h₁ hns hk₁ => ?_) hco hgen hk
  have nm : ∀ b o, h₀.get? b = some o → b ∉ news.map (·.1) := fun b o e q => by
    obtain ⟨p, hp, rfl⟩ := List.mem_map.mp q
    rw [(N p hp).2.2] at e; cases e
  have st : ∀ b o, h₀.get? b = some o → (hideAll s.heap (news.map (·.1))).get? b = some o := fun b o e => hideAll_get _ (F.keep b o e) (nm b o e)
  have st' : Kept h₀ (hideAll s.heap (news.map (·.1))) := fun b o e => hideAll_get _ (F.keep b o e) (nm b o e)
  obtain ⟨oL, es, ep, hL, hLd, hLk, hLf⟩ := F.ns
  have nL : L ∉ news.map (·.1) := fun q => by
    obtain ⟨p, hp, e⟩ := List.mem_map.mp q
    exact (N p hp).2.1 e
  have hLg := hideAll_get (news.map (·.1)) hL nL
  refine wpAny_mono (h (hideAll s.heap (news.map (fun x => x.fst))) s.heap.objs.size h₁ (X.keeps st) (T.keeps st) ⟨hns, fun b o e => hk₁ b o (of_hideAll _ e), Nat.le_of_eq (hideAll_size _ _)⟩
    (fun p hp => ⟨hk₁ _ _ (N p hp).1, Nat.ne_of_lt (Heap.lt_size (N p hp).1), hideAll_none _ (List.mem_map_of_mem hp)⟩) fun h' m' news' F' N' => ?_) (fun fl s' hl => hl) fun _ _ y => y.elim
  refine ⟨⟨⟨oL, es, ep, F'.keep L oL hLg, hLd, hLk, hLf⟩, fun b o e => F'.keep b o (st b o e), F.above⟩, fun p hp => ⟨(N' p hp).1, fun q => ?_, ?_⟩⟩
  · have := (N' p hp).2.2; rw [q, hLg] at this; cases this
  · cases q : h₀.get? p.1 with
    | none => rfl
    | some o => have := st _ _ q; rw [(N' p hp).2.2] at this; cases this
abbrev prg : Program := PySem.Challenge.rw_pa0071_01.row.prog
/-- the table of what has been reckoned -/
def Memo (w : World) (news : List (Addr × Obj)) (d : Addr) (k : Nat) : Prop :=
  ∃ Dd, TupTab (strKind prg w) PyData.str news d Dd ∧ (∀ a b dv, lookup (encTuple PyData.str [a, b]) Dd = some dv → dv = .int (D sc (tl a) (tl b))) ∧ Dd.length ≤ k
def cnt : Nat → Nat
  | 0 => 0
  | n + 1 => 3 * cnt n + 1
theorem Memo.le {w : World} {news : List (Addr × Obj)} {d : Addr} {k k' : Nat} (h : Memo w news d k) (l : k ≤ k') : Memo w news d k' := let ⟨Dd, a, b, c⟩ := h; ⟨Dd, a, b, Nat.le_trans c l⟩
theorem cnt_le {n n' : Nat} (h : n ≤ n') : cnt n ≤ cnt n' := by
  induction h with
  | refl => exact Nat.le_refl _
  | step _ ih => exact Nat.le_trans ih (by show cnt _ ≤ 3 * cnt _ + 1; omega)
end Mine
end
section
theorem Mine.rstAp2 {M : PySem.Model} {A : PySem.Around} {pos : PySem.Pos} {env : PySem.Env} {Q : PySem.Flow → PySem.Shared → Prop} {E : PySem.Value → PySem.Shared → Prop} {s : PySem.Shared} (h : PySem.wpAny M A (PySem.exec (.Pass pos) env) Q E s) : PySem.wpAny M A (PySem.exec (.Pass pos) env) Q E s := by
  w_top off
  k_with_none
  first | (walk1; fail) | exact h
open PySem PySem.W PyProof.Rows PySem.Calls PyProof.V PySem.Spec
set_option Elab.async false
set_option linter.unusedVariables false
set_option maxRecDepth 100000
set_option maxHeartbeats 8000000
namespace Mine
theorem ap_change {w : World} {loose : List Str} {mean : ExcName → Option Value} {mg mb : Str → Option Value} {dp un : Nat} {gd : Option (List Code)} {cn : Str} {cs : Scope} {Lc ac : Addr} {ccd : Value} {cl : List (Str × Addr)} {outer : List Env}
    {g : Heap} {L : Addr} {s : Shared} {m : Str → Option Value} {news : List (Addr × Obj)} {Q : Flow → Shared → Prop} {E : Value → Shared → Prop}
    {nm qual : Str} {params : Arguments} {body ib ie : List Stmt} {te : Expr} {ps : Pos} {scope : Scope} {dV kV doc pm cdv ct oc : Value} {an od : Option Addr} {osl : Array (Option Value)} {st : Stmt} {a b : Str} {ta tb : Tok}
    (hK : (Mine.hd.heap_39 w.params).lookup 182 = some ⟨oc, od, .func (fnOf nm qual params body scope dV kV doc pm an cdv ct), osl⟩)
    (hst0 : body[1]? = some (.If te ib ie ps)) (hst : ib[0]? = some st)
    (X : (Mine.hd.heap_39 w.params).In g) (T : Top Mine.hd.view_39 loose mean mg mb g)
    (F : Fr g L s.heap m) (N : News g L s.heap news) (ha : m (Str.ofString "one") = some (.str a ta)) (hb : m (Str.ofString "other") = some (.str b tb))
    (la : a.length ≤ 64) (lb : b.length ≤ 64) (la1 : 1 ≤ a.length) (lb1 : 1 ≤ b.length)
    (hQ : ∀ t m' h' tk', Fr g L h' m' → News g L h' news → m' (Str.ofString "change") = some (.int (sc ((tl a).getD 0 0) ((tl b).getD 0 0)) t) → (∀ y, y ≠ Str.ofString "change" → m' y = m y) → Q .next { s with heap := h', toks := tk' }) :
    wpAny (model PySem.Challenge.rw_pa0071_01.row.prog w) ((ktrTop dp un gd cn cs Lc ac ccd cl outer).deeper (envOf qual scope L 182 cdv)) (exec st (envOf qual scope L 182 cdv)) Q E s := by
  refine wpAny_mono (E := fun _ _ => False) ?_ (fun _ _ x => x) (fun _ _ x => x.elim)
  revert X; k_fill; intro X
  have e := lookEq (by k_is) hK
  clear hK
  cases e
  cases hst0
  cases hst
  have hpins : ∀ p ∈ [(Str.ofString "one", Value.str a ta), (Str.ofString "other", .str b tb)], m p.1 = some p.2 := allC ha (all1 hb)
  have F1 := pinAll _ F hpins
  clear F
  dsimp only [pinL] at F1
  have hS : sc ((tl a).getD 0 0) ((tl b).getD 0 0) = sub0 (Txt.item a 0) (Txt.item b 0) := by
    rw [item_at (by omega) (by omega), item_at (by omega) (by omega)]; rfl
  k_steps
  all_goals (rw [hS] at hQ)
  · rw [← sub0_1 (by assumption)] at hQ
    refine hQ _ _ _ _ (by assumption) (by assumption) (by with_unfolding_all rfl) ?_
    intro y hy
    refine Eq.trans ?_ (unpin hpins y)
    simp [pinL, hy]
  · rw [← sub0_2 (by assumption) (by assumption)] at hQ
    refine hQ _ _ _ _ (by assumption) (by assumption) (by with_unfolding_all rfl) ?_
    intro y hy
    refine Eq.trans ?_ (unpin hpins y)
    simp [pinL, hy]
  · rw [← sub0_3 (by assumption) (by assumption)] at hQ
    refine hQ _ _ _ _ (by assumption) (by assumption) (by with_unfolding_all rfl) ?_
    intro y hy
    refine Eq.trans ?_ (unpin hpins y)
    simp [pinL, hy]
end Mine
end
section
theorem Mine.rstAp3 {M : PySem.Model} {A : PySem.Around} {pos : PySem.Pos} {env : PySem.Env} {Q : PySem.Flow → PySem.Shared → Prop} {E : PySem.Value → PySem.Shared → Prop} {s : PySem.Shared} (h : PySem.wpAny M A (PySem.exec (.Pass pos) env) Q E s) : PySem.wpAny M A (PySem.exec (.Pass pos) env) Q E s := by
  w_top off
  k_with_none
  first | (walk1; fail) | exact h
open PySem PySem.W PyProof.Rows PySem.Calls PyProof.V PySem.Spec
set_option Elab.async false
set_option linter.unusedVariables false
set_option maxRecDepth 100000
set_option maxHeartbeats 8000000
namespace Mine
def ApHolds (w : World) (loose : List Str) (mean : ExcName → Option Value) (mg mb : Str → Option Value) (n : Nat) : Prop :=
  ∀ {dp un : Nat} {gd : Option (List Code)} {cn : Str} {cs : Scope} {Lc ac : Addr} {ccd : Value} {cl : List (Str × Addr)} {outer : List Env}
    {g : Heap} {L : Addr} {s : Shared} {m : Str → Option Value} {news : List (Addr × Obj)} {Q E : Value → Shared → Prop} {a b : Str} {ta tb : Tok} {d : Addr} {k : Nat}
    (X : (Mine.hd.heap_39 w.params).In g) (T : Top Mine.hd.view_39 loose mean mg mb g) (F : Fr g L s.heap m) (N : News g L s.heap news) (M : Memo w news d k)
    (hn : a.length + b.length ≤ n) (hk : k + cnt n ≤ 2 ^ 23) (hd : dp + n + 4 < recursionLimit) (hu : un + 4 * n + 40 < cLine)
    (hret : ∀ t h' tk' news', Fr g L h' m → News g L h' news' → Memo w news' d (k + cnt n) → (∀ p ∈ news, p.1 ≠ d → p ∈ news') → Q (.int (D sc (tl a) (tl b)) t) { s with heap := h', toks := tk' }),
    wpAny (model PySem.Challenge.rw_pa0071_01.row.prog w) (ktrTop dp un gd cn cs Lc ac ccd cl outer) (call (.ref 182) [.str a ta, .str b tb, .ref d]) Q E s
theorem ap_empty {a b : Str} (h : (a == Str.ofString "") = true ∨ (b == Str.ofString "") = true) : D sc (tl a) (tl b) = 2 * ((a ++ b).length : Int) := by
  have e : ∀ x : Str, (x == Str.ofString "") = true → tl x = [] := fun x q => by rw [beq_iff_eq.mp q]; decide +kernel
  have l : (a ++ b).length = a.length + b.length := by rw [Str.length_append]
  rw [l]
  rcases h with h | h
  · have q := e a h
    have q2 : a.length = 0 := by rw [← tl_len, q]; rfl
    rw [q, D_nil_left, tl_len, q2]; omega
  · have q := e b h
    have q2 : b.length = 0 := by rw [← tl_len, q]; rfl
    rw [q, D_nil_right, tl_len, q2]; omega
theorem nonempty_of {a : Str} (h : (a == Str.ofString "") = false) : 1 ≤ a.length := by
  rw [beq_eq_false_iff_ne] at h
  refine Nat.pos_of_ne_zero fun q => h ?_
  refine tl_inj ?_
  have : tl a = [] := List.length_eq_zero_iff.mp (by rw [tl_len]; exact q)
  rw [this]; decide +kernel
theorem ap_key {w : World} {a b : Str} {ta tb : Tok} : TupKeyObj (PySem.strKind prg w) [a, b] ({ cls := .type "tuple", data := .seq #[.str a ta, .str b tb] } : Obj) :=
  TupKeyObj.made (vs := [.str a ta, .str b tb]) (.cons (strKind_is _ _ _ _) (.cons (strKind_is _ _ _ _) .nil))
theorem slice1_len {a : Str} (h : 1 ≤ a.length) : (Txt.slice a (some 1) none).length + 1 = a.length := by
  rw [← tl_len, tl_slice_from (by omega) (by omega), List.length_drop, tl_len]; omega
theorem ap_min {a b : Str} {M : Int} (la1 : 1 ≤ a.length) (lb1 : 1 ≤ b.length)
    (h : M = D sc (tl (Txt.slice a (some 1) none)) (tl b) + 2 ∨ M = D sc (tl a) (tl (Txt.slice b (some 1) none)) + 2 ∨ M = D sc (tl (Txt.slice a (some 1) none)) (tl (Txt.slice b (some 1) none)) + sc ((tl a).getD 0 0) ((tl b).getD 0 0))
    (h' : M ≤ D sc (tl (Txt.slice a (some 1) none)) (tl b) + 2 ∧ M ≤ D sc (tl a) (tl (Txt.slice b (some 1) none)) + 2 ∧ M ≤ D sc (tl (Txt.slice a (some 1) none)) (tl (Txt.slice b (some 1) none)) + sc ((tl a).getD 0 0) ((tl b).getD 0 0)) :
    M = D sc (tl a) (tl b) := by
  rw [tl_slice_from (by omega) (by omega), tl_slice_from (by omega) (by omega)] at h h'
  have ea : tl a = (tl a).getD 0 0 :: (tl a).drop (1 : Int).toNat := by
    cases q : tl a with
    | nil => have := tl_len a; rw [q] at this; simp at this; omega
    | cons x r => rfl
  have eb : tl b = (tl b).getD 0 0 :: (tl b).drop (1 : Int).toNat := by
    cases q : tl b with
    | nil => have := tl_len b; rw [q] at this; simp at this; omega
    | cons x r => rfl
  have e := D_cons (sc := sc) ((tl a).getD 0 0) ((tl b).getD 0 0) ((tl a).drop (1 : Int).toNat) ((tl b).drop (1 : Int).toNat)
  rw [← ea, ← eb] at e
  omega
theorem ap_step {w : World} {loose : List Str} {mean : ExcName → Option Value} {mg mb : Str → Option Value} {n : Nat} (hn14 : n ≤ 14) (IH : ∀ n', n' < n → ApHolds w loose mean mg mb n') : ApHolds w loose mean mg mb n := by
  intro dp un gd cn cs Lc ac ccd cl outer g₀ L₀ s m₀ news Q E a b ta tb d k X₀ T₀ F₀ N₀ M hn hk hd hu hret
  revert X₀; k_fill; intro X₀
  k_dflt (refine' enterN X₀ T₀ F₀ N₀ ?k6 ?k7 ?k8 ?k9 ?kB ?_ ?c2 ?c3 ?c4 ?c5; (case k6 => k_is); (case k7 => k_is); (case k8 => ktr_room); (case k9 => exact BindsTo.of_eq rfl); (case c5 => decide); (case kB => exact locs rfl); (case c2 => exact rfl); (case c3 => exact rfl); (case c4 => exact rfl))
  clear F₀ N₀ X₀ T₀
  intro g L' h₁ X T F N back
  (try dsimp only); (try k_fold)
  repeat' ((fail_if_success (with_reducible show wpAny _ _ (compareOp CmpOp.NotIn _ _) _ _ _)); (first | (k_unfold; (try dsimp only)) | (k_end; wrow_close) | walk1 | (dsimp only; walk1) | (leave1; walk_say "STEP leave1"; try dsimp only)))
  · obtain ⟨F2, N2⟩ := back _ _ _ (by assumption) (by assumption)
    rw [ap_empty (.inl (by assumption))] at hret
    exact hret _ _ _ _ F2 N2 (M.le (by omega)) (fun p hp _ => hp)
  · obtain ⟨F2, N2⟩ := back _ _ _ (by assumption) (by assumption)
    rw [ap_empty (.inr (by assumption))] at hret
    exact hret _ _ _ _ F2 N2 (M.le (by omega)) (fun p hp _ => hp)
  · obtain ⟨Dd, TT, hm, hl⟩ := M
    rename News _ _ _ (_ :: _) => N2
    have la1 : 1 ≤ a.length := nonempty_of (by assumption)
    have lb1 : 1 ≤ b.length := nonempty_of (by assumption)
    k_dflt (refine' notin_tupTab same_str ?hu N2 (TT.cons _) (.head _) (ap_key (w := w)) ?_)
    case hu => ktr_units
    cases hlk : lookup (encTuple PyData.str [a, b]) Dd with
    | some dv =>
      dsimp only [Option.isSome, Bool.not]
      have hdv := hm a b dv hlk
      subst hdv
      repeat' ((fail_if_success (with_reducible show wpAny _ _ (subscriptTail _ _ (Value.ref _) (Value.ref _)) _ _ _)); (first | (k_unfold; (try dsimp only)) | (k_end; wrow_close) | walk1 | (dsimp only; walk1) | (leave1; walk_say "STEP leave1"; try dsimp only)))
      rename News _ _ _ (_ :: _) => N3
      k_dflt (refine' item_tupTab same_str ?hu N3 ((TT.cons _).cons _) (.head _) (ap_key (w := w)) hlk ?_)
      case hu => ktr_units
      intro v hv
      obtain ⟨tv, rfl⟩ : ∃ tv, v = Value.int (D sc (tl a) (tl b)) tv := by
        cases hv s.heap
        exact ⟨_, rfl⟩
      (try dsimp only)
      obtain ⟨F2, N4⟩ := back _ _ _ (by assumption) N3
      exact hret _ _ _ _ F2 N4 ⟨Dd, (TT.cons _).cons _, hm, by omega⟩ (fun p hp _ => .tail _ (.tail _ hp))
    | none =>
      dsimp only [Option.isSome, Bool.not]
      repeat' ((fail_if_success (with_reducible show wpAny _ _ (exec (Stmt.Assign _ (Expr.IfExp _ _ _ _) _) _) _ _ _)); (first | (k_unfold; (try dsimp only)) | (k_end; wrow_close) | walk1 | (dsimp only; walk1) | (leave1; walk_say "STEP leave1"; try dsimp only)))
      k_dflt (refine' ap_change (a := a) (b := b) ?hK ?hst0 ?hst X T ?F N2 ?ha ?hb ?la ?lb la1 lb1 ?_)
      case hK => k_is
      case hst0 => rfl
      case hst => rfl
      case F => assumption
      case ha => with_unfolding_all rfl
      case hb => with_unfolding_all rfl
      case la => omega
      case lb => omega
      intro t9 m9 h9 tk9 F9 N9 e1 e2
      have hpins : ∀ p ∈ [(Str.ofString "change", Value.int (sc ((tl a).getD 0 0) ((tl b).getD 0 0)) t9), (Str.ofString "one", .str a ta), (Str.ofString "other", .str b tb), (Str.ofString "known", .ref d)], m9 p.1 = some p.2 :=
        allC e1 (allC ((e2 (Str.ofString "one") (by decide)).trans (by with_unfolding_all rfl)) (allC ((e2 (Str.ofString "other") (by decide)).trans (by with_unfolding_all rfl)) (all1 ((e2 (Str.ofString "known") (by decide)).trans (by with_unfolding_all rfl)))))
      have F10 := pinAll _ F9 hpins
      clear F9
      dsimp only [pinL] at F10
      have hcn : cnt n = 3 * cnt (n - 1) + 1 := by
        obtain ⟨n', rfl⟩ : ∃ n', n = n' + 1 := ⟨n - 1, by omega⟩
        rfl
      have sa := slice1_len la1
      have sb := slice1_len lb1
      have M0 : Memo w news d k := ⟨Dd, TT, hm, hl⟩
      have N10 : News g L' h9 news := kst_newsOf N9 (fun p hp => .tail _ hp)
      (try dsimp only)
      repeat' ((fail_if_success (with_reducible show wpAny _ _ (call (Value.ref 182) _ _) _ _ _)); (first | (k_unfold; (try dsimp only)) | (k_end; wrow_close) | walk1 | (dsimp only; walk1) | (leave1; walk_say "STEP leave1"; try dsimp only)))
      k_dflt (refine' IH (n - 1) (by omega) (a := Txt.slice a (some 1) none) (b := b) (k := k) X T ?F ?N M0 ?hn ?hk ?hd ?hu ?_)
      case N => assumption
      case F => assumption
      case hn => omega
      case hk => omega
      case hd => ((try simp only [depth_deeper]); (try dsimp only [ktrTop]); omega)
      case hu => ((try simp only [units_deeper]); (try dsimp only [ktrTop]); omega)
      intro t1 h1 tk1 news1 F1 N1 M1 S1
      (try dsimp only)
      repeat' ((fail_if_success (with_reducible show wpAny _ _ (call (Value.ref 182) _ _) _ _ _)); (first | (k_unfold; (try dsimp only)) | (k_end; wrow_close) | walk1 | (dsimp only; walk1) | (leave1; walk_say "STEP leave1"; try dsimp only)))
      k_dflt (refine' IH (n - 1) (by omega) (a := a) (b := Txt.slice b (some 1) none) (k := k + cnt (n - 1)) X T ?F ?N M1 ?hn ?hk ?hd ?hu ?_)
      case N => assumption
      case F => assumption
      case hn => omega
      case hk => omega
      case hd => ((try simp only [depth_deeper]); (try dsimp only [ktrTop]); omega)
      case hu => ((try simp only [units_deeper]); (try dsimp only [ktrTop]); omega)
      intro t2 h2 tk2 news2 F2 N2 M2 S2
      (try dsimp only)
      repeat' ((fail_if_success (with_reducible show wpAny _ _ (call (Value.ref 182) _ _) _ _ _)); (first | (k_unfold; (try dsimp only)) | (k_end; wrow_close) | walk1 | (dsimp only; walk1) | (leave1; walk_say "STEP leave1"; try dsimp only)))
      k_dflt (refine' IH (n - 1) (by omega) (a := Txt.slice a (some 1) none) (b := Txt.slice b (some 1) none) (k := k + cnt (n - 1) + cnt (n - 1)) X T ?F ?N M2 ?hn ?hk ?hd ?hu ?_)
      case N => assumption
      case F => assumption
      case hn => omega
      case hk => omega
      case hd => ((try simp only [depth_deeper]); (try dsimp only [ktrTop]); omega)
      case hu => ((try simp only [units_deeper]); (try dsimp only [ktrTop]); omega)
      intro t3 h3 tk3 news3 F3 N3 M3 S3
      (try dsimp only)
      repeat' ((fail_if_success (with_reducible show wpAny _ _ (setItem _ _ _) _ _ _)); (first | (k_unfold; (try dsimp only)) | (k_end; wrow_close) | walk1 | (dsimp only; walk1) | (leave1; walk_say "STEP leave1"; try dsimp only)))
      have hM := ap_min (a := a) (b := b) la1 lb1 (by assumption) (by assumption)
      subst hM
      obtain ⟨D3, TT3, hm3, hl3⟩ := M3
      rename News _ _ _ (_ :: _) => N4
      k_dflt (refine' setItem_tupTab (dv := PyData.int (D sc (tl a) (tl b))) same_str ?hu ?hv ?F N4 ((TT3.cons _).cons _) (.head _) (ap_key (w := w)) ?_ ?hsz)
      case hu => ktr_units
      case hv => exact fun h => Reads.int _ _
      case F => assumption
      case hsz => (show _ ≤ 2 ^ 24; omega)
      intro h5 news5 F5 N5 TT5 hka5 S5
      have S05 : ∀ p ∈ news, p.1 ≠ d → p ∈ news5 := fun p hp hq => S5 p (.tail _ (.tail _ (S3 p (S2 p (S1 p hp hq) hq) hq))) hq
      (try dsimp only)
      clear N4
      repeat' ((fail_if_success (with_reducible show wpAny _ _ (subscriptTail _ _ (Value.ref _) (Value.ref _)) _ _ _)); (first | (k_unfold; (try dsimp only)) | (k_end; wrow_close) | walk1 | (dsimp only; walk1) | (leave1; walk_say "STEP leave1"; try dsimp only)))
      rename News _ _ _ (_ :: _) => N6
      k_dflt (refine' item_tupTab (dv := PyData.int (D sc (tl a) (tl b))) same_str ?hu N6 (TT5.cons _) (.head _) (ap_key (w := w)) ?hlk ?_)
      case hu => ktr_units
      case hlk => exact lookup_putK_same (keyEnc_tuple keyEnc_str) [a, b] _ D3
      intro v hv
      obtain ⟨tv, rfl⟩ : ∃ tv, v = Value.int (D sc (tl a) (tl b)) tv := by
        cases hv s.heap
        exact ⟨_, rfl⟩
      (try dsimp only)
      obtain ⟨F2, N7⟩ := back _ _ _ (by assumption) N6
      refine hret _ _ _ _ F2 N7 ⟨_, TT5.cons _, ?_, ?_⟩ (fun p hp hq => .tail _ (S05 p hp hq))
      · intro x y dv hxy
        rw [lookup_putK (keyEnc_tuple keyEnc_str)] at hxy
        by_cases q : [x, y] = [a, b]
        · rw [if_pos q] at hxy
          cases hxy
          simp only [List.cons.injEq, and_true] at q
          rw [q.1, q.2]
        · rw [if_neg q] at hxy
          exact hm3 x y dv hxy
      · have := putD_length_le (encTuple PyData.str [a, b]) (PyData.int (D sc (tl a) (tl b))) D3
        omega
end Mine
end
section
theorem Mine.rstMis {M : PySem.Model} {A : PySem.Around} {pos : PySem.Pos} {env : PySem.Env} {Q : PySem.Flow → PySem.Shared → Prop} {E : PySem.Value → PySem.Shared → Prop} {s : PySem.Shared} (h : PySem.wpAny M A (PySem.exec (.Pass pos) env) Q E s) : PySem.wpAny M A (PySem.exec (.Pass pos) env) Q E s := by
  w_top off
  k_with_none
  first | (walk1; fail) | exact h
open PySem PySem.W PyProof.Rows PySem.Calls PyProof.V PySem.Spec PySem.Builtin PySem.Builtin.Str
set_option Elab.async false
set_option linter.unusedVariables false
set_option maxRecDepth 100000
set_option maxHeartbeats 8000000
namespace Mine
theorem slice_len_le (x : Str) (l u : Option Int) : (Txt.slice x l u).length ≤ (strSliceIndices l u 1 x.length).length := by
  unfold Txt.slice
  split
  · rename_i h
    simp only [beq_self_eq_true, Bool.true_and, beq_iff_eq] at h
    omega
  · show (List.filterMap _ (strSliceIndices l u 1 x.length)).toArray.size ≤ _
    rw [List.size_toArray]
    exact List.length_filterMap_le _ _
theorem len_ss {x : Str} {i j : Int} (h0 : 0 ≤ i) (h1 : i ≤ j) : (Txt.slice x (some i) (some j)).length ≤ (j - i).toNat := by
  refine Nat.le_trans (slice_len_le x _ _) ?_
  unfold strSliceIndices sliceRange
  simp only [show (1 : Int) > 0 by decide, if_true, List.length_map, List.length_range]
  (repeat' split) <;> (try simp only [Int.ediv_one]) <;> omega
theorem len_ns {x : Str} {j : Int} (h0 : 0 ≤ j) : (Txt.slice x none (some j)).length ≤ j.toNat ∧ (Txt.slice x none (some j)).length ≤ x.length := by
  refine ⟨Nat.le_trans (slice_len_le x _ _) ?_, Txt.slice_le _ _ _⟩
  unfold strSliceIndices sliceRange
  simp only [show (1 : Int) > 0 by decide, if_true, List.length_map, List.length_range]
  (repeat' split) <;> (try simp only [Int.ediv_one]) <;> omega
theorem len_sn {x : Str} {i : Int} (h0 : 0 ≤ i) : (Txt.slice x (some i) none).length ≤ x.length - i.toNat := by
  refine Nat.le_trans (slice_len_le x _ _) ?_
  unfold strSliceIndices sliceRange
  simp only [show (1 : Int) > 0 by decide, if_true, List.length_map, List.length_range]
  (repeat' split) <;> (try simp only [Int.ediv_one]) <;> omega
def misO (a : Str) (p y : Int) : Str :=
  if y = 0 then Txt.swapcase (Txt.slice a (some p) (some (p + 1))) else if y = 1 then Str.ofString "" else if y = 2 then Txt.slice a (some p) (some (p + 1)) ++ Txt.slice a (some p) (some (p + 1))
  else if y = 3 then Str.ofString "=" else if y = 4 then Txt.slice a (some (p + 1)) (some (p + 2)) ++ Txt.slice a (some p) (some (p + 1)) else Txt.slice a (some p) (some (p + 1))
def mis (a : Str) (p y : Int) : Str := Txt.slice a none (some p) ++ misO a p y ++ Txt.slice a (some (p + (if y = 4 then 2 else 1))) none
theorem mis_arith {A M T n P : Nat} (h1 : A ≤ P) (h2 : A ≤ n) (h3 : T ≤ n - (P + 1)) (hM : M ≤ 3) : A + M + T ≤ n + 3 := by omega
theorem one_of {k : Nat} {i j : Int} (h : k ≤ (j - i).toNat) (e : j = i + 1) : k ≤ 1 := by subst e; omega
theorem swap_of {k m : Nat} (h : k ≤ 3 * m) (h1 : m ≤ 1) : k ≤ 3 := by omega
theorem two_of {k m : Nat} (h : k ≤ 1) (h1 : m ≤ 1) : k + m ≤ 3 := by omega
theorem tail_of {T n : Nat} {p q : Int} (p0 : 0 ≤ p) (hq : p + 1 ≤ q) (h : T ≤ n - q.toNat) : T ≤ n - (p.toNat + 1) := by omega
theorem mis_len {a : Str} {p y : Int} (p0 : 0 ≤ p) (hs : (Txt.swapcase (Txt.slice a (some p) (some (p + 1)))).length ≤ 3 * (Txt.slice a (some p) (some (p + 1))).length) : (mis a p y).length ≤ a.length + 3 := by
  have p1 : (0 : Int) ≤ p + 1 := Int.add_nonneg p0 (by decide)
  have l1 := one_of (len_ss (x := a) (i := p) (j := p + 1) p0 (Int.le_add_of_nonneg_right (by decide))) rfl
  have l2 := one_of (len_ss (x := a) (i := p + 1) (j := p + 2) p1 (Int.add_le_add_left (by decide) p)) (Int.add_assoc p 1 1).symm
  have l3 := len_ns (x := a) p0
  have e0 : (Str.ofString "").length = 0 := by decide +kernel
  have e1 : (Str.ofString "=").length = 1 := by decide +kernel
  have hT : (Txt.slice a (some (p + (if y = 4 then 2 else 1))) none).length ≤ a.length - (p.toNat + 1) := by
    split
    · exact tail_of p0 (Int.add_le_add_left (by decide) p) (len_sn (x := a) (Int.add_nonneg p0 (by decide)))
    · exact tail_of p0 (Int.le_refl _) (len_sn (x := a) p1)
  have hM : (misO a p y).length ≤ 3 := by
    unfold misO
    split
    · exact swap_of hs l1
    split
    · rw [e0]; decide
    split
    · rw [Str.length_append]; exact two_of l1 l1
    split
    · rw [e1]; decide
    split
    · rw [Str.length_append]; exact two_of l2 l1
    · exact Nat.le_trans l1 (by decide)
  unfold mis
  rw [Str.length_append, Str.length_append]
  exact mis_arith l3.1 l3.2 hT hM
theorem mis0 {a : Str} {p : Int} : mis a p 0 = Txt.slice a none (some p) ++ Txt.swapcase (Txt.slice a (some p) (some (p + 1))) ++ Txt.slice a (some (p + 1)) none := by simp [mis, misO]
theorem mis1 {a : Str} {p : Int} : mis a p 1 = Txt.slice a none (some p) ++ Str.ofString "" ++ Txt.slice a (some (p + 1)) none := by simp [mis, misO]
theorem mis2 {a : Str} {p : Int} : mis a p 2 = Txt.slice a none (some p) ++ (Txt.slice a (some p) (some (p + 1)) ++ Txt.slice a (some p) (some (p + 1))) ++ Txt.slice a (some (p + 1)) none := by simp [mis, misO]
theorem mis3 {a : Str} {p : Int} : mis a p 3 = Txt.slice a none (some p) ++ Str.ofString "=" ++ Txt.slice a (some (p + 1)) none := by simp [mis, misO]
theorem mis4 {a : Str} {p : Int} : mis a p 4 = Txt.slice a none (some p) ++ (Txt.slice a (some (p + 1)) (some (p + 2)) ++ Txt.slice a (some p) (some (p + 1))) ++ Txt.slice a (some (p + 2)) none := by simp [mis, misO]
theorem mis5 {a : Str} {p : Int} : mis a p 5 = Txt.slice a none (some p) ++ Txt.slice a (some p) (some (p + 1)) ++ Txt.slice a (some (p + 1)) none := by simp [mis, misO]
theorem mis_ret {Q : Value → Shared → Prop} {s : Shared} {a r : Str} {p y : Int} {t : Tok} {h' : Heap} {tk' : Nat} (hret : ∀ t h' tk', Kept s.heap h' → (mis a p y).length ≤ a.length + 3 → Q (.str (mis a p y) t) { s with heap := h', toks := tk' })
    (k : Kept s.heap h') (hl : (mis a p y).length ≤ a.length + 3) (e : mis a p y = r) : Q (.str r t) { s with heap := h', toks := tk' } := by
  rw [e] at hret hl; exact hret _ _ _ k hl
theorem mis_call {w : World} {loose : List Str} {mean : ExcName → Option Value} {mg mb : Str → Option Value} {dp un : Nat} {gd : Option (List Code)} {cn : Str} {cs : Scope} {Lc ac : Addr} {ccd : Value} {cl : List (Str × Addr)} {outer : List Env}
    {s : Shared} {Q E : Value → Shared → Prop} {a : Str} {p y : Int} {ta tp ty : Tok} (X : (Mine.hd.heap_39 w.params).In s.heap) (T : Top Mine.hd.view_39 loose mean mg mb s.heap)
    (la : a.length ≤ 40) (p0 : 0 ≤ p) (p1 : p ≤ 8) (y0 : 0 ≤ y) (y1 : y < 6) (hd : dp + 4 < recursionLimit) (hu : un + 40 < cLine)
    (hret : ∀ t h' tk', Kept s.heap h' → (mis a p y).length ≤ a.length + 3 → Q (.str (mis a p y) t) { s with heap := h', toks := tk' }) :
    wpAny (model PySem.Challenge.rw_pa0071_01.row.prog w) (ktrTop dp un gd cn cs Lc ac ccd cl outer) (call (.ref 170) [.str a ta, .int p tp, .int y ty]) Q E s := by
  revert X; k_fill; intro X
  k_dflt (refine' enter X T ?k6 ?k7 ?k8 ?k9 ?kB ?_ ?c2 ?c3 ?c4 ?c5; (case k6 => k_is); (case k7 => k_is); (case k8 => ktr_room); (case k9 => exact BindsTo.of_eq rfl); (case c5 => decide); (case kB => exact locs rfl); (case c2 => exact rfl); (case c3 => exact rfl); (case c4 => exact rfl))
  intro L' h₁ F N
  (try dsimp only); (try k_fold)
  k_steps
  all_goals first
    | (exfalso; omega)
    | (refine mis_ret (s := s) (a := a) (p := p) (y := y) hret (Fr.keep (by with_reducible assumption)) (mis_len p0 (by with_reducible assumption)) ?_; rename (y = _) => hy; rw [hy]; first | (with_reducible exact mis0) | (with_reducible exact mis1) | (with_reducible exact mis2) | (with_reducible exact mis3) | (with_reducible exact mis4) | (with_reducible exact mis5))
end Mine
end
section
theorem Mine.rstM1 {M : PySem.Model} {A : PySem.Around} {pos : PySem.Pos} {env : PySem.Env} {Q : PySem.Flow → PySem.Shared → Prop} {E : PySem.Value → PySem.Shared → Prop} {s : PySem.Shared} (h : PySem.wpAny M A (PySem.exec (.Pass pos) env) Q E s) : PySem.wpAny M A (PySem.exec (.Pass pos) env) Q E s := by
  w_top off
  k_with_none
  first | (walk1; fail) | exact h
open PySem PySem.W PyProof.Rows PySem.Calls PyProof.V PySem.Spec
set_option Elab.async false
set_option linter.unusedVariables false
set_option maxRecDepth 100000
namespace Mine
/-- (int, str) pairs in order -/
def ltP (x y : Int × Str) : Bool := if x.1 = y.1 then (if x.2 = y.2 then false else decide (x.2.cps.toList < y.2.cps.toList)) else decide (x.1 < y.1)
section
variable {prog : Program} {w : World} {A : Around} {E : Value → Shared → Prop} {s : Shared}
theorem pair_lt {a b : Addr} {x y : Int × Str} {t1 t2 t3 t4 : Tok} {Q : Value → Shared → Prop} (ha : s.heap.IsTuple a #[.int x.1 t1, .str x.2 t2]) (hb : s.heap.IsTuple b #[.int y.1 t3, .str y.2 t4]) (hu : A.units < cLine) (h : Q (.bool (ltP x y)) s) :
    wpAny (model prog w) A (richCompare .Lt (.ref a) (.ref b)) Q E s := by
  obtain ⟨oa, hoa, hca, na, hda⟩ := ha
  obtain ⟨ob, hob, hcb, nb, hdb⟩ := hb
  have hTa : s.TypeIs (.ref a) "tuple" := ⟨oa, hoa, hca⟩
  have hTb : s.TypeIs (.ref b) "tuple" := ⟨ob, hob, hcb⟩
  refine wpAny_richCompare_same_room (op := .Lt) hTa hTb F.slot_tuple_lt (wpAny_call_entry F.slot_tuple_lt hTa F.entry_tuple_lt ?_ (F.args_tuple_lt_2 _ _)) hu
  show wpAny _ _ (isInstance (.ref b) (.type "tuple") >>= _) _ _ s
  refine wpAny_bind (wpAny_isInstance hTb isSubtype_tuple_tuple ?_)
  simp only [Bool.not_true, Bool.false_eq_true, if_false]
  refine wpAny_bind (wpAny_tupleItemsOf hoa hda ?_)
  refine wpAny_bind (wpAny_tupleItemsOf hob hdb ?_)
  refine wpAny_bind ?_
  simp only [List.zip_cons_cons, List.zip_nil_right, List.forIn_cons]
  refine wpAny_bind (wpAny_bind (wpAny_eqBool_int ?_))
  unfold ltP at h
  by_cases e1 : x.1 = y.1
  · rw [if_pos e1] at h
    rw [beq_iff_eq.mpr e1]
    simp only [Bool.not_true, Bool.false_eq_true, if_false]
    refine wpAny_pure (wpAny_bind (wpAny_bind (eqBool_str ?_)))
    by_cases e2 : x.2 = y.2
    · rw [if_pos e2] at h
      rw [beq_iff_eq.mpr e2]
      simp only [Bool.not_true, Bool.false_eq_true, if_false]
      refine wpAny_pure ?_
      simp only [List.forIn_nil]
      refine wpAny_pure ?_
      exact wpAny_pure ⟨_, rfl, (fun q => nomatch q), h⟩
    · rw [if_neg e2] at h
      rw [beq_eq_false_iff_ne.mpr e2]
      simp only [Bool.not_false, if_true]
      refine wpAny_bind (wpAny_rule (wpAny_bind (show wpAny _ _ (compareOp .Lt _ _) _ _ _ from lt_str ?_)))
      refine wpAny_bind (wpAny_pure (wpAny_pure (wpAny_pure ?_)))
      exact wpAny_pure ⟨_, rfl, (fun q => nomatch q), h⟩
  · rw [if_neg e1] at h
    rw [beq_eq_false_iff_ne.mpr e1]
    simp only [Bool.not_false, if_true]
    refine wpAny_bind (wpAny_rule (wpAny_bind (CmpOf.ints_lt (P := fun i v => ∃ t, v = .int (if i = 0 then x.1 else y.1) t) (fun i => if i = 0 then x.1 else y.1) (fun i v h => h) 0 1 _ _ _ _ _ ⟨t1, rfl⟩ ⟨t3, rfl⟩ ?_)))
    refine wpAny_bind (wpAny_pure (wpAny_pure (wpAny_pure ?_)))
    exact wpAny_pure ⟨_, rfl, (fun q => nomatch q), h⟩
/-- the least of a list of pairs: the first of the least -/
theorem min_loop {g : Heap} {l I S : Addr} {vs : Array Value} {K : Nat → Int × Str} {R : Result → Shared → Prop} (hh : A.handled = none) (hu : A.in1.units < cLine) (hl : g.IsList l vs)
    (hp : ∀ i v, vs[i]? = some v → ∃ a t u, v = .ref a ∧ g.IsTuple a #[.int (K i).1 t, .str (K i).2 u]) (gI : g.get? I = none) (gS : g.get? S = none) (hIS : S ≠ I)
    (hR : ∀ v h' tk, vs[argBest (fun i j => ltP (K i) (K j)) (vs.size - 1)]? = some v → Kept g h' → R (.ok (.ret v)) { s with heap := h', toks := tk }) :
    ∀ (k j : Nat) (h : Heap) (tk : Nat) (vb : Value) (c : Nat), vs.size - (j + 1) = k → j + 1 ≤ vs.size → h.IsListIter I l (j + 1) → Kept g h → vs[argBest (fun i j => ltP (K i) (K j)) j]? = some vb →
    h.get? S = some { cls := .type "list", dict := none, data := .seq #[vb, vb] c, slots := #[] } →
    codeAny (model prog w) A (.builtin "min.loop" ⟨[.ref I, .none, .ref S], []⟩) R { s with heap := h, toks := tk } := by
  have hname : (toString "min" ++ toString ".loop" : String) = "min.loop" := by decide
  intro k
  induction k with
  | zero =>
    intro j h tk vb c hk hj hit hkp hPb hS
    have hin : j + 1 = vs.size := by omega
    have hl' : h.IsList l vs := hl.at fun o e => hkp _ _ e
    refine codeAny_builtin PySem.F.entry_min_loop ?_
    rw [Around.under_plainId PySem.F.plain_min_loop _]
    show wpAny _ A.in1 (seqItems? (.ref S) >>= _) _ _ _
    refine wpAny_bind (wpAny_seqItems hS rfl ?_)
    show wpAny _ A.in1 (tryCatch (pyNext (.ref I)) _ >>= _) _ _ _
    refine wpAny_bind (wpAny_tryCatch (wpAny_pyNext_list_end (s := { s with heap := h, toks := tk }) hh hit hl' (by simp [← hin]) fun h' hext => ?_))
    replace hext : Heap.ExtBut I h h' := hext
    have hS' := hext S _ hIS hS
    show wpAny _ A.in1 (updateSeq S (fun _ => #[]) >>= _) _ _ _
    refine wpAny_bind ?_
    refine wpAny_updateSeq hS' rfl (wpAny_bind (wpAny_letGo (wpAny_pure ?_)))
    refine hR vb _ tk (by rw [← hin]; exact hPb) fun b o e => ?_
    refine (Heap.get?_update_other _ _ ?_).trans (hext b o ?_ (hkp b o e))
    · rintro rfl; rw [gS] at e; cases e
    · rintro rfl; rw [gI] at e; cases e
  | succ k ih =>
    intro j h tk vb c hk hj hit hkp hPb hS
    have hlt : j + 1 < vs.size := by omega
    have hl' : h.IsList l vs := hl.at fun o e => hkp _ _ e
    refine codeAny_builtin PySem.F.entry_min_loop ?_
    rw [Around.under_plainId PySem.F.plain_min_loop _]
    show wpAny _ A.in1 (seqItems? (.ref S) >>= _) _ _ _
    refine wpAny_bind (wpAny_seqItems hS rfl ?_)
    show wpAny _ A.in1 (tryCatch (pyNext (.ref I)) _ >>= _) _ _ _
    have hx : vs[j + 1]? = some vs[j + 1] := Array.getElem?_eq_getElem hlt
    refine wpAny_bind (wpAny_tryCatch (wpAny_pyNext_list_item (s := { s with heap := h, toks := tk }) hit hl' hx fun h' hit' hsb => ?_))
    replace hsb : Heap.SameBut I h h' := hsb
    have hS' := (hsb.2 S hIS).trans hS
    have hkp' : Kept g h' := fun b o e => (hsb.2 b (by rintro rfl; rw [gI] at e; cases e)).trans (hkp b o e)
    obtain ⟨a, t, u, hv, hT⟩ := hp _ _ hx
    obtain ⟨a2, t2, u2, rfl, hT2⟩ := hp _ _ hPb
    rw [hv] at hx ⊢
    have up : ∀ {a xs}, g.IsTuple a xs → h'.IsTuple a xs := fun ⟨o, ho, r⟩ => ⟨o, hkp' _ _ ho, r⟩
    show wpAny _ A.in1 (tryCatch (holding [Value.ref a, Value.ref a] (richCompare .Lt (Value.ref a) (Value.ref a2) >>= _)) _ >>= _) _ _ _
    refine wpAny_bind (wpAny_tryCatch (wpAny_holding (wpAny_bind (pair_lt (s := { s with heap := h', toks := tk }) (up hT) (up hT2) hu ?_))))
    refine wpAny_bind (wpAny_holding (wpAny_truthy_bool ?_))
    refine wpAny_bind (wpAny_letGo (wpAny_pure ?_))
    cases hb : ltP (K (j + 1)) (K (argBest (fun i j => ltP (K i) (K j)) j)) with
    | true =>
      simp only [if_true]
      refine wpAny_bind ?_
      refine wpAny_updateSeq hS' rfl (wpAny_bind (wpAny_letGo ?_))
      rw [hname]
      refine wpAny_pure ⟨plainId_quiet PySem.F.plain_min_loop _, ih (j + 1) _ _ (.ref a) _ (by omega) hlt ?_ (fun b o e => ?_) (by simp only [argBest, hb, if_true]; exact hx) (Heap.get?_update_self _ hS' rfl)⟩
      · exact hit'.at fun o e => (Heap.get?_update_other _ _ hIS).trans e
      · exact (Heap.get?_update_other _ _ (by rintro rfl; rw [gS] at e; cases e)).trans (hkp' b o e)
    | false =>
      simp only [Bool.false_eq_true, if_false]
      refine wpAny_bind (wpAny_letGo ?_)
      rw [hname]
      exact wpAny_pure ⟨plainId_quiet PySem.F.plain_min_loop _, ih (j + 1) _ _ (.ref a2) c (by omega) hlt hit' hkp' (by simp only [argBest, hb, Bool.false_eq_true, if_false]; exact hPb) hS'⟩
theorem min_pairs {l : Addr} {vs : Array Value} {K : Nat → Int × Str} {Q : Value → Shared → Prop} (hh : A.handled = none) (hu : A.in1.units < cLine) (hl : s.heap.IsList l vs) (hne : 0 < vs.size)
    (hp : ∀ i v, vs[i]? = some v → ∃ a t u, v = .ref a ∧ s.heap.IsTuple a #[.int (K i).1 t, .str (K i).2 u])
    (h : ∀ v h' tk, vs[argBest (fun i j => ltP (K i) (K j)) (vs.size - 1)]? = some v → Kept s.heap h' → Q v { s with heap := h', toks := tk }) :
    wpAny (model prog w) A (call (.builtin "min") [.ref l]) Q E s := by
  have hname : (toString "min" ++ toString ".loop" : String) = "min.loop" := by decide
  refine call_function_tree PySem.F.kind_min PySem.F.plain_min PySem.F.entry_min (PySem.F.args_min1 _) ?_
  show wpAny _ A.in1 (Builtin.Builtins.bindParams "min" ["key", "default"] 0 ⟨[], []⟩ >>= _) _ _ s
  refine wpAny_bind (wpAny_of_eq (show Builtin.Builtins.bindParams "min" ["key", "default"] 0 ⟨[], []⟩ = pure [none, none] from rfl) ?_)
  refine wpAny_bind (wpAny_pure ?_)
  refine wpAny_bind (wpAny_pyIter_list hl ?_)
  refine wpAny_bind (wpAny_newObj_type ?_)
  rw [hname]
  have hne0 : ∀ b, s.heap.objs.size ≤ b → s.heap.get? b = none := fun b hb => by
    cases q : s.heap.get? b with
    | none => rfl
    | some o => exact absurd (Heap.lt_size q) (Nat.not_lt.mpr hb)
  have hz : (s.heap.push { cls := .type "list_iterator", data := .fields #[.ref l, .int 0 0] }).objs.size = s.heap.objs.size + 1 := Heap.size_push ..
  have hIS : s.heap.objs.size + 1 ≠ s.heap.objs.size := Nat.succ_ne_self _
  have hx : vs[0]? = some vs[0] := Array.getElem?_eq_getElem hne
  have hkp0 : Kept s.heap ((s.heap.push { cls := .type "list_iterator", data := .fields #[.ref l, .int 0 0] }).push { cls := .type "list", data := .seq #[] 0 }) := fun b o e => Heap.get?_push_of_some _ (Heap.get?_push_of_some _ e)
  have hit0 : Heap.IsListIter ((s.heap.push { cls := .type "list_iterator", data := .fields #[.ref l, .int 0 0] }).push { cls := .type "list", data := .seq #[] 0 }) s.heap.objs.size l 0 :=
    ⟨_, Heap.get?_push_of_some _ (Heap.get?_push_size _ rfl), rfl, rfl⟩
  have hS0 : Heap.get? ((s.heap.push { cls := .type "list_iterator", data := .fields #[.ref l, .int 0 0] }).push { cls := .type "list", data := .seq #[] 0 }) (s.heap.objs.size + 1) = some { cls := .type "list", dict := none, data := .seq #[] 0, slots := #[] } := by
    have := Heap.get?_push_size (s.heap.push { cls := .type "list_iterator", data := .fields #[.ref l, .int 0 0] }) (o := { cls := .type "list", data := .seq #[] 0 }) rfl
    rw [hz] at this; exact this
  refine wpAny_pure ⟨plainId_quiet PySem.F.plain_min_loop _, ?_⟩
  show codeAny (model prog w) A (.builtin "min.loop" ⟨[.ref s.heap.objs.size, .none, .ref (s.heap.push { cls := .type "list_iterator", data := .fields #[.ref l, .int 0 0] }).objs.size], []⟩) _ { s with heap := (s.heap.push { cls := .type "list_iterator", data := .fields #[.ref l, .int 0 0] }).push { cls := .type "list", data := .seq #[] 0 } }
  rw [hz]
  refine codeAny_builtin PySem.F.entry_min_loop ?_
  rw [Around.under_plainId PySem.F.plain_min_loop _]
  show wpAny _ A.in1 (seqItems? (.ref (s.heap.objs.size + 1)) >>= _) _ _ _
  refine wpAny_bind (wpAny_seqItems hS0 rfl ?_)
  show wpAny _ A.in1 (tryCatch (pyNext (.ref s.heap.objs.size)) _ >>= _) _ _ _
  refine wpAny_bind (wpAny_tryCatch (wpAny_pyNext_list_item (s := { s with heap := _ }) hit0 (hl.at fun o e => hkp0 _ _ e) hx fun h' hit' hsb => ?_))
  replace hsb : Heap.SameBut s.heap.objs.size _ h' := hsb
  have hS' := (hsb.2 _ hIS).trans hS0
  have hkp' : Kept s.heap h' := fun b o e => (hsb.2 b (by rintro rfl; rw [hne0 _ (Nat.le_refl _)] at e; cases e)).trans (hkp0 b o e)
  show wpAny _ A.in1 (updateSeq (s.heap.objs.size + 1) (fun _ => #[vs[0], vs[0]]) >>= _) _ _ _
  refine wpAny_bind ?_
  refine wpAny_updateSeq hS' rfl ?_
  rw [hname]
  refine wpAny_pure ⟨plainId_quiet PySem.F.plain_min_loop _, min_loop (K := K) hh hu hl hp (hne0 _ (Nat.le_refl _)) (hne0 _ (Nat.le_succ _)) hIS (fun v h' tk a b => h v h' tk a b) _ 0 _ _ _ _ rfl hne ?_ (fun b o e => ?_) hx (Heap.get?_update_self _ hS' rfl)⟩
  · exact hit'.at fun o e => (Heap.get?_update_other _ _ hIS).trans e
  · exact (Heap.get?_update_other _ _ (by rintro rfl; rw [hne0 _ (Nat.le_succ _)] at e; cases e)).trans (hkp' b o e)
end
end Mine
end
section
theorem Mine.rstT0 {M : PySem.Model} {A : PySem.Around} {pos : PySem.Pos} {env : PySem.Env} {Q : PySem.Flow → PySem.Shared → Prop} {E : PySem.Value → PySem.Shared → Prop} {s : PySem.Shared} (h : PySem.wpAny M A (PySem.exec (.Pass pos) env) Q E s) : PySem.wpAny M A (PySem.exec (.Pass pos) env) Q E s := by
  w_top off
  k_with_none
  first | (walk1; fail) | exact h
open PySem PySem.W PyProof.Rows PySem.Calls PyProof.V PySem.Spec
set_option Elab.async false
set_option linter.unusedVariables false
set_option maxRecDepth 100000
set_option maxHeartbeats 8000000
namespace Mine
/-- a def with captured names is entered: the whole heap ahead of the call is the base -/
theorem enterC {prog : Program} {w : World} {A : Around} {s : Shared} {K : Frag} {p : Program} {loose : List Str} {mean : ExcName → Option Value} {mg mb : Str → Option Value} {Q E : Value → Shared → Prop}
    {name qual : Str} {params : Arguments} {body : List Stmt} {scope : Scope} {dV kV doc pm cdv ct oc : Value} {an od : Option Addr} {osl : Array (Option Value)} {f : Addr} {vals : List Value} {kw : List (Str × Value)} {binds : List (Str × Value)}
    (X : K.In s.heap) (T : Top p loose mean mg mb s.heap) (ho : K.lookup f = some ⟨oc, od, .func (fnOf name qual params body scope dV kV doc pm an cdv ct), osl⟩) (hcd : codeIn K cdv qual = true) (hroom : A.depth < recursionLimit)
    (hbind : BindsTo s (fnOf name qual params body scope dV kV doc pm an cdv ct) ⟨vals, kw⟩ binds) (hkind : (binds.all fun y => scope.names.lookup y.1 == some .local || scope.names.lookup y.1 == some .cell) = true)
    (hnd : ((cellsFrom 0 scope.names []).map (·.1)).Nodup)
    (h : ∀ L' h₁ tk cells, Fr s.heap L' h₁ (bindL (envOfC qual scope L' f cdv).kindOf binds fun _ => none) → News s.heap L' h₁ cells →
      CellsAre (bindC (envOfC qual scope L' f cdv).kindOf binds fun _ => none) (cellsFrom (L' + 1) scope.names []) cells →
      wpAny (model prog w) (A.deeper (envOfC qual scope L' f cdv)) (execs body (envOfC qual scope L' f cdv)) (fun fl s' => Q (match fl with | .ret v => v | _ => .none) s') (fun _ _ => False) { s with heap := h₁, toks := tk })
    (hco : scope.isCoroutine = false) (hgen : scope.isGenerator = false) (hk : scope.kind = .function) : wpAny (model prog w) A (call (.ref f) vals kw) Q E s := by
  refine wpAny_call ?_
  refine codeAny_call_function (fd := fnOf name qual params body scope dV kV doc pm an cdv ct) (body := body) hroom (X _ _ ho) rfl hco hgen rfl (codeRec_of X hcd) (hbind _ _ _ _ ?_)
  refine wpAny_newFunctionEnv_cells hk (kindsX hkind _) fun env' he s' x => ?_
  subst he
  refine ⟨T.nolimit.keeps x.toInCall.keep, codeAny_func ?_⟩
  obtain ⟨h₁, tk, rfl, _⟩ := x.done
  have hk₁ := x.toInCall.keep
  obtain ⟨cells, NC, Y⟩ := Cl.news (h₀ := s.heap) (Nat.le_refl _) fun n c hm => ⟨x.cell n c (lookup_of_mem_nodup (cellsFrom_names scope.names 0 (s.heap.objs.size + 1) [] [] rfl ▸ hnd) hm), x.above n c hm⟩
  exact wpAny_mono (h s.heap.objs.size h₁ tk cells ⟨x.toInCall.ns, fun b o e => hk₁ b o e, Nat.le_refl _⟩ NC Y) (fun fl s' hl => hl) fun _ _ y => y.elim
end Mine
end
section
theorem Mine.rstT2 {M : PySem.Model} {A : PySem.Around} {pos : PySem.Pos} {env : PySem.Env} {Q : PySem.Flow → PySem.Shared → Prop} {E : PySem.Value → PySem.Shared → Prop} {s : PySem.Shared} (h : PySem.wpAny M A (PySem.exec (.Pass pos) env) Q E s) : PySem.wpAny M A (PySem.exec (.Pass pos) env) Q E s := by
  w_top off
  k_with_none
  first | (walk1; fail) | exact h
open PySem PySem.W PyProof.Rows PySem.Calls PyProof.V PySem.Spec
set_option Elab.async false
set_option linter.unusedVariables false
set_option maxRecDepth 100000
namespace Mine
section
variable {prog : Program} {w : World} {A : Around} {E : Value → Shared → Prop} {s : Shared} {g : Heap} {env : Env}
/-- a for over a list that stands in the base, the target a name -/
theorem for_list {x : Str} {px pos : Pos} {iter : Expr} {body : List Stmt} {m : Str → Option Value} {news : List (Addr × Obj)} {a : Addr} {items : Array Value} {Q : Flow → Shared → Prop}
    (hh : A.handled = none) (ht : g.IsList a items) (J : Nat → (Str → Option Value) → List (Addr × Obj) → Prop) (F : Fr g env.locals s.heap m) (N : News g env.locals s.heap news) (h0 : J 0 m news)
    (he : ∀ Q' : Value → Shared → Prop, Q' (.ref a) s → wpAny (model prog w) A (eval iter env) Q' (fun _ _ => False) s)
    (turn : ∀ i v m₁ news₁ h tk it ito, items[i]? = some v → J i m₁ news₁ → Fr g env.locals h m₁ → News g env.locals h ((it, ito) :: news₁) → (∀ p ∈ news₁, p.1 ≠ it) →
      wpAny (model prog w) A (assign (.Name x px) env v) (fun _ s₂ => wpAny (model prog w) A (execs body env) (fun f s₃ => match f with
        | .next | .cont => ∃ h' tk' m' news', s₃ = { s with heap := h', toks := tk' } ∧ Fr g env.locals h' m' ∧ News g env.locals h' ((it, ito) :: news') ∧ (∀ p ∈ news', p.1 ≠ it) ∧ J (i + 1) m' news'
        | .brk => Q .next s₃
        | .ret v => Q (.ret v) s₃) (fun _ _ => False) s₂) (fun _ _ => False) { s with heap := h, toks := tk })
    (fin : ∀ m' news' h tk, J items.size m' news' → Fr g env.locals h m' → News g env.locals h news' → Q .next { s with heap := h, toks := tk })
    (hs : ∀ x, foldedSetIterable iter env x = pure x := by intro _; rfl) :
    wpAny (model prog w) A (exec (.For (.Name x px) iter body [] pos) env) Q (fun _ _ => False) s := by
  refine wpAny_For (he _ ?_) hs
  have hta : s.heap.IsList a items := let ⟨o, ho, r⟩ := ht; ⟨o, F.keep _ _ ho, r⟩
  refine wpAny_pyIter_list hta ?_
  have hitL : s.heap.objs.size ≠ env.locals := Nat.ne_of_gt F.ns.lt
  have hitg : g.get? s.heap.objs.size = none := by
    cases q : g.get? s.heap.objs.size with
    | none => rfl
    | some o => exact absurd (Heap.lt_size (F.keep _ _ q)) (Nat.lt_irrefl _)
  refine codeAny_forLoop_any (fun n s' => ∃ i h tk m' news', n = items.size + 1 - i ∧ i ≤ items.size ∧ s' = { s with heap := h, toks := tk } ∧ h.IsListIter s.heap.objs.size a i ∧ Fr g env.locals h m' ∧ News g env.locals h news' ∧ (∀ p ∈ news', p.1 ≠ s.heap.objs.size) ∧ J i m' news') ?_ (items.size + 1)
    ⟨0, _, s.toks, m, news, rfl, Nat.zero_le _, rfl, ⟨_, Heap.get?_push_size _ rfl, rfl, rfl⟩, F.push _, fun p hp => ⟨Heap.get?_push_of_some _ (N p hp).1, (N p hp).2⟩, fun p hp => Nat.ne_of_lt (Heap.lt_size (N p hp).1), h0⟩
  rintro n s' ⟨i, h, tk, m', news', hn, hi, rfl, hit, F', N', hoff, hJ⟩
  have hta' : h.IsList a items := let ⟨o, ho, r⟩ := ht; ⟨o, F'.keep _ _ ho, r⟩
  by_cases hlt : i < items.size
  · have hx : items[i]? = some items[i] := Array.getElem?_eq_getElem hlt
    refine wpAny_pyNext_list_item (s := { s with heap := h, toks := tk }) hit hta' hx fun h' hit' hsb => ?_
    obtain ⟨o, ho, hc, hd⟩ := hit'
    have F2 : Fr g env.locals h' m' := F'.change hsb hitL hitg
    have N2 : News g env.locals h' ((s.heap.objs.size, o) :: news') := fun p hp => by
      rcases List.mem_cons.mp hp with rfl | hp
      · exact ⟨ho, hitL, hitg⟩
      · exact ⟨(hsb.2 p.1 (hoff p hp)).trans (N' p hp).1, (N' p hp).2⟩
    unfold letOwnedTupleGo
    refine wpAny_pure ?_
    refine wpAny_mono (turn i items[i] m' news' h' tk _ o hx hJ F2 N2 hoff) (fun _ s₂ q => wpAny_mono q (fun f s₃ r => ?_) (fun _ _ z => z.elim)) (fun _ _ z => z.elim)
    cases f with
    | next =>
      obtain ⟨h3, tk3, m3, news3, rfl, F3, N3, hoff3, hJ3⟩ := r
      exact ⟨items.size + 1 - (i + 1), by omega, i + 1, h3, tk3, m3, news3, rfl, hlt, rfl, ⟨o, (N3 _ (.head _)).1, hc, hd⟩, F3, fun p hp => N3 p (.tail _ hp), hoff3, hJ3⟩
    | cont =>
      obtain ⟨h3, tk3, m3, news3, rfl, F3, N3, hoff3, hJ3⟩ := r
      exact ⟨items.size + 1 - (i + 1), by omega, i + 1, h3, tk3, m3, news3, rfl, hlt, rfl, ⟨o, (N3 _ (.head _)).1, hc, hd⟩, F3, fun p hp => N3 p (.tail _ hp), hoff3, hJ3⟩
    | brk => exact r
    | ret v => exact r
  · have hie : i = items.size := by omega
    subst hie
    refine wpAny_pyNext_list_end (s := { s with heap := h, toks := tk }) hh hit hta' (by simp) fun h' hext => ?_
    have F2 : Fr g env.locals h' m' := ⟨by
      obtain ⟨oL, a1, a2, hL, a3⟩ := F'.ns
      exact ⟨oL, a1, a2, hext _ _ (Ne.symm hitL) hL, a3⟩, fun b o e => hext b o (by rintro rfl; rw [hitg] at e; cases e) (F'.keep b o e), F'.above⟩
    refine wpAny_pure ?_
    exact fin m' news' h' tk hJ F2 fun p hp => ⟨hext _ _ (hoff p hp) (N' p hp).1, (N' p hp).2⟩
/-- the turns of a comprehension, by a step -/
theorem comp_rest {h₀ : Heap} {L : Addr} {m : Str → Option Value} {elt : Expr} {x : Str} {scope : Scope} {cl : List (Str × Addr)} {S : List (Addr × Obj) → Prop} {its : Array Value} {Fin : List Value → List (Addr × Obj) → Prop} (R : Nat → List Value → List (Addr × Obj) → Prop)
    (step : ∀ i v ys news I oI C oC D m₂ h tk (E' : Value → Shared → Prop), its[i]? = some v → R i ys news → LCg.NsObj oC m₂ → m₂ x = some v → Fr h₀ L h m → News h₀ L h ((I, oI) :: (C, oC) :: (D, LCg.lst ys) :: news) → LCg.Off3 I C D news → ((@Ne Nat I C) ∧ (@Ne Nat I D) ∧ (@Ne Nat C D)) →
      wpAny (model prog w) A (eval elt (compEnvC scope cl C env)) (LCg.CompEnd h₀ L m { s with heap := h, toks := tk } I oI C oC D (LCg.lst ys) S (fun y news' => R (i + 1) (ys ++ [y]) news')) E' { s with heap := h, toks := tk })
    (fin : ∀ ys news, R its.size ys news → Fin ys news) :
    ∀ k i ys news, i + k = its.size → R i ys news → LCg.CompRest prog w A h₀ L m env elt x scope cl s S (fun i v => its[i]? = some v) Fin k i ys news
  | 0, i, ys, news, hk, hR => LCg.CompRest.zero (fin _ _ (by simpa [← hk] using hR))
  | k + 1, i, ys, news, hk, hR => LCg.CompRest.succ fun v I oI C oC D m₂ h tk E' hv hC hx F N off ne =>
      wpAny_mono (step i v ys news I oI C oC D m₂ h tk E' hv hR hC hx F N off ne) (fun y s₂ ⟨h', tk', news', e, F', N', off', hS, hR'⟩ => ⟨h', tk', news', e, F', N', off', hS, comp_rest R step fin k (i + 1) _ _ (by omega) hR'⟩) fun _ _ z => z
/-- a comprehension's element is at hand, a new object its value -/
theorem comp_end {h₀ : Heap} {L I C D a : Addr} {m : Str → Option Value} {s₁ : Shared} {oI oC oD o : Obj} {ax : Addr} {its : Array Value} {rest : Value → List (Addr × Obj) → Prop} {h' : Heap} {tk : Nat} {all news : List (Addr × Obj)}
    (F : Fr h₀ L h' m) (N : News h₀ L h' ((a, o) :: all)) (l1 : @LT.lt Nat _ I a) (l2 : @LT.lt Nat _ C a) (l3 : @LT.lt Nat _ D a) (off : LCg.Off3 I C D news) (sub : ∀ p ∈ (I, oI) :: (C, oC) :: (D, oD) :: news, p ∈ all) (hS : LCg.SrcAt h₀ ax its news)
    (r : rest (.ref a) ((a, o) :: news)) :
    LCg.CompEnd h₀ L m s₁ I oI C oC D oD (LCg.SrcAt h₀ ax its) rest (.ref a) { s₁ with heap := h', toks := tk } :=
  LCg.CompEnd.intro F N ((a, o) :: news) (fun p hp => by
    rcases List.mem_cons.mp hp with rfl | hp
    · exact .tail _ (sub _ (.head _))
    rcases List.mem_cons.mp hp with rfl | hp
    · exact .tail _ (sub _ (.tail _ (.head _)))
    rcases List.mem_cons.mp hp with rfl | hp
    · exact .tail _ (sub _ (.tail _ (.tail _ (.head _))))
    rcases List.mem_cons.mp hp with rfl | hp
    · exact .head _
    · exact .tail _ (sub _ (.tail _ (.tail _ (.tail _ hp))))) ⟨⟨Nat.ne_of_gt l1, Nat.ne_of_gt l2, Nat.ne_of_gt l3⟩, off⟩
    (hS.elim .inl fun ⟨o, hm, r⟩ => .inr ⟨o, .tail _ hm, r⟩) r
/-- a comprehension's element is a plain value -/
theorem comp_endV {h₀ : Heap} {L I C D : Addr} {m : Str → Option Value} {s₁ : Shared} {oI oC oD : Obj} {ax : Addr} {its : Array Value} {rest : Value → List (Addr × Obj) → Prop} {h' : Heap} {tk : Nat} {all news : List (Addr × Obj)} {y : Value}
    (F : Fr h₀ L h' m) (N : News h₀ L h' all) (off : LCg.Off3 I C D news) (sub : ∀ p ∈ (I, oI) :: (C, oC) :: (D, oD) :: news, p ∈ all) (hS : LCg.SrcAt h₀ ax its news)
    (r : rest y news) :
    LCg.CompEnd h₀ L m s₁ I oI C oC D oD (LCg.SrcAt h₀ ax its) rest y { s₁ with heap := h', toks := tk } :=
  LCg.CompEnd.intro F N news sub off hS r
end
end Mine
end
section
theorem Mine.rstT3 {M : PySem.Model} {A : PySem.Around} {pos : PySem.Pos} {env : PySem.Env} {Q : PySem.Flow → PySem.Shared → Prop} {E : PySem.Value → PySem.Shared → Prop} {s : PySem.Shared} (h : PySem.wpAny M A (PySem.exec (.Pass pos) env) Q E s) : PySem.wpAny M A (PySem.exec (.Pass pos) env) Q E s := by
  w_top off
  k_with_none
  first | (walk1; fail) | exact h
open PySem PySem.W PyProof.Rows PySem.Calls PyProof.V PySem.Spec
set_option Elab.async false
set_option linter.unusedVariables false
set_option maxRecDepth 100000
set_option maxHeartbeats 8000000
namespace Mine
section
variable {w : World} {loose : List Str} {mean : ExcName → Option Value} {mg mb : Str → Option Value} {dp un : Nat} {gd : Option (List Code)} {cn : Str} {cs : Scope} {Lc ac : Addr} {ccd : Value} {cl : List (Str × Addr)} {outer : List Env}
    {g : Heap} {L : Addr} {s : Shared} {m : Str → Option Value} {news : List (Addr × Obj)} {Q E : Value → Shared → Prop}
theorem lev_useA {a b : Str} {ta tb tc : Tok} (X : (Mine.hd.heap_39 w.params).In g) (T : Top Mine.hd.view_39 loose mean mg mb g) (F : Fr g L s.heap m) (N : News g L s.heap news) (hd : dp + 4 < recursionLimit) (hu : un + 40 < cLine)
    (la : a.length ≤ 10) (lb : b.length ≤ 10)
    (h : ∀ (t : Tok) h' tk', Fr g L h' m → News g L h' news → Q (.int (D sc (tl a) (tl b)) t) { s with heap := h', toks := tk' }) :
    wpAny (model PySem.Challenge.rw_pa0071_01.row.prog w) (ktrTop dp un gd cn cs Lc ac ccd cl outer) (call (.ref 163) [.str a ta, .str b tb, .int 100 tc]) Q E s :=
  lev_call (X.keeps F.keep) (T.keeps F.keep) (by omega) (by omega) (by decide) (by decide) hd hu fun r t h' tk' k ok => by
    have h1 := D_top (sc := sc) (tl a) (tl b)
    rw [tl_len, tl_len] at h1
    rw [ok.1 (by omega)]
    exact h t h' tk' (k.fr F) (k.news N)
theorem lev_useB {a b : Str} {c : Int} {ta tb tc : Tok} (X : (Mine.hd.heap_39 w.params).In g) (T : Top Mine.hd.view_39 loose mean mg mb g) (F : Fr g L s.heap m) (N : News g L s.heap news) (hd : dp + 4 < recursionLimit) (hu : un + 40 < cLine)
    (la : a.length ≤ 10) (lb : b.length ≤ 10) (c0 : 0 ≤ c) (c1 : c ≤ 1000)
    (h : ∀ (r : Int) (t : Tok) h' tk', Fr g L h' m → News g L h' news → (if c + 1 < r then c + 1 else r) = (if c + 1 < D sc (tl a) (tl b) then c + 1 else D sc (tl a) (tl b)) → Q (.int r t) { s with heap := h', toks := tk' }) :
    wpAny (model PySem.Challenge.rw_pa0071_01.row.prog w) (ktrTop dp un gd cn cs Lc ac ccd cl outer) (call (.ref 163) [.str a ta, .str b tb, .int c tc]) Q E s :=
  lev_call (X.keeps F.keep) (T.keeps F.keep) (by omega) (by omega) c0 c1 hd hu fun r t h' tk' k ok => by
    refine h r t h' tk' (k.fr F) (k.news N) ?_
    by_cases q : D sc (tl a) (tl b) ≤ c
    · rw [ok.1 q]
    · have := ok.2 (by omega)
      split <;> split <;> omega
end
theorem off3_app {I C D : Addr} {l l' : List (Addr × Obj)} (h : LCg.Off3 I C D l) (h' : LCg.Off3 I C D l') : LCg.Off3 I C D (l ++ l') := LCg.Off3.of fun p hp => (List.mem_append.mp hp).elim (h.mem p) (h'.mem p)
theorem allLt_drop {d : Nat} : ∀ {l l' : List (Addr × Obj)}, AllLt d (l ++ l') → AllLt d l'
  | [], _, h => h
  | _ :: _, _, h => allLt_drop h.2
theorem strs_get : ∀ {vs : List Value} {xs : List Str}, StrsAre vs xs → ∀ (i : Nat) v, vs[i]? = some v → ∃ x t, v = .str x t ∧ xs[i]? = some x
  | _, _, .nil, _, _, h => by simp at h
  | _, _, .cons y t r, 0, v, h => by
    simp only [List.getElem?_cons_zero, Option.some.injEq] at h
    exact ⟨y, t, h.symm, rfl⟩
  | _, _, .cons y t r, i + 1, v, h => by
    rw [List.getElem?_cons_succ] at h ⊢
    exact strs_get r i v h
theorem strs_len {vs : List Value} {xs : List Str} (h : StrsAre vs xs) : vs.length = xs.length := by
  induction h with
  | nil => rfl
  | cons _ _ _ ih => rw [List.length_cons, List.length_cons, ih]
theorem take_snoc {α β : Type} {xs : List α} {i : Nat} {x : α} (f : α → β) (h : xs[i]? = some x) : (xs.take (i + 1)).map f = (xs.take i).map f ++ [f x] := by
  rw [List.take_add_one, h, List.map_append]; rfl
section
/-- near = [(_levenshtein_distance(word, one, 100), one) for one in texts] -/
theorem near_stmt {w : World} {loose : List Str} {mean : ExcName → Option Value} {mg mb : Str → Option Value} {dp un : Nat} {gd : Option (List Code)} {cn : Str} {cs : Scope} {Lc ac : Addr} {ccd : Value} {cl : List (Str × Addr)} {outer : List Env}
    {g : Heap} {L : Addr} {s : Shared} {m : Str → Option Value} {Q : Flow → Shared → Prop} {E : Value → Shared → Prop}
    {nm qual : Str} {params : Arguments} {body bd oe : List Stmt} {tg1 it1 : Expr} {ps1 : Pos} {st : Stmt} {scope : Scope} {dV kV doc pm cdv ct oc : Value} {an od : Option Addr} {osl : Array (Option Value)}
    {word : Str} {tw : Tok} {TX : Addr} {txs : List Value} {xs : List Str} {ow : Obj} {news : List (Addr × Obj)}
    (hK : (Mine.hd.heap_39 w.params).lookup 175 = some ⟨oc, od, .func (fnOf nm qual params body scope dV kV doc pm an cdv ct), osl⟩)
    (hst0 : body[2]? = some (.For tg1 it1 bd oe ps1)) (hst : bd[1]? = some st)
    (X : (Mine.hd.heap_39 w.params).In g) (T : Top Mine.hd.view_39 loose mean mg mb g) (hd : dp + 12 < recursionLimit) (hu : un + 120 < cLine)
    (F : Fr g L s.heap m) (N : News g L s.heap news) (hw : (L + 1 + 1, ow) ∈ news) (dw : ow.data = .cell (some (.str word tw))) (hx : (TX, LCg.lst txs) ∈ news) (htx : StrsAre txs xs)
    (h1 : m (Str.ofString "texts") = some (.ref TX)) (lw : word.length ≤ 10) (lx : ∀ x ∈ xs, x.length ≤ 10) (hz : txs.length ≤ 8)
    (hQ : ∀ NR ys nw h' tk', Fr g L h' (fun z => if z = Str.ofString "near" then some (.ref NR) else m z) → News g L h' ((NR, LCg.lst ys) :: (nw ++ news)) → DatAll nw ys (xs.map fun x => Dat.tuple [.int (D sc (tl word) (tl x)), .str x]) → LCg.Off1 NR (nw ++ news) → (∀ p ∈ nw, AllLt p.1 news) → Q .next { s with heap := h', toks := tk' }) :
    wpAny (model PySem.Challenge.rw_pa0071_01.row.prog w) ((ktrTop dp un gd cn cs Lc ac ccd cl outer).deeper (envOfC qual scope L 175 cdv)) (exec st (envOfC qual scope L 175 cdv)) Q E s := by
  k_with_none
  k_with "own" => (k_here; (with_reducible show wpAny _ _ (call (Value.ref 163) [Value.str _ _, Value.str _ _, Value.int 100 _]) _ _ _); k_dflt (refine' lev_useA ?k1 ?k2 ?k3 ?k4 ?kd ?ku ?kla ?klb ?_; (case k1 => k_asm); (case k2 => k_asm); (case k3 => k_asm); (case k4 => k_asm); (case kd => ktr_room); (case ku => ktr_units); (case kla => with_reducible assumption); (case klb => with_reducible assumption)); intro _ _ _ _ _; (try dsimp only); (try k_fold))
  refine wpAny_mono (E := fun _ _ => False) ?_ (fun _ _ x => x) (fun _ _ x => x.elim)
  revert X; k_fill; intro X
  have e := lookEq (by k_is) hK
  clear hK
  have hst1 : (loopAt body 2)[1]? = some st := by (unfold loopAt; rw [hst0]; exact hst)
  clear hst0 hst
  obtain ⟨rfl, rfl, rfl, rfl⟩ := useK e
  clear e
  dsimp only [scopeP, qualP, codeP]
  obtain rfl := Option.some.inj hst1
  clear hst1
  have hpins : ∀ p ∈ [(Str.ofString "texts", Value.ref TX)], m p.1 = some p.2 := all1 h1
  have F4 := pinAll _ F hpins
  rw [show m = pinL [(Str.ofString "texts", Value.ref TX)] m from (pinL_eq hpins).symm] at hQ
  clear F h1 hpins
  dsimp only [pinL] at F4 hQ
  k_dflt (refine LCg.Assign_ListComp_U (F₀ := F4) (by rfl) (by with_unfolding_all rfl) (by with_unfolding_all rfl) (by decide) (by rfl) (by decide) (by rfl) (by rfl) (by rfl) ?_)
  repeat' ((fail_if_success (with_reducible show LCg.CompSrc _ _ _ _ _ _ _ _ _ _ _ _ _ _)); (first | (k_unfold; (try dsimp only)) | (k_end; wrow_close) | k_extra "own" | walk1 | (dsimp only; k_extra "own") | (dsimp only; walk1)))
  refine Or.inl ⟨TX, txs.toArray, news, rfl, rfl, F4, N, .inr ⟨_, hx, rfl, _, rfl⟩, ?_, fun s₂ hs₂ => ?_⟩
  · rw [List.size_toArray]; exact Nat.le_trans hz (by decide)
  obtain ⟨g', rfl⟩ := hs₂
  refine comp_rest (fun i ys news' => ∃ nw, news' = nw ++ news ∧ DatAll nw ys ((xs.take i).map fun x => Dat.tuple [.int (D sc (tl word) (tl x)), .str x]) ∧ ∀ p ∈ nw, AllLt p.1 news) ?_ ?_ _ 0 [] news (by simp) ⟨[], rfl, .nil, fun _ h => nomatch h⟩
  · rintro i v ys news' I oI C oC Dd m₂ h tk E' hv ⟨nw, rfl, hys, hgt⟩ hC hx2 F5 N5 off ne
    obtain ⟨x, tx, rfl, hxi⟩ := strs_get htx i v (by simpa using hv)
    have lx' := lx x (List.mem_of_getElem? hxi)
    have N6 : News g L h ((L + 1 + 1, ow) :: (I, oI) :: (C, oC) :: (Dd, LCg.lst ys) :: (nw ++ news)) := kst_newsOf N5 (fun p hp => by
      rcases List.mem_cons.mp hp with rfl | hp
      · exact .tail _ (.tail _ (.tail _ (List.mem_append_right _ hw)))
      · exact hp)
    clear N5 N F4 hQ
    repeat' (first | (k_unfold; (try dsimp only)) | (k_end; wrow_close) | k_extra "own" | walk1 | (dsimp only; k_extra "own") | (dsimp only; walk1) | (leave1; walk_say "STEP leave1"; try dsimp only) | fail "no step")
    rename Fr _ _ _ _ => F7
    rename News _ _ _ (_ :: _ :: _) => N7
    rename (_ ∧ _ ∧ _ ∧ _ ∧ AllLt _ _) => l1
    refine comp_end F7 N7 l1.2.1 l1.2.2.1 l1.2.2.2.1 off (fun p hp => ?_) (.inr ⟨_, List.mem_append_right _ hx, rfl, _, rfl⟩) ?_
    · rcases List.mem_cons.mp hp with rfl | hp
      · exact .tail _ (.head _)
      rcases List.mem_cons.mp hp with rfl | hp
      · exact .tail _ (.tail _ (.head _))
      rcases List.mem_cons.mp hp with rfl | hp
      · exact .tail _ (.tail _ (.tail _ (.head _)))
      · exact .tail _ (.tail _ (.tail _ (.tail _ hp)))
    · refine ⟨_ :: nw, rfl, ?_, fun p hp => ?_⟩
      rotate_left
      · rcases List.mem_cons.mp hp with rfl | hp
        · exact allLt_drop l1.2.2.2.2
        · exact hgt p hp
      rw [take_snoc _ hxi]
      exact (hys.mono fun p hp => .tail _ hp).append (.one (.tuple (.head _) (.cons (.int _ _) (.cons (.str _ _) .nil))))
  · rintro ys news' ⟨nw, rfl, hys, hgt⟩
    intro D' h' tk' F' N' o1'
    refine hQ _ _ _ _ _ F' N' ?_ o1' hgt
    rw [List.size_toArray, strs_len htx, List.take_length] at hys
    exact hys
end
end Mine
end
section
theorem Mine.rstT4 {M : PySem.Model} {A : PySem.Around} {pos : PySem.Pos} {env : PySem.Env} {Q : PySem.Flow → PySem.Shared → Prop} {E : PySem.Value → PySem.Shared → Prop} {s : PySem.Shared} (h : PySem.wpAny M A (PySem.exec (.Pass pos) env) Q E s) : PySem.wpAny M A (PySem.exec (.Pass pos) env) Q E s := by
  w_top off
  k_with_none
  first | (walk1; fail) | exact h
open PySem PySem.W PyProof.Rows PySem.Calls PyProof.V PySem.Spec
set_option Elab.async false
set_option linter.unusedVariables false
set_option maxRecDepth 100000
set_option maxHeartbeats 8000000
namespace Mine
def bnd (c d : Int) : Int := if c + 1 < d then c + 1 else d
theorem pick_list {prog : Program} {w : World} {A : Around} {E : Value → Shared → Prop} {s : Shared} {value slice : PySem.Expr} {h₀ : Heap} {L l : Addr} {news : List (Addr × Obj)} {vs : Array Value} {k : Nat} {i : Int} {u : Tok} {v : Value} {Q : Value → Shared → Prop}
    (N : News h₀ L s.heap news) (hm : (l, W.listOf vs k) ∈ news) (h0 : 0 ≤ i) (h1 : i < 2 ^ 63) (hv : vs[i.toNat]? = some v) (h : Q v s)
    (hs : subscripted slice false (.ref l) (.int i u) = operate [.ref l, .int i u] (getItem (.ref l) (.int i u)) := by with_unfolding_all rfl) :
    wpAny (model prog w) A (subscriptTail value slice (.ref l) (.int i u)) Q E s :=
  tail_any (News.isList N hm).typeIs slot_list_getitem.lookup (wpAny_getItem_list (News.isList N hm) h0 h1 hv h) hs
theorem pick2 {prog : Program} {w : World} {A : Around} {E : Value → Shared → Prop} {s : Shared} {value slice : PySem.Expr} {h₀ : Heap} {L l : Addr} {news : List (Addr × Obj)} {a b : Str} {ta tb : Tok} {k : Nat} {i : Int} {u : Tok} {Q : Value → Shared → Prop}
    (N : News h₀ L s.heap news) (hm : (l, W.listOf #[.str a ta, .str b tb] k) ∈ news) (h0 : 0 ≤ i) (h1 : i < 2) (h : ∀ t, Q (.str (if i = 0 then a else b) t) s)
    (hs : subscripted slice false (.ref l) (.int i u) = operate [.ref l, .int i u] (getItem (.ref l) (.int i u)) := by with_unfolding_all rfl) :
    wpAny (model prog w) A (subscriptTail value slice (.ref l) (.int i u)) Q E s := by
  have hi : i = 0 ∨ i = 1 := by omega
  rcases hi with rfl | rfl
  · exact pick_list N hm (by decide) (by decide) rfl (h ta) hs
  · exact pick_list N hm (by decide) (by decide) rfl (h tb) hs
section
/-- bounded = [min(_levenshtein_distance([word, one][n % 2], [one, word][n % 2], n % 7), n % 7 + 1) for one in texts] -/
theorem bounded_stmt {w : World} {loose : List Str} {mean : ExcName → Option Value} {mg mb : Str → Option Value} {dp un : Nat} {gd : Option (List Code)} {cn : Str} {cs : Scope} {Lc ac : Addr} {ccd : Value} {cl : List (Str × Addr)} {outer : List Env}
    {g : Heap} {L : Addr} {s : Shared} {m : Str → Option Value} {Q : Flow → Shared → Prop} {E : Value → Shared → Prop}
    {nm qual : Str} {params : Arguments} {body bd oe : List Stmt} {tg1 it1 : Expr} {ps1 : Pos} {st : Stmt} {scope : Scope} {dV kV doc pm cdv ct oc : Value} {an od : Option Addr} {osl : Array (Option Value)}
    {word : Str} {n : Int} {tw tn : Tok} {TX : Addr} {txs : List Value} {xs : List Str} {ow on : Obj} {news : List (Addr × Obj)}
    (hK : (Mine.hd.heap_39 w.params).lookup 175 = some ⟨oc, od, .func (fnOf nm qual params body scope dV kV doc pm an cdv ct), osl⟩)
    (hst0 : body[2]? = some (.For tg1 it1 bd oe ps1)) (hst : bd[2]? = some st)
    (X : (Mine.hd.heap_39 w.params).In g) (T : Top Mine.hd.view_39 loose mean mg mb g) (hd : dp + 12 < recursionLimit) (hu : un + 120 < cLine)
    (F : Fr g L s.heap m) (N : News g L s.heap news) (hw : (L + 1 + 1, ow) ∈ news) (dw : ow.data = .cell (some (.str word tw))) (hn : (L + 1, on) ∈ news) (dn : on.data = .cell (some (.int n tn))) (hx : (TX, LCg.lst txs) ∈ news) (htx : StrsAre txs xs)
    (h1 : m (Str.ofString "texts") = some (.ref TX)) (lw : word.length ≤ 10) (lx : ∀ x ∈ xs, x.length ≤ 10) (hz : txs.length ≤ 8)
    (hQ : ∀ NR ys h' tk', Fr g L h' (fun z => if z = Str.ofString "bounded" then some (.ref NR) else m z) → News g L h' ((NR, LCg.lst ys) :: news) → DatAll [] ys (xs.map fun x => Dat.int (bnd (n.fmod 7) (D sc (tl word) (tl x)))) → LCg.Off1 NR news → Q .next { s with heap := h', toks := tk' }) :
    wpAny (model PySem.Challenge.rw_pa0071_01.row.prog w) ((ktrTop dp un gd cn cs Lc ac ccd cl outer).deeper (envOfC qual scope L 175 cdv)) (exec st (envOfC qual scope L 175 cdv)) Q E s := by
  k_with_none
  k_with "own" => (k_here; (with_reducible show wpAny _ _ (subscriptTail _ _ (Value.ref _) (Value.int (Int.fmod _ 2) _)) _ _ _); k_dflt (refine' pick2 ?k1 ?k2 ?k3 ?k4 ?_ ?k5; (case k1 => k_asm); (case k2 => k_mem); (case k3 => with_reducible assumption); (case k4 => with_reducible assumption); (case k5 => with_unfolding_all rfl); k_whole); intro _)
  k_with "own" => (k_here; (with_reducible show wpAny _ _ (call (Value.ref 163) [Value.str _ _, Value.str _ _, Value.int _ _]) _ _ _); k_dflt (refine' lev_useB ?k1 ?k2 ?k3 ?k4 ?kd ?ku ?kla ?klb ?c0 ?c1 ?_; (case k1 => k_asm); (case k2 => k_asm); (case k3 => k_asm); (case k4 => k_asm); (case kd => ktr_room); (case ku => ktr_units); (case kla => (split <;> with_reducible assumption)); (case klb => (split <;> with_reducible assumption)); (case c0 => with_reducible assumption); (case c1 => with_reducible assumption)); intro _ _ _ _ _ _ _; (try dsimp only); (try k_fold))
  refine wpAny_mono (E := fun _ _ => False) ?_ (fun _ _ x => x) (fun _ _ x => x.elim)
  revert X; k_fill; intro X
  have e := lookEq (by k_is) hK
  clear hK
  have hst1 : (loopAt body 2)[2]? = some st := by (unfold loopAt; rw [hst0]; exact hst)
  clear hst0 hst
  obtain ⟨rfl, rfl, rfl, rfl⟩ := useK e
  clear e
  dsimp only [scopeP, qualP, codeP]
  obtain rfl := Option.some.inj hst1
  clear hst1
  have hpins : ∀ p ∈ [(Str.ofString "texts", Value.ref TX)], m p.1 = some p.2 := all1 h1
  have F4 := pinAll _ F hpins
  rw [show m = pinL [(Str.ofString "texts", Value.ref TX)] m from (pinL_eq hpins).symm] at hQ
  clear F h1 hpins
  dsimp only [pinL] at F4 hQ
  have c0 : 0 ≤ n.fmod 7 := Int.fmod_nonneg_of_pos n (by decide)
  have c7 : n.fmod 7 < 7 := Int.fmod_lt_of_pos n (by decide)
  have c1 : n.fmod 7 ≤ 1000 := by omega
  have p0 : 0 ≤ n.fmod 2 := Int.fmod_nonneg_of_pos n (by decide)
  have p2 : n.fmod 2 < 2 := Int.fmod_lt_of_pos n (by decide)
  k_dflt (refine LCg.Assign_ListComp_U (F₀ := F4) (by rfl) (by with_unfolding_all rfl) (by with_unfolding_all rfl) (by decide) (by rfl) (by decide) (by rfl) (by rfl) (by rfl) ?_)
  repeat' ((fail_if_success (with_reducible show LCg.CompSrc _ _ _ _ _ _ _ _ _ _ _ _ _ _)); (first | (k_unfold; (try dsimp only)) | (k_end; wrow_close) | k_extra "own" | walk1 | (dsimp only; k_extra "own") | (dsimp only; walk1)))
  refine Or.inl ⟨TX, txs.toArray, news, rfl, rfl, F4, N, .inr ⟨_, hx, rfl, _, rfl⟩, ?_, fun s₂ hs₂ => ?_⟩
  · rw [List.size_toArray]; exact Nat.le_trans hz (by decide)
  obtain ⟨g', rfl⟩ := hs₂
  refine comp_rest (fun i ys news' => news = news' ∧ DatAll [] ys ((xs.take i).map fun x => Dat.int (bnd (n.fmod 7) (D sc (tl word) (tl x))))) ?_ ?_ _ 0 [] news (by simp) ⟨rfl, .nil⟩
  · rintro i v ys news' I oI C oC Dd m₂ h tk E' hv ⟨rfl, hys⟩ hC hx2 F5 N5 off ne
    obtain ⟨x, tx, rfl, hxi⟩ := strs_get htx i v (by simpa using hv)
    have lx' := lx x (List.mem_of_getElem? hxi)
    have N6 : News g L h ((L + 1 + 1, ow) :: (L + 1, on) :: (I, oI) :: (C, oC) :: (Dd, LCg.lst ys) :: news) := kst_newsOf N5 (fun p hp => by
      rcases List.mem_cons.mp hp with rfl | hp
      · exact .tail _ (.tail _ (.tail _ hw))
      rcases List.mem_cons.mp hp with rfl | hp
      · exact .tail _ (.tail _ (.tail _ hn))
      · exact hp)
    clear N5 N F4 hQ
    repeat' (first | (k_unfold; (try dsimp only)) | (k_end; wrow_close) | k_extra "own" | walk1 | (dsimp only; k_extra "own") | (dsimp only; walk1) | (leave1; walk_say "STEP leave1"; try dsimp only) | fail "no step")
    rename Fr _ _ _ _ => F7
    rename News _ _ _ (_ :: _ :: _) => N7
    rename (_ = ite _ _ _) => e9
    rw [e9]
    have eD : D sc (tl (if n.fmod 2 = 0 then word else x)) (tl (if n.fmod 2 = 0 then x else word)) = D sc (tl word) (tl x) := by
      by_cases q : n.fmod 2 = 0
      · rw [if_pos q, if_pos q]
      · rw [if_neg q, if_neg q, D_symm cost]
    rw [eD]
    refine comp_endV F7 N7 off (fun p hp => ?_) (.inr ⟨_, hx, rfl, _, rfl⟩) ?_
    · exact .tail _ (.tail _ (.tail _ (.tail _ hp)))
    · refine ⟨rfl, ?_⟩
      rw [take_snoc _ hxi]
      exact hys.append (.one (.int _ _))
  · rintro ys news' ⟨rfl, hys⟩
    intro D' h' tk' F' N' o1'
    refine hQ _ _ _ _ F' N' ?_ o1'
    rw [List.size_toArray, strs_len htx, List.take_length] at hys
    exact hys
end
end Mine
end
section
theorem Mine.rstT5 {M : PySem.Model} {A : PySem.Around} {pos : PySem.Pos} {env : PySem.Env} {Q : PySem.Flow → PySem.Shared → Prop} {E : PySem.Value → PySem.Shared → Prop} {s : PySem.Shared} (h : PySem.wpAny M A (PySem.exec (.Pass pos) env) Q E s) : PySem.wpAny M A (PySem.exec (.Pass pos) env) Q E s := by
  w_top off
  k_with_none
  first | (walk1; fail) | exact h
open PySem PySem.W PyProof.Rows PySem.Calls PyProof.V PySem.Spec
set_option Elab.async false
set_option linter.unusedVariables false
set_option maxRecDepth 100000
set_option maxHeartbeats 8000000
namespace Mine
def textAt (xs : List Str) (n : Int) : Str := xs.getD (n.fmod 4).toNat ⟨#[]⟩
def wordOf (xs : List Str) (n : Int) : Str := mis (mis (textAt xs n) ((n.fdiv 4).fmod 4) ((n.fdiv 16).fmod 6)) ((n.fdiv 576).fmod 3) ((n.fdiv 96).fmod 6)
theorem pick4 {prog : Program} {w : World} {A : Around} {E : Value → Shared → Prop} {s : Shared} {value slice : PySem.Expr} {h₀ : Heap} {L l : Addr} {news : List (Addr × Obj)} {txs : List Value} {xs : List Str} {n : Int} {u : Tok} {Q : Value → Shared → Prop}
    (N : News h₀ L s.heap news) (hm : (l, LCg.lst txs) ∈ news) (hx : StrsAre txs xs) (h4 : xs.length = 4) (h : ∀ t, Q (.str (textAt xs n) t) s)
    (hs : subscripted slice false (.ref l) (.int (n.fmod 4) u) = operate [.ref l, .int (n.fmod 4) u] (getItem (.ref l) (.int (n.fmod 4) u)) := by with_unfolding_all rfl) :
    wpAny (model prog w) A (subscriptTail value slice (.ref l) (.int (n.fmod 4) u)) Q E s := by
  have p0 : 0 ≤ n.fmod 4 := Int.fmod_nonneg_of_pos n (by decide)
  have p2 : n.fmod 4 < 4 := Int.fmod_lt_of_pos n (by decide)
  have hl := strs_len hx
  have hv : txs[(n.fmod 4).toNat]? = some (txs[(n.fmod 4).toNat]'(by omega)) := List.getElem?_eq_getElem (by omega)
  obtain ⟨x, t, e, hxi⟩ := strs_get hx _ _ hv
  have ex : textAt xs n = x := by unfold textAt; rw [List.getD_eq_getElem?_getD, hxi]; rfl
  rw [ex] at h
  exact pick_list (vs := txs.toArray) (k := txs.length) N hm p0 (by omega) (by rw [List.getElem?_toArray, hv, e]) (h t) hs
theorem textAt_len {xs : List Str} {n : Int} (h : ∀ x ∈ xs, x.length ≤ 4) : (textAt xs n).length ≤ 4 := by
  unfold textAt
  rw [List.getD_eq_getElem?_getD]
  cases q : xs[(n.fmod 4).toNat]? with
  | none => exact Nat.zero_le _
  | some x => exact h x (List.mem_of_getElem? q)
section
variable {w : World} {loose : List Str} {mean : ExcName → Option Value} {mg mb : Str → Option Value} {dp un : Nat} {gd : Option (List Code)} {cn : Str} {cs : Scope} {Lc ac : Addr} {ccd : Value} {cl : List (Str × Addr)} {outer : List Env}
    {g : Heap} {L : Addr} {s : Shared} {m : Str → Option Value} {news : List (Addr × Obj)} {Q E : Value → Shared → Prop}
theorem mis_use {a : Str} {p y : Int} {ta tp ty : Tok} (X : (Mine.hd.heap_39 w.params).In g) (T : Top Mine.hd.view_39 loose mean mg mb g) (F : Fr g L s.heap m) (N : News g L s.heap news) (hd : dp + 4 < recursionLimit) (hu : un + 40 < cLine)
    (la : a.length ≤ 7) (p0 : 0 ≤ p) (p1 : p < 4) (y0 : 0 ≤ y) (y1 : y < 6)
    (h : ∀ (t : Tok) h' tk', Fr g L h' m → News g L h' news → (mis a p y).length ≤ a.length + 3 → Q (.str (mis a p y) t) { s with heap := h', toks := tk' }) :
    wpAny (model PySem.Challenge.rw_pa0071_01.row.prog w) (ktrTop dp un gd cn cs Lc ac ccd cl outer) (call (.ref 170) [.str a ta, .int p tp, .int y ty]) Q E s :=
  mis_call (X.keeps F.keep) (T.keeps F.keep) (by omega) p0 (by omega) y0 y1 hd hu fun t h' tk' k hl => h t h' tk' (k.fr F) (k.news N) hl
end
theorem fm0 {n : Int} (k : Int) (h : 0 < k := by decide) : 0 ≤ n.fmod k := Int.fmod_nonneg_of_pos n h
theorem fm1 {n : Int} (k j : Int) (hj : k ≤ j := by decide) (h : 0 < k := by decide) : n.fmod k < j := Int.lt_of_lt_of_le (Int.fmod_lt_of_pos n h) hj
section
/-- word = _law_misspelt(_law_misspelt(texts[n % 4], ..), ..) -/
theorem word_stmt {w : World} {loose : List Str} {mean : ExcName → Option Value} {mg mb : Str → Option Value} {dp un : Nat} {gd : Option (List Code)} {cn : Str} {cs : Scope} {Lc ac : Addr} {ccd : Value} {cl : List (Str × Addr)} {outer : List Env}
    {g : Heap} {L : Addr} {s : Shared} {m : Str → Option Value} {Q : Flow → Shared → Prop} {E : Value → Shared → Prop}
    {nm qual : Str} {params : Arguments} {body bd oe : List Stmt} {tg1 it1 : Expr} {ps1 : Pos} {st : Stmt} {scope : Scope} {dV kV doc pm cdv ct oc : Value} {an od : Option Addr} {osl : Array (Option Value)}
    {n : Int} {tn : Tok} {TX : Addr} {txs : List Value} {xs : List Str} {ow on : Obj} {vw : Option Value} {own : List (Addr × Obj)} {adr : List Addr}
    (hK : (Mine.hd.heap_39 w.params).lookup 175 = some ⟨oc, od, .func (fnOf nm qual params body scope dV kV doc pm an cdv ct), osl⟩)
    (hst0 : body[2]? = some (.For tg1 it1 bd oe ps1)) (hst : bd[0]? = some st)
    (X : (Mine.hd.heap_39 w.params).In g) (T : Top Mine.hd.view_39 loose mean mg mb g) (hd : dp + 12 < recursionLimit) (hu : un + 120 < cLine)
    (F : Fr g L s.heap m) (N : News g L s.heap ((L + 1 + 1, ow) :: (L + 1, on) :: (TX, LCg.lst txs) :: own)) (hlt : @Ne Nat TX (L + 1 + 1)) (hoff : OwnOff own ((L + 1 + 1) :: adr))
    (dw : ow.data = .cell vw) (dn : on.data = .cell (some (.int n tn))) (htx : StrsAre txs xs) (h4 : xs.length = 4)
    (h1 : m (Str.ofString "texts") = some (.ref TX)) (lx : ∀ x ∈ xs, x.length ≤ 4)
    (hQ : ∀ t ow' h' tk', Fr g L h' m → News g L h' ((L + 1 + 1, ow') :: (L + 1, on) :: (TX, LCg.lst txs) :: own) → ow'.data = .cell (some (.str (wordOf xs n) t)) → (wordOf xs n).length ≤ 10 → Q .next { s with heap := h', toks := tk' }) :
    wpAny (model PySem.Challenge.rw_pa0071_01.row.prog w) ((ktrTop dp un gd cn cs Lc ac ccd cl outer).deeper (envOfC qual scope L 175 cdv)) (exec st (envOfC qual scope L 175 cdv)) Q E s := by
  k_with_none
  k_with "own" => (k_here; (with_reducible show wpAny _ _ (subscriptTail _ _ (Value.ref _) (Value.int (Int.fmod _ 4) _)) _ _ _); k_dflt (refine' pick4 ?k1 ?k2 ?k3 ?k4 ?_ ?k5; (case k1 => k_asm); (case k2 => k_mem); (case k3 => with_reducible assumption); (case k4 => with_reducible assumption); (case k5 => with_unfolding_all rfl); k_whole); intro _)
  k_with "own" => (k_here; (with_reducible show wpAny _ _ (call (Value.ref 170) [Value.str _ _, Value.int _ _, Value.int _ _]) _ _ _); k_dflt (refine' mis_use ?k1 ?k2 ?k3 ?k4 ?kd ?ku ?kla ?kp ?kq ?ky ?kz ?_; (case k1 => k_asm); (case k2 => k_asm); (case k3 => k_asm); (case k4 => k_asm); (case kd => ktr_room); (case ku => ktr_units); (case kla => omega); (case kp => exact fm0 _); (case kq => exact fm1 _ _); (case ky => exact fm0 _); (case kz => exact fm1 _ _)); intro _ _ _ _ _ _; (try dsimp only); (try k_fold))
  refine wpAny_mono (E := fun _ _ => False) ?_ (fun _ _ x => x) (fun _ _ x => x.elim)
  revert X; k_fill; intro X
  have e := lookEq (by k_is) hK
  clear hK
  have hst1 : (loopAt body 2)[0]? = some st := by (unfold loopAt; rw [hst0]; exact hst)
  clear hst0 hst
  obtain ⟨rfl, rfl, rfl, rfl⟩ := useK e
  clear e
  dsimp only [scopeP, qualP, codeP]
  obtain rfl := Option.some.inj hst1
  clear hst1
  have hpins : ∀ p ∈ [(Str.ofString "texts", Value.ref TX)], m p.1 = some p.2 := all1 h1
  have F4 := pinAll _ F hpins
  rw [show m = pinL [(Str.ofString "texts", Value.ref TX)] m from (pinL_eq hpins).symm] at hQ
  clear F h1 hpins
  dsimp only [pinL] at F4 hQ
  have lt := textAt_len (n := n) lx
  repeat' (first | (k_unfold; (try dsimp only)) | (k_end; wrow_close) | k_extra "own" | walk1 | (dsimp only; k_extra "own") | (dsimp only; walk1) | (leave1; walk_say "STEP leave1"; try dsimp only) | fail "no step")
  unfold wordOf at hQ
  exact hQ _ _ _ _ (by with_reducible assumption) (by with_reducible assumption) (by with_reducible assumption) (by omega)
end
end Mine
end
section
theorem Mine.rstF2 {M : PySem.Model} {A : PySem.Around} {pos : PySem.Pos} {env : PySem.Env} {Q : PySem.Flow → PySem.Shared → Prop} {E : PySem.Value → PySem.Shared → Prop} {s : PySem.Shared} (h : PySem.wpAny M A (PySem.exec (.Pass pos) env) Q E s) : PySem.wpAny M A (PySem.exec (.Pass pos) env) Q E s := by
  w_top off
  k_with_none
  first | (walk1; fail) | exact h
open PySem PySem.W PyProof.Rows PySem.Calls PyProof.V PySem.Spec
set_option Elab.async false
set_option linter.unusedVariables false
namespace Mine
section
variable {prog : Program} {w : World} {A : Around} {E : Value → Shared → Prop} {s : Shared}
theorem owned_tupiter {elts : List Expr} {x1} {pos : Pos} {I l : Addr} {i : Nat} {v : Value} {Q : Unit → Shared → Prop} (hit : s.heap.IsTupleIter I l i) (hQ : Q () s) :
    wpAny (model prog w) A (letOwnedTupleGo (.Tuple elts x1 pos) (.ref I) v) Q E s := by
  obtain ⟨o, ho, hc, hd⟩ := hit
  unfold letOwnedTupleGo
  cases v with
  | ref T =>
    refine wpAny_bind (wpAny_load ho ?_)
    rw [hc, hd]
    show wpAny _ A (if (["enumerate", "zip", "dict_itemiterator", "dict_reverseitemiterator", "odict_iterator", "itertools.zip_longest", "itertools.pairwise"].contains "tuple_iterator" && _) = true then _ else _) Q E s
    rw [show (["enumerate", "zip", "dict_itemiterator", "dict_reverseitemiterator", "odict_iterator", "itertools.zip_longest", "itertools.pairwise"].contains "tuple_iterator") = false by decide +kernel]
    exact wpAny_pure hQ
  | _ => exact wpAny_pure hQ
/-- a for over a tuple that stands in the base, with else and break -/
theorem for_tup {g : Heap} {env : Env} {elts : List Expr} {x1 : Nat} {tp pos : Pos} {iter : Expr} {body orelse : List Stmt} {m : Str → Option Value} {news : List (Addr × Obj)} {a : Addr} {items : Array Value} {Q : Flow → Shared → Prop}
    (hh : A.handled = none) (ht : g.IsTuple a items) (J : Nat → (Str → Option Value) → List (Addr × Obj) → Prop) (F : Fr g env.locals s.heap m) (N : News g env.locals s.heap news) (h0 : J 0 m news)
    (he : ∀ Q' : Value → Shared → Prop, Q' (.ref a) s → wpAny (model prog w) A (eval iter env) Q' (fun _ _ => False) s)
    (turn : ∀ i v m₁ news₁ h tk it ito, items[i]? = some v → J i m₁ news₁ → Fr g env.locals h m₁ → News g env.locals h ((it, ito) :: news₁) → (∀ p ∈ news₁, p.1 ≠ it) →
      wpAny (model prog w) A (assign (.Tuple elts x1 tp) env v) (fun _ s₂ => wpAny (model prog w) A (execs body env) (fun f s₃ => match f with
        | .next | .cont => ∃ h' tk' m' news', s₃ = { s with heap := h', toks := tk' } ∧ Fr g env.locals h' m' ∧ News g env.locals h' ((it, ito) :: news') ∧ (∀ p ∈ news', p.1 ≠ it) ∧ J (i + 1) m' news'
        | .brk => Q .next s₃
        | .ret v => Q (.ret v) s₃) (fun _ _ => False) s₂) (fun _ _ => False) { s with heap := h, toks := tk })
    (fin : ∀ m' news' h tk, J items.size m' news' → Fr g env.locals h m' → News g env.locals h news' → wpAny (model prog w) A (execs orelse env) Q (fun _ _ => False) { s with heap := h, toks := tk })
    (hs : ∀ x, foldedSetIterable iter env x = pure x := by intro _; rfl) :
    wpAny (model prog w) A (exec (.For (.Tuple elts x1 tp) iter body orelse pos) env) Q (fun _ _ => False) s := by
  refine wpAny_For (he _ ?_) hs
  have hta : s.heap.IsTuple a items := let ⟨o, ho, r⟩ := ht; ⟨o, F.keep _ _ ho, r⟩
  refine wpAny_pyIter_tuple hta ?_
  have hitL : s.heap.objs.size ≠ env.locals := Nat.ne_of_gt F.ns.lt
  have hitg : g.get? s.heap.objs.size = none := by
    cases q : g.get? s.heap.objs.size with
    | none => rfl
    | some o => exact absurd (Heap.lt_size (F.keep _ _ q)) (Nat.lt_irrefl _)
  refine codeAny_forLoop_any (fun n s' => ∃ i h tk m' news', n = items.size + 1 - i ∧ i ≤ items.size ∧ s' = { s with heap := h, toks := tk } ∧ h.IsTupleIter s.heap.objs.size a i ∧ Fr g env.locals h m' ∧ News g env.locals h news' ∧ (∀ p ∈ news', p.1 ≠ s.heap.objs.size) ∧ J i m' news') ?_ (items.size + 1)
    ⟨0, _, s.toks, m, news, rfl, Nat.zero_le _, rfl, ⟨_, Heap.get?_push_size _ rfl, rfl, rfl⟩, F.push _, fun p hp => ⟨Heap.get?_push_of_some _ (N p hp).1, (N p hp).2⟩, fun p hp => Nat.ne_of_lt (Heap.lt_size (N p hp).1), h0⟩
  rintro n s' ⟨i, h, tk, m', news', hn, hi, rfl, hit, F', N', hoff, hJ⟩
  have hta' : h.IsTuple a items := let ⟨o, ho, r⟩ := ht; ⟨o, F'.keep _ _ ho, r⟩
  by_cases hlt : i < items.size
  · have hx : items[i]? = some items[i] := Array.getElem?_eq_getElem hlt
    refine wpAny_pyNext_tuple_item (s := { s with heap := h, toks := tk }) hit hta' hx fun h' hit' hsb => ?_
    obtain ⟨o, ho, hc, hd⟩ := hit'
    have F2 : Fr g env.locals h' m' := F'.change hsb hitL hitg
    have N2 : News g env.locals h' ((s.heap.objs.size, o) :: news') := fun p hp => by
      rcases List.mem_cons.mp hp with rfl | hp
      · exact ⟨ho, hitL, hitg⟩
      · exact ⟨(hsb.2 p.1 (hoff p hp)).trans (N' p hp).1, (N' p hp).2⟩
    refine owned_tupiter (s := { s with heap := h', toks := tk }) ⟨o, ho, hc, hd⟩ ?_
    refine wpAny_mono (turn i items[i] m' news' h' tk _ o hx hJ F2 N2 hoff) (fun _ s₂ q => wpAny_mono q (fun f s₃ r => ?_) (fun _ _ z => z.elim)) (fun _ _ z => z.elim)
    cases f with
    | next =>
      obtain ⟨h3, tk3, m3, news3, rfl, F3, N3, hoff3, hJ3⟩ := r
      exact ⟨items.size + 1 - (i + 1), by omega, i + 1, h3, tk3, m3, news3, rfl, hlt, rfl, ⟨o, (N3 _ (.head _)).1, hc, hd⟩, F3, fun p hp => N3 p (.tail _ hp), hoff3, hJ3⟩
    | cont =>
      obtain ⟨h3, tk3, m3, news3, rfl, F3, N3, hoff3, hJ3⟩ := r
      exact ⟨items.size + 1 - (i + 1), by omega, i + 1, h3, tk3, m3, news3, rfl, hlt, rfl, ⟨o, (N3 _ (.head _)).1, hc, hd⟩, F3, fun p hp => N3 p (.tail _ hp), hoff3, hJ3⟩
    | brk => exact r
    | ret v => exact r
  · have hie : i = items.size := by omega
    subst hie
    refine wpAny_pyNext_tuple_end (s := { s with heap := h, toks := tk }) hh hit hta' (by simp) fun h' hext => ?_
    have F2 : Fr g env.locals h' m' := ⟨by
      obtain ⟨oL, a1, a2, hL, a3⟩ := F'.ns
      exact ⟨oL, a1, a2, hext _ _ (Ne.symm hitL) hL, a3⟩, fun b o e => hext b o (by rintro rfl; rw [hitg] at e; cases e) (F'.keep b o e), F'.above⟩
    refine wpAny_mono (fin m' news' h' tk hJ F2 fun p hp => ⟨hext _ _ (hoff p hp) (N' p hp).1, (N' p hp).2⟩) (fun _ _ z => z) (fun _ _ z => z.elim)
end
end Mine
end
section
theorem Mine.rstF3 {M : PySem.Model} {A : PySem.Around} {pos : PySem.Pos} {env : PySem.Env} {Q : PySem.Flow → PySem.Shared → Prop} {E : PySem.Value → PySem.Shared → Prop} {s : PySem.Shared} (h : PySem.wpAny M A (PySem.exec (.Pass pos) env) Q E s) : PySem.wpAny M A (PySem.exec (.Pass pos) env) Q E s := by
  w_top off
  k_with_none
  first | (walk1; fail) | exact h
open PySem PySem.W PyProof.Rows PySem.Calls PyProof.V PySem.Spec
set_option Elab.async false
set_option linter.unusedVariables false
set_option maxRecDepth 100000
namespace Mine
open AutoSeq1 (wpAny_loadPart')
section
variable {prog : Program} {w : World} {A : Around} {E : Value → Shared → Prop} {s : Shared}
theorem nextOf_tuple_item {it l : Addr} {i : Nat} {items} {x : Value} {Q : Value → Shared → Prop} (hit : s.heap.IsTupleIter it l i)
    (hl : s.heap.IsTuple l items) (hx : items[i]? = some x)
    (hQ : ∀ h', h'.IsTupleIter it l (i + 1) → Heap.SameBut it s.heap h' → Q x { s with heap := h' }) :
    wpAny (model prog w) A (Builtin.SmallTypes.nextOf (.ref it)) Q E s := by
  obtain ⟨o, ho, hc, hd⟩ := id hit
  obtain ⟨ol, hol, _, nl, hdl⟩ := hl
  unfold Builtin.SmallTypes.nextOf
  refine wpAny_bind (wpAny_callSpecial?_slot (name := Str.ofString "__next__") hit.typeIs F.slot_tuple_iterator_next
    (wpAny_call_entry F.slot_tuple_iterator_next hit.typeIs F.entry_tuple_iterator_next ?_ (F.args_tuple_iterator_next_1 _)))
  show wpAny _ _ (field (.ref it) 0 >>= _) _ _ s
  refine wpAny_bind (wpAny_field ho hd (x := .ref l) rfl ?_)
  show wpAny _ _ (if (Value.ref l == Value.none) = true then _ else _) _ _ s
  rw [if_neg (show ¬ ((Value.ref l == Value.none) = true) from Bool.false_ne_true)]
  show wpAny _ _ (field (.ref it) 1 >>= _) _ _ s
  refine wpAny_bind (wpAny_field ho hd (x := .int i 0) rfl ?_)
  show wpAny _ _ (seqItems? (.ref l) >>= _) _ _ s
  refine wpAny_bind (wpAny_seqItems hol hdl ?_)
  simp only [Int.toNat_natCast, hx]
  refine wpAny_bind (wpAny_setField ho hd (by simp) (wpAny_pure ⟨x, rfl, wpAny_pure (hQ _ ?_ (Heap.SameBut.update ..))⟩))
  exact ⟨_, Heap.get?_update_self _ ho (Obj.isFreed_of_fields (Obj.data_mapFields hd _)), (Obj.cls_mapFields ..).trans hc, by
    rw [Obj.data_mapFields hd]; simp [rawInt]⟩
theorem nextOf_tuple_end {it l : Addr} {i : Nat} {items} {Q : Value → Shared → Prop} (hh : A.handled = none)
    (hit : s.heap.IsTupleIter it l i) (hl : s.heap.IsTuple l items) (hx : items[i]? = none)
    (hE : ∀ h' e, Heap.ExtBut it s.heap h' → (∃ o, h'.get? e = some o ∧ o.cls = .type "StopIteration") → E (.ref e) { s with heap := h' }) :
    wpAny (model prog w) A (Builtin.SmallTypes.nextOf (.ref it)) Q E s := by
  obtain ⟨o, ho, hc, hd⟩ := id hit
  obtain ⟨ol, hol, _, nl, hdl⟩ := hl
  unfold Builtin.SmallTypes.nextOf
  refine wpAny_bind (wpAny_callSpecial?_slot (name := Str.ofString "__next__") hit.typeIs F.slot_tuple_iterator_next
    (wpAny_call_entry F.slot_tuple_iterator_next hit.typeIs F.entry_tuple_iterator_next ?_ (F.args_tuple_iterator_next_1 _)))
  show wpAny _ _ (field (.ref it) 0 >>= _) _ _ s
  refine wpAny_bind (wpAny_field ho hd (x := .ref l) rfl ?_)
  show wpAny _ _ (if (Value.ref l == Value.none) = true then _ else _) _ _ s
  rw [if_neg (show ¬ ((Value.ref l == Value.none) = true) from Bool.false_ne_true)]
  show wpAny _ _ (field (.ref it) 1 >>= _) _ _ s
  refine wpAny_bind (wpAny_field ho hd (x := .int i 0) rfl ?_)
  show wpAny _ _ (seqItems? (.ref l) >>= _) _ _ s
  refine wpAny_bind (wpAny_seqItems hol hdl ?_)
  simp only [Int.toNat_natCast, hx]
  refine wpAny_bind (wpAny_rule (wpAny_bind (wpAny_setField ho hd (by simp) ?_)))
  show wpAny _ _ (newExc (.type "StopIteration") [] >>= _) _ _ _
  refine wpAny_bind ?_
  simp only [newExc, newTuple]
  refine wpAny_bind (wpAny_newObj_type ?_ (by size_fits))
  refine wpAny_bind (m := firstArgMember _ _) (wpAny_of_eq (a := Value.none) (by first | rfl | (simp only [firstArgMember]; rfl)) ?_)
  refine wpAny_newObj_type ?_ (by size_fits)
  simp only [raiseNew]
  refine wpAny_bind (wpAny_handled ?_)
  first | rw [show A.in1.handled = none from hh] | rw [hh]
  refine wpAny_bind (wpAny_pure (wpAny_throw ?_))
  exact hE _ _ (((Heap.SameBut.update ..).extBut.push _).push _) ⟨_, Heap.get?_push_size _ rfl, rfl⟩
end
theorem draws_tuple {prog : Program} {w : World} {A : Around} (hh : A.handled = none) (it l : Addr) (hne : l ≠ it) (items : Array Value) :
    Draws prog w A it [it, l] items.size (fun i v => items[i]? = some v) (fun i h => h.IsTupleIter it l i ∧ h.IsTuple l items) where
  live := fun _ _ st => let ⟨o, ho, _⟩ := st.1; ⟨o, ho⟩
  frame := fun _ _ _ st hk => ⟨let ⟨o, ho, r⟩ := st.1; ⟨o, hk it (by simp) o ho, r⟩, let ⟨o, ho, r⟩ := st.2; ⟨o, hk l (by simp) o ho, r⟩⟩
  item := fun i s Q E hi st hQ => by
    refine nextOf_tuple_item st.1 st.2 (x := items[i]) (by simp [hi]) fun h' hit' hs' => ?_
    exact hQ _ h' s.toks (by simp [hi]) ⟨hit', st.2.extBut hs'.extBut hne⟩ hs'
  done := fun s Q E st hE => nextOf_tuple_end hh st.1 st.2 (by simp) hE
theorem meets_enumerate_newT (l : Addr) (items : Array Value) (n : Nat) (dct : Option Addr) (sl : Array (Option Value)) :
    Meets (Builtin.«enumerate.__new__» ⟨[.type "enumerate", .ref l], []⟩) (fun _ R s => s.heap.get? l = some { cls := .type "tuple", dict := dct, data := .seq items n, slots := sl } ∧
      R (.ok (.ret (.ref (s.heap.push { cls := .type "tuple_iterator", data := .fields #[.ref l, .int 0 0] }).objs.size)))
        { s with heap := (s.heap.push { cls := .type "tuple_iterator", data := .fields #[.ref l, .int 0 0] }).push { cls := .type "enumerate", data := .fields #[.none, .bool false, .ref s.heap.objs.size, rawInt 0, .none, .none] } }) :=
  .of_wp fun prog w A R s h => by
    obtain ⟨hp, g, d, tk, os⟩ := s; obtain ⟨hl, h⟩ := h
    have hsub := sub_enumerate
    have hL : Heap.IsTuple (Shared.heap ⟨hp, g, d, tk, os⟩) l items := ⟨_, hl, rfl, n, rfl⟩
    wp_walk using wpAny_loadPart' hl
    refine wpAny_stack_any fun st => wpAny_pure ?_
    split
    · rename_i c _ _ _ _ _
      cases (c == Value.type "enumerate")
      · wp_walk using wpAny_loadPart' hl, wpAny_pyIter_tuple hL
        exact ⟨_, rfl, h⟩
      · wp_walk using wpAny_loadPart' hl, wpAny_pyIter_tuple hL
        exact ⟨_, rfl, h⟩
    · wp_walk using wpAny_loadPart' hl, wpAny_pyIter_tuple hL
      exact ⟨_, rfl, h⟩
section
variable {prog : Program} {w : World} {A : Around} {E : Value → Shared → Prop} {s : Shared}
theorem call_enumerate_tuple {l : Addr} {items : Array Value} {Q : Value → Shared → Prop} (hL : s.heap.IsTuple l items)
    (h : ∀ h', IsEnum h' (s.heap.objs.size + 1) s.heap.objs.size 0 .none → h'.IsTupleIter s.heap.objs.size l 0 → h'.objs.size = s.heap.objs.size + 2 →
      (∀ b o, s.heap.get? b = some o → h'.get? b = some o) → Q (.ref (s.heap.objs.size + 1)) { s with heap := h' }) :
    wpAny (model prog w) A (call (.type "enumerate") [.ref l]) Q E s := by
  obtain ⟨⟨c, dct, dt, sl⟩, hl, hc, n, hd⟩ := hL
  replace hc : c = .type "tuple" := hc
  replace hd : dt = .seq items n := hd
  subst hc hd
  refine callType_new F.called_enumerate (by decide) (F.typeCall_enumerate_1 _) (F.newCall_enumerate_1 _) (fun obj => F.args_object_init_2 obj _) F.entry_enumerate_new
    (meets_enumerate_newT l items n dct sl) ⟨hl, ?_⟩
  have hz : (s.heap.push { cls := .type "tuple_iterator", data := .fields #[.ref l, .int 0 0] }).objs.size = s.heap.objs.size + 1 := Heap.size_push ..
  show _ ∧ _
  rw [hz]
  have he : IsEnum ((s.heap.push { cls := .type "tuple_iterator", data := .fields #[.ref l, .int 0 0] }).push
      { cls := .type "enumerate", data := .fields #[.none, .bool false, .ref s.heap.objs.size, rawInt 0, .none, .none] }) (s.heap.objs.size + 1) s.heap.objs.size 0 .none := by
    have := Heap.get?_push_size (s.heap.push { cls := .type "tuple_iterator", data := .fields #[.ref l, .int 0 0] })
      (o := { cls := .type "enumerate", data := .fields #[.none, .bool false, .ref s.heap.objs.size, rawInt 0, .none, .none] }) rfl
    rw [hz] at this; exact this
  refine ⟨⟨_, he, rfl⟩, h _ he ⟨_, Heap.get?_push_of_some _ (Heap.get?_push_size _ rfl), rfl, rfl⟩ (by rw [Heap.size_push, hz]) fun b o x => Heap.get?_push_of_some _ (Heap.get?_push_of_some _ x)⟩
end
end Mine
end
section
theorem Mine.rstF4 {M : PySem.Model} {A : PySem.Around} {pos : PySem.Pos} {env : PySem.Env} {Q : PySem.Flow → PySem.Shared → Prop} {E : PySem.Value → PySem.Shared → Prop} {s : PySem.Shared} (h : PySem.wpAny M A (PySem.exec (.Pass pos) env) Q E s) : PySem.wpAny M A (PySem.exec (.Pass pos) env) Q E s := by
  w_top off
  k_with_none
  first | (walk1; fail) | exact h
open PySem PySem.W PyProof.Rows PySem.Calls PyProof.V PySem.Spec
set_option Elab.async false
set_option linter.unusedVariables false
set_option maxRecDepth 100000
namespace Mine
section
variable {prog : Program} {w : World} {A : Around} {E : Value → Shared → Prop} {s : Shared} {g : Heap} {env : Env}
theorem assign_pair {x y : Str} {px py pos : Pos} {x1} {T : Addr} {v u : Value} {m : Str → Option Value} {news : List (Addr × Obj)} {Q : Unit → Shared → Prop} (hh : A.handled = none)
    (hx : env.kindOf x = some .local) (hy : env.kindOf y = some .local) (hp : (env.scope.kind == .class || (env.scope.kind == .module && env.locals != env.globals)) = false)
    (ht : s.heap.IsTuple T #[v, u]) (F : Fr g env.locals s.heap m) (N : News g env.locals s.heap news)
    (h : ∀ h' tk', Fr g env.locals h' (fun z => if z = y then some u else if z = x then some v else m z) → News g env.locals h' news → Q () { s with heap := h', toks := tk' }) :
    wpAny (model prog w) A (assign (.Tuple [.Name x px, .Name y py] x1 pos) env (.ref T)) Q E s := by
  refine wpAny_assign_Tuple hh ht rfl rfl fun h₃ hx₃ => ?_
  have F3 : Fr g env.locals h₃ m := ⟨F.ns.at fun o e => hx₃ _ o (Nat.ne_of_lt (Heap.lt_size e)) e, fun b o e => hx₃ b o (Nat.ne_of_lt (Heap.lt_size (F.keep b o e))) (F.keep b o e), F.above⟩
  have N3 : News g env.locals h₃ news := fun p hp => ⟨hx₃ _ _ (Nat.ne_of_lt (Heap.lt_size (N p hp).1)) (N p hp).1, (N p hp).2⟩
  show wpAny _ A (do holding [u] (assign (.Name x px) env v); do holding [] (assign (.Name y py) env u); pure ()) _ _ _
  refine wpAny_bind (wpAny_holding (wpAny_assign_Name (wpAny_storeName_local hx F3.ns (fun h₄ hn₄ hs₄ => ?_) hp)))
  replace hs₄ : Heap.SameBut env.locals h₃ h₄ := hs₄
  refine wpAny_bind (wpAny_holding (wpAny_assign_Name (wpAny_storeName_local hy hn₄ (fun h₅ hn₅ hs₅ => wpAny_pure ?_) hp)))
  replace hs₅ : Heap.SameBut env.locals h₄ h₅ := hs₅
  exact h h₅ _ ((F3.set hn₄ hs₄).set hn₅ hs₅) fun p hp => ⟨(hs₅.2 _ (N p hp).2.1).trans ((hs₄.2 _ (N p hp).2.1).trans (N3 p hp).1), (N p hp).2⟩
/-- a for over enumerate of a tuple that stands in the base -/
theorem for_enum {x y : Str} {px py tp pos : Pos} {x1 : Nat} {iter : Expr} {body orelse : List Stmt} {m : Str → Option Value} {news : List (Addr × Obj)} {a : Addr} {items : Array Value} {Q : Flow → Shared → Prop}
    (hh : A.handled = none) (hx : env.kindOf x = some .local) (hy : env.kindOf y = some .local) (hp : (env.scope.kind == .class || (env.scope.kind == .module && env.locals != env.globals)) = false)
    (ht : g.IsTuple a items) (J : Nat → (Str → Option Value) → List (Addr × Obj) → Prop) (F : Fr g env.locals s.heap m) (N : News g env.locals s.heap news) (h0 : J 0 m news)
    (he : ∀ Q' : Value → Shared → Prop, (∀ h', IsEnum h' (s.heap.objs.size + 1) s.heap.objs.size 0 .none → h'.IsTupleIter s.heap.objs.size a 0 → h'.objs.size = s.heap.objs.size + 2 →
      (∀ b o, s.heap.get? b = some o → h'.get? b = some o) → Q' (.ref (s.heap.objs.size + 1)) { s with heap := h' }) → wpAny (model prog w) A (eval iter env) Q' (fun _ _ => False) s)
    (turn : ∀ i v tk m₁ news₁ h tk' n1 n2, items[i]? = some v → J i m₁ news₁ → Fr g env.locals h (fun z => if z = y then some v else if z = x then some (.int i tk) else m₁ z) → News g env.locals h (n1 :: n2 :: news₁) → (∀ p ∈ news₁, p.1 ≠ n1.1 ∧ p.1 ≠ n2.1) →
      wpAny (model prog w) A (execs body env) (fun f s₃ => match f with
        | .next | .cont => ∃ h' tk' m' news', s₃ = { s with heap := h', toks := tk' } ∧ Fr g env.locals h' m' ∧ News g env.locals h' (n1 :: n2 :: news') ∧ (∀ p ∈ news', p.1 ≠ n1.1 ∧ p.1 ≠ n2.1) ∧ J (i + 1) m' news'
        | .brk => Q .next s₃
        | .ret v => Q (.ret v) s₃) (fun _ _ => False) { s with heap := h, toks := tk' })
    (fin : ∀ m' news' h tk, J items.size m' news' → Fr g env.locals h m' → News g env.locals h news' → wpAny (model prog w) A (execs orelse env) Q (fun _ _ => False) { s with heap := h, toks := tk })
    (hs : ∀ x, foldedSetIterable iter env x = pure x := by intro _; rfl) :
    wpAny (model prog w) A (exec (.For (.Tuple [.Name x px, .Name y py] x1 tp) iter body orelse pos) env) Q (fun _ _ => False) s := by
  have hta : s.heap.IsTuple a items := let ⟨o, ho, r⟩ := ht; ⟨o, F.keep _ _ ho, r⟩
  have hag : a < g.objs.size := let ⟨o, ho, r⟩ := ht; Heap.lt_size ho
  have hgs : g.objs.size ≤ s.heap.objs.size := Nat.le_of_lt (Nat.lt_of_le_of_lt F.above F.ns.lt)
  refine wpAny_For (he _ fun h₀ he₀ hit₀ hz₀ hk₀ => ?_) hs
  refine wpAny_pyIter_enum he₀ ?_
  have heL : s.heap.objs.size + 1 ≠ env.locals := Nat.ne_of_gt (Nat.lt_succ_of_lt F.ns.lt)
  have hiL : s.heap.objs.size ≠ env.locals := Nat.ne_of_gt F.ns.lt
  have hnone : ∀ b, s.heap.objs.size ≤ b → g.get? b = none := fun b hb => by
    cases q : g.get? b with
    | none => rfl
    | some o => exact absurd (Heap.lt_size (F.keep _ _ q)) (Nat.not_lt.mpr hb)
  have hai : a ≠ s.heap.objs.size := Nat.ne_of_lt (Nat.lt_of_lt_of_le hag hgs)
  have hae : a ≠ s.heap.objs.size + 1 := Nat.ne_of_lt (Nat.lt_succ_of_lt (Nat.lt_of_lt_of_le hag hgs))
  have D := draws_tuple (prog := prog) (w := w) (A := A.in1) hh s.heap.objs.size a hai items
  have hef : s.heap.objs.size + 1 ∉ [s.heap.objs.size, a] := by simp; exact Ne.symm hae
  refine codeAny_forLoop_any (fun n s' => ∃ i h tk m' news' old, n = items.size + 1 - i ∧ i ≤ items.size ∧ s' = { s with heap := h, toks := tk } ∧ IsEnum h (s.heap.objs.size + 1) s.heap.objs.size ((i : Nat) : Int) old ∧ h.IsTupleIter s.heap.objs.size a i ∧ Fr g env.locals h m' ∧ News g env.locals h news' ∧ (∀ p ∈ news', p.1 ≠ s.heap.objs.size + 1 ∧ p.1 ≠ s.heap.objs.size) ∧ J i m' news') ?_ (items.size + 1)
    ⟨0, _, s.toks, m, news, _, rfl, Nat.zero_le _, rfl, he₀, hit₀, ⟨F.ns.at fun o e => hk₀ _ o e, fun b o e => hk₀ b o (F.keep b o e), F.above⟩, fun p hp => ⟨hk₀ _ _ (N p hp).1, (N p hp).2⟩, fun p hp => ⟨Nat.ne_of_lt (Nat.lt_succ_of_lt (Heap.lt_size (N p hp).1)), Nat.ne_of_lt (Heap.lt_size (N p hp).1)⟩, h0⟩
  rintro n s' ⟨i, h, tk, m', news', old, hn, hi, rfl, heh, hit, F', N', hoff, hJ⟩
  have hta' : h.IsTuple a items := let ⟨o, ho, r⟩ := ht; ⟨o, F'.keep _ _ ho, r⟩
  by_cases hlt : i < items.size
  · refine wpAny_pyNext_enum_itemD (s := { s with heap := h, toks := tk }) D heh ⟨hit, hta'⟩ hlt (Nat.succ_ne_self _) hef fun v h₁ tk₁ hv heo st₁ hT hz₁ hk₁ => ?_
    replace hk₁ : ∀ b o, b ≠ s.heap.objs.size + 1 → b ≠ s.heap.objs.size → h.get? b = some o → h₁.get? b = some o := hk₁
    replace hz₁ : h₁.objs.size = h.objs.size + 1 := hz₁
    replace hT : h₁.get? h.objs.size = some { cls := .type "tuple", data := .seq #[.int i tk₁, v] } := hT
    have heT : h.objs.size ≠ s.heap.objs.size + 1 := Nat.ne_of_gt (Heap.lt_size heh)
    refine wpAny_letOwnedTupleGo_enum heo fun h₂ he₂ hs₂ => ?_
    replace hs₂ : Heap.SameBut (s.heap.objs.size + 1) h₁ h₂ := hs₂
    have up : ∀ b o, b ≠ s.heap.objs.size + 1 → b ≠ s.heap.objs.size → h.get? b = some o → h₂.get? b = some o := fun b o x y z => (hs₂.2 b x).trans (hk₁ b o x y z)
    have F2 : Fr g env.locals h₂ m' := ⟨F'.ns.at fun o e => up _ o (Ne.symm heL) (Ne.symm hiL) e, fun b o e => up b o (by rintro rfl; rw [hnone _ (Nat.le_succ _)] at e; cases e) (by rintro rfl; rw [hnone _ (Nat.le_refl _)] at e; cases e) (F'.keep b o e), F'.above⟩
    obtain ⟨⟨io, hio, hic, hid⟩, _⟩ := st₁
    have N2 : News g env.locals h₂ ((s.heap.objs.size + 1, _) :: (s.heap.objs.size, io) :: news') := fun p hp => by
      rcases List.mem_cons.mp hp with rfl | hp
      · exact ⟨he₂, heL, hnone _ (Nat.le_succ _)⟩
      rcases List.mem_cons.mp hp with rfl | hp
      · exact ⟨(hs₂.2 _ (Nat.ne_of_lt (Nat.lt_succ_self _))).trans hio, hiL, hnone _ (Nat.le_refl _)⟩
      · exact ⟨up _ _ (hoff p hp).1 (hoff p hp).2 (N' p hp).1, (N' p hp).2⟩
    refine assign_pair (s := { s with heap := h₂, toks := tk₁ + 1 }) hh hx hy hp ⟨_, (hs₂.2 _ heT).trans hT, rfl, _, rfl⟩ F2 N2 fun h₃ tk₃ F3 N3 => ?_
    refine wpAny_mono (turn i v tk₁ m' news' h₃ tk₃ _ _ hv hJ F3 N3 hoff) (fun f s₃ r => ?_) (fun _ _ z => z.elim)
    cases f with
    | next =>
      obtain ⟨h3, tk3, m3, news3, rfl, F3, N3, hoff3, hJ3⟩ := r
      exact ⟨items.size + 1 - (i + 1), by omega, i + 1, h3, tk3, m3, news3, _, rfl, hlt, rfl, by have := (N3 _ (.head _)).1; simpa using this, ⟨io, (N3 _ (.tail _ (.head _))).1, hic, hid⟩, F3, fun p hp => N3 p (.tail _ (.tail _ hp)), hoff3, hJ3⟩
    | cont =>
      obtain ⟨h3, tk3, m3, news3, rfl, F3, N3, hoff3, hJ3⟩ := r
      exact ⟨items.size + 1 - (i + 1), by omega, i + 1, h3, tk3, m3, news3, _, rfl, hlt, rfl, by have := (N3 _ (.head _)).1; simpa using this, ⟨io, (N3 _ (.tail _ (.head _))).1, hic, hid⟩, F3, fun p hp => N3 p (.tail _ (.tail _ hp)), hoff3, hJ3⟩
    | brk => exact r
    | ret v => exact r
  · have hie : i = items.size := by omega
    subst hie
    refine wpAny_pyNext_enum_endD (s := { s with heap := h, toks := tk }) D heh ⟨hit, hta'⟩ fun h' hext => ?_
    replace hext : Heap.ExtBut s.heap.objs.size h h' := hext
    have F2 : Fr g env.locals h' m' := ⟨F'.ns.at fun o e => hext _ o (Ne.symm hiL) e, fun b o e => hext b o (by rintro rfl; rw [hnone _ (Nat.le_refl _)] at e; cases e) (F'.keep b o e), F'.above⟩
    refine wpAny_mono (fin m' news' h' tk hJ F2 fun p hp => ⟨hext _ _ (hoff p hp).2 (N' p hp).1, (N' p hp).2⟩) (fun _ _ z => z) (fun _ _ z => z.elim)
/-- a for over a tuple that stands in the base, the target two names -/
theorem for_pair {x y : Str} {px py tp pos : Pos} {x1 : Nat} {iter : Expr} {body orelse : List Stmt} {m : Str → Option Value} {news : List (Addr × Obj)} {a : Addr} {items : Array Value} {Q : Flow → Shared → Prop}
    (hh : A.handled = none) (hx : env.kindOf x = some .local) (hy : env.kindOf y = some .local) (hp : (env.scope.kind == .class || (env.scope.kind == .module && env.locals != env.globals)) = false)
    (ht : g.IsTuple a items) (hpr : ∀ (i : Nat) (v : Value), items[i]? = some v → ∃ T p q, v = .ref T ∧ g.IsTuple T #[p, q]) (J : Nat → (Str → Option Value) → List (Addr × Obj) → Prop) (F : Fr g env.locals s.heap m) (N : News g env.locals s.heap news) (h0 : J 0 m news)
    (he : ∀ Q' : Value → Shared → Prop, Q' (.ref a) s → wpAny (model prog w) A (eval iter env) Q' (fun _ _ => False) s)
    (turn : ∀ (i : Nat) T p q m₁ news₁ h tk n1, items[i]? = some (.ref T) → g.IsTuple T #[p, q] → J i m₁ news₁ → Fr g env.locals h (fun z => if z = y then some q else if z = x then some p else m₁ z) → News g env.locals h (n1 :: news₁) → (∀ p ∈ news₁, p.1 ≠ n1.1) →
      wpAny (model prog w) A (execs body env) (fun f s₃ => match f with
        | .next | .cont => ∃ h' tk' m' news', s₃ = { s with heap := h', toks := tk' } ∧ Fr g env.locals h' m' ∧ News g env.locals h' (n1 :: news') ∧ (∀ p ∈ news', p.1 ≠ n1.1) ∧ J (i + 1) m' news'
        | .brk => Q .next s₃
        | .ret v => Q (.ret v) s₃) (fun _ _ => False) { s with heap := h, toks := tk })
    (fin : ∀ m' news' h tk, J items.size m' news' → Fr g env.locals h m' → News g env.locals h news' → wpAny (model prog w) A (execs orelse env) Q (fun _ _ => False) { s with heap := h, toks := tk })
    (hs : ∀ x, foldedSetIterable iter env x = pure x := by intro _; rfl) :
    wpAny (model prog w) A (exec (.For (.Tuple [.Name x px, .Name y py] x1 tp) iter body orelse pos) env) Q (fun _ _ => False) s := by
  refine for_tup hh ht J F N h0 he (fun i v m₁ news₁ h tk it ito hv hJ F1 N1 hoff => ?_) fin hs
  obtain ⟨T, p, q, rfl, hT⟩ := hpr i v hv
  have hT' : h.IsTuple T #[p, q] := let ⟨o, ho, r⟩ := hT; ⟨o, F1.keep _ _ ho, r⟩
  exact assign_pair (s := { s with heap := h, toks := tk }) hh hx hy hp hT' F1 N1 fun h' tk' F' N' => turn i T p q m₁ news₁ h' tk' (it, ito) hv hT hJ F' N' hoff
end
end Mine
end
section
theorem Mine.rstF5 {M : PySem.Model} {A : PySem.Around} {pos : PySem.Pos} {env : PySem.Env} {Q : PySem.Flow → PySem.Shared → Prop} {E : PySem.Value → PySem.Shared → Prop} {s : PySem.Shared} (h : PySem.wpAny M A (PySem.exec (.Pass pos) env) Q E s) : PySem.wpAny M A (PySem.exec (.Pass pos) env) Q E s := by
  w_top off
  k_with_none
  first | (walk1; fail) | exact h
open PySem PySem.W PyProof.Rows PySem.Calls PyProof.V PySem.Spec
set_option Elab.async false
set_option linter.unusedVariables false
set_option maxRecDepth 100000
set_option maxHeartbeats 8000000
namespace Mine
section
variable {w : World} {loose : List Str} {mean : ExcName → Option Value} {mg mb : Str → Option Value} {dp un : Nat} {gd : Option (List Code)} {cn : Str} {cs : Scope} {Lc ac : Addr} {ccd : Value} {cl : List (Str × Addr)} {outer : List Env}
    {g : Heap} {L : Addr} {s : Shared} {m : Str → Option Value} {news : List (Addr × Obj)} {Q E : Value → Shared → Prop}
theorem ifmt_use {i : Int} {ti : Tok} (X : (Mine.hd.heap_39 w.params).In g) (T : Top Mine.hd.view_39 loose mean mg mb g) (F : Fr g L s.heap m) (N : News g L s.heap news) (hd : dp + 4 < recursionLimit) (hu : un + 40 < cLine)
    (h : ∀ (t : Tok) h' tk', Fr g L h' m → News g L h' news → Q (.int (Builtin.bitAnd i 61440) t) { s with heap := h', toks := tk' }) :
    wpAny (model PySem.Challenge.rw_pa0071_01.row.prog w) (ktrTop dp un gd cn cs Lc ac ccd cl outer) (call (.ref 109) [.int i ti]) Q E s :=
  ifmt_call (X.keeps F.keep) (T.keeps F.keep) hd hu fun t h' tk' k => h t h' tk' (k.fr F) (k.news N)
end
def fmHit (i : Nat) (n b : Int) : Bool := if i = 0 then Builtin.bitAnd n 61440 == b else Builtin.bitAnd n b == b
theorem hit_a {i : Nat} {n b : Int} (h : (i : Int) = 0) (e : Builtin.bitAnd n 61440 = b) : fmHit i n b = true := by
  have : i = 0 := by omega
  simp [fmHit, this, e]
theorem hit_b {i : Nat} {n b : Int} (h : (i : Int) = 0) (e : ¬ Builtin.bitAnd n 61440 = b) : fmHit i n b = false := by
  have : i = 0 := by omega
  simp [fmHit, this, e]
theorem hit_c {i : Nat} {n b : Int} (h : ¬ (i : Int) = 0) (e : Builtin.bitAnd n b = b) : fmHit i n b = true := by
  have : i ≠ 0 := by omega
  simp [fmHit, this, e]
theorem hit_d {i : Nat} {n b : Int} (h : ¬ (i : Int) = 0) (e : ¬ Builtin.bitAnd n b = b) : fmHit i n b = false := by
  have : i ≠ 0 := by omega
  simp [fmHit, this, e]
section
theorem fm_step {w : World} {loose : List Str} {mean : ExcName → Option Value} {mg mb : Str → Option Value} {dp un : Nat} {gd : Option (List Code)} {cn : Str} {cs : Scope} {Lc ac : Addr} {ccd : Value} {cl : List (Str × Addr)} {outer : List Env}
    {g : Heap} {L : Addr} {s : Shared} {m : Str → Option Value} {Q : Flow → Shared → Prop} {E : Value → Shared → Prop}
    {nm qual : Str} {params : Arguments} {body ob oe ib ie : List Stmt} {tg1 it1 tg2 it2 : Expr} {ps1 ps2 : Pos} {scope : Scope} {dV kV doc pm cdv ct oc : Value} {an od : Option Addr} {osl : Array (Option Value)}
    {i : Nat} {n b : Int} {c : Str} {ti tn tb tc : Tok} {P : Addr} {vs : Array Value} {k : Nat} {n1 n2 n3 : Addr × Obj}
    (hK : (Mine.hd.heap_39 w.params).lookup 149 = some ⟨oc, od, .func (fnOf nm qual params body scope dV kV doc pm an cdv ct), osl⟩)
    (hst0 : body[1]? = some (.For tg1 it1 ob oe ps1)) (hst : ob[0]? = some (.For tg2 it2 ib ie ps2))
    (X : (Mine.hd.heap_39 w.params).In g) (T : Top Mine.hd.view_39 loose mean mg mb g) (hd : dp + 12 < recursionLimit) (hu : un + 120 < cLine)
    (F : Fr g L s.heap m) (N : News g L s.heap [n1, n2, n3, (P, W.listOf vs k)]) (o1 : n1.1 ≠ P) (o2 : n2.1 ≠ P) (o3 : n3.1 ≠ P) (hvs : vs.size ≤ 20)
    (h1 : m (Str.ofString "index") = some (.int i ti)) (h2 : m (Str.ofString "mode") = some (.int n tn)) (h3 : m (Str.ofString "bit") = some (.int b tb)) (h4 : m (Str.ofString "char") = some (.str c tc)) (h5 : m (Str.ofString "perm") = some (.ref P))
    (hQ1 : fmHit i n b = true → ∀ t k' h' tk', Fr g L h' m → News g L h' [n1, n2, n3, (P, W.listOf (vs.push (.str c t)) k')] → Q .brk { s with heap := h', toks := tk' })
    (hQ2 : fmHit i n b = false → ∀ h' tk', Fr g L h' m → News g L h' [n1, n2, n3, (P, W.listOf vs k)] → Q .next { s with heap := h', toks := tk' }) :
    wpAny (model PySem.Challenge.rw_pa0071_01.row.prog w) ((ktrTop dp un gd cn cs Lc ac ccd cl outer).deeper (envOf qual scope L 149 cdv)) (execs ib (envOf qual scope L 149 cdv)) Q E s := by
  k_with_none
  k_with "own" => (k_here; (with_reducible show wpAny _ _ (call (Value.ref 109) [Value.int _ _]) _ _ _); k_dflt (refine' ifmt_use ?k1 ?k2 ?k3 ?k4 ?kd ?ku ?_; (case k1 => k_asm); (case k2 => k_asm); (case k3 => k_asm); (case k4 => k_asm); (case kd => ktr_room); (case ku => ktr_units)); intro _ _ _ _ _; (try dsimp only); (try k_fold))
  k_with "own" => (k_here; (with_reducible show wpAny _ _ (call (Value.builtin _) [Value.ref _, _]) _ _ _); k_dflt (refine' append_K ?k1 ?k2 (Upd.tail (by with_reducible assumption) (Upd.tail (by with_reducible assumption) (Upd.tail (by with_reducible assumption) (Upd.head (fun _ h => nomatch h))))) ?_ ?z; (case k1 => k_asm); (case k2 => k_asm); (case z => ((rw [PySem.sizeLine_eq]); omega)); k_whole); intro _ _ _; (try k_sweep))
  refine wpAny_mono (E := fun _ _ => False) ?_ (fun _ _ x => x) (fun _ _ x => x.elim)
  revert X; k_fill; intro X
  have e := lookEq (by k_is) hK
  clear hK
  cases e
  cases hst0
  cases hst
  have hpins : ∀ p ∈ [(Str.ofString "index", Value.int i ti), (Str.ofString "mode", .int n tn), (Str.ofString "bit", .int b tb), (Str.ofString "char", .str c tc), (Str.ofString "perm", .ref P)], m p.1 = some p.2 := allC h1 (allC h2 (allC h3 (allC h4 (all1 h5))))
  have F1 := pinAll _ F hpins
  rw [show m = pinL [(Str.ofString "index", Value.int i ti), (Str.ofString "mode", .int n tn), (Str.ofString "bit", .int b tb), (Str.ofString "char", .str c tc), (Str.ofString "perm", .ref P)] m from (pinL_eq hpins).symm] at hQ1 hQ2
  clear F h1 h2 h3 h4 h5 hpins
  dsimp only [pinL] at F1 hQ1 hQ2
  repeat' (first | (k_unfold; (try dsimp only)) | (k_end; wrow_close) | k_extra "own" | walk1 | (dsimp only; k_extra "own") | (dsimp only; walk1) | (leave1; walk_say "STEP leave1"; try dsimp only) | fail "no step")
  · exact hQ1 (hit_a (by with_reducible assumption) (by with_reducible assumption)) _ _ _ _ (by with_reducible assumption) (by with_reducible assumption)
  · exact hQ2 (hit_b (by with_reducible assumption) (by with_reducible assumption)) _ _ (by with_reducible assumption) (by with_reducible assumption)
  · exact hQ1 (hit_c (by with_reducible assumption) (by with_reducible assumption)) _ _ _ _ (by with_reducible assumption) (by with_reducible assumption)
  · exact hQ2 (hit_d (by with_reducible assumption) (by with_reducible assumption)) _ _ (by with_reducible assumption) (by with_reducible assumption)
end
end Mine
end
section
theorem Mine.rstF6 {M : PySem.Model} {A : PySem.Around} {pos : PySem.Pos} {env : PySem.Env} {Q : PySem.Flow → PySem.Shared → Prop} {E : PySem.Value → PySem.Shared → Prop} {s : PySem.Shared} (h : PySem.wpAny M A (PySem.exec (.Pass pos) env) Q E s) : PySem.wpAny M A (PySem.exec (.Pass pos) env) Q E s := by
  w_top off
  k_with_none
  first | (walk1; fail) | exact h
open PySem PySem.W PyProof.Rows PySem.Calls PyProof.V PySem.Spec
set_option Elab.async false
set_option linter.unusedVariables false
set_option maxRecDepth 100000
set_option maxHeartbeats 8000000
namespace Mine
def fmNone (i : Nat) : Str := if i = 0 then Str.ofString "?" else Str.ofString "-"
section
theorem fm_else {w : World} {loose : List Str} {mean : ExcName → Option Value} {mg mb : Str → Option Value} {dp un : Nat} {gd : Option (List Code)} {cn : Str} {cs : Scope} {Lc ac : Addr} {ccd : Value} {cl : List (Str × Addr)} {outer : List Env}
    {g : Heap} {L : Addr} {s : Shared} {m : Str → Option Value} {Q : Flow → Shared → Prop} {E : Value → Shared → Prop}
    {nm qual : Str} {params : Arguments} {body ob oe ib ie : List Stmt} {tg1 it1 tg2 it2 : Expr} {ps1 ps2 : Pos} {scope : Scope} {dV kV doc pm cdv ct oc : Value} {an od : Option Addr} {osl : Array (Option Value)}
    {i : Nat} {ti : Tok} {P : Addr} {vs : Array Value} {k : Nat} {n2 n3 : Addr × Obj}
    (hK : (Mine.hd.heap_39 w.params).lookup 149 = some ⟨oc, od, .func (fnOf nm qual params body scope dV kV doc pm an cdv ct), osl⟩)
    (hst0 : body[1]? = some (.For tg1 it1 ob oe ps1)) (hst : ob[0]? = some (.For tg2 it2 ib ie ps2))
    (X : (Mine.hd.heap_39 w.params).In g) (T : Top Mine.hd.view_39 loose mean mg mb g)
    (F : Fr g L s.heap m) (N : News g L s.heap [n2, n3, (P, W.listOf vs k)]) (o2 : n2.1 ≠ P) (o3 : n3.1 ≠ P) (hvs : vs.size ≤ 20)
    (h1 : m (Str.ofString "index") = some (.int i ti)) (h5 : m (Str.ofString "perm") = some (.ref P))
    (hQ1 : ∀ t k' h' tk', Fr g L h' m → News g L h' [n2, n3, (P, W.listOf (vs.push (.str (fmNone i) t)) k')] → Q .next { s with heap := h', toks := tk' }) :
    wpAny (model PySem.Challenge.rw_pa0071_01.row.prog w) ((ktrTop dp un gd cn cs Lc ac ccd cl outer).deeper (envOf qual scope L 149 cdv)) (execs ie (envOf qual scope L 149 cdv)) Q E s := by
  k_with_none
  k_with "own" => (k_here; (with_reducible show wpAny _ _ (call (Value.builtin _) [Value.ref _, _]) _ _ _); k_dflt (refine' append_K ?k1 ?k2 (Upd.tail (by with_reducible assumption) (Upd.tail (by with_reducible assumption) (Upd.head (fun _ h => nomatch h)))) ?_ ?z; (case k1 => k_asm); (case k2 => k_asm); (case z => ((rw [PySem.sizeLine_eq]); omega)); k_whole); intro _ _ _; (try k_sweep))
  refine wpAny_mono (E := fun _ _ => False) ?_ (fun _ _ x => x) (fun _ _ x => x.elim)
  revert X; k_fill; intro X
  have e := lookEq (by k_is) hK
  clear hK
  cases e
  cases hst0
  cases hst
  have hpins : ∀ p ∈ [(Str.ofString "index", Value.int i ti), (Str.ofString "perm", .ref P)], m p.1 = some p.2 := allC h1 (all1 h5)
  have F1 := pinAll _ F hpins
  rw [show m = pinL [(Str.ofString "index", Value.int i ti), (Str.ofString "perm", .ref P)] m from (pinL_eq hpins).symm] at hQ1
  clear F h1 h5 hpins
  dsimp only [pinL] at F1 hQ1
  have c0 : (i : Int) = 0 → fmNone i = Str.ofString "?" := fun h => if_pos (by omega)
  have c1 : ¬ (i : Int) = 0 → fmNone i = Str.ofString "-" := fun h => if_neg (by omega)
  repeat' (first | (k_unfold; (try dsimp only)) | (k_end; wrow_close) | k_extra "own" | walk1 | (dsimp only; k_extra "own") | (dsimp only; walk1) | (leave1; walk_say "STEP leave1"; try dsimp only) | fail "no step")
  · rw [c0 (by with_reducible assumption)] at hQ1
    exact hQ1 _ _ _ _ (by with_reducible assumption) (by with_reducible assumption)
  · rw [c1 (by with_reducible assumption)] at hQ1
    exact hQ1 _ _ _ _ (by with_reducible assumption) (by with_reducible assumption)
end
end Mine
end
section
theorem Mine.rstF7 {M : PySem.Model} {A : PySem.Around} {pos : PySem.Pos} {env : PySem.Env} {Q : PySem.Flow → PySem.Shared → Prop} {E : PySem.Value → PySem.Shared → Prop} {s : PySem.Shared} (h : PySem.wpAny M A (PySem.exec (.Pass pos) env) Q E s) : PySem.wpAny M A (PySem.exec (.Pass pos) env) Q E s := by
  w_top off
  k_with_none
  first | (walk1; fail) | exact h
open PySem PySem.W PyProof.Rows PySem.Calls PyProof.V PySem.Spec
set_option Elab.async false
set_option linter.unusedVariables false
set_option maxRecDepth 100000
set_option maxHeartbeats 8000000
namespace Mine
def fmT : List (List (Int × Str)) := [[(40960, Str.ofString "l"), (49152, Str.ofString "s"), (32768, Str.ofString "-"), (24576, Str.ofString "b"), (16384, Str.ofString "d"), (8192, Str.ofString "c"), (4096, Str.ofString "p")], [(256, Str.ofString "r")], [(128, Str.ofString "w")], [(2112, Str.ofString "s"), (2048, Str.ofString "S"), (64, Str.ofString "x")], [(32, Str.ofString "r")], [(16, Str.ofString "w")], [(1032, Str.ofString "s"), (1024, Str.ofString "S"), (8, Str.ofString "x")], [(4, Str.ofString "r")], [(2, Str.ofString "w")], [(513, Str.ofString "t"), (512, Str.ofString "T"), (1, Str.ofString "x")]]
def fmSign (i : Nat) (n : Int) : List (Int × Str) → Str
  | [] => fmNone i
  | p :: r => if fmHit i n p.1 = true then p.2 else fmSign i n r
def fmStr (n : Int) : List Str := (List.range 10).map fun i => fmSign i n (fmT.getD i [])
inductive PairsR (g : Heap) : List Value → List (Int × Str) → Prop
  | nil : PairsR g [] []
  | cons {T : Addr} {x : Int} {c : Str} {t u : Tok} {vs row} : g.IsTuple T #[.int x t, .str c u] → PairsR g vs row → PairsR g (.ref T :: vs) ((x, c) :: row)
theorem PairsR.get {g : Heap} : ∀ {vs row}, PairsR g vs row → ∀ (j : Nat) v, vs[j]? = some v → ∃ T p t u, v = .ref T ∧ row[j]? = some p ∧ g.IsTuple T #[.int p.1 t, .str p.2 u]
  | _, _, .nil, _, _, h => by simp at h
  | _, _, .cons (T := T) (x := x) (c := c) (t := t) (u := u) hT r, 0, v, h => by
    simp only [List.getElem?_cons_zero, Option.some.injEq] at h
    exact ⟨T, (x, c), t, u, h.symm, rfl, hT⟩
  | _, _, .cons hT r, j + 1, v, h => by
    rw [List.getElem?_cons_succ] at h ⊢
    exact PairsR.get r j v h
theorem PairsR.len {g : Heap} {vs row} (h : PairsR g vs row) : vs.length = row.length := by
  induction h with
  | nil => rfl
  | cons _ _ ih => rw [List.length_cons, List.length_cons, ih]
def RowAt (g : Heap) (a : Addr) (row : List (Int × Str)) : Prop := ∃ vs : List Value, g.IsTuple a vs.toArray ∧ PairsR g vs row
inductive TabR (g : Heap) : List Value → List (List (Int × Str)) → Prop
  | nil : TabR g [] []
  | cons {a : Addr} {row vs rows} : RowAt g a row → TabR g vs rows → TabR g (.ref a :: vs) (row :: rows)
theorem TabR.get {g : Heap} : ∀ {vs rows}, TabR g vs rows → ∀ (j : Nat) v, vs[j]? = some v → ∃ a, v = .ref a ∧ RowAt g a (rows.getD j [])
  | _, _, .nil, _, _, h => by simp at h
  | _, _, .cons (a := a) hT r, 0, v, h => by
    simp only [List.getElem?_cons_zero, Option.some.injEq] at h
    exact ⟨a, h.symm, by simpa using hT⟩
  | _, _, .cons hT r, j + 1, v, h => by
    rw [List.getElem?_cons_succ] at h
    obtain ⟨a, e, q⟩ := TabR.get r j v h
    exact ⟨a, e, by simpa using q⟩
theorem strs_snoc {vs : List Value} {xs : List Str} (h : StrsAre vs xs) (x : Str) (t : Tok) : StrsAre (vs ++ [.str x t]) (xs ++ [x]) := by
  induction h with
  | nil => exact .cons x t .nil
  | cons y u _ ih => exact .cons y u ih
theorem sign_hit {i : Nat} {n : Int} {row : List (Int × Str)} {j : Nat} {p : Int × Str} (e : fmSign i n row = fmSign i n (row.drop j)) (hp : row[j]? = some p) (h : fmHit i n p.1 = true) : fmSign i n row = p.2 := by
  obtain ⟨hj, rfl⟩ := List.getElem?_eq_some_iff.mp hp
  rw [e, List.drop_eq_getElem_cons hj, fmSign, if_pos h]
theorem sign_miss {i : Nat} {n : Int} {row : List (Int × Str)} {j : Nat} {p : Int × Str} (e : fmSign i n row = fmSign i n (row.drop j)) (hp : row[j]? = some p) (h : fmHit i n p.1 = false) : fmSign i n row = fmSign i n (row.drop (j + 1)) := by
  obtain ⟨hj, rfl⟩ := List.getElem?_eq_some_iff.mp hp
  rw [e, List.drop_eq_getElem_cons hj, fmSign, if_neg (by simp [h])]
def FmJ (n : Int) (tn : Tok) (P : Addr) (i : Nat) (m : Str → Option Value) (news : List (Addr × Obj)) : Prop :=
  m (Str.ofString "mode") = some (.int n tn) ∧ m (Str.ofString "perm") = some (.ref P) ∧ ∃ vs k, news = [(P, W.listOf vs k)] ∧ vs.size = i ∧ StrsAre vs.toList ((List.range i).map fun j => fmSign j n (fmT.getD j []))
theorem upd2 {m : Str → Option Value} {y a b : Str} {u w v : Value} (h1 : y ≠ a) (h2 : y ≠ b) (h : m y = some v) : (fun z => if z = a then some u else if z = b then some w else m z) y = some v := by
  show (if _ then _ else if _ then _ else _) = _
  rw [if_neg h1, if_neg h2]; exact h
theorem tup_inj {g : Heap} {T : Addr} {xs ys : Array Value} (h : g.IsTuple T xs) (h' : g.IsTuple T ys) : xs = ys := by
  obtain ⟨o, ho, _, n, hd⟩ := h
  obtain ⟨o', ho', _, n', hd'⟩ := h'
  rw [ho] at ho'; cases ho'
  rw [hd] at hd'; cases hd'; rfl
theorem fm_turn {w : World} {loose : List Str} {mean : ExcName → Option Value} {mg mb : Str → Option Value} {dp un : Nat} {gd : Option (List Code)} {cn : Str} {cs : Scope} {Lc ac : Addr} {ccd : Value} {cl : List (Str × Addr)} {outer : List Env}
    {g : Heap} {L : Addr} {s : Shared} {m : Str → Option Value} {Q : Flow → Shared → Prop} {E : Value → Shared → Prop}
    {nm qual : Str} {params : Arguments} {body ob oe : List Stmt} {tg1 it1 : Expr} {ps1 : Pos} {scope : Scope} {dV kV doc pm cdv ct oc : Value} {an od : Option Addr} {osl : Array (Option Value)}
    {i : Nat} {n : Int} {tk ti : Tok} {P a : Addr} {vs : Array Value} {k : Nat} {n1 n2 : Addr × Obj} {row : List (Int × Str)}
    (hK : (Mine.hd.heap_39 w.params).lookup 149 = some ⟨oc, od, .func (fnOf nm qual params body scope dV kV doc pm an cdv ct), osl⟩)
    (hst0 : body[1]? = some (.For tg1 it1 ob oe ps1))
    (X : (Mine.hd.heap_39 w.params).In g) (T : Top Mine.hd.view_39 loose mean mg mb g) (hd : dp + 12 < recursionLimit) (hu : un + 120 < cLine)
    (F : Fr g L s.heap m) (N : News g L s.heap [n1, n2, (P, W.listOf vs k)]) (o1 : P ≠ n1.1) (o2 : P ≠ n2.1) (hvs : vs.size ≤ 20) (hR : RowAt g a row)
    (h1 : m (Str.ofString "table") = some (.ref a)) (h2 : m (Str.ofString "index") = some (.int i tk)) (h3 : m (Str.ofString "mode") = some (.int n ti)) (h4 : m (Str.ofString "perm") = some (.ref P))
    (hQ : ∀ t k' h' tk' m', Fr g L h' m' → News g L h' [n1, n2, (P, W.listOf (vs.push (.str (fmSign i n row) t)) k')] → m' (Str.ofString "mode") = some (.int n ti) → m' (Str.ofString "perm") = some (.ref P) → Q .next { s with heap := h', toks := tk' }) :
    wpAny (model PySem.Challenge.rw_pa0071_01.row.prog w) ((ktrTop dp un gd cn cs Lc ac ccd cl outer).deeper (envOf qual scope L 149 cdv)) (execs ob (envOf qual scope L 149 cdv)) Q E s := by
  refine wpAny_mono (E := fun _ _ => False) ?_ (fun _ _ x => x) (fun _ _ x => x.elim)
  revert X; k_fill; intro X
  obtain ⟨rs, hA, hrow⟩ := hR
  have e := lookEq (by k_is) hK
  clear hK
  cases e
  cases hst0
  have hpins : ∀ p ∈ [(Str.ofString "table", Value.ref a), (Str.ofString "index", .int i tk), (Str.ofString "mode", .int n ti), (Str.ofString "perm", .ref P)], m p.1 = some p.2 := allC h1 (allC h2 (allC h3 (all1 h4)))
  have F4 := pinAll _ F hpins
  clear F
  dsimp only [pinL] at F4
  repeat' ((fail_if_success (with_reducible show wpAny _ _ (exec (Stmt.For _ _ _ _ _) _) _ _ _)); (first | (k_unfold; (try dsimp only)) | (k_end; wrow_close) | walk1 | (dsimp only; walk1) | (leave1; walk_say "STEP leave1"; try dsimp only)))
  rename Fr _ _ _ _ => F5
  rename News _ _ _ _ => N5
  k_dflt (refine' for_pair (J := fun j m news => m (Str.ofString "index") = some (.int i tk) ∧ m (Str.ofString "mode") = some (.int n ti) ∧ m (Str.ofString "perm") = some (.ref P) ∧ news = [n1, n2, (P, W.listOf vs k)] ∧ fmSign i n row = fmSign i n (row.drop j)) ?hh ?hx ?hy ?hp hA ?hpr F5 N5 ?h0 ?he ?turn ?fin)
  case hh => rfl
  case hx => rfl
  case hy => rfl
  case hp => rfl
  case hpr =>
    intro j v hj
    obtain ⟨T, p, t, u, rfl, hp, hT⟩ := hrow.get j v (by simpa using hj)
    exact ⟨T, _, _, rfl, hT⟩
  case h0 => exact ⟨by with_unfolding_all rfl, by with_unfolding_all rfl, by with_unfolding_all rfl, rfl, rfl⟩
  case he =>
    intro Q' hQ'
    repeat' (first | (k_unfold; (try dsimp only)) | (k_end; wrow_close) | walk1 | (dsimp only; walk1))
    exact hQ'
  case turn =>
    intro j T' p q m₂ news₂ h2 tk2 n0 hj hT' hJ6 F6 N6 hoff6
    obtain ⟨i1, i2, i3, rfl, i5⟩ := hJ6
    obtain ⟨T9, pr, t, u, he9, hpr, hT9⟩ := hrow.get j _ (by simpa using hj)
    cases he9
    cases tup_inj hT' hT9
    k_dflt (refine' fm_step (i := i) (n := n) (b := pr.1) (c := pr.2) ?hK ?hst0 ?hst X T ?hd ?hu F6 N6 ?o1 ?o2 ?o3 ?hvs ?h1 ?h2 ?h3 ?h4 ?h5 ?hQ1 ?hQ2)
    case hK => k_is
    case hst0 => rfl
    case hst => rfl
    case hd => omega
    case hu => omega
    case o1 => exact Ne.symm (hoff6 _ (.tail _ (.tail _ (.head _))))
    case o2 => exact Ne.symm o1
    case o3 => exact Ne.symm o2
    case hvs => omega
    case h1 => exact upd2 (y := Str.ofString "index") (by decide) (by decide) i1
    case h2 => exact upd2 (y := Str.ofString "mode") (by decide) (by decide) i2
    case h3 => with_unfolding_all rfl
    case h4 => with_unfolding_all rfl
    case h5 => exact upd2 (y := Str.ofString "perm") (by decide) (by decide) i3
    case hQ1 =>
      intro hit t9 k9 h9 tk9 F9 N9
      rw [sign_hit i5 hpr hit] at hQ
      dsimp only
      repeat' (first | (k_unfold; (try dsimp only)) | (k_end; wrow_close) | walk1 | (dsimp only; walk1))
      exact hQ _ _ _ _ _ F9 (fun p hp => N9 p (.tail _ hp)) (upd2 (y := Str.ofString "mode") (by decide) (by decide) i2) (upd2 (y := Str.ofString "perm") (by decide) (by decide) i3)
    case hQ2 =>
      intro hit h9 tk9 F9 N9
      exact ⟨_, _, _, _, rfl, F9, N9, hoff6, upd2 (y := Str.ofString "index") (by decide) (by decide) i1, upd2 (y := Str.ofString "mode") (by decide) (by decide) i2, upd2 (y := Str.ofString "perm") (by decide) (by decide) i3, rfl, sign_miss i5 hpr hit⟩
  case fin =>
    intro m₂ news₂ h2 tk2 hJ6 F6 N6
    obtain ⟨i1, i2, i3, rfl, i5⟩ := hJ6
    have hlen := hrow.len
    rw [List.drop_of_length_le (by simp [hlen])] at i5
    k_dflt (refine' fm_else (i := i) (vs := vs) ?hK ?hst0 ?hst X T F6 N6 ?o2 ?o3 ?hvs ?h1 ?h5 ?hQ1)
    case hK => k_is
    case hst0 => rfl
    case hst => rfl
    case o2 => exact Ne.symm o1
    case o3 => exact Ne.symm o2
    case hvs => omega
    case h1 => exact i1
    case h5 => exact i3
    case hQ1 =>
      intro t9 k9 h9 tk9 F9 N9
      rw [i5] at hQ
      dsimp only
      repeat' (first | (k_unfold; (try dsimp only)) | (k_end; wrow_close) | walk1 | (dsimp only; walk1))
      exact hQ _ _ _ _ _ F9 N9 i2 i3
theorem fm_call {w : World} {loose : List Str} {mean : ExcName → Option Value} {mg mb : Str → Option Value} {dp un : Nat} {gd : Option (List Code)} {cn : Str} {cs : Scope} {Lc ac : Addr} {ccd : Value} {cl : List (Str × Addr)} {outer : List Env}
    {s : Shared} {Q E : Value → Shared → Prop} {n : Int} {ti : Tok} (X : (Mine.hd.heap_39 w.params).In s.heap) (T : Top Mine.hd.view_39 loose mean mg mb s.heap)
    (hd : dp + 22 < recursionLimit) (hu : un + 220 < cLine) (hsm : ((fmStr n).map (·.length)).sum ≤ 1000)
    (hret : ∀ (t : Tok) h' tk', Kept s.heap h' → Q (.str (Txt.join (Str.ofString "") (fmStr n)) t) { s with heap := h', toks := tk' }) :
    wpAny (model PySem.Challenge.rw_pa0071_01.row.prog w) (ktrTop dp un gd cn cs Lc ac ccd cl outer) (call (.ref 149) [.int n ti]) Q E s := by
  revert X; k_fill; intro X
  have hTab : TabR s.heap [.ref 117, .ref 119, .ref 121, .ref 125, .ref 127, .ref 129, .ref 133, .ref 135, .ref 137, .ref 141] fmT := by
    unfold fmT
    refine .cons (a := 117) ⟨[.ref 110, .ref 111, .ref 112, .ref 113, .ref 114, .ref 115, .ref 116], ⟨_, X 117 _ (by k_is), rfl, _, rfl⟩, ?_⟩ ?_
    · (refine .cons (T := 110) ⟨_, X 110 _ (by k_is), rfl, _, rfl⟩ ?_); (refine .cons (T := 111) ⟨_, X 111 _ (by k_is), rfl, _, rfl⟩ ?_); (refine .cons (T := 112) ⟨_, X 112 _ (by k_is), rfl, _, rfl⟩ ?_); (refine .cons (T := 113) ⟨_, X 113 _ (by k_is), rfl, _, rfl⟩ ?_); (refine .cons (T := 114) ⟨_, X 114 _ (by k_is), rfl, _, rfl⟩ ?_); (refine .cons (T := 115) ⟨_, X 115 _ (by k_is), rfl, _, rfl⟩ ?_); (refine .cons (T := 116) ⟨_, X 116 _ (by k_is), rfl, _, rfl⟩ ?_); exact .nil
    refine .cons (a := 119) ⟨[.ref 118], ⟨_, X 119 _ (by k_is), rfl, _, rfl⟩, ?_⟩ ?_
    · (refine .cons (T := 118) ⟨_, X 118 _ (by k_is), rfl, _, rfl⟩ ?_); exact .nil
    refine .cons (a := 121) ⟨[.ref 120], ⟨_, X 121 _ (by k_is), rfl, _, rfl⟩, ?_⟩ ?_
    · (refine .cons (T := 120) ⟨_, X 120 _ (by k_is), rfl, _, rfl⟩ ?_); exact .nil
    refine .cons (a := 125) ⟨[.ref 122, .ref 123, .ref 124], ⟨_, X 125 _ (by k_is), rfl, _, rfl⟩, ?_⟩ ?_
    · (refine .cons (T := 122) ⟨_, X 122 _ (by k_is), rfl, _, rfl⟩ ?_); (refine .cons (T := 123) ⟨_, X 123 _ (by k_is), rfl, _, rfl⟩ ?_); (refine .cons (T := 124) ⟨_, X 124 _ (by k_is), rfl, _, rfl⟩ ?_); exact .nil
    refine .cons (a := 127) ⟨[.ref 126], ⟨_, X 127 _ (by k_is), rfl, _, rfl⟩, ?_⟩ ?_
    · (refine .cons (T := 126) ⟨_, X 126 _ (by k_is), rfl, _, rfl⟩ ?_); exact .nil
    refine .cons (a := 129) ⟨[.ref 128], ⟨_, X 129 _ (by k_is), rfl, _, rfl⟩, ?_⟩ ?_
    · (refine .cons (T := 128) ⟨_, X 128 _ (by k_is), rfl, _, rfl⟩ ?_); exact .nil
    refine .cons (a := 133) ⟨[.ref 130, .ref 131, .ref 132], ⟨_, X 133 _ (by k_is), rfl, _, rfl⟩, ?_⟩ ?_
    · (refine .cons (T := 130) ⟨_, X 130 _ (by k_is), rfl, _, rfl⟩ ?_); (refine .cons (T := 131) ⟨_, X 131 _ (by k_is), rfl, _, rfl⟩ ?_); (refine .cons (T := 132) ⟨_, X 132 _ (by k_is), rfl, _, rfl⟩ ?_); exact .nil
    refine .cons (a := 135) ⟨[.ref 134], ⟨_, X 135 _ (by k_is), rfl, _, rfl⟩, ?_⟩ ?_
    · (refine .cons (T := 134) ⟨_, X 134 _ (by k_is), rfl, _, rfl⟩ ?_); exact .nil
    refine .cons (a := 137) ⟨[.ref 136], ⟨_, X 137 _ (by k_is), rfl, _, rfl⟩, ?_⟩ ?_
    · (refine .cons (T := 136) ⟨_, X 136 _ (by k_is), rfl, _, rfl⟩ ?_); exact .nil
    refine .cons (a := 141) ⟨[.ref 138, .ref 139, .ref 140], ⟨_, X 141 _ (by k_is), rfl, _, rfl⟩, ?_⟩ ?_
    · (refine .cons (T := 138) ⟨_, X 138 _ (by k_is), rfl, _, rfl⟩ ?_); (refine .cons (T := 139) ⟨_, X 139 _ (by k_is), rfl, _, rfl⟩ ?_); (refine .cons (T := 140) ⟨_, X 140 _ (by k_is), rfl, _, rfl⟩ ?_); exact .nil
    exact .nil
  have h142 : s.heap.IsTuple 142 #[.ref 117, .ref 119, .ref 121, .ref 125, .ref 127, .ref 129, .ref 133, .ref 135, .ref 137, .ref 141] := ⟨_, X 142 _ (by k_is), rfl, _, rfl⟩
  k_dflt (refine' enter X T ?k6 ?k7 ?k8 ?k9 ?kB ?_ ?c2 ?c3 ?c4 ?c5; (case k6 => k_is); (case k7 => k_is); (case k8 => ktr_room); (case k9 => first | exact BindsTo.of_eq rfl | exact binds_K (by k_in) rfl (by k_is) rfl rfl rfl); (case c5 => decide); (case kB => exact locs rfl); (case c2 => exact rfl); (case c3 => exact rfl); (case c4 => exact rfl))
  intro L' h₁ F N
  (try dsimp only); (try k_fold)
  repeat' ((fail_if_success (with_reducible show wpAny _ _ (exec (Stmt.For _ _ _ _ _) _) _ _ _)); (first | (k_unfold; (try dsimp only)) | (k_end; wrow_close) | walk1 | (dsimp only; walk1) | (leave1; walk_say "STEP leave1"; try dsimp only)))
  rename Fr _ _ _ _ => F2
  rename News _ _ _ [(_, _)] => N2
  k_dflt (refine' for_enum (J := FmJ n ti _) ?hh ?hx ?hy ?hp h142 F2 N2 ?h0 ?he ?turn ?fin)
  case hh => rfl
  case hx => rfl
  case hy => rfl
  case hp => rfl
  case h0 => exact ⟨by with_unfolding_all rfl, by with_unfolding_all rfl, _, _, rfl, rfl, .nil⟩
  case he =>
    intro Q' hQ'
    repeat' ((fail_if_success (with_reducible show wpAny _ _ (call (Value.type "enumerate") _ _) _ _ _)); (first | (k_unfold; (try dsimp only)) | (k_end; wrow_close) | walk1 | (dsimp only; walk1)))
    rename Fr _ _ _ _ => F3
    exact call_enumerate_tuple (let ⟨o, ho, r⟩ := h142; ⟨o, F3.keep _ _ ho, r⟩) hQ'
  case turn =>
    intro i v tk m₁ news₁ h tk' n1 n2 hv hJ F3 N3 hoff
    obtain ⟨hJ1, hJ2, vs, k, rfl, hsz, hstr⟩ := hJ
    obtain ⟨a, rfl, hrow⟩ := hTab.get i v (by simpa using hv)
    have hi10 : i < 10 := by
      have := (Array.getElem?_eq_some_iff.mp hv).1
      simpa using this
    have hoP := hoff _ (.head _)
    k_dflt (refine' fm_turn ?hK ?hst0 X T ?hd ?hu F3 N3 hoP.1 hoP.2 ?hvs hrow ?h1 ?h2 ?h3 ?h4 ?hQ)
    case hK => k_is
    case hst0 => rfl
    case hd => omega
    case hu => omega
    case hvs => omega
    case h1 => with_unfolding_all rfl
    case h2 => with_unfolding_all rfl
    case h3 => exact upd2 (y := Str.ofString "mode") (by decide) (by decide) hJ1
    case h4 => exact upd2 (y := Str.ofString "perm") (by decide) (by decide) hJ2
    case hQ =>
      intro t9 k9 h9 tk9 m9 F9 N9 e1 e2
      refine ⟨_, _, _, _, rfl, F9, N9, ?_, e1, e2, _, _, rfl, by simp [hsz], ?_⟩
      · intro p hp
        rcases List.mem_singleton.mp hp with rfl
        exact hoP
      · rw [List.range_succ, List.map_append, Array.toList_push]
        exact strs_snoc hstr _ _
  case fin =>
    intro m' news' h tk hJ F3 N3
    obtain ⟨hJ1, hJ2, vs, k, rfl, hsz, hstr⟩ := hJ
    have hpins : ∀ p ∈ [(Str.ofString "mode", Value.int n ti), (Str.ofString "perm", .ref _)], m' p.1 = some p.2 := allC hJ1 (all1 hJ2)
    have F4 := pinAll _ F3 hpins
    clear F3
    dsimp only [pinL] at F4
    (try dsimp only)
    repeat' ((fail_if_success (with_reducible show wpAny _ _ (call (Value.builtin "str.join") _ _) _ _ _)); (first | (k_unfold; (try dsimp only)) | (k_end; wrow_close) | walk1 | (dsimp only; walk1) | (leave1; walk_say "STEP leave1"; try dsimp only)))
    rename Fr _ _ _ _ => F5
    rename News _ _ _ _ => N5
    have hstr' : StrsAre vs.toList (fmStr n) := hstr
    refine join_list (News.isList N5 (.head _)) hstr' ?_ ?_
    · have h0 : (fmStr n).length = 10 := by simp [fmStr]
      have h1 : (Str.ofString "").length = 0 := by decide +kernel
      rw [h0, h1]; omega
    · intro t9 k9
      exact hret _ _ _ F5.keep
theorem fm_use {w : World} {loose : List Str} {mean : ExcName → Option Value} {mg mb : Str → Option Value} {dp un : Nat} {gd : Option (List Code)} {cn : Str} {cs : Scope} {Lc ac : Addr} {ccd : Value} {cl : List (Str × Addr)} {outer : List Env}
    {g : Heap} {L : Addr} {s : Shared} {m : Str → Option Value} {news : List (Addr × Obj)} {Q E : Value → Shared → Prop} {n : Int} {ti : Tok} (res : Str) (X : (Mine.hd.heap_39 w.params).In g) (T : Top Mine.hd.view_39 loose mean mg mb g) (F : Fr g L s.heap m) (N : News g L s.heap news)
    (hd : dp + 22 < recursionLimit) (hu : un + 220 < cLine) (hsm : ((fmStr n).map (·.length)).sum ≤ 1000) (hres : Txt.join (Str.ofString "") (fmStr n) = res)
    (h : ∀ (t : Tok) h' tk', Fr g L h' m → News g L h' news → Q (.str res t) { s with heap := h', toks := tk' }) :
    wpAny (model PySem.Challenge.rw_pa0071_01.row.prog w) (ktrTop dp un gd cn cs Lc ac ccd cl outer) (call (.ref 149) [.int n ti]) Q E s :=
  fm_call (X.keeps F.keep) (T.keeps F.keep) hd hu hsm fun t h' tk' k => by rw [hres]; exact h t h' tk' (k.fr F) (k.news N)
theorem fm_1 : ((fmStr 33188).map (·.length)).sum ≤ 1000 ∧ Txt.join (Str.ofString "") (fmStr 33188) = Str.ofString "-rw-r--r--" := by decide +kernel
theorem fm_2 : ((fmStr 16877).map (·.length)).sum ≤ 1000 ∧ Txt.join (Str.ofString "") (fmStr 16877) = Str.ofString "drwxr-xr-x" := by decide +kernel
theorem fm_3 : ((fmStr 43519).map (·.length)).sum ≤ 1000 ∧ Txt.join (Str.ofString "") (fmStr 43519) = Str.ofString "lrwsrwxrwx" := by decide +kernel
theorem fm_4 : ((fmStr 4992).map (·.length)).sum ≤ 1000 ∧ Txt.join (Str.ofString "") (fmStr 4992) = Str.ofString "prw------T" := by decide +kernel
end Mine
end
section
theorem Mine.rstT6 {M : PySem.Model} {A : PySem.Around} {pos : PySem.Pos} {env : PySem.Env} {Q : PySem.Flow → PySem.Shared → Prop} {E : PySem.Value → PySem.Shared → Prop} {s : PySem.Shared} (h : PySem.wpAny M A (PySem.exec (.Pass pos) env) Q E s) : PySem.wpAny M A (PySem.exec (.Pass pos) env) Q E s := by
  w_top off
  k_with_none
  first | (walk1; fail) | exact h
open PySem PySem.W PyProof.Rows PySem.Calls PyProof.V PySem.Spec
set_option Elab.async false
set_option linter.unusedVariables false
set_option maxRecDepth 100000
set_option maxHeartbeats 8000000
namespace Mine
def pairD (p : Int × Str) : Dat := Dat.tuple [.int p.1, .str p.2]
def pAt (ps : List (Int × Str)) (i : Nat) : Int × Str := ps.getD i (0, ⟨#[]⟩)
def bestIx (ps : List (Int × Str)) : Nat := argBest (fun i j => ltP (pAt ps i) (pAt ps j)) (ps.length - 1)
theorem argBest_le (bt : Nat → Nat → Bool) : ∀ k, argBest bt k ≤ k
  | 0 => Nat.le_refl _
  | k + 1 => by
    rw [argBest]
    split
    · exact Nat.le_refl _
    · exact Nat.le_succ_of_le (argBest_le bt k)
theorem pairs_get {news : List (Addr × Obj)} : ∀ {ys : List Value} {ps : List (Int × Str)}, DatAll news ys (ps.map pairD) → ∀ (i : Nat) v, ys[i]? = some v → ∃ a t u n, v = .ref a ∧ (a, ({ cls := .type "tuple", data := .seq #[.int (pAt ps i).1 t, .str (pAt ps i).2 u] n } : Obj)) ∈ news
  | [], _, _, _, _, h => by simp at h
  | y :: ys, [], h, _, _, _ => by cases h
  | y :: ys, p :: ps, h, 0, v, hv => by
    simp only [List.getElem?_cons_zero, Option.some.injEq] at hv
    subst hv
    rw [List.map_cons] at h
    cases h with
    | cons h r =>
      unfold pairD at h
      cases h with
      | @tuple a vs n _ hm hd =>
        cases hd with
        | cons h1 hd =>
          cases h1 with
          | int _ t =>
            cases hd with
            | cons h2 hd =>
              cases h2 with
              | str _ u =>
                cases hd
                exact ⟨a, t, u, n, rfl, hm⟩
  | y :: ys, p :: ps, h, i + 1, v, hv => by
    rw [List.getElem?_cons_succ] at hv
    rw [List.map_cons] at h
    cases h with
    | cons h r => exact pairs_get r i v hv
theorem datAll_len {news : List (Addr × Obj)} {ys : List Value} {ps : List (Int × Str)} (h : DatAll news ys (ps.map pairD)) : ys.length = ps.length := by rw [h.length, List.length_map]
theorem min_use {prog : Program} {w : World} {A : Around} {E : Value → Shared → Prop} {s : Shared} {h₀ : Heap} {L NR : Addr} {m : Str → Option Value} {news : List (Addr × Obj)} {ys : List Value} {ps : List (Int × Str)} {Q : Value → Shared → Prop}
    (hh : A.handled = none) (hu : A.in1.units < cLine) (F : Fr h₀ L s.heap m) (N : News h₀ L s.heap news) (hm : (NR, LCg.lst ys) ∈ news) (hys : DatAll news ys (ps.map pairD)) (hne : 0 < ps.length)
    (h : ∀ a t u n h' tk', (a, ({ cls := .type "tuple", data := .seq #[.int (pAt ps (bestIx ps)).1 t, .str (pAt ps (bestIx ps)).2 u] n } : Obj)) ∈ news → Fr h₀ L h' m → News h₀ L h' news → Q (.ref a) { s with heap := h', toks := tk' }) :
    wpAny (model prog w) A (call (.builtin "min") [.ref NR]) Q E s := by
  have hl := datAll_len hys
  refine min_pairs (K := pAt ps) (vs := ys.toArray) hh hu (News.isList (items := ys.toArray) N hm) (by rw [List.size_toArray, hl]; exact hne) (fun i v hv => ?_) fun v h' tk hv k => ?_
  · obtain ⟨a, t, u, n, rfl, ha⟩ := pairs_get hys i v (by simpa using hv)
    exact ⟨a, t, u, rfl, _, (N _ ha).1, rfl, _, rfl⟩
  · rw [List.size_toArray, hl] at hv
    obtain ⟨a, t, u, n, rfl, ha⟩ := pairs_get hys _ v (by simpa using hv)
    exact h a t u n h' tk ha (Kept.fr k F) (Kept.news k N)
theorem pick_tup {prog : Program} {w : World} {A : Around} {E : Value → Shared → Prop} {s : Shared} {value slice : PySem.Expr} {h₀ : Heap} {L l : Addr} {news : List (Addr × Obj)} {x : Int} {y : Str} {t u : Tok} {n : Nat} {v : Tok} {Q : Value → Shared → Prop}
    (N : News h₀ L s.heap news) (hm : (l, ({ cls := .type "tuple", data := .seq #[.int x t, .str y u] n } : Obj)) ∈ news) (h : Q (.str y u) s)
    (hs : subscripted slice false (.ref l) (.int 1 v) = operate [.ref l, .int 1 v] (getItem (.ref l) (.int 1 v)) := by with_unfolding_all rfl) :
    wpAny (model prog w) A (subscriptTail value slice (.ref l) (.int 1 v)) Q E s :=
  item_tupleT (l := [.int x t, .str y u]) (j := 1) ⟨_, (N _ hm).1, rfl, _, rfl⟩ (by decide) (by decide) rfl rfl h hs
end Mine
end
section
theorem Mine.rstT7 {M : PySem.Model} {A : PySem.Around} {pos : PySem.Pos} {env : PySem.Env} {Q : PySem.Flow → PySem.Shared → Prop} {E : PySem.Value → PySem.Shared → Prop} {s : PySem.Shared} (h : PySem.wpAny M A (PySem.exec (.Pass pos) env) Q E s) : PySem.wpAny M A (PySem.exec (.Pass pos) env) Q E s := by
  w_top off
  k_with_none
  first | (walk1; fail) | exact h
open PySem PySem.W PyProof.Rows PySem.Calls PyProof.V PySem.Spec
set_option Elab.async false
set_option linter.unusedVariables false
set_option maxRecDepth 100000
set_option maxHeartbeats 8000000
namespace Mine
section
variable {w : World} {loose : List Str} {mean : ExcName → Option Value} {mg mb : Str → Option Value} {dp un : Nat} {gd : Option (List Code)} {cn : Str} {cs : Scope} {Lc ac : Addr} {ccd : Value} {cl : List (Str × Addr)} {outer : List Env}
    {g : Heap} {L : Addr} {s : Shared} {m : Str → Option Value} {news : List (Addr × Obj)} {Q E : Value → Shared → Prop}
theorem dec1_use {tx : Tok} (X : (Mine.hd.heap_39 w.params).In g) (T : Top Mine.hd.view_39 loose mean mg mb g) (F : Fr g L s.heap m) (N : News g L s.heap news) (hd : dp + 12 < recursionLimit) (hu : un + 120 < cLine)
    (h : ∀ (t : Tok) h' tk', Fr g L h' m → News g L h' news → Q (.bytes #[129, 164, 7] t) { s with heap := h', toks := tk' }) :
    wpAny (model PySem.Challenge.rw_pa0071_01.row.prog w) (ktrTop dp un gd cn cs Lc ac ccd cl outer) (call (.ref 102) [.str (Str.ofString "gaQH") tx]) Q E s :=
  dec1_call (X.keeps F.keep) (T.keeps F.keep) hd hu fun t h' tk' k => h t h' tk' (k.fr F) (k.news N)
theorem dec2_use {tx : Tok} (X : (Mine.hd.heap_39 w.params).In g) (T : Top Mine.hd.view_39 loose mean mg mb g) (F : Fr g L s.heap m) (N : News g L s.heap news) (hd : dp + 12 < recursionLimit) (hu : un + 120 < cLine)
    (h : ∀ (t : Tok) h' tk', Fr g L h' m → News g L h' news → Q (.bytes #[65, 237, 77] t) { s with heap := h', toks := tk' }) :
    wpAny (model PySem.Challenge.rw_pa0071_01.row.prog w) (ktrTop dp un gd cn cs Lc ac ccd cl outer) (call (.ref 102) [.str (Str.ofString "Qe1N") tx]) Q E s :=
  dec2_call (X.keeps F.keep) (T.keeps F.keep) hd hu fun t h' tk' k => h t h' tk' (k.fr F) (k.news N)
theorem dec3_use {tx : Tok} (X : (Mine.hd.heap_39 w.params).In g) (T : Top Mine.hd.view_39 loose mean mg mb g) (F : Fr g L s.heap m) (N : News g L s.heap news) (hd : dp + 12 < recursionLimit) (hu : un + 120 < cLine)
    (h : ∀ (t : Tok) h' tk', Fr g L h' m → News g L h' news → Q (.bytes #[169, 255, 147] t) { s with heap := h', toks := tk' }) :
    wpAny (model PySem.Challenge.rw_pa0071_01.row.prog w) (ktrTop dp un gd cn cs Lc ac ccd cl outer) (call (.ref 102) [.str (Str.ofString "qf+T") tx]) Q E s :=
  dec3_call (X.keeps F.keep) (T.keeps F.keep) hd hu fun t h' tk' k => h t h' tk' (k.fr F) (k.news N)
theorem dec4_use {tx : Tok} (X : (Mine.hd.heap_39 w.params).In g) (T : Top Mine.hd.view_39 loose mean mg mb g) (F : Fr g L s.heap m) (N : News g L s.heap news) (hd : dp + 12 < recursionLimit) (hu : un + 120 < cLine)
    (h : ∀ (t : Tok) h' tk', Fr g L h' m → News g L h' news → Q (.bytes #[19, 128, 217] t) { s with heap := h', toks := tk' }) :
    wpAny (model PySem.Challenge.rw_pa0071_01.row.prog w) (ktrTop dp un gd cn cs Lc ac ccd cl outer) (call (.ref 102) [.str (Str.ofString "E4DZ") tx]) Q E s :=
  dec4_call (X.keeps F.keep) (T.keeps F.keep) hd hu fun t h' tk' k => h t h' tk' (k.fr F) (k.news N)
end
def texts4 : List Str := [Str.ofString "gaQH", Str.ofString "Qe1N", Str.ofString "qf+T", Str.ofString "E4DZ"]
def pairsOf (word : Str) : List (Int × Str) := texts4.map fun x => (D sc (tl word) (tl x), x)
def modeS (j : Nat) : Str := [Str.ofString "-rw-r--r--", Str.ofString "drwxr-xr-x", Str.ofString "lrwsrwxrwx", Str.ofString "prw------T"].getD j ⟨#[]⟩
def octI (j : Nat) : Int := [7, 77, 147, 217].getD j 0
def rowD (n : Int) : Dat :=
  .list [.str (wordOf texts4 n), .list ((pairsOf (wordOf texts4 n)).map pairD), .list (texts4.map fun x => Dat.int (bnd (n.fmod 7) (D sc (tl (wordOf texts4 n)) (tl x)))), .str (modeS (bestIx (pairsOf (wordOf texts4 n)))), .int (octI (bestIx (pairsOf (wordOf texts4 n)))), .int 3]
theorem best_cases (word : Str) : (bestIx (pairsOf word) = 0 ∧ (pAt (pairsOf word) (bestIx (pairsOf word))).2 = Str.ofString "gaQH") ∨ (bestIx (pairsOf word) = 1 ∧ (pAt (pairsOf word) (bestIx (pairsOf word))).2 = Str.ofString "Qe1N") ∨
    (bestIx (pairsOf word) = 2 ∧ (pAt (pairsOf word) (bestIx (pairsOf word))).2 = Str.ofString "qf+T") ∨ (bestIx (pairsOf word) = 3 ∧ (pAt (pairsOf word) (bestIx (pairsOf word))).2 = Str.ofString "E4DZ") := by
  have h : bestIx (pairsOf word) ≤ 3 := argBest_le _ 3
  generalize bestIx (pairsOf word) = j at h
  have hj : j = 0 ∨ j = 1 ∨ j = 2 ∨ j = 3 := by omega
  rcases hj with rfl | rfl | rfl | rfl
  · exact .inl ⟨rfl, rfl⟩
  · exact .inr (.inl ⟨rfl, rfl⟩)
  · exact .inr (.inr (.inl ⟨rfl, rfl⟩))
  · exact .inr (.inr (.inr ⟨rfl, rfl⟩))
section
theorem tail_stmt {w : World} {loose : List Str} {mean : ExcName → Option Value} {mg mb : Str → Option Value} {dp un : Nat} {gd : Option (List Code)} {cn : Str} {cs : Scope} {Lc ac : Addr} {ccd : Value} {cl : List (Str × Addr)} {outer : List Env}
    {g : Heap} {L : Addr} {s : Shared} {m : Str → Option Value} {Q : Flow → Shared → Prop} {E : Value → Shared → Prop}
    {nm qual : Str} {params : Arguments} {body bd oe sts : List Stmt} {tg1 it1 : Expr} {ps1 : Pos} {scope : Scope} {dV kV doc pm cdv ct oc : Value} {an od : Option Addr} {osl : Array (Option Value)}
    {n : Int} {tw : Tok} {TD NR BR TX : Addr} {vs : Array Value} {k : Nat} {ys bs : List Value} {ow : Obj} {rest : List (Addr × Obj)} {adr : List Addr} {word : Str}
    (hK : (Mine.hd.heap_39 w.params).lookup 175 = some ⟨oc, od, .func (fnOf nm qual params body scope dV kV doc pm an cdv ct), osl⟩)
    (hst0 : body[2]? = some (.For tg1 it1 bd oe ps1)) (hst : bd.drop 3 = sts)
    (X : (Mine.hd.heap_39 w.params).In g) (T : Top Mine.hd.view_39 loose mean mg mb g) (hd : dp + 32 < recursionLimit) (hu : un + 320 < cLine)
    (F : Fr g L s.heap m) (N : News g L s.heap ((TD, W.listOf vs k) :: (L + 1 + 1, ow) :: rest)) (hlt : @LT.lt Nat _ (L + 1 + 1) TD) (hoff : OwnOff rest (TD :: adr)) (hvs : vs.size ≤ 100)
    (dw : ow.data = .cell (some (.str word tw))) (hnr : (NR, LCg.lst ys) ∈ (TD, W.listOf vs k) :: (L + 1 + 1, ow) :: rest) (hys : DatAll ((TD, W.listOf vs k) :: (L + 1 + 1, ow) :: rest) ys ((pairsOf word).map pairD))
    (h1 : m (Str.ofString "texts") = some (.ref TX)) (h2 : m (Str.ofString "told") = some (.ref TD)) (h3 : m (Str.ofString "near") = some (.ref NR)) (h4 : m (Str.ofString "bounded") = some (.ref BR))
    (hQ : ∀ RW vw t1 t2 t3 k1 k' h' tk' m', Fr g L h' m' → News g L h' ((RW, W.listOf #[.str word vw, .ref NR, .ref BR, .str (modeS (bestIx (pairsOf word))) t1, .int (octI (bestIx (pairsOf word))) t2, .int 3 t3] k1) :: (TD, W.listOf (vs.push (.ref RW)) k') :: (L + 1 + 1, ow) :: rest) →
      AllLt RW ((TD, W.listOf vs k) :: (L + 1 + 1, ow) :: rest) → m' (Str.ofString "texts") = some (.ref TX) → m' (Str.ofString "told") = some (.ref TD) → Q .next { s with heap := h', toks := tk' }) :
    wpAny (model PySem.Challenge.rw_pa0071_01.row.prog w) ((ktrTop dp un gd cn cs Lc ac ccd cl outer).deeper (envOfC qual scope L 175 cdv)) (execs sts (envOfC qual scope L 175 cdv)) Q E s := by
  k_with_none
  k_with "own" => (k_here; (with_reducible show wpAny _ _ (call (Value.builtin "min") [Value.ref _]) _ _ _); k_dflt (refine' min_use rfl ?ku ?k3 ?k4 ?km ?kd ?kn ?_; (case k3 => k_asm); (case k4 => k_asm); (case km => with_reducible assumption); (case kd => with_reducible assumption); (case ku => ktr_units); (case kn => exact Nat.succ_pos 3)); intro _ _ _ _ _ _ _ _ _; (try dsimp only); (try k_fold))
  k_with "own" => (k_here; (with_reducible show wpAny _ _ (subscriptTail _ _ (Value.ref _) (Value.int 1 _)) _ _ _); k_dflt (refine' pick_tup ?k1 ?k2 ?_ ?k5; (case k1 => k_asm); (case k2 => with_reducible assumption); (case k5 => with_unfolding_all rfl); k_whole))
  refine wpAny_mono (E := fun _ _ => False) ?_ (fun _ _ x => x) (fun _ _ x => x.elim)
  revert X; k_fill; intro X
  have e := lookEq (by k_is) hK
  clear hK
  cases e
  cases hst0
  subst hst
  have hpins : ∀ p ∈ [(Str.ofString "texts", Value.ref TX), (Str.ofString "told", .ref TD), (Str.ofString "near", .ref NR), (Str.ofString "bounded", .ref BR)], m p.1 = some p.2 := allC h1 (allC h2 (allC h3 (all1 h4)))
  have F4 := pinAll _ F hpins
  clear F h1 h2 h3 h4 hpins
  dsimp only [pinL] at F4
  dsimp only [List.drop]
  repeat' ((fail_if_success (with_reducible show wpAny _ _ (call (Value.ref 102) _ _) _ _ _)); (first | (k_unfold; (try dsimp only)) | (k_end; wrow_close) | k_extra "own" | walk1 | (dsimp only; k_extra "own") | (dsimp only; walk1) | (leave1; walk_say "STEP leave1"; try dsimp only)))
  rcases best_cases word with ⟨e1, e2⟩ | ⟨e1, e2⟩ | ⟨e1, e2⟩ | ⟨e1, e2⟩
  · rw [e2]
    rw [e1] at hQ
    clear e1 e2 hys
    rename Fr _ _ _ _ => F5
    rename News _ _ _ _ => N5
    k_dflt (refine' dec1_use X T F5 N5 ?kd ?ku ?_)
    case kd => ((try simp only [depth_deeper]); (try dsimp only [ktrTop]); omega)
    case ku => ((try simp only [units_deeper]); (try dsimp only [ktrTop]); omega)
    intro t9 h9 tk9 F9 N9
    clear F5 N5 F4 N
    (try dsimp only); (try k_fold)
    repeat' ((fail_if_success (with_reducible show wpAny _ _ (call (Value.ref 149) _ _) _ _ _)); (first | (k_unfold; (try dsimp only)) | (k_end; wrow_close) | k_extra "own" | walk1 | (dsimp only; k_extra "own") | (dsimp only; walk1) | (leave1; walk_say "STEP leave1"; try dsimp only)))
    rename Fr _ _ _ _ => F6
    rename News _ _ _ _ => N6
    k_dflt (refine' fm_use (n := 33188) _ X T F6 N6 ?kd ?ku fm_1.1 fm_1.2 ?_)
    case kd => ((try simp only [depth_deeper]); (try dsimp only [ktrTop]); omega)
    case ku => ((try simp only [units_deeper]); (try dsimp only [ktrTop]); omega)
    intro t8 h8 tk8 F8 N8
    clear F6 N6
    (try dsimp only); (try k_fold)
    repeat' (first | (k_unfold; (try dsimp only)) | (k_end; wrow_close) | k_extra "own" | walk1 | (dsimp only; k_extra "own") | (dsimp only; walk1) | (leave1; walk_say "STEP leave1"; try dsimp only) | fail "no step")
    rename Fr _ _ _ _ => F7
    rename News _ _ _ _ => N7
    rename (_ ∧ _ ∧ AllLt _ _) => l1
    exact hQ _ _ _ _ _ _ _ _ _ _ F7 N7 l1 (by with_unfolding_all rfl) (by with_unfolding_all rfl)
  · rw [e2]
    rw [e1] at hQ
    clear e1 e2 hys
    rename Fr _ _ _ _ => F5
    rename News _ _ _ _ => N5
    k_dflt (refine' dec2_use X T F5 N5 ?kd ?ku ?_)
    case kd => ((try simp only [depth_deeper]); (try dsimp only [ktrTop]); omega)
    case ku => ((try simp only [units_deeper]); (try dsimp only [ktrTop]); omega)
    intro t9 h9 tk9 F9 N9
    clear F5 N5 F4 N
    (try dsimp only); (try k_fold)
    repeat' ((fail_if_success (with_reducible show wpAny _ _ (call (Value.ref 149) _ _) _ _ _)); (first | (k_unfold; (try dsimp only)) | (k_end; wrow_close) | k_extra "own" | walk1 | (dsimp only; k_extra "own") | (dsimp only; walk1) | (leave1; walk_say "STEP leave1"; try dsimp only)))
    rename Fr _ _ _ _ => F6
    rename News _ _ _ _ => N6
    k_dflt (refine' fm_use (n := 16877) _ X T F6 N6 ?kd ?ku fm_2.1 fm_2.2 ?_)
    case kd => ((try simp only [depth_deeper]); (try dsimp only [ktrTop]); omega)
    case ku => ((try simp only [units_deeper]); (try dsimp only [ktrTop]); omega)
    intro t8 h8 tk8 F8 N8
    clear F6 N6
    (try dsimp only); (try k_fold)
    repeat' (first | (k_unfold; (try dsimp only)) | (k_end; wrow_close) | k_extra "own" | walk1 | (dsimp only; k_extra "own") | (dsimp only; walk1) | (leave1; walk_say "STEP leave1"; try dsimp only) | fail "no step")
    rename Fr _ _ _ _ => F7
    rename News _ _ _ _ => N7
    rename (_ ∧ _ ∧ AllLt _ _) => l1
    exact hQ _ _ _ _ _ _ _ _ _ _ F7 N7 l1 (by with_unfolding_all rfl) (by with_unfolding_all rfl)
  · rw [e2]
    rw [e1] at hQ
    clear e1 e2 hys
    rename Fr _ _ _ _ => F5
    rename News _ _ _ _ => N5
    k_dflt (refine' dec3_use X T F5 N5 ?kd ?ku ?_)
    case kd => ((try simp only [depth_deeper]); (try dsimp only [ktrTop]); omega)
    case ku => ((try simp only [units_deeper]); (try dsimp only [ktrTop]); omega)
    intro t9 h9 tk9 F9 N9
    clear F5 N5 F4 N
    (try dsimp only); (try k_fold)
    repeat' ((fail_if_success (with_reducible show wpAny _ _ (call (Value.ref 149) _ _) _ _ _)); (first | (k_unfold; (try dsimp only)) | (k_end; wrow_close) | k_extra "own" | walk1 | (dsimp only; k_extra "own") | (dsimp only; walk1) | (leave1; walk_say "STEP leave1"; try dsimp only)))
    rename Fr _ _ _ _ => F6
    rename News _ _ _ _ => N6
    k_dflt (refine' fm_use (n := 43519) _ X T F6 N6 ?kd ?ku fm_3.1 fm_3.2 ?_)
    case kd => ((try simp only [depth_deeper]); (try dsimp only [ktrTop]); omega)
    case ku => ((try simp only [units_deeper]); (try dsimp only [ktrTop]); omega)
    intro t8 h8 tk8 F8 N8
    clear F6 N6
    (try dsimp only); (try k_fold)
    repeat' (first | (k_unfold; (try dsimp only)) | (k_end; wrow_close) | k_extra "own" | walk1 | (dsimp only; k_extra "own") | (dsimp only; walk1) | (leave1; walk_say "STEP leave1"; try dsimp only) | fail "no step")
    rename Fr _ _ _ _ => F7
    rename News _ _ _ _ => N7
    rename (_ ∧ _ ∧ AllLt _ _) => l1
    exact hQ _ _ _ _ _ _ _ _ _ _ F7 N7 l1 (by with_unfolding_all rfl) (by with_unfolding_all rfl)
  · rw [e2]
    rw [e1] at hQ
    clear e1 e2 hys
    rename Fr _ _ _ _ => F5
    rename News _ _ _ _ => N5
    k_dflt (refine' dec4_use X T F5 N5 ?kd ?ku ?_)
    case kd => ((try simp only [depth_deeper]); (try dsimp only [ktrTop]); omega)
    case ku => ((try simp only [units_deeper]); (try dsimp only [ktrTop]); omega)
    intro t9 h9 tk9 F9 N9
    clear F5 N5 F4 N
    (try dsimp only); (try k_fold)
    repeat' ((fail_if_success (with_reducible show wpAny _ _ (call (Value.ref 149) _ _) _ _ _)); (first | (k_unfold; (try dsimp only)) | (k_end; wrow_close) | k_extra "own" | walk1 | (dsimp only; k_extra "own") | (dsimp only; walk1) | (leave1; walk_say "STEP leave1"; try dsimp only)))
    rename Fr _ _ _ _ => F6
    rename News _ _ _ _ => N6
    k_dflt (refine' fm_use (n := 4992) _ X T F6 N6 ?kd ?ku fm_4.1 fm_4.2 ?_)
    case kd => ((try simp only [depth_deeper]); (try dsimp only [ktrTop]); omega)
    case ku => ((try simp only [units_deeper]); (try dsimp only [ktrTop]); omega)
    intro t8 h8 tk8 F8 N8
    clear F6 N6
    (try dsimp only); (try k_fold)
    repeat' (first | (k_unfold; (try dsimp only)) | (k_end; wrow_close) | k_extra "own" | walk1 | (dsimp only; k_extra "own") | (dsimp only; walk1) | (leave1; walk_say "STEP leave1"; try dsimp only) | fail "no step")
    rename Fr _ _ _ _ => F7
    rename News _ _ _ _ => N7
    rename (_ ∧ _ ∧ AllLt _ _) => l1
    exact hQ _ _ _ _ _ _ _ _ _ _ F7 N7 l1 (by with_unfolding_all rfl) (by with_unfolding_all rfl)
end
end Mine
end
section
theorem Mine.rstT8 {M : PySem.Model} {A : PySem.Around} {pos : PySem.Pos} {env : PySem.Env} {Q : PySem.Flow → PySem.Shared → Prop} {E : PySem.Value → PySem.Shared → Prop} {s : PySem.Shared} (h : PySem.wpAny M A (PySem.exec (.Pass pos) env) Q E s) : PySem.wpAny M A (PySem.exec (.Pass pos) env) Q E s := by
  w_top off
  k_with_none
  first | (walk1; fail) | exact h
open PySem PySem.W PyProof.Rows PySem.Calls PyProof.V PySem.Spec
set_option Elab.async false
set_option linter.unusedVariables false
set_option maxRecDepth 100000
set_option maxHeartbeats 8000000
namespace Mine
theorem texts4_len : ∀ x ∈ texts4, x.length ≤ 4 := by decide +kernel
theorem texts4_len10 : ∀ x ∈ texts4, x.length ≤ 10 := fun x h => Nat.le_trans (texts4_len x h) (by decide)
theorem allLt_mem {d : Nat} : ∀ {l : List (Addr × Obj)}, AllLt d l → ∀ p ∈ l, @LT.lt Nat _ p.1 d
  | [], _, _, h => nomatch h
  | _ :: _, x, p, h => by
    rcases List.mem_cons.mp h with rfl | h
    · exact x.1
    · exact allLt_mem x.2 p h
theorem off1_mem {d : Addr} : ∀ {l : List (Addr × Obj)}, LCg.Off1 d l → ∀ p ∈ l, @Ne Nat p.1 d
  | [], _, _, h => nomatch h
  | _ :: _, x, p, h => by
    rcases List.mem_cons.mp h with rfl | h
    · exact x.1
    · exact off1_mem x.2 p h
theorem lt_ne' {a b : Nat} (h : a < b) : b ≠ a := Nat.ne_of_gt h
theorem told_turn {w : World} {loose : List Str} {mean : ExcName → Option Value} {mg mb : Str → Option Value} {dp un : Nat} {gd : Option (List Code)} {cn : Str} {cs : Scope} {Lc ac : Addr} {ccd : Value} {cl : List (Str × Addr)} {outer : List Env}
    {g : Heap} {L : Addr} {s : Shared} {m : Str → Option Value} {Q : Flow → Shared → Prop} {E : Value → Shared → Prop}
    {nm qual : Str} {params : Arguments} {body bd oe : List Stmt} {tg1 it1 : Expr} {ps1 : Pos} {scope : Scope} {dV kV doc pm cdv ct oc : Value} {an od : Option Addr} {osl : Array (Option Value)}
    {n : Int} {tn : Tok} {TD TX : Addr} {vs : Array Value} {k : Nat} {txs : List Value} {ow on : Obj} {own : List (Addr × Obj)} {vw : Option Value}
    (hK : (Mine.hd.heap_39 w.params).lookup 175 = some ⟨oc, od, .func (fnOf nm qual params body scope dV kV doc pm an cdv ct), osl⟩)
    (hst0 : body[2]? = some (.For tg1 it1 bd oe ps1))
    (X : (Mine.hd.heap_39 w.params).In g) (T : Top Mine.hd.view_39 loose mean mg mb g) (hd : dp + 32 < recursionLimit) (hu : un + 320 < cLine)
    (F : Fr g L s.heap m) (N : News g L s.heap ((L + 1 + 1, ow) :: (L + 1, on) :: (TX, LCg.lst txs) :: (TD, W.listOf vs k) :: own)) (hlt : @Ne Nat TX (L + 1 + 1)) (hlt2 : @LT.lt Nat _ TX TD) (hlt3 : @LT.lt Nat _ (L + 1 + 1) TD) (hoff : OwnOff own [L + 1 + 1, L + 1, TX, TD]) (hvs : vs.size ≤ 100)
    (dw : ow.data = .cell vw) (dn : on.data = .cell (some (.int n tn))) (htx : StrsAre txs texts4)
    (h1 : m (Str.ofString "texts") = some (.ref TX)) (h2 : m (Str.ofString "told") = some (.ref TD))
    (hQ : ∀ ow' nw RW k' h' tk' m', Fr g L h' m' → News g L h' ((L + 1 + 1, ow') :: (L + 1, on) :: (TX, LCg.lst txs) :: (TD, W.listOf (vs.push (.ref RW)) k') :: (nw ++ own)) → (∃ v, ow'.data = .cell v) →
      (∀ p ∈ nw, ∀ q ∈ (L + 1 + 1, ow) :: (L + 1, on) :: (TX, LCg.lst txs) :: (TD, W.listOf vs k) :: own, p.1 ≠ q.1) → DatIn nw (.ref RW) (rowD n) → m' (Str.ofString "texts") = some (.ref TX) → m' (Str.ofString "told") = some (.ref TD) → Q .next { s with heap := h', toks := tk' }) :
    wpAny (model PySem.Challenge.rw_pa0071_01.row.prog w) ((ktrTop dp un gd cn cs Lc ac ccd cl outer).deeper (envOfC qual scope L 175 cdv)) (execs bd (envOfC qual scope L 175 cdv)) Q E s := by
  refine wpAny_mono (E := fun _ _ => False) ?_ (fun _ _ x => x) (fun _ _ x => x.elim)
  revert X; k_fill; intro X
  have e := lookEq (by k_is) hK
  clear hK
  cases e
  cases hst0
  repeat' ((fail_if_success (with_reducible show wpAny _ _ (exec _ _) _ _ _)); (first | (k_unfold; (try dsimp only)) | walk1 | (dsimp only; walk1)))
  have hoff0 : OwnOff ((TD, W.listOf vs k) :: own) ((L + 1 + 1) :: []) := by
    intro p hp b hb
    rcases List.mem_singleton.mp hb with rfl
    rcases List.mem_cons.mp hp with rfl | hp
    · exact lt_ne' hlt3
    · exact hoff p hp _ (.head _)
  k_dflt (refine' word_stmt ?hK ?hst0 ?hst X T ?hd ?hu F N hlt hoff0 dw dn htx rfl h1 texts4_len ?_)
  case hK => k_is
  case hst0 => rfl
  case hst => rfl
  case hd => omega
  case hu => omega
  intro t9 ow9 h9 tk9 F9 N9 d9 l9
  dsimp only
  repeat' ((fail_if_success (with_reducible show wpAny _ _ (exec _ _) _ _ _)); (first | (k_unfold; (try dsimp only)) | walk1 | (dsimp only; walk1)))
  k_dflt (refine' near_stmt (xs := texts4) ?hK ?hst0 ?hst X T ?hd ?hu F9 N9 (.head _) d9 (.tail _ (.tail _ (.head _))) htx h1 l9 texts4_len10 ?hz ?_)
  case hK => k_is
  case hst0 => rfl
  case hst => rfl
  case hd => omega
  case hu => omega
  case hz => (rw [strs_len htx]; decide)
  intro NR ys nw h8 tk8 F8 N8 hys8 o8 gt8
  dsimp only
  repeat' ((fail_if_success (with_reducible show wpAny _ _ (exec _ _) _ _ _)); (first | (k_unfold; (try dsimp only)) | walk1 | (dsimp only; walk1)))
  k_dflt (refine' bounded_stmt (xs := texts4) ?hK ?hst0 ?hst X T ?hd ?hu F8 N8 (.tail _ (List.mem_append_right _ (.head _))) d9 (.tail _ (List.mem_append_right _ (.tail _ (.head _)))) dn (.tail _ (List.mem_append_right _ (.tail _ (.tail _ (.head _))))) htx ?h1 l9 texts4_len10 ?hz ?_)
  case hK => k_is
  case hst0 => rfl
  case hst => rfl
  case hd => omega
  case hu => omega
  case h1 => (show (if _ then _ else _) = _; rw [if_neg (by decide)]; exact h1)
  case hz => (rw [strs_len htx]; decide)
  intro BR bs h7 tk7 F7 N7 hys7 o7
  dsimp only
  have N6 : News g L h7 ((TD, W.listOf vs k) :: (L + 1 + 1, ow9) :: ((BR, LCg.lst bs) :: (NR, LCg.lst ys) :: (nw ++ ((L + 1, on) :: (TX, LCg.lst txs) :: own)))) := kst_newsOf N7 (by repeat' (first | with_reducible exact sub_nil | with_reducible refine sub_cons ?_ ?_ | with_reducible refine sub_app ?_ ?_ | (first | with_reducible assumption | with_reducible exact List.mem_cons_self | with_reducible refine List.mem_cons_of_mem _ ?_ | exact List.mem_append_left _ (by with_reducible assumption) | exact List.mem_append_left _ (List.mem_cons_of_mem _ (by with_reducible assumption)) | exact List.mem_append_left _ (List.mem_cons_of_mem _ (List.mem_cons_of_mem _ (by with_reducible assumption))) | exact List.mem_append_left _ (List.mem_cons_of_mem _ (List.mem_cons_of_mem _ (List.mem_cons_of_mem _ (by with_reducible assumption)))) | exact List.mem_append_left _ List.mem_cons_self | exact List.mem_append_left _ (List.mem_cons_of_mem _ List.mem_cons_self) | exact List.mem_append_left _ (List.mem_cons_of_mem _ (List.mem_cons_of_mem _ List.mem_cons_self)) | with_reducible refine List.mem_append_right _ ?_) | intro p hp))
  have offR : OwnOff ((BR, LCg.lst bs) :: (NR, LCg.lst ys) :: (nw ++ ((L + 1, on) :: (TX, LCg.lst txs) :: own))) (TD :: []) := by
    intro p hp b hb
    rw [List.mem_singleton.mp hb]
    rcases List.mem_cons.mp hp with rfl | hp
    · exact Ne.symm (off1_mem o7 (TD, W.listOf vs k) (by simp))
    rcases List.mem_cons.mp hp with rfl | hp
    · exact Ne.symm (off1_mem o8 (TD, W.listOf vs k) (by simp))
    rcases List.mem_append.mp hp with hp | hp
    · exact lt_ne' (allLt_mem (gt8 p hp) (TD, W.listOf vs k) (by simp))
    rcases List.mem_cons.mp hp with rfl | hp
    · exact Nat.ne_of_lt (Nat.lt_trans (Nat.lt_succ_self _) hlt3)
    rcases List.mem_cons.mp hp with rfl | hp
    · exact Nat.ne_of_lt hlt2
    · exact hoff p hp _ (by simp)
  k_dflt (refine' tail_stmt (n := n) (bs := []) (TX := TX) (NR := NR) (BR := BR) (word := wordOf texts4 n) ?hK ?hst0 ?hst X T hd hu F7 N6 hlt3 offR hvs d9 ?hnr ?hys ?h1 ?h2 ?h3 ?h4 ?_)
  case hK => k_is
  case hst0 => rfl
  case hst => rfl
  case hnr => exact .tail _ (.tail _ (.tail _ (.head _)))
  case hys =>
    have e : (pairsOf (wordOf texts4 n)).map pairD = texts4.map fun x => Dat.tuple [.int (D sc (tl (wordOf texts4 n)) (tl x)), .str x] := by
      unfold pairsOf; rw [List.map_map]; rfl
    rw [e]
    exact hys8.mono fun p hp => .tail _ (.tail _ (.tail _ (.tail _ (List.mem_append_left _ hp))))
  case h1 => (show (if _ then _ else if _ then _ else _) = _; rw [if_neg (by decide), if_neg (by decide)]; exact h1)
  case h2 => (show (if _ then _ else if _ then _ else _) = _; rw [if_neg (by decide), if_neg (by decide)]; exact h2)
  case h3 => with_unfolding_all rfl
  case h4 => with_unfolding_all rfl
  intro RW vw' t1 t2 t3 k1 k' h5 tk5 m5 F5 N5 l5 e1 e2
  refine hQ ow9 ((RW, W.listOf #[.str (wordOf texts4 n) vw', .ref NR, .ref BR, .str (modeS (bestIx (pairsOf (wordOf texts4 n)))) t1, .int (octI (bestIx (pairsOf (wordOf texts4 n)))) t2, .int 3 t3] k1) :: (BR, LCg.lst bs) :: (NR, LCg.lst ys) :: nw) RW k' h5 tk5 m5 F5 (kst_newsOf N5 (fun p hp => ?_)) ⟨_, d9⟩ ?_ ?_ e1 e2
  · exact memOf (by repeat' (first | with_reducible exact sub_nil | with_reducible refine sub_cons ?_ ?_ | with_reducible refine sub_app ?_ ?_ | (first | with_reducible assumption | with_reducible exact List.mem_cons_self | with_reducible refine List.mem_cons_of_mem _ ?_ | exact List.mem_append_left _ (by with_reducible assumption) | exact List.mem_append_left _ (List.mem_cons_of_mem _ (by with_reducible assumption)) | exact List.mem_append_left _ (List.mem_cons_of_mem _ (List.mem_cons_of_mem _ (by with_reducible assumption))) | exact List.mem_append_left _ (List.mem_cons_of_mem _ (List.mem_cons_of_mem _ (List.mem_cons_of_mem _ (by with_reducible assumption)))) | exact List.mem_append_left _ List.mem_cons_self | exact List.mem_append_left _ (List.mem_cons_of_mem _ List.mem_cons_self) | exact List.mem_append_left _ (List.mem_cons_of_mem _ (List.mem_cons_of_mem _ List.mem_cons_self)) | with_reducible refine List.mem_append_right _ ?_) | intro p hp)) hp
  · have l5' := allLt_mem l5
    have o7' := off1_mem o7
    have o8' := off1_mem o8
    intro p hp q hq
    have hq8 : q.1 ≠ NR := by
      rcases List.mem_cons.mp hq with rfl | hq
      · exact o8' (_, ow9) (by simp)
      · exact o8' q (memOf (by repeat' (first | with_reducible exact sub_nil | with_reducible refine sub_cons ?_ ?_ | with_reducible refine sub_app ?_ ?_ | (first | with_reducible assumption | with_reducible exact List.mem_cons_self | with_reducible refine List.mem_cons_of_mem _ ?_ | exact List.mem_append_left _ (by with_reducible assumption) | exact List.mem_append_left _ (List.mem_cons_of_mem _ (by with_reducible assumption)) | exact List.mem_append_left _ (List.mem_cons_of_mem _ (List.mem_cons_of_mem _ (by with_reducible assumption))) | exact List.mem_append_left _ (List.mem_cons_of_mem _ (List.mem_cons_of_mem _ (List.mem_cons_of_mem _ (by with_reducible assumption)))) | exact List.mem_append_left _ List.mem_cons_self | exact List.mem_append_left _ (List.mem_cons_of_mem _ List.mem_cons_self) | exact List.mem_append_left _ (List.mem_cons_of_mem _ (List.mem_cons_of_mem _ List.mem_cons_self)) | with_reducible refine List.mem_append_right _ ?_) | intro p hp)) hq)
    have hq7 : q.1 ≠ BR := by
      rcases List.mem_cons.mp hq with rfl | hq
      · exact o7' (_, ow9) (by simp)
      · exact o7' q (memOf (by repeat' (first | with_reducible exact sub_nil | with_reducible refine sub_cons ?_ ?_ | with_reducible refine sub_app ?_ ?_ | (first | with_reducible assumption | with_reducible exact List.mem_cons_self | with_reducible refine List.mem_cons_of_mem _ ?_ | exact List.mem_append_left _ (by with_reducible assumption) | exact List.mem_append_left _ (List.mem_cons_of_mem _ (by with_reducible assumption)) | exact List.mem_append_left _ (List.mem_cons_of_mem _ (List.mem_cons_of_mem _ (by with_reducible assumption))) | exact List.mem_append_left _ (List.mem_cons_of_mem _ (List.mem_cons_of_mem _ (List.mem_cons_of_mem _ (by with_reducible assumption)))) | exact List.mem_append_left _ List.mem_cons_self | exact List.mem_append_left _ (List.mem_cons_of_mem _ List.mem_cons_self) | exact List.mem_append_left _ (List.mem_cons_of_mem _ (List.mem_cons_of_mem _ List.mem_cons_self)) | with_reducible refine List.mem_append_right _ ?_) | intro p hp)) hq)
    have hq5 : @LT.lt Nat _ q.1 RW := by
      rcases List.mem_cons.mp hq with rfl | hq
      · exact l5' (_, ow9) (by simp)
      · exact l5' q (memOf (by repeat' (first | with_reducible exact sub_nil | with_reducible refine sub_cons ?_ ?_ | with_reducible refine sub_app ?_ ?_ | (first | with_reducible assumption | with_reducible exact List.mem_cons_self | with_reducible refine List.mem_cons_of_mem _ ?_ | exact List.mem_append_left _ (by with_reducible assumption) | exact List.mem_append_left _ (List.mem_cons_of_mem _ (by with_reducible assumption)) | exact List.mem_append_left _ (List.mem_cons_of_mem _ (List.mem_cons_of_mem _ (by with_reducible assumption))) | exact List.mem_append_left _ (List.mem_cons_of_mem _ (List.mem_cons_of_mem _ (List.mem_cons_of_mem _ (by with_reducible assumption)))) | exact List.mem_append_left _ List.mem_cons_self | exact List.mem_append_left _ (List.mem_cons_of_mem _ List.mem_cons_self) | exact List.mem_append_left _ (List.mem_cons_of_mem _ (List.mem_cons_of_mem _ List.mem_cons_self)) | with_reducible refine List.mem_append_right _ ?_) | intro p hp)) hq)
    rcases List.mem_cons.mp hp with rfl | hp
    · exact lt_ne' hq5
    rcases List.mem_cons.mp hp with rfl | hp
    · exact Ne.symm hq7
    rcases List.mem_cons.mp hp with rfl | hp
    · exact Ne.symm hq8
    · have g8 := allLt_mem (gt8 p hp)
      rcases List.mem_cons.mp hq with rfl | hq
      · exact lt_ne' (g8 (_, ow9) (by simp))
      · exact lt_ne' (g8 q (memOf (by repeat' (first | with_reducible exact sub_nil | with_reducible refine sub_cons ?_ ?_ | with_reducible refine sub_app ?_ ?_ | (first | with_reducible assumption | with_reducible exact List.mem_cons_self | with_reducible refine List.mem_cons_of_mem _ ?_ | exact List.mem_append_left _ (by with_reducible assumption) | exact List.mem_append_left _ (List.mem_cons_of_mem _ (by with_reducible assumption)) | exact List.mem_append_left _ (List.mem_cons_of_mem _ (List.mem_cons_of_mem _ (by with_reducible assumption))) | exact List.mem_append_left _ (List.mem_cons_of_mem _ (List.mem_cons_of_mem _ (List.mem_cons_of_mem _ (by with_reducible assumption)))) | exact List.mem_append_left _ List.mem_cons_self | exact List.mem_append_left _ (List.mem_cons_of_mem _ List.mem_cons_self) | exact List.mem_append_left _ (List.mem_cons_of_mem _ (List.mem_cons_of_mem _ List.mem_cons_self)) | with_reducible refine List.mem_append_right _ ?_) | intro p hp)) hq))
  · unfold rowD
    have e : (pairsOf (wordOf texts4 n)).map pairD = texts4.map fun x => Dat.tuple [.int (D sc (tl (wordOf texts4 n)) (tl x)), .str x] := by
      unfold pairsOf; rw [List.map_map]; rfl
    rw [e]
    refine .list (vs := [.str (wordOf texts4 n) vw', .ref NR, .ref BR, .str _ t1, .int _ t2, .int 3 t3]) (.head _) (.cons (.str _ _) (.cons ?_ (.cons ?_ (.cons (.str _ _) (.cons (.int _ _) (.cons (.int _ _) .nil))))))
    · exact .list (n := ys.length) (.tail _ (.tail _ (.head _))) (hys8.mono fun p hp => .tail _ (.tail _ (.tail _ hp)))
    · exact .list (n := bs.length) (.tail _ (.head _)) (hys7.mono fun p hp => absurd hp List.not_mem_nil)
end Mine
end
section
theorem Mine.rstT9 {M : PySem.Model} {A : PySem.Around} {pos : PySem.Pos} {env : PySem.Env} {Q : PySem.Flow → PySem.Shared → Prop} {E : PySem.Value → PySem.Shared → Prop} {s : PySem.Shared} (h : PySem.wpAny M A (PySem.exec (.Pass pos) env) Q E s) : PySem.wpAny M A (PySem.exec (.Pass pos) env) Q E s := by
  w_top off
  k_with_none
  first | (walk1; fail) | exact h
open PySem PySem.W PyProof.Rows PySem.Calls PyProof.V PySem.Spec
set_option Elab.async false
set_option linter.unusedVariables false
set_option linter.unusedSimpArgs false
set_option maxRecDepth 100000
set_option maxHeartbeats 8000000
namespace Mine
theorem ints_get : ∀ {vs : List Value} {ns : List Int}, IntsAre vs ns → ∀ (i : Nat) v, vs[i]? = some v → ∃ n t, v = .int n t ∧ ns[i]? = some n
  | _, _, .nil, _, _, h => by simp at h
  | _, _, .cons n t r, 0, v, h => by
    simp only [List.getElem?_cons_zero, Option.some.injEq] at h
    exact ⟨n, t, h.symm, rfl⟩
  | _, _, .cons n t r, i + 1, v, h => by
    rw [List.getElem?_cons_succ] at h ⊢
    exact ints_get r i v h
def LoopJ (L TX TD : Addr) (txs : List Value) (ns : List Int) (rowF : Int → Dat) (i : Nat) (m : Str → Option Value) (news : List (Addr × Obj)) : Prop :=
  m (Str.ofString "texts") = some (.ref TX) ∧ m (Str.ofString "told") = some (.ref TD) ∧ ∃ ow on vs k own, news = (L + 1 + 1, ow) :: (L + 1, on) :: (TX, LCg.lst txs) :: (TD, W.listOf vs k) :: own ∧ OwnOff own [L + 1 + 1, L + 1, TX, TD] ∧
    (∃ v, ow.data = .cell v) ∧ (∃ v, on.data = .cell v) ∧ vs.size = i + 1 ∧ DatAll ((TX, LCg.lst txs) :: own) vs.toList (Dat.list (texts4.map Dat.str) :: (ns.take i).map rowF)
theorem told_loop {w : World} {loose : List Str} {mean : ExcName → Option Value} {mg mb : Str → Option Value} {dp un : Nat} {gd : Option (List Code)} {cn : Str} {cs : Scope} {Lc ac : Addr} {ccd : Value} {cl : List (Str × Addr)} {outer : List Env}
    {g : Heap} {L : Addr} {s : Shared} {m : Str → Option Value} {Q : Flow → Shared → Prop} {E : Value → Shared → Prop}
    {nm qual : Str} {params : Arguments} {body : List Stmt} {st : Stmt} {scope : Scope} {dV kV doc pm cdv ct oc : Value} {an od : Option Addr} {osl : Array (Option Value)}
    {TD TX ST : Addr} {vs : Array Value} {k : Nat} {txs items : List Value} {ns : List Int} {ow on : Obj} {own : List (Addr × Obj)}
    (hK : (Mine.hd.heap_39 w.params).lookup 175 = some ⟨oc, od, .func (fnOf nm qual params body scope dV kV doc pm an cdv ct), osl⟩)
    (hst0 : body[2]? = some st)
    (X : (Mine.hd.heap_39 w.params).In g) (T : Top Mine.hd.view_39 loose mean mg mb g) (hd : dp + 32 < recursionLimit) (hu : un + 320 < cLine)
    (hS : g.IsList ST items.toArray) (hI : IntsAre items ns) (hlen : ns.length ≤ 64)
    (F : Fr g L s.heap m) (N : News g L s.heap ((L + 1 + 1, ow) :: (L + 1, on) :: (TX, LCg.lst txs) :: (TD, W.listOf vs k) :: own)) (hlt : @Ne Nat TX (L + 1 + 1)) (hltb : @Ne Nat TX (L + 1)) (hlt2 : @LT.lt Nat _ TX TD) (hlt3 : @LT.lt Nat _ (L + 1 + 1) TD)
    (h0 : LoopJ L TX TD txs ns rowD 0 m ((L + 1 + 1, ow) :: (L + 1, on) :: (TX, LCg.lst txs) :: (TD, W.listOf vs k) :: own))
    (htx : StrsAre txs texts4) (hs : m (Str.ofString "steps") = some (.ref ST))
    (hQ : ∀ vs k h' tk' m' news', Fr g L h' m' → News g L h' ((TD, W.listOf vs k) :: news') → m' (Str.ofString "told") = some (.ref TD) → DatAll news' vs.toList (Dat.list (texts4.map Dat.str) :: ns.map rowD) → Q .next { s with heap := h', toks := tk' }) :
    wpAny (model PySem.Challenge.rw_pa0071_01.row.prog w) ((ktrTop dp un gd cn cs Lc ac ccd cl outer).deeper (envOfC qual scope L 175 cdv)) (exec st (envOfC qual scope L 175 cdv)) Q E s := by
  refine wpAny_mono (E := fun _ _ => False) ?_ (fun _ _ x => x) (fun _ _ x => x.elim)
  revert X; k_fill; intro X
  have e := lookEq (by k_is) hK
  clear hK
  cases e
  cases hst0
  have il := hI.length
  k_dflt (refine' for_list ?hh hS (LoopJ L TX TD txs ns rowD) F N h0 ?he ?turn ?fin)
  case hh => rfl
  case he =>
    intro Q' hQ'
    have hpins : ∀ p ∈ [(Str.ofString "steps", Value.ref ST)], m p.1 = some p.2 := all1 hs
    have F4 := pinAll _ F hpins
    clear F hpins h0 hQ
    dsimp only [pinL] at F4
    repeat' (first | (k_unfold; (try dsimp only)) | walk1 | (dsimp only; walk1))
    exact hQ'
  case turn =>
    intro i v m₁ news₁ h tk it ito hv hJ F1 N1 hoff
    obtain ⟨j1, j2, ow, on, vs, k, own, rfl, joff, ⟨vw, jw⟩, ⟨vn, jn⟩, jz, jd⟩ := hJ
    obtain ⟨n, t, rfl, hn⟩ := ints_get hI i v (by simpa using hv)
    have hi : i < ns.length := (List.getElem?_eq_some_iff.mp hn).1
    have oi : OwnOff ((it, ito) :: own) [L + 1 + 1, L + 1, TX, TD] := by
      intro p hp b hb
      rcases List.mem_cons.mp hp with rfl | hp
      · simp only [List.mem_cons, List.not_mem_nil, or_false] at hb
        rcases hb with rfl | rfl | rfl | rfl
        · exact Ne.symm (hoff (_, ow) (by simp))
        · exact Ne.symm (hoff (_, on) (by simp))
        · exact Ne.symm (hoff (_, LCg.lst txs) (by simp))
        · exact Ne.symm (hoff (_, W.listOf vs k) (by simp))
      · exact joff p hp b hb
    have N2 : News g L h ((L + 1, on) :: (L + 1 + 1, ow) :: (TX, LCg.lst txs) :: (TD, W.listOf vs k) :: (it, ito) :: own) := kst_newsOf N1 (by repeat' (first | with_reducible exact sub_nil | with_reducible refine sub_cons ?_ ?_ | with_reducible refine sub_app ?_ ?_ | (first | with_reducible assumption | with_reducible exact List.mem_cons_self | with_reducible refine List.mem_cons_of_mem _ ?_ | exact List.mem_append_left _ (by with_reducible assumption) | exact List.mem_append_left _ (List.mem_cons_of_mem _ (by with_reducible assumption)) | exact List.mem_append_left _ (List.mem_cons_of_mem _ (List.mem_cons_of_mem _ (by with_reducible assumption))) | exact List.mem_append_left _ (List.mem_cons_of_mem _ (List.mem_cons_of_mem _ (List.mem_cons_of_mem _ (by with_reducible assumption)))) | exact List.mem_append_left _ List.mem_cons_self | exact List.mem_append_left _ (List.mem_cons_of_mem _ List.mem_cons_self) | exact List.mem_append_left _ (List.mem_cons_of_mem _ (List.mem_cons_of_mem _ List.mem_cons_self)) | with_reducible refine List.mem_append_right _ ?_) | intro p hp))
    refine wpAny_assign_Name (storeX_C (s := { s with heap := h, toks := tk }) F1 N2 rfl (UpdF.head (fun p hp => ?_)) jn (fun h' on' F' N' d' => ?_) rfl rfl)
    · rcases List.mem_cons.mp hp with rfl | hp
      · exact Nat.succ_ne_self _
      rcases List.mem_cons.mp hp with rfl | hp
      · exact hltb
      rcases List.mem_cons.mp hp with rfl | hp
      · exact lt_ne' (Nat.lt_trans (Nat.lt_succ_self _) hlt3)
      · exact oi p hp _ (by simp)
    have N3 : News g L h' ((L + 1 + 1, ow) :: (L + 1, on') :: (TX, LCg.lst txs) :: (TD, W.listOf vs k) :: (it, ito) :: own) := kst_newsOf N' (by repeat' (first | with_reducible exact sub_nil | with_reducible refine sub_cons ?_ ?_ | with_reducible refine sub_app ?_ ?_ | (first | with_reducible assumption | with_reducible exact List.mem_cons_self | with_reducible refine List.mem_cons_of_mem _ ?_ | exact List.mem_append_left _ (by with_reducible assumption) | exact List.mem_append_left _ (List.mem_cons_of_mem _ (by with_reducible assumption)) | exact List.mem_append_left _ (List.mem_cons_of_mem _ (List.mem_cons_of_mem _ (by with_reducible assumption))) | exact List.mem_append_left _ (List.mem_cons_of_mem _ (List.mem_cons_of_mem _ (List.mem_cons_of_mem _ (by with_reducible assumption)))) | exact List.mem_append_left _ List.mem_cons_self | exact List.mem_append_left _ (List.mem_cons_of_mem _ List.mem_cons_self) | exact List.mem_append_left _ (List.mem_cons_of_mem _ (List.mem_cons_of_mem _ List.mem_cons_self)) | with_reducible refine List.mem_append_right _ ?_) | intro p hp))
    dsimp only
    k_dflt (refine' told_turn ?hK ?hst0 X T hd hu F' N3 hlt hlt2 hlt3 oi ?hvs jw d' htx j1 j2 ?_)
    case hK => k_is
    case hst0 => rfl
    case hvs => omega
    intro ow' nw RW k' h2 tk2 m2 F2 N4 hw' hfr hdat e1 e2
    have hfr' : ∀ p ∈ nw, p.1 ≠ it := fun p hp => hfr p hp (it, ito) (by simp)
    refine ⟨h2, tk2, m2, (L + 1 + 1, ow') :: (L + 1, on') :: (TX, LCg.lst txs) :: (TD, W.listOf (vs.push (.ref RW)) k') :: (nw ++ own), rfl, F2, kst_newsOf N4 (fun p hp => ?_), fun p hp => ?_, e1, e2, ow', on', _, k', nw ++ own, rfl, ?_, hw', ⟨_, d'⟩, by simp [jz], ?_⟩
    · exact memOf (by repeat' (first | with_reducible exact sub_nil | with_reducible refine sub_cons ?_ ?_ | with_reducible refine sub_app ?_ ?_ | (first | with_reducible assumption | with_reducible exact List.mem_cons_self | with_reducible refine List.mem_cons_of_mem _ ?_ | exact List.mem_append_left _ (by with_reducible assumption) | exact List.mem_append_left _ (List.mem_cons_of_mem _ (by with_reducible assumption)) | exact List.mem_append_left _ (List.mem_cons_of_mem _ (List.mem_cons_of_mem _ (by with_reducible assumption))) | exact List.mem_append_left _ (List.mem_cons_of_mem _ (List.mem_cons_of_mem _ (List.mem_cons_of_mem _ (by with_reducible assumption)))) | exact List.mem_append_left _ List.mem_cons_self | exact List.mem_append_left _ (List.mem_cons_of_mem _ List.mem_cons_self) | exact List.mem_append_left _ (List.mem_cons_of_mem _ (List.mem_cons_of_mem _ List.mem_cons_self)) | with_reducible refine List.mem_append_right _ ?_) | intro p hp)) hp
    · rcases List.mem_cons.mp hp with rfl | hp
      · exact hoff (_, ow) (by simp)
      rcases List.mem_cons.mp hp with rfl | hp
      · exact hoff (_, on) (by simp)
      rcases List.mem_cons.mp hp with rfl | hp
      · exact hoff (_, LCg.lst txs) (by simp)
      rcases List.mem_cons.mp hp with rfl | hp
      · exact hoff (_, W.listOf vs k) (by simp)
      rcases List.mem_append.mp hp with hp | hp
      · exact hfr' p hp
      · exact hoff p (by simp [hp])
    · intro p hp b hb
      rcases List.mem_append.mp hp with hp | hp
      · have q := hfr p hp
        simp only [List.mem_cons, List.not_mem_nil, or_false] at hb
        rcases hb with rfl | rfl | rfl | rfl
        · exact q (_, ow) (by simp)
        · exact q (_, on') (by simp)
        · exact q (_, LCg.lst txs) (by simp)
        · exact q (_, W.listOf vs k) (by simp)
      · exact joff p hp b hb
    · rw [Array.toList_push, take_snoc rowD hn, ← List.cons_append]
      refine (jd.mono fun p hp => ?_).append (.one (hdat.mono fun p hp => ?_))
      · rcases List.mem_cons.mp hp with rfl | hp
        · exact .head _
        · exact .tail _ (List.mem_append_right _ hp)
      · exact .tail _ (List.mem_append_left _ hp)
  case fin =>
    intro m' news' h tk hJ F1 N1
    obtain ⟨j1, j2, ow, on, vs, k, own, rfl, joff, hw, hn, jz, jd⟩ := hJ
    rw [List.size_toArray, il, List.take_length] at jd
    refine hQ vs k h tk m' _ F1 (kst_newsOf N1 fun p hp => ?_) j2 jd
    exact memOf (by repeat' (first | with_reducible exact sub_nil | with_reducible refine sub_cons ?_ ?_ | with_reducible refine sub_app ?_ ?_ | (first | with_reducible assumption | with_reducible exact List.mem_cons_self | with_reducible refine List.mem_cons_of_mem _ ?_ | exact List.mem_append_left _ (by with_reducible assumption) | exact List.mem_append_left _ (List.mem_cons_of_mem _ (by with_reducible assumption)) | exact List.mem_append_left _ (List.mem_cons_of_mem _ (List.mem_cons_of_mem _ (by with_reducible assumption))) | exact List.mem_append_left _ (List.mem_cons_of_mem _ (List.mem_cons_of_mem _ (List.mem_cons_of_mem _ (by with_reducible assumption)))) | exact List.mem_append_left _ List.mem_cons_self | exact List.mem_append_left _ (List.mem_cons_of_mem _ List.mem_cons_self) | exact List.mem_append_left _ (List.mem_cons_of_mem _ (List.mem_cons_of_mem _ List.mem_cons_self)) | with_reducible refine List.mem_append_right _ ?_) | intro p hp)) hp
end Mine
end
section
theorem Mine.rstOk {M : PySem.Model} {A : PySem.Around} {pos : PySem.Pos} {env : PySem.Env} {Q : PySem.Flow → PySem.Shared → Prop} {E : PySem.Value → PySem.Shared → Prop} {s : PySem.Shared} (h : PySem.wpAny M A (PySem.exec (.Pass pos) env) Q E s) : PySem.wpAny M A (PySem.exec (.Pass pos) env) Q E s := by
  w_top off
  k_with_none
  first | (walk1; fail) | exact h
open PySem PySem.W PyProof.Rows PySem.Calls PyProof.V PySem.Spec PySem.Builtin PySem.Builtin.Str
set_option Elab.async false
set_option linter.unusedVariables false
set_option maxRecDepth 100000
set_option maxHeartbeats 8000000
namespace Mine
def letters : List Nat := [43, 49, 52, 61, 65, 68, 69, 70, 71, 72, 78, 81, 84, 90, 97, 100, 101, 102, 103, 104, 110, 113, 116, 122]
def Asc (x : Str) : Prop := ∀ c ∈ tl x, c ∈ letters
theorem asc_append {x y : Str} (h : Asc x) (h' : Asc y) : Asc (x ++ y) := by
  intro c hc
  have e : tl (x ++ y) = tl x ++ tl y := by
    show (x.cps ++ y.cps).toList = _
    rw [Array.toList_append]
  rw [e] at hc
  exact (List.mem_append.mp hc).elim (h c) (h' c)
theorem asc_slice {x : Str} {l u : Option Int} (h : Asc x) : Asc (Txt.slice x l u) := by
  unfold Txt.slice
  split
  · exact h
  · intro c hc
    have hc' : c ∈ (List.filterMap (fun i => x.cps[i]?) (strSliceIndices l u 1 x.length)).toArray.toList := hc
    rw [List.mem_filterMap] at hc'
    obtain ⟨i, _, hi⟩ := hc'
    exact h c (by
      have := Array.mem_of_getElem? hi
      simpa [tl] using this)
theorem asc_sg : ∀ c ∈ letters, ∀ d ∈ tl (Txt.swapcase (sg c)), d ∈ letters := by decide +kernel
theorem letters_lt : ∀ c ∈ letters, c < 0x110000 := by decide
theorem asc_nil : tl (Txt.swapcase ⟨#[]⟩) = [] := by decide +kernel
theorem asc_swap {x : Str} (hl : x.length ≤ 1) (h : Asc x) : Asc (Txt.swapcase x) := by
  obtain ⟨⟨l⟩⟩ := x
  match l, hl, h with
  | [], _, _ => intro c hc; rw [asc_nil] at hc; cases hc
  | [c], _, h => exact asc_sg c (h c (by simp [tl]))
  | _ :: _ :: _, hl, _ => exact absurd hl (by simp [PySem.Str.length])
theorem asc_mis {a : Str} {p y : Int} (p0 : 0 ≤ p) (h : Asc a) : Asc (mis a p y) := by
  have h1 : Asc (Str.ofString "") := by unfold Asc; decide +kernel
  have h2 : Asc (Str.ofString "=") := by unfold Asc; decide +kernel
  have l1 := len_ss (x := a) (i := p) (j := p + 1) p0 (by omega)
  have h3 : Asc (Txt.swapcase (Txt.slice a (some p) (some (p + 1)))) := asc_swap (by omega) (asc_slice h)
  unfold mis
  refine asc_append (asc_append (asc_slice h) ?_) (asc_slice h)
  unfold misO
  (repeat' split) <;> (with_reducible first | exact h3 | exact h1 | exact h2 | exact asc_append (asc_slice h) (asc_slice h) | exact asc_slice h)
theorem asc_texts : ∀ x ∈ texts4, Asc x := by
  have : ∀ x ∈ texts4, ∀ c ∈ tl x, c ∈ letters := by decide +kernel
  exact this
theorem asc_text (n : Int) : Asc (textAt texts4 n) := by
  unfold textAt
  rw [List.getD_eq_getElem?_getD]
  cases q : texts4[(n.fmod 4).toNat]? with
  | none => intro c hc; simp [tl] at hc
  | some x => exact asc_texts x (List.mem_of_getElem? q)
theorem asc_word (n : Int) : Asc (wordOf texts4 n) := asc_mis (fm0 _) (asc_mis (fm0 _) (asc_text n))
theorem ok_of_asc {x : Str} (h : Asc x) : PyData.strOk x = true := by
  unfold PyData.strOk
  rw [Array.all_eq_true_iff_forall_mem]
  intro c hc
  exact decide_eq_true (letters_lt c (h c (by simpa [tl] using hc)))
theorem modeS_ok (j : Nat) : PyData.strOk (modeS j) = true := by
  unfold modeS
  match j with
  | 0 => decide +kernel
  | 1 => decide +kernel
  | 2 => decide +kernel
  | 3 => decide +kernel
  | _ + 4 => (simp [PyData.strOk])
theorem row_ok (n : Int) : kqdOk 8 (rowD n) = true := by
  unfold rowD
  simp only [kqdOk, List.all_cons, List.all_nil, Bool.and_true, Bool.and_eq_true, ok_of_asc (asc_word n), modeS_ok, true_and]
  refine ⟨?_, ?_⟩
  · rw [List.all_eq_true]
    intro d hd
    obtain ⟨p, hp, rfl⟩ := List.mem_map.mp hd
    unfold pairsOf at hp
    obtain ⟨x, hx, rfl⟩ := List.mem_map.mp hp
    simp [pairD, kqdOk, ok_of_asc (asc_texts x hx)]
  · rw [List.all_eq_true]
    intro d hd
    obtain ⟨x, hx, rfl⟩ := List.mem_map.mp hd
    simp [kqdOk]
def toldD (ns : List Int) : List Dat := Dat.list (texts4.map Dat.str) :: ns.map rowD
theorem told_ok (ns : List Int) : ∀ d ∈ toldD ns, kqdOk 8 d = true := by
  intro d hd
  rcases List.mem_cons.mp hd with rfl | hd
  · decide +kernel
  · obtain ⟨n, _, rfl⟩ := List.mem_map.mp hd
    exact row_ok n
end Mine
end
section
theorem Mine.rstT1 {M : PySem.Model} {A : PySem.Around} {pos : PySem.Pos} {env : PySem.Env} {Q : PySem.Flow → PySem.Shared → Prop} {E : PySem.Value → PySem.Shared → Prop} {s : PySem.Shared} (h : PySem.wpAny M A (PySem.exec (.Pass pos) env) Q E s) : PySem.wpAny M A (PySem.exec (.Pass pos) env) Q E s := by
  w_top off
  k_with_none
  first | (walk1; fail) | exact h
open PySem PySem.W PyProof.Rows PySem.Calls PyProof.V PySem.Spec
set_option Elab.async false
set_option linter.unusedVariables false
set_option maxRecDepth 100000
set_option maxHeartbeats 8000000
namespace Mine
section
variable {w : World} {loose : List Str} {mean : ExcName → Option Value} {mg mb : Str → Option Value} {dp un : Nat} {gd : Option (List Code)} {cn : Str} {cs : Scope} {Lc ac : Addr} {ccd : Value} {cl : List (Str × Addr)} {outer : List Env}
    {g : Heap} {L : Addr} {s : Shared} {m : Str → Option Value} {news : List (Addr × Obj)} {Q E : Value → Shared → Prop}
theorem bytes3_use {A : Around} {prog : Program} {l : Addr} {x y z : Int} {t u v : Tok} {k : Nat} (b : Array UInt8) (hh : A.handled = none) (F : Fr g L s.heap m) (N : News g L s.heap news) (hm : (l, W.listOf #[.int x t, .int y u, .int z v] k) ∈ news)
    (hr : (0 ≤ x ∧ x < 256) ∧ (0 ≤ y ∧ y < 256) ∧ (0 ≤ z ∧ z < 256)) (hb : byteArr [x, y, z] = b)
    (h : ∀ (t : Tok) h' tk', Fr g L h' m → News g L h' news → Q (.bytes b t) { s with heap := h', toks := tk' }) :
    wpAny (model prog w) A (call (.type "bytes") [.ref l]) Q E s := by
  refine call_bytes_ints (vs := [.int x t, .int y u, .int z v]) (ns := [x, y, z]) (News.isList N hm) (.cons _ _ (.cons _ _ (.cons _ _ .nil))) (fun n hn => ?_) (by show 3 ≤ sizeLine; decide) hh fun h' t k hk => ?_
  · rcases List.mem_cons.mp hn with rfl | hn
    · exact hr.1
    rcases List.mem_cons.mp hn with rfl | hn
    · exact hr.2.1
    rcases List.mem_cons.mp hn with rfl | hn
    · exact hr.2.2
    · cases hn
  · rw [hb]
    exact h t h' k (Kept.fr hk F) (Kept.news hk N)
theorem enc_use {b : Array UInt8} {tb : Tok} (res : Array UInt8) {rs : List Int} {lz : Int} (X : (Mine.hd.heap_39 w.params).In g) (T : Top Mine.hd.view_39 loose mean mg mb g) (F : Fr g L s.heap m) (N : News g L s.heap news) (hd : dp + 12 < recursionLimit) (hu : un + 120 < cLine)
    (hb : b.size = 3) (hst : stB (KBw.bInts b) = (0, lz, rs)) (hrs : ∀ e ∈ rs, 0 ≤ e ∧ e < 256) (hre : byteArr rs = res)
    (h : ∀ (t : Tok) h' tk', Fr g L h' m → News g L h' news → Q (.bytes res t) { s with heap := h', toks := tk' }) :
    wpAny (model PySem.Challenge.rw_pa0071_01.row.prog w) (ktrTop dp un gd cn cs Lc ac ccd cl outer) (call (.ref 94) [.bytes b tb]) Q E s :=
  enc_call (X.keeps F.keep) (T.keeps F.keep) hd hu hb hst hrs fun t h' tk' k => by rw [hre]; exact h t h' tk' (k.fr F) (k.news N)
end
end Mine
end
section
theorem Mine.rstT10 {M : PySem.Model} {A : PySem.Around} {pos : PySem.Pos} {env : PySem.Env} {Q : PySem.Flow → PySem.Shared → Prop} {E : PySem.Value → PySem.Shared → Prop} {s : PySem.Shared} (h : PySem.wpAny M A (PySem.exec (.Pass pos) env) Q E s) : PySem.wpAny M A (PySem.exec (.Pass pos) env) Q E s := by
  w_top off
  k_with_none
  first | (walk1; fail) | exact h
open PySem PySem.W PyProof.Rows PySem.Calls PyProof.V PySem.Spec
set_option Elab.async false
set_option linter.unusedVariables false
set_option maxRecDepth 100000
set_option maxHeartbeats 8000000
namespace Mine
theorem lt4 {i : Nat} (h : i < 4) : i = 0 ∨ i = 1 ∨ i = 2 ∨ i = 3 := by omega
theorem news_tl {g h : Heap} {L : Addr} {a : Addr × Obj} {r : List (Addr × Obj)} (N : News g L h (a :: r)) : News g L h r := fun p hp => N p (.tail _ hp)
def nums4 : List Int := [8496135, 4320589, 11141011, 1278169]
theorem told_texts {w : World} {loose : List Str} {mean : ExcName → Option Value} {mg mb : Str → Option Value} {dp un : Nat} {gd : Option (List Code)} {cn : Str} {cs : Scope} {Lc ac : Addr} {ccd : Value} {cl : List (Str × Addr)} {outer : List Env}
    {g : Heap} {L : Addr} {s : Shared} {m : Str → Option Value} {Q : Flow → Shared → Prop} {E : Value → Shared → Prop}
    {nm qual : Str} {params : Arguments} {body : List Stmt} {st : Stmt} {scope : Scope} {dV kV doc pm cdv ct oc : Value} {an od : Option Addr} {osl : Array (Option Value)}
    {NU : Addr} {t0 t1 t2 t3 : Tok} {ow on : Obj}
    (hK : (Mine.hd.heap_39 w.params).lookup 175 = some ⟨oc, od, .func (fnOf nm qual params body scope dV kV doc pm an cdv ct), osl⟩)
    (hst : body[0]? = some st)
    (X : (Mine.hd.heap_39 w.params).In g) (T : Top Mine.hd.view_39 loose mean mg mb g) (hd : dp + 32 < recursionLimit) (hu : un + 320 < cLine)
    (F : Fr g L s.heap m) (N : News g L s.heap [(L + 1 + 1, ow), (L + 1, on)])
    (hN : g.IsList NU #[.int 8496135 t0, .int 4320589 t1, .int 11141011 t2, .int 1278169 t3]) (h1 : m (Str.ofString "numbers") = some (.ref NU))
    (hQ : ∀ TX txs h' tk', Fr g L h' (fun z => if z = Str.ofString "texts" then some (.ref TX) else m z) → News g L h' [(TX, LCg.lst txs), (L + 1 + 1, ow), (L + 1, on)] → StrsAre txs texts4 → @Ne Nat (L + 1 + 1) TX → @Ne Nat (L + 1) TX → Q .next { s with heap := h', toks := tk' }) :
    wpAny (model PySem.Challenge.rw_pa0071_01.row.prog w) ((ktrTop dp un gd cn cs Lc ac ccd cl outer).deeper (envOfC qual scope L 175 cdv)) (exec st (envOfC qual scope L 175 cdv)) Q E s := by
  refine wpAny_mono (E := fun _ _ => False) ?_ (fun _ _ x => x) (fun _ _ x => x.elim)
  revert X; k_fill; intro X
  have e := lookEq (by k_is) hK
  clear hK
  obtain ⟨rfl, rfl, rfl, rfl⟩ := useK e
  clear e
  dsimp only [scopeP, qualP, codeP]
  obtain rfl := Option.some.inj hst
  clear hst
  have hpins : ∀ p ∈ [(Str.ofString "numbers", Value.ref NU)], m p.1 = some p.2 := all1 h1
  have F4 := pinAll _ F hpins
  rw [show m = pinL [(Str.ofString "numbers", Value.ref NU)] m from (pinL_eq hpins).symm] at hQ
  clear F h1 hpins
  dsimp only [pinL] at F4 hQ
  k_dflt (refine LCg.Assign_ListComp_U (F₀ := F4) (by rfl) (by with_unfolding_all rfl) (by rfl) (by decide) (by rfl) (by decide) (by rfl) (by rfl) (by rfl) ?_)
  repeat' ((fail_if_success (with_reducible show LCg.CompSrc _ _ _ _ _ _ _ _ _ _ _ _ _ _)); (first | (k_unfold; (try dsimp only)) | (k_end; wrow_close) | walk1 | (dsimp only; walk1)))
  refine Or.inl ⟨NU, #[.int 8496135 t0, .int 4320589 t1, .int 11141011 t2, .int 1278169 t3], _, rfl, rfl, F4, N, .inl hN, (by show 4 ≤ sizeLine; decide), fun s₂ hs₂ => ?_⟩
  obtain ⟨g', rfl⟩ := hs₂
  refine comp_rest (fun i ys news' => [(L + 1 + 1, ow), (L + 1, on)] = news' ∧ StrsAre ys (texts4.take i)) ?_ ?_ _ 0 [] _ (by rfl) ⟨rfl, .nil⟩
  · rintro i v ys news' I oI C oC Dd m₂ h tk E' hv ⟨rfl, hys⟩ hC hx2 F5 N5 off ne
    obtain ⟨x, tx, rfl, hxi⟩ := ints_get (vs := [.int 8496135 t0, .int 4320589 t1, .int 11141011 t2, .int 1278169 t3]) (ns := nums4) (.cons _ _ (.cons _ _ (.cons _ _ (.cons _ _ .nil)))) i v (by simpa using hv)
    have hi : i < 4 := (List.getElem?_eq_some_iff.mp hxi).1
    have hN' := hN
    clear hv N F4 hQ hN
    repeat' ((fail_if_success (with_reducible show wpAny _ _ (call (Value.type "bytes") _ _) _ _ _)); (first | (k_unfold; (try dsimp only)) | (k_end; wrow_close) | walk1 | (dsimp only; walk1) | (leave1; walk_say "STEP leave1"; try dsimp only)))
    rename Fr _ _ _ _ => F6
    rename News _ _ _ (_ :: _ :: _ :: _) => N6
    have N7 := news_tl N6
    rcases lt4 hi with rfl | rfl | rfl | rfl
    · obtain rfl : 8496135 = x := Option.some.inj hxi
      k_dflt (refine' bytes3_use #[129, 164, 7] rfl F6 N6 (.head _) (by decide +kernel) (by decide +kernel) ?_)
      intro t9 h9 tk9 F9 N9
      have N8 := news_tl N9
      clear F6 N6 N7 N9
      (try dsimp only); (try k_fold)
      repeat' ((fail_if_success (with_reducible show wpAny _ _ (call (Value.ref 94) _ _) _ _ _)); (first | (k_unfold; (try dsimp only)) | (k_end; wrow_close) | walk1 | (dsimp only; walk1) | (leave1; walk_say "STEP leave1"; try dsimp only)))
      k_dflt (refine' enc_use (rs := [103, 97, 81, 72]) (lz := 41991) #[103, 97, 81, 72] X T F9 N8 ?kd ?ku rfl (by decide +kernel) (by decide) (by decide +kernel) ?_)
      case kd => ((try simp only [depth_deeper]); (try dsimp only [ktrTop]); omega)
      case ku => ((try simp only [units_deeper]); (try dsimp only [ktrTop]); omega)
      intro t8 h8 tk8 F8 N9
      clear F9 N8
      (try dsimp only); (try k_fold)
      k_steps
      refine comp_endV F8 N9 off (fun p hp => hp) (.inl hN') ⟨rfl, ?_⟩
      exact (strs_snoc hys (Str.ofString "gaQH") _ : StrsAre _ (texts4.take 1))
    · obtain rfl : 4320589 = x := Option.some.inj hxi
      k_dflt (refine' bytes3_use #[65, 237, 77] rfl F6 N6 (.head _) (by decide +kernel) (by decide +kernel) ?_)
      intro t9 h9 tk9 F9 N9
      have N8 := news_tl N9
      clear F6 N6 N7 N9
      (try dsimp only); (try k_fold)
      repeat' ((fail_if_success (with_reducible show wpAny _ _ (call (Value.ref 94) _ _) _ _ _)); (first | (k_unfold; (try dsimp only)) | (k_end; wrow_close) | walk1 | (dsimp only; walk1) | (leave1; walk_say "STEP leave1"; try dsimp only)))
      k_dflt (refine' enc_use (rs := [81, 101, 49, 78]) (lz := 60749) #[81, 101, 49, 78] X T F9 N8 ?kd ?ku rfl (by decide +kernel) (by decide) (by decide +kernel) ?_)
      case kd => ((try simp only [depth_deeper]); (try dsimp only [ktrTop]); omega)
      case ku => ((try simp only [units_deeper]); (try dsimp only [ktrTop]); omega)
      intro t8 h8 tk8 F8 N9
      clear F9 N8
      (try dsimp only); (try k_fold)
      k_steps
      refine comp_endV F8 N9 off (fun p hp => hp) (.inl hN') ⟨rfl, ?_⟩
      exact (strs_snoc hys (Str.ofString "Qe1N") _ : StrsAre _ (texts4.take 2))
    · obtain rfl : 11141011 = x := Option.some.inj hxi
      k_dflt (refine' bytes3_use #[169, 255, 147] rfl F6 N6 (.head _) (by decide +kernel) (by decide +kernel) ?_)
      intro t9 h9 tk9 F9 N9
      have N8 := news_tl N9
      clear F6 N6 N7 N9
      (try dsimp only); (try k_fold)
      repeat' ((fail_if_success (with_reducible show wpAny _ _ (call (Value.ref 94) _ _) _ _ _)); (first | (k_unfold; (try dsimp only)) | (k_end; wrow_close) | walk1 | (dsimp only; walk1) | (leave1; walk_say "STEP leave1"; try dsimp only)))
      k_dflt (refine' enc_use (rs := [113, 102, 43, 84]) (lz := 65427) #[113, 102, 43, 84] X T F9 N8 ?kd ?ku rfl (by decide +kernel) (by decide) (by decide +kernel) ?_)
      case kd => ((try simp only [depth_deeper]); (try dsimp only [ktrTop]); omega)
      case ku => ((try simp only [units_deeper]); (try dsimp only [ktrTop]); omega)
      intro t8 h8 tk8 F8 N9
      clear F9 N8
      (try dsimp only); (try k_fold)
      k_steps
      refine comp_endV F8 N9 off (fun p hp => hp) (.inl hN') ⟨rfl, ?_⟩
      exact (strs_snoc hys (Str.ofString "qf+T") _ : StrsAre _ (texts4.take 3))
    · obtain rfl : 1278169 = x := Option.some.inj hxi
      k_dflt (refine' bytes3_use #[19, 128, 217] rfl F6 N6 (.head _) (by decide +kernel) (by decide +kernel) ?_)
      intro t9 h9 tk9 F9 N9
      have N8 := news_tl N9
      clear F6 N6 N7 N9
      (try dsimp only); (try k_fold)
      repeat' ((fail_if_success (with_reducible show wpAny _ _ (call (Value.ref 94) _ _) _ _ _)); (first | (k_unfold; (try dsimp only)) | (k_end; wrow_close) | walk1 | (dsimp only; walk1) | (leave1; walk_say "STEP leave1"; try dsimp only)))
      k_dflt (refine' enc_use (rs := [69, 52, 68, 90]) (lz := 32985) #[69, 52, 68, 90] X T F9 N8 ?kd ?ku rfl (by decide +kernel) (by decide) (by decide +kernel) ?_)
      case kd => ((try simp only [depth_deeper]); (try dsimp only [ktrTop]); omega)
      case ku => ((try simp only [units_deeper]); (try dsimp only [ktrTop]); omega)
      intro t8 h8 tk8 F8 N9
      clear F9 N8
      (try dsimp only); (try k_fold)
      k_steps
      refine comp_endV F8 N9 off (fun p hp => hp) (.inl hN') ⟨rfl, ?_⟩
      exact (strs_snoc hys (Str.ofString "E4DZ") _ : StrsAre _ (texts4.take 4))
  · rintro ys news' ⟨rfl, hys⟩
    intro D' h' tk' F' N' o1'
    exact hQ _ _ _ _ F' N' hys o1'.1 o1'.2.1
theorem strs_dat {news : List (Addr × Obj)} {vs : List Value} {xs : List Str} (h : StrsAre vs xs) : DatAll news vs (xs.map Dat.str) := by
  induction h with
  | nil => exact .nil
  | cons y t _ ih => exact .cons (.str _ _) ih
theorem news_pick {g h : Heap} {L : Addr} {p1 p2 c1 c2 : Addr × Obj} (N : News g L h [p1, p2, c1, c2]) : News g L h [c1, c2, p2, p1] := kst_newsOf N (by repeat' (first | with_reducible exact sub_nil | with_reducible refine sub_cons ?_ ?_ | with_reducible refine sub_app ?_ ?_ | (first | with_reducible assumption | with_reducible exact List.mem_cons_self | with_reducible refine List.mem_cons_of_mem _ ?_ | exact List.mem_append_left _ (by with_reducible assumption) | exact List.mem_append_left _ (List.mem_cons_of_mem _ (by with_reducible assumption)) | exact List.mem_append_left _ (List.mem_cons_of_mem _ (List.mem_cons_of_mem _ (by with_reducible assumption))) | exact List.mem_append_left _ (List.mem_cons_of_mem _ (List.mem_cons_of_mem _ (List.mem_cons_of_mem _ (by with_reducible assumption)))) | exact List.mem_append_left _ List.mem_cons_self | exact List.mem_append_left _ (List.mem_cons_of_mem _ List.mem_cons_self) | exact List.mem_append_left _ (List.mem_cons_of_mem _ (List.mem_cons_of_mem _ List.mem_cons_self)) | with_reducible refine List.mem_append_right _ ?_) | intro p hp))
theorem told_call {w : World} {loose : List Str} {mean : ExcName → Option Value} {mg mb : Str → Option Value} {dp un : Nat} {gd : Option (List Code)} {cn : Str} {cs : Scope} {Lc ac : Addr} {ccd : Value} {cl : List (Str × Addr)} {outer : List Env}
    {s : Shared} {Q E : Value → Shared → Prop} {NU ST : Addr} {t0 t1 t2 t3 : Tok} {items : List Value} {ns : List Int} (X : (Mine.hd.heap_39 w.params).In s.heap) (T : Top Mine.hd.view_39 loose mean mg mb s.heap)
    (hN : s.heap.IsList NU #[.int 8496135 t0, .int 4320589 t1, .int 11141011 t2, .int 1278169 t3]) (hS : s.heap.IsList ST items.toArray) (hI : IntsAre items ns) (hlen : ns.length ≤ 64)
    (hd : dp + 64 < recursionLimit) (hu : un + 640 < cLine)
    (hret : ∀ r h' tk' as, Kept s.heap h' → Reads h' (.ref r) (.list (kqdPs (toldD ns))) as → Q (.ref r) { s with heap := h', toks := tk' }) :
    wpAny (model PySem.Challenge.rw_pa0071_01.row.prog w) (ktrTop dp un gd cn cs Lc ac ccd cl outer) (call (.ref 175) [.ref NU, .ref ST]) Q E s := by
  revert X; k_fill; intro X
  k_dflt (refine' enterC X T ?k6 ?k7 ?k8 ?k9 ?kB ?kD ?_ ?c2 ?c3 ?c4; (case k6 => k_is); (case k7 => k_is); (case k8 => ktr_room); (case k9 => first | exact BindsTo.of_eq rfl | exact binds_K (by k_in) rfl (by k_is) rfl rfl rfl); (case kB => exact rfl); (case kD => decide +kernel); (case c2 => exact rfl); (case c3 => exact rfl); (case c4 => exact rfl))
  intro L' h₁ tk' cells' F N Y
  k_cells Y
  (try simp only [List.cons_append, List.nil_append] at N)
  (try dsimp only); (try k_fold)
  repeat' ((fail_if_success (with_reducible show wpAny _ _ (exec (Stmt.Assign _ (Expr.ListComp _ _ _ _) _) _) _ _ _)); (first | (k_unfold; (try dsimp only)) | (k_end; wrow_close) | walk1 | (dsimp only; walk1) | (leave1; walk_say "STEP leave1"; try dsimp only)))
  k_dflt (refine' told_texts ?hK ?hst X T ?hd ?hu F N hN ?h1 ?_)
  case hK => k_is
  case hst => rfl
  case hd => omega
  case hu => omega
  case h1 => with_unfolding_all rfl
  intro TX txs h9 tk9 F9 N9 htx o1 o2
  clear F N
  (try dsimp only)
  repeat' ((fail_if_success (with_reducible show wpAny _ _ (exec (Stmt.For _ _ _ _ _) _) _ _ _)); (first | (k_unfold; (try dsimp only)) | (k_end; wrow_close) | walk1 | (dsimp only; walk1) | (leave1; walk_say "STEP leave1"; try dsimp only)))
  rename Fr _ _ _ _ => F5
  rename News _ _ _ (_ :: _ :: _ :: _) => N5
  rename (_ ∧ _ ∧ _) => l1
  have N6 := news_pick N5
  k_dflt (refine' told_loop (ns := ns) ?hK ?hst0 X T ?hd ?hu hS hI hlen F5 N6 ?hlt ?hltb ?hlt2 ?hlt3 ?h0 htx ?hs ?_)
  case hK => k_is
  case hst0 => rfl
  case hd => omega
  case hu => omega
  case hlt => exact Ne.symm o1
  case hltb => exact Ne.symm o2
  case hlt2 => exact l1.1
  case hlt3 => exact l1.2.1
  case hs => with_unfolding_all rfl
  case h0 =>
    refine ⟨by with_unfolding_all rfl, by with_unfolding_all rfl, _, _, _, _, [], rfl, (fun p hp => nomatch hp), ⟨_, by assumption⟩, ⟨_, by assumption⟩, rfl, ?_⟩
    exact .cons (.list (n := txs.length) (.head _) (strs_dat htx)) .nil
  intro vs k h9 tk9 m9 news9 F9 N9 e9 d9
  have hpins : ∀ p ∈ [(Str.ofString "told", Value.ref _)], m9 p.1 = some p.2 := all1 e9
  have F10 := pinAll _ F9 hpins
  clear F9 F5 N5 N6
  dsimp only [pinL] at F10
  (try dsimp only)
  repeat' (first | (k_unfold; (try dsimp only)) | walk1 | (dsimp only; walk1))
  obtain ⟨as, ra⟩ := kqd_all (fun p hp => N9 p (.tail _ hp)) 8 d9 (told_ok ns)
  exact hret _ _ _ _ F10.keep (reads_list_at (N9.get (.head _)) rfl rfl ra)
end Mine
end
section
theorem Mine.rstD1 {M : PySem.Model} {A : PySem.Around} {pos : PySem.Pos} {env : PySem.Env} {Q : PySem.Flow → PySem.Shared → Prop} {E : PySem.Value → PySem.Shared → Prop} {s : PySem.Shared} (h : PySem.wpAny M A (PySem.exec (.Pass pos) env) Q E s) : PySem.wpAny M A (PySem.exec (.Pass pos) env) Q E s := by
  w_top off
  k_with_none
  first | (walk1; fail) | exact h
open PySem PySem.W PyProof.Rows PySem.Calls PyProof.V PySem.Spec
set_option Elab.async false
set_option linter.unusedVariables false
set_option maxRecDepth 100000
namespace Mine
section
variable {M : Model} {A : Around} {E : Value → Shared → Prop} {s : Shared}
theorem nfe_cell {scope : Scope} {globals : Addr} {cl : List (Str × Addr)} {qual : Str} {env : Env} {n0 x z : Str} {Q : Env → Shared → Prop} (hnm : scope.names = [(n0, .local), (x, .cell), (z, .free)])
    (h : Q { scope, locals := s.heap.objs.size, globals, cells := (x, (s.heap.push { cls := .type "dict", data := .dict #[] }).objs.size) :: cl, qual, func := none, code := env.code, frame := env.frame, builtins := env.builtins }
      { s with heap := (s.heap.push { cls := .type "dict", data := .dict #[] }).push { cls := .type "cell", data := .cell none } }) :
    wpAny M A (newFunctionEnv scope globals cl [] qual none .none (some env)) Q E s := by
  simp only [newFunctionEnv, Option.isSome_some, if_true, hnm]
  refine wpAny_bind (wpAny_alloc ?_)
  simp only [List.forIn_cons, List.forIn_nil]
  refine wpAny_bind ?_
  refine wpAny_bind (wpAny_pure ?_)
  refine wpAny_bind (wpAny_bind (wpAny_alloc (wpAny_pure ?_)))
  refine wpAny_bind (wpAny_pure (wpAny_pure ?_))
  refine wpAny_bind (wpAny_pure (wpAny_pure ?_))
  exact h
end
section
variable {prog : Program} {w : World} {A : Around} {s : Shared} {h₀ : Heap} {L : Addr} {m : Str → Option Value} {env : Env}
def Off4 (I C c D : Addr) (l : List (Addr × Obj)) : Prop := ∀ p ∈ l, @Ne Nat p.1 I ∧ @Ne Nat p.1 C ∧ @Ne Nat p.1 c ∧ @Ne Nat p.1 D
/-- y = [elt for x in iter], x captured by the element, iter a list of the base -/
theorem comp_cell {elt iter : Expr} {x y n0 z : Str} {px py : Pos} {scope : Scope} {cl : List (Str × Addr)} {pos spos : Pos} {Q : Flow → Shared → Prop} {news : List (Addr × Obj)} {ax : Addr} {its : Array Value}
    (hh : A.handled = none) (F : Fr h₀ L s.heap m) (N : News h₀ L s.heap news) (hl : h₀.IsList ax its) (hsz : its.size ≤ sizeLine) (hLe : env.locals = L)
    (hsw : swapsWith (.ListComp elt [⟨.Name x px, iter, [], 0⟩] scope pos) (some (.Name y py)) spos.line env = pure true)
    (hclos : closureFor scope env = pure cl) (hnm : scope.names = [(n0, .local), (x, .cell), (z, .free)]) (hkind : scope.kind = .function)
    (hnames : ∀ z ∈ scope.names, z.2 = .local → scope.names.lookup z.1 = some .local) (hkx : ∀ C c, (compEnvC scope ((x, c) :: cl) C env).kindOf x = some .cell)
    (hy : env.kindOf y = some .local) (hp : (env.scope.kind == .class || (env.scope.kind == .module && env.locals != env.globals)) = false)
    (he : ∀ Q' : Value → Shared → Prop, Q' (.ref ax) s → wpAny (model prog w) A (eval iter env) Q' (fun _ _ => False) s)
    (R : Nat → List Value → List (Addr × Obj) → Prop) (h0 : R 0 [] news)
    (step : ∀ i v ys news' I oI C oC c oc D h tk, its[i]? = some v → R i ys news' → oc.data = .cell (some v) → Fr h₀ L h m → News h₀ L h ((I, oI) :: (C, oC) :: (c, oc) :: (D, LCg.lst ys) :: news') → Off4 I C c D news' →
      wpAny (model prog w) A (eval elt (compEnvC scope ((x, c) :: cl) C env)) (fun u s₂ => ∃ h' tk' news'', s₂ = { s with heap := h', toks := tk' } ∧ Fr h₀ L h' m ∧ News h₀ L h' ((I, oI) :: (C, oC) :: (c, oc) :: (D, LCg.lst ys) :: news'') ∧ Off4 I C c D news'' ∧ R (i + 1) (ys ++ [u]) news'') (fun _ _ => False) { s with heap := h, toks := tk })
    (fin : ∀ D ys news' h tk, R its.size ys news' → Fr h₀ L h (fun z => if z = y then some (.ref D) else m z) → News h₀ L h ((D, LCg.lst ys) :: news') → (∀ p ∈ news', @Ne Nat p.1 D) → Q .next { s with heap := h, toks := tk })
    (hs : ∀ x, foldedSetIterable iter env x = pure x := by intro _; rfl) :
    wpAny (model prog w) A (exec (.Assign [.Name y py] (.ListComp elt [⟨.Name x px, iter, [], 0⟩] scope pos) spos) env) Q (fun _ _ => False) s := by
  subst hLe
  rw [exec_Assign_Name_used _ _ _ _ hsw]
  refine wpAny_bind (wpAny_standAt (wpAny_bind ?_))
  show wpAny _ A (do let _ ← comprehension (.ListComp elt [⟨.Name x px, iter, [], 0⟩] scope pos) scope env _ (newList []) false (eval iter env) (some (assign (.Name y py) env))) _ _ s
  refine wpAny_bind (wpAny_mono (wpAny_comprehension_free (use := some (assign (.Name y py) env)) (Q := fun _ s' => Q .next s') rfl hs hclos hkind hnames
    (he _ ?_)) (fun _ s' hq => wpAny_pure (wpAny_pure hq)) fun _ _ e => e)
  have hta : s.heap.IsList ax its := let ⟨o, ho, r⟩ := hl; ⟨o, F.keep _ _ ho, r⟩
  refine wpAny_pyIter_list hta ?_
  refine wpAny_newObj_type ?_
  generalize hH1 : s.heap.push { cls := .type "list_iterator", data := .fields #[.ref ax, .int 0 0] } = H1
  generalize hH2 : H1.push { cls := .type "list", dict := none, data := .seq ([] : List Value).toArray } = H2
  refine nfe_cell hnm ?_
  dsimp only
  generalize hH3 : H2.push { cls := .type "dict", data := .dict #[] } = H3
  generalize hH4 : H3.push { cls := .type "cell", data := .cell none } = H4
  have z1 : H1.objs.size = s.heap.objs.size + 1 := by rw [← hH1, Heap.size_push]
  have z2 : H2.objs.size = s.heap.objs.size + 2 := by rw [← hH2, Heap.size_push, z1]
  have z3 : H3.objs.size = s.heap.objs.size + 3 := by rw [← hH3, Heap.size_push, z2]
  have up1 : ∀ b o, s.heap.get? b = some o → H1.get? b = some o := fun b o e => hH1 ▸ Heap.get?_push_of_some _ e
  have up2 : ∀ b o, H1.get? b = some o → H2.get? b = some o := fun b o e => hH2 ▸ Heap.get?_push_of_some _ e
  have up3 : ∀ b o, H2.get? b = some o → H3.get? b = some o := fun b o e => hH3 ▸ Heap.get?_push_of_some _ e
  have up4 : ∀ b o, H3.get? b = some o → H4.get? b = some o := fun b o e => hH4 ▸ Heap.get?_push_of_some _ e
  have old : ∀ b o, s.heap.get? b = some o → H4.get? b = some o := fun b o e => up4 _ _ (up3 _ _ (up2 _ _ (up1 _ _ e)))
  have gI : H4.IsListIter s.heap.objs.size ax 0 := ⟨_, up4 _ _ (up3 _ _ (up2 _ _ (hH1 ▸ Heap.get?_push_size _ rfl))), rfl, rfl⟩
  have gD : H4.get? H1.objs.size = some (LCg.lst []) := up4 _ _ (up3 _ _ (hH2 ▸ Heap.get?_push_size _ rfl))
  have gC : H4.Ns H2.objs.size (fun _ => none) := by
    have := Heap.Ns.new H2 (.type "dict")
    rw [hH3] at this
    exact this.keeps up4
  have gc : H4.get? H3.objs.size = some { cls := .type "cell", data := .cell none } := hH4 ▸ Heap.get?_push_size _ rfl
  have fresh₀ : ∀ a, s.heap.objs.size ≤ a → h₀.get? a = none := fun a ha => by
    cases e : h₀.get? a with
    | none => rfl
    | some o' => exact absurd (Heap.lt_size (F.keep a o' e)) (Nat.not_lt.mpr ha)
  have hLlt : env.locals < s.heap.objs.size := F.ns.lt
  have nIL : s.heap.objs.size ≠ env.locals := Nat.ne_of_gt hLlt
  have nDL : H1.objs.size ≠ env.locals := by rw [z1]; exact Nat.ne_of_gt (Nat.lt_succ_of_lt hLlt)
  have nCL : H2.objs.size ≠ env.locals := by rw [z2]; exact Nat.ne_of_gt (Nat.lt_succ_of_lt (Nat.lt_succ_of_lt hLlt))
  have ncL : H3.objs.size ≠ env.locals := by rw [z3]; exact Nat.ne_of_gt (Nat.lt_succ_of_lt (Nat.lt_succ_of_lt (Nat.lt_succ_of_lt hLlt)))
  have fI := fresh₀ _ (Nat.le_refl _)
  have fD : h₀.get? H1.objs.size = none := fresh₀ _ (by rw [z1]; exact Nat.le_succ _)
  have fC : h₀.get? H2.objs.size = none := fresh₀ _ (by rw [z2]; exact Nat.le_add_right _ _)
  have fc : h₀.get? H3.objs.size = none := fresh₀ _ (by rw [z3]; exact Nat.le_add_right _ _)
  have dIC : s.heap.objs.size ≠ H2.objs.size := by rw [z2]; exact Nat.ne_of_lt (Nat.lt_add_of_pos_right (by decide))
  have dIc : s.heap.objs.size ≠ H3.objs.size := by rw [z3]; exact Nat.ne_of_lt (Nat.lt_add_of_pos_right (by decide))
  have dID : s.heap.objs.size ≠ H1.objs.size := by rw [z1]; exact Nat.ne_of_lt (Nat.lt_succ_self _)
  have dDC : H1.objs.size ≠ H2.objs.size := by rw [z1, z2]; exact Nat.ne_of_lt (Nat.lt_succ_self _)
  have dDc : H1.objs.size ≠ H3.objs.size := by rw [z1, z3]; exact Nat.ne_of_lt (Nat.lt_succ_of_lt (Nat.lt_succ_self _))
  have dCc : H2.objs.size ≠ H3.objs.size := by rw [z2, z3]; exact Nat.ne_of_lt (Nat.lt_succ_self _)
  have haxI : ax ≠ s.heap.objs.size := by
    obtain ⟨o, e, _⟩ := hta
    exact Nat.ne_of_lt (Heap.lt_size e)
  have loop : ∀ s₃ : Shared, s₃ = { s with heap := H4 } →
      codeAny (model prog w) A (.compLoop (.ListComp elt [⟨.Name x px, iter, [], 0⟩] scope pos) 0 (.ref s.heap.objs.size) (.ref H1.objs.size) (compEnvC scope ((x, H3.objs.size) :: cl) H2.objs.size env))
        (compPost (model prog w) A (fun _ _ => False) (some (assign (.Name y py) env)) (fun _ s' => Q .next s') (.ref H1.objs.size) H2.objs.size) s₃ := by
    rintro s₃ rfl
    refine codeAny_compLoop_tests
      (fun k s' => ∃ h' tk i ys mC news' oc, s' = { s with heap := h', toks := tk } ∧ i ≤ its.size ∧ k = its.size + 1 - i ∧ ys.length = i ∧ h'.IsListIter s.heap.objs.size ax i ∧ Fr h₀ env.locals h' m ∧ h'.Ns H2.objs.size mC ∧
        News h₀ env.locals h' ((H3.objs.size, oc) :: (H1.objs.size, LCg.lst ys) :: news') ∧ (∃ v, oc.data = .cell v) ∧ Off4 s.heap.objs.size H2.objs.size H3.objs.size H1.objs.size news' ∧ R i ys news') ?_ (its.size + 1)
      ⟨H4, s.toks, 0, [], _, news, { cls := .type "cell", data := .cell none }, rfl, Nat.zero_le _, rfl, rfl, gI, F.keeps old, gC, fun p hp => ?_, ⟨_, rfl⟩, fun p hp => ?_, h0⟩
    · rintro k s' ⟨h', tk, i, ys, mC, news', oc, rfl, hi, rfl, hyl, hit, F', hn', N', ⟨vc, hvc⟩, off', hR⟩
      have hta' : h'.IsList ax its := let ⟨o, ho, r⟩ := hl; ⟨o, F'.keep _ _ ho, r⟩
      by_cases hlt : i < its.size
      · have hx : its[i]? = some its[i] := Array.getElem?_eq_getElem hlt
        refine wpAny_pyNext_list_item (s := { s with heap := h', toks := tk }) hit hta' hx fun h₂ hit₂ hsb₂ => ?_
        replace hsb₂ : Heap.SameBut s.heap.objs.size h' h₂ := hsb₂
        have F₂ : Fr h₀ env.locals h₂ m := F'.change hsb₂ nIL fI
        have N₂ : News h₀ env.locals h₂ ((H3.objs.size, oc) :: (H1.objs.size, LCg.lst ys) :: news') := fun p hp => by
          refine ⟨(hsb₂.2 p.1 ?_).trans (N' p hp).1, (N' p hp).2⟩
          rcases List.mem_cons.mp hp with rfl | hp
          · exact Ne.symm dIc
          rcases List.mem_cons.mp hp with rfl | hp
          · exact Ne.symm dID
          · exact (off' p hp).1
        refine wpAny_assign_Name (wpAny_storeName_cell (env := compEnvC scope ((x, H3.objs.size) :: cl) H2.objs.size env) hkind (hkx _ _) (c := H3.objs.size) (by simp [compEnvC]) ⟨oc, (N₂ _ (.head _)).1, hvc⟩ fun h₃ hc₃ hsb₃ => ?_)
        replace hsb₃ : Heap.SameBut H3.objs.size h₂ h₃ := hsb₃
        obtain ⟨oc', hoc', hdc'⟩ := hc₃
        refine wpAny_tests_nil ?_
        simp only [if_true]
        have F₃ : Fr h₀ env.locals h₃ m := F₂.change hsb₃ ncL fc
        obtain ⟨oI, heI, hIc, hId⟩ := hit₂
        replace heI : h₃.get? s.heap.objs.size = some oI := (hsb₃.2 _ dIc).trans heI
        obtain ⟨oC, heC, hoC⟩ := LCg.ns_obj ((hn'.sameBut hsb₂ (Ne.symm dIC)).sameBut hsb₃ dCc)
        have N₃ : News h₀ env.locals h₃ ((s.heap.objs.size, oI) :: (H2.objs.size, oC) :: (H3.objs.size, oc') :: (H1.objs.size, LCg.lst ys) :: news') := fun p hp => by
          rcases List.mem_cons.mp hp with rfl | hp
          · exact ⟨heI, nIL, fI⟩
          rcases List.mem_cons.mp hp with rfl | hp
          · exact ⟨heC, nCL, fC⟩
          rcases List.mem_cons.mp hp with rfl | hp
          · exact ⟨hoc', ncL, fc⟩
          · refine ⟨(hsb₃.2 p.1 ?_).trans (N₂ p (.tail _ hp)).1, (N₂ p (.tail _ hp)).2⟩
            rcases List.mem_cons.mp hp with rfl | hp
            · exact dDc
            · exact (off' p hp).2.2.1
        refine wpAny_mono (step i its[i] ys news' s.heap.objs.size oI H2.objs.size oC H3.objs.size oc' H1.objs.size h₃ tk hx hR hdc' F₃ N₃ off') (fun u s₄ h₄ => ?_) (fun _ _ e => e.elim)
        obtain ⟨h₄, tk₄, news₄, rfl, F₄, N₄, off₄, R₄⟩ := h₄
        refine append_at (hsz := by show ys.toArray.size ≤ sizeLine; rw [List.size_toArray, hyl]; exact Nat.le_trans hi hsz) (N₄ _ (.tail _ (.tail _ (.tail _ (.head _))))).1 fun h₅ hs₅ hD₅ => ?_
        replace hs₅ : Heap.SameBut H1.objs.size h₄ h₅ := hs₅
        have zI := (hs₅.2 _ dID).trans (N₄ _ (.head _)).1
        have zC := (hs₅.2 _ (Ne.symm dDC)).trans (N₄ _ (.tail _ (.head _))).1
        have zc := (hs₅.2 _ (Ne.symm dDc)).trans (N₄ _ (.tail _ (.tail _ (.head _)))).1
        refine ⟨its.size + 1 - (i + 1), by omega, h₅, tk₄, i + 1, ys ++ [u], _, news₄, oc', rfl, hlt, rfl, by rw [List.length_append, List.length_singleton, hyl], ⟨oI, zI, hIc, hId⟩, F₄.change hs₅ nDL fD, hoC.ns zC, fun p hp => ?_, ⟨_, hdc'⟩, off₄, R₄⟩
        rcases List.mem_cons.mp hp with rfl | hp
        · exact ⟨zc, ncL, fc⟩
        rcases List.mem_cons.mp hp with rfl | hp
        · exact ⟨hD₅.trans (congrArg some (LCg.lst_snoc ys u)), nDL, fD⟩
        · have q := N₄ p (.tail _ (.tail _ (.tail _ (.tail _ hp))))
          exact ⟨(hs₅.2 _ (off₄ p hp).2.2.2).trans q.1, q.2⟩
      · obtain rfl : i = its.size := Nat.le_antisymm hi (Nat.not_lt.mp hlt)
        refine wpAny_pyNext_list_end (s := { s with heap := h', toks := tk }) hh hit hta' (by simp) fun h₂ hext => ?_
        replace hext : Heap.ExtBut s.heap.objs.size h' h₂ := hext
        have F₂ : Fr h₀ env.locals h₂ m := ⟨F'.ns.at fun o e => hext _ o (Ne.symm nIL) e, fun b o e => hext b o (by rintro rfl; rw [fI] at e; cases e) (F'.keep b o e), F'.above⟩
        have N₂ : News h₀ env.locals h₂ ((H1.objs.size, LCg.lst ys) :: news') := fun p hp => by
          refine ⟨hext p.1 _ ?_ (N' p (.tail _ hp)).1, (N' p (.tail _ hp)).2⟩
          rcases List.mem_cons.mp hp with rfl | hp
          · exact Ne.symm dID
          · exact (off' p hp).1
        show wpAny _ A (assign (.Name y py) env (.ref H1.objs.size)) _ _ _
        refine wpAny_assign_Name (wpAny_storeName_local hy F₂.ns (fun h₃ hn₃ hs₃ => ?_) hp)
        replace hs₃ : Heap.SameBut env.locals h₂ h₃ := hs₃
        have F₃ := F₂.set hn₃ hs₃
        refine ⟨mC, (hn'.at fun o e => hext _ o (Ne.symm dIC) e).sameBut hs₃ nCL, fun h'' hs'' => ?_⟩
        replace hs'' : Heap.SameBut H2.objs.size h₃ h'' := hs''
        refine fin H1.objs.size ys news' h'' _ hR (F₃.change hs'' nCL fC) (fun p hp => ?_) (fun p hp => (off' p hp).2.2.2)
        refine ⟨(hs''.2 p.1 ?_).trans ((hs₃.2 p.1 (N₂ p hp).2.1).trans (N₂ p hp).1), (N₂ p hp).2⟩
        rcases List.mem_cons.mp hp with rfl | hp
        · exact dDC
        · exact (off' p hp).2.1
    · rcases List.mem_cons.mp hp with rfl | hp
      · exact ⟨gc, ncL, fc⟩
      rcases List.mem_cons.mp hp with rfl | hp
      · exact ⟨gD, nDL, fD⟩
      · exact ⟨old _ _ (N p hp).1, (N p hp).2⟩
    · have q : p.1 < s.heap.objs.size := Heap.lt_size (N p hp).1
      exact ⟨Nat.ne_of_lt q, by rw [z2]; exact Nat.ne_of_lt (Nat.lt_add_right _ q), by rw [z3]; exact Nat.ne_of_lt (Nat.lt_add_right _ q), by rw [z1]; exact Nat.ne_of_lt (Nat.lt_add_right _ q)⟩
  exact codeAny_compStart_list (loop _ rfl) ((Walks.list (prog := prog) (w := w) hh s.heap.objs.size ax haxI its).self 0 _ _ _ ⟨gI, let ⟨o, ho, r⟩ := hta; ⟨o, old _ _ ho, r⟩⟩ (loop _ rfl))
end
end Mine
end
section
theorem Mine.rstD2 {M : PySem.Model} {A : PySem.Around} {pos : PySem.Pos} {env : PySem.Env} {Q : PySem.Flow → PySem.Shared → Prop} {E : PySem.Value → PySem.Shared → Prop} {s : PySem.Shared} (h : PySem.wpAny M A (PySem.exec (.Pass pos) env) Q E s) : PySem.wpAny M A (PySem.exec (.Pass pos) env) Q E s := by
  w_top off
  k_with_none
  first | (walk1; fail) | exact h
open PySem PySem.W PyProof.Rows PySem.Calls PyProof.V PySem.Spec
set_option Elab.async false
set_option linter.unusedVariables false
set_option maxRecDepth 100000
set_option maxHeartbeats 8000000
namespace Mine
def signs64 : Str := Str.ofString "ABCDEFGHIJKLMNOPQRSTUVWXYZabcdefghijklmnopqrstuvwxyz0123456789+/"
def signAt (x : Int) (k : Nat) : Str := Txt.item signs64 ((x.fdiv (64 ^ k)).fmod 64)
def encL (x : Int) : List Str := [signAt x 3, signAt x 2, signAt x 1, signAt x 0]
def encT (x : Int) : Str := Txt.join (Str.ofString "") (encL x)
theorem signAt_len (x : Int) (k : Nat) : (signAt x k).length = 1 := by
  have h64 : signs64.length = 64 := by decide +kernel
  unfold signAt
  rw [item_at (Int.fmod_nonneg_of_pos _ (by decide)) (by rw [h64]; exact Int.fmod_lt_of_pos _ (by decide))]
  rfl
theorem enc_texts : nums4.map encT = texts4 := by decide +kernel
theorem nums_in : ∀ x ∈ nums4, 0 ≤ x ∧ x < 16777216 := by decide
theorem due_texts {w : World} {loose : List Str} {mean : ExcName → Option Value} {mg mb : Str → Option Value} {dp un : Nat} {gd : Option (List Code)} {cn : Str} {cs : Scope} {Lc ac : Addr} {ccd : Value} {cl : List (Str × Addr)} {outer : List Env}
    {g : Heap} {L : Addr} {s : Shared} {m : Str → Option Value} {Q : Flow → Shared → Prop} {E : Value → Shared → Prop}
    {nm qual : Str} {params : Arguments} {body : List Stmt} {st : Stmt} {scope : Scope} {dV kV doc pm cdv ct oc : Value} {an od : Option Addr} {osl : Array (Option Value)}
    {NU : Addr} {t0 t1 t2 t3 ts : Tok} {ow on os : Obj}
    (hK : (Mine.hd.heap_39 w.params).lookup 187 = some ⟨oc, od, .func (fnOf nm qual params body scope dV kV doc pm an cdv ct), osl⟩)
    (hst : body[1]? = some st)
    (X : (Mine.hd.heap_39 w.params).In g) (T : Top Mine.hd.view_39 loose mean mg mb g) (hd : dp + 32 < recursionLimit) (hu : un + 320 < cLine)
    (F : Fr g L s.heap m) (N : News g L s.heap [(L + 1 + 1 + 1, ow), (L + 1 + 1, on), (L + 1, os)]) (ds : os.data = .cell (some (.str signs64 ts)))
    (hN : g.IsList NU #[.int 8496135 t0, .int 4320589 t1, .int 11141011 t2, .int 1278169 t3]) (h1 : m (Str.ofString "numbers") = some (.ref NU))
    (hQ : ∀ TX txs h' tk', Fr g L h' (fun z => if z = Str.ofString "texts" then some (.ref TX) else m z) → News g L h' [(TX, LCg.lst txs), (L + 1 + 1 + 1, ow), (L + 1 + 1, on), (L + 1, os)] → StrsAre txs texts4 → @Ne Nat (L + 1 + 1 + 1) TX → @Ne Nat (L + 1 + 1) TX → @Ne Nat (L + 1) TX → Q .next { s with heap := h', toks := tk' }) :
    wpAny (model PySem.Challenge.rw_pa0071_01.row.prog w) ((ktrTop dp un gd cn cs Lc ac ccd cl outer).deeper (envOfC qual scope L 187 cdv)) (exec st (envOfC qual scope L 187 cdv)) Q E s := by
  refine wpAny_mono (E := fun _ _ => False) ?_ (fun _ _ x => x) (fun _ _ x => x.elim)
  revert X; k_fill; intro X
  have e := lookEq (by k_is) hK
  clear hK
  obtain ⟨rfl, rfl, rfl, rfl⟩ := useK e
  clear e
  dsimp only [scopeP, qualP, codeP]
  obtain rfl := Option.some.inj hst
  clear hst
  have hpins : ∀ p ∈ [(Str.ofString "numbers", Value.ref NU)], m p.1 = some p.2 := all1 h1
  have F4 := pinAll _ F hpins
  rw [show m = pinL [(Str.ofString "numbers", Value.ref NU)] m from (pinL_eq hpins).symm] at hQ
  clear F h1 hpins
  dsimp only [pinL] at F4 hQ
  unfold signs64 at ds
  k_dflt (refine' comp_cell rfl F4 N hN ?hsz ?hLe ?hsw ?hclos ?hnm ?hkind ?hnames ?hkx ?hy ?hp ?he (fun i ys news' => news' = [(L + 1 + 1 + 1, ow), (L + 1 + 1, on), (L + 1, os)] ∧ StrsAre ys ((nums4.take i).map encT)) ?h0 ?step ?fin)
  case hsz => (show 4 ≤ sizeLine; decide)
  case hLe => rfl
  case hsw => with_unfolding_all rfl
  case hclos => with_unfolding_all rfl
  case hnm => rfl
  case hkind => rfl
  case hnames => decide
  case hkx => intro _ _; rfl
  case hy => rfl
  case hp => rfl
  case h0 => exact ⟨rfl, .nil⟩
  case he =>
    intro Q' hQ'
    repeat' (first | (k_unfold; (try dsimp only)) | walk1 | (dsimp only; walk1))
    exact hQ'
  case fin =>
    rintro D ys news' h tk ⟨rfl, hys⟩ F9 N9 o9
    simp only [List.forall_mem_cons, List.not_mem_nil, false_implies, implies_true, and_true] at o9
    have e4 : (nums4.take 4).map encT = texts4 := enc_texts
    exact hQ D ys h tk F9 N9 (e4 ▸ hys) o9.1 o9.2.1 o9.2.2
  case step =>
    rintro i v ys news' I oI C oC c oc Dd h tk hv ⟨rfl, hys⟩ hoc F6 N6 off
    unfold Off4 at off
    simp only [List.forall_mem_cons, List.not_mem_nil, false_implies, implies_true, and_true] at off
    obtain ⟨x, tx, rfl, hxi⟩ := ints_get (vs := [.int 8496135 t0, .int 4320589 t1, .int 11141011 t2, .int 1278169 t3]) (ns := nums4) (.cons _ _ (.cons _ _ (.cons _ _ (.cons _ _ .nil)))) i v (by simpa using hv)
    obtain ⟨x0, x1⟩ := nums_in x (List.mem_of_getElem? hxi)
    clear N F4 hQ
    repeat' ((fail_if_success (with_reducible show wpAny _ _ (eval (Expr.ListComp _ _ _ _) _) _ _ _)); (first | (k_unfold; (try dsimp only)) | (k_end; wrow_close) | walk1 | (dsimp only; walk1) | (leave1; walk_say "STEP leave1"; try dsimp only)))
    k_dflt (refine LCg.ListComp_U (F₀ := by k_asm) (by with_unfolding_all rfl) (by decide) (by rfl) (by decide) (by rfl) ?_)
    repeat' ((fail_if_success (with_reducible show LCg.CompSrc _ _ _ _ _ _ _ _ _ _ _ _ _ _)); (first | (k_unfold; (try dsimp only)) | (k_end; wrow_close) | walk1 | (dsimp only; walk1)))
    rename Fr _ _ _ _ => F7
    rename News _ _ _ (_ :: _) => N7
    refine Or.inl ⟨_, #[.int 3 _, .int 2 _, .int 1 _, .int 0 _], _, rfl, rfl, F7, N7, .inr ⟨_, .head _, rfl, _, rfl⟩, (by show 4 ≤ sizeLine; decide), fun s₂ hs₂ => ?_⟩
    obtain ⟨g', rfl⟩ := hs₂
    k_dflt (refine' comp_rest (fun j zs news' => news' = _ ∧ StrsAre zs ((encL x).take j)) ?_ ?_ _ 0 [] _ (by rfl) ⟨rfl, .nil⟩)
    · rintro j v' zs news' I2 oI2 C2 oC2 D2 m2 h2 tk2 E2 hv2 ⟨rfl, hzs⟩ hC2 hk2 F8 N8 off8 ne8
      have hj : j = 0 ∨ j = 1 ∨ j = 2 ∨ j = 3 := by
        have := (Array.getElem?_eq_some_iff.mp hv2).1
        have h4 : j < 4 := this
        omega
      clear F7 N7
      rcases hj with rfl | rfl | rfl | rfl
      · obtain rfl : Value.int 3 (tk + 1) = v' := Option.some.inj hv2
        k_steps
        refine comp_endV F8 N8 off8 (fun p hp => hp) (.inr ⟨_, .head _, rfl, _, rfl⟩) ⟨rfl, ?_⟩
        exact (strs_snoc hzs (signAt x 3) _ : StrsAre _ ((encL x).take 1))
      · obtain rfl : Value.int 2 (tk + 1 + 1) = v' := Option.some.inj hv2
        k_steps
        refine comp_endV F8 N8 off8 (fun p hp => hp) (.inr ⟨_, .head _, rfl, _, rfl⟩) ⟨rfl, ?_⟩
        exact (strs_snoc hzs (signAt x 2) _ : StrsAre _ ((encL x).take 2))
      · obtain rfl : Value.int 1 (tk + 1 + 1 + 1) = v' := Option.some.inj hv2
        k_steps
        refine comp_endV F8 N8 off8 (fun p hp => hp) (.inr ⟨_, .head _, rfl, _, rfl⟩) ⟨rfl, ?_⟩
        exact (strs_snoc hzs (signAt x 1) _ : StrsAre _ ((encL x).take 3))
      · obtain rfl : Value.int 0 (tk + 1 + 1 + 1 + 1) = v' := Option.some.inj hv2
        k_steps
        refine comp_endV F8 N8 off8 (fun p hp => hp) (.inr ⟨_, .head _, rfl, _, rfl⟩) ⟨rfl, ?_⟩
        exact (strs_snoc hzs (signAt x 0) _ : StrsAre _ ((encL x).take 4))
    · rintro zs news' ⟨rfl, hzs⟩
      intro D' h' tk' F' N' o1'
      (try dsimp only)
      repeat' ((fail_if_success (with_reducible show wpAny _ _ (call (Value.builtin "str.join") _ _) _ _ _)); (first | (k_unfold; (try dsimp only)) | (k_end; wrow_close) | walk1 | (dsimp only; walk1) | (leave1; walk_say "STEP leave1"; try dsimp only)))
      have hzs' : StrsAre zs (encL x) := hzs
      refine join_list (News.isList N' (.head _)) hzs' ?_ ?_
      · have h1 : (Str.ofString "").length = 0 := by decide +kernel
        rw [h1]
        simp only [encL, List.map_cons, List.map_nil, signAt_len, List.sum_cons, List.sum_nil, Nat.mul_zero]
        decide
      · intro t9 k9
        refine ⟨_, _, _, rfl, F', kst_newsOf N' (fun p hp => .tail _ (.tail _ hp)), ?_, rfl, ?_⟩
        · unfold Off4
          simp only [List.forall_mem_cons, List.not_mem_nil, false_implies, implies_true, and_true]
          exact off
        · rw [take_snoc encT hxi]
          exact strs_snoc hys _ _
end Mine
end
section
theorem Mine.rstD3 {M : PySem.Model} {A : PySem.Around} {pos : PySem.Pos} {env : PySem.Env} {Q : PySem.Flow → PySem.Shared → Prop} {E : PySem.Value → PySem.Shared → Prop} {s : PySem.Shared} (h : PySem.wpAny M A (PySem.exec (.Pass pos) env) Q E s) : PySem.wpAny M A (PySem.exec (.Pass pos) env) Q E s := by
  w_top off
  k_with_none
  first | (walk1; fail) | exact h
open PySem PySem.W PyProof.Rows PySem.Calls PyProof.V PySem.Spec
set_option Elab.async false
set_option linter.unusedVariables false
set_option maxRecDepth 100000
set_option maxHeartbeats 8000000
namespace Mine
section
/-- word = _law_misspelt(_law_misspelt(texts[n % 4], ..), ..) -/
theorem due_word {w : World} {loose : List Str} {mean : ExcName → Option Value} {mg mb : Str → Option Value} {dp un : Nat} {gd : Option (List Code)} {cn : Str} {cs : Scope} {Lc ac : Addr} {ccd : Value} {cl : List (Str × Addr)} {outer : List Env}
    {g : Heap} {L : Addr} {s : Shared} {m : Str → Option Value} {Q : Flow → Shared → Prop} {E : Value → Shared → Prop}
    {nm qual : Str} {params : Arguments} {body bd oe : List Stmt} {tg1 it1 : Expr} {ps1 : Pos} {st : Stmt} {scope : Scope} {dV kV doc pm cdv ct oc : Value} {an od : Option Addr} {osl : Array (Option Value)}
    {n : Int} {tn : Tok} {TX : Addr} {txs : List Value} {xs : List Str} {ow on : Obj} {vw : Option Value} {own : List (Addr × Obj)} {adr : List Addr}
    (hK : (Mine.hd.heap_39 w.params).lookup 187 = some ⟨oc, od, .func (fnOf nm qual params body scope dV kV doc pm an cdv ct), osl⟩)
    (hst0 : body[3]? = some (.For tg1 it1 bd oe ps1)) (hst : bd[0]? = some st)
    (X : (Mine.hd.heap_39 w.params).In g) (T : Top Mine.hd.view_39 loose mean mg mb g) (hd : dp + 12 < recursionLimit) (hu : un + 120 < cLine)
    (F : Fr g L s.heap m) (N : News g L s.heap ((L + 1 + 1 + 1, ow) :: (L + 1 + 1, on) :: (TX, LCg.lst txs) :: own)) (hlt : @Ne Nat TX (L + 1 + 1 + 1)) (hoff : OwnOff own ((L + 1 + 1 + 1) :: adr))
    (dw : ow.data = .cell vw) (dn : on.data = .cell (some (.int n tn))) (htx : StrsAre txs xs) (h4 : xs.length = 4)
    (h1 : m (Str.ofString "texts") = some (.ref TX)) (lx : ∀ x ∈ xs, x.length ≤ 4)
    (hQ : ∀ t ow' h' tk', Fr g L h' m → News g L h' ((L + 1 + 1 + 1, ow') :: (L + 1 + 1, on) :: (TX, LCg.lst txs) :: own) → ow'.data = .cell (some (.str (wordOf xs n) t)) → (wordOf xs n).length ≤ 10 → Q .next { s with heap := h', toks := tk' }) :
    wpAny (model PySem.Challenge.rw_pa0071_01.row.prog w) ((ktrTop dp un gd cn cs Lc ac ccd cl outer).deeper (envOfC qual scope L 187 cdv)) (exec st (envOfC qual scope L 187 cdv)) Q E s := by
  k_with_none
  k_with "own" => (k_here; (with_reducible show wpAny _ _ (subscriptTail _ _ (Value.ref _) (Value.int (Int.fmod _ 4) _)) _ _ _); k_dflt (refine' pick4 ?k1 ?k2 ?k3 ?k4 ?_ ?k5; (case k1 => k_asm); (case k2 => k_mem); (case k3 => with_reducible assumption); (case k4 => with_reducible assumption); (case k5 => with_unfolding_all rfl); k_whole); intro _)
  k_with "own" => (k_here; (with_reducible show wpAny _ _ (call (Value.ref 170) [Value.str _ _, Value.int _ _, Value.int _ _]) _ _ _); k_dflt (refine' mis_use ?k1 ?k2 ?k3 ?k4 ?kd ?ku ?kla ?kp ?kq ?ky ?kz ?_; (case k1 => k_asm); (case k2 => k_asm); (case k3 => k_asm); (case k4 => k_asm); (case kd => ktr_room); (case ku => ktr_units); (case kla => omega); (case kp => exact fm0 _); (case kq => exact fm1 _ _); (case ky => exact fm0 _); (case kz => exact fm1 _ _)); intro _ _ _ _ _ _; (try dsimp only); (try k_fold))
  refine wpAny_mono (E := fun _ _ => False) ?_ (fun _ _ x => x) (fun _ _ x => x.elim)
  revert X; k_fill; intro X
  have e := lookEq (by k_is) hK
  clear hK
  have hst1 : (loopAt body 3)[0]? = some st := by (unfold loopAt; rw [hst0]; exact hst)
  clear hst0 hst
  obtain ⟨rfl, rfl, rfl, rfl⟩ := useK e
  clear e
  dsimp only [scopeP, qualP, codeP]
  obtain rfl := Option.some.inj hst1
  clear hst1
  have hpins : ∀ p ∈ [(Str.ofString "texts", Value.ref TX)], m p.1 = some p.2 := all1 h1
  have F4 := pinAll _ F hpins
  rw [show m = pinL [(Str.ofString "texts", Value.ref TX)] m from (pinL_eq hpins).symm] at hQ
  clear F h1 hpins
  dsimp only [pinL] at F4 hQ
  have lt := textAt_len (n := n) lx
  repeat' (first | (k_unfold; (try dsimp only)) | (k_end; wrow_close) | k_extra "own" | walk1 | (dsimp only; k_extra "own") | (dsimp only; walk1) | (leave1; walk_say "STEP leave1"; try dsimp only) | fail "no step")
  unfold wordOf at hQ
  exact hQ _ _ _ _ (by with_reducible assumption) (by with_reducible assumption) (by with_reducible assumption) (by omega)
end
end Mine
end
section
theorem Mine.rstAp4 {M : PySem.Model} {A : PySem.Around} {pos : PySem.Pos} {env : PySem.Env} {Q : PySem.Flow → PySem.Shared → Prop} {E : PySem.Value → PySem.Shared → Prop} {s : PySem.Shared} (h : PySem.wpAny M A (PySem.exec (.Pass pos) env) Q E s) : PySem.wpAny M A (PySem.exec (.Pass pos) env) Q E s := by
  w_top off
  k_with_none
  first | (walk1; fail) | exact h
open PySem PySem.W PyProof.Rows PySem.Calls PyProof.V PySem.Spec
set_option Elab.async false
set_option linter.unusedVariables false
set_option maxRecDepth 100000
set_option maxHeartbeats 8000000
namespace Mine
theorem ap_all {w : World} {loose : List Str} {mean : ExcName → Option Value} {mg mb : Str → Option Value} (N : Nat) : ∀ n, n < N → n ≤ 14 → ApHolds w loose mean mg mb n := by
  induction N with
  | zero => exact fun n h _ => absurd h (Nat.not_lt_zero _)
  | succ N ih => exact fun n h h14 => ap_step h14 fun n' hn' => ih n' (Nat.lt_of_lt_of_le hn' (Nat.le_of_lt_succ h)) (Nat.le_trans (Nat.le_of_lt hn') h14)
/-- the call with a dict that is new and empty -/
theorem ap_call {w : World} {loose : List Str} {mean : ExcName → Option Value} {mg mb : Str → Option Value} {dp un : Nat} {gd : Option (List Code)} {cn : Str} {cs : Scope} {Lc ac : Addr} {ccd : Value} {cl : List (Str × Addr)} {outer : List Env}
    {g : Heap} {L : Addr} {s : Shared} {m : Str → Option Value} {news : List (Addr × Obj)} {Q E : Value → Shared → Prop} {a b : Str} {ta tb : Tok} {d : Addr} {o : Obj} {K' : Type} [DecidableEq K'] {knd' : KeyKind prg w K'}
    (X : (Mine.hd.heap_39 w.params).In g) (T : Top Mine.hd.view_39 loose mean mg mb g) (F : Fr g L s.heap m) (N : News g L s.heap ((d, o) :: news)) (hdo : o.IsDictOf knd' []) (lo : (d == sysModules) = false) (hoff : ∀ p ∈ news, p.1 ≠ d)
    (hn : a.length + b.length ≤ 14) (hd : dp + 20 < recursionLimit) (hu : un + 100 < cLine)
    (hret : ∀ (t : Tok) h' tk', Fr g L h' m → News g L h' news → Q (.int (D sc (tl a) (tl b)) t) { s with heap := h', toks := tk' }) :
    wpAny (model PySem.Challenge.rw_pa0071_01.row.prog w) (ktrTop dp un gd cn cs Lc ac ccd cl outer) (call (.ref 182) [.str a ta, .str b tb, .ref d]) Q E s := by
  have M : Memo w ((d, o) :: news) d 0 := ⟨[], TupTab.ofEmpty (.head _) lo hdo, (fun x y dv h => by (cases h)), Nat.le_refl _⟩
  refine ap_all 15 14 (by decide) (Nat.le_refl _) (k := 0) X T F N M hn (by decide) (by omega) (by omega) fun t h' tk' news' F' N' M' S => ?_
  exact hret t h' tk' F' (fun p hp => N' p (S p (.tail _ hp) (hoff p hp)))
end Mine
end
section
theorem Mine.rstD4 {M : PySem.Model} {A : PySem.Around} {pos : PySem.Pos} {env : PySem.Env} {Q : PySem.Flow → PySem.Shared → Prop} {E : PySem.Value → PySem.Shared → Prop} {s : PySem.Shared} (h : PySem.wpAny M A (PySem.exec (.Pass pos) env) Q E s) : PySem.wpAny M A (PySem.exec (.Pass pos) env) Q E s := by
  w_top off
  k_with_none
  first | (walk1; fail) | exact h
open PySem PySem.W PyProof.Rows PySem.Calls PyProof.V PySem.Spec
set_option Elab.async false
set_option linter.unusedVariables false
set_option maxRecDepth 100000
set_option maxHeartbeats 8000000
namespace Mine
theorem allLt_ne {d : Nat} {l : List (Addr × Obj)} (h : AllLt d l) : ∀ p ∈ l, p.1 ≠ d := fun p hp => Nat.ne_of_lt (allLt_mem h p hp)
section
/-- near = [(_levenshtein_distance(word, one, 100), one) for one in texts] -/
theorem due_near {w : World} {loose : List Str} {mean : ExcName → Option Value} {mg mb : Str → Option Value} {dp un : Nat} {gd : Option (List Code)} {cn : Str} {cs : Scope} {Lc ac : Addr} {ccd : Value} {cl : List (Str × Addr)} {outer : List Env}
    {g : Heap} {L : Addr} {s : Shared} {m : Str → Option Value} {Q : Flow → Shared → Prop} {E : Value → Shared → Prop}
    {nm qual : Str} {params : Arguments} {body bd oe : List Stmt} {tg1 it1 : Expr} {ps1 : Pos} {st : Stmt} {scope : Scope} {dV kV doc pm cdv ct oc : Value} {an od : Option Addr} {osl : Array (Option Value)}
    {word : Str} {tw : Tok} {TX : Addr} {txs : List Value} {xs : List Str} {ow : Obj} {news : List (Addr × Obj)}
    (hK : (Mine.hd.heap_39 w.params).lookup 187 = some ⟨oc, od, .func (fnOf nm qual params body scope dV kV doc pm an cdv ct), osl⟩)
    (hst0 : body[3]? = some (.For tg1 it1 bd oe ps1)) (hst : bd[1]? = some st)
    (X : (Mine.hd.heap_39 w.params).In g) (T : Top Mine.hd.view_39 loose mean mg mb g) (hd : dp + 32 < recursionLimit) (hu : un + 320 < cLine)
    (F : Fr g L s.heap m) (N : News g L s.heap news) (hw : (L + 1 + 1 + 1, ow) ∈ news) (dw : ow.data = .cell (some (.str word tw))) (hx : (TX, LCg.lst txs) ∈ news) (htx : StrsAre txs xs)
    (h1 : m (Str.ofString "texts") = some (.ref TX)) (lw : word.length ≤ 10) (lx : ∀ x ∈ xs, x.length ≤ 4) (hz : txs.length ≤ 8)
    (hQ : ∀ NR ys nw h' tk', Fr g L h' (fun z => if z = Str.ofString "near" then some (.ref NR) else m z) → News g L h' ((NR, LCg.lst ys) :: (nw ++ news)) → DatAll nw ys (xs.map fun x => Dat.tuple [.int (D sc (tl word) (tl x)), .str x]) → LCg.Off1 NR (nw ++ news) → (∀ p ∈ nw, AllLt p.1 news) → Q .next { s with heap := h', toks := tk' }) :
    wpAny (model PySem.Challenge.rw_pa0071_01.row.prog w) ((ktrTop dp un gd cn cs Lc ac ccd cl outer).deeper (envOfC qual scope L 187 cdv)) (exec st (envOfC qual scope L 187 cdv)) Q E s := by
  k_with_none
  k_with "own" => (k_here; (with_reducible show wpAny _ _ (call (Value.ref 182) [Value.str _ _, Value.str _ _, Value.ref _]) _ _ _); k_dflt (refine' ap_call (K' := Str) ?k1 ?k2 ?k3 ?k4 ?hdo ?lo ?hoff ?hn ?kd ?ku ?_; (case k1 => k_asm); (case k2 => k_asm); (case k3 => k_asm); (case k4 => k_asm); (case hdo => with_reducible assumption); (case lo => with_reducible assumption); (case hoff => (rename (_ ∧ _ ∧ _ ∧ _ ∧ AllLt _ _) => l9; exact allLt_ne l9)); (case hn => omega); (case kd => ((try simp only [depth_deeper]); (try dsimp only [ktrTop]); omega)); (case ku => ((try simp only [units_deeper]); (try dsimp only [ktrTop]); omega))); intro _ _ _ _ _; (try (rename Obj.IsDictOf _ _ _ => z1; clear z1)); (try (rename Obj.IsDictOf _ _ _ => z1; clear z1)); (try (rename FlatPairs _ _ _ => z1; clear z1)); (try (rename FlatPairs _ _ _ => z1; clear z1)); (try dsimp only); (try k_fold))
  refine wpAny_mono (E := fun _ _ => False) ?_ (fun _ _ x => x) (fun _ _ x => x.elim)
  revert X; k_fill; intro X
  have e := lookEq (by k_is) hK
  clear hK
  have hst1 : (loopAt body 3)[1]? = some st := by (unfold loopAt; rw [hst0]; exact hst)
  clear hst0 hst
  obtain ⟨rfl, rfl, rfl, rfl⟩ := useK e
  clear e
  dsimp only [scopeP, qualP, codeP]
  obtain rfl := Option.some.inj hst1
  clear hst1
  have hpins : ∀ p ∈ [(Str.ofString "texts", Value.ref TX)], m p.1 = some p.2 := all1 h1
  have F4 := pinAll _ F hpins
  rw [show m = pinL [(Str.ofString "texts", Value.ref TX)] m from (pinL_eq hpins).symm] at hQ
  clear F h1 hpins
  dsimp only [pinL] at F4 hQ
  k_dflt (refine LCg.Assign_ListComp_U (F₀ := F4) (by rfl) (by with_unfolding_all rfl) (by with_unfolding_all rfl) (by decide) (by rfl) (by decide) (by rfl) (by rfl) (by rfl) ?_)
  repeat' ((fail_if_success (with_reducible show LCg.CompSrc _ _ _ _ _ _ _ _ _ _ _ _ _ _)); (first | (k_unfold; (try dsimp only)) | (k_end; wrow_close) | k_extra "own" | walk1 | (dsimp only; k_extra "own") | (dsimp only; walk1)))
  refine Or.inl ⟨TX, txs.toArray, news, rfl, rfl, F4, N, .inr ⟨_, hx, rfl, _, rfl⟩, ?_, fun s₂ hs₂ => ?_⟩
  · rw [List.size_toArray]; exact Nat.le_trans hz (by decide)
  obtain ⟨g', rfl⟩ := hs₂
  refine comp_rest (fun i ys news' => ∃ nw, news' = nw ++ news ∧ DatAll nw ys ((xs.take i).map fun x => Dat.tuple [.int (D sc (tl word) (tl x)), .str x]) ∧ ∀ p ∈ nw, AllLt p.1 news) ?_ ?_ _ 0 [] news (by simp) ⟨[], rfl, .nil, fun _ h => nomatch h⟩
  · rintro i v ys news' I oI C oC Dd m₂ h tk E' hv ⟨nw, rfl, hys, hgt⟩ hC hx2 F5 N5 off ne
    obtain ⟨x, tx, rfl, hxi⟩ := strs_get htx i v (by simpa using hv)
    have lx' := lx x (List.mem_of_getElem? hxi)
    have N6 : News g L h ((L + 1 + 1 + 1, ow) :: (I, oI) :: (C, oC) :: (Dd, LCg.lst ys) :: (nw ++ news)) := kst_newsOf N5 (fun p hp => by
      rcases List.mem_cons.mp hp with rfl | hp
      · exact .tail _ (.tail _ (.tail _ (List.mem_append_right _ hw)))
      · exact hp)
    clear N5 N F4 hQ
    repeat' (first | (k_unfold; (try dsimp only)) | (k_end; wrow_close) | k_extra "own" | walk1 | (dsimp only; k_extra "own") | (dsimp only; walk1) | (leave1; walk_say "STEP leave1"; try dsimp only) | fail "no step")
    rename Fr _ _ _ _ => F7
    rename News _ _ _ (_ :: _ :: _) => N7
    rename (_ ∧ _ ∧ _ ∧ _ ∧ AllLt _ _) => l1
    refine comp_end F7 N7 l1.2.1 l1.2.2.1 l1.2.2.2.1 off (fun p hp => ?_) (.inr ⟨_, List.mem_append_right _ hx, rfl, _, rfl⟩) ?_
    · rcases List.mem_cons.mp hp with rfl | hp
      · exact .tail _ (.head _)
      rcases List.mem_cons.mp hp with rfl | hp
      · exact .tail _ (.tail _ (.head _))
      rcases List.mem_cons.mp hp with rfl | hp
      · exact .tail _ (.tail _ (.tail _ (.head _)))
      · exact .tail _ (.tail _ (.tail _ (.tail _ hp)))
    · refine ⟨_ :: nw, rfl, ?_, fun p hp => ?_⟩
      rotate_left
      · rcases List.mem_cons.mp hp with rfl | hp
        · exact allLt_drop l1.2.2.2.2
        · exact hgt p hp
      rw [take_snoc _ hxi]
      exact (hys.mono fun p hp => .tail _ hp).append (.one (.tuple (.head _) (.cons (.int _ _) (.cons (.str _ _) .nil))))
  · rintro ys news' ⟨nw, rfl, hys, hgt⟩
    intro D' h' tk' F' N' o1'
    refine hQ _ _ _ _ _ F' N' ?_ o1' hgt
    rw [List.size_toArray, strs_len htx, List.take_length] at hys
    exact hys
end
end Mine
end
section
theorem Mine.rstD5 {M : PySem.Model} {A : PySem.Around} {pos : PySem.Pos} {env : PySem.Env} {Q : PySem.Flow → PySem.Shared → Prop} {E : PySem.Value → PySem.Shared → Prop} {s : PySem.Shared} (h : PySem.wpAny M A (PySem.exec (.Pass pos) env) Q E s) : PySem.wpAny M A (PySem.exec (.Pass pos) env) Q E s := by
  w_top off
  k_with_none
  first | (walk1; fail) | exact h
open PySem PySem.W PyProof.Rows PySem.Calls PyProof.V PySem.Spec
set_option Elab.async false
set_option linter.unusedVariables false
set_option maxRecDepth 100000
set_option maxHeartbeats 8000000
namespace Mine
section
variable {prog : Program} {w : World} {A : Around} {s : Shared} {env : Env}
/-- the turns of a comprehension over pairs, by a step -/
theorem comp_restP {h₀ : Heap} {L : Addr} {m : Str → Option Value} {elt : Expr} {x x₂ : Str} {scope : Scope} {cl : List (Str × Addr)} {S : List (Addr × Obj) → Prop} {its : Array Value} {Fin : List Value → List (Addr × Obj) → Prop} (R : Nat → List Value → List (Addr × Obj) → Prop)
    (step : ∀ i v ys news, its[i]? = some v → R i ys news → ∃ (t : Addr) (ot : Obj) (v₁ v₂ : Value) (nt : Nat), v = .ref t ∧ (t, ot) ∈ news ∧ ot.cls = .type "tuple" ∧ ot.data = .seq #[v₁, v₂] nt ∧
      ∀ I oI C oC D m₂ h tk (E' : Value → Shared → Prop), LCg.NsObj oC m₂ → m₂ x = some v₁ → m₂ x₂ = some v₂ → Fr h₀ L h m → News h₀ L h ((I, oI) :: (C, oC) :: (D, LCg.lst ys) :: news) → LCg.Off3 I C D news → ((@Ne Nat I C) ∧ (@Ne Nat I D) ∧ (@Ne Nat C D)) →
      wpAny (model prog w) A (eval elt (compEnvC scope cl C env)) (LCg.CompEnd h₀ L m { s with heap := h, toks := tk } I oI C oC D (LCg.lst ys) S (fun y news' => R (i + 1) (ys ++ [y]) news')) E' { s with heap := h, toks := tk })
    (fin : ∀ ys news, R its.size ys news → Fin ys news) :
    ∀ k i ys news, i + k = its.size → R i ys news → LCp.CompRestP prog w A h₀ L m env elt x x₂ scope cl s S (fun i v => its[i]? = some v) Fin k i ys news
  | 0, i, ys, news, hk, hR => LCp.CompRestP.zero (fin _ _ (by simpa [← hk] using hR))
  | k + 1, i, ys, news, hk, hR => LCp.CompRestP.succ fun v hv => by
      obtain ⟨t, ot, v₁, v₂, nt, e1, e2, e3, e4, st⟩ := step i v ys news hv hR
      exact ⟨t, ot, v₁, v₂, nt, e1, e2, e3, e4, fun I oI C oC D m₂ h tk E' hC hx hx2 F N off ne =>
        wpAny_mono (st I oI C oC D m₂ h tk E' hC hx hx2 F N off ne) (fun y s₂ ⟨h', tk', news', e, F', N', off', hS, hR'⟩ => ⟨h', tk', news', e, F', N', off', hS, comp_restP R step fin k (i + 1) _ _ (by omega) hR'⟩) fun _ _ z => z⟩
end
theorem pAt_get {ps : List (Int × Str)} {i : Nat} (h : i < ps.length) : ps[i]? = some (pAt ps i) := by
  unfold pAt
  rw [List.getD_eq_getElem?_getD, List.getElem?_eq_getElem h]; rfl
/-- bounded = [min(far, n % 7 + 1) for far, one in near] -/
theorem due_bounded {w : World} {loose : List Str} {mean : ExcName → Option Value} {mg mb : Str → Option Value} {dp un : Nat} {gd : Option (List Code)} {cn : Str} {cs : Scope} {Lc ac : Addr} {ccd : Value} {cl : List (Str × Addr)} {outer : List Env}
    {g : Heap} {L : Addr} {s : Shared} {m : Str → Option Value} {Q : Flow → Shared → Prop} {E : Value → Shared → Prop}
    {nm qual : Str} {params : Arguments} {body bd oe : List Stmt} {tg1 it1 : Expr} {ps1 : Pos} {st : Stmt} {scope : Scope} {dV kV doc pm cdv ct oc : Value} {an od : Option Addr} {osl : Array (Option Value)}
    {n : Int} {tn : Tok} {NR : Addr} {ys : List Value} {ps : List (Int × Str)} {on : Obj} {news : List (Addr × Obj)}
    (hK : (Mine.hd.heap_39 w.params).lookup 187 = some ⟨oc, od, .func (fnOf nm qual params body scope dV kV doc pm an cdv ct), osl⟩)
    (hst0 : body[3]? = some (.For tg1 it1 bd oe ps1)) (hst : bd[3]? = some st)
    (X : (Mine.hd.heap_39 w.params).In g) (T : Top Mine.hd.view_39 loose mean mg mb g) (hd : dp + 12 < recursionLimit) (hu : un + 120 < cLine)
    (F : Fr g L s.heap m) (N : News g L s.heap news) (hn : (L + 1 + 1, on) ∈ news) (dn : on.data = .cell (some (.int n tn))) (hx : (NR, LCg.lst ys) ∈ news) (hys : DatAll news ys (ps.map pairD))
    (h1 : m (Str.ofString "near") = some (.ref NR)) (hz : ps.length ≤ 8)
    (hQ : ∀ BR zs h' tk', Fr g L h' (fun z => if z = Str.ofString "bounded" then some (.ref BR) else m z) → News g L h' ((BR, LCg.lst zs) :: news) → DatAll [] zs (ps.map fun p => Dat.int (bnd (n.fmod 7) p.1)) → LCg.Off1 BR news → Q .next { s with heap := h', toks := tk' }) :
    wpAny (model PySem.Challenge.rw_pa0071_01.row.prog w) ((ktrTop dp un gd cn cs Lc ac ccd cl outer).deeper (envOfC qual scope L 187 cdv)) (exec st (envOfC qual scope L 187 cdv)) Q E s := by
  refine wpAny_mono (E := fun _ _ => False) ?_ (fun _ _ x => x) (fun _ _ x => x.elim)
  revert X; k_fill; intro X
  have e := lookEq (by k_is) hK
  clear hK
  have hst1 : (loopAt body 3)[3]? = some st := by (unfold loopAt; rw [hst0]; exact hst)
  clear hst0 hst
  obtain ⟨rfl, rfl, rfl, rfl⟩ := useK e
  clear e
  dsimp only [scopeP, qualP, codeP]
  obtain rfl := Option.some.inj hst1
  clear hst1
  have hpins : ∀ p ∈ [(Str.ofString "near", Value.ref NR)], m p.1 = some p.2 := all1 h1
  have F4 := pinAll _ F hpins
  rw [show m = pinL [(Str.ofString "near", Value.ref NR)] m from (pinL_eq hpins).symm] at hQ
  clear F h1 hpins
  dsimp only [pinL] at F4 hQ
  have hl := datAll_len hys
  k_dflt (refine LCp.Assign_ListComp_P (F₀ := F4) (by rfl) (by with_unfolding_all rfl) (by with_unfolding_all rfl) (by decide) (by rfl) (by decide) (by rfl) (by rfl) (by decide) (by rfl) (by rfl) ?_)
  repeat' ((fail_if_success (with_reducible show LCp.SrcLP _ _ _ _ _ _ _ _ _ _ _ _ _ _ _)); (first | (k_unfold; (try dsimp only)) | (k_end; wrow_close) | walk1 | (dsimp only; walk1)))
  refine LCp.SrcLP.ledger (its := ys.toArray) rfl F4 N hx ?_ fun g' => ?_
  · rw [List.size_toArray, hl]; exact Nat.le_trans hz (by decide)
  refine comp_restP (fun i zs news' => news = news' ∧ DatAll [] zs ((ps.take i).map fun p => Dat.int (bnd (n.fmod 7) p.1))) ?_ ?_ _ 0 [] news (by simp) ⟨rfl, .nil⟩
  · rintro i v zs news' hv ⟨rfl, hzs⟩
    obtain ⟨t, t1, u1, nt, rfl, hmem⟩ := pairs_get hys i v (by simpa using hv)
    have hi : i < ps.length := by
      have := (Array.getElem?_eq_some_iff.mp hv).1
      simpa [hl] using this
    have hxi := pAt_get hi
    refine ⟨t, _, _, _, nt, rfl, hmem, rfl, rfl, ?_⟩
    intro I oI C oC Dd m₂ h tk E' hC hx1 hx2 F5 N5 off ne
    have N6 : News g L h ((L + 1 + 1, on) :: (I, oI) :: (C, oC) :: (Dd, LCg.lst zs) :: news) := kst_newsOf N5 (fun p hp => by
      rcases List.mem_cons.mp hp with rfl | hp
      · exact .tail _ (.tail _ (.tail _ hn))
      · exact hp)
    clear N5 N F4 hQ
    k_steps
    rename Fr _ _ _ _ => F7
    rename News _ _ _ (_ :: _ :: _) => N7
    refine comp_endV F7 N7 off (fun p hp => .tail _ hp) (.inr ⟨_, hx, rfl, _, rfl⟩) ⟨rfl, ?_⟩
    rw [take_snoc _ hxi]
    exact hzs.append (.one (.int _ _))
  · rintro zs news' ⟨rfl, hzs⟩
    intro D' h' tk' F' N' o1'
    refine hQ _ _ _ _ F' N' ?_ o1'
    rw [List.size_toArray, hl, List.take_length] at hzs
    exact hzs
end Mine
end
section
theorem Mine.rstD6 {M : PySem.Model} {A : PySem.Around} {pos : PySem.Pos} {env : PySem.Env} {Q : PySem.Flow → PySem.Shared → Prop} {E : PySem.Value → PySem.Shared → Prop} {s : PySem.Shared} (h : PySem.wpAny M A (PySem.exec (.Pass pos) env) Q E s) : PySem.wpAny M A (PySem.exec (.Pass pos) env) Q E s := by
  w_top off
  k_with_none
  first | (walk1; fail) | exact h
open PySem PySem.W PyProof.Rows PySem.Calls PyProof.V PySem.Spec PySem.MeetsSeq
set_option Elab.async false
set_option linter.unusedVariables false
set_option maxRecDepth 100000
set_option maxHeartbeats 8000000
namespace Mine
theorem news_drop23 {g h : Heap} {L : Addr} {a b c : Addr × Obj} {r : List (Addr × Obj)} (N : News g L h (a :: b :: c :: r)) : News g L h (a :: r) := kst_newsOf N (fun p hp => by
  rcases List.mem_cons.mp hp with rfl | hp
  · exact .head _
  · exact .tail _ (.tail _ (.tail _ hp)))
def isStrV (x : Str) : Value → Bool
  | .str y _ => y == x
  | _ => false
theorem strs_mem {vs : List Value} {xs : List Str} (h : StrsAre vs xs) : ∀ v ∈ vs, ∃ x t, v = .str x t := by
  induction h with
  | nil => intro v hv; cases hv
  | cons y t _ ih =>
    intro v hv
    rcases List.mem_cons.mp hv with rfl | hv
    · exact ⟨y, t, rfl⟩
    · exact ih v hv
theorem index_use {prog : Program} {w : World} {A : Around} {E : Value → Shared → Prop} {s : Shared} {h₀ : Heap} {L TX : Addr} {news : List (Addr × Obj)} {txs : List Value} {xs : List Str} {x : Str} {u : Tok} {Q : Value → Shared → Prop} {j : Nat}
    (N : News h₀ L s.heap news) (hm : (TX, LCg.lst txs) ∈ news) (hx : StrsAre txs xs) (hj : xs[j]? = some x) (hno : ∀ i, i < j → xs[i]? ≠ some x) (h8 : xs.length ≤ 8)
    (h : ∀ t k, Q (.int (j : Nat) t) { s with toks := k }) : wpAny (model prog w) A (call (.builtin "list.index") [.ref TX, .str x u]) Q E s := by
  have ho := (N _ hm).1
  have hlen := strs_len hx
  have hjl : j < xs.length := (List.getElem?_eq_some_iff.mp hj).1
  refine call_meets PySem.F.slot_list_index ⟨_, ho, rfl⟩ PySem.F.entry_list_index (PySem.F.args_list_index_2 _ _)
    (list_index TX txs.toArray txs.length (.str x u) (isStrV x) (fun y hy => ?_) j (by rw [List.size_toArray]; omega) (by omega) ?_ ?_) ⟨ho, h _ _⟩
  · obtain ⟨z, t, rfl⟩ := strs_mem hx y (by simpa using hy)
    exact eqGives_str _ _ _ _
  · obtain ⟨z, t, e, hz⟩ := strs_get hx j (txs[j]'(by omega)) (List.getElem?_eq_getElem (by omega))
    rw [hj] at hz
    cases hz
    show isStrV x (txs[j]'_) = true
    rw [e]
    exact beq_self_eq_true x
  · intro i hi hij
    obtain ⟨z, t, e, hz⟩ := strs_get hx i (txs[i]'(by omega)) (List.getElem?_eq_getElem (by omega))
    show isStrV x (txs[i]'_) = false
    rw [e]
    have := hno i hij
    rw [hz] at this
    exact beq_eq_false_iff_ne.mpr fun q => this (by rw [q])
theorem best_ix (word : Str) : texts4[bestIx (pairsOf word)]? = some (pAt (pairsOf word) (bestIx (pairsOf word))).2 ∧ ∀ i, i < bestIx (pairsOf word) → texts4[i]? ≠ some (pAt (pairsOf word) (bestIx (pairsOf word))).2 := by
  have hd : ∀ j, j < 4 → ∀ i, i < j → texts4[i]? ≠ some (texts4.getD j ⟨#[]⟩) := by decide +kernel
  have h : bestIx (pairsOf word) ≤ 3 := argBest_le _ 3
  have e : (pAt (pairsOf word) (bestIx (pairsOf word))).2 = texts4.getD (bestIx (pairsOf word)) ⟨#[]⟩ := by
    rcases best_cases word with ⟨e1, e2⟩ | ⟨e1, e2⟩ | ⟨e1, e2⟩ | ⟨e1, e2⟩ <;> rw [e2, e1] <;> rfl
  rw [e]
  refine ⟨?_, hd _ (by omega)⟩
  have hl : bestIx (pairsOf word) < texts4.length := by show _ < 4; omega
  rw [List.getElem?_eq_getElem hl, List.getD_eq_getElem?_getD, List.getElem?_eq_getElem hl]; rfl
theorem pick4S {prog : Program} {w : World} {A : Around} {E : Value → Shared → Prop} {s : Shared} {value slice : PySem.Expr} {h₀ : Heap} {L l : Addr} {news : List (Addr × Obj)} {t1 t2 t3 t4 : Tok} {k j : Nat} {u : Tok} {Q : Value → Shared → Prop}
    (N : News h₀ L s.heap news) (hm : (l, W.listOf #[.str (Str.ofString "-rw-r--r--") t1, .str (Str.ofString "drwxr-xr-x") t2, .str (Str.ofString "lrwsrwxrwx") t3, .str (Str.ofString "prw------T") t4] k) ∈ news) (hj : j ≤ 3) (h : ∀ t, Q (.str (modeS j) t) s)
    (hs : subscripted slice false (.ref l) (.int (j : Nat) u) = operate [.ref l, .int (j : Nat) u] (getItem (.ref l) (.int (j : Nat) u)) := by with_unfolding_all rfl) :
    wpAny (model prog w) A (subscriptTail value slice (.ref l) (.int (j : Nat) u)) Q E s := by
  have hi : j = 0 ∨ j = 1 ∨ j = 2 ∨ j = 3 := by omega
  rcases hi with rfl | rfl | rfl | rfl
  · exact pick_list N hm (by decide) (by decide) rfl (h t1) hs
  · exact pick_list N hm (by decide) (by decide) rfl (h t2) hs
  · exact pick_list N hm (by decide) (by decide) rfl (h t3) hs
  · exact pick_list N hm (by decide) (by decide) rfl (h t4) hs
theorem pick4I {prog : Program} {w : World} {A : Around} {E : Value → Shared → Prop} {s : Shared} {value slice : PySem.Expr} {h₀ : Heap} {L l : Addr} {news : List (Addr × Obj)} {t1 t2 t3 t4 : Tok} {k j : Nat} {u : Tok} {Q : Value → Shared → Prop}
    (N : News h₀ L s.heap news) (hm : (l, W.listOf #[.int 7 t1, .int 77 t2, .int 147 t3, .int 217 t4] k) ∈ news) (hj : j ≤ 3) (h : ∀ t, Q (.int (octI j) t) s)
    (hs : subscripted slice false (.ref l) (.int (j : Nat) u) = operate [.ref l, .int (j : Nat) u] (getItem (.ref l) (.int (j : Nat) u)) := by with_unfolding_all rfl) :
    wpAny (model prog w) A (subscriptTail value slice (.ref l) (.int (j : Nat) u)) Q E s := by
  have hi : j = 0 ∨ j = 1 ∨ j = 2 ∨ j = 3 := by omega
  rcases hi with rfl | rfl | rfl | rfl
  · exact pick_list N hm (by decide) (by decide) rfl (h t1) hs
  · exact pick_list N hm (by decide) (by decide) rfl (h t2) hs
  · exact pick_list N hm (by decide) (by decide) rfl (h t3) hs
  · exact pick_list N hm (by decide) (by decide) rfl (h t4) hs
section
/-- place = texts.index(min(near)[1]) -/
theorem due_place {w : World} {loose : List Str} {mean : ExcName → Option Value} {mg mb : Str → Option Value} {dp un : Nat} {gd : Option (List Code)} {cn : Str} {cs : Scope} {Lc ac : Addr} {ccd : Value} {cl : List (Str × Addr)} {outer : List Env}
    {g : Heap} {L : Addr} {s : Shared} {m : Str → Option Value} {Q : Flow → Shared → Prop} {E : Value → Shared → Prop}
    {nm qual : Str} {params : Arguments} {body bd oe : List Stmt} {tg1 it1 : Expr} {ps1 : Pos} {st : Stmt} {scope : Scope} {dV kV doc pm cdv ct oc : Value} {an od : Option Addr} {osl : Array (Option Value)}
    {word : Str} {NR TX : Addr} {ys txs : List Value} {news : List (Addr × Obj)}
    (hK : (Mine.hd.heap_39 w.params).lookup 187 = some ⟨oc, od, .func (fnOf nm qual params body scope dV kV doc pm an cdv ct), osl⟩)
    (hst0 : body[3]? = some (.For tg1 it1 bd oe ps1)) (hst : bd[2]? = some st)
    (X : (Mine.hd.heap_39 w.params).In g) (T : Top Mine.hd.view_39 loose mean mg mb g) (hd : dp + 32 < recursionLimit) (hu : un + 320 < cLine)
    (F : Fr g L s.heap m) (N : News g L s.heap news) (hx : (NR, LCg.lst ys) ∈ news) (hys : DatAll news ys ((pairsOf word).map pairD)) (hxt : (TX, LCg.lst txs) ∈ news) (htx : StrsAre txs texts4)
    (h1 : m (Str.ofString "near") = some (.ref NR)) (h2 : m (Str.ofString "texts") = some (.ref TX))
    (hQ : ∀ t h' tk', Fr g L h' (fun z => if z = Str.ofString "place" then some (.int (bestIx (pairsOf word) : Nat) t) else m z) → News g L h' news → Q .next { s with heap := h', toks := tk' }) :
    wpAny (model PySem.Challenge.rw_pa0071_01.row.prog w) ((ktrTop dp un gd cn cs Lc ac ccd cl outer).deeper (envOfC qual scope L 187 cdv)) (exec st (envOfC qual scope L 187 cdv)) Q E s := by
  k_with_none
  k_with "own" => (k_here; (with_reducible show wpAny _ _ (call (Value.builtin "min") [Value.ref _]) _ _ _); k_dflt (refine' min_use rfl ?ku ?k3 ?k4 ?km ?kd ?kn ?_; (case k3 => k_asm); (case k4 => k_asm); (case km => with_reducible assumption); (case kd => with_reducible assumption); (case ku => ktr_units); (case kn => exact Nat.succ_pos 3)); intro _ _ _ _ _ _ _ _ _; (try dsimp only); (try k_fold))
  k_with "own" => (k_here; (with_reducible show wpAny _ _ (subscriptTail _ _ (Value.ref _) (Value.int 1 _)) _ _ _); k_dflt (refine' pick_tup ?k1 ?k2 ?_ ?k5; (case k1 => k_asm); (case k2 => with_reducible assumption); (case k5 => with_unfolding_all rfl); k_whole))
  k_with "own" => (k_here; (with_reducible show wpAny _ _ (call (Value.builtin "list.index") [Value.ref _, Value.str (Prod.snd (pAt (pairsOf _) _)) _]) _ _ _); k_dflt (refine' index_use ?k1 ?k2 ?k3 ?k4 ?k5 ?k6 ?_; (case k1 => k_asm); (case k2 => with_reducible assumption); (case k3 => with_reducible assumption); (case k4 => exact (best_ix _).1); (case k5 => exact (best_ix _).2); (case k6 => decide)); intro _ _)
  refine wpAny_mono (E := fun _ _ => False) ?_ (fun _ _ x => x) (fun _ _ x => x.elim)
  revert X; k_fill; intro X
  have e := lookEq (by k_is) hK
  clear hK
  have hst1 : (loopAt body 3)[2]? = some st := by (unfold loopAt; rw [hst0]; exact hst)
  clear hst0 hst
  obtain ⟨rfl, rfl, rfl, rfl⟩ := useK e
  clear e
  dsimp only [scopeP, qualP, codeP]
  obtain rfl := Option.some.inj hst1
  clear hst1
  have hpins : ∀ p ∈ [(Str.ofString "near", Value.ref NR), (Str.ofString "texts", .ref TX)], m p.1 = some p.2 := allC h1 (all1 h2)
  have F4 := pinAll _ F hpins
  rw [show m = pinL [(Str.ofString "near", Value.ref NR), (Str.ofString "texts", .ref TX)] m from (pinL_eq hpins).symm] at hQ
  clear F h1 h2 hpins
  dsimp only [pinL] at F4 hQ
  repeat' (first | (k_unfold; (try dsimp only)) | (k_end; wrow_close) | k_extra "own" | walk1 | (dsimp only; k_extra "own") | (dsimp only; walk1) | (leave1; walk_say "STEP leave1"; try dsimp only) | fail "no step")
  exact hQ _ _ _ (by with_reducible assumption) (by with_reducible assumption)
end
section
/-- due.append([..]) -/
theorem due_append {w : World} {loose : List Str} {mean : ExcName → Option Value} {mg mb : Str → Option Value} {dp un : Nat} {gd : Option (List Code)} {cn : Str} {cs : Scope} {Lc ac : Addr} {ccd : Value} {cl : List (Str × Addr)} {outer : List Env}
    {g : Heap} {L : Addr} {s : Shared} {m : Str → Option Value} {Q : Flow → Shared → Prop} {E : Value → Shared → Prop}
    {nm qual : Str} {params : Arguments} {body bd oe sts : List Stmt} {tg1 it1 : Expr} {ps1 : Pos} {scope : Scope} {dV kV doc pm cdv ct oc : Value} {an od : Option Addr} {osl : Array (Option Value)}
    {tw tj : Tok} {TD NR BR TX : Addr} {vs : Array Value} {k j : Nat} {ow : Obj} {rest : List (Addr × Obj)} {adr : List Addr} {word : Str}
    (hK : (Mine.hd.heap_39 w.params).lookup 187 = some ⟨oc, od, .func (fnOf nm qual params body scope dV kV doc pm an cdv ct), osl⟩)
    (hst0 : body[3]? = some (.For tg1 it1 bd oe ps1)) (hst : bd.drop 4 = sts)
    (X : (Mine.hd.heap_39 w.params).In g) (T : Top Mine.hd.view_39 loose mean mg mb g) (hd : dp + 32 < recursionLimit) (hu : un + 320 < cLine)
    (F : Fr g L s.heap m) (N : News g L s.heap ((TD, W.listOf vs k) :: (L + 1 + 1 + 1, ow) :: rest)) (hlt : @LT.lt Nat _ (L + 1 + 1 + 1) TD) (hoff : OwnOff rest (TD :: adr)) (hvs : vs.size ≤ 100)
    (dw : ow.data = .cell (some (.str word tw))) (hj : j ≤ 3)
    (h1 : m (Str.ofString "texts") = some (.ref TX)) (h2 : m (Str.ofString "due") = some (.ref TD)) (h3 : m (Str.ofString "near") = some (.ref NR)) (h4 : m (Str.ofString "bounded") = some (.ref BR)) (h5 : m (Str.ofString "place") = some (.int (j : Nat) tj))
    (hQ : ∀ RW vw t1 t2 t3 k1 k' h' tk' m', Fr g L h' m' → News g L h' ((RW, W.listOf #[.str word vw, .ref NR, .ref BR, .str (modeS j) t1, .int (octI j) t2, .int 3 t3] k1) :: (TD, W.listOf (vs.push (.ref RW)) k') :: (L + 1 + 1 + 1, ow) :: rest) →
      AllLt RW ((TD, W.listOf vs k) :: (L + 1 + 1 + 1, ow) :: rest) → m' (Str.ofString "texts") = some (.ref TX) → m' (Str.ofString "due") = some (.ref TD) → Q .next { s with heap := h', toks := tk' }) :
    wpAny (model PySem.Challenge.rw_pa0071_01.row.prog w) ((ktrTop dp un gd cn cs Lc ac ccd cl outer).deeper (envOfC qual scope L 187 cdv)) (execs sts (envOfC qual scope L 187 cdv)) Q E s := by
  k_with_none
  k_with "own" => (k_here; (with_reducible show wpAny _ _ (call (Value.builtin "min") [Value.ref _]) _ _ _); k_dflt (refine' min_use rfl ?ku ?k3 ?k4 ?km ?kd ?kn ?_; (case k3 => k_asm); (case k4 => k_asm); (case km => with_reducible assumption); (case kd => with_reducible assumption); (case ku => ktr_units); (case kn => exact Nat.succ_pos 3)); intro _ _ _ _ _ _ _ _ _; (try dsimp only); (try k_fold))
  k_with "own" => (k_here; (with_reducible show wpAny _ _ (subscriptTail _ _ (Value.ref _) (Value.int 1 _)) _ _ _); k_dflt (refine' pick_tup ?k1 ?k2 ?_ ?k5; (case k1 => k_asm); (case k2 => with_reducible assumption); (case k5 => with_unfolding_all rfl); k_whole))
  k_with "own" => (k_here; (with_reducible show wpAny _ _ (call (Value.builtin "list.index") [Value.ref _, Value.str (Prod.snd (pAt (pairsOf _) _)) _]) _ _ _); k_dflt (refine' index_use ?k1 ?k2 ?k3 ?k4 ?k5 ?k6 ?_; (case k1 => k_asm); (case k2 => with_reducible assumption); (case k3 => with_reducible assumption); (case k4 => exact (best_ix _).1); (case k5 => exact (best_ix _).2); (case k6 => decide)); intro _ _)
  k_with "own" => (k_here; (with_reducible show wpAny _ _ (subscriptTail _ _ (Value.ref _) (Value.int (Nat.cast _) _)) _ _ _); k_dflt (first | (refine' pick4S ?k1 ?k2 ?k3 ?_ ?k5; (case k1 => k_asm); (case k2 => k_mem); (case k3 => with_reducible assumption); (case k5 => with_unfolding_all rfl); k_whole) | (refine' pick4I ?k1 ?k2 ?k3 ?_ ?k5; (case k1 => k_asm); (case k2 => k_mem); (case k3 => with_reducible assumption); (case k5 => with_unfolding_all rfl); k_whole)); intro _)
  refine wpAny_mono (E := fun _ _ => False) ?_ (fun _ _ x => x) (fun _ _ x => x.elim)
  revert X; k_fill; intro X
  have e := lookEq (by k_is) hK
  clear hK
  cases e
  cases hst0
  subst hst
  have hpins : ∀ p ∈ [(Str.ofString "texts", Value.ref TX), (Str.ofString "due", .ref TD), (Str.ofString "near", .ref NR), (Str.ofString "bounded", .ref BR), (Str.ofString "place", .int (j : Nat) tj)], m p.1 = some p.2 := allC h1 (allC h2 (allC h3 (allC h4 (all1 h5))))
  have F4 := pinAll _ F hpins
  clear F h1 h2 h3 h4 h5 hpins
  dsimp only [pinL] at F4
  dsimp only [List.drop]
  repeat' (first | (k_unfold; (try dsimp only)) | (k_end; wrow_close) | k_extra "own" | walk1 | (dsimp only; k_extra "own") | (dsimp only; walk1) | (leave1; walk_say "STEP leave1"; try dsimp only) | fail "no step")
  rename Fr _ _ _ _ => F7
  rename News _ _ _ (_ :: _) => N7
  rename (_ ∧ _ ∧ _ ∧ _ ∧ AllLt _ _) => l1
  exact hQ _ _ _ _ _ _ _ _ _ _ F7 (news_drop23 N7) l1.2.2 (by with_unfolding_all rfl) (by with_unfolding_all rfl)
end
end Mine
end
section
theorem Mine.rstD7 {M : PySem.Model} {A : PySem.Around} {pos : PySem.Pos} {env : PySem.Env} {Q : PySem.Flow → PySem.Shared → Prop} {E : PySem.Value → PySem.Shared → Prop} {s : PySem.Shared} (h : PySem.wpAny M A (PySem.exec (.Pass pos) env) Q E s) : PySem.wpAny M A (PySem.exec (.Pass pos) env) Q E s := by
  w_top off
  k_with_none
  first | (walk1; fail) | exact h
open PySem PySem.W PyProof.Rows PySem.Calls PyProof.V PySem.Spec
set_option Elab.async false
set_option linter.unusedVariables false
set_option linter.unusedSimpArgs false
set_option maxRecDepth 100000
set_option maxHeartbeats 8000000
namespace Mine
theorem due_turn {w : World} {loose : List Str} {mean : ExcName → Option Value} {mg mb : Str → Option Value} {dp un : Nat} {gd : Option (List Code)} {cn : Str} {cs : Scope} {Lc ac : Addr} {ccd : Value} {cl : List (Str × Addr)} {outer : List Env}
    {g : Heap} {L : Addr} {s : Shared} {m : Str → Option Value} {Q : Flow → Shared → Prop} {E : Value → Shared → Prop}
    {nm qual : Str} {params : Arguments} {body bd oe : List Stmt} {tg1 it1 : Expr} {ps1 : Pos} {scope : Scope} {dV kV doc pm cdv ct oc : Value} {an od : Option Addr} {osl : Array (Option Value)}
    {n : Int} {tn : Tok} {TD TX : Addr} {vs : Array Value} {k : Nat} {txs : List Value} {ow on : Obj} {own : List (Addr × Obj)} {vw : Option Value}
    (hK : (Mine.hd.heap_39 w.params).lookup 187 = some ⟨oc, od, .func (fnOf nm qual params body scope dV kV doc pm an cdv ct), osl⟩)
    (hst0 : body[3]? = some (.For tg1 it1 bd oe ps1))
    (X : (Mine.hd.heap_39 w.params).In g) (T : Top Mine.hd.view_39 loose mean mg mb g) (hd : dp + 32 < recursionLimit) (hu : un + 320 < cLine)
    (F : Fr g L s.heap m) (N : News g L s.heap ((L + 1 + 1 + 1, ow) :: (L + 1 + 1, on) :: (TX, LCg.lst txs) :: (TD, W.listOf vs k) :: own)) (hlt : @Ne Nat TX (L + 1 + 1 + 1)) (hlt2 : @LT.lt Nat _ TX TD) (hlt3 : @LT.lt Nat _ (L + 1 + 1 + 1) TD) (hoff : OwnOff own [L + 1 + 1 + 1, L + 1 + 1, TX, TD]) (hvs : vs.size ≤ 100)
    (dw : ow.data = .cell vw) (dn : on.data = .cell (some (.int n tn))) (htx : StrsAre txs texts4)
    (h1 : m (Str.ofString "texts") = some (.ref TX)) (h2 : m (Str.ofString "due") = some (.ref TD))
    (hQ : ∀ ow' nw RW k' h' tk' m', Fr g L h' m' → News g L h' ((L + 1 + 1 + 1, ow') :: (L + 1 + 1, on) :: (TX, LCg.lst txs) :: (TD, W.listOf (vs.push (.ref RW)) k') :: (nw ++ own)) → (∃ v, ow'.data = .cell v) →
      (∀ p ∈ nw, ∀ q ∈ (L + 1 + 1 + 1, ow) :: (L + 1 + 1, on) :: (TX, LCg.lst txs) :: (TD, W.listOf vs k) :: own, p.1 ≠ q.1) → DatIn nw (.ref RW) (rowD n) → m' (Str.ofString "texts") = some (.ref TX) → m' (Str.ofString "due") = some (.ref TD) → Q .next { s with heap := h', toks := tk' }) :
    wpAny (model PySem.Challenge.rw_pa0071_01.row.prog w) ((ktrTop dp un gd cn cs Lc ac ccd cl outer).deeper (envOfC qual scope L 187 cdv)) (execs bd (envOfC qual scope L 187 cdv)) Q E s := by
  refine wpAny_mono (E := fun _ _ => False) ?_ (fun _ _ x => x) (fun _ _ x => x.elim)
  revert X; k_fill; intro X
  have e := lookEq (by k_is) hK
  clear hK
  cases e
  cases hst0
  repeat' ((fail_if_success (with_reducible show wpAny _ _ (exec _ _) _ _ _)); (first | (k_unfold; (try dsimp only)) | walk1 | (dsimp only; walk1)))
  have hoff0 : OwnOff ((TD, W.listOf vs k) :: own) ((L + 1 + 1 + 1) :: []) := by
    intro p hp b hb
    rcases List.mem_singleton.mp hb with rfl
    rcases List.mem_cons.mp hp with rfl | hp
    · exact lt_ne' hlt3
    · exact hoff p hp _ (.head _)
  k_dflt (refine' due_word ?hK ?hst0 ?hst X T ?hd ?hu F N hlt hoff0 dw dn htx rfl h1 texts4_len ?_)
  case hK => k_is
  case hst0 => rfl
  case hst => rfl
  case hd => omega
  case hu => omega
  intro t9 ow9 h9 tk9 F9 N9 d9 l9
  dsimp only
  repeat' ((fail_if_success (with_reducible show wpAny _ _ (exec _ _) _ _ _)); (first | (k_unfold; (try dsimp only)) | walk1 | (dsimp only; walk1)))
  k_dflt (refine' due_near (xs := texts4) ?hK ?hst0 ?hst X T ?hd ?hu F9 N9 (.head _) d9 (.tail _ (.tail _ (.head _))) htx h1 l9 texts4_len ?hz ?_)
  case hK => k_is
  case hst0 => rfl
  case hst => rfl
  case hd => omega
  case hu => omega
  case hz => (rw [strs_len htx]; decide)
  intro NR ys nw h8 tk8 F8 N8 hys8 o8 gt8
  dsimp only
  repeat' ((fail_if_success (with_reducible show wpAny _ _ (exec _ _) _ _ _)); (first | (k_unfold; (try dsimp only)) | walk1 | (dsimp only; walk1)))
  have hys9 : DatAll nw ys ((pairsOf (wordOf texts4 n)).map pairD) := by
    have e : (pairsOf (wordOf texts4 n)).map pairD = texts4.map fun x => Dat.tuple [.int (D sc (tl (wordOf texts4 n)) (tl x)), .str x] := by
      unfold pairsOf; rw [List.map_map]; rfl
    rw [e]; exact hys8
  k_dflt (refine' due_place (word := wordOf texts4 n) (NR := NR) (TX := TX) ?hK ?hst0 ?hst X T ?hd ?hu F8 N8 (.head _) (hys9.mono fun p hp => .tail _ (List.mem_append_left _ hp)) (.tail _ (List.mem_append_right _ (.tail _ (.tail _ (.head _))))) htx ?h1 ?h2 ?_)
  case hK => k_is
  case hst0 => rfl
  case hst => rfl
  case hd => omega
  case hu => omega
  case h1 => with_unfolding_all rfl
  case h2 => (show (if _ then _ else _) = _; rw [if_neg (by decide)]; exact h1)
  intro tj h6 tk6 F6 N6p
  dsimp only
  repeat' ((fail_if_success (with_reducible show wpAny _ _ (exec _ _) _ _ _)); (first | (k_unfold; (try dsimp only)) | walk1 | (dsimp only; walk1)))
  k_dflt (refine' due_bounded (ps := pairsOf (wordOf texts4 n)) (NR := NR) ?hK ?hst0 ?hst X T ?hd ?hu F6 N6p (.tail _ (List.mem_append_right _ (.tail _ (.head _)))) dn (.head _) (hys9.mono fun p hp => .tail _ (List.mem_append_left _ hp)) ?h1 ?hz ?_)
  case hK => k_is
  case hst0 => rfl
  case hst => rfl
  case hd => omega
  case hu => omega
  case h1 => with_unfolding_all rfl
  case hz => (show 4 ≤ 8; decide)
  intro BR bs h7 tk7 F7 N7 hys7 o7
  dsimp only
  have N6 : News g L h7 ((TD, W.listOf vs k) :: (L + 1 + 1 + 1, ow9) :: ((BR, LCg.lst bs) :: (NR, LCg.lst ys) :: (nw ++ ((L + 1 + 1, on) :: (TX, LCg.lst txs) :: own)))) := kst_newsOf N7 (by repeat' (first | with_reducible exact sub_nil | with_reducible refine sub_cons ?_ ?_ | with_reducible refine sub_app ?_ ?_ | (first | with_reducible assumption | with_reducible exact List.mem_cons_self | with_reducible refine List.mem_cons_of_mem _ ?_ | exact List.mem_append_left _ (by with_reducible assumption) | exact List.mem_append_left _ (List.mem_cons_of_mem _ (by with_reducible assumption)) | exact List.mem_append_left _ (List.mem_cons_of_mem _ (List.mem_cons_of_mem _ (by with_reducible assumption))) | exact List.mem_append_left _ (List.mem_cons_of_mem _ (List.mem_cons_of_mem _ (List.mem_cons_of_mem _ (by with_reducible assumption)))) | exact List.mem_append_left _ List.mem_cons_self | exact List.mem_append_left _ (List.mem_cons_of_mem _ List.mem_cons_self) | exact List.mem_append_left _ (List.mem_cons_of_mem _ (List.mem_cons_of_mem _ List.mem_cons_self)) | with_reducible refine List.mem_append_right _ ?_) | intro p hp))
  have offR : OwnOff ((BR, LCg.lst bs) :: (NR, LCg.lst ys) :: (nw ++ ((L + 1 + 1, on) :: (TX, LCg.lst txs) :: own))) (TD :: []) := by
    intro p hp b hb
    rw [List.mem_singleton.mp hb]
    rcases List.mem_cons.mp hp with rfl | hp
    · exact Ne.symm (off1_mem o7 (TD, W.listOf vs k) (by simp))
    rcases List.mem_cons.mp hp with rfl | hp
    · exact Ne.symm (off1_mem o8 (TD, W.listOf vs k) (by simp))
    rcases List.mem_append.mp hp with hp | hp
    · exact lt_ne' (allLt_mem (gt8 p hp) (TD, W.listOf vs k) (by simp))
    rcases List.mem_cons.mp hp with rfl | hp
    · exact Nat.ne_of_lt (Nat.lt_trans (Nat.lt_succ_self _) hlt3)
    rcases List.mem_cons.mp hp with rfl | hp
    · exact Nat.ne_of_lt hlt2
    · exact hoff p hp _ (by simp)
  k_dflt (refine' due_append (TX := TX) (NR := NR) (BR := BR) (word := wordOf texts4 n) (j := bestIx (pairsOf (wordOf texts4 n))) (tj := tj) ?hK ?hst0 ?hst X T hd hu F7 N6 hlt3 offR hvs d9 (argBest_le _ 3) ?h1 ?h2 ?h3 ?h4 ?h5 ?_)
  case hK => k_is
  case hst0 => rfl
  case hst => rfl
  case h1 => (show (if _ then _ else if _ then _ else if _ then _ else _) = _; rw [if_neg (by decide), if_neg (by decide), if_neg (by decide)]; exact h1)
  case h2 => (show (if _ then _ else if _ then _ else if _ then _ else _) = _; rw [if_neg (by decide), if_neg (by decide), if_neg (by decide)]; exact h2)
  case h3 => with_unfolding_all rfl
  case h4 => with_unfolding_all rfl
  case h5 => with_unfolding_all rfl
  intro RW vw' t1 t2 t3 k1 k' h5 tk5 m5 F5 N5 l5 e1 e2
  refine hQ ow9 ((RW, W.listOf #[.str (wordOf texts4 n) vw', .ref NR, .ref BR, .str (modeS (bestIx (pairsOf (wordOf texts4 n)))) t1, .int (octI (bestIx (pairsOf (wordOf texts4 n)))) t2, .int 3 t3] k1) :: (BR, LCg.lst bs) :: (NR, LCg.lst ys) :: nw) RW k' h5 tk5 m5 F5 (kst_newsOf N5 (fun p hp => ?_)) ⟨_, d9⟩ ?_ ?_ e1 e2
  · exact memOf (by repeat' (first | with_reducible exact sub_nil | with_reducible refine sub_cons ?_ ?_ | with_reducible refine sub_app ?_ ?_ | (first | with_reducible assumption | with_reducible exact List.mem_cons_self | with_reducible refine List.mem_cons_of_mem _ ?_ | exact List.mem_append_left _ (by with_reducible assumption) | exact List.mem_append_left _ (List.mem_cons_of_mem _ (by with_reducible assumption)) | exact List.mem_append_left _ (List.mem_cons_of_mem _ (List.mem_cons_of_mem _ (by with_reducible assumption))) | exact List.mem_append_left _ (List.mem_cons_of_mem _ (List.mem_cons_of_mem _ (List.mem_cons_of_mem _ (by with_reducible assumption)))) | exact List.mem_append_left _ List.mem_cons_self | exact List.mem_append_left _ (List.mem_cons_of_mem _ List.mem_cons_self) | exact List.mem_append_left _ (List.mem_cons_of_mem _ (List.mem_cons_of_mem _ List.mem_cons_self)) | with_reducible refine List.mem_append_right _ ?_) | intro p hp)) hp
  · have l5' := allLt_mem l5
    have o7' := off1_mem o7
    have o8' := off1_mem o8
    intro p hp q hq
    have hq8 : q.1 ≠ NR := by
      rcases List.mem_cons.mp hq with rfl | hq
      · exact o8' (_, ow9) (by simp)
      · exact o8' q (memOf (by repeat' (first | with_reducible exact sub_nil | with_reducible refine sub_cons ?_ ?_ | with_reducible refine sub_app ?_ ?_ | (first | with_reducible assumption | with_reducible exact List.mem_cons_self | with_reducible refine List.mem_cons_of_mem _ ?_ | exact List.mem_append_left _ (by with_reducible assumption) | exact List.mem_append_left _ (List.mem_cons_of_mem _ (by with_reducible assumption)) | exact List.mem_append_left _ (List.mem_cons_of_mem _ (List.mem_cons_of_mem _ (by with_reducible assumption))) | exact List.mem_append_left _ (List.mem_cons_of_mem _ (List.mem_cons_of_mem _ (List.mem_cons_of_mem _ (by with_reducible assumption)))) | exact List.mem_append_left _ List.mem_cons_self | exact List.mem_append_left _ (List.mem_cons_of_mem _ List.mem_cons_self) | exact List.mem_append_left _ (List.mem_cons_of_mem _ (List.mem_cons_of_mem _ List.mem_cons_self)) | with_reducible refine List.mem_append_right _ ?_) | intro p hp)) hq)
    have hq7 : q.1 ≠ BR := by
      rcases List.mem_cons.mp hq with rfl | hq
      · exact o7' (_, ow9) (by simp)
      · exact o7' q (memOf (by repeat' (first | with_reducible exact sub_nil | with_reducible refine sub_cons ?_ ?_ | with_reducible refine sub_app ?_ ?_ | (first | with_reducible assumption | with_reducible exact List.mem_cons_self | with_reducible refine List.mem_cons_of_mem _ ?_ | exact List.mem_append_left _ (by with_reducible assumption) | exact List.mem_append_left _ (List.mem_cons_of_mem _ (by with_reducible assumption)) | exact List.mem_append_left _ (List.mem_cons_of_mem _ (List.mem_cons_of_mem _ (by with_reducible assumption))) | exact List.mem_append_left _ (List.mem_cons_of_mem _ (List.mem_cons_of_mem _ (List.mem_cons_of_mem _ (by with_reducible assumption)))) | exact List.mem_append_left _ List.mem_cons_self | exact List.mem_append_left _ (List.mem_cons_of_mem _ List.mem_cons_self) | exact List.mem_append_left _ (List.mem_cons_of_mem _ (List.mem_cons_of_mem _ List.mem_cons_self)) | with_reducible refine List.mem_append_right _ ?_) | intro p hp)) hq)
    have hq5 : @LT.lt Nat _ q.1 RW := by
      rcases List.mem_cons.mp hq with rfl | hq
      · exact l5' (_, ow9) (by simp)
      · exact l5' q (memOf (by repeat' (first | with_reducible exact sub_nil | with_reducible refine sub_cons ?_ ?_ | with_reducible refine sub_app ?_ ?_ | (first | with_reducible assumption | with_reducible exact List.mem_cons_self | with_reducible refine List.mem_cons_of_mem _ ?_ | exact List.mem_append_left _ (by with_reducible assumption) | exact List.mem_append_left _ (List.mem_cons_of_mem _ (by with_reducible assumption)) | exact List.mem_append_left _ (List.mem_cons_of_mem _ (List.mem_cons_of_mem _ (by with_reducible assumption))) | exact List.mem_append_left _ (List.mem_cons_of_mem _ (List.mem_cons_of_mem _ (List.mem_cons_of_mem _ (by with_reducible assumption)))) | exact List.mem_append_left _ List.mem_cons_self | exact List.mem_append_left _ (List.mem_cons_of_mem _ List.mem_cons_self) | exact List.mem_append_left _ (List.mem_cons_of_mem _ (List.mem_cons_of_mem _ List.mem_cons_self)) | with_reducible refine List.mem_append_right _ ?_) | intro p hp)) hq)
    rcases List.mem_cons.mp hp with rfl | hp
    · exact lt_ne' hq5
    rcases List.mem_cons.mp hp with rfl | hp
    · exact Ne.symm hq7
    rcases List.mem_cons.mp hp with rfl | hp
    · exact Ne.symm hq8
    · have g8 := allLt_mem (gt8 p hp)
      rcases List.mem_cons.mp hq with rfl | hq
      · exact lt_ne' (g8 (_, ow9) (by simp))
      · exact lt_ne' (g8 q (memOf (by repeat' (first | with_reducible exact sub_nil | with_reducible refine sub_cons ?_ ?_ | with_reducible refine sub_app ?_ ?_ | (first | with_reducible assumption | with_reducible exact List.mem_cons_self | with_reducible refine List.mem_cons_of_mem _ ?_ | exact List.mem_append_left _ (by with_reducible assumption) | exact List.mem_append_left _ (List.mem_cons_of_mem _ (by with_reducible assumption)) | exact List.mem_append_left _ (List.mem_cons_of_mem _ (List.mem_cons_of_mem _ (by with_reducible assumption))) | exact List.mem_append_left _ (List.mem_cons_of_mem _ (List.mem_cons_of_mem _ (List.mem_cons_of_mem _ (by with_reducible assumption)))) | exact List.mem_append_left _ List.mem_cons_self | exact List.mem_append_left _ (List.mem_cons_of_mem _ List.mem_cons_self) | exact List.mem_append_left _ (List.mem_cons_of_mem _ (List.mem_cons_of_mem _ List.mem_cons_self)) | with_reducible refine List.mem_append_right _ ?_) | intro p hp)) hq))
  · unfold rowD
    refine .list (vs := [.str (wordOf texts4 n) vw', .ref NR, .ref BR, .str _ t1, .int _ t2, .int 3 t3]) (.head _) (.cons (.str _ _) (.cons ?_ (.cons ?_ (.cons (.str _ _) (.cons (.int _ _) (.cons (.int _ _) .nil))))))
    · exact .list (n := ys.length) (.tail _ (.tail _ (.head _))) (hys9.mono fun p hp => .tail _ (.tail _ (.tail _ hp)))
    · have e : (pairsOf (wordOf texts4 n)).map (fun p => Dat.int (bnd (n.fmod 7) p.1)) = texts4.map fun x => Dat.int (bnd (n.fmod 7) (D sc (tl (wordOf texts4 n)) (tl x))) := by
        unfold pairsOf; rw [List.map_map]; rfl
      rw [e] at hys7
      exact .list (n := bs.length) (.tail _ (.head _)) (hys7.mono fun p hp => absurd hp List.not_mem_nil)
end Mine
end
section
theorem Mine.rstD8 {M : PySem.Model} {A : PySem.Around} {pos : PySem.Pos} {env : PySem.Env} {Q : PySem.Flow → PySem.Shared → Prop} {E : PySem.Value → PySem.Shared → Prop} {s : PySem.Shared} (h : PySem.wpAny M A (PySem.exec (.Pass pos) env) Q E s) : PySem.wpAny M A (PySem.exec (.Pass pos) env) Q E s := by
  w_top off
  k_with_none
  first | (walk1; fail) | exact h
open PySem PySem.W PyProof.Rows PySem.Calls PyProof.V PySem.Spec
set_option Elab.async false
set_option linter.unusedVariables false
set_option linter.unusedSimpArgs false
set_option maxRecDepth 100000
set_option maxHeartbeats 8000000
namespace Mine
def DueJ (L TX TD : Addr) (txs : List Value) (ns : List Int) (rowF : Int → Dat) (i : Nat) (m : Str → Option Value) (news : List (Addr × Obj)) : Prop :=
  m (Str.ofString "texts") = some (.ref TX) ∧ m (Str.ofString "due") = some (.ref TD) ∧ ∃ ow on vs k own, news = (L + 1 + 1 + 1, ow) :: (L + 1 + 1, on) :: (TX, LCg.lst txs) :: (TD, W.listOf vs k) :: own ∧ OwnOff own [L + 1 + 1 + 1, L + 1 + 1, TX, TD] ∧
    (∃ v, ow.data = .cell v) ∧ (∃ v, on.data = .cell v) ∧ vs.size = i + 1 ∧ DatAll ((TX, LCg.lst txs) :: own) vs.toList (Dat.list (texts4.map Dat.str) :: (ns.take i).map rowF)
theorem due_loop {w : World} {loose : List Str} {mean : ExcName → Option Value} {mg mb : Str → Option Value} {dp un : Nat} {gd : Option (List Code)} {cn : Str} {cs : Scope} {Lc ac : Addr} {ccd : Value} {cl : List (Str × Addr)} {outer : List Env}
    {g : Heap} {L : Addr} {s : Shared} {m : Str → Option Value} {Q : Flow → Shared → Prop} {E : Value → Shared → Prop}
    {nm qual : Str} {params : Arguments} {body : List Stmt} {st : Stmt} {scope : Scope} {dV kV doc pm cdv ct oc : Value} {an od : Option Addr} {osl : Array (Option Value)}
    {TD TX ST : Addr} {vs : Array Value} {k : Nat} {txs items : List Value} {ns : List Int} {ow on : Obj} {own : List (Addr × Obj)}
    (hK : (Mine.hd.heap_39 w.params).lookup 187 = some ⟨oc, od, .func (fnOf nm qual params body scope dV kV doc pm an cdv ct), osl⟩)
    (hst0 : body[3]? = some st)
    (X : (Mine.hd.heap_39 w.params).In g) (T : Top Mine.hd.view_39 loose mean mg mb g) (hd : dp + 32 < recursionLimit) (hu : un + 320 < cLine)
    (hS : g.IsList ST items.toArray) (hI : IntsAre items ns) (hlen : ns.length ≤ 64)
    (F : Fr g L s.heap m) (N : News g L s.heap ((L + 1 + 1 + 1, ow) :: (L + 1 + 1, on) :: (TX, LCg.lst txs) :: (TD, W.listOf vs k) :: own)) (hlt : @Ne Nat TX (L + 1 + 1 + 1)) (hltb : @Ne Nat TX (L + 1 + 1)) (hlt2 : @LT.lt Nat _ TX TD) (hlt3 : @LT.lt Nat _ (L + 1 + 1 + 1) TD)
    (h0 : DueJ L TX TD txs ns rowD 0 m ((L + 1 + 1 + 1, ow) :: (L + 1 + 1, on) :: (TX, LCg.lst txs) :: (TD, W.listOf vs k) :: own))
    (htx : StrsAre txs texts4) (hs : m (Str.ofString "steps") = some (.ref ST))
    (hQ : ∀ vs k h' tk' m' news', Fr g L h' m' → News g L h' ((TD, W.listOf vs k) :: news') → m' (Str.ofString "due") = some (.ref TD) → DatAll news' vs.toList (Dat.list (texts4.map Dat.str) :: ns.map rowD) → Q .next { s with heap := h', toks := tk' }) :
    wpAny (model PySem.Challenge.rw_pa0071_01.row.prog w) ((ktrTop dp un gd cn cs Lc ac ccd cl outer).deeper (envOfC qual scope L 187 cdv)) (exec st (envOfC qual scope L 187 cdv)) Q E s := by
  refine wpAny_mono (E := fun _ _ => False) ?_ (fun _ _ x => x) (fun _ _ x => x.elim)
  revert X; k_fill; intro X
  have e := lookEq (by k_is) hK
  clear hK
  cases e
  cases hst0
  have il := hI.length
  k_dflt (refine' for_list ?hh hS (DueJ L TX TD txs ns rowD) F N h0 ?he ?turn ?fin)
  case hh => rfl
  case he =>
    intro Q' hQ'
    have hpins : ∀ p ∈ [(Str.ofString "steps", Value.ref ST)], m p.1 = some p.2 := all1 hs
    have F4 := pinAll _ F hpins
    clear F hpins h0 hQ
    dsimp only [pinL] at F4
    repeat' (first | (k_unfold; (try dsimp only)) | walk1 | (dsimp only; walk1))
    exact hQ'
  case turn =>
    intro i v m₁ news₁ h tk it ito hv hJ F1 N1 hoff
    obtain ⟨j1, j2, ow, on, vs, k, own, rfl, joff, ⟨vw, jw⟩, ⟨vn, jn⟩, jz, jd⟩ := hJ
    obtain ⟨n, t, rfl, hn⟩ := ints_get hI i v (by simpa using hv)
    have hi : i < ns.length := (List.getElem?_eq_some_iff.mp hn).1
    have oi : OwnOff ((it, ito) :: own) [L + 1 + 1 + 1, L + 1 + 1, TX, TD] := by
      intro p hp b hb
      rcases List.mem_cons.mp hp with rfl | hp
      · simp only [List.mem_cons, List.not_mem_nil, or_false] at hb
        rcases hb with rfl | rfl | rfl | rfl
        · exact Ne.symm (hoff (_, ow) (by simp))
        · exact Ne.symm (hoff (_, on) (by simp))
        · exact Ne.symm (hoff (_, LCg.lst txs) (by simp))
        · exact Ne.symm (hoff (_, W.listOf vs k) (by simp))
      · exact joff p hp b hb
    have N2 : News g L h ((L + 1 + 1, on) :: (L + 1 + 1 + 1, ow) :: (TX, LCg.lst txs) :: (TD, W.listOf vs k) :: (it, ito) :: own) := kst_newsOf N1 (by repeat' (first | with_reducible exact sub_nil | with_reducible refine sub_cons ?_ ?_ | with_reducible refine sub_app ?_ ?_ | (first | with_reducible assumption | with_reducible exact List.mem_cons_self | with_reducible refine List.mem_cons_of_mem _ ?_ | exact List.mem_append_left _ (by with_reducible assumption) | exact List.mem_append_left _ (List.mem_cons_of_mem _ (by with_reducible assumption)) | exact List.mem_append_left _ (List.mem_cons_of_mem _ (List.mem_cons_of_mem _ (by with_reducible assumption))) | exact List.mem_append_left _ (List.mem_cons_of_mem _ (List.mem_cons_of_mem _ (List.mem_cons_of_mem _ (by with_reducible assumption)))) | exact List.mem_append_left _ List.mem_cons_self | exact List.mem_append_left _ (List.mem_cons_of_mem _ List.mem_cons_self) | exact List.mem_append_left _ (List.mem_cons_of_mem _ (List.mem_cons_of_mem _ List.mem_cons_self)) | with_reducible refine List.mem_append_right _ ?_) | intro p hp))
    refine wpAny_assign_Name (storeX_C (s := { s with heap := h, toks := tk }) F1 N2 rfl (UpdF.head (fun p hp => ?_)) jn (fun h' on' F' N' d' => ?_) rfl rfl)
    · rcases List.mem_cons.mp hp with rfl | hp
      · exact Nat.succ_ne_self _
      rcases List.mem_cons.mp hp with rfl | hp
      · exact hltb
      rcases List.mem_cons.mp hp with rfl | hp
      · exact lt_ne' (Nat.lt_trans (Nat.lt_succ_self _) hlt3)
      · exact oi p hp _ (by simp)
    have N3 : News g L h' ((L + 1 + 1 + 1, ow) :: (L + 1 + 1, on') :: (TX, LCg.lst txs) :: (TD, W.listOf vs k) :: (it, ito) :: own) := kst_newsOf N' (by repeat' (first | with_reducible exact sub_nil | with_reducible refine sub_cons ?_ ?_ | with_reducible refine sub_app ?_ ?_ | (first | with_reducible assumption | with_reducible exact List.mem_cons_self | with_reducible refine List.mem_cons_of_mem _ ?_ | exact List.mem_append_left _ (by with_reducible assumption) | exact List.mem_append_left _ (List.mem_cons_of_mem _ (by with_reducible assumption)) | exact List.mem_append_left _ (List.mem_cons_of_mem _ (List.mem_cons_of_mem _ (by with_reducible assumption))) | exact List.mem_append_left _ (List.mem_cons_of_mem _ (List.mem_cons_of_mem _ (List.mem_cons_of_mem _ (by with_reducible assumption)))) | exact List.mem_append_left _ List.mem_cons_self | exact List.mem_append_left _ (List.mem_cons_of_mem _ List.mem_cons_self) | exact List.mem_append_left _ (List.mem_cons_of_mem _ (List.mem_cons_of_mem _ List.mem_cons_self)) | with_reducible refine List.mem_append_right _ ?_) | intro p hp))
    dsimp only
    k_dflt (refine' due_turn ?hK ?hst0 X T hd hu F' N3 hlt hlt2 hlt3 oi ?hvs jw d' htx j1 j2 ?_)
    case hK => k_is
    case hst0 => rfl
    case hvs => omega
    intro ow' nw RW k' h2 tk2 m2 F2 N4 hw' hfr hdat e1 e2
    have hfr' : ∀ p ∈ nw, p.1 ≠ it := fun p hp => hfr p hp (it, ito) (by simp)
    refine ⟨h2, tk2, m2, (L + 1 + 1 + 1, ow') :: (L + 1 + 1, on') :: (TX, LCg.lst txs) :: (TD, W.listOf (vs.push (.ref RW)) k') :: (nw ++ own), rfl, F2, kst_newsOf N4 (fun p hp => ?_), fun p hp => ?_, e1, e2, ow', on', _, k', nw ++ own, rfl, ?_, hw', ⟨_, d'⟩, by simp [jz], ?_⟩
    · exact memOf (by repeat' (first | with_reducible exact sub_nil | with_reducible refine sub_cons ?_ ?_ | with_reducible refine sub_app ?_ ?_ | (first | with_reducible assumption | with_reducible exact List.mem_cons_self | with_reducible refine List.mem_cons_of_mem _ ?_ | exact List.mem_append_left _ (by with_reducible assumption) | exact List.mem_append_left _ (List.mem_cons_of_mem _ (by with_reducible assumption)) | exact List.mem_append_left _ (List.mem_cons_of_mem _ (List.mem_cons_of_mem _ (by with_reducible assumption))) | exact List.mem_append_left _ (List.mem_cons_of_mem _ (List.mem_cons_of_mem _ (List.mem_cons_of_mem _ (by with_reducible assumption)))) | exact List.mem_append_left _ List.mem_cons_self | exact List.mem_append_left _ (List.mem_cons_of_mem _ List.mem_cons_self) | exact List.mem_append_left _ (List.mem_cons_of_mem _ (List.mem_cons_of_mem _ List.mem_cons_self)) | with_reducible refine List.mem_append_right _ ?_) | intro p hp)) hp
    · rcases List.mem_cons.mp hp with rfl | hp
      · exact hoff (_, ow) (by simp)
      rcases List.mem_cons.mp hp with rfl | hp
      · exact hoff (_, on) (by simp)
      rcases List.mem_cons.mp hp with rfl | hp
      · exact hoff (_, LCg.lst txs) (by simp)
      rcases List.mem_cons.mp hp with rfl | hp
      · exact hoff (_, W.listOf vs k) (by simp)
      rcases List.mem_append.mp hp with hp | hp
      · exact hfr' p hp
      · exact hoff p (by simp [hp])
    · intro p hp b hb
      rcases List.mem_append.mp hp with hp | hp
      · have q := hfr p hp
        simp only [List.mem_cons, List.not_mem_nil, or_false] at hb
        rcases hb with rfl | rfl | rfl | rfl
        · exact q (_, ow) (by simp)
        · exact q (_, on') (by simp)
        · exact q (_, LCg.lst txs) (by simp)
        · exact q (_, W.listOf vs k) (by simp)
      · exact joff p hp b hb
    · rw [Array.toList_push, take_snoc rowD hn, ← List.cons_append]
      refine (jd.mono fun p hp => ?_).append (.one (hdat.mono fun p hp => ?_))
      · rcases List.mem_cons.mp hp with rfl | hp
        · exact .head _
        · exact .tail _ (List.mem_append_right _ hp)
      · exact .tail _ (List.mem_append_left _ hp)
  case fin =>
    intro m' news' h tk hJ F1 N1
    obtain ⟨j1, j2, ow, on, vs, k, own, rfl, joff, hw, hn, jz, jd⟩ := hJ
    rw [List.size_toArray, il, List.take_length] at jd
    refine hQ vs k h tk m' _ F1 (kst_newsOf N1 fun p hp => ?_) j2 jd
    exact memOf (by repeat' (first | with_reducible exact sub_nil | with_reducible refine sub_cons ?_ ?_ | with_reducible refine sub_app ?_ ?_ | (first | with_reducible assumption | with_reducible exact List.mem_cons_self | with_reducible refine List.mem_cons_of_mem _ ?_ | exact List.mem_append_left _ (by with_reducible assumption) | exact List.mem_append_left _ (List.mem_cons_of_mem _ (by with_reducible assumption)) | exact List.mem_append_left _ (List.mem_cons_of_mem _ (List.mem_cons_of_mem _ (by with_reducible assumption))) | exact List.mem_append_left _ (List.mem_cons_of_mem _ (List.mem_cons_of_mem _ (List.mem_cons_of_mem _ (by with_reducible assumption)))) | exact List.mem_append_left _ List.mem_cons_self | exact List.mem_append_left _ (List.mem_cons_of_mem _ List.mem_cons_self) | exact List.mem_append_left _ (List.mem_cons_of_mem _ (List.mem_cons_of_mem _ List.mem_cons_self)) | with_reducible refine List.mem_append_right _ ?_) | intro p hp)) hp
end Mine
end
section
theorem Mine.rstD9 {M : PySem.Model} {A : PySem.Around} {pos : PySem.Pos} {env : PySem.Env} {Q : PySem.Flow → PySem.Shared → Prop} {E : PySem.Value → PySem.Shared → Prop} {s : PySem.Shared} (h : PySem.wpAny M A (PySem.exec (.Pass pos) env) Q E s) : PySem.wpAny M A (PySem.exec (.Pass pos) env) Q E s := by
  w_top off
  k_with_none
  first | (walk1; fail) | exact h
open PySem PySem.W PyProof.Rows PySem.Calls PyProof.V PySem.Spec
set_option Elab.async false
set_option linter.unusedVariables false
set_option maxRecDepth 100000
set_option maxHeartbeats 8000000
namespace Mine
theorem news_pick2 {g h : Heap} {L : Addr} {p1 p2 c1 c2 c3 : Addr × Obj} (N : News g L h [p1, p2, c1, c2, c3]) : News g L h [c1, c2, p2, p1] := kst_newsOf N (by repeat' (first | with_reducible exact sub_nil | with_reducible refine sub_cons ?_ ?_ | with_reducible refine sub_app ?_ ?_ | (first | with_reducible assumption | with_reducible exact List.mem_cons_self | with_reducible refine List.mem_cons_of_mem _ ?_ | exact List.mem_append_left _ (by with_reducible assumption) | exact List.mem_append_left _ (List.mem_cons_of_mem _ (by with_reducible assumption)) | exact List.mem_append_left _ (List.mem_cons_of_mem _ (List.mem_cons_of_mem _ (by with_reducible assumption))) | exact List.mem_append_left _ (List.mem_cons_of_mem _ (List.mem_cons_of_mem _ (List.mem_cons_of_mem _ (by with_reducible assumption)))) | exact List.mem_append_left _ List.mem_cons_self | exact List.mem_append_left _ (List.mem_cons_of_mem _ List.mem_cons_self) | exact List.mem_append_left _ (List.mem_cons_of_mem _ (List.mem_cons_of_mem _ List.mem_cons_self)) | with_reducible refine List.mem_append_right _ ?_) | intro p hp))
theorem due_call {w : World} {loose : List Str} {mean : ExcName → Option Value} {mg mb : Str → Option Value} {dp un : Nat} {gd : Option (List Code)} {cn : Str} {cs : Scope} {Lc ac : Addr} {ccd : Value} {cl : List (Str × Addr)} {outer : List Env}
    {s : Shared} {Q E : Value → Shared → Prop} {NU ST : Addr} {t0 t1 t2 t3 : Tok} {items : List Value} {ns : List Int} (X : (Mine.hd.heap_39 w.params).In s.heap) (T : Top Mine.hd.view_39 loose mean mg mb s.heap)
    (hN : s.heap.IsList NU #[.int 8496135 t0, .int 4320589 t1, .int 11141011 t2, .int 1278169 t3]) (hS : s.heap.IsList ST items.toArray) (hI : IntsAre items ns) (hlen : ns.length ≤ 64)
    (hd : dp + 64 < recursionLimit) (hu : un + 640 < cLine)
    (hret : ∀ r h' tk' as, Kept s.heap h' → Reads h' (.ref r) (.list (kqdPs (toldD ns))) as → Q (.ref r) { s with heap := h', toks := tk' }) :
    wpAny (model PySem.Challenge.rw_pa0071_01.row.prog w) (ktrTop dp un gd cn cs Lc ac ccd cl outer) (call (.ref 187) [.ref NU, .ref ST]) Q E s := by
  revert X; k_fill; intro X
  k_dflt (refine' enterC X T ?k6 ?k7 ?k8 ?k9 ?kB ?kD ?_ ?c2 ?c3 ?c4; (case k6 => k_is); (case k7 => k_is); (case k8 => ktr_room); (case k9 => first | exact BindsTo.of_eq rfl | exact binds_K (by k_in) rfl (by k_is) rfl rfl rfl); (case kB => exact rfl); (case kD => decide +kernel); (case c2 => exact rfl); (case c3 => exact rfl); (case c4 => exact rfl))
  intro L' h₁ tk' cells' F N Y
  k_cells Y
  (try simp only [List.cons_append, List.nil_append] at N)
  (try dsimp only); (try k_fold)
  repeat' ((fail_if_success (with_reducible show wpAny _ _ (exec (Stmt.Assign _ (Expr.ListComp _ _ _ _) _) _) _ _ _)); (first | (k_unfold; (try dsimp only)) | (k_end; wrow_close) | walk1 | (dsimp only; walk1) | (leave1; walk_say "STEP leave1"; try dsimp only)))
  rename Fr _ _ _ _ => F5
  rename News _ _ _ (_ :: _ :: _) => N5
  k_dflt (refine' due_texts ?hK ?hst X T ?hd ?hu F5 N5 ?ds hN ?h1 ?_)
  case hK => k_is
  case hst => rfl
  case hd => omega
  case hu => omega
  case ds => assumption
  case h1 => with_unfolding_all rfl
  intro TX txs h9 tk9 F9 N9 htx o1 o2 o3
  clear F5 N5
  (try dsimp only)
  repeat' ((fail_if_success (with_reducible show wpAny _ _ (exec (Stmt.For _ _ _ _ _) _) _ _ _)); (first | (k_unfold; (try dsimp only)) | (k_end; wrow_close) | walk1 | (dsimp only; walk1) | (leave1; walk_say "STEP leave1"; try dsimp only)))
  rename Fr _ _ _ _ => F6
  rename News _ _ _ (_ :: _ :: _ :: _ :: _) => N6
  rename (_ ∧ _ ∧ _ ∧ _) => l1
  have N7 := news_pick2 N6
  k_dflt (refine' due_loop (ns := ns) ?hK ?hst0 X T ?hd ?hu hS hI hlen F6 N7 ?hlt ?hltb ?hlt2 ?hlt3 ?h0 htx ?hs ?_)
  case hK => k_is
  case hst0 => rfl
  case hd => omega
  case hu => omega
  case hlt => exact Ne.symm o1
  case hltb => exact Ne.symm o2
  case hlt2 => exact l1.1
  case hlt3 => exact l1.2.1
  case hs => with_unfolding_all rfl
  case h0 =>
    refine ⟨by with_unfolding_all rfl, by with_unfolding_all rfl, _, _, _, _, [], rfl, (fun p hp => nomatch hp), ⟨_, by assumption⟩, ⟨_, by assumption⟩, rfl, ?_⟩
    exact .cons (.list (n := txs.length) (.head _) (strs_dat htx)) .nil
  intro vs k h9 tk9 m9 news9 F9 N9 e9 d9
  have hpins : ∀ p ∈ [(Str.ofString "due", Value.ref _)], m9 p.1 = some p.2 := all1 e9
  have F10 := pinAll _ F9 hpins
  clear F9 F6 N6 N7
  dsimp only [pinL] at F10
  (try dsimp only)
  repeat' (first | (k_unfold; (try dsimp only)) | walk1 | (dsimp only; walk1))
  obtain ⟨as, ra⟩ := kqd_all (fun p hp => N9 p (.tail _ hp)) 8 d9 (told_ok ns)
  exact hret _ _ _ _ F10.keep (reads_list_at (N9.get (.head _)) rfl rfl ra)
end Mine
end
section
theorem Mine.rstD10 {M : PySem.Model} {A : PySem.Around} {pos : PySem.Pos} {env : PySem.Env} {Q : PySem.Flow → PySem.Shared → Prop} {E : PySem.Value → PySem.Shared → Prop} {s : PySem.Shared} (h : PySem.wpAny M A (PySem.exec (.Pass pos) env) Q E s) : PySem.wpAny M A (PySem.exec (.Pass pos) env) Q E s := by
  w_top off
  k_with_none
  first | (walk1; fail) | exact h
open PySem PySem.W PyProof.Rows PySem.Calls PyProof.V PySem.Spec
set_option Elab.async false
set_option linter.unusedVariables false
set_option maxRecDepth 100000
set_option maxHeartbeats 8000000
namespace Mine
abbrev toldP (ns : List Int) : PyData := .list (kqdPs (toldD ns))
theorem told_ok9 (ns : List Int) : kqdOk 9 (.list (toldD ns)) = true := by
  have h := told_ok ns
  simpa [kqdOk] using h
theorem told_shaped (ns : List Int) : SeqAt.shaped (toldP ns) = true := by
  have la := kqd_lay 9 (.list (toldD ns)) (told_ok9 ns)
  rw [kqdP] at la
  unfold SeqAt.shaped toldP
  rw [la.1, Bool.true_and]
  exact decide_eq_true (Nat.le_trans la.2 (by decide))
theorem told_eqv (ns : List Int) : PyData.eqv (toldP ns) (toldP ns) = true := by
  have q := (kqd_eqv 9 (.list (toldD ns)) (.list (toldD ns)) 9 (told_ok9 ns) (told_ok9 ns)).mpr rfl
  rw [kqdP] at q
  exact q
section
variable {w : World} {loose : List Str} {mean : ExcName → Option Value} {mg mb : Str → Option Value} {dp un : Nat} {gd : Option (List Code)} {cn : Str} {cs : Scope} {Lc ac : Addr} {ccd : Value} {cl : List (Str × Addr)} {outer : List Env}
    {g : Heap} {L : Addr} {s : Shared} {m : Str → Option Value} {news : List (Addr × Obj)} {Q E : Value → Shared → Prop} {NU ST : Addr} {t0 t1 t2 t3 : Tok} {k1 k2 : Nat} {items : List Value} {ns : List Int}
theorem told_use (X : (Mine.hd.heap_39 w.params).In g) (T : Top Mine.hd.view_39 loose mean mg mb g) (F : Fr g L s.heap m) (N : News g L s.heap news)
    (hN : (NU, W.listOf #[.int 8496135 t0, .int 4320589 t1, .int 11141011 t2, .int 1278169 t3] k1) ∈ news) (hS : (ST, W.listOf items.toArray k2) ∈ news) (hI : IntsAre items ns) (hlen : ns.length ≤ 64) (hd : dp + 64 < recursionLimit) (hu : un + 640 < cLine)
    (h : ∀ r h' tk' as, Fr g L h' m → News g L h' news → Reads h' (.ref r) (toldP ns) as → Q (.ref r) { s with heap := h', toks := tk' }) :
    wpAny (model PySem.Challenge.rw_pa0071_01.row.prog w) (ktrTop dp un gd cn cs Lc ac ccd cl outer) (call (.ref 175) [.ref NU, .ref ST]) Q E s :=
  told_call (X.keeps F.keep) (T.keeps F.keep) (News.isList N hN) (News.isList N hS) hI hlen hd hu fun r h' tk' as k ra => h r h' tk' as (k.fr F) (k.news N) ra
theorem due_use {v : Value} {d : PyData} {as : List Addr} (X : (Mine.hd.heap_39 w.params).In g) (T : Top Mine.hd.view_39 loose mean mg mb g) (F : Fr g L s.heap m) (N : News g L s.heap news)
    (hN : (NU, W.listOf #[.int 8496135 t0, .int 4320589 t1, .int 11141011 t2, .int 1278169 t3] k1) ∈ news) (hS : (ST, W.listOf items.toArray k2) ∈ news) (hI : IntsAre items ns) (hlen : ns.length ≤ 64) (hd : dp + 64 < recursionLimit) (hu : un + 640 < cLine)
    (hr : Reads s.heap v d as)
    (h : ∀ r h' tk' bs, Fr g L h' m → News g L h' news → Reads h' v d as → Reads h' (.ref r) (toldP ns) bs → Q (.ref r) { s with heap := h', toks := tk' }) :
    wpAny (model PySem.Challenge.rw_pa0071_01.row.prog w) (ktrTop dp un gd cn cs Lc ac ccd cl outer) (call (.ref 187) [.ref NU, .ref ST]) Q E s :=
  due_call (X.keeps F.keep) (T.keeps F.keep) (News.isList N hN) (News.isList N hS) hI hlen hd hu fun r h' tk' bs k rb => h r h' tk' bs (k.fr F) (k.news N) (PyProof.Rows.Reads.keeps k hr) rb
end
theorem eq_use {prog : Program} {w : World} {A : Around} {E : Value → Shared → Prop} {s : Shared} {a b : Value} {as bs : List Addr} {ns : List Int} {Q : Value → Shared → Prop} (ra : Reads s.heap a (toldP ns) as) (rb : Reads s.heap b (toldP ns) bs) (hu : A.units + 64 < cLine)
    (h : Q (.bool true) s) : wpAny (model prog w) A (compareOp .Eq a b) Q E s :=
  eq_dataH ra rb (told_shaped ns) (told_shaped ns) hu (by rw [told_eqv]; exact h)
end Mine
end
theorem Mine.rstFin {M : PySem.Model} {A : PySem.Around} {pos : PySem.Pos} {env : PySem.Env} {Q : PySem.Flow → PySem.Shared → Prop} {E : PySem.Value → PySem.Shared → Prop} {s : PySem.Shared} (h : PySem.wpAny M A (PySem.exec (.Pass pos) env) Q E s) : PySem.wpAny M A (PySem.exec (.Pass pos) env) Q E s := by
  w_top off
  k_with_none
  first | (walk1; fail) | exact h
open PySem PySem.W PyProof.Rows PySem.Calls PyProof.V PySem.Spec
set_option Elab.async false
set_option linter.unusedVariables false
set_option maxRecDepth 100000 in
set_option maxHeartbeats 8000000 in
theorem PySem.Challenge.cw_pa0071_01_holds : PySem.Challenge.rw_pa0071_01.Holds := by
  refine Mine.hd ?_
  k_go0; (all_goals try k_fold)
  repeat' ((fail_if_success (with_reducible show wpAny _ _ (call (Value.ref 175) _ _) _ _ _)); (first | (k_unfold; (try dsimp only)) | (k_end; wrow_close) | walk1 | (dsimp only; walk1) | (leave1; walk_say "STEP leave1"; try dsimp only)))
  rename Fr _ _ _ _ => F1
  rename News _ _ _ [_, _, _, _] => N1
  rename IntsAre _ (_ ++ _) => I1
  k_dflt (refine' Mine.told_use ?X ?T F1 N1 ?hN ?hS I1 ?hlen ?kd ?ku ?_)
  case X => assumption
  case T => assumption
  case hN => exact .tail _ (.tail _ (.tail _ (.head _)))
  case hS => exact .head _
  case hlen => (simp only [List.length_append, List.length_take, List.length_cons, List.length_nil]; omega)
  case kd => decide
  case ku => decide
  intro r1 h1 tk1 as1 F2 N2 R1
  clear F1 N1
  (try dsimp only); (try k_fold)
  repeat' ((fail_if_success (with_reducible show wpAny _ _ (call (Value.ref 187) _ _) _ _ _)); (first | (k_unfold; (try dsimp only)) | (k_end; wrow_close) | walk1 | (dsimp only; walk1) | (leave1; walk_say "STEP leave1"; try dsimp only)))
  k_dflt (refine' Mine.due_use ?X ?T F2 N2 ?hN ?hS I1 ?hlen ?kd ?ku R1 ?_)
  case X => assumption
  case T => assumption
  case hN => exact .tail _ (.tail _ (.tail _ (.head _)))
  case hS => exact .head _
  case hlen => (simp only [List.length_append, List.length_take, List.length_cons, List.length_nil]; omega)
  case kd => decide
  case ku => decide
  intro r2 h2 tk2 as2 F3 N3 R2 R3
  clear F2 N2 R1
  (try dsimp only); (try k_fold)
  repeat' ((fail_if_success (with_reducible show wpAny _ _ (compareOp CmpOp.Eq _ _) _ _ _)); (first | (k_unfold; (try dsimp only)) | (k_end; wrow_close) | walk1 | (dsimp only; walk1) | (leave1; walk_say "STEP leave1"; try dsimp only)))
  k_dflt (refine' Mine.eq_use R2 R3 ?ku ?_)
  case ku => first | ke_room | ktr_units | (simp only [units_deeper]; decide)
  k_steps
  all_goals (try k_data)
  all_goals w_report
