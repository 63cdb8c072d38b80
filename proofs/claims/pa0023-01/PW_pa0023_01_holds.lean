import PyProof.Rows.All
import Wide.All
import OpenK.AllK
import Wide.FinOn
import PySem.Challenge.RW_pa0023_01
open PySem PySem.W PyProof.Rows
set_option Elab.async false
namespace Mine
noncomputable def vw : Program := PySem.W.view PySem.Challenge.pw_pa0023_01 [0, 2, 4, 5, 7, 8, 9, 10, 11, 12, 19, 20, 21, 22, 23, 24, 25, 26]
noncomputable abbrev vwL : List Str := [Str.ofString "bytes_types", Str.ofString "a2b_base64", Str.ofString "b2a_base64", Str.ofString "b64encode", Str.ofString "b64decode"]
local macro_rules | `(tactic| o_head $H) => do
  let (hw, hc) := (Lean.mkIdent `hw, Lean.mkIdent `hc)
  `(tactic| (refine holds_open (q := Mine.vw) (loose := [Str.ofString "bytes_types", Str.ofString "a2b_base64", Str.ofString "b2a_base64", Str.ofString "b64encode", Str.ofString "b64decode"]) (Xt := fun s => xlAt Mine.vw [] s && recOk (RowW.records (OpenRow.toRowW PySem.Challenge.rw_pa0023_01.row)) s) (XP := XL Mine.vw []) (Yf := Hook.obs $H) (Ya := Hook.val $H) (YP := Hook.says $H) (N := 1804) (by intro w; kernel_rfl) (Hook.of $H) (Hook.keeps $H) (fun s e => xl_of s (Bool.and_eq_true_iff.mp e).1) XL.keeps (by rfl) (by rfl) (by rfl) (fun s e => recFacts_of (Bool.and_eq_true_iff.mp e).2) (by rfl) (by first | assumption | decide +kernel) (by decide +kernel) ⟨rfl, rfl, rfl, rfl, rfl, by decide +kernel⟩ ?$hw ?$hc))
set_option maxRecDepth 100000 in
set_option maxHeartbeats 8000000 in
open_top hd for PySem.Challenge.rw_pa0023_01
end Mine

section
open PySem PySem.W PyProof.Rows PySem.Spec PySem.Calls
namespace Mine
noncomputable abbrev loose : List Str := looseW Mine.vw
      [Str.ofString "bytes_types", Str.ofString "a2b_base64", Str.ofString "b2a_base64", Str.ofString "b64encode", Str.ofString "b64decode"]

/-- a goal at which the walk is to stop -/
def Hold (P : Prop) : Prop := P
theorem hold {P : Prop} (h : Hold P) : P := h

/-- the ground that a call of a def stands on -/
structure Gd (w : World) (mean : ExcName → Option Value) (mg mb : Str → Option Value) (A₀ : Around) (base : Heap) (outer : List Env) (h₀ : Heap) : Prop where
  B : Below A₀ base outer h₀
  X : (Mine.hd.heap_39 w.params).In h₀
  T : Top Mine.vw loose mean mg mb h₀
  XB : (Mine.hd.heap_39 w.params).In base
  TB : Top Mine.vw loose mean mg mb base
  D : KtsDicts (outer.filterMap (·.frame)) h₀

/-- back from a def whose ground is the caller's heap -/
def Lv (g : Heap) (P : Value → Shared → Prop) (v : Value) (s' : Shared) : Prop := ∃ L' m', Fr g L' s'.heap m' ∧ P v s'
theorem lv_ {g : Heap} {P : Value → Shared → Prop} {v : Value} {s' : Shared} {L' : Addr} {m' : Str → Option Value} (F : Fr g L' s'.heap m') (h : P v s') : Lv g P v s' := ⟨L', m', F, h⟩

/-- the same, where exceptions were caught meanwhile -/
def LvS (fs : List Addr) (g : Heap) (P : Value → Shared → Prop) (v : Value) (s' : Shared) : Prop := ∃ g' L' m', KtsTurn fs g g' ∧ Fr g' L' s'.heap m' ∧ P v s'

section
variable {prog : Program} {w : World} {A₀ A : Around} {s : Shared} {base h₀ : Heap} {outer : List Env} {L : Addr} {m : Str → Option Value} {env : Env} {news : List (Addr × Obj)} {K : Frag} {p : Program} {loose : List Str} {mean : ExcName → Option Value} {mg mb : Str → Option Value}
  {R : Result → Shared → Prop} {name qual : Str} {params : Arguments} {body : List Stmt} {scope : Scope} {dV kV doc pm cdv ct oc : Value} {an od : Option Addr} {osl : Array (Option Value)} {f : Addr} {args : Args} {binds : List (Str × Value)}

theorem below_here (B : Below A₀ base outer h₀) (F : Fr h₀ L s.heap m) (hA : A.frames = some (env :: outer)) (hf : env.frame = some L) (hke : env.scope.kind = .function) : Below A base (env :: outer) s.heap :=
  (groundX (R := fun _ _ => True) (news := []) B F News.nil hA hf hke).2.1

theorem dicts_here (D : KtsDicts (outer.filterMap (·.frame)) h₀) (F : Fr h₀ L s.heap m) (hf : env.frame = some L) : KtsDicts ((env :: outer).filterMap (·.frame)) s.heap := by
  intro b hb
  simp only [List.filterMap_cons, hf, List.mem_cons] at hb
  rcases hb with rfl | hb
  · obtain ⟨o, es, n, ho, hd, _⟩ := F.ns
    exact ⟨o, es, n, ho, hd⟩
  · obtain ⟨o, es, n, ho, hd⟩ := D b hb
    exact ⟨o, es, n, F.keep _ _ ho, hd⟩

/-- what the caller has of its own behind a call in which exceptions were caught -/
theorem turn_back {g' h' : Heap} {L' : Addr} {m' : Str → Option Value} (B : Below A₀ base outer h₀) (F : Fr h₀ L s.heap m) (N : News h₀ L s.heap news) (hf : env.frame = some L)
    (D : KtsDicts (outer.filterMap (·.frame)) h₀) (XB : K.In base) (TB : Top p loose mean mg mb base)
    (T' : KtsTurn ((env :: outer).filterMap (·.frame)) s.heap g') (F' : Fr g' L' h' m') :
    ∃ h₁, KtsTurn (outer.filterMap (·.frame)) h₀ h₁ ∧ Fr h₁ L h' m ∧ News h₁ L h' news ∧ Below A₀ base outer h₁ ∧ K.In h₁ ∧ Top p loose mean mg mb h₁ ∧ KtsDicts (outer.filterMap (·.frame)) h₁ := by
  have nL : h₀.get? L = none := kts_self F
  have mem : ∀ b, b ∈ (env :: outer).filterMap (·.frame) → b = L ∨ b ∈ outer.filterMap (·.frame) := by
    intro b hb
    simpa only [List.filterMap_cons, hf, List.mem_cons] using hb
  obtain ⟨T₁, S₁⟩ := kts_turn_at (h := h') (fs := outer.filterMap (·.frame)) (g := h₀)
    (fun b hb => let ⟨_, o, ho, _⟩ := B.frames.mem hb; ⟨o, ho⟩)
    (fun b o e nm => F'.keep b o (T'.other b o (F.keep b o e) (fun q => (mem b q).elim (fun z => by rw [z, nL] at e; cases e) nm)))
    (fun b o e _ => let ⟨sl, hs⟩ := T'.up (F.keep b o e); ⟨sl, F'.keep _ _ hs⟩)
  have B₁ : Below A₀ base outer (ktsHeap h' (outer.filterMap (·.frame)) h₀) := ⟨B.stack, fun b o e => T₁.other b o (B.stays b o e) (fun hm => by rw [(B.frames.mem hm).1] at e; cases e),
    B.frames.of_keeps fun b o e _ => let ⟨_, hs⟩ := T₁.up e; ⟨_, hs, rfl⟩⟩
  refine ⟨_, T₁, ⟨?_, S₁, by rw [T₁.size]; exact F.above⟩, fun q hq => ⟨?_, (N q hq).2.1, T₁.none_ _ (N q hq).2.2⟩, B₁, XB.keeps B₁.stays, TB.keeps B₁.stays, D.turn T₁⟩
  · obtain ⟨oL, es, ep, hL, hLd, hLk, hLf⟩ := F.ns
    obtain ⟨sl, hs⟩ := T'.up hL
    exact ⟨_, es, ep, F'.keep _ _ hs, hLd, hLk, hLf⟩
  · refine F'.keep _ _ (T'.other _ _ (N q hq).1 fun z => (mem _ z).elim (N q hq).2.1 fun z => ?_)
    obtain ⟨_, o, ho, _⟩ := B.frames.mem z
    rw [(N q hq).2.2] at ho; cases ho

theorem enter0 (B : Below A₀ base outer h₀) (F : Fr h₀ L s.heap m) (X₀ : K.In h₀) (N : News h₀ L s.heap news) (T : Top p loose mean mg mb h₀) (hA : A.frames = some (env :: outer)) (hf : env.frame = some L) (hke : env.scope.kind = .function)
    (ho : K.lookup f = some ⟨oc, od, .func (fnOf name qual params body scope dV kV doc pm an cdv ct), osl⟩) (hcd : codeIn K cdv qual = true) (hroom : A.depth < recursionLimit)
    (hbind : BindsTo s (fnOf name qual params body scope dV kV doc pm an cdv ct) args binds) (hloc : ∀ y ∈ binds, scope.names.lookup y.1 = some .local)
    (h : ∀ L' h₁, Fr s.heap L' h₁ (fun y => binds.reverse.lookup y) → News s.heap L' h₁ [] → Below A base (env :: outer) s.heap → K.In s.heap → Top p loose mean mg mb s.heap →
      wpAny (model prog w) (A.deeper (envOf qual scope L' f cdv)) (execs body (envOf qual scope L' f cdv))
        (fun fl s' => Lv s.heap (fun v s' => Fr h₀ L s'.heap m → News h₀ L s'.heap news → R (.ok (.ret v)) s') (match fl with | .ret v => v | _ => .none) s')
        (fun e s' => wpAny (model prog w) (A.deeper (envOf qual scope L' f cdv)) (leaving (envOf qual scope L' f cdv) e) (fun _ s'' => R (.error e) s'') (fun e' s'' => R (.error e') s'') s')
        { s with heap := h₁, toks := s.toks + binds.length })
    (hco : scope.isCoroutine = false) (hgen : scope.isGenerator = false) (hk : scope.kind = .function)
    (hcell : ∀ x ∈ scope.names, x.2 ≠ .cell) : codeAny (model prog w) A (.call (.ref f) args) R s := by
  have X := X₀.keeps F.keep
  refine codeAny_call_def (fd := fnOf name qual params body scope dV kV doc pm an cdv ct) (body := body) (binds := binds) hroom (X _ _ ho) rfl (T.nolimit.keeps F.keep) (codeRec_of X hcd) rfl hbind hcell hloc (fun h₁ hns hk₁ => ?_) hco hgen hk
  refine wpAny_mono (h s.heap.objs.size h₁ ⟨hns, hk₁, Nat.le_refl _⟩ News.nil (below_here B F hA hf hke) X (T.keeps F.keep)) (fun fl s' hl => ?_) fun _ _ y => y
  obtain ⟨L', m', F', k⟩ := hl
  exact k (F.keptAll F'.keep) (N.grown F'.keep)

theorem enterS (B : Below A₀ base outer h₀) (F : Fr h₀ L s.heap m) (X₀ : K.In h₀) (N : News h₀ L s.heap news) (T : Top p loose mean mg mb h₀) (XB : K.In base) (TB : Top p loose mean mg mb base) (D : KtsDicts (outer.filterMap (·.frame)) h₀)
    (hA : A.frames = some (env :: outer)) (hf : env.frame = some L) (hke : env.scope.kind = .function)
    (ho : K.lookup f = some ⟨oc, od, .func (fnOf name qual params body scope dV kV doc pm an cdv ct), osl⟩) (hcd : codeIn K cdv qual = true) (hroom : A.depth < recursionLimit)
    (hbind : BindsTo s (fnOf name qual params body scope dV kV doc pm an cdv ct) args binds) (hloc : ∀ y ∈ binds, scope.names.lookup y.1 = some .local)
    (h : ∀ L' h₁, Fr s.heap L' h₁ (fun y => binds.reverse.lookup y) → News s.heap L' h₁ [] → Below A base (env :: outer) s.heap → K.In s.heap → Top p loose mean mg mb s.heap → KtsDicts ((env :: outer).filterMap (·.frame)) s.heap →
      wpAny (model prog w) (A.deeper (envOf qual scope L' f cdv)) (execs body (envOf qual scope L' f cdv))
        (fun fl s' => LvS ((env :: outer).filterMap (·.frame)) s.heap (fun v s' => ∀ h₁, KtsTurn (outer.filterMap (·.frame)) h₀ h₁ → Fr h₁ L s'.heap m → News h₁ L s'.heap news → Below A₀ base outer h₁ → K.In h₁ → Top p loose mean mg mb h₁ → KtsDicts (outer.filterMap (·.frame)) h₁ → R (.ok (.ret v)) s') (match fl with | .ret v => v | _ => .none) s')
        (fun e s' => wpAny (model prog w) (A.deeper (envOf qual scope L' f cdv)) (leaving (envOf qual scope L' f cdv) e) (fun _ s'' => R (.error e) s'') (fun e' s'' => R (.error e') s'') s')
        { s with heap := h₁, toks := s.toks + binds.length })
    (hco : scope.isCoroutine = false) (hgen : scope.isGenerator = false) (hk : scope.kind = .function)
    (hcell : ∀ x ∈ scope.names, x.2 ≠ .cell) : codeAny (model prog w) A (.call (.ref f) args) R s := by
  have X := X₀.keeps F.keep
  refine codeAny_call_def (fd := fnOf name qual params body scope dV kV doc pm an cdv ct) (body := body) (binds := binds) hroom (X _ _ ho) rfl (T.nolimit.keeps F.keep) (codeRec_of X hcd) rfl hbind hcell hloc (fun h₁ hns hk₁ => ?_) hco hgen hk
  refine wpAny_mono (h s.heap.objs.size h₁ ⟨hns, hk₁, Nat.le_refl _⟩ News.nil (below_here B F hA hf hke) X (T.keeps F.keep) (dicts_here D F hf)) (fun fl s' hl => ?_) fun _ _ y => y
  obtain ⟨g', L', m', T', F', k⟩ := hl
  obtain ⟨h₁, a1, a2, a3, a4, a5, a6, a7⟩ := turn_back (K := K) (p := p) (loose := loose) (mean := mean) (mg := mg) (mb := mb) B F N hf D XB TB T' F'
  exact k h₁ a1 a2 a3 a4 a5 a6 a7

theorem enterC_raw (B : Below A₀ base outer h₀) (F : Fr h₀ L s.heap m) (X₀ : K.In h₀) (T : Top p loose mean mg mb h₀) (hA : A.frames = some (env :: outer)) (hf : env.frame = some L) (hke : env.scope.kind = .function)
    (ho : K.lookup f = some ⟨oc, od, .func (fnOf name qual params body scope dV kV doc pm an cdv ct), osl⟩) (hcd : codeIn K cdv qual = true) (hroom : A.depth < recursionLimit)
    (hbind : BindsTo s (fnOf name qual params body scope dV kV doc pm an cdv ct) args binds) (hkind : (binds.all fun y => scope.names.lookup y.1 == some .local || scope.names.lookup y.1 == some .cell) = true)
    (hnd : ((cellsFrom 0 scope.names []).map (·.1)).Nodup)
    (h : ∀ L' h₁ tk cells, Fr s.heap L' h₁ (bindL (envOfC qual scope L' f cdv).kindOf binds fun _ => none) → News s.heap L' h₁ cells →
      CellsAre (bindC (envOfC qual scope L' f cdv).kindOf binds fun _ => none) (cellsFrom (L' + 1) scope.names []) cells → Below A base (env :: outer) s.heap → K.In s.heap → Top p loose mean mg mb s.heap →
      wpAny (model prog w) (A.deeper (envOfC qual scope L' f cdv)) (execs body (envOfC qual scope L' f cdv))
        (fun fl s' => R (.ok (.ret (match fl with | .ret v => v | _ => .none))) s')
        (fun e s' => wpAny (model prog w) (A.deeper (envOfC qual scope L' f cdv)) (leaving (envOfC qual scope L' f cdv) e) (fun _ s'' => R (.error e) s'') (fun e' s'' => R (.error e') s'') s')
        { s with heap := h₁, toks := tk })
    (hco : scope.isCoroutine = false) (hgen : scope.isGenerator = false) (hk : scope.kind = .function) : codeAny (model prog w) A (.call (.ref f) args) R s := by
  have X := X₀.keeps F.keep
  refine codeAny_call_function hroom (X _ _ ho) rfl hco hgen rfl (codeRec_of X hcd) (hbind _ _ _ _ ?_)
  refine wpAny_newFunctionEnv_cells hk (kindsX hkind _) fun env' he s' x => ?_
  subst he
  refine ⟨(T.nolimit.keeps F.keep).keeps x.toInCall.keep, codeAny_func ?_⟩
  obtain ⟨h₁, tk, rfl, _⟩ := x.done
  obtain ⟨cells, NC, Y⟩ := Cl.news (h₀ := s.heap) (Nat.le_refl _) fun n c hm => ⟨x.cell n c (lookup_of_mem_nodup (cellsFrom_names scope.names 0 (s.heap.objs.size + 1) [] [] rfl ▸ hnd) hm), x.above n c hm⟩
  exact h s.heap.objs.size h₁ tk cells ⟨x.toInCall.ns, x.toInCall.keep, Nat.le_refl _⟩ NC Y (below_here B F hA hf hke) X (T.keeps F.keep)

theorem enterC0 (B : Below A₀ base outer h₀) (F : Fr h₀ L s.heap m) (X₀ : K.In h₀) (N : News h₀ L s.heap news) (T : Top p loose mean mg mb h₀) (hA : A.frames = some (env :: outer)) (hf : env.frame = some L) (hke : env.scope.kind = .function)
    (ho : K.lookup f = some ⟨oc, od, .func (fnOf name qual params body scope dV kV doc pm an cdv ct), osl⟩) (hcd : codeIn K cdv qual = true) (hroom : A.depth < recursionLimit)
    (hbind : BindsTo s (fnOf name qual params body scope dV kV doc pm an cdv ct) args binds) (hkind : (binds.all fun y => scope.names.lookup y.1 == some .local || scope.names.lookup y.1 == some .cell) = true)
    (hnd : ((cellsFrom 0 scope.names []).map (·.1)).Nodup)
    (h : ∀ L' h₁ tk cells, Fr s.heap L' h₁ (bindL (envOfC qual scope L' f cdv).kindOf binds fun _ => none) → News s.heap L' h₁ cells →
      CellsAre (bindC (envOfC qual scope L' f cdv).kindOf binds fun _ => none) (cellsFrom (L' + 1) scope.names []) cells → Below A base (env :: outer) s.heap → K.In s.heap → Top p loose mean mg mb s.heap →
      wpAny (model prog w) (A.deeper (envOfC qual scope L' f cdv)) (execs body (envOfC qual scope L' f cdv))
        (fun fl s' => Lv s.heap (fun v s' => Fr h₀ L s'.heap m → News h₀ L s'.heap news → R (.ok (.ret v)) s') (match fl with | .ret v => v | _ => .none) s')
        (fun e s' => wpAny (model prog w) (A.deeper (envOfC qual scope L' f cdv)) (leaving (envOfC qual scope L' f cdv) e) (fun _ s'' => R (.error e) s'') (fun e' s'' => R (.error e') s'') s')
        { s with heap := h₁, toks := tk })
    (hco : scope.isCoroutine = false) (hgen : scope.isGenerator = false) (hk : scope.kind = .function) : codeAny (model prog w) A (.call (.ref f) args) R s := by
  refine enterC_raw B F X₀ T hA hf hke ho hcd hroom hbind hkind hnd (fun L' h₁ tk cells F' N' Y B' X' T' => ?_) hco hgen hk
  refine wpAny_mono (h L' h₁ tk cells F' N' Y B' X' T') (fun fl s' hl => ?_) fun _ _ y => y
  obtain ⟨L', m', F', k⟩ := hl
  exact k (F.keptAll F'.keep) (N.grown F'.keep)

theorem enterSC (B : Below A₀ base outer h₀) (F : Fr h₀ L s.heap m) (X₀ : K.In h₀) (N : News h₀ L s.heap news) (T : Top p loose mean mg mb h₀) (XB : K.In base) (TB : Top p loose mean mg mb base) (D : KtsDicts (outer.filterMap (·.frame)) h₀)
    (hA : A.frames = some (env :: outer)) (hf : env.frame = some L) (hke : env.scope.kind = .function)
    (ho : K.lookup f = some ⟨oc, od, .func (fnOf name qual params body scope dV kV doc pm an cdv ct), osl⟩) (hcd : codeIn K cdv qual = true) (hroom : A.depth < recursionLimit)
    (hbind : BindsTo s (fnOf name qual params body scope dV kV doc pm an cdv ct) args binds) (hkind : (binds.all fun y => scope.names.lookup y.1 == some .local || scope.names.lookup y.1 == some .cell) = true)
    (hnd : ((cellsFrom 0 scope.names []).map (·.1)).Nodup)
    (h : ∀ L' h₁ tk cells, Fr s.heap L' h₁ (bindL (envOfC qual scope L' f cdv).kindOf binds fun _ => none) → News s.heap L' h₁ cells →
      CellsAre (bindC (envOfC qual scope L' f cdv).kindOf binds fun _ => none) (cellsFrom (L' + 1) scope.names []) cells → Below A base (env :: outer) s.heap → K.In s.heap → Top p loose mean mg mb s.heap → KtsDicts ((env :: outer).filterMap (·.frame)) s.heap →
      wpAny (model prog w) (A.deeper (envOfC qual scope L' f cdv)) (execs body (envOfC qual scope L' f cdv))
        (fun fl s' => LvS ((env :: outer).filterMap (·.frame)) s.heap (fun v s' => ∀ h₁, KtsTurn (outer.filterMap (·.frame)) h₀ h₁ → Fr h₁ L s'.heap m → News h₁ L s'.heap news → Below A₀ base outer h₁ → K.In h₁ → Top p loose mean mg mb h₁ → KtsDicts (outer.filterMap (·.frame)) h₁ → R (.ok (.ret v)) s') (match fl with | .ret v => v | _ => .none) s')
        (fun e s' => wpAny (model prog w) (A.deeper (envOfC qual scope L' f cdv)) (leaving (envOfC qual scope L' f cdv) e) (fun _ s'' => R (.error e) s'') (fun e' s'' => R (.error e') s'') s')
        { s with heap := h₁, toks := tk })
    (hco : scope.isCoroutine = false) (hgen : scope.isGenerator = false) (hk : scope.kind = .function) : codeAny (model prog w) A (.call (.ref f) args) R s := by
  refine enterC_raw B F X₀ T hA hf hke ho hcd hroom hbind hkind hnd (fun L' h₁ tk cells F' N' Y B' X' T' => ?_) hco hgen hk
  refine wpAny_mono (h L' h₁ tk cells F' N' Y B' X' T' (dicts_here D F hf)) (fun fl s' hl => ?_) fun _ _ y => y
  obtain ⟨g', L', m', T', F', k⟩ := hl
  obtain ⟨h₁, a1, a2, a3, a4, a5, a6, a7⟩ := turn_back (K := K) (p := p) (loose := loose) (mean := mean) (mg := mg) (mb := mb) B F N hf D XB TB T' F'
  exact k h₁ a1 a2 a3 a4 a5 a6 a7

end

/-- a def that hands back a plain value -/
def Gives (f : Addr) (vs : List Value) (kw : List (Str × Value)) (d u : Nat) (R : Value → Prop) : Prop :=
  ∀ (w : World) (mean : ExcName → Option Value) (mg mb : Str → Option Value) (dp un : Nat) (gd : Option (List Code)) (cn : Str) (cs : Scope) (a : Addr) (ccd : Value) (cl : List (Str × Addr)) (outer : List Env) (A₀ : Around) (base h₀ : Heap) (L : Addr) (m : Str → Option Value) (news : List (Addr × Obj)) (s : Shared) (Q E : Value → Shared → Prop),
    Gd w mean mg mb A₀ base outer h₀ → Fr h₀ L s.heap m → News h₀ L s.heap news → cs.kind = .function → dp + d < recursionLimit → un + u < cLine →
    (∀ v h' tk', R v → Fr h₀ L h' m → News h₀ L h' news → Q v { s with heap := h', toks := tk' }) →
    wpAny (model PySem.Challenge.rw_pa0023_01.row.prog w) (ktrTop dp un gd cn cs L a ccd cl outer) (call (.ref f) vs kw) Q E s

/-- a def that catches what it raises and hands back a plain value -/
def GivesS (f : Addr) (vs : List Value) (kw : List (Str × Value)) (d u : Nat) (R : Value → Prop) : Prop :=
  ∀ (w : World) (mean : ExcName → Option Value) (mg mb : Str → Option Value) (dp un : Nat) (gd : Option (List Code)) (cn : Str) (cs : Scope) (a : Addr) (ccd : Value) (cl : List (Str × Addr)) (outer : List Env) (A₀ : Around) (base h₀ : Heap) (L : Addr) (m : Str → Option Value) (news : List (Addr × Obj)) (s : Shared) (Q E : Value → Shared → Prop),
    Gd w mean mg mb A₀ base outer h₀ → Fr h₀ L s.heap m → News h₀ L s.heap news → cs.kind = .function → dp + d < recursionLimit → un + u < cLine →
    (∀ v h' tk' h₁, R v → KtsTurn (outer.filterMap (·.frame)) h₀ h₁ → Gd w mean mg mb A₀ base outer h₁ → Fr h₁ L h' m → News h₁ L h' news → Q v { s with heap := h', toks := tk' }) →
    wpAny (model PySem.Challenge.rw_pa0023_01.row.prog w) (ktrTop dp un gd cn cs L a ccd cl outer) (call (.ref f) vs kw) Q E s
section
variable {w : World} {A₀ A : Around} {s : Shared} {base h₀ : Heap} {outer : List Env} {L : Addr} {m : Str → Option Value} {env : Env} {news : List (Addr × Obj)} {mean : ExcName → Option Value} {mg mb : Str → Option Value}
  {name qual : Str} {params : Arguments} {body : List Stmt} {scope : Scope} {dV kV doc pm cdv ct oc : Value} {an od : Option Addr} {osl : Array (Option Value)} {f : Addr} {vs : List Value} {kw : List (Str × Value)} {binds : List (Str × Value)} {Q E : Value → Shared → Prop}

theorem Gd.here (G : Gd w mean mg mb A₀ base outer h₀) (F : Fr h₀ L s.heap m) (hA : A.frames = some (env :: outer)) (hf : env.frame = some L) (hke : env.scope.kind = .function) : Gd w mean mg mb A base (env :: outer) s.heap :=
  ⟨below_here G.B F hA hf hke, G.X.keeps F.keep, G.T.keeps F.keep, G.XB, G.TB, dicts_here G.D F hf⟩

theorem go0 (G : Gd w mean mg mb A₀ base outer h₀) (F : Fr h₀ L s.heap m) (N : News h₀ L s.heap news) (hA : A.frames = some (env :: outer)) (hf : env.frame = some L) (hke : env.scope.kind = .function)
    (ho : (Mine.hd.heap_39 w.params).lookup f = some ⟨oc, od, .func (fnOf name qual params body scope dV kV doc pm an cdv ct), osl⟩) (hcd : codeIn (Mine.hd.heap_39 w.params) cdv qual = true) (hroom : A.depth < recursionLimit)
    (hbind : (Mine.hd.heap_39 w.params).In s.heap → BindsTo s (fnOf name qual params body scope dV kV doc pm an cdv ct) ⟨vs, kw⟩ binds) (hloc : ∀ y ∈ binds, scope.names.lookup y.1 = some .local)
    (h : ∀ L' h₁, Fr s.heap L' h₁ (fun y => binds.reverse.lookup y) → News s.heap L' h₁ [] → Gd w mean mg mb A base (env :: outer) s.heap →
      wpAny (model PySem.Challenge.rw_pa0023_01.row.prog w) (A.deeper (envOf qual scope L' f cdv)) (execs body (envOf qual scope L' f cdv))
        (fun fl s' => Lv s.heap (fun v s' => Fr h₀ L s'.heap m → News h₀ L s'.heap news → Q v s') (match fl with | .ret v => v | _ => .none) s')
        (fun e s' => wpAny (model PySem.Challenge.rw_pa0023_01.row.prog w) (A.deeper (envOf qual scope L' f cdv)) (leaving (envOf qual scope L' f cdv) e) (fun _ s'' => E e s'') (fun e' s'' => E e' s'') s')
        { s with heap := h₁, toks := s.toks + binds.length })
    (hco : scope.isCoroutine = false) (hgen : scope.isGenerator = false) (hk : scope.kind = .function)
    (hcell : ∀ x ∈ scope.names, x.2 ≠ .cell) : wpAny (model PySem.Challenge.rw_pa0023_01.row.prog w) A (call (.ref f) vs kw) Q E s :=
  wpAny_call (enter0 G.B F G.X N G.T hA hf hke ho hcd hroom (hbind (G.X.keeps F.keep)) hloc (fun L' h₁ F' N' _ _ _ => h L' h₁ F' N' (G.here F hA hf hke)) hco hgen hk hcell)

theorem goC0 (G : Gd w mean mg mb A₀ base outer h₀) (F : Fr h₀ L s.heap m) (N : News h₀ L s.heap news) (hA : A.frames = some (env :: outer)) (hf : env.frame = some L) (hke : env.scope.kind = .function)
    (ho : (Mine.hd.heap_39 w.params).lookup f = some ⟨oc, od, .func (fnOf name qual params body scope dV kV doc pm an cdv ct), osl⟩) (hcd : codeIn (Mine.hd.heap_39 w.params) cdv qual = true) (hroom : A.depth < recursionLimit)
    (hbind : (Mine.hd.heap_39 w.params).In s.heap → BindsTo s (fnOf name qual params body scope dV kV doc pm an cdv ct) ⟨vs, kw⟩ binds) (hkind : (binds.all fun y => scope.names.lookup y.1 == some .local || scope.names.lookup y.1 == some .cell) = true)
    (hnd : ((cellsFrom 0 scope.names []).map (·.1)).Nodup)
    (h : ∀ L' h₁ tk cells, Fr s.heap L' h₁ (bindL (envOfC qual scope L' f cdv).kindOf binds fun _ => none) → News s.heap L' h₁ cells →
      CellsAre (bindC (envOfC qual scope L' f cdv).kindOf binds fun _ => none) (cellsFrom (L' + 1) scope.names []) cells → Gd w mean mg mb A base (env :: outer) s.heap →
      wpAny (model PySem.Challenge.rw_pa0023_01.row.prog w) (A.deeper (envOfC qual scope L' f cdv)) (execs body (envOfC qual scope L' f cdv))
        (fun fl s' => Lv s.heap (fun v s' => Fr h₀ L s'.heap m → News h₀ L s'.heap news → Q v s') (match fl with | .ret v => v | _ => .none) s')
        (fun e s' => wpAny (model PySem.Challenge.rw_pa0023_01.row.prog w) (A.deeper (envOfC qual scope L' f cdv)) (leaving (envOfC qual scope L' f cdv) e) (fun _ s'' => E e s'') (fun e' s'' => E e' s'') s')
        { s with heap := h₁, toks := tk })
    (hco : scope.isCoroutine = false) (hgen : scope.isGenerator = false) (hk : scope.kind = .function) : wpAny (model PySem.Challenge.rw_pa0023_01.row.prog w) A (call (.ref f) vs kw) Q E s :=
  wpAny_call (enterC0 G.B F G.X N G.T hA hf hke ho hcd hroom (hbind (G.X.keeps F.keep)) hkind hnd (fun L' h₁ tk cells F' N' Y _ _ _ => h L' h₁ tk cells F' N' Y (G.here F hA hf hke)) hco hgen hk)

theorem goS (G : Gd w mean mg mb A₀ base outer h₀) (F : Fr h₀ L s.heap m) (N : News h₀ L s.heap news) (hA : A.frames = some (env :: outer)) (hf : env.frame = some L) (hke : env.scope.kind = .function)
    (ho : (Mine.hd.heap_39 w.params).lookup f = some ⟨oc, od, .func (fnOf name qual params body scope dV kV doc pm an cdv ct), osl⟩) (hcd : codeIn (Mine.hd.heap_39 w.params) cdv qual = true) (hroom : A.depth < recursionLimit)
    (hbind : (Mine.hd.heap_39 w.params).In s.heap → BindsTo s (fnOf name qual params body scope dV kV doc pm an cdv ct) ⟨vs, kw⟩ binds) (hloc : ∀ y ∈ binds, scope.names.lookup y.1 = some .local)
    (h : ∀ L' h₁, Fr s.heap L' h₁ (fun y => binds.reverse.lookup y) → News s.heap L' h₁ [] → Gd w mean mg mb A base (env :: outer) s.heap →
      wpAny (model PySem.Challenge.rw_pa0023_01.row.prog w) (A.deeper (envOf qual scope L' f cdv)) (execs body (envOf qual scope L' f cdv))
        (fun fl s' => LvS ((env :: outer).filterMap (·.frame)) s.heap (fun v s' => ∀ h₁, KtsTurn (outer.filterMap (·.frame)) h₀ h₁ → Gd w mean mg mb A₀ base outer h₁ → Fr h₁ L s'.heap m → News h₁ L s'.heap news → Q v s') (match fl with | .ret v => v | _ => .none) s')
        (fun e s' => wpAny (model PySem.Challenge.rw_pa0023_01.row.prog w) (A.deeper (envOf qual scope L' f cdv)) (leaving (envOf qual scope L' f cdv) e) (fun _ s'' => E e s'') (fun e' s'' => E e' s'') s')
        { s with heap := h₁, toks := s.toks + binds.length })
    (hco : scope.isCoroutine = false) (hgen : scope.isGenerator = false) (hk : scope.kind = .function)
    (hcell : ∀ x ∈ scope.names, x.2 ≠ .cell) : wpAny (model PySem.Challenge.rw_pa0023_01.row.prog w) A (call (.ref f) vs kw) Q E s :=
  wpAny_call (enterS G.B F G.X N G.T G.XB G.TB G.D hA hf hke ho hcd hroom (hbind (G.X.keeps F.keep)) hloc (fun L' h₁ F' N' _ _ _ _ => wpAny_mono (h L' h₁ F' N' (G.here F hA hf hke))
    (fun _ _ ⟨g', L'', m', T', F'', k⟩ => ⟨g', L'', m', T', F'', fun h₁ a1 a2 a3 a4 a5 a6 a7 => k h₁ a1 ⟨a4, a5, a6, G.XB, G.TB, a7⟩ a2 a3⟩) fun _ _ y => y) hco hgen hk hcell)

theorem goSC (G : Gd w mean mg mb A₀ base outer h₀) (F : Fr h₀ L s.heap m) (N : News h₀ L s.heap news) (hA : A.frames = some (env :: outer)) (hf : env.frame = some L) (hke : env.scope.kind = .function)
    (ho : (Mine.hd.heap_39 w.params).lookup f = some ⟨oc, od, .func (fnOf name qual params body scope dV kV doc pm an cdv ct), osl⟩) (hcd : codeIn (Mine.hd.heap_39 w.params) cdv qual = true) (hroom : A.depth < recursionLimit)
    (hbind : (Mine.hd.heap_39 w.params).In s.heap → BindsTo s (fnOf name qual params body scope dV kV doc pm an cdv ct) ⟨vs, kw⟩ binds) (hkind : (binds.all fun y => scope.names.lookup y.1 == some .local || scope.names.lookup y.1 == some .cell) = true)
    (hnd : ((cellsFrom 0 scope.names []).map (·.1)).Nodup)
    (h : ∀ L' h₁ tk cells, Fr s.heap L' h₁ (bindL (envOfC qual scope L' f cdv).kindOf binds fun _ => none) → News s.heap L' h₁ cells →
      CellsAre (bindC (envOfC qual scope L' f cdv).kindOf binds fun _ => none) (cellsFrom (L' + 1) scope.names []) cells → Gd w mean mg mb A base (env :: outer) s.heap →
      wpAny (model PySem.Challenge.rw_pa0023_01.row.prog w) (A.deeper (envOfC qual scope L' f cdv)) (execs body (envOfC qual scope L' f cdv))
        (fun fl s' => LvS ((env :: outer).filterMap (·.frame)) s.heap (fun v s' => ∀ h₁, KtsTurn (outer.filterMap (·.frame)) h₀ h₁ → Gd w mean mg mb A₀ base outer h₁ → Fr h₁ L s'.heap m → News h₁ L s'.heap news → Q v s') (match fl with | .ret v => v | _ => .none) s')
        (fun e s' => wpAny (model PySem.Challenge.rw_pa0023_01.row.prog w) (A.deeper (envOfC qual scope L' f cdv)) (leaving (envOfC qual scope L' f cdv) e) (fun _ s'' => E e s'') (fun e' s'' => E e' s'') s')
        { s with heap := h₁, toks := tk })
    (hco : scope.isCoroutine = false) (hgen : scope.isGenerator = false) (hk : scope.kind = .function) : wpAny (model PySem.Challenge.rw_pa0023_01.row.prog w) A (call (.ref f) vs kw) Q E s :=
  wpAny_call (enterSC G.B F G.X N G.T G.XB G.TB G.D hA hf hke ho hcd hroom (hbind (G.X.keeps F.keep)) hkind hnd (fun L' h₁ tk cells F' N' Y _ _ _ _ => wpAny_mono (h L' h₁ tk cells F' N' Y (G.here F hA hf hke))
    (fun _ _ ⟨g', L'', m', T', F'', k⟩ => ⟨g', L'', m', T', F'', fun h₁ a1 a2 a3 a4 a5 a6 a7 => k h₁ a1 ⟨a4, a5, a6, G.XB, G.TB, a7⟩ a2 a3⟩) fun _ _ y => y) hco hgen hk)
end

section
variable {f : Addr} {vs : List Value} {kw : List (Str × Value)} {d u : Nat} {R : Value → Prop} {w : World} {mean : ExcName → Option Value} {mg mb : Str → Option Value} {dp un : Nat} {gd : Option (List Code)} {cn : Str} {cs : Scope} {a : Addr} {ccd : Value} {cl : List (Str × Addr)} {outer : List Env} {A₀ : Around} {base h₀ : Heap} {L : Addr} {m : Str → Option Value} {news : List (Addr × Obj)} {s : Shared} {Q E : Value → Shared → Prop}
theorem Gives.use (c : Gives f vs kw d u R) (F : Fr h₀ L s.heap m) (N : News h₀ L s.heap news) (G : Gd w mean mg mb A₀ base outer h₀) (hk : cs.kind = .function) (hd : dp + d < recursionLimit) (hu : un + u < cLine)
    (h : ∀ v h' tk', R v → Fr h₀ L h' m → News h₀ L h' news → Q v { s with heap := h', toks := tk' }) :
    wpAny (model PySem.Challenge.rw_pa0023_01.row.prog w) (ktrTop dp un gd cn cs L a ccd cl outer) (call (.ref f) vs kw) Q E s := c _ _ _ _ _ _ _ _ _ _ _ _ _ _ _ _ _ _ _ _ _ _ G F N hk hd hu h
theorem GivesS.use (c : GivesS f vs kw d u R) (F : Fr h₀ L s.heap m) (N : News h₀ L s.heap news) (G : Gd w mean mg mb A₀ base outer h₀) (hk : cs.kind = .function) (hd : dp + d < recursionLimit) (hu : un + u < cLine)
    (h : ∀ v h' tk' h₁, R v → KtsTurn (outer.filterMap (·.frame)) h₀ h₁ → Gd w mean mg mb A₀ base outer h₁ → Fr h₁ L h' m → News h₁ L h' news → Q v { s with heap := h', toks := tk' }) :
    wpAny (model PySem.Challenge.rw_pa0023_01.row.prog w) (ktrTop dp un gd cn cs L a ccd cl outer) (call (.ref f) vs kw) Q E s := c _ _ _ _ _ _ _ _ _ _ _ _ _ _ _ _ _ _ _ _ _ _ G F N hk hd hu h
end

/-- a def that hands back a plain value, or raises an exception of class C -/
def GivesR (f : Addr) (vs : List Value) (kw : List (Str × Value)) (d u : Nat) (R : Value → Prop) (X : Prop) (C : Value) : Prop :=
  ∀ (w : World) (mean : ExcName → Option Value) (mg mb : Str → Option Value) (dp un : Nat) (gd : Option (List Code)) (cn : Str) (cs : Scope) (a : Addr) (ccd : Value) (cl : List (Str × Addr)) (outer : List Env) (A₀ : Around) (base h₀ : Heap) (L : Addr) (m : Str → Option Value) (news : List (Addr × Obj)) (s : Shared) (Q E : Value → Shared → Prop),
    Gd w mean mg mb A₀ base outer h₀ → Fr h₀ L s.heap m → News h₀ L s.heap news → cs.kind = .function → dp + d < recursionLimit → un + u < cLine →
    (∀ v h' tk', R v → Fr h₀ L h' m → News h₀ L h' news → Q v { s with heap := h', toks := tk' }) →
    (X → ∀ e t xs h' tk', RaisedS base s.heap (envX cn cs L a ccd cl :: outer) e C t xs [] h' → s.heap.UpToSlots h' → E (.ref e) { s with heap := h', toks := tk' }) →
    wpAny (model PySem.Challenge.rw_pa0023_01.row.prog w) (ktrTop dp un gd cn cs L a ccd cl outer) (call (.ref f) vs kw) Q E s
section
variable {f : Addr} {vs : List Value} {kw : List (Str × Value)} {d u : Nat} {R : Value → Prop} {X : Prop} {C : Value} {w : World} {mean : ExcName → Option Value} {mg mb : Str → Option Value} {dp un : Nat} {gd : Option (List Code)} {cn : Str} {cs : Scope} {a : Addr} {ccd : Value} {cl : List (Str × Addr)} {outer : List Env} {A₀ : Around} {base h₀ : Heap} {L : Addr} {m : Str → Option Value} {news : List (Addr × Obj)} {s : Shared} {Q E : Value → Shared → Prop}
theorem GivesR.use (c : GivesR f vs kw d u R X C) (F : Fr h₀ L s.heap m) (N : News h₀ L s.heap news) (G : Gd w mean mg mb A₀ base outer h₀) (hk : cs.kind = .function) (hd : dp + d < recursionLimit) (hu : un + u < cLine)
    (h : ∀ v h' tk', R v → Fr h₀ L h' m → News h₀ L h' news → Q v { s with heap := h', toks := tk' })
    (hx : X → ∀ e t xs h' tk', RaisedS base s.heap (envX cn cs L a ccd cl :: outer) e C t xs [] h' → s.heap.UpToSlots h' → E (.ref e) { s with heap := h', toks := tk' }) :
    wpAny (model PySem.Challenge.rw_pa0023_01.row.prog w) (ktrTop dp un gd cn cs L a ccd cl outer) (call (.ref f) vs kw) Q E s := c _ _ _ _ _ _ _ _ _ _ _ _ _ _ _ _ _ _ _ _ _ _ G F N hk hd hu h hx
theorem RaisedS.bare {base G : Heap} {l : List Env} {e t : Addr} {cls : Value} {vs : List Value} {news : List (Addr × Obj)} {h : Heap} (R : RaisedS base G l e cls t vs news h) : RaisedS base G l e cls t vs [] h := by
  obtain ⟨⟨B, a1, a2, _, a4, a5⟩, a6⟩ := R
  exact ⟨⟨B, a1, a2, (fun _ h => nomatch h), a4, a5⟩, a6⟩
end

/-- a def that is handed a list and hands back a plain value -/
def GivesH (f : Addr) (vs : List Value) (kw : List (Str × Value)) (d u : Nat) (P : Heap → Prop) (R : Value → Prop) : Prop :=
  ∀ (w : World) (mean : ExcName → Option Value) (mg mb : Str → Option Value) (dp un : Nat) (gd : Option (List Code)) (cn : Str) (cs : Scope) (a : Addr) (ccd : Value) (cl : List (Str × Addr)) (outer : List Env) (A₀ : Around) (base h₀ : Heap) (L : Addr) (m : Str → Option Value) (news : List (Addr × Obj)) (s : Shared) (Q E : Value → Shared → Prop),
    Gd w mean mg mb A₀ base outer h₀ → Fr h₀ L s.heap m → News h₀ L s.heap news → cs.kind = .function → dp + d < recursionLimit → un + u < cLine → P s.heap →
    (∀ v h' tk', R v → Fr h₀ L h' m → News h₀ L h' news → Q v { s with heap := h', toks := tk' }) →
    wpAny (model PySem.Challenge.rw_pa0023_01.row.prog w) (ktrTop dp un gd cn cs L a ccd cl outer) (call (.ref f) vs kw) Q E s
section
variable {f : Addr} {vs : List Value} {kw : List (Str × Value)} {d u : Nat} {P : Heap → Prop} {R : Value → Prop} {w : World} {mean : ExcName → Option Value} {mg mb : Str → Option Value} {dp un : Nat} {gd : Option (List Code)} {cn : Str} {cs : Scope} {a : Addr} {ccd : Value} {cl : List (Str × Addr)} {outer : List Env} {A₀ : Around} {base h₀ : Heap} {L : Addr} {m : Str → Option Value} {news : List (Addr × Obj)} {s : Shared} {Q E : Value → Shared → Prop}
theorem GivesH.use (c : GivesH f vs kw d u P R) (F : Fr h₀ L s.heap m) (N : News h₀ L s.heap news) (G : Gd w mean mg mb A₀ base outer h₀) (hk : cs.kind = .function) (hd : dp + d < recursionLimit) (hu : un + u < cLine) (hP : P s.heap)
    (h : ∀ v h' tk', R v → Fr h₀ L h' m → News h₀ L h' news → Q v { s with heap := h', toks := tk' }) :
    wpAny (model PySem.Challenge.rw_pa0023_01.row.prog w) (ktrTop dp un gd cn cs L a ccd cl outer) (call (.ref f) vs kw) Q E s := c _ _ _ _ _ _ _ _ _ _ _ _ _ _ _ _ _ _ _ _ _ _ G F N hk hd hu hP h
end

/-- a def that hands back a plain value, or in which the interpreter raises an exception of the built-in class C -/
def GivesN (f : Addr) (vs : List Value) (kw : List (Str × Value)) (d u : Nat) (R : Value → Prop) (X : Prop) (C : String) : Prop :=
  ∀ (w : World) (mean : ExcName → Option Value) (mg mb : Str → Option Value) (dp un : Nat) (gd : Option (List Code)) (cn : Str) (cs : Scope) (a : Addr) (ccd : Value) (cl : List (Str × Addr)) (outer : List Env) (A₀ : Around) (base h₀ : Heap) (L : Addr) (m : Str → Option Value) (news : List (Addr × Obj)) (s : Shared) (Q E : Value → Shared → Prop),
    Gd w mean mg mb A₀ base outer h₀ → Fr h₀ L s.heap m → News h₀ L s.heap news → cs.kind = .function → dp + d < recursionLimit → un + u < cLine →
    (∀ v h' tk', R v → Fr h₀ L h' m → News h₀ L h' news → Q v { s with heap := h', toks := tk' }) →
    (X → ∀ e h' tk', RaisedSN base s.heap (envX cn cs L a ccd cl :: outer) e (.type C) [] h' → s.heap.UpToSlots h' → E (.ref e) { s with heap := h', toks := tk' }) →
    wpAny (model PySem.Challenge.rw_pa0023_01.row.prog w) (ktrTop dp un gd cn cs L a ccd cl outer) (call (.ref f) vs kw) Q E s
section
variable {f : Addr} {vs : List Value} {kw : List (Str × Value)} {d u : Nat} {R : Value → Prop} {X : Prop} {C : String} {w : World} {mean : ExcName → Option Value} {mg mb : Str → Option Value} {dp un : Nat} {gd : Option (List Code)} {cn : Str} {cs : Scope} {a : Addr} {ccd : Value} {cl : List (Str × Addr)} {outer : List Env} {A₀ : Around} {base h₀ : Heap} {L : Addr} {m : Str → Option Value} {news : List (Addr × Obj)} {s : Shared} {Q E : Value → Shared → Prop}
theorem GivesN.use (c : GivesN f vs kw d u R X C) (F : Fr h₀ L s.heap m) (N : News h₀ L s.heap news) (G : Gd w mean mg mb A₀ base outer h₀) (hk : cs.kind = .function) (hd : dp + d < recursionLimit) (hu : un + u < cLine)
    (h : ∀ v h' tk', R v → Fr h₀ L h' m → News h₀ L h' news → Q v { s with heap := h', toks := tk' })
    (hx : X → ∀ e h' tk', RaisedSN base s.heap (envX cn cs L a ccd cl :: outer) e (.type C) [] h' → s.heap.UpToSlots h' → E (.ref e) { s with heap := h', toks := tk' }) :
    wpAny (model PySem.Challenge.rw_pa0023_01.row.prog w) (ktrTop dp un gd cn cs L a ccd cl outer) (call (.ref f) vs kw) Q E s := c _ _ _ _ _ _ _ _ _ _ _ _ _ _ _ _ _ _ _ _ _ _ G F N hk hd hu h hx
theorem RaisedSN.bare {base G : Heap} {l : List Env} {e : Addr} {cls : Value} {news : List (Addr × Obj)} {h : Heap} (R : RaisedSN base G l e cls news h) : RaisedSN base G l e cls [] h := by
  obtain ⟨B, a0, a1, a2, _, a4⟩ := R
  exact ⟨B, a0, a1, a2, (fun _ h => nomatch h), a4⟩
end
end Mine
end

section
open PySem PySem.W PyProof.Rows PySem.Spec PySem.Calls
namespace Mine
/-- a walk that raises nothing, its end a letter -/
theorem absQ {prog : Program} {w : World} {A : Around} {α : Type} {t : Sem α} {Q : α → Shared → Prop} {E : Value → Shared → Prop} {s : Shared}
    (h : ∀ QQ : α → Shared → Prop, (∀ fl s', Q fl s' → QQ fl s') → wpAny (model prog w) A t QQ (fun _ _ => False) s) : wpAny (model prog w) A t Q E s :=
  wpAny_mono (h Q fun _ _ x => x) (fun _ _ x => x) (fun _ _ x => x.elim)
theorem absQ1 {prog : Program} {w : World} {A : Around} {α : Type} {t : Sem α} {Q : α → Shared → Prop} {E : Value → Shared → Prop} {s : Shared}
    (h : ∀ QQ : α → Shared → Prop, (∀ fl s', Q fl s' → QQ fl s') → wpAny (model prog w) A t QQ E s) : wpAny (model prog w) A t Q E s := h Q fun _ _ x => x
end Mine
end

section
open PySem PySem.W PyProof.Rows PySem.Spec PySem.Calls
set_option maxRecDepth 100000
namespace Mine
open Builtin

theorem r_type_bytes {prog : Program} {w : World} {A : Around} {E : Value → Shared → Prop} {s : Shared} {b : Array UInt8} {t : Tok} {Q : Value → Shared → Prop} (hq : Q (.type "bytes") s) :
    wpAny (model prog w) A (call (.type "type") [.bytes b t]) Q E s := call_type_of (typeIs_bytes _ _ _) (by decide +kernel) hq
theorem r_type_bool {prog : Program} {w : World} {A : Around} {E : Value → Shared → Prop} {s : Shared} {x : Bool} {Q : Value → Shared → Prop} (hq : Q (.type "bool") s) :
    wpAny (model prog w) A (call (.type "type") [.bool x]) Q E s := call_type_of (PySem.typeIs_bool _ _) (by decide +kernel) hq

/-- the table that maketrans makes -/
def mtab (frm to : Array UInt8) : Array UInt8 := (frm.toList.zip to.toList).foldl (fun t (f, x) => t.setIfInBounds f.toNat x) ((Array.range 256).map (·.toUInt8))
theorem meets_mt {a b : Array UInt8} {t u : Tok} (hab : a.size = b.size) :
    Meets («bytes.maketrans» ⟨[.bytes a t, .bytes b u], []⟩) (fun _ R s => (mtab a b).size ≤ sizeLine ∧ R (.ok (.ret (.bytes (mtab a b) s.toks))) { s with toks := s.toks + 1 }) := by
  refine .of_wp fun prog w A R s hS => ?_
  obtain ⟨hsz, h⟩ := hS
  show wpAny _ _ (Bytes.bytesLike _ (.bytes a t) >>= fun r => _) _ _ s
  refine wpAny_bind (wpAny_of_eq KBd.like_eq ?_)
  refine wpAny_bind (wpAny_of_eq KBd.like_eq ?_)
  show wpAny _ _ (if (a.size != b.size) = true then _ else _) _ _ s
  rw [if_neg (by simp [hab])]
  exact wpAny_bind (wpAny_mkBytes (wpAny_pure ⟨_, rfl, h⟩) hsz)

/-- what translate makes -/
def trans (tb b : Array UInt8) : Array UInt8 := b.map fun c => tb.getD c.toNat c
theorem meets_tr {tb b : Array UInt8} {t u : Tok} (htb : tb.size = 256) :
    Meets («bytes.translate» ⟨[.bytes b t, .bytes tb u], []⟩) (fun _ R s => b.size ≤ sizeLine ∧ ∀ t' k, R (.ok (.ret (.bytes (trans tb b) t'))) { s with toks := k }) := by
  refine .of_wp fun prog w A R s hS => ?_
  obtain ⟨hsz, h⟩ := hS
  show wpAny _ _ (Bytes.bytesLike _ (.bytes tb u) >>= fun r => _) _ _ s
  refine wpAny_bind (wpAny_of_eq KBd.like_eq ?_)
  show wpAny _ _ (if (tb.size != 256) = true then _ else _) _ _ s
  rw [if_neg (by simp [htb])]
  refine wpAny_bind (wpAny_pure ?_)
  refine wpAny_bind (wpAny_pure ?_)
  refine wpAny_bind (wpAny_of_eq (a := b) rfl ?_)
  have e : (b.filter (!(#[] : Array UInt8).contains ·)).map (fun c => tb.getD c.toNat c) = trans tb b := by
    rw [show b.filter (fun x => !(#[] : Array UInt8).contains x) = b from Array.filter_eq_self.mpr (by simp)]; rfl
  show wpAny _ _ (if ((b.filter (!(#[] : Array UInt8).contains ·)).map (fun c => tb.getD c.toNat c) == b) = true then _ else _) _ _ s
  rw [e]
  by_cases hb : (trans tb b == b) = true
  · rw [if_pos hb]
    have e : trans tb b = b := eq_of_beq hb
    refine wpAny_bind (wpAny_rule ?_)
    refine wpAny_bind ?_
    show wpAny _ _ (typeOf (.bytes b t) >>= fun r => _) _ _ s
    refine wpAny_bind (wpAny_typeOf (typeIs_bytes s b t) ?_)
    have h' := h t s.toks
    rw [e] at h'
    exact wpAny_pure (wpAny_pure ⟨_, rfl, h'⟩)
  · rw [if_neg hb]
    have hs : (trans tb b).size ≤ sizeLine := by simpa [trans] using hsz
    exact wpAny_bind (wpAny_mkBytes (wpAny_pure ⟨_, rfl, h _ _⟩) hs)

-- str.encode
theorem forIn_two {β : Type} {f : Nat → β → Sem (ForInStep β)} {init b : β} (h1 : ∀ i, f i init = pure (.yield b)) (h2 : ∀ i, f i b = pure (.done b)) : ∀ (l : List Nat), l ≠ [] → forIn l init f = pure b
  | [], h => absurd rfl h
  | i :: l, _ => by
    rw [List.forIn_cons, h1]
    simp only [pure_bind]
    cases l with
    | nil => simp
    | cons j l => rw [List.forIn_cons, h2]; simp

theorem forIn_count {β : Type} {f : Nat → β → Sem (ForInStep β)} (S : Nat → β) (n : Nat) (h : ∀ k, k < n → ∀ i, f i (S k) = pure (.yield (S (k + 1)))) : ∀ (l : List Nat) (k : Nat), k + l.length = n → forIn l (S k) f = pure (S n)
  | [], k, e => by
    have : k = n := by simpa using e
    simp [this]
  | i :: l, k, e => by
    rw [List.forIn_cons, h k (by simp at e; omega)]
    simp only [pure_bind]
    exact forIn_count S n h l (k + 1) (by simp at e ⊢; omega)

theorem ascii_fold : ∀ (l : List Nat) (acc : Array UInt8), l.foldl (fun acc y => acc ++ (_codecs.asciiCodec.bytesOf y).toArray) acc = acc ++ (l.map (·.toUInt8)).toArray
  | [], acc => by simp
  | c :: l, acc => by rw [List.foldl_cons, ascii_fold l]; simp [_codecs.asciiCodec]

theorem narrow_eq {id : String} {self : Value} {x : PySem.Str} (ha : ∀ c ∈ x.cps.toList, c < 128) (hl : x.cps.size ≤ sizeLine) :
    _codecs.encodeNarrow id _codecs.asciiCodec none self x = pure (x.cps.map (·.toUInt8)) := by
  have hb : ∀ c ∈ x.cps.toList, _codecs.asciiCodec.bad c = false := fun c hc => by
    have := ha c hc
    show decide (c ≥ 128) = false
    simp; omega
  have hf : Array.findIdx? _codecs.asciiCodec.bad x.cps = none := by
    rw [Array.findIdx?_eq_none_iff]
    intro c hc
    exact hb c (by simpa using hc)
  unfold _codecs.encodeNarrow
  dsimp only
  rw [Std.Legacy.Range.forIn_eq_forIn_range']
  by_cases hn : x.cps.size = 0
  · have e : x.cps = #[] := Array.eq_empty_of_size_eq_zero hn
    have e2 : x.length = 0 := hn
    simp [e, e2, Std.Legacy.Range.size]
  · have hpos : 0 < x.cps.size := Nat.pos_of_ne_zero hn
    rw [forIn_two (b := (x.cps.size, x.cps.map (·.toUInt8), {}))]
    · simp
    · intro i
      have e0 : x.cps[0]? = some x.cps[0] := by simp [hpos]
      have e1 : (!_codecs.asciiCodec.bad x.cps[0]) = true := by rw [hb _ (by simp)]; rfl
      dsimp only
      rw [if_neg (by simp), e0]
      dsimp only
      rw [if_pos e1]
      have e2 : x.cps.extract 0 x.cps.size = x.cps := by simp
      rw [e2, hf]
      simp only [Option.getD_none, Nat.zero_add]
      rw [e2]
      have e3 := ascii_fold x.cps.toList #[]
      rw [Array.foldl_toList] at e3
      have e4 : (x.cps.toList.map (·.toUInt8)).toArray = x.cps.map (·.toUInt8) := by apply Array.toList_inj.mp; simp
      rw [e3, e4, Array.empty_append]
    · intro i
      dsimp only
      have hs : ¬ ((x.cps.map (·.toUInt8)).size > sizeLine) := by simpa using hl
      rw [if_neg hs]
      have e0 : x.cps[x.cps.size]? = none := by simp
      rw [e0]
    · have e2 : x.length = x.cps.size := rfl
      simp [Std.Legacy.Range.size, e2, hn]

theorem road_enc {id : String} {self : Value} {x : PySem.Str} : _codecs.encodeRoad id self x (PySem.Str.ofString "ascii") none = (_codecs.encodeNarrow id _codecs.asciiCodec none self x >>= fun b => mkBytes b) := by kernel_rfl
theorem entry_enc {x : PySem.Str} {t t1 : Tok} : «str.encode» ⟨[.str x t, .str (PySem.Str.ofString "ascii") t1], []⟩ = (_codecs.encodeRoad "str.encode" (.str x t) x (PySem.Str.ofString "ascii") none >>= fun v => ret v) := by kernel_rfl
theorem meets_enc {x : PySem.Str} {t t1 : Tok} (ha : ∀ c ∈ x.cps.toList, c < 128) :
    Meets («str.encode» ⟨[.str x t, .str (PySem.Str.ofString "ascii") t1], []⟩) (fun _ R s => x.cps.size ≤ sizeLine ∧ R (.ok (.ret (.bytes (x.cps.map (·.toUInt8)) s.toks))) { s with toks := s.toks + 1 }) := by
  refine .of_wp fun prog w A R s hS => ?_
  obtain ⟨hsz, h⟩ := hS
  rw [entry_enc, road_enc, narrow_eq ha hsz]
  simp only [pure_bind]
  exact wpAny_bind (wpAny_mkBytes (wpAny_pure ⟨_, rfl, h⟩) (by simpa using hsz))

-- bytes.decode
theorem run_ascii {id : String} {b : Array UInt8} (ha : ∀ c ∈ b.toList, c.toNat < 128) (hl : b.size ≤ sizeLine) :
    _codecs.runDecoder id _codecs.asciiDecoder none true b 0 [] = pure (b.map (·.toNat), b.size) := by
  unfold _codecs.runDecoder
  dsimp only
  rw [Std.Legacy.Range.forIn_eq_forIn_range']
  have e : [:b.size].size = b.size := by simp [Std.Legacy.Range.size]
  rw [e]
  have hS : ((0, #[], { }) : Nat × Array Nat × _codecs.Faults) = (0, ((b.toList.take 0).map (·.toNat)).toArray, { }) := by simp
  rw [hS, forIn_count (fun k => ((k, ((b.toList.take k).map (·.toNat)).toArray, { }) : Nat × Array Nat × _codecs.Faults)) b.size ?_ _ 0 (by simp)]
  · have e4 : ((b.toList.take b.size).map (·.toNat)).toArray = b.map (·.toNat) := by
      apply Array.toList_inj.mp
      rw [List.take_of_length_le (by simp)]; simp
    simp only [pure_bind, e4]
  · intro k hk i
    dsimp only
    have hs : ¬ (((b.toList.take k).map (·.toNat)).toArray.size > sizeLine) := by
      simp only [List.size_toArray, List.length_map, List.length_take, Array.length_toList]; omega
    rw [if_neg hs, if_neg (by omega)]
    have hc : (b.getD k 0).toNat < 128 := by
      have : b.getD k 0 = b[k] := by simp [Array.getD, hk]
      rw [this]; exact ha _ (by simp)
    have hfind : _codecs.asciiDecoder.find true b k = .char (b.getD k 0).toNat (k + 1) := by
      show (if (b.getD k 0).toNat < 128 then _ else _) = _
      rw [if_pos hc]
    rw [hfind]
    have e5 : b.getD k 0 = b[k] := by simp [Array.getD, hk]
    show (pure (ForInStep.yield ((k + 1, _ ++ [(b.getD k 0).toNat].toArray, { }) : Nat × Array Nat × _codecs.Faults)) : Sem _) = _
    have e6 : b.toList.take (k + 1) = b.toList.take k ++ [b[k]] := by
      rw [List.take_add_one]; simp [hk]
    rw [e5, e6]
    simp

theorem road_dec {id : String} {b : Array UInt8} : _codecs.decodeRoad id b (PySem.Str.ofString "ascii") none [] = (_codecs.runDecoder id _codecs.asciiDecoder none true b 0 [] >>= fun r => mkStr ⟨r.1⟩) := by kernel_rfl
theorem meets_dtext {b : Array UInt8} {t t1 t2 : Tok} {d : PySem.Str} (ha : ∀ c ∈ b.toList, c.toNat < 128) :
    Meets («_codecs.decode.text» ⟨[.bytes b t, .str (PySem.Str.ofString "ascii") t1, .none, .str d t2], []⟩) (fun _ R s => b.size ≤ sizeLine ∧ R (.ok (.ret (.str ⟨b.map (·.toNat)⟩ s.toks))) { s with toks := s.toks + 1 }) := by
  refine .of_wp fun prog w A R s hS => ?_
  obtain ⟨hsz, h⟩ := hS
  show wpAny _ _ (Bytes.bytesLike _ (.bytes b t) >>= fun r => _) _ _ s
  refine wpAny_bind (wpAny_of_eq KBd.like_eq ?_)
  refine wpAny_bind (wpAny_of_eq KBd.held_eq ?_)
  show wpAny _ _ (_codecs.decodeRoad _ b (PySem.Str.ofString "ascii") none [] >>= fun v => _) _ _ s
  rw [road_dec, run_ascii ha hsz]
  refine wpAny_bind (wpAny_bind (wpAny_pure ?_))
  exact wpAny_mkStr (wpAny_pure ⟨_, rfl, h⟩) (by show (b.map _).size ≤ _; simpa using hsz)
theorem entry_dec {c : UInt8} {cs : List UInt8} {t t1 : Tok} : «bytes.decode» ⟨[.bytes (c :: cs).toArray t, .str (PySem.Str.ofString "ascii") t1], []⟩ = (mkStr (PySem.Str.ofString "utf-8") >>= fun _ => mkStr (PySem.Str.ofString "ascii") >>= fun e => mkStr (PySem.Str.ofString "bytes.decode") >>= fun d =>
    call (.builtin "_codecs.decode.text") [.bytes (c :: cs).toArray t, e, .none, d] >>= fun v => ret v) := by kernel_rfl
theorem entry_dec0 {t t1 : Tok} : «bytes.decode» ⟨[.bytes #[] t, .str (PySem.Str.ofString "ascii") t1], []⟩ = (rule "bytes.decode.empty" >>= fun _ => mkStr PySem.Str.empty >>= fun v => ret v) := by kernel_rfl
theorem meets_dec {b : Array UInt8} {t t1 : Tok} (ha : ∀ c ∈ b.toList, c.toNat < 128) :
    Meets («bytes.decode» ⟨[.bytes b t, .str (PySem.Str.ofString "ascii") t1], []⟩) (fun _ R s => b.size ≤ sizeLine ∧ ∀ t' k, R (.ok (.ret (.str ⟨b.map (·.toNat)⟩ t'))) { s with toks := k }) := by
  refine .of_wp fun prog w A R s hS => ?_
  obtain ⟨hsz, h⟩ := hS
  obtain ⟨l⟩ := b
  cases l with
  | nil =>
    rw [entry_dec0]
    refine wpAny_bind (wpAny_rule ?_)
    refine wpAny_bind (wpAny_mkStr ?_ (by decide))
    have h' := h s.toks (s.toks + 1)
    have e : (⟨Array.map (fun x : UInt8 => x.toNat) ⟨[]⟩⟩ : PySem.Str) = PySem.Str.empty := by simp [PySem.Str.empty]
    have h'' : R (.ok (.ret (.str PySem.Str.empty s.toks))) { s with toks := s.toks + 1 } := e ▸ h'
    exact wpAny_pure ⟨_, rfl, h''⟩
  | cons c cs =>
    rw [entry_dec]
    refine wpAny_bind (wpAny_mkStr ?_ (by decide))
    refine wpAny_bind (wpAny_mkStr ?_ (by decide))
    refine wpAny_bind (wpAny_mkStr ?_ (by decide))
    exact wpAny_bind (call_function_meets KBd.kind_text KBd.plain_text KBd.entry_text (KBd.args_text _ _ _ _) (meets_dtext ha) ⟨hsz, wpAny_pure ⟨_, rfl, h _ _⟩⟩)
section
variable {prog : Program} {w : World} {A : Around} {E : Value → Shared → Prop} {s : Shared}
theorem args_enc (a b : Value) : argsOk "str.encode" ⟨[a, b], []⟩ := by unfold argsOk; kernel_rfl
theorem r_encode {x : PySem.Str} {t t1 : Tok} {Q : Value → Shared → Prop} (ha : ∀ c ∈ x.cps.toList, c < 128) (hsz : x.cps.size ≤ 16777216) (h : ∀ t' k, Q (.bytes (x.cps.map (·.toUInt8)) t') { s with toks := k }) :
    wpAny (model prog w) A (call (.builtin "str.encode") [.str x t, .str (PySem.Str.ofString "ascii") t1]) Q E s :=
  call_meets F.slot_str_encode (typeIs_str _ _ _) F.entry_str_encode (args_enc _ _) (meets_enc ha) ⟨by rw [sizeLine_eq]; exact hsz, h _ _⟩
theorem no_ref_str {x : PySem.Str} {t : Tok} : ∀ a, Value.str x t = .ref a → ∃ o, s.heap.get? a = some o ∧ o.dict = none := fun _ e => nomatch e
theorem no_ref_bytes {b : Array UInt8} {t : Tok} : ∀ a, Value.bytes b t = .ref a → ∃ o, s.heap.get? a = some o ∧ o.dict = none := fun _ e => nomatch e
theorem m_of {M : Model} {T : String} {pl : Sem Bool} {Q : Value × List Value → Shared → Prop} {name : PySem.Str} {id : String} (v : Value) (hT : s.TypeIs v T) (pa : PlainAttrs T) (slot : Slot T name id) (ty : typeOf (.builtin id) = pure (.type "method_descriptor"))
    (hd : ∀ a, v = .ref a → ∃ o, s.heap.get? a = some o ∧ o.dict = none) (h : Q (.builtin id, [v]) s) : wpAny M A (getMethod v name pl) Q E s :=
  getMethod_builtin hT pa slot ty hd h
theorem m_encode {M : Model} {x : PySem.Str} {t : Tok} {pl : Sem Bool} {Q : Value × List Value → Shared → Prop} (h : Q (.builtin "str.encode", [.str x t]) s) : wpAny M A (getMethod (.str x t) "encode" pl) Q E s := by
  with_reducible exact m_of (.str x t) (typeIs_str _ _ _) F.plainAttrs_str F.slot_str_encode F.type_str_encode no_ref_str h
theorem args_dec (a b : Value) : argsOk "bytes.decode" ⟨[a, b], []⟩ := by unfold argsOk; kernel_rfl
theorem r_decode {b : Array UInt8} {t t1 : Tok} {Q : Value → Shared → Prop} (ha : ∀ c ∈ b.toList, c.toNat < 128) (hsz : b.size ≤ 16777216) (h : ∀ t' k, Q (.str ⟨b.map (·.toNat)⟩ t') { s with toks := k }) :
    wpAny (model prog w) A (call (.builtin "bytes.decode") [.bytes b t, .str (PySem.Str.ofString "ascii") t1]) Q E s :=
  call_meets FB.slot_bytes_decode (typeIs_bytes _ _ _) FB.entry_bytes_decode (args_dec _ _) (meets_dec ha) ⟨by rw [sizeLine_eq]; exact hsz, h⟩
theorem slot_tr : Slot "bytes" "translate" "bytes.translate" :=
  .of (owner := "bytes") (n := "translate") (by rw [typeLookup_type, builtinLookup_eq_fast]; kernel_rfl) (by decide +kernel) (by decide +kernel) (by decide +kernel)
    (by first | exact .inl (by decide +kernel) | exact .inr (by decide +kernel)) (by rw [isSubtype_type]; kernel_rfl)
theorem type_tr : typeOf (.builtin "bytes.translate") = pure (.type "method_descriptor") := by show builtinType _ = _; rw [builtinType_eq_fast]; kernel_rfl
theorem entry_tr : entryFor table "bytes.translate" = some Builtin.«bytes.translate» := entryFor_of_tree (by kernel_rfl)
theorem args_tr (a b : Value) : argsOk "bytes.translate" ⟨[a, b], []⟩ := by unfold argsOk; kernel_rfl
theorem r_translate {tb b : Array UInt8} {t u : Tok} {Q : Value → Shared → Prop} (htb : tb.size = 256) (hsz : b.size ≤ 16777216) (h : ∀ t' k, Q (.bytes (trans tb b) t') { s with toks := k }) :
    wpAny (model prog w) A (call (.builtin "bytes.translate") [.bytes b t, .bytes tb u]) Q E s :=
  call_meets slot_tr (typeIs_bytes _ _ _) entry_tr (args_tr _ _) (meets_tr htb) ⟨by rw [sizeLine_eq]; exact hsz, h⟩
theorem m_translate {M : Model} {b : Array UInt8} {t : Tok} {pl : Sem Bool} {Q : Value × List Value → Shared → Prop} (h : Q (.builtin "bytes.translate", [.bytes b t]) s) : wpAny M A (getMethod (.bytes b t) "translate" pl) Q E s := by
  with_reducible exact m_of (.bytes b t) (typeIs_bytes _ _ _) FB.plainAttrs_bytes slot_tr type_tr no_ref_bytes h

theorem plain_mt : plainId "bytes.maketrans" = true := by decide +kernel
theorem entry_mt : entryFor table "bytes.maketrans" = some Builtin.«bytes.maketrans» := entryFor_of_tree (by kernel_rfl)
theorem check_mt (a b : Value) : checkBuiltinCall "bytes.maketrans" ⟨[a, b], []⟩ = pure () := by kernel_rfl
theorem mtab_size (a b : Array UInt8) : (mtab a b).size = 256 := by
  unfold mtab
  have h : ∀ (l : List (UInt8 × UInt8)) (t : Array UInt8), (l.foldl (fun t (f, x) => t.setIfInBounds f.toNat x) t).size = t.size := by
    intro l
    induction l with
    | nil => intro t; rfl
    | cons x l ih => intro t; rw [List.foldl_cons, ih]; simp
  rw [h]; simp
theorem r_mt {a b : Array UInt8} {t u : Tok} {Q : Value → Shared → Prop} (hab : a.size = b.size) (h : ∀ t' k, Q (.bytes (mtab a b) t') { s with toks := k }) :
    wpAny (model prog w) A (call (.builtin "bytes.maketrans") [.bytes a t, .bytes b u]) Q E s := by
  refine wpAny_call (codeAny_call_builtin plain_mt entry_mt ?_)
  rw [check_mt]
  exact wpAny_pure (meets_mt hab prog w A (wants Q E) s ⟨by rw [mtab_size, sizeLine_eq]; decide, h _ _⟩)
theorem find_mt (K : Frag) : findCls K (.type "bytes") (.type "type") (PySem.Str.ofString "maketrans") = some (.val (.builtin "bytes.maketrans")) := by kernel_rfl
theorem type_bytes_type : typeOf (.type "bytes") = pure (.type "type") := by first | rfl | kernel_rfl
theorem stub_bytes : Manifest.isStub "bytes" = false := by decide +kernel
theorem handed_mt : handedIn (.builtin "bytes.maketrans") = true := by decide +kernel
theorem m_mt {K : Frag} {h₀ : Heap} {L : Addr} {m : PySem.Str → Option Value} {pl : Sem Bool} {Q : Value × List Value → Shared → Prop} (F : Fr h₀ L s.heap m) (X : K.In h₀) (h : Q (.builtin "bytes.maketrans", []) { s with toks := s.toks + 1 }) :
    wpAny (model prog w) A (getMethod (.type "bytes") (PySem.Str.ofString "maketrans") pl) Q E s :=
  by with_reducible exact method_type F X type_bytes_type stub_bytes (find_mt K) handed_mt h
theorem r_len2 {p q : UInt8} {t : Tok} {Q : Value → Shared → Prop} (h : ∀ t' k, Q (.int 2 t') { s with toks := k }) : wpAny (model prog w) A (call (.builtin "len") [.bytes #[p, q] t]) Q E s :=
  len_bytes (by show (2 : Nat) ≤ _; decide) (h _ _)
end
end Mine
end

section
open PySem PySem.W PyProof.Rows PySem.Spec PySem.Calls
namespace Mine

local macro_rules | `(tactic| walk_at $s:str) => `(tactic| k_extra $s)

theorem int_eq {x y : Int} {t : Tok} (h : y = x) : ∃ t', Value.int y t = Value.int x t' := ⟨t, by rw [h]⟩
def b64v (c : Int) : Int := if 65 ≤ c ∧ c ≤ 90 then c - 65 else if 97 ≤ c ∧ c ≤ 122 then c - 71 else if 48 ≤ c ∧ c ≤ 57 then c + 4 else if c = 43 then 62 else if c = 47 then 63 else 64
set_option maxRecDepth 100000 in
set_option maxHeartbeats 8000000 in
theorem c_b64v (c : Int) (t : Tok) : Gives 77 [.int c t] [] 1 8 (fun v => ∃ t, v = .int (b64v c) t) := by
  have fill : ∀ (w : World) (h : Heap), PySem.Challenge.rw_pa0023_01 = PySem.Challenge.rw_pa0023_01 → (Mine.hd.heap_39 w.params).In h → True := by k_fill; intros; trivial
  clear fill
  w_on
  k_with_none
  (k_with "call type:type" => (k_here; (with_reducible show wpAny _ _ (call (Value.type "type") [Value.bytes _ _]) _ _ _); refine r_type_bytes ?_))
  (k_with "call type:type" => (k_here; (with_reducible show wpAny _ _ (call (Value.type "type") [Value.bool _]) _ _ _); refine r_type_bool ?_))
  (k_with "getMethod str" => (k_here; (with_reducible refine m_encode ?_)))
  (k_with "call builtin:str.encode" => (k_here; (refine r_encode (by assumption) (by first | assumption | omega) ?_); intro _ _))
  intro w mean mg mb dp un gd cn cs a ccd cl outer A₀ base h₀ L m news s Q E G F N hk hd hu hret
  k_dflt (refine' go0 ?G ?F ?N ?kA ?kF ?kK ?k6 ?k7 ?k8 ?k9 ?kB ?_ ?c2 ?c3 ?c4 ?c5; (case G => exact G); (case F => exact F); (case N => exact N); (case kA => exact rfl); (case kF => exact rfl); (case kK => exact hk); (case k6 => k_is); (case k7 => k_is); (case k8 => ktr_room); (case k9 => intro X9; first | exact BindsTo.of_eq rfl | exact binds_K X9 rfl (by k_is) rfl rfl rfl | exact kp_binds X9 (fun _ => by with_unfolding_all rfl)); (case kB => exact locs rfl); (case c2 => exact rfl); (case c3 => exact rfl); (case c4 => exact rfl); (case c5 => decide); k_whole; intro L' h' F' N' G'; have B' := G'.B; have X' := G'.X; have T' := G'.T; (try dsimp only); (try k_fold))
  refine absQ fun QQ hQQ => ?_
  k_steps
  all_goals (refine hQQ _ _ <| lv_ (by assumption) fun kF kN => hret _ _ _ (int_eq ?_) kF kN; unfold b64v; (repeat' split) <;> omega)

set_option maxRecDepth 100000 in
set_option maxHeartbeats 8000000 in
theorem c_number (ns : List Int) (hns : KBa.In ns) (hlen : ns.length ≤ 20) (t : Tok) : Gives 116 [.bytes (byteArr ns) t] [] 1 8 (fun v => ∃ t, v = .int (ns.foldl (fun a b => a * 256 + b) 0) t) := by
  have fill : ∀ (w : World) (h : Heap), PySem.Challenge.rw_pa0023_01 = PySem.Challenge.rw_pa0023_01 → (Mine.hd.heap_39 w.params).In h → True := by k_fill; intros; trivial
  clear fill
  w_on
  k_with_none
  (k_with "call type:type" => (k_here; (with_reducible show wpAny _ _ (call (Value.type "type") [Value.bytes _ _]) _ _ _); refine r_type_bytes ?_))
  (k_with "call type:type" => (k_here; (with_reducible show wpAny _ _ (call (Value.type "type") [Value.bool _]) _ _ _); refine r_type_bool ?_))
  (k_with "getMethod str" => (k_here; (with_reducible refine m_encode ?_)))
  (k_with "call builtin:str.encode" => (k_here; (refine r_encode (by assumption) (by first | assumption | omega) ?_); intro _ _))
  intro w mean mg mb dp un gd cn cs a ccd cl outer A₀ base h₀ L m news s Q E G F N hk hd hu hret
  k_dflt (refine' go0 ?G ?F ?N ?kA ?kF ?kK ?k6 ?k7 ?k8 ?k9 ?kB ?_ ?c2 ?c3 ?c4 ?c5; (case G => exact G); (case F => exact F); (case N => exact N); (case kA => exact rfl); (case kF => exact rfl); (case kK => exact hk); (case k6 => k_is); (case k7 => k_is); (case k8 => ktr_room); (case k9 => intro X9; first | exact BindsTo.of_eq rfl | exact binds_K X9 rfl (by k_is) rfl rfl rfl | exact kp_binds X9 (fun _ => by with_unfolding_all rfl)); (case kB => exact locs rfl); (case c2 => exact rfl); (case c3 => exact rfl); (case c4 => exact rfl); (case c5 => decide); k_whole; intro L' h' F' N' G'; have B' := G'.B; have X' := G'.X; have T' := G'.T; (try dsimp only); (try k_fold))
  refine absQ fun QQ hQQ => ?_
  k_steps
  all_goals (exact hQQ _ _ <| lv_ (by assumption) fun kF kN => hret _ _ _ ⟨_, rfl⟩ kF kN)

set_option maxRecDepth 100000 in
set_option maxHeartbeats 8000000 in
theorem c_buffer (b : Array UInt8) (t : Tok) : Gives 63 [.bytes b t] [] 1 8 (fun v => v = .bytes b t) := by
  have fill : ∀ (w : World) (h : Heap), PySem.Challenge.rw_pa0023_01 = PySem.Challenge.rw_pa0023_01 → (Mine.hd.heap_39 w.params).In h → True := by k_fill; intros; trivial
  clear fill
  w_on
  k_with_none
  (k_with "call type:type" => (k_here; (with_reducible show wpAny _ _ (call (Value.type "type") [Value.bytes _ _]) _ _ _); refine r_type_bytes ?_))
  (k_with "call type:type" => (k_here; (with_reducible show wpAny _ _ (call (Value.type "type") [Value.bool _]) _ _ _); refine r_type_bool ?_))
  (k_with "getMethod str" => (k_here; (with_reducible refine m_encode ?_)))
  (k_with "call builtin:str.encode" => (k_here; (refine r_encode (by assumption) (by first | assumption | omega) ?_); intro _ _))
  intro w mean mg mb dp un gd cn cs a ccd cl outer A₀ base h₀ L m news s Q E G F N hk hd hu hret
  k_dflt (refine' go0 ?G ?F ?N ?kA ?kF ?kK ?k6 ?k7 ?k8 ?k9 ?kB ?_ ?c2 ?c3 ?c4 ?c5; (case G => exact G); (case F => exact F); (case N => exact N); (case kA => exact rfl); (case kF => exact rfl); (case kK => exact hk); (case k6 => k_is); (case k7 => k_is); (case k8 => ktr_room); (case k9 => intro X9; first | exact BindsTo.of_eq rfl | exact binds_K X9 rfl (by k_is) rfl rfl rfl | exact kp_binds X9 (fun _ => by with_unfolding_all rfl)); (case kB => exact locs rfl); (case c2 => exact rfl); (case c3 => exact rfl); (case c4 => exact rfl); (case c5 => decide); k_whole; intro L' h' F' N' G'; have B' := G'.B; have X' := G'.X; have T' := G'.T; (try dsimp only); (try k_fold))
  refine absQ fun QQ hQQ => ?_
  k_steps
  all_goals (exact hQQ _ _ <| lv_ (by assumption) fun kF kN => hret _ _ _ rfl kF kN)

set_option maxRecDepth 100000 in
set_option maxHeartbeats 8000000 in
theorem c_abuf (b : Array UInt8) (t : Tok) : Gives 56 [.bytes b t] [] 1 8 (fun v => v = .bytes b t) := by
  have fill : ∀ (w : World) (h : Heap), PySem.Challenge.rw_pa0023_01 = PySem.Challenge.rw_pa0023_01 → (Mine.hd.heap_39 w.params).In h → True := by k_fill; intros; trivial
  clear fill
  w_on
  k_with_none
  (k_with "call type:type" => (k_here; (with_reducible show wpAny _ _ (call (Value.type "type") [Value.bytes _ _]) _ _ _); refine r_type_bytes ?_))
  (k_with "call type:type" => (k_here; (with_reducible show wpAny _ _ (call (Value.type "type") [Value.bool _]) _ _ _); refine r_type_bool ?_))
  (k_with "getMethod str" => (k_here; (with_reducible refine m_encode ?_)))
  (k_with "call builtin:str.encode" => (k_here; (refine r_encode (by assumption) (by first | assumption | omega) ?_); intro _ _))
  intro w mean mg mb dp un gd cn cs a ccd cl outer A₀ base h₀ L m news s Q E G F N hk hd hu hret
  k_dflt (refine' go0 ?G ?F ?N ?kA ?kF ?kK ?k6 ?k7 ?k8 ?k9 ?kB ?_ ?c2 ?c3 ?c4 ?c5; (case G => exact G); (case F => exact F); (case N => exact N); (case kA => exact rfl); (case kF => exact rfl); (case kK => exact hk); (case k6 => k_is); (case k7 => k_is); (case k8 => ktr_room); (case k9 => intro X9; first | exact BindsTo.of_eq rfl | exact binds_K X9 rfl (by k_is) rfl rfl rfl | exact kp_binds X9 (fun _ => by with_unfolding_all rfl)); (case kB => exact locs rfl); (case c2 => exact rfl); (case c3 => exact rfl); (case c4 => exact rfl); (case c5 => decide); k_whole; intro L' h' F' N' G'; have B' := G'.B; have X' := G'.X; have T' := G'.T; (try dsimp only); (try k_fold))
  refine absQ fun QQ hQQ => ?_
  k_steps
  all_goals (exact hQQ _ _ <| lv_ (by assumption) fun kF kN => hret _ _ _ rfl kF kN)

set_option maxRecDepth 100000 in
set_option maxHeartbeats 8000000 in
theorem c_truth (b : Bool) : Gives 70 [.bool b] [] 1 8 (fun v => v = .bool b) := by
  have fill : ∀ (w : World) (h : Heap), PySem.Challenge.rw_pa0023_01 = PySem.Challenge.rw_pa0023_01 → (Mine.hd.heap_39 w.params).In h → True := by k_fill; intros; trivial
  clear fill
  w_on
  k_with_none
  (k_with "call type:type" => (k_here; (with_reducible show wpAny _ _ (call (Value.type "type") [Value.bytes _ _]) _ _ _); refine r_type_bytes ?_))
  (k_with "call type:type" => (k_here; (with_reducible show wpAny _ _ (call (Value.type "type") [Value.bool _]) _ _ _); refine r_type_bool ?_))
  (k_with "getMethod str" => (k_here; (with_reducible refine m_encode ?_)))
  (k_with "call builtin:str.encode" => (k_here; (refine r_encode (by assumption) (by first | assumption | omega) ?_); intro _ _))
  intro w mean mg mb dp un gd cn cs a ccd cl outer A₀ base h₀ L m news s Q E G F N hk hd hu hret
  k_dflt (refine' go0 ?G ?F ?N ?kA ?kF ?kK ?k6 ?k7 ?k8 ?k9 ?kB ?_ ?c2 ?c3 ?c4 ?c5; (case G => exact G); (case F => exact F); (case N => exact N); (case kA => exact rfl); (case kF => exact rfl); (case kK => exact hk); (case k6 => k_is); (case k7 => k_is); (case k8 => ktr_room); (case k9 => intro X9; first | exact BindsTo.of_eq rfl | exact binds_K X9 rfl (by k_is) rfl rfl rfl | exact kp_binds X9 (fun _ => by with_unfolding_all rfl)); (case kB => exact locs rfl); (case c2 => exact rfl); (case c3 => exact rfl); (case c4 => exact rfl); (case c5 => decide); k_whole; intro L' h' F' N' G'; have B' := G'.B; have X' := G'.X; have T' := G'.T; (try dsimp only); (try k_fold))
  refine absQ fun QQ hQQ => ?_
  cases b
  k_steps
  all_goals (exact hQQ _ _ <| lv_ (by assumption) fun kF kN => hret _ _ _ rfl kF kN)

set_option maxRecDepth 100000 in
set_option maxHeartbeats 8000000 in
theorem c_fddb (b : Array UInt8) (t : Tok) : Gives 36 [.bytes b t] [] 3 100 (fun v => v = .bytes b t) := by
  have fill : ∀ (w : World) (h : Heap), PySem.Challenge.rw_pa0023_01 = PySem.Challenge.rw_pa0023_01 → (Mine.hd.heap_39 w.params).In h → True := by k_fill; intros; trivial
  clear fill
  w_on
  k_with_none
  (k_with "call type:type" => (k_here; (with_reducible show wpAny _ _ (call (Value.type "type") [Value.bytes _ _]) _ _ _); refine r_type_bytes ?_))
  (k_with "call type:type" => (k_here; (with_reducible show wpAny _ _ (call (Value.type "type") [Value.bool _]) _ _ _); refine r_type_bool ?_))
  (k_with "getMethod str" => (k_here; (with_reducible refine m_encode ?_)))
  (k_with "call builtin:str.encode" => (k_here; (refine r_encode (by assumption) (by first | assumption | omega) ?_); intro _ _))
  intro w mean mg mb dp un gd cn cs a ccd cl outer A₀ base h₀ L m news s Q E G F N hk hd hu hret
  k_dflt (refine' go0 ?G ?F ?N ?kA ?kF ?kK ?k6 ?k7 ?k8 ?k9 ?kB ?_ ?c2 ?c3 ?c4 ?c5; (case G => exact G); (case F => exact F); (case N => exact N); (case kA => exact rfl); (case kF => exact rfl); (case kK => exact hk); (case k6 => k_is); (case k7 => k_is); (case k8 => ktr_room); (case k9 => intro X9; first | exact BindsTo.of_eq rfl | exact binds_K X9 rfl (by k_is) rfl rfl rfl | exact kp_binds X9 (fun _ => by with_unfolding_all rfl)); (case kB => exact locs rfl); (case c2 => exact rfl); (case c3 => exact rfl); (case c4 => exact rfl); (case c5 => decide); k_whole; intro L' h' F' N' G'; have B' := G'.B; have X' := G'.X; have T' := G'.T; (try dsimp only); (try k_fold))
  refine absQ fun QQ hQQ => ?_
  k_steps
  all_goals (exact hQQ _ _ <| lv_ (by assumption) fun kF kN => hret _ _ _ rfl kF kN)

set_option maxRecDepth 100000 in
set_option maxHeartbeats 8000000 in
theorem c_fdd (x : Str) (t : Tok) (ha : ∀ c ∈ x.cps.toList, c < 128) (hs : x.cps.size ≤ 16777216) : Gives 36 [.str x t] [] 3 100 (fun v => ∃ t, v = .bytes (x.cps.map (·.toUInt8)) t) := by
  have fill : ∀ (w : World) (h : Heap), PySem.Challenge.rw_pa0023_01 = PySem.Challenge.rw_pa0023_01 → (Mine.hd.heap_39 w.params).In h → True := by k_fill; intros; trivial
  clear fill
  w_on
  k_with_none
  (k_with "call type:type" => (k_here; (with_reducible show wpAny _ _ (call (Value.type "type") [Value.bytes _ _]) _ _ _); refine r_type_bytes ?_))
  (k_with "call type:type" => (k_here; (with_reducible show wpAny _ _ (call (Value.type "type") [Value.bool _]) _ _ _); refine r_type_bool ?_))
  (k_with "getMethod str" => (k_here; (with_reducible refine m_encode ?_)))
  (k_with "call builtin:str.encode" => (k_here; (refine r_encode (by assumption) (by first | assumption | omega) ?_); intro _ _))
  intro w mean mg mb dp un gd cn cs a ccd cl outer A₀ base h₀ L m news s Q E G F N hk hd hu hret
  k_dflt (refine' go0 ?G ?F ?N ?kA ?kF ?kK ?k6 ?k7 ?k8 ?k9 ?kB ?_ ?c2 ?c3 ?c4 ?c5; (case G => exact G); (case F => exact F); (case N => exact N); (case kA => exact rfl); (case kF => exact rfl); (case kK => exact hk); (case k6 => k_is); (case k7 => k_is); (case k8 => ktr_room); (case k9 => intro X9; first | exact BindsTo.of_eq rfl | exact binds_K X9 rfl (by k_is) rfl rfl rfl | exact kp_binds X9 (fun _ => by with_unfolding_all rfl)); (case kB => exact locs rfl); (case c2 => exact rfl); (case c3 => exact rfl); (case c4 => exact rfl); (case c5 => decide); k_whole; intro L' h' F' N' G'; have B' := G'.B; have X' := G'.X; have T' := G'.T; (try dsimp only); (try k_fold))
  refine absQ fun QQ hQQ => ?_
  k_steps
  all_goals (exact hQQ _ _ <| lv_ (by assumption) fun kF kN => hret _ _ _ ⟨_, rfl⟩ kF kN)

end Mine
end

section
open PySem PySem.W PyProof.Rows PySem.Spec PySem.Calls
namespace Mine
theorem bitAnd_zero (x : Int) : Builtin.bitAnd x 0 = 0 := by
  have h := bitAnd_range x (y := 0) (by decide)
  omega
theorem and_shift : ∀ (k : Nat) (a b : Int), 0 ≤ b → b < 2 ^ k → Builtin.bitAnd (a * 2 ^ k) b = 0
  | 0, a, b, h0, h1 => by
    have : b = 0 := by simp at h1; omega
    rw [this, bitAnd_zero]
  | k + 1, a, b, h0, h1 => by
    have e : a * 2 ^ (k + 1) = 2 * (a * 2 ^ k) := by rw [Int.pow_succ, ← Int.mul_assoc, Int.mul_comm]
    rw [e, kbt_halves]
    have e1 : 2 * (a * 2 ^ k) / 2 = a * 2 ^ k := by omega
    have h2 : b / 2 < 2 ^ k := by rw [Int.pow_succ] at h1; omega
    rw [e1, and_shift k a (b / 2) (by omega) h2, if_neg (by omega)]
    rfl
theorem or_shift (k : Nat) (a b : Int) (h0 : 0 ≤ b) (h1 : b < 2 ^ k) : Builtin.bitOr (a * 2 ^ k) b = a * 2 ^ k + b := by
  rw [bitOr_and, and_shift k a b h0 h1]; omega
theorem or_two (a b : Int) (h0 : 0 ≤ b) (h1 : b < 4) : Builtin.bitOr (a * 2 ^ (2 : Int).toNat) b = a * 4 + b := or_shift 2 a b h0 h1
theorem or_four (a b : Int) (h0 : 0 ≤ b) (h1 : b < 16) : Builtin.bitOr (a * 2 ^ (4 : Int).toNat) b = a * 16 + b := or_shift 4 a b h0 h1
theorem or_six (a b : Int) (h0 : 0 ≤ b) (h1 : b < 64) : Builtin.bitOr (a * 2 ^ (6 : Int).toNat) b = a * 64 + b := or_shift 6 a b h0 h1
theorem or_eight (a b : Int) (h0 : 0 ≤ b) (h1 : b < 256) : Builtin.bitOr (a * 2 ^ (8 : Int).toNat) b = a * 256 + b := or_shift 8 a b h0 h1
theorem fdiv_lit (a : Int) {b : Int} (hb : 0 ≤ b) : a.fdiv b = a / b := Int.fdiv_eq_ediv_of_nonneg a hb
theorem fmod_lit (a : Int) {b : Int} (hb : 0 ≤ b) : a.fmod b = a % b := Int.fmod_eq_emod_of_nonneg a hb

def alpha : List UInt8 := [65, 66, 67, 68, 69, 70, 71, 72, 73, 74, 75, 76, 77, 78, 79, 80, 81, 82, 83, 84, 85, 86, 87, 88, 89, 90, 97, 98, 99, 100, 101, 102, 103, 104, 105, 106, 107, 108, 109, 110, 111, 112, 113, 114, 115, 116, 117, 118, 119, 120, 121, 122, 48, 49, 50, 51, 52, 53, 54, 55, 56, 57, 43, 47]
/-- the sign of a figure -/
def sig (f : Int) : Int := (((alpha.getD f.toNat 0).toNat : Nat) : Int)
theorem sig_lo (f : Int) : 0 ≤ sig f := Int.natCast_nonneg _
theorem sig_hi (f : Int) : sig f < 256 := by unfold sig; have := (alpha.getD f.toNat 0).toNat_lt; omega
theorem in_snoc {l : List Int} {x : Int} (h : KBa.In l) (h0 : 0 ≤ x) (h1 : x < 256) : KBa.In (l ++ [x]) := by
  intro n hn
  rcases List.mem_append.mp hn with h' | h'
  · exact h n h'
  · rw [List.mem_singleton.mp h']; exact ⟨h0, h1⟩
theorem in_sig {l : List Int} {f : Int} (h : KBa.In l) : KBa.In (l ++ [sig f]) := in_snoc h (sig_lo f) (sig_hi f)

def bstep (st : List Int × Int × Int) (b : Int) : List Int × Int × Int :=
  if st.2.1 = 0 then (st.1 ++ [sig (b / 4)], 2, b % 4)
  else if st.2.1 = 2 then (st.1 ++ [sig (st.2.2 * 16 + b / 16)], 4, b % 16)
  else (st.1 ++ [sig (st.2.2 * 4 + b / 64)] ++ [sig (b % 64)], 0, 0)
def bfin (st : List Int × Int × Int) : List Int :=
  if st.2.1 = 2 then st.1 ++ [sig (st.2.2 * 16)] ++ [61] ++ [61] else if st.2.1 = 4 then st.1 ++ [sig (st.2.2 * 4)] ++ [61] else st.1
def b2aL (ns : List Int) : List Int := bfin (ns.foldl bstep ([], 0, 0))
def cr (lb lc : Int) : Int := if lb = 2 then lc % 4 else if lb = 4 then lc % 16 else 0
def bP (pre out : List Int) (lb lc : Int) : Prop := pre.foldl bstep ([], 0, 0) = (out, lb, cr lb lc) ∧ (lb = 0 ∨ lb = 2 ∨ lb = 4) ∧ 0 ≤ lc ∧ lc < 65536 ∧ KBa.In out ∧ out.length ≤ 2 * pre.length

theorem bP_start : bP [] [] 0 0 := ⟨rfl, .inl rfl, by decide, by decide, (fun _ h => nomatch h), by simp⟩
section
variable {pre out : List Int} {lc b : Int}
theorem lc_eq (h0 : 0 ≤ b) (h1 : b < 256) : Builtin.bitAnd (Builtin.bitOr (lc * 2 ^ (8 : Int).toNat) b) 65535 = (lc * 256 + b) % 65536 := by rw [or_eight _ _ h0 h1, bitAnd_m16]
theorem bP_0 (i1 : pre.foldl bstep ([], 0, 0) = (out, 0, cr 0 lc)) (i5 : KBa.In out) (i6 : out.length ≤ 2 * pre.length) (h0 : 0 ≤ b) (h1 : b < 256) :
    bP (pre ++ [b]) (out ++ [sig (Builtin.bitAnd ((Builtin.bitAnd (Builtin.bitOr (lc * 2 ^ (8 : Int).toNat) b) 65535).fdiv (2 ^ (0 + 8 - 6 : Int).toNat)) 63)]) (0 + 8 - 6) (Builtin.bitAnd (Builtin.bitOr (lc * 2 ^ (8 : Int).toNat) b) 65535) := by
  rw [lc_eq h0 h1, bitAnd_m6, show (2 : Int) ^ (0 + 8 - 6 : Int).toNat = 4 from rfl, fdiv_lit _ (by decide)]
  have e1 : (lc * 256 + b) % 65536 / 4 % 64 = b / 4 := by omega
  have e2 : (lc * 256 + b) % 65536 % 4 = b % 4 := by omega
  rw [e1]
  refine ⟨?_, .inr (.inl rfl), by omega, by omega, in_sig i5, by simp; omega⟩
  rw [List.foldl_append, i1]
  show (out ++ [sig (b / 4)], (2 : Int), b % 4) = (out ++ [sig (b / 4)], 2, (lc * 256 + b) % 65536 % 4)
  rw [e2]
theorem bP_2 (i1 : pre.foldl bstep ([], 0, 0) = (out, 2, cr 2 lc)) (i5 : KBa.In out) (i6 : out.length ≤ 2 * pre.length) (h0 : 0 ≤ b) (h1 : b < 256) :
    bP (pre ++ [b]) (out ++ [sig (Builtin.bitAnd ((Builtin.bitAnd (Builtin.bitOr (lc * 2 ^ (8 : Int).toNat) b) 65535).fdiv (2 ^ (2 + 8 - 6 : Int).toNat)) 63)]) (2 + 8 - 6) (Builtin.bitAnd (Builtin.bitOr (lc * 2 ^ (8 : Int).toNat) b) 65535) := by
  rw [lc_eq h0 h1, bitAnd_m6, show (2 : Int) ^ (2 + 8 - 6 : Int).toNat = 16 from rfl, fdiv_lit _ (by decide)]
  have e1 : (lc * 256 + b) % 65536 / 16 % 64 = lc % 4 * 16 + b / 16 := by omega
  have e2 : (lc * 256 + b) % 65536 % 16 = b % 16 := by omega
  rw [e1]
  refine ⟨?_, .inr (.inr rfl), by omega, by omega, in_sig i5, by simp; omega⟩
  rw [List.foldl_append, i1]
  show (out ++ [sig (lc % 4 * 16 + b / 16)], (4 : Int), b % 16) = (out ++ [sig (lc % 4 * 16 + b / 16)], 4, (lc * 256 + b) % 65536 % 16)
  rw [e2]
theorem bP_4 (i1 : pre.foldl bstep ([], 0, 0) = (out, 4, cr 4 lc)) (i5 : KBa.In out) (i6 : out.length ≤ 2 * pre.length) (h0 : 0 ≤ b) (h1 : b < 256) :
    bP (pre ++ [b]) (out ++ [sig (Builtin.bitAnd ((Builtin.bitAnd (Builtin.bitOr (lc * 2 ^ (8 : Int).toNat) b) 65535).fdiv (2 ^ (4 + 8 - 6 : Int).toNat)) 63)] ++ [sig (Builtin.bitAnd ((Builtin.bitAnd (Builtin.bitOr (lc * 2 ^ (8 : Int).toNat) b) 65535).fdiv (2 ^ (4 + 8 - 6 - 6 : Int).toNat)) 63)]) (4 + 8 - 6 - 6) (Builtin.bitAnd (Builtin.bitOr (lc * 2 ^ (8 : Int).toNat) b) 65535) := by
  rw [lc_eq h0 h1, bitAnd_m6, bitAnd_m6, show (2 : Int) ^ (4 + 8 - 6 : Int).toNat = 64 from rfl, show (2 : Int) ^ (4 + 8 - 6 - 6 : Int).toNat = 1 from rfl, fdiv_lit _ (by decide), fdiv_lit _ (by decide)]
  have e1 : (lc * 256 + b) % 65536 / 64 % 64 = lc % 16 * 4 + b / 64 := by omega
  have e2 : (lc * 256 + b) % 65536 / 1 % 64 = b % 64 := by omega
  rw [e1, e2]
  refine ⟨?_, .inl rfl, by omega, by omega, in_sig (in_sig i5), by simp; omega⟩
  rw [List.foldl_append, i1]
  rfl
theorem b2aL_0 (i1 : pre.foldl bstep ([], 0, 0) = (out, 0, cr 0 lc)) : out = b2aL pre := by unfold b2aL; rw [i1]; rfl
theorem b2aL_2 (i1 : pre.foldl bstep ([], 0, 0) = (out, 2, cr 2 lc)) : out ++ [sig (Builtin.bitAnd lc 3 * 2 ^ (4 : Int).toNat)] ++ [61] ++ [61] = b2aL pre := by unfold b2aL; rw [i1, bitAnd_m2]; rfl
theorem b2aL_4 (i1 : pre.foldl bstep ([], 0, 0) = (out, 4, cr 4 lc)) : out ++ [sig (Builtin.bitAnd lc 15 * 2 ^ (2 : Int).toNat)] ++ [61] = b2aL pre := by unfold b2aL; rw [i1, bitAnd_m4]; rfl
end
theorem and3_small (x : Int) : (Builtin.bitAnd x 3).natAbs < 2 ^ 64 := by have := bitAnd_range x (y := 3) (by decide); omega
theorem and15_small (x : Int) : (Builtin.bitAnd x 15).natAbs < 2 ^ 64 := by have := bitAnd_range x (y := 15) (by decide); omega
theorem bytes_eq {x y : List Int} {t : Tok} (h : x = y) : ∃ t', Value.bytes (byteArr x) t = Value.bytes (byteArr y) t' := ⟨t, by rw [h]⟩
end Mine
end

section
open PySem PySem.W PyProof.Rows PySem.Spec PySem.Calls
namespace Mine

section
variable {prog : Program} {w : World} {A : Around} {E : Value → Shared → Prop} {s : Shared} {value slice : PySem.Expr} {Q : Value → Shared → Prop} {x : Int} {t ui : Tok}
theorem r_sig {i : Int} (h0 : 0 ≤ i) (h1 : i < 64) (h : Q (.int (sig i) s.toks) { s with toks := s.toks + 1 })
    (hs : subscripted slice false (.bytes alpha.toArray t) (.int i ui) = operate [.bytes alpha.toArray t, .int i ui] (getItem (.bytes alpha.toArray t) (.int i ui)) := by with_unfolding_all rfl)
    (ht : ∀ r, letTemporaryGo value (.bytes alpha.toArray t) r = pure () := by intro _; with_unfolding_all rfl) :
    wpAny (model prog w) A (subscriptTail value slice (.bytes alpha.toArray t) (.int i ui)) Q E s :=
  KBy.item_N (by decide) h0 (by show i < ((alpha.length : Nat) : Int); rw [show alpha.length = 64 from by decide]; omega) h hs ht
theorem and_lo (x : Int) : 0 ≤ Builtin.bitAnd x 63 := (bitAnd_range x (by decide)).1
theorem and_hi (x : Int) : Builtin.bitAnd x 63 < 64 := Int.lt_of_le_of_lt (bitAnd_range x (by decide)).2 (by decide)
theorem and3_lo (x : Int) : 0 ≤ Builtin.bitAnd x 3 * 2 ^ (4 : Int).toNat := by have := (bitAnd_range x (y := 3) (by decide)).1; show 0 ≤ _ * 16; omega
theorem and3_hi (x : Int) : Builtin.bitAnd x 3 * 2 ^ (4 : Int).toNat < 64 := by have := (bitAnd_range x (y := 3) (by decide)).2; show _ * 16 < 64; omega
theorem and15_lo (x : Int) : 0 ≤ Builtin.bitAnd x 15 * 2 ^ (2 : Int).toNat := by have := (bitAnd_range x (y := 15) (by decide)).1; show 0 ≤ _ * 4; omega
theorem and15_hi (x : Int) : Builtin.bitAnd x 15 * 2 ^ (2 : Int).toNat < 64 := by have := (bitAnd_range x (y := 15) (by decide)).2; show _ * 4 < 64; omega
end
local macro_rules | `(tactic| walk_at $s:str) => `(tactic| k_extra $s)
local macro_rules | `(tactic| kba_in) => `(tactic| first | assumption | (refine in_sig ?_; kba_in) | (refine in_snoc ?_ (by decide) (by decide); kba_in))
set_option maxRecDepth 100000 in
set_option maxHeartbeats 8000000 in
theorem c_b2a (ns : List Int) (hns : KBa.In ns) (hlen : ns.length ≤ 20) (t : Tok) : Gives 93 [.bytes (byteArr ns) t] [(Str.ofString "newline", .bool false)] 3 40 (fun v => ∃ t, v = .bytes (byteArr (b2aL ns)) t) := by
  have fill : ∀ (w : World) (h : Heap), PySem.Challenge.rw_pa0023_01 = PySem.Challenge.rw_pa0023_01 → (Mine.hd.heap_39 w.params).In h → True := by k_fill; intros; trivial
  clear fill
  w_on
  k_with_none
  (k_with "subscriptTail" => (k_here; (with_reducible show wpAny _ _ (subscriptTail _ _ (Value.bytes (List.toArray _) _) (Value.int (Builtin.bitAnd _ 63) _)) _ _ _); k_dflt (refine r_sig (and_lo _) (and_hi _) ?_)))
  (k_with "subscriptTail" => (k_here; (with_reducible show wpAny _ _ (subscriptTail _ _ (Value.bytes (List.toArray _) _) (Value.int (Builtin.bitAnd _ 3 * _) _)) _ _ _); k_dflt (refine r_sig (and3_lo _) (and3_hi _) ?_)))
  (k_with "subscriptTail" => (k_here; (with_reducible show wpAny _ _ (subscriptTail _ _ (Value.bytes (List.toArray _) _) (Value.int (Builtin.bitAnd _ 15 * _) _)) _ _ _); k_dflt (refine r_sig (and15_lo _) (and15_hi _) ?_)))
  (k_with "binaryOp LShift int int" => (k_here; (with_reducible show wpAny _ _ (binaryOp _ (Value.int (Builtin.bitAnd _ 3) _) (Value.int _ _)) _ _ _); refine lshift_int_small (by decide) (by decide) (and3_small _) ?_))
  (k_with "binaryOp LShift int int" => (k_here; (with_reducible show wpAny _ _ (binaryOp _ (Value.int (Builtin.bitAnd _ 15) _) (Value.int _ _)) _ _ _); refine lshift_int_small (by decide) (by decide) (and15_small _) ?_))
  (k_with "call type:bytes" => (k_here; (with_reducible show wpAny _ _ (call (Value.type "bytes") [Value.ref _]) _ _ _); (rename News _ _ _ _ => nE'); (simp only [List.push_toArray] at nE'); k_dflt (refine' KBa.make_K (by k_asm) nE' (by rfl) (by exact News.isList nE' (by k_mem)) (by k_intsEnd) (by kba_in) (by kba_size) ?_); intro _ _ _ F' N' kbaIn))
  (k_with "pyIter bytes" => (k_here; refine hold ?_))
  (k_with "call ref" => (k_here; k_dflt (refine' Gives.use (c_buffer _ _) (by k_asm) (by k_asm) (by k_asm) (by exact rfl) (by ktr_room) (by ktr_units) ?_); intro v9 h9 tk9 hv9 F9 N9; (try subst hv9); (try dsimp only); (try k_fold)))
  (k_with "call ref" => (k_here; k_dflt (refine' Gives.use (c_truth _) (by k_asm) (by k_asm) (by k_asm) (by exact rfl) (by ktr_room) (by ktr_units) ?_); intro v9 h9 tk9 hv9 F9 N9; (try subst hv9); (try dsimp only); (try k_fold)))
  intro w mean mg mb dp un gd cn cs a ccd cl outer A₀ base h₀ L m news s Q E G F N hk hd hu hret
  k_dflt (refine' go0 ?G ?F ?N ?kA ?kF ?kK ?k6 ?k7 ?k8 ?k9 ?kB ?_ ?c2 ?c3 ?c4 ?c5; (case G => exact G); (case F => exact F); (case N => exact N); (case kA => exact rfl); (case kF => exact rfl); (case kK => exact hk); (case k6 => k_is); (case k7 => k_is); (case k8 => ktr_room); (case k9 => intro X9; first | exact BindsTo.of_eq rfl | exact binds_K X9 rfl (by k_is) rfl rfl rfl | exact kp_binds X9 (fun _ => by with_unfolding_all rfl)); (case kB => exact locs rfl); (case c2 => exact rfl); (case c3 => exact rfl); (case c4 => exact rfl); (case c5 => decide); k_whole; intro L' h' F' N' G'; have B' := G'.B; have X' := G'.X; have T' := G'.T; (try dsimp only); (try k_fold))
  refine absQ fun QQ hQQ => ?_
  (k_with "state" => exact bP_start)
  k_steps
  unfold Hold
  have i0 : IntsAre [] [] := .nil
  first | k_state (fun pre out lb lc => bP pre out lb lc) "out" "leftbits" "leftchar" | fail "k_state fell"
  · obtain ⟨i1, i2, i3, i4, i5, i6⟩ := kInv
    rcases i2 with e | e | e <;> subst e
    · (k_with "state" => exact bP_0 (by assumption) (by assumption) (by assumption) (by assumption) (by assumption))
      refine absQ1 fun QS hQS => ?_
      k_steps
      all_goals (refine hQS _ _ ?_; k_steps)
    · (k_with "state" => exact bP_2 (by assumption) (by assumption) (by assumption) (by assumption) (by assumption))
      refine absQ1 fun QS hQS => ?_
      k_steps
      all_goals (refine hQS _ _ ?_; k_steps)
    · (k_with "state" => exact bP_4 (by assumption) (by assumption) (by assumption) (by assumption) (by assumption))
      refine absQ1 fun QS hQS => ?_
      k_steps
      all_goals (refine hQS _ _ ?_; k_steps)
  · obtain ⟨i1, i2, i3, i4, i5, i6⟩ := kInv
    rcases i2 with e | e | e <;> subst e
    · k_steps
      exact hQQ _ _ <| lv_ (by assumption) fun kF kN => hret _ _ _ (bytes_eq (b2aL_0 i1)) kF kN
    · k_steps
      exact hQQ _ _ <| lv_ (by assumption) fun kF kN => hret _ _ _ (bytes_eq (b2aL_2 i1)) kF kN
    · k_steps
      exact hQQ _ _ <| lv_ (by assumption) fun kF kN => hret _ _ _ (bytes_eq (b2aL_4 i1)) kF kN

end Mine
end

section
open PySem PySem.W PyProof.Rows PySem.Spec PySem.Calls
namespace Mine
theorem b64v_lo {c : Int} (h0 : 0 ≤ c) : 0 ≤ b64v c := by unfold b64v; (repeat' split) <;> omega
theorem b64v_hi (c : Int) : b64v c ≤ 64 := by unfold b64v; (repeat' split) <;> omega
def astep (st : List Int × Int × Int × Int) (c : Int) : List Int × Int × Int × Int :=
  if c = 61 then (st.1, st.2.1, st.2.2.1, st.2.2.2 + 1)
  else if 64 ≤ b64v c then st
  else if st.2.1 = 0 then (st.1, 1, b64v c, 0)
  else if st.2.1 = 1 then (st.1 ++ [st.2.2.1 * 4 + b64v c / 16], 2, b64v c % 16, 0)
  else if st.2.1 = 2 then (st.1 ++ [st.2.2.1 * 16 + b64v c / 4], 3, b64v c % 4, 0)
  else (st.1 ++ [st.2.2.1 * 64 + b64v c], 0, 0, 0)
def aSt (pre : List Int) : List Int × Int × Int × Int := pre.foldl astep ([], 0, 0, 0)
theorem aSt_snoc (pre : List Int) (c : Int) : aSt (pre ++ [c]) = astep (aSt pre) c := by unfold aSt; rw [List.foldl_append]; rfl
def aP (pre out : List Int) (q lc pads : Int) : Prop := aSt pre = (out, q, lc, pads) ∧ (q = 0 ∧ lc = 0 ∨ q = 1 ∧ 0 ≤ lc ∧ lc < 64 ∨ q = 2 ∧ 0 ≤ lc ∧ lc < 16 ∨ q = 3 ∧ 0 ≤ lc ∧ lc < 4) ∧ 0 ≤ pads ∧ KBa.In out ∧ out.length ≤ pre.length
theorem aP_start : aP [] [] 0 0 0 := ⟨rfl, .inl ⟨rfl, rfl⟩, by decide, (fun _ h => nomatch h), by simp⟩
section
variable {pre out : List Int} {q lc pads c : Int}
theorem aP_pad (h : aP pre out q lc pads) (hc : c = 61) : aP (pre ++ [c]) out q lc (pads + 1) := by
  obtain ⟨i1, i2, i3, i4, i5⟩ := h
  refine ⟨?_, i2, by omega, i4, by simp; omega⟩
  rw [aSt_snoc, i1]; unfold astep; rw [if_pos hc]
theorem aP_skip (h : aP pre out q lc pads) (hc : c ≠ 61) (hv : 64 ≤ b64v c) : aP (pre ++ [c]) out q lc pads := by
  obtain ⟨i1, i2, i3, i4, i5⟩ := h
  refine ⟨?_, i2, by omega, i4, by simp; omega⟩
  rw [aSt_snoc, i1]; unfold astep; rw [if_neg hc, if_pos hv]
theorem aP_0 (h : aP pre out 0 lc pads) (h0 : 0 ≤ c) (hc : c ≠ 61) (hv : ¬ 64 ≤ b64v c) : aP (pre ++ [c]) out 1 (b64v c) 0 := by
  obtain ⟨i1, i2, i3, i4, i5⟩ := h
  have := b64v_lo h0
  refine ⟨?_, .inr (.inl ⟨rfl, by omega, by omega⟩), by decide, i4, by simp; omega⟩
  rw [aSt_snoc, i1]; unfold astep; rw [if_neg hc, if_neg hv]; rfl
theorem aP_1 (h : aP pre out 1 lc pads) (h0 : 0 ≤ c) (hc : c ≠ 61) (hv : ¬ 64 ≤ b64v c) :
    aP (pre ++ [c]) (out ++ [Builtin.bitOr (lc * 2 ^ (2 : Int).toNat) ((b64v c).fdiv (2 ^ (4 : Int).toNat))]) 2 (Builtin.bitAnd (b64v c) 15) 0 := by
  obtain ⟨i1, i2, i3, i4, i5⟩ := h
  have hv0 := b64v_lo h0
  have hl : 0 ≤ lc ∧ lc < 64 := by omega
  rw [show (2 : Int) ^ (4 : Int).toNat = 16 from rfl, fdiv_lit _ (by decide), or_two _ _ (by omega) (by omega), bitAnd_m4]
  refine ⟨?_, .inr (.inr (.inl ⟨rfl, by omega, by omega⟩)), by decide, in_snoc i4 (by omega) (by omega), by simp; omega⟩
  rw [aSt_snoc, i1]; unfold astep; rw [if_neg hc, if_neg hv]; rfl
theorem aP_2 (h : aP pre out 2 lc pads) (h0 : 0 ≤ c) (hc : c ≠ 61) (hv : ¬ 64 ≤ b64v c) :
    aP (pre ++ [c]) (out ++ [Builtin.bitOr (lc * 2 ^ (4 : Int).toNat) ((b64v c).fdiv (2 ^ (2 : Int).toNat))]) 3 (Builtin.bitAnd (b64v c) 3) 0 := by
  obtain ⟨i1, i2, i3, i4, i5⟩ := h
  have hv0 := b64v_lo h0
  have hl : 0 ≤ lc ∧ lc < 16 := by omega
  rw [show (2 : Int) ^ (2 : Int).toNat = 4 from rfl, fdiv_lit _ (by decide), or_four _ _ (by omega) (by omega), bitAnd_m2]
  refine ⟨?_, .inr (.inr (.inr ⟨rfl, by omega, by omega⟩)), by decide, in_snoc i4 (by omega) (by omega), by simp; omega⟩
  rw [aSt_snoc, i1]; unfold astep; rw [if_neg hc, if_neg hv]; rfl
theorem aP_3 (h : aP pre out 3 lc pads) (h0 : 0 ≤ c) (hc : c ≠ 61) (hv : ¬ 64 ≤ b64v c) :
    aP (pre ++ [c]) (out ++ [Builtin.bitOr (lc * 2 ^ (6 : Int).toNat) (b64v c)]) 0 0 0 := by
  obtain ⟨i1, i2, i3, i4, i5⟩ := h
  have hv0 := b64v_lo h0
  have hl : 0 ≤ lc ∧ lc < 4 := by omega
  rw [or_six _ _ (by omega) (by omega)]
  refine ⟨?_, .inl ⟨rfl, rfl⟩, by decide, in_snoc i4 (by omega) (by omega), by simp; omega⟩
  rw [aSt_snoc, i1]; unfold astep; rw [if_neg hc, if_neg hv]; rfl
end
end Mine
end

section
open PySem PySem.W PyProof.Rows PySem.Spec PySem.Calls
namespace Mine

local macro_rules | `(tactic| walk_at $s:str) => `(tactic| k_extra $s)
set_option maxRecDepth 100000 in
set_option maxHeartbeats 8000000 in
theorem c_a2b (ns : List Int) (hns : KBa.In ns) (hlen : ns.length ≤ 40) (hpad : 2 ≤ (aSt ns).2.2.2) (t : Tok) : GivesR 85 [.bytes (byteArr ns) t] [(Str.ofString "strict_mode", .bool false)] 3 60 (fun v => (aSt ns).2.1 ≠ 1 ∧ ∃ t, v = .bytes (byteArr (aSt ns).1) t) ((aSt ns).2.1 = 1) (.ref 46) := by
  have fill : ∀ (w : World) (h : Heap), PySem.Challenge.rw_pa0023_01 = PySem.Challenge.rw_pa0023_01 → (Mine.hd.heap_39 w.params).In h → True := by k_fill; intros; trivial
  clear fill
  w_on
  k_with_none
  (k_with "pyIter bytes" => (k_here; refine hold ?_))
  (k_with "call ref" => (k_here; k_dflt (refine' Gives.use (c_abuf _ _) (by k_asm) (by k_asm) (by k_asm) (by exact rfl) (by ktr_room) (by ktr_units) ?_); intro v9 h9 tk9 hv9 F9 N9; (try subst hv9); (try dsimp only); (try k_fold)))
  (k_with "call ref" => (k_here; k_dflt (refine' Gives.use (c_truth _) (by k_asm) (by k_asm) (by k_asm) (by exact rfl) (by ktr_room) (by ktr_units) ?_); intro v9 h9 tk9 hv9 F9 N9; (try subst hv9); (try dsimp only); (try k_fold)))
  (k_with "call ref" => (k_here; k_dflt (refine' Gives.use (c_b64v _ _) (by k_asm) (by k_asm) (by k_asm) (by exact rfl) (by ktr_room) (by ktr_units) ?_); intro v9 h9 tk9 hv9 F9 N9; obtain ⟨t9, hv9⟩ := hv9; subst hv9; (try dsimp only); (try k_fold)))
  intro w mean mg mb dp un gd cn cs a ccd cl outer A₀ base h₀ L m news s Q E G F N hk hd hu hret hrse
  k_dflt (refine' go0 ?G ?F ?N ?kA ?kF ?kK ?k6 ?k7 ?k8 ?k9 ?kB ?_ ?c2 ?c3 ?c4 ?c5; (case G => exact G); (case F => exact F); (case N => exact N); (case kA => exact rfl); (case kF => exact rfl); (case kK => exact hk); (case k6 => k_is); (case k7 => k_is); (case k8 => ktr_room); (case k9 => intro X9; first | exact BindsTo.of_eq rfl | exact binds_K X9 rfl (by k_is) rfl rfl rfl | exact kp_binds X9 (fun _ => by with_unfolding_all rfl)); (case kB => exact locs rfl); (case c2 => exact rfl); (case c3 => exact rfl); (case c4 => exact rfl); (case c5 => decide); k_whole; intro L' h' F' N' G'; have B' := G'.B; have X' := G'.X; have T' := G'.T; have D' := G'.D; (try dsimp only); (try k_fold))
  refine absQ1 fun QQ hQQ => ?_
  (k_with "state" => exact aP_start)
  k_steps
  unfold Hold
  have i0 : IntsAre [] [] := .nil
  first | k_state (fun pre out q lc pads i => aP pre out q lc pads) "out" "quad_pos" "leftchar" "pads" "i" | fail "k_state fell"
  · have i9 := kInv.2.1
    have i8 := kInv.2.2.1
    have i7 := kInv.2.2.2.2
    rcases i9 with e | e | e | e
    · obtain ⟨e, e'⟩ := e
      subst e; subst e'
      (k_with "state" => first | exact aP_pad kInv (by first | assumption | omega) | exact aP_skip kInv (by first | assumption | omega) (by first | assumption | omega) | exact aP_0 kInv (by assumption) (by first | assumption | omega) (by first | assumption | omega))
      refine absQ1 fun QS hQS => ?_
      k_steps
      all_goals (refine hQS _ _ ?_; k_steps)
    · obtain ⟨e, e1, e2⟩ := e
      subst e
      (k_with "state" => first | exact aP_pad kInv (by first | assumption | omega) | exact aP_skip kInv (by first | assumption | omega) (by first | assumption | omega) | exact aP_1 kInv (by assumption) (by first | assumption | omega) (by first | assumption | omega))
      refine absQ1 fun QS hQS => ?_
      k_steps
      all_goals (refine hQS _ _ ?_; k_steps)
    · obtain ⟨e, e1, e2⟩ := e
      subst e
      (k_with "state" => first | exact aP_pad kInv (by first | assumption | omega) | exact aP_skip kInv (by first | assumption | omega) (by first | assumption | omega) | exact aP_2 kInv (by assumption) (by first | assumption | omega) (by first | assumption | omega))
      refine absQ1 fun QS hQS => ?_
      k_steps
      all_goals (refine hQS _ _ ?_; k_steps)
    · obtain ⟨e, e1, e2⟩ := e
      subst e
      (k_with "state" => first | exact aP_pad kInv (by first | assumption | omega) | exact aP_skip kInv (by first | assumption | omega) (by first | assumption | omega) | exact aP_3 kInv (by assumption) (by first | assumption | omega) (by first | assumption | omega))
      refine absQ1 fun QS hQS => ?_
      k_steps
      all_goals (refine hQS _ _ ?_; k_steps)
  · obtain ⟨i1, i2, i3, i4, i5⟩ := kInv
    rw [i1] at hpad hret hrse
    dsimp only at hpad hret hrse
    rcases i2 with e | e | e | e
    · obtain ⟨e, e'⟩ := e
      subst e; subst e'
      k_steps
      exact hQQ _ _ <| lv_ (by assumption) fun kF kN => hret _ _ _ ⟨by decide, _, rfl⟩ kF kN
    · obtain ⟨e, e1, e2⟩ := e
      subst e
      k_steps
      exact hrse rfl _ _ _ _ _ (RaisedS.bare (by assumption)) (by assumption)
    · obtain ⟨e, e1, e2⟩ := e
      subst e
      k_steps
      exact hQQ _ _ <| lv_ (by assumption) fun kF kN => hret _ _ _ ⟨by decide, _, rfl⟩ kF kN
    · obtain ⟨e, e1, e2⟩ := e
      subst e
      k_steps
      exact hQQ _ _ <| lv_ (by assumption) fun kF kN => hret _ _ _ ⟨by decide, _, rfl⟩ kF kN

end Mine
end

section
open PySem PySem.W PyProof.Rows PySem.Spec PySem.Calls
namespace Mine

local macro_rules | `(tactic| walk_at $s:str) => `(tactic| k_extra $s)

theorem bstep_len (st : List Int × Int × Int) (b : Int) : (bstep st b).1.length ≤ st.1.length + 2 := by unfold bstep; (repeat' split) <;> simp
theorem bfold_len : ∀ (ns : List Int) (st : List Int × Int × Int), (ns.foldl bstep st).1.length ≤ st.1.length + 2 * ns.length
  | [], st => by simp
  | b :: r, st => by
    have h1 := bfold_len r (bstep st b)
    have h2 := bstep_len st b
    rw [List.foldl_cons, List.length_cons]; omega
theorem b2aL_len (ns : List Int) : (b2aL ns).length ≤ 2 * ns.length + 3 := by
  have h := bfold_len ns ([], 0, 0)
  unfold b2aL bfin
  simp at h
  (repeat' split) <;> simp <;> omega
theorem b2a_size {ns : List Int} (h : ns.length ≤ 20) : (byteArr (b2aL ns)).size ≤ 16777216 := by
  have := b2aL_len ns
  show (((b2aL ns).map _).toArray).size ≤ _
  simp; omega
set_option maxRecDepth 100000 in
set_option maxHeartbeats 8000000 in
theorem c_enc (ns : List Int) (hns : KBa.In ns) (hlen : ns.length ≤ 20) (t t2 : Tok) (p q : UInt8) : Gives 101 [.bytes (byteArr ns) t, .bytes #[p, q] t2] [] 6 200 (fun v => ∃ t, v = .bytes (trans (mtab #[43, 47] #[p, q]) (byteArr (b2aL ns))) t) := by
  have fill : ∀ (w : World) (h : Heap), PySem.Challenge.rw_pa0023_01 = PySem.Challenge.rw_pa0023_01 → (Mine.hd.heap_39 w.params).In h → True := by k_fill; intros; trivial
  clear fill
  w_on
  k_with_none
  (k_with "getMethod bytes" => (k_here; (with_reducible refine m_translate ?_)))
  (k_with "getMethod type:bytes" => (k_here; (refine m_mt (by k_asm) (by k_asm) ?_)))
  (k_with "call builtin:len" => (k_here; (with_reducible show wpAny _ _ (call (Value.builtin "len") [Value.bytes (List.toArray [_, _]) _]) _ _ _); (refine r_len2 ?_); intro _ _))
  (k_with "call builtin:bytes.maketrans" => (k_here; (refine r_mt (by rfl) ?_); intro _ _))
  (k_with "call builtin:bytes.translate" => (k_here; (refine r_translate (mtab_size _ _) (by first | assumption | omega) ?_); intro _ _))
  (k_with "call ref" => (k_here; k_dflt (refine' Gives.use (c_b2a _ (by assumption) (by assumption) _) (by k_asm) (by k_asm) (by k_asm) (by exact rfl) (by ktr_room) (by ktr_units) ?_); intro v9 h9 tk9 hv9 F9 N9; obtain ⟨t9, hv9⟩ := hv9; subst hv9; (try dsimp only); (try k_fold)))
  intro w mean mg mb dp un gd cn cs a ccd cl outer A₀ base h₀ L m news s Q E G F N hk hd hu hret
  k_dflt (refine' go0 ?G ?F ?N ?kA ?kF ?kK ?k6 ?k7 ?k8 ?k9 ?kB ?_ ?c2 ?c3 ?c4 ?c5; (case G => exact G); (case F => exact F); (case N => exact N); (case kA => exact rfl); (case kF => exact rfl); (case kK => exact hk); (case k6 => k_is); (case k7 => k_is); (case k8 => ktr_room); (case k9 => intro X9; first | exact BindsTo.of_eq rfl | exact binds_K X9 rfl (by k_is) rfl rfl rfl | exact kp_binds X9 (fun _ => by with_unfolding_all rfl)); (case kB => exact locs rfl); (case c2 => exact rfl); (case c3 => exact rfl); (case c4 => exact rfl); (case c5 => decide); k_whole; intro L' h' F' N' G'; have B' := G'.B; have X' := G'.X; have T' := G'.T; (try dsimp only); (try k_fold))
  refine absQ fun QQ hQQ => ?_
  have hsz := b2a_size hlen
  k_steps
  all_goals (exact hQQ _ _ <| lv_ (by assumption) fun kF kN => hret _ _ _ ⟨_, rfl⟩ kF kN)

end Mine
end

section
open PySem PySem.W PyProof.Rows PySem.Spec PySem.Calls
namespace Mine

def trI (tb : Array UInt8) (c : Int) : Int := (((tb.getD (c.toNat.toUInt8).toNat (c.toNat.toUInt8)).toNat : Nat) : Int)
theorem u8_back (u : UInt8) : (((u.toNat : Nat) : Int)).toNat.toUInt8 = u := by simp
theorem trans_byteArr (tb : Array UInt8) (ns : List Int) : trans tb (byteArr ns) = byteArr (ns.map (trI tb)) := by
  unfold trans byteArr
  apply Array.toList_inj.mp
  simp only [Array.toList_map, List.map_map]
  apply List.map_congr_left
  intro c _
  simp only [Function.comp, trI, u8_back]
theorem cps_byteArr (x : Str) : x.cps.map (·.toUInt8) = byteArr (x.cps.toList.map fun c => ((c : Nat) : Int)) := by
  unfold byteArr
  apply Array.toList_inj.mp
  simp only [Array.toList_map, List.map_map]
  apply List.map_congr_left
  intro c _
  rfl
def dIn (p q : UInt8) (x : Str) : List Int := (x.cps.toList.map fun c => ((c : Nat) : Int)).map (trI (mtab #[p, q] #[43, 47]))
theorem in_trI (tb : Array UInt8) (ns : List Int) : KBa.In (ns.map (trI tb)) := by
  intro n hn
  obtain ⟨c, _, rfl⟩ := List.mem_map.mp hn
  have := (tb.getD (c.toNat.toUInt8).toNat (c.toNat.toUInt8)).toNat_lt
  exact ⟨Int.natCast_nonneg _, by unfold trI; omega⟩
theorem dIn_in (p q : UInt8) (x : Str) : KBa.In (dIn p q x) := in_trI _ _
theorem dIn_len (p q : UInt8) (x : Str) : (dIn p q x).length = x.cps.size := by simp [dIn]
theorem dIn_eq (p q : UInt8) (x : Str) : trans (mtab #[p, q] #[43, 47]) (x.cps.map (·.toUInt8)) = byteArr (dIn p q x) := by rw [cps_byteArr, trans_byteArr]; rfl
theorem r_translateL {prog : Program} {w : World} {A : Around} {E : Value → Shared → Prop} {s : Shared} {tb b : Array UInt8} {t u : Tok} {ns : List Int} {Q : Value → Shared → Prop} (e : trans tb b = byteArr ns) (htb : tb.size = 256) (hsz : b.size ≤ 16777216) (h : ∀ t' k, Q (.bytes (byteArr ns) t') { s with toks := k }) :
    wpAny (model prog w) A (call (.builtin "bytes.translate") [.bytes b t, .bytes tb u]) Q E s := r_translate htb hsz (e ▸ h)

local macro_rules | `(tactic| walk_at $s:str) => `(tactic| k_extra $s)
set_option maxRecDepth 100000 in
set_option maxHeartbeats 8000000 in
theorem c_dec (x : Str) (ha : ∀ c ∈ x.cps.toList, c < 128) (hlen : x.cps.size ≤ 40) (t t2 : Tok) (p q : UInt8) (hpad : 2 ≤ (aSt (dIn p q x)).2.2.2) : GivesR 109 [.str x t, .bytes #[p, q] t2] [] 8 400 (fun v => (aSt (dIn p q x)).2.1 ≠ 1 ∧ ∃ t, v = .bytes (byteArr (aSt (dIn p q x)).1) t) ((aSt (dIn p q x)).2.1 = 1) (.ref 46) := by
  have fill : ∀ (w : World) (h : Heap), PySem.Challenge.rw_pa0023_01 = PySem.Challenge.rw_pa0023_01 → (Mine.hd.heap_39 w.params).In h → True := by k_fill; intros; trivial
  clear fill
  w_on
  k_with_none
  (k_with "getMethod bytes" => (k_here; (with_reducible refine m_translate ?_)))
  (k_with "getMethod type:bytes" => (k_here; (refine m_mt (by k_asm) (by k_asm) ?_)))
  (k_with "call builtin:len" => (k_here; (with_reducible show wpAny _ _ (call (Value.builtin "len") [Value.bytes (List.toArray [_, _]) _]) _ _ _); (refine r_len2 ?_); intro _ _))
  (k_with "call builtin:bytes.maketrans" => (k_here; (refine r_mt (by rfl) ?_); intro _ _))
  (k_with "call builtin:bytes.translate" => (k_here; (refine r_translate (mtab_size _ _) (by first | assumption | omega) ?_); intro _ _))
  (k_with "call builtin:bytes.translate" => (k_here; (refine r_translateL (dIn_eq _ _ _) (mtab_size _ _) (by simpa using (by omega)) ?_); intro _ _))
  (k_with "call ref" => (k_here; k_dflt (refine' Gives.use (c_fdd _ _ (by assumption) (by omega)) (by k_asm) (by k_asm) (by k_asm) (by exact rfl) (by ktr_room) (by ktr_units) ?_); intro v9 h9 tk9 hv9 F9 N9; obtain ⟨t9, hv9⟩ := hv9; subst hv9; (try dsimp only); (try k_fold)))
  (k_with "call ref" => (k_here; k_dflt (refine' Gives.use (c_fddb _ _) (by k_asm) (by k_asm) (by k_asm) (by exact rfl) (by ktr_room) (by ktr_units) ?_); intro v9 h9 tk9 hv9 F9 N9; (try subst hv9); (try dsimp only); (try k_fold)))
  (k_with "call ref" => (k_here; k_dflt (refine' GivesR.use (c_a2b _ (dIn_in _ _ _) (by rw [dIn_len]; assumption) (by assumption) _) (by k_asm) (by k_asm) (by k_asm) (by exact rfl) (by ktr_room) (by ktr_units) ?r1 ?r2); (case' r1 => (intro v9 h9 tk9 hv9 F9 N9; obtain ⟨hne9, t9, hv9⟩ := hv9; subst hv9; (try dsimp only); (try k_fold))); (case' r2 => (intro hX9 e9 t9 xs9 h9 tk9 S9 U9; (try dsimp only)))))
  intro w mean mg mb dp un gd cn cs a ccd cl outer A₀ base h₀ L m news s Q E G F N hk hd hu hret hrse
  k_dflt (refine' go0 ?G ?F ?N ?kA ?kF ?kK ?k6 ?k7 ?k8 ?k9 ?kB ?_ ?c2 ?c3 ?c4 ?c5; (case G => exact G); (case F => exact F); (case N => exact N); (case kA => exact rfl); (case kF => exact rfl); (case kK => exact hk); (case k6 => k_is); (case k7 => k_is); (case k8 => ktr_room); (case k9 => intro X9; first | exact BindsTo.of_eq rfl | exact binds_K X9 rfl (by k_is) rfl rfl rfl | exact kp_binds X9 (fun _ => by with_unfolding_all rfl)); (case kB => exact locs rfl); (case c2 => exact rfl); (case c3 => exact rfl); (case c4 => exact rfl); (case c5 => decide); k_whole; intro L' h' F' N' G'; have B' := G'.B; have X' := G'.X; have T' := G'.T; have D' := G'.D; (try dsimp only); (try k_fold))
  refine absQ1 fun QQ hQQ => ?_
  k_steps
  all_goals first
    | exact hQQ _ _ <| lv_ (by assumption) fun kF kN => hret _ _ _ ⟨by assumption, _, rfl⟩ kF kN
    | exact hrse (by assumption) _ _ _ _ _ (RaisedS.bare (by assumption)) (by assumption)

end Mine
end

section
open PySem PySem.W PyProof.Rows PySem.Spec PySem.Calls
namespace Mine

theorem ifloor2 {prog : Program} {w : World} {A : Around} {E : Value → Shared → Prop} {s : Shared} {Q : Value → Shared → Prop} {a k : Int} {t u : Tok} (hk : k < 8) (h : Q (.int (a.fdiv (2 ^ k.toNat)) s.toks) { s with toks := s.toks + 1 }) :
    wpAny (model prog w) A (inplaceOp .FloorDiv (.int a t) (.int (2 ^ k.toNat) u)) Q E s :=
  ifloordiv_int (Int.ne_of_gt (kbt_pos _)) h (Or.inl (PyProof.noPylong_of_log2 (kbt_py (by omega))))
theorem pow_log {b : Int} (hb : 0 < b) (hb2 : b ≤ 256) {k : Int} (hk : k ≤ 16) : (b ^ k.toNat).natAbs.log2 < 9000 := by
  have h1 : (b ^ k.toNat).natAbs = b.natAbs ^ k.toNat := Int.natAbs_pow b k.toNat
  have h2 : b.natAbs ^ k.toNat ≤ 256 ^ 16 := Nat.le_trans (Nat.pow_le_pow_left (by omega) _) (Nat.pow_le_pow_right (by decide) (by omega))
  have h3 : b.natAbs ^ k.toNat ≠ 0 := Nat.ne_of_gt (Nat.pow_pos (by omega))
  rw [h1]
  have h4 : (b.natAbs ^ k.toNat).log2 < 200 := (Nat.log2_lt h3).mpr (Nat.lt_of_le_of_lt h2 (by decide))
  omega
theorem pow_ne {b : Int} (hb : 0 < b) (n : Nat) : b ^ n ≠ 0 := Int.ne_of_gt (Int.pow_pos hb)
theorem floorP {prog : Program} {w : World} {A : Around} {E : Value → Shared → Prop} {s : Shared} {Q : Value → Shared → Prop} {a b k : Int} {t u : Tok} (hb : 0 < b) (hb2 : b ≤ 256) (hk : k ≤ 16) (h : Q (.int (a.fdiv (b ^ k.toNat)) s.toks) { s with toks := s.toks + 1 }) :
    wpAny (model prog w) A (binaryOp .FloorDiv (.int a t) (.int (b ^ k.toNat) u)) Q E s :=
  floordiv_int (pow_ne hb _) h (Or.inl (PyProof.noPylong_of_log2 (pow_log hb hb2 hk)))
def octL (n c : Int) : List Int := ((rangeKs 0 ((c * 3).fdiv 4 - 0).toNat).map (fun k => ((n.fdiv (2 ^ ((-2 * c).fmod 8).toNat)).fdiv (256 ^ k.toNat)).fmod 256)).reverse
theorem in_rev {l : List Int} (h : KBa.In l) : KBa.In l.reverse := fun n hn => h n (List.mem_reverse.mp hn)

local macro_rules | `(tactic| kba_in) => `(tactic| (refine in_rev ?_; kba_in))
local macro_rules | `(tactic| kba_size) => `(tactic| (simp only [List.length_reverse, List.length_map, rangeKs_length]; omega))

local macro_rules | `(tactic| walk_at $s:str) => `(tactic| k_extra $s)
set_option maxRecDepth 100000 in
set_option maxHeartbeats 8000000 in
theorem c_oct (n c : Int) (t1 t2 : Tok) (h3 : 0 ≤ c) (h4 : c ≤ 16) : Gives 121 [.int n t1, .int c t2] [] 6 200 (fun v => ∃ t, v = .bytes (byteArr (octL n c)) t) := by
  have fill : ∀ (w : World) (h : Heap), PySem.Challenge.rw_pa0023_01 = PySem.Challenge.rw_pa0023_01 → (Mine.hd.heap_39 w.params).In h → True := by k_fill; intros; trivial
  clear fill
  w_on
  k_with_none
  (k_with "inplaceOp FloorDiv int int" => (k_here; refine ifloor2 (by assumption) ?_))
  (k_with "binaryOp FloorDiv int int" => (k_here; (with_reducible show wpAny _ _ (binaryOp _ (Value.int _ _) (Value.int (_ ^ Int.toNat _) _)) _ _ _); refine floorP (by decide) (by decide) (by omega) ?_))
  intro w mean mg mb dp un gd cn cs a ccd cl outer A₀ base h₀ L m news s Q E G F N hk hd hu hret
  k_dflt (refine' goC0 ?G ?F ?N ?kA ?kF ?kK ?k6 ?k7 ?k8 ?k9 ?kB ?kD ?_ ?c2 ?c3 ?c4; (case G => exact G); (case F => exact F); (case N => exact N); (case kA => exact rfl); (case kF => exact rfl); (case kK => exact hk); (case k6 => k_is); (case k7 => k_is); (case k8 => ktr_room); (case k9 => intro X9; first | exact BindsTo.of_eq rfl | exact binds_K X9 rfl (by k_is) rfl rfl rfl | exact kp_binds X9 (fun _ => by with_unfolding_all rfl)); (case kB => exact rfl); (case kD => decide +kernel); (case c2 => exact rfl); (case c3 => exact rfl); (case c4 => exact rfl); k_whole; intro L' h' tk' cells' F' N' Y' G'; have B' := G'.B; have X' := G'.X; have T' := G'.T; k_cells Y'; (try simp only [List.cons_append, List.nil_append] at N'); (try dsimp only); (try k_fold))
  refine absQ fun QQ hQQ => ?_
  have hf1 : 0 ≤ (c * 3).fdiv 4 := by rw [fdiv_lit _ (by decide)]; omega
  have hf2 : (c * 3).fdiv 4 ≤ 12 := by rw [fdiv_lit _ (by decide)]; omega
  k_steps
  exact hQQ _ _ <| lv_ (by assumption) fun kF kN => hret _ _ _ ⟨_, rfl⟩ kF kN

end Mine
end

section
open PySem PySem.W PyProof.Rows PySem.Spec PySem.Calls PyProof.Rows.LCg
namespace Mine
/-- the places of what is not b -/
def posNe (b : Int) : List Int → Int → List Int
  | [], _ => []
  | n :: r, i => if n = b then posNe b r (i + 1) else i :: posNe b r (i + 1)
theorem posNe_snoc (b n : Int) : ∀ (l : List Int) (i : Int), posNe b (l ++ [n]) i = posNe b l i ++ (if n = b then [] else [i + (l.length : Int)])
  | [], i => by simp only [List.nil_append, posNe]; split <;> simp
  | x :: l, i => by
    simp only [List.cons_append, posNe, posNe_snoc b n l (i + 1)]
    have e : i + 1 + (l.length : Int) = i + ((x :: l).length : Int) := by simp; omega
    rw [e]
    split <;> simp

theorem notin2 {c e it : Addr} (h1 : c ≠ e) (h2 : c ≠ it) : c ∉ [e, it] := by simp [h1, h2]
section
variable {prog : Program} {w : World} {A : Around} {E : Value → Shared → Prop} {s : Shared} {env : Env}
theorem enum_comp {iter : Expr} {a b x : Str} {pa pb tp pe pb' px pc : Pos} {kk : Nat} {scope : Scope} {cl : List (Str × Addr)} {pos : Pos} {Q : Value → Shared → Prop} {l cx : Addr} {vs : List Value} {ns : List Int} {oc : Obj} {bl : Int} {tb : Tok}
    (hi : IntsAre vs ns) (hsz : ns.length ≤ sizeLine)
    (hh : A.handled = none) (hclos : closureFor scope env = pure cl) (hcell : ∀ y ∈ scope.names, y.2 ≠ .cell) (hkind : scope.kind = .function)
    (hnames : ∀ y ∈ scope.names, y.2 = .local → scope.names.lookup y.1 = some .local) (hxa : scope.names.lookup a = some .local) (hxb : scope.names.lookup b = some .local) (hab : ¬ a = b)
    (hkx : ∀ C, (compEnvC scope cl C env).kindOf x = some .cell) (hcx : cl.lookup x = some cx) (hoc : s.heap.get? cx = some oc) (hcd : oc.data = .cell (some (.int bl tb)))
    (da : (a == ("__debug__" : Str)) = false) (db : (b == ("__debug__" : Str)) = false) (dx : (x == ("__debug__" : Str)) = false)
    (h : wpAny (model prog w) A (eval iter env) (fun xv s₁ => ∃ e it g tk, xv = .ref e ∧ s₁ = { s with heap := g, toks := tk } ∧ e ≠ it ∧ l ≠ e ∧ l ≠ it ∧ s.heap.objs.size ≤ e ∧ s.heap.objs.size ≤ it ∧ IsEnum g e it 0 .none ∧ g.IsListIter it l 0 ∧ g.IsList l vs.toArray ∧ (∀ b o, s.heap.get? b = some o → g.get? b = some o)) E s)
    (hQ : ∀ D h' tk ys, (∀ b o, s.heap.get? b = some o → h'.get? b = some o) → s.heap.objs.size ≤ D → h'.get? D = some (lst ys) → IntsAre ys (posNe bl ns 0) → Q (.ref D) { s with heap := h', toks := tk })
    (hs : ∀ x, foldedSetIterable iter env x = pure x := by intro _; rfl) :
    wpAny (model prog w) A (eval (.ListComp (.Name a pe) [⟨.Tuple [.Name a pa, .Name b pb] kk tp, iter, [.Compare (.Name b pb') [.NotEq] [.Name x px] pc], 0⟩] scope pos) env) Q E s := by
  rw [eval_ListComp]
  refine wpAny_comprehension_free (use := none) rfl hs hclos hkind hnames (wpAny_mono h (fun xv s₁ h₁ => ?_) fun _ _ e => e)
  obtain ⟨e, it, g, tk, rfl, rfl, hei, hle, hli, hze, hzi, hen, hit, hl, hk⟩ := h₁
  refine wpAny_pyIter_enum hen ?_
  refine wpAny_newObj_type (wpAny_newFunctionEnv hcell (by intro y hy; simp at hy) (fun h₁ hns₁ hsb₁ => ?_) hkind)
  dsimp only at hns₁ hsb₁ ⊢
  generalize hH2 : g.push { cls := .type "list", dict := none, data := .seq ([] : List Value).toArray } = H2 at hns₁ hsb₁ ⊢
  have hC : H2.objs.size = g.objs.size + 1 := by rw [← hH2, Heap.size_push]
  have helt : @LT.lt Nat _ e g.objs.size := Heap.lt_size hen
  replace hze : @LE.le Nat _ s.heap.objs.size e := hze
  replace hzi : @LE.le Nat _ s.heap.objs.size it := hzi
  have hilt : @LT.lt Nat _ it g.objs.size := by obtain ⟨_, x, _⟩ := id hit; exact Heap.lt_size x
  have hllt : @LT.lt Nat _ l g.objs.size := by obtain ⟨_, x, _⟩ := id hl; exact Heap.lt_size x
  have hsg : s.heap.objs.size ≤ g.objs.size := Nat.le_of_lt (Nat.lt_of_le_of_lt hze helt)
  have old : ∀ b o, g.get? b = some o → h₁.get? b = some o := fun b o x => by
    have hb := ltN (Heap.lt_size x)
    refine hsb₁.extBut b o (by refine neN ?_; omega) (Heap.get?_push_of_some _ (hH2 ▸ Heap.get?_push_of_some _ x))
  have hacc : h₁.get? g.objs.size = some (lst []) := hsb₁.extBut _ _ (by refine neN ?_; omega) (Heap.get?_push_of_some _ (hH2 ▸ Heap.get?_push_size _ rfl))
  have W := WalksT.enumerate (prog := prog) (w := w) (A := A) hh e it l hei hle hli vs.toArray
  have hlen : vs.toArray.size = ns.length := by simp [hi.length]
  rw [hlen] at W
  have loop : ∀ s₃ : Shared, s₃ = { s with heap := h₁, toks := tk + ([] : List (Str × Value)).length } →
      codeAny (model prog w) A (.compLoop (.ListComp (.Name a pe) [⟨.Tuple [.Name a pa, .Name b pb] kk tp, iter, [.Compare (.Name b pb') [.NotEq] [.Name x px] pc], 0⟩] scope pos) 0 (.ref e) (.ref g.objs.size) (compEnvC scope cl H2.objs.size env))
        (compPost (model prog w) A E none Q (.ref g.objs.size) H2.objs.size) s₃ := by
    rintro s₃ rfl
    refine kct_loop (fun k s' => ∃ h' tk i ys m', s' = { s with heap := h', toks := tk } ∧ i ≤ ns.length ∧ k = ns.length + 1 - i ∧ ((∃ old, IsEnum h' e it i old) ∧ h'.IsListIter it l i ∧ h'.IsList l vs.toArray) ∧ h'.Ns H2.objs.size m' ∧
        h'.get? g.objs.size = some (lst ys) ∧ IntsAre ys (posNe bl (ns.take i) 0) ∧ ys.length ≤ i ∧ (∀ b o, s.heap.get? b = some o → h'.get? b = some o)) ?_ (ns.length + 1)
      ⟨h₁, _, 0, [], _, rfl, Nat.zero_le _, rfl, ⟨⟨_, old _ _ hen⟩, hit.at fun o x => old _ o x, hl.at fun o x => old _ o x⟩, hns₁, hacc, by simpa [posNe] using IntsAre.nil, Nat.le_refl _, fun b o x => old b o (hk b o x)⟩
    rintro k s' ⟨h', tk', i, ys, m', rfl, hile, rfl, hst, hn', hD', hys, hyl, hkp⟩
    by_cases hlt : i < ns.length
    · refine W.item i _ _ _ hlt hst fun T vals h₂ tk₂ hP hT hTup hMid hk₂ => ?_
      refine W.go _ _ _ i T _ _ _ hMid fun h₃ hst₃ hk₃ => ?_
      obtain ⟨t, v, hv, rfl⟩ := hP
      have hTw := W.apart _ _ _ hMid
      obtain ⟨n, tn, rfl, hn⟩ := hi.at i v (by simpa using hv)
      have up₃ : ∀ c o, c ≠ e → c ≠ it → h'.get? c = some o → h₃.get? c = some o := fun c o h1 h2 x => hk₃ c o (by simp [h1, h2]) (hk₂ c o (by simp [h1, h2]) x)
      have hTup₃ : h₃.IsTuple T #[.int i t, .int n tn] := by
        obtain ⟨ot, x1, x2⟩ := hTup
        exact ⟨ot, hk₃ _ _ hTw x1, x2⟩
      refine kcp_assign (env := compEnvC scope cl H2.objs.size env) hh hTup₃ (lookup_relabel_local hxa) (lookup_relabel_local hxb) (by simp [compEnvC, relabel, hkind]) (hn'.at' fun o x => up₃ _ o (by show H2.objs.size ≠ e; refine neN ?_; omega) (by show H2.objs.size ≠ it; refine neN ?_; omega) x) fun h₄ tk₄ hn₄ hs₄ => ?_
      have hs₄' : ∀ c o, c ≠ H2.objs.size → h₃.get? c = some o → h₄.get? c = some o := hs₄
      have up : ∀ c o, c ≠ e → c ≠ it → c ≠ H2.objs.size → h'.get? c = some o → h₄.get? c = some o := fun c o h1 h2 h3 x => hs₄' c o h3 (up₃ c o h1 h2 x)
      have hst₄ : (∃ old, IsEnum h₄ e it ((i + 1 : Nat) : Int) old) ∧ h₄.IsListIter it l (i + 1) ∧ h₄.IsList l vs.toArray := by
        obtain ⟨⟨old', x1⟩, x2, x3⟩ := hst₃
        exact ⟨⟨old', hs₄' _ _ (by refine neN ?_; omega) x1⟩, x2.at fun o x => hs₄' _ o (by refine neN ?_; omega) x, x3.at fun o x => hs₄' _ o (by refine neN ?_; omega) x⟩
      have hkp₄ : ∀ b o, s.heap.get? b = some o → h₄.get? b = some o := fun c o x => by
        have := ltN (Heap.lt_size x)
        exact up c o (by refine neN ?_; omega) (by refine neN ?_; omega) (by refine neN ?_; omega) (hkp c o x)
      have hD₄ : h₄.get? g.objs.size = some (lst ys) := up _ _ (by refine neN ?_; omega) (by refine neN ?_; omega) (by refine neN ?_; omega) hD'
      have htk : ns.take (i + 1) = ns.take i ++ [n] := by rw [List.take_add_one, hn]; rfl
      have hpos : posNe bl (ns.take (i + 1)) 0 = posNe bl (ns.take i) 0 ++ (if n = bl then [] else [(i : Int)]) := by
        rw [htk, posNe_snoc]
        have : ((ns.take i).length : Int) = i := by rw [List.length_take]; omega
        rw [this, Int.zero_add]
      refine wpAny_isTrue_Compare1 ?_
      have hkf : (compEnvC scope cl H2.objs.size env).scope.kind = .function := by simp [compEnvC, relabel, hkind]
      refine wpAny_Name (wpAny_loadName_local (v := .int n tn) hkf (lookup_relabel_local hxb) hn₄ (by simp) ?_) db
      refine wpAny_Name (wpAny_loadName_cell hkf (hkx _) hcx ⟨oc, hkp₄ _ _ hoc, hcd⟩ ?_) dx
      refine ne_int ?_
      refine wpAny_truthy_bool ?_
      by_cases hnb : n = bl
      · rw [if_neg (by simp [hnb])]
        refine ⟨ns.length + 1 - (i + 1), by omega, h₄, _, i + 1, ys, _, rfl, hlt, rfl, hst₄, hn₄, hD₄, ?_, by omega, hkp₄⟩
        rw [hpos, if_pos hnb, List.append_nil]; exact hys
      · rw [if_pos (by simp [hnb])]
        refine wpAny_Name (wpAny_loadName_local (v := .int i t) hkf (lookup_relabel_local hxa) hn₄ (by simp [hab]) ?_) da
        refine append_at (hsz := by show ys.toArray.size ≤ sizeLine; rw [List.size_toArray]; omega) hD₄ fun h₆ hs₆ hD₆ => ?_
        refine ⟨ns.length + 1 - (i + 1), by omega, h₆, _, i + 1, ys ++ [.int i t], _, rfl, hlt, rfl, ?_, hn₄.at' fun o x => hs₆.extBut _ o (by show H2.objs.size ≠ g.objs.size; omega) x, hD₆.trans (congrArg some (lst_snoc ys _)), ?_, by simp; omega, fun c o x => ?_⟩
        · obtain ⟨⟨old', x1⟩, x2, x3⟩ := hst₄
          exact ⟨⟨old', hs₆.extBut _ _ (by refine neN ?_; omega) x1⟩, x2.at fun o x => hs₆.extBut _ o (by refine neN ?_; omega) x, x3.at fun o x => hs₆.extBut _ o (by refine neN ?_; omega) x⟩
        · rw [hpos, if_neg hnb]
          exact IntsAre.append hys (.cons _ _ .nil)
        · have := ltN (Heap.lt_size x)
          exact hs₆.extBut c o (by refine neN ?_; omega) (hkp₄ c o x)
    · have hin : i = ns.length := by omega
      subst hin
      refine W.done _ _ _ hst fun h₂ tk₂ hk₂ => ?_
      refine ⟨m', hn'.at' fun o x => hk₂ _ o (notin2 (by refine neN ?_; omega) (by refine neN ?_; omega)) x, fun h'' hs'' => ?_⟩
      rw [List.take_length] at hys
      refine hQ _ h'' tk₂ ys (fun c o x => ?_) hsg (hs''.extBut _ _ (by refine neN ?_; omega) (hk₂ _ _ (notin2 (by refine neN ?_; omega) (by refine neN ?_; omega)) hD')) hys
      have := ltN (Heap.lt_size x)
      exact hs''.extBut c o (by refine neN ?_; omega) (hk₂ c o (notin2 (by refine neN ?_; omega) (by refine neN ?_; omega)) (hkp c o x))
  exact codeAny_compStart_list (loop _ rfl) (W.self 0 _ _ _ ⟨⟨_, old _ _ hen⟩, hit.at fun o x => old _ o x, hl.at fun o x => old _ o x⟩ (loop _ rfl))
end
end Mine
end

section
open PySem PySem.W PyProof.Rows PySem.Spec PySem.Calls PyProof.Rows.LCg
namespace Mine
section
variable {prog : Program} {w : World} {A : Around} {E : Value → Shared → Prop} {s : Shared} {h₀ : Heap} {L l b : Addr} {m : Str → Option Value} {news : List (Addr × Obj)} {xs ys : List Value} {n k : Nat} {Q : Value → Shared → Prop}
theorem r_add (F : Fr h₀ L s.heap m) (N : News h₀ L s.heap news) (h1 : (l, W.listOf xs.toArray n) ∈ news) (h2 : (b, W.listOf ys.toArray k) ∈ news) (hz : xs.length + ys.length ≤ 16777216)
    (h : ∀ D h', Fr h₀ L h' m → News h₀ L h' ((D, W.listOf (xs ++ ys).toArray 0) :: news) → (∀ p ∈ news, p.1 < D) → Q (.ref D) { s with heap := h' }) :
    wpAny (model prog w) A (binaryOp .Add (.ref l) (.ref b)) Q E s := by
  refine P.add_list (n := n) (n2 := k) (N.get h1) (N.get h2) ?_ (by rw [sizeLine_eq]; simpa using hz)
  have e : xs.toArray ++ ys.toArray = (xs ++ ys).toArray := by simp
  rw [e]
  exact h _ _ (F.push _) (N.push F _) fun p hp => Heap.lt_size (N p hp).1
theorem news_at {h h' : Heap} {D : Addr} {o : Obj} (F : Fr h₀ L h m) (N : News h₀ L h news) (hk : ∀ b o, h.get? b = some o → h'.get? b = some o) (hD : h.objs.size ≤ D) (ho : h'.get? D = some o) : News h₀ L h' ((D, o) :: news) := by
  intro p hp
  rcases List.mem_cons.mp hp with rfl | hp
  · refine ⟨ho, fun e => absurd F.ns.lt (by rw [← e]; exact Nat.not_lt.mpr hD), ?_⟩
    cases q : h₀.get? D with
    | none => rfl
    | some o' => exact absurd (Heap.lt_size (F.keep _ _ q)) (Nat.not_lt.mpr hD)
  · exact ⟨hk _ _ (N p hp).1, (N p hp).2⟩
end
/-- how many signs stand ahead of the first that is not b -/
def leadI (b : Int) (ns : List Int) : Int := (posNe b ns 0 ++ [(ns.length : Int)]).getD (Int.toNat 0) 0
theorem posNe_len (b : Int) : ∀ (l : List Int) (i : Int), (posNe b l i).length ≤ l.length
  | [], _ => Nat.le_refl _
  | x :: l, i => by
    have h := posNe_len b l (i + 1)
    simp only [posNe]; split <;> simp <;> omega
end Mine
end

section
open PySem PySem.W PyProof.Rows PySem.Spec PySem.Calls
namespace Mine

local macro_rules | `(tactic| walk_at $s:str) => `(tactic| k_extra $s)
set_option maxRecDepth 100000 in
set_option maxHeartbeats 8000000 in
theorem c_lead (l : Addr) (vs : List Value) (ns : List Int) (k : Nat) (hi : IntsAre vs ns) (hlen : ns.length ≤ 20) (b : Int) (t : Tok) : GivesH 126 [.ref l, .int b t] [] 6 200 (fun h => h.get? l = some (W.listOf vs.toArray k)) (fun v => ∃ t, v = .int (leadI b ns) t) := by
  have fill : ∀ (w : World) (h : Heap), PySem.Challenge.rw_pa0023_01 = PySem.Challenge.rw_pa0023_01 → (Mine.hd.heap_39 w.params).In h → True := by k_fill; intros; trivial
  clear fill
  w_on
  k_with_none
  (k_with "eval ListComp" => (k_here; refine hold ?_))
  (k_with "call type:enumerate" => (k_here; refine hold ?_))
  (k_with "binaryOp Add ref ref" => (k_here; refine hold ?_))
  intro w mean mg mb dp un gd cn cs a ccd cl outer A₀ base h₀ L m news s Q E G F N hk hd hu hP hret
  k_dflt (refine' goC0 ?G ?F ?N ?kA ?kF ?kK ?k6 ?k7 ?k8 ?k9 ?kB ?kD ?_ ?c2 ?c3 ?c4; (case G => exact G); (case F => exact F); (case N => exact N); (case kA => exact rfl); (case kF => exact rfl); (case kK => exact hk); (case k6 => k_is); (case k7 => k_is); (case k8 => ktr_room); (case k9 => intro X9; first | exact BindsTo.of_eq rfl | exact binds_K X9 rfl (by k_is) rfl rfl rfl | exact kp_binds X9 (fun _ => by with_unfolding_all rfl)); (case kB => exact rfl); (case kD => decide +kernel); (case c2 => exact rfl); (case c3 => exact rfl); (case c4 => exact rfl); k_whole; intro L' h' tk' cells' F' N' Y' G'; have B' := G'.B; have X' := G'.X; have T' := G'.T; k_cells Y'; (try simp only [List.cons_append, List.nil_append] at N'); (try dsimp only); (try k_fold))
  refine absQ fun QQ hQQ => ?_
  have hIL : s.heap.IsList l vs.toArray := ⟨_, hP, rfl, _, rfl⟩
  k_steps
  unfold Hold
  rename_i o1 d1
  k_dflt (refine enum_comp (l := l) (vs := vs) (ns := ns) (oc := o1) (bl := b) (tb := t) hi (by rw [sizeLine_eq]; omega) rfl (by with_unfolding_all rfl) (by decide) (by rfl) (by decide) (by rfl) (by rfl) (by decide) (fun _ => by rfl) (by rfl) (News.get N' (by k_mem)) d1 (by decide) (by decide) (by decide) ?_ ?_)
  · k_steps
    unfold Hold
    refine call_enumerate_1 (n := k) (F'.keep _ _ hP) ?_
    intro g hen hit hsz hkp
    have hl := ltN (Heap.lt_size (F'.keep _ _ hP))
    exact ⟨_, _, g, _, rfl, rfl, by refine neN ?_; (try dsimp only); omega, by refine neN ?_; (try dsimp only); omega, by refine neN ?_; (try dsimp only); omega, Nat.le_succ _, Nat.le_refl _, hen, hit, ⟨_, hkp _ _ (F'.keep _ _ hP), rfl, _, rfl⟩, hkp⟩
  · intro D h2 tk2 ys keep hD hget hys
    have F2 := F'.keptAll keep
    have N2 := news_at F' N' keep hD hget
    clear F' N'
    k_steps
    unfold Hold
    have hyl : ys.length ≤ 20 := by rw [hys.length]; exact Nat.le_trans (posNe_len _ _ _) hlen
    k_dflt (refine r_add (xs := ys) (by k_asm) (by k_asm) (by k_mem) (by k_mem) (by simp; omega) ?_)
    intro D3 h3 F3 N3 l3
    k_steps
    exact hQQ _ _ <| lv_ (by assumption) fun kF kN => hret _ _ _ ⟨_, rfl⟩ kF kN

end Mine
end

section
open PySem PySem.W PyProof.Rows PySem.Spec PySem.Calls
namespace Mine

def goneNo (lead size amount : Int) : Prop := lead = size ∧ ¬ (0 ≤ amount ∧ amount ≤ size)
def ahd (lead amount : Int) : Int := if amount < 0 then lead else min lead amount
def bhd (lead trail amount : Int) : Int := if amount < 0 then trail else min trail (amount - min lead amount)
def tup2 (x y : Int) (t u : Tok) : Obj := { cls := .type "tuple", data := .seq #[.int x t, .int y u] }
theorem news_in {h₀ g h' : Heap} {L L' : Addr} {m : Str → Option Value} {own news : List (Addr × Obj)} {D : Addr} {o : Obj} (F : Fr h₀ L g m) (N' : News g L' h' own) (kN : News h₀ L h' news) (hm : (D, o) ∈ own) : News h₀ L h' ((D, o) :: news) := by
  intro p hp
  rcases List.mem_cons.mp hp with rfl | hp
  · have h := N' _ hm
    obtain ⟨oL, _, _, hL, _⟩ := F.ns
    refine ⟨h.1, fun e => ?_, ?_⟩
    · have := h.2.2; rw [e, hL] at this; cases this
    · cases q : h₀.get? D with
      | none => rfl
      | some o' => have := F.keep _ _ q; rw [h.2.2] at this; cases this
  · exact kN p hp
/-- _law_gone's contract -/
def GivesT (lead trail size amount : Int) (vs : List Value) : Prop :=
  ∀ (w : World) (mean : ExcName → Option Value) (mg mb : Str → Option Value) (dp un : Nat) (gd : Option (List Code)) (cn : Str) (cs : Scope) (a : Addr) (ccd : Value) (cl : List (Str × Addr)) (outer : List Env) (A₀ : Around) (base h₀ : Heap) (L : Addr) (m : Str → Option Value) (news : List (Addr × Obj)) (s : Shared) (Q E : Value → Shared → Prop),
    Gd w mean mg mb A₀ base outer h₀ → Fr h₀ L s.heap m → News h₀ L s.heap news → cs.kind = .function → dp + 3 < recursionLimit → un + 100 < cLine →
    (goneNo lead size amount → ∀ h' tk', Fr h₀ L h' m → News h₀ L h' news → Q .none { s with heap := h', toks := tk' }) →
    (¬ goneNo lead size amount → ∀ D t u h' tk', Fr h₀ L h' m → News h₀ L h' ((D, tup2 (ahd lead amount) (bhd lead trail amount) t u) :: news) → Q (.ref D) { s with heap := h', toks := tk' }) →
    wpAny (model PySem.Challenge.rw_pa0023_01.row.prog w) (ktrTop dp un gd cn cs L a ccd cl outer) (call (.ref 133) vs) Q E s
theorem tup_eq {x y x' y' : Int} {t u : Tok} (h1 : x' = x) (h2 : y' = y) : ({ cls := .type "tuple", data := .seq #[.int x' t, .int y' u] } : Obj) = tup2 x y t u := by rw [h1, h2]; rfl
set_option maxRecDepth 100000 in
set_option maxHeartbeats 8000000 in
theorem c_gone (lead trail size amount : Int) (t1 t2 t3 t4 : Tok) : GivesT lead trail size amount [.int lead t1, .int trail t2, .int size t3, .int amount t4] := by
  have fill : ∀ (w : World) (h : Heap), PySem.Challenge.rw_pa0023_01 = PySem.Challenge.rw_pa0023_01 → (Mine.hd.heap_39 w.params).In h → True := by k_fill; intros; trivial
  clear fill
  w_on
  k_with_none
  intro w mean mg mb dp un gd cn cs a ccd cl outer A₀ base h₀ L m news s Q E G F N hk hd hu hnone htup
  k_dflt (refine' go0 ?G ?F ?N ?kA ?kF ?kK ?k6 ?k7 ?k8 ?k9 ?kB ?_ ?c2 ?c3 ?c4 ?c5; (case G => exact G); (case F => exact F); (case N => exact N); (case kA => exact rfl); (case kF => exact rfl); (case kK => exact hk); (case k6 => k_is); (case k7 => k_is); (case k8 => ktr_room); (case k9 => intro X9; first | exact BindsTo.of_eq rfl | exact binds_K X9 rfl (by k_is) rfl rfl rfl | exact kp_binds X9 (fun _ => by with_unfolding_all rfl)); (case kB => exact locs rfl); (case c2 => exact rfl); (case c3 => exact rfl); (case c4 => exact rfl); (case c5 => decide); k_whole; intro L' h' F' N' G'; have B' := G'.B; have X' := G'.X; have T' := G'.T; (try dsimp only); (try k_fold))
  refine absQ fun QQ hQQ => ?_
  k_steps
  all_goals first
    | exact hQQ _ _ <| lv_ (by assumption) fun kF kN => hnone (by unfold goneNo; omega) _ _ kF kN
    | (refine hQQ _ _ <| lv_ (by assumption) fun kF kN => ?_
       have q := news_in F (by assumption) kN (List.Mem.head _)
       rw [tup_eq (x := ahd lead amount) (y := bhd lead trail amount) (by unfold ahd; (repeat' split) <;> omega) (by unfold bhd; (repeat' split) <;> omega)] at q
       exact htup (by unfold goneNo; omega) _ _ _ _ _ kF q)
end Mine
end

section
open PySem PySem.W PyProof.Rows PySem.Spec PySem.Calls
namespace Mine
def ldN (cs : List Nat) : Int := ((cs.takeWhile (· == 32)).length : Int)
def lW (cs : List Nat) (n lpos am : Int) : Prop := 0 ≤ lpos ∧ lpos ≤ (cs.length : Int) ∧ (∀ j : Nat, (j : Int) < lpos → cs[j]? = some 32) ∧ am = n - lpos ∧ (0 ≤ n → lpos ≤ n)
def rW (cs : List Nat) (n lp rpos am : Int) : Prop := lp ≤ rpos ∧ rpos ≤ (cs.length : Int) - 1 ∧ (∀ j : Nat, rpos < (j : Int) → j < cs.length → cs[j]? = some 32) ∧ am = n - lp - ((cs.length : Int) - 1 - rpos) ∧ (0 ≤ n → 0 ≤ am)
theorem lW_start (cs : List Nat) (n : Int) : lW cs n 0 n := ⟨by decide, by omega, fun j h => by omega, by omega, id⟩
theorem lW_step {cs : List Nat} {n lp am : Int} (h : lW cs n lp am) (ha : am ≠ 0) (hc : cs[lp.toNat]? = some 32) : lW cs n (lp + 1) (am - 1) := by
  obtain ⟨h1, h2, h3, h4, h5⟩ := h
  have hl : lp.toNat < cs.length := (List.getElem?_eq_some_iff.mp hc).1
  refine ⟨by omega, by omega, fun j hj => ?_, by omega, fun h0 => by have := h5 h0; omega⟩
  by_cases e : (j : Int) < lp
  · exact h3 j e
  · have : j = lp.toNat := by omega
    rw [this]; exact hc
theorem take_all : ∀ (cs : List Nat) (k : Nat), k ≤ cs.length → (∀ j, j < k → cs[j]? = some 32) → k ≤ (cs.takeWhile (· == 32)).length
  | _, 0, _, _ => Nat.zero_le _
  | [], k + 1, h, _ => absurd h (by simp)
  | c :: cs, k + 1, h, hj => by
    have h0 := hj 0 (by omega)
    simp at h0
    subst h0
    have := take_all cs k (by simpa using h) fun j h' => by simpa using hj (j + 1) (by omega)
    simp [List.takeWhile_cons]; omega
theorem take_stop : ∀ (cs : List Nat) (k : Nat) (c : Nat), cs[k]? = some c → c ≠ 32 → (cs.takeWhile (· == 32)).length ≤ k
  | [], _, _, h, _ => by simp at h
  | d :: cs, 0, c, h, hc => by
    simp at h; subst h
    simp [List.takeWhile_cons, hc]
  | d :: cs, k + 1, c, h, hc => by
    have := take_stop cs k c (by simpa using h) hc
    simp only [List.takeWhile_cons]; split <;> simp <;> omega
theorem ld_ge {cs : List Nat} {k : Int} (h0 : 0 ≤ k) (hk : k ≤ (cs.length : Int)) (hj : ∀ j : Nat, (j : Int) < k → cs[j]? = some 32) : k ≤ ldN cs := by
  have := take_all cs k.toNat (by omega) fun j h => hj j (by omega)
  unfold ldN; omega
theorem ld_le {cs : List Nat} {k : Int} {c : Nat} (h0 : 0 ≤ k) (hc : cs[k.toNat]? = some c) (hne : c ≠ 32) : ldN cs ≤ k := by
  have := take_stop cs k.toNat c hc hne
  unfold ldN; omega
theorem ld_len (cs : List Nat) : ldN cs ≤ (cs.length : Int) := by
  unfold ldN; have := (List.takeWhile_prefix (p := (· == 32)) (l := cs)).length_le; omega
theorem rev_at {cs : List Nat} {j : Nat} (h : j < cs.length) : cs.reverse[cs.length - 1 - j]? = cs[j]? := by
  rw [List.getElem?_reverse (by omega)]
  congr 1; omega
theorem rW_start {cs : List Nat} {n lp am : Int} {c : Nat} (h : lW cs n lp am) (ha : am ≠ 0) (hc : cs[lp.toNat]? = some c) : rW cs n lp ((cs.length : Int) - 1) am := by
  obtain ⟨h1, h2, h3, h4, h5⟩ := h
  have hl : lp.toNat < cs.length := (List.getElem?_eq_some_iff.mp hc).1
  refine ⟨by omega, by omega, fun j h1 h2 => by omega, by omega, fun h0 => by have := h5 h0; omega⟩
theorem rW_step {cs : List Nat} {n lp rp am : Int} {c : Nat} (h : rW cs n lp rp am) (h0 : 0 ≤ lp) (ha : am ≠ 0) (hl : cs[lp.toNat]? = some c) (hne : c ≠ 32) (hc : cs[rp.toNat]? = some 32) : rW cs n lp (rp - 1) (am - 1) := by
  obtain ⟨h1, h2, h3, h4, h5⟩ := h
  have hlr : lp ≠ rp := fun e => by rw [e, hc] at hl; cases hl; exact hne rfl
  refine ⟨by omega, by omega, fun j hj hj2 => ?_, by omega, fun q => by have := h5 q; omega⟩
  by_cases e : rp < (j : Int)
  · exact h3 j e hj2
  · have : j = rp.toNat := by omega
    rw [this]; exact hc
/-- what is left behind the first loop where the amount is used up -/
theorem endA {cs : List Nat} {n lp : Int} (h : lW cs n lp 0) : ¬ goneNo (ldN cs) (cs.length : Int) n ∧ ahd (ldN cs) n = lp ∧ (cs.length : Int) - bhd (ldN cs) (ldN cs.reverse) n = (cs.length : Int) := by
  obtain ⟨h1, h2, h3, h4, h5⟩ := h
  have g := ld_ge h1 h2 h3
  have t0 : 0 ≤ ldN cs.reverse := Int.natCast_nonneg _
  unfold goneNo ahd bhd
  rw [if_neg (by omega), if_neg (by omega)]
  refine ⟨by omega, by omega, by omega⟩
theorem raiseA {cs : List Nat} {n lp am : Int} (h : lW cs n lp am) (ha : am ≠ 0) (hl : (cs.length : Int) ≤ lp) : goneNo (ldN cs) (cs.length : Int) n := by
  obtain ⟨h1, h2, h3, h4, h5⟩ := h
  have g := ld_ge h1 h2 h3
  have g2 := ld_len cs
  refine ⟨by omega, ?_⟩
  rintro ⟨a1, a2⟩
  have := h5 a1
  omega
theorem lead_is {cs : List Nat} {n lp am : Int} {c : Nat} (h : lW cs n lp am) (hc : cs[lp.toNat]? = some c) (hne : c ≠ 32) : ldN cs = lp := by
  obtain ⟨h1, h2, h3, h4, h5⟩ := h
  have g := ld_ge h1 h2 h3
  have g2 := ld_le h1 hc hne
  omega
theorem trail_ge {cs : List Nat} {n lp rp am : Int} (h : rW cs n lp rp am) (h0 : 0 ≤ lp) : (cs.length : Int) - 1 - rp ≤ ldN cs.reverse := by
  obtain ⟨h1, h2, h3, h4, h5⟩ := h
  refine ld_ge (by omega) (by simp; omega) fun j hj => ?_
  have hj2 : j < cs.length := by omega
  have e := rev_at (cs := cs) (j := cs.length - 1 - j) (by omega)
  have e2 : cs.length - 1 - (cs.length - 1 - j) = j := by omega
  rw [e2] at e
  rw [e]
  exact h3 _ (by omega) (by omega)
theorem trail_le {cs : List Nat} {rp : Int} {c : Nat} (h0 : 0 ≤ rp) (hc : cs[rp.toNat]? = some c) (hne : c ≠ 32) : ldN cs.reverse ≤ (cs.length : Int) - 1 - rp := by
  have hl : rp.toNat < cs.length := (List.getElem?_eq_some_iff.mp hc).1
  have e := rev_at (cs := cs) (j := rp.toNat) hl
  have := ld_le (cs := cs.reverse) (k := (cs.length : Int) - 1 - rp) (c := c) (by omega) (by
    have e2 : ((cs.length : Int) - 1 - rp).toNat = cs.length - 1 - rp.toNat := by omega
    rw [e2, e, hc]) hne
  exact this
theorem endB {cs : List Nat} {n lp rp am am' : Int} {c : Nat} (h : lW cs n lp am) (hc : cs[lp.toNat]? = some c) (hne : c ≠ 32) (hr : rW cs n lp rp am') (he : am' = 0 ∨ ∃ d, cs[rp.toNat]? = some d ∧ d ≠ 32) :
    ¬ goneNo (ldN cs) (cs.length : Int) n ∧ ahd (ldN cs) n = lp ∧ (cs.length : Int) - bhd (ldN cs) (ldN cs.reverse) n = rp + 1 := by
  have hl : lp.toNat < cs.length := (List.getElem?_eq_some_iff.mp hc).1
  have e1 := lead_is h hc hne
  obtain ⟨h1, h2, h3, h4, h5⟩ := h
  have g := trail_ge hr h1
  obtain ⟨r1, r2, r3, r4, r5⟩ := id hr
  rw [e1]
  unfold goneNo ahd bhd
  rcases he with he | ⟨d, hd, hdn⟩
  · have : 0 ≤ n := by omega
    rw [if_neg (by omega), if_neg (by omega)]
    refine ⟨by omega, by omega, by omega⟩
  · have g2 := trail_le (by omega) hd hdn
    by_cases hn : n < 0
    · rw [if_pos hn, if_pos hn]; refine ⟨by omega, rfl, by omega⟩
    · have := r5 (by omega)
      have := h5 (by omega)
      rw [if_neg hn, if_neg hn]; refine ⟨by omega, by omega, by omega⟩
theorem fits_small {i : Int} (h0 : -100 ≤ i) (h1 : i ≤ 100) : fitsSsize i = true := by
  unfold fitsSsize
  have e1 : decide (i < -(2 ^ 63 : Int)) = false := decide_eq_false (by omega)
  have e2 : decide (i ≥ 2 ^ 63) = false := decide_eq_false (by omega)
  rw [e1, e2]; rfl
theorem item_blank {x : Str} {i : Int} (h0 : 0 ≤ i) (h1 : i < (x.length : Int)) : ∃ c, x.cps.toList[i.toNat]? = some c ∧ (Txt.item x i == Str.ofString " ") = (c == 32) := by
  have hl : i.toNat < x.cps.size := by have : x.length = x.cps.size := rfl; omega
  refine ⟨x.cps[i.toNat], by simp [hl], ?_⟩
  rw [item_meets h0 (n := x.cps[i.toNat]) (by simp [hl])]
  have e : Str.ofString " " = ⟨#[32]⟩ := by decide +kernel
  rw [e]
  rw [Bool.eq_iff_iff]
  simp
end Mine
end

section
open PySem PySem.W PyProof.Rows PySem.Spec PySem.Calls
namespace Mine

theorem blank_yes {x : Str} {i : Int} (h0 : 0 ≤ i) (h1 : i < (x.length : Int)) (h : (Txt.item x i == Str.ofString " ") = true) : x.cps.toList[i.toNat]? = some 32 := by
  obtain ⟨c, hc, hb⟩ := item_blank h0 h1
  rw [hb] at h
  rw [hc, beq_iff_eq.mp h]
theorem blank_no {x : Str} {i : Int} (h0 : 0 ≤ i) (h1 : i < (x.length : Int)) (h : (Txt.item x i == Str.ofString " ") = false) : ∃ c, x.cps.toList[i.toNat]? = some c ∧ c ≠ 32 := by
  obtain ⟨c, hc, hb⟩ := item_blank h0 h1
  rw [hb] at h
  exact ⟨c, hc, by simpa using h⟩

local macro_rules | `(tactic| walk_at $s:str) => `(tactic| k_extra $s)
set_option maxRecDepth 100000 in
set_option maxHeartbeats 8000000 in
theorem c_strip (x : Str) (hlen : x.cps.size ≤ 40) (t : Tok) (n : Int) (t2 : Tok) : GivesN 28 [.str x t, .int n t2] [] 6 200 (fun v => ¬ goneNo (ldN x.cps.toList) (x.cps.toList.length : Int) n ∧ ∃ t, v = .str (Txt.slice x (some (ahd (ldN x.cps.toList) n)) (some ((x.cps.toList.length : Int) - bhd (ldN x.cps.toList) (ldN x.cps.toList.reverse) n))) t) (goneNo (ldN x.cps.toList) (x.cps.toList.length : Int) n) "IndexError" := by
  have fill : ∀ (w : World) (h : Heap), PySem.Challenge.rw_pa0023_01 = PySem.Challenge.rw_pa0023_01 → (Mine.hd.heap_39 w.params).In h → True := by k_fill; intros; trivial
  clear fill
  w_on
  k_with_none
  (k_with "exec While BoolOp cons nil" => (k_here; refine hold ?_))
  (k_with "subscriptTail" => (k_here; (with_reducible show wpAny _ _ (subscriptTail _ _ (Value.str _ _) (Value.int _ _)) _ _ _); k_dflt (refine item_str_or rfl (fits_small (by omega) (by omega)) ?_ ?_); (focus (intro _ _ _ _ _)); (intro _ _)))
  (k_with "call builtin:len" => (k_here; (with_reducible show wpAny _ _ (call (Value.builtin "len") [Value.str _ _]) _ _ _); refine len_str (by omega) ?_))
  intro w mean mg mb dp un gd cn cs a ccd cl outer A₀ base h₀ L m news s Q E G F N hk hd hu hret hrse
  k_dflt (refine' go0 ?G ?F ?N ?kA ?kF ?kK ?k6 ?k7 ?k8 ?k9 ?kB ?_ ?c2 ?c3 ?c4 ?c5; (case G => exact G); (case F => exact F); (case N => exact N); (case kA => exact rfl); (case kF => exact rfl); (case kK => exact hk); (case k6 => k_is); (case k7 => k_is); (case k8 => ktr_room); (case k9 => intro X9; first | exact BindsTo.of_eq rfl | exact binds_K X9 rfl (by k_is) rfl rfl rfl | exact kp_binds X9 (fun _ => by with_unfolding_all rfl)); (case kB => exact locs rfl); (case c2 => exact rfl); (case c3 => exact rfl); (case c4 => exact rfl); (case c5 => decide); k_whole; intro L' h' F' N' G'; have B' := G'.B; have X' := G'.X; have T' := G'.T; have D' := G'.D; (try dsimp only); (try k_fold))
  refine absQ1 fun QQ hQQ => ?_
  have hxl : x.length = x.cps.toList.length := by simp [Str.length]
  have hl40 : x.cps.toList.length ≤ 40 := by simpa using hlen
  k_steps
  unfold Hold
  (k_with "state" => exact lW_start _ _)
  first | k_while (fun _ lpos amount => lW x.cps.toList n lpos amount) (fun _ lpos amount => (x.cps.toList.length - lpos.toNat)) "lpos" "amount" | fail "k_while fell"
  rename_i lp tl am ta
  have i1 := kInv.1
  have i2 := kInv.2.1
  k_steps
  · exact hrse (raiseA kInv (by assumption) (by omega)) _ _ _ (RaisedSN.bare (by assumption)) (by assumption)
  · have hb : x.cps.toList[lp.toNat]? = some 32 := blank_yes i1 (by assumption) (by assumption)
    (k_with "state" => exact lW_step kInv (by assumption) (by assumption))
    (k_with "measure" => omega)
    ksw_close
  · obtain ⟨c, hc, hne⟩ := blank_no i1 (by assumption) (by assumption)
    unfold Hold
    have kI1 := kInv
    (k_with "state" => (rw [hxl]; exact rW_start kInv (by assumption) hc))
    first | k_while (fun _ rpos amount => rW x.cps.toList n lp rpos amount) (fun _ rpos amount => (rpos - lp).toNat) "rpos" "amount" | fail "k_while fell"
    rename_i rp tr am2 ta2
    have j1 := kInv.1
    have j2 := kInv.2.1
    k_steps
    · have hb : x.cps.toList[rp.toNat]? = some 32 := blank_yes (by omega) (by omega) (by assumption)
      have hs := rW_step kInv i1 (by assumption) hc hne hb
      have hs1 := hs.1
      (k_with "state" => exact hs)
      (k_with "measure" => omega)
      ksw_close
    · obtain ⟨e1, e2, e3⟩ := endB kI1 hc hne kInv (.inr (blank_no (by omega) (by omega) (by assumption)))
      exact hQQ _ _ <| lv_ (by assumption) fun kF kN => hret _ _ _ ⟨e1, _, by rw [e2, e3]⟩ kF kN
    · obtain ⟨e1, e2, e3⟩ := endB kI1 hc hne kInv (.inl (by assumption))
      exact hQQ _ _ <| lv_ (by assumption) fun kF kN => hret _ _ _ ⟨e1, _, by rw [e2, e3]⟩ kF kN
  · unfold Hold
    have kI1 := kInv
    have ham : am = 0 := by assumption
    rw [ham] at kI1
    (k_with "state" => (rw [hxl]; exact ⟨rfl, by assumption⟩))
    first | k_while (fun _ rpos amount => rpos = (x.cps.toList.length : Int) - 1 ∧ amount = 0) (fun _ rpos amount => 0) "rpos" "amount" | fail "k_while fell"
    rename_i rp tr am2 ta2 kP kA
    k_steps
    obtain ⟨e1, e2, e3⟩ := endA kI1
    have e4 : rp + 1 = (x.cps.toList.length : Int) := by omega
    exact hQQ _ _ <| lv_ (by assumption) fun kF kN => hret _ _ _ ⟨e1, _, by rw [e2, e3, e4]⟩ kF kN
end Mine
end

section
open PySem PySem.W PyProof.Rows PySem.Spec PySem.Calls
namespace Mine
local macro_rules | `(tactic| walk_at $s:str) => `(tactic| k_extra $s)
set_option maxRecDepth 100000 in
set_option maxHeartbeats 8000000 in
theorem c_left (x : Str) (hlen : x.cps.size ≤ 40) (t : Tok) (n : Int) (t2 : Tok) : GivesS 140 [.str x t, .int n t2] [] 8 220 (fun v => (goneNo (ldN x.cps.toList) (x.cps.toList.length : Int) n ∧ v = .none) ∨ (¬ goneNo (ldN x.cps.toList) (x.cps.toList.length : Int) n ∧ ∃ t, v = .str (Txt.slice x (some (ahd (ldN x.cps.toList) n)) (some ((x.cps.toList.length : Int) - bhd (ldN x.cps.toList) (ldN x.cps.toList.reverse) n))) t)) := by
  have fill : ∀ (w : World) (h : Heap), PySem.Challenge.rw_pa0023_01 = PySem.Challenge.rw_pa0023_01 → (Mine.hd.heap_39 w.params).In h → True := by k_fill; intros; trivial
  clear fill
  w_on
  k_with_none
  (k_with "call ref" => (k_here; k_dflt (refine' GivesN.use (c_strip _ (by assumption) _ _ _) (by k_asm) (by k_asm) (by k_asm) (by exact rfl) (by ktr_room) (by ktr_units) ?r1 ?r2); (case' r1 => (intro v9 h9 tk9 hv9 F9 N9; obtain ⟨hne9, t9, hv9⟩ := hv9; subst hv9; (try dsimp only); (try k_fold))); (case' r2 => (intro hX9 e9 h9 tk9 S9 U9; (try dsimp only)))))
  (k_with "noteFrame ref" => (k_here; k_dflt (refine' caught_SN0 (T' := "IndexError") (by assumption) (by assumption) (by exact Gd.B (by assumption)) (by assumption) (by exact Gd.XB (by assumption)) (by exact Gd.TB (by assumption)) (by exact Gd.D (by assumption)) (by exact KtsTurn.refl) (by k_is) PyProof.Rows.Boot.«IndexError» (by decide) PySem.F.isExc_IndexError PySem.F.notTuple_IndexError (by kts_sub) ?_); intro h' g' T' F' N' K' X' P' D'; (try dsimp only); (try k_fold)))
  intro w mean mg mb dp un gd cn cs a ccd cl outer A₀ base h₀ L m news s Q E G F N hk hd hu hret
  k_dflt (refine' goS ?G ?F ?N ?kA ?kF ?kK ?k6 ?k7 ?k8 ?k9 ?kB ?_ ?c2 ?c3 ?c4 ?c5; (case G => exact G); (case F => exact F); (case N => exact N); (case kA => exact rfl); (case kF => exact rfl); (case kK => exact hk); (case k6 => k_is); (case k7 => k_is); (case k8 => ktr_room); (case k9 => intro X9; first | exact BindsTo.of_eq rfl | exact binds_K X9 rfl (by k_is) rfl rfl rfl | exact kp_binds X9 (fun _ => by with_unfolding_all rfl)); (case kB => exact locs rfl); (case c2 => exact rfl); (case c3 => exact rfl); (case c4 => exact rfl); (case c5 => decide); k_whole; intro L' h' F' N' G'; have B' := G'.B; have X' := G'.X; have T' := G'.T; (try dsimp only); (try k_fold))
  k_steps
  · exact ⟨_, _, _, by assumption, by assumption, fun h₁ a b c d => hret _ _ _ _ (.inl ⟨by assumption, rfl⟩) a b c d⟩
  · exact ⟨_, _, _, KtsTurn.refl, by assumption, fun h₁ a b c d => hret _ _ _ _ (.inr ⟨by assumption, _, rfl⟩) a b c d⟩

end Mine
end

section
open PySem PySem.W PyProof.Rows PySem.Spec PySem.Calls
namespace Mine
local macro_rules | `(tactic| walk_at $s:str) => `(tactic| k_extra $s)
set_option maxRecDepth 100000 in
set_option maxHeartbeats 8000000 in
theorem c_read (x : Str) (ha : ∀ c ∈ x.cps.toList, c < 128) (hlen : x.cps.size ≤ 40) (t t2 : Tok) (p q : UInt8) (hpad : 2 ≤ (aSt (dIn p q x)).2.2.2) : GivesS 147 [.str x t, .bytes #[p, q] t2] [] 10 420 (fun v => ((aSt (dIn p q x)).2.1 = 1 ∧ v = .none) ∨ ((aSt (dIn p q x)).2.1 ≠ 1 ∧ ∃ t, v = .bytes (byteArr (aSt (dIn p q x)).1) t)) := by
  have fill : ∀ (w : World) (h : Heap), PySem.Challenge.rw_pa0023_01 = PySem.Challenge.rw_pa0023_01 → (Mine.hd.heap_39 w.params).In h → True := by k_fill; intros; trivial
  clear fill
  w_on
  k_with_none
  (k_with "call ref" => (k_here; k_dflt (refine' GivesR.use (c_dec _ (by assumption) (by assumption) _ _ _ _ (by assumption)) (by k_asm) (by k_asm) (by k_asm) (by exact rfl) (by ktr_room) (by ktr_units) ?r1 ?r2); (case' r1 => (intro v9 h9 tk9 hv9 F9 N9; obtain ⟨hne9, t9, hv9⟩ := hv9; subst hv9; (try dsimp only); (try k_fold))); (case' r2 => (intro hX9 e9 t9 xs9 h9 tk9 S9 U9; (try dsimp only)))))
  (k_with "noteFrame ref" => (k_here; k_dflt (refine' caught_ST0 (T' := "ValueError") (by assumption) (by assumption) (by exact Gd.B (by assumption)) (by assumption) (by exact Gd.XB (by assumption)) (by exact Gd.TB (by assumption)) (by exact Gd.D (by assumption)) (by exact KtsTurn.refl) (by kts_isx) (by k_is) PyProof.Rows.Boot.«ValueError» (by decide) PySem.F.isExc_ValueError PySem.F.notTuple_ValueError ?_); intro h' g' n₂ T' F' N₂ G' N' K' X' P' D'; (try dsimp only); (try k_fold)))
  intro w mean mg mb dp un gd cn cs a ccd cl outer A₀ base h₀ L m news s Q E G F N hk hd hu hret
  k_dflt (refine' goS ?G ?F ?N ?kA ?kF ?kK ?k6 ?k7 ?k8 ?k9 ?kB ?_ ?c2 ?c3 ?c4 ?c5; (case G => exact G); (case F => exact F); (case N => exact N); (case kA => exact rfl); (case kF => exact rfl); (case kK => exact hk); (case k6 => k_is); (case k7 => k_is); (case k8 => ktr_room); (case k9 => intro X9; first | exact BindsTo.of_eq rfl | exact binds_K X9 rfl (by k_is) rfl rfl rfl | exact kp_binds X9 (fun _ => by with_unfolding_all rfl)); (case kB => exact locs rfl); (case c2 => exact rfl); (case c3 => exact rfl); (case c4 => exact rfl); (case c5 => decide); k_whole; intro L' h' F' N' G'; have B' := G'.B; have X' := G'.X; have T' := G'.T; (try dsimp only); (try k_fold))
  k_steps
  · exact ⟨_, _, _, by assumption, by assumption, fun h₁ a b c d => hret _ _ _ _ (.inl ⟨by assumption, rfl⟩) a b c d⟩
  · exact ⟨_, _, _, KtsTurn.refl, by assumption, fun h₁ a b c d => hret _ _ _ _ (.inr ⟨by assumption, _, rfl⟩) a b c d⟩

end Mine
end

section
open PySem PySem.W PyProof.Rows PySem.Spec PySem.Calls
namespace Mine
/-- the iterator of a range, at x, with n turns to go -/
abbrev rgIt (x n : Int) : Obj := { cls := .type "range_iterator", data := .fields #[rawInt x, rawInt n, rawInt 1] }
def mU (names : List Str) (kU m0 : Str → Option Value) (z : Str) : Option Value := if names.contains z = true then kU z else m0 z
theorem mU_of {names : List Str} {m m0 : Str → Option Value} (h : ∀ z, names.contains z = false → m z = m0 z) : m = mU names m m0 := by
  funext z
  unfold mU
  by_cases c : names.contains z = true
  · rw [if_pos c]
  · rw [if_neg c]; exact h z (by simpa using c)
/-- what stands at each turn of a loop in which exceptions may be caught -/
def TurnAt (fs : List Addr) (g₀ : Heap) (PG : Heap → Prop) (L : Addr) (names : List Str) (m0 : Str → Option Value) (news : List (Addr × Obj)) (s s' : Shared) : Prop :=
  ∃ g kU h tk, s' = { s with heap := h, toks := tk } ∧ KtsTurn fs g₀ g ∧ PG g ∧ Fr g L h (mU names kU m0) ∧ News g L h news
def TurnFlow (Q : Flow → Shared → Prop) (P : Shared → Prop) : Flow → Shared → Prop
  | .next, s => P s
  | .cont, s => P s
  | .brk, s => Q .next s
  | .ret v, s => Q (.ret v) s
section
variable {prog : Program} {w : World} {A : Around} {E : Value → Shared → Prop} {s s₀ : Shared} {env : Env} {fs : List Addr} {g₀ : Heap} {PG : Heap → Prop} {L : Addr} {news0 : List (Addr × Obj)}
theorem for_turn {v : Str} {px pos : Pos} {iter : Expr} {body : List Stmt} {Q : Flow → Shared → Prop} (names : List Str) (m0 : Str → Option Value) (a : Int) (n : Nat) (hh : A.handled = none)
    (h : wpAny (model prog w) A (eval iter env) (fun xv s₁ => wpAny (model prog w) A (pyIter xv) (fun it s₂ => ∃ I, it = .ref I ∧ (∀ p ∈ news0, p.1 ≠ I) ∧ TurnAt fs g₀ PG L names m0 ((I, rgIt a n) :: news0) s₀ s₂) E s₁) E s)
    (step : ∀ I (i : Nat) g kU h tk tk' QS, (∀ fl s', TurnFlow Q (TurnAt fs g₀ PG L names m0 ((I, rgIt (a + (i : Int) + 1) ((n : Int) - (i : Int) - 1)) :: news0) s₀) fl s' → QS fl s') → i < n → KtsTurn fs g₀ g → PG g → Fr g L h (mU names kU m0) → News g L h ((I, rgIt (a + (i : Int) + 1) ((n : Int) - (i : Int) - 1)) :: news0) →
      wpAny (model prog w) A (storeName env v (.int (a + (i : Int)) tk')) (fun _ s₂ => wpAny (model prog w) A (execs body env) QS E s₂) E { s₀ with heap := h, toks := tk })
    (done : ∀ g kU h tk, KtsTurn fs g₀ g → PG g → Fr g L h (mU names kU m0) → News g L h news0 → Q .next { s₀ with heap := h, toks := tk })
    (hs : ∀ x, foldedSetIterable iter env x = pure x := by intro _; rfl) (hE : PassesOwn (model prog w) A env E := by passes_own) :
    wpAny (model prog w) A (exec (.For (.Name v px) iter body [] pos) env) Q E s := by
  refine wpAny_For (wpAny_mono h (fun xv s₁ h₁ => wpAny_mono h₁ (fun it s₂ h₂ => ?_) fun _ _ z => z) fun _ _ z => z) hs
  obtain ⟨I, rfl, hI, h₂⟩ := h₂
  refine codeAny_forLoop (R := fun r s' => match r with | .ok f => Q f s' | .error e => cameBackBy (model prog w) A env E e s')
    (fun k s' => ∃ i : Nat, i ≤ n ∧ k = n - i ∧ TurnAt fs g₀ PG L names m0 ((I, rgIt (a + (i : Int)) ((n : Int) - (i : Int))) :: news0) s₀ s') ?_ n
    ⟨0, Nat.zero_le _, rfl, by simpa using h₂⟩
  rintro k s' ⟨i, hi, rfl, g, kU, h', tk, rfl, T, hP, F, N⟩
  have NI := N _ (.head _)
  have N0 : News g L h' news0 := fun p hp => N p (.tail _ hp)
  by_cases hlt : i < n
  · refine wpAny_pyNext_range_item (x := a + (i : Int)) (left := (n : Int) - (i : Int)) (step := 1) NI.1 (by omega) fun h₁ hit hsb => ?_
    have F₁ := F.change hsb NI.2.1 NI.2.2
    have N₁ : News g L h₁ ((I, rgIt (a + (i : Int) + 1) ((n : Int) - (i : Int) - 1)) :: news0) := by
      intro p hp
      rcases List.mem_cons.mp hp with rfl | hp
      · exact ⟨hit, NI.2⟩
      · exact ⟨hsb.extBut _ _ (hI p hp) (N0 p hp).1, (N0 p hp).2⟩
    refine wpAny_passesOwn hE (wpAny_assign_Name (wpAny_mono (step I i g kU h₁ _ _ _ (fun _ _ x => x) hlt T hP F₁ N₁) (fun _ s₂ h₂ => ?_) fun _ _ z => z))
    refine wpAny_passesOwn hE (wpAny_mono h₂ (fun f s₃ h₃ => ?_) fun _ _ z => z)
    have e1 : a + ((i + 1 : Nat) : Int) = a + (i : Int) + 1 := by omega
    have e2 : (n : Int) - ((i + 1 : Nat) : Int) = (n : Int) - (i : Int) - 1 := by omega
    cases f with
    | next => exact ⟨n - (i + 1), by omega, i + 1, hlt, rfl, by rw [e1, e2]; exact h₃⟩
    | cont => exact ⟨n - (i + 1), by omega, i + 1, hlt, rfl, by rw [e1, e2]; exact h₃⟩
    | brk => exact h₃
    | ret _ => exact h₃
  · refine wpAny_pyNext_range_end (x := a + (i : Int)) (left := (n : Int) - (i : Int)) (step := 1) hh NI.1 (by omega) fun h₁ he => ?_
    refine wpAny_execs_nil (done g kU h₁ _ T hP ⟨F.ns.at' fun o e => he _ o (fun z => NI.2.1 z.symm) e, fun b o e => he b o (fun z => by rw [z, NI.2.2] at e; cases e) (F.keep b o e), F.above⟩ fun p hp => ⟨he _ _ (hI p hp) (N0 p hp).1, (N0 p hp).2⟩)
theorem for_turnF {v : Str} {px pos : Pos} {iter : Expr} {body : List Stmt} {Q : Flow → Shared → Prop} {m0 : Str → Option Value} (names : List Str) (a : Int) (n : Nat) (_F : Fr g₀ L s.heap m0) (_N : News g₀ L s.heap news0) (hh : A.handled = none)
    (h : wpAny (model prog w) A (eval iter env) (fun xv s₁ => wpAny (model prog w) A (pyIter xv) (fun it s₂ => ∃ I, it = .ref I ∧ (∀ p ∈ news0, p.1 ≠ I) ∧ TurnAt fs g₀ PG L names m0 ((I, rgIt a n) :: news0) s₀ s₂) E s₁) E s)
    (step : ∀ I (i : Nat) g kU h tk tk' QS, (∀ fl s', TurnFlow Q (TurnAt fs g₀ PG L names m0 ((I, rgIt (a + (i : Int) + 1) ((n : Int) - (i : Int) - 1)) :: news0) s₀) fl s' → QS fl s') → i < n → KtsTurn fs g₀ g → PG g → Fr g L h (mU names kU m0) → News g L h ((I, rgIt (a + (i : Int) + 1) ((n : Int) - (i : Int) - 1)) :: news0) →
      wpAny (model prog w) A (storeName env v (.int (a + (i : Int)) tk')) (fun _ s₂ => wpAny (model prog w) A (execs body env) QS E s₂) E { s₀ with heap := h, toks := tk })
    (done : ∀ g kU h tk, KtsTurn fs g₀ g → PG g → Fr g L h (mU names kU m0) → News g L h news0 → Q .next { s₀ with heap := h, toks := tk })
    (hs : ∀ x, foldedSetIterable iter env x = pure x := by intro _; rfl) (hE : PassesOwn (model prog w) A env E := by passes_own) :
    wpAny (model prog w) A (exec (.For (.Name v px) iter body [] pos) env) Q E s := for_turn names m0 a n hh h step done hs hE
theorem rangeSize_up (a b : Int) : Builtin.Range.rangeSize a b 1 = ((b - a).toNat : Int) := by
  unfold Builtin.Range.rangeSize
  (repeat' split) <;> simp_all <;> omega
theorem small_up {a b : Int} (ha : -1000 ≤ a) (ha' : a ≤ 1000) (hb : -1000 ≤ b) (hb' : b ≤ 1000) : Builtin.Range.small a b 1 = true := by
  unfold Builtin.Range.small
  rw [rangeSize_up]
  simp only [Builtin.Range.rangeFitsLong, Bool.and_eq_true, Bool.or_eq_true, decide_eq_true_eq, beq_iff_eq, show ((1 : Int) > 0) by decide, if_true]
  omega
theorem iter_turn {r : Addr} {a b : Int} {t u v : Tok} {names : List Str} {m m0 : Str → Option Value} {g : Heap} {n : Nat} (F : Fr g L s.heap m) (N : News g L s.heap news0) (hr : IsRange s.heap r a b 1 t u v) (ha : -1000 ≤ a) (ha' : a ≤ 1000) (hb : -1000 ≤ b) (hb' : b ≤ 1000) (hn : n = (b - a).toNat)
    (T : KtsTurn fs g₀ g) (hP : PG g) (hm : m = m0) (hs : s = { s₀ with heap := s.heap, toks := s.toks }) :
    wpAny (model prog w) A (pyIter (.ref r)) (fun it s₂ => ∃ I, it = .ref I ∧ (∀ p ∈ news0, p.1 ≠ I) ∧ TurnAt fs g₀ PG L names m0 ((I, rgIt a n) :: news0) s₀ s₂) E s := by
  refine wpAny_pyIter_range hr (small_up ha ha' hb hb') ⟨_, rfl, fun p hp => Nat.ne_of_lt (Heap.lt_size (N p hp).1), g, m, s.heap.push (rgIt a n), s.toks, ?_, T, hP, ?_, ?_⟩
  · rw [rangeSize_up, ← hn]
    conv => lhs; rw [hs]
  · rw [← hm, ← mU_of (fun _ _ => rfl)]
    exact F.push _
  · exact N.push F _
end
end Mine
end

section
open PySem PySem.W PyProof.Rows PySem.Spec PySem.Calls
namespace Mine
/-- the number that a list of figures of base b writes -/
def vB (b : Int) (l : List Int) : Int := l.foldl (fun a f => a * b + f) 0
def DigB (b : Int) (l : List Int) : Prop := ∀ d ∈ l, 0 ≤ d ∧ d < b
theorem vB_from (b : Int) : ∀ (l : List Int) (a : Int), l.foldl (fun a f => a * b + f) a = a * b ^ l.length + vB b l
  | [], a => by simp [vB]
  | d :: l, a => by
    have h1 := vB_from b l (a * b + d)
    have h2 := vB_from b l (0 * b + d)
    unfold vB at *
    rw [List.foldl_cons, h1, List.foldl_cons, h2, List.length_cons, Int.pow_succ]
    simp only [Int.add_mul, Int.zero_mul, Int.zero_add]
    have : a * b * b ^ l.length = a * (b ^ l.length * b) := by rw [Int.mul_assoc, Int.mul_comm b]
    omega
theorem vB_append (b : Int) (xs ys : List Int) : vB b (xs ++ ys) = vB b xs * b ^ ys.length + vB b ys := by
  conv => lhs; unfold vB
  rw [List.foldl_append, vB_from]
  rfl
theorem vB_snoc (b : Int) (xs : List Int) (d : Int) : vB b (xs ++ [d]) = vB b xs * b + d := by
  rw [vB_append]; simp [vB, Int.pow_succ]
theorem DigB.left {b : Int} {xs ys : List Int} (h : DigB b (xs ++ ys)) : DigB b xs := fun d hd => h d (List.mem_append.mpr (.inl hd))
theorem DigB.right {b : Int} {xs ys : List Int} (h : DigB b (xs ++ ys)) : DigB b ys := fun d hd => h d (List.mem_append.mpr (.inr hd))
theorem snoc_ind {α : Type} {P : List α → Prop} (h0 : P []) (h1 : ∀ l a, P l → P (l ++ [a])) (l : List α) : P l := by
  have : ∀ r : List α, P r.reverse := by
    intro r
    induction r with
    | nil => exact h0
    | cons a r ih => rw [List.reverse_cons]; exact h1 _ _ ih
  have h := this l.reverse
  rwa [List.reverse_reverse] at h
theorem vB_range {b : Int} (hb : 0 < b) (l : List Int) : DigB b l → 0 ≤ vB b l ∧ vB b l < b ^ l.length := by
  induction l using snoc_ind with
  | h0 => intro _; simp [vB]
  | h1 l d ih =>
    intro h
    obtain ⟨h1, h2⟩ := ih h.left
    obtain ⟨h3, h4⟩ := h d (by simp)
    rw [vB_snoc, List.length_append, List.length_singleton, Int.pow_succ]
    have e1 : 0 ≤ vB b l * b := Int.mul_nonneg h1 (by omega)
    have e2 : (vB b l + 1) * b ≤ b ^ l.length * b := Int.mul_le_mul_of_nonneg_right (by omega) (by omega)
    rw [Int.add_mul] at e2
    omega
theorem vB_mod {b : Int} (hb : 0 < b) {xs ys : List Int} (h : DigB b ys) : vB b (xs ++ ys) % b ^ ys.length = vB b ys := by
  obtain ⟨h1, h2⟩ := vB_range hb ys h
  rw [vB_append, Int.add_comm, Int.mul_comm, Int.add_mul_emod_self_left, Int.emod_eq_of_lt h1 h2]
theorem vB_div {b : Int} (hb : 0 < b) {xs ys : List Int} (h : DigB b ys) : vB b (xs ++ ys) / b ^ ys.length = vB b xs := by
  obtain ⟨h1, h2⟩ := vB_range hb ys h
  have hp : 0 < b ^ ys.length := Int.pow_pos hb
  rw [vB_append, Int.add_comm, Int.add_mul_ediv_right _ _ (by omega), Int.ediv_eq_zero_of_lt h1 h2]; omega
theorem rangeKs_zero_succ (n : Nat) : rangeKs 0 (n + 1) = 0 :: (rangeKs 0 n).map (· + 1) := by
  unfold rangeKs
  rw [List.range_succ_eq_map]
  simp [Function.comp_def]
/-- the figures of a number -/
def figsB (b v : Int) (n : Nat) : List Int := ((rangeKs 0 n).map fun k => (v.fdiv (b ^ k.toNat)).fmod b).reverse
theorem figsB_succ {b : Int} (hb : 0 < b) (v : Int) (n : Nat) : figsB b v (n + 1) = figsB b (v / b) n ++ [v % b] := by
  unfold figsB
  rw [rangeKs_zero_succ, List.map_cons, List.reverse_cons, List.map_map]
  congr 1
  · congr 1
    apply List.map_congr_left
    intro k hk
    obtain ⟨k0, _⟩ := mem_rangeKs hk
    have e : (k + 1).toNat = k.toNat + 1 := by omega
    have hp : 0 < b ^ k.toNat := Int.pow_pos hb
    simp only [Function.comp, e]
    rw [Int.fdiv_eq_ediv_of_nonneg _ (Int.le_of_lt hp), Int.fdiv_eq_ediv_of_nonneg _ (Int.le_of_lt (Int.pow_pos hb)), Int.pow_succ, Int.mul_comm, Int.ediv_ediv_of_nonneg (Int.le_of_lt hb)]
  · have e0 : v.fdiv (b ^ (0 : Int).toNat) = v := by simp
    rw [e0, Int.fmod_eq_emod_of_nonneg _ (Int.le_of_lt hb)]
theorem figsB_of {b : Int} (hb : 0 < b) (l : List Int) : DigB b l → figsB b (vB b l) l.length = l := by
  induction l using snoc_ind with
  | h0 => intro _; rfl
  | h1 l d ih =>
    intro h
    obtain ⟨h3, h4⟩ := h d (by simp)
    rw [List.length_append, List.length_singleton, figsB_succ hb, vB_snoc]
    have e1 : (vB b l * b + d) / b = vB b l := by rw [Int.add_comm, Int.add_mul_ediv_right _ _ (by omega), Int.ediv_eq_zero_of_lt h3 h4]; omega
    have e2 : (vB b l * b + d) % b = d := by rw [Int.add_comm, Int.add_mul_emod_self_right, Int.emod_eq_of_lt h3 h4]
    rw [e1, e2, ih h.left]
theorem figsB_dig {b : Int} (hb : 0 < b) (v : Int) (n : Nat) : DigB b (figsB b v n) := by
  intro d hd
  unfold figsB at hd
  rw [List.mem_reverse, List.mem_map] at hd
  obtain ⟨k, _, rfl⟩ := hd
  exact ⟨Int.fmod_nonneg_of_pos _ hb, Int.fmod_lt_of_pos _ hb⟩
theorem figsB_len (b v : Int) (n : Nat) : (figsB b v n).length = n := by simp [figsB, rangeKs_length]
end Mine
end

section
open PySem PySem.W PyProof.Rows PySem.Spec PySem.Calls
namespace Mine
/-- the figures of six bits that octets fill -/
def cF : List Int → List Int
  | [] => []
  | [a] => [a / 4, a % 4 * 16]
  | [a, b] => [a / 4, a % 4 * 16 + b / 16, b % 16 * 4]
  | a :: b :: c :: r => a / 4 :: (a % 4 * 16 + b / 16) :: (b % 16 * 4 + c / 64) :: c % 64 :: cF r
/-- how many = stand behind a writing of n octets -/
def pF (n : Nat) : Nat := if n % 3 = 1 then 2 else if n % 3 = 2 then 1 else 0
def fF (ns : List Int) : List Int := cF ns ++ List.replicate (pF ns.length) 64
def sg (f : Int) : Int := if f = 64 then 61 else sig f
theorem in_cons {a : Int} {l : List Int} (h : KBa.In (a :: l)) : (0 ≤ a ∧ a < 256) ∧ KBa.In l := ⟨h a (by simp), fun n hn => h n (by simp [hn])⟩
theorem cF_len : ∀ ns : List Int, (cF ns).length = (4 * ns.length + 2) / 3
  | [] => rfl
  | [_] => by simp [cF]
  | [_, _] => by simp [cF]
  | _ :: _ :: _ :: r => by simp only [cF, List.length_cons, cF_len r]; omega
theorem cF_dig : ∀ ns : List Int, KBa.In ns → DigB 64 (cF ns)
  | [], _ => fun _ h => nomatch h
  | [a], h => by
    have := (in_cons h).1
    intro d hd; simp only [cF, List.mem_cons, List.not_mem_nil, or_false] at hd; omega
  | [a, b], h => by
    have := (in_cons h).1; have := (in_cons (in_cons h).2).1
    intro d hd; simp only [cF, List.mem_cons, List.not_mem_nil, or_false] at hd; omega
  | a :: b :: c :: r, h => by
    have := (in_cons h).1; have := (in_cons (in_cons h).2).1; have := (in_cons (in_cons (in_cons h).2).2).1
    have ih := cF_dig r (in_cons (in_cons (in_cons h).2).2).2
    intro d hd; simp only [cF, List.mem_cons] at hd
    rcases hd with hd | hd | hd | hd | hd
    · omega
    · omega
    · omega
    · omega
    · exact ih d hd
theorem vB_cons (b a : Int) (l : List Int) : vB b (a :: l) = a * b ^ l.length + vB b l := by
  have := vB_append b [a] l
  simpa [vB] using this
theorem p64_256 (n k e : Nat) (h : 6 * n = 8 * k + e) : 64 ^ n = 256 ^ k * 2 ^ e := by
  rw [show 64 = 2 ^ 6 from rfl, show 256 = 2 ^ 8 from rfl, ← Nat.pow_mul, ← Nat.pow_mul, ← Nat.pow_add, h]
theorem mul_pow_swap (x : Int) {n k e : Nat} (h : 6 * n = 8 * k + e) : x * 64 ^ n = x * 256 ^ k * 2 ^ e := by
  have h1 : ((64 ^ n : Nat) : Int) = ((256 ^ k * 2 ^ e : Nat) : Int) := by rw [p64_256 n k e h]
  have h2 : (64 : Int) ^ n = 256 ^ k * 2 ^ e := by rw [Int.natCast_mul, Int.natCast_pow, Int.natCast_pow, Int.natCast_pow] at h1; exact h1
  rw [h2, Int.mul_assoc]
theorem pF_three (n : Nat) : pF (n + 1 + 1 + 1) = pF n := by
  unfold pF
  have : (n + 1 + 1 + 1) % 3 = n % 3 := by omega
  simp only [this]
theorem fF_three (a b c : Int) (r : List Int) : fF (a :: b :: c :: r) = [a / 4, a % 4 * 16 + b / 16, b % 16 * 4 + c / 64, c % 64] ++ fF r := by
  unfold fF
  simp only [List.length_cons]
  rw [pF_three]; rfl
theorem en_three {a b c x y z u v w : Int} (ha : 4 * x + y = a) (hb : 16 * z + u = b) (hc : 64 * v + w = c) : ((x * 64 + (y * 16 + z)) * 64 + (u * 4 + v)) * 64 + w = (a * 256 + b) * 256 + c := by subst ha; subst hb; subst hc; omega
theorem en_two {a b x y z u : Int} (ha : 4 * x + y = a) (hb : 16 * z + u = b) : (x * 64 + (y * 16 + z)) * 64 + u * 4 = (a * 256 + b) * 4 := by subst ha; subst hb; omega
theorem cF_val : ∀ ns : List Int, vB 64 (cF ns) = vB 256 ns * 2 ^ ((cF ns).length * 6 - ns.length * 8)
  | [] => rfl
  | [a] => by simp only [cF, vB, List.foldl, List.length]; omega
  | [a, b] => by
    have h := en_two (Int.mul_ediv_add_emod a 4) (Int.mul_ediv_add_emod b 16)
    simpa [cF, vB] using h
  | a :: b :: c :: r => by
    have ih := cF_val r
    have hl := cF_len r
    have e1 : (cF (a :: b :: c :: r)).length * 6 - (a :: b :: c :: r).length * 8 = (cF r).length * 6 - r.length * 8 := by simp only [cF, List.length_cons]; omega
    have e2 : cF (a :: b :: c :: r) = [a / 4, a % 4 * 16 + b / 16, b % 16 * 4 + c / 64, c % 64] ++ cF r := rfl
    have e3 : a :: b :: c :: r = [a, b, c] ++ r := rfl
    rw [e1, e2, vB_append, ih]
    conv => rhs; rw [e3, vB_append]
    rw [Int.add_mul]
    have e4 : vB 64 [a / 4, a % 4 * 16 + b / 16, b % 16 * 4 + c / 64, c % 64] = vB 256 [a, b, c] := by
      have h := en_three (Int.mul_ediv_add_emod a 4) (Int.mul_ediv_add_emod b 16) (Int.mul_ediv_add_emod c 64)
      simpa [vB] using h
    rw [e4]
    rw [mul_pow_swap (vB 256 [a, b, c]) (n := (cF r).length) (k := r.length) (e := (cF r).length * 6 - r.length * 8) (by clear e1 e2 e3 e4 ih; omega)]
theorem sg_of {f : Int} (h : f < 64) : sg f = sig f := if_neg (by omega)
theorem b2a_from : ∀ (ns : List Int), KBa.In ns → ∀ out, bfin (ns.foldl bstep (out, 0, 0)) = out ++ (fF ns).map sg
  | [], _, out => by simp [bfin, fF, cF, pF]
  | [a], h, out => by
    have := (in_cons h).1
    simp only [List.foldl, bstep, bfin, fF, cF, pF, List.length_cons, List.length_nil]
    simp only [if_pos, List.map_append, List.map_cons, List.map_nil, List.append_assoc]
    rw [sg_of (by omega), sg_of (by omega)]
    rfl
  | [a, b], h, out => by
    have := (in_cons h).1; have := (in_cons (in_cons h).2).1
    rw [List.foldl, List.foldl, List.foldl]
    have e1 : bstep (out, 0, 0) a = (out ++ [sig (a / 4)], 2, a % 4) := rfl
    have e2 : bstep (out ++ [sig (a / 4)], 2, a % 4) b = (out ++ [sig (a / 4)] ++ [sig (a % 4 * 16 + b / 16)], 4, b % 16) := rfl
    have e3 : bfin (out ++ [sig (a / 4)] ++ [sig (a % 4 * 16 + b / 16)], 4, b % 16) = out ++ [sig (a / 4)] ++ [sig (a % 4 * 16 + b / 16)] ++ [sig (b % 16 * 4)] ++ [61] := rfl
    have e4 : fF [a, b] = [a / 4, a % 4 * 16 + b / 16, b % 16 * 4, 64] := rfl
    rw [e1, e2, e3, e4]
    simp only [List.map_cons, List.map_nil]
    rw [sg_of (f := a / 4) (by omega), sg_of (f := a % 4 * 16 + b / 16) (by omega), sg_of (f := b % 16 * 4) (by omega)]
    simp [sg]
  | a :: b :: c :: r, h, out => by
    have := (in_cons h).1; have := (in_cons (in_cons h).2).1; have := (in_cons (in_cons (in_cons h).2).2).1
    have ih := b2a_from r (in_cons (in_cons (in_cons h).2).2).2
    rw [List.foldl, List.foldl, List.foldl]
    have e1 : bstep (out, 0, 0) a = (out ++ [sig (a / 4)], 2, a % 4) := rfl
    have e2 : bstep (out ++ [sig (a / 4)], 2, a % 4) b = (out ++ [sig (a / 4)] ++ [sig (a % 4 * 16 + b / 16)], 4, b % 16) := rfl
    have e3 : bstep (out ++ [sig (a / 4)] ++ [sig (a % 4 * 16 + b / 16)], 4, b % 16) c = (out ++ [sig (a / 4)] ++ [sig (a % 4 * 16 + b / 16)] ++ [sig (b % 16 * 4 + c / 64)] ++ [sig (c % 64)], 0, 0) := rfl
    have e4 := fF_three a b c r
    rw [e1, e2, e3, ih, e4]
    simp only [List.map_cons, List.map_nil, List.map_append]
    rw [sg_of (f := a / 4) (by omega), sg_of (f := a % 4 * 16 + b / 16) (by omega), sg_of (f := b % 16 * 4 + c / 64) (by omega), sg_of (f := c % 64) (by omega)]
    simp
theorem b2aL_fF (ns : List Int) (h : KBa.In ns) : b2aL ns = (fF ns).map sg := b2a_from ns h []
theorem fF_append : ∀ (xs ys : List Int), xs.length % 3 = 0 → fF (xs ++ ys) = fF xs ++ fF ys
  | [], ys, _ => by simp [fF, cF, pF]
  | [_], _, h => by simp at h
  | [_, _], _, h => by simp at h
  | a :: b :: c :: r, ys, h => by
    have ih := fF_append r ys (by simp only [List.length_cons] at h; omega)
    have e4 := fF_three a b c
    show fF (a :: b :: c :: (r ++ ys)) = _
    rw [e4, e4, ih, List.append_assoc]
theorem fF_len (ns : List Int) : (fF ns).length = (ns.length + 2) / 3 * 4 := by
  unfold fF pF
  rw [List.length_append, cF_len, List.length_replicate]
  (repeat' split) <;> omega
theorem fF_of3 {ns : List Int} (h : ns.length % 3 = 0) : fF ns = cF ns := by
  unfold fF pF
  rw [if_neg (by omega), if_neg (by omega)]; simp
end Mine
end

section
open PySem PySem.W PyProof.Rows PySem.Spec PySem.Calls
namespace Mine
/-- the octets that figures fill -/
def dF : List Int → List Int
  | [] => []
  | [_] => []
  | [a, b] => [a * 4 + b / 16]
  | [a, b, c] => [a * 4 + b / 16, b % 16 * 16 + c / 4]
  | a :: b :: c :: d :: r => (a * 4 + b / 16) :: (b % 16 * 16 + c / 4) :: (c % 4 * 64 + d) :: dF r
theorem dig_cons {b a : Int} {l : List Int} (h : DigB b (a :: l)) : (0 ≤ a ∧ a < b) ∧ DigB b l := ⟨h a (by simp), fun n hn => h n (by simp [hn])⟩
theorem dF_len : ∀ fs : List Int, (dF fs).length = fs.length * 3 / 4
  | [] => rfl
  | [_] => by simp [dF]
  | [_, _] => by simp [dF]
  | [_, _, _] => by simp [dF]
  | _ :: _ :: _ :: _ :: r => by simp only [dF, List.length_cons, dF_len r]; omega
theorem dF_dig : ∀ fs : List Int, DigB 64 fs → DigB 256 (dF fs)
  | [], _ => fun _ h => nomatch h
  | [_], _ => fun _ h => nomatch h
  | [a, b], h => by
    have := (dig_cons h).1; have := (dig_cons (dig_cons h).2).1
    intro d hd; simp only [dF, List.mem_cons, List.not_mem_nil, or_false] at hd; omega
  | [a, b, c], h => by
    have := (dig_cons h).1; have := (dig_cons (dig_cons h).2).1; have := (dig_cons (dig_cons (dig_cons h).2).2).1
    intro d hd; simp only [dF, List.mem_cons, List.not_mem_nil, or_false] at hd; omega
  | a :: b :: c :: d :: r, h => by
    have := (dig_cons h).1; have := (dig_cons (dig_cons h).2).1; have := (dig_cons (dig_cons (dig_cons h).2).2).1; have := (dig_cons (dig_cons (dig_cons (dig_cons h).2).2).2).1
    have ih := dF_dig r (dig_cons (dig_cons (dig_cons (dig_cons h).2).2).2).2
    intro x hd; simp only [dF, List.mem_cons] at hd
    rcases hd with hd | hd | hd | hd
    · omega
    · omega
    · omega
    · exact ih x hd
theorem dF_val : ∀ fs : List Int, DigB 64 fs → vB 256 (dF fs) = vB 64 fs / 2 ^ (6 * fs.length - 8 * (fs.length * 3 / 4))
  | [], _ => rfl
  | [a], h => by
    have := (dig_cons h).1
    simp only [dF, vB, List.foldl, List.length]; omega
  | [a, b], h => by
    have := (dig_cons h).1; have := (dig_cons (dig_cons h).2).1
    simp only [dF, vB, List.foldl, List.length]; omega
  | [a, b, c], h => by
    have := (dig_cons h).1; have := (dig_cons (dig_cons h).2).1; have := (dig_cons (dig_cons (dig_cons h).2).2).1
    simp only [dF, vB, List.foldl, List.length]; omega
  | a :: b :: c :: d :: r, h => by
    have := (dig_cons h).1; have := (dig_cons (dig_cons h).2).1; have := (dig_cons (dig_cons (dig_cons h).2).2).1; have := (dig_cons (dig_cons (dig_cons (dig_cons h).2).2).2).1
    have ih := dF_val r (dig_cons (dig_cons (dig_cons (dig_cons h).2).2).2).2
    have hl := dF_len r
    have e1 : 6 * (a :: b :: c :: d :: r).length - 8 * ((a :: b :: c :: d :: r).length * 3 / 4) = 6 * r.length - 8 * (r.length * 3 / 4) := by simp only [List.length_cons]; omega
    have e2 : dF (a :: b :: c :: d :: r) = [a * 4 + b / 16, b % 16 * 16 + c / 4, c % 4 * 64 + d] ++ dF r := rfl
    have e3 : a :: b :: c :: d :: r = [a, b, c, d] ++ r := rfl
    rw [e1, e2, vB_append, ih, e3, vB_append]
    have e4 : vB 256 [a * 4 + b / 16, b % 16 * 16 + c / 4, c % 4 * 64 + d] = vB 64 [a, b, c, d] := by simp only [vB, List.foldl]; omega
    have e5 := mul_pow_swap (vB 64 [a, b, c, d]) (n := r.length) (k := (dF r).length) (e := 6 * r.length - 8 * (r.length * 3 / 4)) (by omega)
    rw [e4, e5, Int.add_comm (_ * _) (vB 64 r), Int.add_mul_ediv_right _ _ (Int.ne_of_gt (Int.pow_pos (by decide))), Int.add_comm]
theorem sg_ne : ∀ f : Int, 0 ≤ f → f < 64 → sg f ≠ 61 ∧ b64v (sg f) = f := by
  intro f h0 h1
  have : ∀ n : Fin 64, sg (n.val : Int) ≠ 61 ∧ b64v (sg (n.val : Int)) = (n.val : Int) := by decide +kernel
  have h := this ⟨f.toNat, by omega⟩
  have e : ((f.toNat : Nat) : Int) = f := by omega
  simp only [e] at h
  exact h
theorem astep_sg {st : List Int × Int × Int × Int} {f : Int} (h0 : 0 ≤ f) (h1 : f < 64) : astep st (sg f) = (if st.2.1 = 0 then (st.1, 1, f, 0) else if st.2.1 = 1 then (st.1 ++ [st.2.2.1 * 4 + f / 16], 2, f % 16, 0) else if st.2.1 = 2 then (st.1 ++ [st.2.2.1 * 16 + f / 4], 3, f % 4, 0) else (st.1 ++ [st.2.2.1 * 64 + f], 0, 0, 0)) := by
  obtain ⟨e1, e2⟩ := sg_ne f h0 h1
  unfold astep
  rw [e2, if_neg e1, if_neg (by omega)]
theorem a_from : ∀ (fs : List Int), DigB 64 fs → ∀ out pd, ((fs.map sg).foldl astep (out, 0, 0, pd)).1 = out ++ dF fs ∧ ((fs.map sg).foldl astep (out, 0, 0, pd)).2.1 = ((fs.length % 4 : Nat) : Int) ∧ (fs = [] ∨ ((fs.map sg).foldl astep (out, 0, 0, pd)).2.2.2 = 0)
  | [], _, out, pd => by simp [dF]
  | [a], h, out, pd => by
    have := (dig_cons h).1
    simp only [List.map_cons, List.map_nil, List.foldl, astep_sg this.1 this.2]
    simp [dF]
  | [a, b], h, out, pd => by
    have h1 := (dig_cons h).1; have h2 := (dig_cons (dig_cons h).2).1
    simp only [List.map_cons, List.map_nil, List.foldl, astep_sg h1.1 h1.2, astep_sg h2.1 h2.2]
    simp [dF]
  | [a, b, c], h, out, pd => by
    have h1 := (dig_cons h).1; have h2 := (dig_cons (dig_cons h).2).1; have h3 := (dig_cons (dig_cons (dig_cons h).2).2).1
    simp only [List.map_cons, List.map_nil, List.foldl, astep_sg h1.1 h1.2, astep_sg h2.1 h2.2, astep_sg h3.1 h3.2]
    simp [dF]
  | a :: b :: c :: d :: r, h, out, pd => by
    have h1 := (dig_cons h).1; have h2 := (dig_cons (dig_cons h).2).1; have h3 := (dig_cons (dig_cons (dig_cons h).2).2).1; have h4 := (dig_cons (dig_cons (dig_cons (dig_cons h).2).2).2).1
    have ih := a_from r (dig_cons (dig_cons (dig_cons (dig_cons h).2).2).2).2 (out ++ [a * 4 + b / 16] ++ [b % 16 * 16 + c / 4] ++ [c % 4 * 64 + d]) 0
    have e : ((a :: b :: c :: d :: r).map sg).foldl astep (out, 0, 0, pd) = (r.map sg).foldl astep (out ++ [a * 4 + b / 16] ++ [b % 16 * 16 + c / 4] ++ [c % 4 * 64 + d], 0, 0, 0) := by
      simp only [List.map_cons, List.foldl, astep_sg h1.1 h1.2, astep_sg h2.1 h2.2, astep_sg h3.1 h3.2, astep_sg h4.1 h4.2]
      rfl
    rw [e]
    obtain ⟨i1, i2, i3⟩ := ih
    refine ⟨by rw [i1]; simp [dF], by rw [i2]; simp only [List.length_cons]; omega, ?_⟩
    rcases i3 with rfl | i3
    · exact .inr rfl
    · exact .inr i3
theorem a_pads : ∀ (m : Nat) (st : List Int × Int × Int × Int), ((List.replicate m 64).map sg).foldl astep st = (st.1, st.2.1, st.2.2.1, st.2.2.2 + (m : Int))
  | 0, st => by simp
  | m + 1, st => by
    have e : astep st (sg 64) = (st.1, st.2.1, st.2.2.1, st.2.2.2 + 1) := rfl
    rw [List.replicate_succ, List.map_cons, List.foldl_cons, e, a_pads m]
    simp only [Prod.mk.injEq, true_and]; omega
/-- what a2b_base64 keeps of figures and = behind -/
theorem aSt_figs (fs : List Int) (m : Nat) (h : DigB 64 fs) : (aSt ((fs ++ List.replicate m 64).map sg)).1 = dF fs ∧ (aSt ((fs ++ List.replicate m 64).map sg)).2.1 = ((fs.length % 4 : Nat) : Int) ∧ (m : Int) ≤ (aSt ((fs ++ List.replicate m 64).map sg)).2.2.2 := by
  obtain ⟨i1, i2, i3⟩ := a_from fs h [] 0
  unfold aSt
  rw [List.map_append, List.foldl_append, a_pads]
  refine ⟨by rw [i1]; rfl, i2, ?_⟩
  rcases i3 with rfl | i3
  · simp
  · simp only [i3]; omega
end Mine
end

section
open PySem PySem.W PyProof.Rows PySem.Spec PySem.Calls
namespace Mine
def figL (nb ct : Int) : List Int := ((rangeKs 0 (ct - 0).toNat).map fun k => (nb.fdiv (64 ^ k.toNat)).fmod 64).reverse ++ (List.replicate ((-ct).fmod 4).toNat [64]).flatten
def encI (p q : UInt8) (ns : List Int) : List Int := (b2aL ns).map (trI (mtab #[43, 47] #[p, q]))
def txt (p q : UInt8) (ns : List Int) : Str := ⟨(byteArr (encI p q ns)).map (·.toNat)⟩
/-- the two pairs of signs that the law takes -/
def Alt (p q : UInt8) (bl : Int) : Prop := p = 32 ∧ q = 45 ∧ bl = 62 ∨ p = 45 ∧ q = 32 ∧ bl = 63
/-- the sign of a figure, with the pair p, q -/
def chr (p q : UInt8) (f : Int) : Nat := (trI (mtab #[43, 47] #[p, q]) (sg f)).toNat
def Fig (l : List Int) : Prop := ∀ f ∈ l, 0 ≤ f ∧ f ≤ 64
theorem mtab_two (a b p q : UInt8) : mtab #[a, b] #[p, q] = (((Array.range 256).map (·.toUInt8)).setIfInBounds a.toNat p).setIfInBounds b.toNat q := rfl
theorem trI_tab {a b p q : UInt8} {c : Int} (h0 : 0 ≤ c) (h1 : c < 256) : trI (mtab #[a, b] #[p, q]) c = if c = (b.toNat : Int) then (q.toNat : Int) else if c = (a.toNat : Int) then (p.toNat : Int) else c := by
  obtain ⟨n, rfl⟩ : ∃ n : Nat, c = n := ⟨c.toNat, by omega⟩
  have hn : n < 256 := by omega
  have e1 : ((n : Int).toNat.toUInt8).toNat = n := by simp; omega
  unfold trI
  rw [e1, mtab_two, Array.getD_eq_getD_getElem?, Array.getElem?_setIfInBounds, Array.getElem?_setIfInBounds]
  have ha := a.toNat_lt
  have hb := b.toNat_lt
  simp only [Array.size_setIfInBounds, Array.size_map, Array.size_range]
  have x1 : ((n : Int) = (b.toNat : Int)) ↔ (b.toNat = n) := by omega
  have x2 : ((n : Int) = (a.toNat : Int)) ↔ (a.toNat = n) := by omega
  simp only [x1, x2]
  by_cases c1 : b.toNat = n
  · rw [if_pos c1, if_pos c1, if_pos (show b.toNat < 256 by omega)]; rfl
  · rw [if_neg c1, if_neg c1]
    by_cases c2 : a.toNat = n
    · rw [if_pos c2, if_pos c2, if_pos (show a.toNat < 256 by omega)]; rfl
    · rw [if_neg c2, if_neg c2]
      have e2 : (Array.map (fun x => x.toUInt8) (Array.range 256))[n]? = some n.toUInt8 := by simp [hn]
      rw [e2]
      simp; omega
/-- the sign of a figure, by its three ways -/
def sg2 (p q f : Int) : Int := if sg f = 47 then q else if sg f = 43 then p else sg f
theorem sg_nice : ∀ n : Fin 65, 0 ≤ sg (n.val : Int) ∧ sg (n.val : Int) < 128 := by decide +kernel
theorem sg2_all : ∀ n : Fin 65, (0 ≤ sg2 32 45 (n.val : Int) ∧ sg2 32 45 (n.val : Int) < 128) ∧ (sg2 32 45 (n.val : Int) = 32 ↔ n.val = 62) ∧ (if sg2 32 45 (n.val : Int) = 45 then 47 else if sg2 32 45 (n.val : Int) = 32 then 43 else sg2 32 45 (n.val : Int)) = sg (n.val : Int) := by decide +kernel
theorem sg2_all' : ∀ n : Fin 65, (0 ≤ sg2 45 32 (n.val : Int) ∧ sg2 45 32 (n.val : Int) < 128) ∧ (sg2 45 32 (n.val : Int) = 32 ↔ n.val = 63) ∧ (if sg2 45 32 (n.val : Int) = 32 then 47 else if sg2 45 32 (n.val : Int) = 45 then 43 else sg2 45 32 (n.val : Int)) = sg (n.val : Int) := by decide +kernel
theorem chr_sg2 {p q : UInt8} {f : Int} (h0 : 0 ≤ f) (h1 : f ≤ 64) : (chr p q f : Int) = sg2 (p.toNat : Int) (q.toNat : Int) f := by
  have e : ((f.toNat : Nat) : Int) = f := by omega
  have hs := sg_nice ⟨f.toNat, by omega⟩
  simp only [e] at hs
  unfold chr
  have hp := p.toNat_lt
  have hq := q.toNat_lt
  rw [trI_tab hs.1 (by omega)]
  unfold sg2
  have e43 : ((43 : UInt8).toNat : Int) = 43 := rfl
  have e47 : ((47 : UInt8).toNat : Int) = 47 := rfl
  rw [e43, e47]
  split
  · omega
  · split <;> omega
theorem chr_ar {c k : Nat} {f b : Int} (h0 : 0 ≤ f) (hb : b = (k : Int)) (h1 : (c : Int) < 128) (h2 : (c : Int) = 32 ↔ f.toNat = k) : c < 128 ∧ (c = 32 ↔ f = b) := by
  subst hb
  refine ⟨by clear h2; omega, fun e => ?_, fun e => ?_⟩
  · have h3 := h2.mp (by rw [e]; rfl)
    clear h2 h1 e; omega
  · have h3 := h2.mpr (by rw [e]; rfl)
    clear h2 h1 e; omega
theorem chr_is {p q : UInt8} {bl f : Int} (ha : Alt p q bl) (h0 : 0 ≤ f) (h1 : f ≤ 64) : chr p q f < 128 ∧ (chr p q f = 32 ↔ f = bl) ∧ trI (mtab #[p, q] #[43, 47]) ((chr p q f : Nat) : Int) = sg f := by
  have e : ((f.toNat : Nat) : Int) = f := Int.toNat_of_nonneg h0
  have e65 : f.toNat < 65 := by clear ha; omega
  have e43 : ((43 : UInt8).toNat : Int) = 43 := rfl
  have e47 : ((47 : UInt8).toNat : Int) = 47 := rfl
  have e32 : ((32 : UInt8).toNat : Int) = 32 := rfl
  have e45 : ((45 : UInt8).toNat : Int) = 45 := rfl
  have hc := chr_sg2 (p := p) (q := q) h0 h1
  rcases ha with ⟨rfl, rfl, rfl⟩ | ⟨rfl, rfl, rfl⟩
  · have h := sg2_all ⟨f.toNat, e65⟩
    simp only [e] at h
    rw [e32, e45] at hc
    rw [← hc] at h
    obtain ⟨r1, r2⟩ := chr_ar h0 (k := 62) rfl h.1.2 h.2.1
    refine ⟨r1, r2, ?_⟩
    rw [trI_tab h.1.1 (Int.lt_trans h.1.2 (by decide)), e43, e47, e32, e45]
    exact h.2.2
  · have h := sg2_all' ⟨f.toNat, e65⟩
    simp only [e] at h
    rw [e32, e45] at hc
    rw [← hc] at h
    obtain ⟨r1, r2⟩ := chr_ar h0 (k := 63) rfl h.1.2 h.2.1
    refine ⟨r1, r2, ?_⟩
    rw [trI_tab h.1.1 (Int.lt_trans h.1.2 (by decide)), e43, e47, e32, e45]
    exact h.2.2
theorem fF_fig {ns : List Int} (h : KBa.In ns) : Fig (fF ns) := by
  intro f hf
  unfold fF at hf
  rcases List.mem_append.mp hf with hf | hf
  · have := cF_dig ns h f hf; omega
  · rw [List.eq_of_mem_replicate hf]; decide
theorem trI_nat (tb : Array UInt8) (c : Int) : ((trI tb c).toNat : Int) = trI tb c := by
  have : 0 ≤ trI tb c := Int.natCast_nonneg _
  omega
theorem txt_cps (p q : UInt8) {ns : List Int} (h : KBa.In ns) : (txt p q ns).cps.toList = (fF ns).map (chr p q) := by
  unfold txt encI byteArr
  rw [b2aL_fF ns h]
  simp only [Array.toList_map, List.map_map]
  apply List.map_congr_left
  intro f _
  simp only [Function.comp, chr]
  have hb : (trI (mtab #[43, 47] #[p, q]) (sg f)).toNat < 256 := by
    unfold trI
    have := ((mtab #[43, 47] #[p, q]).getD ((sg f).toNat.toUInt8).toNat ((sg f).toNat.toUInt8)).toNat_lt
    omega
  generalize (trI (mtab #[43, 47] #[p, q]) (sg f)).toNat = n at hb ⊢
  simp; omega
theorem dIn_of {p q : UInt8} {bl : Int} (ha : Alt p q bl) {x : Str} {l : List Int} (hx : x.cps.toList = l.map (chr p q)) (hl : Fig l) : dIn p q x = l.map sg := by
  unfold dIn
  rw [hx]
  simp only [List.map_map]
  apply List.map_congr_left
  intro f hf
  exact (chr_is ha (hl f hf).1 (hl f hf).2).2.2
theorem ascii_of {p q : UInt8} {bl : Int} (ha : Alt p q bl) {x : Str} {l : List Int} (hx : x.cps.toList = l.map (chr p q)) (hl : Fig l) : ∀ c ∈ x.cps.toList, c < 128 := by
  rw [hx]
  intro c hc
  obtain ⟨f, hf, rfl⟩ := List.mem_map.mp hc
  exact (chr_is ha (hl f hf).1 (hl f hf).2).1
/-- how many blanks stand ahead -/
def twI (b : Int) (l : List Int) : Int := ((l.takeWhile (· == b)).length : Int)
theorem posNe_head (b : Int) : ∀ (l : List Int) (i : Int), (posNe b l i ++ [i + (l.length : Int)]).getD 0 0 = i + twI b l
  | [], i => by simp [posNe, twI]
  | x :: l, i => by
    have ih := posNe_head b l (i + 1)
    by_cases e : x = b
    · simp only [posNe, List.length_cons, twI, List.takeWhile_cons, e, beq_self_eq_true, if_true]
      have e2 : i + ((l.length + 1 : Nat) : Int) = i + 1 + (l.length : Int) := by omega
      rw [e2, ih]
      unfold twI; omega
    · simp only [posNe, if_neg e, List.cons_append, twI, List.takeWhile_cons]
      simp [e]
theorem leadI_tw (b : Int) (l : List Int) : leadI b l = twI b l := by
  have := posNe_head b l 0
  unfold leadI
  simpa using this
theorem ldN_map {p q : UInt8} {bl : Int} (ha : Alt p q bl) {l : List Int} (hl : Fig l) : ldN (l.map (chr p q)) = twI bl l := by
  unfold ldN twI
  induction l with
  | nil => rfl
  | cons f l ih =>
    have hf := hl f (by simp)
    have h2 := (chr_is ha hf.1 hf.2).2.1
    have ih' := ih fun g hg => hl g (by simp [hg])
    by_cases e : f = bl
    · have e2 := h2.mpr e
      subst e
      simp only [List.map_cons, List.takeWhile_cons, e2, beq_self_eq_true, if_true, List.length_cons]
      omega
    · have e2 : ¬ chr p q f = 32 := fun z => e (h2.mp z)
      simp [List.map_cons, List.takeWhile_cons, e2, e]
theorem Fig.rev {l : List Int} (h : Fig l) : Fig l.reverse := fun f hf => h f (List.mem_reverse.mp hf)
theorem tw_nonneg (b : Int) (l : List Int) : 0 ≤ twI b l := Int.natCast_nonneg _
theorem tw_le (b : Int) (l : List Int) : twI b l ≤ (l.length : Int) := by
  unfold twI; have := (List.takeWhile_prefix (p := (· == b)) (l := l)).length_le; omega
/-- the text's blanks are the figures' -/
theorem txt_ld {p q : UInt8} {bl : Int} (ha : Alt p q bl) {ns : List Int} (h : KBa.In ns) : ldN (txt p q ns).cps.toList = leadI bl (fF ns) ∧ ldN (txt p q ns).cps.toList.reverse = leadI bl (fF ns).reverse := by
  rw [txt_cps p q h, ← List.map_reverse, ldN_map ha (fF_fig h), ldN_map ha (fF_fig h).rev, leadI_tw, leadI_tw]
  exact ⟨rfl, rfl⟩
theorem flat_rep (n : Nat) (x : Int) : (List.replicate n [x]).flatten = List.replicate n x := by
  induction n with
  | zero => rfl
  | succ n ih => rw [List.replicate_succ, List.flatten_cons, ih]; rfl
theorem num_vB (ns : List Int) : ns.foldl (fun a b => a * 256 + b) 0 = vB 256 ns := rfl
/-- the number and the figures that _law_holds reckons -/
theorem nb_is (ns : List Int) {ct nb : Int} (hc : ct = ((ns.length : Int) * 4 + 2).fdiv 3) (hn : nb = ns.foldl (fun a b => a * 256 + b) 0 * 2 ^ (ct * 6 - (ns.length : Int) * 8).toNat) : ct = ((cF ns).length : Int) ∧ nb = vB 64 (cF ns) := by
  have hl := cF_len ns
  have e : ct = ((cF ns).length : Int) := by rw [hc, fdiv_lit _ (by decide), hl]; clear hl hn hc; omega
  refine ⟨e, ?_⟩
  rw [hn, num_vB, cF_val]
  congr 2
  rw [e]; clear e hl hn hc; omega
theorem figL_is {ns : List Int} (h : KBa.In ns) {ct nb : Int} (hc : ct = ((cF ns).length : Int)) (hn : nb = vB 64 (cF ns)) : figL nb ct = fF ns := by
  have e1 : ((rangeKs 0 (ct - 0).toNat).map fun k => (nb.fdiv (64 ^ k.toNat)).fmod 64).reverse = figsB 64 nb (ct - 0).toNat := rfl
  have e2 : (ct - 0).toNat = (cF ns).length := by clear e1 hn; omega
  have hl := cF_len ns
  have e3 : ((-ct).fmod 4).toNat = pF ns.length := by
    rw [fmod_lit _ (by decide), hc, hl]
    clear e2 e1 hn hc hl h
    unfold pF
    (repeat' split) <;> omega
  unfold figL fF
  rw [e1, e2, hn, figsB_of (by decide) _ (cF_dig ns h), flat_rep, ← e3]
theorem octL_dF {fs : List Int} (h : DigB 64 fs) {v c : Int} (hv : v = vB 64 fs) (hc : c = (fs.length : Int)) : octL v c = dF fs := by
  have hl := dF_len fs
  have e0 : octL v c = figsB 256 (v.fdiv (2 ^ ((-2 * c).fmod 8).toNat)) ((c * 3).fdiv 4 - 0).toNat := rfl
  have e1 : ((c * 3).fdiv 4 - 0).toNat = (dF fs).length := by rw [fdiv_lit _ (by decide), hc, hl]; clear e0 hl hc hv; omega
  have e2 : ((-2 * c).fmod 8).toNat = 6 * fs.length - 8 * (fs.length * 3 / 4) := by rw [fmod_lit _ (by decide), hc]; clear e0 e1 hl hc hv; omega
  have e3 : v.fdiv (2 ^ ((-2 * c).fmod 8).toNat) = vB 256 (dF fs) := by
    rw [e2, Int.fdiv_eq_ediv_of_nonneg _ (Int.le_of_lt (Int.pow_pos (by decide))), hv, dF_val fs h]
  rw [e0, e3, e1, figsB_of (by decide) _ (dF_dig fs h)]
end Mine
end

section
open PySem PySem.W PyProof.Rows PySem.Spec PySem.Calls
namespace Mine
theorem Gives.weak {f : Addr} {vs : List Value} {kw : List (Str × Value)} {d u : Nat} {R R' : Value → Prop} (c : Gives f vs kw d u R) (h : ∀ v, R v → R' v) : Gives f vs kw d u R' :=
  fun _ _ _ _ _ _ _ _ _ _ _ _ _ _ _ _ _ _ _ _ _ _ G F N hk hd hu k => c.use F N G hk hd hu fun v h' tk' r => k v h' tk' (h v r)
theorem GivesS.weak {f : Addr} {vs : List Value} {kw : List (Str × Value)} {d u : Nat} {R R' : Value → Prop} (c : GivesS f vs kw d u R) (h : ∀ v, R v → R' v) : GivesS f vs kw d u R' :=
  fun _ _ _ _ _ _ _ _ _ _ _ _ _ _ _ _ _ _ _ _ _ _ G F N hk hd hu k => c.use F N G hk hd hu fun v h' tk' h₁ r => k v h' tk' h₁ (h v r)
theorem gone_no {lead trail size amount : Int} {t1 t2 t3 t4 : Tok} (hg : goneNo lead size amount) : Gives 133 [.int lead t1, .int trail t2, .int size t3, .int amount t4] [] 3 100 (fun v => v = .none) :=
  fun _ _ _ _ _ _ _ _ _ _ _ _ _ _ _ _ _ _ _ _ _ _ G F N hk hd hu k => c_gone lead trail size amount t1 t2 t3 t4 _ _ _ _ _ _ _ _ _ _ _ _ _ _ _ _ _ _ _ _ _ _ G F N hk hd hu (fun _ h' tk' F' N' => k _ h' tk' rfl F' N') fun hn => absurd hg hn
section
variable {w : World} {mean : ExcName → Option Value} {mg mb : Str → Option Value} {dp un : Nat} {gd : Option (List Code)} {cn : Str} {cs : Scope} {a : Addr} {ccd : Value} {cl : List (Str × Addr)} {outer : List Env} {A₀ : Around} {base h₀ : Heap} {L : Addr} {m : Str → Option Value} {news : List (Addr × Obj)} {s : Shared} {Q E : Value → Shared → Prop}
theorem gone_yes {lead trail size amount : Int} {t1 t2 t3 t4 : Tok} (hg : ¬ goneNo lead size amount) {ah bh : Int} (e1 : ah = ahd lead amount) (e2 : bh = bhd lead trail amount) (F : Fr h₀ L s.heap m) (N : News h₀ L s.heap news) (G : Gd w mean mg mb A₀ base outer h₀) (hk : cs.kind = .function) (hd : dp + 3 < recursionLimit) (hu : un + 100 < cLine)
    (h : ∀ D t u h' tk', Fr h₀ L h' m → News h₀ L h' ((D, { cls := .type "tuple", data := .seq #[.int ah t, .int bh u] }) :: news) → Q (.ref D) { s with heap := h', toks := tk' }) :
    wpAny (model PySem.Challenge.rw_pa0023_01.row.prog w) (ktrTop dp un gd cn cs L a ccd cl outer) (call (.ref 133) [.int lead t1, .int trail t2, .int size t3, .int amount t4]) Q E s := by
  subst e1; subst e2
  exact c_gone lead trail size amount t1 t2 t3 t4 _ _ _ _ _ _ _ _ _ _ _ _ _ _ _ _ _ _ _ _ _ _ G F N hk hd hu (fun hn => absurd hn hg) fun _ => h
end
theorem left_no {x : Str} {t t2 : Tok} {n ld sz : Int} (hlen : x.cps.size ≤ 40) (e1 : ldN x.cps.toList = ld) (e3 : (x.cps.toList.length : Int) = sz) (hg : goneNo ld sz n) : GivesS 140 [.str x t, .int n t2] [] 8 220 (fun v => v = .none) := by
  subst e1; subst e3
  refine (c_left x hlen t n t2).weak fun v h => ?_
  rcases h with h | h
  · exact h.2
  · exact absurd hg h.1
theorem left_yes {x y : Str} {t t2 : Tok} {n ld tr sz ah bh : Int} (hlen : x.cps.size ≤ 40) (e1 : ldN x.cps.toList = ld) (e2 : ldN x.cps.toList.reverse = tr) (e3 : (x.cps.toList.length : Int) = sz) (hg : ¬ goneNo ld sz n) (f1 : ah = ahd ld n) (f2 : bh = bhd ld tr n) (ey : y = Txt.slice x (some ah) (some (sz - bh))) : GivesS 140 [.str x t, .int n t2] [] 8 220 (fun v => ∃ t, v = .str y t) := by
  subst e1; subst e2; subst e3; subst f1; subst f2; subst ey
  refine (c_left x hlen t n t2).weak fun v h => ?_
  rcases h with h | h
  · exact absurd h.1 hg
  · exact h.2
theorem read_any {x : Str} {t t2 : Tok} {p q : UInt8} {B : List Int} {k : Int} (ha : ∀ c ∈ x.cps.toList, c < 128) (hlen : x.cps.size ≤ 40) (hpad : 2 ≤ (aSt (dIn p q x)).2.2.2) (hq : (aSt (dIn p q x)).2.1 = k) (hB : (aSt (dIn p q x)).1 = B) : GivesS 147 [.str x t, .bytes #[p, q] t2] [] 10 420 (fun v => (k = 1 ∧ v = .none) ∨ (k ≠ 1 ∧ ∃ t, v = .bytes (byteArr B) t)) := by
  subst hB; subst hq
  exact c_read x ha hlen t t2 p q hpad
end Mine
end

section
open PySem PySem.W PyProof.Rows PySem.Spec PySem.Calls
namespace Mine
theorem tw_stop {b y : Int} (hy : y ≠ b) : ∀ (xs ys : List Int), twI b (xs ++ y :: ys) ≤ (xs.length : Int)
  | [], ys => by simp [twI, List.takeWhile_cons, hy]
  | x :: xs, ys => by
    have ih := tw_stop hy xs ys
    unfold twI at *
    by_cases e : x = b
    · simp only [List.cons_append, List.takeWhile_cons, e, beq_self_eq_true, if_true, List.length_cons]; omega
    · simp [List.takeWhile_cons, e]; omega
theorem tw_split {b : Int} : ∀ (l : List Int), twI b l < (l.length : Int) → ∃ y ys, y ≠ b ∧ l = l.takeWhile (· == b) ++ y :: ys
  | [], h => by simp [twI] at h
  | x :: l, h => by
    by_cases e : x = b
    · have h' : twI b l < (l.length : Int) := by
        unfold twI at *
        simp only [List.takeWhile_cons, e, beq_self_eq_true, if_true, List.length_cons] at h; omega
      obtain ⟨y, ys, hy, hl⟩ := tw_split l h'
      refine ⟨y, ys, hy, ?_⟩
      simp only [List.takeWhile_cons, e, beq_self_eq_true, if_true, List.cons_append]
      rw [← hl]
    · exact ⟨x, l, e, by simp [List.takeWhile_cons, e]⟩
theorem tw_both {b : Int} {l : List Int} (h : twI b l < (l.length : Int)) : twI b l + twI b l.reverse ≤ (l.length : Int) := by
  obtain ⟨y, ys, hy, hl⟩ := tw_split l h
  have e1 : l.reverse = ys.reverse ++ y :: (l.takeWhile (· == b)).reverse := by
    conv => lhs; rw [hl]
    simp
  have h1 := tw_stop hy ys.reverse (l.takeWhile (· == b)).reverse
  rw [← e1] at h1
  have h2 : l.length = (l.takeWhile (· == b)).length + (ys.length + 1) := by
    conv => lhs; rw [hl]
    simp
  rw [List.length_reverse] at h1
  unfold twI at *
  omega
theorem gn_sum {c n : Nat} {ld tr : Int} (t0 : 0 ≤ tr) (l1 : ld ≤ (c : Int)) (t1 : n = 0 ∨ tr = 0) (both : ld < ((c + n : Nat) : Int) → ld + tr ≤ ((c + n : Nat) : Int)) : ld + tr ≤ (c : Int) ∨ ld = ((c + n : Nat) : Int) := by
  by_cases h : ld < ((c + n : Nat) : Int)
  · have h2 := both h
    clear both h
    rcases t1 with rfl | rfl
    · exact .inl (by simpa using h2)
    · exact .inl (by simpa using l1)
  · exact .inr (by clear both t1 t0; omega)
/-- what is taken off at the two ends -/
theorem gone_nums {bl : Int} (hb : bl ≤ 63) {C : List Int} {n : Nat} {ld tr am ah bh : Int} (hld : ld = twI bl (C ++ List.replicate n 64)) (htr : tr = twI bl (C ++ List.replicate n 64).reverse)
    (hg : ¬ goneNo ld ((C.length + n : Nat) : Int) am) (hah : ah = ahd ld am) (hbh : bh = bhd ld tr am) : 0 ≤ ah ∧ 0 ≤ bh ∧ ah + bh ≤ (C.length : Int) ∧ (bh = 0 ∨ n = 0) := by
  have l0 : 0 ≤ ld := by rw [hld]; exact tw_nonneg _ _
  have t0 : 0 ≤ tr := by rw [htr]; exact tw_nonneg _ _
  have l1 : ld ≤ (C.length : Int) := by
    cases n with
    | zero => rw [hld]; simpa using tw_le bl C
    | succ n => rw [hld, List.replicate_succ]; exact tw_stop (by omega) _ _
  have t1 : n = 0 ∨ tr = 0 := by
    cases n with
    | zero => exact .inl rfl
    | succ n =>
      refine .inr ?_
      have e : (C ++ List.replicate (n + 1) 64).reverse = [] ++ 64 :: (C ++ List.replicate n 64).reverse := by
        rw [List.replicate_succ', ← List.append_assoc, List.reverse_append]; rfl
      have h := tw_stop (b := bl) (y := 64) (by omega) [] (C ++ List.replicate n 64).reverse
      rw [← e, ← htr] at h
      simp at h; omega
  have both : ld < ((C.length + n : Nat) : Int) → ld + tr ≤ ((C.length + n : Nat) : Int) := by
    intro h
    have e : (C ++ List.replicate n 64).length = C.length + n := by simp
    have h2 : twI bl (C ++ List.replicate n 64) < (((C ++ List.replicate n 64).length : Nat) : Int) := by rw [e, ← hld]; exact h
    have h3 := tw_both h2
    rw [e, ← hld, ← htr] at h3
    exact h3
  have t2 := gn_sum t0 l1 t1 both
  clear both hld htr hb
  have t3 : tr = 0 ∨ n = 0 := t1.symm
  clear t1
  unfold goneNo at hg
  unfold ahd at hah
  unfold bhd at hbh
  by_cases ha : am < 0
  · rw [if_pos ha] at hah hbh
    subst hah; subst hbh
    rcases t2 with t2 | t2
    · exact ⟨l0, t0, t2, t3⟩
    · exact absurd ⟨t2, fun h => by have := h.1; clear h hg t3 l0 t0 l1 t2; omega⟩ hg
  · rw [if_neg ha] at hah hbh
    have hg' : ld = ((C.length + n : Nat) : Int) → am ≤ ((C.length + n : Nat) : Int) := fun e => Int.not_lt.mp fun h => hg ⟨e, fun q => by have := q.2; clear hg q t2 t3 l0 t0 l1 hah hbh; omega⟩
    clear hg
    have a1 : 0 ≤ ah := by clear t2 t3 l1 hg' hbh t0; omega
    have a2 : ah ≤ ld := by clear t2 t3 l1 hg' hbh t0 l0 a1; omega
    have b1 : 0 ≤ bh := by clear t2 t3 l1 hg' l0 a1; omega
    have b2 : bh ≤ tr := by clear t2 t3 l1 hg' l0 a1 a2 b1 t0 hah; omega
    rcases t2 with t2 | t2
    · exact ⟨a1, b1, by clear hah hbh t3 l1 hg' ha l0 t0 a1 b1; omega, t3.imp (fun e => by clear t2 l1 hg' ha l0 t0 a1 hah hbh; omega) id⟩
    · have c1 := hg' t2
      have c2 : bh = 0 := by rw [t2] at hah hbh; clear l1 hg' t3 a1 a2 b2 l0; omega
      exact ⟨a1, b1, by clear hah hbh t3 t2 hg' ha l0 t0 a1 b1 b2 c1; omega, .inl c2⟩
theorem slice_cps (x : Str) {a b : Nat} (hab : a ≤ b) (hb : b ≤ x.cps.toList.length) : (Txt.slice x (some (a : Int)) (some (b : Int))).cps.toList = (x.cps.toList.drop a).take (b - a) := by
  have hx : x.length = x.cps.toList.length := by simp [Str.length]
  have h := StrLaws.sliced_plain x hab (by omega)
  have hi := StrLaws.strSliceIndices_plain (len := x.length) hab (by omega)
  unfold Txt.slice
  split
  · rename_i hc
    simp only [beq_self_eq_true, Bool.true_and, beq_iff_eq] at hc
    rw [hi, List.length_map, List.length_range] at hc
    have e1 : a = 0 := by omega
    have e2 : b = x.cps.toList.length := by omega
    subst e1; subst e2
    rw [List.drop_zero, List.take_of_length_le (by simp)]
  · show List.filterMap _ _ = _
    exact h
theorem eqq_cps : (Str.ofString "==").cps.toList = [61, 61] := by decide +kernel
theorem app_cps (x y : Str) : (x ++ y).cps.toList = x.cps.toList ++ y.cps.toList := by
  show (x.cps ++ y.cps).toList = _
  simp
theorem chr64 {p q : UInt8} {bl : Int} (ha : Alt p q bl) : chr p q 64 = 61 := by
  rcases ha with ⟨rfl, rfl, rfl⟩ | ⟨rfl, rfl, rfl⟩ <;> decide +kernel
/-- what is left of the figures -/
theorem left_figs {C : List Int} {n a b : Nat} (hab : a + b ≤ C.length) (hb : b = 0 ∨ n = 0) : ((C ++ List.replicate n (64 : Int)).drop a).take (C.length + n - b - a) = (C.drop a).take (C.length - a - b) ++ List.replicate n 64 := by
  rcases hb with rfl | rfl
  · rw [List.drop_append_of_le_length (by omega), List.take_of_length_le (by simp; omega), List.take_of_length_le (by simp)]
  · have e : C.length + 0 - b - a = C.length - a - b := by omega
    rw [List.replicate_zero, List.append_nil, List.append_nil, e]
theorem num_left {C : List Int} (hC : DigB 64 C) {a b : Nat} (hab : a + b ≤ C.length) : vB 64 C % 64 ^ (C.length - a) / 64 ^ b = vB 64 ((C.drop a).take (C.length - a - b)) := by
  have hd : DigB 64 (C.drop a) := fun d h => hC d (List.mem_of_mem_drop h)
  have e1 := vB_mod (b := 64) (by decide) (xs := C.take a) hd
  rw [List.take_append_drop, List.length_drop] at e1
  rw [e1]
  have hd2 : DigB 64 ((C.drop a).drop (C.length - a - b)) := fun d h => hd d (List.mem_of_mem_drop h)
  have e2 := vB_div (b := 64) (by decide) (xs := (C.drop a).take (C.length - a - b)) hd2
  rw [List.take_append_drop, List.length_drop, List.length_drop] at e2
  have e3 : C.length - a - (C.length - a - b) = b := by omega
  rw [e3] at e2
  exact e2
theorem byteArr_size (ns : List Int) : (byteArr ns).size = ns.length := by simp [byteArr]
theorem byteArr_toList (ns : List Int) : (byteArr ns).toList = ns.map fun n => n.toNat.toUInt8 := by simp [byteArr]
theorem pF_zero {n : Nat} (h : pF n = 0) : n % 3 = 0 := by
  unfold pF at h
  (repeat' split at h) <;> omega
theorem pF_le (n : Nat) : pF n ≤ 2 := by
  unfold pF
  (repeat' split) <;> decide
theorem ar_take {n j : Nat} (h : 3 * j ≤ n) : (n - 3 * j + 2) / 3 * 4 ≤ (4 * n + 2) / 3 + pF n - 4 * 0 - 4 * j := by
  unfold pF
  (repeat' split) <;> omega
theorem ar_both {n j k : Nat} (h3 : n % 3 = 0) (h : 3 * j + 3 * k ≤ n) : (min (n - 3 * k - 3 * j) (n - 3 * j) + 2) / 3 * 4 = (4 * n + 2) / 3 + 0 - 4 * k - 4 * j := by
  obtain ⟨m, rfl⟩ : ∃ m, n = 3 * m := ⟨n / 3, by omega⟩
  clear h3
  rw [Nat.min_eq_left (by omega)]
  omega
/-- the row without three octets for each four figures that are gone -/
theorem inner_math {ns : List Int} (h : KBa.In ns) {a b : Nat} (hab : a + b ≤ (cF ns).length) (hb : b = 0 ∨ pF ns.length = 0) (h4 : a % 4 = 0) (h5 : b % 4 = 0) :
    ∃ inn, KBy.picked (byteArr ns) (some ((a : Int).fdiv 4 * 3)) (some ((ns.length : Int) - (b : Int).fdiv 4 * 3)) = byteArr inn ∧ KBa.In inn ∧ inn.length ≤ ns.length ∧
      fF inn = ((cF ns).drop a).take ((cF ns).length - a - b) ++ List.replicate (pF ns.length) 64 := by
  obtain ⟨j, rfl⟩ : ∃ j, a = 4 * j := ⟨a / 4, by omega⟩
  obtain ⟨k, rfl⟩ : ∃ k, b = 4 * k := ⟨b / 4, by omega⟩
  have hCl := cF_len ns
  have hjk : 3 * j + 3 * k ≤ ns.length := by omega
  have f1 : ((4 * j : Nat) : Int).fdiv 4 * 3 = ((3 * j : Nat) : Int) := by rw [fdiv_lit _ (by decide)]; omega
  have f2 : (ns.length : Int) - ((4 * k : Nat) : Int).fdiv 4 * 3 = ((ns.length - 3 * k : Nat) : Int) := by rw [fdiv_lit _ (by decide)]; omega
  refine ⟨(ns.drop (3 * j)).take (ns.length - 3 * k - 3 * j), ?_, fun n hn => h n (List.mem_of_mem_drop (List.mem_of_mem_take hn)), by rw [List.length_take, List.length_drop]; omega, ?_⟩
  · rw [f1, f2, KBc.picked_eq]
    simp only [Option.elim, byteArr_size, clipAt_nat, byteArr_toList]
    have m1 : min (3 * j) ns.length = 3 * j := by omega
    have m2 : min (ns.length - 3 * k) ns.length = ns.length - 3 * k := by omega
    rw [m1, m2, ← List.map_drop, ← List.map_take]
    rfl
  · rw [← left_figs hab hb]
    clear f1 f2 h4 h5 h
    have q1 : fF ns = fF (ns.take (3 * j)) ++ fF (ns.drop (3 * j)) := by
      have := fF_append (ns.take (3 * j)) (ns.drop (3 * j)) (by rw [List.length_take]; omega)
      rwa [List.take_append_drop] at this
    have q2 : (fF (ns.take (3 * j))).length = 4 * j := by rw [fF_len, List.length_take]; omega
    have q3 : (cF ns ++ List.replicate (pF ns.length) 64).drop (4 * j) = fF (ns.drop (3 * j)) := by
      show (fF ns).drop (4 * j) = _
      rw [q1, ← q2, List.drop_left]
    rw [q3]
    clear q1 q2 q3
    by_cases hk : k = 0
    · subst hk
      clear hb hab
      have r1 : (ns.drop (3 * j)).take (ns.length - 3 * 0 - 3 * j) = ns.drop (3 * j) := List.take_of_length_le (by rw [List.length_drop]; exact Nat.le_refl _)
      rw [r1, List.take_of_length_le]
      rw [fF_len, List.length_drop, hCl]
      exact ar_take (by omega)
    · have hn : pF ns.length = 0 := hb.resolve_left (by omega)
      clear hb hk hab
      have h3 := pF_zero hn
      have r1 := fF_append ((ns.drop (3 * j)).take (ns.length - 3 * k - 3 * j)) ((ns.drop (3 * j)).drop (ns.length - 3 * k - 3 * j)) (by rw [List.length_take, List.length_drop]; omega)
      rw [List.take_append_drop] at r1
      have r2 : (fF ((ns.drop (3 * j)).take (ns.length - 3 * k - 3 * j))).length = (cF ns).length + pF ns.length - 4 * k - 4 * j := by
        rw [fF_len, List.length_take, List.length_drop, hCl, hn]
        exact ar_both h3 hjk
      rw [r1, ← r2, List.take_left]
theorem turn_math {p q : UInt8} {bl : Int} (ha : Alt p q bl) {ns : List Int} (h : KBa.In ns) (hlen : ns.length ≤ 12) {ct nb : Int} (hc : ct = ((ns.length : Int) * 4 + 2).fdiv 3) (hn : nb = ns.foldl (fun a b => a * 256 + b) 0 * 2 ^ (ct * 6 - (ns.length : Int) * 8).toNat) {figs : List Int} (hf : figs = figL nb ct) {X : Str} (hX : X = txt p q ns)
    {ld tr am ah bh : Int} (hld : ld = leadI bl figs) (htr : tr = leadI bl figs.reverse) (hg : ¬ goneNo ld (figs.length : Int) am) (hah : ah = ahd ld am) (hbh : bh = bhd ld tr am) {Y Z : Str} (hY : Y = Txt.slice X (some ah) (some ((figs.length : Int) - bh))) (hZ : Z = Y ++ Str.ofString "==") :
    (∀ c ∈ Y.cps.toList, c < 128) ∧ Y.cps.size ≤ 38 ∧ 0 ≤ bh ∧ bh ≤ 16 ∧ 0 ≤ ct - ah ∧ ct - ah ≤ 16 ∧ 0 ≤ ct - ah - bh ∧ ct - ah - bh ≤ 16 ∧ (∀ c ∈ Z.cps.toList, c < 128) ∧ Z.cps.size ≤ 40 ∧ 2 ≤ (aSt (dIn p q Z)).2.2.2 ∧
    (aSt (dIn p q Z)).2.1 = (ct - ah - bh).fmod 4 ∧ (aSt (dIn p q Z)).1 = octL ((nb.fmod (64 ^ (ct - ah).toNat)).fdiv (64 ^ bh.toNat)) (ct - ah - bh) ∧
    (ah.fmod 4 = 0 → bh.fmod 4 = 0 → ∃ inn, KBy.picked (byteArr ns) (some (ah.fdiv 4 * 3)) (some ((ns.length : Int) - bh.fdiv 4 * 3)) = byteArr inn ∧ KBa.In inn ∧ inn.length ≤ 20 ∧ trans (mtab #[43, 47] #[p, q]) (byteArr (b2aL inn)) = Y.cps.map (·.toUInt8)) := by
  obtain ⟨e1, e2⟩ := nb_is ns hc hn
  have ef : figs = fF ns := hf.trans (figL_is h e1 e2)
  clear hn hf hc
  have hCl := cF_len ns
  have hFl : (fF ns).length = (cF ns).length + pF ns.length := by unfold fF; simp
  have hfl : figs.length = (cF ns).length + pF ns.length := by rw [ef]; exact hFl
  have hbl : bl ≤ 63 := by rcases ha with h | h <;> omega
  obtain ⟨g1, g2, g3, g4⟩ := gone_nums (bl := bl) hbl (C := cF ns) (n := pF ns.length) (ld := ld) (tr := tr) (am := am) (ah := ah) (bh := bh) (by rw [hld, leadI_tw, ef]; rfl) (by rw [htr, leadI_tw, ef]; rfl) (by rw [← hfl]; exact hg) hah hbh
  clear hah hbh hg hld htr
  obtain ⟨a, rfl⟩ : ∃ a : Nat, ah = a := ⟨ah.toNat, by omega⟩
  obtain ⟨b, rfl⟩ : ∃ b : Nat, bh = b := ⟨bh.toNat, by omega⟩
  have hab : a + b ≤ (cF ns).length := by omega
  have hb0 : b = 0 ∨ pF ns.length = 0 := by omega
  have hpF : pF ns.length ≤ 2 := pF_le _
  have hC16 : (cF ns).length ≤ 16 := by clear hab hb0 g1 g2 g3 g4 hfl hFl; omega
  have hC := cF_dig ns h
  have hin : a % 4 = 0 → b % 4 = 0 → ∃ inn, KBy.picked (byteArr ns) (some ((a : Int).fdiv 4 * 3)) (some ((ns.length : Int) - (b : Int).fdiv 4 * 3)) = byteArr inn ∧ KBa.In inn ∧ inn.length ≤ 20 ∧
      fF inn = ((cF ns).drop a).take ((cF ns).length - a - b) ++ List.replicate (pF ns.length) 64 := fun h4 h5 => by
    obtain ⟨inn, i1, i2, i3, i4⟩ := inner_math h hab hb0 h4 h5
    exact ⟨inn, i1, i2, Nat.le_trans i3 (Nat.le_trans hlen (by decide)), i4⟩
  have hlf := left_figs hab hb0
  clear g1 g2 g3 g4 hb0 hCl hbl hlen
  obtain ⟨K, hK⟩ : ∃ K, K = ((cF ns).drop a).take ((cF ns).length - a - b) := ⟨_, rfl⟩
  have hKl : K.length = (cF ns).length - a - b := by rw [hK, List.length_take, List.length_drop]; omega
  have hKd : DigB 64 K := by rw [hK]; exact fun d hd => hC d (List.mem_of_mem_drop (List.mem_of_mem_take hd))
  have hXc : X.cps.toList = (fF ns).map (chr p q) := by rw [hX]; exact txt_cps p q h
  have hXl : X.cps.toList.length = (cF ns).length + pF ns.length := by rw [hXc, List.length_map, hFl]
  have hYc : Y.cps.toList = (K ++ List.replicate (pF ns.length) 64).map (chr p q) := by
    have e4 : ((figs.length : Int) - (b : Int)) = (((cF ns).length + pF ns.length - b : Nat) : Int) := by rw [hfl]; omega
    rw [hY, e4, slice_cps X (by clear e4 hXl; omega) (by rw [hXl]; exact Nat.sub_le _ _), hXc, ← List.map_drop, ← List.map_take, hK, ← hlf]
    rfl
  clear hXl hXc hFl hfl hY hX
  have hfigK : ∀ m, Fig (K ++ List.replicate m 64) := by
    intro m f hf
    rcases List.mem_append.mp hf with h1 | h1
    · have := hKd f h1; omega
    · rw [List.eq_of_mem_replicate h1]; decide
  have hZc : Z.cps.toList = (K ++ List.replicate (pF ns.length + 2) 64).map (chr p q) := by
    have e5 : List.replicate (pF ns.length + 2) (64 : Int) = List.replicate (pF ns.length) 64 ++ [64, 64] := (List.replicate_append_replicate (n := pF ns.length) (m := 2)).symm
    rw [hZ, app_cps, hYc, eqq_cps, e5, ← List.append_assoc, List.map_append (l₂ := [64, 64])]
    simp only [List.map_cons, List.map_nil, chr64 ha]
  have hdI := dIn_of ha hZc (hfigK _)
  obtain ⟨s1, s2, s3⟩ := aSt_figs K (pF ns.length + 2) hKd
  rw [← hdI] at s1 s2 s3
  have hYs : Y.cps.size = K.length + pF ns.length := by
    have e6 : Y.cps.size = Y.cps.toList.length := by simp
    rw [e6, hYc]; simp
  have hZs : Z.cps.size = K.length + (pF ns.length + 2) := by
    have e6 : Z.cps.size = Z.cps.toList.length := by simp
    rw [e6, hZc]; simp
  have hkp : ct - (a : Int) - (b : Int) = (K.length : Int) := by clear hYs hZs s3 s2 hpF hC16; omega
  have hv : (nb.fmod (64 ^ (ct - (a : Int)).toNat)).fdiv (64 ^ ((b : Int)).toNat) = vB 64 K := by
    have t1 : (ct - (a : Int)).toNat = (cF ns).length - a := by clear hYs hZs s3 s2 hkp hC16 hpF hKl; omega
    have t2 : ((b : Int)).toNat = b := Int.toNat_natCast b
    rw [t1, t2, Int.fmod_eq_emod_of_nonneg _ (Int.le_of_lt (Int.pow_pos (by decide))), Int.fdiv_eq_ediv_of_nonneg _ (Int.le_of_lt (Int.pow_pos (by decide))), e2, num_left hC hab, hK]
  refine ⟨ascii_of ha hYc (hfigK _), by clear hZs s3 s2 hkp; omega, Int.natCast_nonneg _, by clear hYs hZs s3 s2 hkp; omega, by clear hYs hZs s3 s2 hkp; omega, by clear hYs hZs s3 s2 hkp; omega, by rw [hkp]; exact Int.natCast_nonneg _, by clear hYs hZs s3 s2; omega, ascii_of ha hZc (hfigK _), by clear hYs s3 s2 hkp; omega, by clear hYs hZs s2 hkp hKl hab hC16; omega, ?_, ?_, ?_⟩
  · rw [s2, hkp, fmod_lit _ (by decide)]; rfl
  · rw [s1, hv, hkp]; exact (octL_dF hKd rfl rfl).symm
  · intro h4 h5
    rw [fmod_lit _ (by decide)] at h4 h5
    obtain ⟨inn, i1, i2, i3, i4⟩ := hin (by clear h5; omega) (by clear h4; omega)
    refine ⟨inn, i1, i2, i3, ?_⟩
    have t1 := txt_cps p q i2
    rw [i4, ← hK, ← hYc] at t1
    have t2 : Y.cps = (byteArr (encI p q inn)).map (·.toNat) := (Array.toList_inj.mp t1).symm
    rw [trans_byteArr, t2]
    show byteArr (encI p q inn) = _
    apply Array.toList_inj.mp
    simp only [Array.toList_map, List.map_map]
    conv => lhs; rw [← List.map_id (byteArr (encI p q inn)).toList]
    apply List.map_congr_left
    intro u _
    simp
end Mine
end

section
open PySem PySem.W PyProof.Rows PySem.Spec PySem.Calls
namespace Mine

theorem mulOk2 {a k : Int} (hk : k ≤ 16) : IntMulOk a (2 ^ k.toNat) := by
  refine PySem.IntMulOk.of_right (PySem.intBits_le_64 ?_ ?_)
  · have : (0 : Int) ≤ 2 ^ k.toNat := Int.le_of_lt (Int.pow_pos (by decide))
    omega
  · have h : (2 : Int) ^ k.toNat ≤ 2 ^ 16 := by exact_mod_cast Nat.pow_le_pow_right (n := 2) (by decide) (by omega)
    omega
section
variable {prog : Program} {w : World} {A : Around} {E : Value → Shared → Prop} {s : Shared} {Q : Value → Shared → Prop}
theorem mulN {a b N : Int} {t u : Tok} (e : N = a * b) (hm : IntMulOk a b) (h : Q (.int N s.toks) { s with toks := s.toks + 1 }) : wpAny (model prog w) A (binaryOp .Mult (.int a t) (.int b u)) Q E s := mul_int (e ▸ h) hm
theorem fdN {a N : Int} {t u : Tok} (e : N = a.fdiv 3) (h : Q (.int N s.toks) { s with toks := s.toks + 1 }) : wpAny (model prog w) A (binaryOp .FloorDiv (.int a t) (.int 3 u)) Q E s :=
  floordiv_int (by decide) (e ▸ h) (Or.inl (PyProof.noPylong_of_log2 (by decide)))
theorem r_addI {h₀ : Heap} {L l b : Addr} {m : Str → Option Value} {news : List (Addr × Obj)} {xs ys : List Value} {n k : Nat} {x y c : List Int} (F : Fr h₀ L s.heap m) (N : News h₀ L s.heap news) (h1 : (l, W.listOf xs.toArray n) ∈ news) (h2 : (b, W.listOf ys.toArray k) ∈ news)
    (i1 : IntsAre xs x) (i2 : IntsAre ys y) (e : c = x ++ y) (hz : c.length ≤ 16777216)
    (h : ∀ D h' vs, Fr h₀ L h' m → News h₀ L h' ((D, W.listOf vs.toArray 0) :: news) → IntsAre vs c → (∀ p ∈ news, p.1 < D) → Q (.ref D) { s with heap := h' }) :
    wpAny (model prog w) A (binaryOp .Add (.ref l) (.ref b)) Q E s :=
  r_add F N h1 h2 (by rw [i1.length, i2.length]; rw [e, List.length_append] at hz; exact hz) fun D h' F' N' l => h D h' _ F' N' (e ▸ i1.append i2) l
end
theorem news_sub {h₀ h' : Heap} {L : Addr} {a b : List (Addr × Obj)} (N : News h₀ L h' a) (hs : ∀ p ∈ b, p ∈ a) : News h₀ L h' b := fun p hp => N p (hs p hp)
theorem news_ends {h₀ h' : Heap} {L : Addr} {a b c d e f : Addr × Obj} (N : News h₀ L h' [a, b, c, d, e, f]) : News h₀ L h' [a, f]   := news_sub N fun p hp => by
  rcases List.mem_cons.mp hp with rfl | hp
  · exact List.mem_cons_self
  · rcases List.mem_cons.mp hp with rfl | hp
    · simp
    · cases hp
theorem c_leadN (l : Addr) (vs : List Value) (ns : List Int) (k : Nat) (b r : Int) (t : Tok) (hi : IntsAre vs ns) (hlen : ns.length ≤ 20) (e : r = leadI b ns) : GivesH 126 [.ref l, .int b t] [] 6 200 (fun h => h.get? l = some (W.listOf vs.toArray k)) (fun v => ∃ t, v = .int r t) := by
  subst e; exact c_lead l vs ns k hi hlen b t
theorem holds_txt {p q : UInt8} {bl : Int} (ha : Alt p q bl) {ns : List Int} (h : KBa.In ns) (hlen : ns.length ≤ 12) {ct nb : Int} (hc : ct = ((ns.length : Int) * 4 + 2).fdiv 3) (hn : nb = ns.foldl (fun a b => a * 256 + b) 0 * 2 ^ (ct * 6 - (ns.length : Int) * 8).toNat) {figs : List Int} (hf : figs = figL nb ct) {X : Str} (hX : X = txt p q ns) :
    (∀ c ∈ X.cps.toList, c < 128) ∧ X.cps.size ≤ 40 ∧ ldN X.cps.toList = leadI bl figs ∧ ldN X.cps.toList.reverse = leadI bl figs.reverse ∧ (X.cps.toList.length : Int) = (figs.length : Int) := by
  obtain ⟨e1, e2⟩ := nb_is ns hc hn
  have e3 := figL_is h e1 e2
  subst hX
  rw [hf, e3]
  have e4 := txt_cps p q h
  refine ⟨ascii_of ha e4 (fF_fig h), ?_, (txt_ld ha h).1, (txt_ld ha h).2, by rw [e4, List.length_map]⟩
  have e5 : (txt p q ns).cps.size = (txt p q ns).cps.toList.length := by simp
  rw [e5, e4, List.length_map, fF_len]; omega
theorem len_strN {prog : Program} {w : World} {A : Around} {E : Value → Shared → Prop} {s : Shared} {x : Str} {t : Tok} {k : Int} {Q : Value → Shared → Prop} (e : (x.cps.toList.length : Int) = k) (hs : x.cps.size ≤ 40) (h : ∀ t' n, Q (.int k t') { s with toks := n }) : wpAny (model prog w) A (call (.builtin "len") [.str x t]) Q E s := by
  have e1 : x.length = x.cps.size := rfl
  have e2 : (x.length : Int) = k := by rw [e1, ← e]; simp
  refine len_str (by omega) ?_
  rw [e2]; exact h _ _
theorem addEq {prog : Program} {w : World} {A : Around} {E : Value → Shared → Prop} {s : Shared} {x z : Str} {t u : Tok} {Q : Value → Shared → Prop} (e : z = x ++ Str.ofString "==") (hs : x.cps.size ≤ 38) (h : ∀ t' n, Q (.str z t') { s with toks := n }) : wpAny (model prog w) A (binaryOp .Add (.str x t) (.str (Str.ofString "==") u)) Q E s := by
  have e2 : (Str.ofString "==").length = 2 := by decide +kernel
  have e1 : x.length = x.cps.size := rfl
  refine add_str (fun t' n => e ▸ h t' n) ?_
  rw [e2, e1, sizeLine_eq]; omega
theorem ne_killS {x y : Str} (h : (x != y) = true) (e : x = y) : False := by subst e; simp at h
theorem ne_killB {x : List UInt8} (h : (x != x) = true) : False := by simp at h
theorem enc_in {b B : Array UInt8} {ns : List Int} {t t2 : Tok} {p q : UInt8} (e : b = byteArr ns) (h : KBa.In ns) (hl : ns.length ≤ 20) (eB : trans (mtab #[43, 47] #[p, q]) (byteArr (b2aL ns)) = B) : Gives 101 [.bytes b t, .bytes #[p, q] t2] [] 6 200 (fun v => ∃ t, v = .bytes B t) := by
  subst e; subst eB; exact c_enc ns h hl t t2 p q
theorem no_ct {n : Nat} {ct ah bh : Int} (hc : ct = ((n : Int) * 4 + 2).fdiv 3) (h : (ct - ah - bh).fmod 4 = 1) (h1 : ah.fmod 4 = 0) (h2 : bh.fmod 4 = 0) : False := by
  rw [fdiv_lit _ (by decide)] at hc
  rw [fmod_lit _ (by decide)] at h h1 h2
  omega
theorem turn_end {fs : List Addr} {g₀ g g9 : Heap} {PG : Heap → Prop} {L : Addr} {names : List Str} {m m0 : Str → Option Value} {news : List (Addr × Obj)} {s : Shared} {h : Heap} {tk : Nat} (T : KtsTurn fs g₀ g) (T9 : KtsTurn fs g g9) (hP : PG g9) (F : Fr g9 L h m) (N : News g9 L h news) (hm : ∀ z, names.contains z = false → m z = m0 z) : TurnAt fs g₀ PG L names m0 news s { s with heap := h, toks := tk } :=
  ⟨g9, m, h, tk, rfl, T.trans T9, hP, mU_of hm ▸ F, N⟩
theorem mt_if {names : List Str} {z x : Str} {v r t : Option Value} (hz : names.contains z = false) (hx : names.contains x = true) (h : r = t) : (if z = x then v else r) = t := by
  rw [if_neg (fun e => by rw [e, hx] at hz; cases hz)]; exact h
theorem mt_end {names : List Str} {z : Str} {u t : Option Value} (hz : names.contains z = false) : (if names.contains z = true then u else t) = t := if_neg (by rw [hz]; decide)
theorem news_4 {h₀ h' : Heap} {L : Addr} {x0 x1 x2 x3 : Addr × Obj} (N : News h₀ L h' [x0, x1, x2, x3]) : News h₀ L h' [x2, x3] := news_sub N fun _ hp => .tail _ (.tail _ hp)
theorem figL_len (nb ct : Int) (h0 : 0 ≤ ct) : ((figL nb ct).length : Int) = ct + (-ct).fmod 4 := by
  have := Int.fmod_nonneg_of_pos (-ct) (b := 4) (by decide)
  simp [figL, rangeKs_length]; omega
theorem r_decodeX {prog : Program} {w : World} {A : Around} {E : Value → Shared → Prop} {s : Shared} {Q : Value → Shared → Prop} {p q : UInt8} {ns : List Int} {X : Str} {t t1 : Tok} (e : X = txt p q ns) (ha : ∀ c ∈ X.cps.toList, c < 128) (hl : X.cps.size ≤ 40) (h : ∀ t' k, Q (.str X t') { s with toks := k }) :
    wpAny (model prog w) A (call (.builtin "bytes.decode") [.bytes (trans (mtab #[43, 47] #[p, q]) (byteArr (b2aL ns))) t, .str (PySem.Str.ofString "ascii") t1]) Q E s := by
  have e1 : trans (mtab #[43, 47] #[p, q]) (byteArr (b2aL ns)) = byteArr (encI p q ns) := trans_byteArr _ _
  rw [e1]
  subst e
  refine r_decode (fun c hc => ha _ ?_) (by simpa [txt] using Nat.le_trans hl (by decide)) h
  simp only [txt, Array.toList_map]
  exact List.mem_map_of_mem hc

local macro_rules | `(tactic| walk_at $s:str) => `(tactic| k_extra $s)
set_option maxRecDepth 100000 in
set_option maxHeartbeats 8000000 in
theorem c_holds (ns : List Int) (hns : KBa.In ns) (hlen : ns.length ≤ 12) (t t2 t3 : Tok) (p q : UInt8) (bl : Int) (halt : Alt p q bl) : GivesS 152 [.bytes (byteArr ns) t, .bytes #[p, q] t2, .int bl t3] [] 14 500 (fun v => v = .bool true) := by
  have fill : ∀ (w : World) (h : Heap), PySem.Challenge.rw_pa0023_01 = PySem.Challenge.rw_pa0023_01 → (Mine.hd.heap_39 w.params).In h → True := by k_fill; intros; trivial
  clear fill
  w_on
  k_with_none
  (k_with "binaryOp FloorDiv int int" => (k_here; (with_reducible show wpAny _ _ (binaryOp _ (Value.int _ _) (Value.int 3 _)) _ _ _); k_dflt (refine fdN (by assumption) ?_)))
  (k_with "binaryOp Mult int int" => (k_here; (with_reducible show wpAny _ _ (binaryOp _ (Value.int _ _) (Value.int (_ ^ Int.toNat _) _)) _ _ _); k_dflt (refine mulN (by assumption) (mulOk2 (by omega)) ?_)))
  (k_with "binaryOp Add ref ref" => (k_here; refine hold ?_))
  (k_with "exec For Name Call cons nil" => (k_here; refine hold ?_))
  (k_with "binaryOp FloorDiv int int" => (k_here; (with_reducible show wpAny _ _ (binaryOp _ (Value.int _ _) (Value.int (_ ^ Int.toNat _) _)) _ _ _); refine floorP (by decide) (by decide) (by omega) ?_))
  (k_with "call builtin:bytes.decode" => (k_here; k_dflt (refine r_decodeX (by assumption) (by assumption) (by assumption) ?_); intro _ _))
  (k_with "call ref" => (k_here; k_dflt (refine' Gives.use (c_number _ (by assumption) (by omega) _) (by k_asm) (by k_asm) (by k_asm) (by exact rfl) (by ktr_room) (by ktr_units) ?_); intro v9 h9 tk9 hv9 F9 N9; obtain ⟨t9, hv9⟩ := hv9; subst hv9; (try dsimp only); (try k_fold)))
  (k_with "call ref" => (k_here; k_dflt (refine' Gives.use (c_enc _ (by assumption) (by omega) _ _ _ _) (by k_asm) (by k_asm) (by k_asm) (by exact rfl) (by ktr_room) (by ktr_units) ?_); intro v9 h9 tk9 hv9 F9 N9; obtain ⟨t9, hv9⟩ := hv9; subst hv9; (try dsimp only); (try k_fold)))
  (k_with "call ref" => (k_here; k_dflt (refine' GivesH.use (c_leadN _ _ _ _ _ _ _ (by assumption) (by (first | omega | (simp; omega))) (by assumption)) (by k_asm) (by k_asm) (by k_asm) (by exact rfl) (by ktr_room) (by ktr_units) (by exact News.get (by k_asm) (by k_mem)) ?_); intro v9 h9 tk9 hv9 F9 N9; obtain ⟨t9, hv9⟩ := hv9; subst hv9; (try dsimp only); (try k_fold)))
  (k_with "call ref" => (k_here; k_dflt (refine' Gives.use (gone_no (by assumption)) (by k_asm) (by k_asm) (by k_asm) (by exact rfl) (by ktr_room) (by ktr_units) ?_); intro v9 h9 tk9 hv9 F9 N9; (try subst hv9); (try dsimp only); (try k_fold)))
  (k_with "call ref" => (k_here; k_dflt (refine' gone_yes (by assumption) (by assumption) (by assumption) (by k_asm) (by k_asm) (by k_asm) (by exact rfl) (by ktr_room) (by ktr_units) ?_); intro D9 t9 u9 h9 tk9 F9 N9; (try dsimp only); (try k_fold)))
  (k_with "getMethod str" => (k_here; (with_reducible refine m_encode ?_)))
  (k_with "call builtin:str.encode" => (k_here; (refine r_encode (by assumption) (by omega) ?_); intro _ _))
  (k_with "call builtin:len" => (k_here; (with_reducible show wpAny _ _ (call (Value.builtin "len") [Value.str _ _]) _ _ _); refine len_strN (by assumption) (by assumption) ?_; intro _ _))
  (k_with "binaryOp Add str str" => (k_here; refine addEq (by assumption) (by assumption) ?_; intro _ _))
  (k_with "call ref" => (k_here; k_dflt (refine' GivesS.use (left_no (by assumption) (by assumption) (by assumption) (by assumption)) (by k_asm) (by k_asm) (by k_asm) (by exact rfl) (by ktr_room) (by ktr_units) ?_); intro v9 h9 tk9 g9 hv9 Tn9 G9 F9 N9; subst hv9; have B9 := G9.B; have X9 := G9.X; have T9 := G9.T; (try dsimp only); (try k_fold)))
  (k_with "call ref" => (k_here; k_dflt (refine' GivesS.use (left_yes (by assumption) (by assumption) (by assumption) (by assumption) (by assumption) (by assumption) (by assumption) (by assumption)) (by k_asm) (by k_asm) (by k_asm) (by exact rfl) (by ktr_room) (by ktr_units) ?_); intro v9 h9 tk9 g9 hv9 Tn9 G9 F9 N9; obtain ⟨t9, hv9⟩ := hv9; subst hv9; have B9 := G9.B; have X9 := G9.X; have T9 := G9.T; (try dsimp only); (try k_fold)))
  (k_with "call ref" => (k_here; k_dflt (refine' GivesS.use (read_any (by assumption) (by assumption) (by assumption) (by assumption) (by assumption)) (by k_asm) (by k_asm) (by k_asm) (by exact rfl) (by ktr_room) (by ktr_units) ?_); intro v9 h9 tk9 g9 hv9 Tn9 G9 F9 N9; have B9 := G9.B; have X9 := G9.X; have T9 := G9.T; rcases hv9 with ⟨hq9, hv9⟩ | ⟨hq9, t9, hv9⟩ <;> subst hv9 <;> (try dsimp only) <;> (try k_fold)))
  (k_with "call ref" => (k_here; k_dflt (refine' Gives.use (c_oct _ _ _ _ (by assumption) (by assumption)) (by k_asm) (by k_asm) (by k_asm) (by exact rfl) (by ktr_room) (by ktr_units) ?_); intro v9 h9 tk9 hv9 F9 N9; obtain ⟨t9, hv9⟩ := hv9; subst hv9; (try dsimp only); (try k_fold)))
  intro w mean mg mb dp un gd cn cs a ccd cl outer A₀ base h₀ L m news s Q E G F N hk hd hu hret
  k_dflt (refine' goSC ?G ?F ?N ?kA ?kF ?kK ?k6 ?k7 ?k8 ?k9 ?kB ?kD ?_ ?c2 ?c3 ?c4; (case G => exact G); (case F => exact F); (case N => exact N); (case kA => exact rfl); (case kF => exact rfl); (case kK => exact hk); (case k6 => k_is); (case k7 => k_is); (case k8 => ktr_room); (case k9 => intro X9; first | exact BindsTo.of_eq rfl | exact binds_K X9 rfl (by k_is) rfl rfl rfl | exact kp_binds X9 (fun _ => by with_unfolding_all rfl)); (case kB => exact rfl); (case kD => decide +kernel); (case c2 => exact rfl); (case c3 => exact rfl); (case c4 => exact rfl); k_whole; intro L' h' tk' cells' F' N' Y' G'; have B' := G'.B; have X' := G'.X; have T' := G'.T; k_cells Y'; (try simp only [List.cons_append, List.nil_append] at N'); (try dsimp only); (try k_fold))
  refine absQ fun QQ hQQ => ?_
  obtain ⟨ct, hct⟩ : ∃ ct, ct = ((ns.length : Int) * 4 + 2).fdiv 3 := ⟨_, rfl⟩
  obtain ⟨nb, hnb⟩ : ∃ nb, nb = ns.foldl (fun a b => a * 256 + b) 0 * 2 ^ (ct * 6 - (ns.length : Int) * 8).toNat := ⟨_, rfl⟩
  have hc0 : 0 ≤ ct := by rw [hct, fdiv_lit _ (by decide)]; omega
  have hc1 : ct ≤ 16 := by rw [hct, fdiv_lit _ (by decide)]; omega
  have hc2 : (ns.length : Int) * 8 ≤ ct * 6 := by rw [hct, fdiv_lit _ (by decide)]; omega
  have hc3 : ct * 6 - (ns.length : Int) * 8 ≤ 4 := by rw [hct, fdiv_lit _ (by decide)]; omega
  have hm0 : 0 ≤ (-ct).fmod 4 := Int.fmod_nonneg_of_pos _ (by decide)
  have hm1 : (-ct).fmod 4 < 4 := Int.fmod_lt_of_pos _ (by decide)
  obtain ⟨figs, hfig⟩ : ∃ figs, figs = figL nb ct := ⟨_, rfl⟩
  have hfl : (figs.length : Int) = ct + (-ct).fmod 4 := by rw [hfig]; exact figL_len _ _ hc0
  obtain ⟨ld, hld⟩ : ∃ ld, ld = leadI bl figs := ⟨_, rfl⟩
  obtain ⟨tr, htr⟩ : ∃ tr, tr = leadI bl figs.reverse := ⟨_, rfl⟩
  have hl0 : 0 ≤ ld := by rw [hld, leadI_tw]; exact tw_nonneg _ _
  have hl1 : ld ≤ (figs.length : Int) := by rw [hld, leadI_tw]; exact tw_le _ _
  have ht0 : 0 ≤ tr := by rw [htr, leadI_tw]; exact tw_nonneg _ _
  have ht1 : tr ≤ (figs.length : Int) := by rw [htr, leadI_tw]; have := tw_le bl figs.reverse; rwa [List.length_reverse] at this
  obtain ⟨X, hX⟩ : ∃ X, X = txt p q ns := ⟨_, rfl⟩
  obtain ⟨hXa, hXl, m3, m4, m5⟩ := holds_txt halt hns hlen hct hnb hfig hX
  have ex1 : ldN X.cps.toList = ld := m3.trans hld.symm
  have ex2 : ldN X.cps.toList.reverse = tr := m4.trans htr.symm
  have ex3 : (X.cps.toList.length : Int) = (figs.length : Int) := m5
  clear m3 m4 m5
  k_steps
  unfold Hold
  k_dflt (refine' r_addI (c := figs) ?F ?N ?h1 ?h2 ?i1 ?i2 ?e ?hz ?_; (case F => k_asm); (case N => k_asm); (case h1 => k_mem); (case h2 => k_mem); (case i1 => assumption); (case i2 => assumption); (case e => exact hfig); (case hz => omega))
  intro D3 h3 vs3 F3 N3 hI3 l3
  have N4 := news_ends N3
  have l4 := l3 _ (.tail _ (.tail _ (.tail _ (.tail _ (.head _)))))
  clear l3 N3
  dsimp only at l4
  k_steps
  unfold Hold
  rename_i F6 N6
  have N5 := news_4 N6
  clear N6
  k_dflt (refine' for_turnF (fs := List.filterMap (fun x => x.frame) (envX cn cs L a ccd cl :: outer)) (g₀ := s.heap) (PG := Gd w mean mg mb (ktrTop dp un gd cn cs L a ccd cl outer) base (envX cn cs L a ccd cl :: outer)) (L := L') (s₀ := s) [Str.ofString "amount", Str.ofString "gone", Str.ofString "left", Str.ofString "ahead", Str.ofString "behind", Str.ofString "kept", Str.ofString "octets", Str.ofString "inner"] (-1) (ld + tr + 3).toNat ?F ?N rfl ?h ?step ?done; (case F => k_asm); (case N => k_asm))
  case' h =>
    k_steps
    k_dflt (refine' iter_turn ?F ?N ?R ?a1 ?a2 ?a3 ?a4 ?hn ?T ?hP ?hm ?hs; (case F => k_asm); (case N => k_asm); (case R => assumption); (case a1 => omega); (case a2 => omega); (case a3 => omega); (case a4 => omega); (case hn => omega); (case T => exact KtsTurn.refl); (case hP => exact G'); (case hm => exact rfl); (case hs => exact rfl))
  case' done =>
    intro g8 kU8 h8 tk8 T8 G8 F8 N8
    clear F6 N5 B' X' T' G'
    have B8 := G8.B; have X8 := G8.X; have T9 := G8.T
    unfold mU at F8
    k_steps
    exact hQQ _ _ ⟨_, _, _, T8, by assumption, fun h₁ a b c d => hret _ _ _ _ rfl a b c d⟩
  intro I i g kU h7 tk7 tk8 QS hQS hi T7 G7 F7 N7
  clear hQQ hret
  clear F6 N5 B' X' T' G'
  have B7 := G7.B; have X7 := G7.X; have T8 := G7.T
  obtain ⟨am, ham⟩ : ∃ am, am = -1 + (i : Int) := ⟨_, rfl⟩
  rw [← ham] at N7 hQS ⊢
  have ha0 : -1 ≤ am := by omega
  have ha1 : am ≤ ld + tr + 1 := by omega
  unfold mU at F7
  by_cases hg : goneNo ld (figs.length : Int) am
  · k_steps
    refine hQS _ _ (show TurnAt _ _ _ _ _ _ _ _ _ from ?_)
    exact turn_end T7 (by assumption) (by assumption) (by assumption) (news_sub (by assumption) fun _ hp => by simpa using hp) (by intro z hz; (repeat (refine mt_if hz (by rfl) ?_)); exact mt_end hz)
  · obtain ⟨ah, hah⟩ : ∃ ah, ah = ahd ld am := ⟨_, rfl⟩
    obtain ⟨bh, hbh⟩ : ∃ bh, bh = bhd ld tr am := ⟨_, rfl⟩
    obtain ⟨Y, hY⟩ : ∃ Y, Y = Txt.slice X (some ah) (some ((figs.length : Int) - bh)) := ⟨_, rfl⟩
    obtain ⟨Z, hZ⟩ : ∃ Z, Z = Y ++ Str.ofString "==" := ⟨_, rfl⟩
    obtain ⟨hYa, hYl, hb0, hb1, hb2, hb3, hk0, hk1, hZa, hZl, hZp, hZq, hZo, hin⟩ := turn_math halt hns hlen hct hnb hfig hX hld htr hg hah hbh hY hZ
    have hno := fun x y z => no_ct (ah := ah) (bh := bh) hct x y z
    have hf20 : figs.length ≤ 20 := by omega
    clear hct hnb hfig hX hld htr hl0 hl1 ht0 ht1 hc0 hc1 hc2 hc3 hm0 hm1 hfl ha0 ha1 ham hi
    k_steps
    all_goals first
      | exact (ne_killS (by assumption) hY).elim | exact (ne_killB (by assumption)).elim | exact absurd (a := (ct - ah - bh).fmod 4 = 1) (by assumption) (by assumption)
      | exact (hno (by assumption) (by assumption) (by assumption)).elim
      | (refine hQS _ _ (show TurnAt _ _ _ _ _ _ _ _ _ from ?_); exact turn_end T7 (KtsTurn.trans (by assumption) (by assumption)) (by assumption) (by assumption) (news_sub (by assumption) fun _ hp => .tail _ hp) (by intro z hz; (repeat (refine mt_if hz (by rfl) ?_)); exact mt_end hz))
      | skip
    obtain ⟨inn, i1, i2, i3, i4⟩ := hin (by assumption) (by assumption)
    k_dflt (refine' Gives.use (enc_in i1 i2 i3 i4) ?F ?N ?G ?hk ?hd ?hu ?_; (case F => k_asm); (case N => k_asm); (case G => k_asm); (case hk => exact rfl); (case hd => ktr_room); (case hu => ktr_units); k_whole)
    intro v9 h9 tk9 hv9 F9 N9
    obtain ⟨t9, hv9⟩ := hv9
    subst hv9
    k_steps
    all_goals first
      | exact (ne_killS (by assumption) hY).elim | exact (ne_killB (by assumption)).elim | exact absurd (a := (ct - ah - bh).fmod 4 = 1) (by assumption) (by assumption)
      | (refine hQS _ _ (show TurnAt _ _ _ _ _ _ _ _ _ from ?_); exact turn_end T7 (KtsTurn.trans (by assumption) (by assumption)) (by assumption) (by assumption) (news_sub (by assumption) fun _ hp => .tail _ hp) (by intro z hz; (repeat (refine mt_if hz (by rfl) ?_)); exact mt_end hz))

end Mine
end

section
open PySem PySem.W PyProof.Rows PySem.Spec PySem.Calls
namespace Mine
theorem gd_top {w : World} {mean : ExcName → Option Value} {mg mb : Str → Option Value} {h : Heap} (B : Below callerA h [] h) (X : (Mine.hd.heap_39 w.params).In h) (T : Top Mine.vw loose mean mg mb h) : Gd w mean mg mb callerA h [] h :=
  ⟨B, X, T, X, T, ktsDicts_nil⟩
section
variable {f : Addr} {vs : List Value} {kw : List (Str × Value)} {d u : Nat} {R : Value → Prop} {w : World} {mean : ExcName → Option Value} {mg mb : Str → Option Value} {dp un : Nat} {gd : Option (List Code)} {cn : Str} {cs : Scope} {a : Addr} {ccd : Value} {cl : List (Str × Addr)} {A₀ : Around} {base h₀ : Heap} {L : Addr} {m : Str → Option Value} {news : List (Addr × Obj)} {s : Shared} {Q E : Value → Shared → Prop}
theorem turn_same {g h₁ : Heap} (T : KtsTurn [] g h₁) : ∀ b o, g.get? b = some o → h₁.get? b = some o := fun b o e => T.other b o e (fun h => nomatch h)
/-- where no frame stands outside, the ground that comes back is the one that was -/
theorem GivesS.top (c : GivesS f vs kw d u R) (F : Fr h₀ L s.heap m) (N : News h₀ L s.heap news) (G : Gd w mean mg mb A₀ base [] h₀) (hk : cs.kind = .function) (hd : dp + d < recursionLimit) (hu : un + u < cLine)
    (h : ∀ v h' tk', R v → Fr h₀ L h' m → News h₀ L h' news → Q v { s with heap := h', toks := tk' }) :
    wpAny (model PySem.Challenge.rw_pa0023_01.row.prog w) (ktrTop dp un gd cn cs L a ccd cl []) (call (.ref f) vs kw) Q E s :=
  c.use F N G hk hd hu fun v h' tk' h₁ r T _ F' N' => h v h' tk' r ⟨F'.ns, fun b o e => F'.keep b o (turn_same T b o e), by rw [← T.size]; exact F'.above⟩ fun p hp => ⟨(N' p hp).1, (N' p hp).2.1, by
    cases q : h₀.get? p.1 with
    | none => rfl
    | some o => have := turn_same T _ _ q; rw [(N' p hp).2.2] at this; cases this⟩
end
theorem byteArr_ints (b : Array UInt8) : byteArr (b.toList.map fun u => ((u.toNat : Nat) : Int)) = b := by
  unfold byteArr
  apply Array.toList_inj.mp
  simp only [List.map_map]
  conv => rhs; rw [← List.map_id b.toList]
  apply List.map_congr_left
  intro u _
  simp
theorem ints_in (b : Array UInt8) : KBa.In (b.toList.map fun u => ((u.toNat : Nat) : Int)) := by
  intro n hn
  obtain ⟨u, _, rfl⟩ := List.mem_map.mp hn
  have := u.toNat_lt
  omega
theorem holds_any {b : Array UInt8} {t t2 t3 : Tok} {p q : UInt8} {bl : Int} (hb : b.size ≤ 12) (ha : Alt p q bl) : GivesS 152 [.bytes b t, .bytes #[p, q] t2, .int bl t3] [] 14 500 (fun v => v = .bool true) := by
  have := c_holds (b.toList.map fun u => ((u.toNat : Nat) : Int)) (ints_in b) (by simpa using hb) t t2 t3 p q bl ha
  rwa [byteArr_ints] at this
theorem octL_len {n c : Int} (h0 : 0 ≤ c) (h1 : c ≤ 16) : (byteArr (octL n c)).size ≤ 12 := by
  have e : (byteArr (octL n c)).size = ((c * 3).fdiv 4 - 0).toNat := by simp [byteArr, octL, rangeKs_length]
  rw [e, fdiv_lit _ (by decide)]; omega
theorem news_13 {h₀ h' : Heap} {L : Addr} {x0 x1 x2 x3 x4 x5 x6 x7 x8 x9 x10 x11 x12 : Addr × Obj} (N : News h₀ L h' [x0, x1, x2, x3, x4, x5, x6, x7, x8, x9, x10, x11, x12]) : News h₀ L h' [x0, x10, x12] := news_sub N fun p hp => by
  simp only [List.mem_cons, List.not_mem_nil, or_false] at hp ⊢
  rcases hp with h | h | h
  · exact .inl h
  · exact .inr (.inr (.inr (.inr (.inr (.inr (.inr (.inr (.inr (.inr (.inl h))))))))))
  · exact .inr (.inr (.inr (.inr (.inr (.inr (.inr (.inr (.inr (.inr (.inr (.inr h)))))))))))
section
variable {prog : Program} {w : World} {A : Around} {E : Value → Shared → Prop} {s : Shared} {Q : Value → Shared → Prop}
theorem r_addL {h₀ : Heap} {L l b : Addr} {m : Str → Option Value} {news : List (Addr × Obj)} {xs ys : List Value} {n k : Nat} {x y : List Int} (F : Fr h₀ L s.heap m) (N : News h₀ L s.heap news) (h1 : (l, W.listOf xs.toArray n) ∈ news) (h2 : (b, W.listOf ys.toArray k) ∈ news)
    (i1 : IntsAre xs x) (i2 : IntsAre ys y) (hz : x.length + y.length ≤ 16)
    (h : ∀ D h' vs c, Fr h₀ L h' m → News h₀ L h' ((D, W.listOf vs.toArray 0) :: news) → IntsAre vs c → (c.length : Int) ≤ 16 → (∀ p ∈ news, p.1 < D) → Q (.ref D) { s with heap := h' }) :
    wpAny (model prog w) A (binaryOp .Add (.ref l) (.ref b)) Q E s :=
  r_add F N h1 h2 (by rw [i1.length, i2.length]; omega) fun D h' F' N' l => h D h' _ (x ++ y) F' N' (i1.append i2) (by rw [List.length_append]; omega) l
theorem r_addC {h₀ : Heap} {L l b : Addr} {m : Str → Option Value} {news : List (Addr × Obj)} {xs ys : List Value} {n k : Nat} {x y : List Int} (F : Fr h₀ L s.heap m) (N : News h₀ L s.heap news) (h1 : (l, W.listOf xs.toArray n) ∈ news) (h2 : (b, W.listOf ys.toArray k) ∈ news)
    (i1 : IntsAre xs x) (i2 : IntsAre ys y) (hz : x.length + y.length ≤ 1000)
    (h : ∀ D h' vs c, Fr h₀ L h' m → News h₀ L h' ((D, W.listOf vs.toArray 0) :: news) → IntsAre vs c → c.length = x.length + y.length → Q (.ref D) { s with heap := h' }) :
    wpAny (model prog w) A (binaryOp .Add (.ref l) (.ref b)) Q E s :=
  r_add F N h1 h2 (by rw [i1.length, i2.length]; omega) fun D h' F' N' _ => h D h' _ (x ++ y) F' N' (i1.append i2) (List.length_append)
theorem pad_len {n : Nat} {b : Int} (h : n ≤ 14) : n + (List.replicate ((-(n : Int)).fmod 4).toNat [b]).flatten.length ≤ 16 := by
  rw [flat_rep, List.length_replicate, fmod_lit _ (by decide)]; omega
theorem addBl {x : Int} {t u : Tok} (h : ∀ bl n, 62 ≤ bl → bl ≤ 63 → Q (.int bl s.toks) { s with toks := n }) : wpAny (model prog w) A (binaryOp .Add (.int 62 t) (.int (x.fmod 2) u)) Q E s := by
  have h0 := Int.fmod_nonneg_of_pos x (b := 2) (by decide)
  have h1 := Int.fmod_lt_of_pos x (b := 2) (by decide)
  exact add_int (h _ _ (by omega) (by omega))
theorem alt_item {value slice : Expr} {t : Addr} {u t1 t2 : Tok} {bl : Int} (ht : IsTup s.heap t [Value.bytes #[32, 45] t1, Value.bytes #[45, 32] t2].toArray) (h0 : 62 ≤ bl) (h1 : bl ≤ 63) (h : ∀ p q t', Alt p q bl → Q (.bytes #[p, q] t') s)
    (hs : ∀ k u, subscripted slice false (.ref t) (.int k u) = operate [.ref t, .int k u] (getItem (.ref t) (.int k u)) := by intro _ _; with_unfolding_all rfl) :
    wpAny (model prog w) A (subscriptTail value slice (.ref t) (.int (bl - 62) u)) Q E s := by
  have hb : bl = 62 ∨ bl = 63 := by omega
  rcases hb with rfl | rfl
  · exact item_tupleT ht (by decide) (by decide) (j := 0) rfl rfl (h _ _ _ (.inl ⟨rfl, rfl, rfl⟩)) (hs _ _)
  · exact item_tupleT ht (by decide) (by decide) (j := 1) rfl rfl (h _ _ _ (.inr ⟨rfl, rfl, rfl⟩)) (hs _ _)
theorem len_bytesN {b : Array UInt8} {t : Tok} (hb : b.size ≤ 12) (h : ∀ t' n, Q (.int (b.size : Int) t') { s with toks := n }) : wpAny (model prog w) A (call (.builtin "len") [.bytes b t]) Q E s := len_bytes (by omega) (h _ _)
end
theorem oct_any (n c : Int) (t1 t2 : Tok) (h0 : 0 ≤ c) (h1 : c ≤ 16) : Gives 121 [.int n t1, .int c t2] [] 6 200 (fun v => ∃ t b ks, v = .bytes b t ∧ b.size ≤ 12 ∧ KBw.bInts b = ks ∧ ks.length ≤ 12) :=
  (c_oct n c t1 t2 h0 h1).weak fun _ ⟨t, e⟩ => ⟨t, _, _, e, octL_len h0 h1, rfl, by rw [KBw.ints_length]; exact octL_len h0 h1⟩
end Mine
end

section
open PySem PySem.W PyProof.Rows PySem.Spec PySem.Calls
namespace Mine
local macro_rules | `(tactic| walk_at $s:str) => `(tactic| k_extra $s)
set_option maxRecDepth 100000 in
set_option maxHeartbeats 8000000 in
theorem lw_whole : PySem.Challenge.rw_pa0023_01.Holds := by
  refine hd ?_
  w_on
  k_with_none
  (k_with "subscriptTail" => (k_here; (with_reducible show wpAny _ _ (subscriptTail _ _ (Value.ref _) (Value.int (_ - _) _)) _ _ _); k_dflt (refine' alt_item (by exact News.isTup (by k_asm) (by k_mem)) (by assumption) (by assumption) ?_); intro _ _ _ _))
  (k_with "binaryOp Add int int" => (k_here; (with_reducible show wpAny _ _ (binaryOp _ (Value.int 62 _) (Value.int (Int.fmod _ _) _)) _ _ _); refine addBl ?_; intro _ _ _ _))
  (k_with "binaryOp Add ref ref" => (k_here; refine hold ?_))
  (k_with "call ref" => (k_here; k_dflt (refine' Gives.use (oct_any _ _ _ _ (by omega) (by omega)) (by k_asm) (by k_asm) (by k_asm) (by exact rfl) (by ktr_room) (by ktr_units) ?_); intro v9 h9 tk9 hv9 F9 N9; obtain ⟨t9, b9, ks9, hv9, hb9, hk9, hl9⟩ := hv9; subst hv9; (try dsimp only); (try k_fold)))
  (k_with "call builtin:len" => (k_here; (with_reducible show wpAny _ _ (call (Value.builtin "len") [Value.bytes _ _]) _ _ _); refine len_bytesN (by assumption) ?_; intro _ _))
  (k_with "call ref" => (k_here; k_dflt (refine' GivesS.top (holds_any (by (first | assumption | exact Nat.le_trans (KBc.size_picked_le _ _ _) (by assumption))) (by assumption)) (by k_asm) (by k_asm) (by k_asm) (by exact rfl) (by ktr_room) (by ktr_units) ?_); intro v9 h9 tk9 hv9 F9 N9; subst hv9; (try dsimp only); (try k_fold)))
  k_go0
  all_goals try k_fold
  have G9 := gd_top (by assumption) (by assumption) (by assumption)
  k_steps
  unfold Hold
  k_dflt (refine' r_addC ?F ?N ?h1 ?h2 ?i1 ?i2 ?hz ?_; (case F => k_asm); (case N => k_asm); (case h1 => k_mem); (case h2 => k_mem); (case i1 => assumption); (case i2 => first | assumption | l_ints | repeat constructor); (case hz => (simp only [List.length_append, List.length_map, flat_rep, List.length_replicate, List.length_cons, List.length_nil, List.length_take]; omega)))
  intro D3 h3 vs3 c3 F3 N3 hI3 hc3
  simp only [List.length_append, List.length_map, flat_rep, List.length_replicate, List.length_cons, List.length_nil, List.length_take] at hc3
  k_steps
  unfold Hold
  k_dflt (refine' r_addC ?F ?N ?h1 ?h2 ?i1 ?i2 ?hz ?_; (case F => k_asm); (case N => k_asm); (case h1 => k_mem); (case h2 => k_mem); (case i1 => assumption); (case i2 => first | assumption | l_ints | repeat constructor); (case hz => (simp only [List.length_append, List.length_map, flat_rep, List.length_replicate, List.length_cons, List.length_nil, List.length_take]; omega)))
  intro D4 h4 vs4 c4 F4 N4 hI4 hc4
  simp only [List.length_append, List.length_map, flat_rep, List.length_replicate, List.length_cons, List.length_nil, List.length_take] at hc4
  have hc4' : c4.length ≤ 14 := by omega
  clear hc3 hc4
  k_steps
  unfold Hold
  k_dflt (refine' r_addC ?F ?N ?h1 ?h2 ?i1 ?i2 ?hz ?_; (case F => k_asm); (case N => k_asm); (case h1 => k_mem); (case h2 => k_mem); (case i1 => assumption); (case i2 => first | assumption | l_ints | repeat constructor); (case hz => exact Nat.le_trans (pad_len hc4') (by decide)))
  intro D5 h5 vs5 c5 F5 N5 hI5 hc5
  have N6 := news_13 N5
  have hc6 : c5.length ≤ 16 := by rw [hc5]; exact pad_len hc4'
  clear N5 hc5 hc4' hI4 hI3
  k_steps
end Mine
end

set_option maxRecDepth 100000 in
set_option maxHeartbeats 8000000 in
theorem PySem.Challenge.cw_pa0023_01_holds : PySem.Challenge.rw_pa0023_01.Holds := by
  exact Mine.lw_whole
