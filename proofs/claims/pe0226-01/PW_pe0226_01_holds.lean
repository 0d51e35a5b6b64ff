import PyProof.Rows.All
import Wide.All
import OpenK.AllK
import Wide.FinOn
import Lean
import PySem.Challenge.RW_pe0226_01
set_option Elab.async false
set_option compiler.extract_closed false

section
open PySem PySem.W PyProof.Rows
set_option maxRecDepth 100000
set_option maxHeartbeats 8000000
namespace Mine
open_top hd for PySem.Challenge.rw_pe0226_01
end Mine
end

section
set_option linter.unusedVariables false
open PySem PySem.W PyProof.Rows PySem.Calls PySem.Spec
namespace Mine
/-- a goal at which the walk halts, to go on by hand -/
noncomputable def Hold (P : Prop) : Prop := P
theorem Hold.out {P : Prop} (h : Hold P) : P := h
noncomputable def AllNe (d : Nat) : List (Addr × Obj) → Prop
  | [] => True
  | p :: r => @Ne Nat p.1 d ∧ AllNe d r
theorem allNe_of {d : Addr} : ∀ {l : List (Addr × Obj)}, (∀ p ∈ l, p.1 ≠ d) → AllNe d l
  | [], _ => trivial
  | p :: _, h => ⟨h p (.head _), allNe_of fun q hq => h q (.tail _ hq)⟩
section
variable {prog : Program} {w : World} {A₀ A : Around} {s : Shared} {base h₀ : Heap} {outer : List Env} {L : Addr} {m : Str → Option Value} {env : Env} {K : Frag}
  {p : Program} {loose : List Str} {mean : ExcName → Option Value} {mg mb : Str → Option Value}
  {R : Result → Shared → Prop} {name qual : Str} {params : Arguments} {body : List Stmt} {scope : Scope} {dV kV doc pm cdv ct oc : Value} {an od : Option Addr} {osl : Array (Option Value)} {f : Addr} {args : Args} {binds : List (Str × Value)}
theorem below_here (B : Below A₀ base outer h₀) (F : Fr h₀ L s.heap m) (hA : A.frames = some (env :: outer)) (hf : env.frame = some L) (hke : env.scope.kind = .function) : Below A base (env :: outer) s.heap :=
  ⟨hA, fun b o e => F.keep b o (B.stays b o e), (pushX B F hf hke).frames⟩
theorem leave_here (F : Fr h₀ L s.heap m) {v : Value} {s' : Shared} (hl : LeaveK h₀ L m s.heap R v s') : R (.ok (.ret v)) s' := by
  obtain ⟨L', m', news', F', N', k⟩ := hl
  obtain ⟨oL, es, ep, hL, r⟩ := F.ns
  refine k (F.keeps F'.keep) fun p hp => ⟨(N' p hp).1, fun q => ?_, ?_⟩
  · have := (N' p hp).2.2; rw [q, hL] at this; cases this
  · cases q : h₀.get? p.1 with
    | none => rfl
    | some o => have := (N' p hp).2.2; rw [F.keep _ _ q] at this; cases this
/-- a def is entered with all that stands as its ground: it touches nothing of its caller's -/
theorem code_defP (B : Below A₀ base outer h₀) (F : Fr h₀ L s.heap m) (X₀ : K.In h₀) (T : Top p loose mean mg mb h₀) (hA : A.frames = some (env :: outer)) (hf : env.frame = some L) (hke : env.scope.kind = .function)
    (ho : K.lookup f = some ⟨oc, od, .func (fnOf name qual params body scope dV kV doc pm an cdv ct), osl⟩) (hcd : codeIn K cdv qual = true) (hroom : A.depth < recursionLimit)
    (hbind : BindsTo s (fnOf name qual params body scope dV kV doc pm an cdv ct) args binds) (hloc : ∀ y ∈ binds, scope.names.lookup y.1 = some .local)
    (h : ∀ L' h₁, Fr s.heap L' h₁ (fun y => binds.reverse.lookup y) → News s.heap L' h₁ [] → Below A base (env :: outer) s.heap → K.In s.heap → Top p loose mean mg mb s.heap →
      wpAny (model prog w) (A.deeper (envOf qual scope L' f cdv)) (execs body (envOf qual scope L' f cdv))
        (fun fl s' => LeaveK h₀ L m s.heap R (match fl with | .ret v => v | _ => .none) s')
        (fun e s' => wpAny (model prog w) (A.deeper (envOf qual scope L' f cdv)) (leaving (envOf qual scope L' f cdv) e) (fun _ s'' => R (.error e) s'') (fun e' s'' => R (.error e') s'') s')
        { s with heap := h₁, toks := s.toks + binds.length })
    (hco : scope.isCoroutine = false) (hgen : scope.isGenerator = false) (hk : scope.kind = .function)
    (hcell : ∀ x ∈ scope.names, x.2 ≠ .cell) : codeAny (model prog w) A (.call (.ref f) args) R s := by
  refine codeAny_call_def (fd := fnX name qual params body scope [] dV kV doc pm an cdv ct) (body := body) (binds := binds) hroom ((X₀.keeps F.keep) _ _ ho) rfl (T.nolimit.keeps F.keep) (codeRec_of (X₀.keeps F.keep) hcd) rfl hbind hcell hloc (fun h₁ hns hk₁ => ?_) hco hgen hk
  exact wpAny_mono (h s.heap.objs.size h₁ ⟨hns, hk₁, Nat.le_refl _⟩ News.nil (below_here B F hA hf hke) (X₀.keeps F.keep) (T.keeps F.keep)) (fun fl s' hl => leave_here F hl) fun _ _ y => y
/-- the same for a def with cells -/
theorem code_defCP (B : Below A₀ base outer h₀) (F : Fr h₀ L s.heap m) (X₀ : K.In h₀) (T : Top p loose mean mg mb h₀) (hA : A.frames = some (env :: outer)) (hf : env.frame = some L) (hke : env.scope.kind = .function)
    (ho : K.lookup f = some ⟨oc, od, .func (fnOf name qual params body scope dV kV doc pm an cdv ct), osl⟩) (hcd : codeIn K cdv qual = true) (hroom : A.depth < recursionLimit)
    (hbind : BindsTo s (fnOf name qual params body scope dV kV doc pm an cdv ct) args binds) (hkind : (binds.all fun y => scope.names.lookup y.1 == some .local || scope.names.lookup y.1 == some .cell) = true)
    (hnd : ((cellsFrom 0 scope.names []).map (·.1)).Nodup)
    (h : ∀ L' h₁ tk cells, Fr s.heap L' h₁ (bindL (envOfC qual scope L' f cdv).kindOf binds fun _ => none) → News s.heap L' h₁ cells →
      CellsAre (bindC (envOfC qual scope L' f cdv).kindOf binds fun _ => none) (cellsFrom (L' + 1) scope.names []) cells → Below A base (env :: outer) s.heap → K.In s.heap → Top p loose mean mg mb s.heap →
      wpAny (model prog w) (A.deeper (envOfC qual scope L' f cdv)) (execs body (envOfC qual scope L' f cdv))
        (fun fl s' => LeaveK h₀ L m s.heap R (match fl with | .ret v => v | _ => .none) s')
        (fun e s' => wpAny (model prog w) (A.deeper (envOfC qual scope L' f cdv)) (leaving (envOfC qual scope L' f cdv) e) (fun _ s'' => R (.error e) s'') (fun e' s'' => R (.error e') s'') s')
        { s with heap := h₁, toks := tk })
    (hco : scope.isCoroutine = false) (hgen : scope.isGenerator = false) (hk : scope.kind = .function) : codeAny (model prog w) A (.call (.ref f) args) R s := by
  refine codeAny_call_function (fd := fnX name qual params body scope [] dV kV doc pm an cdv ct) hroom ((X₀.keeps F.keep) _ _ ho) rfl hco hgen rfl (codeRec_of (X₀.keeps F.keep) hcd) (hbind _ _ _ _ ?_)
  refine wpAny_newFunctionEnv_cells hk (kindsX hkind _) fun env' he s' x => ?_
  subst he
  refine ⟨(T.nolimit.keeps F.keep).keeps x.toInCall.keep, codeAny_func ?_⟩
  obtain ⟨h₁, tk, rfl, _⟩ := x.done
  have hk₁ := x.toInCall.keep
  obtain ⟨cells, NC, Y⟩ := Cl.news (h₀ := s.heap) (Nat.le_refl _) fun n c hm => ⟨x.cell n c (lookup_of_mem_nodup (cellsFrom_names scope.names 0 (s.heap.objs.size + 1) [] [] rfl ▸ hnd) hm), x.above n c hm⟩
  exact wpAny_mono (h s.heap.objs.size h₁ tk cells ⟨x.toInCall.ns, hk₁, Nat.le_refl _⟩ NC Y (below_here B F hA hf hke) (X₀.keeps F.keep) (T.keeps F.keep)) (fun fl s' hl => leave_here F hl) fun _ _ y => y
end
/-- a def's contract: its call hands back R, whatever the frames below; every object that stood stays as it was -/
noncomputable def Ct (w : World) (mean : ExcName → Option Value) (mg mb : Str → Option Value) (lv : Nat) (f : Addr) (vs : List Value) (R : Tok → Value) : Prop :=
  ∀ (dp un : Nat) (gd : Option (List Code)) (cn : Str) (cs : Scope) (a : Addr) (ccd : Value) (cl : List (Str × Addr)) (outer : List Env) (A₀ : Around) (base h₀ : Heap) (L : Addr) (m : Str → Option Value) (s : Shared) (Q E : Value → Shared → Prop),
    Below A₀ base outer h₀ → Fr h₀ L s.heap m → (Mine.hd.heap_39 w.params).In h₀ → Top Mine.hd.view_39 (looseW Mine.hd.view_39 [Str.ofString "Whitespace"]) mean mg mb h₀ → cs.kind = .function →
    dp + lv < recursionLimit → un + 5 * lv < cLine →
    (∀ (t : Tok) (h' : Heap) (tk' : Nat), (∀ b o, s.heap.get? b = some o → h'.get? b = some o) → Q (R t) { s with heap := h', toks := tk' }) →
    wpAny (model PySem.Challenge.rw_pe0226_01.row.prog w) (ktrTop dp un gd cn cs L a ccd cl outer) (call (.ref f) vs) Q E s
/-- a contract of a def that hands back a new object o t1 t2 t3 -/
noncomputable def CtO (w : World) (mean : ExcName → Option Value) (mg mb : Str → Option Value) (lv : Nat) (f : Addr) (vs : List Value) (o : Tok → Tok → Tok → Obj) : Prop :=
  ∀ (dp un : Nat) (gd : Option (List Code)) (cn : Str) (cs : Scope) (a : Addr) (ccd : Value) (cl : List (Str × Addr)) (outer : List Env) (A₀ : Around) (base h₀ : Heap) (L : Addr) (m : Str → Option Value) (s : Shared) (Q E : Value → Shared → Prop),
    Below A₀ base outer h₀ → Fr h₀ L s.heap m → (Mine.hd.heap_39 w.params).In h₀ → Top Mine.hd.view_39 (looseW Mine.hd.view_39 [Str.ofString "Whitespace"]) mean mg mb h₀ → cs.kind = .function →
    dp + lv < recursionLimit → un + 5 * lv < cLine →
    (∀ (D : Addr) (t1 t2 t3 : Tok) (h' : Heap) (tk' : Nat), (∀ b o, s.heap.get? b = some o → h'.get? b = some o) → h'.get? D = some (o t1 t2 t3) → s.heap.get? D = none → Q (.ref D) { s with heap := h', toks := tk' }) →
    wpAny (model PySem.Challenge.rw_pe0226_01.row.prog w) (ktrTop dp un gd cn cs L a ccd cl outer) (call (.ref f) vs) Q E s
section
variable {w : World} {mean : ExcName → Option Value} {mg mb : Str → Option Value} {lv : Nat} {f : Addr} {vs : List Value} {R : Tok → Value}
    {news : List (Addr × Obj)} {dp un : Nat} {gd : Option (List Code)} {cn : Str} {cs : Scope} {ad : Addr} {ccd : Value} {cl : List (Str × Addr)} {outer : List Env} {A₀ : Around} {base h₀ : Heap} {L : Addr} {m : Str → Option Value} {s : Shared} {Q E : Value → Shared → Prop}
theorem Ct.use (C : Ct w mean mg mb lv f vs R)
    (B : Below A₀ base outer h₀) (F : Fr h₀ L s.heap m) (X : (Mine.hd.heap_39 w.params).In h₀) (N : News h₀ L s.heap news) (T : Top Mine.hd.view_39 (looseW Mine.hd.view_39 [Str.ofString "Whitespace"]) mean mg mb h₀) (hk : cs.kind = .function)
    (hd : dp + lv < recursionLimit) (hu : un + 5 * lv < cLine)
    (ret : ∀ (t : Tok) (h' : Heap) (tk' : Nat), Fr h₀ L h' m → News h₀ L h' news → (∀ b o, s.heap.get? b = some o → h'.get? b = some o) → Q (R t) { s with heap := h', toks := tk' }) :
    wpAny (model PySem.Challenge.rw_pe0226_01.row.prog w) (ktrTop dp un gd cn cs L ad ccd cl outer) (call (.ref f) vs) Q E s :=
  C _ _ _ _ _ _ _ _ _ _ _ _ _ _ _ _ _ B F X T hk hd hu fun t h' tk' kp => ret t h' tk' (F.keeps kp) (N.grown kp) kp
theorem CtO.use {o : Tok → Tok → Tok → Obj} (C : CtO w mean mg mb lv f vs o)
    (B : Below A₀ base outer h₀) (F : Fr h₀ L s.heap m) (X : (Mine.hd.heap_39 w.params).In h₀) (N : News h₀ L s.heap news) (T : Top Mine.hd.view_39 (looseW Mine.hd.view_39 [Str.ofString "Whitespace"]) mean mg mb h₀) (hk : cs.kind = .function)
    (hd : dp + lv < recursionLimit) (hu : un + 5 * lv < cLine)
    (ret : ∀ (D : Addr) (t1 t2 t3 : Tok) (h' : Heap) (tk' : Nat), Fr h₀ L h' m → News h₀ L h' ((D, o t1 t2 t3) :: news) → AllNe D news → (∀ b o, s.heap.get? b = some o → h'.get? b = some o) → Q (.ref D) { s with heap := h', toks := tk' }) :
    wpAny (model PySem.Challenge.rw_pe0226_01.row.prog w) (ktrTop dp un gd cn cs L ad ccd cl outer) (call (.ref f) vs) Q E s := by
  refine C _ _ _ _ _ _ _ _ _ _ _ _ _ _ _ _ _ B F X T hk hd hu fun D t1 t2 t3 h' tk' kp hD hn => ret D t1 t2 t3 h' tk' (F.keeps kp) (fun p hp => ?_) (allNe_of fun p hp e => ?_) kp
  · rcases List.mem_cons.mp hp with rfl | hp
    · refine ⟨hD, fun e => ?_, ?_⟩
      · obtain ⟨oL, _, _, hL, _⟩ := F.ns
        dsimp only at e
        rw [e, hL] at hn; cases hn
      · cases q : h₀.get? D with
        | none => rfl
        | some o' => rw [F.keep _ _ q] at hn; cases hn
    · exact (N.grown kp) p hp
  · rw [← e, (N p hp).1] at hn; cases hn
end
section
variable {h h' : Heap} {L D : Addr} {m : Str → Option Value} {s : Shared} {Q : Value → Shared → Prop} {t t1 t2 t3 : Tok} {tk' : Nat} {news : List (Addr × Obj)}
theorem end_b {x y : Bool} (hret : ∀ (t : Tok) (h' : Heap) (tk' : Nat), (∀ b o, s.heap.get? b = some o → h'.get? b = some o) → Q (.bool x) { s with heap := h', toks := tk' }) (e : y = x) (F : Fr s.heap L h' m) : Q (.bool y) { s with heap := h', toks := tk' } := by
  subst e
  exact hret 0 h' tk' F.keep
theorem end_s {x y : Str} (hret : ∀ (t : Tok) (h' : Heap) (tk' : Nat), (∀ b o, s.heap.get? b = some o → h'.get? b = some o) → Q (.str x t) { s with heap := h', toks := tk' }) (e : y = x) (F : Fr s.heap L h' m) : Q (.str y t) { s with heap := h', toks := tk' } := by
  subst e
  exact hret t h' tk' F.keep
theorem end_f {x y : UInt64} (hret : ∀ (t : Tok) (h' : Heap) (tk' : Nat), (∀ b o, s.heap.get? b = some o → h'.get? b = some o) → Q (.float x t) { s with heap := h', toks := tk' }) (e : y = x) (F : Fr s.heap L h' m) : Q (.float y t) { s with heap := h', toks := tk' } := by
  subst e
  exact hret t h' tk' F.keep
theorem end_o {o : Tok → Tok → Tok → Obj} {o' : Obj} (hret : ∀ (D : Addr) (t1 t2 t3 : Tok) (h' : Heap) (tk' : Nat), (∀ b o, s.heap.get? b = some o → h'.get? b = some o) → h'.get? D = some (o t1 t2 t3) → s.heap.get? D = none → Q (.ref D) { s with heap := h', toks := tk' })
    (F : Fr s.heap L h' m) (N : News s.heap L h' ((D, o') :: news)) (e : o' = o t1 t2 t3) : Q (.ref D) { s with heap := h', toks := tk' } := by
  have hh := N _ (.head _)
  subst e
  exact hret D t1 t2 t3 h' tk' F.keep hh.1 hh.2.2
end
end Mine
end

section
open PySem PySem.W PyProof.Rows Mine
local macro_rules | `(tactic| k_room) => `(tactic| ((try simp only [depth_under_make, depth_under_kw, depth_in1, depth_deeper, depth_caller]); (try dsimp only [ktrTop]); omega))
local macro_rules | `(tactic| k_units) => `(tactic| ((try simp only [units_in1, units_deeper, Around.mark_units, units_caller]); (try dsimp only [ktrTop]); omega))

section
open PySem PySem.W PyProof.Rows
set_option maxRecDepth 100000
set_option maxHeartbeats 8000000
set_option linter.unusedVariables false
namespace Mine
local macro_rules | `(tactic| walk_at "pad 0") => `(tactic| fail)
noncomputable def nearL (text : Str) (q p : Int) : Int → List Int → Bool
  | _, [] => true
  | tabs, d :: ds =>
    let tabs' := if (Txt.item text (-d) == Str.ofString "\t") = true then tabs + 1 else tabs
    if q ≤ (if tabs' * q - d * p < 0 then -(tabs' * q - d * p) else tabs' * q - d * p) then false else nearL text q p tabs' ds
noncomputable def near (text : Str) (q p : Int) : Bool := nearL text q p 0 (rangeKs 1 text.length)
theorem rangeKs_succ (a : Int) (n : Nat) : rangeKs a (n + 1) = a :: rangeKs (a + 1) n := by
  unfold rangeKs
  rw [List.range_succ_eq_map, List.map_cons, List.map_map]
  congr 1
  · simp
  · apply List.map_congr_left; intro i _; simp; omega
theorem rangeKs_zero (a : Int) : rangeKs a 0 = [] := rfl
noncomputable abbrev NearP (text : Str) (q p : Int) (pre : List Int) (tabs : Int) : Prop :=
  near text q p = nearL text q p tabs (rangeKs (1 + (pre.length : Int)) (text.length - pre.length)) ∧ 0 ≤ tabs ∧ tabs ≤ (pre.length : Int)
theorem near_start (text : Str) (q p : Int) : NearP text q p [] 0 := ⟨rfl, by simp, by simp⟩
theorem near_step {text : Str} {q p tabs tabs' k : Int} {pre : List Int} (h : near text q p = nearL text q p tabs (rangeKs (1 + (pre.length : Int)) (text.length - pre.length)))
    (hk : k = 1 + (pre.length : Int)) (hlt : pre.length < ((text.length : Int) + 1 - 1).toNat) (ht : tabs' = if (Txt.item text (-k) == Str.ofString "\t") = true then tabs + 1 else tabs) :
    near text q p = (if q ≤ (if tabs' * q - k * p < 0 then -(tabs' * q - k * p) else tabs' * q - k * p) then false else nearL text q p tabs' (rangeKs (1 + ((pre ++ [k]).length : Int)) (text.length - (pre ++ [k]).length))) := by
  have e : text.length - pre.length = (text.length - (pre ++ [k]).length) + 1 := by simp; omega
  rw [h, e, rangeKs_succ, ht, hk]
  simp only [nearL, List.length_append, List.length_cons, List.length_nil]
  have e2 : (1 : Int) + ((pre.length + (0 + 1) : Nat) : Int) = 1 + (pre.length : Int) + 1 := by omega
  rw [e2]
theorem near_turn {text : Str} {q p tabs tabs' k : Int} {pre : List Int} (h : near text q p = nearL text q p tabs (rangeKs (1 + (pre.length : Int)) (text.length - pre.length))) (h0 : 0 ≤ tabs) (h1 : tabs ≤ (pre.length : Int))
    (hk : k = 1 + (pre.length : Int)) (hlt : pre.length < ((text.length : Int) + 1 - 1).toNat) (ht : tabs' = if (Txt.item text (-k) == Str.ofString "\t") = true then tabs + 1 else tabs)
    (hno : ¬ q ≤ (if tabs' * q - k * p < 0 then -(tabs' * q - k * p) else tabs' * q - k * p)) : NearP text q p (pre ++ [k]) tabs' := by
  refine ⟨?_, ?_, ?_⟩
  · rw [near_step h hk hlt ht, if_neg hno]
  · rw [ht]; split <;> omega
  · rw [ht]; simp only [List.length_append, List.length_cons, List.length_nil]; split <;> omega
theorem near_out {text : Str} {q p tabs tabs' k : Int} {pre : List Int} (h : near text q p = nearL text q p tabs (rangeKs (1 + (pre.length : Int)) (text.length - pre.length)))
    (hk : k = 1 + (pre.length : Int)) (hlt : pre.length < ((text.length : Int) + 1 - 1).toNat) (ht : tabs' = if (Txt.item text (-k) == Str.ofString "\t") = true then tabs + 1 else tabs)
    (hyes : q ≤ (if tabs' * q - k * p < 0 then -(tabs' * q - k * p) else tabs' * q - k * p)) : false = near text q p := by
  rw [near_step h hk hlt ht, if_pos hyes]
theorem near_done {text : Str} {q p tabs : Int} (h : near text q p = nearL text q p tabs (rangeKs (1 + ((rangeKs 1 ((text.length : Int) + 1 - 1).toNat).length : Int)) (text.length - (rangeKs 1 ((text.length : Int) + 1 - 1).toNat).length))) : true = near text q p := by
  have e : text.length - (rangeKs 1 ((text.length : Int) + 1 - 1).toNat).length = 0 := by rw [rangeKs_length]; omega
  rw [h, e]; rfl
theorem near_ct (w : World) (mean : ExcName → Option Value) (mg mb : Str → Option Value) (text : Str) (q p : Int) (t1 t2 t3 : Tok) (hl : text.length ≤ 100) (hq0 : 0 ≤ q) (hq1 : q ≤ 100) (hp0 : 0 ≤ p) (hp1 : p ≤ 100) : Ct w mean mg mb 10 146 [.str text t1, .int q t2, .int p t3] (fun _ => .bool (near text q p)) := by
  k_with_none
  w_top off
  unfold Ct; k_fill
  intros
  rename_i hret
  refine wpAny_call ?_
  (k_with "pyIter ref" => k_state (fun pre tabs => near text q p = nearL text q p tabs (rangeKs (1 + (pre.length : Int)) (text.length - pre.length)) ∧ 0 ≤ tabs ∧ tabs ≤ (pre.length : Int)) "tabs")
  (k_with "state" => first
    | exact near_start _ _ _
    | exact near_turn (by assumption) (by assumption) (by assumption) (by assumption) (by assumption) (by rw [if_pos (by assumption)]) (by assumption)
    | exact near_turn (by assumption) (by assumption) (by assumption) (by assumption) (by assumption) (by rw [if_neg (by simp only [Bool.not_eq_true]; assumption)]) (by assumption))
  w_strict ((k_dflt (first | (refine' code_defP ?k1 ?k2 ?k3 ?k5 ?kA ?kF ?kK ?k6 ?k7 ?k8 ?k9 ?kB ?_ ?c2 ?c3 ?c4 ?c5; (case kA => exact rfl); (case kF => exact rfl); (case kK => assumption); (case k1 => k_asm); (case k2 => k_asm); (case k3 => k_asm); (case k5 => k_asm); (case k6 => k_is); (case k7 => k_is); (case k8 => k_room); (case k9 => exact BindsTo.of_eq rfl); (case c5 => decide); (case kB => exact locs rfl); (case c2 => exact rfl); (case c3 => exact rfl); (case c4 => exact rfl); k_whole; intro L' h' F' N' B' X' T'; (try dsimp only); (try k_fold)) | (refine' code_defCP ?k1 ?k2 ?k3 ?k5 ?kA ?kF ?kK ?k6 ?k7 ?k8 ?k9 ?kB ?kD ?_ ?c2 ?c3 ?c4; (case kA => exact rfl); (case kF => exact rfl); (case kK => assumption); (case k1 => k_asm); (case k2 => k_asm); (case k3 => k_asm); (case k5 => k_asm); (case k6 => k_is); (case k7 => k_is); (case k8 => k_room); (case k9 => exact BindsTo.of_eq rfl); (case kB => exact rfl); (case kD => decide +kernel); (case c2 => exact rfl); (case c3 => exact rfl); (case c4 => exact rfl); k_whole; intro L' h' tk' cells' F' N' Y' B' X' T'; k_cells Y'; (try simp only [List.cons_append, List.nil_append] at N'); (try dsimp only); (try k_fold)))); k_steps)
  all_goals first
    | exact end_b hret (near_done (by assumption)) (by assumption)
    | exact end_b hret (near_out (by assumption) (by assumption) (by assumption) (by rw [if_pos (by assumption)]) (by assumption)) (by assumption)
    | exact end_b hret (near_out (by assumption) (by assumption) (by assumption) (by rw [if_neg (by simp only [Bool.not_eq_true]; assumption)]) (by assumption)) (by assumption)
noncomputable def cutF (ring : Str) : Str := Txt.slice ring (some (Txt.rfind ring (Str.ofString "\t") + 1)) none ++ Txt.slice ring none (some (Txt.rfind ring (Str.ofString "\t") + 1))
theorem cut_ct (w : World) (mean : ExcName → Option Value) (mg mb : Str → Option Value) (ring : Str) (t1 : Tok) (hl : ring.length ≤ 100) : Ct w mean mg mb 10 127 [.str ring t1] (fun t => .str (cutF ring) t) := by
  k_with_none
  w_top off
  unfold Ct; k_fill
  intros
  rename_i hret
  refine wpAny_call ?_
  w_strict ((k_dflt (first | (refine' code_defP ?k1 ?k2 ?k3 ?k5 ?kA ?kF ?kK ?k6 ?k7 ?k8 ?k9 ?kB ?_ ?c2 ?c3 ?c4 ?c5; (case kA => exact rfl); (case kF => exact rfl); (case kK => assumption); (case k1 => k_asm); (case k2 => k_asm); (case k3 => k_asm); (case k5 => k_asm); (case k6 => k_is); (case k7 => k_is); (case k8 => k_room); (case k9 => exact BindsTo.of_eq rfl); (case c5 => decide); (case kB => exact locs rfl); (case c2 => exact rfl); (case c3 => exact rfl); (case c4 => exact rfl); k_whole; intro L' h' F' N' B' X' T'; (try dsimp only); (try k_fold)) | (refine' code_defCP ?k1 ?k2 ?k3 ?k5 ?kA ?kF ?kK ?k6 ?k7 ?k8 ?k9 ?kB ?kD ?_ ?c2 ?c3 ?c4; (case kA => exact rfl); (case kF => exact rfl); (case kK => assumption); (case k1 => k_asm); (case k2 => k_asm); (case k3 => k_asm); (case k5 => k_asm); (case k6 => k_is); (case k7 => k_is); (case k8 => k_room); (case k9 => exact BindsTo.of_eq rfl); (case kB => exact rfl); (case kD => decide +kernel); (case c2 => exact rfl); (case c3 => exact rfl); (case c4 => exact rfl); k_whole; intro L' h' tk' cells' F' N' Y' B' X' T'; k_cells Y'; (try simp only [List.cons_append, List.nil_append] at N'); (try dsimp only); (try k_fold)))); k_steps)
  exact end_s hret rfl (by assumption)
end Mine
end

section
open PySem PySem.W PyProof.Rows
set_option maxRecDepth 100000
set_option maxHeartbeats 8000000
namespace Mine
noncomputable def fLt (x y : UInt64) : Bool := Float64.cmp x y == some .lt
noncomputable def max3 (r g b : UInt64) : UInt64 := if fLt r g then (if fLt g b then b else g) else (if fLt r b then b else r)
noncomputable def min3 (r g b : UInt64) : UInt64 := if fLt g r then (if fLt b g then b else g) else (if fLt b r then b else r)
section
variable {prog : Program} {w : World} {A : Around} {E : Value → Shared → Prop} {s : Shared} {Q : Value → Shared → Prop} {r g b M : UInt64} {t u x : Tok} {h₀ : Heap} {L : Addr} {m : Str → Option Value} {news : List (Addr × Obj)}
theorem max3_ff (hh : A.handled = none) (F : Fr h₀ L s.heap m) (N : News h₀ L s.heap news) (hM : max3 r g b = M)
    (h : ∀ v h' tk, Fr h₀ L h' m → News h₀ L h' news → Q (.float M v) { s with heap := h', toks := tk }) :
    wpAny (model prog w) A (call (.builtin "max") [.float r t, .float g u, .float b x]) Q E s := by
  have hT : (s.heap.push { cls := .type "tuple", data := .seq #[.float r t, .float g u, .float b x] }).IsTuple s.heap.objs.size #[.float r t, .float g u, .float b x] := ⟨_, Heap.get?_push_size _ rfl, rfl, 0, rfl⟩
  refine call_max_three (wpAny_pyIter_tuple hT ?_)
  have hsz : (s.heap.push { cls := .type "tuple", data := .seq #[.float r t, .float g u, .float b x] }).objs.size = s.heap.objs.size + 1 := Heap.size_push ..
  have hnum : ∀ v ∈ (#[.float r t, .float g u, .float b x] : Array Value), Flt.NumV v := by
    intro v hv
    simp at hv
    rcases hv with rfl | rfl | rfl <;> exact .float _ _
  refine ⟨_, [_, s.heap.objs.size], [_], _, _, _, _, rfl, Walks.tuple (A := A.in1) hh _ s.heap.objs.size (by rw [hsz]; exact Nat.ne_of_lt (Nat.lt_succ_self _)) #[.float r t, .float g u, .float b x],
    ⟨⟨_, Heap.get?_push_size _ rfl, rfl, rfl⟩, hT.push _⟩, fun c hc => ?_, by simp, Flt.cmpOf_gt #[.float r t, .float g u, .float b x] hnum, fun v h' tk hP hk => ?_⟩
  · show c < ((s.heap.push _).push _).objs.size
    rw [Heap.size_push, hsz]
    rcases List.mem_cons.mp hc with rfl | hc
    · rw [hsz]; exact Nat.lt_succ_self _
    · rcases List.mem_cons.mp hc with rfl | hc
      · exact Nat.lt_succ_of_lt (Nat.lt_succ_self _)
      · cases hc
  · have hold : ∀ c o, s.heap.get? c = some o → h'.get? c = some o := fun c o e => by
      refine hk c o (fun hm => ?_) (Heap.get?_push_of_some _ (Heap.get?_push_of_some _ e))
      rcases List.mem_cons.mp hm with e1 | hm
      · have := Heap.lt_size e; rw [e1, hsz] at this; exact Nat.lt_irrefl _ (Nat.lt_of_succ_lt this)
      · cases hm
    have key := fun v => h v h' tk (F.grownK hold) (N.grown hold)
    have hv : ∃ t', v = .float M t' := by
      subst hM
      unfold max3 fLt
      have e1 : Flt.ltV (.float r t) (.float g u) = (Float64.cmp r g == some .lt) := rfl
      have e2 : Flt.ltV (.float g u) (.float b x) = (Float64.cmp g b == some .lt) := rfl
      have e3 : Flt.ltV (.float r t) (.float b x) = (Float64.cmp r b == some .lt) := rfl
      cases c1 : (Float64.cmp r g == some .lt) <;> cases c2 : (Float64.cmp g b == some .lt) <;> cases c3 : (Float64.cmp r b == some .lt) <;>
        simp [argBest, e1, e2, e3, c1, c2, c3] at hP <;> subst hP <;> simp
    obtain ⟨t', rfl⟩ := hv
    exact key t'
theorem min3_ff (hh : A.handled = none) (F : Fr h₀ L s.heap m) (N : News h₀ L s.heap news) (hM : min3 r g b = M)
    (h : ∀ v h' tk, Fr h₀ L h' m → News h₀ L h' news → Q (.float M v) { s with heap := h', toks := tk }) :
    wpAny (model prog w) A (call (.builtin "min") [.float r t, .float g u, .float b x]) Q E s := by
  have hT : (s.heap.push { cls := .type "tuple", data := .seq #[.float r t, .float g u, .float b x] }).IsTuple s.heap.objs.size #[.float r t, .float g u, .float b x] := ⟨_, Heap.get?_push_size _ rfl, rfl, 0, rfl⟩
  refine call_min_three (wpAny_pyIter_tuple hT ?_)
  have hsz : (s.heap.push { cls := .type "tuple", data := .seq #[.float r t, .float g u, .float b x] }).objs.size = s.heap.objs.size + 1 := Heap.size_push ..
  have hnum : ∀ v ∈ (#[.float r t, .float g u, .float b x] : Array Value), Flt.NumV v := by
    intro v hv
    simp at hv
    rcases hv with rfl | rfl | rfl <;> exact .float _ _
  refine ⟨_, [_, s.heap.objs.size], [_], _, _, _, _, rfl, Walks.tuple (A := A.in1) hh _ s.heap.objs.size (by rw [hsz]; exact Nat.ne_of_lt (Nat.lt_succ_self _)) #[.float r t, .float g u, .float b x],
    ⟨⟨_, Heap.get?_push_size _ rfl, rfl, rfl⟩, hT.push _⟩, fun c hc => ?_, by simp, Flt.cmpOf_lt #[.float r t, .float g u, .float b x] hnum, fun v h' tk hP hk => ?_⟩
  · show c < ((s.heap.push _).push _).objs.size
    rw [Heap.size_push, hsz]
    rcases List.mem_cons.mp hc with rfl | hc
    · rw [hsz]; exact Nat.lt_succ_self _
    · rcases List.mem_cons.mp hc with rfl | hc
      · exact Nat.lt_succ_of_lt (Nat.lt_succ_self _)
      · cases hc
  · have hold : ∀ c o, s.heap.get? c = some o → h'.get? c = some o := fun c o e => by
      refine hk c o (fun hm => ?_) (Heap.get?_push_of_some _ (Heap.get?_push_of_some _ e))
      rcases List.mem_cons.mp hm with e1 | hm
      · have := Heap.lt_size e; rw [e1, hsz] at this; exact Nat.lt_irrefl _ (Nat.lt_of_succ_lt this)
      · cases hm
    have key := fun v => h v h' tk (F.grownK hold) (N.grown hold)
    have hv : ∃ t', v = .float M t' := by
      subst hM
      unfold min3 fLt
      have e1 : Flt.ltV (.float g u) (.float r t) = (Float64.cmp g r == some .lt) := rfl
      have e2 : Flt.ltV (.float b x) (.float g u) = (Float64.cmp b g == some .lt) := rfl
      have e3 : Flt.ltV (.float b x) (.float r t) = (Float64.cmp b r == some .lt) := rfl
      cases c1 : (Float64.cmp g r == some .lt) <;> cases c2 : (Float64.cmp b g == some .lt) <;> cases c3 : (Float64.cmp b r == some .lt) <;>
        simp [argBest, e1, e2, e3, c1, c2, c3] at hP <;> subst hP <;> simp
    obtain ⟨t', rfl⟩ := hv
    exact key t'
end
end Mine
end

section
open PySem PySem.W PyProof.Rows
set_option maxRecDepth 100000
set_option maxHeartbeats 8000000
set_option linter.unusedVariables false
namespace Mine
local macro_rules | `(tactic| walk_at "pad 0") => `(tactic| fail)
noncomputable abbrev ONE : UInt64 := 4607182418800017408
noncomputable abbrev TWO : UInt64 := 4611686018427387904
noncomputable abbrev FOUR : UInt64 := 4616189618054758400
noncomputable abbrev SIX : UInt64 := 4618441417868443648
noncomputable def hlsH (r g b : UInt64) : UInt64 :=
  (Float64.divmod (Float64.div (if (Float64.cmp r ONE == some Ordering.eq) = true then Float64.sub (Float64.div (Float64.sub ONE b) (Float64.sub ONE 0)) (Float64.div (Float64.sub ONE g) (Float64.sub ONE 0))
    else if (Float64.cmp g ONE == some Ordering.eq) = true then Float64.sub (Float64.add TWO (Float64.div (Float64.sub ONE r) (Float64.sub ONE 0))) (Float64.div (Float64.sub ONE b) (Float64.sub ONE 0))
    else Float64.sub (Float64.add FOUR (Float64.div (Float64.sub ONE g) (Float64.sub ONE 0))) (Float64.div (Float64.sub ONE r) (Float64.sub ONE 0))) SIX) ONE).2
noncomputable def hlsL : UInt64 := Float64.div (Float64.add ONE 0) TWO
noncomputable def hlsS : UInt64 := Float64.div (Float64.sub ONE 0) (Float64.add ONE 0)
noncomputable def hsvI (h : UInt64) : Int := Flt.toInt Float64.truncOf (Float64.mul h SIX)
noncomputable def hsvF (h : UInt64) : UInt64 := Float64.sub (Float64.mul h SIX) (Float64.ofInt (Flt.toInt Float64.truncOf (Float64.mul h SIX)))
noncomputable def hsvP : UInt64 := Float64.mul ONE (Float64.sub ONE ONE)
noncomputable def hsvQ (h : UInt64) : UInt64 := Float64.mul ONE (Float64.sub ONE (Float64.mul ONE (hsvF h)))
noncomputable def hsvT (h : UInt64) : UInt64 := Float64.mul ONE (Float64.sub ONE (Float64.mul ONE (Float64.sub ONE (hsvF h))))
noncomputable def hsvR (h : UInt64) : UInt64 := if (hsvI h).fmod 6 = 0 then ONE else if (hsvI h).fmod 6 = 1 then hsvQ h else if (hsvI h).fmod 6 = 2 then hsvP else if (hsvI h).fmod 6 = 3 then hsvP else if (hsvI h).fmod 6 = 4 then hsvT h else ONE
noncomputable def hsvG (h : UInt64) : UInt64 := if (hsvI h).fmod 6 = 0 then hsvT h else if (hsvI h).fmod 6 = 1 then ONE else if (hsvI h).fmod 6 = 2 then ONE else if (hsvI h).fmod 6 = 3 then hsvQ h else if (hsvI h).fmod 6 = 4 then hsvP else hsvP
noncomputable def hsvB (h : UInt64) : UInt64 := if (hsvI h).fmod 6 = 0 then hsvP else if (hsvI h).fmod 6 = 1 then hsvP else if (hsvI h).fmod 6 = 2 then hsvT h else if (hsvI h).fmod 6 = 3 then ONE else if (hsvI h).fmod 6 = 4 then ONE else hsvQ h
theorem hsv0 {h : UInt64} (k : (hsvI h).fmod 6 = 0) : ONE = hsvR h ∧ hsvT h = hsvG h ∧ hsvP = hsvB h := by simp [hsvR, hsvG, hsvB, k]
theorem hsv1 {h : UInt64} (k : (hsvI h).fmod 6 = 1) : hsvQ h = hsvR h ∧ ONE = hsvG h ∧ hsvP = hsvB h := by simp [hsvR, hsvG, hsvB, k]
theorem hsv2 {h : UInt64} (k : (hsvI h).fmod 6 = 2) : hsvP = hsvR h ∧ ONE = hsvG h ∧ hsvT h = hsvB h := by simp [hsvR, hsvG, hsvB, k]
theorem hsv3 {h : UInt64} (k : (hsvI h).fmod 6 = 3) : hsvP = hsvR h ∧ hsvQ h = hsvG h ∧ ONE = hsvB h := by simp [hsvR, hsvG, hsvB, k]
theorem hsv4 {h : UInt64} (k : (hsvI h).fmod 6 = 4) : hsvT h = hsvR h ∧ hsvP = hsvG h ∧ ONE = hsvB h := by simp [hsvR, hsvG, hsvB, k]
theorem hsv5 {h : UInt64} (k : (hsvI h).fmod 6 = 5) : ONE = hsvR h ∧ hsvP = hsvG h ∧ hsvQ h = hsvB h := by simp [hsvR, hsvG, hsvB, k]
theorem hsvNo {i : Int} (h0 : i.fmod 6 ≠ 0) (h1 : i.fmod 6 ≠ 1) (h2 : i.fmod 6 ≠ 2) (h3 : i.fmod 6 ≠ 3) (h4 : i.fmod 6 ≠ 4) (h5 : i.fmod 6 ≠ 5) : False := by
  have a := Int.fmod_nonneg_of_pos i (show (0 : Int) < 6 by decide)
  have b := Int.fmod_lt_of_pos i (show (0 : Int) < 6 by decide)
  omega
theorem hls1 {r g b : UInt64} (k : (Float64.cmp r ONE == some Ordering.eq) = true) :
    (Float64.divmod (Float64.div (Float64.sub (Float64.div (Float64.sub ONE b) (Float64.sub ONE 0)) (Float64.div (Float64.sub ONE g) (Float64.sub ONE 0))) SIX) ONE).2 = hlsH r g b := by unfold hlsH; rw [if_pos k]
theorem hls2 {r g b : UInt64} (k : (Float64.cmp r ONE == some Ordering.eq) = false) (k2 : (Float64.cmp g ONE == some Ordering.eq) = true) :
    (Float64.divmod (Float64.div (Float64.sub (Float64.add TWO (Float64.div (Float64.sub ONE r) (Float64.sub ONE 0))) (Float64.div (Float64.sub ONE b) (Float64.sub ONE 0))) SIX) ONE).2 = hlsH r g b := by unfold hlsH; rw [if_neg (by simp [k]), if_pos k2]
theorem hls3 {r g b : UInt64} (k : (Float64.cmp r ONE == some Ordering.eq) = false) (k2 : (Float64.cmp g ONE == some Ordering.eq) = false) :
    (Float64.divmod (Float64.div (Float64.sub (Float64.add FOUR (Float64.div (Float64.sub ONE g) (Float64.sub ONE 0))) (Float64.div (Float64.sub ONE r) (Float64.sub ONE 0))) SIX) ONE).2 = hlsH r g b := by unfold hlsH; rw [if_neg (by simp [k]), if_neg (by simp [k2])]
local macro_rules | `(tactic| walk_at "call builtin:max") => `(tactic| (k_here; refine max3_ff rfl (by k_asm) (by k_asm) (by assumption) ?_; intro _ h' _ F' N'; (try k_sweep)))
local macro_rules | `(tactic| walk_at "call builtin:min") => `(tactic| (k_here; refine min3_ff rfl (by k_asm) (by k_asm) (by assumption) ?_; intro _ h' _ F' N'; (try k_sweep)))
local macro_rules | `(tactic| walk_at "ite") => `(tactic| (k_closed; first | refine ite_pos (by decide +kernel) ?_ | refine ite_neg (by decide +kernel) ?_))
local macro_rules | `(tactic| walk_at "binaryOp Div float float") => `(tactic| (refine truediv_float_or rfl (fun hz => absurd hz (by decide +kernel)) (fun _ => ?_)))
local macro_rules | `(tactic| walk_at "binaryOp Mod float float") => `(tactic| (refine Flt.mod_ff rfl (fun hz => absurd hz (by decide +kernel)) (fun _ => ?_)))
noncomputable abbrev tupF (a b c : UInt64) (t1 t2 t3 : Tok) : Obj := { cls := .type "tuple", data := .seq #[.float a t1, .float b t2, .float c t3] }
theorem tupF_eq {a b c a' b' c' : UInt64} (t1 t2 t3 : Tok) (h : a' = a ∧ b' = b ∧ c' = c) : ({ cls := .type "tuple", data := .seq #[.float a' t1, .float b' t2, .float c' t3] } : Obj) = tupF a b c t1 t2 t3 := by
  obtain ⟨rfl, rfl, rfl⟩ := h
  rfl
theorem hls_ct (w : World) (mean : ExcName → Option Value) (mg mb : Str → Option Value) (r g b : UInt64) (t1 t2 t3 : Tok) (hmx : max3 r g b = 4607182418800017408) (hmn : min3 r g b = 0) : CtO w mean mg mb 10 28 [.float r t1, .float g t2, .float b t3] (tupF (hlsH r g b) hlsL hlsS) := by
  k_with_none
  w_top off
  unfold CtO; k_fill
  intros
  rename_i hret
  refine wpAny_call ?_
  w_strict ((k_dflt (first | (refine' code_defP ?k1 ?k2 ?k3 ?k5 ?kA ?kF ?kK ?k6 ?k7 ?k8 ?k9 ?kB ?_ ?c2 ?c3 ?c4 ?c5; (case kA => exact rfl); (case kF => exact rfl); (case kK => assumption); (case k1 => k_asm); (case k2 => k_asm); (case k3 => k_asm); (case k5 => k_asm); (case k6 => k_is); (case k7 => k_is); (case k8 => k_room); (case k9 => exact BindsTo.of_eq rfl); (case c5 => decide); (case kB => exact locs rfl); (case c2 => exact rfl); (case c3 => exact rfl); (case c4 => exact rfl); k_whole; intro L' h' F' N' B' X' T'; (try dsimp only); (try k_fold)) | (refine' code_defCP ?k1 ?k2 ?k3 ?k5 ?kA ?kF ?kK ?k6 ?k7 ?k8 ?k9 ?kB ?kD ?_ ?c2 ?c3 ?c4; (case kA => exact rfl); (case kF => exact rfl); (case kK => assumption); (case k1 => k_asm); (case k2 => k_asm); (case k3 => k_asm); (case k5 => k_asm); (case k6 => k_is); (case k7 => k_is); (case k8 => k_room); (case k9 => exact BindsTo.of_eq rfl); (case kB => exact rfl); (case kD => decide +kernel); (case c2 => exact rfl); (case c3 => exact rfl); (case c4 => exact rfl); k_whole; intro L' h' tk' cells' F' N' Y' B' X' T'; k_cells Y'; (try simp only [List.cons_append, List.nil_append] at N'); (try dsimp only); (try k_fold)))); k_steps)
  all_goals first
    | exact end_o hret (by assumption) (by assumption) (tupF_eq _ _ _ ⟨hls1 (by assumption), rfl, rfl⟩)
    | exact end_o hret (by assumption) (by assumption) (tupF_eq _ _ _ ⟨hls2 (by assumption) (by assumption), rfl, rfl⟩)
    | exact end_o hret (by assumption) (by assumption) (tupF_eq _ _ _ ⟨hls3 (by assumption) (by assumption), rfl, rfl⟩)
theorem big_no {n : Nat} (h : n ≤ 10000) (h2 : 2 ^ 1024 - 2 ^ 970 ≤ n) : False :=
  absurd (Nat.le_trans h2 h) (by decide +kernel)
theorem hsv_ct (w : World) (mean : ExcName → Option Value) (mg mb : Str → Option Value) (h : UInt64) (t1 t2 t3 : Tok) (hf : Float64.isFinite (Float64.mul h 4618441417868443648) = true)
    (hI : (Flt.toInt Float64.truncOf (Float64.mul h 4618441417868443648)).natAbs ≤ 10000) : CtO w mean mg mb 10 35 [.float h t1, .float 4607182418800017408 t2, .float 4607182418800017408 t3] (tupF (hsvR h) (hsvG h) (hsvB h)) := by
  k_with_none
  w_top off
  unfold CtO; k_fill
  intros
  rename_i hret
  refine wpAny_call ?_
  w_strict ((k_dflt (first | (refine' code_defP ?k1 ?k2 ?k3 ?k5 ?kA ?kF ?kK ?k6 ?k7 ?k8 ?k9 ?kB ?_ ?c2 ?c3 ?c4 ?c5; (case kA => exact rfl); (case kF => exact rfl); (case kK => assumption); (case k1 => k_asm); (case k2 => k_asm); (case k3 => k_asm); (case k5 => k_asm); (case k6 => k_is); (case k7 => k_is); (case k8 => k_room); (case k9 => exact BindsTo.of_eq rfl); (case c5 => decide); (case kB => exact locs rfl); (case c2 => exact rfl); (case c3 => exact rfl); (case c4 => exact rfl); k_whole; intro L' h' F' N' B' X' T'; (try dsimp only); (try k_fold)) | (refine' code_defCP ?k1 ?k2 ?k3 ?k5 ?kA ?kF ?kK ?k6 ?k7 ?k8 ?k9 ?kB ?kD ?_ ?c2 ?c3 ?c4; (case kA => exact rfl); (case kF => exact rfl); (case kK => assumption); (case k1 => k_asm); (case k2 => k_asm); (case k3 => k_asm); (case k5 => k_asm); (case k6 => k_is); (case k7 => k_is); (case k8 => k_room); (case k9 => exact BindsTo.of_eq rfl); (case kB => exact rfl); (case kD => decide +kernel); (case c2 => exact rfl); (case c3 => exact rfl); (case c4 => exact rfl); k_whole; intro L' h' tk' cells' F' N' Y' B' X' T'; k_cells Y'; (try simp only [List.cons_append, List.nil_append] at N'); (try dsimp only); (try k_fold)))); k_steps)
  all_goals first
    | exact (big_no (by assumption) (by assumption)).elim
    | exact (hsvNo (by assumption) (by assumption) (by assumption) (by assumption) (by assumption) (by assumption)).elim
    | exact end_o hret (by assumption) (by assumption) (tupF_eq _ _ _ (hsv0 (by assumption)))
    | exact end_o hret (by assumption) (by assumption) (tupF_eq _ _ _ (hsv1 (by assumption)))
    | exact end_o hret (by assumption) (by assumption) (tupF_eq _ _ _ (hsv2 (by assumption)))
    | exact end_o hret (by assumption) (by assumption) (tupF_eq _ _ _ (hsv3 (by assumption)))
    | exact end_o hret (by assumption) (by assumption) (tupF_eq _ _ _ (hsv4 (by assumption)))
    | exact end_o hret (by assumption) (by assumption) (tupF_eq _ _ _ (hsv5 (by assumption)))
end Mine
end

section
open PySem PySem.W PyProof.Rows
set_option maxRecDepth 100000
set_option maxHeartbeats 8000000
set_option linter.unusedVariables false
namespace Mine
local macro_rules | `(tactic| walk_at "call ref") => `(tactic| (k_here; refine Hold.out ?_))
noncomputable def hueIn (place q : Int) : UInt64 := Float64.ofFrac (decide (place < 0) != decide (q < 0)) place.natAbs q.natAbs
noncomputable def hueF (place q : Int) : UInt64 := hlsH (hsvR (hueIn place q)) (hsvG (hueIn place q)) (hsvB (hueIn place q))
noncomputable def hueOk (place q : Int) : Bool := Float64.isFinite (Float64.mul (hueIn place q) SIX) && decide ((hsvI (hueIn place q)).natAbs ≤ 10000)
  && max3 (hsvR (hueIn place q)) (hsvG (hueIn place q)) (hsvB (hueIn place q)) == ONE && min3 (hsvR (hueIn place q)) (hsvG (hueIn place q)) (hsvB (hueIn place q)) == 0
theorem hue_ct (w : World) (mean : ExcName → Option Value) (mg mb : Str → Option Value) (place q : Int) (t1 t2 : Tok) (hp0 : 0 ≤ place) (hp1 : place ≤ 1000) (hq : q ≠ 0) (hok : hueOk place q = true) :
    Ct w mean mg mb 20 115 [.int place t1, .int q t2] (fun t => .float (hueF place q) t) := by
  simp only [hueOk, Bool.and_eq_true, decide_eq_true_eq, beq_iff_eq] at hok
  obtain ⟨⟨⟨hf, hI⟩, hmx⟩, hmn⟩ := hok
  unfold hueIn at hf hI hmx hmn
  unfold hsvI at hI
  k_with_none
  w_top off
  unfold Ct; k_fill
  intros
  rename_i hret
  refine wpAny_call ?_
  w_strict ((k_dflt (first | (refine' code_defP ?k1 ?k2 ?k3 ?k5 ?kA ?kF ?kK ?k6 ?k7 ?k8 ?k9 ?kB ?_ ?c2 ?c3 ?c4 ?c5; (case kA => exact rfl); (case kF => exact rfl); (case kK => assumption); (case k1 => k_asm); (case k2 => k_asm); (case k3 => k_asm); (case k5 => k_asm); (case k6 => k_is); (case k7 => k_is); (case k8 => k_room); (case k9 => exact BindsTo.of_eq rfl); (case c5 => decide); (case kB => exact locs rfl); (case c2 => exact rfl); (case c3 => exact rfl); (case c4 => exact rfl); k_whole; intro L' h' F' N' B' X' T'; (try dsimp only); (try k_fold)) | (refine' code_defCP ?k1 ?k2 ?k3 ?k5 ?kA ?kF ?kK ?k6 ?k7 ?k8 ?k9 ?kB ?kD ?_ ?c2 ?c3 ?c4; (case kA => exact rfl); (case kF => exact rfl); (case kK => assumption); (case k1 => k_asm); (case k2 => k_asm); (case k3 => k_asm); (case k5 => k_asm); (case k6 => k_is); (case k7 => k_is); (case k8 => k_room); (case k9 => exact BindsTo.of_eq rfl); (case kB => exact rfl); (case kD => decide +kernel); (case c2 => exact rfl); (case c3 => exact rfl); (case c4 => exact rfl); k_whole; intro L' h' tk' cells' F' N' Y' B' X' T'; k_cells Y'; (try simp only [List.cons_append, List.nil_append] at N'); (try dsimp only); (try k_fold)))); k_steps)
  unfold Hold
  k_dflt (refine' CtO.use (hsv_ct _ _ _ _ _ _ _ _ ?ha ?hb) ?k1 ?k2 ?k3 ?k4 ?k5 ?k6 ?k7 ?k8 ?_)
  case ha => assumption
  case hb => assumption
  case k1 => k_asm
  case k2 => k_asm
  case k3 => k_asm
  case k4 => k_asm
  case k5 => k_asm
  case k6 => rfl
  case k7 => k_room
  case k8 => k_units
  intro D' u1 u2 u3 h' tk' F' N' l1 kp'
  simp only [AllNe] at l1
  try k_sweep
  w_strict k_steps
  unfold Hold
  k_dflt (refine' CtO.use (hls_ct _ _ _ _ _ _ _ _ _ _ ?ha ?hb) ?k1 ?k2 ?k3 ?k4 ?k5 ?k6 ?k7 ?k8 ?_)
  case ha => assumption
  case hb => assumption
  case k1 => k_asm
  case k2 => k_asm
  case k3 => k_asm
  case k4 => k_asm
  case k5 => k_asm
  case k6 => rfl
  case k7 => k_room
  case k8 => k_units
  intro D' u1 u2 u3 h' tk' F' N' l1 kp'
  simp only [AllNe] at l1
  try k_sweep
  w_strict k_steps
  exact end_f hret rfl (by assumption)
end Mine
end

section
open PySem PySem.W PyProof.Rows
set_option maxRecDepth 100000
set_option maxHeartbeats 8000000
set_option linter.unusedVariables false
namespace Mine
section
variable {prog : Program} {w : World} {A : Around} {E : Value → Shared → Prop} {s : Shared} {env : Env} {h₀ : Heap} {L : Addr} {m : Str → Option Value}
/-- an element's end: what it is, and that all that stood stays -/
noncomputable def EltEnd (P : Value → Prop) (s₂ : Shared) (y : Value) (s₃ : Shared) : Prop := P y ∧ Keeps s₂ s₃
/-- what a comprehension over a range asks of its range, its element and its end -/
noncomputable def CompR (prog : Program) (w : World) (A : Around) (env : Env) (h₀ : Heap) (L : Addr) (m : Str → Option Value) (F : Int → Value → Prop) (elt : Expr) (scope : Scope) (cl : List (Str × Addr)) (x : Str) (Q : Value → Shared → Prop) (xv : Value) (s₁ : Shared) : Prop :=
  ∃ (news : List (Addr × Obj)) (r : Addr) (a₀ b₀ : Int) (t₀ u₀ v₀ : Tok) (n : Nat), xv = .ref r ∧ IsRange s₁.heap r a₀ b₀ 1 t₀ u₀ v₀ ∧ Builtin.Range.small a₀ b₀ 1 = true ∧ Builtin.Range.rangeSize a₀ b₀ 1 = (n : Int) ∧ n ≤ sizeLine ∧ Fr h₀ L s₁.heap m ∧ News h₀ L s₁.heap news ∧
    (∀ (C : Addr) (k : Int) (t : Tok) (s₂ : Shared) (m₂ : Str → Option Value) (E' : Value → Shared → Prop), s₁.heap.objs.size ≤ C → a₀ ≤ k → k < a₀ + (n : Int) → s₂.heap.Ns (compEnvC scope cl C env).locals m₂ → m₂ x = some (.int k t) → (∀ b o, s₁.heap.get? b = some o → s₂.heap.get? b = some o) →
      wpAny (model prog w) A (eval elt (compEnvC scope cl C env)) (fun y s₃ => EltEnd (F k) s₂ y s₃) E' s₂) ∧
    (∀ (D : Addr) (ys : List Value) (nn : Nat) (h' : Heap) (tk : Nat), Fr h₀ L h' m → News h₀ L h' ((D, listOf ys.toArray nn) :: news) → (∀ p ∈ news, p.1 ≠ D) → ys.length = n → (∀ i : Nat, i < n → ∃ y, ys[i]? = some y ∧ F (a₀ + (i : Int)) y) → Q (.ref D) { s₁ with heap := h', toks := tk })
theorem paired_get {α β : Type} {F : α → β → Prop} : ∀ {l₁ : List α} {l₂ : List β}, Paired F l₁ l₂ → l₂.length = l₁.length ∧ ∀ (i : Nat) (a : α), l₁[i]? = some a → ∃ b, l₂[i]? = some b ∧ F a b
  | _, _, .nil => ⟨rfl, fun i a e => by simp at e⟩
  | _, _, .cons h t => ⟨by simp [(paired_get t).1], fun i a e => by
      cases i with
      | zero => simp at e; subst e; exact ⟨_, by simp, h⟩
      | succ i => simp at e; obtain ⟨b, e2, hb⟩ := (paired_get t).2 i a e; exact ⟨b, by simpa using e2, hb⟩⟩
theorem comp_range {elt iter : Expr} {x : Str} {px : Pos} {scope : Scope} {cl : List (Str × Addr)} {pos : Pos} {Q : Value → Shared → Prop} (F : Int → Value → Prop)
    (hF₀ : Fr h₀ L s.heap m) (hh : A.handled = none) (hclos : closureFor scope env = pure cl) (hcell : ∀ y ∈ scope.names, y.2 ≠ .cell) (hkind : scope.kind = .function)
    (hnames : ∀ y ∈ scope.names, y.2 = .local → scope.names.lookup y.1 = some .local) (hx : scope.names.lookup x = some .local)
    (h : wpAny (model prog w) A (eval iter env) (fun xv s₁ => CompR prog w A env h₀ L m F elt scope cl x Q xv s₁) E s)
    (hs : ∀ x, foldedSetIterable iter env x = pure x) :
    wpAny (model prog w) A (eval (.ListComp elt [⟨.Name x px, iter, [], 0⟩] scope pos) env) Q E s := by
  refine wpAny_ListComp_free (fun _ => true) (fun v y => ∃ k t, v = .int k t ∧ F k y) hclos hcell hkind hnames hx (wpAny_mono h (fun xv s₁ h₁ => ?_) fun _ _ e => e) hs
  obtain ⟨news, r, a₀, b₀, t₀, u₀, v₀, n, rfl, hr, hsmall, hn, hsz, F', N, helt, hQ⟩ := h₁
  have up : ∀ (s₃ : Shared), (∀ b o, b ∉ [s₁.heap.objs.size] → (s₁.heap.push { cls := .type "range_iterator", data := .fields #[rawInt a₀, rawInt (Builtin.Range.rangeSize a₀ b₀ 1), rawInt 1] }).get? b = some o → s₃.heap.get? b = some o) → ∀ b o, s₁.heap.get? b = some o → s₃.heap.get? b = some o :=
    fun s₃ hk b o e => hk b o (fun hm => by rcases List.mem_cons.mp hm with rfl | hm; exact Nat.lt_irrefl _ (Heap.lt_size e); cases hm) (Heap.get?_push_of_some _ e)
  refine wpAny_pyIter_range hr hsmall ⟨s₁.heap.objs.size, [s₁.heap.objs.size], [s₁.heap.objs.size], n, _, _, rfl, (Walks.range hh _ a₀ 1 n).bound, hsz, (by show IsRangeIter _ _ _ _ _; rw [hn]; simpa using Heap.get?_push_size _ rfl), ?_, ⟨?_, ?_⟩, ?_⟩
  · intro b hb
    show b < (s₁.heap.push _).objs.size
    rw [Heap.size_push]
    rcases List.mem_cons.mp hb with rfl | hb
    · exact Nat.lt_succ_self _
    · cases hb
  · intro C i v s₃ m₃ E' hC hP hn' hm hk _
    exact wpAny_pure ⟨rfl, s₃.heap, s₃.toks, rfl, fun _ _ e => e⟩
  · intro C i v s₃ m₃ E' hC hP hp hn' hm hk _
    obtain ⟨hi, t, rfl⟩ := hP
    exact wpAny_mono (helt C _ t s₃ m₃ E' (Nat.le_of_succ_le (by simpa [Heap.size_push] using hC)) (by omega) (by omega) hn' hm (up s₃ hk)) (fun y s₄ h₄ => ⟨⟨_, t, rfl, h₄.1⟩, h₄.2⟩) fun _ _ e => e
  · intro D h' tk ys vs' hnew hlD hplD hlen hP hF hk
    have keep : ∀ b o, s₁.heap.get? b = some o → h'.get? b = some o := up { s₁ with heap := h' } hk
    have hne : ∀ p ∈ news, p.1 ≠ D := fun p hp e => by rw [← e, Heap.get?_push_of_some _ (N p hp).1] at hnew; cases hnew
    have hno : h₀.get? D = none := by
      cases e : h₀.get? D with
      | none => rfl
      | some o' => rw [Heap.get?_push_of_some _ (F'.keep _ _ e)] at hnew; cases hnew
    obtain ⟨nn, NN⟩ := made_enters (items := ys) ⟨hplD, hne⟩ (F'.keeps keep) (N.grown keep) hno
    rw [List.filter_eq_self.mpr (fun _ _ => rfl)] at hF
    obtain ⟨hl, hg⟩ := paired_get hF
    refine hQ D ys.toList nn h' tk (F'.keeps keep) (by rw [Array.toArray_toList]; exact NN) hne (hl.trans hlen) fun i hi => ?_
    have hv : ∃ v, vs'[i]? = some v := ⟨vs'[i]'(by omega), by simp [hlen, hi]⟩
    obtain ⟨v, hv⟩ := hv
    obtain ⟨y, hy, k, t, e, hFy⟩ := hg i v hv
    obtain ⟨_, t', e'⟩ := hP i v hv
    rw [e'] at e
    cases e
    have e1 : a₀ + (i : Int) * 1 = a₀ + (i : Int) := by omega
    rw [e1] at hFy
    exact ⟨y, hy, hFy⟩
/-- what a comprehension over a list asks -/
noncomputable def CompL (prog : Program) (w : World) (A : Around) (env : Env) (h₀ : Heap) (L : Addr) (m : Str → Option Value) (F : Value → Value → Prop) (elt : Expr) (scope : Scope) (cl : List (Str × Addr)) (x : Str) (Q : Value → Shared → Prop) (xv : Value) (s₁ : Shared) : Prop :=
  ∃ (news : List (Addr × Obj)) (ax : Addr) (vs : List Value), xv = .ref ax ∧ s₁.heap.IsList ax vs.toArray ∧ vs.length ≤ sizeLine ∧ Fr h₀ L s₁.heap m ∧ News h₀ L s₁.heap news ∧
    (∀ (C : Addr) (v : Value) (s₂ : Shared) (m₂ : Str → Option Value) (E' : Value → Shared → Prop), s₁.heap.objs.size ≤ C → v ∈ vs → s₂.heap.Ns (compEnvC scope cl C env).locals m₂ → m₂ x = some v → (∀ b o, s₁.heap.get? b = some o → s₂.heap.get? b = some o) →
      wpAny (model prog w) A (eval elt (compEnvC scope cl C env)) (fun y s₃ => EltEnd (F v) s₂ y s₃) E' s₂) ∧
    (∀ (D : Addr) (ys : List Value) (nn : Nat) (h' : Heap) (tk : Nat), Fr h₀ L h' m → News h₀ L h' ((D, listOf ys.toArray nn) :: news) → (∀ p ∈ news, p.1 ≠ D) → Paired F vs ys → Q (.ref D) { s₁ with heap := h', toks := tk })
theorem comp_list {elt iter : Expr} {x : Str} {px : Pos} {scope : Scope} {cl : List (Str × Addr)} {pos : Pos} {Q : Value → Shared → Prop} (F : Value → Value → Prop)
    (hF₀ : Fr h₀ L s.heap m) (hh : A.handled = none) (hclos : closureFor scope env = pure cl) (hcell : ∀ y ∈ scope.names, y.2 ≠ .cell) (hkind : scope.kind = .function)
    (hnames : ∀ y ∈ scope.names, y.2 = .local → scope.names.lookup y.1 = some .local) (hx : scope.names.lookup x = some .local)
    (h : wpAny (model prog w) A (eval iter env) (fun xv s₁ => CompL prog w A env h₀ L m F elt scope cl x Q xv s₁) E s)
    (hs : ∀ x, foldedSetIterable iter env x = pure x) :
    wpAny (model prog w) A (eval (.ListComp elt [⟨.Name x px, iter, [], 0⟩] scope pos) env) Q E s := by
  refine wpAny_ListComp_free (fun _ => true) F hclos hcell hkind hnames hx (wpAny_mono h (fun xv s₁ h₁ => ?_) fun _ _ e => e) hs
  obtain ⟨news, ax, vs, rfl, hl, hsz, F', N, helt, hQ⟩ := h₁
  have hlt : ax < s₁.heap.objs.size := by obtain ⟨_, e, _⟩ := hl; exact Heap.lt_size e
  have up : ∀ (s₃ : Shared), (∀ b o, b ∉ [s₁.heap.objs.size] → (s₁.heap.push { cls := .type "list_iterator", data := .fields #[.ref ax, .int 0 0] }).get? b = some o → s₃.heap.get? b = some o) → ∀ b o, s₁.heap.get? b = some o → s₃.heap.get? b = some o :=
    fun s₃ hk b o e => hk b o (fun hm => by rcases List.mem_cons.mp hm with rfl | hm; exact Nat.lt_irrefl _ (Heap.lt_size e); cases hm) (Heap.get?_push_of_some _ e)
  refine wpAny_pyIter_list hl ⟨s₁.heap.objs.size, [s₁.heap.objs.size, ax], [s₁.heap.objs.size], vs.toArray.size, _, _, rfl, Walks.list hh _ _ (Nat.ne_of_lt hlt) vs.toArray, (by rw [List.size_toArray]; exact hsz), ⟨⟨_, Heap.get?_push_size _ rfl, rfl, rfl⟩, hl.push _⟩, ?_, ⟨?_, ?_⟩, ?_⟩
  · intro b hb
    show b < (s₁.heap.push _).objs.size
    rw [Heap.size_push]
    rcases List.mem_cons.mp hb with rfl | hb
    · exact Nat.lt_succ_self _
    · rcases List.mem_cons.mp hb with rfl | hb
      · exact Nat.lt_succ_of_lt hlt
      · cases hb
  · intro C i v s₃ m₃ E' hC hP hn' hm hk _
    exact wpAny_pure ⟨rfl, s₃.heap, s₃.toks, rfl, fun _ _ e => e⟩
  · intro C i v s₃ m₃ E' hC hP hp hn' hm hk _
    exact wpAny_mono (helt C v s₃ m₃ E' (Nat.le_of_succ_le (by simpa [Heap.size_push] using hC)) (by simpa using Array.mem_of_getElem? hP) hn' hm (up s₃ hk)) (fun y s₄ h₄ => ⟨h₄.1, h₄.2⟩) fun _ _ e => e
  · intro D h' tk ys vs' hnew hlD hplD hlen hP hF hk
    have e : vs' = vs := by simpa using list_of_places hlen hP
    subst e
    have keep : ∀ b o, s₁.heap.get? b = some o → h'.get? b = some o := up { s₁ with heap := h' } hk
    have hne : ∀ p ∈ news, p.1 ≠ D := fun p hp e => by rw [← e, Heap.get?_push_of_some _ (N p hp).1] at hnew; cases hnew
    have hno : h₀.get? D = none := by
      cases e : h₀.get? D with
      | none => rfl
      | some o' => rw [Heap.get?_push_of_some _ (F'.keep _ _ e)] at hnew; cases hnew
    obtain ⟨nn, NN⟩ := made_enters (items := ys) ⟨hplD, hne⟩ (F'.keeps keep) (N.grown keep) hno
    rw [List.filter_eq_self.mpr (fun _ _ => rfl)] at hF
    exact hQ D ys.toList nn h' tk (F'.keeps keep) (by rw [Array.toArray_toList]; exact NN) hne hF
/-- the same where it is assigned to a local name -/
noncomputable def CompLA (prog : Program) (w : World) (A : Around) (env : Env) (h₀ : Heap) (L : Addr) (m : Str → Option Value) (F : Value → Value → Prop) (elt : Expr) (scope : Scope) (cl : List (Str × Addr)) (x y : Str) (Q : Flow → Shared → Prop) (xv : Value) (s₁ : Shared) : Prop :=
  ∃ (news : List (Addr × Obj)) (ax : Addr) (vs : List Value), xv = .ref ax ∧ s₁.heap.IsList ax vs.toArray ∧ vs.length ≤ sizeLine ∧ Fr h₀ L s₁.heap m ∧ News h₀ L s₁.heap news ∧
    (∀ (C : Addr) (v : Value) (s₂ : Shared) (m₂ : Str → Option Value) (E' : Value → Shared → Prop), s₁.heap.objs.size ≤ C → v ∈ vs → s₂.heap.Ns (compEnvC scope cl C env).locals m₂ → m₂ x = some v → (∀ b o, s₁.heap.get? b = some o → s₂.heap.get? b = some o) →
      wpAny (model prog w) A (eval elt (compEnvC scope cl C env)) (fun y s₃ => EltEnd (F v) s₂ y s₃) E' s₂) ∧
    (∀ (D : Addr) (ys : List Value) (nn : Nat) (h' : Heap) (tk : Nat), Fr h₀ L h' (fun z => if z = y then some (.ref D) else m z) → News h₀ L h' ((D, listOf ys.toArray nn) :: news) → (∀ p ∈ news, p.1 ≠ D) → Paired F vs ys → Q .next { s₁ with heap := h', toks := tk })
theorem comp_listA {elt iter : Expr} {x y : Str} {px py : Pos} {scope : Scope} {cl : List (Str × Addr)} {pos spos : Pos} {Q : Flow → Shared → Prop} (F : Value → Value → Prop)
    (hF₀ : Fr h₀ L s.heap m) (hsw : swapsWith (.ListComp elt [⟨.Name x px, iter, [], 0⟩] scope pos) (some (.Name y py)) spos.line env = pure true) (hL : env.locals = L)
    (hh : A.handled = none) (hclos : closureFor scope env = pure cl) (hcell : ∀ z ∈ scope.names, z.2 ≠ .cell) (hkind : scope.kind = .function)
    (hnames : ∀ z ∈ scope.names, z.2 = .local → scope.names.lookup z.1 = some .local) (hx : scope.names.lookup x = some .local)
    (hy : env.kindOf y = some .local) (hp : (env.scope.kind == .class || (env.scope.kind == .module && env.locals != env.globals)) = false)
    (h : wpAny (model prog w) A (eval iter env) (fun xv s₁ => CompLA prog w A env h₀ L m F elt scope cl x y Q xv s₁) E s)
    (hs : ∀ x, foldedSetIterable iter env x = pure x) :
    wpAny (model prog w) A (exec (.Assign [.Name y py] (.ListComp elt [⟨.Name x px, iter, [], 0⟩] scope pos) spos) env) Q E s := by
  subst hL
  refine wpAny_Assign_ListComp_free (fun _ => true) F hsw hclos hcell hkind hnames hx hy hp (wpAny_mono h (fun xv s₁ h₁ => ?_) fun _ _ e => e) hs
  obtain ⟨news, ax, vs, rfl, hl, hsz, F', N, helt, hQ⟩ := h₁
  have hlt : ax < s₁.heap.objs.size := by obtain ⟨_, e, _⟩ := hl; exact Heap.lt_size e
  have up : ∀ (s₃ : Shared), (∀ b o, b ∉ [s₁.heap.objs.size] → (s₁.heap.push { cls := .type "list_iterator", data := .fields #[.ref ax, .int 0 0] }).get? b = some o → s₃.heap.get? b = some o) → ∀ b o, s₁.heap.get? b = some o → s₃.heap.get? b = some o :=
    fun s₃ hk b o e => hk b o (fun hm => by rcases List.mem_cons.mp hm with rfl | hm; exact Nat.lt_irrefl _ (Heap.lt_size e); cases hm) (Heap.get?_push_of_some _ e)
  refine wpAny_pyIter_list hl ⟨s₁.heap.objs.size, [s₁.heap.objs.size, ax], [s₁.heap.objs.size], vs.toArray.size, _, _, m, rfl, Walks.list hh _ _ (Nat.ne_of_lt hlt) vs.toArray, (by rw [List.size_toArray]; exact hsz), ⟨⟨_, Heap.get?_push_size _ rfl, rfl, rfl⟩, hl.push _⟩, ?_, ?_, F'.ns.push _, ⟨?_, ?_⟩, ?_⟩
  · intro b hb
    show b < (s₁.heap.push _).objs.size
    rw [Heap.size_push]
    rcases List.mem_cons.mp hb with rfl | hb
    · exact Nat.lt_succ_self _
    · rcases List.mem_cons.mp hb with rfl | hb
      · exact Nat.lt_succ_of_lt hlt
      · cases hb
  · intro hm
    rcases List.mem_cons.mp hm with e | hm
    · exact Nat.lt_irrefl _ (e ▸ F'.ns.lt)
    · cases hm
  · intro C i v s₃ m₃ E' hC hP hn' hm hk _
    exact wpAny_pure ⟨rfl, s₃.heap, s₃.toks, rfl, fun _ _ e => e⟩
  · intro C i v s₃ m₃ E' hC hP hp hn' hm hk _
    exact wpAny_mono (helt C v s₃ m₃ E' (Nat.le_of_succ_le (by simpa [Heap.size_push] using hC)) (by simpa using Array.mem_of_getElem? hP) hn' hm (up s₃ hk)) (fun y s₄ h₄ => ⟨h₄.1, h₄.2⟩) fun _ _ e => e
  · intro D h' tk ys vs' hnew hlD hplD hlen hP hF hn' hk
    have e : vs' = vs := by simpa using list_of_places hlen hP
    subst e
    have keep : ∀ b o, b ≠ env.locals → s₁.heap.get? b = some o → h'.get? b = some o := fun b o hb e =>
      hk b o hb (fun hm => by rcases List.mem_cons.mp hm with rfl | hm; exact Nat.lt_irrefl _ (Heap.lt_size e); cases hm) (Heap.get?_push_of_some _ e)
    have hne : ∀ p ∈ news, p.1 ≠ D := fun p hp e => by rw [← e, Heap.get?_push_of_some _ (N p hp).1] at hnew; cases hnew
    have hno : h₀.get? D = none := by
      cases e : h₀.get? D with
      | none => rfl
      | some o' => rw [Heap.get?_push_of_some _ (F'.keep _ _ e)] at hnew; cases hnew
    have FF : Fr h₀ env.locals h' (fun z => if z = y then some (.ref D) else m z) := ⟨hn', fun b o e => keep b o (Nat.ne_of_lt (Nat.lt_of_lt_of_le (Heap.lt_size e) F'.above)) (F'.keep b o e), F'.above⟩
    obtain ⟨nn, NN⟩ := made_enters (items := ys) ⟨hplD, hne⟩ FF (fun p hp => ⟨keep _ _ (N p hp).2.1 (N p hp).1, (N p hp).2⟩) hno
    rw [List.filter_eq_self.mpr (fun _ _ => rfl)] at hF
    exact hQ D ys.toList nn h' tk FF (by rw [Array.toArray_toList]; exact NN) hne hF
end
end Mine
end

section
open PySem PySem.W PyProof.Rows
set_option maxRecDepth 100000
set_option maxHeartbeats 8000000
set_option linter.unusedVariables false
namespace Mine
local macro_rules | `(tactic| walk_at "pad 0") => `(tactic| fail)
local macro_rules | `(tactic| walk_at "pad 1") => `(tactic| fail)
local macro_rules | `(tactic| walk_at "eval ListComp") => `(tactic| k_extra "comp")
local macro_rules | `(tactic| walk_at "call ref") => `(tactic| (k_here; refine Hold.out ?_))
local macro_rules | `(tactic| walk_at "subscriptTail") => `(tactic| (k_here; refine Hold.out ?_))
theorem strsAre_of {f : Nat → Str} : ∀ {zs : List Value} {n : Nat}, zs.length = n → (∀ i : Nat, i < n → ∃ t, zs[i]? = some (.str (f i) t)) → StrsAre zs ((List.range n).map f) := by
  intro zs
  induction zs generalizing f with
  | nil => intro n hl _; subst hl; exact .nil
  | cons z zs ih =>
    intro n hl h
    subst hl
    obtain ⟨t, e⟩ := h 0 (by simp)
    simp at e
    subst e
    rw [List.length_cons, List.range_succ_eq_map, List.map_cons, List.map_map]
    refine .cons _ _ (ih rfl fun i hi => ?_)
    obtain ⟨t', e'⟩ := h (i + 1) (by simpa using hi)
    exact ⟨t', by simpa using e'⟩
noncomputable def rhySign (q p first : Int) (i : Nat) : Str := if fLt (hueF (first + ((i : Int) + 1) * p) q) (hueF (first + (i : Int) * p) q) = true then Str.ofString "\t" else Str.ofString " "
noncomputable def rhyF (q p first : Int) : Str := Txt.join (Str.ofString "") ((List.range q.toNat).map (rhySign q p first))
theorem rhy_weight (f : Nat → Str) (hf : ∀ i, (f i).length ≤ 1) (n : Nat) : (((List.range n).map f).map (·.length)).sum ≤ n := by
  induction n with
  | zero => simp
  | succ n ih =>
    rw [List.range_succ, List.map_append, List.map_append, List.sum_append]
    have := hf n
    simp only [List.map_cons, List.map_nil, List.sum_cons, List.sum_nil]
    omega
theorem rhySign_len (q p first : Int) (i : Nat) : (rhySign q p first i).length ≤ 1 := by
  unfold rhySign
  split <;> decide +kernel
theorem rhy_ct (w : World) (mean : ExcName → Option Value) (mg mb : Str → Option Value) (q p first : Int) (t1 t2 t3 : Tok) (hp : 0 ≤ p) (hp2 : p < q) (hq : 4 ≤ q) (hq2 : q ≤ 16) (hf : 0 ≤ first) (hf2 : first ≤ 32) (hok : ∀ k : Int, 0 ≤ k → k ≤ q → hueOk (first + k * p) q = true) :
    Ct w mean mg mb 40 120 [.int q t1, .int p t2, .int first t3] (fun t => .str (rhyF q p first) t) := by
  k_with_none
  w_top off
  unfold Ct; k_fill
  intros
  rename_i hret
  refine wpAny_call ?_
  (k_with "comp" => (k_here; (with_reducible apply comp_range (fun k y => ∃ t, y = Value.float (hueF (first + k * p) q) t)); (case hF₀ => k_asm); (case hh => with_unfolding_all rfl); (case hclos => with_unfolding_all rfl); (case hcell => decide); (case hkind => with_unfolding_all rfl); (case hnames => decide); (case hx => with_unfolding_all rfl); (case hs => intro _; with_unfolding_all rfl)))
  w_strict ((k_dflt (first | (refine' code_defP ?k1 ?k2 ?k3 ?k5 ?kA ?kF ?kK ?k6 ?k7 ?k8 ?k9 ?kB ?_ ?c2 ?c3 ?c4 ?c5; (case kA => exact rfl); (case kF => exact rfl); (case kK => assumption); (case k1 => k_asm); (case k2 => k_asm); (case k3 => k_asm); (case k5 => k_asm); (case k6 => k_is); (case k7 => k_is); (case k8 => k_room); (case k9 => exact BindsTo.of_eq rfl); (case c5 => decide); (case kB => exact locs rfl); (case c2 => exact rfl); (case c3 => exact rfl); (case c4 => exact rfl); k_whole; intro L' h' F' N' B' X' T'; (try dsimp only); (try k_fold)) | (refine' code_defCP ?k1 ?k2 ?k3 ?k5 ?kA ?kF ?kK ?k6 ?k7 ?k8 ?k9 ?kB ?kD ?_ ?c2 ?c3 ?c4; (case kA => exact rfl); (case kF => exact rfl); (case kK => assumption); (case k1 => k_asm); (case k2 => k_asm); (case k3 => k_asm); (case k5 => k_asm); (case k6 => k_is); (case k7 => k_is); (case k8 => k_room); (case k9 => exact BindsTo.of_eq rfl); (case kB => exact rfl); (case kD => decide +kernel); (case c2 => exact rfl); (case c3 => exact rfl); (case c4 => exact rfl); k_whole; intro L' h' tk' cells' F' N' Y' B' X' T'; k_cells Y'; (try simp only [List.cons_append, List.nil_append] at N'); (try dsimp only); (try k_fold)))); k_steps)
  refine ⟨_, _, _, _, _, _, _, _, rfl, by assumption, small_one (by omega) (by omega) (by omega) (by omega), rangeSize_nat _ _, by (rw [sizeLine_eq]; omega), by assumption, by assumption, ?elt, ?fin⟩
  case elt =>
    intro C k t s₂ m₂ E' hC hk0 hk1 hns hmk hkeep
    have hok' := hok k hk0 (by omega)
    have hm1 : 0 ≤ k * p := Int.mul_nonneg hk0 hp
    have hm2 : k * p ≤ 16 * 16 := Int.mul_le_mul (by omega) (by omega) hp (by omega)
    w_strict k_steps
    unfold Hold
    k_dflt (refine' Ct.use (hue_ct _ _ _ _ _ _ _ _ ?ha ?hb ?hc ?hd) ?k1 ?k2 ?k3 ?k4 ?k5 ?k6 ?k7 ?k8 ?_)
    case ha => omega
    case hb => omega
    case hc => omega
    case hd => assumption
    case k1 => k_asm
    case k2 => k_asm
    case k3 => k_asm
    case k4 => k_asm
    case k5 => k_asm
    case k6 => rfl
    case k7 => k_room
    case k8 => k_units
    intro t' h' tk' F' N' kp'
    exact ⟨⟨_, rfl⟩, _, _, rfl, kp'⟩
  case fin =>
    intro D ys nn h' tk F' N' hne hlen hys
    replace hne := allNe_of hne
    simp only [AllNe] at hne
    (k_with "comp" => (k_here; (with_reducible apply comp_range (fun k y => ∃ t, y = Value.str (if fLt (hueF (first + (k + 1) * p) q) (hueF (first + k * p) q) = true then Str.ofString "\t" else Str.ofString " ") t)); (case hF₀ => k_asm); (case hh => with_unfolding_all rfl); (case hclos => with_unfolding_all rfl); (case hcell => decide); (case hkind => with_unfolding_all rfl); (case hnames => decide); (case hx => with_unfolding_all rfl); (case hs => intro _; with_unfolding_all rfl)))
    w_strict k_steps
    refine ⟨_, _, _, _, _, _, _, _, rfl, by assumption, small_one (by omega) (by omega) (by omega) (by omega), rangeSize_nat _ _, by (rw [sizeLine_eq]; omega), by assumption, by assumption, ?elt, ?fin⟩
    case elt =>
      intro C k t s₂ m₂ E' hC hk0 hk1 hns hmk hkeep
      obtain ⟨y1, e1, u1, rfl⟩ := hys (k + 1).toNat (by omega)
      obtain ⟨y0, e0, u0, rfl⟩ := hys k.toNat (by omega)
      have i1 : (0 : Int) + (((k + 1).toNat : Nat) : Int) = k + 1 := by omega
      have i0 : (0 : Int) + ((k.toNat : Nat) : Int) = k := by omega
      rw [i1] at e1
      rw [i0] at e0
      w_strict k_steps
      unfold Hold
      refine item_litK (News.isList (by assumption) (by k_mem)) (by omega) (by omega) e1 ?_ (by with_unfolding_all rfl)
      w_strict k_steps
      unfold Hold
      refine item_litK (News.isList (by assumption) (by k_mem)) (by omega) (by omega) e0 ?_ (by with_unfolding_all rfl)
      w_strict k_steps
      all_goals first
        | exact ⟨⟨_, by rw [if_pos (by assumption)]⟩, _, _, rfl, fun _ _ e => e⟩
        | exact ⟨⟨_, by rw [if_neg (by unfold fLt; simp only [Bool.not_eq_true]; assumption)]⟩, _, _, rfl, fun _ _ e => e⟩
    case fin =>
      intro D2 zs nn2 h2 tk2 F2 N2 hne2 hlen2 hzs
      w_strict k_steps
      have hS : StrsAre zs ((List.range q.toNat).map (rhySign q p first)) := by
        refine strsAre_of (by omega) fun i hi => ?_
        obtain ⟨y, e, u, rfl⟩ := hzs i (by omega)
        have ii : (0 : Int) + (i : Int) = (i : Int) := by omega
        rw [ii] at e
        exact ⟨u, e⟩
      refine join_listC (ys := (List.range q.toNat).map (rhySign q p first)) (News.isList (by assumption) (by k_mem)) (by simpa using hS) (by decide +kernel) (by have := rhy_weight (rhySign q p first) (rhySign_len q p first) q.toNat; simp only [List.length_map, List.length_range] at this ⊢; omega) ?_
      intro tj kj
      w_strict k_steps
      exact end_s hret rfl (by assumption)
end Mine
end

section
open PySem PySem.W PyProof.Rows PySem.Builtin.Str PySem.Builtin
set_option linter.unusedVariables false
namespace Mine
noncomputable def find4 (x y : Str) (i j : Int) : Int := match Builtin.Str.occurrences x y (fromIndex x.length i) (min (fromIndex x.length j) x.length) 1 with
  | k :: _ => (k : Int)
  | [] => -1
theorem gives_find4 (x y : Str) (i j : Int) (t u v z : Tok) : Gives (Builtin.«str.find» ⟨[.str x t, .str y u, .int i v, .int j z], []⟩) (.int (find4 x y i j)) := by
  show Gives (match Builtin.Str.occurrences x y (fromIndex x.length i) (min (fromIndex x.length j) x.length) 1 with | k :: _ => retInt k | [] => (do rule "str.find.not-found"; retInt (-1))) _
  unfold find4
  cases Builtin.Str.occurrences x y (fromIndex x.length i) (min (fromIndex x.length j) x.length) 1 with
  | nil => exact .rule (.of_eq rfl)
  | cons k _ => exact .of_eq rfl
theorem find4_call {prog : Program} {w : World} {A : Around} {E : Value → Shared → Prop} {s : Shared} {Q : Value → Shared → Prop} {x y : Str} {i j : Int} {t u v z : Tok} (hq : Q (.int (find4 x y i j) s.toks) { s with toks := s.toks + 1 }) : wpAny (model prog w) A (call (.builtin "str.find") [.str x t, .str y u, .int i v, .int j z]) Q E s :=
  call_gives F.slot_str_find (typeIs_str _ _ _) F.entry_str_find (F.args_str_find_4 _ _ _ _) (gives_find4 x y i j t u v z) hq
theorem fromIndex_nat (len n : Nat) : fromIndex len (n : Int) = n := by
  unfold fromIndex
  rw [if_neg (by omega)]
  omega
theorem subAt_nil (x : Str) (i : Nat) : subAt x Str.empty i = true := by
  unfold subAt
  simp [Str.empty, Str.length]
  omega
theorem find4_nil {x : Str} {i : Int} (h0 : 0 ≤ i) (h1 : i ≤ (x.length : Int)) : find4 x Str.empty i (x.length : Int) = i := by
  obtain ⟨n, rfl⟩ := Int.eq_ofNat_of_zero_le h0
  unfold find4
  rw [fromIndex_nat, fromIndex_nat, Nat.min_self]
  have at_ : ∀ k, k ≤ x.length → StrLaws.At x Str.empty x.length k := fun k hk => ⟨by simpa [Str.empty, Str.length] using hk, subAt_nil x k⟩
  rcases StrLaws.occ_head_from x Str.empty n 1 (Nat.le_refl _) with ⟨h, hn⟩ | ⟨i, r, h, hlo, ha, hk⟩
  · exact absurd (at_ n (by omega)) (hn n (Nat.le_refl _))
  · rw [h]
    have hi : i = n := by
      rcases Nat.lt_or_ge n i with q | q
      · exact absurd (at_ n (by omega)) (hk n (Nat.le_refl _) q)
      · omega
    rw [hi]
theorem find4_le {x y : Str} (h : 0 ≤ find4 x y 0 (x.length : Int)) : find4 x y 0 (x.length : Int) + (y.length : Int) ≤ (x.length : Int) := by
  unfold find4 at h ⊢
  rw [fromIndex_nat, show fromIndex x.length 0 = 0 from fromIndex_nat x.length 0, Nat.min_self] at h ⊢
  rcases StrLaws.occ_head_from x y 0 1 (Nat.le_refl _) with ⟨e, _⟩ | ⟨i, r, e, _, ha, _⟩
  · rw [e] at h; simp at h
  · rw [e]; have := ha.1; simp; omega
theorem find4_call0 {prog : Program} {w : World} {A : Around} {E : Value → Shared → Prop} {s : Shared} {Q : Value → Shared → Prop} {x y : Str} {i j : Int} {t u v z : Tok} (hi : i = 0) (hq : Q (.int (find4 x y 0 j) s.toks) { s with toks := s.toks + 1 }) : wpAny (model prog w) A (call (.builtin "str.find") [.str x t, .str y u, .int i v, .int j z]) Q E s := by
  subst hi
  exact find4_call hq
theorem find4_callN {prog : Program} {w : World} {A : Around} {E : Value → Shared → Prop} {s : Shared} {Q : Value → Shared → Prop} {x : Str} {i : Int} {t u v z : Tok} (h0 : 0 ≤ i) (h1 : i ≤ (x.length : Int)) (hq : Q (.int i s.toks) { s with toks := s.toks + 1 }) : wpAny (model prog w) A (call (.builtin "str.find") [.str x t, .str Str.empty u, .int i v, .int (x.length : Int) z]) Q E s :=
  find4_call (by rw [find4_nil h0 h1]; exact hq)
theorem len_empty_call {prog : Program} {w : World} {A : Around} {E : Value → Shared → Prop} {s : Shared} {Q : Value → Shared → Prop} {t : Tok} (h : Q (.int 0 (s.toks + 1)) { s with toks := s.toks + 1 + 1 }) : wpAny (model prog w) A (call (.builtin "len") [.str Str.empty t]) Q E s :=
  P.len_str (by decide +kernel) h
end Mine
end

section
open PySem PySem.W PyProof.Rows
set_option maxRecDepth 100000
set_option maxHeartbeats 8000000
set_option linter.unusedVariables false
namespace Mine
local macro_rules | `(tactic| walk_at "call builtin:str.split") => `(tactic| (k_here; refine KSpl.split1 (by k_asm) (by k_asm) (by decide) ?_ (by rw [sizeLine_eq]; omega); intro D' l' h' k' e' a' F' N' l1; (try k_lt l1); (replace e' := e'.trans (by assumption)); (kspl_open e'); (simp only [strValues, List.map_cons, List.map_nil] at N' a')))
local macro_rules | `(tactic| walk_at "call builtin:str.find") => `(tactic| (k_here; first | refine find4_callN (by omega) (by omega) ?_ | refine find4_call0 (by omega) ?_))
local macro_rules | `(tactic| walk_at "call builtin:len") => `(tactic| (k_here; (with_reducible show wpAny _ _ (call (Value.builtin "len") [Value.str Str.empty _]) _ _ _); refine len_empty_call ?_))
theorem ell_ct (w : World) (mean : ExcName → Option Value) (mg mb : Str → Option Value) (want got text : Str) (t1 t2 : Tok) (hl : want.length ≤ 200) (hl2 : got.length ≤ 200)
    (hsp : Txt.split want (Str.ofString "...") = [Str.empty, text, Str.empty]) (hocc : (Builtin.Str.occurrences want (Str.ofString "...") 0 want.length 1).isEmpty = false) (ht : text.length ≤ 100) :
    Ct w mean mg mb 10 42 [.str want t1, .str got t2] (fun t => .bool (decide (0 ≤ find4 got text 0 (got.length : Int)))) := by
  have hle := @find4_le got text
  k_with_none
  w_top off
  unfold Ct; k_fill
  intros
  rename_i hret
  refine wpAny_call ?_
  w_strict ((k_dflt (first | (refine' code_defP ?k1 ?k2 ?k3 ?k5 ?kA ?kF ?kK ?k6 ?k7 ?k8 ?k9 ?kB ?_ ?c2 ?c3 ?c4 ?c5; (case kA => exact rfl); (case kF => exact rfl); (case kK => assumption); (case k1 => k_asm); (case k2 => k_asm); (case k3 => k_asm); (case k5 => k_asm); (case k6 => k_is); (case k7 => k_is); (case k8 => k_room); (case k9 => exact BindsTo.of_eq rfl); (case c5 => decide); (case kB => exact locs rfl); (case c2 => exact rfl); (case c3 => exact rfl); (case c4 => exact rfl); k_whole; intro L' h' F' N' B' X' T'; (try dsimp only); (try k_fold)) | (refine' code_defCP ?k1 ?k2 ?k3 ?k5 ?kA ?kF ?kK ?k6 ?k7 ?k8 ?k9 ?kB ?kD ?_ ?c2 ?c3 ?c4; (case kA => exact rfl); (case kF => exact rfl); (case kK => assumption); (case k1 => k_asm); (case k2 => k_asm); (case k3 => k_asm); (case k5 => k_asm); (case k6 => k_is); (case k7 => k_is); (case k8 => k_room); (case k9 => exact BindsTo.of_eq rfl); (case kB => exact rfl); (case kD => decide +kernel); (case c2 => exact rfl); (case c3 => exact rfl); (case c4 => exact rfl); k_whole; intro L' h' tk' cells' F' N' Y' B' X' T'; k_cells Y'; (try simp only [List.cons_append, List.nil_append] at N'); (try dsimp only); (try k_fold)))); k_steps)
  all_goals first
    | exact end_b hret (decide_eq_false (by omega)).symm (by assumption)
    | exact end_b hret (decide_eq_true (by omega)).symm (by assumption)
end Mine
end

section
open PySem PySem.W PyProof.Rows
set_option maxRecDepth 100000
set_option maxHeartbeats 8000000
set_option linter.unusedVariables false
namespace Mine
local macro_rules | `(tactic| walk_at "pad 0") => `(tactic| fail)
local macro_rules | `(tactic| walk_at "pad 1") => `(tactic| fail)
local macro_rules | `(tactic| walk_at "pad 2") => `(tactic| fail)
local macro_rules | `(tactic| walk_at "pad 3") => `(tactic| fail)
local macro_rules | `(tactic| walk_at "call ref") => `(tactic| (k_here; refine Hold.out ?_))
local macro_rules | `(tactic| walk_at "call builtin:str.split") => `(tactic| (k_here; refine KSpl.split1 (by k_asm) (by k_asm) (by decide) ?_ (by rw [sizeLine_eq]; omega); intro D' l' h' k' e' a' F' N' l1; (try k_lt l1); (try k_sweep)))
local macro_rules | `(tactic| walk_at "call builtin:min") => `(tactic| (k_here; refine Hold.out ?_))
local macro_rules | `(tactic| walk_at "exec Assign cons ListComp") => `(tactic| k_extra "compA")
local macro_rules | `(tactic| walk_at "eval ListComp") => `(tactic| k_extra "comp")
theorem news_tl {h₀ h : Heap} {L : Addr} {p : Addr × Obj} {l : List (Addr × Obj)} (N : News h₀ L h (p :: l)) : News h₀ L h l := fun q hq => N q (.tail _ hq)
noncomputable def sizesF (ring : Str) : List Int := ((Txt.split ring (Str.ofString "\t")).take ((Txt.split ring (Str.ofString "\t")).length - 1)).map fun x => (x.length : Int)
theorem pick_last (vs : List Value) : (slicePick vs.toArray none (some (-1)) none).toList = vs.take (vs.length - 1) := by
  rw [kms_pick_eq]
  simp [kms_pick, kms_lo, kms_hi]
theorem ints_of_strs : ∀ {l : List (Str × Tok)} {ys : List Value}, Paired (fun v y => ∃ x t t2, v = Value.str x t ∧ y = Value.int (x.length : Int) t2) (strValues l) ys → IntsAre ys (l.map fun p => (p.1.length : Int)) := by
  intro l
  induction l with
  | nil => intro ys h; cases h; exact .nil
  | cons p l ih =>
    intro ys h
    cases h with
    | cons h1 h2 =>
      obtain ⟨x, t, t2, e1, rfl⟩ := h1
      cases e1
      exact .cons _ _ (ih h2)
theorem sizes_of {l : List (Str × Tok)} {ring : Str} {ys : List Value} (e : l.map (·.1) = Txt.split ring (Str.ofString "\t"))
    (hP : Paired (fun v y => ∃ x t t2, v = Value.str x t ∧ y = Value.int (x.length : Int) t2) (slicePick (strValues l).toArray none (some (-1)) none).toList ys) : IntsAre ys (sizesF ring) := by
  rw [pick_last] at hP
  have e1 : (strValues l).take ((strValues l).length - 1) = strValues (l.take (l.length - 1)) := by
    unfold strValues; rw [List.length_map, List.map_take]
  rw [e1] at hP
  have e2 : sizesF ring = (l.take (l.length - 1)).map fun p => (p.1.length : Int) := by
    unfold sizesF
    rw [← e, List.length_map, ← List.map_take, List.map_map]
    rfl
  rw [e2]
  exact ints_of_strs hP
noncomputable def leastF (ns : List Int) : Int := ns.min?.getD 0
theorem least_of {ns : List Int} {M : Int} (h1 : M ∈ ns) (h2 : ∀ a, a ∈ ns → M ≤ a) : M = leastF ns := by
  unfold leastF
  rw [List.min?_eq_some_iff.mpr ⟨h1, h2⟩]
  rfl
noncomputable def nextSign (least n : Int) : Str := if n > least then Str.ofString "\t" else Str.ofString " "
noncomputable def nextJ (ring : Str) : Str := Txt.join (Str.ofString "") ((sizesF ring).map (nextSign (leastF (sizesF ring))))
noncomputable def nextF (ring : Str) : Str := cutF (nextJ ring)
theorem strs_of_ints {f : Int → Str} : ∀ {vs : List Value} {ns : List Int} {ys : List Value}, IntsAre vs ns → Paired (fun v y => ∀ n t, v = Value.int n t → ∃ t2, y = Value.str (f n) t2) vs ys → StrsAre ys (ns.map f) := by
  intro vs ns ys hi
  induction hi generalizing ys with
  | nil => intro h; cases h; exact .nil
  | cons n t h ih =>
    intro hp
    cases hp with
    | cons h1 h2 =>
      obtain ⟨t2, rfl⟩ := h1 n t rfl
      exact .cons _ _ (ih h2)
theorem nextSign_len (l n : Int) : (nextSign l n).length ≤ 1 := by
  unfold nextSign
  split <;> decide +kernel
theorem sum_le_len {f : Int → Str} (hf : ∀ n, (f n).length ≤ 1) : ∀ ns : List Int, ((ns.map f).map (·.length)).sum ≤ ns.length
  | [] => by simp
  | n :: ns => by
    have h1 := hf n
    have h2 := sum_le_len hf ns
    simp only [List.map_cons, List.sum_cons, List.length_cons]
    omega
theorem int_of_mem : ∀ {vs : List Value} {ns : List Int} {v : Value}, IntsAre vs ns → v ∈ vs → ∃ n t, v = .int n t := by
  intro vs ns v hi
  induction hi with
  | nil => intro h; cases h
  | cons n t h ih =>
    intro hv
    rcases List.mem_cons.mp hv with rfl | hv
    · exact ⟨_, _, rfl⟩
    · exact ih hv
theorem next_ct (w : World) (mean : ExcName → Option Value) (mg mb : Str → Option Value) (ring : Str) (t1 : Tok) (hl : ring.length ≤ 100) (hs0 : 0 < (sizesF ring).length) (hs1 : (sizesF ring).length ≤ 100) (hj : (nextJ ring).length ≤ 100) :
    Ct w mean mg mb 40 139 [.str ring t1] (fun t => .str (nextF ring) t) := by
  k_with_none
  w_top off
  unfold Ct; k_fill
  intros
  rename_i hret
  refine wpAny_call ?_
  (k_with "compA" => (k_here; (with_reducible apply comp_listA (fun v y => ∃ x t t2, v = Value.str x t ∧ y = Value.int (x.length : Int) t2)); (case hF₀ => k_asm); (case hsw => with_unfolding_all rfl); (case hL => with_unfolding_all rfl); (case hh => with_unfolding_all rfl); (case hclos => with_unfolding_all rfl); (case hcell => decide); (case hkind => with_unfolding_all rfl); (case hnames => decide); (case hx => with_unfolding_all rfl); (case hy => with_unfolding_all rfl); (case hp => with_unfolding_all rfl); (case hs => intro _; with_unfolding_all rfl)))
  w_strict ((k_dflt (first | (refine' code_defP ?k1 ?k2 ?k3 ?k5 ?kA ?kF ?kK ?k6 ?k7 ?k8 ?k9 ?kB ?_ ?c2 ?c3 ?c4 ?c5; (case kA => exact rfl); (case kF => exact rfl); (case kK => assumption); (case k1 => k_asm); (case k2 => k_asm); (case k3 => k_asm); (case k5 => k_asm); (case k6 => k_is); (case k7 => k_is); (case k8 => k_room); (case k9 => exact BindsTo.of_eq rfl); (case c5 => decide); (case kB => exact locs rfl); (case c2 => exact rfl); (case c3 => exact rfl); (case c4 => exact rfl); k_whole; intro L' h' F' N' B' X' T'; (try dsimp only); (try k_fold)) | (refine' code_defCP ?k1 ?k2 ?k3 ?k5 ?kA ?kF ?kK ?k6 ?k7 ?k8 ?k9 ?kB ?kD ?_ ?c2 ?c3 ?c4; (case kA => exact rfl); (case kF => exact rfl); (case kK => assumption); (case k1 => k_asm); (case k2 => k_asm); (case k3 => k_asm); (case k5 => k_asm); (case k6 => k_is); (case k7 => k_is); (case k8 => k_room); (case k9 => exact BindsTo.of_eq rfl); (case kB => exact rfl); (case kD => decide +kernel); (case c2 => exact rfl); (case c3 => exact rfl); (case c4 => exact rfl); k_whole; intro L' h' tk' cells' F' N' Y' B' X' T'; k_cells Y'; (try simp only [List.cons_append, List.nil_append] at N'); (try dsimp only); (try k_fold)))); k_steps)
  refine ⟨_, _, _, rfl, (by rw [Array.toArray_toList]; exact News.isList (by assumption) (List.Mem.head _)), ?sz, by assumption, news_tl (news_tl (by assumption)), ?elt, ?fin⟩
  case sz =>
    rw [pick_last]
    have hh : (strValues _).length = (Txt.split ring (Str.ofString "\t")).length := (List.length_map ..).trans ((List.length_map ..).symm.trans (congrArg List.length (by assumption)))
    have hle := split_le ring (Str.ofString "\t")
    rw [List.length_take, sizeLine_eq]
    omega
  case elt =>
    intro C v s₂ m₂ E' hC hv hns hmk hkeep
    rw [pick_last] at hv
    obtain ⟨p, hp, rfl⟩ := List.mem_map.mp (List.mem_of_mem_take hv)
    have hpl : p.1.length ≤ ring.length := by
      refine part_short (y := Str.ofString "\t") ?_
      rename List.map _ _ = Txt.split _ _ => eX
      rw [← eX]
      exact List.mem_map_of_mem hp
    w_strict k_steps
    exact ⟨⟨_, _, _, rfl, rfl⟩, _, _, rfl, fun _ _ e => e⟩
  case fin =>
    intro D ys nn h' tk F' N' hne hP
    have hI := sizes_of (by assumption) hP
    clear hP
    replace hne := allNe_of hne
    simp only [AllNe] at hne
    dsimp only
    (k_with "comp" => (k_here; (with_reducible apply comp_list (fun v y => ∀ n t, v = Value.int n t → ∃ t2, y = Value.str (nextSign (leastF (sizesF ring)) n) t2)); (case hF₀ => k_asm); (case hh => with_unfolding_all rfl); (case hclos => with_unfolding_all rfl); (case hcell => decide); (case hkind => with_unfolding_all rfl); (case hnames => decide); (case hx => with_unfolding_all rfl); (case hs => intro _; with_unfolding_all rfl)))
    w_strict k_steps
    unfold Hold
    refine kso_min (by assumption) (by assumption) (News.isList (by assumption) (by k_mem)) hI hs0 rfl ?_
    intro h2 M t2 tk2 F2 N2 hm1 hm2
    obtain rfl := least_of hm1 hm2
    w_strict k_steps
    refine ⟨_, _, _, rfl, News.isList (by assumption) (by k_mem), ?sz, by assumption, by assumption, ?elt, ?fin⟩
    case sz =>
      rw [hI.length, sizeLine_eq]
      omega
    case elt =>
      intro C v s₃ m₃ E' hC hv hns hmk hkeep
      obtain ⟨n, u, rfl⟩ := int_of_mem hI hv
      w_strict k_steps
      all_goals first
        | exact ⟨fun n' t' e => by cases e; exact ⟨_, by unfold nextSign; rw [if_pos (by assumption)]⟩, _, _, rfl, fun _ _ e => e⟩
        | exact ⟨fun n' t' e => by cases e; exact ⟨_, by unfold nextSign; rw [if_neg (by assumption)]⟩, _, _, rfl, fun _ _ e => e⟩
    case fin =>
      intro D2 zs nn2 h3 tk3 F3 N3 hne3 hP3
      have hS := strs_of_ints hI hP3
      clear hP3
      w_strict k_steps
      refine join_listC (ys := (sizesF ring).map (nextSign (leastF (sizesF ring)))) (News.isList (by assumption) (by k_mem)) (by simpa using hS) (by decide +kernel) (by have := sum_le_len (nextSign_len (leastF (sizesF ring))) (sizesF ring); simp only [List.length_map] at this ⊢; omega) ?_
      intro tj kj
      w_strict k_steps
      unfold Hold
      k_dflt (refine' Ct.use (cut_ct _ _ _ _ (nextJ ring) _ hj) ?k1 ?k2 ?k3 ?k4 ?k5 ?k6 ?k7 ?k8 ?_)
      case k1 => k_asm
      case k2 => k_asm
      case k3 => k_asm
      case k4 => k_asm
      case k5 => k_asm
      case k6 => rfl
      case k7 => k_room
      case k8 => k_units
      intro t' h' tk' F' N' kp'
      w_strict k_steps
      exact end_s hret rfl (by assumption)
end Mine
end

section
open PySem PySem.W PyProof.Rows
set_option linter.unusedVariables false
namespace Mine
theorem compTurn_two1 (elt t1 i1 t2 i2 : Expr) (scope : Scope) (pos : Pos) (it acc : Value) (env : Env) :
    compTurn (.ListComp elt [⟨t1, i1, [], 0⟩, ⟨t2, i2, [], 0⟩] scope pos) 1 it acc env = (standAt i2.pos >>= fun _ => pyNext it >>= fun r => match r with
      | none => pure (.done .next)
      | some v => letOwnedTupleGo t2 it v >>= fun _ => assign t2 env v >>= fun _ =>
        (eval elt env >>= fun x => call (.builtin "list.append") [acc, x] >>= fun _ => pure ()) >>= fun _ =>
          again (.compLoop (.ListComp elt [⟨t1, i1, [], 0⟩, ⟨t2, i2, [], 0⟩] scope pos) 1 it acc env)) := by rfl
theorem compTurn_two0 (elt t1 i1 t2 i2 : Expr) (scope : Scope) (pos : Pos) (it acc : Value) (env : Env) :
    compTurn (.ListComp elt [⟨t1, i1, [], 0⟩, ⟨t2, i2, [], 0⟩] scope pos) 0 it acc env = (standAt i1.pos >>= fun _ => pyNext it >>= fun r => match r with
      | none => pure (.done .next)
      | some v => letOwnedTupleGo t1 it v >>= fun _ => assign t1 env v >>= fun _ =>
        eval i2 env >>= fun x => standAt i2.pos >>= fun _ => foldedSetIterable i2 env x >>= fun x => holding [x] (pyIter x) >>= fun it2 =>
          runOwn (.compStart (.ListComp elt [⟨t1, i1, [], 0⟩, ⟨t2, i2, [], 0⟩] scope pos) 1 it2 acc env) env >>= fun _ =>
            again (.compLoop (.ListComp elt [⟨t1, i1, [], 0⟩, ⟨t2, i2, [], 0⟩] scope pos) 0 it acc env)) := by rfl
noncomputable abbrev E2 (elt : Expr) (x : Str) (px : Pos) (i1 : Expr) (z : Str) (pz : Pos) (i2 : Expr) (scope : Scope) (pos : Pos) : Expr := .ListComp elt [⟨.Name x px, i1, [], 0⟩, ⟨.Name z pz, i2, [], 0⟩] scope pos
section
variable {prog : Program} {w : World} {A : Around} {E : Value → Shared → Prop} {R : Result → Shared → Prop} {s : Shared} {elt i1 i2 : Expr} {x z : Str} {px pz pos : Pos} {scope : Scope}
theorem compStart_two1 {it acc : Value} {env : Env}
    (h0 : codeAny (model prog w) A (.compLoop (E2 elt x px i1 z pz i2 scope pos) 1 it acc env) R s)
    (h : wpAny (model prog w) A (pyIter it) (fun it' s' => codeAny (model prog w) A (.compLoop (E2 elt x px i1 z pz i2 scope pos) 1 it' acc env) R s')
      (notedBy (model prog w) A env fun x s' => R (.error x) s') s) :
    codeAny (model prog w) A (.compStart (E2 elt x px i1 z pz i2 scope pos) 1 it acc env) R s := by
  refine codeAny_of_tree ?_
  show wpAny _ _ ((compStart (E2 elt x px i1 z pz i2 scope pos) 1 it acc env).onRaise (fun x => do noteFrame x env; standAt theWindowsPlace)) _ _ s
  refine wpAny_notedAt ?_
  unfold compStart
  show wpAny _ _ (ask >>= _) _ _ s
  refine wpAny_bind (wpAny_askSetting (wpAny_ite ?_))
  split
  · first
      | exact wpAny_bind (wpAny_pure (wpAny_pure (And.intro rfl h0)))
      | exact wpAny_pure (And.intro rfl h0)
  · first
      | exact wpAny_bind (wpAny_rule (wpAny_bind (wpAny_standAt (wpAny_bind (wpAny_mono h (fun it' s' h' => wpAny_pure (And.intro rfl h')) fun _ _ x => x)))))
      | (refine wpAny_bind (wpAny_rule ?_); show wpAny _ _ (standAt i2.pos >>= _) _ _ s; exact wpAny_bind (wpAny_standAt (wpAny_bind (wpAny_mono h (fun it' s' h' => wpAny_pure (And.intro rfl h')) fun _ _ x => x))))
theorem snoc_places {P : Nat → Value → Prop} {vs : List Value} {v : Value} (hP : ∀ (j : Nat) (u : Value), vs[j]? = some u → P j u) (hv : P vs.length v) : ∀ (j : Nat) (u : Value), (vs ++ [v])[j]? = some u → P j u := fun j u hj => by
  rcases Nat.lt_trichotomy j vs.length with h | h | h
  · exact hP j u (by rwa [List.getElem?_append_left h] at hj)
  · subst h; simp at hj; subst hj; exact hv
  · have hnone : (vs ++ [v])[j]? = none := List.getElem?_eq_none (by rw [List.length_append, List.length_singleton]; omega)
    rw [hnone] at hj; cases hj
theorem paired_length {α β : Type} {F : α → β → Prop} {l₁ : List α} {l₂ : List β} (h : Paired F l₁ l₂) : l₂.length = l₁.length := (paired_get h).1
theorem inner_loop {J D : Addr} {n : Nat} {P : Nat → Value → Prop} {St : Nat → Heap → Prop} {cenv : Env} {m : Str → Option Value} {ys₀ : Array Value} {v : Value} (W : Walks prog w A J [J] [J] n P St) (F : Value → Value → Prop)
    (hz : cenv.kindOf z = some .local) (hp : (cenv.scope.kind == .class || (cenv.scope.kind == .module && cenv.locals != cenv.globals)) = false)
    (hDC : D ≠ cenv.locals) (hDJ : D ≠ J) (hCJ : cenv.locals ≠ J) (hxz : x ≠ z)
    (hst : St 0 s.heap) (hacc : s.heap.PlainList D ys₀) (hn : s.heap.Ns cenv.locals m) (hmx : m x = some v)
    (helt : ∀ (i : Nat) c s₂ m₂, P i c → s₂.heap.Ns cenv.locals m₂ → m₂ x = some v → m₂ z = some c → (∀ b o, b ≠ cenv.locals → b ≠ J → b ≠ D → s.heap.get? b = some o → s₂.heap.get? b = some o) →
      wpAny (model prog w) A (eval elt cenv) (fun y s₃ => EltEnd (F c) s₂ y s₃) (notedBy (model prog w) A cenv fun e s' => R (.error e) s') s₂)
    (hR : ∀ h' tk m' (zs : Array Value) (cs : List Value), h'.Ns cenv.locals m' → h'.PlainList D (ys₀ ++ zs) → cs.length = n → (∀ (j : Nat) c, cs[j]? = some c → P j c) → Paired F cs zs.toList →
      (∀ b o, b ≠ cenv.locals → b ≠ J → b ≠ D → s.heap.get? b = some o → h'.get? b = some o) → R (.ok .next) { s with heap := h', toks := tk })
    (hsz : ys₀.size + n ≤ sizeLine) :
    codeAny (model prog w) A (.compLoop (E2 elt x px i1 z pz i2 scope pos) 1 (.ref J) (.ref D) cenv) R s := by
  refine codeAny_loop rfl
    (fun k s' => ∃ h' tk m' zs, ∃ cs : List Value, s' = { s with heap := h', toks := tk } ∧ St cs.length h' ∧ h'.PlainList D (ys₀ ++ zs) ∧ h'.Ns cenv.locals m' ∧ m' x = some v ∧ (∀ (j : Nat) c, cs[j]? = some c → P j c) ∧
      Paired F cs zs.toList ∧ cs.length ≤ n ∧ k = n + 1 - cs.length ∧ (∀ b o, b ≠ cenv.locals → b ≠ J → b ≠ D → s.heap.get? b = some o → h'.get? b = some o)) ?_ (n + 1)
    ⟨s.heap, s.toks, m, #[], [], rfl, hst, by simpa using hacc, hn, hmx, by simp, by simpa using Paired.nil, Nat.zero_le _, rfl, fun _ _ _ _ _ e => e⟩
  rintro k s' ⟨H, tk, m', zs, cs, rfl, hst', hacc', hn', hmx', hP, hF, hi, rfl, hk⟩
  show wpAny _ A ((compTurn (E2 elt x px i1 z pz i2 scope pos) 1 (.ref J) (.ref D) cenv).onRaise (fun x => do noteFrame x cenv; theTreesLotGoes x)) _ _ _
  refine wpAny_noted ?_
  rw [compTurn_two1]
  refine wpAny_bind (wpAny_standAt (wpAny_bind ?_))
  by_cases hlt : cs.length < n
  · refine W.item cs.length _ _ _ hlt hst' fun c h₁ tk₁ hPc hst₁ hk₁ => ?_
    show wpAny _ _ (letOwnedTupleGo (.Name z pz) (.ref J) c >>= _) _ _ _
    refine wpAny_bind (wpAny_of_eq (show letOwnedTupleGo (.Name z pz) (.ref J) c = pure () from rfl) ?_)
    have hCw : cenv.locals ∉ [J] := fun h => hCJ (List.mem_singleton.mp h)
    refine wpAny_bind (wpAny_assign_Name (wpAny_storeName_local hz (hn'.at' fun o e => hk₁ _ o hCw e) (fun h₂ hn₂ hs₂ => ?_) hp))
    have up₂ : ∀ b o, b ≠ cenv.locals → b ≠ J → H.get? b = some o → h₂.get? b = some o := fun b o hbC hbJ e => hs₂.extBut b o hbC (hk₁ b o (fun h => hbJ (List.mem_singleton.mp h)) e)
    have hst₂ : St (cs.length + 1) h₂ := W.frame _ _ _ hst₁ fun b hb o e => hs₂.extBut b o (fun h => hCJ (h ▸ List.mem_singleton.mp hb)) e
    refine wpAny_bind (wpAny_bind (wpAny_mono (helt cs.length c _ _ hPc hn₂ (by simp [hxz, hmx']) (by simp) (fun b o hbC hbJ hbD e => up₂ b o hbC hbJ (hk b o hbC hbJ hbD e))) (fun y s₃ h₃ => ?_) fun _ _ e => e))
    obtain ⟨hFy, h₃, tk₃, rfl, hk₃⟩ := h₃
    have hlz := paired_length hF
    have hys : (ys₀ ++ zs).size ≤ sizeLine := by
      rw [Array.size_append]
      have e4 : zs.toList.length = zs.size := by simp
      omega
    have hacc₃ : h₃.PlainList D (ys₀ ++ zs) := hacc'.at fun o e => hk₃ _ o (up₂ D o hDC hDJ e)
    refine wpAny_bind (wpAny_list_append_plain (hsz := hys) hacc₃ fun h₅ hl₅ hs₅ => wpAny_pure (wpAny_pure ⟨rfl, n + 1 - (cs.length + 1), by omega, h₅, tk₃, _, zs.push y, cs ++ [c], rfl, ?_, ?_, (hn₂.keeps hk₃).sameBut hs₅ (Ne.symm hDC), (by simp [hxz, hmx']), snoc_places hP hPc, ?_, ?_, ?_, ?_⟩))
    · have := W.frame _ _ h₅ hst₂ fun b hb o e => hs₅.extBut b o (fun h => hDJ (h ▸ List.mem_singleton.mp hb)) (hk₃ b o e)
      simpa using this
    · simpa using hl₅
    · simpa using Paired.snoc hF hFy
    · rw [List.length_append, List.length_singleton]; exact hlt
    · rw [List.length_append, List.length_singleton]
    · exact fun b o hbC hbJ hbD e => hs₅.extBut b o hbD (hk₃ b o (up₂ b o hbC hbJ (hk b o hbC hbJ hbD e)))
  · have hin : cs.length = n := by omega
    refine W.done _ _ _ (hin ▸ hst') fun h₁ tk₁ hk₁ => wpAny_pure ?_
    refine hR h₁ tk₁ m' zs cs (hn'.at' fun o e => hk₁ _ o (fun h => hCJ (List.mem_singleton.mp h)) e) (hacc'.at fun o e => hk₁ _ o (fun h => hDJ (List.mem_singleton.mp h)) e) hin hP hF fun b o hbC hbJ hbD e => hk₁ b o (fun h => hbJ (List.mem_singleton.mp h)) (hk b o hbC hbJ hbD e)
inductive Flat2 (F : Value → Value → Value → Prop) (sg : Str) : List Value → List Value → Prop
  | nil : Flat2 F sg [] []
  | snoc {vs ys zs cs : List Value} {v : Value} : Flat2 F sg vs ys → cs.length = sg.cps.size → (∀ (j : Nat) c, cs[j]? = some c → SignAt sg j c) → Paired (F v) cs zs → Flat2 F sg (vs ++ [v]) (ys ++ zs)
theorem outer_loop {I ax D : Addr} {vs : List Value} {cenv : Env} {m : Str → Option Value} {sg : Str} (hh : A.handled = none) (F : Value → Value → Value → Prop)
    (hx : cenv.kindOf x = some .local) (hz : cenv.kindOf z = some .local) (hp : (cenv.scope.kind == .class || (cenv.scope.kind == .module && cenv.locals != cenv.globals)) = false)
    (hDC : D ≠ cenv.locals) (hIC : I ≠ cenv.locals) (haC : ax ≠ cenv.locals) (hDI : D ≠ I) (hDa : D ≠ ax) (haI : ax ≠ I) (hxz : x ≠ z)
    (hit : s.heap.IsListIter I ax 0) (hl : s.heap.IsList ax vs.toArray) (hacc : s.heap.PlainList D #[]) (hn : s.heap.Ns cenv.locals m)
    (hi2 : ∀ (s : Shared) (Q : Value → Shared → Prop) (E : Value → Shared → Prop), (∀ t tk, Q (.str sg t) { s with toks := tk }) → wpAny (model prog w) A (eval i2 cenv) Q E s)
    (hs2 : ∀ x, foldedSetIterable i2 cenv x = pure x)
    (helt : ∀ (v c : Value) (i : Nat) (s₂ : Shared) (m₂ : Str → Option Value) (E' : Value → Shared → Prop), v ∈ vs → SignAt sg i c → s₂.heap.Ns cenv.locals m₂ → m₂ x = some v → m₂ z = some c → (∀ b o, b ≠ cenv.locals → b ≠ I → b ≠ D → s.heap.get? b = some o → s₂.heap.get? b = some o) →
      wpAny (model prog w) A (eval elt cenv) (fun y s₃ => EltEnd (F v c) s₂ y s₃) E' s₂)
    (hR : ∀ h' tk m' (ys : Array Value), h'.Ns cenv.locals m' → h'.PlainList D ys → Flat2 F sg vs ys.toList → (∀ b o, b ≠ cenv.locals → b ≠ I → b ≠ D → s.heap.get? b = some o → h'.get? b = some o) → R (.ok .next) { s with heap := h', toks := tk })
    (hsz : vs.length * sg.cps.size ≤ sizeLine) :
    codeAny (model prog w) A (.compLoop (E2 elt x px i1 z pz i2 scope pos) 0 (.ref I) (.ref D) cenv) R s := by
  have W := Walks.list (prog := prog) (w := w) (A := A) hh I ax haI vs.toArray
  have hCw : cenv.locals ∉ [I] := fun h => hIC (List.mem_singleton.mp h).symm
  have hCf : cenv.locals ∉ [I, ax] := fun h => by
    rcases List.mem_cons.mp h with e | h
    · exact hIC e.symm
    · exact haC (List.mem_singleton.mp h).symm
  refine codeAny_loop rfl
    (fun k s' => ∃ h' tk m' ys, ∃ i : Nat, s' = { s with heap := h', toks := tk } ∧ (h'.IsListIter I ax i ∧ h'.IsList ax vs.toArray) ∧ h'.PlainList D ys ∧ h'.Ns cenv.locals m' ∧ Flat2 F sg (vs.take i) ys.toList ∧ ys.size = i * sg.cps.size ∧ i ≤ vs.length ∧ k = vs.length + 1 - i ∧
      (∀ b o, b ≠ cenv.locals → b ≠ I → b ≠ D → s.heap.get? b = some o → h'.get? b = some o)) ?_ (vs.length + 1)
    ⟨s.heap, s.toks, m, #[], 0, rfl, ⟨hit, hl⟩, hacc, hn, by simpa using Flat2.nil, by simp, Nat.zero_le _, rfl, fun _ _ _ _ _ e => e⟩
  rintro k s' ⟨H, tk, m', ys, i, rfl, hst', hacc', hn', hF, hyl, hi, rfl, hk⟩
  show wpAny _ A ((compTurn (E2 elt x px i1 z pz i2 scope pos) 0 (.ref I) (.ref D) cenv).onRaise (fun x => do noteFrame x cenv; theTreesLotGoes x)) _ _ _
  refine wpAny_noted ?_
  rw [compTurn_two0]
  refine wpAny_bind (wpAny_standAt (wpAny_bind ?_))
  by_cases hlt : i < vs.length
  · refine W.item i _ _ _ (by simpa using hlt) hst' fun v h₁ tk₁ hPv hst₁ hk₁ => ?_
    have hv : vs[i]? = some v := by simpa using hPv
    have hvm : v ∈ vs := List.mem_of_getElem? hv
    show wpAny _ _ (letOwnedTupleGo (.Name x px) (.ref I) v >>= _) _ _ _
    refine wpAny_bind (wpAny_of_eq (show letOwnedTupleGo (.Name x px) (.ref I) v = pure () from rfl) ?_)
    refine wpAny_bind (wpAny_assign_Name (wpAny_storeName_local hx (hn'.at' fun o e => hk₁ _ o hCw e) (fun h₂ hn₂ hs₂ => ?_) hp))
    have up₂ : ∀ b o, b ≠ cenv.locals → b ≠ I → H.get? b = some o → h₂.get? b = some o := fun b o hbC hbI e => hs₂.extBut b o hbC (hk₁ b o (fun h => hbI (List.mem_singleton.mp h)) e)
    have hst₂ : h₂.IsListIter I ax (i + 1) ∧ h₂.IsList ax vs.toArray := W.frame (i + 1) _ _ hst₁ fun b hb o e => hs₂.extBut b o (fun h => hCf (h ▸ hb)) e
    have hacc₂ : h₂.PlainList D ys := hacc'.at fun o e => up₂ D o hDC hDI e
    refine wpAny_bind (hi2 _ _ _ fun t tk₂ => ?_)
    refine wpAny_bind (wpAny_standAt (wpAny_bind (wpAny_of_eq (hs2 _) (wpAny_bind (wpAny_holding (wpAny_pyIter_str fun oJ St hW hSt => ?_))))))
    dsimp only at hW hSt ⊢
    have WJ := hW A hh
    have ltJ : ∀ b o, h₂.get? b = some o → b ≠ h₂.objs.size := fun b o e => Nat.ne_of_lt (Heap.lt_size e)
    have hDJ : D ≠ h₂.objs.size := by obtain ⟨_, e⟩ := hacc₂; exact ltJ _ _ e
    have hCJ : cenv.locals ≠ h₂.objs.size := by obtain ⟨_, _, _, e, _⟩ := hn₂; exact ltJ _ _ e
    have hIJ : I ≠ h₂.objs.size := by obtain ⟨_, e, _⟩ := hst₂.1; exact ltJ _ _ e
    have haJ : ax ≠ h₂.objs.size := by obtain ⟨_, e, _⟩ := hst₂.2; exact ltJ _ _ e
    have hyz : ys.size + sg.cps.size ≤ sizeLine := by
      have : (i + 1) * sg.cps.size ≤ vs.length * sg.cps.size := Nat.mul_le_mul_right _ hlt
      rw [Nat.add_mul] at this
      omega
    refine wpAny_bind (wpAny_runOwn (h := none) (env := cenv) ?_)
    have inner := inner_loop (prog := prog) (w := w) (A := A) (elt := elt) (x := x) (px := px) (i1 := i1) (z := z) (pz := pz) (i2 := i2) (scope := scope) (pos := pos) (s := { s with heap := h₂.push oJ, toks := tk₂ }) (D := D) (m := fun y => if y = x then some v else m' y) (ys₀ := ys) (v := v)
      (R := fun r s' => match r with
        | .ok f => wpAny (model prog w) A (again (.compLoop (E2 elt x px i1 z pz i2 scope pos) 0 (.ref I) (.ref D) cenv))
            (fun fin s' => match fin with | .done f => R (.ok f) s' | .again c' => c' = (.compLoop (E2 elt x px i1 z pz i2 scope pos) 0 (.ref I) (.ref D) cenv) ∧ ∃ m, m < vs.length + 1 - i ∧ ∃ h' tk m' ys, ∃ i : Nat, s' = { s with heap := h', toks := tk } ∧ (h'.IsListIter I ax i ∧ h'.IsList ax vs.toArray) ∧ h'.PlainList D ys ∧ h'.Ns cenv.locals m' ∧ Flat2 F sg (vs.take i) ys.toList ∧ ys.size = i * sg.cps.size ∧ i ≤ vs.length ∧ m = vs.length + 1 - i ∧
      (∀ b o, b ≠ cenv.locals → b ≠ I → b ≠ D → s.heap.get? b = some o → h'.get? b = some o))
            (notedBy (model prog w) A cenv fun e s' => R (.error e) s') s'
        | .error e => cameBackBy (model prog w) A cenv (notedBy (model prog w) A cenv fun e s' => R (.error e) s') e s')
      WJ (F v) hz hp hDC hDJ hCJ hxz hSt (hacc₂.at fun o e => Heap.get?_push_of_some _ e) (hn₂.push _) (by simp)
      (fun j c s₂ m₂ hPc hns hmx hmz hkp => helt v c j s₂ m₂ _ hvm hPc hns hmx hmz fun b o hbC hbI hbD e => hkp b o hbC (ltJ b o (up₂ b o hbC hbI (hk b o hbC hbI hbD e))) hbD (Heap.get?_push_of_some _ (up₂ b o hbC hbI (hk b o hbC hbI hbD e))))
      (fun h' tk' m'' zs cs hns hpl hlen hPs hFs hkp => ?_) hyz
    · exact compStart_two1 inner (WJ.self 0 _ _ _ hSt inner)
    · refine wpAny_pure ⟨rfl, vs.length + 1 - (i + 1), by omega, h', tk', m'', ys ++ zs, i + 1, rfl, ⟨hst₂.1.at fun o e => ?_, hst₂.2.at fun o e => ?_⟩, hpl, hns, ?_, ?_, hlt, rfl, fun b o hbC hbI hbD e => ?_⟩
      · exact hkp I o hIC hIJ (Ne.symm hDI) (Heap.get?_push_of_some _ e)
      · exact hkp ax o haC haJ (Ne.symm hDa) (Heap.get?_push_of_some _ e)
      · rw [List.take_add_one, hv, Array.toList_append]
        exact Flat2.snoc hF hlen hPs hFs
      · rw [Array.size_append, hyl, Nat.add_mul, Nat.one_mul]
        have := paired_length hFs
        have e4 : zs.toList.length = zs.size := by simp
        omega
      · exact hkp b o hbC (ltJ b o (up₂ b o hbC hbI (hk b o hbC hbI hbD e))) hbD (Heap.get?_push_of_some _ (up₂ b o hbC hbI (hk b o hbC hbI hbD e)))
  · have hin : i = vs.length := by omega
    refine W.done _ _ _ (by simpa [hin] using hst') fun h₁ tk₁ hk₁ => wpAny_pure ?_
    refine hR h₁ tk₁ m' ys (hn'.at' fun o e => hk₁ _ o hCw e) (hacc'.at fun o e => hk₁ _ o (fun h => hDI (List.mem_singleton.mp h)) e) (by rw [hin, List.take_length] at hF; exact hF) fun b o hbC hbI hbD e => hk₁ b o (fun h => hbI (List.mem_singleton.mp h)) (hk b o hbC hbI hbD e)
end
section
variable {prog : Program} {w : World} {A : Around} {E : Value → Shared → Prop} {s : Shared} {env : Env} {h₀ : Heap} {L : Addr} {m : Str → Option Value} {elt i1 i2 : Expr} {x z y : Str} {px pz py pos spos : Pos} {scope : Scope} {cl : List (Str × Addr)} {sg : Str}
/-- what a comprehension with two clauses, over a list and a written text, asks -/
noncomputable def CompTA (prog : Program) (w : World) (A : Around) (env : Env) (h₀ : Heap) (L : Addr) (m : Str → Option Value) (F : Value → Value → Value → Prop) (sg : Str) (elt : Expr) (scope : Scope) (cl : List (Str × Addr)) (x z y : Str) (Q : Flow → Shared → Prop) (xv : Value) (s₁ : Shared) : Prop :=
  ∃ (news : List (Addr × Obj)) (ax : Addr) (vs : List Value), xv = .ref ax ∧ s₁.heap.IsList ax vs.toArray ∧ vs.length * sg.cps.size ≤ sizeLine ∧ Fr h₀ L s₁.heap m ∧ News h₀ L s₁.heap news ∧
    (∀ (C : Addr) (v c : Value) (i : Nat) (s₂ : Shared) (m₂ : Str → Option Value) (E' : Value → Shared → Prop), s₁.heap.objs.size ≤ C → v ∈ vs → SignAt sg i c → s₂.heap.Ns (compEnvC scope cl C env).locals m₂ → m₂ x = some v → m₂ z = some c → (∀ b o, s₁.heap.get? b = some o → s₂.heap.get? b = some o) →
      wpAny (model prog w) A (eval elt (compEnvC scope cl C env)) (fun y s₃ => EltEnd (F v c) s₂ y s₃) E' s₂) ∧
    (∀ (D : Addr) (ys : List Value) (nn : Nat) (h' : Heap) (tk : Nat), Fr h₀ L h' (fun z => if z = y then some (.ref D) else m z) → News h₀ L h' ((D, listOf ys.toArray nn) :: news) → (∀ p ∈ news, p.1 ≠ D) → Flat2 F sg vs ys → Q .next { s₁ with heap := h', toks := tk })
theorem comp_twoA {Q : Flow → Shared → Prop} (F : Value → Value → Value → Prop)
    (hF₀ : Fr h₀ L s.heap m) (hsw : swapsWith (E2 elt x px i1 z pz i2 scope pos) (some (.Name y py)) spos.line env = pure true) (hL : env.locals = L)
    (hh : A.handled = none) (hclos : closureFor scope env = pure cl) (hcell : ∀ z ∈ scope.names, z.2 ≠ .cell) (hkind : scope.kind = .function)
    (hnames : ∀ z ∈ scope.names, z.2 = .local → scope.names.lookup z.1 = some .local) (hx : scope.names.lookup x = some .local) (hz : scope.names.lookup z = some .local) (hxz : x ≠ z)
    (hy : env.kindOf y = some .local) (hp : (env.scope.kind == .class || (env.scope.kind == .module && env.locals != env.globals)) = false)
    (hi2 : ∀ (C : Addr) (s : Shared) (Q : Value → Shared → Prop) (E : Value → Shared → Prop), (∀ t tk, Q (.str sg t) { s with toks := tk }) → wpAny (model prog w) A (eval i2 (compEnvC scope cl C env)) Q E s)
    (hs2 : ∀ C x, foldedSetIterable i2 (compEnvC scope cl C env) x = pure x)
    (h : wpAny (model prog w) A (eval i1 env) (fun xv s₁ => CompTA prog w A env h₀ L m F sg elt scope cl x z y Q xv s₁) E s)
    (hs : ∀ x, foldedSetIterable i1 env x = pure x) :
    wpAny (model prog w) A (exec (.Assign [.Name y py] (E2 elt x px i1 z pz i2 scope pos) spos) env) Q E s := by
  subst hL
  rw [exec_Assign_Name_used _ _ _ _ hsw]
  refine wpAny_bind (wpAny_standAt (wpAny_bind ?_))
  show wpAny _ A (do let _ ← comprehension (E2 elt x px i1 z pz i2 scope pos) scope env _ (newList []) false (eval i1 env) (some (assign (.Name y py) env))) _ _ s
  refine wpAny_bind (wpAny_mono (wpAny_comprehension_free (use := some (assign (.Name y py) env)) (Q := fun _ s' => Q .next s') rfl hs hclos hkind hnames
    (wpAny_mono h (fun xv s₁ h₁ => ?_) fun _ _ e => e)) (fun _ s' hq => wpAny_pure (wpAny_pure hq)) fun _ _ e => e)
  obtain ⟨news, ax, vs, rfl, hl, hsz, F', N, helt, hQ⟩ := h₁
  have hlt : ax < s₁.heap.objs.size := by obtain ⟨_, e, _⟩ := hl; exact Heap.lt_size e
  refine wpAny_pyIter_list hl ?_
  generalize hG : s₁.heap.push { cls := .type "list_iterator", data := .fields #[.ref ax, .int 0 0] } = G
  have hGs : G.objs.size = s₁.heap.objs.size + 1 := by rw [← hG, Heap.size_push]
  have upG : ∀ b o, s₁.heap.get? b = some o → G.get? b = some o := fun b o e => hG ▸ Heap.get?_push_of_some _ e
  have hitG : G.IsListIter s₁.heap.objs.size ax 0 := hG ▸ ⟨_, Heap.get?_push_size _ rfl, rfl, rfl⟩
  refine wpAny_newObj_type (wpAny_newFunctionEnv hcell (by intro y hy; simp at hy) (fun h₁ hns₁ hsb₁ => ?_) hkind)
  dsimp only at hns₁ hsb₁ ⊢
  generalize hH2 : G.push { cls := .type "list", dict := none, data := .seq ([] : List Value).toArray } = H2 at hns₁ hsb₁ ⊢
  have hC : H2.objs.size = G.objs.size + 1 := by rw [← hH2, Heap.size_push]
  have below : ∀ b, b < G.objs.size → b ≠ H2.objs.size ∧ b ≠ G.objs.size := fun b hb => ⟨by rw [hC]; exact Nat.ne_of_lt (Nat.lt_succ_of_lt hb), Nat.ne_of_lt hb⟩
  have old : ∀ b o, G.get? b = some o → h₁.get? b = some o := fun b o e => hsb₁.extBut b o (below b (Heap.lt_size e)).1 (Heap.get?_push_of_some _ (hH2 ▸ Heap.get?_push_of_some _ e))
  have hDC : G.objs.size ≠ H2.objs.size := by rw [hC]; exact Nat.ne_of_lt (Nat.lt_succ_self _)
  have hacc : h₁.PlainList G.objs.size #[] := ⟨_, hsb₁.extBut _ _ hDC (Heap.get?_push_of_some _ (hH2 ▸ Heap.get?_push_size _ rfl))⟩
  have hIG : s₁.heap.objs.size < G.objs.size := by rw [hGs]; exact Nat.lt_succ_self _
  have haG : ax < G.objs.size := Nat.lt_trans hlt hIG
  have hitH : h₁.IsListIter s₁.heap.objs.size ax 0 := hitG.at fun o e => old _ o e
  have hlH : h₁.IsList ax vs.toArray := hl.at fun o e => old _ o (upG _ o e)
  have fresh : ∀ a, s₁.heap.objs.size ≤ a → s₁.heap.get? a = none := fun a ha => by
    cases e : s₁.heap.get? a with
    | none => rfl
    | some o' => exact absurd (Heap.lt_size e) (Nat.not_lt.mpr ha)
  have hnL := F'.ns
  have ltL : env.locals < s₁.heap.objs.size := F'.ns.lt
  have loop : ∀ s₃ : Shared, s₃ = { s₁ with heap := h₁, toks := s₁.toks + ([] : List (Str × Value)).length } →
      codeAny (model prog w) A (.compLoop (E2 elt x px i1 z pz i2 scope pos) 0 (.ref s₁.heap.objs.size) (.ref G.objs.size) (compEnvC scope cl H2.objs.size env))
        (compPost (model prog w) A E (some (assign (.Name y py) env)) (fun _ s' => Q .next s') (.ref G.objs.size) H2.objs.size) s₃ := by
    rintro s₃ rfl
    refine outer_loop (sg := sg) (vs := vs) (ax := ax) (cenv := compEnvC scope cl H2.objs.size env) hh F (lookup_relabel_local hx) (lookup_relabel_local hz) (by simp [compEnvC, relabel, hkind]) hDC (below _ hIG).1 (below _ haG).1 (Ne.symm (below _ hIG).2) (Ne.symm (below _ haG).2) (Nat.ne_of_lt hlt) hxz
      hitH hlH hacc hns₁ (hi2 _) (hs2 _) (fun v c i s₂ m₂ E' hv hc hns hmx hmz hkp => ?_) (fun h' tk m' ys hnC hpl hFl hkp => ?_) hsz
    · refine helt _ v c i s₂ m₂ E' ?_ hv hc hns hmx hmz fun b o e => ?_
      · rw [hC, hGs]; omega
      · have hb := Heap.lt_size e
        exact hkp b o (below b (Nat.lt_trans hb hIG)).1 (Nat.ne_of_lt hb) (below b (Nat.lt_trans hb hIG)).2 (old b o (upG b o e))
    · have keep : ∀ b o, s₁.heap.get? b = some o → h'.get? b = some o := fun b o e => by
        have hb := Heap.lt_size e
        exact hkp b o (below b (Nat.lt_trans hb hIG)).1 (Nat.ne_of_lt hb) (below b (Nat.lt_trans hb hIG)).2 (old b o (upG b o e))
      have hLC : env.locals ≠ H2.objs.size := (below _ (Nat.lt_trans ltL hIG)).1
      have hLD : env.locals ≠ G.objs.size := (below _ (Nat.lt_trans ltL hIG)).2
      show wpAny _ A (assign (.Name y py) env (.ref G.objs.size)) _ _ _
      refine wpAny_assign_Name (wpAny_storeName_local hy (hnL.keeps keep) (fun h₂ hn₂ hs₂ => ?_) hp)
      refine ⟨m', hnC.sameBut hs₂ (Ne.symm hLC), fun h₃ hs₃ => ?_⟩
      have keep3 : ∀ b o, b ≠ env.locals → s₁.heap.get? b = some o → h₃.get? b = some o := fun b o hb e =>
        hs₃.extBut b o (below b (Nat.lt_trans (Heap.lt_size e) hIG)).1 (hs₂.extBut b o hb (keep b o e))
      have hne : ∀ p ∈ news, p.1 ≠ G.objs.size := fun p hp => Nat.ne_of_lt (Nat.lt_trans (Heap.lt_size (N p hp).1) hIG)
      have hno : h₀.get? G.objs.size = none := by
        cases e : h₀.get? G.objs.size with
        | none => rfl
        | some o' => exact absurd (Nat.lt_trans (Heap.lt_size (F'.keep _ _ e)) hIG) (Nat.lt_irrefl _)
      have FF : Fr h₀ env.locals h₃ (fun z => if z = y then some (.ref G.objs.size) else m z) :=
        ⟨hn₂.sameBut hs₃ hLC, fun b o e => keep3 b o (Nat.ne_of_lt (Nat.lt_of_lt_of_le (Heap.lt_size e) F'.above)) (F'.keep b o e), F'.above⟩
      have hpl3 : h₃.PlainList G.objs.size ys := (hpl.extBut hs₂.extBut (Ne.symm hLD)).extBut hs₃.extBut hDC
      obtain ⟨nn, NN⟩ := made_enters (items := ys) ⟨hpl3, hne⟩ FF (fun p hp => ⟨keep3 _ _ (N p hp).2.1 (N p hp).1, (N p hp).2⟩) hno
      exact hQ G.objs.size ys.toList nn h₃ _ FF (by rw [Array.toArray_toList]; exact NN) hne hFl
  exact codeAny_compStart_list (loop _ rfl) (wpAny_pyIter_listiter hitH (loop _ rfl))
end
end Mine
end

section
open PySem PySem.W PyProof.Rows
set_option maxRecDepth 100000
set_option linter.unusedVariables false
namespace Mine
/-- the end of a turn of a loop that may bind new objects: what the iterator and the list walked hold stays -/
noncomputable def TurnG (h₀ : Heap) (L : Addr) (fix : List (Addr × Obj)) (Jn : (Str → Option Value) → List (Addr × Obj) → Prop) (s₁ : Shared) (Q : Flow → Shared → Prop) (f : Flow) (s₂ : Shared) : Prop :=
  match f with
  | .ret v => Q (.ret v) s₂
  | .brk => Q .next s₂
  | _ => ∃ h' tk m' news', s₂ = { s₁ with heap := h', toks := tk } ∧ Fr h₀ L h' m' ∧ News h₀ L h' (news' ++ fix) ∧ (∀ p ∈ news', ∀ q ∈ fix, p.1 ≠ q.1) ∧ Jn m' news'
section
variable {prog : Program} {w : World} {A : Around} {E : Value → Shared → Prop} {s : Shared} {env : Env} {h₀ : Heap} {x : Str} {body : List Stmt} {Q : Flow → Shared → Prop}
theorem range_loopG {r : Addr} {a₀ b₀ : Int} {t₀ u₀ v₀ : Tok} {n : Nat} {m₀ : Str → Option Value} {news : List (Addr × Obj)} (J : Nat → (Str → Option Value) → List (Addr × Obj) → Prop)
    (hh : A.handled = none) (hr : IsRange s.heap r a₀ b₀ 1 t₀ u₀ v₀) (hsmall : Builtin.Range.small a₀ b₀ 1 = true) (hn : Builtin.Range.rangeSize a₀ b₀ 1 = (n : Int)) (F : Fr h₀ env.locals s.heap m₀) (N : News h₀ env.locals s.heap news) (hj : J 0 m₀ news)
    (turn : ∀ (i : Nat) (t : Tok) m₁ news₁ h tk I oI, i < n → J i m₁ news₁ → (∀ p ∈ news₁, p.1 ≠ I) → Fr h₀ env.locals h (fun y => if y = x then some (.int (a₀ + (i : Int)) t) else m₁ y) → News h₀ env.locals h (news₁ ++ [(I, oI)]) →
      wpAny (model prog w) A (execs body env) (TurnG h₀ env.locals [(I, oI)] (J (i + 1)) { s with heap := h, toks := tk } Q) E { s with heap := h, toks := tk })
    (done : ∀ m₁ news₁ h tk, J n m₁ news₁ → Fr h₀ env.locals h m₁ → News h₀ env.locals h news₁ → Q .next { s with heap := h, toks := tk }) :
    wpAny (model prog w) A (pyIter (.ref r)) (fun it s₂ => LoopAtV prog w A h₀ env x body Q E it s₂) E s := by
  refine wpAny_pyIter_range hr hsmall ?_
  have W : Walks prog w A s.heap.objs.size [s.heap.objs.size] [s.heap.objs.size] n (fun i v => i < n ∧ ∃ t, v = .int (a₀ + i * 1) t)
      (fun i h => IsRangeIter h s.heap.objs.size (a₀ + (i : Nat) * 1) ((n : Int) - (i : Nat)) 1) := (Walks.range hh _ a₀ 1 n).bound
  refine ⟨s.heap.objs.size, [s.heap.objs.size], [s.heap.objs.size], n, _, _, m₀, news, J, rfl, W, ?_, ?_, ?_, (by show IsRangeIter _ _ _ _ _; rw [hn]; simpa using Heap.get?_push_size _ rfl), F.push _, (fun p hp => ⟨Heap.get?_push_of_some _ (N p hp).1, (N p hp).2⟩), hj, ?_, ?_⟩
  · intro hm
    exact absurd F.ns.lt ((List.mem_singleton.mp hm) ▸ Nat.lt_irrefl _)
  · intro b hb
    rw [List.mem_singleton.mp hb]
    exact next_is_new F
  · intro p hp hI
    exact absurd (Heap.lt_size (N p hp).1) ((List.mem_singleton.mp hI) ▸ Nat.lt_irrefl _)
  · rintro i v m₁ news₁ s₁ own ⟨hh', tk', rfl⟩ hin ⟨_, t, rfl⟩ hJ hoff hown hget hall hst F₁ N₁
    have e1 : a₀ + (i : Int) * 1 = a₀ + (i : Int) := by omega
    rw [e1] at F₁
    obtain ⟨oI, hst'⟩ : ∃ o, hh'.get? s.heap.objs.size = some o := ⟨_, hst⟩
    have hmem := hall _ (List.mem_singleton.mpr rfl) (next_is_new F) _ hst'
    have hne : ∀ p ∈ news₁, p.1 ≠ s.heap.objs.size := fun p hp e => hoff p hp (List.mem_singleton.mpr e)
    refine wpAny_mono (turn i t m₁ news₁ hh' tk' s.heap.objs.size oI hin hJ hne F₁ (fun p hp => ?_)) (fun f s₂ q => ?_) fun _ _ e => e
    · rcases List.mem_append.mp hp with hp | hp
      · exact N₁ p (List.mem_append_right _ hp)
      · rw [List.mem_singleton.mp hp]
        exact N₁ _ (List.mem_append_left _ hmem)
    · have fin : (∃ h' tk m' news', s₂ = { ({ s with heap := hh', toks := tk' } : Shared) with heap := h', toks := tk } ∧ Fr h₀ env.locals h' m' ∧ News h₀ env.locals h' (news' ++ [(s.heap.objs.size, oI)]) ∧ (∀ p ∈ news', ∀ q ∈ [(s.heap.objs.size, oI)], p.1 ≠ q.1) ∧ J (i + 1) m' news') →
          LoopStepU h₀ env.locals [s.heap.objs.size] own (J (i + 1)) { s with heap := hh', toks := tk' } .next s₂ := by
        rintro ⟨h', tk, m', news', e, F', N', hd, hm⟩
        refine ⟨rfl, h', tk, m', news', e, F', fun p hp => ?_, fun p hp hq => hd p hp _ (List.mem_singleton.mpr rfl) (List.mem_singleton.mp hq), hm⟩
        rcases List.mem_append.mp hp with hp | hp
        · have e1 := List.mem_singleton.mp (hown p hp)
          have e2 := hget p hp
          dsimp only at e2
          rw [e1, hst'] at e2
          have e3 : p = (s.heap.objs.size, oI) := Prod.ext e1 (Option.some.inj e2).symm
          rw [e3]
          exact N' _ (List.mem_append_right _ (List.mem_singleton.mpr rfl))
        · exact N' p (List.mem_append_left _ hp)
      cases f with
      | ret v => exact .ret q
      | brk => exact .brk q
      | next => exact .next (fin q)
      | cont => exact .cont (fin q)
  · rintro h' tk m' news' F' N' _ hJ
    exact done m' news' h' tk hJ F' N'
theorem list_loopG {ax : Addr} {vs : List Value} {nn : Nat} {m₀ : Str → Option Value} {news : List (Addr × Obj)} (J : Nat → (Str → Option Value) → List (Addr × Obj) → Prop)
    (hh : A.handled = none) (F : Fr h₀ env.locals s.heap m₀) (N : News h₀ env.locals s.heap (news ++ [(ax, listOf vs.toArray nn)])) (hne₀ : ∀ p ∈ news, p.1 ≠ ax) (hj : J 0 m₀ news)
    (turn : ∀ (i : Nat) (v : Value) m₁ news₁ h tk I oI, vs[i]? = some v → J i m₁ news₁ → (∀ p ∈ news₁, p.1 ≠ I ∧ p.1 ≠ ax) → ax ≠ I → Fr h₀ env.locals h (fun y => if y = x then some v else m₁ y) → News h₀ env.locals h (news₁ ++ [(I, oI), (ax, listOf vs.toArray nn)]) →
      wpAny (model prog w) A (execs body env) (TurnG h₀ env.locals [(I, oI), (ax, listOf vs.toArray nn)] (J (i + 1)) { s with heap := h, toks := tk } Q) E { s with heap := h, toks := tk })
    (done : ∀ m₁ news₁ h tk, J vs.length m₁ news₁ → Fr h₀ env.locals h m₁ → News h₀ env.locals h news₁ → Q .next { s with heap := h, toks := tk }) :
    wpAny (model prog w) A (pyIter (.ref ax)) (fun it s₂ => LoopAtV prog w A h₀ env x body Q E it s₂) E s := by
  have hax := N (ax, listOf vs.toArray nn) (List.mem_append_right _ (List.mem_singleton.mpr rfl))
  have hl : s.heap.IsList ax vs.toArray := ⟨_, hax.1, rfl, _, rfl⟩
  have hlt : ax < s.heap.objs.size := Heap.lt_size hax.1
  refine wpAny_pyIter_list hl ?_
  have W := Walks.list (prog := prog) (w := w) hh s.heap.objs.size ax (Nat.ne_of_lt hlt) vs.toArray
  have Nn : News h₀ env.locals s.heap news := fun p hp => N p (List.mem_append_left _ hp)
  let J' : Nat → (Str → Option Value) → List (Addr × Obj) → Prop := fun i m₁ news₁ => ∃ rest, news₁ = rest ++ [(ax, listOf vs.toArray nn)] ∧ (∀ p ∈ rest, p.1 ≠ ax) ∧ J i m₁ rest
  have hlen : vs.toArray.size = vs.length := List.size_toArray ..
  refine ⟨s.heap.objs.size, [s.heap.objs.size, ax], [s.heap.objs.size], vs.toArray.size, _, _, m₀, news ++ [(ax, listOf vs.toArray nn)], J', rfl, W, ?_, ?_, ?_, ⟨⟨_, Heap.get?_push_size _ rfl, rfl, rfl⟩, hl.at fun o e => Heap.get?_push_of_some _ e⟩, F.push _, (fun p hp => ⟨Heap.get?_push_of_some _ (N p hp).1, (N p hp).2⟩), ⟨news, rfl, hne₀, hj⟩, ?_, ?_⟩
  · intro hm
    rcases List.mem_cons.mp hm with e | hm
    · exact absurd F.ns.lt (e ▸ Nat.lt_irrefl _)
    · exact hax.2.1 (List.mem_singleton.mp hm).symm
  · intro b hb
    rw [List.mem_singleton.mp hb]
    exact next_is_new F
  · intro p hp hI
    exact absurd (Heap.lt_size (N p hp).1) ((List.mem_singleton.mp hI) ▸ Nat.lt_irrefl _)
  · rintro i v m₁ news₁ s₁ own ⟨hh', tk', rfl⟩ hin hPv ⟨rest, rfl, hnax, hJ⟩ hoff hown hget hall hst F₁ N₁
    obtain ⟨oI, hoI, _⟩ := hst.1
    have hmemI := hall _ (.head _) (next_is_new F) _ hoI
    have hol := (N₁ (ax, listOf vs.toArray nn) (List.mem_append_right _ (List.mem_append_right _ (List.mem_singleton.mpr rfl)))).1
    have hne : ∀ p ∈ rest, p.1 ≠ s.heap.objs.size ∧ p.1 ≠ ax := fun p hp => ⟨fun e => hoff p (List.mem_append_left _ hp) (List.mem_singleton.mpr e), hnax p hp⟩
    refine wpAny_mono (turn i v m₁ rest hh' tk' s.heap.objs.size oI (by simpa using hPv) hJ hne (Nat.ne_of_lt hlt) F₁ (fun p hp => ?_)) (fun f s₂ q => ?_) fun _ _ e => e
    · rcases List.mem_append.mp hp with hp | hp
      · exact N₁ p (List.mem_append_right _ (List.mem_append_left _ hp))
      · rcases List.mem_cons.mp hp with rfl | hp
        · exact N₁ _ (List.mem_append_left _ hmemI)
        · rw [List.mem_singleton.mp hp]
          exact N₁ _ (List.mem_append_right _ (List.mem_append_right _ (List.mem_singleton.mpr rfl)))
    · have fin : (∃ h' tk m' news', s₂ = { ({ s with heap := hh', toks := tk' } : Shared) with heap := h', toks := tk } ∧ Fr h₀ env.locals h' m' ∧ News h₀ env.locals h' (news' ++ [(s.heap.objs.size, oI), (ax, listOf vs.toArray nn)]) ∧ (∀ p ∈ news', ∀ q ∈ [(s.heap.objs.size, oI), (ax, listOf vs.toArray nn)], p.1 ≠ q.1) ∧ J (i + 1) m' news') →
          LoopStepU h₀ env.locals [s.heap.objs.size] own (J' (i + 1)) { s with heap := hh', toks := tk' } .next s₂ := by
        rintro ⟨h', tk, m', news', e, F', N', hd, hm⟩
        refine ⟨rfl, h', tk, m', news' ++ [(ax, listOf vs.toArray nn)], e, F', fun p hp => ?_, fun p hp hq => ?_, news', rfl, fun p hp => hd p hp _ (.tail _ (.head _)), hm⟩
        · rcases List.mem_append.mp hp with hp | hp
          · have e2 := hget p hp
            dsimp only at e2
            rcases List.mem_cons.mp (hown p hp) with e1 | e1
            · rw [e1, hoI] at e2
              have e3 : p = (s.heap.objs.size, oI) := Prod.ext e1 (Option.some.inj e2).symm
              rw [e3]
              exact N' _ (List.mem_append_right _ (.head _))
            · have e1 := List.mem_singleton.mp e1
              rw [e1, hol] at e2
              have e3 : p = (ax, listOf vs.toArray nn) := Prod.ext e1 (Option.some.inj e2).symm
              rw [e3]
              exact N' _ (List.mem_append_right _ (.tail _ (.head _)))
          · rcases List.mem_append.mp hp with hp | hp
            · exact N' p (List.mem_append_left _ hp)
            · rw [List.mem_singleton.mp hp]
              exact N' _ (List.mem_append_right _ (.tail _ (.head _)))
        · have hq' := List.mem_singleton.mp hq
          rcases List.mem_append.mp hp with hp | hp
          · exact hd p hp _ (.head _) hq'
          · rw [List.mem_singleton.mp hp] at hq'
            exact absurd hq' (Nat.ne_of_lt hlt)
      cases f with
      | ret v => exact .ret q
      | brk => exact .brk q
      | next => exact .next (fin q)
      | cont => exact .cont (fin q)
  · rintro h' tk m' news' F' N' _ ⟨rest, rfl, _, hJ⟩
    rw [hlen] at hJ
    exact done m' rest h' tk hJ F' (fun p hp => N' p (List.mem_append_left _ hp))
end
end Mine
end

section
open PySem PySem.W PyProof.Rows
set_option maxRecDepth 100000
set_option linter.unusedVariables false
namespace Mine
noncomputable def longerF (found : List Str) : List Str := found.flatMap fun t => [t ++ Str.mk #[32], t ++ Str.mk #[9]]
noncomputable def wantF (text : Str) : Str := (Str.ofString "..." ++ text) ++ Str.ofString "..."
noncomputable def wantOk (text : Str) : Bool := decide (Txt.split (wantF text) (Str.ofString "...") = [Str.empty, text, Str.empty]) && !(Builtin.Str.occurrences (wantF text) (Str.ofString "...") 0 (wantF text).length 1).isEmpty
noncomputable def inRing (ring text : Str) : Bool := decide (0 ≤ find4 (ring ++ ring) text 0 ((ring ++ ring).length : Int))
noncomputable def scan (ring : Str) (q p : Int) : List Str → Option (List Str)
  | [] => some []
  | t :: ts => if inRing ring t = near t q p then (scan ring q p ts).map (fun r => if near t q p = true then t :: r else r) else none
noncomputable def textsF (ring : Str) (q p : Int) : Nat → List Str → Bool
  | 0, _ => true
  | n + 1, f => match scan ring q p (longerF f) with
    | none => false
    | some f' => textsF ring q p n f'
noncomputable def TT : Nat → List Str
  | 0 => [Str.ofString ""]
  | n + 1 => longerF (TT n)
theorem TT_len : ∀ n, ∀ t ∈ TT n, t.length = n
  | 0, t, h => by
    have : t = Str.ofString "" := by simpa [TT] using h
    subst this; rfl
  | n + 1, t, h => by
    obtain ⟨u, hu, ht⟩ := List.mem_flatMap.mp (show t ∈ (TT n).flatMap _ from h)
    have hl := TT_len n u hu
    simp only [List.mem_cons, List.not_mem_nil, or_false] at ht
    rcases ht with rfl | rfl <;> rw [Str.length_append, hl] <;> rfl
theorem longer_mem {f : List Str} {n : Nat} (h : ∀ t ∈ f, t ∈ TT n) : ∀ t ∈ longerF f, t ∈ TT (n + 1) := fun t ht => by
  obtain ⟨u, hu, h2⟩ := List.mem_flatMap.mp (show t ∈ f.flatMap _ from ht)
  exact List.mem_flatMap.mpr ⟨u, h u hu, h2⟩
theorem longer_len (f : List Str) : (longerF f).length = 2 * f.length := by
  induction f with
  | nil => rfl
  | cons a f ih =>
    have e : longerF (a :: f) = [a ++ Str.mk #[32], a ++ Str.mk #[9]] ++ longerF f := rfl
    rw [e, List.length_append, ih]; simp; omega
theorem wantOk_all : ((List.range 5).all fun n => (TT (n + 1)).all wantOk) = true := by decide +kernel
theorem wantOk_of {n : Nat} {t : Str} (hn : n < 5) (ht : t ∈ TT (n + 1)) : wantOk t = true := by
  have h := List.all_eq_true.mp wantOk_all n (List.mem_range.mpr hn)
  exact List.all_eq_true.mp h t ht
theorem wantOk_split {t : Str} (h : wantOk t = true) : Txt.split (wantF t) (Str.ofString "...") = [Str.empty, t, Str.empty] := by
  unfold wantOk at h
  exact of_decide_eq_true (Bool.and_eq_true_iff.mp h).1
theorem wantOk_occ {t : Str} (h : wantOk t = true) : (Builtin.Str.occurrences (wantF t) (Str.ofString "...") 0 (wantF t).length 1).isEmpty = false := by
  unfold wantOk at h
  have := (Bool.and_eq_true_iff.mp h).2
  simpa using this
theorem strs_snoc {l : List (Str × Tok)} {vs : List Value} {v : Value} (h : vs ++ [v] = strValues l) : ∃ l₀ a t, l = l₀ ++ [(a, t)] ∧ vs = strValues l₀ ∧ v = .str a t := by
  rcases List.eq_nil_or_concat l with rfl | ⟨l₀, p, rfl⟩
  · simp [strValues] at h
  · obtain ⟨a, t⟩ := p
    refine ⟨l₀, a, t, by simp, ?_, ?_⟩
    · have := congrArg List.dropLast h
      simpa [strValues] using this
    · have := congrArg List.getLast? h
      simpa [strValues] using this
noncomputable abbrev GlueF : Value → Value → Value → Prop := fun v c y => ∀ a t b u, v = Value.str a t → c = Value.str b u → ∃ t', y = Value.str (a ++ b) t'
theorem signs_two {cs : List Value} (hl : cs.length = (Str.ofString " \t").cps.size) (h : ∀ (j : Nat) c, cs[j]? = some c → SignAt (Str.ofString " \t") j c) : ∃ u u', cs = [.str ⟨#[32]⟩ u, .str ⟨#[9]⟩ u'] := by
  have hl2 : cs.length = 2 := hl
  match cs, hl2 with
  | [c, c'], _ =>
    obtain ⟨x, u, e1, rfl⟩ := h 0 c rfl
    obtain ⟨x', u', e2, rfl⟩ := h 1 c' rfl
    have e1' : x = 32 := by
      have : (Str.ofString " \t").cps[0]? = some 32 := by decide +kernel
      rw [this] at e1; exact (Option.some.inj e1).symm
    have e2' : x' = 9 := by
      have : (Str.ofString " \t").cps[1]? = some 9 := by decide +kernel
      rw [this] at e2; exact (Option.some.inj e2).symm
    subst e1' e2'
    exact ⟨u, u', rfl⟩
theorem flat_strs {vs ys : List Value} (h : Flat2 GlueF (Str.ofString " \t") vs ys) : ∀ {l : List (Str × Tok)}, vs = strValues l → ∃ l', ys = strValues l' ∧ l'.map (·.1) = longerF (l.map (·.1)) := by
  induction h with
  | nil =>
    intro l e
    have : l = [] := by simpa [strValues] using e.symm
    subst this
    exact ⟨[], rfl, rfl⟩
  | snoc hF hl hs hp ih =>
    intro l e
    obtain ⟨l₀, a, t, rfl, e1, rfl⟩ := strs_snoc e
    obtain ⟨l', rfl, hl'⟩ := ih e1
    obtain ⟨u, u', rfl⟩ := signs_two hl hs
    cases hp with
    | cons h1 hp =>
      cases hp with
      | cons h2 hp =>
        cases hp
        obtain ⟨w1, rfl⟩ := h1 a t _ _ rfl rfl
        obtain ⟨w2, rfl⟩ := h2 a t _ _ rfl rfl
        refine ⟨l' ++ [(a ++ ⟨#[32]⟩, w1), (a ++ ⟨#[9]⟩, w2)], by simp [strValues], ?_⟩
        rw [List.map_append, hl', List.map_append]
        simp [longerF]
theorem fr_known {h₀ h : Heap} {L : Addr} {m : Str → Option Value} (ps : List (Str × Value)) (hk : ∀ p ∈ ps, m p.1 = some p.2) (F : Fr h₀ L h m) : Fr h₀ L h (kstB m ps) := by
  have e : kstB m ps = m := by
    funext z
    exact kstB_eq hk fun _ => rfl
  rw [e]; exact F
theorem scan_step {ring : Str} {q p : Int} {ls : List Str} {j : Nat} {a : Str} {done : List Str} (hj : ls[j]? = some a) (h : scan ring q p ls = (scan ring q p (ls.drop j)).map (done ++ ·)) (he : inRing ring a = near a q p) :
    scan ring q p ls = (scan ring q p (ls.drop (j + 1))).map ((if near a q p = true then done ++ [a] else done) ++ ·) := by
  have hd : ls.drop j = a :: ls.drop (j + 1) := by
    have hlt : j < ls.length := by
      rcases Nat.lt_or_ge j ls.length with h | h
      · exact h
      · rw [List.getElem?_eq_none h] at hj; cases hj
    rw [List.drop_eq_getElem_cons hlt]
    have : ls[j] = a := by
      rw [List.getElem?_eq_getElem hlt] at hj; exact Option.some.inj hj
    rw [this]
  rw [h, hd]
  simp only [scan, if_pos he, Option.map_map]
  congr 1
  funext r
  by_cases hn : near a q p = true <;> simp [hn]
theorem scan_out {ring : Str} {q p : Int} {ls : List Str} {j : Nat} {a : Str} {done : List Str} (hj : ls[j]? = some a) (h : scan ring q p ls = (scan ring q p (ls.drop j)).map (done ++ ·)) (he : ¬ inRing ring a = near a q p) : scan ring q p ls = none := by
  have hd : ls.drop j = a :: ls.drop (j + 1) := by
    have hlt : j < ls.length := by
      rcases Nat.lt_or_ge j ls.length with h | h
      · exact h
      · rw [List.getElem?_eq_none h] at hj; cases hj
    rw [List.drop_eq_getElem_cons hlt]
    have : ls[j] = a := by
      rw [List.getElem?_eq_getElem hlt] at hj; exact Option.some.inj hj
    rw [this]
  rw [h, hd]
  simp only [scan, if_neg he, Option.map_none]
end Mine
end

section
open PySem PySem.W PyProof.Rows
set_option maxRecDepth 100000
set_option maxHeartbeats 8000000
set_option linter.unusedVariables false
namespace Mine
local macro_rules | `(tactic| walk_at "call ref") => `(tactic| (k_here; refine Hold.out ?_))
local macro_rules | `(tactic| walk_at "pyIter ref") => `(tactic| (k_here; refine Hold.out ?_))
local macro_rules | `(tactic| walk_at "exec Assign cons ListComp") => `(tactic| (k_here; refine Hold.out ?_))
noncomputable abbrev TxJ (ring : Str) (q p : Int) (t1 t2 t3 : Tok) (i : Nat) (m : Str → Option Value) (news : List (Addr × Obj)) : Prop :=
  ∃ D nn l, news = [(D, listOf (strValues l).toArray nn)] ∧ m (Str.ofString "found") = some (.ref D) ∧ m (Str.ofString "ring") = some (.str ring t1) ∧ m (Str.ofString "q") = some (.int q t2) ∧ m (Str.ofString "p") = some (.int p t3) ∧
    textsF ring q p 5 [Str.ofString ""] = textsF ring q p (5 - i) (l.map (·.1)) ∧ (∀ t ∈ l.map (·.1), t ∈ TT i) ∧ l.length ≤ 2 ^ i
noncomputable abbrev TxK (ring : Str) (q p : Int) (t1 t2 t3 : Tok) (D3 I : Addr) (oI : Obj) (l2 : List (Str × Tok)) (j : Nat) (m : Str → Option Value) (news : List (Addr × Obj)) : Prop :=
  ∃ nn3 l3, news = [(D3, listOf (strValues l3).toArray nn3), (I, oI)] ∧ m (Str.ofString "found") = some (.ref D3) ∧ m (Str.ofString "ring") = some (.str ring t1) ∧ m (Str.ofString "q") = some (.int q t2) ∧ m (Str.ofString "p") = some (.int p t3) ∧
    scan ring q p (l2.map (·.1)) = (scan ring q p ((l2.map (·.1)).drop j)).map (l3.map (·.1) ++ ·) ∧ (∀ t ∈ l3.map (·.1), t ∈ l2.map (·.1)) ∧ l3.length ≤ j
theorem texts_ct (w : World) (mean : ExcName → Option Value) (mg mb : Str → Option Value) (ring : Str) (q p : Int) (t1 t2 t3 : Tok) (hl : ring.length ≤ 50) (hq0 : 0 ≤ q) (hq1 : q ≤ 100) (hp0 : 0 ≤ p) (hp1 : p ≤ 100) :
    Ct w mean mg mb 40 151 [.str ring t1, .int q t2, .int p t3] (fun t => .bool (textsF ring q p 5 [Str.ofString ""])) := by
  k_with_none
  w_top off
  unfold Ct; k_fill
  intros
  rename_i hret
  refine wpAny_call ?_
  w_strict ((k_dflt (first | (refine' code_defP ?k1 ?k2 ?k3 ?k5 ?kA ?kF ?kK ?k6 ?k7 ?k8 ?k9 ?kB ?_ ?c2 ?c3 ?c4 ?c5; (case kA => exact rfl); (case kF => exact rfl); (case kK => assumption); (case k1 => k_asm); (case k2 => k_asm); (case k3 => k_asm); (case k5 => k_asm); (case k6 => k_is); (case k7 => k_is); (case k8 => k_room); (case k9 => exact BindsTo.of_eq rfl); (case c5 => decide); (case kB => exact locs rfl); (case c2 => exact rfl); (case c3 => exact rfl); (case c4 => exact rfl); k_whole; intro L' h' F' N' B' X' T'; (try dsimp only); (try k_fold)) | (refine' code_defCP ?k1 ?k2 ?k3 ?k5 ?kA ?kF ?kK ?k6 ?k7 ?k8 ?k9 ?kB ?kD ?_ ?c2 ?c3 ?c4; (case kA => exact rfl); (case kF => exact rfl); (case kK => assumption); (case k1 => k_asm); (case k2 => k_asm); (case k3 => k_asm); (case k5 => k_asm); (case k6 => k_is); (case k7 => k_is); (case k8 => k_room); (case k9 => exact BindsTo.of_eq rfl); (case kB => exact rfl); (case kD => decide +kernel); (case c2 => exact rfl); (case c3 => exact rfl); (case c4 => exact rfl); k_whole; intro L' h' tk' cells' F' N' Y' B' X' T'; k_cells Y'; (try simp only [List.cons_append, List.nil_append] at N'); (try dsimp only); (try k_fold)))); k_steps)
  unfold Hold
  refine range_loopG (TxJ ring q p t1 t2 t3) rfl (by assumption) (small_one (by omega) (by omega) (by omega) (by omega)) (rangeSize_nat _ _) (by assumption) (by assumption) ⟨_, _, [(Str.ofString "", _)], rfl, rfl, rfl, rfl, rfl, rfl, by simp [TT], by simp⟩ ?turn ?done
  case turn =>
    rintro i t m₁ news₁ h tk I oI hi ⟨D, nn, l, rfl, f1, f2, f3, f4, htx, hmem, hlen⟩ hneI F1 N1
    have hi5 : i < 5 := hi
    have F2 := fr_known [(Str.ofString "found", .ref D), (Str.ofString "ring", .str ring t1), (Str.ofString "q", .int q t2), (Str.ofString "p", .int p t3)] (by
      intro pp hpp
      simp only [List.mem_cons, List.not_mem_nil, or_false] at hpp
      rcases hpp with rfl | rfl | rfl | rfl <;> (dsimp only; rw [if_neg (by decide)]; assumption)) F1
    dsimp only [kstB] at F2
    clear F1
    have hDI : D ≠ I := hneI _ (.head _)
    have hll : l.length ≤ 32 := Nat.le_trans hlen (by
      have := Nat.pow_le_pow_right (n := 2) (by omega) (show i ≤ 5 by omega)
      omega)
    dsimp only [List.cons_append, List.nil_append] at N1
    w_strict k_steps
    unfold Hold
    with_reducible apply comp_twoA GlueF
    case hF₀ => k_asm
    case hsw => with_unfolding_all rfl
    case hL => with_unfolding_all rfl
    case hh => with_unfolding_all rfl
    case hclos => with_unfolding_all rfl
    case hcell => decide
    case hkind => with_unfolding_all rfl
    case hnames => decide
    case hx => with_unfolding_all rfl
    case hz => with_unfolding_all rfl
    case hxz => decide
    case hy => with_unfolding_all rfl
    case hp => with_unfolding_all rfl
    case hs => intro _; with_unfolding_all rfl
    case hi2 => intro C s Q E hQ; exact Calls.Constant_str (hQ _ _)
    case hs2 => intro _ _; with_unfolding_all rfl
    w_strict k_steps
    refine ⟨_, _, _, rfl, News.isList (by assumption) (by k_mem), ?sz, by assumption, by assumption, ?elt, ?fin⟩
    case sz =>
      show (strValues l).length * 2 ≤ sizeLine
      rw [show (strValues l).length = l.length from List.length_map .., sizeLine_eq]
      omega
    case elt =>
      intro C v c k s₂ m₂ E' hC hv hc hns hmx hmz hkeep
      obtain ⟨pp, hpp, rfl⟩ := List.mem_map.mp hv
      obtain ⟨cc, uu, hcc, rfl⟩ := hc
      have hal : pp.1.length = i := TT_len i _ (hmem _ (List.mem_map_of_mem hpp))
      have hal2 : pp.1.length ≤ 10 := by omega
      have hcl : (Str.mk #[cc]).length = 1 := rfl
      w_strict k_steps
      refine ⟨fun a ta b ub e1 e2 => ?_, _, _, rfl, fun _ _ e => e⟩
      cases e1
      cases e2
      exact ⟨_, rfl⟩
    case fin =>
      intro D2 ys nn2 h2 tk2 F3 N3 hne3 hFl
      obtain ⟨l2, rfl, hl2⟩ := flat_strs hFl rfl
      clear hFl
      replace hne3 := allNe_of hne3
      simp only [AllNe] at hne3
      w_strict k_steps
      rename_i D3 h3 F4 N4 l13 h5 F5 N5
      unfold Hold
      have hl2len : l2.length ≤ 64 := by
        have e := congrArg List.length hl2
        rw [longer_len, List.length_map, List.length_map] at e
        omega
      have hmem2 : ∀ t ∈ l2.map (·.1), t ∈ TT (i + 1) := by rw [hl2]; exact longer_mem hmem
      refine list_loopG (news := [(D3, listOf (strValues []).toArray 0), (I, oI)]) (vs := strValues l2) (nn := nn2) (TxK ring q p t1 t2 t3 D3 I oI l2) rfl (by assumption) (fun pp hpp => ?mm) (fun pp hpp => ?nn) ⟨0, [], rfl, rfl, rfl, rfl, rfl, by simp, by simp, by simp⟩ ?turn2 ?done2
      case mm =>
        simp only [List.cons_append, List.nil_append, List.mem_cons, List.not_mem_nil, or_false] at hpp
        rcases hpp with rfl | rfl | rfl
        · exact N5 _ (by k_mem)
        · exact N5 _ (by k_mem)
        · exact N5 _ (by k_mem)
      case nn =>
        simp only [List.mem_cons, List.not_mem_nil, or_false] at hpp
        rcases hpp with rfl | rfl
        · exact Nat.ne_of_gt l13.1
        · exact hne3.2.1
      case turn2 =>
        rintro j v m₂ news₂ h6 tk6 I2 oI2 hv ⟨nn3, l3, rfl, g1, g2, g3, g4, hsc, hsub, hl3⟩ hne6 hneD F6 N6
        obtain ⟨a, ta, hla, rfl⟩ : ∃ a ta, l2[j]? = some (a, ta) ∧ v = .str a ta := by
          unfold strValues at hv
          rw [List.getElem?_map] at hv
          obtain ⟨pp, e1, e2⟩ := Option.map_eq_some_iff.mp hv
          exact ⟨pp.1, pp.2, e1, e2.symm⟩
        have hls : (l2.map (·.1))[j]? = some a := by rw [List.getElem?_map, hla]; rfl
        have haT : a ∈ TT (i + 1) := hmem2 a (List.mem_of_getElem? hls)
        have hal : a.length = i + 1 := TT_len _ _ haT
        have hal2 : a.length ≤ 10 := by omega
        have hwo := wantOk_of hi5 haT
        have F7 := fr_known [(Str.ofString "found", .ref D3), (Str.ofString "ring", .str ring t1), (Str.ofString "q", .int q t2), (Str.ofString "p", .int p t3)] (by
          intro pp hpp
          simp only [List.mem_cons, List.not_mem_nil, or_false] at hpp
          rcases hpp with rfl | rfl | rfl | rfl <;> (dsimp only; rw [if_neg (by decide)]; assumption)) F6
        dsimp only [kstB] at F7
        clear F6
        have hd3 := hne6 _ (.head _)
        have hI3 := hne6 _ (.tail _ (.head _))
        dsimp only at hd3 hI3
        dsimp only [List.cons_append, List.nil_append] at N6
        w_strict k_steps
        unfold Hold
        k_dflt (refine' Ct.use (near_ct _ _ _ _ a q p _ _ _ (by omega) hq0 hq1 hp0 hp1) ?k1 ?k2 ?k3 ?k4 ?k5 ?k6 ?k7 ?k8 ?_)
        case k1 => k_asm
        case k2 => k_asm
        case k3 => k_asm
        case k4 => k_asm
        case k5 => k_asm
        case k6 => rfl
        case k7 => k_room
        case k8 => k_units
        intro u1 h7 tk7 F8 N8 kp8
        w_strict k_steps
        unfold Hold
        k_dflt (refine' Ct.use (ell_ct _ _ _ _ (wantF a) (ring ++ ring) a _ _ ?hw ?hg (wantOk_split hwo) (wantOk_occ hwo) (by omega)) ?k1 ?k2 ?k3 ?k4 ?k5 ?k6 ?k7 ?k8 ?_)
        case hw =>
          unfold wantF
          rw [Str.length_append, Str.length_append, show (Str.ofString "...").length = 3 from by decide +kernel]
          omega
        case hg =>
          rw [Str.length_append]
          omega
        case k1 => k_asm
        case k2 => k_asm
        case k3 => k_asm
        case k4 => k_asm
        case k5 => k_asm
        case k6 => rfl
        case k7 => k_room
        case k8 => k_units
        intro u2 h8 tk8 F9 N9 kp9
        w_strict k_steps
        case' _ => skip
        · dsimp only [TurnG]
          w_strict k_steps
          refine end_b hret ?_ (by assumption)
          have hno : ¬ inRing ring a = near a q p := by
            intro e
            rename (decide _ != near a q p) = true => hb
            unfold inRing at e
            rw [e] at hb
            simp at hb
          have hs := scan_out hls hsc hno
          rw [htx, show 5 - i = (4 - i) + 1 from by omega]
          simp only [textsF]
          rw [← hl2, hs]
        · have hyes : inRing ring a = near a q p := by
            rename (decide _ != near a q p) = false => hb
            unfold inRing
            simpa using hb
          have hnear : near a q p = true := by assumption
          have hn1 : @Ne Nat I D3 := Nat.ne_of_lt l13.2.2
          have hn2 : @Ne Nat I2 D3 := Ne.symm hd3.1
          have hn3 : @Ne Nat D2 D3 := Ne.symm hd3.2
          k_dflt (refine' append_K ?k1 ?k2 ?k3 ?_ ?z)
          case k1 => k_asm
          case k2 => k_asm
          case k3 => k_upd
          · intro h9 F10 N10
            w_strict k_steps
            refine ⟨_, _, _, [(D3, listOf (strValues (l3 ++ [(a, ta)])).toArray (nn3 + 1)), (I, oI)], rfl, by assumption, ?_, ?_, nn3 + 1, l3 ++ [(a, ta)], rfl, rfl, rfl, rfl, rfl, ?_, ?_, ?_⟩
            · have e : (strValues (l3 ++ [(a, ta)])).toArray = (strValues l3).toArray.push (.str a ta) := by simp [strValues]
              rw [e]
              assumption
            · intro pp hpp qq hqq
              simp only [List.mem_cons, List.not_mem_nil, or_false] at hpp hqq
              rcases hpp with rfl | rfl <;> rcases hqq with rfl | rfl
              · exact hd3.1
              · exact hd3.2
              · exact hI3.1
              · exact hI3.2
            · have := scan_step hls hsc hyes
              rw [if_pos hnear] at this
              simpa using this
            · intro t ht
              rw [List.map_append, List.mem_append] at ht
              rcases ht with ht | ht
              · exact hsub t ht
              · simp at ht; subst ht; exact List.mem_of_getElem? hls
            · rw [List.length_append]; simp; omega
          · show (strValues l3).toArray.size ≤ sizeLine
            rw [List.size_toArray, show (strValues l3).length = l3.length from List.length_map .., sizeLine_eq]
            have : j < l2.length := by
              rcases Nat.lt_or_ge j l2.length with h | h
              · exact h
              · rw [List.getElem?_eq_none h] at hla; cases hla
            omega
        · have hyes : inRing ring a = near a q p := by
            rename (decide _ != near a q p) = false => hb
            unfold inRing
            simpa using hb
          have hnear : near a q p = false := by assumption
          refine ⟨_, _, _, [(D3, listOf (strValues l3).toArray nn3), (I, oI)], rfl, by assumption, by assumption, ?_, nn3, l3, rfl, rfl, rfl, rfl, rfl, ?_, hsub, by omega⟩
          · intro pp hpp qq hqq
            simp only [List.mem_cons, List.not_mem_nil, or_false] at hpp hqq
            rcases hpp with rfl | rfl <;> rcases hqq with rfl | rfl
            · exact hd3.1
            · exact hd3.2
            · exact hI3.1
            · exact hI3.2
          · have := scan_step hls hsc hyes
            rw [if_neg (by simp [hnear])] at this
            exact this
      case done2 =>
        rintro m₂ news₂ h6 tk6 ⟨nn3, l3, rfl, g1, g2, g3, g4, hsc, hsub, hl3⟩ F6 N6
        dsimp only
        w_strict k_steps
        have hvl : (strValues l2).length = l2.length := List.length_map ..
        rw [hvl] at hsc hl3
        have hdrop : (l2.map (·.1)).drop l2.length = [] := List.drop_eq_nil_of_le (by rw [List.length_map]; exact Nat.le_refl _)
        rw [hdrop] at hsc
        simp only [scan, Option.map_some, List.append_nil] at hsc
        refine ⟨_, _, _, [(D3, listOf (strValues l3).toArray nn3)], rfl, by assumption, by assumption, ?_, D3, nn3, l3, rfl, g1, g2, g3, g4, ?_, fun t ht => hmem2 t (hsub t ht), ?_⟩
        · intro pp hpp qq hqq
          simp only [List.mem_cons, List.not_mem_nil, or_false] at hpp hqq
          subst hpp hqq
          exact Nat.ne_of_gt l13.2.2
        · rw [htx, show 5 - i = (5 - (i + 1)) + 1 from by omega]
          simp only [textsF]
          rw [← hl2, hsc]
        · have e := congrArg List.length hl2
          rw [longer_len, List.length_map, List.length_map] at e
          rw [Nat.pow_succ]
          omega
  case done =>
    rintro m₁ news₁ h tk ⟨D, nn, l, rfl, f1, f2, f3, f4, htx, hmem, hlen⟩ F1 N1
    w_strict k_steps
    exact end_b hret htx.symm (by assumption)
end Mine
end

section
open PySem PySem.W PyProof.Rows
set_option maxRecDepth 100000
set_option linter.unusedVariables false
namespace Mine
section
variable {prog : Program} {w : World} {A : Around} {E : Value → Shared → Prop} {s : Shared} {env : Env} {h₀ : Heap} {x : Str} {body : List Stmt} {Q : Flow → Shared → Prop}
theorem str_loop_core {text : Str} {St : Nat → Heap → Prop} {o : Obj} {m₀ : Str → Option Value} {news : List (Addr × Obj)} (J : Nat → (Str → Option Value) → List (Addr × Obj) → Prop)
    (W : Walks prog w A s.heap.objs.size [s.heap.objs.size] [s.heap.objs.size] text.cps.size (SignAt text) St) (hSt : St 0 (s.heap.push o)) (hex : ∀ i h, St i h → ∃ oI, h.get? s.heap.objs.size = some oI)
    (F : Fr h₀ env.locals s.heap m₀) (N : News h₀ env.locals s.heap news) (hj : J 0 m₀ news)
    (turn : ∀ (i c : Nat) (u : Tok) m₁ news₁ h tk I oI, text.cps[i]? = some c → J i m₁ news₁ → (∀ p ∈ news₁, p.1 ≠ I) → Fr h₀ env.locals h (fun y => if y = x then some (.str ⟨#[c]⟩ u) else m₁ y) → News h₀ env.locals h (news₁ ++ [(I, oI)]) →
      wpAny (model prog w) A (execs body env) (TurnG h₀ env.locals [(I, oI)] (J (i + 1)) { s with heap := h, toks := tk } Q) E { s with heap := h, toks := tk })
    (done : ∀ m₁ news₁ h tk, J text.cps.size m₁ news₁ → Fr h₀ env.locals h m₁ → News h₀ env.locals h news₁ → Q .next { s with heap := h, toks := tk }) :
    LoopAtV prog w A h₀ env x body Q E (.ref s.heap.objs.size) { s with heap := s.heap.push o } := by
  refine ⟨s.heap.objs.size, [s.heap.objs.size], [s.heap.objs.size], text.cps.size, _, _, m₀, news, J, rfl, W, ?_, ?_, ?_, hSt, F.push _, (fun p hp => ⟨Heap.get?_push_of_some _ (N p hp).1, (N p hp).2⟩), hj, ?_, ?_⟩
  · intro hm
    exact absurd F.ns.lt ((List.mem_singleton.mp hm) ▸ Nat.lt_irrefl _)
  · intro b hb
    rw [List.mem_singleton.mp hb]
    exact next_is_new F
  · intro p hp hI
    exact absurd (Heap.lt_size (N p hp).1) ((List.mem_singleton.mp hI) ▸ Nat.lt_irrefl _)
  · rintro i v m₁ news₁ s₁ own ⟨hh', tk', rfl⟩ hin ⟨c, u, hc, rfl⟩ hJ hoff hown hget hall hst F₁ N₁
    obtain ⟨oI, hst'⟩ : ∃ o, hh'.get? s.heap.objs.size = some o := hex _ _ hst
    have hmem := hall _ (List.mem_singleton.mpr rfl) (next_is_new F) _ hst'
    have hne : ∀ p ∈ news₁, p.1 ≠ s.heap.objs.size := fun p hp e => hoff p hp (List.mem_singleton.mpr e)
    refine wpAny_mono (turn i c u m₁ news₁ hh' tk' s.heap.objs.size oI hc hJ hne F₁ (fun p hp => ?_)) (fun f s₂ q => ?_) fun _ _ e => e
    · rcases List.mem_append.mp hp with hp | hp
      · exact N₁ p (List.mem_append_right _ hp)
      · rw [List.mem_singleton.mp hp]
        exact N₁ _ (List.mem_append_left _ hmem)
    · have fin : (∃ h' tk m' news', s₂ = { ({ s with heap := hh', toks := tk' } : Shared) with heap := h', toks := tk } ∧ Fr h₀ env.locals h' m' ∧ News h₀ env.locals h' (news' ++ [(s.heap.objs.size, oI)]) ∧ (∀ p ∈ news', ∀ q ∈ [(s.heap.objs.size, oI)], p.1 ≠ q.1) ∧ J (i + 1) m' news') →
          LoopStepU h₀ env.locals [s.heap.objs.size] own (J (i + 1)) { s with heap := hh', toks := tk' } .next s₂ := by
        rintro ⟨h', tk, m', news', e, F', N', hd, hm⟩
        refine ⟨rfl, h', tk, m', news', e, F', fun p hp => ?_, fun p hp hq => hd p hp _ (List.mem_singleton.mpr rfl) (List.mem_singleton.mp hq), hm⟩
        rcases List.mem_append.mp hp with hp | hp
        · have e1 := List.mem_singleton.mp (hown p hp)
          have e2 := hget p hp
          dsimp only at e2
          rw [e1, hst'] at e2
          have e3 : p = (s.heap.objs.size, oI) := Prod.ext e1 (Option.some.inj e2).symm
          rw [e3]
          exact N' _ (List.mem_append_right _ (List.mem_singleton.mpr rfl))
        · exact N' p (List.mem_append_left _ hp)
      cases f with
      | ret v => exact .ret q
      | brk => exact .brk q
      | next => exact .next (fin q)
      | cont => exact .cont (fin q)
  · rintro h' tk m' news' F' N' _ hJ
    exact done m' news' h' tk hJ F' N'
theorem str_loopG {text : Str} {t : Tok} {m₀ : Str → Option Value} {news : List (Addr × Obj)} (J : Nat → (Str → Option Value) → List (Addr × Obj) → Prop)
    (hh : A.handled = none) (F : Fr h₀ env.locals s.heap m₀) (N : News h₀ env.locals s.heap news) (hj : J 0 m₀ news)
    (turn : ∀ (i c : Nat) (u : Tok) m₁ news₁ h tk I oI, text.cps[i]? = some c → J i m₁ news₁ → (∀ p ∈ news₁, p.1 ≠ I) → Fr h₀ env.locals h (fun y => if y = x then some (.str ⟨#[c]⟩ u) else m₁ y) → News h₀ env.locals h (news₁ ++ [(I, oI)]) →
      wpAny (model prog w) A (execs body env) (TurnG h₀ env.locals [(I, oI)] (J (i + 1)) { s with heap := h, toks := tk } Q) E { s with heap := h, toks := tk })
    (done : ∀ m₁ news₁ h tk, J text.cps.size m₁ news₁ → Fr h₀ env.locals h m₁ → News h₀ env.locals h news₁ → Q .next { s with heap := h, toks := tk }) :
    wpAny (model prog w) A (pyIter (.str text t)) (fun it s₂ => LoopAtV prog w A h₀ env x body Q E it s₂) E s := by
  cases ha : text.cps.all (· < 128)
  · exact wpAny_pyIter_wide ha (str_loop_core J (Walks.strWide hh _ text t) ⟨_, Heap.get?_push_size _ rfl, rfl, rfl⟩ (fun i h st => ⟨_, st.choose_spec.1⟩) F N hj turn done)
  · exact wpAny_pyIter_ascii ha (str_loop_core J (Walks.strAscii hh _ text t) ⟨_, Heap.get?_push_size _ rfl, rfl, rfl⟩ (fun i h st => ⟨_, st.choose_spec.1⟩) F N hj turn done)
end
end Mine
end

section
open PySem PySem.W PyProof.Rows
set_option maxRecDepth 100000
set_option maxHeartbeats 8000000
set_option linter.unusedVariables false
namespace Mine
local macro_rules | `(tactic| walk_at "pyIter str") => `(tactic| (k_here; refine Hold.out ?_))
noncomputable def bumpF (cs : List Int) (b : Int) : List Int :=
  if (cs.length : Int) ≤ b then (cs ++ (List.replicate (b - cs.length + 1).toNat [(0 : Int)]).flatten).set b.toNat ((cs ++ (List.replicate (b - cs.length + 1).toNat [(0 : Int)]).flatten).getD b.toNat 0 + 1)
  else cs.set b.toNat (cs.getD b.toNat 0 + 1)
noncomputable def wsRun : List Nat → (List Int × Int × Int × Int) → (List Int × Int × Int × Int)
  | [], st => st
  | c :: r, (cs, b, n, nt) => if (Str.mk #[c] == Str.ofString " ") = true then wsRun r (cs, b + 1, n + 1, nt) else if (Str.mk #[c] == Str.ofString "\t") = true then wsRun r (bumpF cs b, 0, n + 1, nt + 1) else (cs, b, n, nt)
noncomputable def wsF (text : Str) : List Int × Int × Int × Int := wsRun text.cps.toList ([], 0, 0, 0)
noncomputable abbrev WsJ (text : Str) (self : Addr) (rest : List (Addr × Obj)) (i : Nat) (m : Str → Option Value) (news : List (Addr × Obj)) : Prop :=
  ∃ (Dc : Addr) (nn : Nat) (vs : List Value) (cs : List Int) (b n nt : Int) (tb tn tnt : Tok), news = (Dc, listOf vs.toArray nn) :: rest ∧ IntsAre vs cs ∧ m (Str.ofString "count") = some (.ref Dc) ∧ m (Str.ofString "b") = some (.int b tb) ∧ m (Str.ofString "n") = some (.int n tn) ∧ m (Str.ofString "nt") = some (.int nt tnt) ∧
    m (Str.ofString "S") = some (.str (Str.ofString " ") 260) ∧ m (Str.ofString "T") = some (.str (Str.ofString "\t") 261) ∧ m (Str.ofString "self") = some (.ref self) ∧
    wsF text = wsRun (text.cps.toList.drop i) (cs, b, n, nt) ∧ 0 ≤ b ∧ b ≤ i ∧ 0 ≤ n ∧ n ≤ i ∧ 0 ≤ nt ∧ nt ≤ i ∧ cs.length ≤ i + 1 ∧ AllNe Dc rest
section
variable {prog : Program} {w : World} {A : Around} {E : Value → Shared → Prop} {s : Shared} {env : Env} {h₀ : Heap} {x : Str} {body : List Stmt} {Q : Flow → Shared → Prop}
theorem ws_loop {text : Str} {t : Tok} {self Dc Dt : Addr} {ot : Obj} {rest : List (Addr × Obj)} {m₀ : Str → Option Value} {tb tn tnt : Tok} (hh : A.handled = none) (F : Fr h₀ env.locals s.heap m₀)
    (N : News h₀ env.locals s.heap ((Dc, listOf #[] 0) :: (Dt, ot) :: rest)) (e1 : m₀ (Str.ofString "count") = some (.ref Dc)) (e2 : m₀ (Str.ofString "b") = some (.int 0 tb)) (e3 : m₀ (Str.ofString "n") = some (.int 0 tn)) (e4 : m₀ (Str.ofString "nt") = some (.int 0 tnt))
    (e5 : m₀ (Str.ofString "S") = some (.str (Str.ofString " ") 260)) (e6 : m₀ (Str.ofString "T") = some (.str (Str.ofString "\t") 261)) (e7 : m₀ (Str.ofString "self") = some (.ref self)) (hne : AllNe Dc rest)
    (turn : ∀ (i c : Nat) (u : Tok) m₁ news₁ h tk I oI, text.cps[i]? = some c → WsJ text self rest i m₁ news₁ → (∀ p ∈ news₁, p.1 ≠ I) → Fr h₀ env.locals h (fun y => if y = x then some (.str ⟨#[c]⟩ u) else m₁ y) → News h₀ env.locals h (news₁ ++ [(I, oI)]) →
      wpAny (model prog w) A (execs body env) (TurnG h₀ env.locals [(I, oI)] (WsJ text self rest (i + 1)) { s with heap := h, toks := tk } Q) E { s with heap := h, toks := tk })
    (done : ∀ m₁ news₁ h tk, WsJ text self rest text.cps.size m₁ news₁ → Fr h₀ env.locals h m₁ → News h₀ env.locals h news₁ → Q .next { s with heap := h, toks := tk }) :
    wpAny (model prog w) A (pyIter (.str text t)) (fun it s₂ => LoopAtV prog w A h₀ env x body Q E it s₂) E s := by
  refine str_loopG (news := (Dc, listOf #[] 0) :: rest) (WsJ text self rest) hh F (fun p hp => N p ?_) ⟨Dc, 0, [], [], 0, 0, 0, tb, tn, tnt, rfl, .nil, e1, e2, e3, e4, e5, e6, e7, rfl, by simp, by simp, by simp, by simp, by simp, by simp, by simp, hne⟩ turn done
  rcases List.mem_cons.mp hp with rfl | hp
  · exact .head _
  · exact .tail _ (.tail _ hp)
end
theorem drop_at {text : Str} {i c : Nat} (hc : text.cps[i]? = some c) : text.cps.toList.drop i = c :: text.cps.toList.drop (i + 1) := by
  have hc' : text.cps.toList[i]? = some c := by simpa using hc
  have hlt : i < text.cps.toList.length := by
    rcases Nat.lt_or_ge i text.cps.toList.length with h | h
    · exact h
    · rw [List.getElem?_eq_none h] at hc'; cases hc'
  rw [List.drop_eq_getElem_cons hlt]
  rw [List.getElem?_eq_getElem hlt] at hc'
  rw [Option.some.inj hc']
theorem ws_s {text : Str} {i c : Nat} {cs : List Int} {b n nt : Int} (hc : text.cps[i]? = some c) (h : wsF text = wsRun (text.cps.toList.drop i) (cs, b, n, nt)) (e : (Str.mk #[c] == Str.ofString " ") = true) : wsF text = wsRun (text.cps.toList.drop (i + 1)) (cs, b + 1, n + 1, nt) := by
  rw [h, drop_at hc]
  simp only [wsRun]
  rw [if_pos e]
theorem ws_t {text : Str} {i c : Nat} {cs : List Int} {b n nt : Int} (hc : text.cps[i]? = some c) (h : wsF text = wsRun (text.cps.toList.drop i) (cs, b, n, nt)) (e0 : (Str.mk #[c] == Str.ofString " ") = false) (e : (Str.mk #[c] == Str.ofString "\t") = true) : wsF text = wsRun (text.cps.toList.drop (i + 1)) (bumpF cs b, 0, n + 1, nt + 1) := by
  rw [h, drop_at hc]
  simp only [wsRun]
  rw [if_neg (by simp [e0]), if_pos e]
theorem ws_o {text : Str} {i c : Nat} {cs : List Int} {b n nt : Int} (hc : text.cps[i]? = some c) (h : wsF text = wsRun (text.cps.toList.drop i) (cs, b, n, nt)) (e0 : (Str.mk #[c] == Str.ofString " ") = false) (e : (Str.mk #[c] == Str.ofString "\t") = false) : wsF text = (cs, b, n, nt) := by
  rw [h, drop_at hc]
  simp only [wsRun]
  rw [if_neg (by simp [e0]), if_neg (by simp [e])]
theorem bump_len {cs : List Int} {b : Int} {i : Nat} (hb0 : 0 ≤ b) (hb : b ≤ i) (hl : cs.length ≤ i + 1) : (bumpF cs b).length ≤ i + 1 + 1 := by
  unfold bumpF
  split
  · rw [List.length_set, List.length_append]
    have : ((List.replicate (b - (cs.length : Int) + 1).toNat [(0 : Int)]).flatten).length = (b - (cs.length : Int) + 1).toNat := by simp
    omega
  · rw [List.length_set]; omega
theorem ws_turn_end {h₀ h' : Heap} {L I Dc self : Addr} {oI : Obj} {rest nw : List (Addr × Obj)} {text : Str} {i nn : Nat} {vs : List Value} {cs : List Int} {b n nt : Int} {tb tn tnt : Tok} {m' : Str → Option Value} {s₁ : Shared} {Q : Flow → Shared → Prop} {tk : Nat}
    (F : Fr h₀ L h' m') (N : News h₀ L h' nw) (hin : ∀ p ∈ (Dc, listOf vs.toArray nn) :: (rest ++ [(I, oI)]), p ∈ nw) (hI : IntsAre vs cs)
    (e1 : m' (Str.ofString "count") = some (.ref Dc)) (e2 : m' (Str.ofString "b") = some (.int b tb)) (e3 : m' (Str.ofString "n") = some (.int n tn)) (e4 : m' (Str.ofString "nt") = some (.int nt tnt))
    (e5 : m' (Str.ofString "S") = some (.str (Str.ofString " ") 260)) (e6 : m' (Str.ofString "T") = some (.str (Str.ofString "\t") 261)) (e7 : m' (Str.ofString "self") = some (.ref self))
    (hws : wsF text = wsRun (text.cps.toList.drop (i + 1)) (cs, b, n, nt)) (hb0 : 0 ≤ b) (hb1 : b ≤ ((i + 1 : Nat) : Int)) (hn0 : 0 ≤ n) (hn1 : n ≤ ((i + 1 : Nat) : Int)) (ht0 : 0 ≤ nt) (ht1 : nt ≤ ((i + 1 : Nat) : Int)) (hlen : cs.length ≤ i + 1 + 1)
    (hne : AllNe Dc rest) (hneI : AllNe I rest) (hDI : Dc ≠ I) :
    TurnG h₀ L [(I, oI)] (WsJ text self rest (i + 1)) s₁ Q .next { s₁ with heap := h', toks := tk } := by
  refine ⟨h', tk, m', (Dc, listOf vs.toArray nn) :: rest, rfl, F, fun p hp => N p (hin p hp), ?_, Dc, nn, vs, cs, b, n, nt, tb, tn, tnt, rfl, hI, e1, e2, e3, e4, e5, e6, e7, hws, hb0, hb1, hn0, hn1, ht0, ht1, hlen, hne⟩
  have aux : ∀ {l : List (Addr × Obj)}, AllNe I l → ∀ p ∈ l, p.1 ≠ I := by
    intro l
    induction l with
    | nil => intro _ p hp; cases hp
    | cons a l ih =>
      intro h p hp
      rcases List.mem_cons.mp hp with rfl | hp
      · exact h.1
      · exact ih h.2 p hp
  intro p hp q hq
  rw [List.mem_singleton.mp hq]
  rcases List.mem_cons.mp hp with rfl | hp
  · exact hDI
  · exact aux hneI p hp
noncomputable abbrev tupO (l : List Value) : Obj := { cls := .type "tuple", data := .seq l.toArray }
noncomputable abbrev wsDict (w : World) (text : Str) (t k1 k2 k3 k4 k5 tn tnt : Tok) (D : Addr) (sim : Bool) : Obj :=
  dictOf [⟨PyData.keyHash w.params (Str.ofString "raw"), .str (Str.ofString "raw") k1, .str text t⟩, ⟨PyData.keyHash w.params (Str.ofString "n"), .str (Str.ofString "n") k2, .int (wsF text).2.2.1 tn⟩, ⟨PyData.keyHash w.params (Str.ofString "nt"), .str (Str.ofString "nt") k3, .int (wsF text).2.2.2 tnt⟩, ⟨PyData.keyHash w.params (Str.ofString "norm"), .str (Str.ofString "norm") k4, .ref D⟩, ⟨PyData.keyHash w.params (Str.ofString "is_simple"), .str (Str.ofString "is_simple") k5, .bool sim⟩] 5
noncomputable def CtW (w : World) (mean : ExcName → Option Value) (mg mb : Str → Option Value) (lv : Nat) (text : Str) (tt : Tok) : Prop :=
  ∀ (dp un : Nat) (gd : Option (List Code)) (cn : Str) (cs : Scope) (a : Addr) (ccd : Value) (cl : List (Str × Addr)) (outer : List Env) (A₀ : Around) (base h₀ : Heap) (L : Addr) (m : Str → Option Value) (s : Shared) (Q E : Value → Shared → Prop),
    Below A₀ base outer h₀ → Fr h₀ L s.heap m → (Mine.hd.heap_39 w.params).In h₀ → Top Mine.hd.view_39 (looseW Mine.hd.view_39 [Str.ofString "Whitespace"]) mean mg mb h₀ → cs.kind = .function →
    dp + lv < recursionLimit → un + 5 * lv < cLine →
    (∀ (x d D D1 : Addr) (vs : List Value) (k1 k2 k3 k4 k5 tn tnt tb : Tok) (sim : Bool) (h' : Heap) (tk' : Nat), (∀ b o, s.heap.get? b = some o → h'.get? b = some o) →
      h'.get? x = some (instObj 104 d) → h'.get? d = some (wsDict w text tt k1 k2 k3 k4 k5 tn tnt D sim) → h'.get? D = some (tupO [.ref D1, .int (wsF text).2.1 tb]) → h'.get? D1 = some (tupO vs) → IntsAre vs (wsF text).1 →
      s.heap.get? x = none → s.heap.get? d = none → s.heap.get? D = none → s.heap.get? D1 = none → Q (.ref x) { s with heap := h', toks := tk' }) →
    wpAny (model PySem.Challenge.rw_pe0226_01.row.prog w) (ktrTop dp un gd cn cs L a ccd cl outer) (call (.ref 104) [.str text tt]) Q E s
theorem news_ne {h₀ h : Heap} {L a b : Addr} {o o' : Obj} {news : List (Addr × Obj)} (N : News h₀ L h news) (ha : (a, o) ∈ news) (hb : (b, o') ∈ news) (hc : o ≠ o') : @Ne Nat a b := by
  intro e
  have h1 := (N _ ha).1
  have h2 := (N _ hb).1
  dsimp only at h1 h2
  rw [show a = b from e, h2] at h1
  exact hc (Option.some.inj h1).symm
section
open PySem.Calls
variable {prog : Program} {w : World} {A₀ A : Around} {s : Shared} {base h₀ : Heap} {outer : List Env} {L : Addr} {m : Str → Option Value} {env : Env} {K : Frag}
  {p : Program} {loose : List Str} {mean : ExcName → Option Value} {mg mb : Str → Option Value} {Q E : Value → Shared → Prop}
  {name qual : Str} {params : Arguments} {body : List Stmt} {scope : Scope} {dV kV doc pm cdv ct oc : Value} {an od : Option Addr} {osl : Array (Option Value)} {f C : Addr} {rest : List Value} {binds : Addr → List (Str × Value)}
/-- a class is called with all that stands as ground of its __init__ -/
theorem cls_defP (B : Below A₀ base outer h₀) (F : Fr h₀ L s.heap m) (X₀ : K.In h₀) (T : Top p loose mean mg mb h₀) (hA : A.frames = some (env :: outer)) (hf : env.frame = some L) (hke : env.scope.kind = .function)
    (hm : makesIn K C = true) (hi : findIn K (.ref C) "__init__" = some (some (.ref f))) (hfn : isFn K (.ref f) = true)
    (ho : K.lookup f = some ⟨oc, od, .func (fnOf name qual params body scope dV kV doc pm an cdv ct), osl⟩) (hcd : codeIn K cdv qual = true) (hroom : (A.under (.builtin "type.__call__" ⟨.ref C :: rest, []⟩)).depth < recursionLimit)
    (hbind : ∀ s' x, BindsTo s' (fnOf name qual params body scope dV kV doc pm an cdv ct) ⟨.ref x :: rest, []⟩ (binds x)) (hloc : ∀ x, ∀ y ∈ binds x, scope.names.lookup y.1 = some .local)
    (h : ∀ x dx L' h₁, Fr s.heap L' h₁ (fun y => (binds x).reverse.lookup y) → News s.heap L' h₁ [(x, instObj C dx), (dx, dictOf [] 0)] → @LT.lt Nat _ dx x → Below (A.under (.builtin "type.__call__" ⟨.ref C :: rest, []⟩)) base (env :: outer) s.heap → K.In s.heap → Top p loose mean mg mb s.heap →
      wpAny (model prog w) ((A.under (.builtin "type.__call__" ⟨.ref C :: rest, []⟩)).deeper (envOf qual scope L' f cdv)) (execs body (envOf qual scope L' f cdv))
        (fun fl s' => LeaveK h₀ L m s.heap (InitBack x fun r s' => match r with | .ok (.ret v) => Q v s' | .ok _ => False | .error e => E e s') (match fl with | .ret v => v | _ => .none) s')
        (fun e s' => wpAny (model prog w) ((A.under (.builtin "type.__call__" ⟨.ref C :: rest, []⟩)).deeper (envOf qual scope L' f cdv)) (leaving (envOf qual scope L' f cdv) e) (fun _ s'' => E e s'') (fun e' s'' => E e' s'') s')
        { s with heap := h₁, toks := s.toks + (binds x).length })
    (hco : scope.isCoroutine = false) (hgen : scope.isGenerator = false) (hk : scope.kind = .function)
    (hcell : ∀ x ∈ scope.names, x.2 ≠ .cell) : wpAny (model prog w) A (call (.ref C) rest) Q E s := by
  refine wpAny_call ?_
  obtain ⟨hh, g, d, t, os⟩ := s
  have X := X₀.keeps F.keep
  refine make_core (makes_of X hm) (looks_findIn X hi) (fun self => bind_fn X self (beq_iff_eq.mp hfn)) (.inl rfl) ?_
  have k : ∀ b o, hh.get? b = some o → ((hh.push emptyDict).push (instObj C hh.objs.size)).get? b = some o := fun b o e => Heap.get?_push_of_some _ (Heap.get?_push_of_some _ e)
  refine codeAny_call_def (fd := fnX name qual params body scope [] dV kV doc pm an cdv ct) (body := body) (binds := binds _) hroom ((X.keeps k) _ _ ho) rfl ((T.nolimit.keeps F.keep).keeps k) (codeRec_of (X.keeps k) hcd) rfl (hbind _ _) hcell (hloc _) (fun h₁ hns hk₁ => ?_) hco hgen hk
  have hsz : ((hh.push emptyDict).push (instObj C hh.objs.size)).objs.size = hh.objs.size + 2 := by rw [Heap.size_push, Heap.size_push]
  have hx : ((hh.push emptyDict).push (instObj C hh.objs.size)).get? (hh.objs.size + 1) = some (instObj C hh.objs.size) := by heap_get
  have hd : ((hh.push emptyDict).push (instObj C hh.objs.size)).get? hh.objs.size = some emptyDict := by heap_get
  have out : ∀ n, hh.objs.size ≤ n → hh.get? n = none := by
    intro n hn
    cases q : hh.get? n with
    | none => rfl
    | some o => exact absurd (Heap.lt_size q) (Nat.not_lt.mpr hn)
  refine wpAny_mono (h (hh.objs.size + 1) hh.objs.size ((hh.push emptyDict).push (instObj C hh.objs.size)).objs.size h₁ ⟨hns, fun b o e => hk₁ b o (k b o e), by rw [hsz]; exact Nat.le_add_right _ _⟩ ?_ (Nat.lt_succ_self _) (below_here (A := A.under _) B F hA hf hke) X (T.keeps F.keep)) (fun fl s' hl => ?_) fun _ _ y => ?_
  · intro q hq
    rcases List.mem_cons.mp hq with rfl | hq
    · exact ⟨hk₁ _ _ hx, by rw [hsz]; exact Nat.ne_of_lt (Nat.lt_succ_self _), out _ (Nat.le_succ _)⟩
    · rw [List.mem_singleton.mp hq]
      exact ⟨hk₁ _ _ hd, by rw [hsz]; exact Nat.ne_of_lt (Nat.lt_add_of_pos_right (by decide)), out _ (Nat.le_refl _)⟩
  · exact leave_here (s := ⟨hh, g, d, t, os⟩) F hl
  · exact y
end
theorem ws_end {w : World} {text : Str} {tt : Tok} {s : Shared} {Q : Value → Shared → Prop} {L x d D D1 : Addr} {h' : Heap} {m : Str → Option Value} {nw : List (Addr × Obj)} {cs : List Int} {b n nt : Int} {vs : List Value} {k1 k2 k3 k4 k5 tn tnt tb : Tok} {sim : Bool} {tk' : Nat}
    (hret : ∀ (x d D D1 : Addr) (vs : List Value) (k1 k2 k3 k4 k5 tn tnt tb : Tok) (sim : Bool) (h' : Heap) (tk' : Nat), (∀ b o, s.heap.get? b = some o → h'.get? b = some o) →
      h'.get? x = some (instObj 104 d) → h'.get? d = some (wsDict w text tt k1 k2 k3 k4 k5 tn tnt D sim) → h'.get? D = some (tupO [.ref D1, .int (wsF text).2.1 tb]) → h'.get? D1 = some (tupO vs) → IntsAre vs (wsF text).1 →
      s.heap.get? x = none → s.heap.get? d = none → s.heap.get? D = none → s.heap.get? D1 = none → Q (.ref x) { s with heap := h', toks := tk' })
    (F : Fr s.heap L h' m) (N : News s.heap L h' nw) (hfin : wsF text = (cs, b, n, nt)) (hI : IntsAre vs cs) (h1 : (x, instObj 104 d) ∈ nw)
    (h2 : (d, dictOf [⟨PyData.keyHash w.params (Str.ofString "raw"), .str (Str.ofString "raw") k1, .str text tt⟩, ⟨PyData.keyHash w.params (Str.ofString "n"), .str (Str.ofString "n") k2, .int n tn⟩, ⟨PyData.keyHash w.params (Str.ofString "nt"), .str (Str.ofString "nt") k3, .int nt tnt⟩, ⟨PyData.keyHash w.params (Str.ofString "norm"), .str (Str.ofString "norm") k4, .ref D⟩, ⟨PyData.keyHash w.params (Str.ofString "is_simple"), .str (Str.ofString "is_simple") k5, .bool sim⟩] 5) ∈ nw)
    (h3 : (D, tupO [.ref D1, .int b tb]) ∈ nw) (h4 : (D1, tupO vs) ∈ nw) : Q (.ref x) { s with heap := h', toks := tk' } := by
  refine hret x d D D1 vs k1 k2 k3 k4 k5 tn tnt tb sim h' tk' F.keep (N _ h1).1 ?_ ?_ (N _ h4).1 ?_ (N _ h1).2.2 (N _ h2).2.2 (N _ h3).2.2 (N _ h4).2.2
  · unfold wsDict; rw [hfin]; exact (N _ h2).1
  · rw [hfin]; exact (N _ h3).1
  · rw [hfin]; exact hI
theorem nil_at {h₀ h : Heap} {L : Addr} {m : Str → Option Value} (F : Fr h₀ L h m) : News h₀ L h [] := News.nil
theorem ws_ct (w : World) (mean : ExcName → Option Value) (mg mb : Str → Option Value) (text : Str) (tt : Tok) (hl : text.length ≤ 60) : CtW w mean mg mb 20 text tt := by
  k_with_none
  w_top off
  unfold CtW; k_fill
  intros
  rename_i B0 F0 X0 T0 hk0 hd0 hu0 hret
  k_dflt (refine' cls_defP ?k1 ?k2 ?k3 ?k5 ?kA ?kF ?kK ?m1 ?m2 ?m3 ?k6 ?k7 ?k8 ?k9 ?kB ?_ ?c2 ?c3 ?c4 ?c5; (case kA => exact rfl); (case kF => exact rfl); (case kK => assumption); (case k1 => k_asm); (case k2 => k_asm); (case k3 => k_asm); (case k5 => k_asm); (case m1 => k_is); (case m2 => k_is); (case m3 => k_is); (case k6 => k_is); (case k7 => k_is); (case k8 => k_room); (case k9 => exact fun _ _ => BindsTo.of_eq rfl); (case c5 => decide); (case kB => exact fun _ => locs rfl); (case c2 => exact rfl); (case c3 => exact rfl); (case c4 => exact rfl); k_whole; intro x' d' L' h' F' N' l2 B' X' T'; (try dsimp only); (try k_fold))
  w_strict k_steps
  unfold Hold
  refine ws_loop rfl (by assumption) (by assumption) rfl rfl rfl rfl rfl rfl rfl ?hne ?turn ?done
  case hne => simp only [AllNe]; refine ⟨?_, ?_, trivial⟩ <;> omega
  case turn =>
    rintro i c u m₁ news₁ h tk I oI hc ⟨Dc, nn, vs, cs, b, n, nt, tb, tn, tnt, rfl, hI, f1, f2, f3, f4, f5, f6, f7, hws, hb0, hb1, hn0, hn1, ht0, ht1, hlen, hne⟩ hneI F1 N1
    have hci : i < 60 := by
      have hlt : i < text.cps.size := by
        rcases Nat.lt_or_ge i text.cps.size with h | h
        · exact h
        · rw [Array.getElem?_eq_none h] at hc; cases hc
      have e : text.cps.size = text.length := rfl
      omega
    have F2 := fr_known [(Str.ofString "count", .ref Dc), (Str.ofString "b", .int b tb), (Str.ofString "n", .int n tn), (Str.ofString "nt", .int nt tnt), (Str.ofString "S", .str (Str.ofString " ") 260), (Str.ofString "T", .str (Str.ofString "\t") 261), (Str.ofString "self", .ref _)] (by
      intro pp hpp
      simp only [List.mem_cons, List.not_mem_nil, or_false] at hpp
      rcases hpp with rfl | rfl | rfl | rfl | rfl | rfl | rfl <;> (dsimp only; rw [if_neg (by decide)]; assumption)) F1
    dsimp only [kstB] at F2
    clear F1
    replace hneI := allNe_of hneI
    simp only [AllNe] at hne hneI
    dsimp only [List.cons_append, List.nil_append] at N1
    have hvl := hI.length
    w_strict k_steps
    · refine' ws_turn_end (nn := ?nn0) (by assumption) (by assumption) ?m0 hI rfl rfl rfl rfl rfl rfl rfl (ws_s hc hws (by assumption)) (by omega) (by omega) (by omega) (by omega) (by omega) (by omega) (by omega) ?x10 ?x20 ?x30
      case m0 => (dsimp only [List.cons_append, List.nil_append]; repeat (first | exact List.forall_mem_nil _ | refine List.forall_mem_cons.mpr ⟨by k_mem, ?_⟩))
      case x10 => simp only [AllNe]; refine ⟨?_, ?_, trivial⟩ <;> omega
      case x20 => simp only [AllNe]; refine ⟨?_, ?_, trivial⟩ <;> omega
      case x30 => (show @Ne Nat _ _; omega)
    · refine' ws_turn_end (nn := ?nn1) (by assumption) (by assumption) ?m1 (by assumption) rfl rfl rfl rfl rfl rfl rfl (by have := ws_t hc hws (by assumption) (by assumption); unfold bumpF at this; rw [if_pos (by assumption)] at this; exact this) (by omega) (by omega) (by omega) (by omega) (by omega) (by omega) (by have := bump_len hb0 hb1 hlen; unfold bumpF at this; rw [if_pos (by assumption)] at this; exact this) ?x11 ?x21 ?x31
      case m1 => (dsimp only [List.cons_append, List.nil_append]; repeat (first | exact List.forall_mem_nil _ | refine List.forall_mem_cons.mpr ⟨by k_mem, ?_⟩))
      case x11 => simp only [AllNe]; refine ⟨?_, ?_, trivial⟩ <;> omega
      case x21 => simp only [AllNe]; refine ⟨?_, ?_, trivial⟩ <;> omega
      case x31 => (show @Ne Nat _ _; omega)
    · refine' ws_turn_end (nn := ?nn2) (by assumption) (by assumption) ?m2 (by assumption) rfl rfl rfl rfl rfl rfl rfl (by have := ws_t hc hws (by assumption) (by assumption); unfold bumpF at this; rw [if_neg (by assumption)] at this; exact this) (by omega) (by omega) (by omega) (by omega) (by omega) (by omega) (by have := bump_len hb0 hb1 hlen; unfold bumpF at this; rw [if_neg (by assumption)] at this; exact this) ?x12 ?x22 ?x32
      case m2 => (dsimp only [List.cons_append, List.nil_append]; repeat (first | exact List.forall_mem_nil _ | refine List.forall_mem_cons.mpr ⟨by k_mem, ?_⟩))
      case x12 => simp only [AllNe]; refine ⟨?_, ?_, trivial⟩ <;> omega
      case x22 => simp only [AllNe]; refine ⟨?_, ?_, trivial⟩ <;> omega
      case x32 => (show @Ne Nat _ _; omega)
    · have hfin := ws_o hc hws (by assumption) (by assumption)
      dsimp only [TurnG]
      w_strict k_steps
      rename_i Nx lx
      have hdd := news_ne Nx (by k_mem : (_, tupO vs) ∈ _) (by k_mem : (_, dictOf _ _) ∈ _) (fun e => by injection e with e1; injection e1 with e2; exact absurd e2 (by decide))
      w_strict k_steps
      exact ws_end hret (by assumption) (by assumption) hfin hI (by k_mem) (by k_mem) (by k_mem) (by k_mem)
  case done =>
    rintro m₁ news₁ h tk ⟨Dc, nn, vs, cs, b, n, nt, tb, tn, tnt, rfl, hI, f1, f2, f3, f4, f5, f6, f7, hws, hb0, hb1, hn0, hn1, ht0, ht1, hlen, hne⟩ F1 N1
    have hfin : wsF text = (cs, b, n, nt) := by
      rw [hws, List.drop_eq_nil_of_le (by simp)]
      rfl
    have hci : text.cps.size ≤ 60 := hl
    have F2 := fr_known [(Str.ofString "count", .ref Dc), (Str.ofString "b", .int b tb), (Str.ofString "n", .int n tn), (Str.ofString "nt", .int nt tnt), (Str.ofString "S", .str (Str.ofString " ") 260), (Str.ofString "T", .str (Str.ofString "\t") 261), (Str.ofString "self", .ref _)] (by
      intro pp hpp
      simp only [List.mem_cons, List.not_mem_nil, or_false] at hpp
      rcases hpp with rfl | rfl | rfl | rfl | rfl | rfl | rfl <;> assumption) F1
    dsimp only [kstB] at F2
    clear F1
    simp only [AllNe] at hne
    have hvl := hI.length
    dsimp only
    w_strict k_steps
    rename_i Nx lx
    have hdd := news_ne Nx (by k_mem : (_, tupO vs) ∈ _) (by k_mem : (_, dictOf _ _) ∈ _) (fun e => by injection e with e1; injection e1 with e2; exact absurd e2 (by decide))
    w_strict k_steps
    exact ws_end hret (by assumption) (by assumption) hfin hI (by k_mem) (by k_mem) (by k_mem) (by k_mem)
end Mine
end

section
open PySem PySem.W PyProof.Rows PyProof.V PySem.Spec
set_option maxRecDepth 100000
set_option maxHeartbeats 8000000
set_option linter.unusedVariables false
namespace Mine
local macro_rules | `(tactic| walk_at "pad 0") => `(tactic| fail)
local macro_rules | `(tactic| walk_at "pad 1") => `(tactic| fail)
local macro_rules | `(tactic| walk_at "call ref") => `(tactic| (k_here; (fail_if_success (with_reducible show wpAny _ _ (call (Value.ref 80) _) _ _ _)); refine Hold.out ?_))
local macro_rules | `(tactic| walk_at "compareOp Eq ref ref") => `(tactic| (k_here; refine Hold.out ?_))
local macro_rules | `(tactic| walk_at "compareOp NotEq ref ref") => `(tactic| (k_here; refine Hold.out ?_))
local macro_rules | `(tactic| walk_at "exec If") => `(tactic| k_extra "cutif")
local macro_rules | `(tactic| walk_at "call type:tuple") => `(tactic| (k_here; refine Hold.out ?_))
local macro_rules | `(tactic| walk_at "newList") => `(tactic| (k_here; k_dflt (refine' newList_K ?k1 ?k2 ?_ ?k3); (case k1 => k_asm); (case k2 => k_asm); (case k3 => (simp only [List.length_cons, List.length_nil]; decide)); k_whole; intro l' h' F' N' l1; (try k_lt l1); (try k_sweep)))
local macro_rules | `(tactic| walk_at "binaryOp Mult ref int") => `(tactic| (k_here; k_dflt (refine' KM.mul ?b1 ?b2 ?b3 ?b4 ?b6 ?b7 ?b5 ?_); (case b1 => k_asm); (case b2 => k_asm); (case b3 => is_list); (case b4 => l_ints); (case b6 => omega); (case b7 => omega); (case b5 => (simp only [List.length_cons, List.length_nil]; omega)); k_whole; intro D' h' F' N' l1 i1 n1 s1 e1 e2 e3; (try k_lt l1); (try simp only [List.length_cons, List.length_nil] at e3)))
section
variable {w : World} {mean : ExcName → Option Value} {mg mb : Str → Option Value} {lv : Nat} {text : Str} {tt : Tok}
    {news : List (Addr × Obj)} {dp un : Nat} {gd : Option (List Code)} {cn : Str} {cs : Scope} {ad : Addr} {ccd : Value} {cl : List (Str × Addr)} {outer : List Env} {A₀ : Around} {base h₀ : Heap} {L : Addr} {m : Str → Option Value} {s : Shared} {Q E : Value → Shared → Prop}
theorem CtW.use (C : CtW w mean mg mb lv text tt)
    (B : Below A₀ base outer h₀) (F : Fr h₀ L s.heap m) (X : (Mine.hd.heap_39 w.params).In h₀) (N : News h₀ L s.heap news) (T : Top Mine.hd.view_39 (looseW Mine.hd.view_39 [Str.ofString "Whitespace"]) mean mg mb h₀) (hk : cs.kind = .function)
    (hd : dp + lv < recursionLimit) (hu : un + 5 * lv < cLine)
    (ret : ∀ (x d D D1 : Addr) (vs : List Value) (k1 k2 k3 k4 k5 tn tnt tb : Tok) (sim : Bool) (h' : Heap) (tk' : Nat), Fr h₀ L h' m →
      News h₀ L h' ((x, instObj 104 d) :: (d, wsDict w text tt k1 k2 k3 k4 k5 tn tnt D sim) :: (D, tupO [.ref D1, .int (wsF text).2.1 tb]) :: (D1, tupO vs) :: news) → IntsAre vs (wsF text).1 → AllNe x news → AllNe d news → AllNe D news → AllNe D1 news → (∀ b o, s.heap.get? b = some o → h'.get? b = some o) → Q (.ref x) { s with heap := h', toks := tk' }) :
    wpAny (model PySem.Challenge.rw_pe0226_01.row.prog w) (ktrTop dp un gd cn cs L ad ccd cl outer) (call (.ref 104) [.str text tt]) Q E s := by
  refine C _ _ _ _ _ _ _ _ _ _ _ _ _ _ _ _ _ B F X T hk hd hu fun x d D D1 vs k1 k2 k3 k4 k5 tn tnt tb sim h' tk' kp g1 g2 g3 g4 hI n1 n2 n3 n4 => ?_
  have one : ∀ (a : Addr), s.heap.get? a = none → a ≠ L ∧ h₀.get? a = none := by
    intro a hn
    refine ⟨fun e => ?_, ?_⟩
    · obtain ⟨oL, _, _, hL, _⟩ := F.ns
      rw [e, hL] at hn; cases hn
    · cases q : h₀.get? a with
      | none => rfl
      | some o' => rw [F.keep _ _ q] at hn; cases hn
  have far : ∀ (a : Addr), s.heap.get? a = none → AllNe a news := fun a hn => allNe_of fun p hp e => by
    rw [← e, (N p hp).1] at hn; cases hn
  refine ret x d D D1 vs k1 k2 k3 k4 k5 tn tnt tb sim h' tk' (F.keeps kp) ?_ hI (far _ n1) (far _ n2) (far _ n3) (far _ n4) kp
  intro p hp
  rcases List.mem_cons.mp hp with rfl | hp
  · exact ⟨g1, (one _ n1).1, (one _ n1).2⟩
  rcases List.mem_cons.mp hp with rfl | hp
  · exact ⟨g2, (one _ n2).1, (one _ n2).2⟩
  rcases List.mem_cons.mp hp with rfl | hp
  · exact ⟨g3, (one _ n3).1, (one _ n3).2⟩
  rcases List.mem_cons.mp hp with rfl | hp
  · exact ⟨g4, (one _ n4).1, (one _ n4).2⟩
  exact (N.grown kp) p hp
end
section
variable {prog : Program} {w : World} {A : Around} {E : Value → Shared → Prop} {s : Shared} {Q : Value → Shared → Prop} {h₀ : Heap} {L : Addr} {news : List (Addr × Obj)} {a a' D D' D1 D1' D2 D2' : Addr} {n nt wh pt b b' : Int} {tn tnt tb tn' tnt' tb' : Tok} {vs vs' : List Value} {cs cs' : List Int}
theorem reads_ints {h : Heap} : ∀ {vs : List Value} {cs : List Int}, IntsAre vs cs → ∃ as, ReadsAll h vs (cs.map PyData.int) as
  | _, _, .nil => ⟨_, .nil⟩
  | _, _, .cons _ t r => let ⟨_, e⟩ := reads_ints r; ⟨_, .cons (.int _ t) e⟩
noncomputable abbrev normD (cs : List Int) (b : Int) : PyData := .tuple [.tuple (cs.map PyData.int), .int b]
theorem reads_norm (N : News h₀ L s.heap news) (hD1 : (D1, tupO [.ref D2, .int b tb]) ∈ news) (hD2 : (D2, tupO vs) ∈ news) (hI : IntsAre vs cs) : ∃ as, Reads s.heap (.ref D1) (normD cs b) as := by
  obtain ⟨as, ha⟩ := reads_ints (h := s.heap) hI
  exact ⟨_, reads_tuple_at (N.get hD1) rfl rfl (.cons (reads_tuple_at (N.get hD2) rfl rfl ha) (.cons (.int _ _) .nil))⟩
theorem shaped_norm : SeqAt.shaped (normD cs b) = true := by
  simp [normD, SeqAt.shaped, PyData.canLay0, PyData.canLayAll0, PyData.depth, PyData.depthAll, ke_canLayAll0, ke_depthAll]
theorem shaped_norm3 : SeqAt.shaped (.tuple [.int n, .int nt, normD cs b]) = true := by
  simp [normD, SeqAt.shaped, PyData.canLay0, PyData.canLayAll0, PyData.depth, PyData.depthAll, ke_canLayAll0, ke_depthAll]
theorem eqv_norm : (normD cs b).eqv (normD cs' b') = decide (cs = cs' ∧ b = b') := by
  simp only [normD, PyData.eqv, PyData.eqvAll, ked_eqvAll, Bool.and_true]
  by_cases h : cs = cs' <;> by_cases h' : b = b' <;> simp [h, h']
theorem ne_stage (N : News h₀ L s.heap news) (ha : (a, tupO [.int n tn, .int nt tnt, .ref D1]) ∈ news) (hD1 : (D1, tupO [.ref D2, .int b tb]) ∈ news) (hD2 : (D2, tupO vs) ∈ news) (hI : IntsAre vs cs)
    (ha' : (a', tupO [.int wh tn', .int pt tnt', .ref D1']) ∈ news) (hD1' : (D1', tupO [.ref D2', .int b' tb']) ∈ news) (hD2' : (D2', tupO vs') ∈ news) (hI' : IntsAre vs' cs') (hu : A.units + 64 < cLine)
    (h : Q (.bool (!decide (n = wh ∧ nt = pt ∧ cs = cs' ∧ b = b'))) s) : wpAny (model prog w) A (compareOp .NotEq (.ref a) (.ref a')) Q E s := by
  obtain ⟨as, r1⟩ := reads_norm N hD1 hD2 hI
  obtain ⟨bs, r2⟩ := reads_norm N hD1' hD2' hI'
  refine ne_dataH (reads_tuple_at (N.get ha) rfl rfl (.cons (.int _ _) (.cons (.int _ _) (.cons r1 .nil)))) (reads_tuple_at (N.get ha') rfl rfl (.cons (.int _ _) (.cons (.int _ _) (.cons r2 .nil)))) shaped_norm3 shaped_norm3 hu ?_
  have e : (PyData.tuple [.int n, .int nt, normD cs b]).eqv (.tuple [.int wh, .int pt, normD cs' b']) = decide (n = wh ∧ nt = pt ∧ cs = cs' ∧ b = b') := by
    rw [PyData.eqv, PyData.eqvAll, PyData.eqvAll, PyData.eqvAll, eqv_norm]
    simp only [PyData.eqv, PyData.eqvAll, Bool.and_true]
    by_cases h1 : n = wh <;> by_cases h2 : nt = pt <;> by_cases h : cs = cs' <;> by_cases h' : b = b' <;> simp [h1, h2, h, h']
  rw [e]; exact h
theorem eq_stage (N : News h₀ L s.heap news) (hD1 : (D1, tupO [.ref D2, .int b tb]) ∈ news) (hD2 : (D2, tupO vs) ∈ news) (hI : IntsAre vs cs)
    (hD1' : (D1', tupO [.ref D2', .int b' tb']) ∈ news) (hD2' : (D2', tupO vs') ∈ news) (hI' : IntsAre vs' cs') (hu : A.units + 64 < cLine)
    (h : Q (.bool (decide (cs = cs' ∧ b = b'))) s) : wpAny (model prog w) A (compareOp .Eq (.ref D1) (.ref D1')) Q E s := by
  obtain ⟨as, r1⟩ := reads_norm N hD1 hD2 hI
  obtain ⟨bs, r2⟩ := reads_norm N hD1' hD2' hI'
  refine eq_dataH r1 r2 shaped_norm shaped_norm hu ?_
  rw [eqv_norm]; exact h
theorem ints_snoc {v : Int} {t : Tok} : ∀ {vs : List Value} {cs : List Int}, IntsAre vs cs → IntsAre (vs ++ [.int v t]) (cs ++ [v])
  | _, _, .nil => .cons _ _ .nil
  | _, _, .cons _ _ r => .cons _ _ (ints_snoc r)
theorem push_toA {α : Type} {vs : List α} {v : α} : vs.toArray.push v = (vs ++ [v]).toArray := by simp
end
theorem div_facts {a b : Int} (h0 : 1 ≤ b) (h1 : b ≤ a) (h2 : a ≤ 100) : (1 ≤ a.fdiv b ∧ a.fdiv b ≤ 100) ∧ (0 ≤ a.fmod b ∧ a.fmod b < b) := by
  rw [Int.fdiv_eq_ediv_of_nonneg _ (by omega), Int.fmod_eq_emod_of_nonneg _ (by omega)]
  refine ⟨⟨?_, ?_⟩, Int.emod_nonneg _ (by omega), Int.emod_lt_of_pos _ (by omega)⟩
  · exact Int.le_ediv_of_mul_le (by omega) (by omega)
  · exact Int.le_trans (Int.ediv_le_self _ (by omega)) h2
noncomputable def backF (ring : Str) : Str := Txt.sliceBy ring none none (-1, 0)
section
variable {prog : Program} {w : World} {A : Around} {E : Value → Shared → Prop} {s : Shared} {value slice : Expr} {x : Str} {t : Tok} {h₀ : Heap} {L : Addr} {m : Str → Option Value} {news : List (Addr × Obj)} {Q : Value → Shared → Prop} {uk : Tok}
theorem slice_back (hF : Fr h₀ L s.heap m) (hN : News h₀ L s.heap news) (h : ∀ h' t' c, Fr h₀ L h' m → News h₀ L h' news → Q (.str (backF x) t') { s with heap := h', toks := c })
    (hs : subscripted slice false (.str x t) (.ref s.heap.objs.size) = operate [.ref s.heap.objs.size, .str x t] (getItem (.str x t) (.ref s.heap.objs.size)) := by with_unfolding_all rfl)
    (ht : ∀ r, letTemporaryGo value (.str x t) r = pure () := by intro _; with_unfolding_all rfl) (hsz : x.length ≤ sizeLine := by size_fits) :
    wpAny (model prog w) A (subscriptTail value slice (.str x t) (.ref s.heap.objs.size)) Q E { s with heap := s.heap.push { cls := .type "slice", data := .fields #[.none, .none, .int (-1) uk] } } :=
  slice_strK_nn hF hN (by decide) (fun h' t' c F' N' => h h' t' c F' N') hs ht hsz
end
local macro_rules | `(tactic| walk_at "subscriptTail Name Slice str ref") => `(tactic| ((with_reducible show wpAny _ _ (subscriptTail _ (Expr.Slice none none (some _) _) _ _) _ _ _); (with_reducible rename Fr _ _ _ _ => F'); (with_reducible rename News _ _ _ _ => N'); (refine slice_back (hsz := ?hsz) (s := ⟨_, _, _, _, _⟩) F' N' ?_); (case hsz => size_fits); intro _ _ _ _ _))
noncomputable def runsF (whole part : Int) : List Int := (List.replicate (whole.fdiv part - 1).toNat [(0 : Int)]).flatten ++ [part - whole.fmod part] ++ (if 0 < whole.fmod part then [whole.fmod part] else [])
noncomputable def stageF (ring : Str) (whole part : Int) : Bool :=
  decide ((wsF (ring ++ Str.ofString "x ")).2.2.1 = whole ∧ (wsF (ring ++ Str.ofString "x ")).2.2.2 = part ∧ (wsF (ring ++ Str.ofString "x ")).1 = runsF whole part ∧ (wsF (ring ++ Str.ofString "x ")).2.1 = 0) &&
  (inRing ring (backF ring) && decide ((wsF (ring ++ Str.ofString "x ")).1 = (wsF (cutF (backF ring))).1 ∧ (wsF (ring ++ Str.ofString "x ")).2.1 = (wsF (cutF (backF ring))).2.1))
theorem runs_pos {whole part : Int} {vs : List Value} (h : 0 < whole.fmod part) (hI : IntsAre vs ((List.replicate (whole.fdiv part - 1).toNat [(0 : Int)]).flatten ++ [part - whole.fmod part] ++ [whole.fmod part])) : IntsAre vs (runsF whole part) := by
  unfold runsF; rw [if_pos h]; exact hI
theorem runs_neg {whole part : Int} {vs : List Value} (h : ¬ 0 < whole.fmod part) (hI : IntsAre vs ((List.replicate (whole.fdiv part - 1).toNat [(0 : Int)]).flatten ++ [part - whole.fmod part])) : IntsAre vs (runsF whole part) := by
  unfold runsF; rw [if_neg h, List.append_nil]; exact hI
theorem st_no1 {ring : Str} {whole part : Int} (h : ¬ ((wsF (ring ++ Str.ofString "x ")).2.2.1 = whole ∧ (wsF (ring ++ Str.ofString "x ")).2.2.2 = part ∧ (wsF (ring ++ Str.ofString "x ")).1 = runsF whole part ∧ (wsF (ring ++ Str.ofString "x ")).2.1 = 0)) : false = stageF ring whole part := by
  unfold stageF; rw [decide_eq_false h]; rfl
theorem st_no2 {ring : Str} {whole part : Int} (h : (decide (0 ≤ find4 (ring ++ ring) (backF ring) 0 ((ring ++ ring).length : Int)) != true) = true) : false = stageF ring whole part := by
  unfold stageF inRing
  rw [show decide (0 ≤ find4 (ring ++ ring) (backF ring) 0 ((ring ++ ring).length : Int)) = false by simpa using h]
  simp
theorem st_yes {ring : Str} {whole part : Int} {b : Bool} (h : (wsF (ring ++ Str.ofString "x ")).2.2.1 = whole ∧ (wsF (ring ++ Str.ofString "x ")).2.2.2 = part ∧ (wsF (ring ++ Str.ofString "x ")).1 = runsF whole part ∧ (wsF (ring ++ Str.ofString "x ")).2.1 = 0)
    (h2 : (decide (0 ≤ find4 (ring ++ ring) (backF ring) 0 ((ring ++ ring).length : Int)) != true) = false) (e : b = decide ((wsF (ring ++ Str.ofString "x ")).1 = (wsF (cutF (backF ring))).1 ∧ (wsF (ring ++ Str.ofString "x ")).2.1 = (wsF (cutF (backF ring))).2.1)) : b = stageF ring whole part := by
  unfold stageF inRing
  rw [show decide (0 ≤ find4 (ring ++ ring) (backF ring) 0 ((ring ++ ring).length : Int)) = true by simpa using h2, decide_eq_true h, e]
  rfl
theorem runs_len {whole part : Int} {vs : List Value} (h0 : 1 ≤ part) (h1 : part ≤ whole) (h2 : whole ≤ 100) (hI : IntsAre vs (runsF whole part)) : vs.length ≤ 200 := by
  rw [hI.length]
  have hd := (div_facts h0 h1 h2).1
  have e : (List.replicate (whole.fdiv part - 1).toNat [(0 : Int)]).flatten.length = (whole.fdiv part - 1).toNat := by simp
  unfold runsF
  rw [List.length_append, List.length_append, e]
  split <;> simp only [List.length_cons, List.length_nil] <;> omega
noncomputable def IfPost (h₀ : Heap) (L : Addr) (m : Str → Option Value) (D : Addr) (rest : List (Addr × Obj)) (cs : List Int) (s : Shared) (f : Flow) (s₂ : Shared) : Prop :=
  f = .next ∧ ∃ (h' : Heap) (tk n : Nat) (zs : List Value), s₂ = { s with heap := h', toks := tk } ∧ Fr h₀ L h' m ∧ News h₀ L h' ((D, listOf zs.toArray n) :: rest) ∧ IntsAre zs cs
theorem if_cut {prog : Program} {w : World} {A : Around} {E : Value → Shared → Prop} {Q : Flow → Shared → Prop} {s : Shared} {h₀ : Heap} {L D : Addr} {m : Str → Option Value} {rest : List (Addr × Obj)} {cs : List Int} {ws : List Value} {n : Nat} {t : Sem Flow}
    (F : Fr h₀ L s.heap m) (N : News h₀ L s.heap ((D, listOf ws.toArray n) :: rest)) (one : wpAny (model prog w) A t (IfPost h₀ L m D rest cs s) E s)
    (k : ∀ (h' : Heap) (tk n : Nat) (zs : List Value), Fr h₀ L h' m → News h₀ L h' ((D, listOf zs.toArray n) :: rest) → IntsAre zs cs → Q .next { s with heap := h', toks := tk }) : wpAny (model prog w) A t Q E s := by
  refine wpAny_mono one ?_ fun _ _ x => x
  rintro f s₂ ⟨rfl, h', tk, n, zs, rfl, F', N', I⟩
  exact k h' tk n zs F' N' I
theorem stage_ct (w : World) (mean : ExcName → Option Value) (mg mb : Str → Option Value) (ring : Str) (whole part : Int) (t1 t2 t3 : Tok) (hl : ring.length ≤ 50) (hq0 : 1 ≤ part) (hq1 : part ≤ whole) (hp0 : whole ≤ 100) (hb : (backF ring).length ≤ 50) (hwo : wantOk (backF ring) = true) (hcb : (cutF (backF ring)).length ≤ 60) :
    Ct w mean mg mb 40 134 [.str ring t1, .int whole t2, .int part t3] (fun t => .bool (stageF ring whole part)) := by
  k_with_none
  w_top off
  unfold Ct; k_fill
  intros
  rename_i hret
  refine wpAny_call ?_
  w_strict ((k_dflt (refine' code_defP ?k1 ?k2 ?k3 ?k5 ?kA ?kF ?kK ?k6 ?k7 ?k8 ?k9 ?kB ?_ ?c2 ?c3 ?c4 ?c5; (case kA => exact rfl); (case kF => exact rfl); (case kK => assumption); (case k1 => k_asm); (case k2 => k_asm); (case k3 => k_asm); (case k5 => k_asm); (case k6 => k_is); (case k7 => k_is); (case k8 => k_room); (case k9 => exact BindsTo.of_eq rfl); (case c5 => decide); (case kB => exact locs rfl); (case c2 => exact rfl); (case c3 => exact rfl); (case c4 => exact rfl); k_whole; intro L' h' F' N' B' X' T'; (try dsimp only); (try k_fold))); k_steps)
  unfold Hold
  have hdf := div_facts hq0 hq1 hp0
  have hx2 : (Str.ofString "x ").length = 2 := by decide
  k_dflt (refine' CtW.use (ws_ct _ _ _ _ _ _ ?kl) ?k1 ?k2 ?k3 ?k4 ?k5 ?k6 ?k7 ?k8 ?_)
  case kl => omega
  case k1 => k_asm
  case k2 => k_asm
  case k3 => k_asm
  case k4 => k_asm
  case k5 => k_asm
  case k6 => rfl
  case k7 => k_room
  case k8 => k_units
  intro x1 d1 D1 D2 vs1 k1 k2 k3 k4 k5 tn1 tnt1 tb1 sim1 h1 tk1 F1 N1 hI1 a1 a2 a3 a4 kp1
  dsimp only [wsDict, tupO] at N1
  (k_with "cutif" => (k_here; refine Hold.out ?_))
  w_strict k_steps
  k_with_none
  w_top off
  unfold Hold
  k_dflt (refine' if_cut (cs := runsF whole part) ?f1 ?f2 ?one ?rest)
  case f1 => k_asm
  case f2 => k_asm
  case one =>
    w_strict k_steps
    · rename IntsAre _ (_ ++ [part - whole.fmod part]) => hW
      rename 0 < whole.fmod part => hpos
      rename News _ _ _ _ => Nq
      rw [push_toA] at Nq
      exact ⟨rfl, _, _, _, _, rfl, by assumption, Nq, runs_pos hpos (ints_snoc hW)⟩
    · rename IntsAre _ (_ ++ [part - whole.fmod part]) => hW
      rename ¬ 0 < whole.fmod part => hpos
      exact ⟨rfl, _, _, _, _, rfl, by assumption, by assumption, runs_neg hpos hW⟩
  intro hx tx nx zs Fx Nx hR
  have hwl := runs_len hq0 hq1 hp0 hR
  dsimp only
  w_strict k_steps
  · unfold Hold
    k_dflt (refine' kde_tupleOf ?k1 ?k2 ?k3 ?k4 ?k5 ?_)
    case k1 => k_asm
    case k2 => k_asm
    case k3 => exact News.isList (by k_asm) (by k_mem)
    case k4 => simp only [List.size_toArray]; omega
    case k5 => exact rfl
    intro Dt ht Ft Nt lt
    (try k_lt lt)
    w_strict k_steps
    unfold Hold
    refine ne_stage (by assumption) (by k_mem) (by k_mem) (by k_mem) hI1 (by k_mem) (by k_mem) (by k_mem) hR (by k_units) ?_
    w_strict k_steps
    · unfold Hold
      k_dflt (refine' Ct.use (ell_ct _ _ _ _ (wantF (backF ring)) (ring ++ ring) (backF ring) _ _ ?hw ?hg (wantOk_split hwo) (wantOk_occ hwo) (by omega)) ?k1 ?k2 ?k3 ?k4 ?k5 ?k6 ?k7 ?k8 ?_)
      case hw =>
        unfold wantF
        rw [Str.length_append, Str.length_append, show (Str.ofString "...").length = 3 from by decide +kernel]
        omega
      case hg =>
        rw [Str.length_append]
        omega
      case k1 => k_asm
      case k2 => k_asm
      case k3 => k_asm
      case k4 => k_asm
      case k5 => k_asm
      case k6 => rfl
      case k7 => k_room
      case k8 => k_units
      intro u2 h8 tk8 F9 N9 kp9
      w_strict k_steps
      · exact end_b hret (st_no2 (by assumption)) (by assumption)
      · unfold Hold
        k_dflt (refine' Ct.use (cut_ct _ _ _ _ (backF ring) _ ?hw) ?k1 ?k2 ?k3 ?k4 ?k5 ?k6 ?k7 ?k8 ?_)
        case hw => omega
        case k1 => k_asm
        case k2 => k_asm
        case k3 => k_asm
        case k4 => k_asm
        case k5 => k_asm
        case k6 => rfl
        case k7 => k_room
        case k8 => k_units
        intro u3 h10 tk10 F10 N10 kp10
        w_strict k_steps
        unfold Hold
        k_dflt (refine' CtW.use (ws_ct _ _ _ _ _ _ ?kl) ?k1 ?k2 ?k3 ?k4 ?k5 ?k6 ?k7 ?k8 ?_)
        case kl => exact hcb
        case k1 => k_asm
        case k2 => k_asm
        case k3 => k_asm
        case k4 => k_asm
        case k5 => k_asm
        case k6 => rfl
        case k7 => k_room
        case k8 => k_units
        intro x2 d2 D3 D4 vs2 j1 j2 j3 j4 j5 tn2 tnt2 tb2 sim2 h11 tk11 F11 N11 hI2 b1 b2 b3 b4 kp11
        dsimp only [wsDict, tupO] at N11
        w_strict k_steps
        unfold Hold
        refine eq_stage (by assumption) (by k_mem) (by k_mem) hI1 (by k_mem) (by k_mem) hI2 (by k_units) ?_
        w_strict k_steps
        exact end_b hret (st_yes (by assumption) (by assumption) (by simp)) (by assumption)
    · exact end_b hret (st_no1 (by assumption)) (by assumption)
end Mine
end

section
open PySem PySem.W PyProof.Rows PySem.Builtin.Str PySem.Builtin
set_option maxRecDepth 100000
set_option linter.unusedVariables false
namespace Mine
noncomputable abbrev mkS (l : List Nat) : Str := ⟨l.toArray⟩
noncomputable def preB : List Nat → List Nat → Bool
  | [], _ => true
  | _ :: _, [] => false
  | a :: s, b :: t => Nat.beq a b && preB s t
noncomputable def findB (t : List Nat) : List Nat → Bool
  | [] => preB t []
  | b :: r => preB t (b :: r) || findB t r
noncomputable def chk (q p d tabs : Nat) : Bool := Nat.blt (tabs * q) (d * p + q) && Nat.blt (d * p) (tabs * q + q)
noncomputable def nearB (q p : Nat) : List Nat → Nat → Nat → Bool
  | [], _, _ => true
  | c :: r, d, tabs => cond (Nat.beq c 9) (chk q p d (tabs + 1) && nearB q p r (d + 1) (tabs + 1)) (chk q p d tabs && nearB q p r (d + 1) tabs)
noncomputable def longerB (f : List (List Nat)) : List (List Nat) := f.flatMap fun t => [t ++ [32], t ++ [9]]
noncomputable def scanB (q p : Nat) (rr : List Nat) : List (List Nat) → Option (List (List Nat))
  | [] => some []
  | t :: ts => cond (nearB q p t.reverse 1 0) (cond (findB t rr) ((scanB q p rr ts).map (t :: ·)) none) (cond (findB t rr) none (scanB q p rr ts))
noncomputable def textsB (q p : Nat) (rr : List Nat) : Nat → List (List Nat) → Bool
  | 0, _ => true
  | n + 1, f => match scanB q p rr (longerB f) with
    | none => false
    | some f' => textsB q p rr n f'
theorem preB_iff : ∀ (t h : List Nat), preB t h = true ↔ h.take t.length = t
  | [], h => by simp [preB]
  | a :: s, [] => by simp [preB]
  | a :: s, b :: t => by
    simp only [preB, Bool.and_eq_true, Nat.beq_eq, preB_iff s t, List.length_cons, List.take_succ_cons, List.cons.injEq]
    constructor
    · rintro ⟨rfl, h⟩; exact ⟨rfl, h⟩
    · rintro ⟨rfl, h⟩; exact ⟨rfl, h⟩
theorem findB_iff (t : List Nat) : ∀ h : List Nat, findB t h = true ↔ ∃ i, i + t.length ≤ h.length ∧ (h.drop i).take t.length = t
  | [] => by
    simp only [findB, preB_iff]
    constructor
    · intro h
      refine ⟨0, ?_, by simpa using h⟩
      have := congrArg List.length h
      simp at this
      simp [← this]
    · rintro ⟨i, _, h⟩
      simpa using h
  | b :: r => by
    simp only [findB, Bool.or_eq_true, preB_iff, findB_iff t r]
    constructor
    · rintro (h | ⟨i, hi, h⟩)
      · refine ⟨0, ?_, by simpa using h⟩
        have := congrArg List.length h
        rw [List.length_take] at this
        omega
      · exact ⟨i + 1, by simp; omega, by simpa using h⟩
    · rintro ⟨i, hi, h⟩
      cases i with
      | zero => exact .inl (by simpa using h)
      | succ i => exact .inr ⟨i, by simp at hi; omega, by simpa using h⟩
theorem inRing_iff (ring text : Str) : inRing ring text = true ↔ ∃ i, StrLaws.At (ring ++ ring) text (ring ++ ring).length i := by
  unfold inRing find4
  rw [decide_eq_true_eq, fromIndex_nat, show fromIndex (ring ++ ring).length 0 = 0 from fromIndex_nat _ 0, Nat.min_self]
  rcases StrLaws.occ_head_from (ring ++ ring) text 0 1 (Nat.le_refl _) with ⟨h, hn⟩ | ⟨i, r, h, _, ha, _⟩
  · rw [h]
    constructor
    · intro hh; simp at hh
    · rintro ⟨i, hi⟩; exact absurd hi (hn i (Nat.zero_le _))
  · rw [h]
    exact ⟨fun _ => ⟨i, ha⟩, fun _ => by simp⟩
theorem inRing_eq (r t : List Nat) : inRing (mkS r) (mkS t) = findB t (r ++ r) := by
  rw [Bool.eq_iff_iff, inRing_iff, findB_iff]
  have e : (mkS r ++ mkS r).cps.toList = r ++ r := by simp [mkS, Str.cps_append]
  have el : (mkS r ++ mkS r).length = (r ++ r).length := by rw [Str.length_append]; simp [mkS, Str.length]
  have et : (mkS t).length = t.length := by simp [mkS, Str.length]
  unfold StrLaws.At
  simp only [StrLaws.subAt_eq, e, el, et, beq_iff_eq]
theorem item_neg (t : List Nat) (d : Nat) (h1 : 1 ≤ d) (h2 : d ≤ t.length) : Txt.item (mkS t) (-(d : Int)) = ⟨#[(t.reverse[d - 1]?).getD 0]⟩ := by
  unfold Txt.item Txt.charAt seqIndex?
  have el : (mkS t).length = t.length := by simp [mkS, Str.length]
  rw [el]
  have h3 : (-(d : Int)) < 0 := by omega
  simp only [h3, if_true]
  have h4 : (0 : Int) ≤ -(d : Int) + (t.length : Int) := by omega
  have h5 : -(d : Int) + (t.length : Int) < (t.length : Int) := by omega
  simp only [h4, h5, decide_true, Bool.and_self, if_true, Option.bind_some]
  have e : (-(d : Int) + (t.length : Int)).toNat = t.length - d := by omega
  rw [e, List.getElem?_reverse (by omega), show t.length - 1 - (d - 1) = t.length - d from by omega]
  simp [mkS]
theorem chk_eq (q p d tabs : Nat) : (¬ (q : Int) ≤ (if (tabs : Int) * q - d * p < 0 then -((tabs : Int) * q - d * p) else (tabs : Int) * q - d * p)) ↔ chk q p d tabs = true := by
  unfold chk
  simp only [Bool.and_eq_true, Nat.blt_eq]
  have e1 : ((tabs * q : Nat) : Int) = (tabs : Int) * q := by simp
  have e2 : ((d * p : Nat) : Int) = (d : Int) * p := by simp
  rw [← e1, ← e2]
  split <;> omega
theorem nearL_eq (q p : Nat) (t : List Nat) : ∀ (rest : List Nat) (d tabs : Nat), 1 ≤ d → t.reverse.drop (d - 1) = rest → nearL (mkS t) q p tabs (rangeKs (d : Int) rest.length) = nearB q p rest d tabs
  | [], _, _, _, _ => rfl
  | c :: r, d, tabs, h1, hr => by
    have hlen := congrArg List.length hr
    simp only [List.length_drop, List.length_reverse, List.length_cons] at hlen
    rw [List.length_cons, rangeKs_succ]
    have hc : t.reverse[d - 1]? = some c := by
      have := congrArg (·[0]?) hr
      simpa using this
    have hr' : t.reverse.drop (d + 1 - 1) = r := by
      have := congrArg List.tail hr
      rw [List.tail_drop] at this
      simpa [show d - 1 + 1 = d from by omega] using this
    have hi : (Txt.item (mkS t) (-(d : Int)) == Str.ofString "\t") = Nat.beq c 9 := by
      rw [item_neg t d h1 (by omega), hc, Option.getD_some]
      rw [Bool.eq_iff_iff, beq_iff_eq, Nat.beq_eq, show Str.ofString "\t" = ⟨#[9]⟩ from by decide +kernel]
      constructor
      · intro h; injection h with h; injection h with h; injection h
      · rintro rfl; rfl
    have ed : ((d : Int) + 1) = ((d + 1 : Nat) : Int) := by simp
    simp only [nearL, nearB, hi]
    cases hb : Nat.beq c 9 with
    | true =>
      simp only [if_true, cond_true]
      have et : ((tabs : Int) + 1) = ((tabs + 1 : Nat) : Int) := by simp
      rw [et, ed, nearL_eq q p t r (d + 1) (tabs + 1) (by omega) hr']
      have hk := chk_eq q p d (tabs + 1)
      cases hck : chk q p d (tabs + 1) with
      | true => rw [hck] at hk; rw [if_neg (hk.mpr rfl), Bool.true_and]
      | false => rw [hck] at hk; rw [if_pos (Decidable.byContradiction fun hn => absurd (hk.mp hn) (by simp)), Bool.false_and]
    | false =>
      simp only [Bool.false_eq_true, if_false, cond_false]
      rw [ed, nearL_eq q p t r (d + 1) tabs (by omega) hr']
      have hk := chk_eq q p d tabs
      cases hck : chk q p d tabs with
      | true => rw [hck] at hk; rw [if_neg (hk.mpr rfl), Bool.true_and]
      | false => rw [hck] at hk; rw [if_pos (Decidable.byContradiction fun hn => absurd (hk.mp hn) (by simp)), Bool.false_and]
theorem near_eq (q p : Nat) (t : List Nat) : near (mkS t) q p = nearB q p t.reverse 1 0 := by
  have := nearL_eq q p t t.reverse 1 0 (Nat.le_refl _) rfl
  rw [List.length_reverse] at this
  unfold near
  rw [show (mkS t).length = t.length from by simp [mkS, Str.length]]
  exact this
theorem longer_eq (f : List (List Nat)) : longerF (f.map mkS) = (longerB f).map mkS := by
  induction f with
  | nil => rfl
  | cons t r ih =>
    simp only [longerF, longerB, List.map_cons, List.flatMap_cons, List.map_append, List.map_nil] at ih ⊢
    rw [ih]
    congr 1
    simp only [List.cons.injEq, and_true]
    constructor <;> (apply Str.ext'; simp [mkS, Str.cps_append])
theorem scan_eq (r : List Nat) (q p : Nat) : ∀ ls : List (List Nat), scan (mkS r) q p (ls.map mkS) = (scanB q p (r ++ r) ls).map (List.map mkS)
  | [] => rfl
  | t :: ts => by
    simp only [List.map_cons, scan, scanB, inRing_eq, near_eq, scan_eq r q p ts]
    cases nearB q p t.reverse 1 0 <;> cases findB t (r ++ r) <;> cases scanB q p (r ++ r) ts <;> simp
theorem texts_eq (r : List Nat) (q p : Nat) : ∀ (n : Nat) (f : List (List Nat)), textsF (mkS r) q p n (f.map mkS) = textsB q p (r ++ r) n f
  | 0, _ => rfl
  | n + 1, f => by
    simp only [textsF, textsB, longer_eq, scan_eq]
    cases h : scanB q p (r ++ r) (longerB f) with
    | none => rfl
    | some f' => exact texts_eq r q p n f'
theorem texts_of {r : List Nat} {q p : Nat} (h : textsB q p (r ++ r) 5 [[]] = true) : textsF (mkS r) q p 5 [Str.ofString ""] = true := by
  rw [← texts_eq r q p 5 [[]]] at h
  rw [← h]
  congr 1
end Mine
end

section
open PySem PySem.W PyProof.Rows PySem.Builtin.Str PySem.Builtin
set_option maxRecDepth 100000
set_option linter.unusedVariables false
namespace Mine
noncomputable def hueT : List UInt64 := [0, 4589168020290535424, 4593671619917905920, 4595923419731591168, 4598175219545276416, 4599301119452119040, 4600427019358961664, 4601552919265804288, 4602678819172646912, 4603241769126068224, 4603804719079489536, 4604367669032910848, 4604930618986332160, 4605493568939753472, 4606056518893174784, 4606619468846596096]
noncomputable def colR : List UInt64 := [4607182418800017408, 4607182418800017408, 4607182418800017408, 4606056518893174784, 4602678819172646912, 4593671619917905920, 0, 0, 0, 0, 0, 4593671619917905920, 4602678819172646912, 4606056518893174784, 4607182418800017408, 4607182418800017408]
noncomputable def colG : List UInt64 := [0, 4600427019358961664, 4604930618986332160, 4607182418800017408, 4607182418800017408, 4607182418800017408, 4607182418800017408, 4607182418800017408, 4607182418800017408, 4603804719079489536, 4598175219545276416, 0, 0, 0, 0, 0]
noncomputable def colB : List UInt64 := [0, 0, 0, 0, 0, 0, 4598175219545276416, 4603804719079489536, 4607182418800017408, 4607182418800017408, 4607182418800017408, 4607182418800017408, 4607182418800017408, 4607182418800017408, 4604930618986332160, 4600427019358961664]
noncomputable def hueChk (n : Nat) : Bool := hueOk (n : Int) 16 && (hsvR (hueIn (n : Int) 16) == colR.getD (n % 16) 0) && (hsvG (hueIn (n : Int) 16) == colG.getD (n % 16) 0) && (hsvB (hueIn (n : Int) 16) == colB.getD (n % 16) 0)
theorem hue_blk0 : ((List.range 16).all fun r => hueChk (0 + r)) = true := by decide +kernel
theorem hue_blk1 : ((List.range 16).all fun r => hueChk (16 + r)) = true := by decide +kernel
theorem hue_blk2 : ((List.range 16).all fun r => hueChk (32 + r)) = true := by decide +kernel
theorem hue_blk3 : ((List.range 16).all fun r => hueChk (48 + r)) = true := by decide +kernel
theorem hue_blk4 : ((List.range 16).all fun r => hueChk (64 + r)) = true := by decide +kernel
theorem hue_blk5 : ((List.range 16).all fun r => hueChk (80 + r)) = true := by decide +kernel
theorem hue_blk6 : ((List.range 16).all fun r => hueChk (96 + r)) = true := by decide +kernel
theorem hue_blk7 : ((List.range 16).all fun r => hueChk (112 + r)) = true := by decide +kernel
theorem hue_blk8 : ((List.range 16).all fun r => hueChk (128 + r)) = true := by decide +kernel
theorem hue_blk9 : ((List.range 16).all fun r => hueChk (144 + r)) = true := by decide +kernel
theorem hue_blk10 : ((List.range 16).all fun r => hueChk (160 + r)) = true := by decide +kernel
theorem hue_blk11 : ((List.range 16).all fun r => hueChk (176 + r)) = true := by decide +kernel
theorem hue_blk12 : ((List.range 16).all fun r => hueChk (192 + r)) = true := by decide +kernel
theorem hue_blk13 : ((List.range 16).all fun r => hueChk (208 + r)) = true := by decide +kernel
theorem hue_blk14 : ((List.range 16).all fun r => hueChk (224 + r)) = true := by decide +kernel
theorem hue_blk15 : ((List.range 16).all fun r => hueChk (240 + r)) = true := by decide +kernel
theorem hue_blk16 : ((List.range 16).all fun r => hueChk (256 + r)) = true := by decide +kernel
theorem hue_tab : ((List.range 16).all fun r => hlsH (colR.getD r 0) (colG.getD r 0) (colB.getD r 0) == hueT.getD r 0) = true := by decide +kernel
theorem hue_ord : ((List.range 16).all fun a => (List.range 16).all fun b => fLt (hueT.getD a 0) (hueT.getD b 0) == Nat.blt a b) = true := by decide +kernel
theorem hue_in8 : ((List.range 72).all fun n => hueIn (n : Int) 8 == hueIn ((2 * n : Nat) : Int) 16) = true := by decide +kernel
theorem hue_in4 : ((List.range 20).all fun n => hueIn (n : Int) 4 == hueIn ((4 * n : Nat) : Int) 16) = true := by decide +kernel
theorem all_range {n : Nat} {P : Nat → Bool} (h : ((List.range n).all P) = true) {i : Nat} (hi : i < n) : P i = true := List.all_eq_true.mp h i (List.mem_range.mpr hi)
theorem hue_chk {n : Nat} (h : n < 272) : hueChk n = true := by
  have key : ∀ k r, r < 16 → n = 16 * k + r → hueChk n = true := by
    intro k r hr e
    rw [e]
    have hk : k < 17 := by omega
    match k, hk with
    | 0, _ => exact all_range hue_blk0 hr
    | 1, _ => exact all_range hue_blk1 hr
    | 2, _ => exact all_range hue_blk2 hr
    | 3, _ => exact all_range hue_blk3 hr
    | 4, _ => exact all_range hue_blk4 hr
    | 5, _ => exact all_range hue_blk5 hr
    | 6, _ => exact all_range hue_blk6 hr
    | 7, _ => exact all_range hue_blk7 hr
    | 8, _ => exact all_range hue_blk8 hr
    | 9, _ => exact all_range hue_blk9 hr
    | 10, _ => exact all_range hue_blk10 hr
    | 11, _ => exact all_range hue_blk11 hr
    | 12, _ => exact all_range hue_blk12 hr
    | 13, _ => exact all_range hue_blk13 hr
    | 14, _ => exact all_range hue_blk14 hr
    | 15, _ => exact all_range hue_blk15 hr
    | 16, _ => exact all_range hue_blk16 hr
    | m + 17, h => exact absurd h (by omega)
  exact key (n / 16) (n % 16) (Nat.mod_lt _ (by decide)) (by omega)
theorem hue16 {n : Nat} (h : n < 272) : hueOk (n : Int) 16 = true ∧ hueF (n : Int) 16 = hueT.getD (n % 16) 0 := by
  have hc := hue_chk h
  simp only [hueChk, Bool.and_eq_true, beq_iff_eq] at hc
  obtain ⟨⟨⟨h1, h2⟩, h3⟩, h4⟩ := hc
  refine ⟨h1, ?_⟩
  have := all_range hue_tab (Nat.mod_lt n (show 0 < 16 by decide))
  rw [beq_iff_eq] at this
  rw [← this]
  unfold hueF
  rw [h2, h3, h4]
theorem hue8 {n : Nat} (h : n < 72) : hueOk (n : Int) 8 = true ∧ hueF (n : Int) 8 = hueT.getD (2 * n % 16) 0 := by
  have e : hueIn (n : Int) 8 = hueIn ((2 * n : Nat) : Int) 16 := by simpa using all_range hue_in8 h
  have := hue16 (n := 2 * n) (by omega)
  unfold hueOk hueF at this ⊢
  rw [e]; exact this
theorem hue4 {n : Nat} (h : n < 20) : hueOk (n : Int) 4 = true ∧ hueF (n : Int) 4 = hueT.getD (4 * n % 16) 0 := by
  have e : hueIn (n : Int) 4 = hueIn ((4 * n : Nat) : Int) 16 := by simpa using all_range hue_in4 h
  have := hue16 (n := 4 * n) (by omega)
  unfold hueOk hueF at this ⊢
  rw [e]; exact this
theorem hue_lt {a b : Nat} (ha : a < 16) (hb : b < 16) : fLt (hueT.getD a 0) (hueT.getD b 0) = Nat.blt a b := by
  have := all_range (all_range hue_ord ha) hb
  simpa using this
/-- the greatest place read on a wheel of q hues -/
theorem place_le {q p f k : Nat} (hp : p < q) (hf : f < 2 * q) (hk : k ≤ q) : f + k * p < 2 * q + q * (q - 1) := by
  have := Nat.mul_le_mul hk (show p ≤ q - 1 by omega)
  omega
noncomputable def GoodQ (q : Nat) : Prop := q = 4 ∨ q = 8 ∨ q = 16
theorem hue_all {q p f k : Nat} (hq : GoodQ q) (hp : p < q) (hf : f < 2 * q) (hk : k ≤ q) : hueOk ((f + k * p : Nat) : Int) q = true ∧ hueF ((f + k * p : Nat) : Int) q = hueT.getD (16 / q * (f + k * p) % 16) 0 := by
  have h := place_le hp hf hk
  rcases hq with rfl | rfl | rfl
  · have := hue4 (n := f + k * p) (by omega); simpa using this
  · have := hue8 (n := f + k * p) (by omega); simpa using this
  · have := hue16 (n := f + k * p) (by omega); simpa using this
noncomputable def signB (q p f i : Nat) : Nat := cond (Nat.blt ((f + (i + 1) * p) % q) ((f + i * p) % q)) 9 32
noncomputable def rhyB (q p f : Nat) : List Nat := (List.range q).map (signB q p f)
theorem blt_scale {q a b : Nat} (hq : GoodQ q) : Nat.blt (16 / q * a % 16) (16 / q * b % 16) = Nat.blt (a % q) (b % q) := by
  rw [Bool.eq_iff_iff, Nat.blt_eq, Nat.blt_eq]
  rcases hq with rfl | rfl | rfl <;> omega
theorem sign_eq {q p f i : Nat} (hq : GoodQ q) (hp : p < q) (hf : f < 2 * q) (hi : i < q) : rhySign q p f i = mkS [signB q p f i] := by
  unfold rhySign signB
  have e1 : (f : Int) + ((i : Int) + 1) * (p : Int) = ((f + (i + 1) * p : Nat) : Int) := by simp
  have e2 : (f : Int) + (i : Int) * (p : Int) = ((f + i * p : Nat) : Int) := by simp
  rw [e1, e2, (hue_all hq hp hf (show i + 1 ≤ q by omega)).2, (hue_all hq hp hf (show i ≤ q by omega)).2, hue_lt (Nat.mod_lt _ (by decide)) (Nat.mod_lt _ (by decide)), blt_scale hq]
  cases Nat.blt ((f + (i + 1) * p) % q) ((f + i * p) % q) <;> decide +kernel
theorem join_signs : ∀ cs : List Nat, Str.join (Str.ofString "") (cs.map fun c => mkS [c]) = mkS cs
  | [] => by decide +kernel
  | [c] => rfl
  | c :: d :: r => by
    have ih := join_signs (d :: r)
    show mkS [c] ++ Str.ofString "" ++ Str.join (Str.ofString "") ((d :: r).map fun c => mkS [c]) = _
    rw [ih, show Str.ofString "" = Str.empty from by decide +kernel, Str.append_empty]
    apply Str.ext'
    simp [mkS, Str.cps_append]
theorem rhy_eq {q p f : Nat} (hq : GoodQ q) (hp : p < q) (hf : f < 2 * q) : rhyF q p f = mkS (rhyB q p f) := by
  unfold rhyF rhyB Txt.join
  rw [StrLaws.glued_eq_join, ← join_signs, List.map_map, show ((q : Int)).toNat = q from by simp]
  congr 1
  apply List.map_congr_left
  intro i hi
  exact sign_eq hq hp hf (List.mem_range.mp hi)
noncomputable def lastB : List Nat → Nat → Nat → Nat
  | [], _, best => best
  | c :: r, i, best => lastB r (i + 1) (cond (Nat.beq c 9) (i + 1) best)
noncomputable def cutB (l : List Nat) : List Nat := l.drop (lastB l 0 0) ++ l.take (lastB l 0 0)
theorem lastB_none : ∀ (l : List Nat) (i best : Nat), 9 ∉ l → lastB l i best = best
  | [], _, _, _ => rfl
  | c :: r, i, best, h => by
    have hc : Nat.beq c 9 = false := by
      cases hb : Nat.beq c 9 with
      | false => rfl
      | true => rw [Nat.beq_eq] at hb; subst hb; simp at h
    simp only [lastB, hc, cond_false]
    exact lastB_none r (i + 1) best (fun hm => h (List.mem_cons_of_mem _ hm))
theorem lastB_some : ∀ (l1 l2 : List Nat) (i best : Nat), 9 ∉ l2 → lastB (l1 ++ 9 :: l2) i best = i + l1.length + 1
  | [], l2, i, best, h => by
    show lastB l2 (i + 1) (cond (Nat.beq 9 9) (i + 1) best) = _
    rw [lastB_none l2 _ _ h]; rfl
  | c :: r, l2, i, best, h => by
    show lastB (r ++ 9 :: l2) (i + 1) _ = _
    rw [lastB_some r l2 (i + 1) _ h, List.length_cons]; omega
theorem at_tab (l : List Nat) (i : Nat) : StrLaws.At (mkS l) (Str.ofString "\t") (mkS l).length i ↔ l[i]? = some 9 := by
  unfold StrLaws.At
  rw [StrLaws.subAt_eq, show Str.ofString "\t" = mkS [9] from by decide +kernel]
  have el : (mkS l).length = l.length := by simp [Str.length]
  rw [el, show (mkS [9]).length = 1 from rfl, show (mkS [9]).cps.toList = [9] from rfl, show (mkS l).cps.toList = l from by simp, beq_iff_eq]
  constructor
  · rintro ⟨h1, h2⟩
    have := congrArg (·[0]?) h2
    simpa using this
  · intro h
    have hlt : i < l.length := by
      rcases Nat.lt_or_ge i l.length with h' | h'
      · exact h'
      · rw [List.getElem?_eq_none h'] at h; cases h
    refine ⟨hlt, ?_⟩
    rw [List.drop_eq_getElem_cons hlt]
    rw [List.getElem?_eq_getElem hlt] at h
    simp [Option.some.inj h]
theorem rfind_eq (l : List Nat) : Txt.rfind (mkS l) (Str.ofString "\t") + 1 = (lastB l 0 0 : Nat) := by
  unfold Txt.rfind
  rcases StrLaws.last_spec (mkS l) (Str.ofString "\t") with ⟨h, hn⟩ | ⟨i, h, ha, hn⟩
  · rw [h, lastB_none l 0 0 (fun hm => by
      obtain ⟨i, hi, e⟩ := List.getElem_of_mem hm
      exact hn i ((at_tab l i).mpr (by rw [List.getElem?_eq_getElem hi, e])))]
    rfl
  · rw [h]
    rw [at_tab] at ha
    have hlt : i < l.length := by
      rcases Nat.lt_or_ge i l.length with h' | h'
      · exact h'
      · rw [List.getElem?_eq_none h'] at ha; cases ha
    have hs : l = l.take i ++ 9 :: l.drop (i + 1) := by
      rw [List.getElem?_eq_getElem hlt] at ha
      have := List.take_append_drop i l
      rw [List.drop_eq_getElem_cons hlt, Option.some.inj ha] at this
      exact this.symm
    have hno : 9 ∉ l.drop (i + 1) := by
      intro hm
      obtain ⟨j, hj, e⟩ := List.getElem_of_mem hm
      refine hn (i + 1 + j) (by omega) ((at_tab l _).mpr ?_)
      rw [← List.getElem?_drop, List.getElem?_eq_getElem hj, e]
    have := lastB_some (l.take i) (l.drop (i + 1)) 0 0 hno
    rw [← hs] at this
    rw [this, List.length_take]
    have : min i l.length = i := by omega
    rw [this]
    show (i : Int) + 1 = _
    omega
theorem lastB_le : ∀ (l : List Nat) (i best : Nat), best ≤ i → lastB l i best ≤ i + l.length
  | [], i, best, h => by simpa [lastB] using h
  | c :: r, i, best, h => by
    simp only [lastB, List.length_cons]
    have := lastB_le r (i + 1) (cond (Nat.beq c 9) (i + 1) best) (by cases Nat.beq c 9 <;> simp <;> omega)
    omega
theorem slice_full {x : Str} {l u : Option Int} {L : List Nat} (h : (strSliceIndices l u 1 x.length).filterMap (x.cps[·]?) = L) (hfull : (strSliceIndices l u 1 x.length).length = x.length → L = x.cps.toList) : Txt.slice x l u = mkS L := by
  unfold Txt.slice
  split
  · rename_i hc
    have : (strSliceIndices l u 1 x.length).length = x.length := by simpa using hc
    rw [hfull this]
  · rw [h]
theorem indices_from {a len : Nat} (ha : a ≤ len) : strSliceIndices (some (a : Int)) none 1 len = strSliceIndices (some (a : Int)) (some (len : Int)) 1 len := by
  unfold strSliceIndices sliceRange
  have h1 : ¬ ((a : Int) < 0) := by omega
  have h2 : ¬ ((len : Int) < 0) := by omega
  have e : max (0 : Int) (min (len : Int) (len : Int)) = len := by omega
  simp only [h1, h2, if_false, e, show ((1 : Int) > 0) = True from by simp, if_true]
theorem indices_upto {b len : Nat} (hb : b ≤ len) : strSliceIndices none (some (b : Int)) 1 len = strSliceIndices (some ((0 : Nat) : Int)) (some (b : Int)) 1 len := by
  unfold strSliceIndices sliceRange
  have h1 : ¬ (((0 : Nat) : Int) < 0) := by omega
  have h2 : ¬ ((b : Int) < 0) := by omega
  have e : max (0 : Int) (min ((0 : Nat) : Int) (len : Int)) = 0 := by omega
  simp only [h1, h2, if_false, e, show ((1 : Int) > 0) = True from by simp, if_true]
theorem slice_from (l : List Nat) {a : Nat} (ha : a ≤ l.length) : Txt.slice (mkS l) (some (a : Int)) none = mkS (l.drop a) := by
  have el : (mkS l).length = l.length := by simp [Str.length]
  refine slice_full ?_ ?_
  · rw [el, indices_from ha]
    have := StrLaws.sliced_plain (mkS l) (a := a) (b := l.length) ha (by rw [el]; exact Nat.le_refl _)
    rw [el] at this
    rw [this]
    simp only [List.toList_toArray]
    exact List.take_of_length_le (by simp)
  · rw [el, indices_from ha, StrLaws.strSliceIndices_plain ha (Nat.le_refl _)]
    intro h
    simp at h
    have : a = 0 ∨ l = [] := by
      rcases Nat.eq_zero_or_pos a with h0 | h0
      · exact .inl h0
      · exact .inr (List.eq_nil_of_length_eq_zero (by omega))
    rcases this with rfl | rfl <;> simp
theorem slice_upto (l : List Nat) {b : Nat} (hb : b ≤ l.length) : Txt.slice (mkS l) none (some (b : Int)) = mkS (l.take b) := by
  have el : (mkS l).length = l.length := by simp [Str.length]
  refine slice_full ?_ ?_
  · rw [el, indices_upto hb]
    have := StrLaws.sliced_plain (mkS l) (a := 0) (b := b) (Nat.zero_le _) (by rw [el]; exact hb)
    rw [el] at this
    rw [this]
    simp
  · rw [el, indices_upto hb, StrLaws.strSliceIndices_plain (Nat.zero_le _) hb]
    intro h
    simp at h
    rw [h, List.take_of_length_le (Nat.le_refl _)]
theorem cut_eq (l : List Nat) : cutF (mkS l) = mkS (cutB l) := by
  unfold cutF cutB
  have hle : lastB l 0 0 ≤ l.length := by have := lastB_le l 0 0 (Nat.le_refl _); omega
  rw [rfind_eq, slice_from l hle, slice_upto l hle]
  apply Str.ext'
  simp [Str.cps_append]
end Mine
end

section
open PySem PySem.W PyProof.Rows PySem.Builtin.Str PySem.Builtin
set_option maxRecDepth 100000
set_option linter.unusedVariables false
namespace Mine
noncomputable def stOk (ring : Str) (whole part : Int) : Bool :=
  decide (ring.length ≤ 50) && decide (part ≤ whole) && decide (whole ≤ 100) && decide ((backF ring).length ≤ 50) && wantOk (backF ring) && decide ((cutF (backF ring)).length ≤ 60)
noncomputable def nxOk (ring : Str) : Bool := decide (ring.length ≤ 100) && decide (0 < (sizesF ring).length) && decide ((sizesF ring).length ≤ 100) && decide ((nextJ ring).length ≤ 100)
noncomputable def okLoop : Nat → Str → Int → Int → Bool
  | 0, _, _, part => decide (part ≤ 0)
  | n + 1, ring, whole, part => decide (part ≤ 0) || (stOk ring whole part && stageF ring whole part && (if 0 < whole.fmod part then nxOk ring && okLoop n (nextF ring) part (whole.fmod part) else okLoop n ring part (whole.fmod part)))
noncomputable def drawQ (a : Int) : Int := 4 * 2 ^ (a.fmod 3).toNat
noncomputable def drawP (a : Int) : Int := 1 + (a.fdiv 3).fmod (drawQ a - 1)
noncomputable def drawF (a b : Int) : Int := b.fmod (2 * drawQ a)
theorem drawQ_cases (a : Int) : drawQ a = 4 ∨ drawQ a = 8 ∨ drawQ a = 16 := by
  have h0 := Int.fmod_nonneg_of_pos a (show (0 : Int) < 3 by decide)
  have h1 := Int.fmod_lt_of_pos a (show (0 : Int) < 3 by decide)
  unfold drawQ
  rcases (by omega : a.fmod 3 = 0 ∨ a.fmod 3 = 1 ∨ a.fmod 3 = 2) with h | h | h <;> rw [h]
  · exact .inl (by decide)
  · exact .inr (.inl (by decide))
  · exact .inr (.inr (by decide))
theorem draw_facts (a b : Int) : (drawQ a = 4 ∨ drawQ a = 8 ∨ drawQ a = 16) ∧ 1 ≤ drawP a ∧ drawP a < drawQ a ∧ 0 ≤ drawF a b ∧ drawF a b < 2 * drawQ a := by
  have hq := drawQ_cases a
  have h0 := Int.fmod_nonneg_of_pos (a.fdiv 3) (show (0 : Int) < drawQ a - 1 by omega)
  have h1 := Int.fmod_lt_of_pos (a.fdiv 3) (show (0 : Int) < drawQ a - 1 by omega)
  have h2 := Int.fmod_nonneg_of_pos b (show (0 : Int) < 2 * drawQ a by omega)
  have h3 := Int.fmod_lt_of_pos b (show (0 : Int) < 2 * drawQ a by omega)
  refine ⟨hq, ?_, ?_, h2, h3⟩ <;> unfold drawP <;> omega
noncomputable def LawJ (n : Nat) (m : Str → Option Value) (news : List (Addr × Obj)) : Prop :=
  news = [] ∧ ∃ (ring : Str) (whole part : Int) (tr tw tp : Tok) (k : Nat), m (Str.ofString "ring") = some (.str ring tr) ∧ m (Str.ofString "whole") = some (.int whole tw) ∧ m (Str.ofString "part") = some (.int part tp) ∧ okLoop k ring whole part = true ∧ 0 ≤ part ∧ n = part.toNat
theorem fr_law {h₀ h : Heap} {L : Addr} {m : Str → Option Value} {ring : Str} {whole part : Int} {tr tw tp : Tok} (f1 : m (Str.ofString "ring") = some (.str ring tr)) (f2 : m (Str.ofString "whole") = some (.int whole tw)) (f3 : m (Str.ofString "part") = some (.int part tp)) (F : Fr h₀ L h m) :
    Fr h₀ L h (kstB m [(Str.ofString "ring", .str ring tr), (Str.ofString "whole", .int whole tw), (Str.ofString "part", .int part tp)]) := by
  refine fr_known _ ?_ F
  intro pp hpp
  simp only [List.mem_cons, List.not_mem_nil, or_false] at hpp
  rcases hpp with rfl | rfl | rfl <;> assumption
theorem ok_step {k : Nat} {ring : Str} {whole part : Int} (h : okLoop k ring whole part = true) (hp : 0 < part) : ∃ k', stOk ring whole part = true ∧ stageF ring whole part = true ∧ (0 < whole.fmod part → nxOk ring = true ∧ okLoop k' (nextF ring) part (whole.fmod part) = true) ∧ (¬ 0 < whole.fmod part → okLoop k' ring part (whole.fmod part) = true) := by
  cases k with
  | zero => simp only [okLoop, decide_eq_true_eq] at h; omega
  | succ k =>
    simp only [okLoop, Bool.or_eq_true, Bool.and_eq_true, decide_eq_true_eq] at h
    rcases h with h | ⟨⟨h1, h2⟩, h3⟩
    · omega
    · refine ⟨k, h1, h2, fun hf => ?_, fun hf => ?_⟩
      · rw [if_pos hf] at h3; simpa using h3
      · rw [if_neg hf] at h3; exact h3
theorem len_mkS (l : List Nat) : (mkS l).length = l.length := by simp [Str.length]
theorem cps_mkS (l : List Nat) : (mkS l).cps.toList = l := by simp
theorem mkS_app (a b : List Nat) : mkS a ++ mkS b = mkS (a ++ b) := by
  apply Str.ext'
  simp [Str.cps_append]
theorem fold_rev : ∀ (r acc : List Nat), List.foldl (fun (T : Str) (a : Str) => a ++ T) (mkS acc) (r.map fun n => (⟨#[n]⟩ : Str)) = mkS (r.reverse ++ acc)
  | [], acc => rfl
  | c :: r, acc => by
    rw [List.map_cons, List.foldl_cons, show ((⟨#[c]⟩ : Str) ++ mkS acc) = mkS (c :: acc) from mkS_app [c] acc, fold_rev r (c :: acc)]
    simp
theorem back_eq (r : List Nat) : backF (mkS r) = mkS r.reverse := by
  have h := fold_front_eq_rev (mkS r) (mkS []) rfl 0
  have e := fold_rev r []
  unfold signs at h
  rw [cps_mkS, e, List.append_nil] at h
  exact h.symm
noncomputable def occL (s sub : List Nat) (hi limit : Nat) : List Nat → List Nat → Nat → List Nat
  | [], found, _ => found
  | i :: l, found, free => cond (Nat.blt found.length limit && Nat.ble free i && Nat.ble (i + sub.length) hi && preB sub (s.drop i)) (occL s sub hi limit l (found ++ [i]) (i + sub.length)) (occL s sub hi limit l found free)
theorem subAt_pre (s sub : Str) (i : Nat) : subAt s sub i = preB sub.cps.toList (s.cps.toList.drop i) := by
  rw [StrLaws.subAt_eq, Bool.eq_iff_iff, preB_iff, beq_iff_eq]
  rfl
theorem occL_eq (s sub : Str) (hi limit : Nat) : ∀ (l : List Nat) (st : Array Nat × Nat), (forIn l st (StrLaws.occBody s sub hi limit)).run.fst.toList = occL s.cps.toList sub.cps.toList hi limit l st.1.toList st.2
  | [], st => rfl
  | i :: l, (f, fr) => by
    rw [List.forIn_cons]
    unfold StrLaws.occBody
    have hsub : sub.cps.toList.length = sub.length := by simp [Str.length]
    simp only [occL, hsub, Array.length_toList]
    split
    · rename_i hc
      have e : (Nat.blt f.size limit && Nat.ble fr i && Nat.ble (i + sub.length) hi && preB sub.cps.toList (s.cps.toList.drop i)) = true := by
        rw [← subAt_pre]
        simp only [Bool.and_eq_true, Nat.blt_eq, Nat.ble_eq]
        exact hc
      rw [e, cond_true]
      have := occL_eq s sub hi limit l (f.push i, i + sub.length)
      rw [Array.toList_push] at this
      exact this
    · rename_i hc
      have e : (Nat.blt f.size limit && Nat.ble fr i && Nat.ble (i + sub.length) hi && preB sub.cps.toList (s.cps.toList.drop i)) = false := by
        rw [← subAt_pre, Bool.eq_false_iff]
        intro h
        simp only [Bool.and_eq_true, Nat.blt_eq, Nat.ble_eq] at h
        exact hc h
      rw [e, cond_false]
      exact occL_eq s sub hi limit l (f, fr)
noncomputable abbrev dotted (t : List Nat) : List Nat := [46, 46, 46] ++ t ++ [46, 46, 46]
noncomputable def dotsB (t : List Nat) : Bool := decide (occL (dotted t) [46, 46, 46] (t.length + 6) (t.length + 7) (List.range' 0 (t.length + 7)) [] 0 = [0, t.length + 3])
theorem want_eq (t : List Nat) : wantF (mkS t) = mkS (dotted t) := by
  unfold wantF dotted
  rw [show Str.ofString "..." = mkS [46, 46, 46] from by decide +kernel, mkS_app, mkS_app]
theorem kind_pos (s : Str) : 1 ≤ PySem.Builtin.Str.strKind s := by
  unfold PySem.Builtin.Str.strKind
  split
  · omega
  · split <;> omega
theorem wantOk_list {t : List Nat} (h : dotsB t = true) : wantOk (mkS t) = true := by
  unfold dotsB at h
  rw [decide_eq_true_eq] at h
  have hl : (mkS (dotted t)).length = t.length + 6 := by rw [len_mkS]; simp
  have ho : occurrences (mkS (dotted t)) (mkS [46, 46, 46]) 0 (mkS (dotted t)).length ((mkS (dotted t)).length + 1) = [0, t.length + 3] := by
    rw [StrLaws.occ_eq, occL_eq, cps_mkS, cps_mkS, hl]
    exact h
  unfold wantOk
  rw [want_eq, show Str.ofString "..." = mkS [46, 46, 46] from by decide +kernel]
  have h1 : (occurrences (mkS (dotted t)) (mkS [46, 46, 46]) 0 (mkS (dotted t)).length 1).isEmpty = false := by
    rcases StrLaws.occ_head_from (mkS (dotted t)) (mkS [46, 46, 46]) 0 1 (Nat.le_refl _) with ⟨e, hn⟩ | ⟨i, r, e, _⟩
    · rcases StrLaws.occ_head_from (mkS (dotted t)) (mkS [46, 46, 46]) 0 ((mkS (dotted t)).length + 1) (by omega) with ⟨e2, _⟩ | ⟨i, r, _, _, ha, _⟩
      · rw [ho] at e2; cases e2
      · exact absurd ha (hn i (Nat.zero_le _))
    · rw [e]; rfl
  have h2 : Txt.split (mkS (dotted t)) (mkS [46, 46, 46]) = [Str.empty, mkS t, Str.empty] := by
    unfold Txt.split
    rw [if_neg, if_neg]
    · rw [ho, StrLaws.partsBetween_eq]
      simp only [StrLaws.partsFrom]
      have hsub : ∀ i j L, ((dotted t).drop i).take (j - i) = L → strSub (mkS (dotted t)) i j = mkS L := by
        intro i j L e
        apply Str.ext'
        apply Array.toList_inj.mp
        rw [StrLaws.strSub_toList, cps_mkS, e]
      rw [hsub 0 0 [] (by simp), hsub (0 + (mkS [46, 46, 46]).length) (t.length + 3) t (by simp [len_mkS, dotted]), hsub (t.length + 3 + (mkS [46, 46, 46]).length) _ [] (by rw [hl, len_mkS]; simp [dotted])]
      rfl
    · rw [ho]; simp
    · rw [hl, len_mkS]
      have := kind_pos (mkS (dotted t))
      have e : PySem.Builtin.Str.strKind (mkS [46, 46, 46]) = 1 := by decide +kernel
      rw [e]
      intro hh
      rw [Bool.or_eq_true, decide_eq_true_eq, decide_eq_true_eq] at hh
      have e3 : ([46, 46, 46] : List Nat).length = 3 := rfl
      omega
  rw [h2, h1]
  simp
noncomputable def wsB : List Nat → (List Int × Int × Int × Int) → (List Int × Int × Int × Int)
  | [], st => st
  | c :: r, (cs, b, n, nt) => cond (Nat.beq c 32) (wsB r (cs, b + 1, n + 1, nt)) (cond (Nat.beq c 9) (wsB r (bumpF cs b, 0, n + 1, nt + 1)) (cs, b, n, nt))
theorem one_eq (c d : Nat) : (Str.mk #[c] == Str.mk #[d]) = Nat.beq c d := by
  rw [Bool.eq_iff_iff, beq_iff_eq, Nat.beq_eq]
  constructor
  · intro h; injection h with h; injection h with h; injection h
  · rintro rfl; rfl
theorem wsB_eq : ∀ (l : List Nat) (st : List Int × Int × Int × Int), wsRun l st = wsB l st
  | [], _ => rfl
  | c :: r, (cs, b, n, nt) => by
    simp only [wsRun, wsB, show Str.ofString " " = ⟨#[32]⟩ from by decide +kernel, show Str.ofString "\t" = ⟨#[9]⟩ from by decide +kernel, one_eq, wsB_eq r]
    cases Nat.beq c 32 <;> cases Nat.beq c 9 <;> simp
noncomputable def stB (r : List Nat) (w p : Int) : Bool :=
  decide (wsB (r ++ [120, 32]) ([], 0, 0, 0) = (runsF w p, 0, w, p)) && decide (wsB (cutB r.reverse) ([], 0, 0, 0) = (runsF w p, 0, w, p)) && findB r.reverse (r ++ r) && dotsB r.reverse && Nat.ble r.length 50 && decide (p ≤ w) && decide (w ≤ 100)
theorem len_cutB (l : List Nat) : (cutB l).length = l.length := by
  have := lastB_le l 0 0 (Nat.le_refl _)
  unfold cutB
  simp
  omega
theorem st_of {r : List Nat} {w p : Int} (h : stB r w p = true) : stOk (mkS r) w p = true ∧ stageF (mkS r) w p = true := by
  simp only [stB, Bool.and_eq_true, decide_eq_true_eq, Nat.ble_eq] at h
  obtain ⟨⟨⟨⟨⟨⟨h1, h2⟩, h3⟩, h4⟩, h5⟩, h6⟩, h7⟩ := h
  constructor
  · simp only [stOk, Bool.and_eq_true, decide_eq_true_eq, back_eq, cut_eq, len_mkS, len_cutB, List.length_reverse]
    exact ⟨⟨⟨⟨⟨h5, h6⟩, h7⟩, h5⟩, wantOk_list h4⟩, by omega⟩
  · have e1 : wsF (mkS r ++ Str.ofString "x ") = (runsF w p, 0, w, p) := by
      unfold wsF
      rw [show Str.ofString "x " = mkS [120, 32] from by decide +kernel, mkS_app, cps_mkS, wsB_eq]
      exact h1
    have e2 : wsF (mkS (cutB r.reverse)) = (runsF w p, 0, w, p) := by
      unfold wsF
      rw [cps_mkS, wsB_eq]
      exact h2
    unfold stageF
    rw [back_eq, cut_eq, e1, e2, inRing_eq, h3]
    simp
noncomputable def GoodL (r : List Nat) (w p : Int) : Prop := ∃ k, okLoop k (mkS r) w p = true
theorem good_end {r : List Nat} {w p : Int} (h : (stB r w p && decide (w.fmod p = 0)) = true) : GoodL r w p := by
  rw [Bool.and_eq_true, decide_eq_true_eq] at h
  obtain ⟨h1, h2⟩ := st_of h.1
  refine ⟨1, ?_⟩
  simp only [okLoop, h1, h2, h.2]
  simp
noncomputable def nxB (r : List Nat) (w p : Int) (j r2 : List Nat) (s : Int) : Bool :=
  stB r w p && nxOk (mkS r) && decide (nextJ (mkS r) = mkS j) && decide (cutB j = r2) && decide (w.fmod p = s) && decide (0 < s)
theorem good_next {r : List Nat} {w p : Int} (j : List Nat) {r2 : List Nat} {s : Int} (h : nxB r w p j r2 s = true) (g : GoodL r2 p s) : GoodL r w p := by
  simp only [nxB, Bool.and_eq_true, decide_eq_true_eq] at h
  obtain ⟨⟨⟨⟨⟨h0, hx⟩, hj⟩, hc⟩, hs⟩, hp⟩ := h
  obtain ⟨h1, h2⟩ := st_of h0
  obtain ⟨k, hk⟩ := g
  refine ⟨k + 1, ?_⟩
  have e : nextF (mkS r) = mkS r2 := by unfold nextF; rw [hj, cut_eq, hc]
  simp only [okLoop, h1, h2, hs, hx, e, hk, hp]
  simp
structure Fine (r : List Nat) (q p : Nat) : Prop where
  len : r.length ≤ 50
  texts : textsB q p (r ++ r) 5 [[]] = true
  good : GoodL r q p
theorem of_members {n : Nat} {g : Nat → List Nat} {l : List (List Nat)} {P : List Nat → Prop} (hm : ((List.range n).all fun f => l.contains (g f)) = true) (hall : ∀ r ∈ l, P r) {f : Nat} (hf : f < n) : P (g f) := by
  have := all_range hm hf
  rw [List.contains_iff_mem] at this
  exact hall _ this
end Mine
end

section
open PySem PySem.W PyProof.Rows PySem.Builtin.Str PySem.Builtin
set_option maxRecDepth 100000
set_option linter.unusedVariables false
namespace Mine
theorem gd0 : GoodL [32, 32, 32, 9] 4 1 := good_end (by decide +kernel)
theorem fn4_1_0 : Fine [32, 32, 32, 9] 4 1 := ⟨by decide +kernel, by decide +kernel, gd0⟩
theorem mb4_1 : ((List.range 8).all fun f => ([[32, 32, 32, 9]] : List (List Nat)).contains (cutB (rhyB 4 1 f))) = true := by decide +kernel
theorem al4_1 {f : Nat} (hf : f < 8) : Fine (cutB (rhyB 4 1 f)) 4 1 := of_members (P := fun r => Fine r 4 1) mb4_1 (List.forall_mem_cons.mpr ⟨fn4_1_0, List.forall_mem_nil _⟩) hf
theorem gd1 : GoodL [32, 9, 32, 9] 4 2 := good_end (by decide +kernel)
theorem fn4_2_0 : Fine [32, 9, 32, 9] 4 2 := ⟨by decide +kernel, by decide +kernel, gd1⟩
theorem mb4_2 : ((List.range 8).all fun f => ([[32, 9, 32, 9]] : List (List Nat)).contains (cutB (rhyB 4 2 f))) = true := by decide +kernel
theorem al4_2 {f : Nat} (hf : f < 8) : Fine (cutB (rhyB 4 2 f)) 4 2 := of_members (P := fun r => Fine r 4 2) mb4_2 (List.forall_mem_cons.mpr ⟨fn4_2_0, List.forall_mem_nil _⟩) hf
theorem gd2 : GoodL [32, 32, 9] 3 1 := good_end (by decide +kernel)
theorem gd3 : GoodL [32, 9, 9, 9] 4 3 := good_next [9, 32, 32] (r2 := [32, 32, 9]) (s := 1) (by decide +kernel) gd2
theorem fn4_3_0 : Fine [32, 9, 9, 9] 4 3 := ⟨by decide +kernel, by decide +kernel, gd3⟩
theorem gd4 : GoodL [9, 32, 9, 9] 4 3 := good_next [32, 9, 32] (r2 := [32, 32, 9]) (s := 1) (by decide +kernel) gd2
theorem fn4_3_1 : Fine [9, 32, 9, 9] 4 3 := ⟨by decide +kernel, by decide +kernel, gd4⟩
theorem gd5 : GoodL [9, 9, 32, 9] 4 3 := good_next [32, 32, 9] (r2 := [32, 32, 9]) (s := 1) (by decide +kernel) gd2
theorem fn4_3_2 : Fine [9, 9, 32, 9] 4 3 := ⟨by decide +kernel, by decide +kernel, gd5⟩
theorem mb4_3 : ((List.range 8).all fun f => ([[32, 9, 9, 9], [9, 32, 9, 9], [9, 9, 32, 9]] : List (List Nat)).contains (cutB (rhyB 4 3 f))) = true := by decide +kernel
theorem al4_3 {f : Nat} (hf : f < 8) : Fine (cutB (rhyB 4 3 f)) 4 3 := of_members (P := fun r => Fine r 4 3) mb4_3 (List.forall_mem_cons.mpr ⟨fn4_3_0, List.forall_mem_cons.mpr ⟨fn4_3_1, List.forall_mem_cons.mpr ⟨fn4_3_2, List.forall_mem_nil _⟩⟩⟩) hf
theorem gd6 : GoodL [32, 32, 32, 32, 32, 32, 32, 9] 8 1 := good_end (by decide +kernel)
theorem fn8_1_0 : Fine [32, 32, 32, 32, 32, 32, 32, 9] 8 1 := ⟨by decide +kernel, by decide +kernel, gd6⟩
theorem mb8_1 : ((List.range 16).all fun f => ([[32, 32, 32, 32, 32, 32, 32, 9]] : List (List Nat)).contains (cutB (rhyB 8 1 f))) = true := by decide +kernel
theorem al8_1 {f : Nat} (hf : f < 16) : Fine (cutB (rhyB 8 1 f)) 8 1 := of_members (P := fun r => Fine r 8 1) mb8_1 (List.forall_mem_cons.mpr ⟨fn8_1_0, List.forall_mem_nil _⟩) hf
theorem gd7 : GoodL [32, 32, 32, 9, 32, 32, 32, 9] 8 2 := good_end (by decide +kernel)
theorem fn8_2_0 : Fine [32, 32, 32, 9, 32, 32, 32, 9] 8 2 := ⟨by decide +kernel, by decide +kernel, gd7⟩
theorem mb8_2 : ((List.range 16).all fun f => ([[32, 32, 32, 9, 32, 32, 32, 9]] : List (List Nat)).contains (cutB (rhyB 8 2 f))) = true := by decide +kernel
theorem al8_2 {f : Nat} (hf : f < 16) : Fine (cutB (rhyB 8 2 f)) 8 2 := of_members (P := fun r => Fine r 8 2) mb8_2 (List.forall_mem_cons.mpr ⟨fn8_2_0, List.forall_mem_nil _⟩) hf
theorem gd8 : GoodL [32, 9] 2 1 := good_end (by decide +kernel)
theorem gd9 : GoodL [32, 9, 9] 3 2 := good_next [9, 32] (r2 := [32, 9]) (s := 1) (by decide +kernel) gd8
theorem gd10 : GoodL [32, 32, 9, 32, 32, 9, 32, 9] 8 3 := good_next [9, 9, 32] (r2 := [32, 9, 9]) (s := 2) (by decide +kernel) gd9
theorem fn8_3_0 : Fine [32, 32, 9, 32, 32, 9, 32, 9] 8 3 := ⟨by decide +kernel, by decide +kernel, gd10⟩
theorem gd11 : GoodL [9, 32, 9] 3 2 := good_next [32, 9] (r2 := [32, 9]) (s := 1) (by decide +kernel) gd8
theorem gd12 : GoodL [32, 32, 9, 32, 9, 32, 32, 9] 8 3 := good_next [9, 32, 9] (r2 := [9, 32, 9]) (s := 2) (by decide +kernel) gd11
theorem fn8_3_1 : Fine [32, 32, 9, 32, 9, 32, 32, 9] 8 3 := ⟨by decide +kernel, by decide +kernel, gd12⟩
theorem gd13 : GoodL [32, 9, 32, 32, 9, 32, 32, 9] 8 3 := good_next [32, 9, 9] (r2 := [32, 9, 9]) (s := 2) (by decide +kernel) gd9
theorem fn8_3_2 : Fine [32, 9, 32, 32, 9, 32, 32, 9] 8 3 := ⟨by decide +kernel, by decide +kernel, gd13⟩
theorem mb8_3 : ((List.range 16).all fun f => ([[32, 32, 9, 32, 32, 9, 32, 9], [32, 32, 9, 32, 9, 32, 32, 9], [32, 9, 32, 32, 9, 32, 32, 9]] : List (List Nat)).contains (cutB (rhyB 8 3 f))) = true := by decide +kernel
theorem al8_3 {f : Nat} (hf : f < 16) : Fine (cutB (rhyB 8 3 f)) 8 3 := of_members (P := fun r => Fine r 8 3) mb8_3 (List.forall_mem_cons.mpr ⟨fn8_3_0, List.forall_mem_cons.mpr ⟨fn8_3_1, List.forall_mem_cons.mpr ⟨fn8_3_2, List.forall_mem_nil _⟩⟩⟩) hf
theorem gd14 : GoodL [32, 9, 32, 9, 32, 9, 32, 9] 8 4 := good_end (by decide +kernel)
theorem fn8_4_0 : Fine [32, 9, 32, 9, 32, 9, 32, 9] 8 4 := ⟨by decide +kernel, by decide +kernel, gd14⟩
theorem mb8_4 : ((List.range 16).all fun f => ([[32, 9, 32, 9, 32, 9, 32, 9]] : List (List Nat)).contains (cutB (rhyB 8 4 f))) = true := by decide +kernel
theorem al8_4 {f : Nat} (hf : f < 16) : Fine (cutB (rhyB 8 4 f)) 8 4 := of_members (P := fun r => Fine r 8 4) mb8_4 (List.forall_mem_cons.mpr ⟨fn8_4_0, List.forall_mem_nil _⟩) hf
theorem gd15 : GoodL [32, 9, 9, 32, 9] 5 3 := good_next [9, 32, 9] (r2 := [9, 32, 9]) (s := 2) (by decide +kernel) gd11
theorem gd16 : GoodL [32, 9, 32, 9, 9, 32, 9, 9] 8 5 := good_next [9, 9, 32, 9, 32] (r2 := [32, 9, 9, 32, 9]) (s := 3) (by decide +kernel) gd15
theorem fn8_5_0 : Fine [32, 9, 32, 9, 9, 32, 9, 9] 8 5 := ⟨by decide +kernel, by decide +kernel, gd16⟩
theorem gd17 : GoodL [32, 9, 32, 9, 9] 5 3 := good_next [9, 9, 32] (r2 := [32, 9, 9]) (s := 2) (by decide +kernel) gd9
theorem gd18 : GoodL [32, 9, 9, 32, 9, 32, 9, 9] 8 5 := good_next [9, 32, 9, 9, 32] (r2 := [32, 9, 32, 9, 9]) (s := 3) (by decide +kernel) gd17
theorem fn8_5_1 : Fine [32, 9, 9, 32, 9, 32, 9, 9] 8 5 := ⟨by decide +kernel, by decide +kernel, gd18⟩
theorem gd19 : GoodL [9, 32, 9, 32, 9] 5 3 := good_next [32, 9, 9] (r2 := [32, 9, 9]) (s := 2) (by decide +kernel) gd9
theorem gd20 : GoodL [32, 9, 9, 32, 9, 9, 32, 9] 8 5 := good_next [9, 32, 9, 32, 9] (r2 := [9, 32, 9, 32, 9]) (s := 3) (by decide +kernel) gd19
theorem fn8_5_2 : Fine [32, 9, 9, 32, 9, 9, 32, 9] 8 5 := ⟨by decide +kernel, by decide +kernel, gd20⟩
theorem gd21 : GoodL [9, 32, 9, 32, 9, 9, 32, 9] 8 5 := good_next [32, 9, 9, 32, 9] (r2 := [32, 9, 9, 32, 9]) (s := 3) (by decide +kernel) gd15
theorem fn8_5_3 : Fine [9, 32, 9, 32, 9, 9, 32, 9] 8 5 := ⟨by decide +kernel, by decide +kernel, gd21⟩
theorem gd22 : GoodL [9, 32, 9, 9, 32, 9, 32, 9] 8 5 := good_next [32, 9, 32, 9, 9] (r2 := [32, 9, 32, 9, 9]) (s := 3) (by decide +kernel) gd17
theorem fn8_5_4 : Fine [9, 32, 9, 9, 32, 9, 32, 9] 8 5 := ⟨by decide +kernel, by decide +kernel, gd22⟩
theorem mb8_5 : ((List.range 16).all fun f => ([[32, 9, 32, 9, 9, 32, 9, 9], [32, 9, 9, 32, 9, 32, 9, 9], [32, 9, 9, 32, 9, 9, 32, 9], [9, 32, 9, 32, 9, 9, 32, 9], [9, 32, 9, 9, 32, 9, 32, 9]] : List (List Nat)).contains (cutB (rhyB 8 5 f))) = true := by decide +kernel
theorem al8_5 {f : Nat} (hf : f < 16) : Fine (cutB (rhyB 8 5 f)) 8 5 := of_members (P := fun r => Fine r 8 5) mb8_5 (List.forall_mem_cons.mpr ⟨fn8_5_0, List.forall_mem_cons.mpr ⟨fn8_5_1, List.forall_mem_cons.mpr ⟨fn8_5_2, List.forall_mem_cons.mpr ⟨fn8_5_3, List.forall_mem_cons.mpr ⟨fn8_5_4, List.forall_mem_nil _⟩⟩⟩⟩⟩) hf
theorem gd23 : GoodL [32, 32, 9, 32, 32, 9] 6 2 := good_end (by decide +kernel)
theorem gd24 : GoodL [32, 9, 9, 9, 32, 9, 9, 9] 8 6 := good_next [9, 32, 32, 9, 32, 32] (r2 := [32, 32, 9, 32, 32, 9]) (s := 2) (by decide +kernel) gd23
theorem fn8_6_0 : Fine [32, 9, 9, 9, 32, 9, 9, 9] 8 6 := ⟨by decide +kernel, by decide +kernel, gd24⟩
theorem gd25 : GoodL [9, 32, 9, 9, 9, 32, 9, 9] 8 6 := good_next [32, 9, 32, 32, 9, 32] (r2 := [32, 32, 9, 32, 32, 9]) (s := 2) (by decide +kernel) gd23
theorem fn8_6_1 : Fine [9, 32, 9, 9, 9, 32, 9, 9] 8 6 := ⟨by decide +kernel, by decide +kernel, gd25⟩
theorem gd26 : GoodL [9, 9, 32, 9, 9, 9, 32, 9] 8 6 := good_next [32, 32, 9, 32, 32, 9] (r2 := [32, 32, 9, 32, 32, 9]) (s := 2) (by decide +kernel) gd23
theorem fn8_6_2 : Fine [9, 9, 32, 9, 9, 9, 32, 9] 8 6 := ⟨by decide +kernel, by decide +kernel, gd26⟩
theorem mb8_6 : ((List.range 16).all fun f => ([[32, 9, 9, 9, 32, 9, 9, 9], [9, 32, 9, 9, 9, 32, 9, 9], [9, 9, 32, 9, 9, 9, 32, 9]] : List (List Nat)).contains (cutB (rhyB 8 6 f))) = true := by decide +kernel
theorem al8_6 {f : Nat} (hf : f < 16) : Fine (cutB (rhyB 8 6 f)) 8 6 := of_members (P := fun r => Fine r 8 6) mb8_6 (List.forall_mem_cons.mpr ⟨fn8_6_0, List.forall_mem_cons.mpr ⟨fn8_6_1, List.forall_mem_cons.mpr ⟨fn8_6_2, List.forall_mem_nil _⟩⟩⟩) hf
theorem gd27 : GoodL [32, 32, 32, 32, 32, 32, 9] 7 1 := good_end (by decide +kernel)
theorem gd28 : GoodL [32, 9, 9, 9, 9, 9, 9, 9] 8 7 := good_next [9, 32, 32, 32, 32, 32, 32] (r2 := [32, 32, 32, 32, 32, 32, 9]) (s := 1) (by decide +kernel) gd27
theorem fn8_7_0 : Fine [32, 9, 9, 9, 9, 9, 9, 9] 8 7 := ⟨by decide +kernel, by decide +kernel, gd28⟩
theorem gd29 : GoodL [9, 32, 9, 9, 9, 9, 9, 9] 8 7 := good_next [32, 9, 32, 32, 32, 32, 32] (r2 := [32, 32, 32, 32, 32, 32, 9]) (s := 1) (by decide +kernel) gd27
theorem fn8_7_1 : Fine [9, 32, 9, 9, 9, 9, 9, 9] 8 7 := ⟨by decide +kernel, by decide +kernel, gd29⟩
theorem gd30 : GoodL [9, 9, 32, 9, 9, 9, 9, 9] 8 7 := good_next [32, 32, 9, 32, 32, 32, 32] (r2 := [32, 32, 32, 32, 32, 32, 9]) (s := 1) (by decide +kernel) gd27
theorem fn8_7_2 : Fine [9, 9, 32, 9, 9, 9, 9, 9] 8 7 := ⟨by decide +kernel, by decide +kernel, gd30⟩
theorem gd31 : GoodL [9, 9, 9, 32, 9, 9, 9, 9] 8 7 := good_next [32, 32, 32, 9, 32, 32, 32] (r2 := [32, 32, 32, 32, 32, 32, 9]) (s := 1) (by decide +kernel) gd27
theorem fn8_7_3 : Fine [9, 9, 9, 32, 9, 9, 9, 9] 8 7 := ⟨by decide +kernel, by decide +kernel, gd31⟩
theorem gd32 : GoodL [9, 9, 9, 9, 32, 9, 9, 9] 8 7 := good_next [32, 32, 32, 32, 9, 32, 32] (r2 := [32, 32, 32, 32, 32, 32, 9]) (s := 1) (by decide +kernel) gd27
theorem fn8_7_4 : Fine [9, 9, 9, 9, 32, 9, 9, 9] 8 7 := ⟨by decide +kernel, by decide +kernel, gd32⟩
theorem gd33 : GoodL [9, 9, 9, 9, 9, 32, 9, 9] 8 7 := good_next [32, 32, 32, 32, 32, 9, 32] (r2 := [32, 32, 32, 32, 32, 32, 9]) (s := 1) (by decide +kernel) gd27
theorem fn8_7_5 : Fine [9, 9, 9, 9, 9, 32, 9, 9] 8 7 := ⟨by decide +kernel, by decide +kernel, gd33⟩
theorem gd34 : GoodL [9, 9, 9, 9, 9, 9, 32, 9] 8 7 := good_next [32, 32, 32, 32, 32, 32, 9] (r2 := [32, 32, 32, 32, 32, 32, 9]) (s := 1) (by decide +kernel) gd27
theorem fn8_7_6 : Fine [9, 9, 9, 9, 9, 9, 32, 9] 8 7 := ⟨by decide +kernel, by decide +kernel, gd34⟩
theorem mb8_7 : ((List.range 16).all fun f => ([[32, 9, 9, 9, 9, 9, 9, 9], [9, 32, 9, 9, 9, 9, 9, 9], [9, 9, 32, 9, 9, 9, 9, 9], [9, 9, 9, 32, 9, 9, 9, 9], [9, 9, 9, 9, 32, 9, 9, 9], [9, 9, 9, 9, 9, 32, 9, 9], [9, 9, 9, 9, 9, 9, 32, 9]] : List (List Nat)).contains (cutB (rhyB 8 7 f))) = true := by decide +kernel
theorem al8_7 {f : Nat} (hf : f < 16) : Fine (cutB (rhyB 8 7 f)) 8 7 := of_members (P := fun r => Fine r 8 7) mb8_7 (List.forall_mem_cons.mpr ⟨fn8_7_0, List.forall_mem_cons.mpr ⟨fn8_7_1, List.forall_mem_cons.mpr ⟨fn8_7_2, List.forall_mem_cons.mpr ⟨fn8_7_3, List.forall_mem_cons.mpr ⟨fn8_7_4, List.forall_mem_cons.mpr ⟨fn8_7_5, List.forall_mem_cons.mpr ⟨fn8_7_6, List.forall_mem_nil _⟩⟩⟩⟩⟩⟩⟩) hf
theorem gd35 : GoodL [32, 32, 32, 32, 32, 32, 32, 32, 32, 32, 32, 32, 32, 32, 32, 9] 16 1 := good_end (by decide +kernel)
theorem fn16_1_0 : Fine [32, 32, 32, 32, 32, 32, 32, 32, 32, 32, 32, 32, 32, 32, 32, 9] 16 1 := ⟨by decide +kernel, by decide +kernel, gd35⟩
theorem mb16_1 : ((List.range 32).all fun f => ([[32, 32, 32, 32, 32, 32, 32, 32, 32, 32, 32, 32, 32, 32, 32, 9]] : List (List Nat)).contains (cutB (rhyB 16 1 f))) = true := by decide +kernel
theorem al16_1 {f : Nat} (hf : f < 32) : Fine (cutB (rhyB 16 1 f)) 16 1 := of_members (P := fun r => Fine r 16 1) mb16_1 (List.forall_mem_cons.mpr ⟨fn16_1_0, List.forall_mem_nil _⟩) hf
theorem gd36 : GoodL [32, 32, 32, 32, 32, 32, 32, 9, 32, 32, 32, 32, 32, 32, 32, 9] 16 2 := good_end (by decide +kernel)
theorem fn16_2_0 : Fine [32, 32, 32, 32, 32, 32, 32, 9, 32, 32, 32, 32, 32, 32, 32, 9] 16 2 := ⟨by decide +kernel, by decide +kernel, gd36⟩
theorem mb16_2 : ((List.range 32).all fun f => ([[32, 32, 32, 32, 32, 32, 32, 9, 32, 32, 32, 32, 32, 32, 32, 9]] : List (List Nat)).contains (cutB (rhyB 16 2 f))) = true := by decide +kernel
theorem al16_2 {f : Nat} (hf : f < 32) : Fine (cutB (rhyB 16 2 f)) 16 2 := of_members (P := fun r => Fine r 16 2) mb16_2 (List.forall_mem_cons.mpr ⟨fn16_2_0, List.forall_mem_nil _⟩) hf
theorem gd37 : GoodL [32, 32, 32, 32, 32, 9, 32, 32, 32, 32, 9, 32, 32, 32, 32, 9] 16 3 := good_next [9, 32, 32] (r2 := [32, 32, 9]) (s := 1) (by decide +kernel) gd2
theorem fn16_3_0 : Fine [32, 32, 32, 32, 32, 9, 32, 32, 32, 32, 9, 32, 32, 32, 32, 9] 16 3 := ⟨by decide +kernel, by decide +kernel, gd37⟩
theorem gd38 : GoodL [32, 32, 32, 32, 9, 32, 32, 32, 32, 32, 9, 32, 32, 32, 32, 9] 16 3 := good_next [32, 9, 32] (r2 := [32, 32, 9]) (s := 1) (by decide +kernel) gd2
theorem fn16_3_1 : Fine [32, 32, 32, 32, 9, 32, 32, 32, 32, 32, 9, 32, 32, 32, 32, 9] 16 3 := ⟨by decide +kernel, by decide +kernel, gd38⟩
theorem gd39 : GoodL [32, 32, 32, 32, 9, 32, 32, 32, 32, 9, 32, 32, 32, 32, 32, 9] 16 3 := good_next [32, 32, 9] (r2 := [32, 32, 9]) (s := 1) (by decide +kernel) gd2
theorem fn16_3_2 : Fine [32, 32, 32, 32, 9, 32, 32, 32, 32, 9, 32, 32, 32, 32, 32, 9] 16 3 := ⟨by decide +kernel, by decide +kernel, gd39⟩
theorem mb16_3 : ((List.range 32).all fun f => ([[32, 32, 32, 32, 32, 9, 32, 32, 32, 32, 9, 32, 32, 32, 32, 9], [32, 32, 32, 32, 9, 32, 32, 32, 32, 32, 9, 32, 32, 32, 32, 9], [32, 32, 32, 32, 9, 32, 32, 32, 32, 9, 32, 32, 32, 32, 32, 9]] : List (List Nat)).contains (cutB (rhyB 16 3 f))) = true := by decide +kernel
theorem al16_3 {f : Nat} (hf : f < 32) : Fine (cutB (rhyB 16 3 f)) 16 3 := of_members (P := fun r => Fine r 16 3) mb16_3 (List.forall_mem_cons.mpr ⟨fn16_3_0, List.forall_mem_cons.mpr ⟨fn16_3_1, List.forall_mem_cons.mpr ⟨fn16_3_2, List.forall_mem_nil _⟩⟩⟩) hf
theorem gd40 : GoodL [32, 32, 32, 9, 32, 32, 32, 9, 32, 32, 32, 9, 32, 32, 32, 9] 16 4 := good_end (by decide +kernel)
theorem fn16_4_0 : Fine [32, 32, 32, 9, 32, 32, 32, 9, 32, 32, 32, 9, 32, 32, 32, 9] 16 4 := ⟨by decide +kernel, by decide +kernel, gd40⟩
theorem mb16_4 : ((List.range 32).all fun f => ([[32, 32, 32, 9, 32, 32, 32, 9, 32, 32, 32, 9, 32, 32, 32, 9]] : List (List Nat)).contains (cutB (rhyB 16 4 f))) = true := by decide +kernel
theorem al16_4 {f : Nat} (hf : f < 32) : Fine (cutB (rhyB 16 4 f)) 16 4 := of_members (P := fun r => Fine r 16 4) mb16_4 (List.forall_mem_cons.mpr ⟨fn16_4_0, List.forall_mem_nil _⟩) hf
theorem gd41 : GoodL [32, 32, 32, 32, 9] 5 1 := good_end (by decide +kernel)
theorem gd42 : GoodL [32, 32, 32, 9, 32, 32, 9, 32, 32, 9, 32, 32, 9, 32, 32, 9] 16 5 := good_next [9, 32, 32, 32, 32] (r2 := [32, 32, 32, 32, 9]) (s := 1) (by decide +kernel) gd41
theorem fn16_5_0 : Fine [32, 32, 32, 9, 32, 32, 9, 32, 32, 9, 32, 32, 9, 32, 32, 9] 16 5 := ⟨by decide +kernel, by decide +kernel, gd42⟩
theorem gd43 : GoodL [32, 32, 9, 32, 32, 32, 9, 32, 32, 9, 32, 32, 9, 32, 32, 9] 16 5 := good_next [32, 9, 32, 32, 32] (r2 := [32, 32, 32, 32, 9]) (s := 1) (by decide +kernel) gd41
theorem fn16_5_1 : Fine [32, 32, 9, 32, 32, 32, 9, 32, 32, 9, 32, 32, 9, 32, 32, 9] 16 5 := ⟨by decide +kernel, by decide +kernel, gd43⟩
theorem gd44 : GoodL [32, 32, 9, 32, 32, 9, 32, 32, 32, 9, 32, 32, 9, 32, 32, 9] 16 5 := good_next [32, 32, 9, 32, 32] (r2 := [32, 32, 32, 32, 9]) (s := 1) (by decide +kernel) gd41
theorem fn16_5_2 : Fine [32, 32, 9, 32, 32, 9, 32, 32, 32, 9, 32, 32, 9, 32, 32, 9] 16 5 := ⟨by decide +kernel, by decide +kernel, gd44⟩
theorem gd45 : GoodL [32, 32, 9, 32, 32, 9, 32, 32, 9, 32, 32, 32, 9, 32, 32, 9] 16 5 := good_next [32, 32, 32, 9, 32] (r2 := [32, 32, 32, 32, 9]) (s := 1) (by decide +kernel) gd41
theorem fn16_5_3 : Fine [32, 32, 9, 32, 32, 9, 32, 32, 9, 32, 32, 32, 9, 32, 32, 9] 16 5 := ⟨by decide +kernel, by decide +kernel, gd45⟩
theorem gd46 : GoodL [32, 32, 9, 32, 32, 9, 32, 32, 9, 32, 32, 9, 32, 32, 32, 9] 16 5 := good_next [32, 32, 32, 32, 9] (r2 := [32, 32, 32, 32, 9]) (s := 1) (by decide +kernel) gd41
theorem fn16_5_4 : Fine [32, 32, 9, 32, 32, 9, 32, 32, 9, 32, 32, 9, 32, 32, 32, 9] 16 5 := ⟨by decide +kernel, by decide +kernel, gd46⟩
theorem mb16_5 : ((List.range 32).all fun f => ([[32, 32, 32, 9, 32, 32, 9, 32, 32, 9, 32, 32, 9, 32, 32, 9], [32, 32, 9, 32, 32, 32, 9, 32, 32, 9, 32, 32, 9, 32, 32, 9], [32, 32, 9, 32, 32, 9, 32, 32, 32, 9, 32, 32, 9, 32, 32, 9], [32, 32, 9, 32, 32, 9, 32, 32, 9, 32, 32, 32, 9, 32, 32, 9], [32, 32, 9, 32, 32, 9, 32, 32, 9, 32, 32, 9, 32, 32, 32, 9]] : List (List Nat)).contains (cutB (rhyB 16 5 f))) = true := by decide +kernel
theorem al16_5 {f : Nat} (hf : f < 32) : Fine (cutB (rhyB 16 5 f)) 16 5 := of_members (P := fun r => Fine r 16 5) mb16_5 (List.forall_mem_cons.mpr ⟨fn16_5_0, List.forall_mem_cons.mpr ⟨fn16_5_1, List.forall_mem_cons.mpr ⟨fn16_5_2, List.forall_mem_cons.mpr ⟨fn16_5_3, List.forall_mem_cons.mpr ⟨fn16_5_4, List.forall_mem_nil _⟩⟩⟩⟩⟩) hf
theorem gd47 : GoodL [32, 9, 9, 32, 9, 9] 6 4 := good_next [9, 32, 9, 32] (r2 := [32, 9, 32, 9]) (s := 2) (by decide +kernel) gd1
theorem gd48 : GoodL [32, 32, 9, 32, 32, 9, 32, 9, 32, 32, 9, 32, 32, 9, 32, 9] 16 6 := good_next [9, 9, 32, 9, 9, 32] (r2 := [32, 9, 9, 32, 9, 9]) (s := 4) (by decide +kernel) gd47
theorem fn16_6_0 : Fine [32, 32, 9, 32, 32, 9, 32, 9, 32, 32, 9, 32, 32, 9, 32, 9] 16 6 := ⟨by decide +kernel, by decide +kernel, gd48⟩
theorem gd49 : GoodL [9, 32, 9, 9, 32, 9] 6 4 := good_next [32, 9, 32, 9] (r2 := [32, 9, 32, 9]) (s := 2) (by decide +kernel) gd1
theorem gd50 : GoodL [32, 32, 9, 32, 9, 32, 32, 9, 32, 32, 9, 32, 9, 32, 32, 9] 16 6 := good_next [9, 32, 9, 9, 32, 9] (r2 := [9, 32, 9, 9, 32, 9]) (s := 4) (by decide +kernel) gd49
theorem fn16_6_1 : Fine [32, 32, 9, 32, 9, 32, 32, 9, 32, 32, 9, 32, 9, 32, 32, 9] 16 6 := ⟨by decide +kernel, by decide +kernel, gd50⟩
theorem gd51 : GoodL [32, 9, 32, 32, 9, 32, 32, 9, 32, 9, 32, 32, 9, 32, 32, 9] 16 6 := good_next [32, 9, 9, 32, 9, 9] (r2 := [32, 9, 9, 32, 9, 9]) (s := 4) (by decide +kernel) gd47
theorem fn16_6_2 : Fine [32, 9, 32, 32, 9, 32, 32, 9, 32, 9, 32, 32, 9, 32, 32, 9] 16 6 := ⟨by decide +kernel, by decide +kernel, gd51⟩
theorem mb16_6 : ((List.range 32).all fun f => ([[32, 32, 9, 32, 32, 9, 32, 9, 32, 32, 9, 32, 32, 9, 32, 9], [32, 32, 9, 32, 9, 32, 32, 9, 32, 32, 9, 32, 9, 32, 32, 9], [32, 9, 32, 32, 9, 32, 32, 9, 32, 9, 32, 32, 9, 32, 32, 9]] : List (List Nat)).contains (cutB (rhyB 16 6 f))) = true := by decide +kernel
theorem al16_6 {f : Nat} (hf : f < 32) : Fine (cutB (rhyB 16 6 f)) 16 6 := of_members (P := fun r => Fine r 16 6) mb16_6 (List.forall_mem_cons.mpr ⟨fn16_6_0, List.forall_mem_cons.mpr ⟨fn16_6_1, List.forall_mem_cons.mpr ⟨fn16_6_2, List.forall_mem_nil _⟩⟩⟩) hf
theorem gd52 : GoodL [32, 32, 32, 9, 32, 32, 9] 7 2 := good_next [9, 32] (r2 := [32, 9]) (s := 1) (by decide +kernel) gd8
theorem gd53 : GoodL [32, 32, 9, 32, 9, 32, 9, 32, 32, 9, 32, 9, 32, 9, 32, 9] 16 7 := good_next [9, 32, 32, 9, 32, 32, 32] (r2 := [32, 32, 32, 9, 32, 32, 9]) (s := 2) (by decide +kernel) gd52
theorem fn16_7_0 : Fine [32, 32, 9, 32, 9, 32, 9, 32, 32, 9, 32, 9, 32, 9, 32, 9] 16 7 := ⟨by decide +kernel, by decide +kernel, gd53⟩
theorem gd54 : GoodL [32, 32, 9, 32, 32, 32, 9] 7 2 := good_next [32, 9] (r2 := [32, 9]) (s := 1) (by decide +kernel) gd8
theorem gd55 : GoodL [32, 32, 9, 32, 9, 32, 9, 32, 9, 32, 32, 9, 32, 9, 32, 9] 16 7 := good_next [9, 32, 32, 32, 9, 32, 32] (r2 := [32, 32, 9, 32, 32, 32, 9]) (s := 2) (by decide +kernel) gd54
theorem fn16_7_1 : Fine [32, 32, 9, 32, 9, 32, 9, 32, 9, 32, 32, 9, 32, 9, 32, 9] 16 7 := ⟨by decide +kernel, by decide +kernel, gd55⟩
theorem gd56 : GoodL [32, 9, 32, 32, 9, 32, 9, 32, 9, 32, 32, 9, 32, 9, 32, 9] 16 7 := good_next [32, 9, 32, 32, 9, 32, 32] (r2 := [32, 32, 32, 9, 32, 32, 9]) (s := 2) (by decide +kernel) gd52
theorem fn16_7_2 : Fine [32, 9, 32, 32, 9, 32, 9, 32, 9, 32, 32, 9, 32, 9, 32, 9] 16 7 := ⟨by decide +kernel, by decide +kernel, gd56⟩
theorem gd57 : GoodL [32, 9, 32, 32, 9, 32, 9, 32, 9, 32, 9, 32, 32, 9, 32, 9] 16 7 := good_next [32, 9, 32, 32, 32, 9, 32] (r2 := [32, 32, 9, 32, 32, 32, 9]) (s := 2) (by decide +kernel) gd54
theorem fn16_7_3 : Fine [32, 9, 32, 32, 9, 32, 9, 32, 9, 32, 9, 32, 32, 9, 32, 9] 16 7 := ⟨by decide +kernel, by decide +kernel, gd57⟩
theorem gd58 : GoodL [32, 9, 32, 9, 32, 32, 9, 32, 9, 32, 9, 32, 32, 9, 32, 9] 16 7 := good_next [32, 32, 9, 32, 32, 9, 32] (r2 := [32, 32, 32, 9, 32, 32, 9]) (s := 2) (by decide +kernel) gd52
theorem fn16_7_4 : Fine [32, 9, 32, 9, 32, 32, 9, 32, 9, 32, 9, 32, 32, 9, 32, 9] 16 7 := ⟨by decide +kernel, by decide +kernel, gd58⟩
theorem gd59 : GoodL [32, 9, 32, 9, 32, 32, 9, 32, 9, 32, 9, 32, 9, 32, 32, 9] 16 7 := good_next [32, 32, 9, 32, 32, 32, 9] (r2 := [32, 32, 9, 32, 32, 32, 9]) (s := 2) (by decide +kernel) gd54
theorem fn16_7_5 : Fine [32, 9, 32, 9, 32, 32, 9, 32, 9, 32, 9, 32, 9, 32, 32, 9] 16 7 := ⟨by decide +kernel, by decide +kernel, gd59⟩
theorem gd60 : GoodL [32, 9, 32, 9, 32, 9, 32, 32, 9, 32, 9, 32, 9, 32, 32, 9] 16 7 := good_next [32, 32, 32, 9, 32, 32, 9] (r2 := [32, 32, 32, 9, 32, 32, 9]) (s := 2) (by decide +kernel) gd52
theorem fn16_7_6 : Fine [32, 9, 32, 9, 32, 9, 32, 32, 9, 32, 9, 32, 9, 32, 32, 9] 16 7 := ⟨by decide +kernel, by decide +kernel, gd60⟩
theorem mb16_7 : ((List.range 32).all fun f => ([[32, 32, 9, 32, 9, 32, 9, 32, 32, 9, 32, 9, 32, 9, 32, 9], [32, 32, 9, 32, 9, 32, 9, 32, 9, 32, 32, 9, 32, 9, 32, 9], [32, 9, 32, 32, 9, 32, 9, 32, 9, 32, 32, 9, 32, 9, 32, 9], [32, 9, 32, 32, 9, 32, 9, 32, 9, 32, 9, 32, 32, 9, 32, 9], [32, 9, 32, 9, 32, 32, 9, 32, 9, 32, 9, 32, 32, 9, 32, 9], [32, 9, 32, 9, 32, 32, 9, 32, 9, 32, 9, 32, 9, 32, 32, 9], [32, 9, 32, 9, 32, 9, 32, 32, 9, 32, 9, 32, 9, 32, 32, 9]] : List (List Nat)).contains (cutB (rhyB 16 7 f))) = true := by decide +kernel
theorem al16_7 {f : Nat} (hf : f < 32) : Fine (cutB (rhyB 16 7 f)) 16 7 := of_members (P := fun r => Fine r 16 7) mb16_7 (List.forall_mem_cons.mpr ⟨fn16_7_0, List.forall_mem_cons.mpr ⟨fn16_7_1, List.forall_mem_cons.mpr ⟨fn16_7_2, List.forall_mem_cons.mpr ⟨fn16_7_3, List.forall_mem_cons.mpr ⟨fn16_7_4, List.forall_mem_cons.mpr ⟨fn16_7_5, List.forall_mem_cons.mpr ⟨fn16_7_6, List.forall_mem_nil _⟩⟩⟩⟩⟩⟩⟩) hf
theorem gd61 : GoodL [32, 9, 32, 9, 32, 9, 32, 9, 32, 9, 32, 9, 32, 9, 32, 9] 16 8 := good_end (by decide +kernel)
theorem fn16_8_0 : Fine [32, 9, 32, 9, 32, 9, 32, 9, 32, 9, 32, 9, 32, 9, 32, 9] 16 8 := ⟨by decide +kernel, by decide +kernel, gd61⟩
theorem mb16_8 : ((List.range 32).all fun f => ([[32, 9, 32, 9, 32, 9, 32, 9, 32, 9, 32, 9, 32, 9, 32, 9]] : List (List Nat)).contains (cutB (rhyB 16 8 f))) = true := by decide +kernel
theorem al16_8 {f : Nat} (hf : f < 32) : Fine (cutB (rhyB 16 8 f)) 16 8 := of_members (P := fun r => Fine r 16 8) mb16_8 (List.forall_mem_cons.mpr ⟨fn16_8_0, List.forall_mem_nil _⟩) hf
theorem gd62 : GoodL [32, 9, 9, 9, 9, 32, 9, 9, 9] 9 7 := good_next [9, 32, 32, 32, 9, 32, 32] (r2 := [32, 32, 9, 32, 32, 32, 9]) (s := 2) (by decide +kernel) gd54
theorem gd63 : GoodL [32, 9, 32, 9, 32, 9, 32, 9, 9, 32, 9, 32, 9, 32, 9, 9] 16 9 := good_next [9, 9, 9, 9, 32, 9, 9, 9, 32] (r2 := [32, 9, 9, 9, 9, 32, 9, 9, 9]) (s := 7) (by decide +kernel) gd62
theorem fn16_9_0 : Fine [32, 9, 32, 9, 32, 9, 32, 9, 9, 32, 9, 32, 9, 32, 9, 9] 16 9 := ⟨by decide +kernel, by decide +kernel, gd63⟩
theorem gd64 : GoodL [32, 9, 9, 9, 32, 9, 9, 9, 9] 9 7 := good_next [9, 32, 32, 9, 32, 32, 32] (r2 := [32, 32, 32, 9, 32, 32, 9]) (s := 2) (by decide +kernel) gd52
theorem gd65 : GoodL [32, 9, 32, 9, 32, 9, 9, 32, 9, 32, 9, 32, 9, 32, 9, 9] 16 9 := good_next [9, 9, 9, 32, 9, 9, 9, 9, 32] (r2 := [32, 9, 9, 9, 32, 9, 9, 9, 9]) (s := 7) (by decide +kernel) gd64
theorem fn16_9_1 : Fine [32, 9, 32, 9, 32, 9, 9, 32, 9, 32, 9, 32, 9, 32, 9, 9] 16 9 := ⟨by decide +kernel, by decide +kernel, gd65⟩
theorem gd66 : GoodL [9, 9, 9, 32, 9, 9, 9, 32, 9] 9 7 := good_next [32, 32, 32, 9, 32, 32, 9] (r2 := [32, 32, 32, 9, 32, 32, 9]) (s := 2) (by decide +kernel) gd52
theorem gd67 : GoodL [32, 9, 32, 9, 32, 9, 9, 32, 9, 32, 9, 32, 9, 9, 32, 9] 16 9 := good_next [9, 9, 9, 32, 9, 9, 9, 32, 9] (r2 := [9, 9, 9, 32, 9, 9, 9, 32, 9]) (s := 7) (by decide +kernel) gd66
theorem fn16_9_2 : Fine [32, 9, 32, 9, 32, 9, 9, 32, 9, 32, 9, 32, 9, 9, 32, 9] 16 9 := ⟨by decide +kernel, by decide +kernel, gd67⟩
theorem gd68 : GoodL [9, 9, 32, 9, 9, 9, 9, 32, 9] 9 7 := good_next [32, 32, 9, 32, 32, 32, 9] (r2 := [32, 32, 9, 32, 32, 32, 9]) (s := 2) (by decide +kernel) gd54
theorem gd69 : GoodL [32, 9, 32, 9, 9, 32, 9, 32, 9, 32, 9, 32, 9, 9, 32, 9] 16 9 := good_next [9, 9, 32, 9, 9, 9, 9, 32, 9] (r2 := [9, 9, 32, 9, 9, 9, 9, 32, 9]) (s := 7) (by decide +kernel) gd68
theorem fn16_9_3 : Fine [32, 9, 32, 9, 9, 32, 9, 32, 9, 32, 9, 32, 9, 9, 32, 9] 16 9 := ⟨by decide +kernel, by decide +kernel, gd69⟩
theorem gd70 : GoodL [9, 9, 32, 9, 9, 9, 32, 9, 9] 9 7 := good_next [32, 32, 9, 32, 32, 9, 32] (r2 := [32, 32, 32, 9, 32, 32, 9]) (s := 2) (by decide +kernel) gd52
theorem gd71 : GoodL [32, 9, 32, 9, 9, 32, 9, 32, 9, 32, 9, 9, 32, 9, 32, 9] 16 9 := good_next [9, 9, 32, 9, 9, 9, 32, 9, 9] (r2 := [9, 9, 32, 9, 9, 9, 32, 9, 9]) (s := 7) (by decide +kernel) gd70
theorem fn16_9_4 : Fine [32, 9, 32, 9, 9, 32, 9, 32, 9, 32, 9, 9, 32, 9, 32, 9] 16 9 := ⟨by decide +kernel, by decide +kernel, gd71⟩
theorem gd72 : GoodL [9, 32, 9, 9, 9, 9, 32, 9, 9] 9 7 := good_next [32, 9, 32, 32, 32, 9, 32] (r2 := [32, 32, 9, 32, 32, 32, 9]) (s := 2) (by decide +kernel) gd54
theorem gd73 : GoodL [32, 9, 9, 32, 9, 32, 9, 32, 9, 32, 9, 9, 32, 9, 32, 9] 16 9 := good_next [9, 32, 9, 9, 9, 9, 32, 9, 9] (r2 := [9, 32, 9, 9, 9, 9, 32, 9, 9]) (s := 7) (by decide +kernel) gd72
theorem fn16_9_5 : Fine [32, 9, 9, 32, 9, 32, 9, 32, 9, 32, 9, 9, 32, 9, 32, 9] 16 9 := ⟨by decide +kernel, by decide +kernel, gd73⟩
theorem gd74 : GoodL [9, 32, 9, 9, 9, 32, 9, 9, 9] 9 7 := good_next [32, 9, 32, 32, 9, 32, 32] (r2 := [32, 32, 32, 9, 32, 32, 9]) (s := 2) (by decide +kernel) gd52
theorem gd75 : GoodL [32, 9, 9, 32, 9, 32, 9, 32, 9, 9, 32, 9, 32, 9, 32, 9] 16 9 := good_next [9, 32, 9, 9, 9, 32, 9, 9, 9] (r2 := [9, 32, 9, 9, 9, 32, 9, 9, 9]) (s := 7) (by decide +kernel) gd74
theorem fn16_9_6 : Fine [32, 9, 9, 32, 9, 32, 9, 32, 9, 9, 32, 9, 32, 9, 32, 9] 16 9 := ⟨by decide +kernel, by decide +kernel, gd75⟩
theorem gd76 : GoodL [9, 32, 9, 32, 9, 32, 9, 32, 9, 9, 32, 9, 32, 9, 32, 9] 16 9 := good_next [32, 9, 9, 9, 9, 32, 9, 9, 9] (r2 := [32, 9, 9, 9, 9, 32, 9, 9, 9]) (s := 7) (by decide +kernel) gd62
theorem fn16_9_7 : Fine [9, 32, 9, 32, 9, 32, 9, 32, 9, 9, 32, 9, 32, 9, 32, 9] 16 9 := ⟨by decide +kernel, by decide +kernel, gd76⟩
theorem gd77 : GoodL [9, 32, 9, 32, 9, 32, 9, 9, 32, 9, 32, 9, 32, 9, 32, 9] 16 9 := good_next [32, 9, 9, 9, 32, 9, 9, 9, 9] (r2 := [32, 9, 9, 9, 32, 9, 9, 9, 9]) (s := 7) (by decide +kernel) gd64
theorem fn16_9_8 : Fine [9, 32, 9, 32, 9, 32, 9, 9, 32, 9, 32, 9, 32, 9, 32, 9] 16 9 := ⟨by decide +kernel, by decide +kernel, gd77⟩
theorem mb16_9 : ((List.range 32).all fun f => ([[32, 9, 32, 9, 32, 9, 32, 9, 9, 32, 9, 32, 9, 32, 9, 9], [32, 9, 32, 9, 32, 9, 9, 32, 9, 32, 9, 32, 9, 32, 9, 9], [32, 9, 32, 9, 32, 9, 9, 32, 9, 32, 9, 32, 9, 9, 32, 9], [32, 9, 32, 9, 9, 32, 9, 32, 9, 32, 9, 32, 9, 9, 32, 9], [32, 9, 32, 9, 9, 32, 9, 32, 9, 32, 9, 9, 32, 9, 32, 9], [32, 9, 9, 32, 9, 32, 9, 32, 9, 32, 9, 9, 32, 9, 32, 9], [32, 9, 9, 32, 9, 32, 9, 32, 9, 9, 32, 9, 32, 9, 32, 9], [9, 32, 9, 32, 9, 32, 9, 32, 9, 9, 32, 9, 32, 9, 32, 9], [9, 32, 9, 32, 9, 32, 9, 9, 32, 9, 32, 9, 32, 9, 32, 9]] : List (List Nat)).contains (cutB (rhyB 16 9 f))) = true := by decide +kernel
theorem al16_9 {f : Nat} (hf : f < 32) : Fine (cutB (rhyB 16 9 f)) 16 9 := of_members (P := fun r => Fine r 16 9) mb16_9 (List.forall_mem_cons.mpr ⟨fn16_9_0, List.forall_mem_cons.mpr ⟨fn16_9_1, List.forall_mem_cons.mpr ⟨fn16_9_2, List.forall_mem_cons.mpr ⟨fn16_9_3, List.forall_mem_cons.mpr ⟨fn16_9_4, List.forall_mem_cons.mpr ⟨fn16_9_5, List.forall_mem_cons.mpr ⟨fn16_9_6, List.forall_mem_cons.mpr ⟨fn16_9_7, List.forall_mem_cons.mpr ⟨fn16_9_8, List.forall_mem_nil _⟩⟩⟩⟩⟩⟩⟩⟩⟩) hf
theorem gd78 : GoodL [32, 9, 9, 32, 9, 32, 9, 9, 32, 9] 10 6 := good_next [9, 32, 9, 9, 32, 9] (r2 := [9, 32, 9, 9, 32, 9]) (s := 4) (by decide +kernel) gd49
theorem gd79 : GoodL [32, 9, 32, 9, 9, 32, 9, 9, 32, 9, 32, 9, 9, 32, 9, 9] 16 10 := good_next [9, 9, 32, 9, 32, 9, 9, 32, 9, 32] (r2 := [32, 9, 9, 32, 9, 32, 9, 9, 32, 9]) (s := 6) (by decide +kernel) gd78
theorem fn16_10_0 : Fine [32, 9, 32, 9, 9, 32, 9, 9, 32, 9, 32, 9, 9, 32, 9, 9] 16 10 := ⟨by decide +kernel, by decide +kernel, gd79⟩
theorem gd80 : GoodL [32, 9, 32, 9, 9, 32, 9, 32, 9, 9] 10 6 := good_next [9, 9, 32, 9, 9, 32] (r2 := [32, 9, 9, 32, 9, 9]) (s := 4) (by decide +kernel) gd47
theorem gd81 : GoodL [32, 9, 9, 32, 9, 32, 9, 9, 32, 9, 9, 32, 9, 32, 9, 9] 16 10 := good_next [9, 32, 9, 9, 32, 9, 32, 9, 9, 32] (r2 := [32, 9, 32, 9, 9, 32, 9, 32, 9, 9]) (s := 6) (by decide +kernel) gd80
theorem fn16_10_1 : Fine [32, 9, 9, 32, 9, 32, 9, 9, 32, 9, 9, 32, 9, 32, 9, 9] 16 10 := ⟨by decide +kernel, by decide +kernel, gd81⟩
theorem gd82 : GoodL [9, 32, 9, 32, 9, 9, 32, 9, 32, 9] 10 6 := good_next [32, 9, 9, 32, 9, 9] (r2 := [32, 9, 9, 32, 9, 9]) (s := 4) (by decide +kernel) gd47
theorem gd83 : GoodL [32, 9, 9, 32, 9, 9, 32, 9, 32, 9, 9, 32, 9, 9, 32, 9] 16 10 := good_next [9, 32, 9, 32, 9, 9, 32, 9, 32, 9] (r2 := [9, 32, 9, 32, 9, 9, 32, 9, 32, 9]) (s := 6) (by decide +kernel) gd82
theorem fn16_10_2 : Fine [32, 9, 9, 32, 9, 9, 32, 9, 32, 9, 9, 32, 9, 9, 32, 9] 16 10 := ⟨by decide +kernel, by decide +kernel, gd83⟩
theorem gd84 : GoodL [9, 32, 9, 32, 9, 9, 32, 9, 9, 32, 9, 32, 9, 9, 32, 9] 16 10 := good_next [32, 9, 9, 32, 9, 32, 9, 9, 32, 9] (r2 := [32, 9, 9, 32, 9, 32, 9, 9, 32, 9]) (s := 6) (by decide +kernel) gd78
theorem fn16_10_3 : Fine [9, 32, 9, 32, 9, 9, 32, 9, 9, 32, 9, 32, 9, 9, 32, 9] 16 10 := ⟨by decide +kernel, by decide +kernel, gd84⟩
theorem gd85 : GoodL [9, 32, 9, 9, 32, 9, 32, 9, 9, 32, 9, 9, 32, 9, 32, 9] 16 10 := good_next [32, 9, 32, 9, 9, 32, 9, 32, 9, 9] (r2 := [32, 9, 32, 9, 9, 32, 9, 32, 9, 9]) (s := 6) (by decide +kernel) gd80
theorem fn16_10_4 : Fine [9, 32, 9, 9, 32, 9, 32, 9, 9, 32, 9, 9, 32, 9, 32, 9] 16 10 := ⟨by decide +kernel, by decide +kernel, gd85⟩
theorem mb16_10 : ((List.range 32).all fun f => ([[32, 9, 32, 9, 9, 32, 9, 9, 32, 9, 32, 9, 9, 32, 9, 9], [32, 9, 9, 32, 9, 32, 9, 9, 32, 9, 9, 32, 9, 32, 9, 9], [32, 9, 9, 32, 9, 9, 32, 9, 32, 9, 9, 32, 9, 9, 32, 9], [9, 32, 9, 32, 9, 9, 32, 9, 9, 32, 9, 32, 9, 9, 32, 9], [9, 32, 9, 9, 32, 9, 32, 9, 9, 32, 9, 9, 32, 9, 32, 9]] : List (List Nat)).contains (cutB (rhyB 16 10 f))) = true := by decide +kernel
theorem al16_10 {f : Nat} (hf : f < 32) : Fine (cutB (rhyB 16 10 f)) 16 10 := of_members (P := fun r => Fine r 16 10) mb16_10 (List.forall_mem_cons.mpr ⟨fn16_10_0, List.forall_mem_cons.mpr ⟨fn16_10_1, List.forall_mem_cons.mpr ⟨fn16_10_2, List.forall_mem_cons.mpr ⟨fn16_10_3, List.forall_mem_cons.mpr ⟨fn16_10_4, List.forall_mem_nil _⟩⟩⟩⟩⟩) hf
theorem gd86 : GoodL [32, 32, 9, 32, 9, 32, 9, 32, 9, 32, 9] 11 5 := good_next [9, 32, 32, 32, 32] (r2 := [32, 32, 32, 32, 9]) (s := 1) (by decide +kernel) gd41
theorem gd87 : GoodL [32, 9, 9, 32, 9, 9, 32, 9, 9, 32, 9, 9, 32, 9, 9, 9] 16 11 := good_next [9, 32, 9, 32, 9, 32, 9, 32, 9, 32, 32] (r2 := [32, 32, 9, 32, 9, 32, 9, 32, 9, 32, 9]) (s := 5) (by decide +kernel) gd86
theorem fn16_11_0 : Fine [32, 9, 9, 32, 9, 9, 32, 9, 9, 32, 9, 9, 32, 9, 9, 9] 16 11 := ⟨by decide +kernel, by decide +kernel, gd87⟩
theorem gd88 : GoodL [32, 9, 32, 9, 32, 9, 32, 9, 32, 32, 9] 11 5 := good_next [32, 32, 32, 32, 9] (r2 := [32, 32, 32, 32, 9]) (s := 1) (by decide +kernel) gd41
theorem gd89 : GoodL [32, 9, 9, 32, 9, 9, 32, 9, 9, 32, 9, 9, 9, 32, 9, 9] 16 11 := good_next [9, 32, 9, 32, 9, 32, 9, 32, 32, 9, 32] (r2 := [32, 9, 32, 9, 32, 9, 32, 9, 32, 32, 9]) (s := 5) (by decide +kernel) gd88
theorem fn16_11_1 : Fine [32, 9, 9, 32, 9, 9, 32, 9, 9, 32, 9, 9, 9, 32, 9, 9] 16 11 := ⟨by decide +kernel, by decide +kernel, gd89⟩
theorem gd90 : GoodL [32, 9, 32, 9, 32, 9, 32, 32, 9, 32, 9] 11 5 := good_next [32, 32, 32, 9, 32] (r2 := [32, 32, 32, 32, 9]) (s := 1) (by decide +kernel) gd41
theorem gd91 : GoodL [32, 9, 9, 32, 9, 9, 32, 9, 9, 9, 32, 9, 9, 32, 9, 9] 16 11 := good_next [9, 32, 9, 32, 9, 32, 32, 9, 32, 9, 32] (r2 := [32, 9, 32, 9, 32, 9, 32, 32, 9, 32, 9]) (s := 5) (by decide +kernel) gd90
theorem fn16_11_2 : Fine [32, 9, 9, 32, 9, 9, 32, 9, 9, 9, 32, 9, 9, 32, 9, 9] 16 11 := ⟨by decide +kernel, by decide +kernel, gd91⟩
theorem gd92 : GoodL [32, 9, 32, 9, 32, 32, 9, 32, 9, 32, 9] 11 5 := good_next [32, 32, 9, 32, 32] (r2 := [32, 32, 32, 32, 9]) (s := 1) (by decide +kernel) gd41
theorem gd93 : GoodL [32, 9, 9, 32, 9, 9, 9, 32, 9, 9, 32, 9, 9, 32, 9, 9] 16 11 := good_next [9, 32, 9, 32, 32, 9, 32, 9, 32, 9, 32] (r2 := [32, 9, 32, 9, 32, 32, 9, 32, 9, 32, 9]) (s := 5) (by decide +kernel) gd92
theorem fn16_11_3 : Fine [32, 9, 9, 32, 9, 9, 9, 32, 9, 9, 32, 9, 9, 32, 9, 9] 16 11 := ⟨by decide +kernel, by decide +kernel, gd93⟩
theorem gd94 : GoodL [32, 9, 32, 32, 9, 32, 9, 32, 9, 32, 9] 11 5 := good_next [32, 9, 32, 32, 32] (r2 := [32, 32, 32, 32, 9]) (s := 1) (by decide +kernel) gd41
theorem gd95 : GoodL [32, 9, 9, 9, 32, 9, 9, 32, 9, 9, 32, 9, 9, 32, 9, 9] 16 11 := good_next [9, 32, 32, 9, 32, 9, 32, 9, 32, 9, 32] (r2 := [32, 9, 32, 32, 9, 32, 9, 32, 9, 32, 9]) (s := 5) (by decide +kernel) gd94
theorem fn16_11_4 : Fine [32, 9, 9, 9, 32, 9, 9, 32, 9, 9, 32, 9, 9, 32, 9, 9] 16 11 := ⟨by decide +kernel, by decide +kernel, gd95⟩
theorem gd96 : GoodL [9, 32, 9, 9, 32, 9, 9, 32, 9, 9, 32, 9, 9, 32, 9, 9] 16 11 := good_next [32, 9, 32, 9, 32, 9, 32, 9, 32, 9, 32] (r2 := [32, 32, 9, 32, 9, 32, 9, 32, 9, 32, 9]) (s := 5) (by decide +kernel) gd86
theorem fn16_11_5 : Fine [9, 32, 9, 9, 32, 9, 9, 32, 9, 9, 32, 9, 9, 32, 9, 9] 16 11 := ⟨by decide +kernel, by decide +kernel, gd96⟩
theorem gd97 : GoodL [9, 32, 9, 9, 32, 9, 9, 32, 9, 9, 32, 9, 9, 9, 32, 9] 16 11 := good_next [32, 9, 32, 9, 32, 9, 32, 9, 32, 32, 9] (r2 := [32, 9, 32, 9, 32, 9, 32, 9, 32, 32, 9]) (s := 5) (by decide +kernel) gd88
theorem fn16_11_6 : Fine [9, 32, 9, 9, 32, 9, 9, 32, 9, 9, 32, 9, 9, 9, 32, 9] 16 11 := ⟨by decide +kernel, by decide +kernel, gd97⟩
theorem gd98 : GoodL [9, 32, 9, 9, 32, 9, 9, 32, 9, 9, 9, 32, 9, 9, 32, 9] 16 11 := good_next [32, 9, 32, 9, 32, 9, 32, 32, 9, 32, 9] (r2 := [32, 9, 32, 9, 32, 9, 32, 32, 9, 32, 9]) (s := 5) (by decide +kernel) gd90
theorem fn16_11_7 : Fine [9, 32, 9, 9, 32, 9, 9, 32, 9, 9, 9, 32, 9, 9, 32, 9] 16 11 := ⟨by decide +kernel, by decide +kernel, gd98⟩
theorem gd99 : GoodL [9, 32, 9, 9, 32, 9, 9, 9, 32, 9, 9, 32, 9, 9, 32, 9] 16 11 := good_next [32, 9, 32, 9, 32, 32, 9, 32, 9, 32, 9] (r2 := [32, 9, 32, 9, 32, 32, 9, 32, 9, 32, 9]) (s := 5) (by decide +kernel) gd92
theorem fn16_11_8 : Fine [9, 32, 9, 9, 32, 9, 9, 9, 32, 9, 9, 32, 9, 9, 32, 9] 16 11 := ⟨by decide +kernel, by decide +kernel, gd99⟩
theorem gd100 : GoodL [9, 32, 9, 9, 9, 32, 9, 9, 32, 9, 9, 32, 9, 9, 32, 9] 16 11 := good_next [32, 9, 32, 32, 9, 32, 9, 32, 9, 32, 9] (r2 := [32, 9, 32, 32, 9, 32, 9, 32, 9, 32, 9]) (s := 5) (by decide +kernel) gd94
theorem fn16_11_9 : Fine [9, 32, 9, 9, 9, 32, 9, 9, 32, 9, 9, 32, 9, 9, 32, 9] 16 11 := ⟨by decide +kernel, by decide +kernel, gd100⟩
theorem gd101 : GoodL [9, 9, 32, 9, 9, 32, 9, 9, 32, 9, 9, 32, 9, 9, 32, 9] 16 11 := good_next [32, 32, 9, 32, 9, 32, 9, 32, 9, 32, 9] (r2 := [32, 32, 9, 32, 9, 32, 9, 32, 9, 32, 9]) (s := 5) (by decide +kernel) gd86
theorem fn16_11_10 : Fine [9, 9, 32, 9, 9, 32, 9, 9, 32, 9, 9, 32, 9, 9, 32, 9] 16 11 := ⟨by decide +kernel, by decide +kernel, gd101⟩
theorem mb16_11 : ((List.range 32).all fun f => ([[32, 9, 9, 32, 9, 9, 32, 9, 9, 32, 9, 9, 32, 9, 9, 9], [32, 9, 9, 32, 9, 9, 32, 9, 9, 32, 9, 9, 9, 32, 9, 9], [32, 9, 9, 32, 9, 9, 32, 9, 9, 9, 32, 9, 9, 32, 9, 9], [32, 9, 9, 32, 9, 9, 9, 32, 9, 9, 32, 9, 9, 32, 9, 9], [32, 9, 9, 9, 32, 9, 9, 32, 9, 9, 32, 9, 9, 32, 9, 9], [9, 32, 9, 9, 32, 9, 9, 32, 9, 9, 32, 9, 9, 32, 9, 9], [9, 32, 9, 9, 32, 9, 9, 32, 9, 9, 32, 9, 9, 9, 32, 9], [9, 32, 9, 9, 32, 9, 9, 32, 9, 9, 9, 32, 9, 9, 32, 9], [9, 32, 9, 9, 32, 9, 9, 9, 32, 9, 9, 32, 9, 9, 32, 9], [9, 32, 9, 9, 9, 32, 9, 9, 32, 9, 9, 32, 9, 9, 32, 9], [9, 9, 32, 9, 9, 32, 9, 9, 32, 9, 9, 32, 9, 9, 32, 9]] : List (List Nat)).contains (cutB (rhyB 16 11 f))) = true := by decide +kernel
theorem al16_11 {f : Nat} (hf : f < 32) : Fine (cutB (rhyB 16 11 f)) 16 11 := of_members (P := fun r => Fine r 16 11) mb16_11 (List.forall_mem_cons.mpr ⟨fn16_11_0, List.forall_mem_cons.mpr ⟨fn16_11_1, List.forall_mem_cons.mpr ⟨fn16_11_2, List.forall_mem_cons.mpr ⟨fn16_11_3, List.forall_mem_cons.mpr ⟨fn16_11_4, List.forall_mem_cons.mpr ⟨fn16_11_5, List.forall_mem_cons.mpr ⟨fn16_11_6, List.forall_mem_cons.mpr ⟨fn16_11_7, List.forall_mem_cons.mpr ⟨fn16_11_8, List.forall_mem_cons.mpr ⟨fn16_11_9, List.forall_mem_cons.mpr ⟨fn16_11_10, List.forall_mem_nil _⟩⟩⟩⟩⟩⟩⟩⟩⟩⟩⟩) hf
theorem gd102 : GoodL [32, 32, 9, 32, 32, 9, 32, 32, 9, 32, 32, 9] 12 4 := good_end (by decide +kernel)
theorem gd103 : GoodL [32, 9, 9, 9, 32, 9, 9, 9, 32, 9, 9, 9, 32, 9, 9, 9] 16 12 := good_next [9, 32, 32, 9, 32, 32, 9, 32, 32, 9, 32, 32] (r2 := [32, 32, 9, 32, 32, 9, 32, 32, 9, 32, 32, 9]) (s := 4) (by decide +kernel) gd102
theorem fn16_12_0 : Fine [32, 9, 9, 9, 32, 9, 9, 9, 32, 9, 9, 9, 32, 9, 9, 9] 16 12 := ⟨by decide +kernel, by decide +kernel, gd103⟩
theorem gd104 : GoodL [9, 32, 9, 9, 9, 32, 9, 9, 9, 32, 9, 9, 9, 32, 9, 9] 16 12 := good_next [32, 9, 32, 32, 9, 32, 32, 9, 32, 32, 9, 32] (r2 := [32, 32, 9, 32, 32, 9, 32, 32, 9, 32, 32, 9]) (s := 4) (by decide +kernel) gd102
theorem fn16_12_1 : Fine [9, 32, 9, 9, 9, 32, 9, 9, 9, 32, 9, 9, 9, 32, 9, 9] 16 12 := ⟨by decide +kernel, by decide +kernel, gd104⟩
theorem gd105 : GoodL [9, 9, 32, 9, 9, 9, 32, 9, 9, 9, 32, 9, 9, 9, 32, 9] 16 12 := good_next [32, 32, 9, 32, 32, 9, 32, 32, 9, 32, 32, 9] (r2 := [32, 32, 9, 32, 32, 9, 32, 32, 9, 32, 32, 9]) (s := 4) (by decide +kernel) gd102
theorem fn16_12_2 : Fine [9, 9, 32, 9, 9, 9, 32, 9, 9, 9, 32, 9, 9, 9, 32, 9] 16 12 := ⟨by decide +kernel, by decide +kernel, gd105⟩
theorem mb16_12 : ((List.range 32).all fun f => ([[32, 9, 9, 9, 32, 9, 9, 9, 32, 9, 9, 9, 32, 9, 9, 9], [9, 32, 9, 9, 9, 32, 9, 9, 9, 32, 9, 9, 9, 32, 9, 9], [9, 9, 32, 9, 9, 9, 32, 9, 9, 9, 32, 9, 9, 9, 32, 9]] : List (List Nat)).contains (cutB (rhyB 16 12 f))) = true := by decide +kernel
theorem al16_12 {f : Nat} (hf : f < 32) : Fine (cutB (rhyB 16 12 f)) 16 12 := of_members (P := fun r => Fine r 16 12) mb16_12 (List.forall_mem_cons.mpr ⟨fn16_12_0, List.forall_mem_cons.mpr ⟨fn16_12_1, List.forall_mem_cons.mpr ⟨fn16_12_2, List.forall_mem_nil _⟩⟩⟩) hf
theorem gd106 : GoodL [32, 32, 32, 32, 9, 32, 32, 32, 9, 32, 32, 32, 9] 13 3 := good_next [9, 32, 32] (r2 := [32, 32, 9]) (s := 1) (by decide +kernel) gd2
theorem gd107 : GoodL [32, 9, 9, 9, 9, 32, 9, 9, 9, 9, 32, 9, 9, 9, 9, 9] 16 13 := good_next [9, 32, 32, 32, 9, 32, 32, 32, 9, 32, 32, 32, 32] (r2 := [32, 32, 32, 32, 9, 32, 32, 32, 9, 32, 32, 32, 9]) (s := 3) (by decide +kernel) gd106
theorem fn16_13_0 : Fine [32, 9, 9, 9, 9, 32, 9, 9, 9, 9, 32, 9, 9, 9, 9, 9] 16 13 := ⟨by decide +kernel, by decide +kernel, gd107⟩
theorem gd108 : GoodL [32, 32, 32, 9, 32, 32, 32, 9, 32, 32, 32, 32, 9] 13 3 := good_next [32, 32, 9] (r2 := [32, 32, 9]) (s := 1) (by decide +kernel) gd2
theorem gd109 : GoodL [32, 9, 9, 9, 9, 32, 9, 9, 9, 9, 9, 32, 9, 9, 9, 9] 16 13 := good_next [9, 32, 32, 32, 9, 32, 32, 32, 32, 9, 32, 32, 32] (r2 := [32, 32, 32, 9, 32, 32, 32, 9, 32, 32, 32, 32, 9]) (s := 3) (by decide +kernel) gd108
theorem fn16_13_1 : Fine [32, 9, 9, 9, 9, 32, 9, 9, 9, 9, 9, 32, 9, 9, 9, 9] 16 13 := ⟨by decide +kernel, by decide +kernel, gd109⟩
theorem gd110 : GoodL [32, 32, 32, 9, 32, 32, 32, 32, 9, 32, 32, 32, 9] 13 3 := good_next [32, 9, 32] (r2 := [32, 32, 9]) (s := 1) (by decide +kernel) gd2
theorem gd111 : GoodL [32, 9, 9, 9, 9, 9, 32, 9, 9, 9, 9, 32, 9, 9, 9, 9] 16 13 := good_next [9, 32, 32, 32, 32, 9, 32, 32, 32, 9, 32, 32, 32] (r2 := [32, 32, 32, 9, 32, 32, 32, 32, 9, 32, 32, 32, 9]) (s := 3) (by decide +kernel) gd110
theorem fn16_13_2 : Fine [32, 9, 9, 9, 9, 9, 32, 9, 9, 9, 9, 32, 9, 9, 9, 9] 16 13 := ⟨by decide +kernel, by decide +kernel, gd111⟩
theorem gd112 : GoodL [9, 32, 9, 9, 9, 9, 32, 9, 9, 9, 9, 32, 9, 9, 9, 9] 16 13 := good_next [32, 9, 32, 32, 32, 9, 32, 32, 32, 9, 32, 32, 32] (r2 := [32, 32, 32, 32, 9, 32, 32, 32, 9, 32, 32, 32, 9]) (s := 3) (by decide +kernel) gd106
theorem fn16_13_3 : Fine [9, 32, 9, 9, 9, 9, 32, 9, 9, 9, 9, 32, 9, 9, 9, 9] 16 13 := ⟨by decide +kernel, by decide +kernel, gd112⟩
theorem gd113 : GoodL [9, 32, 9, 9, 9, 9, 32, 9, 9, 9, 9, 9, 32, 9, 9, 9] 16 13 := good_next [32, 9, 32, 32, 32, 9, 32, 32, 32, 32, 9, 32, 32] (r2 := [32, 32, 32, 9, 32, 32, 32, 9, 32, 32, 32, 32, 9]) (s := 3) (by decide +kernel) gd108
theorem fn16_13_4 : Fine [9, 32, 9, 9, 9, 9, 32, 9, 9, 9, 9, 9, 32, 9, 9, 9] 16 13 := ⟨by decide +kernel, by decide +kernel, gd113⟩
theorem gd114 : GoodL [9, 32, 9, 9, 9, 9, 9, 32, 9, 9, 9, 9, 32, 9, 9, 9] 16 13 := good_next [32, 9, 32, 32, 32, 32, 9, 32, 32, 32, 9, 32, 32] (r2 := [32, 32, 32, 9, 32, 32, 32, 32, 9, 32, 32, 32, 9]) (s := 3) (by decide +kernel) gd110
theorem fn16_13_5 : Fine [9, 32, 9, 9, 9, 9, 9, 32, 9, 9, 9, 9, 32, 9, 9, 9] 16 13 := ⟨by decide +kernel, by decide +kernel, gd114⟩
theorem gd115 : GoodL [9, 9, 32, 9, 9, 9, 9, 32, 9, 9, 9, 9, 32, 9, 9, 9] 16 13 := good_next [32, 32, 9, 32, 32, 32, 9, 32, 32, 32, 9, 32, 32] (r2 := [32, 32, 32, 32, 9, 32, 32, 32, 9, 32, 32, 32, 9]) (s := 3) (by decide +kernel) gd106
theorem fn16_13_6 : Fine [9, 9, 32, 9, 9, 9, 9, 32, 9, 9, 9, 9, 32, 9, 9, 9] 16 13 := ⟨by decide +kernel, by decide +kernel, gd115⟩
theorem gd116 : GoodL [9, 9, 32, 9, 9, 9, 9, 32, 9, 9, 9, 9, 9, 32, 9, 9] 16 13 := good_next [32, 32, 9, 32, 32, 32, 9, 32, 32, 32, 32, 9, 32] (r2 := [32, 32, 32, 9, 32, 32, 32, 9, 32, 32, 32, 32, 9]) (s := 3) (by decide +kernel) gd108
theorem fn16_13_7 : Fine [9, 9, 32, 9, 9, 9, 9, 32, 9, 9, 9, 9, 9, 32, 9, 9] 16 13 := ⟨by decide +kernel, by decide +kernel, gd116⟩
theorem gd117 : GoodL [9, 9, 32, 9, 9, 9, 9, 9, 32, 9, 9, 9, 9, 32, 9, 9] 16 13 := good_next [32, 32, 9, 32, 32, 32, 32, 9, 32, 32, 32, 9, 32] (r2 := [32, 32, 32, 9, 32, 32, 32, 32, 9, 32, 32, 32, 9]) (s := 3) (by decide +kernel) gd110
theorem fn16_13_8 : Fine [9, 9, 32, 9, 9, 9, 9, 9, 32, 9, 9, 9, 9, 32, 9, 9] 16 13 := ⟨by decide +kernel, by decide +kernel, gd117⟩
theorem gd118 : GoodL [9, 9, 9, 32, 9, 9, 9, 9, 32, 9, 9, 9, 9, 32, 9, 9] 16 13 := good_next [32, 32, 32, 9, 32, 32, 32, 9, 32, 32, 32, 9, 32] (r2 := [32, 32, 32, 32, 9, 32, 32, 32, 9, 32, 32, 32, 9]) (s := 3) (by decide +kernel) gd106
theorem fn16_13_9 : Fine [9, 9, 9, 32, 9, 9, 9, 9, 32, 9, 9, 9, 9, 32, 9, 9] 16 13 := ⟨by decide +kernel, by decide +kernel, gd118⟩
theorem gd119 : GoodL [9, 9, 9, 32, 9, 9, 9, 9, 32, 9, 9, 9, 9, 9, 32, 9] 16 13 := good_next [32, 32, 32, 9, 32, 32, 32, 9, 32, 32, 32, 32, 9] (r2 := [32, 32, 32, 9, 32, 32, 32, 9, 32, 32, 32, 32, 9]) (s := 3) (by decide +kernel) gd108
theorem fn16_13_10 : Fine [9, 9, 9, 32, 9, 9, 9, 9, 32, 9, 9, 9, 9, 9, 32, 9] 16 13 := ⟨by decide +kernel, by decide +kernel, gd119⟩
theorem gd120 : GoodL [9, 9, 9, 32, 9, 9, 9, 9, 9, 32, 9, 9, 9, 9, 32, 9] 16 13 := good_next [32, 32, 32, 9, 32, 32, 32, 32, 9, 32, 32, 32, 9] (r2 := [32, 32, 32, 9, 32, 32, 32, 32, 9, 32, 32, 32, 9]) (s := 3) (by decide +kernel) gd110
theorem fn16_13_11 : Fine [9, 9, 9, 32, 9, 9, 9, 9, 9, 32, 9, 9, 9, 9, 32, 9] 16 13 := ⟨by decide +kernel, by decide +kernel, gd120⟩
theorem gd121 : GoodL [9, 9, 9, 9, 32, 9, 9, 9, 9, 32, 9, 9, 9, 9, 32, 9] 16 13 := good_next [32, 32, 32, 32, 9, 32, 32, 32, 9, 32, 32, 32, 9] (r2 := [32, 32, 32, 32, 9, 32, 32, 32, 9, 32, 32, 32, 9]) (s := 3) (by decide +kernel) gd106
theorem fn16_13_12 : Fine [9, 9, 9, 9, 32, 9, 9, 9, 9, 32, 9, 9, 9, 9, 32, 9] 16 13 := ⟨by decide +kernel, by decide +kernel, gd121⟩
theorem mb16_13 : ((List.range 32).all fun f => ([[32, 9, 9, 9, 9, 32, 9, 9, 9, 9, 32, 9, 9, 9, 9, 9], [32, 9, 9, 9, 9, 32, 9, 9, 9, 9, 9, 32, 9, 9, 9, 9], [32, 9, 9, 9, 9, 9, 32, 9, 9, 9, 9, 32, 9, 9, 9, 9], [9, 32, 9, 9, 9, 9, 32, 9, 9, 9, 9, 32, 9, 9, 9, 9], [9, 32, 9, 9, 9, 9, 32, 9, 9, 9, 9, 9, 32, 9, 9, 9], [9, 32, 9, 9, 9, 9, 9, 32, 9, 9, 9, 9, 32, 9, 9, 9], [9, 9, 32, 9, 9, 9, 9, 32, 9, 9, 9, 9, 32, 9, 9, 9], [9, 9, 32, 9, 9, 9, 9, 32, 9, 9, 9, 9, 9, 32, 9, 9], [9, 9, 32, 9, 9, 9, 9, 9, 32, 9, 9, 9, 9, 32, 9, 9], [9, 9, 9, 32, 9, 9, 9, 9, 32, 9, 9, 9, 9, 32, 9, 9], [9, 9, 9, 32, 9, 9, 9, 9, 32, 9, 9, 9, 9, 9, 32, 9], [9, 9, 9, 32, 9, 9, 9, 9, 9, 32, 9, 9, 9, 9, 32, 9], [9, 9, 9, 9, 32, 9, 9, 9, 9, 32, 9, 9, 9, 9, 32, 9]] : List (List Nat)).contains (cutB (rhyB 16 13 f))) = true := by decide +kernel
theorem al16_13 {f : Nat} (hf : f < 32) : Fine (cutB (rhyB 16 13 f)) 16 13 := of_members (P := fun r => Fine r 16 13) mb16_13 (List.forall_mem_cons.mpr ⟨fn16_13_0, List.forall_mem_cons.mpr ⟨fn16_13_1, List.forall_mem_cons.mpr ⟨fn16_13_2, List.forall_mem_cons.mpr ⟨fn16_13_3, List.forall_mem_cons.mpr ⟨fn16_13_4, List.forall_mem_cons.mpr ⟨fn16_13_5, List.forall_mem_cons.mpr ⟨fn16_13_6, List.forall_mem_cons.mpr ⟨fn16_13_7, List.forall_mem_cons.mpr ⟨fn16_13_8, List.forall_mem_cons.mpr ⟨fn16_13_9, List.forall_mem_cons.mpr ⟨fn16_13_10, List.forall_mem_cons.mpr ⟨fn16_13_11, List.forall_mem_cons.mpr ⟨fn16_13_12, List.forall_mem_nil _⟩⟩⟩⟩⟩⟩⟩⟩⟩⟩⟩⟩⟩) hf
theorem gd122 : GoodL [32, 32, 32, 32, 32, 32, 9, 32, 32, 32, 32, 32, 32, 9] 14 2 := good_end (by decide +kernel)
theorem gd123 : GoodL [32, 9, 9, 9, 9, 9, 9, 9, 32, 9, 9, 9, 9, 9, 9, 9] 16 14 := good_next [9, 32, 32, 32, 32, 32, 32, 9, 32, 32, 32, 32, 32, 32] (r2 := [32, 32, 32, 32, 32, 32, 9, 32, 32, 32, 32, 32, 32, 9]) (s := 2) (by decide +kernel) gd122
theorem fn16_14_0 : Fine [32, 9, 9, 9, 9, 9, 9, 9, 32, 9, 9, 9, 9, 9, 9, 9] 16 14 := ⟨by decide +kernel, by decide +kernel, gd123⟩
theorem gd124 : GoodL [9, 32, 9, 9, 9, 9, 9, 9, 9, 32, 9, 9, 9, 9, 9, 9] 16 14 := good_next [32, 9, 32, 32, 32, 32, 32, 32, 9, 32, 32, 32, 32, 32] (r2 := [32, 32, 32, 32, 32, 32, 9, 32, 32, 32, 32, 32, 32, 9]) (s := 2) (by decide +kernel) gd122
theorem fn16_14_1 : Fine [9, 32, 9, 9, 9, 9, 9, 9, 9, 32, 9, 9, 9, 9, 9, 9] 16 14 := ⟨by decide +kernel, by decide +kernel, gd124⟩
theorem gd125 : GoodL [9, 9, 32, 9, 9, 9, 9, 9, 9, 9, 32, 9, 9, 9, 9, 9] 16 14 := good_next [32, 32, 9, 32, 32, 32, 32, 32, 32, 9, 32, 32, 32, 32] (r2 := [32, 32, 32, 32, 32, 32, 9, 32, 32, 32, 32, 32, 32, 9]) (s := 2) (by decide +kernel) gd122
theorem fn16_14_2 : Fine [9, 9, 32, 9, 9, 9, 9, 9, 9, 9, 32, 9, 9, 9, 9, 9] 16 14 := ⟨by decide +kernel, by decide +kernel, gd125⟩
theorem gd126 : GoodL [9, 9, 9, 32, 9, 9, 9, 9, 9, 9, 9, 32, 9, 9, 9, 9] 16 14 := good_next [32, 32, 32, 9, 32, 32, 32, 32, 32, 32, 9, 32, 32, 32] (r2 := [32, 32, 32, 32, 32, 32, 9, 32, 32, 32, 32, 32, 32, 9]) (s := 2) (by decide +kernel) gd122
theorem fn16_14_3 : Fine [9, 9, 9, 32, 9, 9, 9, 9, 9, 9, 9, 32, 9, 9, 9, 9] 16 14 := ⟨by decide +kernel, by decide +kernel, gd126⟩
theorem gd127 : GoodL [9, 9, 9, 9, 32, 9, 9, 9, 9, 9, 9, 9, 32, 9, 9, 9] 16 14 := good_next [32, 32, 32, 32, 9, 32, 32, 32, 32, 32, 32, 9, 32, 32] (r2 := [32, 32, 32, 32, 32, 32, 9, 32, 32, 32, 32, 32, 32, 9]) (s := 2) (by decide +kernel) gd122
theorem fn16_14_4 : Fine [9, 9, 9, 9, 32, 9, 9, 9, 9, 9, 9, 9, 32, 9, 9, 9] 16 14 := ⟨by decide +kernel, by decide +kernel, gd127⟩
theorem gd128 : GoodL [9, 9, 9, 9, 9, 32, 9, 9, 9, 9, 9, 9, 9, 32, 9, 9] 16 14 := good_next [32, 32, 32, 32, 32, 9, 32, 32, 32, 32, 32, 32, 9, 32] (r2 := [32, 32, 32, 32, 32, 32, 9, 32, 32, 32, 32, 32, 32, 9]) (s := 2) (by decide +kernel) gd122
theorem fn16_14_5 : Fine [9, 9, 9, 9, 9, 32, 9, 9, 9, 9, 9, 9, 9, 32, 9, 9] 16 14 := ⟨by decide +kernel, by decide +kernel, gd128⟩
theorem gd129 : GoodL [9, 9, 9, 9, 9, 9, 32, 9, 9, 9, 9, 9, 9, 9, 32, 9] 16 14 := good_next [32, 32, 32, 32, 32, 32, 9, 32, 32, 32, 32, 32, 32, 9] (r2 := [32, 32, 32, 32, 32, 32, 9, 32, 32, 32, 32, 32, 32, 9]) (s := 2) (by decide +kernel) gd122
theorem fn16_14_6 : Fine [9, 9, 9, 9, 9, 9, 32, 9, 9, 9, 9, 9, 9, 9, 32, 9] 16 14 := ⟨by decide +kernel, by decide +kernel, gd129⟩
theorem mb16_14 : ((List.range 32).all fun f => ([[32, 9, 9, 9, 9, 9, 9, 9, 32, 9, 9, 9, 9, 9, 9, 9], [9, 32, 9, 9, 9, 9, 9, 9, 9, 32, 9, 9, 9, 9, 9, 9], [9, 9, 32, 9, 9, 9, 9, 9, 9, 9, 32, 9, 9, 9, 9, 9], [9, 9, 9, 32, 9, 9, 9, 9, 9, 9, 9, 32, 9, 9, 9, 9], [9, 9, 9, 9, 32, 9, 9, 9, 9, 9, 9, 9, 32, 9, 9, 9], [9, 9, 9, 9, 9, 32, 9, 9, 9, 9, 9, 9, 9, 32, 9, 9], [9, 9, 9, 9, 9, 9, 32, 9, 9, 9, 9, 9, 9, 9, 32, 9]] : List (List Nat)).contains (cutB (rhyB 16 14 f))) = true := by decide +kernel
theorem al16_14 {f : Nat} (hf : f < 32) : Fine (cutB (rhyB 16 14 f)) 16 14 := of_members (P := fun r => Fine r 16 14) mb16_14 (List.forall_mem_cons.mpr ⟨fn16_14_0, List.forall_mem_cons.mpr ⟨fn16_14_1, List.forall_mem_cons.mpr ⟨fn16_14_2, List.forall_mem_cons.mpr ⟨fn16_14_3, List.forall_mem_cons.mpr ⟨fn16_14_4, List.forall_mem_cons.mpr ⟨fn16_14_5, List.forall_mem_cons.mpr ⟨fn16_14_6, List.forall_mem_nil _⟩⟩⟩⟩⟩⟩⟩) hf
theorem gd130 : GoodL [32, 32, 32, 32, 32, 32, 32, 32, 32, 32, 32, 32, 32, 32, 9] 15 1 := good_end (by decide +kernel)
theorem gd131 : GoodL [32, 9, 9, 9, 9, 9, 9, 9, 9, 9, 9, 9, 9, 9, 9, 9] 16 15 := good_next [9, 32, 32, 32, 32, 32, 32, 32, 32, 32, 32, 32, 32, 32, 32] (r2 := [32, 32, 32, 32, 32, 32, 32, 32, 32, 32, 32, 32, 32, 32, 9]) (s := 1) (by decide +kernel) gd130
theorem fn16_15_0 : Fine [32, 9, 9, 9, 9, 9, 9, 9, 9, 9, 9, 9, 9, 9, 9, 9] 16 15 := ⟨by decide +kernel, by decide +kernel, gd131⟩
theorem gd132 : GoodL [9, 32, 9, 9, 9, 9, 9, 9, 9, 9, 9, 9, 9, 9, 9, 9] 16 15 := good_next [32, 9, 32, 32, 32, 32, 32, 32, 32, 32, 32, 32, 32, 32, 32] (r2 := [32, 32, 32, 32, 32, 32, 32, 32, 32, 32, 32, 32, 32, 32, 9]) (s := 1) (by decide +kernel) gd130
theorem fn16_15_1 : Fine [9, 32, 9, 9, 9, 9, 9, 9, 9, 9, 9, 9, 9, 9, 9, 9] 16 15 := ⟨by decide +kernel, by decide +kernel, gd132⟩
theorem gd133 : GoodL [9, 9, 32, 9, 9, 9, 9, 9, 9, 9, 9, 9, 9, 9, 9, 9] 16 15 := good_next [32, 32, 9, 32, 32, 32, 32, 32, 32, 32, 32, 32, 32, 32, 32] (r2 := [32, 32, 32, 32, 32, 32, 32, 32, 32, 32, 32, 32, 32, 32, 9]) (s := 1) (by decide +kernel) gd130
theorem fn16_15_2 : Fine [9, 9, 32, 9, 9, 9, 9, 9, 9, 9, 9, 9, 9, 9, 9, 9] 16 15 := ⟨by decide +kernel, by decide +kernel, gd133⟩
theorem gd134 : GoodL [9, 9, 9, 32, 9, 9, 9, 9, 9, 9, 9, 9, 9, 9, 9, 9] 16 15 := good_next [32, 32, 32, 9, 32, 32, 32, 32, 32, 32, 32, 32, 32, 32, 32] (r2 := [32, 32, 32, 32, 32, 32, 32, 32, 32, 32, 32, 32, 32, 32, 9]) (s := 1) (by decide +kernel) gd130
theorem fn16_15_3 : Fine [9, 9, 9, 32, 9, 9, 9, 9, 9, 9, 9, 9, 9, 9, 9, 9] 16 15 := ⟨by decide +kernel, by decide +kernel, gd134⟩
theorem gd135 : GoodL [9, 9, 9, 9, 32, 9, 9, 9, 9, 9, 9, 9, 9, 9, 9, 9] 16 15 := good_next [32, 32, 32, 32, 9, 32, 32, 32, 32, 32, 32, 32, 32, 32, 32] (r2 := [32, 32, 32, 32, 32, 32, 32, 32, 32, 32, 32, 32, 32, 32, 9]) (s := 1) (by decide +kernel) gd130
theorem fn16_15_4 : Fine [9, 9, 9, 9, 32, 9, 9, 9, 9, 9, 9, 9, 9, 9, 9, 9] 16 15 := ⟨by decide +kernel, by decide +kernel, gd135⟩
theorem gd136 : GoodL [9, 9, 9, 9, 9, 32, 9, 9, 9, 9, 9, 9, 9, 9, 9, 9] 16 15 := good_next [32, 32, 32, 32, 32, 9, 32, 32, 32, 32, 32, 32, 32, 32, 32] (r2 := [32, 32, 32, 32, 32, 32, 32, 32, 32, 32, 32, 32, 32, 32, 9]) (s := 1) (by decide +kernel) gd130
theorem fn16_15_5 : Fine [9, 9, 9, 9, 9, 32, 9, 9, 9, 9, 9, 9, 9, 9, 9, 9] 16 15 := ⟨by decide +kernel, by decide +kernel, gd136⟩
theorem gd137 : GoodL [9, 9, 9, 9, 9, 9, 32, 9, 9, 9, 9, 9, 9, 9, 9, 9] 16 15 := good_next [32, 32, 32, 32, 32, 32, 9, 32, 32, 32, 32, 32, 32, 32, 32] (r2 := [32, 32, 32, 32, 32, 32, 32, 32, 32, 32, 32, 32, 32, 32, 9]) (s := 1) (by decide +kernel) gd130
theorem fn16_15_6 : Fine [9, 9, 9, 9, 9, 9, 32, 9, 9, 9, 9, 9, 9, 9, 9, 9] 16 15 := ⟨by decide +kernel, by decide +kernel, gd137⟩
theorem gd138 : GoodL [9, 9, 9, 9, 9, 9, 9, 32, 9, 9, 9, 9, 9, 9, 9, 9] 16 15 := good_next [32, 32, 32, 32, 32, 32, 32, 9, 32, 32, 32, 32, 32, 32, 32] (r2 := [32, 32, 32, 32, 32, 32, 32, 32, 32, 32, 32, 32, 32, 32, 9]) (s := 1) (by decide +kernel) gd130
theorem fn16_15_7 : Fine [9, 9, 9, 9, 9, 9, 9, 32, 9, 9, 9, 9, 9, 9, 9, 9] 16 15 := ⟨by decide +kernel, by decide +kernel, gd138⟩
theorem gd139 : GoodL [9, 9, 9, 9, 9, 9, 9, 9, 32, 9, 9, 9, 9, 9, 9, 9] 16 15 := good_next [32, 32, 32, 32, 32, 32, 32, 32, 9, 32, 32, 32, 32, 32, 32] (r2 := [32, 32, 32, 32, 32, 32, 32, 32, 32, 32, 32, 32, 32, 32, 9]) (s := 1) (by decide +kernel) gd130
theorem fn16_15_8 : Fine [9, 9, 9, 9, 9, 9, 9, 9, 32, 9, 9, 9, 9, 9, 9, 9] 16 15 := ⟨by decide +kernel, by decide +kernel, gd139⟩
theorem gd140 : GoodL [9, 9, 9, 9, 9, 9, 9, 9, 9, 32, 9, 9, 9, 9, 9, 9] 16 15 := good_next [32, 32, 32, 32, 32, 32, 32, 32, 32, 9, 32, 32, 32, 32, 32] (r2 := [32, 32, 32, 32, 32, 32, 32, 32, 32, 32, 32, 32, 32, 32, 9]) (s := 1) (by decide +kernel) gd130
theorem fn16_15_9 : Fine [9, 9, 9, 9, 9, 9, 9, 9, 9, 32, 9, 9, 9, 9, 9, 9] 16 15 := ⟨by decide +kernel, by decide +kernel, gd140⟩
theorem gd141 : GoodL [9, 9, 9, 9, 9, 9, 9, 9, 9, 9, 32, 9, 9, 9, 9, 9] 16 15 := good_next [32, 32, 32, 32, 32, 32, 32, 32, 32, 32, 9, 32, 32, 32, 32] (r2 := [32, 32, 32, 32, 32, 32, 32, 32, 32, 32, 32, 32, 32, 32, 9]) (s := 1) (by decide +kernel) gd130
theorem fn16_15_10 : Fine [9, 9, 9, 9, 9, 9, 9, 9, 9, 9, 32, 9, 9, 9, 9, 9] 16 15 := ⟨by decide +kernel, by decide +kernel, gd141⟩
theorem gd142 : GoodL [9, 9, 9, 9, 9, 9, 9, 9, 9, 9, 9, 32, 9, 9, 9, 9] 16 15 := good_next [32, 32, 32, 32, 32, 32, 32, 32, 32, 32, 32, 9, 32, 32, 32] (r2 := [32, 32, 32, 32, 32, 32, 32, 32, 32, 32, 32, 32, 32, 32, 9]) (s := 1) (by decide +kernel) gd130
theorem fn16_15_11 : Fine [9, 9, 9, 9, 9, 9, 9, 9, 9, 9, 9, 32, 9, 9, 9, 9] 16 15 := ⟨by decide +kernel, by decide +kernel, gd142⟩
theorem gd143 : GoodL [9, 9, 9, 9, 9, 9, 9, 9, 9, 9, 9, 9, 32, 9, 9, 9] 16 15 := good_next [32, 32, 32, 32, 32, 32, 32, 32, 32, 32, 32, 32, 9, 32, 32] (r2 := [32, 32, 32, 32, 32, 32, 32, 32, 32, 32, 32, 32, 32, 32, 9]) (s := 1) (by decide +kernel) gd130
theorem fn16_15_12 : Fine [9, 9, 9, 9, 9, 9, 9, 9, 9, 9, 9, 9, 32, 9, 9, 9] 16 15 := ⟨by decide +kernel, by decide +kernel, gd143⟩
theorem gd144 : GoodL [9, 9, 9, 9, 9, 9, 9, 9, 9, 9, 9, 9, 9, 32, 9, 9] 16 15 := good_next [32, 32, 32, 32, 32, 32, 32, 32, 32, 32, 32, 32, 32, 9, 32] (r2 := [32, 32, 32, 32, 32, 32, 32, 32, 32, 32, 32, 32, 32, 32, 9]) (s := 1) (by decide +kernel) gd130
theorem fn16_15_13 : Fine [9, 9, 9, 9, 9, 9, 9, 9, 9, 9, 9, 9, 9, 32, 9, 9] 16 15 := ⟨by decide +kernel, by decide +kernel, gd144⟩
theorem gd145 : GoodL [9, 9, 9, 9, 9, 9, 9, 9, 9, 9, 9, 9, 9, 9, 32, 9] 16 15 := good_next [32, 32, 32, 32, 32, 32, 32, 32, 32, 32, 32, 32, 32, 32, 9] (r2 := [32, 32, 32, 32, 32, 32, 32, 32, 32, 32, 32, 32, 32, 32, 9]) (s := 1) (by decide +kernel) gd130
theorem fn16_15_14 : Fine [9, 9, 9, 9, 9, 9, 9, 9, 9, 9, 9, 9, 9, 9, 32, 9] 16 15 := ⟨by decide +kernel, by decide +kernel, gd145⟩
theorem mb16_15 : ((List.range 32).all fun f => ([[32, 9, 9, 9, 9, 9, 9, 9, 9, 9, 9, 9, 9, 9, 9, 9], [9, 32, 9, 9, 9, 9, 9, 9, 9, 9, 9, 9, 9, 9, 9, 9], [9, 9, 32, 9, 9, 9, 9, 9, 9, 9, 9, 9, 9, 9, 9, 9], [9, 9, 9, 32, 9, 9, 9, 9, 9, 9, 9, 9, 9, 9, 9, 9], [9, 9, 9, 9, 32, 9, 9, 9, 9, 9, 9, 9, 9, 9, 9, 9], [9, 9, 9, 9, 9, 32, 9, 9, 9, 9, 9, 9, 9, 9, 9, 9], [9, 9, 9, 9, 9, 9, 32, 9, 9, 9, 9, 9, 9, 9, 9, 9], [9, 9, 9, 9, 9, 9, 9, 32, 9, 9, 9, 9, 9, 9, 9, 9], [9, 9, 9, 9, 9, 9, 9, 9, 32, 9, 9, 9, 9, 9, 9, 9], [9, 9, 9, 9, 9, 9, 9, 9, 9, 32, 9, 9, 9, 9, 9, 9], [9, 9, 9, 9, 9, 9, 9, 9, 9, 9, 32, 9, 9, 9, 9, 9], [9, 9, 9, 9, 9, 9, 9, 9, 9, 9, 9, 32, 9, 9, 9, 9], [9, 9, 9, 9, 9, 9, 9, 9, 9, 9, 9, 9, 32, 9, 9, 9], [9, 9, 9, 9, 9, 9, 9, 9, 9, 9, 9, 9, 9, 32, 9, 9], [9, 9, 9, 9, 9, 9, 9, 9, 9, 9, 9, 9, 9, 9, 32, 9]] : List (List Nat)).contains (cutB (rhyB 16 15 f))) = true := by decide +kernel
theorem al16_15 {f : Nat} (hf : f < 32) : Fine (cutB (rhyB 16 15 f)) 16 15 := of_members (P := fun r => Fine r 16 15) mb16_15 (List.forall_mem_cons.mpr ⟨fn16_15_0, List.forall_mem_cons.mpr ⟨fn16_15_1, List.forall_mem_cons.mpr ⟨fn16_15_2, List.forall_mem_cons.mpr ⟨fn16_15_3, List.forall_mem_cons.mpr ⟨fn16_15_4, List.forall_mem_cons.mpr ⟨fn16_15_5, List.forall_mem_cons.mpr ⟨fn16_15_6, List.forall_mem_cons.mpr ⟨fn16_15_7, List.forall_mem_cons.mpr ⟨fn16_15_8, List.forall_mem_cons.mpr ⟨fn16_15_9, List.forall_mem_cons.mpr ⟨fn16_15_10, List.forall_mem_cons.mpr ⟨fn16_15_11, List.forall_mem_cons.mpr ⟨fn16_15_12, List.forall_mem_cons.mpr ⟨fn16_15_13, List.forall_mem_cons.mpr ⟨fn16_15_14, List.forall_mem_nil _⟩⟩⟩⟩⟩⟩⟩⟩⟩⟩⟩⟩⟩⟩⟩) hf
theorem rings4 {p f : Nat} (h1 : 1 ≤ p) (hp : p < 4) (hf : f < 8) : Fine (cutB (rhyB 4 p f)) 4 p := by
  match p, h1, hp with
  | 0, h, _ => exact absurd h (by omega)
  | 1, _, _ => exact al4_1 hf
  | 2, _, _ => exact al4_2 hf
  | 3, _, _ => exact al4_3 hf
  | m + 4, _, h => exact absurd h (by omega)
theorem rings8 {p f : Nat} (h1 : 1 ≤ p) (hp : p < 8) (hf : f < 16) : Fine (cutB (rhyB 8 p f)) 8 p := by
  match p, h1, hp with
  | 0, h, _ => exact absurd h (by omega)
  | 1, _, _ => exact al8_1 hf
  | 2, _, _ => exact al8_2 hf
  | 3, _, _ => exact al8_3 hf
  | 4, _, _ => exact al8_4 hf
  | 5, _, _ => exact al8_5 hf
  | 6, _, _ => exact al8_6 hf
  | 7, _, _ => exact al8_7 hf
  | m + 8, _, h => exact absurd h (by omega)
theorem rings16 {p f : Nat} (h1 : 1 ≤ p) (hp : p < 16) (hf : f < 32) : Fine (cutB (rhyB 16 p f)) 16 p := by
  match p, h1, hp with
  | 0, h, _ => exact absurd h (by omega)
  | 1, _, _ => exact al16_1 hf
  | 2, _, _ => exact al16_2 hf
  | 3, _, _ => exact al16_3 hf
  | 4, _, _ => exact al16_4 hf
  | 5, _, _ => exact al16_5 hf
  | 6, _, _ => exact al16_6 hf
  | 7, _, _ => exact al16_7 hf
  | 8, _, _ => exact al16_8 hf
  | 9, _, _ => exact al16_9 hf
  | 10, _, _ => exact al16_10 hf
  | 11, _, _ => exact al16_11 hf
  | 12, _, _ => exact al16_12 hf
  | 13, _, _ => exact al16_13 hf
  | 14, _, _ => exact al16_14 hf
  | 15, _, _ => exact al16_15 hf
  | m + 16, _, h => exact absurd h (by omega)
theorem rings_nat {q p f : Nat} (hq : GoodQ q) (h1 : 1 ≤ p) (hp : p < q) (hf : f < 2 * q) : Fine (cutB (rhyB q p f)) q p := by
  rcases hq with rfl | rfl | rfl
  · exact rings4 h1 hp hf
  · exact rings8 h1 hp hf
  · exact rings16 h1 hp hf
theorem to_nats {q p f : Int} (hq : q = 4 ∨ q = 8 ∨ q = 16) (hp1 : 1 ≤ p) (hp2 : p < q) (hf1 : 0 ≤ f) (hf2 : f < 2 * q) : ∃ q' p' f' : Nat, q = q' ∧ p = p' ∧ f = f' ∧ GoodQ q' ∧ 1 ≤ p' ∧ p' < q' ∧ f' < 2 * q' := by
  refine ⟨q.toNat, p.toNat, f.toNat, by omega, by omega, by omega, ?_, by omega, by omega, by omega⟩
  unfold GoodQ
  omega
theorem hues_ok {q p f : Int} (hq : q = 4 ∨ q = 8 ∨ q = 16) (hp1 : 1 ≤ p) (hp2 : p < q) (hf1 : 0 ≤ f) (hf2 : f < 2 * q) : ∀ k : Int, 0 ≤ k → k ≤ q → hueOk (f + k * p) q = true := by
  obtain ⟨q', p', f', rfl, rfl, rfl, hg, h1, hp, hf⟩ := to_nats hq hp1 hp2 hf1 hf2
  intro k hk0 hk1
  obtain ⟨k', rfl⟩ := Int.eq_ofNat_of_zero_le hk0
  have := (hue_all (k := k') hg hp hf (by omega)).1
  rw [show ((f' + k' * p' : Nat) : Int) = (f' : Int) + (k' : Int) * (p' : Int) by simp] at this
  exact this
theorem rings_ok {q p f : Int} (hq : q = 4 ∨ q = 8 ∨ q = 16) (hp1 : 1 ≤ p) (hp2 : p < q) (hf1 : 0 ≤ f) (hf2 : f < 2 * q) :
    (rhyF q p f).length ≤ 100 ∧ (cutF (rhyF q p f)).length ≤ 50 ∧ textsF (cutF (rhyF q p f)) q p 5 [Str.ofString ""] = true ∧ ∃ k, okLoop k (cutF (rhyF q p f)) q p = true := by
  obtain ⟨q', p', f', rfl, rfl, rfl, hg, h1, hp, hf⟩ := to_nats hq hp1 hp2 hf1 hf2
  have hF := rings_nat hg h1 hp hf
  rw [rhy_eq hg hp hf, cut_eq]
  refine ⟨?_, ?_, texts_of hF.texts, hF.good⟩
  · rw [len_mkS]
    unfold rhyB
    rw [List.length_map, List.length_range]
    rcases hg with rfl | rfl | rfl <;> omega
  · rw [len_mkS]; exact hF.len
end Mine
end

section
open PySem PySem.W PyProof.Rows PyProof.V PySem.Spec
set_option maxRecDepth 100000
set_option maxHeartbeats 8000000
set_option linter.unusedVariables false
namespace Mine
local macro_rules | `(tactic| walk_at "call ref") => `(tactic| (k_here; refine Hold.out ?_))
local macro_rules | `(tactic| walk_at "subscriptTail") => `(tactic| (k_here; (with_reducible show wpAny _ _ (subscriptTail (PySem.Expr.BinOp _ _ _ _) _ _ _) _ _ _); k_dflt (refine kba_turn (value' := PySem.Expr.Name (PySem.Str.ofString "_") ⟨0, 0, 0, 0⟩) (fun _ => rfl) ?_)))
local macro_rules | `(tactic| walk_at "exec Assign") => `(tactic| (k_here; (with_reducible show wpAny _ _ (exec (PySem.Stmt.Assign [PySem.Expr.Name (PySem.Str.ofString "q") _] _ _) _) _ _ _); (fail_if_success (rename (List.take 2 _ = [_, _]) => hZ)); refine Hold.out ?_))
local macro_rules | `(tactic| walk_at "exec While") => `(tactic| (k_here; refine Hold.out ?_))
theorem two_of (ns : List Int) : ∃ a b, List.take 2 (List.take 2 ns ++ [7, 2]) = [a, b] := by
  match ns with
  | [] => exact ⟨_, _, rfl⟩
  | [a] => exact ⟨_, _, rfl⟩
  | a :: b :: r => exact ⟨_, _, rfl⟩
theorem ints_two {vs : List Value} {a b : Int} (h : IntsAre vs [a, b]) : ∃ t u, vs = [.int a t, .int b u] := by
  cases h with
  | cons t1 t2 r => cases r with
    | cons u1 u2 r2 => cases r2 with
      | nil => exact ⟨_, _, rfl⟩
theorem law_holds : PySem.Challenge.rw_pe0226_01.Holds := by
  refine hd ?_
  k_with_none
  w_top off
  w_strict (k_go0; (all_goals try k_fold); k_steps)
  unfold Hold
  rename IntsAre _ (List.take 2 (_ ++ [7, 2])) => hI0
  obtain ⟨a, b, hab⟩ := two_of (by assumption)
  rw [hab] at hI0
  obtain ⟨ta, tb, rfl⟩ := ints_two hI0
  w_strict k_steps
  unfold Hold
  have hD := draw_facts ([a, b].getD (Int.toNat 0) 0) ([a, b].getD (Int.toNat 1) 0)
  simp only [drawQ, drawP, drawF] at hD
  rename Fr _ _ _ _ => F9
  generalize ([a, b].getD (Int.toNat 1) 0).fmod (2 * (4 * 2 ^ (([a, b].getD (Int.toNat 0) 0).fmod 3).toNat)) = f0 at hD F9 ⊢
  generalize (([a, b].getD (Int.toNat 0) 0).fdiv 3).fmod (4 * 2 ^ (([a, b].getD (Int.toNat 0) 0).fmod 3).toNat - 1) = r0 at hD F9 ⊢
  generalize (2 : Int) ^ (([a, b].getD (Int.toNat 0) 0).fmod 3).toNat = z0 at hD F9 ⊢
  obtain ⟨hq, hp1, hp2, hf1, hf2⟩ := hD
  have hqb : 4 ≤ 4 * z0 ∧ 4 * z0 ≤ 16 := by omega
  k_dflt (refine' Ct.use (rhy_ct _ _ _ _ (4 * z0) (1 + r0) f0 _ _ _ ?ha ?hb ?hc ?hd ?he ?hf ?hg) ?k1 ?k2 ?k3 ?k4 ?k5 ?k6 ?k7 ?k8 ?_)
  case ha => omega
  case hb => omega
  case hc => omega
  case hd => omega
  case he => omega
  case hf => omega
  case hg => exact hues_ok hq hp1 hp2 hf1 hf2
  case k1 => k_asm
  case k2 => k_asm
  case k3 => k_asm
  case k4 => k_asm
  case k5 => k_asm
  case k6 => rfl
  case k7 => k_room
  case k8 => k_units
  intro u1 h1 tk1 F1 N1 kp1
  w_strict k_steps
  unfold Hold
  obtain ⟨hrl, hG⟩ := rings_ok hq hp1 hp2 hf1 hf2
  generalize hrq : rhyF (4 * z0) (1 + r0) f0 = rh at hrl hG ⊢
  k_dflt (refine' Ct.use (cut_ct _ _ _ _ rh _ ?hw) ?k1 ?k2 ?k3 ?k4 ?k5 ?k6 ?k7 ?k8 ?_)
  case hw => omega
  case k1 => k_asm
  case k2 => k_asm
  case k3 => k_asm
  case k4 => k_asm
  case k5 => k_asm
  case k6 => rfl
  case k7 => k_room
  case k8 => k_units
  intro u2 h2 tk2 F2 N2 kp2
  generalize cutF rh = ring at hG ⊢
  w_strict k_steps
  unfold Hold
  obtain ⟨hlen, htx, k0, hlo⟩ := hG
  k_dflt (refine' Ct.use (texts_ct _ _ _ _ ring (4 * z0) (1 + r0) _ _ _ ?hw ?ha ?hb ?hc ?hd) ?k1 ?k2 ?k3 ?k4 ?k5 ?k6 ?k7 ?k8 ?_)
  case hw => omega
  case ha => omega
  case hb => omega
  case hc => omega
  case hd => omega
  case k1 => k_asm
  case k2 => k_asm
  case k3 => k_asm
  case k4 => k_asm
  case k5 => k_asm
  case k6 => rfl
  case k7 => k_room
  case k8 => k_units
  intro u3 h3 tk3 F3 N3 kp3
  rw [htx]
  w_strict k_steps
  unfold Hold
  k_dflt (refine' While_inv2 (news := []) LawJ (n₀ := (1 + r0).toNat) ?w1 News.nil ?wj ?turn ?wE)
  case w1 => k_asm
  case wj => exact ⟨rfl, _, _, _, _, _, _, _, rfl, rfl, rfl, hlo, by omega, rfl⟩
  case wE => passes_own
  case turn =>
    rintro n m₁ news₁ h tk F1 N1 ⟨rfl, ring', whole, part, tr, tw, tp, k, f1, f2, f3, hk, h0, rfl⟩
    have F2 := fr_law f1 f2 f3 F1
    dsimp only [kstB] at F2
    clear F1
    w_strict k_steps
    unfold Hold
    rename 0 < part => hpos
    obtain ⟨k', hs, hst, hA, hB⟩ := ok_step hk hpos
    have hfm1 := Int.fmod_nonneg_of_pos whole hpos
    have hfm2 := Int.fmod_lt_of_pos whole hpos
    simp only [stOk, Bool.and_eq_true, decide_eq_true_eq] at hs
    obtain ⟨⟨⟨⟨⟨g1, g2⟩, g3⟩, g4⟩, g5⟩, g6⟩ := hs
    k_dflt (refine' Ct.use (stage_ct _ _ _ _ ring' whole part _ _ _ g1 ?hw g2 g3 g4 g5 g6) ?k1 ?k2 ?k3 ?k4 ?k5 ?k6 ?k7 ?k8 ?_)
    case hw => omega
    case k1 => k_asm
    case k2 => k_asm
    case k3 => k_asm
    case k4 => k_asm
    case k5 => k_asm
    case k6 => rfl
    case k7 => k_room
    case k8 => k_units
    intro u4 h4 tk4 F4 N4 kp4
    rw [hst]
    w_strict k_steps
    · unfold Hold
      have hnx := (hA (by assumption)).1
      simp only [nxOk, Bool.and_eq_true, decide_eq_true_eq] at hnx
      obtain ⟨⟨⟨e1, e2⟩, e3⟩, e4⟩ := hnx
      k_dflt (refine' Ct.use (next_ct _ _ _ _ ring' _ e1 e2 e3 e4) ?k1 ?k2 ?k3 ?k4 ?k5 ?k6 ?k7 ?k8 ?_)
      case k1 => k_asm
      case k2 => k_asm
      case k3 => k_asm
      case k4 => k_asm
      case k5 => k_asm
      case k6 => rfl
      case k7 => k_room
      case k8 => k_units
      intro u5 h5 tk5 F5 N5 kp5
      w_strict k_steps
      exact ⟨_, _, _, [], _, rfl, by assumption, News.nil, by omega, rfl, _, _, _, _, _, _, k', rfl, rfl, rfl, (hA (by assumption)).2, hfm1, rfl⟩
    · exact ⟨_, _, _, [], _, rfl, by assumption, News.nil, by omega, rfl, _, _, _, _, _, _, k', rfl, rfl, rfl, hB (by assumption), hfm1, rfl⟩
end Mine
end

end

theorem PySem.Challenge.cw_pe0226_01_holds : PySem.Challenge.rw_pe0226_01.Holds :=
  Mine.law_holds
