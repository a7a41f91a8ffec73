import PyProof.Rows.All
import Wide.All
import OpenK.AllK
import Wide.FinOn
import Lean
import PySem.Challenge.RW_xn0024_01
open PySem PySem.W PySem.Calls PySem.Spec PyProof.Rows
set_option Elab.async false
set_option linter.unusedVariables false
set_option maxRecDepth 100000
set_option maxHeartbeats 8000000
namespace Mine
noncomputable section

-- Hd
section
variable {tb : String → Option Builtin} {p : Program} {w : World} {n₀ : Nat} {ann : Option Value}
noncomputable def impT (tb : String → Option Builtin) (p : Program) (w : World) : Nat → SharedT → Thread → Option SharedT
  | 0, _, _ => none
  | n + 1, s, t => match t.atExitBegin with
    | some [] => some s
    | some (_ :: _) => none
    | none => match stepT (denote tb) p w s t with
      | some r => impT tb p w n r.1 r.2
      | none => none
theorem impT_of : ∀ {n : Nat} {s s' : SharedT} {t : Thread}, impT tb p w n s t = some s' → importEnds tb p w n s.abs t = some s'.abs
  | 0, _, _, _, h => by cases h
  | n + 1, s, s', t, h => by
    unfold impT at h
    unfold importEnds
    cases ht : t.atExitBegin with
    | some l =>
      cases l with
      | nil => rw [ht] at h; cases h; rfl
      | cons _ _ => rw [ht] at h; cases h
    | none =>
      rw [ht] at h
      cases hs : stepT (denote tb) p w s t with
      | none => rw [hs] at h; cases h
      | some r => obtain ⟨s₂, t₂⟩ := r; rw [hs] at h; rw [stepT_spec hs]; exact impT_of h
noncomputable def topT (tb : String → Option Builtin) (p : Program) (w : World) (n₀ : Nat) (ann : Option Value) : Nat → SharedT → Thread → Option SharedT
  | 0, _, _ => none
  | n + 1, s, t => match through t with
    | true => some s
    | false => match stepOk n₀ ann t with
      | false => none
      | true => match stepT (denote tb) p w s t with
        | some r => topT tb p w n₀ ann n r.1 r.2
        | none => none
theorem topT_of : ∀ {n : Nat} {s s' : SharedT} {t : Thread}, topT tb p w n₀ ann n s t = some s' → topRun tb p w n₀ ann n s.abs t = some s'.abs
  | 0, _, _, _, h => by cases h
  | n + 1, s, s', t, h => by
    unfold topT at h
    unfold topRun
    cases ht : through t with
    | true => rw [ht] at h; cases h; rfl
    | false =>
      rw [ht] at h
      cases hk : stepOk n₀ ann t with
      | false => rw [hk] at h; cases h
      | true =>
        rw [hk] at h
        cases hs : stepT (denote tb) p w s t with
        | none => rw [hs] at h; cases h
        | some r => obtain ⟨s₂, t₂⟩ := r; rw [hs] at h; rw [stepT_spec hs]; exact topT_of h
end
/-- a list of objects as a tree -/
noncomputable def grow : List Obj → BT → Nat → Option (BT × Nat)
  | [], t, n => some (t, n)
  | o :: l, t, n => match ((t.ins n o).get n).isSome with
    | true => grow l (t.ins n o) (n + 1)
    | false => none
theorem grow_of {life : Life} : ∀ {l : List Obj} {t t' : BT} {n n' : Nat} {h : Heap}, grow l t n = some (t', n') → absHeap t n life = h → absHeap t' n' life = ⟨(h.objs.toList ++ l).toArray, life⟩
  | [], t, t', n, n', h, e, q => by
    cases e
    rw [q, List.append_nil, Array.toArray_toList]
    have : h.life = life := by rw [← q]; rfl
    rw [← this]
  | o :: l, t, t', n, n', h, e, q => by
    unfold grow at e
    cases g : ((t.ins n o).get n).isSome with
    | false => rw [g] at e; cases e
    | true =>
      rw [g] at e
      have z := grow_of (h := h.push o) e (by rw [absHeap_ins g, q])
      rw [z]
      have : (h.push o).objs.toList = h.objs.toList ++ [o] := by show (h.objs.push o).toList = _; simp
      rw [this, List.append_assoc]
      rfl
def toT (s : Shared) : Option SharedT := match grow s.heap.objs.toList .nil 0 with
  | some r => some ⟨r.1, r.2, s.heap.life, s.gens, s.drawn, s.toks, s.os⟩
  | none => none
theorem toT_of {s : Shared} {T : SharedT} (h : toT s = some T) : T.abs = s := by
  unfold toT at h
  cases g : grow s.heap.objs.toList .nil 0 with
  | none => rw [g] at h; cases h
  | some r =>
    obtain ⟨t, n⟩ := r
    rw [g] at h
    cases h
    have z := grow_of (life := s.heap.life) (h := ⟨#[], s.heap.life⟩) g rfl
    obtain ⟨⟨objs, life⟩, gens, drawn, toks, os⟩ := s
    show Shared.mk (absHeap t n life) gens drawn toks os = _
    rw [z]
    simp
def startT (p : Program) : SharedT := ⟨.nil, 0, (start p).1.heap.life, (start p).1.gens, (start p).1.drawn, (start p).1.toks, (start p).1.os⟩
theorem startT_abs (p : Program) : (startT p).abs = (start p).1 := rfl
def headT {β : Type} (p : Program) (w : World) (N : Nat) (f : Shared → β) : Option β :=
  match impT treeTable (opening p) w N (startT (opening p)) (start (opening p)).2 with
  | none => none
  | some S => match fenceModules? p S.abs with
    | none => none
    | some s₀ => match toT s₀ with
      | none => none
      | some T₀ => match s₀.heap.isNs mainGlobals && s₀.gens.size == 0 with
        | false => none
        | true => match topT treeTable p w s₀.heap.objs.size (s₀.heap.nsMap mainGlobals "__annotations__") N T₀ (topStub p) with
          | none => none
          | some T₁ => match staticsOk (importedModules p.main.body) s₀.heap T₁.abs.heap && namesBound p T₁.abs.heap && gensDone T₁.abs && laidKept s₀.heap T₁.abs.heap with
            | true => some (f T₁.abs)
            | false => none
theorem headT_of {β : Type} {p : Program} {w : World} {N : Nat} {f : Shared → β} {r : β} (h : headT p w N f = some r) : (openEnds treeTable p w N).map f = some r := by
  unfold headT at h
  cases h1 : impT treeTable (opening p) w N (startT (opening p)) (start (opening p)).2 with
  | none => rw [h1] at h; cases h
  | some S =>
    rw [h1] at h
    have i1 := impT_of h1
    rw [startT_abs] at i1
    dsimp only at h
    cases h2 : fenceModules? p S.abs with
    | none => rw [h2] at h; cases h
    | some s₀ =>
      rw [h2] at h
      dsimp only at h
      cases h3 : toT s₀ with
      | none => rw [h3] at h; cases h
      | some T₀ =>
        rw [h3] at h
        dsimp only at h
        cases h4 : (s₀.heap.isNs mainGlobals && s₀.gens.size == 0) with
        | false => rw [h4] at h; cases h
        | true =>
          rw [h4] at h
          dsimp only at h
          cases h5 : topT treeTable p w s₀.heap.objs.size (s₀.heap.nsMap mainGlobals "__annotations__") N T₀ (topStub p) with
          | none => rw [h5] at h; cases h
          | some T₁ =>
            rw [h5] at h
            dsimp only at h
            have i5 := topT_of h5
            rw [toT_of h3] at i5
            cases h6 : (staticsOk (importedModules p.main.body) s₀.heap T₁.abs.heap && namesBound p T₁.abs.heap && gensDone T₁.abs && laidKept s₀.heap T₁.abs.heap) with
            | false => rw [h6] at h; cases h
            | true =>
              rw [h6] at h
              unfold openEnds fencedOpening topFrom
              rw [i1]
              show ((fenceModules? p S.abs).bind _).map f = _
              rw [h2]
              show Option.map f (match s₀.heap.isNs mainGlobals && s₀.gens.size == 0 with | true => _ | false => _) = _
              rw [h4]
              dsimp only
              rw [i5]
              show Option.map f (match staticsOk (importedModules p.main.body) s₀.heap T₁.abs.heap && namesBound p T₁.abs.heap && gensDone T₁.abs && laidKept s₀.heap T₁.abs.heap with | true => _ | false => _) = _
              rw [h6]
              exact h
theorem left_T {p q : Program} {loose : List Str} {Xt : Shared → Bool} {α : Type} {Yf : Shared → α} {Ya : World → α} {N : Nat}
    (h : ∀ w, headT p w N (fun s => (openSeen q loose (importedModules p.main.body) Xt true s, Yf s)) = some (openGood q loose, Ya w)) : LeftO p q loose Xt Yf Ya N := fun w => headT_of (h w)
theorem headT_id {β : Type} {p : Program} {w : World} {N : Nat} {f : Shared → β} {r : β} (h : headT p w N f = some r) : ∃ s, headT p w N id = some s ∧ f s = r := by
  unfold headT at h ⊢
  cases h1 : impT treeTable (opening p) w N (startT (opening p)) (start (opening p)).2 with
  | none => rw [h1] at h; cases h
  | some S =>
    rw [h1] at h
    dsimp only at h ⊢
    cases h2 : fenceModules? p S.abs with
    | none => rw [h2] at h; cases h
    | some s₀ =>
      rw [h2] at h
      dsimp only at h ⊢
      cases h3 : toT s₀ with
      | none => rw [h3] at h; cases h
      | some T₀ =>
        rw [h3] at h
        dsimp only at h ⊢
        cases h4 : (s₀.heap.isNs mainGlobals && s₀.gens.size == 0) with
        | false => rw [h4] at h; cases h
        | true =>
          rw [h4] at h
          dsimp only at h ⊢
          cases h5 : topT treeTable p w s₀.heap.objs.size (s₀.heap.nsMap mainGlobals "__annotations__") N T₀ (topStub p) with
          | none => rw [h5] at h; cases h
          | some T₁ =>
            rw [h5] at h
            dsimp only at h ⊢
            cases h6 : (staticsOk (importedModules p.main.body) s₀.heap T₁.abs.heap && namesBound p T₁.abs.heap && gensDone T₁.abs && laidKept s₀.heap T₁.abs.heap) with
            | false => rw [h6] at h; cases h
            | true =>
              rw [h6] at h
              exact ⟨T₁.abs, rfl, Option.some.inj h⟩
theorem headT_pair {α β : Type} {p : Program} {w : World} {N : Nat} {f : Shared → α} {g : Shared → β} {a : α} {b : β} (h1 : headT p w N f = some a) (h2 : headT p w N g = some b) : (openEnds treeTable p w N).map (fun s => (f s, g s)) = some (a, b) := by
  obtain ⟨s, e1, f1⟩ := headT_id h1
  obtain ⟨s', e2, g2⟩ := headT_id h2
  rw [e1] at e2
  obtain rfl := Option.some.inj e2
  have e := headT_of e1
  rw [Option.map_id] at e
  rw [id] at e
  rw [e, ← f1, ← g2]
  rfl
/-- the statements of the top that the library's look keeps (all but the four names and _formatparam) -/
def view : Program := { PySem.Challenge.pw_xn0024_01 with main := { PySem.Challenge.pw_xn0024_01.main with body := [0, 1, 3, 4, 5, 7, 8, 9, 11, 12, 13, 15, 17, 18, 19, 20, 21, 22, 23].filterMap fun i => PySem.Challenge.pw_xn0024_01.main.body[i]? } }
noncomputable def seenF (w : World) := headT PySem.Challenge.pw_xn0024_01 w 4586 fun s => openSeen view [Str.ofString "tspecials", Str.ofString "_name_disallowed_re", Str.ofString "_value_disallowed_re", Str.ofString "_formatparam"] (importedModules PySem.Challenge.pw_xn0024_01.main.body) (fun s => xlAt view [] s && recOk (RowW.records PySem.Challenge.rw_xn0024_01.row.toRowW) s) true s
noncomputable def goodF := openGood view [Str.ofString "tspecials", Str.ofString "_name_disallowed_re", Str.ofString "_value_disallowed_re", Str.ofString "_formatparam"]
/- the library's twins of these (they are named by a hash of the name) -/
theorem trig1 : (fun (_ : World → Option Unit) => true) (fun w => (seenF w).map fun _ => ()) = true := by k_qdec
theorem trig2 : (fun (_ : Unit → Option Unit) => true) (fun _ => (some goodF).map fun _ => ()) = true := by k_qdec
theorem seenL (w : World) : seenF w = some goodF := by
  rw [PySem.W.Fast.te14330293037795010852, PySem.W.Fast.te4208135344925943067]
  kernel_rfl
local macro_rules | `(tactic| o_head $H) => do
  let (hw, hc) := (Lean.mkIdent `hw, Lean.mkIdent `hc)
  `(tactic| (refine holds_open (q := view) (loose := [Str.ofString "tspecials", Str.ofString "_name_disallowed_re", Str.ofString "_value_disallowed_re", Str.ofString "_formatparam"]) (Xt := fun s => xlAt view [] s && recOk (RowW.records PySem.Challenge.rw_xn0024_01.row.toRowW) s) (XP := XL view []) (Yf := Hook.obs $H) (Ya := Hook.val $H) (YP := Hook.says $H) (N := 4586) ?hl (Hook.of $H) (Hook.keeps $H) (fun s e => xl_of s (Bool.and_eq_true_iff.mp e).1) XL.keeps (by rfl) (by rfl) (by rfl) (fun s e => recFacts_of (Bool.and_eq_true_iff.mp e).2) (by rfl) (by first | assumption | decide +kernel) (by decide +kernel) ⟨rfl, rfl, rfl, rfl, rfl, by decide +kernel⟩ ?$hw ?$hc
             (case hl => exact fun w => headT_pair (seenL w) (by show headT PySem.Challenge.pw_xn0024_01 w 4586 _ = _; rw [PySem.W.Fast.te1006530560209335509, PySem.W.Fast.te11769055022079621127]; kernel_rfl))))
open_top hd for PySem.Challenge.rw_xn0024_01

-- Base
local macro_rules | `(tactic| walk_at "m_all") => `(tactic| ((simp only [List.forall_mem_cons, List.not_mem_nil, false_implies, implies_true, and_true]; first | assumption | (refine ⟨?_, ?_⟩ <;> assumption) | (refine ⟨?_, ?_, ?_⟩ <;> assumption) | (refine ⟨?_, ?_, ?_, ?_⟩ <;> assumption) | (refine ⟨?_, ?_, ?_, ?_, ?_⟩ <;> assumption) | (refine ⟨?_, ?_, ?_, ?_, ?_, ?_⟩ <;> assumption))))
local macro_rules | `(tactic| walk_at "m_go") => `(tactic| ((fail_if_success (with_reducible show LCt.CompSrcT _ _ _ _ _ _ _ _ _ _ _ _ _ _ _)); (fail_if_success (with_reducible show LCg.CompSrc _ _ _ _ _ _ _ _ _ _ _ _ _ _)); (fail_if_success (with_reducible show wpAny _ _ (exec (Stmt.For (PySem.Expr.Name _ _) _ _ _ _) _) _ _ _)); (fail_if_success (with_reducible show wpAny _ _ (exec (Stmt.While _ _ _ _) _) _ _ _)); (fail_if_success (with_reducible show wpAny _ _ (pyIter _) (fun _ _ => LoopAtV _ _ _ _ _ _ _ _ _ _ _) _ _)); (fail_if_success (with_reducible show wpAny _ _ (eval (PySem.Expr.ListComp _ _ _ _) _) _ _ _)); (fail_if_success (with_reducible show wpAny _ _ (eval (PySem.Expr.IfExp _ (PySem.Expr.Call _ _ _ _) _ _) _) _ _ _))))
local macro_rules | `(tactic| walk_at "m_steps") => `(tactic| (repeat' (first | (k_unfold; (try dsimp only)) | (walk_at "m_go"; first | (k_end; wrow_close) | walk1 | (dsimp only; walk1) | (leave1; walk_say "STEP leave1"; try dsimp only)) | fail "no step")))
local macro_rules | `(tactic| walk_at "m_names") => `(tactic| ((rename Fr _ _ _ _ => $(Lean.mkIdent `F9); rename News _ _ _ _ => $(Lean.mkIdent `N9))))
local macro_rules | `(tactic| walk_at "m_in") => `(tactic| (intro g' L' h' hg' FG' N' B' X' T'; (try dsimp only); (try k_fold)))
local macro_rules | `(tactic| walk_at "m_inC") => `(tactic| (intro g' L' h' tk' cells' hg' F' N' Y' B' X' T'; k_cells Y'; (try simp only [List.cons_append, List.nil_append] at N'); (try dsimp only); (try k_fold)))
theorem rsBase : True := by
  w_top off
  trivial
section
variable {prog : Program} {w : World} {A₀ A : Around} {s : Shared} {base h₀ : Heap} {outer : List Env} {L : Addr} {m : Str → Option Value} {K : Frag} {env : Env}
  {p : Program} {loose : List Str} {mean : ExcName → Option Value} {mg mb : Str → Option Value}

/-- a call of a plain def, seen from the whole heap at the call: nothing of it may change -/
theorem enter0 {R : Result → Shared → Prop} {name qual : Str} {params : Arguments} {body : List Stmt} {scope : Scope} {dV kV doc pm cdv ct oc : Value} {an od : Option Addr} {osl : Array (Option Value)} {f : Addr} {args : Args} {binds : List (Str × Value)}
    (B : Below A₀ base outer h₀) (F : Fr h₀ L s.heap m) (X₀ : K.In h₀) (T : Top p loose mean mg mb h₀) (hA : A.frames = some (env :: outer)) (hf : env.frame = some L) (hke : env.scope.kind = .function)
    (ho : K.lookup f = some ⟨oc, od, .func (fnOf name qual params body scope dV kV doc pm an cdv ct), osl⟩) (hcd : codeIn K cdv qual = true) (hroom : A.depth < recursionLimit)
    (hbind : BindsTo s (fnOf name qual params body scope dV kV doc pm an cdv ct) args binds) (hloc : ∀ y ∈ binds, scope.names.lookup y.1 = some .local)
    (h : ∀ g L' h₁, g = s.heap → Fr g L' h₁ (fun y => binds.reverse.lookup y) → News g L' h₁ [] → Below A base (env :: outer) g → K.In g → Top p loose mean mg mb g →
      wpAny (model prog w) (A.deeper (envOf qual scope L' f cdv)) (execs body (envOf qual scope L' f cdv))
        (fun fl s' => R (.ok (.ret (match fl with | .ret v => v | _ => .none))) s')
        (fun e s' => wpAny (model prog w) (A.deeper (envOf qual scope L' f cdv)) (leaving (envOf qual scope L' f cdv) e) (fun _ s'' => R (.error e) s'') (fun e' s'' => R (.error e') s'') s')
        { s with heap := h₁, toks := s.toks + binds.length })
    (hco : scope.isCoroutine = false) (hgen : scope.isGenerator = false) (hk : scope.kind = .function)
    (hcell : ∀ x ∈ scope.names, x.2 ≠ .cell) : codeAny (model prog w) A (.call (.ref f) args) R s := by
  obtain ⟨FG, BG, st, lv⟩ := groundX (R := R) (news := []) B F News.nil hA hf hke
  refine codeAny_call_def (fd := fnOf name qual params body scope dV kV doc pm an cdv ct) (body := body) (binds := binds) hroom ((X₀.keeps F.keep) _ _ ho) rfl (T.nolimit.keeps F.keep) (codeRec_of (X₀.keeps F.keep) hcd) rfl hbind hcell hloc (fun h₁ hns hk₁ => ?_) hco hgen hk
  exact h s.heap s.heap.objs.size h₁ rfl ⟨hns, fun b o e => hk₁ b o e, Nat.le_refl _⟩ News.nil BG (X₀.keeps F.keep) (T.keeps F.keep)
end

theorem Fr.stays {h₀ h h' : Heap} {L : Addr} {m : Str → Option Value} (F : Fr h₀ L h m) (st : h.StaysIn h') : Fr h₀ L h' m :=
  ⟨F.ns.at' fun o e => st _ o e, fun b o e => st b o (F.keep b o e), F.above⟩
theorem News.stays {h₀ h h' : Heap} {L : Addr} {news : List (Addr × Obj)} (N : News h₀ L h news) (st : h.StaysIn h') : News h₀ L h' news :=
  fun p hp => ⟨st _ _ (N p hp).1, (N p hp).2⟩
theorem News.one {h₀ h h' : Heap} {L a : Addr} {o : Obj} {m : Str → Option Value} {news : List (Addr × Obj)} (F : Fr h₀ L h m) (N : News h₀ L h news) (st : h.StaysIn h') (hn : h.get? a = none) (ha : h'.get? a = some o) : News h₀ L h' ((a, o) :: news) := by
  intro p hp
  rcases List.mem_cons.mp hp with rfl | hp
  · refine ⟨ha, fun e => ?_, ?_⟩
    · obtain ⟨oL, _, _, hL, _⟩ := F.ns
      have e' : a = L := e
      rw [e', hL] at hn; cases hn
    · cases q : h₀.get? a with
      | none => rfl
      | some o' => have := F.keep _ _ q; rw [hn] at this; cases this
  · exact News.stays N st p hp

section
variable {prog : Program} {w : World} {A : Around} {E : Value → Shared → Prop} {s : Shared} {env : Env} {h₀ : Heap} {x : Str} {body : List Stmt} {Q : Flow → Shared → Prop}

/-- a for over a list of anything, that lies below or in the ledger of what stays -/
theorem iterV {l : Addr} {vs : List Value} {m₀ : Str → Option Value} {news : List (Addr × Obj)} (J : Nat → (Str → Option Value) → List (Addr × Obj) → Prop)
    (hh : A.handled = none) (hl : h₀.IsList l vs.toArray) (F : Fr h₀ env.locals s.heap m₀) (N : News h₀ env.locals s.heap news) (hj : J 0 m₀ news)
    (turn : ∀ i v m₁ news₁ h tk own, vs[i]? = some v → (∃ o, (s.heap.objs.size, o) ∈ own) → OwnOff own (news₁.map (·.1)) → J i m₁ news₁ → Fr h₀ env.locals h (fun y => if y = x then some v else m₁ y) → News h₀ env.locals h (news₁ ++ own) →
      wpAny (model prog w) A (execs body env) (InvPostG h₀ env.locals (J (i + 1)) own { s with heap := h, toks := tk } Q) E { s with heap := h, toks := tk })
    (done : ∀ m₁ news₁ h tk, J vs.length m₁ news₁ → Fr h₀ env.locals h m₁ → News h₀ env.locals h news₁ → Q .next { s with heap := h, toks := tk }) :
    wpAny (model prog w) A (pyIter (.ref l)) (fun it s₂ => LoopAtV prog w A h₀ env x body Q E it s₂) E s := by
  have hls : s.heap.IsList l vs.toArray := hl.at fun o e => F.keep l o e
  obtain ⟨ol, hol, _⟩ := id hl
  have hlt : l < h₀.objs.size := Heap.lt_size hol
  have hne : l ≠ s.heap.objs.size := Nat.ne_of_lt (Nat.lt_trans (Nat.lt_of_lt_of_le hlt F.above) F.ns.lt)
  refine wpAny_pyIter_list hls ?_
  have W := Walks.list (prog := prog) (w := w) hh s.heap.objs.size l hne vs.toArray
  rw [List.size_toArray] at W
  refine ⟨_, _, _, vs.length, _, _, m₀, news, J, rfl, W, ?_, ?_, ?_, ⟨⟨_, Heap.get?_push_size _ rfl, rfl, rfl⟩, hls.at fun o e => Heap.get?_push_of_some _ e⟩, F.push _, (fun p hp => ⟨Heap.get?_push_of_some _ (N p hp).1, (N p hp).2⟩), hj, ?_, ?_⟩
  · intro hm
    rcases List.mem_cons.mp hm with e | hm
    · exact absurd F.ns.lt (e ▸ Nat.lt_irrefl _)
    · exact absurd (Nat.lt_of_lt_of_le hlt F.above) ((List.mem_singleton.mp hm) ▸ Nat.lt_irrefl _)
  · intro b hb
    rw [List.mem_singleton.mp hb]
    exact next_is_new F
  · intro p hp hI
    exact absurd (Heap.lt_size (N p hp).1) ((List.mem_singleton.mp hI) ▸ Nat.lt_irrefl _)
  · rintro i v m₁ news₁ s₁ own ⟨hh', tk', rfl⟩ hin hP hJ hoff hown _ hfp hst F₁ N₁
    have hI0 : h₀.get? s.heap.objs.size = none := next_is_new F
    obtain ⟨⟨oI, hoI, _⟩, _⟩ := id hst
    have hIown : (s.heap.objs.size, oI) ∈ own := hfp _ (List.mem_cons.mpr (.inl rfl)) hI0 _ hoI
    have hsep : OwnOff own (news₁.map (·.1)) := by
      intro p hp b hb e
      obtain ⟨q, hq, rfl⟩ := List.mem_map.mp hb
      rcases List.mem_cons.mp (hown p hp) with h1 | h1
      · exact hoff q hq (List.mem_singleton.mpr (e ▸ h1))
      · have h2 := List.mem_singleton.mp h1
        have h3 := (N₁ q (List.mem_append.mpr (.inr hq))).2.2
        rw [← e, h2, hol] at h3
        cases h3
    have N₂ : News h₀ env.locals hh' (news₁ ++ own) := fun p hp => N₁ p ((List.mem_append.mp hp).elim (fun h => List.mem_append.mpr (.inr h)) fun h => List.mem_append.mpr (.inl h))
    refine wpAny_mono (turn i v m₁ news₁ hh' tk' own (by simpa using hP) ⟨oI, hIown⟩ hsep hJ F₁ N₂) (fun f s₂ p => ?_) fun _ _ e => e
    have fin : InvEndG h₀ env.locals (J (i + 1)) own { s with heap := hh', toks := tk' } s₂ → LoopStepU h₀ env.locals [s.heap.objs.size] own (J (i + 1)) { s with heap := hh', toks := tk' } .next s₂ := by
      rintro ⟨h', tk, m', news', nx, e, F', N', hn, ho, ha, hm⟩
      refine ⟨rfl, h', tk, m', nx, e, F', fun p hp => N' p ((List.mem_append.mp hp).elim (ho p) (hn p)), fun p hp hq => ?_, hm⟩
      exact ha _ hIown p.1 (List.mem_map.mpr ⟨p, hp, rfl⟩) (List.mem_singleton.mp hq).symm
    cases f with
    | ret v => exact .ret p
    | brk => exact .brk p
    | next => exact .next (fin p)
    | cont => exact .cont (fin p)
  · rintro h' tk m' news' F' N' _ hJ
    exact done m' news' h' tk hJ F' N'
end

theorem led1 {h₀ h : Heap} {L l : Addr} {o : Obj} {r : List (Addr × Obj)} {P : Prop} (_ : News h₀ L h ((l, o) :: r)) (k : ∀ l', l' = l → P) : P := k l rfl
theorem Fr.at {h₀ h : Heap} {L : Addr} {m : Str → Option Value} {x : Str} {v : Value} (F : Fr h₀ L h m) (hx : m x = some v) : Fr h₀ L h (fun y => if y = x then some v else m y) := by
  have e : (fun y => if y = x then some v else m y) = m := by
    funext y
    by_cases q : y = x
    · rw [if_pos q, q, hx]
    · rw [if_neg q]
  rw [e]; exact F
theorem Fr.ats {h₀ h : Heap} {L : Addr} {m : Str → Option Value} (ps : List (Str × Value)) (F : Fr h₀ L h m) (hx : ∀ p ∈ ps, m p.1 = some p.2) : Fr h₀ L h (kstB m ps) := by
  have e : kstB m ps = m := by
    funext y
    exact kstB_eq hx fun _ => rfl
  rw [e]; exact F
theorem strsAre_at {vs : List Value} {ss : List Str} (h : StrsAre vs ss) : ∀ (i : Nat) (v : Value), vs[i]? = some v → ∃ (y : Str) (t : Tok), v = Value.str y t ∧ ss[i]? = some y := by
  induction h with
  | nil => intro i v e; simp at e
  | cons y t _ ih =>
    intro i v e
    cases i with
    | zero => simp at e; exact ⟨y, t, e.symm, rfl⟩
    | succ i => simpa using ih i v (by simpa using e)


section
variable {prog : Program} {w : World} {A : Around} {E : Value → Shared → Prop} {s : Shared} {l : Addr} {vs : List Value} {ys : List Str}
theorem len_S {Q : Value → Shared → Prop} (hl : s.heap.IsList l vs.toArray) (hs : StrsAre vs ys) (hb : ys.length ≤ 100) (h : ∀ t tk, Q (.int (ys.length : Int) t) { s with toks := tk }) :
    wpAny (model prog w) A (call (.builtin "len") [.ref l]) Q E s := by
  have e : vs.toArray.size = ys.length := by rw [List.size_toArray]; exact hs.length
  refine len_list hl (by rw [e]; omega) ?_
  rw [e]; exact h _ _
theorem strs_get {vs : List Value} {ys : List Str} (hs : StrsAre vs ys) {i : Nat} (h : i < ys.length) : ∃ y t, vs[i]? = some (Value.str y t) ∧ ys[i]? = some y := by
  have h' : i < vs.length := by rw [hs.length]; exact h
  obtain ⟨y, t, e, q⟩ := strsAre_at hs i vs[i] (by simp [h'])
  exact ⟨y, t, by rw [← e]; simp [h'], q⟩
theorem item_S {value slice : Expr} {k : Int} {u : Tok} {Q : Value → Shared → Prop} (hl : s.heap.IsList l vs.toArray) (hs : StrsAre vs ys) (h0 : 0 ≤ k) (h1 : k < (ys.length : Int)) (hb : ys.length ≤ 100) (h : ∀ y t, ys[k.toNat]? = some y → Q (.str y t) s)
    (e : subscripted slice false (.ref l) (.int k u) = operate [.ref l, .int k u] (getItem (.ref l) (.int k u)) := by with_unfolding_all rfl) (hg : ∀ r, letTemporaryGo value (.ref l) r = pure () := by intro _; with_unfolding_all rfl) :
    wpAny (model prog w) A (subscriptTail value slice (.ref l) (.int k u)) Q E s := by
  obtain ⟨y, t, e1, e2⟩ := strs_get hs (i := k.toNat) (by omega)
  exact item_list hl h0 (by omega) (by simpa using e1) (h y t e2) e hg
end
local macro_rules | `(tactic| walk_at "call builtin:len") => `(tactic| (k_here; (with_reducible show wpAny _ _ (call (Value.builtin "len") [Value.ref _]) _ _ _); k_dflt (refine' len_S ?k1 ?k2 ?k3 ?_; (case k1 => first | exact News.isList (by k_asm) (by k_mem) | exact stays_list (Fr.keep (by k_asm)) (by assumption)); (case k2 => assumption); (case k3 => omega); k_whole); intro t9 tk9))
local macro_rules | `(tactic| walk_at "subscriptTail Subscript") => `(tactic| (k_here; (with_reducible show wpAny _ _ (subscriptTail _ _ (Value.ref _) (Value.int _ _)) _ _ _); k_dflt (refine' item_S ?k1 ?k2 ?k3 ?k4 ?k5 ?_; (case k1 => first | exact News.isList (by k_asm) (by k_mem) | exact stays_list (Fr.keep (by k_asm)) (by assumption)); (case k2 => with_reducible assumption); (case k3 => omega); (case k4 => omega); (case k5 => omega); k_whole); intro y9 t9 hy9))
local macro_rules | `(tactic| walk_at "subscriptTail Name Name ref int") => `(tactic| (k_here; k_dflt (refine' item_S ?k1 ?k2 ?k3 ?k4 ?k5 ?_; (case k1 => first | exact News.isList (by k_asm) (by k_mem) | exact stays_list (Fr.keep (by k_asm)) (by assumption)); (case k2 => assumption); (case k3 => omega); (case k4 => omega); (case k5 => omega); k_whole); intro y9 t9 hy9))

theorem strsAre_app {a b : List Value} {x y : List Str} (h1 : StrsAre a x) (h2 : StrsAre b y) : StrsAre (a ++ b) (x ++ y) := strsAre_append h1 h2
theorem strsAre_take {vs : List Value} {ys : List Str} (h : StrsAre vs ys) : ∀ k, StrsAre (vs.take k) (ys.take k) := by
  induction h with
  | nil => intro k; simp; exact .nil
  | cons y t _ ih => intro k; cases k with
    | zero => simp; exact .nil
    | succ k => simpa using .cons y t (ih k)
theorem strsAre_drop {vs : List Value} {ys : List Str} (h : StrsAre vs ys) : ∀ k, StrsAre (vs.drop k) (ys.drop k) := by
  induction h with
  | nil => intro k; simp; exact .nil
  | cons y t r ih => intro k; cases k with
    | zero => simpa using .cons y t r
    | succ k => simpa using ih k
theorem kl_ins_nat {ws : List Value} {k : Nat} {v : Value} (h : k ≤ ws.length) : kl_ins ws (k : Int) v = ws.take k ++ v :: ws.drop k := by
  unfold kl_ins
  rw [if_neg (by omega)]
  have e : min (k : Int).toNat ws.length = k := by omega
  rw [e]
section
variable {prog : Program} {w : World} {A : Around} {E : Value → Shared → Prop} {s : Shared} {h₀ : Heap} {L D : Addr} {m : Str → Option Value} {news news' : List (Addr × Obj)} {ws : List Value} {n : Nat}
theorem insert_S {ys : List Str} {k : Nat} {u : Tok} {y : Value} {Q : Value → Shared → Prop} (F : Fr h₀ L s.heap m) (N : News h₀ L s.heap news) (hs : StrsAre ws ys) (hk : k ≤ ys.length) (hb : ys.length ≤ 100)
    (U : Upd D (listOf ws.toArray n) (listOf (ws.take k ++ y :: ws.drop k).toArray (n + 1)) news news') (h : ∀ h', Fr h₀ L h' m → News h₀ L h' news' → Q .none { s with heap := h' }) :
    wpAny (model prog w) A (call (.builtin "list.insert") [.ref D, .int (k : Int) u, y]) Q E s := by
  have hl := hs.length
  refine kl_insert (l := ws.take k ++ y :: ws.drop k) F N ?_ (by simpa using kl_ins_nat (by omega)) U ?_ h
  · unfold Builtin.List.listFitsIndex
    simp only [Bool.and_eq_true, decide_eq_true_eq]
    omega
  · have e : sizeLine = 2 ^ 24 := rfl
    simp
    omega
end
local macro_rules | `(tactic| walk_at "call builtin:list.insert") => `(tactic| (k_here; (with_reducible show wpAny _ _ (call (Value.builtin _) [Value.ref _, Value.int _ _, _]) _ _ _); k_dflt (refine' insert_S ?F ?N ?s ?k ?b ?U ?_; (case F => k_asm); (case N => k_asm); (case U => k_upd); (case s => assumption); (case k => omega); (case b => omega); k_whole); intro h' F' N'; (try k_sweep)))

section
variable {prog : Program} {w : World} {A₀ A : Around} {s : Shared} {base h₀ : Heap} {outer : List Env} {L : Addr} {m : Str → Option Value} {K : Frag} {env : Env}
  {p : Program} {loose : List Str} {mean : ExcName → Option Value} {mg mb : Str → Option Value}

/-- the same for a def with cells -/
theorem enterC {R : Result → Shared → Prop} {name qual : Str} {params : Arguments} {body : List Stmt} {scope : Scope} {dV kV doc pm cdv ct oc : Value} {an od : Option Addr} {osl : Array (Option Value)} {f : Addr} {args : Args} {binds : List (Str × Value)}
    (B : Below A₀ base outer h₀) (F : Fr h₀ L s.heap m) (X₀ : K.In h₀) (T : Top p loose mean mg mb h₀) (hA : A.frames = some (env :: outer)) (hf : env.frame = some L) (hke : env.scope.kind = .function)
    (ho : K.lookup f = some ⟨oc, od, .func (fnOf name qual params body scope dV kV doc pm an cdv ct), osl⟩) (hcd : codeIn K cdv qual = true) (hroom : A.depth < recursionLimit)
    (hbind : BindsTo s (fnOf name qual params body scope dV kV doc pm an cdv ct) args binds) (hkind : (binds.all fun y => scope.names.lookup y.1 == some .local || scope.names.lookup y.1 == some .cell) = true)
    (hnd : ((cellsFrom 0 scope.names []).map (·.1)).Nodup)
    (h : ∀ g L' h₁ tk cells, g = s.heap → Fr g L' h₁ (bindL (envOfC qual scope L' f cdv).kindOf binds fun _ => none) → News g L' h₁ cells →
      CellsAre (bindC (envOfC qual scope L' f cdv).kindOf binds fun _ => none) (cellsFrom (L' + 1) scope.names []) cells → Below A base (env :: outer) g → K.In g → Top p loose mean mg mb g →
      wpAny (model prog w) (A.deeper (envOfC qual scope L' f cdv)) (execs body (envOfC qual scope L' f cdv))
        (fun fl s' => R (.ok (.ret (match fl with | .ret v => v | _ => .none))) s')
        (fun e s' => wpAny (model prog w) (A.deeper (envOfC qual scope L' f cdv)) (leaving (envOfC qual scope L' f cdv) e) (fun _ s'' => R (.error e) s'') (fun e' s'' => R (.error e') s'') s')
        { s with heap := h₁, toks := tk })
    (hco : scope.isCoroutine = false) (hgen : scope.isGenerator = false) (hk : scope.kind = .function) : codeAny (model prog w) A (.call (.ref f) args) R s := by
  obtain ⟨FG, BG, st, lv⟩ := groundX (R := R) (news := []) B F News.nil hA hf hke
  refine codeAny_call_function (fd := fnOf name qual params body scope dV kV doc pm an cdv ct) hroom ((X₀.keeps F.keep) _ _ ho) rfl hco hgen rfl (codeRec_of (X₀.keeps F.keep) hcd) (hbind _ _ _ _ ?_)
  refine wpAny_newFunctionEnv_cells hk (kindsX hkind _) fun env' he s' x => ?_
  subst he
  refine ⟨(T.nolimit.keeps F.keep).keeps x.toInCall.keep, codeAny_func ?_⟩
  obtain ⟨h₁, tk, rfl, _⟩ := x.done
  have hk₁ := x.toInCall.keep
  obtain ⟨cells, NC, Y⟩ := Cl.news (h₀ := s.heap) (Nat.le_refl _) fun n c hm => ⟨x.cell n c (lookup_of_mem_nodup (cellsFrom_names scope.names 0 (s.heap.objs.size + 1) [] [] rfl ▸ hnd) hm), x.above n c hm⟩
  exact h s.heap s.heap.objs.size h₁ tk cells rfl ⟨x.toInCall.ns, fun b o e => hk₁ b o e, Nat.le_refl _⟩ NC Y BG (X₀.keeps F.keep) (T.keeps F.keep)
end

theorem rsize (n : Nat) : Builtin.Range.rangeSize 0 (n : Int) 1 = ((n : Nat) : Int) := by
  unfold Builtin.Range.rangeSize
  simp only [show (1 : Int) > 0 from by decide, if_true]
  split <;> omega
theorem rsmall {n : Nat} (hb : n ≤ 1000) : Builtin.Range.small 0 (n : Int) 1 = true := by
  unfold Builtin.Range.small
  rw [rsize]
  have f : ∀ x : Int, 0 ≤ x → x ≤ 2000 → Builtin.Range.rangeFitsLong x = true := by
    intro x h1 h2
    unfold Builtin.Range.rangeFitsLong
    simp only [Bool.and_eq_true, decide_eq_true_eq]
    omega
  rw [f 0 (by omega) (by omega), f n (by omega) (by omega), f 1 (by omega) (by omega), if_pos (by decide), f _ (by omega) (by omega)]
  simp
section
variable {prog : Program} {w : World} {A : Around} {E : Value → Shared → Prop} {s : Shared} {env : Env} {h₀ : Heap} {x : Str} {body : List Stmt} {Q : Flow → Shared → Prop}
theorem LoopInvG {I : Addr} {n : Nat} {P : Nat → Value → Prop} {St : Nat → Heap → Prop} {m₀ : Str → Option Value} {news : List (Addr × Obj)} (J : Nat → (Str → Option Value) → List (Addr × Obj) → Prop)
    (W : Walks prog w A I [I] [I] n P St) (hI : h₀.get? I = none) (hlive : ∀ i h, St i h → ∃ o, h.get? I = some o) (hLI : env.locals ≠ I) (hst : St 0 s.heap) (F : Fr h₀ env.locals s.heap m₀) (N : News h₀ env.locals s.heap news) (hN : ∀ p ∈ news, p.1 ≠ I) (hj : J 0 m₀ news)
    (turn : ∀ i v m₁ news₁ h tk own, i < n → P i v → (∃ o, (I, o) ∈ own) → OwnOff own (news₁.map (·.1)) → J i m₁ news₁ → Fr h₀ env.locals h (fun y => if y = x then some v else m₁ y) → News h₀ env.locals h (news₁ ++ own) →
      wpAny (model prog w) A (execs body env) (InvPostG h₀ env.locals (J (i + 1)) own { s with heap := h, toks := tk } Q) E { s with heap := h, toks := tk })
    (done : ∀ m₁ news₁ h tk, J n m₁ news₁ → Fr h₀ env.locals h m₁ → News h₀ env.locals h news₁ → Q .next { s with heap := h, toks := tk }) :
    LoopAtV prog w A h₀ env x body Q E (.ref I) s := by
  refine ⟨I, [I], [I], n, P, St, m₀, news, J, rfl, W, ?_, ?_, ?_, hst, F, N, hj, ?_, ?_⟩
  · intro hm; exact hLI (List.mem_singleton.mp hm)
  · intro b hb; rw [List.mem_singleton.mp hb]; exact hI
  · intro p hp hm; exact hN p hp (List.mem_singleton.mp hm)
  · rintro i v m₁ news₁ s₁ own ⟨hh', tk', rfl⟩ hin hP hJ hoff hown _ hfp hst F₁ N₁
    obtain ⟨oI, hoI⟩ := hlive _ _ hst
    have hIown : (I, oI) ∈ own := hfp _ (List.mem_singleton.mpr rfl) hI _ hoI
    have hsep : OwnOff own (news₁.map (·.1)) := by
      intro p hp b hb e
      obtain ⟨q, hq, rfl⟩ := List.mem_map.mp hb
      exact hoff q hq (e ▸ hown p hp)
    have N₂ : News h₀ env.locals hh' (news₁ ++ own) := fun p hp => N₁ p ((List.mem_append.mp hp).elim (fun h => List.mem_append.mpr (.inr h)) fun h => List.mem_append.mpr (.inl h))
    refine wpAny_mono (turn i v m₁ news₁ hh' tk' own hin hP ⟨oI, hIown⟩ hsep hJ F₁ N₂) (fun f s₂ p => ?_) fun _ _ e => e
    have fin : InvEndG h₀ env.locals (J (i + 1)) own { s with heap := hh', toks := tk' } s₂ → LoopStepU h₀ env.locals [I] own (J (i + 1)) { s with heap := hh', toks := tk' } .next s₂ := by
      rintro ⟨h', tk, m', news', nx, e, F', N', hn, ho, ha, hm⟩
      refine ⟨rfl, h', tk, m', nx, e, F', fun p hp => N' p ((List.mem_append.mp hp).elim (ho p) (hn p)), fun p hp hq => ?_, hm⟩
      exact ha _ hIown p.1 (List.mem_map.mpr ⟨p, hp, rfl⟩) (List.mem_singleton.mp hq).symm
    cases f with
    | ret v => exact .ret p
    | brk => exact .brk p
    | next => exact .next (fin p)
    | cont => exact .cont (fin p)
  · rintro h' tk m' news' F' N' _ hJ
    exact done m' news' h' tk hJ F' N'

/-- a for over range(n) -/
theorem iterR {r : Addr} {n : Nat} {t₀ u₀ v₀ : Tok} {m₀ : Str → Option Value} {news : List (Addr × Obj)} (J : Nat → (Str → Option Value) → List (Addr × Obj) → Prop)
    (hh : A.handled = none) (hr : IsRange s.heap r 0 (n : Int) 1 t₀ u₀ v₀) (hb : n ≤ 1000) (F : Fr h₀ env.locals s.heap m₀) (N : News h₀ env.locals s.heap news) (hj : J 0 m₀ news)
    (turn : ∀ (i : Nat) (t : Tok) m₁ news₁ h tk own, i < n → OwnOff own (news₁.map (·.1)) → J i m₁ news₁ → Fr h₀ env.locals h (fun y => if y = x then some (.int (i : Int) t) else m₁ y) → News h₀ env.locals h (news₁ ++ own) →
      wpAny (model prog w) A (execs body env) (InvPostG h₀ env.locals (J (i + 1)) own { s with heap := h, toks := tk } Q) E { s with heap := h, toks := tk })
    (done : ∀ m₁ news₁ h tk, J n m₁ news₁ → Fr h₀ env.locals h m₁ → News h₀ env.locals h news₁ → Q .next { s with heap := h, toks := tk }) :
    wpAny (model prog w) A (pyIter (.ref r)) (fun it s₂ => LoopAtV prog w A h₀ env x body Q E it s₂) E s := by
  have hn := rsize n
  refine wpAny_pyIter_range hr (rsmall hb) ?_
  refine LoopInvG (s := { s with heap := _, toks := _ }) J (LCg.range_walks hh 0 n) (next_is_new F) (fun i h st => ⟨_, st⟩) (Nat.ne_of_lt F.ns.lt) ?_ (F.push _) (fun p hp => ⟨Heap.get?_push_of_some _ (N p hp).1, (N p hp).2⟩) (fun p hp e => absurd (Heap.lt_size (N p hp).1) (e ▸ Nat.lt_irrefl _)) hj ?_ ?_
  · show IsRangeIter _ _ _ _ _
    rw [hn]
    simpa using Heap.get?_push_size _ rfl
  · rintro i v m₁ news₁ h tk own hi ⟨t, rfl⟩ _ hoff hJ F₁ N₁
    have e : (0 : Int) + (i : Int) = (i : Int) := by omega
    rw [e] at F₁
    exact turn i t m₁ news₁ h tk own hi hoff hJ F₁ N₁
  · exact done
end

inductive Drop (D : Addr) : List (Addr × Obj) → List (Addr × Obj) → Prop
  | nil : Drop D [] []
  | all {r} : (∀ p ∈ r, p.1 ≠ D) → Drop D r r
  | keep {p r r'} : p.1 ≠ D → Drop D r r' → Drop D (p :: r) (p :: r')
  | drop {p r r'} : Drop D r r' → Drop D (p :: r) r'
theorem Drop.mem {D : Addr} {a b : List (Addr × Obj)} (h : Drop D a b) : ∀ p ∈ b, p ∈ a ∧ p.1 ≠ D := by
  induction h with
  | nil => intro p hp; cases hp
  | all h => intro p hp; exact ⟨hp, h p hp⟩
  | keep h _ ih =>
    intro p hp
    rcases List.mem_cons.mp hp with rfl | hp
    · exact ⟨.head _, h⟩
    · exact ⟨.tail _ (ih p hp).1, (ih p hp).2⟩
  | drop _ ih => intro p hp; exact ⟨.tail _ (ih p hp).1, (ih p hp).2⟩
theorem append_D {prog : Program} {w : World} {A : Around} {E : Value → Shared → Prop} {s : Shared} {h₀ : Heap} {L D : Addr} {m : Str → Option Value} {news rest : List (Addr × Obj)} {its : Array Value} {n : Nat} {x : Value} {Q : Value → Shared → Prop}
    (F : Fr h₀ L s.heap m) (N : News h₀ L s.heap news) (hm : (D, listOf its n) ∈ news) (hr : Drop D news rest) (hsz : its.size ≤ sizeLine)
    (h : ∀ h', Fr h₀ L h' m → News h₀ L h' ((D, listOf (its.push x) (n + 1)) :: rest) → Q .none { s with heap := h' }) : wpAny (model prog w) A (call (.builtin "list.append") [.ref D, x]) Q E s := by
  have z := N _ hm
  refine append_at (hsz := hsz) z.1 fun h' hs ho' => h h' (F.change hs z.2.1 z.2.2) fun p hp => ?_
  rcases List.mem_cons.mp hp with rfl | hp
  · exact ⟨ho', z.2⟩
  · obtain ⟨h1, h2⟩ := hr.mem p hp
    exact ⟨(hs.2 _ h2).trans (N p h1).1, (N p h1).2⟩
theorem above_ne {c l : Addr} {r : List (Addr × Obj)} (h : ∀ p ∈ r, @LT.lt Nat _ l p.1) (hc : @LE.le Nat _ c l) : ∀ p ∈ r, p.1 ≠ c := fun p hp => Nat.ne_of_gt (Nat.lt_of_le_of_lt hc (h p hp))
theorem allLt_ne {c d : Addr} {r : List (Addr × Obj)} (h : AllLt d r) (hc : @LE.le Nat _ d c) : ∀ p ∈ r, p.1 ≠ c := by
  induction r with
  | nil => intro p hp; cases hp
  | cons a r ih =>
    intro p hp
    obtain ⟨h1, h2⟩ := h
    cases List.mem_cons.mp hp with
    | inl e => rw [e]; exact Nat.ne_of_lt (Nat.lt_of_lt_of_le h1 hc)
    | inr hp => exact ih h2 p hp
local macro_rules | `(tactic| k_all) => `(tactic| ((rename (@LT.lt Nat _ _ _ ∧ _) => l1); (repeat replace l1 := l1.2); exact allLt_ne l1 (by omega)))
local macro_rules | `(tactic| k_all) => `(tactic| exact above_ne (by with_reducible assumption) (by omega))
local macro_rules | `(tactic| k_all) => `(tactic| with_reducible assumption)
local macro_rules | `(tactic| k_updF) => `(tactic| first | exact Drop.nil | exact Drop.all (by with_reducible assumption) | (refine' Drop.keep ?a ?b; (case a => k_ne); (case b => k_updF)) | (refine' Drop.drop ?b; (case b => k_updF)))
local macro_rules | `(tactic| walk_at "call builtin:list.append") => `(tactic| (k_here; (with_reducible show wpAny _ _ (call (Value.builtin _) [Value.ref _, _]) _ _ _); k_dflt (refine' append_D ?k1 ?k2 ?k3 ?k4 ?z ?_; (case k1 => k_asm); (case k2 => k_asm); (case k3 => k_mem); (case k4 => k_updF); (case z => size_fits); k_whole); intro h' F' N'; (try k_sweep)))

theorem wp_join {M : Model} {A : Around} {E : Value → Shared → Prop} {s : Shared} {tree : Sem Value} {Q : Value → Shared → Prop} (R : Str) (h1 : ∀ Q' : Value → Shared → Prop, (∀ t tk, Q' (.str R t) { s with toks := tk }) → wpAny M A tree Q' E s)
    (h2 : ∀ t tk, Q (.str R t) { s with toks := tk }) : wpAny M A tree Q E s := h1 Q h2

theorem News.dup {h₀ h : Heap} {L : Addr} {l : List (Addr × Obj)} {p : Addr × Obj} (N : News h₀ L h l) (hm : p ∈ l) : News h₀ L h (p :: l) := fun q hq => by
  rcases List.mem_cons.mp hq with rfl | hq
  · exact N _ hm
  · exact N _ hq

noncomputable def AllNe (d : Addr) : List (Addr × Obj) → Prop
  | [] => True
  | p :: r => @Ne Nat p.1 d ∧ AllNe d r
theorem allNe_of {d : Addr} : ∀ {l : List (Addr × Obj)}, (∀ p ∈ l, p.1 ≠ d) → AllNe d l
  | [], _ => trivial
  | p :: _, h => ⟨h p (.head _), allNe_of fun q hq => h q (.tail _ hq)⟩
theorem of_allNe {d : Addr} {l : List (Addr × Obj)} (h : AllNe d l) : ∀ p ∈ l, p.1 ≠ d := by
  induction l with
  | nil => intro p hp; cases hp
  | cons a r ih =>
    intro p hp
    obtain ⟨h1, h2⟩ := h
    cases List.mem_cons.mp hp with
    | inl e => rw [e]; exact h1
    | inr hp => exact ih h2 p hp

-- SortP
theorem rsSortP : True := by
  w_top off
  trivial
noncomputable def ins (lt : Str → Str → Bool) (x : Str) : List Str → List Str
  | [] => [x]
  | y :: r => if lt y x then y :: ins lt x r else x :: y :: r
def ltS (x y : Str) : Bool := decide (x.cps.toList < y.cps.toList)
def sort9 (l : List Str) : List Str := l.foldl (fun d x => ins ltS x d) []
theorem ins_length (lt : Str → Str → Bool) (x : Str) (l : List Str) : (ins lt x l).length = l.length + 1 := by
  induction l with
  | nil => rfl
  | cons y r ih => unfold ins; split <;> simp [ih]
theorem sort9_length (l : List Str) : (sort9 l).length = l.length := by
  have key : ∀ (l d : List Str), (l.foldl (fun d x => ins ltS x d) d).length = d.length + l.length := by
    intro l
    induction l with
    | nil => intro d; rfl
    | cons x r ih => intro d; rw [List.foldl_cons, ih, ins_length, List.length_cons]; omega
  have := key l []
  simpa [sort9] using this
theorem sort9_snoc {ss : List Str} {i : Nat} {y : Str} (h : ss[i]? = some y) : sort9 (ss.take (i + 1)) = ins ltS y (sort9 (ss.take i)) := by
  rw [List.take_add_one, h]
  simp [sort9]
theorem ins_at (lt : Str → Str → Bool) (y : Str) : ∀ (ys : List Str) (k : Nat), k ≤ ys.length → (∀ z ∈ ys.take k, lt z y = true) → (k = ys.length ∨ ∃ z, ys[k]? = some z ∧ lt z y = false) → ins lt y ys = ys.take k ++ y :: ys.drop k
  | [], k, h, _, _ => by
    have : k = 0 := by simpa using h
    subst this; rfl
  | x :: r, 0, _, _, h2 => by
    rcases h2 with h2 | ⟨z, hz, hf⟩
    · simp at h2
    · simp at hz; subst hz
      simp [ins, hf]
  | x :: r, k + 1, h, h1, h2 => by
    have hx : lt x y = true := h1 x (by simp)
    rw [ins, if_pos hx, ins_at lt y r k (by simpa using h) (fun z hz => h1 z (by simp [hz])) (by simpa using h2)]
    simp
theorem ins_perm (lt : Str → Str → Bool) (x : Str) : ∀ l : List Str, (ins lt x l).Perm (x :: l)
  | [] => List.Perm.refl _
  | y :: r => by
    unfold ins
    split
    · exact (List.Perm.cons y (ins_perm lt x r)).trans (List.Perm.swap x y r)
    · exact List.Perm.refl _
theorem sort9_perm (l : List Str) : (sort9 l).Perm l := by
  have key : ∀ (l d : List Str), (l.foldl (fun d x => ins ltS x d) d).Perm (d ++ l) := by
    intro l
    induction l with
    | nil => intro d; simp
    | cons x r ih =>
      intro d
      rw [List.foldl_cons]
      refine (ih _).trans ?_
      refine ((ins_perm ltS x d).append_right r).trans ?_
      exact (List.perm_middle (l₁ := d)).symm
  simpa [sort9] using key l []
/-- x ≤ y -/
def LeS (x y : Str) : Prop := ¬ (y.cps.toList < x.cps.toList)
theorem ltS_false {x y : Str} : ltS x y = false ↔ LeS y x := by simp [ltS, LeS]
theorem ltS_true {x y : Str} : ltS x y = true → LeS x y := by
  intro h
  simp only [ltS, decide_eq_true_eq] at h
  exact fun h2 => List.lt_irrefl _ (List.lt_trans h h2)
theorem LeS.trans {x y z : Str} (h1 : LeS x y) (h2 : LeS y z) : LeS x z := by
  unfold LeS at *
  intro h
  rcases (Decidable.em (y.cps.toList < z.cps.toList)) with q | q
  · exact h1 (List.lt_trans q h)
  · have e : y.cps.toList = z.cps.toList := List.le_antisymm (by simpa using h2) (by simpa using q)
    rw [e] at h1
    exact h1 h
theorem LeS.total (x y : Str) : LeS x y ∨ LeS y x := by
  unfold LeS
  rcases (Decidable.em (y.cps.toList < x.cps.toList)) with q | q
  · exact .inr (fun h => List.lt_irrefl _ (List.lt_trans q h))
  · exact .inl q
theorem LeS.refl (x : Str) : LeS x x := List.lt_irrefl _
theorem LeS.antisymm {x y : Str} (h1 : LeS x y) (h2 : LeS y x) : x = y := by
  have : x.cps.toList = y.cps.toList := List.le_antisymm (by simpa [LeS] using h1) (by simpa [LeS] using h2)
  cases x; cases y
  simp only [Str.mk.injEq] at this ⊢
  exact Array.ext' this
theorem ins_sorted (x : Str) : ∀ l : List Str, l.Pairwise LeS → (ins ltS x l).Pairwise LeS
  | [], _ => by simp [ins]
  | y :: r, h => by
    rw [List.pairwise_cons] at h
    unfold ins
    split
    · rename_i hy
      rw [List.pairwise_cons]
      refine ⟨fun z hz => ?_, ins_sorted x r h.2⟩
      have := (ins_perm ltS x r).mem_iff.mp hz
      rcases List.mem_cons.mp this with rfl | hz
      · exact ltS_true hy
      · exact h.1 z hz
    · rename_i hy
      have hy : LeS x y := ltS_false.mp (by simpa using hy)
      rw [List.pairwise_cons]
      refine ⟨fun z hz => ?_, by rw [List.pairwise_cons]; exact h⟩
      rcases List.mem_cons.mp hz with rfl | hz
      · exact hy
      · exact hy.trans (h.1 z hz)
theorem sort9_sorted (l : List Str) : (sort9 l).Pairwise LeS := by
  have key : ∀ (l d : List Str), d.Pairwise LeS → (l.foldl (fun d x => ins ltS x d) d).Pairwise LeS := by
    intro l
    induction l with
    | nil => intro d h; exact h
    | cons x r ih => intro d h; rw [List.foldl_cons]; exact ih _ (ins_sorted x d h)
  exact key l [] .nil
theorem perm_sorted_eq : ∀ {l l' : List Str}, l.Perm l' → l.Pairwise LeS → l'.Pairwise LeS → l = l'
  | [], l', p, _, _ => by simpa using p.symm
  | x :: r, [], p, _, _ => by simpa using p
  | x :: r, y :: r', p, h, h' => by
    rw [List.pairwise_cons] at h h'
    have e : x = y := by
      have hy : y ∈ x :: r := p.mem_iff.mpr (.head _)
      have hx : x ∈ y :: r' := p.mem_iff.mp (.head _)
      rcases List.mem_cons.mp hy with q | q
      · exact q.symm
      rcases List.mem_cons.mp hx with q' | q'
      · exact q'
      exact LeS.antisymm (h.1 _ q) (h'.1 _ q')
    subst e
    rw [perm_sorted_eq ((List.perm_cons x).mp p) h.2 h'.2]
theorem rising_pw : ∀ (l : List Str) (p : Str), risingS p l = true → (p :: l).Pairwise LeS
  | [], p, _ => by simp
  | x :: r, p, h => by
    have hx := h
    simp only [risingS] at hx
    rw [Bool.and_eq_true, ltCps_eq] at hx
    have h1 : LeS p x := by
      intro q
      have := hx.1
      rw [decide_eq_true q] at this
      cases this
    have h2 : (x :: r).Pairwise LeS := rising_pw r x hx.2
    rw [List.pairwise_cons]
    refine ⟨fun z hz => ?_, h2⟩
    rcases List.mem_cons.mp hz with rfl | hz
    · exact h1
    · rw [List.pairwise_cons] at h2
      exact h1.trans (h2.1 z hz)
theorem sort9_uniq {l l' : List Str} (hp : l'.Perm l) (hs : sortedS l' = true) : l' = sort9 l := by
  refine perm_sorted_eq (hp.trans (sort9_perm l).symm) ?_ (sort9_sorted l)
  cases l' with
  | nil => exact .nil
  | cons x r => exact rising_pw r x hs

-- InOrd
theorem rsInOrd : True := by
  w_top off
  trivial
theorem fillK : ((PySem.Challenge.rw_xn0024_01, hd.heap_39) : OpenLaw × (Params → Frag)).1 = PySem.Challenge.rw_xn0024_01 := by
  k_fill
  rfl
def J9 (ss : List Str) (l : Addr) (i : Nat) (m : Str → Option Value) (nx : List (Addr × Obj)) : Prop :=
  ∃ ws n, nx = [(l, listOf ws.toArray n)] ∧ StrsAre ws (sort9 (ss.take i)) ∧ m "done" = some (.ref l)
def JW (ys : List Str) (y : Str) (l : Addr) (ws : List Value) (nn : Nat) (own : List (Addr × Obj)) (n : Nat) (m : Str → Option Value) (nx : List (Addr × Obj)) : Prop :=
  ∃ (k : Nat) (t u : Tok), n = ys.length - k ∧ k ≤ ys.length ∧ nx = (l, listOf ws.toArray nn) :: own ∧ (∀ z ∈ ys.take k, ltS z y = true) ∧ m "k" = some (.int k t) ∧ m "text" = some (.str y u) ∧ m "done" = some (.ref l)
theorem ordEnd {h₀ h' : Heap} {L l : Addr} {m' : Str → Option Value} {news' own : List (Addr × Obj)} {s₁ : Shared} {tk n k i : Nat} {u : Tok} {y : Str} {ss : List Str} {ws : List Value}
    (F : Fr h₀ L h' m') (N : News h₀ L h' news') (hm : (l, listOf (ws.take k ++ Value.str y u :: ws.drop k).toArray (n + 1)) ∈ news') (ho : ∀ p ∈ own, p ∈ news') (hoff : OwnOff own [l]) (hws : StrsAre ws (sort9 (ss.take i)))
    (hk : k ≤ (sort9 (ss.take i)).length) (h1 : ∀ z ∈ (sort9 (ss.take i)).take k, ltS z y = true) (h2 : k = (sort9 (ss.take i)).length ∨ ∃ z, (sort9 (ss.take i))[k]? = some z ∧ ltS z y = false) (hy : ss[i]? = some y) (hd : m' "done" = some (.ref l)) :
    InvEndG h₀ L (J9 ss l (i + 1)) own s₁ { s₁ with heap := h', toks := tk } := by
  refine InvEndG.intro (nx := [(l, listOf (ws.take k ++ Value.str y u :: ws.drop k).toArray (n + 1))]) F N ⟨_, _, rfl, ?_, hd⟩ hoff (fun p hp => ?_) ho
  · rw [sort9_snoc hy, ins_at ltS y _ k hk h1 h2]
    exact strsAre_app (strsAre_take hws k) (.cons y u (strsAre_drop hws k))
  · rw [List.mem_singleton.mp hp]; exact hm

theorem in_order {w : World} {gd : Option (List Code)} {cn : Str} {cs : Scope} {a : Addr} {ccd : Value} {cl : List (Str × Addr)} {outer : List Env} {A₀ : Around} {base h₀ : Heap} {L : Addr} {m : Str → Option Value} {s : Shared} {Q E : Value → Shared → Prop}
    {mean : ExcName → Option Value} {mg mb : Str → Option Value} {loose : List Str} {la : Addr} {vs : List Value} {ss : List Str}
    (B : Below A₀ base outer h₀) (F : Fr h₀ L s.heap m) (X : (hd.heap_39 w.params).In h₀) (T : Top view loose mean mg mb h₀) (hk : cs.kind = .function)
    (hl : s.heap.IsList la vs.toArray) (hs : StrsAre vs ss) (hn : ss.length ≤ 8)
    (hret : ∀ l h' tk ws n, s.heap.StaysIn h' → s.heap.get? l = none → h'.get? l = some (listOf ws.toArray n) → StrsAre ws (sort9 ss) → Q (.ref l) { s with heap := h', toks := tk }) :
    wpAny (model PySem.Challenge.rw_xn0024_01.row.prog w) (ktrTop 303 10 gd cn cs L a ccd cl outer) (call (.ref 338) [.ref la]) Q E s := by
  (refine wpAny_call ?_; k_dflt (refine' enter0 (binds := [((Str.ofString "strand"), Value.ref la)]) ?k1 ?k2 ?k3 ?k5 ?kA ?kF ?kK ?k6 ?k7 ?k8 ?k9 ?kB ?_ ?c2 ?c3 ?c4 ?c5; (case kA => exact rfl); (case kF => exact rfl); (case kK => assumption); (case k1 => k_asm); (case k2 => k_asm); (case k3 => k_asm); (case k5 => k_asm); (case k6 => k_is); (case k7 => k_is); (case k8 => ktr_room); (case k9 => first | exact BindsTo.of_eq rfl | exact binds_K (by k_in) rfl (by k_is) rfl rfl rfl); (case c5 => decide); (case kB => exact locs rfl); (case c2 => exact rfl); (case c3 => exact rfl); (case c4 => exact rfl); k_whole); walk_at "m_in")
  walk_at "m_steps"
  walk_at "m_names"
  rename (_ = s.heap) => hg'
  subst hg'
  refine led1 N9 fun l9 hl9 => ?_
  subst hl9
  refine For_invV s.heap (by rfl) (by rfl) ?_
  walk1
  refine iterV (J9 ss l9) rfl hl F9 N9 ?_ ?_ ?_
  · exact ⟨[], 0, rfl, .nil, by with_unfolding_all rfl⟩
  · clear F9 N9
    intro i v m₁ news₁ h1 tk1 own hv ho hoff hJ F1 N1
    obtain ⟨ws, n, rfl, hws, hd⟩ := hJ
    obtain ⟨y, t, rfl, hy⟩ := strsAre_at hs i v hv
    replace F1 := Fr.at (x := "done") F1 (by show (if _ then _ else _) = _; rw [if_neg (by decide)]; exact hd)
    walk_at "m_steps"
    walk_at "m_names"
    refine While_inv2 (JW (sort9 (ss.take i)) y l9 ws n own) F9 N9 (n₀ := (sort9 (ss.take i)).length) ?_ ?_
    · exact ⟨0, _, _, rfl, Nat.zero_le _, rfl, by simp, by with_unfolding_all rfl, by with_unfolding_all rfl, by with_unfolding_all rfl⟩
    clear F9 N9 F1
    rintro nn m2 nx h2 tk2 F2 N2 ⟨k, t1, t2, rfl, hk, rfl, hlt, hmk, hmt, hmd⟩
    replace F2 := Fr.ats [("k", .int k t1), ("text", .str y t2), ("done", .ref l9)] F2 (by walk_at "m_all")
    have kM := kstMark
    have hys : (sort9 (ss.take i)).length ≤ 8 := by rw [sort9_length, List.length_take]; omega
    (try dsimp only)
    (try k_fold)
    walk_at "m_steps"
    · walk_at "m_names"
      rename (_[Int.toNat _]? = some _) => hy9
      rename (_ < _) => hlt9
      refine ⟨_, _, _, (l9, listOf ws.toArray n) :: own, (sort9 (ss.take i)).length - (k + 1), rfl, F9, fun p hp => N9 p (by repeat' (first | assumption | apply List.Mem.tail)), by omega, k + 1, _, t2, rfl, by omega, rfl, ?_, rfl, rfl, rfl⟩
      intro z hz
      rw [List.take_add_one, Int.toNat_natCast] at *
      rw [hy9] at hz
      rcases List.mem_append.mp hz with hz | hz
      · exact hlt z hz
      · simp at hz; subst hz
        exact decide_eq_true hlt9
    · walk_at "m_names"
      rename (_[Int.toNat _]? = some _) => hy9
      rename (¬ _ < _) => hlt9
      exact ordEnd F9 N9 (by repeat' (first | exact List.Mem.head _ | apply List.Mem.tail)) (fun p hp => by repeat' (first | assumption | apply List.Mem.tail)) hoff hws hk hlt (.inr ⟨_, by simpa using hy9, decide_eq_false hlt9⟩) hy rfl
    · walk_at "m_names"
      rename (¬ _ < _) => hlt9
      exact ordEnd F9 N9 (.head _) (fun p hp => .tail _ hp) hoff hws hk hlt (.inl (by omega)) hy rfl
  · clear F9 N9
    intro m₁ news₁ h1 tk1 hJ F1 N1
    obtain ⟨ws, n, rfl, hws, hd⟩ := hJ
    replace F1 := Fr.at F1 hd
    walk_at "m_steps"
    obtain ⟨h1, _, h3⟩ := N1 _ (.head _)
    refine hret l9 _ _ ws n (fun b o e => F1.keep b o e) h3 h1 ?_
    rw [hs.length, List.take_length] at hws
    exact hws

theorem in_order_K {w : World} {gd : Option (List Code)} {cn : Str} {cs : Scope} {a : Addr} {ccd : Value} {cl : List (Str × Addr)} {outer : List Env} {A₀ : Around} {base h₀ : Heap} {L : Addr} {m : Str → Option Value} {s : Shared} {Q E : Value → Shared → Prop}
    {mean : ExcName → Option Value} {mg mb : Str → Option Value} {loose : List Str} {la : Addr} {vs : List Value} {ss : List Str} {news : List (Addr × Obj)}
    (B : Below A₀ base outer h₀) (F : Fr h₀ L s.heap m) (X : (hd.heap_39 w.params).In h₀) (T : Top view loose mean mg mb h₀) (N : News h₀ L s.heap news) (hk : cs.kind = .function)
    (hl : s.heap.IsList la vs.toArray) (hs : StrsAre vs ss) (hn : ss.length ≤ 8)
    (hret : ∀ l h' tk ws n, Fr h₀ L h' m → News h₀ L h' ((l, listOf ws.toArray n) :: news) → (∀ p ∈ news, p.1 ≠ l) → StrsAre ws (sort9 ss) → Q (.ref l) { s with heap := h', toks := tk }) :
    wpAny (model PySem.Challenge.rw_xn0024_01.row.prog w) (ktrTop 303 10 gd cn cs L a ccd cl outer) (call (.ref 338) [.ref la]) Q E s :=
  in_order B F X T hk hl hs hn fun l h' tk ws n st h0 h1 hws => hret l h' tk ws n (Fr.stays F st) (News.one F N st h0 h1) (fun p hp e => by have := (N p hp).1; rw [e, h0] at this; cases this) hws

-- Re1
theorem rsRe1 : True := by
  w_top off
  trivial
def fails (code : Array Nat) (y : Str) : Bool := match ((Sre.forSearch code y.cps 0 0 y.cps.size false).runFor 4).outcome with | some .failed => true | _ => false

theorem slot_search : Slot "re.Pattern" "search" "re.Pattern.search" :=
  .of (owner := "re.Pattern") (n := "search") (by rw [typeLookup_type, builtinLookup_eq_fast]; kernel_rfl) (by decide +kernel) (by decide +kernel) (by decide +kernel)
    (by first | exact .inl (by decide +kernel) | exact .inr (by decide +kernel)) (by rw [isSubtype_type]; kernel_rfl)
theorem type_search : typeOf (.builtin "re.Pattern.search") = pure (.type "method_descriptor") := by show builtinType _ = _; rw [builtinType_eq_fast]; kernel_rfl
theorem entry_search : entryFor table "re.Pattern.search" = some Builtin.«re.Pattern.search» := entryFor_of_tree (by kernel_rfl)
theorem args_search (a b : Value) : argsOk "re.Pattern.search" ⟨[a, b], []⟩ := by unfold argsOk; kernel_rfl
theorem attrs_pattern : PlainAttrs "re.Pattern" :=
  ⟨⟨"object.__getattribute__", by rw [typeLookup_type, builtinLookup_eq_fast]; kernel_rfl, by decide +kernel⟩, by rw [typeLookup_type, builtinLookup_eq_fast]; kernel_rfl⟩

section
variable {prog : Program} {w : World} {A : Around} {E : Value → Shared → Prop} {s : Shared}
open Builtin.Re in
theorem wp_reDrive (k : Nat) {m : Sre.M} {Q : Sre.M → Shared → Prop} (ho : (m.runFor 4).outcome.isSome = true) (h : Q (m.runFor 4) s) : wpAny (model prog w) A (reDrive (k + 1) m) Q E s := by
  unfold reDrive
  have e : reTurnSteps = 4 := rfl
  rw [e]
  simp only [ho, if_true]
  exact wpAny_pure h
open Builtin.Re in
theorem wp_reRunToEnd {m : Sre.M} {Q : Option Sre.M → Shared → Prop} (ho : (m.runFor 4).outcome = some .failed) (h : Q none s) : wpAny (model prog w) A (reRunToEnd m) Q E s := by
  unfold reRunToEnd
  have e : (2 : Nat) ^ 64 = (2 ^ 64 - 1) + 1 := rfl
  rw [e]
  refine wpAny_bind (wp_reDrive _ (by rw [ho]; rfl) ?_)
  refine wpAny_bind (wpAny_forIn_list _ (fun _ _ s' => s' = s) _ ?_ ?_ _ _ rfl)
  · rintro a rest b s' rfl
    split
    · exact wpAny_bind (wpAny_rule (wpAny_pure rfl))
    · exact wpAny_pure rfl
  · rintro b s' rfl
    rw [ho]
    exact wpAny_pure h
end
theorem search_meets {pa ta : Addr} {y : Str} {t : Tok} {fs items : Array Value} {n : Nat} (h5 : fs.getD 5 .none = .ref ta) (h2 : Builtin.Re.reRawNat (fs.getD 2 .none) = 0) (h6 : Builtin.Re.reRawNat (fs.getD 6 .none) = 0)
    (hf : fails ((items.map Builtin.Re.reRawOf).map (·.toNat)) y = true) (hz : y.length < 1000) :
    Meets (Builtin.«re.Pattern.search» ⟨[.ref pa, .str y t], []⟩) (fun _ R s => s.heap.get? pa = some { cls := .type "re.Pattern", data := .fields fs } ∧ s.heap.get? ta = some { cls := .type "tuple", data := .seq items n } ∧ R (.ok (.ret .none)) s) := by
  refine Meets.of_wp fun prog w A R s ⟨hp, ht, hr⟩ => ?_
  show wpAny _ _ (Builtin.Re.reTarget _ _ _ >>= _) _ _ s
  refine wpAny_bind ?_
  show wpAny _ _ (Builtin.Re.reNamed _ _ _ _ _ _ >>= _) _ _ s
  have e1 : Builtin.Re.reNamed "re.Pattern.search" "search" ["string", "pos", "endpos"] 1 [Value.str y t] [] = pure [some (Value.str y t), none, none] := rfl
  rw [e1]
  refine wpAny_bind (wpAny_pure ?_)
  dsimp only
  refine wpAny_bind (wpAny_pure ?_)
  refine wpAny_bind (wpAny_pure ?_)
  refine wpAny_bind (wpAny_fieldsOf hp rfl ?_)
  have e2 : Builtin.Re.reTextOf (.str y t) = pure (y.cps, 0) := rfl
  rw [e2]
  refine wpAny_bind (wpAny_pure ?_)
  dsimp only
  rw [h6]
  have e3 : Builtin.Re.reNoCollectionInside (.str y t) 0 = pure () := rfl
  simp only [show ((0 : Nat) == 0 && (0 : Nat) == 1) = false from rfl, show ((0 : Nat) == 1 && (0 : Nat) == 0) = false from rfl, Bool.false_eq_true, if_false, e3]
  refine wpAny_bind (wpAny_pure ?_)
  refine wpAny_bind ?_
  rw [h5]
  show wpAny _ _ (seqItems? (.ref ta) >>= _) _ _ s
  refine wpAny_bind (wpAny_seqItems ht rfl ?_)
  refine wpAny_pure (wpAny_pure ?_)
  dsimp only [Option.getD]
  rw [h2]
  have e4 : min (2 ^ 63 - 1 : Int).toNat y.cps.size = y.cps.size := by
    have : y.cps.size < 1000 := hz
    omega
  have e5 : min (Int.toNat 0) y.cps.size = 0 := by simp
  rw [e4, e5]
  have ho : ((Sre.forSearch ((items.map Builtin.Re.reRawOf).map (·.toNat)) y.cps 0 0 y.cps.size false).runFor 4).outcome = some .failed := by
    unfold fails at hf
    split at hf
    · assumption
    · cases hf
  unfold Builtin.Re.reAnswer
  refine wpAny_bind (wp_reRunToEnd ho ?_)
  exact wpAny_pure ⟨_, rfl, hr⟩

def codeN : Array Nat := #[14, 10, 4, 1, 1, 22, 0, 31, 16, 127, 0, 13, 7, 22, 0, 31, 16, 127, 0, 1]
def codeV : Array Nat := #[14, 14, 4, 1, 1, 9, 4294966783, 0, 0, 2147483648, 0, 0, 0, 0, 0, 13, 11, 9, 4294966783, 0, 0, 2147483648, 0, 0, 0, 0, 0, 1]
theorem fillK1 : ((PySem.Challenge.rw_xn0024_01, hd.heap_39) : OpenLaw × (Params → Frag)).1 = PySem.Challenge.rw_xn0024_01 := by
  k_fill
  rfl
def PatIn (K : Frag) (pa : Addr) (code : Array Nat) : Prop := ∃ (fs items : Array Value) (ta : Addr) (n : Nat), K.lookup pa = some ⟨.type "re.Pattern", none, .fields fs, #[]⟩ ∧ K.lookup ta = some ⟨.type "tuple", none, .seq items n, #[]⟩ ∧
  fs.getD 5 .none = .ref ta ∧ Builtin.Re.reRawNat (fs.getD 2 .none) = 0 ∧ Builtin.Re.reRawNat (fs.getD 6 .none) = 0 ∧ (items.map Builtin.Re.reRawOf).map (·.toNat) = code
theorem pat_intro {K : Frag} {pa : Addr} {code : Array Nat} {fs items : Array Value} {ta : Addr} {n : Nat} (h1 : K.lookup pa = some ⟨.type "re.Pattern", none, .fields fs, #[]⟩) (h2 : K.lookup ta = some ⟨.type "tuple", none, .seq items n, #[]⟩)
    (h3 : fs.getD 5 .none = .ref ta) (h4 : Builtin.Re.reRawNat (fs.getD 2 .none) = 0) (h5 : Builtin.Re.reRawNat (fs.getD 6 .none) = 0) (h6 : (items.map Builtin.Re.reRawOf).map (·.toNat) = code) : PatIn K pa code := ⟨fs, items, ta, n, h1, h2, h3, h4, h5, h6⟩
theorem pat177 (w : World) : PatIn (hd.heap_39 w.params) 177 codeV := by
  refine' pat_intro (ta := 176) ?a ?b ?c ?d ?e ?f
  case a => k_dflt k_is
  case b => k_dflt k_is
  case c => rfl
  case d => rfl
  case e => rfl
  case f => decide +kernel
theorem pat172 (w : World) : PatIn (hd.heap_39 w.params) 172 codeN := by
  refine' pat_intro (ta := 171) ?a ?b ?c ?d ?e ?f
  case a => k_dflt k_is
  case b => k_dflt k_is
  case c => rfl
  case d => rfl
  case e => rfl
  case f => decide +kernel
section
variable {prog : Program} {w : World} {A : Around} {E : Value → Shared → Prop} {s : Shared} {h₀ : Heap} {L pa : Addr} {m : Str → Option Value} {K : Frag} {code : Array Nat}
theorem pat_method {pl : Sem Bool} {Q : Value × List Value → Shared → Prop} (F : Fr h₀ L s.heap m) (X : K.In h₀) (hp : PatIn K pa code) (h : Q (.builtin "re.Pattern.search", [.ref pa]) s) :
    wpAny (model prog w) A (getMethod (.ref pa) "search" pl) Q E s := by
  obtain ⟨fs, items, ta, n, h1, _⟩ := hp
  have e := (X.keeps F.keep) _ _ h1
  exact getMethod_builtin ⟨_, e, rfl⟩ attrs_pattern slot_search type_search (fun a q => by cases q; exact ⟨_, e, rfl⟩) h
theorem pat_search {y : Str} {t : Tok} {Q : Value → Shared → Prop} (F : Fr h₀ L s.heap m) (X : K.In h₀) (hp : PatIn K pa code) (hf : fails code y = true) (hz : y.length < 1000) (h : Q .none s) :
    wpAny (model prog w) A (call (.builtin "re.Pattern.search") [.ref pa, .str y t]) Q E s := by
  obtain ⟨fs, items, ta, n, h1, h2, h3, h4, h5, h6⟩ := hp
  have e := (X.keeps F.keep) _ _ h1
  exact call_meets slot_search ⟨_, e, rfl⟩ entry_search (args_search _ _) (search_meets h3 h4 h5 (by rw [h6]; exact hf) hz) ⟨e, (X.keeps F.keep) _ _ h2, h⟩
end
local macro_rules | `(tactic| walk_at "getMethod ref") => `(tactic| (k_here; (with_reducible show wpAny _ _ (getMethod (Value.ref _) (PySem.Str.ofString "search") _) _ _ _); k_dflt (refine' pat_method ?F ?X ?p ?_; (case F => k_asm); (case X => k_asm); (case p => first | exact pat177 _ | exact pat172 _))))

-- EqS
theorem rsEqS : True := by
  w_top off
  trivial
open PySem PySem.W PySem.Calls PySem.Spec PyProof.Rows PySem.SeqAt
theorem reads_of_strs {h : Heap} {a : Addr} {vs : List Value} {ns : List Str} (hl : h.IsList a vs.toArray) (hi : StrsAre vs ns) : Reads h (.ref a) (.list (ns.map PyData.str)) [a] := by
  obtain ⟨o, ho, hc, n, hd⟩ := hl
  exact Reads.list ho hc hd (by simpa using StrsAre.reads h hi)
def Oks (ss : List Str) : Prop := ∀ y ∈ ss, PyData.strOk y = true
theorem shaped_strs {ns : List Str} (h : Oks ns) : shaped (.list (ns.map PyData.str)) = true := by
  have h2 : PyData.depth (.list (ns.map PyData.str)) ≤ 64 := by simp only [PyData.depth, depthAll_strs']; omega
  show (PyData.canLay0 (.list (ns.map PyData.str)) && decide (PyData.depth (.list (ns.map PyData.str)) ≤ 64)) = true
  rw [Bool.and_eq_true]
  refine ⟨?_, decide_eq_true h2⟩
  simp only [PyData.canLay0, canLayAll_strs']
  exact List.all_eq_true.mpr h
theorem noMix_strs : ∀ ns ms : List Str, noMixAll (ns.map PyData.str) (ms.map PyData.str) = true
  | [], [] => by simp [noMixAll]
  | [], _ :: _ => by simp [noMixAll]
  | _ :: _, [] => by simp [noMixAll]
  | _ :: r, _ :: q => by simp [noMixAll, noMix, noMix_strs r q]
theorem same_strs : ∀ ns ms : List Str, PySem.Spec.sameAll (ns.map PyData.str) (ms.map PyData.str) = decide (ns = ms)
  | [], [] => by simp [PySem.Spec.sameAll]
  | [], _ :: _ => by simp [PySem.Spec.sameAll]
  | _ :: _, [] => by simp [PySem.Spec.sameAll]
  | n :: r, k :: q => by
    simp only [List.map_cons, PySem.Spec.sameAll, PySem.Spec.same, same_strs r q]
    by_cases h : n = k <;> simp [h]
section
variable {prog : Program} {w : World} {A : Around} {E : Value → Shared → Prop} {s : Shared}
theorem ne_S {a b : Addr} {vs us : List Value} {ns : List Str} {Q : Value → Shared → Prop} (hl : s.heap.IsList a vs.toArray) (hi : StrsAre vs ns) (hl' : s.heap.IsList b us.toArray) (hi' : StrsAre us ns) (ho : Oks ns) (hu : A.units + 64 < cLine)
    (h : Q (.bool false) s) : wpAny (model prog w) A (compareOp .NotEq (.ref a) (.ref b)) Q E s :=
  ne_dataH_same (reads_of_strs hl hi) (reads_of_strs hl' hi') (shaped_strs ho) (shaped_strs ho) hu (by simp only [noMix]; exact noMix_strs ns ns) (by simp only [PySem.Spec.same]; rw [same_strs]; simpa using h)
end
local macro_rules | `(tactic| walk_at "compareOp NotEq ref ref") => `(tactic| (k_here; (with_reducible show wpAny _ _ (compareOp CmpOp.NotEq (Value.ref _) (Value.ref _)) _ _ _); k_dflt (refine' ne_S ?a ?b ?c ?d ?o ?u ?_; (case a => first | exact News.isList (by k_asm) (by k_mem) | exact stays_list (Fr.keep (by k_asm)) (by assumption)); (case b => with_reducible assumption); (case c => first | exact News.isList (by k_asm) (by k_mem) | exact stays_list (Fr.keep (by k_asm)) (by assumption)); (case d => with_reducible assumption); (case o => with_reducible assumption); (case u => exact Nat.le_of_ble_eq_true rfl); k_whole)))

-- Cell
theorem rsCell : True := by
  w_top off
  trivial
def JC (J : Nat → (Str → Option Value) → List (Addr × Obj) → Prop) (c : Addr) (i : Nat) (m : Str → Option Value) (nx : List (Addr × Obj)) : Prop :=
  ∃ oc vc nx', nx = (c, oc) :: nx' ∧ oc.data = .cell vc ∧ (∀ p ∈ nx', p.1 ≠ c) ∧ J i m nx'
/-- what the loop over a cell's name wants behind its range -/
def CellSrc (prog : Program) (w : World) (A : Around) (h₀ : Heap) (env : Env) (body : List Stmt) (Q : Flow → Shared → Prop) (E : Value → Shared → Prop) (c : Addr) (n : Nat) (J : Nat → (Str → Option Value) → List (Addr × Obj) → Prop) (xv : Value) (s₁ : Shared) : Prop :=
  ∃ (r : Addr) (t₀ u₀ v₀ : Tok) (m₀ : Str → Option Value) (news : List (Addr × Obj)), xv = .ref r ∧ A.handled = none ∧ IsRange s₁.heap r 0 (n : Int) 1 t₀ u₀ v₀ ∧ n ≤ 1000 ∧
      Fr h₀ env.locals s₁.heap m₀ ∧ News h₀ env.locals s₁.heap news ∧ JC J c 0 m₀ news ∧
      (∀ (i : Nat) (t : Tok) m₁ nx h tk own oc, i < n → OwnOff own (((c, oc) :: nx).map (·.1)) → oc.data = .cell (some (.int (i : Int) t)) → (∀ p ∈ nx, p.1 ≠ c) → J i m₁ nx → Fr h₀ env.locals h m₁ → News h₀ env.locals h ((c, oc) :: (nx ++ own)) →
        wpAny (model prog w) A (execs body env) (InvPostG h₀ env.locals (JC J c (i + 1)) own { s₁ with heap := h, toks := tk } Q) E { s₁ with heap := h, toks := tk }) ∧
      (∀ m₁ nx h tk oc vc, oc.data = .cell vc → (∀ p ∈ nx, p.1 ≠ c) → J n m₁ nx → Fr h₀ env.locals h m₁ → News h₀ env.locals h ((c, oc) :: nx) → Q .next { s₁ with heap := h, toks := tk })
section
variable {prog : Program} {w : World} {A : Around} {E : Value → Shared → Prop} {s : Shared} {env : Env} {h₀ : Heap} {x : Str} {body : List Stmt} {Q : Flow → Shared → Prop}
/-- a for over range(n) whose name is a cell -/
theorem For_cell {c : Addr} {px pos : Pos} {iter : Expr} {n : Nat} (J : Nat → (Str → Option Value) → List (Addr × Obj) → Prop)
    (hk : env.scope.kind = .function) (hx : env.kindOf x = some .cell) (hc : env.cells.lookup x = some c)
    (h : wpAny (model prog w) A (eval iter env) (CellSrc prog w A h₀ env body Q E c n J) E s)
    (hs : ∀ x, foldedSetIterable iter env x = pure x := by intro _; rfl)
    (hE : PassesOwn (model prog w) A env E := by passes_own) :
    wpAny (model prog w) A (exec (.For (.Name x px) iter body [] pos) env) Q E s := by
  refine wpAny_For (wpAny_mono h (fun xv s₁ h₁ => ?_) fun _ _ e => e) hs
  obtain ⟨r, t₀, u₀, v₀, m₀, news, rfl, hh, hr, hb, F, N, hj, turn, done⟩ := h₁
  have hn := rsize n
  refine wpAny_pyIter_range hr (rsmall hb) ?_
  have W := LCg.range_walks (prog := prog) (w := w) (I := s₁.heap.objs.size) hh 0 n
  have hI0 : h₀.get? s₁.heap.objs.size = none := next_is_new F
  have hLI : env.locals ≠ s₁.heap.objs.size := Nat.ne_of_lt F.ns.lt
  refine codeAny_forLoop
    (fun k s' => ∃ h' tk m' nx i, s' = { s₁ with heap := h', toks := tk } ∧ IsRangeIter h' s₁.heap.objs.size (0 + (i : Nat) * 1) ((n : Int) - (i : Nat)) 1 ∧ Fr h₀ env.locals h' m' ∧ News h₀ env.locals h' nx ∧ (∀ p ∈ nx, p.1 ≠ s₁.heap.objs.size) ∧ JC J c i m' nx ∧ i ≤ n ∧ k = n + 1 - i) ?_ (n + 1)
    ⟨_, s₁.toks, m₀, news, 0, rfl, ?_, F.push _, (fun p hp => ⟨Heap.get?_push_of_some _ (N p hp).1, (N p hp).2⟩), (fun p hp => Nat.ne_of_lt (Heap.lt_size (N p hp).1)), hj, Nat.zero_le _, rfl⟩
  · rintro k s' ⟨h', tk, m', nx, i, rfl, hst, F', N', hoffI, hJ, hi, rfl⟩
    have next : ∀ h₂ : Heap, (∀ b o, b ∉ [s₁.heap.objs.size] → h'.get? b = some o → h₂.get? b = some o) → Fr h₀ env.locals h₂ m' ∧ News h₀ env.locals h₂ nx := fun h₂ hk₂ =>
      ⟨LCg.fr_but F' hk₂ hLI hI0, LCg.news_but N' hk₂ hoffI⟩
    by_cases hlt : i < n
    · refine W.item i _ _ _ hlt hst fun v h₂ tk₂ hP hst₂ hk₂ => ?_
      obtain ⟨t, rfl⟩ := hP
      obtain ⟨F₂, N₂⟩ := next h₂ hk₂
      obtain ⟨oc, vc, nx', rfl, hoc, hnc, hJ'⟩ := hJ
      have hcI : c ≠ s₁.heap.objs.size := hoffI (c, oc) (.head _)
      have zc := N₂ (c, oc) (.head _)
      refine wpAny_assign_Name (wpAny_storeName_cell hk hx hc ⟨oc, zc.1, hoc⟩ fun h₃ hv₃ hs₃ => ?_)
      obtain ⟨oc', ho', hd'⟩ := hv₃
      have F₃ : Fr h₀ env.locals h₃ m' := F₂.change hs₃ zc.2.1 zc.2.2
      have hst₃ : IsRangeIter h₃ s₁.heap.objs.size (0 + ((i + 1 : Nat) : Int) * 1) ((n : Int) - ((i + 1 : Nat) : Int)) 1 := W.frame _ _ _ hst₂ fun b hb o e => hs₃.extBut b o (fun q => hcI (by rw [← q]; exact List.mem_singleton.mp hb)) e
      obtain ⟨oI, hIm, hIs⟩ : ∃ oI, h₃.get? s₁.heap.objs.size = some oI ∧ ∀ h : Heap, h.get? s₁.heap.objs.size = some oI → IsRangeIter h s₁.heap.objs.size (0 + ((i + 1 : Nat) : Int) * 1) ((n : Int) - ((i + 1 : Nat) : Int)) 1 := ⟨_, hst₃, fun h e => e⟩
      have hI : News h₀ env.locals h₃ [(s₁.heap.objs.size, oI)] := fun p hp => by rw [List.mem_singleton.mp hp]; exact ⟨hIm, Ne.symm hLI, hI0⟩
      have e1 : (0 : Int) + (i : Int) = (i : Int) := by omega
      rw [e1] at hd'
      have hoff : OwnOff [(s₁.heap.objs.size, oI)] (((c, oc') :: nx').map (·.1)) := by
        intro p hp b hb e
        rw [List.mem_singleton.mp hp] at e
        rcases List.mem_cons.mp hb with hb | hb
        · exact hcI (hb.symm.trans e.symm)
        · obtain ⟨q, hq, rfl⟩ := List.mem_map.mp hb
          exact hoffI q (.tail _ hq) e.symm
      refine wpAny_passesOwn hE (wpAny_mono (turn i t m' nx' h₃ _ [(s₁.heap.objs.size, oI)] oc' hlt hoff hd' hnc hJ' F₃ ?_) (fun f s₃ p => ?_) fun _ _ e => e)
      · intro p hp
        rcases List.mem_cons.mp hp with rfl | hp
        · exact ⟨ho', zc.2⟩
        · rcases List.mem_append.mp hp with hp | hp
          · have z := N₂ p (.tail _ hp)
            exact ⟨(hs₃.2 _ (hnc p hp)).trans z.1, z.2⟩
          · exact hI p hp
      · have fin : InvEndG h₀ env.locals (JC J c (i + 1)) [(s₁.heap.objs.size, oI)] { s₁ with heap := h₃, toks := tk₂ } s₃ → ∃ m, m < n + 1 - i ∧ ∃ h' tk m' nx i, s₃ = { s₁ with heap := h', toks := tk } ∧ IsRangeIter h' s₁.heap.objs.size (0 + (i : Nat) * 1) ((n : Int) - (i : Nat)) 1 ∧ Fr h₀ env.locals h' m' ∧ News h₀ env.locals h' nx ∧ (∀ p ∈ nx, p.1 ≠ s₁.heap.objs.size) ∧ JC J c i m' nx ∧ i ≤ n ∧ m = n + 1 - i := by
          rintro ⟨h4, tk4, m4, news4, nx4, e, F4, N4, hn4, ho4, ha4, hj4⟩
          refine ⟨n + 1 - (i + 1), by omega, h4, tk4, m4, nx4, i + 1, e, ?_, F4, fun p hp => N4 p (hn4 p hp), fun p hp q => ?_, hj4, hlt, rfl⟩
          · exact hIs _ (N4 _ (ho4 _ (.head _))).1
          · exact ha4 _ (.head _) p.1 (List.mem_map.mpr ⟨p, hp, rfl⟩) q.symm
        cases f with
        | ret v => exact p
        | brk => exact p
        | next => exact fin p
        | cont => exact fin p
    · obtain rfl : i = n := by omega
      refine W.done _ _ _ hst fun h₂ tk₂ hk₂ => wpAny_execs_nil ?_
      obtain ⟨F₂, N₂⟩ := next h₂ hk₂
      obtain ⟨oc, vc, nx', rfl, hoc, hnc, hJ'⟩ := hJ
      exact done m' nx' h₂ tk₂ oc vc hoc hnc hJ' F₂ N₂
  · show IsRangeIter _ _ _ _ _
    rw [hn]
    simpa using Heap.get?_push_size _ rfl
theorem CellSrc.mk {E : Value → Shared → Prop} {c r : Addr} {n : Nat} {J : Nat → (Str → Option Value) → List (Addr × Obj) → Prop} {s₁ : Shared} {t₀ u₀ v₀ : Tok} {m₀ : Str → Option Value} {all nx : List (Addr × Obj)} {oc : Obj} {vc : Option Value}
    (hh : A.handled = none) (hr : IsRange s₁.heap r 0 (n : Int) 1 t₀ u₀ v₀) (hb : n ≤ 1000) (F : Fr h₀ env.locals s₁.heap m₀) (N : News h₀ env.locals s₁.heap all) (hm : (c, oc) ∈ all) (hsub : ∀ p ∈ nx, p ∈ all) (hoc : oc.data = .cell vc) (hnc : ∀ p ∈ nx, p.1 ≠ c) (hj : J 0 m₀ nx)
    (turn : ∀ (i : Nat) (t : Tok) m₁ nx h tk own oc, i < n → OwnOff own (((c, oc) :: nx).map (·.1)) → oc.data = .cell (some (.int (i : Int) t)) → (∀ p ∈ nx, p.1 ≠ c) → J i m₁ nx → Fr h₀ env.locals h m₁ → News h₀ env.locals h ((c, oc) :: (nx ++ own)) →
        wpAny (model prog w) A (execs body env) (InvPostG h₀ env.locals (JC J c (i + 1)) own { s₁ with heap := h, toks := tk } Q) E { s₁ with heap := h, toks := tk })
    (done : ∀ m₁ nx h tk oc vc, oc.data = .cell vc → (∀ p ∈ nx, p.1 ≠ c) → J n m₁ nx → Fr h₀ env.locals h m₁ → News h₀ env.locals h ((c, oc) :: nx) → Q .next { s₁ with heap := h, toks := tk }) :
    CellSrc prog w A h₀ env body Q E c n J (.ref r) s₁ := by
  refine ⟨r, t₀, u₀, v₀, m₀, (c, oc) :: nx, rfl, hh, hr, hb, F, fun p hp => N p ?_, ⟨oc, vc, nx, rfl, hoc, hnc, hj⟩, turn, done⟩
  rcases List.mem_cons.mp hp with rfl | hp
  · exact hm
  · exact hsub p hp
end

-- StrA
theorem rsStrA : True := by
  w_top off
  trivial
def lo (k : Nat) : Str := ⟨#[97 + k]⟩
def up (k : Nat) : Str := ⟨#[65 + k]⟩
def ltr (step j : Nat) : Str := if j / step % 2 = 1 then up (j % step) else lo (j % step)
theorem upper_lo {k : Nat} (h : k < 5) : Txt.upper (lo k) = up k := by
  have : k = 0 ∨ k = 1 ∨ k = 2 ∨ k = 3 ∨ k = 4 := by omega
  rcases this with rfl | rfl | rfl | rfl | rfl <;> decide +kernel
theorem lower_lo {k : Nat} (h : k < 5) : Txt.lower (lo k) = lo k := by
  have : k = 0 ∨ k = 1 ∨ k = 2 ∨ k = 3 ∨ k = 4 := by omega
  rcases this with rfl | rfl | rfl | rfl | rfl <;> decide +kernel
theorem lower_up {k : Nat} (h : k < 5) : Txt.lower (up k) = lo k := by
  have : k = 0 ∨ k = 1 ∨ k = 2 ∨ k = 3 ∨ k = 4 := by omega
  rcases this with rfl | rfl | rfl | rfl | rfl <;> decide +kernel
theorem fails_lo {k : Nat} (h : k < 5) : fails codeN (lo k) = true := by
  have : k = 0 ∨ k = 1 ∨ k = 2 ∨ k = 3 ∨ k = 4 := by omega
  rcases this with rfl | rfl | rfl | rfl | rfl <;> decide +kernel
theorem fails_up {k : Nat} (h : k < 5) : fails codeN (up k) = true := by
  have : k = 0 ∨ k = 1 ∨ k = 2 ∨ k = 3 ∨ k = 4 := by omega
  rcases this with rfl | rfl | rfl | rfl | rfl <;> decide +kernel
theorem item_lo {k : Nat} (h : k < 5) : Txt.item (Str.ofString "abcde") (k : Int) = lo k := by
  have : k = 0 ∨ k = 1 ∨ k = 2 ∨ k = 3 ∨ k = 4 := by omega
  rcases this with rfl | rfl | rfl | rfl | rfl <;> decide +kernel
theorem item_up {k : Nat} (h : k < 5) : Txt.item (Str.ofString "ABCDE") (k : Int) = up k := by
  have : k = 0 ∨ k = 1 ∨ k = 2 ∨ k = 3 ∨ k = 4 := by omega
  rcases this with rfl | rfl | rfl | rfl | rfl <;> decide +kernel
theorem fmod_nat (i step : Nat) : (i : Int).fmod (step : Int) = ((i % step : Nat) : Int) := by
  rw [Int.fmod_eq_emod_of_nonneg _ (by omega)]
  simp
theorem fdiv_nat (i step : Nat) : (i : Int).fdiv (step : Int) = ((i / step : Nat) : Int) := by
  rw [Int.fdiv_eq_ediv_of_nonneg _ (by omega)]
  simp
theorem fails_ltr {step i : Nat} (h : i % step < 5) : fails codeN (ltr step i) = true := by
  unfold ltr
  split
  · exact fails_up h
  · exact fails_lo h
theorem len_ltr (step i : Nat) : (ltr step i).length < 1000 := by
  unfold ltr
  split <;> (show 1 < 1000; decide)
theorem len_lo (k : Nat) : (lo k).length < 1000 := by show 1 < 1000; decide
theorem len_up (k : Nat) : (up k).length < 1000 := by show 1 < 1000; decide
section
variable {prog : Program} {w : World} {A : Around} {E : Value → Shared → Prop} {s : Shared} {Q : Value → Shared → Prop}
theorem join_one {D : Addr} {y : Str} {t u : Tok} (hl : s.heap.IsList D #[.str y u]) (hy : y.length < 1000) (h : ∀ t' k, Q (.str y t') { s with toks := k }) : wpAny (model prog w) A (call (.builtin "str.join") [.str (Str.ofString "; ") t, .ref D]) Q E s := by
  have e : Txt.join (Str.ofString "; ") [y] = y := rfl
  have e2 : (Str.ofString "; ").length = 2 := by decide +kernel
  refine SC.join (l := [(y, u)]) (texts := [y]) hl rfl ?_ (by rw [e]; exact h)
  unfold JoinOk
  simp [Builtin.Str.tooLong, e2]
  have e3 : sizeLine = 2 ^ 24 := rfl
  omega
end
def Cleans (ss : List Str) : Prop := ∀ y ∈ ss, fails codeV y = true ∧ PyData.strOk y = true ∧ y.length ≤ 12
theorem Cleans.fails {ss : List Str} (h : Cleans ss) {i : Nat} {y : Str} (e : ss[i]? = some y) : fails codeV y = true := (h y (List.mem_of_getElem? e)).1
theorem Cleans.len {ss : List Str} (h : Cleans ss) {i : Nat} {y : Str} (e : ss[i]? = some y) : y.length < 1000 := Nat.lt_of_le_of_lt (h y (List.mem_of_getElem? e)).2.2 (by decide)
section
variable {prog : Program} {w : World} {A : Around} {E : Value → Shared → Prop} {s : Shared} {value slice : Expr} {t u : Tok} {Q : Value → Shared → Prop}
theorem letter_rule {x : Str} {z : Int} {i step : Nat} (hx : x = Str.ofString "abcde") (hz : z = (i : Int).fmod (step : Int)) (h2 : 2 ≤ step) (h5 : step ≤ 5) (h : ∀ t tk, i % step < 5 → Q (.str (lo (i % step)) t) { s with toks := tk })
    (hs : subscripted slice false (.str x t) (.int z u) = operate [.str x t, .int z u] (getItem (.str x t) (.int z u)) := by with_unfolding_all rfl)
    (ht : ∀ r, letTemporaryGo value (.str x t) r = pure () := by intro _; with_unfolding_all rfl) :
    wpAny (model prog w) A (subscriptTail value slice (.str x t) (.int z u)) Q E s := by
  have h9 : i % step < 5 := Nat.lt_of_lt_of_le (Nat.mod_lt _ (by omega)) h5
  have hl : (Str.ofString "abcde").length = 5 := by decide +kernel
  rw [fmod_nat] at hz
  subst hx hz
  refine item_str ?_ (by omega) (by rw [hl]; omega) (fun _ => ?_) hs ht
  · unfold fitsSsize; simp; omega
  · rw [item_lo h9]; exact h _ _ h9
theorem letterU_rule {x : Str} {z : Int} {k : Nat} (hx : x = Str.ofString "ABCDE") (hz : z = (k : Int)) (h9 : k < 5) (h : ∀ t tk, Q (.str (up k) t) { s with toks := tk })
    (hs : subscripted slice false (.str x t) (.int z u) = operate [.str x t, .int z u] (getItem (.str x t) (.int z u)) := by with_unfolding_all rfl)
    (ht : ∀ r, letTemporaryGo value (.str x t) r = pure () := by intro _; with_unfolding_all rfl) :
    wpAny (model prog w) A (subscriptTail value slice (.str x t) (.int z u)) Q E s := by
  have hl : (Str.ofString "ABCDE").length = 5 := by decide +kernel
  subst hx hz
  refine item_str ?_ (by omega) (by rw [hl]; omega) (fun _ => ?_) hs ht
  · unfold fitsSsize; simp; omega
  · rw [item_up h9]; exact h _ _
theorem upper_rule {k : Nat} (h9 : k < 5) (h : ∀ t tk, Q (.str (up k) t) { s with toks := tk }) : wpAny (model prog w) A (call (.builtin "str.upper") [.str (lo k) t]) Q E s := by
  refine SCL.upper (by show 1 ≤ _; decide) fun _ => ?_
  rw [upper_lo h9]; exact h _ _
theorem lowerU_rule {k : Nat} (h9 : k < 5) (h : ∀ t tk, Q (.str (lo k) t) { s with toks := tk }) : wpAny (model prog w) A (call (.builtin "str.lower") [.str (up k) t]) Q E s := by
  refine SCL.lower (by show 1 ≤ _; decide) fun _ => ?_
  rw [lower_up h9]; exact h _ _
theorem lowerL_rule {k : Nat} (h9 : k < 5) (h : ∀ t tk, Q (.str (lo k) t) { s with toks := tk }) : wpAny (model prog w) A (call (.builtin "str.lower") [.str (lo k) t]) Q E s := by
  refine SCL.lower (by show 1 ≤ _; decide) fun _ => ?_
  rw [lower_lo h9]; exact h _ _
end
local macro_rules | `(tactic| walk_at "subscriptTail") => `(tactic| (k_here; (with_reducible show wpAny _ _ (subscriptTail _ _ (Value.str _ _) (Value.int _ _)) _ _ _); (refine' letter_rule ?x ?z ?a ?b ?_; (case x => with_reducible rfl); (case z => with_reducible rfl); (case a => assumption); (case b => assumption)); intro t9 tk9 hk9))
local macro_rules | `(tactic| walk_at "subscriptTail") => `(tactic| (k_here; (with_reducible show wpAny _ _ (subscriptTail _ _ (Value.str _ _) (Value.int _ _)) _ _ _); (refine' letterU_rule ?x ?z ?a ?_; (case x => with_reducible rfl); (case z => with_reducible rfl); (case a => omega)); intro t9 tk9))
local macro_rules | `(tactic| walk_at "call builtin:str.upper") => `(tactic| (k_here; k_dflt (refine' upper_rule ?a ?_; (case a => omega)); intro t9 tk9))
local macro_rules | `(tactic| walk_at "call builtin:str.lower") => `(tactic| (k_here; k_dflt (first | (refine' lowerU_rule ?a ?_; (case a => omega)) | (refine' lowerL_rule ?a ?_; (case a => omega))); intro t9 tk9))
def hdrs (step : Nat) (ss : List Str) (i : Nat) : List (Str × Str) := (List.range i).map fun j => (ltr step j, ss.getD j Str.empty)
abbrev tup2 (k v : Str) (t u : Tok) : Obj := { cls := .type "tuple", data := .seq #[.str k t, .str v u] }
def Hdr (tups : List (Addr × Obj)) (refs : List Value) (kvs : List (Str × Str)) : Prop :=
  refs.length = kvs.length ∧ ∀ (i : Nat) (k v : Str), kvs[i]? = some (k, v) → ∃ (a : Addr) (t u : Tok), refs[i]? = some (Value.ref a) ∧ (a, tup2 k v t u) ∈ tups
local macro_rules | `(tactic| walk_at "call builtin:re.Pattern.search") => `(tactic| (k_here; k_dflt (refine' pat_search ?F ?X ?p ?f ?z ?_; (case F => k_asm); (case X => k_asm); (case p => first | exact pat177 _ | exact pat172 _); (case f => first | (with_reducible exact fails_ltr (by omega)) | (with_reducible exact fails_lo (by omega)) | (with_reducible exact fails_up (by omega)) | (with_reducible exact Cleans.fails (by assumption) (by assumption))); (case z => first | (with_reducible exact len_ltr _ _) | (with_reducible exact len_lo _) | (with_reducible exact len_up _) | (with_reducible exact Cleans.len (by assumption) (by assumption))))))
local macro_rules | `(tactic| walk_at "call builtin:str.join") => `(tactic| (k_here; k_dflt (refine' join_one ?l ?z ?_; (case l => exact News.isList (by k_asm) (by k_mem)); (case z => with_reducible exact Cleans.len (by assumption) (by assumption))); intro t9 tk9))
def J1 (step : Nat) (ss : List Str) (hl x d : Addr) (D : Obj) (cs : List (Addr × Obj)) (i : Nat) (m : Str → Option Value) (nx : List (Addr × Obj)) : Prop :=
  ∃ refs n tups, nx = (hl, listOf refs.toArray n) :: (x, instObj 306 d) :: (d, D) :: (cs ++ tups) ∧ Hdr tups refs (hdrs step ss i) ∧ m "table" = some (.ref x) ∧ ∀ p ∈ tups, @LT.lt Nat _ hl p.1

theorem Hdr.snoc {tups : List (Addr × Obj)} {refs : List Value} {step i : Nat} {ss : List Str} (h : Hdr tups refs (hdrs step ss i)) {D : Addr} {v : Str} {t u : Tok} (hv : ss[i]? = some v) :
    Hdr (tups ++ [(D, tup2 (ltr step i) v t u)]) (refs ++ [Value.ref D]) (hdrs step ss (i + 1)) := by
  have hl : refs.length = i := by rw [h.1]; simp [hdrs]
  have e : hdrs step ss (i + 1) = hdrs step ss i ++ [(ltr step i, v)] := by
    unfold hdrs
    rw [List.range_succ, List.map_append]
    simp [List.getD, hv]
  rw [e]
  refine ⟨by simp [h.1], fun j k w hj => ?_⟩
  by_cases hji : j < i
  · rw [List.getElem?_append_left (by rw [← h.1, hl]; exact hji)] at hj
    obtain ⟨a, t', u', h1, h2⟩ := h.2 j k w hj
    exact ⟨a, t', u', by rw [List.getElem?_append_left (by rw [hl]; exact hji)]; exact h1, List.mem_append.mpr (.inl h2)⟩
  · have hk : (hdrs step ss i).length = i := by simp [hdrs]
    rw [List.getElem?_append_right (by rw [hk]; omega), hk] at hj
    have hj0 : j - i = 0 := by
      cases hq : j - i with
      | zero => rfl
      | succ n => rw [hq] at hj; simp at hj
    rw [hj0] at hj
    simp at hj
    obtain ⟨rfl, rfl⟩ := hj
    exact ⟨D, t, u, by rw [List.getElem?_append_right (by rw [hl]; omega), hl, hj0]; rfl, by simp⟩
theorem strandEnd {h₀ h' : Heap} {L l x d D' : Addr} {D : Obj} {m' : Str → Option Value} {cs tups news' own : List (Addr × Obj)} {s₁ : Shared} {tk n i step : Nat} {t u : Tok} {k v : Str} {ss : List Str} {refs : List Value}
    (F : Fr h₀ L h' m') (N : News h₀ L h' news') (h1 : (l, listOf (refs.toArray.push (Value.ref D')) (n + 1)) ∈ news') (h2 : (x, instObj 306 d) ∈ news') (h3 : (d, D) ∈ news') (h4 : ∀ p ∈ cs, p ∈ news') (h5 : ∀ p ∈ tups, p ∈ news') (h6 : (D', tup2 k v t u) ∈ news')
    (ho : ∀ p ∈ own, p ∈ news') (hoff : OwnOff own (List.map (·.1) ((l, listOf refs.toArray n) :: (x, instObj 306 d) :: (d, D) :: (cs ++ tups)))) (hD : ∀ p ∈ own, @LT.lt Nat _ p.1 D') (hlD : @LT.lt Nat _ l D') (hH : Hdr tups refs (hdrs step ss i)) (hT : ∀ p ∈ tups, @LT.lt Nat _ l p.1)
    (hk : k = ltr step i) (hv : ss[i]? = some v) (hd : m' "table" = some (.ref x)) : InvEndG h₀ L (J1 step ss l x d D cs (i + 1)) own s₁ { s₁ with heap := h', toks := tk } := by
  subst hk
  refine InvEndG.intro (nx := (l, listOf (refs ++ [Value.ref D']).toArray (n + 1)) :: (x, instObj 306 d) :: (d, D) :: (cs ++ (tups ++ [(D', tup2 (ltr step i) v t u)]))) F N ⟨refs ++ [Value.ref D'], n + 1, tups ++ [(D', tup2 (ltr step i) v t u)], rfl, Hdr.snoc (D := D') (t := t) (u := u) hH hv, hd, ?_⟩ ?_ ?_ ho
  · intro p hp
    rcases List.mem_append.mp hp with hp | hp
    · exact hT p hp
    · rw [List.mem_singleton.mp hp]; exact hlD
  · intro p hp b hb
    simp only [List.map_cons, List.map_append, List.map_nil, List.mem_cons, List.mem_append, List.not_mem_nil, or_false] at hb
    have q := hoff p hp b
    simp only [List.map_cons, List.map_append, List.mem_cons, List.mem_append] at q
    rcases hb with hb | hb | hb | hb | hb | hb
    · exact q (.inl hb)
    · exact q (.inr (.inl hb))
    · exact q (.inr (.inr (.inl hb)))
    · exact q (.inr (.inr (.inr (.inl hb))))
    · exact q (.inr (.inr (.inr (.inr hb))))
    · rw [hb]; exact Nat.ne_of_lt (hD p hp)
  · intro p hp
    simp only [List.mem_cons, List.mem_append, List.not_mem_nil, or_false] at hp
    rcases hp with rfl | rfl | rfl | hp | hp | rfl
    · have e : (refs ++ [Value.ref D']).toArray = refs.toArray.push (Value.ref D') := by simp
      rw [e]; exact h1
    · exact h2
    · exact h3
    · exact h4 p hp
    · exact h5 p hp
    · exact h6
theorem allLt_mem {d : Addr} (l : List (Addr × Obj)) (h : AllLt d l) : ∀ p ∈ l, @LT.lt Nat _ p.1 d := by
  induction l with
  | nil => intro p hp; cases hp
  | cons a r ih =>
    intro p hp
    obtain ⟨h1, h2⟩ := h
    cases List.mem_cons.mp hp with
    | inl e => rw [e]; exact h1
    | inr hp => exact ih h2 p hp
theorem ltr_up {step i : Nat} (h : ((i : Int).fdiv (step : Int)).fmod 2 = 1) : up (i % step) = ltr step i := by
  rw [fdiv_nat] at h
  have h' : ((i / step : Nat) : Int).fmod ((2 : Nat) : Int) = 1 := h
  rw [fmod_nat] at h'
  unfold ltr
  rw [if_pos (by omega)]
theorem ltr_lo {step i : Nat} (h : ((i : Int).fdiv (step : Int)).fmod 2 ≠ 1) : lo (i % step) = ltr step i := by
  rw [fdiv_nat] at h
  have h' : ((i / step : Nat) : Int).fmod ((2 : Nat) : Int) ≠ 1 := h
  rw [fmod_nat] at h'
  unfold ltr
  rw [if_neg (by omega)]

def idx (n step k : Nat) : List Nat := (List.range n).filter fun i => i % step == k
def strand (ss : List Str) (step k : Nat) : List Str := (idx ss.length step k).map fun i => ss.getD i Str.empty
def Lists (lists : List (Addr × Obj)) (ws : List Value) (f : Nat → List Str) (k : Nat) : Prop :=
  ws.length = k ∧ ∀ j, j < k → ∃ (a : Addr) (n : Nat) (vs : List Value), ws[j]? = some (Value.ref a) ∧ (a, listOf vs.toArray n) ∈ lists ∧ StrsAre vs (f j)
def J2 (step : Nat) (ss : List Str) (sl c2 : Addr) (fx tups : List (Addr × Obj)) (tb : Value) (k : Nat) (m : Str → Option Value) (nx : List (Addr × Obj)) : Prop :=
  ∃ ws n o2 lists, nx = (sl, listOf ws.toArray n) :: (c2, o2) :: (fx ++ (tups ++ lists)) ∧ o2.data = .cell (some (.ref sl)) ∧ Lists lists ws (fun j => sort9 (strand ss step j)) k ∧ m "table" = some tb ∧ ∀ p ∈ lists, p.1 ≠ sl

section
variable {prog : Program} {w : World} {A : Around} {E : Value → Shared → Prop} {s : Shared} {t : Tok} {Q : Value → Shared → Prop}
theorem lowerM_rule {step i : Nat} (h9 : i % step < 5) (h : ∀ t tk, Q (.str (lo (i % step)) t) { s with toks := tk }) : wpAny (model prog w) A (call (.builtin "str.lower") [.str (ltr step i) t]) Q E s := by
  unfold ltr
  split
  · exact lowerU_rule h9 h
  · exact lowerL_rule h9 h
end
local macro_rules | `(tactic| walk_at "call builtin:str.lower") => `(tactic| (k_here; (with_reducible show wpAny _ _ (call (Value.builtin "str.lower") [Value.str (ltr _ _) _]) _ _ _); k_dflt (refine' lowerM_rule ?a ?_; (case a => omega)); intro t9 tk9))
theorem lo_eq (a b : Nat) : (lo a == lo b) = (a == b) := by
  by_cases h : a = b
  · subst h; simp
  · have : lo a ≠ lo b := by
      intro e
      have e' : (#[97 + a] : Array Nat)[0]? = (#[97 + b] : Array Nat)[0]? := congrArg (fun s : Str => s.cps[0]?) e
      have e2 : some (97 + a) = some (97 + b) := e'
      have e3 := Option.some.inj e2
      omega
    rw [beq_eq_false_iff_ne.mpr this, beq_eq_false_iff_ne.mpr h]
def ga (ss : List Str) (step k i : Nat) : List Str := ((List.range i).filter fun j => j % step == k).map fun j => ss.getD j Str.empty
theorem ga_yes {ss : List Str} {step k i : Nat} (h : i % step = k) : ga ss step k (i + 1) = ga ss step k i ++ [ss.getD i Str.empty] := by
  unfold ga
  rw [List.range_succ, List.filter_append, List.map_append]
  simp [h]
theorem ga_no {ss : List Str} {step k i : Nat} (h : i % step ≠ k) : ga ss step k (i + 1) = ga ss step k i := by
  unfold ga
  rw [List.range_succ, List.filter_append, List.map_append]
  simp [h]
theorem ga_strand {ss : List Str} {step k : Nat} : ga ss step k ss.length = strand ss step k := rfl
theorem Hdr.at {tups : List (Addr × Obj)} {refs : List Value} {step n i : Nat} {ss : List Str} (h : Hdr tups refs (hdrs step ss n)) (hi : i < n) {v : Value} (hv : refs.toArray[i]? = some v) :
    ∃ (a : Addr) (t u : Tok), v = .ref a ∧ (a, tup2 (ltr step i) (ss.getD i Str.empty) t u) ∈ tups := by
  obtain ⟨a, t, u, h1, h2⟩ := h.2 i (ltr step i) (ss.getD i Str.empty) (by simp [hdrs, hi])
  have : refs[i]? = some v := by simpa using hv
  rw [h1] at this
  exact ⟨a, t, u, (Option.some.inj this).symm, h2⟩
theorem strand_mem {ss : List Str} {step k : Nat} : ∀ y ∈ strand ss step k, y ∈ ss := by
  intro y hy
  unfold strand idx at hy
  obtain ⟨i, hi, rfl⟩ := List.mem_map.mp hy
  have h1 : i < ss.length := List.mem_range.mp (List.mem_filter.mp hi).1
  rw [List.getD, List.getElem?_eq_getElem h1]
  exact List.getElem_mem h1
theorem Cleans.oks {ss : List Str} (h : Cleans ss) : Oks ss := fun y hy => (h y hy).2.1
theorem Cleans.strand {ss : List Str} (h : Cleans ss) {step k : Nat} : Cleans (strand ss step k) := fun y hy => h y (strand_mem y hy)
theorem strand_len {ss : List Str} {step k : Nat} : (strand ss step k).length ≤ ss.length := by
  unfold strand idx
  rw [List.length_map]
  have := List.length_filter_le (fun i => i % step == k) (List.range ss.length)
  simpa using this
theorem Lists.snoc {lists : List (Addr × Obj)} {ws : List Value} {f : Nat → List Str} {k : Nat} (h : Lists lists ws f k) {l : Addr} {n : Nat} {vs : List Value} (hs : StrsAre vs (f k)) : Lists (lists ++ [(l, listOf vs.toArray n)]) (ws ++ [Value.ref l]) f (k + 1) := by
  refine ⟨by simp [h.1], fun j hj => ?_⟩
  by_cases hk : j < k
  · obtain ⟨a, n', vs', h1, h2, h3⟩ := h.2 j hk
    exact ⟨a, n', vs', by rw [List.getElem?_append_left (by rw [h.1]; exact hk)]; exact h1, List.mem_append.mpr (.inl h2), h3⟩
  · have e : j = k := by omega
    subst e
    exact ⟨l, n, vs, by rw [List.getElem?_append_right (by rw [h.1]; exact Nat.le_refl _), h.1, Nat.sub_self]; rfl, by simp, hs⟩
theorem strandEnd2 {h₀ h' : Heap} {L sl c2 c lN : Addr} {fx tups lists own news' : List (Addr × Obj)} {m' : Str → Option Value} {ok o2 : Obj} {ws vsN : List Value} {n nN k step tk : Nat} {ss : List Str} {tb : Value} {vk : Option Value} {s₁ : Shared}
    (F : Fr h₀ L h' m') (N : News h₀ L h' news') (h1 : (sl, listOf (ws.toArray.push (Value.ref lN)) (n + 1)) ∈ news') (h2 : (c2, o2) ∈ news') (h3 : ∀ p ∈ fx, p ∈ news') (h4 : ∀ p ∈ tups, p ∈ news') (h5 : ∀ p ∈ lists, p ∈ news')
    (h6 : (lN, listOf vsN.toArray nN) ∈ news') (h7 : (c, ok) ∈ news') (hok : ok.data = .cell vk) (ho : ∀ p ∈ own, p ∈ news') (hoff : OwnOff own (List.map (·.1) ((c, ok) :: ((sl, listOf ws.toArray n) :: (c2, o2) :: (fx ++ (tups ++ lists))))))
    (hnk : ∀ p ∈ (sl, listOf ws.toArray n) :: (c2, o2) :: (fx ++ (tups ++ lists)), p.1 ≠ c) (hlN : ∀ p ∈ own, p.1 ≠ lN) (hslN : sl ≠ lN) (hcN : c ≠ lN) (hLT : ∀ p ∈ lists, p.1 ≠ sl) (ho2 : o2.data = .cell (some (.ref sl)))
    (hL : Lists lists ws (fun j => sort9 (strand ss step j)) k) (hs : StrsAre vsN (sort9 (strand ss step k))) (hd : m' "table" = some tb) :
    InvEndG h₀ L (JC (J2 step ss sl c2 fx tups tb) c (k + 1)) own s₁ { s₁ with heap := h', toks := tk } := by
  refine InvEndG.intro (nx := (c, ok) :: ((sl, listOf (ws ++ [Value.ref lN]).toArray (n + 1)) :: (c2, o2) :: (fx ++ (tups ++ (lists ++ [(lN, listOf vsN.toArray nN)]))))) F N
    ⟨ok, vk, (sl, listOf (ws ++ [Value.ref lN]).toArray (n + 1)) :: (c2, o2) :: (fx ++ (tups ++ (lists ++ [(lN, listOf vsN.toArray nN)]))), rfl, hok, ?_, ws ++ [Value.ref lN], n + 1, o2, lists ++ [(lN, listOf vsN.toArray nN)], rfl, ho2, Lists.snoc (n := nN) hL hs, hd, ?_⟩ ?_ ?_ ho
  · intro p hp
    have q := hnk p
    simp only [List.mem_cons, List.mem_append, List.not_mem_nil, or_false] at hp q
    rcases hp with rfl | hp | hp | hp | hp | rfl
    · exact hnk (sl, listOf ws.toArray n) (.head _)
    · exact q (.inr (.inl hp))
    · exact q (.inr (.inr (.inl hp)))
    · exact q (.inr (.inr (.inr (.inl hp))))
    · exact q (.inr (.inr (.inr (.inr hp))))
    · exact Ne.symm hcN
  · intro p hp
    rcases List.mem_append.mp hp with hp | hp
    · exact hLT p hp
    · rw [List.mem_singleton.mp hp]; exact Ne.symm hslN
  · intro p hp b hb
    have q := hoff p hp b
    simp only [List.map_cons, List.map_append, List.map_nil, List.mem_cons, List.mem_append, List.not_mem_nil, or_false] at hb q
    rcases hb with hb | hb | hb | hb | hb | hb | hb
    · exact q (.inl hb)
    · exact q (.inr (.inl hb))
    · exact q (.inr (.inr (.inl hb)))
    · exact q (.inr (.inr (.inr (.inl hb))))
    · exact q (.inr (.inr (.inr (.inr (.inl hb)))))
    · exact q (.inr (.inr (.inr (.inr (.inr hb)))))
    · rw [hb]; exact hlN p hp
  · intro p hp
    simp only [List.mem_cons, List.mem_append, List.not_mem_nil, or_false] at hp
    rcases hp with rfl | rfl | rfl | hp | hp | hp | rfl
    · exact h7
    · have e : (ws ++ [Value.ref lN]).toArray = ws.toArray.push (.ref lN) := by simp
      rw [e]; exact h1
    · exact h2
    · exact h3 p hp
    · exact h4 p hp
    · exact h5 p hp
    · exact h6
def cellOf (ss : List Str) (step i : Nat) : Str := (sort9 (strand ss step (i % step))).getD (i / step) Str.empty
def pass (ss : List Str) (step : Nat) : List Str := (List.range ss.length).map (cellOf ss step)
theorem idx_at : ∀ n, n < 9 → ∀ step, step < 6 → 2 ≤ step → ∀ i, i < n → (idx n step (i % step))[i / step]? = some i := by decide +kernel
theorem strand_at {ss : List Str} {step i : Nat} (hn : ss.length ≤ 8) (h2 : 2 ≤ step) (h5 : step ≤ 5) (hi : i < ss.length) : (strand ss step (i % step))[i / step]? = some (ss.getD i Str.empty) := by
  unfold strand
  rw [List.getElem?_map, idx_at _ (by omega) _ (by omega) h2 _ hi]
  rfl
theorem strand_lt {ss : List Str} {step i : Nat} (hn : ss.length ≤ 8) (h2 : 2 ≤ step) (h5 : step ≤ 5) (hi : i < ss.length) : i / step < (sort9 (strand ss step (i % step))).length := by
  rw [sort9_length]
  have := strand_at hn h2 h5 hi
  rcases Nat.lt_or_ge (i / step) (strand ss step (i % step)).length with h | h
  · exact h
  · rw [List.getElem?_eq_none h] at this; cases this

-- Comp
theorem rsComp : True := by
  w_top off
  trivial
section
variable {prog : Program} {w : World} {A : Around} {h₀ : Heap} {L : Addr} {m : Str → Option Value} {env : Env} {ct elt : Expr} {x : Str} {scope : Scope} {cl : List (Str × Addr)} {s : Shared} {S : List (Addr × Obj) → Prop} {P : Nat → Value → Prop} {Fin : List Value → List (Addr × Obj) → Prop} {news : List (Addr × Obj)}
def YesEnd (h₀ : Heap) (L : Addr) (m : Str → Option Value) (s : Shared) (I : Addr) (oI : Obj) (C : Addr) (oC : Obj) (D : Addr) (ys : List Value) (S : List (Addr × Obj) → Prop) (news : List (Addr × Obj)) (J : List Value → Prop) : Value → Shared → Prop :=
  LCg.CompEnd h₀ L m s I oI C oC D (LCg.lst ys) S (fun y news' => news' = news ∧ J (ys ++ [y]))
def NoEnd (h₀ : Heap) (L : Addr) (m : Str → Option Value) (s : Shared) (I : Addr) (oI : Obj) (C : Addr) (oC : Obj) (D : Addr) (ys : List Value) (S : List (Addr × Obj) → Prop) (news : List (Addr × Obj)) (J : List Value → Prop) : Shared → Prop :=
  LCg.CompEnd h₀ L m s I oI C oC D (LCg.lst ys) S (fun _ news' => news' = news ∧ J ys) Value.none
theorem yesEnd {I C D : Addr} {oI oC : Obj} {ys : List Value} {J : List Value → Prop} {y : Value} {h' : Heap} {tk : Nat} {all : List (Addr × Obj)} (F : Fr h₀ L h' m) (N : News h₀ L h' all) (sub : ∀ p ∈ (I, oI) :: (C, oC) :: (D, LCg.lst ys) :: news, p ∈ all) (off : LCg.Off3 I C D news) (hS : S news) (hJ : J (ys ++ [y])) :
    YesEnd h₀ L m s I oI C oC D ys S news J y { s with heap := h', toks := tk } := LCg.CompEnd.intro F N news sub off hS ⟨rfl, hJ⟩
theorem noEnd {I C D : Addr} {oI oC : Obj} {ys : List Value} {J : List Value → Prop} {h' : Heap} {tk : Nat} {all : List (Addr × Obj)} (F : Fr h₀ L h' m) (N : News h₀ L h' all) (sub : ∀ p ∈ (I, oI) :: (C, oC) :: (D, LCg.lst ys) :: news, p ∈ all) (off : LCg.Off3 I C D news) (hS : S news) (hJ : J ys) :
    NoEnd h₀ L m s I oI C oC D ys S news J { s with heap := h', toks := tk } := LCg.CompEnd.intro F N news sub off hS ⟨rfl, hJ⟩

theorem restT {n : Nat} (J : Nat → List Value → Prop) (h0 : J 0 [])
    (turn : ∀ i v I oI C oC D m₂ ys h tk (E' : Value → Shared → Prop), i < n → P i v → J i ys → LCg.NsObj oC m₂ → m₂ x = some v → Fr h₀ L h m → News h₀ L h ((I, oI) :: (C, oC) :: (D, LCg.lst ys) :: news) → LCg.Off3 I C D news → ((@Ne Nat I C) ∧ (@Ne Nat I D) ∧ (@Ne Nat C D)) →
      wpAny (model prog w) A (isTrue ct (compEnvC scope cl C env) (eval ct (compEnvC scope cl C env))) (fun ok s' => if ok = true then
        wpAny (model prog w) A (eval elt (compEnvC scope cl C env)) (YesEnd h₀ L m { s with heap := h, toks := tk } I oI C oC D ys S news (J (i + 1))) E' s'
        else NoEnd h₀ L m { s with heap := h, toks := tk } I oI C oC D ys S news (J (i + 1)) s') E' { s with heap := h, toks := tk })
    (fin : ∀ ys, J n ys → Fin ys news) : LCt.CompRestT prog w A h₀ L m env ct elt x scope cl s S P Fin n 0 [] news := by
  have key : ∀ (j i : Nat) (ys : List Value), i + j = n → J i ys → LCt.CompRestT prog w A h₀ L m env ct elt x scope cl s S P Fin j i ys news := by
    intro j
    induction j with
    | zero =>
      intro i ys hi hy
      have e : i = n := by omega
      subst e
      exact LCt.CompRestT.zero (fin ys hy)
    | succ j ih =>
      intro i ys hi hy
      refine LCt.CompRestT.succ ?_
      intro v I oI C oC D m₂ h tk E' hv hC hx F N off ne
      refine wpAny_mono (turn i v I oI C oC D m₂ ys h tk E' (by omega) hv hy hC hx F N off ne) (fun ok s₂ hq => ?_) fun _ _ e => e
      cases ok with
      | true =>
        simp only [if_true] at hq ⊢
        refine wpAny_mono hq (fun y s₃ hq => ?_) fun _ _ e => e
        obtain ⟨h', tk', nw, e, F', N', off', hS, hn, hJ⟩ := hq
        subst hn
        exact ⟨h', tk', nw, e, F', N', off', hS, ih (i + 1) _ (by omega) hJ⟩
      | false =>
        simp only [Bool.false_eq_true, if_false] at hq ⊢
        obtain ⟨h', tk', nw, e, F', N', off', hS, hn, hJ⟩ := hq
        subst hn
        exact ⟨h', tk', nw, e, F', N', off', hS, ih (i + 1) _ (by omega) hJ⟩
  exact key n 0 [] (by omega) h0

theorem restU {n : Nat} (J : Nat → List Value → Prop) (h0 : J 0 [])
    (turn : ∀ i v I oI C oC D m₂ ys h tk (E' : Value → Shared → Prop), i < n → P i v → J i ys → LCg.NsObj oC m₂ → m₂ x = some v → Fr h₀ L h m → News h₀ L h ((I, oI) :: (C, oC) :: (D, LCg.lst ys) :: news) → LCg.Off3 I C D news → ((@Ne Nat I C) ∧ (@Ne Nat I D) ∧ (@Ne Nat C D)) →
      wpAny (model prog w) A (eval elt (compEnvC scope cl C env)) (YesEnd h₀ L m { s with heap := h, toks := tk } I oI C oC D ys S news (J (i + 1))) E' { s with heap := h, toks := tk })
    (fin : ∀ ys, J n ys → Fin ys news) : LCg.CompRest prog w A h₀ L m env elt x scope cl s S P Fin n 0 [] news := by
  have key : ∀ (j i : Nat) (ys : List Value), i + j = n → J i ys → LCg.CompRest prog w A h₀ L m env elt x scope cl s S P Fin j i ys news := by
    intro j
    induction j with
    | zero =>
      intro i ys hi hy
      have e : i = n := by omega
      subst e
      exact LCg.CompRest.zero (fin ys hy)
    | succ j ih =>
      intro i ys hi hy
      refine LCg.CompRest.succ ?_
      intro v I oI C oC D m₂ h tk E' hv hC hx F N off ne
      refine wpAny_mono (turn i v I oI C oC D m₂ ys h tk E' (by omega) hv hy hC hx F N off ne) (fun y s₃ hq => ?_) fun _ _ e => e
      obtain ⟨h', tk', nw, e, F', N', off', hS, hn, hJ⟩ := hq
      subst hn
      exact ⟨h', tk', nw, e, F', N', off', hS, ih (i + 1) _ (by omega) hJ⟩
  exact key n 0 [] (by omega) h0
end

-- StrandsF
theorem rsStrandsF : True := by
  w_top off
  trivial
local macro_rules | `(tactic| walk_at "call ref") => `(tactic| (k_here; (with_reducible show wpAny _ _ (call (Value.ref 338) _ _) _ _ _); k_dflt (refine' in_order_K ?k1 ?k2 ?k3 ?k4 ?k5 ?k6 ?hl ?hs ?hn ?_; (case k1 => k_asm); (case k2 => k_asm); (case k3 => k_asm); (case k4 => k_asm); (case k5 => k_asm); (case k6 => first | exact rfl | assumption); (case hl => exact News.isList (by k_asm) (by k_mem)); (case hs => with_reducible assumption); (case hn => omega); k_whole); intro l9 h9 tk9 ws9 n9 F9 N9 hne9 hs9; (replace hne9 := allNe_of hne9); (simp only [AllNe] at hne9)))
theorem fillK3 : ((PySem.Challenge.rw_xn0024_01, hd.heap_39) : OpenLaw × (Params → Frag)).1 = PySem.Challenge.rw_xn0024_01 := by
  k_fill
  rfl
theorem led3 {h₀ h : Heap} {L l x d : Addr} {o D : Obj} {r : List (Addr × Obj)} {P : Prop} (_ : News h₀ L h ((l, o) :: (x, instObj 306 d) :: (d, D) :: r)) (k : ∀ l' x' d' D' r', l' = l → x' = x → d' = d → D' = D → r' = r → P) : P := k l x d D r rfl rfl rfl rfl rfl
theorem led6 {h₀ h : Heap} {L : Addr} {a hd x d ck c2 c3 c4 : Addr × Obj} {r : List (Addr × Obj)} {P : Prop} (_ : News h₀ L h (a :: hd :: x :: d :: ck :: c2 :: c3 :: c4 :: r)) (k : ∀ sl c2a o2a fx', sl = a.1 → c2a = c2.1 → o2a = c2.2 → fx' = [x, d, hd, c3, c4] → P) : P := k _ _ _ _ rfl rfl rfl rfl
theorem strands {w : World} {gd : Option (List Code)} {cn : Str} {cs : Scope} {a : Addr} {ccd : Value} {cl : List (Str × Addr)} {outer : List Env} {A₀ : Around} {base h₀ : Heap} {L : Addr} {m : Str → Option Value} {s : Shared} {Q E : Value → Shared → Prop}
    {mean : ExcName → Option Value} {mg mb : Str → Option Value} {loose : List Str} {la : Addr} {vs : List Value} {ss : List Str} {step : Nat} {t : Tok}
    (B : Below A₀ base outer h₀) (F : Fr h₀ L s.heap m) (X : (hd.heap_39 w.params).In h₀) (T : Top view loose mean mg mb h₀) (hk : cs.kind = .function)
    (hl : s.heap.IsList la vs.toArray) (hs : StrsAre vs ss) (hn : ss.length ≤ 8) (hge : 2 ≤ step) (hle : step ≤ 5) (hC : Cleans ss)
    (hret : ∀ l h' tk ws n, s.heap.StaysIn h' → s.heap.get? l = none → h'.get? l = some (listOf ws.toArray n) → StrsAre ws (pass ss step) → Q (.ref l) { s with heap := h', toks := tk }) :
    wpAny (model PySem.Challenge.rw_xn0024_01.row.prog w) (ktrTop 302 7 gd cn cs L a ccd cl outer) (call (.ref 343) [.ref la, .int (step : Int) t]) Q E s := by
  (refine wpAny_call ?_; k_dflt (refine' enterC (binds := [(Str.ofString "row", Value.ref la), (Str.ofString "step", Value.int (step : Int) t)]) ?k1 ?k2 ?k3 ?k5 ?kA ?kF ?kK ?k6 ?k7 ?k8 ?k9 ?kB ?kD ?_ ?c2 ?c3 ?c4; (case kA => exact rfl); (case kF => exact rfl); (case kK => assumption); (case k1 => k_asm); (case k2 => k_asm); (case k3 => k_asm); (case k5 => k_asm); (case k6 => k_is); (case k7 => k_is); (case k8 => ktr_room); (case k9 => first | exact BindsTo.of_eq rfl | exact binds_K (by k_in) rfl (by k_is) rfl rfl rfl); (case kB => exact rfl); (case kD => decide +kernel); (case c2 => exact rfl); (case c3 => exact rfl); (case c4 => exact rfl); k_whole); walk_at "m_inC")
  walk_at "m_steps"
  rename (_ = s.heap) => hg'
  subst hg'
  refine For_invV s.heap (by rfl) (by rfl) ?_
  walk_at "m_steps"
  walk_at "m_names"
  rename (IsRange _ _ _ _ _ _ _ _) => R9
  refine led3 N9 fun l9 x9 d9 D9 r9 hl9 hx9 hd9 hD9 hr9 => ?_
  subst hl9 hx9 hd9
  refine iterR (J1 step ss l9 x9 d9 D9 r9) rfl R9 (by omega) F9 N9 ?_ ?_ ?_
  · exact ⟨[], 0, [], by rw [hD9, hr9]; rfl, ⟨rfl, by intro i k v e; simp [hdrs] at e⟩, by with_unfolding_all rfl, by intro p hp; cases hp⟩
  · clear F9 N9
    intro i t1 m₁ news₁ h1 tk1 own hi hoff hJ F1 N1
    obtain ⟨refs, n, tups, rfl, hH, hd, hT⟩ := hJ
    rw [hr9, hD9] at N1
    simp only [List.cons_append, List.nil_append] at N1
    replace F1 := Fr.at (x := "table") F1 (by show (if _ then _ else _) = _; rw [if_neg (by decide)]; exact hd)
    have kM := kstMark
    have hrl : refs.length ≤ 8 := by rw [hH.1]; simp [hdrs]; omega
    have hTO : ∀ p ∈ tups ++ own, p.1 ≠ l9 := by
      intro p hp
      rcases List.mem_append.mp hp with hp | hp
      · exact Nat.ne_of_gt (hT p hp)
      · exact hoff p hp _ (by simp)
    (try dsimp only)
    (try k_fold)

    walk_at "m_steps"
    refine wp_join (ltr step i) ?_ ?_
    · intro Q' hQ
      walk1
      walk_at "m_steps"
      · rename (Int.fmod _ 2 = 1) => hc
        rw [ltr_up hc]
        exact hQ _ _
      · rename (Int.fmod _ 2 ≠ 1) => hc
        rw [ltr_lo hc]
        exact hQ _ _
    · intro t8 tk8
      (try dsimp only)
      walk_at "m_steps"
      walk_at "m_names"
      rename (_[Int.toNat _]? = some _) => hy9
      rename (@LT.lt Nat _ _ _ ∧ _) => l1
      have l2 := l1
      repeat replace l2 := l2.2
      refine strandEnd F9 N9 (.head _) (by repeat' (first | exact List.Mem.head _ | apply List.Mem.tail)) (by rw [hD9]; repeat' (first | exact List.Mem.head _ | apply List.Mem.tail)) ?_ (fun p hp => ?_) (.tail _ (.head _)) (fun p hp => ?_) hoff (fun p hp => allLt_mem _ l2 p (List.mem_append.mpr (.inr hp))) (by omega) hH hT rfl (by simpa using hy9) rfl
      · rw [hr9]
        intro p hp
        simp only [List.mem_cons, List.not_mem_nil, or_false] at hp
        rcases hp with rfl | rfl | rfl | rfl <;> repeat' (first | exact List.Mem.head _ | apply List.Mem.tail)
      · repeat' (first | exact List.mem_append.mpr (.inl hp) | apply List.Mem.tail)
      · repeat' (first | exact List.mem_append.mpr (.inr hp) | apply List.Mem.tail)
  · clear F9 N9
    intro m₁ news₁ h1 tk1 hJ F1 N1
    obtain ⟨refs, n, tups, rfl, hH, hd, hT⟩ := hJ
    rw [hr9, hD9] at N1
    simp only [List.cons_append, List.nil_append] at N1
    replace F1 := Fr.at F1 hd
    have kM := kstMark
    have hTO : ∀ p ∈ tups, p.1 ≠ l9 := fun p hp => Nat.ne_of_gt (hT p hp)
    (try dsimp only)
    walk_at "m_steps"
    walk_at "m_names"
    refine led6 N9 fun sl c2 o2 fx hsl hc2 ho2 hfx => ?_
    dsimp only at hsl hc2 ho2
    subst hsl ho2
    refine For_cell (h₀ := s.heap) (n := step) (J2 step ss sl c2 fx tups (Value.ref x9)) rfl (by rfl) (by rfl) ?_
    walk_at "m_steps"
    walk_at "m_names"
    rename (IsRange _ _ _ _ _ _ _ _) => R9
    rename (@LT.lt Nat _ _ _ ∧ _) => l1
    have l2 := l1
    repeat replace l2 := l2.2
    refine CellSrc.mk (nx := (sl, listOf #[] 0) :: (c2, o2) :: (fx ++ (tups ++ []))) rfl R9 (by omega) F9 N9 (by repeat' (first | exact List.Mem.head _ | apply List.Mem.tail)) ?_ (by assumption) ?_ ?_ ?_ ?_
    · rw [hfx, hc2]
      intro p hp
      simp only [List.cons_append, List.nil_append, List.append_nil, List.mem_cons] at hp
      rcases hp with rfl | rfl | rfl | rfl | rfl | rfl | rfl | hp <;> repeat' (first | exact List.Mem.head _ | assumption | apply List.Mem.tail)
    · rw [hfx, hc2]
      intro p hp
      simp only [List.cons_append, List.nil_append, List.append_nil, List.mem_cons] at hp
      have hq := hT p
      rcases hp with rfl | rfl | rfl | rfl | rfl | rfl | rfl | hp
      all_goals first | (k_ne; done) | (have hq := hq hp; k_ne)
    · exact ⟨[], 0, o2, [], rfl, by assumption, ⟨rfl, by intro j hj; cases hj⟩, by with_unfolding_all rfl, by intro p hp; cases hp⟩
    · clear F9 N9
      intro k t1 m₂ nx h2 tk2 own ok hk hoff hok hnk hJ F2 N2
      obtain ⟨ws, n', o2', lists, rfl, ho2, hL, hd2, hLT⟩ := hJ
      rw [hfx, hc2] at N2
      simp only [List.cons_append, List.nil_append, List.append_assoc] at N2
      replace F2 := Fr.at F2 hd2
      (try dsimp only)
      (try k_fold)
      walk_at "m_steps"
      walk_at "m_names"
      refine LCt.ListComp_T (F₀ := F9) (by with_unfolding_all rfl) (by decide) (by rfl) (by decide) (by rfl) ?_
      walk_at "m_steps"
      walk_at "m_names"
      refine LCt.CompSrcT.ledger rfl F9 N9 (by repeat' (first | exact List.Mem.head _ | apply List.Mem.tail)) (by rw [List.size_toArray, hH.1]; simp [hdrs]; exact Nat.le_trans hn (by decide)) ?_
      intro g5
      refine restT (fun i ys => StrsAre ys (ga ss step k i)) (by exact .nil) ?_ ?_
      · clear F9 N9
        intro i v I oI C oC D m3 ys h3 tk3 E3 hi hv hJ3 hC hx3 F3 N3 hoff3 hne
        have hsz : refs.toArray.size = ss.length := by rw [List.size_toArray, hH.1]; simp [hdrs]
        rw [hsz] at hi
        obtain ⟨a5, t5, u5, rfl, hm5⟩ := hH.at hi hv
        have hk9 : i % step < 5 := Nat.lt_of_lt_of_le (Nat.mod_lt _ (by omega)) hle
        have N4 := News.dup N3 (p := (a5, tup2 (ltr step i) (ss.getD i Str.empty) t5 u5)) (by repeat' (first | exact List.mem_append.mpr (.inl hm5) | apply List.Mem.tail))
        clear N3
        (try dsimp only)
        (try k_fold)
        walk_at "m_steps"
        · rename ((lo _ == lo _) = true) => hb
          rw [lo_eq] at hb
          refine yesEnd F3 N4 (fun p hp => .tail _ hp) hoff3 (.inr ⟨_, by repeat' (first | exact List.Mem.head _ | apply List.Mem.tail), rfl, _, rfl⟩) ?_
          rw [ga_yes (beq_iff_eq.mp hb)]
          exact strsAre_app hJ3 (.cons _ _ .nil)
        · rename ((lo _ == lo _) = false) => hb
          rw [lo_eq] at hb
          refine noEnd F3 N4 (fun p hp => .tail _ hp) hoff3 (.inr ⟨_, by repeat' (first | exact List.Mem.head _ | apply List.Mem.tail), rfl, _, rfl⟩) ?_
          rw [ga_no (beq_eq_false_iff_ne.mp hb)]
          exact hJ3
      · clear F9 N9
        intro ys hys D5 h6 tk6 F6 N6 off6
        have hsz : refs.toArray.size = ss.length := by rw [List.size_toArray, hH.1]; simp [hdrs]
        rw [hsz, ga_strand] at hys
        (try dsimp only)
        (try k_fold)
        walk_at "m_steps"
        walk_at "m_names"
        refine LCt.ListComp_T (F₀ := F9) (by with_unfolding_all rfl) (by decide) (by rfl) (by decide) (by rfl) ?_
        walk_at "m_steps"
        walk_at "m_names"
        rename (IsRange _ _ _ _ _ _ _ _) => R9
        refine LCt.CompSrcT.range rfl F9 N9 R9 (rsmall (by omega)) (rsize _) (Nat.le_trans hn (by decide)) ?_
        intro g7
        refine restT (fun i ys => StrsAre ys (ga ss step k i)) (by exact .nil) ?_ ?_
        · clear F9 N9 R9
          intro i v I oI C oC D m3 ys h3 tk3 E3 hi hv hJ3 hC hx3 F3 N3 hoff3 hne
          obtain ⟨t5, rfl⟩ := hv
          have e0 : (0 : Int) + (i : Int) = (i : Int) := by omega
          rw [e0] at hx3
          (try dsimp only)
          (try k_fold)
          walk_at "m_steps"
          · rename (Int.fmod _ _ = _) => hb
            rename (_[Int.toNat _]? = some _) => hy9
            rw [fmod_nat] at hb
            refine yesEnd F3 N3 (fun p hp => hp) hoff3 trivial ?_
            rw [Int.toNat_natCast] at hy9
            rw [ga_yes (by omega), List.getD, hy9]
            exact strsAre_app hJ3 (.cons _ _ .nil)
          · rename (Int.fmod _ _ ≠ _) => hb
            rw [fmod_nat] at hb
            refine noEnd F3 N3 (fun p hp => hp) hoff3 trivial ?_
            rw [ga_no (by omega)]
            exact hJ3
        · clear F9 N9 R9
          intro ys2 hys2 D7 h8 tk8 F8 N8 off8
          rw [ga_strand] at hys2
          have hok7 : Oks (strand ss step k) := hC.strand.oks
          have hws7 : ws.length ≤ 8 := by rw [hL.1]; omega
          have hTO2 : ∀ p ∈ tups ++ (lists ++ own), p.1 ≠ sl := by
            intro p hp
            rcases List.mem_append.mp hp with hp | hp
            · exact allLt_ne l2 (Nat.le_refl _) p hp
            · rcases List.mem_append.mp hp with hp | hp
              · exact hLT p hp
              · exact hoff p hp _ (by simp)
          have hsl7 : (strand ss step k).length ≤ 8 := Nat.le_trans strand_len hn
          (try dsimp only)
          (try k_fold)
          walk_at "m_steps"
          walk_at "m_names"
          rename (StrsAre _ (sort9 _)) => hs9
          rename (@Ne Nat _ _ ∧ _) => hne9
          have hne8 := hne9
          repeat replace hne8 := hne8.2
          refine strandEnd2 F9 N9 (.head _) (by rw [hc2]; repeat' (first | exact List.Mem.head _ | apply List.Mem.tail)) ?_ (fun p hp => ?_) (fun p hp => ?_) (.tail _ (.head _)) (by repeat' (first | exact List.Mem.head _ | apply List.Mem.tail)) hok (fun p hp => ?_) hoff hnk (fun p hp => of_allNe hne8 p (List.mem_append.mpr (.inr (List.mem_append.mpr (.inr hp))))) (by k_ne) (by k_ne) hLT ho2 hL hs9 rfl
          · rw [hfx]
            intro p hp
            simp only [List.mem_cons, List.not_mem_nil, or_false] at hp
            rcases hp with rfl | rfl | rfl | rfl | rfl <;> repeat' (first | exact List.Mem.head _ | apply List.Mem.tail)
          · repeat' (first | exact List.mem_append.mpr (.inl hp) | apply List.Mem.tail)
          · repeat' (first | exact List.mem_append.mpr (.inr (List.mem_append.mpr (.inl hp))) | apply List.Mem.tail)
          · repeat' (first | exact List.mem_append.mpr (.inr (List.mem_append.mpr (.inr hp))) | apply List.Mem.tail)
    · clear F9 N9
      intro m₂ nx h2 tk2 ok vk hok hnk hJ F2 N2
      obtain ⟨ws, n', o2', lists, rfl, ho2, hL, hd2, hLT⟩ := hJ
      rw [hfx, hc2] at N2
      simp only [List.cons_append, List.nil_append] at N2
      (try dsimp only)
      walk_at "m_steps"
      rename Fr _ _ _ _ => F9
      refine LCg.ListComp_U (F₀ := F9) (by with_unfolding_all rfl) (by decide) (by rfl) (by decide) (by rfl) ?_
      walk_at "m_steps"
      walk_at "m_names"
      rename (IsRange _ _ _ _ _ _ _ _) => R9
      refine LCg.CompSrc.range rfl F9 N9 R9 (rsmall (by omega)) (rsize _) (Nat.le_trans hn (by decide)) ?_
      intro g7
      refine restU (fun i ys => StrsAre ys ((List.range i).map (cellOf ss step))) (by exact .nil) ?_ ?_
      · clear F9 N9 R9
        intro i v I oI C oC D m3 ys h3 tk3 E3 hi hv hJ3 hC hx3 F3 N3 hoff3 hne
        obtain ⟨t5, rfl⟩ := hv
        have e0 : (0 : Int) + (i : Int) = (i : Int) := by omega
        rw [e0] at hx3
        (try dsimp only)
        (try k_fold)
        (repeat' (first | (k_unfold; (try dsimp only)) | (walk_at "m_go"; (fail_if_success (with_reducible show wpAny _ _ (subscriptTail _ _ (Value.ref sl) _) _ _ _)); first | (k_end; wrow_close) | walk1 | (dsimp only; walk1) | (leave1; walk_say "STEP leave1"; try dsimp only)) | fail "no step"))
        walk_at "m_names"
        obtain ⟨a7, n7, vs7, hw7, hm7, hs7⟩ := hL.2 (i % step) (Nat.mod_lt _ (by omega))
        replace hs7 : StrsAre vs7 (sort9 (strand ss step (i % step))) := hs7
        have hlt7 := strand_lt hn hge hle hi
        have hlen7 : (sort9 (strand ss step (i % step))).length ≤ 8 := by rw [sort9_length]; exact Nat.le_trans strand_len hn
        have hfd0 : 0 ≤ (i : Int).fdiv (step : Int) := by rw [fdiv_nat]; exact Int.natCast_nonneg _
        have hfd1 : (i : Int).fdiv (step : Int) < ((sort9 (strand ss step (i % step))).length : Int) := by rw [fdiv_nat]; exact Int.ofNat_lt.mpr hlt7
        have N7 := News.dup N9 (p := (a7, listOf vs7.toArray n7)) (by repeat' (first | exact List.mem_append.mpr (.inr hm7) | apply List.Mem.tail))
        have hmod : (i : Int).fmod (step : Int) = ((i % step : Nat) : Int) := fmod_nat i step
        have hmlt : i % step < step := Nat.mod_lt _ (by omega)
        refine item_list (x := Value.ref a7) (News.isList N9 (by repeat' (first | exact List.Mem.head _ | apply List.Mem.tail))) (by rw [hmod]; exact Int.natCast_nonneg _) (by rw [hmod]; exact Int.lt_trans (Int.ofNat_lt.mpr hmlt) (by omega)) (by rw [hmod, Int.toNat_natCast]; simpa using hw7) ?_
        walk_at "m_steps"
        refine yesEnd F9 N9 (fun p hp => hp) hoff3 trivial ?_
        rw [List.range_succ, List.map_append]
        refine strsAre_app hJ3 ?_
        rw [show ((i : Int).fdiv (step : Int)).toNat = i / step by rw [fdiv_nat, Int.toNat_natCast]]
        exact StrsAre.cons (cellOf ss step i) _ .nil
      · clear F9 N9 R9
        intro ys hys D8 h8 tk8 F8 N8 off8
        (try dsimp only)
        (try k_fold)
        walk_at "m_steps"
        obtain ⟨q1, _, q3⟩ := N8 _ (.head _)
        exact hret D8 _ _ ys ys.length (fun b o e => F8.keep b o e) q3 q1 hys

-- CompC
theorem rsCompC : True := by
  w_top off
  trivial
def Off4 (I C c D : Addr) (nx : List (Addr × Obj)) : Prop := ∀ p ∈ nx, p.1 ≠ I ∧ p.1 ≠ C ∧ p.1 ≠ c ∧ p.1 ≠ D
section
variable {prog : Program} {w : World} {A : Around} {E : Value → Shared → Prop} {s : Shared} {h₀ : Heap} {L : Addr} {m : Str → Option Value} {env : Env}
/-- the block's environment where its one name is a cell -/
theorem newEnv_cell {scope : Scope} {globals : Addr} {cl : List (Str × Addr)} {qual : Str} {x : Str} {pre post : List (Str × NameKind)} {Q : Env → Shared → Prop} (hnames : scope.names = pre ++ (x, .cell) :: post) (hpre : ∀ y ∈ pre, y.2 ≠ .cell) (hpost : ∀ y ∈ post, y.2 ≠ .cell)
    (h : Q { scope := scope, locals := s.heap.objs.size, globals := globals, cells := (x, s.heap.objs.size + 1) :: cl, qual := qual, func := none, code := env.code, frame := env.frame, builtins := env.builtins }
      { s with heap := (s.heap.push { cls := .type "dict", data := .dict #[] }).push { cls := .type "cell", data := .cell none } }) :
    wpAny (model prog w) A (newFunctionEnv scope globals cl [] qual none .none (some env)) Q E s := by
  simp only [newFunctionEnv, Option.isSome_some, if_true]
  refine wpAny_bind (wpAny_alloc ?_)
  refine wpAny_bind (wpAny_forIn_list _ (fun rest b s' => (∃ pr, rest = pr ++ (x, .cell) :: post ∧ (∀ y ∈ pr, y.2 ≠ .cell) ∧ b = cl ∧ s' = { s with heap := s.heap.push { cls := .type "dict", data := .dict #[] } }) ∨
      ((∀ y ∈ rest, y.2 ≠ .cell) ∧ b = (x, s.heap.objs.size + 1) :: cl ∧ s' = { s with heap := (s.heap.push { cls := .type "dict", data := .dict #[] }).push { cls := .type "cell", data := .cell none } })) _ ?_ ?_ _ _ (.inl ⟨pre, hnames, hpre, rfl, rfl⟩))
  · rintro ⟨n, k⟩ rest b s' (⟨pr, hr, hp, rfl, rfl⟩ | ⟨hr, rfl, rfl⟩)
    · cases pr with
      | nil =>
        simp only [List.nil_append, List.cons.injEq, Prod.mk.injEq] at hr
        obtain ⟨⟨rfl, rfl⟩, rfl⟩ := hr
        simp only [beq_self_eq_true, if_true]
        refine wpAny_bind (wpAny_alloc (wpAny_pure (.inr ⟨hpost, ?_, rfl⟩)))
        show (n, (s.heap.push _).objs.size) :: b = _
        rw [Heap.size_push]
      | cons a pr =>
        simp only [List.cons_append, List.cons.injEq] at hr
        obtain ⟨rfl, rfl⟩ := hr
        have hk : (k == NameKind.cell) = false := beq_eq_false_iff_ne.mpr (hp (n, k) (.head _))
        simp only [hk, Bool.false_eq_true, if_false]
        exact wpAny_pure (.inl ⟨pr, rfl, fun y hy => hp y (.tail _ hy), rfl, rfl⟩)
    · have hk : (k == NameKind.cell) = false := beq_eq_false_iff_ne.mpr (hr (n, k) (.head _))
      simp only [hk, Bool.false_eq_true, if_false]
      exact wpAny_pure (.inr ⟨fun y hy => hr y (.tail _ hy), rfl, rfl⟩)
  · rintro b s' (⟨pr, hr, _⟩ | ⟨_, rfl, rfl⟩)
    · cases pr <;> simp at hr
    · simp only [List.forIn_nil]
      exact wpAny_bind (wpAny_pure (wpAny_pure h))

def CYes (h₀ : Heap) (L : Addr) (m : Str → Option Value) (s₁ : Shared) (I : Addr) (oI : Obj) (C : Addr) (oC : Obj) (c : Addr) (oc : Obj) (D : Addr) (ys : List Value) (J : List Value → List (Addr × Obj) → Prop) (y : Value) (s₂ : Shared) : Prop :=
  ∃ h' tk nx', s₂ = { s₁ with heap := h', toks := tk } ∧ Fr h₀ L h' m ∧ News h₀ L h' ((I, oI) :: (C, oC) :: (c, oc) :: (D, LCg.lst ys) :: nx') ∧ Off4 I C c D nx' ∧ J (ys ++ [y]) nx'
def CompSrcC (prog : Program) (w : World) (A : Around) (h₀ : Heap) (L : Addr) (m : Str → Option Value) (env : Env) (elt : Expr) (x : Str) (scope : Scope) (cl : List (Str × Addr)) (n : Nat) (J : Nat → List Value → List (Addr × Obj) → Prop) (Q : Value → Shared → Prop) (xv : Value) (s₁ : Shared) : Prop :=
  ∃ (r : Addr) (t u v : Tok) (news : List (Addr × Obj)), xv = .ref r ∧ A.handled = none ∧ Fr h₀ L s₁.heap m ∧ News h₀ L s₁.heap news ∧ IsRange s₁.heap r 0 (n : Int) 1 t u v ∧ n ≤ 1000 ∧ J 0 [] news ∧
    (∀ (i : Nat) (t : Tok) I oI C oC c oc D ys nx h tk (E' : Value → Shared → Prop), i < n → J i ys nx → oc.data = .cell (some (.int (i : Int) t)) → Fr h₀ L h m → News h₀ L h ((I, oI) :: (C, oC) :: (c, oc) :: (D, LCg.lst ys) :: nx) → Off4 I C c D nx →
      ((@Ne Nat I C) ∧ (@Ne Nat I c) ∧ (@Ne Nat I D) ∧ (@Ne Nat C c) ∧ (@Ne Nat C D) ∧ (@Ne Nat c D)) →
      wpAny (model prog w) A (eval elt (compEnvC scope ((x, c) :: cl) C env)) (CYes h₀ L m { s₁ with heap := h, toks := tk } I oI C oC c oc D ys (J (i + 1))) E' { s₁ with heap := h, toks := tk }) ∧
    (∀ D h tk ys nx, J n ys nx → Fr h₀ L h m → News h₀ L h ((D, LCg.lst ys) :: nx) → (∀ p ∈ nx, p.1 ≠ D) → Q (.ref D) { s₁ with heap := h, toks := tk })
theorem ListComp_C {elt iter : Expr} {x : Str} {px : Pos} {scope : Scope} {cl : List (Str × Addr)} {pos : Pos} {n : Nat} {pre post : List (Str × NameKind)} {Q : Value → Shared → Prop} (J : Nat → List Value → List (Addr × Obj) → Prop) (_F₀ : Fr h₀ L s.heap m)
    (hclos : closureFor scope env = pure cl) (hkind : scope.kind = .function) (hnames : scope.names = pre ++ (x, .cell) :: post) (hpre : ∀ y ∈ pre, y.2 ≠ .cell) (hpost : ∀ y ∈ post, y.2 ≠ .cell)
    (hloc : ∀ y ∈ scope.names, y.2 = .local → scope.names.lookup y.1 = some .local) (hx : ∀ c C, (compEnvC scope ((x, c) :: cl) C env).kindOf x = some .cell)
    (h : wpAny (model prog w) A (eval iter env) (CompSrcC prog w A h₀ L m env elt x scope cl n J Q) E s)
    (hs : ∀ x, foldedSetIterable iter env x = pure x := by intro _; rfl) :
    wpAny (model prog w) A (eval (.ListComp elt [⟨.Name x px, iter, [], 0⟩] scope pos) env) Q E s := by
  rw [eval_ListComp]
  refine wpAny_comprehension_free (use := none) rfl hs hclos hkind hloc (wpAny_mono h (fun xv s₁ h₁ => ?_) fun _ _ e => e)
  obtain ⟨r, t, u, v, news, rfl, hh, F, N, hr, hb, hj, turn, fin⟩ := h₁
  have hn := rsize n
  refine wpAny_pyIter_range hr (rsmall hb) ?_
  have hI0 : h₀.get? s₁.heap.objs.size = none := next_is_new F
  have W := LCg.range_walks (prog := prog) (w := w) (I := s₁.heap.objs.size) hh 0 n
  obtain ⟨I, hIe⟩ : ∃ I, I = s₁.heap.objs.size := ⟨_, rfl⟩
  have loop : ∀ (H : Heap) (D C c : Addr) (oI : Obj), H.get? I = some oI → IsRangeIter H I (0 + ((0 : Nat) : Int) * 1) ((n : Int) - ((0 : Nat) : Int)) 1 → H.get? D = some (LCg.lst []) → (∃ oC, H.get? C = some oC ∧ LCg.NsObj oC (fun _ => none)) → (∃ oc, H.get? c = some oc ∧ oc.data = .cell none) →
      (h₀.get? I = none ∧ h₀.get? D = none ∧ h₀.get? C = none ∧ h₀.get? c = none) → (I ≠ L ∧ D ≠ L ∧ C ≠ L ∧ c ≠ L) → (I ≠ C ∧ I ≠ c ∧ I ≠ D ∧ C ≠ c ∧ C ≠ D ∧ c ≠ D) → Fr h₀ L H m → News h₀ L H news → Off4 I C c D news →
      codeAny (model prog w) A (.compLoop (.ListComp elt [⟨.Name x px, iter, [], 0⟩] scope pos) 0 (.ref I) (.ref D) (compEnvC scope ((x, c) :: cl) C env)) (compPost (model prog w) A E none Q (.ref D) C) { s₁ with heap := H } := by
    rintro H D C c oI hI hst hD ⟨oC, hC, hCn⟩ ⟨oc, hc, hcd⟩ ⟨zI, zD, zC, zc⟩ ⟨lI, lD, lC, lc⟩ ⟨nIC, nIc, nID, nCc, nCD, ncD⟩ FH NH off
    refine codeAny_compLoop_tests
      (fun k s' => ∃ h' tk i ys nx oc vc, s' = { s₁ with heap := h', toks := tk } ∧ i ≤ n ∧ k = n + 1 - i ∧ ys.length = i ∧ IsRangeIter h' I (0 + (i : Nat) * 1) ((n : Int) - (i : Nat)) 1 ∧ Fr h₀ L h' m ∧ News h₀ L h' ((C, oC) :: (c, oc) :: (D, LCg.lst ys) :: nx) ∧ oc.data = .cell vc ∧ Off4 I C c D nx ∧ J i ys nx) ?_ (n + 1)
      ⟨H, s₁.toks, 0, [], news, oc, none, rfl, Nat.zero_le _, rfl, rfl, hst, FH, ?_, hcd, off, hj⟩
    · rintro k s' ⟨h', tk, i, ys, nx, oc, vc, rfl, hi, rfl, hyl, hst', F', N', hvc, off', hJ'⟩
      have zz : ∀ p ∈ (C, oC) :: (c, oc) :: (D, LCg.lst ys) :: nx, p.1 ≠ I := by
        intro p hp
        simp only [List.mem_cons] at hp
        rcases hp with rfl | rfl | rfl | hp
        · exact Ne.symm nIC
        · exact Ne.symm nIc
        · exact Ne.symm nID
        · exact (off' p hp).1
      rw [← hIe] at W
      by_cases hlt : i < n
      · refine W.item i _ _ _ hlt hst' fun v h₂ tk₂ hPv hst₂ hk₂ => ?_
        obtain ⟨t5, rfl⟩ := hPv
        have F₂ := LCg.fr_but F' hk₂ (Ne.symm lI) zI
        have N₂ := LCg.news_but N' hk₂ zz
        have wc := N₂ (c, oc) (.tail _ (.head _))
        refine wpAny_assign_Name (wpAny_storeName_cell (by show (relabel scope env).kind = .function; exact hkind) (hx c C) (by show List.lookup x ((x, c) :: cl) = some c; simp) ⟨oc, wc.1, hvc⟩ fun h₃ hv₃ hs₃ => ?_)
        obtain ⟨oc', ho', hd'⟩ := hv₃
        refine wpAny_tests_nil ?_
        simp only [if_true]
        have F₃ : Fr h₀ L h₃ m := F₂.change hs₃ wc.2.1 wc.2.2
        have hst₃ : IsRangeIter h₃ I (0 + ((i + 1 : Nat) : Int) * 1) ((n : Int) - ((i + 1 : Nat) : Int)) 1 := W.frame _ _ _ hst₂ fun b hb o e => hs₃.extBut b o (fun q => nIc (by rw [← List.mem_singleton.mp hb]; exact q)) e
        obtain ⟨oI', hIm, hIs⟩ : ∃ oI, h₃.get? I = some oI ∧ ∀ h : Heap, h.get? I = some oI → IsRangeIter h I (0 + ((i + 1 : Nat) : Int) * 1) ((n : Int) - ((i + 1 : Nat) : Int)) 1 := ⟨_, hst₃, fun h e => e⟩
        have e0 : (0 : Int) + (i : Int) = (i : Int) := by omega
        rw [e0] at hd'
        have N₃ : News h₀ L h₃ ((I, oI') :: (C, oC) :: (c, oc') :: (D, LCg.lst ys) :: nx) := by
          intro p hp
          simp only [List.mem_cons] at hp
          rcases hp with rfl | rfl | rfl | rfl | hp
          · exact ⟨hIm, lI, zI⟩
          · have z := N₂ _ (.head _); exact ⟨(hs₃.2 _ nCc).trans z.1, z.2⟩
          · exact ⟨ho', wc.2⟩
          · have z := N₂ _ (.tail _ (.tail _ (.head _))); exact ⟨(hs₃.2 _ (Ne.symm ncD)).trans z.1, z.2⟩
          · have z := N₂ p (.tail _ (.tail _ (.tail _ hp))); exact ⟨(hs₃.2 _ (off' p hp).2.2.1).trans z.1, z.2⟩
        refine wpAny_mono (turn i t5 I oI' C oC c oc' D ys nx h₃ _ _ hlt hJ' hd' F₃ N₃ off' ⟨nIC, nIc, nID, nCc, nCD, ncD⟩) (fun y s₄ h₄ => ?_) fun _ _ e => e
        obtain ⟨h₄, tk₄, nx₄, rfl, F₄, N₄, off₄, J₄⟩ := h₄
        have zD4 := (N₄ (D, LCg.lst ys) (.tail _ (.tail _ (.tail _ (.head _))))).1
        refine append_at (hsz := by show ys.toArray.size ≤ sizeLine; rw [List.size_toArray, hyl]; have : sizeLine = 2 ^ 24 := rfl; omega) zD4 fun h₅ hs₅ hD₅ => ?_
        have hst₄ := hIs _ (N₄ (I, oI') (.head _)).1
        refine ⟨n + 1 - (i + 1), by omega, h₅, tk₄, i + 1, ys ++ [y], nx₄, oc', _, rfl, hlt, rfl, by rw [List.length_append, List.length_singleton, hyl], ?_, F₄.change hs₅ lD zD, ?_, hd', off₄, J₄⟩
        · exact W.frame _ _ _ hst₄ fun b hb o e => hs₅.extBut b o (fun q => nID (by rw [← List.mem_singleton.mp hb]; exact q)) e
        · intro p hp
          simp only [List.mem_cons] at hp
          rcases hp with rfl | rfl | rfl | hp
          · have z := N₄ _ (.tail _ (.head _)); exact ⟨(hs₅.2 _ nCD).trans z.1, z.2⟩
          · have z := N₄ _ (.tail _ (.tail _ (.head _))); exact ⟨(hs₅.2 _ ncD).trans z.1, z.2⟩
          · exact ⟨hD₅.trans (congrArg some (LCg.lst_snoc ys y)), lD, zD⟩
          · have z := N₄ p (.tail _ (.tail _ (.tail _ (.tail _ hp)))); exact ⟨(hs₅.2 _ (off₄ p hp).2.2.2).trans z.1, z.2⟩
      · obtain rfl : i = n := by omega
        refine W.done _ _ _ hst' fun h₂ tk₂ hk₂ => ?_
        have F₂ := LCg.fr_but F' hk₂ (Ne.symm lI) zI
        have N₂ := LCg.news_but N' hk₂ zz
        have wC := N₂ (C, oC) (.head _)
        refine ⟨fun _ => none, hCn.ns wC.1, fun h'' hs'' => fin D h'' tk₂ ys nx hJ' (F₂.change hs'' lC zC) (fun p hp => ?_) fun p hp => (off' p hp).2.2.2⟩
        simp only [List.mem_cons] at hp
        rcases hp with rfl | hp
        · have z := N₂ _ (.tail _ (.tail _ (.head _))); exact ⟨(hs''.2 _ (Ne.symm nCD)).trans z.1, z.2⟩
        · have z := N₂ p (.tail _ (.tail _ (.tail _ hp))); exact ⟨(hs''.2 _ (off' p hp).2.1).trans z.1, z.2⟩
    · intro p hp
      simp only [List.mem_cons] at hp
      rcases hp with rfl | rfl | rfl | hp
      · exact ⟨hC, lC, zC⟩
      · exact ⟨hc, lc, zc⟩
      · exact ⟨hD, lD, zD⟩
      · exact NH p hp
  refine wpAny_newObj_type (newEnv_cell hnames hpre hpost ?_)
  have key : ∀ (o1 o2 o3 o4 : Obj) (H1 H2 H3 H4 : Heap), H1 = s₁.heap.push o1 → H2 = H1.push o2 → H3 = H2.push o3 → H4 = H3.push o4 → o1.isFreed = false → o2 = LCg.lst [] → o3 = { cls := .type "dict", data := .dict #[] } → o4 = { cls := .type "cell", data := .cell none } →
      (∀ h : Heap, h.get? I = some o1 → IsRangeIter h I (0 + ((0 : Nat) : Int) * 1) ((n : Int) - ((0 : Nat) : Int)) 1) →
      IsRangeIter H4 I (0 + ((0 : Nat) : Int) * 1) ((n : Int) - ((0 : Nat) : Int)) 1 ∧ codeAny (model prog w) A (.compLoop (.ListComp elt [⟨.Name x px, iter, [], 0⟩] scope pos) 0 (.ref I) (.ref H1.objs.size) (compEnvC scope ((x, H2.objs.size + 1) :: cl) H2.objs.size env)) (compPost (model prog w) A E none Q (.ref H1.objs.size) H2.objs.size) { s₁ with heap := H4 } := by
    intro o1 o2 o3 o4 H1 H2 H3 H4 e1 e2 e3 e4 f1 x2 x3 x4 hIt
    have s1 : H1.objs.size = s₁.heap.objs.size + 1 := by rw [e1, Heap.size_push]
    have s2 : H2.objs.size = s₁.heap.objs.size + 2 := by rw [e2, Heap.size_push, s1]
    have s3 : H3.objs.size = s₁.heap.objs.size + 3 := by rw [e3, Heap.size_push, s2]
    have hIs : I = s₁.heap.objs.size := hIe
    have up4 : ∀ b o, H3.get? b = some o → H4.get? b = some o := fun b o e => by rw [e4]; exact Heap.get?_push_of_some _ e
    have up3 : ∀ b o, H2.get? b = some o → H4.get? b = some o := fun b o e => up4 b o (by rw [e3]; exact Heap.get?_push_of_some _ e)
    have up2 : ∀ b o, H1.get? b = some o → H4.get? b = some o := fun b o e => up3 b o (by rw [e2]; exact Heap.get?_push_of_some _ e)
    have up1 : ∀ b o, s₁.heap.get? b = some o → H4.get? b = some o := fun b o e => up2 b o (by rw [e1]; exact Heap.get?_push_of_some _ e)
    have gI : H4.get? I = some o1 := up2 _ _ (by rw [e1, hIs]; exact Heap.get?_push_size _ f1)
    have gD : H4.get? H1.objs.size = some (LCg.lst []) := up3 _ _ (by rw [e2, x2]; exact Heap.get?_push_size _ rfl)
    have gC : H4.get? H2.objs.size = some { cls := .type "dict", data := .dict #[] } := up4 _ _ (by rw [e3, x3]; exact Heap.get?_push_size _ rfl)
    have gc : H4.get? (H2.objs.size + 1) = some { cls := .type "cell", data := .cell none } := by
      have : H2.objs.size + 1 = H3.objs.size := by omega
      rw [this, e4, x4]; exact Heap.get?_push_size _ rfl
    have fresh : ∀ b, s₁.heap.objs.size ≤ b → h₀.get? b = none := fun b hb => by
      cases q : h₀.get? b with
      | none => rfl
      | some o => exact absurd (Heap.lt_size (F.keep _ _ q)) (Nat.not_lt.mpr hb)
    have lL : @LT.lt Nat _ L s₁.heap.objs.size := F.ns.lt
    have lN : ∀ p ∈ news, @LT.lt Nat _ p.1 s₁.heap.objs.size := fun p hp => Heap.lt_size (N p hp).1
    refine ⟨hIt _ gI, ?_⟩
    refine loop H4 H1.objs.size H2.objs.size (H2.objs.size + 1) o1 gI (hIt _ gI) gD ?_ ⟨_, gc, rfl⟩ ⟨fresh _ (Nat.le_of_eq hIs.symm), fresh _ (by omega), fresh _ (by omega), fresh _ (by omega)⟩ ⟨?_, ?_, ?_, ?_⟩ ⟨?_, ?_, ?_, ?_, ?_, ?_⟩ (F.keeps up1) (N.grown up1) ?_
    · obtain ⟨oC, q1, q2⟩ := LCg.ns_obj (Heap.Ns.new H2 (.type "dict"))
      have q3 : H3.get? H2.objs.size = some oC := by rw [e3, x3]; exact q1
      exact ⟨oC, up4 _ _ q3, q2⟩
    all_goals first
      | (refine neN ?_; omega)
      | skip
    intro p hp
    have := lN p hp
    refine ⟨neN (by omega), neN (by omega), neN (by omega), neN (by omega)⟩
  have hk2 := key _ _ _ _ _ _ _ _ rfl rfl rfl rfl rfl rfl rfl rfl (fun h e => by
    show IsRangeIter _ _ _ _ _
    have : h.get? I = some { cls := .type "range_iterator", data := .fields #[rawInt 0, rawInt (Builtin.Range.rangeSize 0 (n : Int) 1), rawInt 1] } := e
    rw [hn] at this
    simpa using this)
  rw [hIe] at hk2
  refine codeAny_compStart_list ?_ (W.self 0 _ _ _ ?_ ?_)
  · exact hk2.2
  · exact hk2.1
  · exact hk2.2
end

-- Sorted
theorem rsSorted : True := by
  w_top off
  trivial
theorem fillK4 : ((PySem.Challenge.rw_xn0024_01, hd.heap_39) : OpenLaw × (Params → Frag)).1 = PySem.Challenge.rw_xn0024_01 := by
  k_fill
  rfl
def JS (ss : List Str) (step : Nat) (own : List (Addr × Obj)) (i : Nat) (ys : List Value) (nx : List (Addr × Obj)) : Prop :=
  ∃ lists, nx = own ++ lists ∧ Lists lists ys (fun j => sort9 (strand ss step j)) i ∧ ∀ p ∈ lists, ∀ q ∈ own, p.1 ≠ q.1
theorem ledA {h₀ h : Heap} {L : Addr} {all : List (Addr × Obj)} {P : Prop} (_ : News h₀ L h all) (k : ∀ own, own = all → P) : P := k all rfl
theorem csEnd {h₀ h' : Heap} {L I C c D D7 n9 : Addr} {oI oC oc d7 : Obj} {m : Str → Option Value} {ys : List Value} {own lists : List (Addr × Obj)} {s₁ : Shared} {tk step k e : Nat} {ss ss9 : List Str} {vs9 : List Value}
    (F : Fr h₀ L h' m) (N : News h₀ L h' ((n9, seqObj "list" vs9.toArray e) :: (D7, d7) :: (I, oI) :: (C, oC) :: (c, oc) :: (D, LCg.lst ys) :: (own ++ lists))) (off : Off4 I C c D (own ++ lists))
    (hn : @Ne Nat n9 I ∧ @Ne Nat n9 C ∧ @Ne Nat n9 c ∧ @Ne Nat n9 D) (ho : ∀ p ∈ lists, ∀ q ∈ own, p.1 ≠ q.1) (hno : ∀ q ∈ own, n9 ≠ q.1) (hL : Lists lists ys (fun j => sort9 (strand ss step j)) k) (hs : StrsAre vs9 ss9) (hp : ss9.Perm (strand ss step k)) (hq : sortedS ss9 = true) :
    CYes h₀ L m s₁ I oI C oC c oc D ys (JS ss step own (k + 1)) (.ref n9) { s₁ with heap := h', toks := tk } := by
  refine ⟨h', tk, own ++ (lists ++ [(n9, listOf vs9.toArray e)]), rfl, F, ?_, ?_, lists ++ [(n9, listOf vs9.toArray e)], rfl, ?_, ?_⟩
  · intro p hp
    refine N p ?_
    simp only [List.mem_cons, List.mem_append, List.not_mem_nil, or_false] at hp ⊢
    rcases hp with q | q | q | q | q | q | q
    · exact .inr (.inr (.inl q))
    · exact .inr (.inr (.inr (.inl q)))
    · exact .inr (.inr (.inr (.inr (.inl q))))
    · exact .inr (.inr (.inr (.inr (.inr (.inl q)))))
    · exact .inr (.inr (.inr (.inr (.inr (.inr (.inl q))))))
    · exact .inr (.inr (.inr (.inr (.inr (.inr (.inr q))))))
    · exact .inl q
  · intro p hp
    rw [← List.append_assoc] at hp
    rcases List.mem_append.mp hp with q | q
    · exact off p q
    · rw [List.mem_singleton.mp q]; exact hn
  · refine ⟨by rw [List.length_append, hL.1, List.length_singleton], ?_⟩
    intro j hj
    rcases Nat.lt_or_ge j k with hj' | hj'
    · obtain ⟨a, n, vs, h1, h2, h3⟩ := hL.2 j hj'
      exact ⟨a, n, vs, by rw [List.getElem?_append_left (by rw [hL.1]; exact hj')]; exact h1, List.mem_append.mpr (.inl h2), h3⟩
    · have e : j = k := by omega
      subst e
      refine ⟨n9, _, vs9, ?_, List.mem_append.mpr (.inr (.head _)), by show StrsAre vs9 (sort9 (strand ss step j)); rw [← sort9_uniq hp hq]; exact hs⟩
      rw [List.getElem?_append_right (by rw [hL.1]; exact Nat.le_refl _), hL.1, Nat.sub_self]
      rfl
  · intro p hp q hq
    rcases List.mem_append.mp hp with r | r
    · exact ho p r q hq
    · rw [List.mem_singleton.mp r]; exact hno q hq
theorem newsSet {h₀ h1 h2 : Heap} {L D1 c3 a2 a1 : Addr} {d o o2 o1 o4 : Obj} {lists : List (Addr × Obj)} (N : News h₀ L h1 ((D1, d) :: (c3, o) :: (a2, o2) :: (a1, o1) :: lists)) (hs : Heap.SameBut c3 h1 h2) (h4 : h2.get? c3 = some o4)
    (n0 : D1 ≠ c3) (n2 : a2 ≠ c3) (n1 : a1 ≠ c3) (hl : ∀ p ∈ lists, p.1 ≠ c3) : News h₀ L h2 ((D1, d) :: (c3, o4) :: (a2, o2) :: (a1, o1) :: lists) := by
  intro p hp
  simp only [List.mem_cons] at hp
  rcases hp with q | q | q | q | q
  · have z := N _ (.head _); rw [q]; exact ⟨(hs.2 _ n0).trans z.1, z.2⟩
  · have z := N _ (.tail _ (.head _)); rw [q]; exact ⟨h4, z.2⟩
  · have z := N _ (.tail _ (.tail _ (.head _))); rw [q]; exact ⟨(hs.2 _ n2).trans z.1, z.2⟩
  · have z := N _ (.tail _ (.tail _ (.tail _ (.head _)))); rw [q]; exact ⟨(hs.2 _ n1).trans z.1, z.2⟩
  · have z := N p (.tail _ (.tail _ (.tail _ (.tail _ q)))); exact ⟨(hs.2 _ (hl p q)).trans z.1, z.2⟩
theorem sorted_row {w : World} {gd : Option (List Code)} {cn : Str} {cs : Scope} {a : Addr} {ccd : Value} {cl : List (Str × Addr)} {outer : List Env} {A₀ : Around} {base h₀ : Heap} {L : Addr} {m : Str → Option Value} {s : Shared} {Q E : Value → Shared → Prop}
    {mean : ExcName → Option Value} {mg mb : Str → Option Value} {loose : List Str} {la : Addr} {vs : List Value} {ss : List Str} {step : Nat} {t : Tok}
    (B : Below A₀ base outer h₀) (F : Fr h₀ L s.heap m) (X : (hd.heap_39 w.params).In h₀) (T : Top view loose mean mg mb h₀) (hk : cs.kind = .function)
    (hl : s.heap.IsList la vs.toArray) (hs : StrsAre vs ss) (hn : ss.length ≤ 8) (hge : 2 ≤ step) (hle : step ≤ 5)
    (hret : ∀ l h' tk ws n, s.heap.StaysIn h' → s.heap.get? l = none → h'.get? l = some (listOf ws.toArray n) → StrsAre ws (pass ss step) → Q (.ref l) { s with heap := h', toks := tk }) :
    wpAny (model PySem.Challenge.rw_xn0024_01.row.prog w) (ktrTop 302 7 gd cn cs L a ccd cl outer) (call (.ref 348) [.ref la, .int (step : Int) t]) Q E s := by
  (refine wpAny_call ?_; k_dflt (refine' enterC (binds := [(Str.ofString "row", Value.ref la), (Str.ofString "step", Value.int (step : Int) t)]) ?k1 ?k2 ?k3 ?k5 ?kA ?kF ?kK ?k6 ?k7 ?k8 ?k9 ?kB ?kD ?_ ?c2 ?c3 ?c4; (case kA => exact rfl); (case kF => exact rfl); (case kK => assumption); (case k1 => k_asm); (case k2 => k_asm); (case k3 => k_asm); (case k5 => k_asm); (case k6 => k_is); (case k7 => k_is); (case k8 => ktr_room); (case k9 => first | exact BindsTo.of_eq rfl | exact binds_K (by k_in) rfl (by k_is) rfl rfl rfl); (case kB => exact rfl); (case kD => decide +kernel); (case c2 => exact rfl); (case c3 => exact rfl); (case c4 => exact rfl); k_whole); walk_at "m_inC")
  walk_at "m_steps"
  rename (_ = s.heap) => hg'
  subst hg'
  walk_at "m_names"
  refine ledA N9 fun own hown => ?_
  refine ListComp_C (h₀ := s.heap) (pre := [(Str.ofString ".0", .local)]) (n := step) (JS ss step own) F9 (by with_unfolding_all rfl) (by decide) (by rfl) (by decide) (by decide) (by decide) (by intro _ _; rfl) ?_
  walk_at "m_steps"
  walk_at "m_names"
  rename (IsRange _ _ _ _ _ _ _ _) => R9
  refine ⟨_, _, _, _, _, rfl, rfl, F9, by assumption, R9, by omega, ⟨[], by rw [List.append_nil]; exact hown.symm, ⟨rfl, by intro j hj; cases hj⟩, by intro p hp; cases hp⟩, ?_, ?_⟩
  · clear F9 N9 R9
    intro k t1 I oI C oC c oc D ys nx h1 tk1 E1 hk1 hJ hoc F1 N1 off1 ne1
    obtain ⟨lists, rfl, hL, ho⟩ := hJ
    rw [hown] at N1
    simp only [List.cons_append, List.nil_append, List.append_assoc] at N1
    (try dsimp only)
    (try k_fold)
    walk_at "m_steps"
    walk_at "m_names"
    refine LCt.ListComp_T (F₀ := F9) (by with_unfolding_all rfl) (by decide) (by rfl) (by decide) (by rfl) ?_
    walk_at "m_steps"
    walk_at "m_names"
    rename (IsRange _ _ _ _ _ _ _ _) => R9
    refine LCt.CompSrcT.range rfl F9 N9 R9 (rsmall (by omega)) (rsize _) (Nat.le_trans hn (by decide)) ?_
    intro g7
    refine restT (fun i ys => StrsAre ys (ga ss step k i)) (by exact .nil) ?_ ?_
    · clear F9 N9 R9
      intro i v I2 oI2 C2 oC2 D2 m3 ys3 h3 tk3 E3 hi hv hJ3 hC hx3 F3 N3 hoff3 hne
      obtain ⟨t5, rfl⟩ := hv
      have e0 : (0 : Int) + (i : Int) = (i : Int) := by omega
      rw [e0] at hx3
      (try dsimp only)
      (try k_fold)
      walk_at "m_steps"
      · rename (Int.fmod _ _ = _) => hb
        rename (_[Int.toNat _]? = some _) => hy9
        rw [fmod_nat] at hb
        refine yesEnd F3 N3 (fun p hp => hp) hoff3 trivial ?_
        rw [Int.toNat_natCast] at hy9
        rw [ga_yes (by omega), List.getD, hy9]
        exact strsAre_app hJ3 (.cons _ _ .nil)
      · rename (Int.fmod _ _ ≠ _) => hb
        rw [fmod_nat] at hb
        refine noEnd F3 N3 (fun p hp => hp) hoff3 trivial ?_
        rw [ga_no (by omega)]
        exact hJ3
    · clear F9 N9 R9
      intro ys2 hys2 D7 h8 tk8 F8 N8 off8
      rw [ga_strand] at hys2
      have hsl7 : (strand ss step k).length ≤ 8 := Nat.le_trans strand_len hn
      have hys7 := StrsAre.length hys2
      (try dsimp only)
      (try k_fold)
      walk_at "m_steps"
      walk_at "m_names"
      refine sorted_N_str F9 N9 (News.isList N9 (.head _)) hys2 (by rw [hys7]; omega) fun h9 vs9 ss9 e9 F10 N10 hs10 hp10 hq10 => ?_
      have l9 : ∀ p ∈ (D7, LCg.lst ys2) :: (I, oI) :: (C, oC) :: (c, oc) :: (D, LCg.lst ys) :: [], @LT.lt Nat _ p.1 h8.objs.size := fun p hp => Heap.lt_size (N9 p (by
        simp only [List.mem_cons, List.not_mem_nil, or_false] at hp ⊢
        rcases hp with q | q | q | q | q <;> simp [q])).1
      simp only [List.mem_cons, List.not_mem_nil, or_false, forall_eq_or_imp, forall_eq] at l9
      refine csEnd (own := own) F10 (by rw [hown]; simp only [List.cons_append, List.nil_append]; exact N10) (by rw [hown] at off1 ⊢; exact off1) ⟨?_, ?_, ?_, ?_⟩ ho ?_ hL hs10 hp10 hq10
      any_goals (show @Ne Nat (h8.objs.size + 1) _; omega)
      intro q hq
      have : @LT.lt Nat _ q.1 h8.objs.size := Heap.lt_size (N9 q (by
        rw [hown] at hq
        simp only [List.mem_cons, List.not_mem_nil, or_false] at hq ⊢
        rcases hq with q | q | q <;> simp [q])).1
      show @Ne Nat (h8.objs.size + 1) _
      omega
  · clear F9 N9 R9
    intro D1 h1 tk1 ys nx hJ F1 N1 off1
    obtain ⟨lists, rfl, hL, ho⟩ := hJ
    rw [hown] at N1
    simp only [List.cons_append, List.nil_append, List.append_assoc] at N1
    have c3 := N1 _ (.tail _ (.head _))
    have n3 : ∀ p ∈ own ++ lists, p.1 ≠ D1 := off1
    (try dsimp only)
    (try k_fold)
    refine wpAny_storeName_cell (by rfl) (by with_unfolding_all rfl) (by with_unfolding_all rfl) ⟨_, c3.1, by assumption⟩ fun h2 hv2 hs2 => ?_
    obtain ⟨o4, ho4, hd4⟩ := hv2
    have F2 := F1.change hs2 c3.2.1 c3.2.2
    have N2 := newsSet N1 hs2 ho4 (Ne.symm (off1 _ (by rw [hown]; exact .head _))) (by k_ne) (by k_ne) (fun p hp => ho p hp _ (by rw [hown]; exact .head _))
    clear N1 F1 c3 n3 off1 hs2
    walk_at "m_steps"
    rename Fr _ _ _ _ => F9
    refine LCg.ListComp_U (F₀ := F9) (by with_unfolding_all rfl) (by decide) (by rfl) (by decide) (by rfl) ?_
    walk_at "m_steps"
    walk_at "m_names"
    rename (IsRange _ _ _ _ _ _ _ _) => R9
    refine LCg.CompSrc.range rfl F9 N9 R9 (rsmall (by omega)) (rsize _) (Nat.le_trans hn (by decide)) ?_
    intro g7
    refine restU (fun i ys => StrsAre ys ((List.range i).map (cellOf ss step))) (by exact .nil) ?_ ?_
    · clear F9 N9 R9
      intro i v I oI C oC D m3 ys3 h3 tk3 E3 hi hv hJ3 hC hx3 F3 N3 hoff3 hne
      obtain ⟨t5, rfl⟩ := hv
      have e0 : (0 : Int) + (i : Int) = (i : Int) := by omega
      rw [e0] at hx3
      (try dsimp only)
      (try k_fold)
      (repeat' (first | (k_unfold; (try dsimp only)) | (walk_at "m_go"; (fail_if_success (with_reducible show wpAny _ _ (subscriptTail _ _ (Value.ref D1) _) _ _ _)); first | (k_end; wrow_close) | walk1 | (dsimp only; walk1) | (leave1; walk_say "STEP leave1"; try dsimp only)) | fail "no step"))
      walk_at "m_names"
      obtain ⟨a7, n7, vs7, hw7, hm7, hs7⟩ := hL.2 (i % step) (Nat.mod_lt _ (by omega))
      replace hs7 : StrsAre vs7 (sort9 (strand ss step (i % step))) := hs7
      have hlt7 := strand_lt hn hge hle hi
      have hlen7 : (sort9 (strand ss step (i % step))).length ≤ 8 := by rw [sort9_length]; exact Nat.le_trans strand_len hn
      have hfd0 : 0 ≤ (i : Int).fdiv (step : Int) := by rw [fdiv_nat]; exact Int.natCast_nonneg _
      have hfd1 : (i : Int).fdiv (step : Int) < ((sort9 (strand ss step (i % step))).length : Int) := by rw [fdiv_nat]; exact Int.ofNat_lt.mpr hlt7
      have N7 := News.dup N9 (p := (a7, listOf vs7.toArray n7)) (by repeat' (first | exact hm7 | apply List.Mem.tail))
      have hmod : (i : Int).fmod (step : Int) = ((i % step : Nat) : Int) := fmod_nat i step
      have hmlt : i % step < step := Nat.mod_lt _ (by omega)
      refine item_list (x := Value.ref a7) (News.isList N9 (by repeat' (first | exact List.Mem.head _ | apply List.Mem.tail))) (by rw [hmod]; exact Int.natCast_nonneg _) (by rw [hmod]; exact Int.lt_trans (Int.ofNat_lt.mpr hmlt) (by omega)) (by rw [hmod, Int.toNat_natCast]; simpa using hw7) ?_
      walk_at "m_steps"
      refine yesEnd F9 N9 (fun p hp => hp) hoff3 trivial ?_
      rw [List.range_succ, List.map_append]
      refine strsAre_app hJ3 ?_
      rw [show ((i : Int).fdiv (step : Int)).toNat = i / step by rw [fdiv_nat, Int.toNat_natCast]]
      exact StrsAre.cons (cellOf ss step i) _ .nil
    · clear F9 N9 R9
      intro ys9 hys D8 h8 tk8 F8 N8 off8
      (try dsimp only)
      (try k_fold)
      walk_at "m_steps"
      obtain ⟨q1, _, q3⟩ := N8 _ (.head _)
      exact hret D8 _ _ ys9 ys9.length (fun b o e => F8.keep b o e) q3 q1 hys

-- IterL
theorem rsIterL : True := by
  w_top off
  trivial
section
variable {prog : Program} {w : World} {A : Around} {E : Value → Shared → Prop} {s : Shared} {env : Env} {h₀ : Heap} {x : Str} {body : List Stmt} {Q : Flow → Shared → Prop}
/-- a for over a list of the ledger; the ledger may change, the list stays -/
theorem iterL {l : Addr} {vs : List Value} {nn : Nat} {m₀ : Str → Option Value} {news : List (Addr × Obj)} (J : Nat → (Str → Option Value) → List (Addr × Obj) → Prop)
    (hh : A.handled = none) (hl : (l, listOf vs.toArray nn) ∈ news) (F : Fr h₀ env.locals s.heap m₀) (N : News h₀ env.locals s.heap news) (hj : J 0 m₀ news)
    (turn : ∀ i v m₁ news₁ h tk own, vs[i]? = some v → (∃ o, own = [(s.heap.objs.size, o)]) → (∀ p ∈ news₁, @Ne Nat p.1 s.heap.objs.size) → (l, listOf vs.toArray nn) ∈ news₁ → J i m₁ news₁ → Fr h₀ env.locals h (fun y => if y = x then some v else m₁ y) → News h₀ env.locals h (news₁ ++ own) →
      wpAny (model prog w) A (execs body env) (InvPostG h₀ env.locals (fun m' nx => (l, listOf vs.toArray nn) ∈ nx ∧ J (i + 1) m' nx) own { s with heap := h, toks := tk } Q) E { s with heap := h, toks := tk })
    (done : ∀ m₁ news₁ h tk, (l, listOf vs.toArray nn) ∈ news₁ → J vs.length m₁ news₁ → Fr h₀ env.locals h m₁ → News h₀ env.locals h news₁ → Q .next { s with heap := h, toks := tk }) :
    wpAny (model prog w) A (pyIter (.ref l)) (fun it s₂ => LoopAtV prog w A h₀ env x body Q E it s₂) E s := by
  have hol : s.heap.get? l = some (listOf vs.toArray nn) := (N _ hl).1
  have hls : s.heap.IsList l vs.toArray := ⟨_, hol, rfl, nn, rfl⟩
  have hne : l ≠ s.heap.objs.size := Nat.ne_of_lt (Heap.lt_size hol)
  refine wpAny_pyIter_list hls ?_
  have W := Walks.list (prog := prog) (w := w) hh s.heap.objs.size l hne vs.toArray
  rw [List.size_toArray] at W
  refine ⟨_, _, _, vs.length, _, _, m₀, news, (fun i m nx => (l, listOf vs.toArray nn) ∈ nx ∧ J i m nx), rfl, W, ?_, ?_, ?_, ⟨⟨_, Heap.get?_push_size _ rfl, rfl, rfl⟩, hls.at fun o e => Heap.get?_push_of_some _ e⟩, F.push _, (fun p hp => ⟨Heap.get?_push_of_some _ (N p hp).1, (N p hp).2⟩), ⟨hl, hj⟩, ?_, ?_⟩
  · intro hm
    rcases List.mem_cons.mp hm with e | hm
    · exact absurd F.ns.lt (e ▸ Nat.lt_irrefl _)
    · exact (N _ hl).2.1 ((List.mem_singleton.mp hm).symm)
  · intro b hb
    rw [List.mem_singleton.mp hb]
    exact next_is_new F
  · intro p hp hI
    exact absurd (Heap.lt_size (N p hp).1) ((List.mem_singleton.mp hI) ▸ Nat.lt_irrefl _)
  · rintro i v m₁ news₁ s₁ own ⟨hh', tk', rfl⟩ hin hP ⟨hl₁, hJ⟩ hoff hown hget hfp hst F₁ N₁
    have hI0 : h₀.get? s.heap.objs.size = none := next_is_new F
    obtain ⟨⟨oI, hoI, _⟩, _⟩ := id hst
    have hIown : (s.heap.objs.size, oI) ∈ own := hfp _ (List.mem_cons.mpr (.inl rfl)) hI0 _ hoI
    have N₂ : News h₀ env.locals hh' (news₁ ++ [(s.heap.objs.size, oI)]) := fun p hp => N₁ p ((List.mem_append.mp hp).elim (fun h => List.mem_append.mpr (.inr h)) fun h => List.mem_append.mpr (.inl (by rw [List.mem_singleton.mp h]; exact hIown)))
    have hlo : hh'.get? l = some (listOf vs.toArray nn) := (N₁ _ (List.mem_append.mpr (.inr hl₁))).1
    refine wpAny_mono (turn i v m₁ news₁ hh' tk' [(s.heap.objs.size, oI)] (by simpa using hP) ⟨oI, rfl⟩ (fun p hp e => hoff p hp (List.mem_singleton.mpr e)) hl₁ hJ F₁ N₂) (fun f s₂ p => ?_) fun _ _ e => e
    have fin : InvEndG h₀ env.locals (fun m' nx => (l, listOf vs.toArray nn) ∈ nx ∧ J (i + 1) m' nx) [(s.heap.objs.size, oI)] { s with heap := hh', toks := tk' } s₂ →
        LoopStepU h₀ env.locals [s.heap.objs.size] own (fun m nx => (l, listOf vs.toArray nn) ∈ nx ∧ J (i + 1) m nx) { s with heap := hh', toks := tk' } .next s₂ := by
      rintro ⟨h', tk, m', news', nx, e, F', N', hn, ho, ha, hm⟩
      refine ⟨rfl, h', tk, m', nx, e, F', fun p hp => ?_, fun p hp hq => ?_, hm⟩
      · rcases List.mem_append.mp hp with h | h
        · rcases List.mem_cons.mp (hown p h) with h2 | h2
          · have h3 : hh'.get? p.1 = some p.2 := hget p h
            rw [h2, hoI] at h3
            have h4 : p = (s.heap.objs.size, oI) := Prod.ext h2 (Option.some.inj h3).symm
            rw [h4]
            exact N' _ (ho _ (.head _))
          · have h1 : p.1 = l := List.mem_singleton.mp h2
            have h3 : hh'.get? p.1 = some p.2 := hget p h
            rw [h1, hlo] at h3
            have h4 : p = (l, listOf vs.toArray nn) := Prod.ext h1 (Option.some.inj h3).symm
            rw [h4]
            exact N' _ (hn _ hm.1)
        · exact N' p (hn p h)
      · exact ha _ (.head _) p.1 (List.mem_map.mpr ⟨p, hp, rfl⟩) (List.mem_singleton.mp hq).symm
    cases f with
    | ret v => exact .ret p
    | brk => exact .brk p
    | next => exact .next (fin p)
    | cont => exact .cont (fin p)
  · rintro h' tk m' news' F' N' _ ⟨hl', hJ⟩
    exact done m' news' h' tk hl' hJ F' N'
end

-- Knuth
theorem rsKnuth : True := by
  w_top off
  trivial
abbrev gx (ss : List Str) (i : Nat) : Str := ss.getD i Str.empty
/-- the list is in order at the distance h -/
def HS (ss : List Str) (h : Nat) : Prop := ∀ i, i + h < ss.length → LeS (gx ss i) (gx ss (i + h))
theorem pass_length (ss : List Str) (k : Nat) : (pass ss k).length = ss.length := by simp [pass]
theorem gx_pass {ss : List Str} {k i : Nat} (h : i < ss.length) : gx (pass ss k) i = cellOf ss k i := by
  simp [gx, pass, List.getD, h]
theorem cell_at {ss : List Str} {k i : Nat} (hn : ss.length ≤ 8) (h2 : 2 ≤ k) (h5 : k ≤ 5) (h : i < ss.length) : (sort9 (strand ss k (i % k)))[i / k]? = some (cellOf ss k i) := by
  have hl := strand_lt hn h2 h5 h
  unfold cellOf
  rw [List.getD, List.getElem?_eq_getElem hl]
  rfl
theorem cell_mem {ss : List Str} {k i : Nat} (hn : ss.length ≤ 8) (h2 : 2 ≤ k) (h5 : k ≤ 5) (h : i < ss.length) : cellOf ss k i ∈ ss := by
  have := List.mem_of_getElem? (cell_at hn h2 h5 h)
  exact strand_mem _ ((sort9_perm _).mem_iff.mp this)
theorem pass_mem {ss : List Str} {k : Nat} (hn : ss.length ≤ 8) (h2 : 2 ≤ k) (h5 : k ≤ 5) : ∀ y ∈ pass ss k, y ∈ ss := by
  intro y hy
  unfold pass at hy
  obtain ⟨i, hi, rfl⟩ := List.mem_map.mp hy
  exact cell_mem hn h2 h5 (List.mem_range.mp hi)
theorem pass_cleans {ss : List Str} {k : Nat} (hn : ss.length ≤ 8) (h2 : 2 ≤ k) (h5 : k ≤ 5) (hC : Cleans ss) : Cleans (pass ss k) := fun y hy => hC y (pass_mem hn h2 h5 y hy)
/-- counts in a sorted list -/
theorem count_lo {p : Str → Bool} (hp : ∀ x y, LeS x y → p y = true → p x = true) : ∀ (l : List Str) (v : Nat) (y : Str), l.Pairwise LeS → l[v]? = some y → p y = true → v + 1 ≤ l.countP p
  | [], v, y, _, h, _ => by simp at h
  | x :: r, 0, y, _, h, hy => by
    simp at h; subst h
    rw [List.countP_cons, if_pos hy]; omega
  | x :: r, v + 1, y, hs, h, hy => by
    rw [List.pairwise_cons] at hs
    have h' : r[v]? = some y := by simpa using h
    have hx : p x = true := hp _ _ (hs.1 y (List.mem_of_getElem? h')) hy
    have := count_lo hp r v y hs.2 h' hy
    rw [List.countP_cons, if_pos hx]; omega
theorem count_hi {p : Str → Bool} (hp : ∀ x y, LeS x y → p y = true → p x = true) : ∀ (l : List Str) (u : Nat) (y : Str), l.Pairwise LeS → l[u]? = some y → p y = false → l.countP p ≤ u
  | [], u, y, _, h, _ => by simp at h
  | x :: r, 0, y, hs, h, hy => by
    simp at h; subst h
    rw [List.pairwise_cons] at hs
    rw [List.countP_eq_zero.mpr]
    · exact Nat.le_refl _
    · intro z hz hpz
      rcases List.mem_cons.mp hz with rfl | hz
      · rw [hy] at hpz; cases hpz
      · rw [hp _ _ (hs.1 z hz) hpz] at hy; cases hy
  | x :: r, u + 1, y, hs, h, hy => by
    rw [List.pairwise_cons] at hs
    have := count_hi hp r u y hs.2 (by simpa using h) hy
    rw [List.countP_cons]; split <;> omega
theorem countP_strand (p : Str → Bool) (ss : List Str) (k c : Nat) : (strand ss k c).countP p = (List.range ss.length).countP fun i => (i % k == c) && p (gx ss i) := by
  unfold strand idx
  rw [List.countP_map, List.countP_filter]
  congr 1
  funext i
  simp only [Function.comp, Bool.and_comm]
theorem count_head : ∀ k, k < 6 → 1 ≤ k → ∀ h, h < 6 → ∀ i, i < 8 → (List.range h).countP (fun p => p % k == (i + h) % k) + i / k ≤ (i + h) / k := by decide +kernel
theorem countP_le {α : Type} {p q : α → Bool} : ∀ (l : List α), (∀ x ∈ l, p x = true → q x = true) → l.countP p ≤ l.countP q
  | [], _ => by simp
  | x :: r, h => by
    have := countP_le r (fun y hy => h y (.tail _ hy))
    rw [List.countP_cons, List.countP_cons]
    split
    · rename_i hp; rw [if_pos (h x (.head _) hp)]; omega
    · split <;> omega
/-- a pass with k keeps the order at the distance h -/
theorem pass_keeps {ss : List Str} {k h : Nat} (hn : ss.length ≤ 8) (h2 : 2 ≤ k) (h5 : k ≤ 5) (hh : h ≤ 5) (H : HS ss h) : HS (pass ss k) h := by
  intro i hi
  rw [pass_length] at hi
  rw [gx_pass (by omega), gx_pass hi]
  intro hlt
  have hA := cell_at hn h2 h5 (i := i) (by omega)
  have hB := cell_at hn h2 h5 hi
  generalize cellOf ss k i = α at hlt hA
  generalize cellOf ss k (i + h) = β at hlt hB
  let p : Str → Bool := fun x => decide (x.cps.toList < α.cps.toList)
  have hp : ∀ x y, LeS x y → p y = true → p x = true := by
    intro x y hxy hy
    simp only [p, decide_eq_true_eq] at hy ⊢
    rcases Decidable.em (x.cps.toList < α.cps.toList) with q | q
    · exact q
    · exact absurd hy (LeS.trans (x := α) (y := x) (z := y) q hxy)
  have c1 : (i + h) / k + 1 ≤ (strand ss k ((i + h) % k)).countP p := by
    rw [← (sort9_perm _).countP_eq p]
    exact count_lo hp _ _ _ (sort9_sorted _) hB (by simp only [p, decide_eq_true_eq]; exact hlt)
  have c2 : (strand ss k (i % k)).countP p ≤ i / k := by
    rw [← (sort9_perm _).countP_eq p]
    exact count_hi hp _ _ _ (sort9_sorted _) hA (by simp [p])
  rw [countP_strand] at c1 c2
  have hsplit : List.range ss.length = List.range h ++ (List.range (ss.length - h)).map (h + ·) := by
    rw [← List.range_add]; congr 1; omega
  rw [hsplit, List.countP_append, List.countP_map] at c1
  have c3 : (List.range h).countP (fun i_1 => (i_1 % k == (i + h) % k) && p (gx ss i_1)) ≤ (List.range h).countP (fun q => q % k == (i + h) % k) := countP_le _ fun x _ hx => by
    rw [Bool.and_eq_true] at hx; exact hx.1
  have c4 := count_head k (by omega) (by omega) h (by omega) i (by omega)
  have c5 : (List.range (ss.length - h)).countP ((fun i_1 => (i_1 % k == (i + h) % k) && p (gx ss i_1)) ∘ (h + ·)) ≤ (List.range (ss.length - h)).countP (fun q => (q % k == i % k) && p (gx ss q)) := countP_le _ fun x hx hq => by
    simp only [Function.comp, Bool.and_eq_true, beq_iff_eq] at hq ⊢
    have hxl := List.mem_range.mp hx
    refine ⟨?_, ?_⟩
    · have e : (x + h) % k = (i + h) % k := by rw [Nat.add_comm x h]; exact hq.1
      have hk : k = 2 ∨ k = 3 ∨ k = 4 ∨ k = 5 := by omega
      clear c1 c2 c3 c4 hsplit H hp hq hA hB
      rcases hk with rfl | rfl | rfl | rfl <;> omega
    · refine hp _ _ ?_ hq.2
      rw [Nat.add_comm h x]
      exact H x (by omega)
  have c6 : (List.range (ss.length - h)).countP (fun q => (q % k == i % k) && p (gx ss q)) ≤ (List.range ss.length).countP (fun q => (q % k == i % k) && p (gx ss q)) := by
    have e : List.range ss.length = List.range (ss.length - h) ++ (List.range h).map ((ss.length - h) + ·) := by
      rw [← List.range_add]; congr 1; omega
    rw [e, List.countP_append]; omega
  omega
/-- a pass with k puts the list in order at the distance k -/
theorem pass_sorts {ss : List Str} {k : Nat} (hn : ss.length ≤ 8) (h2 : 2 ≤ k) (h5 : k ≤ 5) : HS (pass ss k) k := by
  intro i hi
  rw [pass_length] at hi
  rw [gx_pass (by omega), gx_pass hi]
  have hA := cell_at hn h2 h5 (i := i) (by omega)
  have hB := cell_at hn h2 h5 hi
  rw [Nat.add_mod_right, Nat.add_div_right _ (by omega)] at hB
  have hs := sort9_sorted (strand ss k (i % k))
  generalize sort9 (strand ss k (i % k)) = l at hA hB hs
  obtain ⟨hA1, hA2⟩ := List.getElem?_eq_some_iff.mp hA
  obtain ⟨hB1, hB2⟩ := List.getElem?_eq_some_iff.mp hB
  rw [← hA2, ← hB2]
  exact List.pairwise_iff_getElem.mp hs _ _ hA1 hB1 (by omega)

-- CellA
theorem rsCellA : True := by
  w_top off
  trivial
/-- what the loop over a cell's name wants behind its range -/
def CellSrcA (prog : Program) (w : World) (A : Around) (h₀ : Heap) (env : Env) (body : List Stmt) (Q : Flow → Shared → Prop) (E : Value → Shared → Prop) (c : Addr) (a hi : Int) (n : Nat) (J : Nat → (Str → Option Value) → List (Addr × Obj) → Prop) (xv : Value) (s₁ : Shared) : Prop :=
  ∃ (r : Addr) (t₀ u₀ v₀ : Tok) (m₀ : Str → Option Value) (news : List (Addr × Obj)), xv = .ref r ∧ A.handled = none ∧ IsRange s₁.heap r a hi 1 t₀ u₀ v₀ ∧ Builtin.Range.rangeSize a hi 1 = (n : Int) ∧ Builtin.Range.small a hi 1 = true ∧
      Fr h₀ env.locals s₁.heap m₀ ∧ News h₀ env.locals s₁.heap news ∧ JC J c 0 m₀ news ∧
      (∀ (i : Nat) (t : Tok) m₁ nx h tk own oc, i < n → OwnOff own (((c, oc) :: nx).map (·.1)) → oc.data = .cell (some (.int (a + (i : Int)) t)) → (∀ p ∈ nx, p.1 ≠ c) → J i m₁ nx → Fr h₀ env.locals h m₁ → News h₀ env.locals h ((c, oc) :: (nx ++ own)) →
        wpAny (model prog w) A (execs body env) (InvPostG h₀ env.locals (JC J c (i + 1)) own { s₁ with heap := h, toks := tk } Q) E { s₁ with heap := h, toks := tk }) ∧
      (∀ m₁ nx h tk oc vc, oc.data = .cell vc → (∀ p ∈ nx, p.1 ≠ c) → J n m₁ nx → Fr h₀ env.locals h m₁ → News h₀ env.locals h ((c, oc) :: nx) → Q .next { s₁ with heap := h, toks := tk })
section
variable {prog : Program} {w : World} {A : Around} {E : Value → Shared → Prop} {s : Shared} {env : Env} {h₀ : Heap} {x : Str} {body : List Stmt} {Q : Flow → Shared → Prop}
/-- a for over range(n) whose name is a cell -/
theorem For_cellA {c : Addr} {px pos : Pos} {iter : Expr} {a hi : Int} {n : Nat} (J : Nat → (Str → Option Value) → List (Addr × Obj) → Prop)
    (hk : env.scope.kind = .function) (hx : env.kindOf x = some .cell) (hc : env.cells.lookup x = some c)
    (h : wpAny (model prog w) A (eval iter env) (CellSrcA prog w A h₀ env body Q E c a hi n J) E s)
    (hs : ∀ x, foldedSetIterable iter env x = pure x := by intro _; rfl)
    (hE : PassesOwn (model prog w) A env E := by passes_own) :
    wpAny (model prog w) A (exec (.For (.Name x px) iter body [] pos) env) Q E s := by
  refine wpAny_For (wpAny_mono h (fun xv s₁ h₁ => ?_) fun _ _ e => e) hs
  obtain ⟨r, t₀, u₀, v₀, m₀, news, rfl, hh, hr, hn, hb, F, N, hj, turn, done⟩ := h₁
  refine wpAny_pyIter_range hr hb ?_
  have W := LCg.range_walks (prog := prog) (w := w) (I := s₁.heap.objs.size) hh a n
  have hI0 : h₀.get? s₁.heap.objs.size = none := next_is_new F
  have hLI : env.locals ≠ s₁.heap.objs.size := Nat.ne_of_lt F.ns.lt
  refine codeAny_forLoop
    (fun k s' => ∃ h' tk m' nx i, s' = { s₁ with heap := h', toks := tk } ∧ IsRangeIter h' s₁.heap.objs.size (a + (i : Nat) * 1) ((n : Int) - (i : Nat)) 1 ∧ Fr h₀ env.locals h' m' ∧ News h₀ env.locals h' nx ∧ (∀ p ∈ nx, p.1 ≠ s₁.heap.objs.size) ∧ JC J c i m' nx ∧ i ≤ n ∧ k = n + 1 - i) ?_ (n + 1)
    ⟨_, s₁.toks, m₀, news, 0, rfl, ?_, F.push _, (fun p hp => ⟨Heap.get?_push_of_some _ (N p hp).1, (N p hp).2⟩), (fun p hp => Nat.ne_of_lt (Heap.lt_size (N p hp).1)), hj, Nat.zero_le _, rfl⟩
  · rintro k s' ⟨h', tk, m', nx, i, rfl, hst, F', N', hoffI, hJ, hi, rfl⟩
    have next : ∀ h₂ : Heap, (∀ b o, b ∉ [s₁.heap.objs.size] → h'.get? b = some o → h₂.get? b = some o) → Fr h₀ env.locals h₂ m' ∧ News h₀ env.locals h₂ nx := fun h₂ hk₂ =>
      ⟨LCg.fr_but F' hk₂ hLI hI0, LCg.news_but N' hk₂ hoffI⟩
    by_cases hlt : i < n
    · refine W.item i _ _ _ hlt hst fun v h₂ tk₂ hP hst₂ hk₂ => ?_
      obtain ⟨t, rfl⟩ := hP
      obtain ⟨F₂, N₂⟩ := next h₂ hk₂
      obtain ⟨oc, vc, nx', rfl, hoc, hnc, hJ'⟩ := hJ
      have hcI : c ≠ s₁.heap.objs.size := hoffI (c, oc) (.head _)
      have zc := N₂ (c, oc) (.head _)
      refine wpAny_assign_Name (wpAny_storeName_cell hk hx hc ⟨oc, zc.1, hoc⟩ fun h₃ hv₃ hs₃ => ?_)
      obtain ⟨oc', ho', hd'⟩ := hv₃
      have F₃ : Fr h₀ env.locals h₃ m' := F₂.change hs₃ zc.2.1 zc.2.2
      have hst₃ : IsRangeIter h₃ s₁.heap.objs.size (a + ((i + 1 : Nat) : Int) * 1) ((n : Int) - ((i + 1 : Nat) : Int)) 1 := W.frame _ _ _ hst₂ fun b hb o e => hs₃.extBut b o (fun q => hcI (by rw [← q]; exact List.mem_singleton.mp hb)) e
      obtain ⟨oI, hIm, hIs⟩ : ∃ oI, h₃.get? s₁.heap.objs.size = some oI ∧ ∀ h : Heap, h.get? s₁.heap.objs.size = some oI → IsRangeIter h s₁.heap.objs.size (a + ((i + 1 : Nat) : Int) * 1) ((n : Int) - ((i + 1 : Nat) : Int)) 1 := ⟨_, hst₃, fun h e => e⟩
      have hI : News h₀ env.locals h₃ [(s₁.heap.objs.size, oI)] := fun p hp => by rw [List.mem_singleton.mp hp]; exact ⟨hIm, Ne.symm hLI, hI0⟩
      have hoff : OwnOff [(s₁.heap.objs.size, oI)] (((c, oc') :: nx').map (·.1)) := by
        intro p hp b hb e
        rw [List.mem_singleton.mp hp] at e
        rcases List.mem_cons.mp hb with hb | hb
        · exact hcI (hb.symm.trans e.symm)
        · obtain ⟨q, hq, rfl⟩ := List.mem_map.mp hb
          exact hoffI q (.tail _ hq) e.symm
      refine wpAny_passesOwn hE (wpAny_mono (turn i t m' nx' h₃ _ [(s₁.heap.objs.size, oI)] oc' hlt hoff hd' hnc hJ' F₃ ?_) (fun f s₃ p => ?_) fun _ _ e => e)
      · intro p hp
        rcases List.mem_cons.mp hp with rfl | hp
        · exact ⟨ho', zc.2⟩
        · rcases List.mem_append.mp hp with hp | hp
          · have z := N₂ p (.tail _ hp)
            exact ⟨(hs₃.2 _ (hnc p hp)).trans z.1, z.2⟩
          · exact hI p hp
      · have fin : InvEndG h₀ env.locals (JC J c (i + 1)) [(s₁.heap.objs.size, oI)] { s₁ with heap := h₃, toks := tk₂ } s₃ → ∃ m, m < n + 1 - i ∧ ∃ h' tk m' nx i, s₃ = { s₁ with heap := h', toks := tk } ∧ IsRangeIter h' s₁.heap.objs.size (a + (i : Nat) * 1) ((n : Int) - (i : Nat)) 1 ∧ Fr h₀ env.locals h' m' ∧ News h₀ env.locals h' nx ∧ (∀ p ∈ nx, p.1 ≠ s₁.heap.objs.size) ∧ JC J c i m' nx ∧ i ≤ n ∧ m = n + 1 - i := by
          rintro ⟨h4, tk4, m4, news4, nx4, e, F4, N4, hn4, ho4, ha4, hj4⟩
          refine ⟨n + 1 - (i + 1), by omega, h4, tk4, m4, nx4, i + 1, e, ?_, F4, fun p hp => N4 p (hn4 p hp), fun p hp q => ?_, hj4, hlt, rfl⟩
          · exact hIs _ (N4 _ (ho4 _ (.head _))).1
          · exact ha4 _ (.head _) p.1 (List.mem_map.mpr ⟨p, hp, rfl⟩) q.symm
        cases f with
        | ret v => exact p
        | brk => exact p
        | next => exact fin p
        | cont => exact fin p
    · obtain rfl : i = n := by omega
      refine W.done _ _ _ hst fun h₂ tk₂ hk₂ => wpAny_execs_nil ?_
      obtain ⟨F₂, N₂⟩ := next h₂ hk₂
      obtain ⟨oc, vc, nx', rfl, hoc, hnc, hJ'⟩ := hJ
      exact done m' nx' h₂ tk₂ oc vc hoc hnc hJ' F₂ N₂
  · show IsRangeIter _ _ _ _ _
    rw [hn]
    simpa using Heap.get?_push_size _ rfl
theorem CellSrcA.mk {E : Value → Shared → Prop} {c r : Addr} {a hi : Int} {n : Nat} {J : Nat → (Str → Option Value) → List (Addr × Obj) → Prop} {s₁ : Shared} {t₀ u₀ v₀ : Tok} {m₀ : Str → Option Value} {all nx : List (Addr × Obj)} {oc : Obj} {vc : Option Value}
    (hh : A.handled = none) (hr : IsRange s₁.heap r a hi 1 t₀ u₀ v₀) (hz : Builtin.Range.rangeSize a hi 1 = (n : Int)) (hb : Builtin.Range.small a hi 1 = true) (F : Fr h₀ env.locals s₁.heap m₀) (N : News h₀ env.locals s₁.heap all) (hm : (c, oc) ∈ all) (hsub : ∀ p ∈ nx, p ∈ all) (hoc : oc.data = .cell vc) (hnc : ∀ p ∈ nx, p.1 ≠ c) (hj : J 0 m₀ nx)
    (turn : ∀ (i : Nat) (t : Tok) m₁ nx h tk own oc, i < n → OwnOff own (((c, oc) :: nx).map (·.1)) → oc.data = .cell (some (.int (a + (i : Int)) t)) → (∀ p ∈ nx, p.1 ≠ c) → J i m₁ nx → Fr h₀ env.locals h m₁ → News h₀ env.locals h ((c, oc) :: (nx ++ own)) →
        wpAny (model prog w) A (execs body env) (InvPostG h₀ env.locals (JC J c (i + 1)) own { s₁ with heap := h, toks := tk } Q) E { s₁ with heap := h, toks := tk })
    (done : ∀ m₁ nx h tk oc vc, oc.data = .cell vc → (∀ p ∈ nx, p.1 ≠ c) → J n m₁ nx → Fr h₀ env.locals h m₁ → News h₀ env.locals h ((c, oc) :: nx) → Q .next { s₁ with heap := h, toks := tk }) :
    CellSrcA prog w A h₀ env body Q E c a hi n J (.ref r) s₁ := by
  refine ⟨r, t₀, u₀, v₀, m₀, (c, oc) :: nx, rfl, hh, hr, hz, hb, F, fun p hp => N p ?_, ⟨oc, vc, nx, rfl, hoc, hnc, hj⟩, turn, done⟩
  rcases List.mem_cons.mp hp with rfl | hp
  · exact hm
  · exact hsub p hp
end

-- Toks9
theorem rsToks9 : True := by
  w_top off
  trivial
section
variable {prog : Program} {w : World} {A : Around} {E : Value → Shared → Prop} {s : Shared} {x y : Str} {t u : Tok} {K L : Nat} {Q : Value → Shared → Prop}
theorem add_tk (hn : 1 ≤ s.toks) (hx : x.length ≤ K) (hy : y.length ≤ L) (hs : K + L ≤ 16777216) (h : ∀ t' k, x.length + y.length ≤ (x ++ y).length ∧ (x ++ y).length ≤ x.length + y.length → 1 ≤ k → Q (.str (x ++ y) t') { s with toks := k }) : wpAny (model prog w) A (binaryOp .Add (.str x t) (.str y u)) Q E s :=
  wpAny_with_toks hn (KXadd.add hx hy hs fun t' k hl hk => h t' k hl hk)
theorem gen_toks1 {α : Type} {M : Model} {c : Sem α} {Q : α → Shared → Prop} {hp : Heap} {gs : Array GenState} {dr : Drawn} {X : Nat} {os : OsState} (h : ∀ tk, 1 ≤ tk → wpAny M A c Q E ⟨hp, gs, dr, tk, os⟩) : wpAny M A c Q E ⟨hp, gs, dr, X + 1, os⟩ := h _ (Nat.le_add_left _ _)
theorem len_replace (x y z : Str) : (Txt.replace x y z).length ≤ x.length + (x.length + 1) * z.length := by
  unfold Txt.replace
  split
  · omega
  · have h1 := StrLaws.occ_length_le x y 0 x.length (x.length + 1)
    have hy : (Builtin.Str.glued y (Builtin.Str.partsBetween x (Builtin.Str.occurrences x y 0 x.length (x.length + 1)) y.length)).length = x.length := by rw [StrLaws.glued_between_self]
    rw [size_glued, length_partsBetween, Nat.add_sub_cancel] at hy
    rw [size_glued, length_partsBetween, Nat.add_sub_cancel]
    have h2 : (Builtin.Str.occurrences x y 0 x.length (x.length + 1)).length * z.length ≤ (x.length + 1) * z.length := Nat.mul_le_mul_right _ h1
    omega
theorem replace_tk {z : Str} {v : Tok} {K M : Nat} (hu : @LE.le Nat _ 1 u) (hv : v = u + 1) (hyz : (y == z) = false) (hx : x.length ≤ K) (hz : z.length ≤ M) (hK : K ≤ 1000000 ∧ M ≤ 14)
    (hq : ∀ t' k, (Txt.replace x y z).length ≤ K + (K + 1) * M → 1 ≤ k → Q (.str (Txt.replace x y z) t') { s with toks := k }) (hn : 1 ≤ s.toks) : wpAny (model prog w) A (call (.builtin "str.replace") [.str x t, .str y u, .str z v]) Q E s := by
  refine wpAny_with_toks hn (SC.replaceW ?_ ?_ ?_ hyz (by omega) (by omega) fun t' k hk => hq t' k ?_ hk)
  · show @Ne Nat u 0
    omega
  · subst hv; show @Ne Nat _ 0; omega
  · subst hv; show @Ne Nat _ _; omega
  · have h1 := len_replace x y z
    have h2 : (x.length + 1) * z.length ≤ (K + 1) * M := Nat.mul_le_mul (by omega) hz
    omega
end
local macro_rules | `(tactic| walk_at "call builtin:str.replace") => `(tactic| (k_here; refine' replace_tk ?a ?b ?c ?d ?e ?f ?_ ?g; (case a => assumption); (case b => with_reducible rfl); (case c => decide); (case d => kt_len); (case e => kt_len); (case f => exact ⟨Nat.le_of_ble_eq_true rfl, Nat.le_of_ble_eq_true rfl⟩); (case g => first | exact Nat.le_add_left _ _ | assumption); intro _ _ hL9 _; (try simp only [Nat.reduceAdd, Nat.reduceMul] at hL9)))
local macro_rules | `(tactic| walk_at "execs cons") => `(tactic| (k_here; (with_reducible refine gen_toks1 ?_); intro tk9 htk9))
local macro_rules | `(tactic| walk_at "binaryOp Add str str") => `(tactic| (k_here; (with_reducible show wpAny _ _ (binaryOp Operator.Add (Value.str _ _) (Value.str _ _)) _ _ _); (refine' add_tk ?kxt ?kxaa ?kxab ?kxac ?_; (case kxt => first | assumption | exact Nat.le_add_left _ _ | omega | (dsimp only; omega)); (case kxaa => kt_len); (case kxab => kt_len); (case kxac => exact Nat.le_of_ble_eq_true rfl)); intro _ _ _ _))

-- Reply
theorem rsReply : True := by
  w_top off
  trivial
theorem fillK5 : ((PySem.Challenge.rw_xn0024_01, hd.heap_39) : OpenLaw × (Params → Frag)).1 = PySem.Challenge.rw_xn0024_01 := by
  k_fill
  rfl
@[reducible] def nm (a b : Int) : Str := Txt.item (Str.ofString "aB\"&<>\t\n\r") a ++ Txt.item (Str.ofString "aB\"&<>\t\n\r") b
def rep (a b k : Int) : Str :=
  if k = 6 then Str.ofString "257 is " ++ nm a b
  else (if k = 7 then Str.ofString "250" else Str.ofString "257") ++ Str.ofString " \"" ++ Txt.replace (nm a b) (Str.ofString "\"") (Str.ofString "\"\"") ++ (if k = 4 then Str.ofString "\"" else if k = 5 then Str.ofString "" else Str.ofString "\" is \"here\"")
theorem rep6 {a b k : Int} (h : k = 6) : Str.ofString "257 is " ++ nm a b = rep a b k := by unfold rep; rw [if_pos h]
theorem rep7 {a b k : Int} (h : k = 7) (h4 : k ≠ 4) (h5 : k ≠ 5) : Str.ofString "250" ++ Str.ofString " \"" ++ Txt.replace (nm a b) (Str.ofString "\"") (Str.ofString "\"\"") ++ Str.ofString "\" is \"here\"" = rep a b k := by
  unfold rep; rw [if_neg (by omega), if_pos h, if_neg h4, if_neg h5]
theorem rep4 {a b k : Int} (h : k = 4) : Str.ofString "257" ++ Str.ofString " \"" ++ Txt.replace (nm a b) (Str.ofString "\"") (Str.ofString "\"\"") ++ Str.ofString "\"" = rep a b k := by
  unfold rep; rw [if_neg (by omega), if_neg (by omega), if_pos h]
theorem rep5 {a b k : Int} (h : k = 5) : Str.ofString "257" ++ Str.ofString " \"" ++ Txt.replace (nm a b) (Str.ofString "\"") (Str.ofString "\"\"") ++ Str.ofString "" = rep a b k := by
  unfold rep; rw [if_neg (by omega), if_neg (by omega), if_neg (by omega), if_pos h]
theorem rep0 {a b k : Int} (h6 : k ≠ 6) (h7 : k ≠ 7) (h4 : k ≠ 4) (h5 : k ≠ 5) : Str.ofString "257" ++ Str.ofString " \"" ++ Txt.replace (nm a b) (Str.ofString "\"") (Str.ofString "\"\"") ++ Str.ofString "\" is \"here\"" = rep a b k := by
  unfold rep; rw [if_neg h6, if_neg h7, if_neg h4, if_neg h5]
theorem repN {k i j : Int} {x y : Str} (h1 : k = i) (h2 : k = j) (h : i ≠ j) : x = y := absurd (h1.symm.trans h2) h
theorem reply_row {w : World} {gd : Option (List Code)} {cn : Str} {cs : Scope} {a : Addr} {ccd : Value} {cl : List (Str × Addr)} {outer : List Env} {A₀ : Around} {base h₀ : Heap} {L : Addr} {m : Str → Option Value} {s : Shared} {Q E : Value → Shared → Prop}
    {mean : ExcName → Option Value} {mg mb : Str → Option Value} {loose : List Str} {x : Int} {t : Tok}
    (B : Below A₀ base outer h₀) (F : Fr h₀ L s.heap m) (X : (hd.heap_39 w.params).In h₀) (T : Top view loose mean mg mb h₀) (hk : cs.kind = .function)
    (hret : ∀ t h' tk, s.heap.StaysIn h' → Q (.str (rep (x.fmod 9) ((x.fdiv 9).fmod 9) ((x.fdiv 81).fmod 8)) t) { s with heap := h', toks := tk }) :
    wpAny (model PySem.Challenge.rw_xn0024_01.row.prog w) (ktrTop 302 7 gd cn cs L a ccd cl outer) (call (.ref 317) [.int x t]) Q E s := by
  (refine wpAny_call ?_; k_dflt (refine' enter0 (binds := [(Str.ofString "x", Value.int x t)]) ?k1 ?k2 ?k3 ?k5 ?kA ?kF ?kK ?k6 ?k7 ?k8 ?k9 ?kB ?_ ?c2 ?c3 ?c4 ?c5; (case kA => exact rfl); (case kF => exact rfl); (case kK => assumption); (case k1 => k_asm); (case k2 => k_asm); (case k3 => k_asm); (case k5 => k_asm); (case k6 => k_is); (case k7 => k_is); (case k8 => ktr_room); (case k9 => first | exact BindsTo.of_eq rfl | exact binds_K (by k_in) rfl (by k_is) rfl rfl rfl); (case c5 => decide); (case kB => exact locs rfl); (case c2 => exact rfl); (case c3 => exact rfl); (case c4 => exact rfl); k_whole); walk_at "m_in")
  walk_at "m_steps"
  all_goals (try dsimp only)
  all_goals (try k_fold)
  all_goals walk_at "m_steps"
  all_goals (rename (_ = s.heap) => hg'; subst hg')
  all_goals rename Fr _ _ _ _ => F9
  all_goals refine cast (congrArg (fun z => Q (Value.str z _) _) ?_) (hret _ _ _ (fun b o e => F9.keep b o e))
  all_goals refine Eq.symm ?_
  all_goals with_reducible first
    | exact rep6 (by assumption)
    | exact rep7 (by assumption) (by assumption) (by assumption)
    | exact rep0 (by assumption) (by assumption) (by assumption) (by assumption)
    | (rename (_ = (7 : Int)) => h1; first | (rename (_ = (4 : Int)) => h2; exact repN h1 h2 (by decide)) | (rename (_ = (5 : Int)) => h2; exact repN h1 h2 (by decide)))
    | exact rep4 (by assumption)
    | exact rep5 (by assumption)

-- Esc
local macro_rules | `(tactic| walk_at "m_to_if") => `(tactic| (repeat' (first | (k_unfold; (try dsimp only)) | (walk_at "m_go"; (fail_if_success (with_reducible show wpAny _ _ (exec (Stmt.If _ _ _ _) _) _ _ _)); first | walk1 | (dsimp only; walk1)) | fail "no step")))
theorem rsEsc : True := by
  w_top off
  trivial
theorem fillK6 : ((PySem.Challenge.rw_xn0024_01, hd.heap_39) : OpenLaw × (Params → Frag)).1 = PySem.Challenge.rw_xn0024_01 := by
  k_fill
  rfl
def rp (x o n : Str) : Str := if (Builtin.Str.occurrences x o 0 x.length 1).isEmpty = true then x else Txt.replace x o n
theorem rp_yes {x o n : Str} (h : (Builtin.Str.occurrences x o 0 x.length 1).isEmpty = true) : rp x o n = x := by unfold rp; rw [if_pos h]
theorem rp_no {x o n : Str} (h : (Builtin.Str.occurrences x o 0 x.length 1).isEmpty = false) : rp x o n = Txt.replace x o n := by unfold rp; rw [h, if_neg (by decide)]
theorem rp_len {x o n : Str} {K M : Nat} (hx : x.length ≤ K) (hn : n.length ≤ M) : (rp x o n).length ≤ K + (K + 1) * M := by
  have h := len_replace x o n
  have h2 : (x.length + 1) * n.length ≤ (K + 1) * M := Nat.mul_le_mul (by omega) hn
  unfold rp
  split <;> omega
def esc (x : Str) : Str := rp (rp (rp (rp (rp (rp x (Str.ofString "&") (Str.ofString "&amp;")) (Str.ofString "<") (Str.ofString "&lt;")) (Str.ofString "\"") (Str.ofString "&quot;")) (Str.ofString "\t") (Str.ofString "&#x9;")) (Str.ofString "\n") (Str.ofString "&#xA;")) (Str.ofString "\r") (Str.ofString "&#xD;")
theorem st_join {M : Model} {A : Around} {E : Value → Shared → Prop} {s : Shared} {h₀ : Heap} {L : Addr} {tree : Sem Flow} {Q : Flow → Shared → Prop} {m : Str → Option Value} (_F : Fr h₀ L s.heap m) (x : Str)
    (h1 : ∀ Q' : Flow → Shared → Prop, (∀ m' t' h' tk', Fr h₀ L h' m' → m' "text" = some (.str x t') → News h₀ L h' [] → Q' .next { s with heap := h', toks := tk' }) → wpAny M A tree Q' E s)
    (h2 : ∀ m' t' h' tk', Fr h₀ L h' m' → m' "text" = some (.str x t') → News h₀ L h' [] → Q .next { s with heap := h', toks := tk' }) : wpAny M A tree Q E s := h1 Q h2
theorem esc_row {w : World} {gd : Option (List Code)} {cn : Str} {cs : Scope} {a : Addr} {ccd : Value} {cl : List (Str × Addr)} {outer : List Env} {A₀ : Around} {base h₀ : Heap} {L : Addr} {m : Str → Option Value} {s : Shared} {Q E : Value → Shared → Prop}
    {mean : ExcName → Option Value} {mg mb : Str → Option Value} {loose : List Str} {x : Str} {t : Tok}
    (B : Below A₀ base outer h₀) (F : Fr h₀ L s.heap m) (X : (hd.heap_39 w.params).In h₀) (T : Top view loose mean mg mb h₀) (hk : cs.kind = .function)
    (hx : x.length ≤ 4)
    (hret : ∀ t h' tk, s.heap.StaysIn h' → Q (.str (esc x) t) { s with heap := h', toks := tk }) :
    wpAny (model PySem.Challenge.rw_xn0024_01.row.prog w) (ktrTop 303 10 gd cn cs L a ccd cl outer) (call (.ref 130) [.str x t]) Q E s := by
  (refine wpAny_call ?_; k_dflt (refine' enter0 (binds := [(Str.ofString "text", Value.str x t)]) ?k1 ?k2 ?k3 ?k5 ?kA ?kF ?kK ?k6 ?k7 ?k8 ?k9 ?kB ?_ ?c2 ?c3 ?c4 ?c5; (case kA => exact rfl); (case kF => exact rfl); (case kK => assumption); (case k1 => k_asm); (case k2 => k_asm); (case k3 => k_asm); (case k5 => k_asm); (case k6 => k_is); (case k7 => k_is); (case k8 => ktr_room); (case k9 => first | exact BindsTo.of_eq rfl | exact binds_K (by k_in) rfl (by k_is) rfl rfl rfl); (case c5 => decide); (case kB => exact locs rfl); (case c2 => exact rfl); (case c3 => exact rfl); (case c4 => exact rfl); k_whole); walk_at "m_in")
  rename (_ = s.heap) => hg'
  subst hg'
  unfold esc at hret
  walk_at "m_to_if"
  walk_at "m_names"
  refine st_join F9 (rp x (Str.ofString "&") (Str.ofString "&amp;")) ?_ ?_
  · intro Q' hQ
    walk_at "m_steps"
    · walk_at "m_names"
      rename (List.isEmpty _ = true) => hb
      exact hQ _ _ _ _ F9 (by rw [rp_yes hb]; with_unfolding_all rfl) N9
    · walk_at "m_names"
      rename (List.isEmpty _ = false) => hb
      exact hQ _ _ _ _ F9 (by rw [rp_no hb]; with_unfolding_all rfl) N9
  clear F9 N9
  intro m2 t2 h2 tk2 F2 hm2 N2
  have hl2 : (rp x (Str.ofString "&") (Str.ofString "&amp;")).length ≤ 34 := rp_len (K := 4) (M := 6) hx (by decide)
  generalize (rp x (Str.ofString "&") (Str.ofString "&amp;")) = x1 at hm2 hl2 hret
  replace F2 := Fr.at (x := "text") F2 hm2
  clear hm2 hx
  rename (x1.length ≤ _) => hy1
  (try dsimp only)
  walk_at "m_to_if"
  walk_at "m_names"
  refine st_join F9 (rp x1 (Str.ofString "<") (Str.ofString "&lt;")) ?_ ?_
  · intro Q' hQ
    walk_at "m_steps"
    · walk_at "m_names"
      rename (List.isEmpty _ = true) => hb
      exact hQ _ _ _ _ F9 (by rw [rp_yes hb]; with_unfolding_all rfl) N9
    · walk_at "m_names"
      rename (List.isEmpty _ = false) => hb
      exact hQ _ _ _ _ F9 (by rw [rp_no hb]; with_unfolding_all rfl) N9
  clear F9 N9
  intro m2 t2 h2 tk2 F2 hm2 N2
  have hl2 : (rp x1 (Str.ofString "<") (Str.ofString "&lt;")).length ≤ 244 := rp_len (K := 34) (M := 6) hy1 (by decide)
  generalize (rp x1 (Str.ofString "<") (Str.ofString "&lt;")) = x2 at hm2 hl2 hret
  replace F2 := Fr.at (x := "text") F2 hm2
  clear hm2 hy1
  rename (x2.length ≤ _) => hy2
  (try dsimp only)
  walk_at "m_to_if"
  walk_at "m_names"
  refine st_join F9 (rp x2 (Str.ofString "\"") (Str.ofString "&quot;")) ?_ ?_
  · intro Q' hQ
    walk_at "m_steps"
    · walk_at "m_names"
      rename (List.isEmpty _ = true) => hb
      exact hQ _ _ _ _ F9 (by rw [rp_yes hb]; with_unfolding_all rfl) N9
    · walk_at "m_names"
      rename (List.isEmpty _ = false) => hb
      exact hQ _ _ _ _ F9 (by rw [rp_no hb]; with_unfolding_all rfl) N9
  clear F9 N9
  intro m2 t2 h2 tk2 F2 hm2 N2
  have hl2 : (rp x2 (Str.ofString "\"") (Str.ofString "&quot;")).length ≤ 1714 := rp_len (K := 244) (M := 6) hy2 (by decide)
  generalize (rp x2 (Str.ofString "\"") (Str.ofString "&quot;")) = x3 at hm2 hl2 hret
  replace F2 := Fr.at (x := "text") F2 hm2
  clear hm2 hy2
  rename (x3.length ≤ _) => hy3
  (try dsimp only)
  walk_at "m_to_if"
  walk_at "m_names"
  refine st_join F9 (rp x3 (Str.ofString "\t") (Str.ofString "&#x9;")) ?_ ?_
  · intro Q' hQ
    walk_at "m_steps"
    · walk_at "m_names"
      rename (List.isEmpty _ = true) => hb
      exact hQ _ _ _ _ F9 (by rw [rp_yes hb]; with_unfolding_all rfl) N9
    · walk_at "m_names"
      rename (List.isEmpty _ = false) => hb
      exact hQ _ _ _ _ F9 (by rw [rp_no hb]; with_unfolding_all rfl) N9
  clear F9 N9
  intro m2 t2 h2 tk2 F2 hm2 N2
  have hl2 : (rp x3 (Str.ofString "\t") (Str.ofString "&#x9;")).length ≤ 12004 := rp_len (K := 1714) (M := 6) hy3 (by decide)
  generalize (rp x3 (Str.ofString "\t") (Str.ofString "&#x9;")) = x4 at hm2 hl2 hret
  replace F2 := Fr.at (x := "text") F2 hm2
  clear hm2 hy3
  rename (x4.length ≤ _) => hy4
  (try dsimp only)
  walk_at "m_to_if"
  walk_at "m_names"
  refine st_join F9 (rp x4 (Str.ofString "\n") (Str.ofString "&#xA;")) ?_ ?_
  · intro Q' hQ
    walk_at "m_steps"
    · walk_at "m_names"
      rename (List.isEmpty _ = true) => hb
      exact hQ _ _ _ _ F9 (by rw [rp_yes hb]; with_unfolding_all rfl) N9
    · walk_at "m_names"
      rename (List.isEmpty _ = false) => hb
      exact hQ _ _ _ _ F9 (by rw [rp_no hb]; with_unfolding_all rfl) N9
  clear F9 N9
  intro m2 t2 h2 tk2 F2 hm2 N2
  have hl2 : (rp x4 (Str.ofString "\n") (Str.ofString "&#xA;")).length ≤ 84034 := rp_len (K := 12004) (M := 6) hy4 (by decide)
  generalize (rp x4 (Str.ofString "\n") (Str.ofString "&#xA;")) = x5 at hm2 hl2 hret
  replace F2 := Fr.at (x := "text") F2 hm2
  clear hm2 hy4
  rename (x5.length ≤ _) => hy5
  (try dsimp only)
  walk_at "m_to_if"
  walk_at "m_names"
  refine st_join F9 (rp x5 (Str.ofString "\r") (Str.ofString "&#xD;")) ?_ ?_
  · intro Q' hQ
    walk_at "m_steps"
    · walk_at "m_names"
      rename (List.isEmpty _ = true) => hb
      exact hQ _ _ _ _ F9 (by rw [rp_yes hb]; with_unfolding_all rfl) N9
    · walk_at "m_names"
      rename (List.isEmpty _ = false) => hb
      exact hQ _ _ _ _ F9 (by rw [rp_no hb]; with_unfolding_all rfl) N9
  clear F9 N9
  intro m2 t2 h2 tk2 F2 hm2 N2
  have hl2 : (rp x5 (Str.ofString "\r") (Str.ofString "&#xD;")).length ≤ 588244 := rp_len (K := 84034) (M := 6) hy5 (by decide)
  generalize (rp x5 (Str.ofString "\r") (Str.ofString "&#xD;")) = x6 at hm2 hl2 hret
  replace F2 := Fr.at (x := "text") F2 hm2
  clear hm2 hy5
  rename (x6.length ≤ _) => hy6
  (try dsimp only)
  walk_at "m_steps"
  walk_at "m_names"
  exact hret _ _ _ (fun b o e => F9.keep b o e)

-- Parse
theorem rsParse : True := by
  w_top off
  trivial
theorem fillK7 : ((PySem.Challenge.rw_xn0024_01, hd.heap_39) : OpenLaw × (Params → Frag)).1 = PySem.Challenge.rw_xn0024_01 := by
  k_fill
  rfl
noncomputable def pgo (x : Str) : Nat → Nat → Str → Str
  | 0, _, d => d
  | f + 1, k, d => if k < x.length then
      (if Txt.item x (k : Int) == Str.ofString "\"" then
        (if x.length ≤ k + 1 then d else if Txt.item x ((k : Int) + 1) != Str.ofString "\"" then d else pgo x f (k + 2) (d ++ Txt.item x (k : Int)))
      else pgo x f (k + 1) (d ++ Txt.item x (k : Int)))
    else d
theorem pgo_end {x d : Str} {k f : Nat} (h : x.length ≤ k) : pgo x f k d = d := by
  cases f with
  | zero => rfl
  | succ f => unfold pgo; rw [if_neg (by omega)]
theorem pgo_brk1 {x d : Str} {k f : Nat} (hk : k < x.length) (hf : x.length ≤ f + k) (hc : (Txt.item x (k : Int) == Str.ofString "\"") = true) (h : x.length ≤ k + 1) : pgo x f k d = d := by
  cases f with
  | zero => rfl
  | succ f => unfold pgo; rw [if_pos hk, if_pos hc, if_pos h]
theorem pgo_brk2 {x d : Str} {k f : Nat} (hf : x.length ≤ f + k) (hc : (Txt.item x (k : Int) == Str.ofString "\"") = true) (h : k + 1 < x.length) (hd : (Txt.item x ((k : Int) + 1) != Str.ofString "\"") = true) : pgo x f k d = d := by
  cases f with
  | zero => rfl
  | succ f => unfold pgo; rw [if_pos (by omega), if_pos hc, if_neg (by omega), if_pos hd]
theorem pgo_two {x d : Str} {k f : Nat} (hf : x.length ≤ f + k) (hc : (Txt.item x (k : Int) == Str.ofString "\"") = true) (h : k + 1 < x.length) (hd : (Txt.item x ((k : Int) + 1) != Str.ofString "\"") = false) : pgo x (f - 1) (k + 2) (d ++ Txt.item x (k : Int)) = pgo x f k d := by
  cases f with
  | zero => omega
  | succ f => conv => rhs; unfold pgo
              rw [if_pos (show k < x.length by omega), if_pos hc, if_neg (show ¬ x.length ≤ k + 1 by omega), if_neg (by rw [hd]; decide)]
              rfl
theorem pgo_one {x d : Str} {k f : Nat} (hf : x.length ≤ f + k) (hk : k < x.length) (hc : (Txt.item x (k : Int) == Str.ofString "\"") = false) : pgo x (f - 1) (k + 1) (d ++ Txt.item x (k : Int)) = pgo x f k d := by
  cases f with
  | zero => omega
  | succ f => conv => rhs; unfold pgo
              rw [if_pos hk, if_neg (by rw [hc]; decide)]
              rfl
def par (x : Str) : Str := if Txt.slice x (some 3) (some 5) != Str.ofString " \"" then Str.ofString "" else pgo x x.length 5 (Str.ofString "")
def JP (x fin : Str) (nn : Nat) (m : Str → Option Value) (nx : List (Addr × Obj)) : Prop :=
  ∃ (k f : Nat) (d : Str) (t1 t2 t3 t4 : Tok), nn = x.length - k ∧ x.length ≤ f + k ∧ nx = [] ∧ m "i" = some (.int (k : Int) t1) ∧ m "n" = some (.int (x.length : Int) t2) ∧ m "resp" = some (.str x t3) ∧ m "dirname" = some (.str d t4) ∧ d.length ≤ k ∧ pgo x f k d = fin
theorem parse_row {w : World} {gd : Option (List Code)} {cn : Str} {cs : Scope} {a : Addr} {ccd : Value} {cl : List (Str × Addr)} {outer : List Env} {A₀ : Around} {base h₀ : Heap} {L : Addr} {m : Str → Option Value} {s : Shared} {Q E : Value → Shared → Prop}
    {mean : ExcName → Option Value} {mg mb : Str → Option Value} {loose : List Str} {x : Str} {t : Tok}
    (B : Below A₀ base outer h₀) (F : Fr h₀ L s.heap m) (X : (hd.heap_39 w.params).In h₀) (T : Top view loose mean mg mb h₀) (hk : cs.kind = .function)
    (hx : x.length ≤ 40) (h257 : (Txt.slice x none (some 3) != Str.ofString "257") = false)
    (hret : ∀ t h' tk, s.heap.StaysIn h' → Q (.str (par x) t) { s with heap := h', toks := tk }) :
    wpAny (model PySem.Challenge.rw_xn0024_01.row.prog w) (ktrTop 303 10 gd cn cs L a ccd cl outer) (call (.ref 162) [.str x t]) Q E s := by
  (refine wpAny_call ?_; k_dflt (refine' enter0 (binds := [(Str.ofString "resp", Value.str x t)]) ?k1 ?k2 ?k3 ?k5 ?kA ?kF ?kK ?k6 ?k7 ?k8 ?k9 ?kB ?_ ?c2 ?c3 ?c4 ?c5; (case kA => exact rfl); (case kF => exact rfl); (case kK => assumption); (case k1 => k_asm); (case k2 => k_asm); (case k3 => k_asm); (case k5 => k_asm); (case k6 => k_is); (case k7 => k_is); (case k8 => ktr_room); (case k9 => first | exact BindsTo.of_eq rfl | exact binds_K (by k_in) rfl (by k_is) rfl rfl rfl); (case c5 => decide); (case kB => exact locs rfl); (case c2 => exact rfl); (case c3 => exact rfl); (case c4 => exact rfl); k_whole); walk_at "m_in")
  walk_at "m_steps"
  · rename Fr _ _ _ _ => F9
    rename (_ = s.heap) => hg'
    subst hg'
    rename ((Txt.slice x (some 3) (some 5) != _) = true) => hb
    dsimp only
    refine cast (congrArg (fun z => Q (Value.str z _) _) ?_) (hret _ _ _ (fun b o e => F9.keep b o e))
    unfold par
    rw [if_pos hb]
  · walk_at "m_names"
    rename (_ = s.heap) => hg'
    subst hg'
    rename ((Txt.slice x (some 3) (some 5) != _) = false) => hb
    refine While_inv2 (JP x (par x)) F9 N9 (n₀ := x.length - 5) ?_ ?_
    · refine ⟨5, x.length, _, _, _, _, _, rfl, by omega, rfl, by with_unfolding_all rfl, by with_unfolding_all rfl, by with_unfolding_all rfl, by with_unfolding_all rfl, by decide, ?_⟩
      unfold par
      rw [if_neg (by rw [hb]; decide)]
    clear F9 N9
    rintro nn m2 nx h2 tk2 F2 N2 ⟨k, f, d, t1, t2, t3, t4, rfl, hf, rfl, hmi, hmn, hmr, hmd, hdl, hfin⟩
    replace F2 := Fr.ats [("i", .int (k : Int) t1), ("n", .int (x.length : Int) t2), ("resp", .str x t3), ("dirname", .str d t4)] F2 (by walk_at "m_all")
    (try dsimp only)
    (try k_fold)
    walk_at "m_steps"
    · rename ((Txt.item x _ == _) = true) => hc
      rename ((x.length : Int) ≤ _) => h1
      dsimp only [WhileStep2]
      walk_at "m_steps"
      rename Fr _ _ _ _ => F9
      dsimp only
      refine cast (congrArg (fun z => Q (Value.str z _) _) ?_) (hret _ _ _ (fun b o e => F9.keep b o e))
      rw [← hfin]
      exact pgo_brk1 (by omega) hf hc (by omega)
    · rename ((Txt.item x _ == _) = true) => hc
      rename ((Txt.item x _ != _) = true) => hd
      rename (¬ (x.length : Int) ≤ _) => h1
      dsimp only [WhileStep2]
      walk_at "m_steps"
      rename Fr _ _ _ _ => F9
      dsimp only
      refine cast (congrArg (fun z => Q (Value.str z _) _) ?_) (hret _ _ _ (fun b o e => F9.keep b o e))
      rw [← hfin]
      exact pgo_brk2 hf hc (by omega) hd
    · rename ((Txt.item x _ == _) = true) => hc
      rename ((Txt.item x _ != _) = false) => hd
      rename (¬ (x.length : Int) ≤ _) => h1
      walk_at "m_names"
      refine ⟨_, _, _, _, x.length - (k + 2), rfl, F9, N9, by omega, ?_⟩
      refine ⟨k + 2, f - 1, _, _, _, _, _, rfl, by omega, rfl, rfl, rfl, rfl, rfl, by omega, ?_⟩
      rw [← hfin]
      exact pgo_two hf hc (by omega) hd
    · rename ((Txt.item x _ == _) = false) => hc
      walk_at "m_names"
      refine ⟨_, _, _, _, x.length - (k + 1), rfl, F9, N9, by omega, ?_⟩
      refine ⟨k + 1, f - 1, _, _, _, _, _, rfl, by omega, rfl, rfl, rfl, rfl, rfl, by omega, ?_⟩
      rw [← hfin]
      exact pgo_one hf (by omega) hc
    · rename Fr _ _ _ _ => F9
      dsimp only
      refine cast (congrArg (fun z => Q (Value.str z _) _) ?_) (hret _ _ _ (fun b o e => F9.keep b o e))
      rw [← hfin]
      exact pgo_end (by omega)

-- StrE
theorem rsStrE : True := by
  w_top off
  trivial
section
variable {prog : Program} {w : World} {M : Model} {A : Around} {E : Value → Shared → Prop} {s : Shared} {K : Frag} {x C t0 : Addr} {o : Obj} {vs : Array Value}
theorem special_t {name : Str} {id : String} {args : List Value} {Q : Option Value → Shared → Prop} (X : K.In s.heap) (I : Looks (model prog w) s.heap (typeOf (.ref x)) (.ref C)) (hs : findIn K (.ref C) name = some (some (.builtin id)))
    (hb : ∀ self, bindSpecial (.builtin id) self = pure (.builtin id, [self])) (h : wpAny (model prog w) A (call (.builtin id) (.ref x :: args)) (fun v => Q (some v)) E s) : wpAny (model prog w) A (callSpecial? (.ref x) name args) Q E s :=
  wpAny_bind (wpAny_bind (I.here ((looks_findIn X hs).here (wpAny_holding (wpAny_bind ((Looks.of_pure (hb _)).here (wpAny_bind (wpAny_mono h (fun _ _ z => wpAny_pure z) fun _ _ z => z))))))))
open Builtin Builtin.BaseException Builtin.Exceptions in
theorem bexcArgs_o {items : List Value} {Q : Value × List Value → Shared → Prop} (ho : s.heap.get? x = some o) (hd : o.data = .fields vs) (h0 : vs[0]? = some (.ref t0)) (ht : s.heap.TupAt t0 items) (hq : Q (.ref t0, items) s) :
    wpAny M A (bexcArgs (.ref x)) Q E s := by
  obtain ⟨ot, k, hto, _, htd⟩ := ht
  unfold bexcArgs
  refine wpAny_bind (wpAny_field ho hd h0 (wpAny_bind (wpAny_seqItems hto htd ?_)))
  have : items.toArray.toList = items := by simp
  show wpAny M A (pure (Value.ref t0, items.toArray.toList)) Q E s
  rw [this]; exact wpAny_pure hq
open Builtin Builtin.BaseException Builtin.Exceptions in
theorem bexcStr_o {m : Str} {tk : Tok} {Q : Fin → Shared → Prop} (ho : s.heap.get? x = some o) (hd : o.data = .fields vs) (h0 : vs[0]? = some (.ref t0)) (ht : s.heap.TupAt t0 [.str m tk]) (hq : Q (.done (.ret (.str m tk))) s) :
    wpAny (model prog w) A (Builtin.«BaseException.__str__» ⟨[.ref x], []⟩) Q E s := by
  unfold Builtin.«BaseException.__str__»
  repeat (first | with_reducible refine bexcArgs_o ho hd h0 ht ?_ | wp_step)
  exact hq
open Builtin Builtin.Str in
theorem str_own {m : Str} {tk : Tok} {Q : Value → Shared → Prop} (hu : A.in1.in1.units < cLine) (X : K.In s.heap) (hs : findIn K (.ref C) "__str__" = some (some (.builtin "BaseException.__str__"))) (hm : mroIn K C (.type "BaseException") = some true)
    (ho : s.heap.get? x = some o) (hc : o.cls = .ref C) (hd : o.data = .fields vs) (h0 : vs[0]? = some (.ref t0)) (ht : s.heap.TupAt t0 [.str m tk]) (h : Q (.str m tk) s) : wpAny (model prog w) A (call (.type "str") [.ref x]) Q E s := by
  have I : Looks (model prog w) s.heap (typeOf (.ref x)) (.ref C) := hc ▸ (Looks.ld ho).andThen .now
  refine callType_codes (T := "str") (Bi := Builtin.«object.__init__») (Q₁ := fun r s₁ => ∃ y u, r = .str y u ∧ Q r s₁) PySem.F.called_str (PySem.F.typeCall_str_1 _) PySem.F.entry_object_init ?_ ?_
  · refine codeAny_of_tree ?_
    show wpAny _ A.in1.in1 (do checkBuiltinCall "str.__new__" ⟨[.type "str", .ref x], []⟩; again (.builtin "str.__new__" ⟨[.type "str", .ref x], []⟩)) _ _ s
    refine wpAny_bind (wpAny_of_eq (PySem.F.newCall_str_1 _) (wpAny_pure ⟨plainId_quiet (by decide +kernel) _, codeAny_builtin PySem.F.entry_str_new ?_⟩))
    rw [Around.under_plainId (by decide +kernel) _]
    rw [str_new_tree]
    refine wpAny_bind (wpAny_pure ?_)
    refine wpAny_bind (wpAny_of_eq isSubtype_str_str ?_)
    have key : wpAny (model prog w) A.in1.in1 (PySem.Builtin.Str.strOf (.ref x)) (fun r s₁ => ∃ y u, r = .str y u ∧ Q r s₁) E s := by
      unfold PySem.Builtin.Str.strOf
      rw [show isExactStr (.ref x) = false from rfl]
      refine wpAny_bind (m := cRoomFor _ _) (wpAny_cRoomFor hu ?_)
      refine wpAny_bind (m := callSpecial? (.ref x) (Str.ofString "__str__")) (special_t X I hs PySem.F.excStr_Exception.str.bind ?_)
      refine wpAny_call (codeAny_call_builtin PySem.F.excStr_Exception.str.plain PySem.F.entry_bexc_str (check_slot (i := "BaseException.__str__") (owner := "BaseException") (n := "__str__") (by decide +kernel) (by decide +kernel) (I.andThen (looks_mroIn X hm)) (PySem.F.args_bexc_str _) ?_))
      refine bexcStr_o ho hd h0 ht ?_
      exact wpAny_pure ⟨_, _, rfl, h⟩
    exact wpAny_bind (wpAny_mono key (fun r s₁ hr => wpAny_pure hr) fun _ _ y => y)
  · rintro obj s₁ ⟨y, u, rfl, hq⟩
    exact ⟨typeIs_str _ _ _, PySem.F.args_object_init_2 _ _, object_init_meets PySem.F.called_str.init.lookup PySem.F.called_str.made (by decide) prog w A.in1 _ s₁ ⟨typeIs_str _ _ _, rfl, hq⟩⟩
theorem str_got_own {h₀ : Heap} {L e t : Addr} {news : List (Addr × Obj)} {m : Str} {u : Tok} {Q : Value → Shared → Prop} (N : News h₀ L s.heap news) (G : Got news e t (.ref C) [.str m u]) (hu : A.in1.in1.units < cLine) (X : K.In s.heap) (hs : findIn K (.ref C) "__str__" = some (some (.builtin "BaseException.__str__"))) (hm : mroIn K C (.type "BaseException") = some true)
    (hq : Q (.str m u) s) : wpAny (model prog w) A (call (.type "str") [.ref e]) Q E s := by
  obtain ⟨oe, ot, ws, nt, h1, h2, hc, hd, h0, htc, htd⟩ := G
  exact str_own hu X hs hm (N.get h1) hc hd h0 ⟨ot, nt, N.get h2, htc, htd⟩ hq
end
local macro_rules | `(tactic| walk_at "call type:str") => `(tactic| (k_here; (with_reducible show wpAny _ _ (call (Value.type "str") [Value.ref _]) _ _ _); k_dflt (refine' str_got_own ?N ?G ?U ?X ?s ?m ?_; (case G => assumption); (case N => assumption); (case U => k_units); (case X => k_in); (case s => k_is); (case m => k_is); k_whole)))

-- Told
theorem rsTold : True := by
  w_top off
  trivial
theorem fillK8 : ((PySem.Challenge.rw_xn0024_01, hd.heap_39) : OpenLaw × (Params → Frag)).1 = PySem.Challenge.rw_xn0024_01 := by
  k_fill
  rfl
def no257 (x : Str) : Bool := Txt.slice x none (some 3) != Str.ofString "257"
def tld (x : Str) : List Str := if no257 x = true then [] else [esc (par x)]
theorem parse_K {w : World} {gd : Option (List Code)} {cn : Str} {cs : Scope} {a : Addr} {ccd : Value} {cl : List (Str × Addr)} {outer : List Env} {A₀ : Around} {base h₀ : Heap} {L : Addr} {m : Str → Option Value} {s : Shared} {Q E : Value → Shared → Prop}
    {mean : ExcName → Option Value} {mg mb : Str → Option Value} {loose : List Str} {x : Str} {t : Tok}
    (B : Below A₀ base outer h₀) (F : Fr h₀ L s.heap m) (X : (hd.heap_39 w.params).In h₀) (T : Top view loose mean mg mb h₀) (N : News h₀ L s.heap []) (hk : cs.kind = .function)
    (hx : x.length ≤ 40) (h257 : no257 x = false)
    (hret : ∀ t h' tk, Fr h₀ L h' m → News h₀ L h' [] → Q (.str (par x) t) { s with heap := h', toks := tk }) :
    wpAny (model PySem.Challenge.rw_xn0024_01.row.prog w) (ktrTop 303 10 gd cn cs L a ccd cl outer) (call (.ref 162) [.str x t]) Q E s :=
  parse_row B F X T hk hx h257 fun t h' tk st => hret t h' tk (Fr.stays F st) (fun p hp => by cases hp)
theorem esc_K {w : World} {gd : Option (List Code)} {cn : Str} {cs : Scope} {a : Addr} {ccd : Value} {cl : List (Str × Addr)} {outer : List Env} {A₀ : Around} {base h₀ : Heap} {L : Addr} {m : Str → Option Value} {s : Shared} {Q E : Value → Shared → Prop}
    {mean : ExcName → Option Value} {mg mb : Str → Option Value} {loose : List Str} {x : Str} {t : Tok}
    (B : Below A₀ base outer h₀) (F : Fr h₀ L s.heap m) (X : (hd.heap_39 w.params).In h₀) (T : Top view loose mean mg mb h₀) (N : News h₀ L s.heap []) (hk : cs.kind = .function)
    (hx : x.length ≤ 4)
    (hret : ∀ t h' tk, Fr h₀ L h' m → News h₀ L h' [] → Q (.str (esc x) t) { s with heap := h', toks := tk }) :
    wpAny (model PySem.Challenge.rw_xn0024_01.row.prog w) (ktrTop 303 10 gd cn cs L a ccd cl outer) (call (.ref 130) [.str x t]) Q E s :=
  esc_row B F X T hk hx fun t h' tk st => hret t h' tk (Fr.stays F st) (fun p hp => by cases hp)
local macro_rules | `(tactic| walk_at "call ref") => `(tactic| (k_here; (with_reducible show wpAny _ _ (call (Value.ref 162) _) _ _ _); k_dflt (refine' parse_K ?k1 ?k2 ?k3 ?k4 ?k5 ?k6 ?hx ?hs ?_; (case k1 => k_asm); (case k2 => k_asm); (case k3 => k_asm); (case k4 => k_asm); (case k5 => k_asm); (case k6 => first | exact rfl | assumption); (case hx => assumption); (case hs => with_reducible assumption)); intro _ _ _ F9 N9))
local macro_rules | `(tactic| walk_at "call ref") => `(tactic| (k_here; (with_reducible show wpAny _ _ (call (Value.ref 130) _) _ _ _); k_dflt (refine' esc_K ?k1 ?k2 ?k3 ?k4 ?k5 ?k6 ?hx ?_; (case k1 => k_asm); (case k2 => k_asm); (case k3 => k_asm); (case k4 => k_asm); (case k5 => k_asm); (case k6 => first | exact rfl | assumption); (case hx => assumption)); intro _ _ _ F9 N9))
theorem told_row {w : World} {gd : Option (List Code)} {cn : Str} {cs : Scope} {a : Addr} {ccd : Value} {cl : List (Str × Addr)} {A₀ : Around} {base h₀ : Heap} {L : Addr} {m : Str → Option Value} {s : Shared} {Q E : Value → Shared → Prop}
    {mean : ExcName → Option Value} {mg mb : Str → Option Value} {loose : List Str} {x : Str} {t : Tok}
    (B : Below A₀ base [] h₀) (F : Fr h₀ L s.heap m) (X : (hd.heap_39 w.params).In h₀) (T : Top view loose mean mg mb h₀) (XB : (hd.heap_39 w.params).In base) (TB : Top view loose mean mg mb base) (hk : cs.kind = .function)
    (hx : x.length ≤ 40) (hp : (par x).length ≤ 4)
    (hret : ∀ l h' g' tk ws n, KtsTurn (([envX cn cs L a ccd cl] : List Env).filterMap (·.frame)) s.heap g' → g'.StaysIn h' → s.heap.get? l = none → h'.get? l = some (listOf ws.toArray n) → StrsAre ws (tld x) → Q (.ref l) { s with heap := h', toks := tk }) :
    wpAny (model PySem.Challenge.rw_xn0024_01.row.prog w) (ktrTop 302 7 gd cn cs L a ccd cl []) (call (.ref 324) [.str x t]) Q E s := by
  have D : KtsDicts (([envX cn cs L a ccd cl] : List Env).filterMap (·.frame)) s.heap := by
    intro b hb
    obtain ⟨oL, es, ep, hL, hLd, _⟩ := F.ns
    have e : b = L := by simpa using hb
    subst e
    exact ⟨oL, es, ep, hL, hLd⟩
  cases h257 : no257 x
  · (refine wpAny_call ?_; k_dflt (refine' enter0 (binds := [(Str.ofString "reply", Value.str x t)]) ?k1 ?k2 ?k3 ?k5 ?kA ?kF ?kK ?k6 ?k7 ?k8 ?k9 ?kB ?_ ?c2 ?c3 ?c4 ?c5; (case kA => exact rfl); (case kF => exact rfl); (case kK => assumption); (case k1 => k_asm); (case k2 => k_asm); (case k3 => k_asm); (case k5 => k_asm); (case k6 => k_is); (case k7 => k_is); (case k8 => ktr_room); (case k9 => first | exact BindsTo.of_eq rfl | exact binds_K (by k_in) rfl (by k_is) rfl rfl rfl); (case c5 => decide); (case kB => exact locs rfl); (case c2 => exact rfl); (case c3 => exact rfl); (case c4 => exact rfl); k_whole); walk_at "m_in")
    rename (_ = s.heap) => hg'
    subst hg'
    walk_at "m_steps"
    walk_at "m_names"
    obtain ⟨n1, _, n3⟩ := N9 _ (.head _)
    refine hret _ _ s.heap _ _ _ KtsTurn.refl (fun b o e => F9.keep b o e) n3 n1 ?_
    unfold tld
    rw [if_neg (by rw [h257]; decide)]
    exact .cons _ _ .nil
  · (refine wpAny_call ?_; k_dflt (refine' enter0 (binds := [(Str.ofString "reply", Value.str x t)]) ?k1 ?k2 ?k3 ?k5 ?kA ?kF ?kK ?k6 ?k7 ?k8 ?k9 ?kB ?_ ?c2 ?c3 ?c4 ?c5; (case kA => exact rfl); (case kF => exact rfl); (case kK => assumption); (case k1 => k_asm); (case k2 => k_asm); (case k3 => k_asm); (case k5 => k_asm); (case k6 => k_is); (case k7 => k_is); (case k8 => ktr_room); (case k9 => first | exact BindsTo.of_eq rfl | exact binds_K (by k_in) rfl (by k_is) rfl rfl rfl); (case c5 => decide); (case kB => exact locs rfl); (case c2 => exact rfl); (case c3 => exact rfl); (case c4 => exact rfl); k_whole); walk_at "m_in")
    rename (_ = s.heap) => hg'
    subst hg'
    have h9 : (Txt.slice x none (some 3) != Str.ofString "257") = true := h257
    walk_at "m_steps"
    · walk_at "m_names"
      rename KtsTurn _ _ _ => T9
      obtain ⟨n1, _, n3⟩ := N9 _ (.head _)
      refine hret _ _ _ _ _ _ T9 (fun b o e => F9.keep b o e) ?_ n1 ?_
      · cases q : s.heap.get? _ with
        | none => rfl
        | some o => obtain ⟨sl, hs⟩ := T9.up q; rw [hs] at n3; cases n3
      · unfold tld
        rw [if_pos h257]
        exact .nil
    · rename ((x == x) = false) => hb
      rw [beq_self_eq_true] at hb
      cases hb

-- Due
theorem rsDue : True := by
  w_top off
  trivial
theorem fillK9 : ((PySem.Challenge.rw_xn0024_01, hd.heap_39) : OpenLaw × (Params → Frag)).1 = PySem.Challenge.rw_xn0024_01 := by
  k_fill
  rfl
def spelled : List Str := [Str.ofString "a", Str.ofString "B", Str.ofString "&quot;", Str.ofString "&amp;", Str.ofString "&lt;", Str.ofString ">", Str.ofString "&#x9;", Str.ofString "&#xA;", Str.ofString "&#xD;"]
theorem spelled_len {y : Str} {i : Nat} (h : spelled[i]? = some y) : y.length ≤ 6 := by
  have key : ∀ y ∈ spelled, y.length ≤ 6 := by decide
  exact key y (List.mem_of_getElem? h)
theorem spelled_getD (i : Nat) : (spelled.getD i Str.empty).length ≤ 6 := by
  rw [List.getD]
  cases h : spelled[i]? with
  | none => exact (by decide : Str.empty.length ≤ 6)
  | some y => exact spelled_len h
def du (a b k : Int) : List Str := if k = 7 then [] else if k = 6 then [Str.ofString ""] else [spelled.getD a.toNat Str.empty ++ spelled.getD b.toNat Str.empty]
theorem ledS {h₀ h : Heap} {L l : Addr} {arr : Array Value} {n : Nat} {r : List (Addr × Obj)} {ys : List Str} {P : Prop} (N : News h₀ L h ((l, listOf arr n) :: r)) (hs : StrsAre arr.toList ys) (k : ∀ vs, StrsAre vs ys → News h₀ L h ((l, listOf vs.toArray n) :: r) → P) : P := k arr.toList hs N
theorem fm (x : Int) {n : Int} (h : 0 < n) : 0 ≤ x.fmod n ∧ x.fmod n < n := ⟨Int.fmod_nonneg_of_pos x h, Int.fmod_lt_of_pos x h⟩
theorem due_row {w : World} {gd : Option (List Code)} {cn : Str} {cs : Scope} {a : Addr} {ccd : Value} {cl : List (Str × Addr)} {outer : List Env} {A₀ : Around} {base h₀ : Heap} {L : Addr} {m : Str → Option Value} {s : Shared} {Q E : Value → Shared → Prop}
    {mean : ExcName → Option Value} {mg mb : Str → Option Value} {loose : List Str} {x : Int} {t : Tok}
    (B : Below A₀ base outer h₀) (F : Fr h₀ L s.heap m) (X : (hd.heap_39 w.params).In h₀) (T : Top view loose mean mg mb h₀) (hk : cs.kind = .function)
    (hret : ∀ l h' tk ws n, s.heap.StaysIn h' → s.heap.get? l = none → h'.get? l = some (listOf ws.toArray n) → StrsAre ws (du (x.fmod 9) ((x.fdiv 9).fmod 9) ((x.fdiv 81).fmod 8)) → Q (.ref l) { s with heap := h', toks := tk }) :
    wpAny (model PySem.Challenge.rw_xn0024_01.row.prog w) (ktrTop 302 7 gd cn cs L a ccd cl outer) (call (.ref 331) [.int x t]) Q E s := by
  (refine wpAny_call ?_; k_dflt (refine' enter0 (binds := [(Str.ofString "x", Value.int x t)]) ?k1 ?k2 ?k3 ?k5 ?kA ?kF ?kK ?k6 ?k7 ?k8 ?k9 ?kB ?_ ?c2 ?c3 ?c4 ?c5; (case kA => exact rfl); (case kF => exact rfl); (case kK => assumption); (case k1 => k_asm); (case k2 => k_asm); (case k3 => k_asm); (case k5 => k_asm); (case k6 => k_is); (case k7 => k_is); (case k8 => ktr_room); (case k9 => first | exact BindsTo.of_eq rfl | exact binds_K (by k_in) rfl (by k_is) rfl rfl rfl); (case c5 => decide); (case kB => exact locs rfl); (case c2 => exact rfl); (case c3 => exact rfl); (case c4 => exact rfl); k_whole); walk_at "m_in")
  rename (_ = s.heap) => hg'
  subst hg'
  walk_at "m_to_if"
  walk_at "m_names"
  refine ledS (ys := spelled) N9 (by exact .cons _ _ (.cons _ _ (.cons _ _ (.cons _ _ (.cons _ _ (.cons _ _ (.cons _ _ (.cons _ _ (.cons _ _ .nil))))))))) ?_
  clear N9
  intro vs9 hs9 N9
  have hl9 : spelled.length = 9 := rfl
  have f1 := fm x (n := 9) (by decide)
  have f2 := fm (x.fdiv 9) (n := 9) (by decide)
  have g1 : (spelled.getD (x.fmod 9).toNat Str.empty).length ≤ 6 := spelled_getD _
  have g2 : (spelled.getD ((x.fdiv 9).fmod 9).toNat Str.empty).length ≤ 6 := spelled_getD _
  walk_at "m_steps"
  all_goals rename Fr _ _ _ _ => F9
  · rename (_ = (7 : Int)) => h7
    rename News _ _ _ _ => N9
    obtain ⟨n1, _, n3⟩ := N9 _ (.head _)
    refine hret _ _ _ _ _ (fun b o e => F9.keep b o e) n3 n1 ?_
    unfold du
    rw [if_pos h7]
    exact .nil
  · rename (_ ≠ (7 : Int)) => h7
    rename (_ = (6 : Int)) => h6
    rename News _ _ _ _ => N9
    obtain ⟨n1, _, n3⟩ := N9 _ (.head _)
    refine hret _ _ _ _ _ (fun b o e => F9.keep b o e) n3 n1 ?_
    unfold du
    rw [if_neg h7, if_pos h6]
    exact .cons _ _ .nil
  · rename (_ ≠ (7 : Int)) => h7
    rename (_ ≠ (6 : Int)) => h6
    rename News _ _ _ _ => N9
    obtain ⟨n1, _, n3⟩ := N9 _ (.head _)
    refine hret _ _ _ _ _ (fun b o e => F9.keep b o e) n3 n1 ?_
    unfold du
    rw [if_neg h7, if_neg h6]
    exact .cons _ _ .nil

-- Texts
theorem rsTexts : True := by
  w_top off
  trivial
def okText (y : Str) : Bool := fails codeV y && PyData.strOk y && decide (y.length ≤ 12)
def okAll (a b k : Int) : Bool := decide ((rep a b k).length ≤ 40) && decide ((par (rep a b k)).length ≤ 4) && (tld (rep a b k) == du a b k) && (du a b k).all okText && decide ((du a b k).length ≤ 1)
theorem okRow0 : ∀ b : Fin 9, ∀ k : Fin 8, okAll ((0 : Nat) : Int) (b.val : Int) (k.val : Int) = true := by decide +kernel
theorem okRow1 : ∀ b : Fin 9, ∀ k : Fin 8, okAll ((1 : Nat) : Int) (b.val : Int) (k.val : Int) = true := by decide +kernel
theorem okRow2 : ∀ b : Fin 9, ∀ k : Fin 8, okAll ((2 : Nat) : Int) (b.val : Int) (k.val : Int) = true := by decide +kernel
theorem okRow3 : ∀ b : Fin 9, ∀ k : Fin 8, okAll ((3 : Nat) : Int) (b.val : Int) (k.val : Int) = true := by decide +kernel
theorem okRow4 : ∀ b : Fin 9, ∀ k : Fin 8, okAll ((4 : Nat) : Int) (b.val : Int) (k.val : Int) = true := by decide +kernel
theorem okRow5 : ∀ b : Fin 9, ∀ k : Fin 8, okAll ((5 : Nat) : Int) (b.val : Int) (k.val : Int) = true := by decide +kernel
theorem okRow6 : ∀ b : Fin 9, ∀ k : Fin 8, okAll ((6 : Nat) : Int) (b.val : Int) (k.val : Int) = true := by decide +kernel
theorem okRow7 : ∀ b : Fin 9, ∀ k : Fin 8, okAll ((7 : Nat) : Int) (b.val : Int) (k.val : Int) = true := by decide +kernel
theorem okRow8 : ∀ b : Fin 9, ∀ k : Fin 8, okAll ((8 : Nat) : Int) (b.val : Int) (k.val : Int) = true := by decide +kernel
theorem okAll_fin : ∀ a : Fin 9, ∀ b : Fin 9, ∀ k : Fin 8, okAll (a.val : Int) (b.val : Int) (k.val : Int) = true
  | ⟨0, _⟩ => okRow0
  | ⟨1, _⟩ => okRow1
  | ⟨2, _⟩ => okRow2
  | ⟨3, _⟩ => okRow3
  | ⟨4, _⟩ => okRow4
  | ⟨5, _⟩ => okRow5
  | ⟨6, _⟩ => okRow6
  | ⟨7, _⟩ => okRow7
  | ⟨8, _⟩ => okRow8
theorem okAll_x (x : Int) : okAll (x.fmod 9) ((x.fdiv 9).fmod 9) ((x.fdiv 81).fmod 8) = true := by
  have h1 := fm x (n := 9) (by decide)
  have h2 := fm (x.fdiv 9) (n := 9) (by decide)
  have h3 := fm (x.fdiv 81) (n := 8) (by decide)
  have := okAll_fin ⟨(x.fmod 9).toNat, by omega⟩ ⟨((x.fdiv 9).fmod 9).toNat, by omega⟩ ⟨((x.fdiv 81).fmod 8).toNat, by omega⟩
  dsimp only at this
  rw [Int.toNat_of_nonneg h1.1, Int.toNat_of_nonneg h2.1, Int.toNat_of_nonneg h3.1] at this
  exact this
def dux (x : Int) : List Str := du (x.fmod 9) ((x.fdiv 9).fmod 9) ((x.fdiv 81).fmod 8)
def repx (x : Int) : Str := rep (x.fmod 9) ((x.fdiv 9).fmod 9) ((x.fdiv 81).fmod 8)
theorem texts (x : Int) : (repx x).length ≤ 40 ∧ (par (repx x)).length ≤ 4 ∧ tld (repx x) = dux x ∧ Cleans (dux x) ∧ (dux x).length ≤ 1 := by
  have h := okAll_x x
  unfold okAll at h
  simp only [Bool.and_eq_true, decide_eq_true_eq, beq_iff_eq] at h
  obtain ⟨⟨⟨⟨h1, h2⟩, h3⟩, h4⟩, h5⟩ := h
  refine ⟨h1, h2, h3, fun y hy => ?_, h5⟩
  have := List.all_eq_true.mp h4 y hy
  unfold okText at this
  simp only [Bool.and_eq_true, decide_eq_true_eq] at this
  exact ⟨this.1.1, this.1.2, this.2⟩

-- W1
theorem rsW1 : True := by
  w_top off
  trivial
theorem fillKB : ((PySem.Challenge.rw_xn0024_01, hd.heap_39) : OpenLaw × (Params → Frag)).1 = PySem.Challenge.rw_xn0024_01 := by
  k_fill
  rfl
def bodyOf : Option Stmt → List Stmt
  | some (.FunctionDef _ _ b _ _ _ _ _ _ _) => b
  | some (.For _ _ b _ _) => b
  | _ => []
def scopeOf : Option Stmt → Scope
  | some (.FunctionDef _ _ _ _ _ _ s _ _ _) => s
  | _ => default
def lawB : List Stmt := bodyOf PySem.Challenge.pw_xn0024_01.main.body.getLast?
def lawS : Scope := scopeOf PySem.Challenge.pw_xn0024_01.main.body.getLast?
abbrev envL (sc : Scope) (L a : Addr) (cd : Value) : Env := envOfC (Str.ofString "law") sc L a cd
abbrev outL (prog : Program) (w : World) (A : Around) (env : Env) (R : Result → Shared → Prop) : Value → Shared → Prop := fun e s' =>
    wpAny (model prog w) A (leaving env e) (fun _ s'' => R (.error e) s'') (fun e' s'' => R (.error e') s'') s'

theorem Fr.turned {h₀ h g : Heap} {L : Addr} {m : Str → Option Value} (F : Fr h₀ L h m) (t : KtsTurn [L] h g) : Fr h₀ L g m := by
  obtain ⟨o, es, ep, ho, hd, r⟩ := F.ns
  obtain ⟨sl, hs⟩ := t.frame L o ho (.head _)
  refine ⟨⟨_, es, ep, hs, hd, r⟩, fun b o' e => t.other b o' (F.keep b o' e) fun hm => ?_, F.above⟩
  have := List.mem_singleton.mp hm
  exact absurd (Nat.lt_of_lt_of_le (Heap.lt_size e) F.above) (this ▸ Nat.lt_irrefl _)
theorem News.turned {h₀ h g : Heap} {L : Addr} {l : List (Addr × Obj)} (N : News h₀ L h l) (t : KtsTurn [L] h g) : News h₀ L g l := fun p hp =>
  ⟨t.other _ _ (N p hp).1 fun hm => (N p hp).2.1 (List.mem_singleton.mp hm), (N p hp).2⟩

section
variable {w : World} {gd : Option (List Code)} {cn : Str} {cs : Scope} {a : Addr} {ccd : Value} {cl : List (Str × Addr)} {A₀ : Around} {base h₀ : Heap} {L : Addr} {m : Str → Option Value} {s : Shared} {Q E : Value → Shared → Prop}
    {mean : ExcName → Option Value} {mg mb : Str → Option Value} {loose : List Str} {x : Int} {t : Tok} {news : List (Addr × Obj)}
theorem reply_L (B : Below A₀ base [] h₀) (F : Fr h₀ L s.heap m) (X : (hd.heap_39 w.params).In h₀) (T : Top view loose mean mg mb h₀) (N : News h₀ L s.heap news) (hk : cs.kind = .function)
    (hret : ∀ t h' tk, Fr h₀ L h' m → News h₀ L h' news → Q (.str (repx x) t) { s with heap := h', toks := tk }) :
    wpAny (model PySem.Challenge.rw_xn0024_01.row.prog w) (ktrTop 302 7 gd cn cs L a ccd cl []) (call (.ref 317) [.int x t]) Q E s :=
  reply_row B F X T hk fun t h' tk st => hret t h' tk (Fr.stays F st) (News.stays N st)
theorem told_L (B : Below A₀ h₀ [] h₀) (F : Fr h₀ L s.heap m) (X : (hd.heap_39 w.params).In h₀) (T : Top view loose mean mg mb h₀) (N : News h₀ L s.heap news) (hk : cs.kind = .function)
    (hret : ∀ l h' tk ws n, Fr h₀ L h' m → News h₀ L h' ((l, listOf ws.toArray n) :: news) → StrsAre ws (dux x) → Q (.ref l) { s with heap := h', toks := tk }) :
    wpAny (model PySem.Challenge.rw_xn0024_01.row.prog w) (ktrTop 302 7 gd cn cs L a ccd cl []) (call (.ref 324) [.str (repx x) t]) Q E s := by
  obtain ⟨t1, t2, t3, _, _⟩ := texts x
  refine told_row B F X T X T hk t1 t2 fun l h' g' tk ws n T9 st hn hl hs => ?_
  rw [t3] at hs
  have T8 : KtsTurn [L] s.heap g' := T9
  exact hret l h' tk ws n (Fr.stays (Fr.turned F T8) st) (News.one (Fr.turned F T8) (News.turned N T8) st (T8.none_ _ hn) hl) hs
theorem due_L (B : Below A₀ base [] h₀) (F : Fr h₀ L s.heap m) (X : (hd.heap_39 w.params).In h₀) (T : Top view loose mean mg mb h₀) (N : News h₀ L s.heap news) (hk : cs.kind = .function)
    (hret : ∀ l h' tk ws n, Fr h₀ L h' m → News h₀ L h' ((l, listOf ws.toArray n) :: news) → StrsAre ws (dux x) → Q (.ref l) { s with heap := h', toks := tk }) :
    wpAny (model PySem.Challenge.rw_xn0024_01.row.prog w) (ktrTop 302 7 gd cn cs L a ccd cl []) (call (.ref 331) [.int x t]) Q E s :=
  due_row B F X T hk fun l h' tk ws n st hn hl hs => hret l h' tk ws n (Fr.stays F st) (News.one F N st hn hl) hs
end
theorem add_L {prog : Program} {w : World} {A : Around} {E : Value → Shared → Prop} {s : Shared} {h₀ : Heap} {L a b : Addr} {m : Str → Option Value} {news : List (Addr × Obj)} {vs us : List Value} {na nb : Nat} {x y : List Str} {Q : Value → Shared → Prop}
    (F : Fr h₀ L s.heap m) (N : News h₀ L s.heap news) (ha : (a, listOf vs.toArray na) ∈ news) (hb : (b, listOf us.toArray nb) ∈ news) (hx : StrsAre vs x) (hy : StrsAre us y) (hlx : x.length ≤ 100) (hly : y.length ≤ 100)
    (h : ∀ D h', Fr h₀ L h' m → News h₀ L h' ((D, listOf (vs ++ us).toArray 0) :: news) → (∀ p ∈ news, @LT.lt Nat _ p.1 D) → StrsAre (vs ++ us) (x ++ y) → Q (.ref D) { s with heap := h' }) :
    wpAny (model prog w) A (binaryOp .Add (.ref a) (.ref b)) Q E s := by
  refine add_lists F N (News.isList N ha) (News.isList N hb) (fun h' F' N' => h _ h' F' N' (fun p hp => Heap.lt_size (N p hp).1) (strsAre_app hx hy)) ?_
  rw [hx.length, hy.length]
  have : sizeLine = 2 ^ 24 := rfl
  omega
local macro_rules | `(tactic| walk_at "call ref") => `(tactic| (k_here; (with_reducible show wpAny _ _ (call (Value.ref 317) _) _ _ _); k_dflt (refine' reply_L ?k1 ?k2 ?k3 ?k4 ?k5 ?k6 ?_; (case k1 => k_asm); (case k2 => k_asm); (case k3 => k_asm); (case k4 => k_asm); (case k5 => k_asm); (case k6 => first | exact rfl | assumption); k_whole); intro _ _ _ F9 N9))
local macro_rules | `(tactic| walk_at "call ref") => `(tactic| (k_here; (with_reducible show wpAny _ _ (call (Value.ref 324) _) _ _ _); k_dflt (refine' told_L ?k1 ?k2 ?k3 ?k4 ?k5 ?k6 ?_; (case k1 => k_asm); (case k2 => k_asm); (case k3 => k_asm); (case k4 => k_asm); (case k5 => k_asm); (case k6 => first | exact rfl | assumption); k_whole); intro l9 _ _ ws9 _ F9 N9 hs9))
local macro_rules | `(tactic| walk_at "call ref") => `(tactic| (k_here; (with_reducible show wpAny _ _ (call (Value.ref 331) _) _ _ _); k_dflt (refine' due_L ?k1 ?k2 ?k3 ?k4 ?k5 ?k6 ?_; (case k1 => k_asm); (case k2 => k_asm); (case k3 => k_asm); (case k4 => k_asm); (case k5 => k_asm); (case k6 => first | exact rfl | assumption); k_whole); intro l9 _ _ ws9 _ F9 N9 hs9))
local macro_rules | `(tactic| walk_at "binaryOp Add ref ref") => `(tactic| (k_here; (with_reducible show wpAny _ _ (binaryOp _ (Value.ref _) (Value.ref _)) _ _ _); k_dflt (refine' add_L ?F ?N ?a ?b ?i ?j ?x ?y ?_; (case F => k_asm); (case N => k_asm); (case a => k_mem); (case b => k_mem); (case i => with_reducible assumption); (case j => with_reducible assumption); (case x => with_reducible assumption); (case y => with_reducible assumption); k_whole); intro D9 h9 F9 N9 hlt9 hs9))

def txt (nums : List Int) (i : Nat) : List Str := (nums.take i).flatMap dux
theorem txt_succ {nums : List Int} {i : Nat} {x : Int} (h : nums[i]? = some x) : txt nums (i + 1) = txt nums i ++ dux x := by
  unfold txt
  rw [List.take_add_one, h, List.flatMap_append]
  simp
theorem txt_len (nums : List Int) : ∀ i, (txt nums i).length ≤ i
  | 0 => by simp [txt]
  | i + 1 => by
    have ih := txt_len nums i
    cases h : nums[i]? with
    | none => 
      have e : txt nums (i + 1) = txt nums i := by
        unfold txt
        rw [List.take_add_one, h]
        simp
      rw [e]; omega
    | some x =>
      rw [txt_succ h, List.length_append]
      have := (texts x).2.2.2.2
      omega
theorem txt_cleans (nums : List Int) (i : Nat) : Cleans (txt nums i) := by
  intro y hy
  obtain ⟨x, _, hx⟩ := List.mem_flatMap.mp hy
  exact (texts x).2.2.2.1 y hx
def JF (nums : List Int) (fx : List (Addr × Obj)) (st : Addr) (i : Nat) (m : Str → Option Value) (nx : List (Addr × Obj)) : Prop :=
  ∃ r d n1 n2 vs us, nx = (r, listOf vs.toArray n1) :: (d, listOf us.toArray n2) :: fx ∧ StrsAre vs (txt nums i) ∧ StrsAre us (txt nums i) ∧ m "row" = some (.ref r) ∧ m "due" = some (.ref d) ∧ m "steps" = some (.ref st)
theorem turn1 {w : World} {L a : Addr} {cdv : Value} {A₀ : Around} {h₀ : Heap} {m : Str → Option Value} {s : Shared} {Q : Flow → Shared → Prop} {R : Result → Shared → Prop}
    {mean : ExcName → Option Value} {mg mb : Str → Option Value} {loose : List Str} {sc : Scope} {body : List Stmt}
    {nums : List Int} {fx own : List (Addr × Obj)} {st I l : Addr} {oI ol : Obj} {i : Nat} {x : Int} {t : Tok} {nx : List (Addr × Obj)}
    (hsc : lawS = sc) (hbody : bodyOf lawB[6]? = body)
    (B : Below A₀ h₀ [] h₀) (X : (hd.heap_39 w.params).In h₀) (T : Top view loose mean mg mb h₀) 
    (F : Fr h₀ L s.heap (fun y => if y = Str.ofString "x" then some (.int x t) else m y)) (N : News h₀ L s.heap (nx ++ own)) (hx : nums[i]? = some x) (hi : i < 8) (hown : own = [(I, oI)]) (hne : ∀ p ∈ nx, @Ne Nat p.1 I) (hl : (l, ol) ∈ fx) (hJ : JF nums fx st i m nx) :
    wpAny (model PySem.Challenge.rw_xn0024_01.row.prog w) (callerA.deeper (envL sc L a cdv)) (execs body (envL sc L a cdv)) (InvPostG h₀ L (fun m' nx => (l, ol) ∈ nx ∧ JF nums fx st (i + 1) m' nx) own s Q) (outL PySem.Challenge.rw_xn0024_01.row.prog w (callerA.deeper (envL sc L a cdv)) (envL sc L a cdv) R) s := by
  conv at hbody => lhs; whnf
  conv at hsc => lhs; whnf
  subst hbody hsc
  obtain ⟨r, d, n1, n2, vs, us, rfl, hvs, hus, hr, hd, hst⟩ := hJ
  unfold envL outL
  simp only [List.cons_append] at N
  replace F := Fr.ats [("row", .ref r), ("due", .ref d), ("steps", .ref st)] F (by
    intro p hp
    simp only [List.mem_cons, List.not_mem_nil, or_false] at hp
    rcases hp with rfl | rfl | rfl
    · exact (if_neg (by decide : ¬ ("row" : Str) = "x")).trans hr
    · exact (if_neg (by decide : ¬ ("due" : Str) = "x")).trans hd
    · exact (if_neg (by decide : ¬ ("steps" : Str) = "x")).trans hst)
  have kM := kstMark
  have hl8 : (txt nums i).length ≤ 100 := Nat.le_trans (txt_len nums i) (by omega)
  have hl9 : (dux x).length ≤ 100 := Nat.le_trans (texts x).2.2.2.2 (by omega)
  walk_at "m_steps"
  rename (StrsAre (us ++ _) _) => hsu
  rename (StrsAre (vs ++ _) _) => hsv
  rename (∀ p ∈ _ :: _ :: _ :: _ :: _ :: (fx ++ own), _) => hlu
  rename (∀ p ∈ _ :: _ :: _ :: (fx ++ own), _) => hlv
  rename Fr _ _ _ _ => F9
  rename News _ _ _ _ => N9
  rw [← txt_succ hx] at hsu hsv
  refine InvEndG.intro (nx := (_, listOf (List.toArray (vs ++ _)) 0) :: (_, listOf (List.toArray (us ++ _)) 0) :: fx) F9 N9 ⟨.tail _ (.tail _ hl), _, _, 0, 0, _, _, rfl, hsv, hsu, by rfl, by rfl, by rfl⟩ ?_ ?_ ?_
  · intro p hp b hb e
    have hpI : p.1 = I := by rw [hown] at hp; rw [List.mem_singleton.mp hp]
    have hI : (I, oI) ∈ fx ++ own := List.mem_append.mpr (.inr (by rw [hown]; exact .head _))
    rw [List.map_cons, List.map_cons, List.mem_cons, List.mem_cons] at hb
    have hbI : b = I := e.symm.trans hpI
    rcases hb with q | q | q
    · have q2 := hlv (I, oI) (.tail _ (.tail _ (.tail _ hI)))
      dsimp only at q q2
      rw [← hbI, q] at q2
      exact Nat.lt_irrefl _ q2
    · have q2 := hlu (I, oI) (.tail _ (.tail _ (.tail _ (.tail _ (.tail _ hI)))))
      dsimp only at q q2
      rw [← hbI, q] at q2
      exact Nat.lt_irrefl _ q2
    · obtain ⟨z, hz, hzb⟩ := List.mem_map.mp q
      exact hne z (.tail _ (.tail _ hz)) (hzb.trans hbI)
  · intro p hp
    simp only [List.mem_cons, List.mem_append] at hp ⊢
    rcases hp with q | q | q
    · exact .inr (.inr (.inl q))
    · exact .inl q
    · exact .inr (.inr (.inr (.inr (.inr (.inr (.inl q))))))
  · intro p hp
    simp only [List.mem_cons, List.mem_append] at hp ⊢
    exact .inr (.inr (.inr (.inr (.inr (.inr (.inr hp))))))

-- W2
theorem rsW2 : True := by
  w_top off
  trivial
theorem fillKC : ((PySem.Challenge.rw_xn0024_01, hd.heap_39) : OpenLaw × (Params → Frag)).1 = PySem.Challenge.rw_xn0024_01 := by
  k_fill
  rfl
section
variable {w : World} {gd : Option (List Code)} {cn : Str} {cs : Scope} {a : Addr} {ccd : Value} {cl : List (Str × Addr)} {A₀ : Around} {base h₀ : Heap} {L : Addr} {m : Str → Option Value} {s : Shared} {Q E : Value → Shared → Prop}
    {mean : ExcName → Option Value} {mg mb : Str → Option Value} {loose : List Str} {t : Tok} {news : List (Addr × Obj)} {r : Addr} {nr step : Nat} {vs : List Value} {ss : List Str}
theorem strands_L (B : Below A₀ base [] h₀) (F : Fr h₀ L s.heap m) (X : (hd.heap_39 w.params).In h₀) (T : Top view loose mean mg mb h₀) (N : News h₀ L s.heap news) (hk : cs.kind = .function)
    (hr : (r, listOf vs.toArray nr) ∈ news) (hs : StrsAre vs ss) (hn : ss.length ≤ 8) (hge : 2 ≤ step) (hle : step ≤ 5) (hC : Cleans ss)
    (hret : ∀ l h' tk ws n, Fr h₀ L h' m → News h₀ L h' ((l, listOf ws.toArray n) :: news) → (∀ p ∈ news, @Ne Nat p.1 l) → StrsAre ws (pass ss step) → Q (.ref l) { s with heap := h', toks := tk }) :
    wpAny (model PySem.Challenge.rw_xn0024_01.row.prog w) (ktrTop 302 7 gd cn cs L a ccd cl []) (call (.ref 343) [.ref r, .int (step : Int) t]) Q E s :=
  strands B F X T hk (News.isList N hr) hs hn hge hle hC fun l h' tk ws n st hn hl hs => hret l h' tk ws n (Fr.stays F st) (News.one F N st hn hl) (fun p hp e => by have := (N p hp).1; rw [e, hn] at this; cases this) hs
theorem sorted_L (B : Below A₀ base [] h₀) (F : Fr h₀ L s.heap m) (X : (hd.heap_39 w.params).In h₀) (T : Top view loose mean mg mb h₀) (N : News h₀ L s.heap news) (hk : cs.kind = .function)
    (hr : (r, listOf vs.toArray nr) ∈ news) (hs : StrsAre vs ss) (hn : ss.length ≤ 8) (hge : 2 ≤ step) (hle : step ≤ 5)
    (hret : ∀ l h' tk ws n, Fr h₀ L h' m → News h₀ L h' ((l, listOf ws.toArray n) :: news) → (∀ p ∈ news, @Ne Nat p.1 l) → StrsAre ws (pass ss step) → Q (.ref l) { s with heap := h', toks := tk }) :
    wpAny (model PySem.Challenge.rw_xn0024_01.row.prog w) (ktrTop 302 7 gd cn cs L a ccd cl []) (call (.ref 348) [.ref r, .int (step : Int) t]) Q E s :=
  sorted_row B F X T hk (News.isList N hr) hs hn hge hle fun l h' tk ws n st hn hl hs => hret l h' tk ws n (Fr.stays F st) (News.one F N st hn hl) (fun p hp e => by have := (N p hp).1; rw [e, hn] at this; cases this) hs
end
local macro_rules | `(tactic| walk_at "call ref") => `(tactic| (k_here; (with_reducible show wpAny _ _ (call (Value.ref 343) _) _ _ _); k_dflt (refine' strands_L ?k1 ?k2 ?k3 ?k4 ?k5 ?k6 ?r ?s ?n ?g ?l ?c ?_; (case k1 => k_asm); (case k2 => k_asm); (case k3 => k_asm); (case k4 => k_asm); (case k5 => k_asm); (case k6 => first | exact rfl | assumption); (case r => k_mem); (case s => with_reducible assumption); (case n => with_reducible assumption); (case g => with_reducible assumption); (case l => with_reducible assumption); (case c => with_reducible assumption); k_whole); intro l9 _ _ ws9 _ F9 N9 hne9 hs9))
local macro_rules | `(tactic| walk_at "call ref") => `(tactic| (k_here; (with_reducible show wpAny _ _ (call (Value.ref 348) _) _ _ _); k_dflt (refine' sorted_L ?k1 ?k2 ?k3 ?k4 ?k5 ?k6 ?r ?s ?n ?g ?l ?_; (case k1 => k_asm); (case k2 => k_asm); (case k3 => k_asm); (case k4 => k_asm); (case k5 => k_asm); (case k6 => first | exact rfl | assumption); (case r => k_mem); (case s => with_reducible assumption); (case n => with_reducible assumption); (case g => with_reducible assumption); (case l => with_reducible assumption); k_whole); intro l9 _ _ ws9 _ F9 N9 hne9 hs9))

def JG (ss : List Str) (fx : List (Addr × Obj)) (st : Addr) (m : Str → Option Value) (nx : List (Addr × Obj)) : Prop :=
  ∃ r d n1 n2 vs us, nx = (r, listOf vs.toArray n1) :: (d, listOf us.toArray n2) :: fx ∧ StrsAre vs ss ∧ StrsAre us ss ∧ m "row" = some (.ref r) ∧ m "due" = some (.ref d) ∧ m "steps" = some (.ref st)
theorem jg_end {h₀ h' : Heap} {L : Addr} {m' : Str → Option Value} {s : Shared} {tk : Nat} {r d st I l : Addr} {oI ol : Obj} {n1 n2 : Nat} {vs us : List Value} {ss : List Str} {p1 p2 : Addr × Obj} {fx own : List (Addr × Obj)}
    (F9 : Fr h₀ L h' m') (N9 : News h₀ L h' ((d, listOf us.toArray n2) :: (r, listOf vs.toArray n1) :: p1 :: p2 :: (fx ++ own))) (hvs : StrsAre vs ss) (hus : StrsAre us ss) (hr : m' "row" = some (.ref r)) (hd : m' "due" = some (.ref d)) (hst : m' "steps" = some (.ref st))
    (hown : own = [(I, oI)]) (hl : (l, ol) ∈ fx) (hne : ∀ p ∈ fx, @Ne Nat p.1 I) (hr9 : I ≠ r) (hd9 : I ≠ d) : InvEndG h₀ L (fun m' nx => (l, ol) ∈ nx ∧ JG ss fx st m' nx) own s { s with heap := h', toks := tk } := by
  refine InvEndG.intro (nx := (r, listOf vs.toArray n1) :: (d, listOf us.toArray n2) :: fx) F9 N9 ⟨.tail _ (.tail _ hl), r, d, n1, n2, vs, us, rfl, hvs, hus, hr, hd, hst⟩ ?_ ?_ ?_
  · intro p hp b hb e
    have hpI : p.1 = I := by rw [hown] at hp; rw [List.mem_singleton.mp hp]
    rw [List.map_cons, List.map_cons, List.mem_cons, List.mem_cons] at hb
    have hbI : b = I := e.symm.trans hpI
    rcases hb with q | q | q
    · exact hr9 (hbI.symm.trans q)
    · exact hd9 (hbI.symm.trans q)
    · obtain ⟨z, hz, hzb⟩ := List.mem_map.mp q
      exact hne z hz (hzb.trans hbI)
  · intro p hp
    simp only [List.mem_cons, List.mem_append] at hp ⊢
    rcases hp with q | q | q
    · exact .inr (.inl q)
    · exact .inl q
    · exact .inr (.inr (.inr (.inr (.inl q))))
  · intro p hp
    simp only [List.mem_cons, List.mem_append] at hp ⊢
    exact .inr (.inr (.inr (.inr (.inr hp))))
theorem turn2 {w : World} {L a : Addr} {cdv : Value} {A₀ : Around} {h₀ : Heap} {m : Str → Option Value} {s : Shared} {Q : Flow → Shared → Prop} {R : Result → Shared → Prop}
    {mean : ExcName → Option Value} {mg mb : Str → Option Value} {loose : List Str} {sc : Scope} {body : List Stmt}
    {ss : List Str} {fx own : List (Addr × Obj)} {st I l : Addr} {oI ol : Obj} {step : Nat} {t : Tok} {nx : List (Addr × Obj)}
    (hsc : lawS = sc) (hbody : bodyOf lawB[8]? = body)
    (B : Below A₀ h₀ [] h₀) (X : (hd.heap_39 w.params).In h₀) (T : Top view loose mean mg mb h₀) 
    (F : Fr h₀ L s.heap (fun y => if y = Str.ofString "step" then some (.int (step : Int) t) else m y)) (N : News h₀ L s.heap (nx ++ own)) (hn : ss.length ≤ 8) (hge : 2 ≤ step) (hle : step ≤ 5) (hC : Cleans ss)
    (hown : own = [(I, oI)]) (hne : ∀ p ∈ nx, @Ne Nat p.1 I) (hl : (l, ol) ∈ fx) (hJ : JG ss fx st m nx) :
    wpAny (model PySem.Challenge.rw_xn0024_01.row.prog w) (callerA.deeper (envL sc L a cdv)) (execs body (envL sc L a cdv)) (InvPostG h₀ L (fun m' nx => (l, ol) ∈ nx ∧ JG (pass ss step) fx st m' nx) own s Q) (outL PySem.Challenge.rw_xn0024_01.row.prog w (callerA.deeper (envL sc L a cdv)) (envL sc L a cdv) R) s := by
  conv at hbody => lhs; whnf
  conv at hsc => lhs; whnf
  subst hbody hsc
  obtain ⟨r, d, n1, n2, vs, us, rfl, hvs, hus, hr, hd, hst⟩ := hJ
  unfold envL outL
  simp only [List.cons_append] at N
  replace F := Fr.ats [("row", .ref r), ("due", .ref d), ("steps", .ref st)] F (by
    intro p hp
    simp only [List.mem_cons, List.not_mem_nil, or_false] at hp
    rcases hp with rfl | rfl | rfl
    · exact (if_neg (by decide : ¬ ("row" : Str) = "step")).trans hr
    · exact (if_neg (by decide : ¬ ("due" : Str) = "step")).trans hd
    · exact (if_neg (by decide : ¬ ("steps" : Str) = "step")).trans hst)
  have kM := kstMark
  have hok : Oks (pass ss step) := (pass_cleans hn hge hle hC).oks
  walk_at "m_steps"
  rename (∀ p ∈ _ :: _ :: _ :: (fx ++ own), _) => hlu
  rename (∀ p ∈ _ :: _ :: (fx ++ own), _) => hlv
  rename Fr _ _ _ _ => F9
  rename News _ _ _ _ => N9
  exact jg_end F9 N9 (by assumption) (by assumption) (by rfl) (by rfl) (by rfl) hown hl (fun p hp => hne p (.tail _ (.tail _ hp))) (hlv (I, oI) (.tail _ (.tail _ (List.mem_append.mpr (.inr (by rw [hown]; exact .head _)))))) (hlu (I, oI) (.tail _ (.tail _ (.tail _ (List.mem_append.mpr (.inr (by rw [hown]; exact .head _)))))))

-- W3
theorem rsW3 : True := by
  w_top off
  trivial
theorem fillKD : ((PySem.Challenge.rw_xn0024_01, hd.heap_39) : OpenLaw × (Params → Frag)).1 = PySem.Challenge.rw_xn0024_01 := by
  k_fill
  rfl
def hits (steps ms : List Int) (far : Int) : List Int := steps.filter fun o => ms.any fun x => x == far - o
theorem hits_yes {steps ms : List Int} {far o : Int} {i : Nat} (h : steps[i]? = some o) (hb : (ms.any fun x => x == far - o) = true) : hits (steps.take (i + 1)) ms far = hits (steps.take i) ms far ++ [o] := by
  unfold hits
  rw [List.take_add_one, h, List.filter_append]
  simp [hb]
theorem hits_no {steps ms : List Int} {far o : Int} {i : Nat} (h : steps[i]? = some o) (hb : (ms.any fun x => x == far - o) = false) : hits (steps.take (i + 1)) ms far = hits (steps.take i) ms far := by
  unfold hits
  rw [List.take_add_one, h, List.filter_append]
  simp [hb]
noncomputable def mk (steps : List Int) : Nat → List Int
  | 0 => [0]
  | i + 1 => if hits steps (mk steps i) (1 + (i : Int)) = [] then mk steps i else mk steps i ++ [1 + (i : Int)]
theorem mk_len (steps : List Int) : ∀ i, (mk steps i).length ≤ i + 1
  | 0 => by simp [mk]
  | i + 1 => by
    have := mk_len steps i
    unfold mk
    split
    · omega
    · rw [List.length_append]; simp; omega
def JM (steps : List Int) (fx : List (Addr × Obj)) (c1 st r : Addr) (i : Nat) (m : Str → Option Value) (nx : List (Addr × Obj)) : Prop :=
  ∃ ms nm mvs, ∃ o1 : Obj, nx = (ms, listOf mvs.toArray nm) :: (c1, o1) :: fx ∧ o1.data = .cell (some (.ref ms)) ∧ IntsAre mvs (mk steps i) ∧ m "steps" = some (.ref st) ∧ m "row" = some (.ref r) ∧ ms ≠ c1 ∧ ∀ p ∈ fx, p.1 ≠ ms
theorem jm_end {h₀ h' : Heap} {L : Addr} {m' : Str → Option Value} {s : Shared} {tk : Nat} {r st ms c1 c2 : Addr} {nm i : Nat} {mvs : List Value} {steps : List Int} {o1 oc : Obj} {vc : Option Value} {fx own all : List (Addr × Obj)}
    (F9 : Fr h₀ L h' m') (N9 : News h₀ L h' all) (h1 : (ms, listOf mvs.toArray nm) ∈ all) (h2 : (c1, o1) ∈ all) (h3 : (c2, oc) ∈ all) (h4 : ∀ p ∈ fx, p ∈ all) (h5 : ∀ p ∈ own, p ∈ all)
    (ho1 : o1.data = .cell (some (.ref ms))) (hoc : oc.data = .cell vc) (hmv : IntsAre mvs (mk steps i)) (hms : m' "steps" = some (.ref st)) (hmr : m' "row" = some (.ref r)) (hne : ms ≠ c1) (hfx : ∀ p ∈ fx, p.1 ≠ ms)
    (hoff : OwnOff own (c2 :: ms :: c1 :: fx.map (·.1))) (hn1 : ms ≠ c2) (hn2 : c1 ≠ c2) (hn3 : ∀ p ∈ fx, p.1 ≠ c2) : InvEndG h₀ L (JC (JM steps fx c1 st r) c2 i) own s { s with heap := h', toks := tk } := by
  refine InvEndG.intro (nx := (c2, oc) :: (ms, listOf mvs.toArray nm) :: (c1, o1) :: fx) F9 N9 ⟨oc, vc, _, rfl, hoc, ?_, ms, nm, mvs, o1, rfl, ho1, hmv, hms, hmr, hne, hfx⟩ hoff ?_ h5
  · intro p hp
    rcases List.mem_cons.mp hp with rfl | hp
    · exact hn1
    · rcases List.mem_cons.mp hp with rfl | hp
      · exact hn2
      · exact hn3 p hp
  · intro p hp
    simp only [List.mem_cons] at hp
    rcases hp with rfl | rfl | rfl | hp
    · exact h3
    · exact h1
    · exact h2
    · exact h4 p hp
theorem turn3 {w : World} {L a : Addr} {cdv : Value} {A₀ : Around} {h₀ : Heap} {m : Str → Option Value} {s : Shared} {Q : Flow → Shared → Prop} {R : Result → Shared → Prop}
    {mean : ExcName → Option Value} {mg mb : Str → Option Value} {loose : List Str} {sc : Scope} {body : List Stmt}
    {steps : List Int} {svs : List Value} {fx own : List (Addr × Obj)} {st r : Addr} {ns i : Nat} {oc : Obj} {t : Tok} {nx : List (Addr × Obj)}
    (hsc : lawS = sc) (hbody : bodyOf lawB[10]? = body)
    (B : Below A₀ h₀ [] h₀) (X : (hd.heap_39 w.params).In h₀) (T : Top view loose mean mg mb h₀) 
    (F : Fr h₀ L s.heap m) (N : News h₀ L s.heap ((L + 1 + 1, oc) :: (nx ++ own))) (hi : i < 7) (hoff : OwnOff own (((L + 1 + 1, oc) :: nx).map (·.1))) (hok : oc.data = .cell (some (.int (1 + (i : Int)) t))) (hnk : ∀ p ∈ nx, p.1 ≠ L + 1 + 1)
    (hst : (st, listOf svs.toArray ns) ∈ fx) (hsv : IntsAre svs steps) (hs3 : steps.length = 3) (hs25 : ∀ x ∈ steps, 2 ≤ x ∧ x ≤ 5) (hJ : JM steps fx (L + 1) st r i m nx) :
    wpAny (model PySem.Challenge.rw_xn0024_01.row.prog w) (callerA.deeper (envL sc L a cdv)) (execs body (envL sc L a cdv)) (InvPostG h₀ L (JC (JM steps fx (L + 1) st r) (L + 1 + 1) (i + 1)) own s Q) (outL PySem.Challenge.rw_xn0024_01.row.prog w (callerA.deeper (envL sc L a cdv)) (envL sc L a cdv) R) s := by
  conv at hbody => lhs; whnf
  conv at hsc => lhs; whnf
  subst hbody hsc
  obtain ⟨ms, nm, mvs, o1, rfl, ho1, hmv, hms, hmr, hne, hfx⟩ := hJ
  unfold envL outL
  simp only [List.cons_append] at N
  replace F := Fr.ats [("steps", .ref st), ("row", .ref r)] F (by
    intro p hp
    simp only [List.mem_cons, List.not_mem_nil, or_false] at hp
    rcases hp with rfl | rfl
    · exact hms
    · exact hmr)
  have kM := kstMark
  walk_at "m_steps"
  refine LCt.ListComp_T (F₀ := F) (by with_unfolding_all rfl) (by decide) (by rfl) (by decide) (by rfl) ?_
  walk_at "m_steps"
  walk_at "m_names"
  have hstN : (st, listOf svs.toArray ns) ∈ (L + 1 + 1, oc) :: (ms, listOf mvs.toArray nm) :: (L + 1, o1) :: (fx ++ own) := .tail _ (.tail _ (.tail _ (List.mem_append.mpr (.inl hst))))
  have hsz : svs.toArray.size = 3 := by rw [List.size_toArray, hsv.length, hs3]
  refine LCt.CompSrcT.ledger rfl F9 N9 hstN (by rw [hsz]; decide) ?_
  intro g5
  refine restT (fun i9 ys => IntsAre ys (hits (steps.take i9) (mk steps i) (1 + (i : Int)))) (by exact .nil) ?_ ?_
  · clear F9 N9
    intro i9 v I oI C oC D m3 ys h3 tk3 E3 hi9 hv hJ3 hC hx3 F3 N3 hoff3 hne3
    rw [hsz] at hi9
    obtain ⟨o, ho⟩ : ∃ o, steps[i9]? = some o := ⟨steps[i9], by simp [hs3, hi9]⟩
    obtain ⟨t5, hv5⟩ := hsv.get i9 o ho
    have hv6 : v = .int o t5 := by
      have : svs[i9]? = some v := by simpa using hv
      rw [hv5] at this; exact (Option.some.inj this).symm
    subst hv6
    have ho25 := hs25 o (List.mem_of_getElem? ho)
    (try dsimp only)
    (try k_fold)
    walk_at "m_steps"
    · rename (List.any _ _ = true) => hb
      refine yesEnd F3 N3 (fun p hp => hp) hoff3 (.inr ⟨_, hstN, rfl, _, rfl⟩) ?_
      rw [hits_yes ho hb]
      exact intsAre_append hJ3 (.cons _ _ .nil)
    · rename (List.any _ _ = false) => hb
      refine noEnd F3 N3 (fun p hp => hp) hoff3 (.inr ⟨_, hstN, rfl, _, rfl⟩) ?_
      rw [hits_no ho hb]
      exact hJ3
  · clear F9 N9
    intro ys hys D5 h6 tk6 F6 N6 off6
    rw [hsz, ← hs3, List.take_length] at hys
    (try dsimp only)
    (try k_fold)
    walk_at "m_steps"
    · rename (decide (hits _ _ _ = []) = true) => hb
      have hb := of_decide_eq_true hb
      rename Fr _ _ _ _ => F9
      rename News _ _ _ _ => N9
      refine jm_end F9 N9 (.tail _ (.tail _ (.tail _ (.head _)))) (.tail _ (.tail _ (.tail _ (.tail _ (.head _))))) (.tail _ (.tail _ (.head _))) (fun p hp => .tail _ (.tail _ (.tail _ (.tail _ (.tail _ (List.mem_append.mpr (.inl hp))))))) (fun p hp => .tail _ (.tail _ (.tail _ (.tail _ (.tail _ (List.mem_append.mpr (.inr hp)))))))
        ho1 hok ?_ (by rfl) (by rfl) hne hfx hoff (hnk _ (.head _)) (hnk _ (.tail _ (.head _))) (fun p hp => hnk p (.tail _ (.tail _ hp)))
      unfold mk
      rw [if_pos hb]
      exact hmv
    · rename (decide (hits _ _ _ = []) = false) => hb
      have hb := of_decide_eq_false hb
      rename Fr _ _ _ _ => F9
      rename News _ _ _ _ => N9
      have hown : ∀ p ∈ own, p.1 ≠ ms := fun p hp => hoff p hp ms (.tail _ (.head _))
      refine append_D (rest := (L + 1 + 1, oc) :: (L + 1, o1) :: (fx ++ own)) F9 N9 (.tail _ (.tail _ (.tail _ (.head _)))) (.drop (.drop (.keep (Ne.symm (hnk _ (.head _))) (.drop (.keep (Ne.symm hne) (.all fun p hp => (List.mem_append.mp hp).elim (hfx p) (hown p))))))) ?_ fun h9 F10 N10 => ?_
      · have e : sizeLine = 2 ^ 24 := rfl
        have := mk_len steps i
        rw [List.size_toArray, hmv.length]
        omega
      clear F9 N9
      rw [List.push_toArray] at N10
      walk_at "m_steps"
      rename Fr _ _ _ _ => F9
      rename News _ _ _ _ => N9
      refine jm_end F9 N9 (.head _) (.tail _ (.tail _ (.head _))) (.tail _ (.head _)) (fun p hp => .tail _ (.tail _ (.tail _ (List.mem_append.mpr (.inl hp))))) (fun p hp => .tail _ (.tail _ (.tail _ (List.mem_append.mpr (.inr hp)))))
        ho1 hok ?_ (by rfl) (by rfl) hne hfx hoff (hnk _ (.head _)) (hnk _ (.tail _ (.head _))) (fun p hp => hnk p (.tail _ (.tail _ hp)))
      unfold mk
      rw [if_neg hb]
      exact intsAre_append hmv (.cons _ _ .nil)

-- W4
theorem rsW4 : True := by
  w_top off
  trivial
theorem fillKE : ((PySem.Challenge.rw_xn0024_01, hd.heap_39) : OpenLaw × (Params → Frag)).1 = PySem.Challenge.rw_xn0024_01 := by
  k_fill
  rfl
def J5 (all : List (Addr × Obj)) (r : Addr) (j : Nat) (_i : Nat) (m : Str → Option Value) (nx : List (Addr × Obj)) : Prop :=
  nx = all ∧ m "row" = some (.ref r) ∧ ∃ t, m "j" = some (.int (j : Int) t)
theorem noLt {ss : List Str} {ds : List Int} {i j : Nat} {yi yj : Str} (hHS : ∀ d : Nat, (d : Int) ∈ ds → HS ss d) (hij : i < j) (hb : (ds.any fun x => x == (j : Int) - (i : Int)) = true) (hyi : ss[Int.toNat (i : Int)]? = some yi) (hyj : ss[Int.toNat (j : Int)]? = some yj) : ¬ yj.cps.toList < yi.cps.toList := by
  obtain ⟨x, hx, hx2⟩ := List.any_eq_true.mp hb
  have e : x = ((j - i : Nat) : Int) := by rw [beq_iff_eq.mp hx2]; omega
  rw [e] at hx
  have h := hHS _ hx
  rw [Int.toNat_natCast] at hyi hyj
  obtain ⟨hjl, _⟩ := List.getElem?_eq_some_iff.mp hyj
  have e2 : i + (j - i) = j := by omega
  have h2 := h i (by rw [e2]; exact hjl)
  rw [e2] at h2
  have g1 : gx ss i = yi := by unfold gx; rw [List.getD, hyi]; rfl
  have g2 : gx ss j = yj := by unfold gx; rw [List.getD, hyj]; rfl
  rw [g1, g2] at h2
  exact h2
theorem j5_end {h₀ h' : Heap} {L : Addr} {m' : Str → Option Value} {s : Shared} {tk : Nat} {r : Addr} {i j : Nat} {t : Tok} {nx own all : List (Addr × Obj)}
    (F9 : Fr h₀ L h' m') (N9 : News h₀ L h' all) (h4 : ∀ p ∈ nx, p ∈ all) (h5 : ∀ p ∈ own, p ∈ all) (hr : m' "row" = some (.ref r)) (hj : m' "j" = some (.int (j : Int) t)) (hoff : OwnOff own (nx.map (·.1))) :
    InvEndG h₀ L (J5 nx r j i) own s { s with heap := h', toks := tk } := InvEndG.intro F9 N9 ⟨rfl, hr, t, hj⟩ hoff h4 h5
theorem turn5 {w : World} {L a : Addr} {cdv : Value} {A₀ : Around} {h₀ : Heap} {m : Str → Option Value} {s : Shared} {Q : Flow → Shared → Prop} {R : Result → Shared → Prop}
    {mean : ExcName → Option Value} {mg mb : Str → Option Value} {loose : List Str} {sc : Scope} {body : List Stmt}
    {ds : List Int} {ss : List Str} {mvs vs : List Value} {fx own nx : List (Addr × Obj)} {r ms : Addr} {nr nm i j : Nat} {o1 : Obj} {t : Tok}
    (hsc : lawS = sc) (hbody : bodyOf (bodyOf lawB[11]?)[0]? = body)
    (B : Below A₀ h₀ [] h₀) (X : (hd.heap_39 w.params).In h₀) (T : Top view loose mean mg mb h₀) 
    (F : Fr h₀ L s.heap (fun y => if y = Str.ofString "i" then some (.int (i : Int) t) else m y)) (N : News h₀ L s.heap (nx ++ own)) (hij : i < j) (hj : j < ss.length) (hn : ss.length ≤ 8) (hoff : OwnOff own (nx.map (·.1)))
    (ho1 : o1.data = .cell (some (.ref ms))) (hvs : StrsAre vs ss) (hmv : IntsAre mvs ds) (hds : ds.length ≤ 8) (hHS : ∀ d : Nat, (d : Int) ∈ ds → HS ss d) (hC : Cleans ss)
    (hJ : J5 ((r, listOf vs.toArray nr) :: (ms, listOf mvs.toArray nm) :: (L + 1, o1) :: fx) r j i m nx) :
    wpAny (model PySem.Challenge.rw_xn0024_01.row.prog w) (callerA.deeper (envL sc L a cdv)) (execs body (envL sc L a cdv)) (InvPostG h₀ L (J5 ((r, listOf vs.toArray nr) :: (ms, listOf mvs.toArray nm) :: (L + 1, o1) :: fx) r j (i + 1)) own s Q) (outL PySem.Challenge.rw_xn0024_01.row.prog w (callerA.deeper (envL sc L a cdv)) (envL sc L a cdv) R) s := by
  conv at hbody => lhs; whnf
  conv at hsc => lhs; whnf
  subst hbody hsc
  obtain ⟨rfl, hmr, t', hmj⟩ := hJ
  unfold envL outL
  simp only [List.cons_append] at N
  replace F := Fr.ats [("row", .ref r), ("j", .int (j : Int) t')] F (by
    intro p hp
    simp only [List.mem_cons, List.not_mem_nil, or_false] at hp
    rcases hp with rfl | rfl
    · exact (if_neg (by decide : ¬ ("row" : Str) = "i")).trans hmr
    · exact (if_neg (by decide : ¬ ("j" : Str) = "i")).trans hmj)
  have kM := kstMark
  walk_at "m_steps"
  · exfalso
    rename (List.any _ _ = true) => hb
    rename (_[Int.toNat (i : Int)]? = some _) => hyi
    rename (_[Int.toNat (j : Int)]? = some _) => hyj
    exact noLt hHS hij hb hyi hyj (by assumption)
  · rename Fr h₀ _ _ _ => F9
    rename News h₀ _ _ _ => N9
    refine j5_end F9 N9 (fun p hp => ?_) (fun p hp => ?_) (by rfl) (by rfl) hoff
    · simp only [List.mem_cons, List.mem_append] at hp ⊢
      rcases hp with q | q | q | q
      · exact .inr (.inr (.inl q))
      · exact .inr (.inr (.inr (.inl q)))
      · exact .inr (.inr (.inr (.inr (.inl q))))
      · exact .inr (.inr (.inr (.inr (.inr (.inl q)))))
    · simp only [List.mem_cons, List.mem_append] at hp ⊢
      exact .inr (.inr (.inr (.inr (.inr (.inr hp)))))
  · rename Fr h₀ _ _ _ => F9
    rename News h₀ _ _ _ => N9
    refine j5_end F9 N9 (fun p hp => ?_) (fun p hp => ?_) (by rfl) (by rfl) hoff
    · simp only [List.mem_cons, List.mem_append] at hp ⊢
      rcases hp with q | q | q | q
      · exact .inl q
      · exact .inr (.inl q)
      · exact .inr (.inr (.inl q))
      · exact .inr (.inr (.inr (.inl q)))
    · simp only [List.mem_cons, List.mem_append] at hp ⊢
      exact .inr (.inr (.inr (.inr hp)))

-- W5
theorem rsW5 : True := by
  w_top off
  trivial
theorem fillKF : ((PySem.Challenge.rw_xn0024_01, hd.heap_39) : OpenLaw × (Params → Frag)).1 = PySem.Challenge.rw_xn0024_01 := by
  k_fill
  rfl
def J4 (all : List (Addr × Obj)) (r : Addr) (_i : Nat) (m : Str → Option Value) (nx : List (Addr × Obj)) : Prop := nx = all ∧ m "row" = some (.ref r)
theorem turn4 {w : World} {L a : Addr} {cdv : Value} {A₀ : Around} {h₀ : Heap} {m : Str → Option Value} {s : Shared} {Q : Flow → Shared → Prop} {R : Result → Shared → Prop}
    {mean : ExcName → Option Value} {mg mb : Str → Option Value} {loose : List Str} {sc : Scope} {body : List Stmt}
    {ds : List Int} {ss : List Str} {mvs vs : List Value} {fx own nx : List (Addr × Obj)} {r ms : Addr} {nr nm j : Nat} {o1 : Obj} {t : Tok}
    (hsc : lawS = sc) (hbody : bodyOf lawB[11]? = body)
    (B : Below A₀ h₀ [] h₀) (X : (hd.heap_39 w.params).In h₀) (T : Top view loose mean mg mb h₀) 
    (F : Fr h₀ L s.heap (fun y => if y = Str.ofString "j" then some (.int (j : Int) t) else m y)) (N : News h₀ L s.heap (nx ++ own)) (hj : j < ss.length) (hn : ss.length ≤ 8) (hoff : OwnOff own (nx.map (·.1)))
    (ho1 : o1.data = .cell (some (.ref ms))) (hvs : StrsAre vs ss) (hmv : IntsAre mvs ds) (hds : ds.length ≤ 8) (hHS : ∀ d : Nat, (d : Int) ∈ ds → HS ss d) (hC : Cleans ss)
    (hJ : J4 ((r, listOf vs.toArray nr) :: (ms, listOf mvs.toArray nm) :: (L + 1, o1) :: fx) r j m nx) :
    wpAny (model PySem.Challenge.rw_xn0024_01.row.prog w) (callerA.deeper (envL sc L a cdv)) (execs body (envL sc L a cdv)) (InvPostG h₀ L (J4 ((r, listOf vs.toArray nr) :: (ms, listOf mvs.toArray nm) :: (L + 1, o1) :: fx) r (j + 1)) own s Q) (outL PySem.Challenge.rw_xn0024_01.row.prog w (callerA.deeper (envL sc L a cdv)) (envL sc L a cdv) R) s := by
  have hsc0 := hsc
  conv at hbody => lhs; whnf
  conv at hsc => lhs; whnf
  subst hbody hsc
  obtain ⟨rfl, hmr⟩ := hJ
  unfold envL outL
  simp only [List.cons_append] at N
  replace F := Fr.ats [("row", .ref r)] F (by
    intro p hp
    simp only [List.mem_cons, List.not_mem_nil, or_false] at hp
    rcases hp with rfl
    · exact (if_neg (by decide : ¬ ("row" : Str) = "j")).trans hmr)
  have kM := kstMark
  walk_at "m_steps"
  refine For_invV h₀ (by rfl) (by rfl) ?_
  have hx9 : True → j < ss.length := fun _ => hj
  clear hj
  walk_at "m_steps"
  have hj := hx9 trivial
  walk_at "m_names"
  rename (IsRange _ _ _ _ _ _ _ _) => R9
  refine iterR (J5 ((r, listOf vs.toArray nr) :: (ms, listOf mvs.toArray nm) :: (L + 1, o1) :: (fx ++ own)) r j) rfl R9 (by omega) F9 N9 ?_ ?_ ?_
  · exact ⟨rfl, by rfl, t, by rfl⟩
  · clear F9 N9
    intro i t1 m₁ news₁ h1 tk1 own1 hi hoff1 hJ F1 N1
    exact turn5 (s := { s with heap := h1, toks := tk1 }) hsc0 rfl B X T F1 N1 hi hj hn (by rw [hJ.1] at hoff1; rw [hJ.1]; exact hoff1) ho1 hvs hmv hds hHS hC hJ
  · clear F9 N9
    intro m₁ news₁ h1 tk1 hJ F1 N1
    obtain ⟨rfl, hmr, t2, hmj⟩ := hJ
    walk_at "m_steps"
    refine InvEndG.intro F1 N1 ⟨rfl, hmr⟩ hoff (fun p hp => ?_) (fun p hp => ?_)
    · simp only [List.mem_cons, List.mem_append] at hp ⊢
      rcases hp with q | q | q | q
      · exact .inl q
      · exact .inr (.inl q)
      · exact .inr (.inr (.inl q))
      · exact .inr (.inr (.inr (.inl q)))
    · simp only [List.mem_cons, List.mem_append] at hp ⊢
      exact .inr (.inr (.inr (.inr hp)))
theorem seg11 {w : World} {L a : Addr} {cdv : Value} {A₀ : Around} {h₀ : Heap} {m : Str → Option Value} {s : Shared} {Q : Flow → Shared → Prop} {R : Result → Shared → Prop}
    {mean : ExcName → Option Value} {mg mb : Str → Option Value} {loose : List Str} {sc : Scope} {body : List Stmt}
    {ds : List Int} {ss : List Str} {mvs vs : List Value} {fx : List (Addr × Obj)} {r ms : Addr} {nr nm : Nat} {o1 : Obj}
    (hsc : lawS = sc) (hbody : lawB.drop 11 = body)
    (B : Below A₀ h₀ [] h₀) (X : (hd.heap_39 w.params).In h₀) (T : Top view loose mean mg mb h₀) 
    (F : Fr h₀ L s.heap m) (hmr : m "row" = some (.ref r)) (N : News h₀ L s.heap ((r, listOf vs.toArray nr) :: (ms, listOf mvs.toArray nm) :: (L + 1, o1) :: fx)) (hn : ss.length ≤ 8)
    (ho1 : o1.data = .cell (some (.ref ms))) (hvs : StrsAre vs ss) (hmv : IntsAre mvs ds) (hds : ds.length ≤ 8) (hHS : ∀ d : Nat, (d : Int) ∈ ds → HS ss d) (hC : Cleans ss)
    (hQ : ∀ m' news' h' tk, Fr h₀ L h' m' → News h₀ L h' news' → Q (.ret (.bool true)) { s with heap := h', toks := tk }) :
    wpAny (model PySem.Challenge.rw_xn0024_01.row.prog w) (callerA.deeper (envL sc L a cdv)) (execs body (envL sc L a cdv)) Q (outL PySem.Challenge.rw_xn0024_01.row.prog w (callerA.deeper (envL sc L a cdv)) (envL sc L a cdv) R) s := by
  have hsc0 := hsc
  conv at hbody => lhs; whnf
  conv at hsc => lhs; whnf
  subst hbody hsc
  unfold envL outL
  replace F := Fr.ats [("row", .ref r)] F (by
    intro p hp
    simp only [List.mem_cons, List.not_mem_nil, or_false] at hp
    rcases hp with rfl
    · exact hmr)
  have kM := kstMark
  walk_at "m_steps"
  refine For_invV h₀ (by rfl) (by rfl) ?_
  walk_at "m_steps"
  walk_at "m_names"
  rename (IsRange _ _ _ _ _ _ _ _) => R9
  refine iterR (J4 ((r, listOf vs.toArray nr) :: (ms, listOf mvs.toArray nm) :: (L + 1, o1) :: fx) r) rfl R9 (by omega) F9 N9 ?_ ?_ ?_
  · exact ⟨rfl, by rfl⟩
  · clear F9 N9
    intro i t1 m₁ news₁ h1 tk1 own1 hi hoff1 hJ F1 N1
    exact turn4 (s := { s with heap := h1, toks := tk1 }) hsc0 rfl B X T F1 N1 hi hn (by rw [hJ.1] at hoff1; rw [hJ.1]; exact hoff1) ho1 hvs hmv hds hHS hC hJ
  · clear F9 N9
    intro m₁ news₁ h1 tk1 hJ F1 N1
    obtain ⟨rfl, hmr⟩ := hJ
    walk_at "m_steps"
    exact hQ _ _ _ _ F1 N1

-- W6
theorem rsW6 : True := by
  w_top off
  trivial
theorem fillKG : ((PySem.Challenge.rw_xn0024_01, hd.heap_39) : OpenLaw × (Params → Frag)).1 = PySem.Challenge.rw_xn0024_01 := by
  k_fill
  rfl
theorem HS_zero (ss : List Str) : HS ss 0 := fun i _ => LeS.refl _
theorem HS_add {ss : List Str} {a b : Nat} (ha : HS ss a) (hb : HS ss b) : HS ss (a + b) := fun i hi => by
  have h1 := ha i (by omega)
  have h2 := hb (i + a) (by omega)
  rw [Nat.add_assoc] at h2
  exact LeS.trans h1 h2
theorem mk_HS {ss : List Str} {steps : List Int} (hs : ∀ x ∈ steps, 0 ≤ x ∧ HS ss x.toNat) : ∀ n, ∀ x ∈ mk steps n, 0 ≤ x ∧ HS ss x.toNat
  | 0 => fun x hx => by
    simp only [mk, List.mem_singleton] at hx
    subst hx
    exact ⟨by decide, HS_zero ss⟩
  | i + 1 => fun x hx => by
    have ih := mk_HS hs i
    unfold mk at hx
    split at hx
    · exact ih x hx
    · rename_i hh
      rcases List.mem_append.mp hx with hx | hx
      · exact ih x hx
      · have e := List.mem_singleton.mp hx
        obtain ⟨o, ho⟩ := List.exists_mem_of_ne_nil _ hh
        unfold hits at ho
        obtain ⟨ho1, ho2⟩ := List.mem_filter.mp ho
        obtain ⟨y, hy, hy2⟩ := List.any_eq_true.mp ho2
        have hy3 := beq_iff_eq.mp hy2
        obtain ⟨q1, q2⟩ := ih y hy
        obtain ⟨q3, q4⟩ := hs o ho1
        have e2 : x.toNat = y.toNat + o.toNat := by omega
        exact ⟨by omega, e2 ▸ HS_add q2 q4⟩
theorem led9 {h₀ h : Heap} {L l c c2 : Addr} {o o1 o2 : Obj} {r : List (Addr × Obj)} {P : Prop} (_ : News h₀ L h ((l, o) :: (c, o1) :: (c2, o2) :: r)) (k : ∀ l' o', l' = l → o' = o1 → P) : P := k l o1 rfl rfl
theorem seg9 {w : World} {L a : Addr} {cdv : Value} {A₀ : Around} {h₀ : Heap} {m : Str → Option Value} {s : Shared} {Q : Flow → Shared → Prop} {R : Result → Shared → Prop}
    {mean : ExcName → Option Value} {mg mb : Str → Option Value} {loose : List Str} {sc : Scope} {body : List Stmt}
    {steps : List Int} {ss : List Str} {svs vs : List Value} {fx : List (Addr × Obj)} {r st : Addr} {nr ns : Nat} {o1 o2 : Obj} {v1 v2 : Option Value}
    (hsc : lawS = sc) (hbody : lawB.drop 9 = body)
    (B : Below A₀ h₀ [] h₀) (X : (hd.heap_39 w.params).In h₀) (T : Top view loose mean mg mb h₀) 
    (F : Fr h₀ L s.heap m) (hmr : m "row" = some (.ref r)) (hms : m "steps" = some (.ref st)) (N : News h₀ L s.heap ((L + 1, o1) :: (L + 1 + 1, o2) :: fx)) (hn : ss.length ≤ 8)
    (hf1 : ∀ p ∈ fx, p.1 ≠ L + 1) (hf2 : ∀ p ∈ fx, p.1 ≠ L + 1 + 1) (hr : (r, listOf vs.toArray nr) ∈ fx) (hst : (st, listOf svs.toArray ns) ∈ fx)
    (ho1 : o1.data = .cell v1) (ho2 : o2.data = .cell v2) (hvs : StrsAre vs ss) (hsv : IntsAre svs steps) (hs3 : steps.length = 3) (hs25 : ∀ x ∈ steps, 2 ≤ x ∧ x ≤ 5) (hHS : ∀ x ∈ steps, HS ss x.toNat) (hC : Cleans ss)
    (hQ : ∀ m' news' h' tk, Fr h₀ L h' m' → News h₀ L h' news' → Q (.ret (.bool true)) { s with heap := h', toks := tk }) :
    wpAny (model PySem.Challenge.rw_xn0024_01.row.prog w) (callerA.deeper (envL sc L a cdv)) (execs body (envL sc L a cdv)) Q (outL PySem.Challenge.rw_xn0024_01.row.prog w (callerA.deeper (envL sc L a cdv)) (envL sc L a cdv) R) s := by
  have hsc0 := hsc
  conv at hbody => lhs; whnf
  conv at hsc => lhs; whnf
  subst hbody hsc
  unfold envL outL
  replace F := Fr.ats [("row", .ref r), ("steps", .ref st)] F (by
    intro p hp
    simp only [List.mem_cons, List.not_mem_nil, or_false] at hp
    rcases hp with rfl | rfl
    · exact hmr
    · exact hms)
  have kM := kstMark
  walk_at "m_steps"
  rename (@LT.lt Nat _ _ _ ∧ _) => l1
  rename Fr _ _ _ _ => F9
  rename News _ _ _ _ => N9
  rename (_ = Data.cell (some (Value.ref _))) => d9
  obtain ⟨l1a, l1b, l1c⟩ := l1
  refine led9 N9 fun l9 o9 hl9 ho9 => ?_
  subst hl9 ho9
  refine For_cellA (h₀ := h₀) (a := 1) (hi := 8) (n := 7) (JM steps fx (L + 1) st r) rfl (by rfl) (by rfl) ?_
  walk_at "m_steps"
  walk_at "m_names"
  rename (IsRange _ _ _ _ _ _ _ _) => R9
  refine CellSrcA.mk (nx := (l9, listOf (List.toArray [Value.int 0 s.toks]) 0) :: (L + 1, o9) :: fx) rfl R9 (by decide) (by decide) F9 N9 (.tail _ (.tail _ (.head _))) ?_ ho2 ?_ ?_ ?_ ?_
  · intro p hp
    simp only [List.mem_cons] at hp ⊢
    rcases hp with q | q | q
    · exact .inl q
    · exact .inr (.inl q)
    · exact .inr (.inr (.inr q))
  · intro p hp
    simp only [List.mem_cons] at hp
    rcases hp with rfl | rfl | q
    · exact Ne.symm (Nat.ne_of_lt l1b)
    · exact Nat.ne_of_lt (Nat.lt_succ_self _)
    · exact hf2 p q
  · exact ⟨_, 0, [Value.int 0 s.toks], _, rfl, d9, .cons _ _ .nil, by rfl, by rfl, Ne.symm (Nat.ne_of_lt l1a), allLt_ne l1c (Nat.le_refl _)⟩
  · clear F9 N9
    intro k t1 m₂ nx h2 tk2 own ok hk hoff hok hnk hJ F2 N2
    exact turn3 (s := { s with heap := h2, toks := tk2 }) hsc0 rfl B X T F2 N2 hk hoff hok hnk hst hsv hs3 hs25 hJ
  · clear F9 N9
    intro m₂ nx h2 tk2 ok vk hok hnk hJ F2 N2
    obtain ⟨ms, nm, mvs, o1', rfl, ho1', hmv, hms2, hmr2, _, _⟩ := hJ
    refine seg11 (s := { s with heap := h2, toks := tk2 }) (fx := fx) (ds := mk steps 7) (nr := nr) (nm := nm) hsc0 rfl B X T F2 hmr2 (fun p hp => N2 p ?_) hn ho1' hvs hmv (mk_len steps 7) (fun d hd => ?_) hC hQ
    · simp only [List.mem_cons] at hp ⊢
      rcases hp with rfl | q | q | q
      · exact .inr (.inr (.inr hr))
      · exact .inr (.inl q)
      · exact .inr (.inr (.inl q))
      · exact .inr (.inr (.inr q))
    · have := (mk_HS (fun x hx => ⟨by have := hs25 x hx; omega, hHS x hx⟩) 7 _ hd).2
      rwa [Int.toNat_natCast] at this

-- W7
theorem rsW7 : True := by
  w_top off
  trivial
theorem fillKH : ((PySem.Challenge.rw_xn0024_01, hd.heap_39) : OpenLaw × (Params → Frag)).1 = PySem.Challenge.rw_xn0024_01 := by
  k_fill
  rfl
def passes (sN : List Nat) (ss : List Str) (i : Nat) : List Str := (sN.take i).foldl pass ss
theorem passes_succ {sN : List Nat} {ss : List Str} {i k : Nat} (h : sN[i]? = some k) : passes sN ss (i + 1) = pass (passes sN ss i) k := by
  unfold passes
  rw [List.take_add_one, h, List.foldl_append]
  rfl
theorem passes_ok {sN : List Nat} {ss : List Str} (hn : ss.length ≤ 8) (h25 : ∀ x ∈ sN, 2 ≤ x ∧ x ≤ 5) (hC : Cleans ss) : ∀ i, (passes sN ss i).length ≤ 8 ∧ Cleans (passes sN ss i)
  | 0 => by simpa [passes] using ⟨hn, hC⟩
  | i + 1 => by
    have ih := passes_ok hn h25 hC i
    cases h : sN[i]? with
    | none =>
      have e : passes sN ss (i + 1) = passes sN ss i := by
        unfold passes
        rw [List.take_add_one, h]
        simp
      rw [e]; exact ih
    | some k =>
      have hk := h25 k (List.mem_of_getElem? h)
      rw [passes_succ h, pass_length]
      exact ⟨ih.1, pass_cleans ih.1 hk.1 hk.2 ih.2⟩
theorem passes_HS {sN : List Nat} {ss : List Str} (hn : ss.length ≤ 8) (h3 : sN.length = 3) (h25 : ∀ x ∈ sN, 2 ≤ x ∧ x ≤ 5) : ∀ x ∈ sN, HS (passes sN ss 3) x := by
  match sN, h3 with
  | [a, b, c], _ =>
    have ha := h25 a (by simp)
    have hb := h25 b (by simp)
    have hc := h25 c (by simp)
    have l1 : (pass ss a).length ≤ 8 := by rw [pass_length]; exact hn
    have l2 : (pass (pass ss a) b).length ≤ 8 := by rw [pass_length]; exact l1
    have q1 : HS (pass (pass (pass ss a) b) c) c := pass_sorts l2 hc.1 hc.2
    have q2 : HS (pass (pass (pass ss a) b) c) b := pass_keeps l2 hc.1 hc.2 hb.2 (pass_sorts l1 hb.1 hb.2)
    have q3 : HS (pass (pass (pass ss a) b) c) a := pass_keeps l2 hc.1 hc.2 ha.2 (pass_keeps l1 hb.1 hb.2 ha.2 (pass_sorts hn ha.1 ha.2))
    intro x hx
    show HS (pass (pass (pass ss a) b) c) x
    simp only [List.mem_cons, List.not_mem_nil, or_false] at hx
    rcases hx with rfl | rfl | rfl
    · exact q3
    · exact q2
    · exact q1
theorem list_ne_cell {h₀ h : Heap} {L r c : Addr} {arr : Array Value} {n : Nat} {o : Obj} {v : Option Value} {news : List (Addr × Obj)} (N : News h₀ L h news) (h1 : (r, listOf arr n) ∈ news) (h2 : (c, o) ∈ news) (ho : o.data = .cell v) : r ≠ c := by
  intro e
  have q1 := (N _ h1).1
  have q2 := (N _ h2).1
  dsimp only at q1 q2
  rw [e, q2] at q1
  have q3 := Option.some.inj q1
  rw [q3] at ho
  cases ho
theorem seg7 {w : World} {L a : Addr} {cdv : Value} {A₀ : Around} {h₀ : Heap} {m : Str → Option Value} {s : Shared} {Q : Flow → Shared → Prop} {R : Result → Shared → Prop}
    {mean : ExcName → Option Value} {mg mb : Str → Option Value} {loose : List Str} {sc : Scope} {body : List Stmt}
    {sN : List Nat} {ss : List Str} {svs vs us : List Value} {fx : List (Addr × Obj)} {r d st : Addr} {nr nd ns : Nat} {o1 o2 : Obj} {v1 v2 : Option Value}
    (hsc : lawS = sc) (hbody : lawB.drop 7 = body)
    (B : Below A₀ h₀ [] h₀) (X : (hd.heap_39 w.params).In h₀) (T : Top view loose mean mg mb h₀) 
    (F : Fr h₀ L s.heap m) (hmr : m "row" = some (.ref r)) (hmd : m "due" = some (.ref d)) (hms : m "steps" = some (.ref st)) (N : News h₀ L s.heap ((r, listOf vs.toArray nr) :: (d, listOf us.toArray nd) :: fx)) (hn : ss.length ≤ 8)
    (hst : (st, listOf svs.toArray ns) ∈ fx) (hc1 : (L + 1, o1) ∈ fx) (hc2 : (L + 1 + 1, o2) ∈ fx)
    (ho1 : o1.data = .cell v1) (ho2 : o2.data = .cell v2) (hvs : StrsAre vs ss) (hus : StrsAre us ss) (hsv : IntsAre svs (sN.map Int.ofNat)) (hs3 : sN.length = 3) (hs25 : ∀ x ∈ sN, 2 ≤ x ∧ x ≤ 5) (hC : Cleans ss)
    (hQ : ∀ m' news' h' tk, Fr h₀ L h' m' → News h₀ L h' news' → Q (.ret (.bool true)) { s with heap := h', toks := tk }) :
    wpAny (model PySem.Challenge.rw_xn0024_01.row.prog w) (callerA.deeper (envL sc L a cdv)) (execs body (envL sc L a cdv)) Q (outL PySem.Challenge.rw_xn0024_01.row.prog w (callerA.deeper (envL sc L a cdv)) (envL sc L a cdv) R) s := by
  have hsc0 := hsc
  conv at hbody => lhs; whnf
  conv at hsc => lhs; whnf
  subst hbody hsc
  unfold envL outL
  replace F := Fr.ats [("row", .ref r), ("due", .ref d), ("steps", .ref st)] F (by
    intro p hp
    simp only [List.mem_cons, List.not_mem_nil, or_false] at hp
    rcases hp with rfl | rfl | rfl
    · exact hmr
    · exact hmd
    · exact hms)
  have kM := kstMark
  have hok : Oks ss := hC.oks
  walk_at "m_steps"
  refine For_invV h₀ (by rfl) (by rfl) ?_
  walk_at "m_steps"
  walk_at "m_names"
  refine iterL (fun i m nx => JG (passes sN ss i) fx st m nx) (l := st) (vs := svs) (nn := ns) rfl (.tail _ (.tail _ hst)) F9 N9 ?_ ?_ ?_
  · exact ⟨r, d, nr, nd, vs, us, rfl, hvs, hus, by rfl, by rfl, by rfl⟩
  · clear F9 N9
    rintro i v m₁ news₁ h1 tk1 own hv ⟨oI, hown⟩ hne hl hJ F1 N1
    have hi : i < sN.length := by
      have := (List.getElem?_eq_some_iff.mp hv).1
      rw [hsv.length, List.length_map] at this
      exact this
    have hk : sN[i]? = some sN[i] := by simp [hi]
    obtain ⟨t5, hv5⟩ := hsv.get i (sN[i] : Int) (by simp [hi])
    rw [hv5] at hv
    obtain rfl := (Option.some.inj hv).symm
    have h25 := hs25 _ (List.mem_of_getElem? hk)
    have hp := passes_ok hn hs25 hC i
    rw [passes_succ hk]
    exact turn2 (s := { s with heap := h1, toks := tk1 }) (ol := listOf svs.toArray ns) hsc0 rfl B X T F1 N1 hp.1 h25.1 h25.2 hp.2 hown hne hst hJ
  · clear F9 N9
    intro m₁ news₁ h1 tk1 hl hJ F1 N1
    rw [hsv.length, List.length_map, hs3] at hJ
    obtain ⟨r', d', n1, n2, vs', us', rfl, hvs', hus', hmr', hmd', hms'⟩ := hJ
    have hp := passes_ok hn hs25 hC 3
    have hm1 : (L + 1, o1) ∈ (r', listOf vs'.toArray n1) :: (d', listOf us'.toArray n2) :: fx := .tail _ (.tail _ hc1)
    have hm2 : (L + 1 + 1, o2) ∈ (r', listOf vs'.toArray n1) :: (d', listOf us'.toArray n2) :: fx := .tail _ (.tail _ hc2)
    refine seg9 (s := { s with heap := h1, toks := tk1 }) (fx := [(r', listOf vs'.toArray n1), (st, listOf svs.toArray ns)]) (steps := sN.map Int.ofNat) hsc0 rfl B X T F1 hmr' hms' (fun p hp => N1 p ?_) hp.1 ?_ ?_ (.head _) (.tail _ (.head _)) ho1 ho2 hvs' hsv (by rw [List.length_map, hs3]) ?_ ?_ hp.2 hQ
    · simp only [List.mem_cons, List.not_mem_nil, or_false] at hp
      rcases hp with rfl | rfl | rfl | rfl
      · exact hm1
      · exact hm2
      · exact .head _
      · exact hl
    · intro p hp
      simp only [List.mem_cons, List.not_mem_nil, or_false] at hp
      rcases hp with rfl | rfl
      · exact list_ne_cell N1 (.head _) hm1 ho1
      · exact list_ne_cell N1 hl hm1 ho1
    · intro p hp
      simp only [List.mem_cons, List.not_mem_nil, or_false] at hp
      rcases hp with rfl | rfl
      · exact list_ne_cell N1 (.head _) hm2 ho2
      · exact list_ne_cell N1 hl hm2 ho2
    · intro x hx
      obtain ⟨k, hk, rfl⟩ := List.mem_map.mp hx
      have := hs25 k hk
      exact ⟨Int.ofNat_le.mpr this.1, Int.ofNat_le.mpr this.2⟩
    · intro x hx
      obtain ⟨k, hk, rfl⟩ := List.mem_map.mp hx
      exact passes_HS hn hs3 hs25 k hk

-- W8
local macro_rules | `(tactic| walk_at "m_to_total") => `(tactic| (repeat' (first | (k_unfold; (try dsimp only)) | (walk_at "m_go"; (fail_if_success (with_reducible show wpAny _ _ (execs (List.cons (Stmt.Assign [PySem.Expr.Name (Str.ofString "total") _] _ _) _) _) _ _ _)); first | walk1 | (dsimp only; walk1) | (leave1; walk_say "STEP leave1"; try dsimp only)) | fail "no step")))
theorem rsW8 : True := by
  w_top off
  trivial
theorem fillKI : ((PySem.Challenge.rw_xn0024_01, hd.heap_39) : OpenLaw × (Params → Frag)).1 = PySem.Challenge.rw_xn0024_01 := by
  k_fill
  rfl
theorem led2 {h₀ h : Heap} {L r d st : Addr} {x1 x2 x3 : Int} {t1 t2 t3 : Tok} {n1 n2 ns : Nat} {rest : List (Addr × Obj)} {P : Prop} (N : News h₀ L h ((d, listOf #[] n2) :: (r, listOf #[] n1) :: (st, listOf #[.int x1 t1, .int x2 t2, .int x3 t3] ns) :: rest))
    (k : ∀ d' r' st' svs, d' = d → r' = r → st' = st → IntsAre svs [x1, x2, x3] → News h₀ L h ((r, listOf (List.toArray []) n1) :: (d, listOf (List.toArray []) n2) :: (st, listOf svs.toArray ns) :: rest) → P) : P := k d r st _ rfl rfl rfl (.cons _ _ (.cons _ _ (.cons _ _ .nil))) fun p hp => N p (by
  simp only [List.mem_cons] at hp ⊢
  rcases hp with q | q | q | q
  · exact .inr (.inl q)
  · exact .inl q
  · exact .inr (.inr (.inl q))
  · exact .inr (.inr (.inr q)))
theorem step_ok (x : Int) : ((2 + x.fmod 4).toNat : Int) = 2 + x.fmod 4 ∧ 2 ≤ (2 + x.fmod 4).toNat ∧ (2 + x.fmod 4).toNat ≤ 5 := by
  have := fm x (n := 4) (by decide)
  omega
theorem seg2 {w : World} {L a : Addr} {cdv : Value} {A₀ : Around} {h₀ : Heap} {m : Str → Option Value} {s : Shared} {Q : Flow → Shared → Prop} {R : Result → Shared → Prop}
    {mean : ExcName → Option Value} {mg mb : Str → Option Value} {loose : List Str} {D : Addr} {o1 o2 : Obj} {nvs : List Value} {nums : List Int} {nn : Nat} {sc : Scope} {body : List Stmt} {v1 v2 : Option Value}
    (hsc : lawS = sc) (hbody : lawB.drop 2 = body)
    (B : Below A₀ h₀ [] h₀) (F : Fr h₀ L s.heap m) (N : News h₀ L s.heap [(D, listOf nvs.toArray nn), (L + 1 + 1, o2), (L + 1, o1)]) (X : (hd.heap_39 w.params).In h₀) (T : Top view loose mean mg mb h₀) 
    (d1 : o1.data = .cell v1) (d2 : o2.data = .cell v2)
    (hi : IntsAre nvs nums) (hlen : nums.length = 8) (hm : m "numbers" = some (.ref D))
    (hQ : ∀ m' news' h' tk, Fr h₀ L h' m' → News h₀ L h' news' → Q (.ret (.bool true)) { s with heap := h', toks := tk }) :
    wpAny (model PySem.Challenge.rw_xn0024_01.row.prog w) (callerA.deeper (envL sc L a cdv)) (execs body (envL sc L a cdv)) Q (outL PySem.Challenge.rw_xn0024_01.row.prog w (callerA.deeper (envL sc L a cdv)) (envL sc L a cdv) R) s := by
  have hsc0 := hsc
  conv at hbody => lhs; whnf
  conv at hsc => lhs; whnf
  subst hbody hsc
  unfold envL outL
  replace F := Fr.at F hm
  walk_at "m_steps"
  refine For_invV h₀ (by rfl) (by rfl) ?_
  walk_at "m_steps"
  walk_at "m_names"
  refine led2 N9 fun d r st svs hd hr hst hsv N8 => ?_
  clear N9
  subst hd hr hst
  have k1 := step_ok nums.sum
  have k2 := step_ok (nums.sum.fdiv 4)
  have k3 := step_ok (nums.sum.fdiv 16)
  have hsN : IntsAre svs ([(2 + nums.sum.fmod 4).toNat, (2 + (nums.sum.fdiv 4).fmod 4).toNat, (2 + (nums.sum.fdiv 16).fmod 4).toNat].map Int.ofNat) := by
    have e : [(2 + nums.sum.fmod 4).toNat, (2 + (nums.sum.fdiv 4).fmod 4).toNat, (2 + (nums.sum.fdiv 16).fmod 4).toNat].map Int.ofNat = [2 + nums.sum.fmod 4, 2 + (nums.sum.fdiv 4).fmod 4, 2 + (nums.sum.fdiv 16).fmod 4] := by
      show [((2 + nums.sum.fmod 4).toNat : Int), ((2 + (nums.sum.fdiv 4).fmod 4).toNat : Int), ((2 + (nums.sum.fdiv 16).fmod 4).toNat : Int)] = _
      rw [k1.1, k2.1, k3.1]
    rw [e]; exact hsv
  have hs25 : ∀ x ∈ [(2 + nums.sum.fmod 4).toNat, (2 + (nums.sum.fdiv 4).fmod 4).toNat, (2 + (nums.sum.fdiv 16).fmod 4).toNat], 2 ≤ x ∧ x ≤ 5 := by
    intro x hx
    simp only [List.mem_cons, List.not_mem_nil, or_false] at hx
    rcases hx with rfl | rfl | rfl
    · exact k1.2
    · exact k2.2
    · exact k3.2
  refine iterL (fun i m nx => JF nums [(st, listOf svs.toArray 0), (D, listOf nvs.toArray nn), (L + 1 + 1, o2), (L + 1, o1)] st i m nx) (l := D) (vs := nvs) (nn := nn) rfl (.tail _ (.tail _ (.tail _ (.head _)))) F9 N8 ?_ ?_ ?_
  · exact ⟨r, d, 0, 0, [], [], rfl, .nil, .nil, by rfl, by rfl, by rfl⟩
  · clear F9 N8
    rintro i v m₁ news₁ h1 tk1 own hv ⟨oI, hown⟩ hne hl hJ F1 N1
    have hin : i < nums.length := by
      have := (List.getElem?_eq_some_iff.mp hv).1
      rw [hi.length] at this
      exact this
    have hk : nums[i]? = some nums[i] := by simp [hin]
    obtain ⟨t5, hv5⟩ := hi.get i nums[i] hk
    rw [hv5] at hv
    obtain rfl := (Option.some.inj hv).symm
    exact turn1 (s := { s with heap := h1, toks := tk1 }) (ol := listOf nvs.toArray nn) hsc0 rfl B X T F1 N1 hk (by omega) hown hne (.tail _ (.head _)) hJ
  · clear F9 N8
    intro m₁ news₁ h1 tk1 hl hJ F1 N1
    rw [hi.length, hlen] at hJ
    obtain ⟨r', d', n1, n2, vs', us', rfl, hvs', hus', hmr', hmd', hms'⟩ := hJ
    exact seg7 (s := { s with heap := h1, toks := tk1 }) hsc0 rfl B X T F1 hmr' hmd' hms' N1 (txt_len nums 8) (.head _) (.tail _ (.tail _ (.tail _ (.head _)))) (.tail _ (.tail _ (.head _))) d1 d2 hvs' hus' hsN rfl hs25 (txt_cleans nums 8) hQ
theorem slice_sz {vs : List Value} {ns : List Int} (h : IntsAre vs ns) (hl : ns.length ≤ 1000) : vs.toArray.size ≤ sizeLine := by
  have e : sizeLine = 2 ^ 24 := rfl
  rw [List.size_toArray, h.length]
  omega
local macro_rules | `(tactic| walk_at "subscriptTail Name Slice ref ref") => `(tactic| (k_here; (with_reducible show wpAny _ _ (subscriptTail _ (PySem.Expr.Slice _ _ none _) (Value.ref _) (Value.ref _)) _ _ _); k_dflt (refine' kmk_slice_ints ?F ?N ?l ?p ?q ?i ?m ?c ?_ ?s ?t ?z; (case F => k_asm); (case N => k_asm); (case l => kmk_list); (case p => kmk_part); (case q => kmk_part); (case i => l_ints); (case m => first | (with_reducible (refine' kmk_upto ?mx ?my)); (case mx => l_ints); (case my => decide) | (with_reducible (refine' kmk_from ?mx ?my)); (case mx => l_ints); (case my => exact Int.natCast_nonneg _)); (case c => kmk_len); (case s => with_unfolding_all rfl); (case t => kmk_pure); (case z => exact slice_sz (by l_ints) (by first | omega | decide))); intro D' ws' h' F' N' l1 hI' hC' hL'; (try k_lt l1); (try k_sweep)))
theorem nums_len (ns : List Int) : (List.take 8 ns ++ List.drop ((List.take 8 ns).length : Int).toNat [13, 55, 66, 29, 338, 504, 479, 591]).length = 8 := by
  rw [Int.toNat_natCast, List.length_append, List.length_drop, List.length_take]
  simp only [List.length_cons, List.length_nil]
  omega
theorem seg0 {w : World} {L a : Addr} {cdv : Value} {A₀ : Around} {h₀ : Heap} {m : Str → Option Value} {s : Shared} {Q : Flow → Shared → Prop} {R : Result → Shared → Prop}
    {mean : ExcName → Option Value} {mg mb : Str → Option Value} {loose : List Str} {la : Addr} {o1 o2 : Obj} {ws : List Value} {ns : List Int} {sc : Scope} {body : List Stmt} {v1 v2 : Option Value}
    (hsc : lawS = sc) (hbody : lawB = body)
    (B : Below A₀ h₀ [] h₀) (F : Fr h₀ L s.heap m) (N : News h₀ L s.heap [(L + 1 + 1, o2), (L + 1, o1)]) (X : (hd.heap_39 w.params).In h₀) (T : Top view loose mean mg mb h₀) 
    (d1 : o1.data = .cell v1) (d2 : o2.data = .cell v2)
    (hl : h₀.IsList la ws.toArray) (hi : IntsAre ws ns) (hlen : ns.length ≤ 63) (hm : m "script" = some (.ref la))
    (hQ : ∀ m' news' h' tk, Fr h₀ L h' m' → News h₀ L h' news' → Q (.ret (.bool true)) { s with heap := h', toks := tk }) :
    wpAny (model PySem.Challenge.rw_xn0024_01.row.prog w) (callerA.deeper (envL sc L a cdv)) (execs body (envL sc L a cdv)) Q (outL PySem.Challenge.rw_xn0024_01.row.prog w (callerA.deeper (envL sc L a cdv)) (envL sc L a cdv) R) s := by
  have hsc0 := hsc
  conv at hbody => lhs; whnf
  conv at hsc => lhs; whnf
  subst hbody hsc
  unfold envL outL
  replace F := Fr.at F hm
  walk_at "m_to_total"
  rename Fr _ _ _ _ => F9
  rename News _ _ _ _ => N9
  rename (IntsAre _ (_ ++ _)) => hI
  refine seg2 (s := { s with heap := _, toks := _ }) (nn := 0) hsc0 rfl B F9 (fun p hp => N9 p ?_) X T d1 d2 hI (nums_len ns) (by rfl) hQ
  simp only [List.mem_cons, List.not_mem_nil, or_false] at hp ⊢
  rcases hp with q | q | q
  · exact .inl q
  · exact .inr (.inr (.inr (.inr (.inr (.inl q)))))
  · exact .inr (.inr (.inr (.inr (.inr (.inr q)))))

-- W9
theorem rsW9 : True := by
  w_top off
  trivial
theorem wp_abs {M : Model} {A : Around} {t : Sem Flow} {Q : Flow → Shared → Prop} {E : Value → Shared → Prop} {s : Shared} {h₀ : Heap} {L : Addr} {m : Str → Option Value} (_F : Fr h₀ L s.heap m)
    (fin : ∀ m' news' h' tk v t, Fr h₀ L h' m' → News h₀ L h' news' → v = Value.bool true → Q (.ret v) { s with heap := h', toks := t + tk })
    (h : ∀ Q' : Flow → Shared → Prop, (∀ m' news' h' tk, Fr h₀ L h' m' → News h₀ L h' news' → Q' (.ret (.bool true)) { s with heap := h', toks := tk }) → wpAny M A t Q' E s) : wpAny M A t Q E s :=
  h Q fun m' news' h' tk F N => by have := fin m' news' h' tk _ 0 F N rfl; rwa [Nat.zero_add] at this
theorem abs_la {h : Heap} {la : Addr} {arr : Array Value} (_ : h.IsList la arr) {P : Prop} (k : ∀ l, l = la → P) : P := k la rfl
theorem fr_bind {h₀ h : Heap} {L : Addr} {kd : Str → Option NameKind} {l l' : List (Str × Value)} {f : Str → Option Value} (F : Fr h₀ L h (bindL kd l f)) (e : l = l') : Fr h₀ L h (bindL kd l' f) := e ▸ F
theorem law_holds : PySem.Challenge.rw_xn0024_01.Holds := hd (by 
  k_go0
  rename Fr _ _ _ _ => F9
  rename News _ _ _ _ => N9
  refine wp_abs F9 ?_ ?_
  · intro m' news' h' tk v t F8 N8 hv
    subst hv
    try (rename CellsAre .. => j; clear j)
    dsimp only at *
    k_end
    wrow_close
  · intro Q' hQ
    rename Top .. => T9
    rename Below .. => B9
    rename Frag.In .. => X9
    rename IntsAre .. => I9
    rename Heap.IsList .. => L9
    try (rename Ground .. => j; clear j)
    try (rename Glob .. => j; clear j)
    try (rename LooseAre .. => j; clear j)
    try (rename Flt.MathXP .. => j; clear j)
    try (rename TopE .. => j; clear j)
    try (rename TopW .. => j; clear j)
    try (rename Tables .. => j; clear j)
    try (rename BMod .. => j; clear j)
    try (rename Dflts .. => j; clear j)
    try (rename Reads .. => j; clear j)
    try (rename ReadsAllW .. => j; clear j)
    try (rename Well .. => j; clear j)
    try (rename ReadsAll .. => j; clear j)
    try (rename Heap.CodeRec .. => j; clear j)
    try (rename CellsAre .. => j; clear j)
    dsimp only at *
    refine abs_la L9 fun la hla => ?_
    subst hla
    replace F9 := fr_bind (l' := [(Str.ofString "script", Value.ref la)]) F9 (by with_unfolding_all rfl)
    rename (_ = Data.cell (bindC _ _ _ _)) => d1
    replace d1 := d1.trans (congrArg Data.cell (show _ = none by with_unfolding_all rfl))
    rename (_ = Data.cell (bindC _ _ _ _)) => d2
    replace d2 := d2.trans (congrArg Data.cell (show _ = none by with_unfolding_all rfl))
    have hlen9 : _ ≤ 63 := Nat.le_of_not_lt fun hlt9 => absurd (Int.ofNat_lt.mpr hlt9) (by assumption)
    exact seg0 (s := { heap := _, gens := _, drawn := _, toks := _, os := _ }) rfl rfl B9 F9 N9 X9 T9 d1 d2 L9 I9 hlen9 (by rfl) hQ)

end
end Mine

theorem PySem.Challenge.cw_xn0024_01_holds : PySem.Challenge.rw_xn0024_01.Holds :=
  Mine.law_holds
