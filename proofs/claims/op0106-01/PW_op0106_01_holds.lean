import PyProof.Rows.All
import Wide.All
import OpenK.AllK
import Wide.FinOn
import Lean
import PySem.Challenge.RW_op0106_01
set_option rowWalk.seconds 0
open PySem PySem.W PyProof.Rows
set_option Elab.async false
set_option maxRecDepth 100000
set_option maxHeartbeats 8000000
namespace Mine
/-- the text without its names of the files -/
noncomputable def vw : Program := { PySem.Challenge.pw_op0106_01 with main := { PySem.Challenge.pw_op0106_01.main with body := [1, 2, 3, 4, 5, 6, 7, 9, 10, 11, 12, 13, 15, 17, 18, 19].filterMap fun i => PySem.Challenge.pw_op0106_01.main.body[i]? } }
section
local macro_rules | `(tactic| o_law) => `(tactic| refine holds_law (by kernel_rfl) fun said => ?_)
local macro_rules | `(tactic| o_head $H) => `(tactic| (
  refine holds_open (q := vw) (loose := []) (Xt := fun s => xlAt vw [] s && recOk (RowW.records (OpenRow.toRowW (OpenLaw.row PySem.Challenge.rw_op0106_01))) s) (XP := XL vw []) (Yf := Hook.obs $H) (Ya := Hook.val $H) (YP := Hook.says $H) (N := 1202) ?hl (Hook.of $H) (Hook.keeps $H) (fun s e => xl_of s (Bool.and_eq_true_iff.mp e).1) XL.keeps (by rfl) (by rfl) (by rfl) (fun s e => recFacts_of (Bool.and_eq_true_iff.mp e).2) (by rfl) (by first | assumption | decide +kernel) (by decide +kernel) ⟨rfl, rfl, rfl, rfl, rfl, by decide +kernel⟩ ?hw ?hc;
  (case hl => exact fun w => by kernel_rfl)))
open_top hd for PySem.Challenge.rw_op0106_01
end
local macro_rules | `(tactic| walk_at $s:str) => do `(tactic| k_extra $(Lean.Syntax.mkStrLit ("=" ++ s.getString)))
open PySem PySem.W PySem.Calls PyProof.Rows
set_option Elab.async false
set_option maxRecDepth 100000
/-- what a callee leaves alone -/
def FrR (s : Shared) (sub : List (Addr × Obj)) (R : Result → Shared → Prop) (r : Result) (s' : Shared) : Prop :=
  (∀ b o, s.heap.get? b = some o → b ∉ sub.map (·.1) → s'.heap.get? b = some o) → R r s'
section
variable {prog : Program} {w : World} {A A₀ : Around} {s : Shared} {K : Frag} {L : Addr} {h₀ base : Heap} {m mg mb : Str → Option Value} {news sub : List (Addr × Obj)} {p : Program} {loose : List Str} {mean : ExcName → Option Value}
theorem code_defF {env : Env} {outer : List Env} {R : Result → Shared → Prop} {name qual : Str} {params : Arguments} {body : List Stmt} {scope : Scope} {dV kV doc pm cdv ct oc : Value} {an od : Option Addr} {osl : Array (Option Value)} {f : Addr} {args : Args} {binds : List (Str × Value)}
    (B : Below A₀ base outer h₀) (F : Fr h₀ L s.heap m) (X₀ : K.In h₀) (N : News h₀ L s.heap sub) (T : Top p loose mean mg mb h₀) (hA : A.frames = some (env :: outer)) (hf : env.frame = some L) (hke : env.scope.kind = .function)
    (ho : K.lookup f = some ⟨oc, od, .func (fnOf name qual params body scope dV kV doc pm an cdv ct), osl⟩) (hcd : codeIn K cdv qual = true) (hroom : A.depth < recursionLimit)
    (hbind : BindsTo s (fnOf name qual params body scope dV kV doc pm an cdv ct) args binds) (hloc : ∀ y ∈ binds, scope.names.lookup y.1 = some .local)
    (h : ∀ g L' h₁, Fr h₀ L g m → Fr g L' h₁ (fun y => binds.reverse.lookup y) → News g L' h₁ sub → Below A base (env :: outer) g → K.In g → Top p loose mean mg mb g → (∀ p ∈ sub, p.1 < L') → (∀ b o, s.heap.get? b = some o → b ∉ sub.map (·.1) → g.get? b = some o) →
      wpAny (model prog w) (A.deeper (envOf qual scope L' f cdv)) (execs body (envOf qual scope L' f cdv))
        (fun fl s' => LeaveK h₀ L m g (FrR s sub R) (match fl with | .ret v => v | _ => .none) s')
        (fun e s' => wpAny (model prog w) (A.deeper (envOf qual scope L' f cdv)) (leaving (envOf qual scope L' f cdv) e) (fun _ s'' => R (.error e) s'') (fun e' s'' => R (.error e') s'') s')
        { s with heap := h₁, toks := s.toks + binds.length })
    (hco : scope.isCoroutine = false) (hgen : scope.isGenerator = false) (hk : scope.kind = .function)
    (hcell : ∀ x ∈ scope.names, x.2 ≠ .cell) : codeAny (model prog w) A (.call (.ref f) args) R s := by
  obtain ⟨FG, BG, st, lv⟩ := groundX (R := FrR s sub R) B F N hA hf hke
  refine codeAny_call_def (fd := fnOf name qual params body scope dV kV doc pm an cdv ct) (body := body) (binds := binds) hroom ((X₀.keeps F.keep) _ _ ho) rfl (T.nolimit.keeps F.keep) (codeRec_of (X₀.keeps F.keep) hcd) rfl hbind hcell hloc (fun h₁ hns hk₁ => ?_) hco hgen hk
  refine wpAny_mono (h _ s.heap.objs.size h₁ FG ⟨hns, fun b o e => hk₁ b o (of_hideAll _ e), Nat.le_of_eq (hideAll_size _ _)⟩
    (fun p hp => ⟨hk₁ _ _ (N p hp).1, Nat.ne_of_lt (Heap.lt_size (N p hp).1), hideAll_none _ (List.mem_map_of_mem hp)⟩) BG (X₀.keeps st) (T.keeps st) (fun p hp => Heap.lt_size (N p hp).1) (fun b o e hb => hideAll_get _ e hb)) (fun fl s' hl => ?_) fun _ _ y => y
  have q := lv _ _ hl
  obtain ⟨L', m', news', F', N', k⟩ := hl
  exact q fun b o e hb => F'.keep b o (hideAll_get _ e hb)
end
/-- a call that changes one list of ints alone -/
def MutL (w : World) (f : Addr) (need : Nat) (args : List Value) (ns : List Int) (Post : Value → List Int → Prop) : Prop :=
  ∀ (loose : List Str) (mean : ExcName → Option Value) (mg mb : Str → Option Value) (dp un : Nat) (gd : Option (List Code)) (cn : Str) (cs : Scope) (a : Addr) (ccd : Value) (cl : List (Str × Addr)) (outer : List Env) (A₀ : Around) (base h₀ : Heap) (L : Addr) (m : Str → Option Value)
    (news : List (Addr × Obj)) (g : Obj → List (Addr × Obj)) (s : Shared) (l : Addr) (vs : List Value) (n : Nat) (Q E : Value → Shared → Prop),
    Below A₀ base outer h₀ → Fr h₀ L s.heap m → (hd.heap_1 w.params).In h₀ → News h₀ L s.heap news → Top topProg loose mean mg mb h₀ → cs.kind = .function →
    UpdF l (listOf vs.toArray n) news g → IntsAre vs ns → dp + need < recursionLimit →
    (∀ r vs' ns' n' h' tk', Post r ns' → IntsAre vs' ns' → Fr h₀ L h' m → News h₀ L h' (g (listOf vs'.toArray n')) → Q r { s with heap := h', toks := tk' }) →
    wpAny (model PySem.Challenge.rw_op0106_01.row.prog w) (ktrTop dp un gd cn cs L a ccd cl outer) (call (.ref f) (.ref l :: args)) Q E s
theorem news_frame {h₀ h h' : Heap} {L l : Addr} {news : List (Addr × Obj)} {g : Obj → List (Addr × Obj)} {o o' : Obj} (N : News h₀ L h news) (U : UpdF l o news g)
    (hfr : ∀ b o, h.get? b = some o → b ∉ [(l, o)].map (·.1) → h'.get? b = some o) (N' : News h₀ L h' [(l, o')]) : News h₀ L h' (g o') := by
  obtain ⟨pre, post, rfl, hg, a, b⟩ := U.split
  rw [hg]
  intro p hp
  rcases List.mem_append.mp hp with q | q
  · have z := N p (List.mem_append_left _ q)
    exact ⟨hfr _ _ z.1 (by simpa using a p q), z.2⟩
  · rcases List.mem_cons.mp q with rfl | q
    · exact N' _ (.head _)
    · have z := N p (List.mem_append_right _ (.tail _ q))
      exact ⟨hfr _ _ z.1 (by simpa using b p q), z.2⟩
theorem news_frameM {h₀ h h' : Heap} {L l : Addr} {news big : List (Addr × Obj)} {g : Obj → List (Addr × Obj)} {o o' : Obj} (N : News h₀ L h news) (U : UpdF l o news g)
    (hfr : ∀ b o, h.get? b = some o → b ∉ [(l, o)].map (·.1) → h'.get? b = some o) (N' : News h₀ L h' big) (hm : (l, o') ∈ big) : News h₀ L h' (g o') :=
  news_frame N U hfr fun p hp => by rcases List.mem_singleton.mp hp with rfl; exact N' _ hm
theorem news_add {h₀ h' : Heap} {L : Addr} {x : Addr × Obj} {big rest : List (Addr × Obj)} (N' : News h₀ L h' big) (hm : x ∈ big) (R : News h₀ L h' rest) : News h₀ L h' (x :: rest) := fun p hp => by
  rcases List.mem_cons.mp hp with rfl | q
  · exact N' _ hm
  · exact R _ q
theorem ne_new {h₀ h g h' : Heap} {L L' l D : Addr} {news big : List (Addr × Obj)} {oD : Obj} (hg : ∀ b o, h.get? b = some o → b ∉ [(l, o)].map (·.1) → g.get? b = some o) (N : News h₀ L h news) (N' : News g L' h' big) (hD : (D, oD) ∈ big) (hl : l ≠ D) : ∀ p ∈ news, p.1 ≠ D := fun p hp e => by
  have z := (N' _ hD).2.2
  rw [hg D p.2 (e ▸ (N p hp).1) (by simpa using fun h : D = l => hl h.symm)] at z
  cases z
section
variable {w : World} {f : Addr} {need : Nat} {args : List Value} {ns : List Int} {Post : Value → List Int → Prop} {loose : List Str} {mean : ExcName → Option Value} {mg mb : Str → Option Value} {dp un : Nat} {gd : Option (List Code)} {cn : Str} {cs : Scope} {a : Addr} {ccd : Value} {cl : List (Str × Addr)} {outer : List Env} {A₀ : Around} {base h₀ : Heap} {L : Addr} {m : Str → Option Value}
    {news : List (Addr × Obj)} {g : Obj → List (Addr × Obj)} {s : Shared} {l : Addr} {vs : List Value} {n : Nat} {Q E : Value → Shared → Prop}
theorem mut_use (C : MutL w f need args ns Post) (B : Below A₀ base outer h₀) (F : Fr h₀ L s.heap m) (X : (hd.heap_1 w.params).In h₀) (N : News h₀ L s.heap news) (T : Top topProg loose mean mg mb h₀) (hk : cs.kind = .function)
    (U : UpdF l (listOf vs.toArray n) news g) (hI : IntsAre vs ns) (hd : dp + need < recursionLimit)
    (ret : ∀ r vs' ns' n' h' tk', Post r ns' → IntsAre vs' ns' → Fr h₀ L h' m → News h₀ L h' (g (listOf vs'.toArray n')) → Q r { s with heap := h', toks := tk' }) :
    wpAny (model PySem.Challenge.rw_op0106_01.row.prog w) (ktrTop dp un gd cn cs L a ccd cl outer) (call (.ref f) (.ref l :: args)) Q E s :=
  C _ _ _ _ _ _ _ _ _ _ _ _ _ _ _ _ _ _ _ _ _ _ _ _ _ _ B F X N T hk U hI hd ret
theorem news_one {o : Obj} {h : Heap} (N : News h₀ L h news) (U : UpdF l o news g) : News h₀ L h [(l, o)] := fun p hp => by
  rcases List.mem_singleton.mp hp with rfl
  obtain ⟨pre, post, rfl, _⟩ := U.split
  exact N _ (List.mem_append_right _ (.head _))
end
theorem truthy_ints {prog : Program} {w : World} {A : Around} {E : Value → Shared → Prop} {s : Shared} {h₀ : Heap} {L a : Addr} {news : List (Addr × Obj)} {vs : List Value} {ns : List Int} {n : Nat} {Q : Bool → Shared → Prop} (N : News h₀ L s.heap news) (hm : (a, listOf vs.toArray n) ∈ news) (hi : IntsAre vs ns) (hf : ns.length < 1000000)
    (h1 : ns.length = 0 → Q false { s with toks := s.toks + 1 + 1 }) (h2 : 0 < ns.length → Q true { s with toks := s.toks + 1 + 1 }) : wpAny (model prog w) A (truthy (.ref a)) Q E s := by
  have hl := hi.length
  refine kgr_truthy N hm rfl rfl (by omega) ?_
  cases vs with
  | nil => exact h1 (by simpa using hl.symm)
  | cons x r => exact h2 (by simp only [List.length_cons] at hl; omega)
theorem eq_nil_ints {prog : Program} {w : World} {A : Around} {E : Value → Shared → Prop} {s : Shared} {a b : Addr} {xs : List Value} {ns : List Int} {Q : Value → Shared → Prop} (ha : s.heap.IsList a xs.toArray) (hb : s.heap.IsList b ([] : List Value).toArray) (hi : IntsAre xs ns) (hu : A.units + 64 < cLine)
    (h1 : ns.length = 0 → Q (.bool true) s) (h2 : 0 < ns.length → Q (.bool false) s) : wpAny (model prog w) A (compareOp .Eq (.ref a) (.ref b)) Q E s := by
  refine ke_eq_ints ha hb hi .nil hu ?_
  cases ns with
  | nil => exact h1 rfl
  | cons x r => exact h2 (Nat.succ_pos _)
theorem ne_nil_ints {prog : Program} {w : World} {A : Around} {E : Value → Shared → Prop} {s : Shared} {a b : Addr} {xs : List Value} {ns : List Int} {Q : Value → Shared → Prop} (ha : s.heap.IsList a xs.toArray) (hb : s.heap.IsList b ([] : List Value).toArray) (hi : IntsAre xs ns) (hu : A.units + 64 < cLine)
    (h1 : ns.length = 0 → Q (.bool false) s) (h2 : 0 < ns.length → Q (.bool true) s) : wpAny (model prog w) A (compareOp .NotEq (.ref a) (.ref b)) Q E s := by
  refine ke_ne_ints ha hb hi .nil hu ?_
  cases ns with
  | nil => exact h1 rfl
  | cons x r => exact h2 (Nat.succ_pos _)
section
variable {prog : Program} {w : World} {A : Around} {E : Value → Shared → Prop} {s : Shared} {h₀ : Heap} {L D b : Addr} {m : Str → Option Value} {news : List (Addr × Obj)} {g : Obj → List (Addr × Obj)} {ys zs : List Value} {ns ms : List Int} {n n2 : Nat} {Q : Value → Shared → Prop}
theorem extend_U (F : Fr h₀ L s.heap m) (N : News h₀ L s.heap news) (U : UpdF D (listOf ys.toArray n) news g) (hb : (b, listOf zs.toArray n2) ∈ news) (hi : IntsAre ys ns) (hj : IntsAre zs ms) (hz : ns.length + ms.length ≤ 1000000)
    (h : ∀ h' us n', Fr h₀ L h' m → News h₀ L h' (g (listOf (us : List Value).toArray n')) → IntsAre us (ns ++ ms) → Q .none { s with heap := h' }) : wpAny (model prog w) A (call (.builtin "list.extend") [.ref D, .ref b]) Q E s := by
  obtain ⟨pre, post, rfl, hg, a, c⟩ := U.split
  have h1 := hi.length
  have h2 := hj.length
  refine extend_in_ints F N a c (N _ hb).1 hi (by simpa using hj) (fun h' n' F' N' hI' => h h' _ n' F' ?_ hI') (by rw [sizeLine_eq, List.size_toArray]; omega)
  rw [hg]
  exact N'
theorem upd_of {D : Addr} {o o' : Obj} {post : List (Addr × Obj)} (c : ∀ p ∈ post, p.1 ≠ D) : ∀ (pre : List (Addr × Obj)), (∀ p ∈ pre, p.1 ≠ D) → Upd D o o' (pre ++ (D, o) :: post) (pre ++ (D, o') :: post)
  | [], _ => .head c
  | p :: r, hp => .tail (hp p (.head _)) (upd_of c r fun q hq => hp q (.tail _ hq))
theorem pop_U (F : Fr h₀ L s.heap m) (N : News h₀ L s.heap news) (U : UpdF D (listOf ys.toArray n) news g) (hi : IntsAre ys ns) (h0 : 0 < ns.length) (hz : ns.length ≤ 1000000)
    (h : ∀ h' us n' t, Fr h₀ L h' m → News h₀ L h' (g (listOf (us : List Value).toArray n')) → IntsAre us ns.dropLast → Q (.int (ns.getLastD 0) t) { s with heap := h' }) : wpAny (model prog w) A (call (.builtin "list.pop") [.ref D]) Q E s := by
  obtain ⟨pre, post, rfl, hg, a, c⟩ := U.split
  have h1 := hi.length
  exact kpa_pop F N (upd_of c pre a) hi (by omega) (by rw [sizeLine_eq]; omega) fun h' t F' N' hI' => h h' _ _ t F' (hg _ ▸ N') hI'
theorem append_U {x : Int} {t : Tok} (F : Fr h₀ L s.heap m) (N : News h₀ L s.heap news) (U : UpdF D (listOf ys.toArray n) news g) (hi : IntsAre ys ns) (hz : ns.length ≤ 1000000)
    (h : ∀ h' us n', Fr h₀ L h' m → News h₀ L h' (g (listOf (us : List Value).toArray n')) → IntsAre us (ns ++ [x]) → Q .none { s with heap := h' }) : wpAny (model prog w) A (call (.builtin "list.append") [.ref D, .int x t]) Q E s := by
  obtain ⟨pre, post, rfl, hg, a, c⟩ := U.split
  have h1 := hi.length
  have U' : ∀ (pre : List (Addr × Obj)), (∀ p ∈ pre, p.1 ≠ D) → Upd D (listOf ys.toArray n) (listOf (ys.toArray.push (.int x t)) (n + 1)) (pre ++ (D, listOf ys.toArray n) :: post) (pre ++ (D, listOf (ys.toArray.push (.int x t)) (n + 1)) :: post) := by
    intro pre
    induction pre with
    | nil => intro _; exact .head c
    | cons p r ih => intro hp; exact .tail (hp p (.head _)) (ih fun q hq => hp q (.tail _ hq))
  refine append_K F N (U' pre a) (fun h' F' N' => h h' (ys ++ [.int x t]) (n + 1) F' ?_ (hi.append (.cons x t .nil))) (by rw [sizeLine_eq]; simp; omega)
  rw [hg, show (ys ++ [Value.int x t]).toArray = ys.toArray.push (.int x t) from by simp]
  exact N'
end
theorem mul_small {prog : Program} {w : World} {A : Around} {E : Value → Shared → Prop} {s : Shared} {a b : Int} {t u : Tok} {Q : Value → Shared → Prop} (ha : a = 2 ∨ a = 4) (h0 : 0 ≤ b) (h1 : b ≤ 4) (h : ∀ p, p = a * b → 0 ≤ p → p ≤ 16 → Q (.int p s.toks) { s with toks := s.toks + 1 }) :
    wpAny (model prog w) A (binaryOp .Mult (.int a t) (.int b u)) Q E s := by
  rcases ha with rfl | rfl
  · exact mul_int (h _ rfl (by omega) (by omega))
  · exact mul_int (h _ rfl (by omega) (by omega))
theorem int_ex {a b : Int} {t : Tok} (h : a = b) : ∃ t', Value.int a t = Value.int b t' := ⟨t, by rw [h]⟩
theorem rshift1 {prog : Program} {w : World} {A : Around} {E : Value → Shared → Prop} {s : Shared} {a : Int} {t u : Tok} {Q : Value → Shared → Prop} (h : Q (.int (a / 2) s.toks) { s with toks := s.toks + 1 }) : wpAny (model prog w) A (binaryOp .RShift (.int a t) (.int 1 u)) Q E s :=
  rshift_int (by decide) (by rw [show a.fdiv (2 ^ (1 : Int).toNat) = a / 2 from Int.fdiv_eq_ediv_of_nonneg _ (by decide)]; exact h)
open PySem PySem.W PySem.Calls PyProof.Rows
set_option Elab.async false
set_option maxRecDepth 100000
set_option linter.unusedVariables false
abbrev revRangeObj (k : Int) : Obj := { cls := .type "range_iterator", data := .fields #[rawInt (k - 1), rawInt k, rawInt (-1)] }
theorem rangeSize_up0 {k : Int} (h0 : 0 ≤ k) : Builtin.Range.rangeSize 0 k 1 = k := by
  unfold Builtin.Range.rangeSize
  simp only [show (1 : Int) > 0 by decide, if_true, Int.ediv_one]
  split <;> omega
theorem rev_meets (r : Addr) (k : Int) (t u v : Tok) (h0 : 0 ≤ k) (h1 : k < 2 ^ 62) :
    Meets (Builtin.«range.__reversed__» ⟨[.ref r], []⟩) (fun _ R s => s.heap.get? r = some { cls := .type "range", dict := none, data := .fields #[.int 0 t, .int k u, .int 1 v], slots := #[] } ∧ R (.ok (.ret (Value.ref s.heap.objs.size))) { s with heap := s.heap.push (revRangeObj k) }) :=
  .of_wp fun prog w A R s h => by
    have hs : (Builtin.Range.rangeFitsLong 0 && Builtin.Range.rangeFitsLong k && Builtin.Range.rangeFitsLong 1 && Builtin.Range.rangeFitsLong (-1) && Builtin.Range.rangeFitsLong (0 - 1) && Builtin.Range.rangeFitsLong (Builtin.Range.rangeSize 0 k 1)) = true := by
      rw [rangeSize_up0 h0]
      simp only [Builtin.Range.rangeFitsLong, Bool.and_eq_true, decide_eq_true_eq]
      omega
    have hn : (0 : Int) + (Builtin.Range.rangeSize 0 k 1 - 1) * 1 = k - 1 := by rw [rangeSize_up0 h0]; omega
    obtain ⟨hp, g, d, tk, os⟩ := s; obtain ⟨hl, h⟩ := h
    wp_walk
    rw [hs, hn, rangeSize_up0 h0]
    simp only [Bool.not_true, Bool.false_eq_true, if_false, if_true]
    wp_walk
    exact ⟨_, rfl, h⟩
section
variable {prog : Program} {w : World} {A : Around} {E : Value → Shared → Prop} {s : Shared}
theorem call_range_rev {r : Addr} {k : Int} {t u v : Tok} {Q : Value → Shared → Prop} (hr : IsRange s.heap r 0 k 1 t u v) (h0 : 0 ≤ k) (h1 : k < 2 ^ 62)
    (h : Q (.ref s.heap.objs.size) { s with heap := s.heap.push (revRangeObj k) }) : wpAny (model prog w) A (call (.builtin "range.__reversed__") [.ref r]) Q E s := by
  have hT : s.TypeIs (.ref r) "range" := ⟨_, hr, rfl⟩
  exact call_meets F.slot_range_reversed hT F.entry_range_reversed (F.args_range_reversed_1 _) (rev_meets r k t u v h0 h1) ⟨hr, h⟩
theorem code_reversed_range {r : Addr} {k : Int} {t u v : Tok} {Q₁ : Value → Shared → Prop} (hr : IsRange s.heap r 0 k 1 t u v) (h0 : 0 ≤ k) (h1 : k < 2 ^ 62)
    (h : Q₁ (.ref s.heap.objs.size) { s with heap := s.heap.push (revRangeObj k) }) :
    codeAny (model prog w) A (.call (.builtin "reversed.__new__") ⟨[.type "reversed", .ref r], []⟩) (wants Q₁ E) s := by
  have hT : s.TypeIs (.ref r) "range" := ⟨_, hr, rfl⟩
  refine codeAny_of_tree ?_
  show wpAny _ A.in1 (do checkBuiltinCall "reversed.__new__" ⟨[.type "reversed", .ref r], []⟩; again (.builtin "reversed.__new__" ⟨[.type "reversed", .ref r], []⟩)) _ _ s
  refine wpAny_bind (wpAny_of_eq (F.newCall_reversed_1 _) (wpAny_pure ⟨plainId_quiet F.plain_reversed_new _, codeAny_builtin F.entry_reversed_new ?_⟩))
  rw [Around.under_plainId F.plain_reversed_new _]
  unfold Builtin.«reversed.__new__»
  refine wpAny_bind (wpAny_of_eq (newClass_reversed _) ?_)
  try dsimp only
  refine wpAny_bind (wpAny_of_eq (a := ()) (by first | rfl | kernel_rfl) ?_)
  refine wpAny_bind (wpAny_of_eq (a := ()) (by first | rfl | kernel_rfl) ?_)
  try dsimp only
  refine wpAny_bind (wpAny_specialOf hT F.slot_range_reversed.lookup ?_)
  try dsimp only
  refine wpAny_bind (wpAny_of_eq (F.slot_range_reversed.bind _) ?_)
  try dsimp only
  first
  | rw [if_neg (show ¬ ((Value.builtin "range.__reversed__" == Value.none) = true) from Bool.false_ne_true)]
  | (show wpAny _ _ (if (Value.builtin "range.__reversed__" == Value.none) = true then _ else _) _ _ _; rw [if_neg (show ¬ ((Value.builtin "range.__reversed__" == Value.none) = true) from Bool.false_ne_true)])
  refine wpAny_bind (wpAny_rule ?_)
  refine wpAny_bind (m := runValue (.call (.builtin "range.__reversed__") ⟨[.ref r], []⟩)) (show wpAny _ _ (call (.builtin "range.__reversed__") [.ref r]) _ _ _ from call_range_rev hr h0 h1 ?_)
  first
  | exact wpAny_pure h
  | exact wpAny_bind (wpAny_pure (wpAny_pure h))
theorem sub_ri_reversed : isSubtype (.type "range_iterator") (.type "reversed") = pure false := by rw [isSubtype_type]; kernel_rfl
theorem call_reversed_range {r : Addr} {k : Int} {t u v : Tok} {Q : Value → Shared → Prop} (hr : IsRange s.heap r 0 k 1 t u v) (h0 : 0 ≤ k) (h1 : k < 2 ^ 62)
    (h : Q (.ref s.heap.objs.size) { s with heap := s.heap.push (revRangeObj k) }) : wpAny (model prog w) A (call (.type "reversed") [.ref r]) Q E s := by
  refine callType_other (U := "range_iterator") (Q₁ := fun obj s₁ => obj = .ref s.heap.objs.size ∧ s₁ = { s with heap := s.heap.push (revRangeObj k) }) (by decide +kernel) F.create_reversed ⟨_, _, F.mro_reversed⟩ F.made_reversed sub_ri_reversed (F.typeCall_reversed_1 _) (code_reversed_range hr h0 h1 ⟨rfl, rfl⟩) ?_
  rintro obj s₁ ⟨rfl, rfl⟩
  exact ⟨⟨_, Heap.get?_push_size _ rfl, rfl⟩, h⟩
theorem reversed_range_N {h₀ : Heap} {L : Addr} {m : Str → Option Value} {news : List (Addr × Obj)} {r : Addr} {k : Int} {t u v : Tok} {Q : Value → Shared → Prop} (F : Fr h₀ L s.heap m) (N : News h₀ L s.heap news) (hr : IsRange s.heap r 0 k 1 t u v) (h0 : 0 ≤ k) (h1 : k < 2 ^ 62)
    (h : ∀ D h', Fr h₀ L h' m → News h₀ L h' ((D, revRangeObj k) :: news) → (∀ p ∈ news, p.1 < D) → Q (.ref D) { s with heap := h' }) : wpAny (model prog w) A (call (.type "reversed") [.ref r]) Q E s :=
  call_reversed_range hr h0 h1 (h _ _ (F.push _) (N.push F _) fun p hp => Heap.lt_size (N p hp).1)
end
section
variable {prog : Program} {w : World} {A : Around} {E : Value → Shared → Prop} {s : Shared} {env : Env} {h₀ : Heap} {x : Str} {body : List Stmt} {Q : Flow → Shared → Prop}
/-- a loop over reversed(range(n)), by what holds between its turns -/
theorem kst_revRange {σ : Type} {I : Addr} {n : Nat} {m₀ : Str → Option Value} {news : List (Addr × Obj)} (Led : σ → List (Addr × Obj)) (ps : σ → List (Str × Value)) (Facts : σ → Prop) (stored : List Str) (P : List Int → σ → Prop) (c₀ : σ)
    (hh : A.handled = none) (F : Fr h₀ env.locals s.heap m₀) (N : News h₀ env.locals s.heap news) (hI : (I, revRangeObj (n : Int)) ∈ news) (hL : ∀ p ∈ Led c₀, p ∈ news) (hne : ∀ p ∈ Led c₀, p.1 ≠ I) (hf : Facts c₀) (hk : ∀ p ∈ ps c₀, m₀ p.1 = some p.2) (hp : P [] c₀)
    (turn : ∀ (c : σ) (pre : List Int) (k : Int) t (u : Str → Option Value) h tk own, k = (n : Int) - 1 - (pre.length : Int) → pre.length < n → OwnOff own ((Led c₀).map (·.1)) → Facts c → P pre c →
      Fr h₀ env.locals h (fun y => if y = x then some (.int k t) else kstB (fun z => if stored.contains z then u z else m₀ z) (ps c) y) → News h₀ env.locals h (Led c ++ own) →
      wpAny (model prog w) A (execs body env) (InvPostN h₀ env.locals (KstS Led ps Facts x stored m₀ P (pre ++ [k])) own ((Led c₀).map (·.1)) { s with heap := h, toks := tk } Q) E { s with heap := h, toks := tk })
    (done : ∀ (c : σ) (u : Str → Option Value) h tk, Facts c → P (downKs ((n : Int) - 1) n) c → Fr h₀ env.locals h (fun y => if y = x then u y else kstB (fun z => if stored.contains z then u z else m₀ z) (ps c) y) → News h₀ env.locals h (Led c) → Q .next { s with heap := h, toks := tk }) :
    wpAny (model prog w) A (pyIter (.ref I)) (fun it s₂ => LoopAtV prog w A h₀ env x body Q E it s₂) E s := by
  have zI := N _ hI
  have hit : IsRangeIter s.heap I ((n : Int) - 1) n (-1) := zI.1
  refine wpAny_pyIter_rangeiter hit ?_
  have W : Walks prog w A I [I] [I] n (fun i v => i < n ∧ ∃ t, v = .int (((n : Int) - 1) + i * (-1)) t)
      (fun i h => IsRangeIter h I (((n : Int) - 1) + (i : Nat) * (-1)) ((n : Int) - (i : Nat)) (-1)) := (Walks.range hh _ ((n : Int) - 1) (-1) n).bound
  refine loop_invN (news := Led c₀) (fun i m nx => KstS Led ps Facts x stored m₀ P ((downKs ((n : Int) - 1) n).take i) m nx) W ?_ ?_ ?_ ?_ (by show IsRangeIter _ _ _ _ _; simpa using hit) F (fun p hp => N p (hL p hp)) ⟨c₀, rfl, hf, hk, fun _ _ _ _ => rfl, by simpa using hp⟩ ?_ ?_
  · intro hm
    exact zI.2.1 (List.mem_singleton.mp hm).symm
  · intro b hb
    rw [List.mem_singleton.mp hb]
    exact zI.2.2
  · intro p hp hI
    exact hne p hp (List.mem_singleton.mp hI)
  · intro p hp hI
    exact hne p hp (List.mem_singleton.mp hI)
  · rintro i v m₁ nx h tk own hi ⟨_, t, rfl⟩ _ hoff ⟨c, rfl, hf', h1, h2, hp'⟩ F₁ N₁
    have e1 : ((n : Int) - 1) + (i : Int) * (-1) = ((n : Int) - 1) - (i : Int) := by omega
    rw [e1] at F₁
    have hk' : (downKs ((n : Int) - 1) n)[i]? = some (((n : Int) - 1) - (i : Int)) := by simp [downKs, hi]
    have hs : (downKs ((n : Int) - 1) n).take (i + 1) = (downKs ((n : Int) - 1) n).take i ++ [((n : Int) - 1) - (i : Int)] := by simp [List.take_add_one, hk']
    have hlen : ((downKs ((n : Int) - 1) n).take i).length = i := by rw [List.length_take, downKs_length]; omega
    rw [hs]
    exact turn c _ _ t m₁ h tk own (by rw [hlen]) (by rw [hlen]; exact hi) hoff hf' hp' (kst_fr h1 h2 F₁) N₁
  · rintro m₁ nx h tk ⟨c, rfl, hf', h1, h2, hp'⟩ F₁ N₁
    have hl : (downKs ((n : Int) - 1) n).take n = downKs ((n : Int) - 1) n := List.take_of_length_le (Nat.le_of_eq (downKs_length _ _))
    rw [hl] at hp'
    exact done c m₁ h tk hf' hp' (kst_frOut h1 h2 F₁) N₁
end
open PySem PySem.W PySem.Calls PyProof.Rows
set_option Elab.async false
set_option maxRecDepth 100000
set_option linter.unusedVariables false
theorem erase_at : ∀ {ys : List Value} {ns : List Int} {x : Int}, IntsAre ys ns → x ∈ ns →
    ∃ j, ∃ hj : j < ys.length, isInt x ys[j] = true ∧ (∀ i (hi : i < ys.length), i < j → isInt x ys[i] = false) ∧ IntsAre (ys.eraseIdx j) (ns.erase x)
  | _, _, x, .nil, h => nomatch h
  | _, _, x, .cons (vs := vs) (ns := ns) n t r, h => by
    by_cases e : n = x
    · subst e
      refine ⟨0, Nat.succ_pos _, by simp [isInt], fun i _ h => absurd h (Nat.not_lt_zero _), ?_⟩
      simpa using r
    · have hm : x ∈ ns := by
        rcases List.mem_cons.mp h with q | q
        · exact absurd q.symm e
        · exact q
      obtain ⟨j, hj, a, b, c⟩ := erase_at r hm
      refine ⟨j + 1, Nat.succ_lt_succ hj, a, fun i hi hlt => ?_, ?_⟩
      · cases i with
        | zero => simpa [isInt] using e
        | succ i => exact b i (Nat.lt_of_succ_lt_succ hi) (Nat.lt_of_succ_lt_succ hlt)
      · rw [List.eraseIdx_cons_succ, List.erase_cons, if_neg (by simpa using e)]
        exact .cons n t c
theorem no_at : ∀ {ys : List Value} {ns : List Int} {x : Int}, IntsAre ys ns → x ∉ ns → ∀ y ∈ ys, isInt x y = false
  | _, _, x, .nil, _, _, hy => nomatch hy
  | _, _, x, .cons n t r, h, y, hy => by
    rcases List.mem_cons.mp hy with rfl | hy
    · have : n ≠ x := fun e => h (by rw [e]; exact .head _)
      simpa [isInt] using this
    · exact no_at r (fun q => h (.tail _ q)) y hy
theorem eq_of_ints : ∀ {ys : List Value} {ns : List Int} {x : Int} {t : Tok}, IntsAre ys ns → ∀ y ∈ ys, MeetsSeq.EqGives y (.int x t) (isInt x y)
  | _, _, x, t, .nil, _, hy => nomatch hy
  | _, _, x, t, .cons n u r, y, hy => by
    rcases List.mem_cons.mp hy with rfl | hy
    · exact MeetsSeq.EqGives.int n x u t
    · exact eq_of_ints r y hy
section
variable {prog : Program} {w : World} {A : Around} {E : Value → Shared → Prop} {s : Shared} {h₀ : Heap} {L D : Addr} {m : Str → Option Value} {news : List (Addr × Obj)} {g : Obj → List (Addr × Obj)} {ys : List Value} {ns : List Int} {n : Nat} {Q : Value → Shared → Prop}
theorem remove_U {x : Int} {t : Tok} (hA : A.handled = none) (F : Fr h₀ L s.heap m) (N : News h₀ L s.heap news) (U : UpdF D (listOf ys.toArray n) news g) (hi : IntsAre ys ns) (hz : ns.length ≤ 1000000)
    (h2 : x ∉ ns → ∀ h' tk e, Heap.NewExc s.heap h' e "ValueError" → E (.ref e) { s with heap := h', toks := tk })
    (h1 : x ∈ ns → ∀ h' us n', Fr h₀ L h' m → News h₀ L h' (g (listOf (us : List Value).toArray n')) → IntsAre us (ns.erase x) → Q .none { s with heap := h' }) : wpAny (model prog w) A (call (.builtin "list.remove") [.ref D, .int x t]) Q E s := by
  obtain ⟨pre, post, rfl, hg, a', b'⟩ := U.split
  have z := N (D, listOf ys.toArray n) (List.mem_append.mpr (.inr (.head _)))
  have hl := hi.length
  by_cases hx : x ∈ ns
  · obtain ⟨j, hj, a, b, c⟩ := erase_at hi hx
    refine call_meets PySem.F.slot_list_remove ⟨_, z.1, rfl⟩ PySem.F.entry_list_remove (PySem.F.args_list_remove_2 _ _)
      (MeetsSeq.list_remove D ys.toArray n (.int x t) (isInt x) (fun y hy => eq_of_ints hi y (by simpa using hy)) j (by simpa using hj) (by simpa using a) (fun i hi hlt => by simpa using b i (by simpa using hi) hlt) (by rw [List.size_toArray, sizeLine_eq]; omega))
      ⟨z.1, h1 hx _ (ys.eraseIdx j) (n + 1) (F.change (Heap.SameBut.update ..) z.2.1 z.2.2) (hg _ ▸ ki_turn _ N a' b' ?_ ?_) c⟩
    · show ys.toArray.eraseIdxIfInBounds j = (ys.eraseIdx j).toArray
      apply Array.toList_inj.mp
      simp [Array.toList_eraseIdxIfInBounds]
    · have hq : (ys.eraseIdx j).toArray.size ≠ ys.toArray.size := by
        rw [List.size_toArray, List.size_toArray, List.length_eraseIdx, if_pos hj]; omega
      rw [if_neg (by simpa using hq)]
  · refine call_meets PySem.F.slot_list_remove ⟨_, z.1, rfl⟩ PySem.F.entry_list_remove (PySem.F.args_list_remove_2 _ _)
      (MeetsSeq.list_remove_none D ys.toArray n (.int x t) (isInt x) (fun y hy => eq_of_ints hi y (by simpa using hy)) (fun i hi' => by
        have := no_at hi hx ys[i] (List.getElem_mem _)
        simpa using this)) ⟨z.1, hA, h2 hx⟩
end
open PySem PySem.W PySem.Calls PyProof.Rows
set_option Elab.async false
set_option maxRecDepth 100000
set_option linter.unusedVariables false
/-- a def with a try, called from the law's own frame: it works on a sub-ledger and on the caller's frame (whose slots an exception may turn), the rest is kept -/
theorem code_defX {prog : Program} {w : World} {A : Around} {s : Shared} {h₀ : Heap} {L a : Addr} {m : Str → Option Value} {cn : Str} {cs : Scope} {ccd : Value} {sub : List (Addr × Obj)} {K : Frag} {p : Program} {loose : List Str} {mean : ExcName → Option Value} {mg mb : Str → Option Value}
    {R : Result → Shared → Prop} {name qual : Str} {params : Arguments} {body : List Stmt} {scope : Scope} {dV kV doc pm cdv ct oc : Value} {an od : Option Addr} {osl : Array (Option Value)} {f : Addr} {args : Args} {binds : List (Str × Value)}
    (F : Fr h₀ L s.heap m) (X₀ : K.In h₀) (N : News h₀ L s.heap sub) (T : Top p loose mean mg mb h₀) (hA : A.frames = some [envOf cn cs L a ccd])
    (ho : K.lookup f = some ⟨oc, od, .func (fnOf name qual params body scope dV kV doc pm an cdv ct), osl⟩) (hcd : codeIn K cdv qual = true) (hroom : A.depth < recursionLimit)
    (hbind : BindsTo s (fnOf name qual params body scope dV kV doc pm an cdv ct) args binds) (hloc : ∀ y ∈ binds, scope.names.lookup y.1 = some .local)
    (h : ∀ oL g L' h₁, TI.Caller h₀ L m oL → TI.Frs [envOf cn cs L a ccd] [(L, oL)] → (∀ p ∈ sub, p.1 ≠ L) → Fr g L' h₁ (fun y => binds.reverse.lookup y) → News g L' h₁ (sub ++ [(L, oL)]) → K.In g → Top p loose mean mg mb g → h₀.StaysIn g →
      (∀ b o, s.heap.get? b = some o → b ∉ L :: sub.map (·.1) → g.get? b = some o) → (∀ p ∈ sub, p.1 < L') → L < L' →
      wpAny (model prog w) (A.deeper (envOf qual scope L' f cdv)) (execs body (envOf qual scope L' f cdv))
        (fun fl s' => TI.LeaveI s' (R (.ok (.ret (match fl with | .ret v => v | _ => .none))) s'))
        (fun e s' => wpAny (model prog w) (A.deeper (envOf qual scope L' f cdv)) (leaving (envOf qual scope L' f cdv) e) (fun _ s'' => TI.LeaveX (R (.error e) s'')) (fun e' s'' => TI.LeaveX (R (.error e') s'')) s')
        { s with heap := h₁, toks := s.toks + binds.length })
    (hck : cs.kind = .function) (hco : scope.isCoroutine = false) (hgen : scope.isGenerator = false) (hk : scope.kind = .function)
    (hcell : ∀ x ∈ scope.names, x.2 ≠ .cell) : codeAny (model prog w) A (.call (.ref f) args) R s := by
  have X := X₀.keeps F.keep
  obtain ⟨oL, es, ep, hL, hLd, hLk, hLf⟩ := F.ns
  have hLt := Heap.lt_size hL
  have hkind : (envOf cn cs L a ccd).scope.kind ≠ .module := by
    show cs.kind ≠ .module
    rw [hck]; decide
  refine codeAny_call_def (fd := fnOf name qual params body scope dV kV doc pm an cdv ct) (body := body) (binds := binds) hroom (X _ _ ho) rfl (T.nolimit.keeps F.keep) (codeRec_of X hcd) rfl hbind hcell hloc (fun h₁ hns hk₁ => ?_) hco hgen hk
  have up : ∀ b o, s.heap.get? b = some o → h₁.get? b = some o := fun b o e => hk₁ b o e
  have st : h₀.StaysIn (hideAll s.heap (L :: sub.map (·.1))) := fun b o e => hideAll_get _ (F.keep b o e) fun q => by
    rcases List.mem_cons.mp q with rfl | q
    · exact absurd (Nat.lt_of_lt_of_le (Heap.lt_size e) F.above) (Nat.lt_irrefl _)
    · obtain ⟨x, hx, rfl⟩ := List.mem_map.mp q
      rw [(N x hx).2.2] at e; cases e
  refine wpAny_mono (h oL _ s.heap.objs.size h₁ ⟨fun h' sl e => ⟨_, es, ep, e, hLd, hLk, hLf⟩, ⟨es, ep, hLd⟩, F.above⟩ ⟨hkind, rfl, ⟨es, ep, hLd⟩, trivial⟩ (fun p hp => (N p hp).2.1)
    ⟨hns, fun b o e => up b o (of_hideAll _ e), Nat.le_of_eq (hideAll_size _ _)⟩ (fun p hp => ?_) (X₀.keeps st) (T.keeps st) st (fun b o e hb => hideAll_get _ e hb) (fun p hp => Heap.lt_size (N p hp).1) hLt) (fun _ _ x => x) fun _ _ x => wpAny_mono x (fun _ _ y => y) fun _ _ y => y
  rcases List.mem_append.mp hp with hp | hp
  · exact ⟨up _ _ (N p hp).1, Nat.ne_of_lt (Heap.lt_size (N p hp).1), hideAll_none _ (.tail _ (List.mem_map_of_mem hp))⟩
  · rcases List.mem_singleton.mp hp with rfl
    exact ⟨up _ _ hL, Nat.ne_of_lt hLt, hideAll_none _ (.head _)⟩
theorem clause_VE {prog : Program} {w : World} {A₀ : Around} {E : Value → Shared → Prop} {s' : Shared} {h₀ : Heap} {L a e : Addr} {m : Str → Option Value} {name : Str} {scope : Scope} {cd : Value} {news : List (Addr × Obj)}
    {b₀ : Stmt} {suite : List Stmt} {pos np : Pos} {rest : List ExceptHandler} {Q : Flow → Shared → Prop} {loose : List Str} {mean : ExcName → Option Value} {mg mb : Str → Option Value} {fl : Value}
    (H : TT.HeldNA h₀ L s'.heap m e "ValueError" news fl) (T : Top topProg loose mean mg mb h₀) (hlo : Str.ofString "ValueError" ∉ loose)
    (k : ∀ h', Fr h₀ L h' m → News h₀ L h' news → wpAny (model prog w) ((A₀.deeper (envOf name scope L a cd)).mark (some (.ref e))) (execs (b₀ :: suite) (envOf name scope L a cd)) Q E { s' with heap := h' })
    (hk : scope.kind = .function) (hxk : (envOf name scope L a cd).kindOf (Str.ofString "ValueError") = some .globalImplicit)
    (hE : PassesOwnAt (model prog w) ((A₀.deeper (envOf name scope L a cd)).mark (some (.ref e))) (A₀.deeper (envOf name scope L a cd)) (envOf name scope L a cd) E) :
    wpAny (model prog w) (A₀.deeper (envOf name scope L a cd)) (handleBy (.ref e) (envOf name scope L a cd) (.ExceptHandler (some (.Name (Str.ofString "ValueError") np)) none (b₀ :: suite) pos :: rest)) Q E s' :=
  TT.clause_hitTN (p := topProg) (x := Str.ofString "ValueError") (X := "ValueError") H T (by decide +kernel) hlo (by decide +kernel) (by decide +kernel) (fun h => nomatch h) k (by decide +kernel) (by boot_by_name) (by decide +kernel) (by decide +kernel) (by decide) hk hxk (by decide) hE
theorem news_back {h₀ g h' : Heap} {L L' : Addr} {x : Addr × Obj} {big rest : List (Addr × Obj)} (hst : h₀.StaysIn g) (N' : News g L' h' big) (hm : x ∈ big) (hL : x.1 ≠ L) (R : News h₀ L h' rest) : News h₀ L h' (x :: rest) := fun p hp => by
  rcases List.mem_cons.mp hp with rfl | q
  · refine ⟨(N' _ hm).1, hL, ?_⟩
    cases e : h₀.get? p.1 with
    | none => rfl
    | some o => have z := (N' _ hm).2.2; rw [hst _ _ e] at z; cases z
  · exact R _ q
theorem news_kept {h₀ g h h' : Heap} {L L' l1 l2 : Addr} {m' : Str → Option Value} {o1 o2 : Obj} {rest : List (Addr × Obj)} (N : News h₀ L h ((l1, o1) :: (l2, o2) :: rest)) (hr : ∀ p ∈ rest, p.1 ≠ l1 ∧ p.1 ≠ l2)
    (hg : ∀ b o, h.get? b = some o → b ∉ L :: [(l1, o1), (l2, o2)].map (·.1) → g.get? b = some o) (F' : Fr g L' h' m') : News h₀ L h' rest := fun p hp => by
  have z := N p (.tail _ (.tail _ hp))
  refine ⟨F'.keep _ _ (hg _ _ z.1 ?_), z.2⟩
  have := hr p hp
  have := z.2.1
  simp_all
theorem fr_back {h₀ g h' : Heap} {L L' : Addr} {m m' : Str → Option Value} {oL : Obj} {sl : Array (Option Value)} {big : List (Addr × Obj)} (C : TI.Caller h₀ L m oL) (hst : h₀.StaysIn g) (F' : Fr g L' h' m') (N' : News g L' h' big) (hm : (L, { oL with slots := sl }) ∈ big) : Fr h₀ L h' m :=
  ⟨C.ns _ sl (N' _ hm).1, fun b o e => F'.keep b o (hst b o e), C.above⟩
open PySem PySem.W PySem.Calls PyProof.Rows
set_option Elab.async false
set_option maxRecDepth 100000
set_option linter.unusedVariables false
section
variable {prog : Program} {w : World} {A A₀ : Around} {s : Shared} {K : Frag} {L : Addr} {h₀ base : Heap} {m mg mb : Str → Option Value} {sub : List (Addr × Obj)} {p : Program} {loose : List Str} {mean : ExcName → Option Value}
/-- a made def (a closure) called: on a sub-ledger, the rest is kept -/
theorem code_defFX {env : Env} {outer : List Env} {R : Result → Shared → Prop} {name qual : Str} {params : Arguments} {body : List Stmt} {scope : Scope} {cl : List (Str × Addr)} {doc pm ctv : Value} {f c' : Addr} {args : Args} {binds : List (Str × Value)}
    (B : Below A₀ base outer h₀) (F : Fr h₀ L s.heap m) (X₀ : K.In h₀) (N : News h₀ L s.heap sub) (T : Top p loose mean mg mb h₀) (hA : A.frames = some (env :: outer)) (hf : env.frame = some L) (hke : env.scope.kind = .function)
    (hm : (f, fnMade name qual params body scope cl doc pm c' ctv) ∈ sub) (hcd : s.heap.CodeRec (.ref c') qual) (hroom : A.depth < recursionLimit)
    (hbind : BindsTo s (fnX name qual params body scope cl .none .none doc pm none (.ref c') ctv) args binds) (hloc : ∀ y ∈ binds, scope.names.lookup y.1 = some .local)
    (h : ∀ g L' h₁, Fr h₀ L g m → Fr g L' h₁ (fun y => binds.reverse.lookup y) → News g L' h₁ sub → Below A base (env :: outer) g → K.In g → Top p loose mean mg mb g → (∀ p ∈ sub, p.1 < L') → (∀ b o, s.heap.get? b = some o → b ∉ sub.map (·.1) → g.get? b = some o) →
      wpAny (model prog w) (A.deeper (envX qual scope L' f (.ref c') cl)) (execs body (envX qual scope L' f (.ref c') cl))
        (fun fl s' => LeaveK h₀ L m g (FrR s sub R) (match fl with | .ret v => v | _ => .none) s')
        (fun e s' => wpAny (model prog w) (A.deeper (envX qual scope L' f (.ref c') cl)) (leaving (envX qual scope L' f (.ref c') cl) e) (fun _ s'' => R (.error e) s'') (fun e' s'' => R (.error e') s'') s')
        { s with heap := h₁, toks := s.toks + binds.length })
    (hco : scope.isCoroutine = false) (hgen : scope.isGenerator = false) (hk : scope.kind = .function)
    (hcell : ∀ x ∈ scope.names, x.2 ≠ .cell) : codeAny (model prog w) A (.call (.ref f) args) R s := by
  obtain ⟨FG, BG, st, lv⟩ := groundX (R := FrR s sub R) B F N hA hf hke
  refine codeAny_call_def (fd := fnX name qual params body scope cl .none .none doc pm none (.ref c') ctv) (body := body) (binds := binds) hroom (N _ hm).1 rfl (T.nolimit.keeps F.keep) hcd rfl hbind hcell hloc (fun h₁ hns hk₁ => ?_) hco hgen hk
  refine wpAny_mono (h _ s.heap.objs.size h₁ FG ⟨hns, fun b o e => hk₁ b o (of_hideAll _ e), Nat.le_of_eq (hideAll_size _ _)⟩
    (fun p hp => ⟨hk₁ _ _ (N p hp).1, Nat.ne_of_lt (Heap.lt_size (N p hp).1), hideAll_none _ (List.mem_map_of_mem hp)⟩) BG (X₀.keeps st) (T.keeps st) (fun p hp => Heap.lt_size (N p hp).1) (fun b o e hb => hideAll_get _ e hb)) (fun fl s' hl => ?_) fun _ _ y => y
  have q := lv _ _ hl
  obtain ⟨L', m', news', F', N', k⟩ := hl
  exact q fun b o e hb => F'.keep b o (hideAll_get _ e hb)
end
/-- an outer def with cells: on a sub-ledger, the rest is kept -/
theorem code_defFC {prog : Program} {w : World} {A A₀ : Around} {s : Shared} {K : Frag} {L : Addr} {h₀ base : Heap} {m mg mb : Str → Option Value} {sub : List (Addr × Obj)} {p : Program} {loose : List Str} {mean : ExcName → Option Value}
    {env : Env} {outer : List Env} {R : Result → Shared → Prop} {name qual : Str} {params : Arguments} {body : List Stmt} {scope : Scope} {dV kV doc pm cdv ct oc : Value} {an od : Option Addr} {osl : Array (Option Value)} {f : Addr} {args : Args} {binds : List (Str × Value)}
    (B : Below A₀ base outer h₀) (F : Fr h₀ L s.heap m) (X₀ : K.In h₀) (N : News h₀ L s.heap sub) (T : Top p loose mean mg mb h₀) (hA : A.frames = some (env :: outer)) (hf : env.frame = some L) (hke : env.scope.kind = .function)
    (ho : K.lookup f = some ⟨oc, od, .func (fnOf name qual params body scope dV kV doc pm an cdv ct), osl⟩) (hcd : codeIn K cdv qual = true) (hroom : A.depth < recursionLimit)
    (hbind : BindsTo s (fnOf name qual params body scope dV kV doc pm an cdv ct) args binds) (hkind : (binds.all fun y => scope.names.lookup y.1 == some .local || scope.names.lookup y.1 == some .cell) = true)
    (hnd : ((cellsFrom 0 scope.names []).map (·.1)).Nodup)
    (h : ∀ g L' h₁ tk cells, Fr h₀ L g m → Fr g L' h₁ (bindL (envOfC qual scope L' f cdv).kindOf binds fun _ => none) → News g L' h₁ (cells ++ sub) →
      CellsAre (bindC (envOfC qual scope L' f cdv).kindOf binds fun _ => none) (cellsFrom (L' + 1) scope.names []) cells → Below A base (env :: outer) g → K.In g → Top p loose mean mg mb g → (∀ p ∈ sub, p.1 < L') →
      (∀ b o, s.heap.get? b = some o → b ∉ sub.map (·.1) → g.get? b = some o) →
      wpAny (model prog w) (A.deeper (envOfC qual scope L' f cdv)) (execs body (envOfC qual scope L' f cdv))
        (fun fl s' => LeaveK h₀ L m g (FrR s sub R) (match fl with | .ret v => v | _ => .none) s')
        (fun e s' => wpAny (model prog w) (A.deeper (envOfC qual scope L' f cdv)) (leaving (envOfC qual scope L' f cdv) e) (fun _ s'' => R (.error e) s'') (fun e' s'' => R (.error e') s'') s')
        { s with heap := h₁, toks := tk })
    (hco : scope.isCoroutine = false) (hgen : scope.isGenerator = false) (hk : scope.kind = .function) : codeAny (model prog w) A (.call (.ref f) args) R s := by
  obtain ⟨FG, BG, st, lv⟩ := groundX (R := FrR s sub R) B F N hA hf hke
  refine codeAny_call_function hroom ((X₀.keeps F.keep) _ _ ho) rfl hco hgen rfl (codeRec_of (X₀.keeps F.keep) hcd) (hbind _ _ _ _ ?_)
  refine wpAny_newFunctionEnv_cells hk (kindsX hkind _) fun env' he s' x => ?_
  subst he
  refine ⟨(T.nolimit.keeps F.keep).keeps x.toInCall.keep, codeAny_func ?_⟩
  obtain ⟨h₁, tk, rfl, _⟩ := x.done
  have hk₁ := x.toInCall.keep
  obtain ⟨cells, NC, Y⟩ := Cl.news (h₀ := s.heap) (Nat.le_refl _) fun n c hm => ⟨x.cell n c (lookup_of_mem_nodup (cellsFrom_names scope.names 0 (s.heap.objs.size + 1) [] [] rfl ▸ hnd) hm), x.above n c hm⟩
  refine wpAny_mono (h _ s.heap.objs.size h₁ tk cells FG ⟨x.toInCall.ns, fun b o e => hk₁ b o (of_hideAll _ e), Nat.le_of_eq (hideAll_size _ _)⟩ (fun p hp => ?_) Y BG (X₀.keeps st) (T.keeps st) (fun p hp => Heap.lt_size (N p hp).1) (fun b o e hb => hideAll_get _ e hb)) (fun fl s' hl => ?_) fun _ _ y => y
  · rcases List.mem_append.mp hp with hp | hp
    · refine ⟨(NC p hp).1, (NC p hp).2.1, ?_⟩
      cases q : (hideAll s.heap (sub.map (·.1))).get? p.1 with
      | none => rfl
      | some o => have := of_hideAll _ q; rw [(NC p hp).2.2] at this; cases this
    · exact ⟨hk₁ _ _ (N p hp).1, Nat.ne_of_lt (Heap.lt_size (N p hp).1), hideAll_none _ (List.mem_map_of_mem hp)⟩
  · have q := lv _ _ hl
    obtain ⟨L', m', news', F', N', k⟩ := hl
    exact q fun b o e hb => F'.keep b o (hideAll_get _ e hb)
open PySem PySem.W PySem.Calls PyProof.Rows
set_option Elab.async false
set_option maxRecDepth 100000
set_option maxHeartbeats 8000000
set_option linter.unusedVariables false
@[irreducible] def sd : Nat → List Int → Int → Int → Int → List Int
  | 0, ns, _, pos, x => ns.set pos.toNat x
  | f + 1, ns, start, pos, x =>
    if start < pos then
      (if x < ns.getD ((pos - 1) / 2).toNat 0 then sd f (ns.set pos.toNat (ns.getD ((pos - 1) / 2).toNat 0)) start ((pos - 1) / 2) x else ns.set pos.toNat x)
    else ns.set pos.toNat x
@[irreducible] def siftdownF (ns : List Int) (start pos : Int) : List Int := sd pos.toNat ns start pos (ns.getD pos.toNat 0)
theorem sd_length : ∀ (f : Nat) (ns : List Int) (start pos x : Int), (sd f ns start pos x).length = ns.length
  | 0, ns, _, pos, x => by rw [sd]; exact List.length_set ..
  | f + 1, ns, start, pos, x => by
    rw [sd]
    split
    · split
      · rw [sd_length f, List.length_set]
      · exact List.length_set ..
    · exact List.length_set ..
theorem siftdownF_length (ns : List Int) (start pos : Int) : (siftdownF ns start pos).length = ns.length := by rw [siftdownF]; exact sd_length ..
theorem sd_fuel : ∀ (f g : Nat) (hp : List Int) (start p x : Int), 0 ≤ start → p.toNat ≤ f → p.toNat ≤ g → sd f hp start p x = sd g hp start p x
  | 0, 0, _, _, _, _, _, _, _ => rfl
  | 0, g + 1, hp, start, p, x, h0, h1, _ => by
    have : ¬ start < p := by omega
    simp only [sd, this, if_false]
  | f + 1, 0, hp, start, p, x, h0, _, h1 => by
    have : ¬ start < p := by omega
    simp only [sd, this, if_false]
  | f + 1, g + 1, hp, start, p, x, h0, h1, h2 => by
    simp only [sd]
    split
    · split
      · exact sd_fuel f g _ _ _ _ h0 (by omega) (by omega)
      · rfl
    · rfl
theorem sd_lt {hp : List Int} {start p x : Int} (h1 : 0 ≤ start) (h : start < p) (hx : x < hp.getD ((p - 1) / 2).toNat 0) :
    sd ((p - 1) / 2).toNat (hp.set p.toNat (hp.getD ((p - 1) / 2).toNat 0)) start ((p - 1) / 2) x = sd p.toNat hp start p x := by
  obtain ⟨q, hq⟩ : ∃ q, p.toNat = q + 1 := ⟨p.toNat - 1, by omega⟩
  rw [hq, sd, if_pos h, if_pos hx]
  rw [sd_fuel ((p - 1) / 2).toNat q _ _ _ _ h1 (by omega) (by omega), hq]
theorem sd_ge {hp : List Int} {start p x : Int} (h1 : 0 ≤ start) (h : start < p) (hx : ¬ x < hp.getD ((p - 1) / 2).toNat 0) :
    sd p.toNat hp start p x = hp.set p.toNat x := by
  obtain ⟨q, hq⟩ : ∃ q, p.toNat = q + 1 := ⟨p.toNat - 1, by omega⟩
  rw [hq, sd, if_pos h, if_neg hx, hq]
theorem sd_at {hp : List Int} {start p x : Int} (h : ¬ start < p) : sd p.toNat hp start p x = hp.set p.toNat x := by
  cases hq : p.toNat with
  | zero => rw [sd, hq]
  | succ q => rw [sd, if_neg h, hq]
theorem sd_step {ns hp : List Int} {start pos p : Int} {T : List Int} (h1 : 0 ≤ start) (h2 : 0 ≤ p) (h3 : p < hp.length) (h4 : hp.length = ns.length) (h5 : sd p.toNat hp start p (ns.getD pos.toNat 0) = T) (h : start < p) (hx : ns.getD pos.toNat 0 < hp.getD ((p - 1) / 2).toNat 0) :
    0 ≤ (p - 1) / 2 ∧ (p - 1) / 2 < (hp.set p.toNat (hp.getD ((p - 1) / 2).toNat 0)).length ∧ (hp.set p.toNat (hp.getD ((p - 1) / 2).toNat 0)).length = ns.length ∧
      sd ((p - 1) / 2).toNat (hp.set p.toNat (hp.getD ((p - 1) / 2).toNat 0)) start ((p - 1) / 2) (ns.getD pos.toNat 0) = T :=
  ⟨by omega, by rw [List.length_set]; omega, by rw [List.length_set]; exact h4, (sd_lt h1 h hx).trans h5⟩
section
theorem siftdown_c (w : World) (ns : List Int) (start pos : Int) (t₁ t₂ : Tok) (h0 : 0 ≤ start) (h1 : start ≤ pos) (h2 : pos < ns.length) (h3 : ns.length < 1000) :
    MutL w 84 1 [.int start t₁, .int pos t₂] ns (fun r ns' => r = .none ∧ ns' = siftdownF ns start pos) := by
  w_on
  unfold MutL
  k_fill
  intro loose mean mg mb dp un gd cn cs a ccd cl outer A₀ base h₀ L m news g s l vs n Q E B F X N T hk U hI hd ret
  have Nl : News h₀ L s.heap [(l, listOf vs.toArray n)] := news_one N U
  refine wpAny_call ?_
  k_dflt (refine' code_defF ?k1 ?k2 ?k3 Nl ?k5 ?kA ?kF ?kK ?k6 ?k7 ?k8 ?k9 ?kB ?_ ?c2 ?c3 ?c4 ?c5; (case kA => exact rfl); (case kF => exact rfl); (case kK => assumption); (case k1 => k_asm); (case k2 => k_asm); (case k3 => k_asm);  (case k5 => k_asm); (case k6 => k_is); (case k7 => k_is); (case k8 => ktr_room); (case k9 => exact BindsTo.of_eq rfl); (case c5 => decide); (case kB => exact locs rfl); (case c2 => exact rfl); (case c3 => exact rfl); (case c4 => exact rfl); k_whole; intro g' L' h' FG' F' N' B' X' T' l1 hg'; (try k_lt l1); (try dsimp only); (try k_fold))
  clear Nl
  have hLn := hI.length
  k_with_none
  k_with "exec While Compare cons nil" => k_while (fun _ hp p => 0 ≤ p ∧ p < hp.length ∧ hp.length = ns.length ∧ sd p.toNat hp start p (ns.getD pos.toNat 0) = siftdownF ns start pos) (fun _ _ p => p.toNat) "heap" "pos"
  k_with "state" => exact sd_step (by assumption) (by assumption) (by assumption) (by assumption) (by assumption) (by assumption) (by assumption)
  k_with "state" => exact ⟨by omega, by omega, rfl, by rw [siftdownF]⟩
  k_with "=binaryOp RShift int int" => (k_here; (with_reducible refine rshift1 ?_))
  k_steps
  all_goals (intro hfr; show Q Value.none _; refine ret _ _ _ _ _ _ ⟨rfl, ?_⟩ (by assumption) (by assumption) (news_frame N U hfr (by assumption)))
  · exact (sd_ge h0 (by assumption) (by assumption)).symm.trans (by assumption)
  · exact (sd_at (by assumption)).symm.trans (by assumption)
end
open PySem PySem.W PySem.Calls PyProof.Rows
set_option Elab.async false
set_option maxRecDepth 100000
set_option maxHeartbeats 8000000
set_option linter.unusedVariables false
@[irreducible] def su : Nat → List Int → Int → List Int × Int
  | 0, ns, pos => (ns, pos)
  | f + 1, ns, pos =>
    if 2 * pos + 1 < ns.length then
      (if 2 * pos + 1 + 1 < ns.length ∧ ¬ ns.getD (2 * pos + 1).toNat 0 < ns.getD (2 * pos + 1 + 1).toNat 0 then su f (ns.set pos.toNat (ns.getD (2 * pos + 1 + 1).toNat 0)) (2 * pos + 1 + 1)
       else su f (ns.set pos.toNat (ns.getD (2 * pos + 1).toNat 0)) (2 * pos + 1))
    else (ns, pos)
@[irreducible] def siftupF (ns : List Int) (pos : Int) : List Int :=
  siftdownF ((su ns.length ns pos).1.set (su ns.length ns pos).2.toNat (ns.getD pos.toNat 0)) pos (su ns.length ns pos).2
theorem su_length : ∀ (f : Nat) (ns : List Int) (pos : Int), (su f ns pos).1.length = ns.length
  | 0, ns, _ => by rw [su]
  | f + 1, ns, pos => by
    rw [su]
    split
    · split
      · rw [su_length f, List.length_set]
      · rw [su_length f, List.length_set]
    · rfl
theorem siftupF_length (ns : List Int) (pos : Int) : (siftupF ns pos).length = ns.length := by rw [siftupF, siftdownF_length, List.length_set, su_length]
theorem su_fuel : ∀ (f g : Nat) (hp : List Int) (p : Int), 0 ≤ p → ((hp.length : Int) - p).toNat ≤ f → ((hp.length : Int) - p).toNat ≤ g → su f hp p = su g hp p
  | 0, 0, _, _, _, _, _ => rfl
  | 0, g + 1, hp, p, h0, h1, _ => by
    have : ¬ 2 * p + 1 < (hp.length : Int) := by omega
    simp only [su, this, if_false]
  | f + 1, 0, hp, p, h0, _, h1 => by
    have : ¬ 2 * p + 1 < (hp.length : Int) := by omega
    simp only [su, this, if_false]
  | f + 1, g + 1, hp, p, h0, h1, h2 => by
    simp only [su]
    split
    · split
      · exact su_fuel f g _ _ (by omega) (by rw [List.length_set]; omega) (by rw [List.length_set]; omega)
      · exact su_fuel f g _ _ (by omega) (by rw [List.length_set]; omega) (by rw [List.length_set]; omega)
    · rfl
/-- the loop's word: from here it goes as from the start -/
def SuW (ns : List Int) (pos : Int) (hp : List Int) (p c : Int) : Prop :=
  pos ≤ p ∧ p < hp.length ∧ c = 2 * p + 1 ∧ hp.length = ns.length ∧ su ((hp.length : Int) - p).toNat hp p = su ns.length ns pos
theorem SuW.start {ns : List Int} {pos : Int} (h0 : 0 ≤ pos) (h : pos < ns.length) : SuW ns pos ns pos (2 * pos + 1) :=
  ⟨Int.le_refl _, h, rfl, rfl, su_fuel _ _ _ _ h0 (by omega) (by omega)⟩
theorem SuW.right {ns hp : List Int} {pos p c : Int} (h0 : 0 ≤ pos) (h : SuW ns pos hp p c) (h1 : c < ns.length) (h2 : c + 1 < ns.length) (h3 : ¬ hp.getD c.toNat 0 < hp.getD (c + 1).toNat 0) : SuW ns pos (hp.set p.toNat (hp.getD (c + 1).toNat 0)) (c + 1) (2 * (c + 1) + 1) := by
  obtain ⟨a, b, rfl, d, e⟩ := h
  refine ⟨by omega, by rw [List.length_set]; omega, rfl, by rw [List.length_set]; exact d, ?_⟩
  rw [← e]
  obtain ⟨q, hq⟩ : ∃ q, ((hp.length : Int) - p).toNat = q + 1 := ⟨((hp.length : Int) - p).toNat - 1, by omega⟩
  rw [hq, su, if_pos (by omega), if_pos ⟨by omega, h3⟩]
  exact su_fuel _ _ _ _ (by omega) (by rw [List.length_set]; omega) (by rw [List.length_set]; omega)
theorem SuW.left {ns hp : List Int} {pos p c : Int} (h0 : 0 ≤ pos) (h : SuW ns pos hp p c) (h1 : c < ns.length) (h3 : ¬ (c + 1 < (ns.length : Int) ∧ ¬ hp.getD c.toNat 0 < hp.getD (c + 1).toNat 0)) : SuW ns pos (hp.set p.toNat (hp.getD c.toNat 0)) c (2 * c + 1) := by
  obtain ⟨a, b, rfl, d, e⟩ := h
  refine ⟨by omega, by rw [List.length_set]; omega, rfl, by rw [List.length_set]; exact d, ?_⟩
  rw [← e]
  obtain ⟨q, hq⟩ : ∃ q, ((hp.length : Int) - p).toNat = q + 1 := ⟨((hp.length : Int) - p).toNat - 1, by omega⟩
  rw [hq, su, if_pos (by omega), if_neg (by rw [d]; exact h3)]
  exact su_fuel _ _ _ _ (by omega) (by rw [List.length_set]; omega) (by rw [List.length_set]; omega)
theorem SuW.done {ns hp : List Int} {pos p c : Int} (h0 : 0 ≤ pos) (h : SuW ns pos hp p c) (h1 : ¬ c < ns.length) : su ns.length ns pos = (hp, p) := by
  obtain ⟨a, b, rfl, d, e⟩ := h
  rw [← e]
  cases hq : ((hp.length : Int) - p).toNat with
  | zero => rw [su]
  | succ q => rw [su, if_neg (by omega)]
theorem SuW.ge {ns hp : List Int} {pos p c : Int} (h : SuW ns pos hp p c) : pos ≤ p := h.1
theorem SuW.all {ns hp : List Int} {pos p c : Int} (h : SuW ns pos hp p c) (h0 : 0 ≤ pos) : 0 ≤ p ∧ p < hp.length ∧ c = 2 * p + 1 ∧ hp.length = ns.length ∧ SuW ns pos hp p c := by
  have h' := h
  obtain ⟨a, b, c, d, e⟩ := h
  exact ⟨by omega, b, c, d, h'⟩
section
theorem siftup_c (w : World) (ns : List Int) (pos : Int) (t₂ : Tok) (h1 : 0 ≤ pos) (h2 : pos < ns.length) (h3 : ns.length < 1000) :
    MutL w 91 2 [.int pos t₂] ns (fun r ns' => r = .none ∧ ns' = siftupF ns pos) := by
  w_on
  unfold MutL
  k_fill
  intro loose mean mg mb dp un gd cn cs a ccd cl outer A₀ base h₀ L m news g s l vs n Q E B F X N T hk U hI hd ret
  have Nl : News h₀ L s.heap [(l, listOf vs.toArray n)] := news_one N U
  refine wpAny_call ?_
  k_dflt (refine' code_defF ?k1 ?k2 ?k3 Nl ?k5 ?kA ?kF ?kK ?k6 ?k7 ?k8 ?k9 ?kB ?_ ?c2 ?c3 ?c4 ?c5; (case kA => exact rfl); (case kF => exact rfl); (case kK => assumption); (case k1 => k_asm); (case k2 => k_asm); (case k3 => k_asm);  (case k5 => k_asm); (case k6 => k_is); (case k7 => k_is); (case k8 => ktr_room); (case k9 => exact BindsTo.of_eq rfl); (case c5 => decide); (case kB => exact locs rfl); (case c2 => exact rfl); (case c3 => exact rfl); (case c4 => exact rfl); k_whole; intro g' L' h' FG' F' N' B' X' T' l1 hg'; (try k_lt l1); (try dsimp only); (try k_fold))
  clear Nl
  have hLn := hI.length
  k_with_none
  k_with "exec While Compare cons nil" => k_while (fun _ hp p c => 0 ≤ p ∧ p < hp.length ∧ c = 2 * p + 1 ∧ hp.length = ns.length ∧ SuW ns pos hp p c) (fun _ hp p _ => ((hp.length : Int) - p).toNat) "heap" "pos" "childpos"
  k_with "side" => exact SuW.ge (by assumption)
  k_with "side" => ((simp only [List.length_set]); omega)
  k_with "state" => exact (SuW.start (by assumption) (by assumption)).all (by assumption)
  k_with "state" => exact (SuW.right (by assumption) (by assumption) (by assumption) (by assumption) (by assumption)).all (by assumption)
  k_with "state" => exact (SuW.left (by assumption) (by assumption) (by assumption) (fun h => h.2 (by assumption))).all (by assumption)
  k_with "state" => exact (SuW.left (by assumption) (by assumption) (by assumption) (fun h => absurd h.1 (by assumption))).all (by assumption)
  k_with "=call ref" => (k_here; (with_reducible show wpAny _ _ (call (Value.ref 84) _) _ _ _); k_dflt (refine' mut_use (siftdown_c _ _ _ _ _ _ ?c1Zh ?c2Zh ?c3Zh ?c4Zh) ?k1Zh ?k2Zh ?k3Zh ?k4Zh ?k5Zh ?kKZh ?kUZh ?kIZh ?kdZh ?_; (case k1Zh => k_asm); (case k2Zh => k_asm); (case k3Zh => k_asm); (case k4Zh => k_asm); (case k5Zh => k_asm); (case kKZh => first | exact rfl | assumption); (case kUZh => k_updF); (case kIZh => first | with_reducible assumption | exact ksk_snoc (by with_reducible assumption)); (case kdZh => ktr_room)); (case c1Zh => first | assumption | omega | k_extra "side"); (case c2Zh => first | assumption | omega | k_extra "side"); (case c3Zh => first | assumption | omega | k_extra "side"); (case c4Zh => first | assumption | omega | k_extra "side"); (intro r9Z vs9Z ns9Z n9Z h9Z tk9Z hp9Z hi9Z F9Z N9Z); (obtain ⟨hr9Z, hn9Z⟩ := hp9Z); (subst hr9Z); (subst hn9Z); (try dsimp only at N9Z); (try dsimp only); (try k_fold))
  k_steps
  · intro hfr
    show Q Value.none _
    refine ret _ _ _ _ _ _ ⟨rfl, ?_⟩ (by assumption) (by assumption) (news_frame N U hfr (by assumption))
    have hd9 := SuW.done h1 (by assumption) (by assumption)
    rw [siftupF, hd9]
end
open PySem PySem.W PySem.Calls PyProof.Rows
set_option Elab.async false
set_option maxRecDepth 100000
set_option maxHeartbeats 8000000
set_option linter.unusedVariables false
@[irreducible] def popF (ns : List Int) : Int × List Int :=
  if ns.dropLast = [] then (ns.getLastD 0, []) else (ns.dropLast.getD 0 0, siftupF (ns.dropLast.set 0 (ns.getLastD 0)) 0)
@[irreducible] def pushF (ns : List Int) (x : Int) : List Int := siftdownF (ns ++ [x]) 0 ns.length
theorem pushF_length (ns : List Int) (x : Int) : (pushF ns x).length = ns.length + 1 := by rw [pushF, siftdownF_length, List.length_append]; rfl
theorem popF_length (ns : List Int) : (popF ns).2.length = ns.length - 1 := by
  rw [popF]
  split
  · rename_i h
    have := congrArg List.length h
    rw [List.length_dropLast] at this
    exact this.symm
  · rw [siftupF_length, List.length_set, List.length_dropLast]
section
theorem heappush_c (w : World) (ns : List Int) (x : Int) (t : Tok) (h3 : ns.length < 900) :
    MutL w 63 3 [.int x t] ns (fun r ns' => r = .none ∧ ns' = pushF ns x) := by
  w_on
  unfold MutL
  k_fill
  intro loose mean mg mb dp un gd cn cs a ccd cl outer A₀ base h₀ L m news g s l vs n Q E B F X N T hk U hI hd ret
  have Nl : News h₀ L s.heap [(l, listOf vs.toArray n)] := news_one N U
  refine wpAny_call ?_
  k_dflt (refine' code_defF ?k1 ?k2 ?k3 Nl ?k5 ?kA ?kF ?kK ?k6 ?k7 ?k8 ?k9 ?kB ?_ ?c2 ?c3 ?c4 ?c5; (case kA => exact rfl); (case kF => exact rfl); (case kK => assumption); (case k1 => k_asm); (case k2 => k_asm); (case k3 => k_asm);  (case k5 => k_asm); (case k6 => k_is); (case k7 => k_is); (case k8 => ktr_room); (case k9 => exact BindsTo.of_eq rfl); (case c5 => decide); (case kB => exact locs rfl); (case c2 => exact rfl); (case c3 => exact rfl); (case c4 => exact rfl); k_whole; intro g' L' h' FG' F' N' B' X' T' l1 hg'; (try k_lt l1); (try dsimp only); (try k_fold))
  clear Nl
  have hLn := hI.length
  k_with_none
  k_with "=call ref" => (k_here; (with_reducible show wpAny _ _ (call (Value.ref 84) _) _ _ _); k_dflt (refine' mut_use (siftdown_c _ _ _ _ _ _ ?c1Zh ?c2Zh ?c3Zh ?c4Zh) ?k1Zh ?k2Zh ?k3Zh ?k4Zh ?k5Zh ?kKZh ?kUZh ?kIZh ?kdZh ?_; (case k1Zh => k_asm); (case k2Zh => k_asm); (case k3Zh => k_asm); (case k4Zh => k_asm); (case k5Zh => k_asm); (case kKZh => first | exact rfl | assumption); (case kUZh => k_updF); (case kIZh => first | with_reducible assumption | exact ksk_snoc (by with_reducible assumption)); (case kdZh => ktr_room)); (case c1Zh => first | assumption | omega | ((simp only [List.length_append, List.length_cons, List.length_nil, List.length_set, List.length_dropLast]); omega) | k_extra "side"); (case c2Zh => first | assumption | omega | ((simp only [List.length_append, List.length_cons, List.length_nil, List.length_set, List.length_dropLast]); omega) | k_extra "side"); (case c3Zh => first | assumption | omega | ((simp only [List.length_append, List.length_cons, List.length_nil, List.length_set, List.length_dropLast]); omega) | k_extra "side"); (case c4Zh => first | assumption | omega | ((simp only [List.length_append, List.length_cons, List.length_nil, List.length_set, List.length_dropLast]); omega) | k_extra "side"); (intro r9Z vs9Z ns9Z n9Z h9Z tk9Z hp9Z hi9Z F9Z N9Z); (obtain ⟨hr9Z, hn9Z⟩ := hp9Z); (first | subst hr9Z | (obtain ⟨t9Z, hr9Z⟩ := hr9Z; subst hr9Z)); (subst hn9Z); (try dsimp only at N9Z); (try dsimp only); (try k_fold))
  k_with "=call ref" => (k_here; (with_reducible show wpAny _ _ (call (Value.ref 91) _) _ _ _); k_dflt (refine' mut_use (siftup_c _ _ _ _ ?c1Zh ?c2Zh ?c3Zh) ?k1Zh ?k2Zh ?k3Zh ?k4Zh ?k5Zh ?kKZh ?kUZh ?kIZh ?kdZh ?_; (case k1Zh => k_asm); (case k2Zh => k_asm); (case k3Zh => k_asm); (case k4Zh => k_asm); (case k5Zh => k_asm); (case kKZh => first | exact rfl | assumption); (case kUZh => k_updF); (case kIZh => first | with_reducible assumption | exact ksk_snoc (by with_reducible assumption)); (case kdZh => ktr_room)); (case c1Zh => first | assumption | omega | ((simp only [List.length_append, List.length_cons, List.length_nil, List.length_set, List.length_dropLast]); omega) | k_extra "side"); (case c2Zh => first | assumption | omega | ((simp only [List.length_append, List.length_cons, List.length_nil, List.length_set, List.length_dropLast]); omega) | k_extra "side"); (case c3Zh => first | assumption | omega | ((simp only [List.length_append, List.length_cons, List.length_nil, List.length_set, List.length_dropLast]); omega) | k_extra "side"); (intro r9Z vs9Z ns9Z n9Z h9Z tk9Z hp9Z hi9Z F9Z N9Z); (obtain ⟨hr9Z, hn9Z⟩ := hp9Z); (first | subst hr9Z | (obtain ⟨t9Z, hr9Z⟩ := hr9Z; subst hr9Z)); (subst hn9Z); (try dsimp only at N9Z); (try dsimp only); (try k_fold))
  k_with "=truthy ref" => (k_here; k_dflt (refine' truthy_ints ?k1Zh ?k2Zh ?k3Zh ?k4Zh ?_ ?_; (case k1Zh => k_asm); (case k2Zh => k_mem); (case k3Zh => with_reducible assumption); (case k4Zh => first | omega | ((simp only [List.length_append, List.length_cons, List.length_nil, List.length_set, List.length_dropLast]); omega)); k_whole); all_goals (intro hz9Z))
  k_steps
  intro hfr
  show Q Value.none _
  refine ret _ _ _ _ _ _ ⟨rfl, ?_⟩ (by assumption) (by assumption) (news_frame N U hfr (by assumption))
  rw [pushF, show ((ns.length + 1 : Nat) : Int) - 1 = ns.length from by omega]
theorem heappop_c (w : World) (ns : List Int) (h2 : 0 < ns.length) (h3 : ns.length < 1000) :
    MutL w 70 3 [] ns (fun r ns' => (∃ t, r = .int (popF ns).1 t) ∧ ns' = (popF ns).2) := by
  w_on
  unfold MutL
  k_fill
  intro loose mean mg mb dp un gd cn cs a ccd cl outer A₀ base h₀ L m news g s l vs n Q E B F X N T hk U hI hd ret
  have Nl : News h₀ L s.heap [(l, listOf vs.toArray n)] := news_one N U
  refine wpAny_call ?_
  k_dflt (refine' code_defF ?k1 ?k2 ?k3 Nl ?k5 ?kA ?kF ?kK ?k6 ?k7 ?k8 ?k9 ?kB ?_ ?c2 ?c3 ?c4 ?c5; (case kA => exact rfl); (case kF => exact rfl); (case kK => assumption); (case k1 => k_asm); (case k2 => k_asm); (case k3 => k_asm);  (case k5 => k_asm); (case k6 => k_is); (case k7 => k_is); (case k8 => ktr_room); (case k9 => exact BindsTo.of_eq rfl); (case c5 => decide); (case kB => exact locs rfl); (case c2 => exact rfl); (case c3 => exact rfl); (case c4 => exact rfl); k_whole; intro g' L' h' FG' F' N' B' X' T' l1 hg'; (try k_lt l1); (try dsimp only); (try k_fold))
  clear Nl
  have hLn := hI.length
  k_with_none
  k_with "=call ref" => (k_here; (with_reducible show wpAny _ _ (call (Value.ref 84) _) _ _ _); k_dflt (refine' mut_use (siftdown_c _ _ _ _ _ _ ?c1Zh ?c2Zh ?c3Zh ?c4Zh) ?k1Zh ?k2Zh ?k3Zh ?k4Zh ?k5Zh ?kKZh ?kUZh ?kIZh ?kdZh ?_; (case k1Zh => k_asm); (case k2Zh => k_asm); (case k3Zh => k_asm); (case k4Zh => k_asm); (case k5Zh => k_asm); (case kKZh => first | exact rfl | assumption); (case kUZh => k_updF); (case kIZh => first | with_reducible assumption | exact ksk_snoc (by with_reducible assumption)); (case kdZh => ktr_room)); (case c1Zh => first | assumption | omega | ((simp only [List.length_append, List.length_cons, List.length_nil, List.length_set, List.length_dropLast]); omega) | k_extra "side"); (case c2Zh => first | assumption | omega | ((simp only [List.length_append, List.length_cons, List.length_nil, List.length_set, List.length_dropLast]); omega) | k_extra "side"); (case c3Zh => first | assumption | omega | ((simp only [List.length_append, List.length_cons, List.length_nil, List.length_set, List.length_dropLast]); omega) | k_extra "side"); (case c4Zh => first | assumption | omega | ((simp only [List.length_append, List.length_cons, List.length_nil, List.length_set, List.length_dropLast]); omega) | k_extra "side"); (intro r9Z vs9Z ns9Z n9Z h9Z tk9Z hp9Z hi9Z F9Z N9Z); (obtain ⟨hr9Z, hn9Z⟩ := hp9Z); (first | subst hr9Z | (obtain ⟨t9Z, hr9Z⟩ := hr9Z; subst hr9Z)); (subst hn9Z); (try dsimp only at N9Z); (try dsimp only); (try k_fold))
  k_with "=call ref" => (k_here; (with_reducible show wpAny _ _ (call (Value.ref 91) _) _ _ _); k_dflt (refine' mut_use (siftup_c _ _ _ _ ?c1Zh ?c2Zh ?c3Zh) ?k1Zh ?k2Zh ?k3Zh ?k4Zh ?k5Zh ?kKZh ?kUZh ?kIZh ?kdZh ?_; (case k1Zh => k_asm); (case k2Zh => k_asm); (case k3Zh => k_asm); (case k4Zh => k_asm); (case k5Zh => k_asm); (case kKZh => first | exact rfl | assumption); (case kUZh => k_updF); (case kIZh => first | with_reducible assumption | exact ksk_snoc (by with_reducible assumption)); (case kdZh => ktr_room)); (case c1Zh => first | assumption | omega | ((simp only [List.length_append, List.length_cons, List.length_nil, List.length_set, List.length_dropLast]); omega) | k_extra "side"); (case c2Zh => first | assumption | omega | ((simp only [List.length_append, List.length_cons, List.length_nil, List.length_set, List.length_dropLast]); omega) | k_extra "side"); (case c3Zh => first | assumption | omega | ((simp only [List.length_append, List.length_cons, List.length_nil, List.length_set, List.length_dropLast]); omega) | k_extra "side"); (intro r9Z vs9Z ns9Z n9Z h9Z tk9Z hp9Z hi9Z F9Z N9Z); (obtain ⟨hr9Z, hn9Z⟩ := hp9Z); (first | subst hr9Z | (obtain ⟨t9Z, hr9Z⟩ := hr9Z; subst hr9Z)); (subst hn9Z); (try dsimp only at N9Z); (try dsimp only); (try k_fold))
  k_with "=truthy ref" => (k_here; k_dflt (refine' truthy_ints ?k1Zh ?k2Zh ?k3Zh ?k4Zh ?_ ?_; (case k1Zh => k_asm); (case k2Zh => k_mem); (case k3Zh => with_reducible assumption); (case k4Zh => first | omega | ((simp only [List.length_append, List.length_cons, List.length_nil, List.length_set, List.length_dropLast]); omega)); k_whole); all_goals (intro hz9Z))
  k_steps
  · intro hfr
    show Q (Value.int _ _) _
    have hz := List.eq_nil_of_length_eq_zero (by assumption : ns.dropLast.length = 0)
    refine ret _ _ _ _ _ _ ⟨int_ex ?_, ?_⟩ (by assumption) (by assumption) (news_frame N U hfr (by assumption))
    · rw [popF, if_pos hz]
    · rw [popF, if_pos hz]; exact hz
  · intro hfr
    show Q (Value.int _ _) _
    have hz : ¬ ns.dropLast = [] := fun h => by
      have h' : 0 < ns.dropLast.length := by assumption
      rw [h] at h'
      exact absurd h' (by decide)
    refine ret _ _ _ _ _ _ ⟨int_ex ?_, ?_⟩ (by assumption) (by assumption) (news_frame N U hfr (by assumption))
    · rw [popF, if_neg hz]; first | done | rfl
    · rw [popF, if_neg hz]; first | done | rfl
end
open PySem PySem.W PySem.Calls PyProof.Rows
set_option Elab.async false
set_option maxRecDepth 100000
set_option maxHeartbeats 8000000
set_option linter.unusedVariables false
@[irreducible] def heapifyF (ns : List Int) : List Int := (downKs (((ns.length / 2 : Nat) : Int) - 1) (ns.length / 2)).foldl (fun h i => siftupF h i) ns
theorem heapify_length (l : List Int) : ∀ ns : List Int, (l.foldl (fun h i => siftupF h i) ns).length = ns.length := by
  induction l with
  | nil => intro ns; rfl
  | cons i r ih => intro ns; rw [List.foldl_cons, ih, siftupF_length]
theorem floordiv2 {prog : Program} {w : World} {A : Around} {E : Value → Shared → Prop} {s : Shared} {a : Nat} {t u : Tok} {Q : Value → Shared → Prop} (h : Q (.int ((a / 2 : Nat) : Int) s.toks) { s with toks := s.toks + 1 }) : wpAny (model prog w) A (binaryOp .FloorDiv (.int (a : Int) t) (.int 2 u)) Q E s :=
  floordiv_int (by decide) (by rw [show (a : Int).fdiv 2 = ((a / 2 : Nat) : Int) from by rw [Int.fdiv_eq_ediv_of_nonneg _ (by decide)]; rfl]; exact h)
section
theorem heapify_c (w : World) (ns : List Int) (h3 : ns.length < 1000) :
    MutL w 77 4 [] ns (fun r ns' => r = .none ∧ ns' = heapifyF ns) := by
  w_on
  unfold MutL
  k_fill
  intro loose mean mg mb dp un gd cn cs a ccd cl outer A₀ base h₀ L m news g s l vs n Q E B F X N T hk U hI hd ret
  have Nl : News h₀ L s.heap [(l, listOf vs.toArray n)] := news_one N U
  refine wpAny_call ?_
  k_dflt (refine' code_defF ?k1 ?k2 ?k3 Nl ?k5 ?kA ?kF ?kK ?k6 ?k7 ?k8 ?k9 ?kB ?_ ?c2 ?c3 ?c4 ?c5; (case kA => exact rfl); (case kF => exact rfl); (case kK => assumption); (case k1 => k_asm); (case k2 => k_asm); (case k3 => k_asm);  (case k5 => k_asm); (case k6 => k_is); (case k7 => k_is); (case k8 => ktr_room); (case k9 => exact BindsTo.of_eq rfl); (case c5 => decide); (case kB => exact locs rfl); (case c2 => exact rfl); (case c3 => exact rfl); (case c4 => exact rfl); k_whole; intro g' L' h' FG' F' N' B' X' T' l1 hg'; (try k_lt l1); (try dsimp only); (try k_fold))
  clear Nl
  have hLn := hI.length
  k_with_none
  k_with "=call ref" => (k_here; (with_reducible show wpAny _ _ (call (Value.ref 91) _) _ _ _); k_dflt (refine' mut_use (siftup_c _ _ _ _ ?c1Zh ?c2Zh ?c3Zh) ?k1Zh ?k2Zh ?k3Zh ?k4Zh ?k5Zh ?kKZh ?kUZh ?kIZh ?kdZh ?_; (case k1Zh => k_asm); (case k2Zh => k_asm); (case k3Zh => k_asm); (case k4Zh => k_asm); (case k5Zh => k_asm); (case kKZh => first | exact rfl | assumption); (case kUZh => k_updF); (case kIZh => first | with_reducible assumption | exact ksk_snoc (by with_reducible assumption)); (case kdZh => ktr_room)); (case c1Zh => first | assumption | omega | ((simp only [List.length_append, List.length_cons, List.length_nil, List.length_set, List.length_dropLast]); omega) | k_extra "side"); (case c2Zh => first | assumption | omega | ((simp only [List.length_append, List.length_cons, List.length_nil, List.length_set, List.length_dropLast]); omega) | k_extra "side"); (case c3Zh => first | assumption | omega | ((simp only [List.length_append, List.length_cons, List.length_nil, List.length_set, List.length_dropLast]); omega) | k_extra "side"); (intro r9Z vs9Z ns9Z n9Z h9Z tk9Z hp9Z hi9Z F9Z N9Z); (obtain ⟨hr9Z, hn9Z⟩ := hp9Z); (first | subst hr9Z | (obtain ⟨t9Z, hr9Z⟩ := hr9Z; subst hr9Z)); (subst hn9Z); (try dsimp only at N9Z); (try dsimp only); (try k_fold))
  k_with "=call type:reversed" => (k_here; (rename IsRange _ _ _ _ _ _ _ _ => hR9Z); k_dflt (refine' reversed_range_N ?FZh ?NZh hR9Z ?aZh ?bZh ?_; (case FZh => k_asm); (case NZh => k_asm); (case aZh => omega); (case bZh => omega)); intro DZ' hZ' FZ' NZ' l1Z; (try k_lt l1Z); (try k_sweep))
  k_with "=binaryOp FloorDiv int int" => (k_here; (with_reducible refine floordiv2 ?_))
  k_steps
  ((rename Fr _ _ _ _ => lF'); (rename News _ _ _ _ => lN'); (refine kst_revRange (σ := List Value × List Int × Nat) (fun c => [(l, listOf c.1.toArray c.2.2)]) (fun _ => []) (fun c => IntsAre c.1 c.2.1) [] (fun pre c => c.2.1 = pre.foldl (fun h i => siftupF h i) ns) (vs, ns, n) rfl lF' lN' (.head _) (fun p hp => .tail _ hp) ?hne (by assumption) (fun _ hp => nomatch hp) rfl ?_ ?_); (case hne => (intro p hp; rcases List.mem_singleton.mp hp with rfl; k_ne)); (all_goals clear lF' lN'))
  · intro c pre k t u h tk own hk9 hlt9 kOff hf9 hp9 kFr kNews
    obtain ⟨us, ks, kn⟩ := c
    dsimp only [kstB] at kFr
    dsimp only at kNews hf9 hp9 kOff
    simp only [List.cons_append, List.nil_append] at kNews
    simp only [List.map_cons, List.map_nil] at kOff
    have hks : ks.length = ns.length := by rw [hp9, heapify_length]
    try k_fold
    k_steps
  · intro c u h tk hf9 hp9 kFr kNews
    obtain ⟨us, ks, kn⟩ := c
    dsimp only [kstB] at kFr
    dsimp only at kNews hf9 hp9
    try k_fold
    k_steps
    intro hfr
    show Q Value.none _
    refine ret _ _ _ _ _ _ ⟨rfl, ?_⟩ (by assumption) (by assumption) (news_frame N U hfr (by assumption))
    rw [heapifyF]
    exact hp9
end
open PySem PySem.W PySem.Calls PyProof.Rows
set_option Elab.async false
set_option maxRecDepth 100000
set_option maxHeartbeats 8000000
set_option linter.unusedVariables false
@[irreducible] def takeF (heirs : Int) : Nat → List Int → List Int → List Int × List Int
  | 0, like, hp => (like, hp)
  | f + 1, like, hp => if (like.length : Int) < heirs ∧ 0 < hp.length ∧ hp.getD 0 0 = like.getD 0 0 then takeF heirs f (like ++ [(popF hp).1]) (popF hp).2 else (like, hp)
def pushN (x : Int) (hp : List Int) : Nat → List Int
  | 0 => hp
  | k + 1 => pushF (pushN x hp k) x
structure ShareSt where
  hp : List Int
  off : List Int
  sh : List Int
  lf : List Int
@[irreducible] def takeS (heirs : Int) (hp : List Int) : List Int × List Int := takeF heirs heirs.toNat [(popF hp).1] (popF hp).2
@[irreducible] def shareStep (heirs many unit : Int) (s : ShareSt) : ShareSt :=
  if ((takeS heirs s.hp).1.length : Int) = heirs then ⟨(takeS heirs s.hp).2, s.off ++ (takeS heirs s.hp).1, s.sh ++ [(takeS heirs s.hp).1.getD 0 0], s.lf⟩
  else if (takeS heirs s.hp).1.getD 0 0 = -unit then ⟨(takeS heirs s.hp).2, s.off ++ (takeS heirs s.hp).1, s.sh, s.lf ++ (takeS heirs s.hp).1⟩
  else ⟨pushN (((takeS heirs s.hp).1.getD 0 0).fdiv many) (takeS heirs s.hp).2 (many * ((takeS heirs s.hp).1.length : Int)).toNat, s.off ++ (takeS heirs s.hp).1, s.sh, s.lf⟩
@[irreducible] def shareF (heirs many unit : Int) : Nat → ShareSt → List Int × List Int × List Int
  | 0, s => (s.off ++ s.hp, s.sh, s.lf)
  | k + 1, s => if s.hp = [] then (s.off, s.sh, s.lf) else shareF heirs many unit k (shareStep heirs many unit s)
theorem popF_len_of {vs : List Value} {ns : List Int} (h : IntsAre vs (popF ns).2) : (popF ns).2.length = ns.length - 1 := popF_length ns
theorem takeF_fuel (heirs : Int) : ∀ (f g : Nat) (like hp : List Int), heirs.toNat ≤ like.length + f → heirs.toNat ≤ like.length + g → takeF heirs f like hp = takeF heirs g like hp
  | 0, 0, _, _, _, _ => rfl
  | 0, g + 1, like, hp, h1, _ => by
    have : ¬ ((like.length : Int) < heirs ∧ 0 < hp.length ∧ hp.getD 0 0 = like.getD 0 0) := fun h => by omega
    simp only [takeF, this, if_false]
  | f + 1, 0, like, hp, _, h1 => by
    have : ¬ ((like.length : Int) < heirs ∧ 0 < hp.length ∧ hp.getD 0 0 = like.getD 0 0) := fun h => by omega
    simp only [takeF, this, if_false]
  | f + 1, g + 1, like, hp, h1, h2 => by
    simp only [takeF]
    split
    · exact takeF_fuel heirs f g _ _ (by simp only [List.length_append, List.length_cons, List.length_nil]; omega) (by simp only [List.length_append, List.length_cons, List.length_nil]; omega)
    · rfl
/-- the taking loop's word -/
@[irreducible] def TakeW (heirs : Int) (like₀ hp₀ like hp : List Int) : Prop := takeF heirs heirs.toNat like hp = takeF heirs heirs.toNat like₀ hp₀
theorem TakeW.refl {heirs : Int} {like hp : List Int} : TakeW heirs like hp like hp := by unfold TakeW; rfl
theorem TakeW.go {heirs : Int} {like₀ hp₀ like hp : List Int} (h : TakeW heirs like₀ hp₀ like hp) (h0 : 1 ≤ heirs) (h1 : (like.length : Int) < heirs) (h2 : 0 < hp.length) (h3 : hp.getD 0 0 = like.getD 0 0) : TakeW heirs like₀ hp₀ (like ++ [(popF hp).1]) (popF hp).2 := by
  unfold TakeW at h ⊢
  rw [← h]
  obtain ⟨q, hq⟩ : ∃ q, heirs.toNat = q + 1 := ⟨heirs.toNat - 1, by omega⟩
  conv => rhs; rw [hq, takeF, if_pos ⟨h1, h2, h3⟩]
  exact takeF_fuel heirs _ _ _ _ (by omega) (by simp only [List.length_append, List.length_cons, List.length_nil]; omega)
theorem TakeW.done {heirs : Int} {like₀ hp₀ like hp : List Int} (h : TakeW heirs like₀ hp₀ like hp) (hn : ¬ ((like.length : Int) < heirs ∧ 0 < hp.length ∧ hp.getD 0 0 = like.getD 0 0)) : takeF heirs heirs.toNat like₀ hp₀ = (like, hp) := by
  unfold TakeW at h
  rw [← h]
  cases heirs.toNat with
  | zero => rw [takeF]
  | succ q => rw [takeF, if_neg hn]
theorem getD_app {like : List Int} {x : Int} (h : 1 ≤ like.length) : (like ++ [x]).getD 0 0 = like.getD 0 0 := by
  cases like with
  | nil => exact absurd h (by decide)
  | cons a r => rfl
theorem take_step {heirs : Int} {like₀ hp₀ like hp : List Int} (h0 : 1 ≤ heirs) (a : 1 ≤ like.length) (b : (like.length : Int) ≤ heirs) (c : like.length + hp.length = 1 + hp₀.length) (d : like.getD 0 0 = like₀.getD 0 0) (e : TakeW heirs like₀ hp₀ like hp)
    (h1 : (like.length : Int) < heirs) (h2 : 0 < hp.length) (h3 : hp.getD (Int.toNat 0) 0 = like.getD (Int.toNat 0) 0) :
    1 ≤ (like ++ [(popF hp).1]).length ∧ ((like ++ [(popF hp).1]).length : Int) ≤ heirs ∧ (like ++ [(popF hp).1]).length + (popF hp).2.length = 1 + hp₀.length ∧ (like ++ [(popF hp).1]).getD 0 0 = like₀.getD 0 0 ∧ TakeW heirs like₀ hp₀ (like ++ [(popF hp).1]) (popF hp).2 := by
  refine ⟨?_, ?_, ?_, (getD_app a).trans d, e.go h0 h1 h2 h3⟩
  · simp only [List.length_append, List.length_cons, List.length_nil]; omega
  · simp only [List.length_append, List.length_cons, List.length_nil]; omega
  · rw [popF_length]; simp only [List.length_append, List.length_cons, List.length_nil]; omega
@[irreducible] def PushW (x : Int) (hp₀ hp : List Int) (k : Nat) : Prop := hp = pushN x hp₀ k
theorem push_start {x : Int} {hp : List Int} : hp.length = hp.length + ([] : List Int).length ∧ PushW x hp hp ([] : List Int).length := ⟨rfl, by unfold PushW; rfl⟩
theorem push_step {x k : Int} {hp₀ hp pre : List Int} (h1 : hp.length = hp₀.length + pre.length) (h2 : PushW x hp₀ hp pre.length) : (pushF hp x).length = hp₀.length + (pre ++ [k]).length ∧ PushW x hp₀ (pushF hp x) (pre ++ [k]).length := by
  refine ⟨by rw [pushF_length, List.length_append, h1]; rfl, ?_⟩
  unfold PushW at h2 ⊢
  rw [List.length_append, show pre.length + [k].length = pre.length + 1 from rfl, pushN, ← h2]
def ExitR (heirs : Int) (like hp1 : List Int) : Prop := ¬ ((like.length : Int) < heirs) ∨ hp1.length = 0 ∨ hp1.getD (Int.toNat 0) 0 ≠ like.getD (Int.toNat 0) 0
theorem share_take {heirs : Int} {hp like hp1 : List Int} (tk : TakeW heirs [(popF hp).1] (popF hp).2 like hp1) (ex : ExitR heirs like hp1) : takeS heirs hp = (like, hp1) := by
  rw [takeS]
  refine tk.done fun h => ?_
  rcases ex with e | e | e
  · exact e h.1
  · omega
  · exact e h.2.2
theorem share_next {heirs many unit : Int} {hp off sh lf : List Int} {n k : Nat} {T : List Int × List Int × List Int} (e : shareF heirs many unit n ⟨hp, off, sh, lf⟩ = T) (hn : n = k + 1) (hz : 0 < hp.length) : shareF heirs many unit k (shareStep heirs many unit ⟨hp, off, sh, lf⟩) = T := by
  rw [← e, hn, shareF, if_neg]
  show ¬ hp = []
  intro h
  rw [h] at hz
  exact absurd hz (by decide)
section
variable {heirs many unit k : Int} {hp off sh lf like hp1 pre : List Int} {T : List Int × List Int × List Int}
  (kLt : pre.length < ((40 : Int) - 0).toNat) (b1 : hp.length ≤ 8 + 12 * pre.length) (b2 : off.length ≤ 4 * pre.length) (b3 : sh.length ≤ pre.length) (b4 : lf.length ≤ 4 * pre.length)
  (e : shareF heirs many unit (40 - pre.length) ⟨hp, off, sh, lf⟩ = T) (hz : 0 < hp.length) (hq : (popF hp).2.length = hp.length - 1) (h2 : heirs ≤ 4)
  (l1 : 1 ≤ like.length) (l2 : (like.length : Int) ≤ heirs) (l3 : like.length + hp1.length = 1 + (popF hp).2.length) (tk : TakeW heirs [(popF hp).1] (popF hp).2 like hp1) (ex : ExitR heirs like hp1)
include kLt b1 b2 b3 b4 e hz hq h2 l1 l2 l3 tk ex
theorem share_full (hl : (like.length : Int) = heirs) : (pre ++ [k]).length ≤ 40 ∧ hp1.length ≤ 8 + 12 * (pre ++ [k]).length ∧ (off ++ like).length ≤ 4 * (pre ++ [k]).length ∧ (sh ++ [like.getD (Int.toNat 0) 0]).length ≤ (pre ++ [k]).length ∧ lf.length ≤ 4 * (pre ++ [k]).length ∧
    shareF heirs many unit (40 - (pre ++ [k]).length) ⟨hp1, off ++ like, sh ++ [like.getD (Int.toNat 0) 0], lf⟩ = T := by
  simp only [List.length_append, List.length_cons, List.length_nil]
  refine ⟨by omega, by omega, by omega, by omega, by omega, ?_⟩
  have f := share_next e (k := 40 - (pre.length + (0 + 1))) (by omega) hz
  rw [shareStep, share_take tk ex, if_pos hl] at f
  exact f
theorem share_left (hl : (like.length : Int) ≠ heirs) (hu : like.getD (Int.toNat 0) 0 = -unit) : (pre ++ [k]).length ≤ 40 ∧ hp1.length ≤ 8 + 12 * (pre ++ [k]).length ∧ (off ++ like).length ≤ 4 * (pre ++ [k]).length ∧ sh.length ≤ (pre ++ [k]).length ∧ (lf ++ like).length ≤ 4 * (pre ++ [k]).length ∧
    shareF heirs many unit (40 - (pre ++ [k]).length) ⟨hp1, off ++ like, sh, lf ++ like⟩ = T := by
  simp only [List.length_append, List.length_cons, List.length_nil]
  refine ⟨by omega, by omega, by omega, by omega, by omega, ?_⟩
  have f := share_next e (k := 40 - (pre.length + (0 + 1))) (by omega) hz
  rw [shareStep, share_take tk ex, if_neg hl, if_pos (show (like, hp1).1.getD 0 0 = -unit from hu)] at f
  exact f
theorem share_push {hp2 : List Int} {p : Int} (hm : many = 2 ∨ many = 4) (hl : (like.length : Int) ≠ heirs) (hu : like.getD (Int.toNat 0) 0 ≠ -unit) (hp9 : p = many * (like.length : Int)) (w1 : hp2.length = hp1.length + (rangeKs 0 (p - 0).toNat).length) (w2 : PushW ((like.getD (Int.toNat 0) 0).fdiv many) hp1 hp2 (rangeKs 0 (p - 0).toNat).length) :
    (pre ++ [k]).length ≤ 40 ∧ hp2.length ≤ 8 + 12 * (pre ++ [k]).length ∧ (off ++ like).length ≤ 4 * (pre ++ [k]).length ∧ sh.length ≤ (pre ++ [k]).length ∧ lf.length ≤ 4 * (pre ++ [k]).length ∧
    shareF heirs many unit (40 - (pre ++ [k]).length) ⟨hp2, off ++ like, sh, lf⟩ = T := by
  have hp3 : p ≤ 12 := by rcases hm with rfl | rfl <;> omega
  rw [rangeKs_length] at w1 w2
  simp only [List.length_append, List.length_cons, List.length_nil]
  refine ⟨by omega, by omega, by omega, by omega, by omega, ?_⟩
  have f := share_next e (k := 40 - (pre.length + (0 + 1))) (by omega) hz
  rw [shareStep, share_take tk ex, if_neg hl, if_neg (show ¬ (like, hp1).1.getD 0 0 = -unit from hu)] at f
  unfold PushW at w2
  rw [Int.sub_zero, hp9] at w2
  rw [w2]
  exact f
end
theorem share_stop {heirs many unit : Int} {hp off sh lf : List Int} {n : Nat} {T : List Int × List Int × List Int} (e : shareF heirs many unit n ⟨hp, off, sh, lf⟩ = T) (hn : 0 < n) (hz : hp.length = 0) : T = (off, sh, lf) := by
  obtain ⟨k, rfl⟩ : ∃ k, n = k + 1 := ⟨n - 1, by omega⟩
  rw [← e, shareF, if_pos (List.eq_nil_of_length_eq_zero hz)]
theorem share_over {heirs many unit : Int} {hp off sh lf : List Int} {n : Nat} {T : List Int × List Int × List Int} (e : shareF heirs many unit n ⟨hp, off, sh, lf⟩ = T) (hn : n = 0) : T = (off ++ hp, sh, lf) := by
  rw [← e, hn, shareF]
def ShareC (w : World) (heirs many unit : Int) (ns : List Int) : Prop :=
  ∀ (loose : List Str) (mean : ExcName → Option Value) (mg mb : Str → Option Value) (dp un : Nat) (gd : Option (List Code)) (cn : Str) (cs : Scope) (a : Addr) (ccd : Value) (cl : List (Str × Addr)) (outer : List Env) (A₀ : Around) (base h₀ : Heap) (L : Addr) (m : Str → Option Value)
    (news : List (Addr × Obj)) (g : Obj → List (Addr × Obj)) (s : Shared) (l : Addr) (vs : List Value) (n : Nat) (t1 t2 t3 : Tok) (Q E : Value → Shared → Prop),
    Below A₀ base outer h₀ → Fr h₀ L s.heap m → (hd.heap_1 w.params).In h₀ → News h₀ L s.heap news → Top topProg loose mean mg mb h₀ → cs.kind = .function →
    UpdF l (listOf vs.toArray n) news g → IntsAre vs ns → dp + 6 < recursionLimit → un + 200 < cLine →
    (∀ D a1 a2 a3 us1 us2 us3 n1 n2 n3 nt vs' n' h' tk', IntsAre us1 (shareF heirs many unit 40 ⟨ns, [], [], []⟩).1 → IntsAre us2 (shareF heirs many unit 40 ⟨ns, [], [], []⟩).2.1 → IntsAre us3 (shareF heirs many unit 40 ⟨ns, [], [], []⟩).2.2 → Fr h₀ L h' m →
      News h₀ L h' ((D, { cls := .type "tuple", data := .seq #[.ref a1, .ref a2, .ref a3] nt }) :: (a1, listOf us1.toArray n1) :: (a2, listOf us2.toArray n2) :: (a3, listOf us3.toArray n3) :: g (listOf (vs' : List Value).toArray n')) →
      (∀ p ∈ news, p.1 ≠ D ∧ p.1 ≠ a1 ∧ p.1 ≠ a2 ∧ p.1 ≠ a3) → Q (.ref D) { s with heap := h', toks := tk' }) →
    wpAny (model PySem.Challenge.rw_op0106_01.row.prog w) (ktrTop dp un gd cn cs L a ccd cl outer) (call (.ref 110) [.ref l, .int heirs t1, .int many t2, .int unit t3]) Q E s
section
set_option rowWalk.seconds 200 in
theorem share_c (w : World) (heirs many unit : Int) (ns : List Int) (h1 : 1 ≤ heirs) (h2 : heirs ≤ 4) (h3 : many = 2 ∨ many = 4) (h4 : ns.length ≤ 8) : ShareC w heirs many unit ns := by
  w_on
  unfold ShareC
  k_fill
  intro loose mean mg mb dp un gd cn cs a ccd cl outer A₀ base h₀ L m news g s l vs n t1 t2 t3 Q E B F X N T hk U hI hd hun ret
  have Nl : News h₀ L s.heap [(l, listOf vs.toArray n)] := news_one N U
  refine wpAny_call ?_
  k_dflt (refine' code_defF ?k1 ?k2 ?k3 Nl ?k5 ?kA ?kF ?kK ?k6 ?k7 ?k8 ?k9 ?kB ?_ ?c2 ?c3 ?c4 ?c5; (case kA => exact rfl); (case kF => exact rfl); (case kK => assumption); (case k1 => k_asm); (case k2 => k_asm); (case k3 => k_asm);  (case k5 => k_asm); (case k6 => k_is); (case k7 => k_is); (case k8 => ktr_room); (case k9 => exact BindsTo.of_eq rfl); (case c5 => decide); (case kB => exact locs rfl); (case c2 => exact rfl); (case c3 => exact rfl); (case c4 => exact rfl); k_whole; intro g' L' h' FG' F' N' B' X' T' l1 hg'; (try k_lt l1); (try dsimp only); (try k_fold))
  clear Nl
  have hLn := hI.length
  k_with_none
  k_with "pyIter ref" => (k_of "turn" => k_state (fun pre hp off sh lf => pre.length ≤ 40 ∧ hp.length ≤ 8 + 12 * pre.length ∧ off.length ≤ 4 * pre.length ∧ sh.length ≤ pre.length ∧ lf.length ≤ 4 * pre.length ∧ shareF heirs many unit (40 - pre.length) ⟨hp, off, sh, lf⟩ = shareF heirs many unit 40 ⟨ns, [], [], []⟩) "heap" "off" "shares" "left")
  k_with "pyIter ref" => (k_of "again" => k_state_given ["heap!", "like"] (fun hp₀ like pre hp => hp.length = hp₀.length + pre.length ∧ PushW ((like.getD (Int.toNat 0) 0).fdiv many) hp₀ hp pre.length) "heap")
  k_with "state" => exact push_start
  k_with "state" => exact push_step (by assumption) (by assumption)
  k_with "exec While BoolOp cons nil" => plain_pass; k_while_given ["like!", "heap!"] (fun like₀ hp₀ _ like hp => 1 ≤ like.length ∧ (like.length : Int) ≤ heirs ∧ like.length + hp.length = 1 + hp₀.length ∧ like.getD 0 0 = like₀.getD 0 0 ∧ TakeW heirs like₀ hp₀ like hp) (fun _ _ _ like _ => (heirs - (like.length : Int)).toNat) "like" "heap"
  k_with "state" => exact ⟨Nat.le_refl _, h1, rfl, rfl, TakeW.refl⟩
  k_with "state" => exact take_step (by assumption) (by assumption) (by assumption) (by assumption) (by assumption) (by assumption) (by assumption) (by assumption) (by assumption)
  k_with "state" => exact share_full (by assumption) (by assumption) (by assumption) (by assumption) (by assumption) (by assumption) (by assumption) (by assumption) (by assumption) (by assumption) (by assumption) (by assumption) (by assumption) (by first | exact Or.inl (by assumption) | exact Or.inr (Or.inl (by assumption)) | exact Or.inr (Or.inr (by assumption))) (by assumption)
  k_with "state" => exact share_left (by assumption) (by assumption) (by assumption) (by assumption) (by assumption) (by assumption) (by assumption) (by assumption) (by assumption) (by assumption) (by assumption) (by assumption) (by assumption) (by first | exact Or.inl (by assumption) | exact Or.inr (Or.inl (by assumption)) | exact Or.inr (Or.inr (by assumption))) (by assumption) (by assumption)
  k_with "state" => exact share_push (by assumption) (by assumption) (by assumption) (by assumption) (by assumption) (by assumption) (by assumption) (by assumption) (by assumption) (by assumption) (by assumption) (by assumption) (by assumption) (by first | exact Or.inl (by assumption) | exact Or.inr (Or.inl (by assumption)) | exact Or.inr (Or.inr (by assumption))) (by assumption) (by assumption) (by assumption) (by assumption) (by assumption) (by assumption)
  k_with "state" => (exfalso; omega)
  k_with "state" => exact ⟨by decide, by simpa using h4, by decide, by decide, by decide, rfl⟩
  k_with "=call ref" => (k_here; (with_reducible show wpAny _ _ (call (Value.ref 63) _) _ _ _); k_dflt (refine' mut_use (heappush_c _ _ _ _ ?c1Zh) ?k1Zh ?k2Zh ?k3Zh ?k4Zh ?k5Zh ?kKZh ?kUZh ?kIZh ?kdZh ?_; (case k1Zh => k_asm); (case k2Zh => k_asm); (case k3Zh => k_asm); (case k4Zh => k_asm); (case k5Zh => k_asm); (case kKZh => first | exact rfl | assumption); (case kUZh => k_updF); (case kIZh => first | with_reducible assumption | exact ksk_snoc (by with_reducible assumption)); (case kdZh => ktr_room)); (case c1Zh => first | assumption | omega | ((simp only [List.length_append, List.length_cons, List.length_nil, List.length_set, List.length_dropLast]); omega) | k_extra "side"); (intro r9Z vs9Z ns9Z n9Z h9Z tk9Z hp9Z hi9Z F9Z N9Z); (obtain ⟨hr9Z, hn9Z⟩ := hp9Z); (first | subst hr9Z | (obtain ⟨t9Z, hr9Z⟩ := hr9Z; subst hr9Z)); (subst hn9Z); (try dsimp only at N9Z); (try dsimp only); (try k_fold))
  k_with "=call ref" => (k_here; (with_reducible show wpAny _ _ (call (Value.ref 70) _) _ _ _); k_dflt (refine' mut_use (heappop_c _ _ ?c1Zh ?c2Zh) ?k1Zh ?k2Zh ?k3Zh ?k4Zh ?k5Zh ?kKZh ?kUZh ?kIZh ?kdZh ?_; (case k1Zh => k_asm); (case k2Zh => k_asm); (case k3Zh => k_asm); (case k4Zh => k_asm); (case k5Zh => k_asm); (case kKZh => first | exact rfl | assumption); (case kUZh => k_updF); (case kIZh => first | with_reducible assumption | exact ksk_snoc (by with_reducible assumption)); (case kdZh => ktr_room)); (case c1Zh => first | assumption | omega | ((simp only [List.length_append, List.length_cons, List.length_nil, List.length_set, List.length_dropLast]); omega) | k_extra "side"); (case c2Zh => first | assumption | omega | ((simp only [List.length_append, List.length_cons, List.length_nil, List.length_set, List.length_dropLast]); omega) | k_extra "side"); (intro r9Z vs9Z ns9Z n9Z h9Z tk9Z hp9Z hi9Z F9Z N9Z); (obtain ⟨hr9Z, hn9Z⟩ := hp9Z); (first | subst hr9Z | (obtain ⟨t9Z, hr9Z⟩ := hr9Z; subst hr9Z)); (subst hn9Z); (have hq9Z := popF_len_of hi9Z); (try dsimp only at N9Z); (try dsimp only); (try k_fold))
  k_with "=compareOp Eq ref ref" => (k_here; (with_reducible show wpAny _ _ (compareOp CmpOp.Eq (Value.ref _) (Value.ref _)) _ _ _); k_dflt (refine' eq_nil_ints ?aZh ?bZh ?iZh ?uZh ?_ ?_; (case aZh => is_list); (case bZh => is_list); (case iZh => l_ints); (case uZh => first | ke_room | ktr_units); k_whole); all_goals (intro hz9Z))
  k_with "=compareOp NotEq ref ref" => (k_here; (with_reducible show wpAny _ _ (compareOp CmpOp.NotEq (Value.ref _) (Value.ref _)) _ _ _); k_dflt (refine' ne_nil_ints ?aZh ?bZh ?iZh ?uZh ?_ ?_; (case aZh => is_list); (case bZh => is_list); (case iZh => l_ints); (case uZh => first | ke_room | ktr_units); k_whole); all_goals (intro hz9Z))
  k_with "=call builtin:list.extend" => (k_here; k_dflt (refine' extend_U ?FZh ?NZh ?UZh ?bZh ?iZh ?jZh ?zZh ?_; (case FZh => k_asm); (case NZh => k_asm); (case UZh => k_updF); (case bZh => k_mem); (case iZh => first | with_reducible assumption | exact IntsAre.nil | l_ints); (case jZh => first | with_reducible assumption | exact IntsAre.nil | l_ints); (case zZh => first | omega | ((simp only [List.length_append, List.length_cons, List.length_nil, List.length_set, List.length_dropLast, List.length_replicate]); omega) | k_extra "side")); intro hZ' usZ' nZ' FZ' NZ' hIZ'; (try dsimp only at NZ'); (try k_sweep))
  k_with "=call builtin:list.append" => (k_here; k_dflt (refine' append_U ?FZh ?NZh ?UZh ?iZh ?zZh ?_; (case FZh => k_asm); (case NZh => k_asm); (case UZh => k_updF); (case iZh => first | with_reducible assumption | exact IntsAre.nil | l_ints); (case zZh => first | omega | ((simp only [List.length_append, List.length_cons, List.length_nil, List.length_set, List.length_dropLast, List.length_replicate]); omega) | k_extra "side")); intro hZ' usZ' nZ' FZ' NZ' hIZ'; (try dsimp only at NZ'); (try k_sweep))
  k_with "=InvEndN" => k_dflt kst_close
  k_with "=KswEnd" => k_dflt ksw_close
  k_with "=binaryOp Mult int int" => (k_here; k_dflt (refine' mul_small ?aZh ?bZh ?cZh ?_; (case aZh => assumption); (case bZh => omega); (case cZh => omega)); intro p9Z hp9Z hp0Z hp1Z)
  k_steps
  · dsimp only [qk, InvPostN]
    k_steps
    intro hfr
    show Q (Value.ref _) _
    have hT := share_stop (by assumption) (by omega) (by assumption)
    refine ret _ _ _ _ _ _ _ _ _ _ _ _ _ _ _ (by rw [hT]; assumption) (by rw [hT]; assumption) (by rw [hT]; assumption) (by assumption) (news_add (by assumption) (by k_mem) (news_add (by assumption) (by k_mem) (news_add (by assumption) (by k_mem) (news_add (by assumption) (by k_mem) (news_frameM N U hfr (by assumption) (by k_mem)))))) ?_
    exact fun p hp => ⟨ne_new hg' N (by assumption) (by k_mem) (by k_ne) p hp, ne_new hg' N (by assumption) (by k_mem) (by k_ne) p hp, ne_new hg' N (by assumption) (by k_mem) (by k_ne) p hp, ne_new hg' N (by assumption) (by k_mem) (by k_ne) p hp⟩
  · intro hfr
    show Q (Value.ref _) _
    have hT := share_over (by assumption : shareF heirs many unit _ ⟨_, _, _, _⟩ = _) rfl
    refine ret _ _ _ _ _ _ _ _ _ _ _ _ _ _ _ (by rw [hT]; assumption) (by rw [hT]; assumption) (by rw [hT]; assumption) (by assumption) (news_add (by assumption) (by k_mem) (news_add (by assumption) (by k_mem) (news_add (by assumption) (by k_mem) (news_add (by assumption) (by k_mem) (news_frameM N U hfr (by assumption) (by k_mem)))))) ?_
    exact fun p hp => ⟨ne_new hg' N (by assumption) (by k_mem) (by k_ne) p hp, ne_new hg' N (by assumption) (by k_mem) (by k_ne) p hp, ne_new hg' N (by assumption) (by k_mem) (by k_ne) p hp, ne_new hg' N (by assumption) (by k_mem) (by k_ne) p hp⟩
end
open PySem PySem.W PySem.Calls PyProof.Rows
set_option Elab.async false
set_option maxRecDepth 100000
set_option maxHeartbeats 8000000
set_option linter.unusedVariables false
def diffF : Nat → List Int → List Int → List Int → List Int × List Int
  | 0, _, act, mis => (mis, act)
  | k + 1, exp, act, mis => if exp = [] then (mis, act) else if exp.getLastD 0 ∈ act then diffF k exp.dropLast (act.erase (exp.getLastD 0)) mis else diffF k exp.dropLast act (mis ++ [exp.getLastD 0])
@[irreducible] def DiffW (T : List Int × List Int) (exp act mis : List Int) : Prop := diffF exp.length exp act mis = T
theorem DiffW.start {exp act mis : List Int} : DiffW (diffF exp.length exp act mis) exp act mis := by unfold DiffW; rfl
theorem diff_succ {exp : List Int} (h : 0 < exp.length) : exp.length = exp.dropLast.length + 1 ∧ exp ≠ [] := by
  refine ⟨by rw [List.length_dropLast]; omega, fun e => ?_⟩
  rw [e] at h
  exact absurd h (by decide)
theorem DiffW.hit {T : List Int × List Int} {exp act mis : List Int} (h : DiffW T exp act mis) (h1 : 0 < exp.length) (h2 : exp.getLastD 0 ∈ act) : DiffW T exp.dropLast (act.erase (exp.getLastD 0)) mis := by
  unfold DiffW at h ⊢
  rw [(diff_succ h1).1, diffF, if_neg (diff_succ h1).2, if_pos h2] at h
  exact h
theorem DiffW.miss {T : List Int × List Int} {exp act mis : List Int} (h : DiffW T exp act mis) (h1 : 0 < exp.length) (h2 : exp.getLastD 0 ∉ act) : DiffW T exp.dropLast act (mis ++ [exp.getLastD 0]) := by
  unfold DiffW at h ⊢
  rw [(diff_succ h1).1, diffF, if_neg (diff_succ h1).2, if_neg h2] at h
  exact h
theorem DiffW.done {T : List Int × List Int} {exp act mis : List Int} (h : DiffW T exp act mis) (h1 : exp.length = 0) : T = (mis, act) := by
  unfold DiffW at h
  rw [h1, diffF] at h
  exact h.symm
theorem diff_hit {T : List Int × List Int} {exp act mis : List Int} {a b : Nat} (l1 : exp.length ≤ a) (l2 : act.length ≤ b) (l3 : mis.length + exp.length ≤ a) (h : DiffW T exp act mis) (h1 : 0 < exp.length) (h2 : exp.getLastD 0 ∈ act) :
    exp.dropLast.length ≤ a ∧ (act.erase (exp.getLastD 0)).length ≤ b ∧ mis.length + exp.dropLast.length ≤ a ∧ DiffW T exp.dropLast (act.erase (exp.getLastD 0)) mis := by
  refine ⟨by rw [List.length_dropLast]; omega, by rw [List.length_erase_of_mem h2]; omega, by rw [List.length_dropLast]; omega, h.hit h1 h2⟩
theorem diff_miss {T : List Int × List Int} {exp act mis : List Int} {a b : Nat} (l1 : exp.length ≤ a) (l2 : act.length ≤ b) (l3 : mis.length + exp.length ≤ a) (h : DiffW T exp act mis) (h1 : 0 < exp.length) (h2 : exp.getLastD 0 ∉ act) :
    exp.dropLast.length ≤ a ∧ act.length ≤ b ∧ (mis ++ [exp.getLastD 0]).length + exp.dropLast.length ≤ a ∧ DiffW T exp.dropLast act (mis ++ [exp.getLastD 0]) := by
  refine ⟨by rw [List.length_dropLast]; omega, l2, by rw [List.length_dropLast, List.length_append]; simp only [List.length_cons, List.length_nil]; omega, h.miss h1 h2⟩
def Stop (P : Prop) : Prop := P
theorem stopHere {P : Prop} (h : Stop P) : P := h
theorem with_head {h₀ h : Heap} {L D : Addr} {o : Obj} {r : List (Addr × Obj)} {P : Prop} (N : News h₀ L h ((D, o) :: r)) (k : ∀ D', D' = D → P) : P := k D rfl
def DiffC (w : World) (ns1 ns2 : List Int) : Prop :=
  ∀ (loose : List Str) (mean : ExcName → Option Value) (mg mb : Str → Option Value) (cn : Str) (cs : Scope) (a : Addr) (ccd : Value) (h₀ : Heap) (L : Addr) (m : Str → Option Value)
    (rest : List (Addr × Obj)) (s : Shared) (l1 l2 : Addr) (vs1 vs2 : List Value) (n1 n2 : Nat) (Q E : Value → Shared → Prop),
    Fr h₀ L s.heap m → (hd.heap_1 w.params).In h₀ → News h₀ L s.heap ((l1, listOf vs1.toArray n1) :: (l2, listOf vs2.toArray n2) :: rest) → Top topProg loose mean mg mb h₀ → cs.kind = .function →
    l1 ≠ l2 → (∀ p ∈ rest, p.1 ≠ l1 ∧ p.1 ≠ l2) → IntsAre vs1 ns1 → IntsAre vs2 ns2 → Str.ofString "ValueError" ∉ loose →
    (∀ D a1 us1 us2 k1 k2 nt h' tk', IntsAre us1 (diffF ns1.length ns1 ns2 []).1 → IntsAre us2 (diffF ns1.length ns1 ns2 []).2 → Fr h₀ L h' m →
      News h₀ L h' ((D, { cls := .type "tuple", data := .seq #[.ref a1, .ref l2] nt }) :: (a1, listOf (us1 : List Value).toArray k1) :: (l2, listOf (us2 : List Value).toArray k2) :: rest) → Q (.ref D) { s with heap := h', toks := tk' }) →
    wpAny (model PySem.Challenge.rw_op0106_01.row.prog w) (callerA.deeper (envOf cn cs L a ccd)) (call (.ref 98) [.ref l1, .ref l2]) Q E s
section
theorem diff_c (w : World) (ns1 ns2 : List Int) (h1 : ns1.length ≤ 1000) (h2 : ns2.length ≤ 1000) : DiffC w ns1 ns2 := by
  w_on
  unfold DiffC
  k_fill
  intro loose mean mg mb cn cs a ccd h₀ L m rest s l1 l2 vs1 vs2 n1 n2 Q E F X N T hk hne hrest hI1 hI2 hlo ret
  have Nl : News h₀ L s.heap [(l1, listOf vs1.toArray n1), (l2, listOf vs2.toArray n2)] := fun p hp => N p (by
    rcases List.mem_cons.mp hp with rfl | hp
    · exact .head _
    · rcases List.mem_singleton.mp hp with rfl
      exact .tail _ (.head _))
  refine wpAny_call ?_
  k_dflt (refine' code_defX ?k2 ?k3 Nl ?k5 ?kA ?k6 ?k7 ?k8 ?k9 ?kB ?_ hk ?c2 ?c3 ?c4 ?c5; (case kA => exact rfl); (case k2 => k_asm); (case k3 => k_asm);  (case k5 => k_asm); (case k6 => k_is); (case k7 => k_is); (case k8 => k_room); (case k9 => exact BindsTo.of_eq rfl); (case c5 => decide); (case kB => exact locs rfl); (case c2 => exact rfl); (case c3 => exact rfl); (case c4 => exact rfl); k_whole; intro oL g' L' h' tiC' tiF' tiE' F' N' X' T' hst' hg' l1' l2'; (try dsimp only); (replace tiE' := TLgL.allNe_of tiE'); (try simp only [TLg.AllNe, and_true] at tiE'); (try simp only [List.nil_append, List.cons_append] at N'); (try k_lt l1'); (try k_lt2 l2'); (try k_fold))
  clear Nl
  have hLn1 := hI1.length
  have hLn2 := hI2.length
  have hne' := neN hne
  k_with_none
  k_with "exec While Name cons nil" => refine stopHere ?_
  k_with "state" => exact diff_hit (by assumption) (by assumption) (by assumption) (by assumption) (by assumption) (by assumption)
  k_with "state" => exact diff_miss (by assumption) (by assumption) (by assumption) (by assumption) (by assumption) (by assumption)
  k_with "state" => exact ⟨Nat.le_refl _, Nat.le_refl _, (by simp), DiffW.start⟩
  k_with "measure" => ((simp only [List.length_dropLast]); omega)
  k_with "=call builtin:list.extend" => (k_here; k_dflt (refine' extend_U ?FZh ?NZh ?UZh ?bZh ?iZh ?jZh ?zZh ?_; (case FZh => k_asm); (case NZh => k_asm); (case UZh => k_updF); (case bZh => k_mem); (case iZh => first | with_reducible assumption | exact IntsAre.nil | l_ints); (case jZh => first | with_reducible assumption | exact IntsAre.nil | l_ints); (case zZh => first | omega | ((simp only [List.length_append, List.length_cons, List.length_nil, List.length_set, List.length_dropLast, List.length_replicate]); omega) | k_extra "side")); intro hZ' usZ' nZ' FZ' NZ' hIZ'; (try dsimp only at NZ'); (try k_sweep))
  k_with "=call builtin:list.append" => (k_here; k_dflt (refine' append_U ?FZh ?NZh ?UZh ?iZh ?zZh ?_; (case FZh => k_asm); (case NZh => k_asm); (case UZh => k_updF); (case iZh => first | with_reducible assumption | exact IntsAre.nil | l_ints); (case zZh => first | omega | ((simp only [List.length_append, List.length_cons, List.length_nil, List.length_set, List.length_dropLast, List.length_replicate]); omega) | k_extra "side")); intro hZ' usZ' nZ' FZ' NZ' hIZ'; (try dsimp only at NZ'); (try k_sweep))
  k_with "=truthy ref" => (k_here; k_dflt (refine' truthy_ints ?k1Zh ?k2Zh ?k3Zh ?k4Zh ?_ ?_; (case k1Zh => k_asm); (case k2Zh => k_mem); (case k3Zh => with_reducible assumption); (case k4Zh => first | omega | ((simp only [List.length_append, List.length_cons, List.length_nil, List.length_set, List.length_dropLast]); omega)); k_whole); all_goals (intro hz9Z))
  k_with "=call builtin:list.pop" => (k_here; k_dflt (refine' pop_U ?FZh ?NZh ?UZh ?iZh ?eZh ?zZh ?_; (case FZh => k_asm); (case NZh => k_asm); (case UZh => k_updF); (case iZh => first | with_reducible assumption | l_ints); (case eZh => first | assumption | omega); (case zZh => omega)); intro hZ' usZ' nZ' tZ' FZ' NZ' hIZ'; (try dsimp only at NZ'); (try k_sweep))
  k_with "=InvEndN" => k_dflt kst_close
  k_with "=KswEnd" => k_dflt ksw_close
  k_with "=call builtin:list.remove" => (k_here; k_dflt (refine' remove_U ?AZh ?FZh ?NZh ?UZh ?iZh ?zZh ?_ ?_; (case AZh => rfl); (case FZh => k_asm); (case NZh => k_asm); (case UZh => k_updF); (case iZh => first | with_reducible assumption | l_ints); (case zZh => omega)); (all_goals intro hx9Z); (rotate_left); (intro hZ' usZ' nZ' FZ' NZ' hIZ'; (try dsimp only at NZ'); (try k_sweep)); (rotate_left))
  k_with "=handleBy" => (k_here; (with_reducible rename TT.HeldNA _ _ _ _ _ _ _ _ => ttNZ); k_dflt (refine' clause_VE ttNZ ?TZh ?lZh ?_ ?kZh ?xZh ?eZh; (case TZh => k_asm); (case lZh => assumption); (case kZh => rfl); (case xZh => rfl); (case eZh => passes_own)); clear ttNZ; (try (with_reducible rename HeldAt _ _ _ _ _ _ _ => ttHZ; clear ttHZ)); intro hZ' FZ' NZ'; (try k_sweep))
  k_steps
  unfold Stop
  ((rename Fr g' L' _ _ => lF); (rename News g' L' _ _ => lN))
  refine with_head lN ?_
  intro D hD
  subst hD
  refine ksw_while (σ := List Value × List Int × Nat × List Value × List Int × Nat × List Value × List Int × Nat × Array (Option Value)) (fun c => [(D, listOf c.1.toArray c.2.2.1), (l1, listOf c.2.2.2.1.toArray c.2.2.2.2.2.1), (l2, listOf c.2.2.2.2.2.2.1.toArray c.2.2.2.2.2.2.2.2.1), (L, { oL with slots := c.2.2.2.2.2.2.2.2.2 })]) (fun _ => [])
    (fun c => IntsAre c.1 c.2.1 ∧ IntsAre c.2.2.2.1 c.2.2.2.2.1 ∧ IntsAre c.2.2.2.2.2.2.1 c.2.2.2.2.2.2.2.1 ∧ TI.Frs [envOf cn cs L a ccd] [(L, { oL with slots := c.2.2.2.2.2.2.2.2.2 })]) ["item"]
    (fun c => c.2.2.2.2.1.length ≤ ns1.length ∧ c.2.2.2.2.2.2.2.1.length ≤ ns2.length ∧ c.2.1.length + c.2.2.2.2.1.length ≤ ns1.length ∧ DiffW (diffF ns1.length ns1 ns2 []) c.2.2.2.2.1 c.2.2.2.2.2.2.2.1 c.2.1)
    (fun c => c.2.2.2.2.1.length) ([], [], 0, vs1, ns1, n1, vs2, ns2, n2, oL.slots) lF lN ⟨.nil, hI1, hI2, tiF'⟩ (fun _ hp => nomatch hp) ⟨Nat.le_refl _, Nat.le_refl _, (by simp), DiffW.start⟩ ?_
  clear lF lN tiF'
  rintro ⟨ms, mn, mk, es, en, ek, as, an, ak, sl⟩ u h tk ⟨hf1, hf2, hf3, tiF'⟩ ⟨hp1, hp2, hp3, hp4⟩ kFr kNews
  dsimp only [kstB] at kFr
  dsimp only at kNews hf1 hf2 hf3 tiF' hp1 hp2 hp3 hp4
  have hm1 := hf1.length
  have hm2 := hf2.length
  have hm3 := hf3.length
  try k_fold
  k_steps
  show Q (Value.ref _) _
  ((rename Fr g' L' _ _ => lF); (rename News g' L' _ _ => lN))
  have hT := hp4.done (by assumption)
  exact ret _ _ _ _ _ _ _ _ _ (by rw [hT]; assumption) (by rw [hT]; assumption) (fr_back (sl := sl) tiC' hst' lF lN (by k_mem)) (news_back hst' lN (by k_mem) (by k_ne) (news_back hst' lN (by k_mem) (by k_ne) (news_back hst' lN (by k_mem) (by k_ne) (news_kept N hrest hg' lF))))
end
open PySem PySem.W PySem.Calls PyProof.Rows
set_option Elab.async false
set_option maxRecDepth 100000
set_option maxHeartbeats 8000000
set_option linter.unusedVariables false
def d2i (ds : List Int) (n : Int) : Nat → Int → Int → Int
  | 0, lo, _ => ds.getD lo.toNat 0
  | f + 1, lo, hi => if lo + 1 = hi then ds.getD lo.toNat 0 else d2i ds n f ((lo + hi) / 2) hi * 2 ^ (((lo + hi) / 2 - lo) * n).toNat + d2i ds n f lo ((lo + hi) / 2)
theorem d2i_fuel (ds : List Int) (n : Int) : ∀ (f g : Nat) (lo hi : Int), lo < hi → (hi - lo).toNat ≤ f → (hi - lo).toNat ≤ g → d2i ds n f lo hi = d2i ds n g lo hi
  | 0, _, lo, hi, h, h1, _ => absurd h1 (by omega)
  | _ + 1, 0, lo, hi, h, _, h1 => absurd h1 (by omega)
  | f + 1, g + 1, lo, hi, h, h1, h2 => by
    simp only [d2i]
    split
    · rfl
    · rw [d2i_fuel ds n f g _ _ (by omega) (by omega) (by omega), d2i_fuel ds n f g lo _ (by omega) (by omega) (by omega)]
@[irreducible] def valD (ds : List Int) (n lo hi : Int) : Int := d2i ds n (hi - lo).toNat lo hi
theorem valD_one {ds : List Int} {n lo hi : Int} (h : lo + 1 = hi) : valD ds n lo hi = ds.getD lo.toNat 0 := by
  rw [valD, show (hi - lo).toNat = 0 + 1 from by omega, d2i, if_pos h]
theorem valD_more {ds : List Int} {n lo hi : Int} (h : lo + 1 < hi) : valD ds n lo hi = valD ds n ((lo + hi) / 2) hi * 2 ^ (((lo + hi) / 2 - lo) * n).toNat + valD ds n lo ((lo + hi) / 2) := by
  obtain ⟨k, hk⟩ : ∃ k, (hi - lo).toNat = k + 1 := ⟨(hi - lo).toNat - 1, by omega⟩
  rw [valD, hk, d2i, if_neg (by omega), valD, valD, d2i_fuel ds n k _ _ _ (by omega) (by omega) (Nat.le_refl _), d2i_fuel ds n k _ lo _ (by omega) (by omega) (Nat.le_refl _)]
def InnerC (w : World) (sub : List (Addr × Obj)) (f : Addr) (val : Int → Int → Int) (ok : Int → Int → Prop) (k : Nat) : Prop :=
  ∀ (loose : List Str) (mean : ExcName → Option Value) (mg mb : Str → Option Value) (dp un : Nat) (gd : Option (List Code)) (cn : Str) (cs : Scope) (a : Addr) (ccd : Value) (cl : List (Str × Addr)) (outer : List Env) (A₀ : Around) (base h₀ : Heap) (L : Addr) (m : Str → Option Value)
    (news : List (Addr × Obj)) (s : Shared) (lo hi : Int) (t1 t2 : Tok) (Q E : Value → Shared → Prop),
    (hi - lo).toNat ≤ k → ok lo hi → Below A₀ base outer h₀ → Fr h₀ L s.heap m → (hd.heap_1 w.params).In h₀ → News h₀ L s.heap news → Top topProg loose mean mg mb h₀ → cs.kind = .function → (∀ p ∈ sub, p ∈ news) → dp + k < recursionLimit →
    (∀ t h' tk', Fr h₀ L h' m → News h₀ L h' news → Q (.int (val lo hi) t) { s with heap := h', toks := tk' }) →
    wpAny (model PySem.Challenge.rw_op0106_01.row.prog w) (ktrTop dp un gd cn cs L a ccd cl outer) (call (.ref f) [.int lo t1, .int hi t2]) Q E s
section
variable {w : World} {loose : List Str} {mean : ExcName → Option Value} {mg mb : Str → Option Value} {dp un : Nat} {gd : Option (List Code)} {cn : Str} {cs : Scope} {a : Addr} {ccd : Value} {cl : List (Str × Addr)} {outer : List Env} {A₀ : Around} {base h₀ : Heap} {L : Addr} {m : Str → Option Value}
theorem inner_use {sub news : List (Addr × Obj)} {f : Addr} {val : Int → Int → Int} {ok : Int → Int → Prop} {k : Nat} {s : Shared} {lo hi : Int} {t1 t2 : Tok} {Q E : Value → Shared → Prop} (C : InnerC w sub f val ok k) (hk : (hi - lo).toNat ≤ k) (ho : ok lo hi) (B : Below A₀ base outer h₀) (F : Fr h₀ L s.heap m) (X : (hd.heap_1 w.params).In h₀) (N : News h₀ L s.heap news) (T : Top topProg loose mean mg mb h₀) (hs : cs.kind = .function) (hsub : ∀ p ∈ sub, p ∈ news) (hd : dp + k < recursionLimit)
    (ret : ∀ t h' tk', Fr h₀ L h' m → News h₀ L h' news → Q (.int (val lo hi) t) { s with heap := h', toks := tk' }) :
    wpAny (model PySem.Challenge.rw_op0106_01.row.prog w) (ktrTop dp un gd cn cs L a ccd cl outer) (call (.ref f) [.int lo t1, .int hi t2]) Q E s := C _ _ _ _ _ _ _ _ _ _ _ _ _ _ _ _ _ _ _ _ _ _ _ _ _ _ hk ho B F X N T hs hsub hd ret
end
theorem inner_all {w : World} {sub : List (Addr × Obj)} {f : Addr} {val : Int → Int → Int} {ok : Int → Int → Prop} (step : ∀ k, (∀ j, j < k → InnerC w sub f val ok j) → InnerC w sub f val ok k) : ∀ k, InnerC w sub f val ok k := fun k => Nat.strongRecOn k step
theorem news_same {h₀ h h' : Heap} {L : Addr} {sub news : List (Addr × Obj)} (N : News h₀ L h news) (hs : ∀ p ∈ sub, p ∈ news) (hfr : ∀ b o, h.get? b = some o → b ∉ sub.map (·.1) → h'.get? b = some o) (N' : News h₀ L h' sub) : News h₀ L h' news := fun p hp => by
  by_cases hb : p.1 ∈ sub.map (·.1)
  · obtain ⟨q, hq, e⟩ := List.mem_map.mp hb
    have z1 := (N p hp).1
    have z2 := (N q (hs q hq)).1
    rw [e] at z2
    rw [z1] at z2
    have e2 : p = q := Prod.ext e.symm (Option.some.inj z2)
    rw [e2]
    exact N' q hq
  · exact ⟨hfr _ _ (N p hp).1 hb, (N p hp).2⟩
theorem news_tab {h₀ h h' : Heap} {L P dl : Addr} {news big : List (Addr × Obj)} {g : Obj → List (Addr × Obj)} {o od o2 : Obj} (N : News h₀ L h news) (U : UpdF P o news g) (hm : (dl, od) ∈ news)
    (hfr : ∀ b o', h.get? b = some o' → b ∉ [(P, o), (dl, od)].map (·.1) → h'.get? b = some o') (N' : News h₀ L h' big) (h1 : (P, o2) ∈ big) (h2 : (dl, od) ∈ big) : News h₀ L h' (g o2) := by
  obtain ⟨pre, post, rfl, hg, a, b⟩ := U.split
  rw [hg]
  have keep : ∀ p ∈ pre ++ (P, o) :: post, p.1 ≠ P → h'.get? p.1 = some p.2 := fun p hp hn => by
    by_cases e : p.1 = dl
    · have z1 := (N p hp).1
      have z2 := (N _ hm).1
      rw [e, z2] at z1
      have z3 := (N' _ h2).1
      rw [e, ← z1]
      exact z3
    · exact hfr _ _ (N p hp).1 (by simpa using ⟨hn, e⟩)
  intro p hp
  rcases List.mem_append.mp hp with q | q
  · have hp' : p ∈ pre ++ (P, o) :: post := List.mem_append_left _ q
    exact ⟨keep p hp' (a p q), (N p hp').2⟩
  · rcases List.mem_cons.mp q with rfl | q
    · exact N' _ h1
    · have hp' : p ∈ pre ++ (P, o) :: post := List.mem_append_right _ (.tail _ q)
      exact ⟨keep p hp' (b p q), (N p hp').2⟩
theorem ne_newS {h₀ h g h' : Heap} {L L' D : Addr} {news sub big : List (Addr × Obj)} {oD : Obj} (hg : ∀ b o, h.get? b = some o → b ∉ sub.map (·.1) → g.get? b = some o) (N : News h₀ L h news) (N' : News g L' h' big) (hD : (D, oD) ∈ big) (hl : D ∉ sub.map (·.1)) : ∀ p ∈ news, p.1 ≠ D := fun p hp e => by
  have z := (N' _ hD).2.2
  rw [hg D p.2 (e ▸ (N p hp).1) hl] at z
  cases z
theorem mul_n {prog : Program} {w : World} {A : Around} {E : Value → Shared → Prop} {s : Shared} {a b : Int} {t u : Tok} {Q : Value → Shared → Prop} (h0 : 0 ≤ a) (h1 : a ≤ 100) (hb : 1 ≤ b) (hb' : b ≤ 3) (h : ∀ p, p = a * b → 0 ≤ p → p ≤ 300 → Q (.int p s.toks) { s with toks := s.toks + 1 }) :
    wpAny (model prog w) A (binaryOp .Mult (.int a t) (.int b u)) Q E s := by
  have : b = 1 ∨ b = 2 ∨ b = 3 := by omega
  rcases this with rfl | rfl | rfl
  · exact mul_int (h _ rfl (by omega) (by omega))
  · exact mul_int (h _ rfl (by omega) (by omega))
  · exact mul_int (h _ rfl (by omega) (by omega))
def D2i1 (w : World) (ds : List Int) (n : Int) : Prop :=
  ∀ (loose : List Str) (mean : ExcName → Option Value) (mg mb : Str → Option Value) (dp un : Nat) (gd : Option (List Code)) (cn : Str) (cs : Scope) (a : Addr) (ccd : Value) (cl : List (Str × Addr)) (outer : List Env) (A₀ : Around) (base h₀ : Heap) (L : Addr) (m : Str → Option Value)
    (news : List (Addr × Obj)) (g : Obj → List (Addr × Obj)) (s : Shared) (dl : Addr) (vs : List Value) (k : Nat) (tn : Tok) (Q E : Value → Shared → Prop),
    Below A₀ base outer h₀ → Fr h₀ L s.heap m → (hd.heap_1 w.params).In h₀ → News h₀ L s.heap news → Top topProg loose mean mg mb h₀ → cs.kind = .function → CodeHd h₀ 41 37 →
    UpdF 37 (tabObj #[]) news g → (dl, listOf vs.toArray k) ∈ news → IntsAre vs ds → dp + 20 < recursionLimit →
    (∀ t h' tk' c' oc fvs ft, oc.data = .fields fvs → fvs[1]? = some (.str (Str.ofString "_digits2int.<locals>.inner") ft) → Fr h₀ L h' m → News h₀ L h' ((c', oc) :: g (tabObj #[rawInt 47, rawInt 4, .ref c'])) → (∀ p ∈ news, p.1 ≠ c') → Q (.int (if 0 < ds.length then valD ds n 0 ds.length else 0) t) { s with heap := h', toks := tk' }) →
    wpAny (model PySem.Challenge.rw_op0106_01.row.prog w) (ktrTop dp un gd cn cs L a ccd cl outer) (call (.ref 42) [.ref dl, .int n tn]) Q E s
section
theorem d2i1_c (w : World) (ds : List Int) (n : Int) (h1 : ds.length ≤ 8) (hn1 : 1 ≤ n) (hn2 : n ≤ 3) (hb : ∀ lo hi, 0 ≤ lo → lo < hi → hi ≤ (ds.length : Int) → (valD ds n lo hi).natAbs < 2 ^ 64) : D2i1 w ds n := by
  w_on
  unfold D2i1
  k_fill
  intro loose mean mg mb dp un gd cn cs a ccd cl outer A₀ base h₀ L m news g s dl vs k tn Q E B F X N T hk hC U hm hI hd ret
  have Nl : News h₀ L s.heap [(37, tabObj #[]), (dl, listOf vs.toArray k)] := fun p hp => by
    rcases List.mem_cons.mp hp with rfl | hp
    · exact news_one N U _ (.head _)
    · rcases List.mem_singleton.mp hp with rfl
      exact N _ hm
  have hne : (37 : Nat) ≠ dl := fun e => by
    have z := (Nl _ (.head _)).1
    have y := (N _ hm).1
    rw [← e] at y
    rw [show s.heap.get? 37 = _ from z] at y
    cases y
  refine wpAny_call ?_
  k_dflt (refine' code_defFC ?k1 ?k2 ?k3 Nl ?k5 ?kA ?kF ?kK ?k6 ?k7 ?k8 ?k9 ?kB ?kD ?_ ?c2 ?c3 ?c4; (case kA => exact rfl); (case kF => exact rfl); (case kK => assumption); (case k1 => k_asm); (case k2 => k_asm); (case k3 => k_asm);  (case k5 => k_asm); (case k6 => k_is); (case k7 => k_is); (case k8 => ktr_room); (case k9 => exact BindsTo.of_eq rfl); (case kB => exact rfl); (case kD => decide +kernel); (case c2 => exact rfl); (case c3 => exact rfl); (case c4 => exact rfl); k_whole; intro g' L' h' tk' cells' FG' F' N' Y' B' X' T' l1 hg'; (try k_lt l1); k_cells Y'; (try simp only [List.cons_append, List.nil_append] at N'); (try dsimp only); (try k_fold))
  clear Nl
  have hC' : CodeHd g' 41 37 := hC.keeps (Fr.keep FG')
  have hLn := hI.length
  k_with_none
  k_with "call ref" => (k_dflt (refine' inner_use (k := 8) (val := valD ds n) (ok := fun lo hi => 0 ≤ lo ∧ lo < hi ∧ hi ≤ (ds.length : Int)) ?C ?h1 ?h2 ?B ?F ?X (by assumption) ?T ?K (fun p hp => hp) ?D ?_; (case B => k_asm); (case F => k_asm); (case X => k_asm); (case T => k_asm); (case K => rfl); (case h1 => omega); (case h2 => (constructor <;> omega)); (case D => ktr_room)); rotate_left; (intro t9 h9 tk9 F9 N9; (try dsimp only); (try k_fold)); rotate_left)
  k_with "=binaryOp RShift int int" => (k_here; (with_reducible refine rshift1 ?_))
  k_with "=binaryOp Mult int int" => (k_here; k_dflt (refine' mul_n ?aZh ?bZh ?cZh ?dZh ?_; (case aZh => omega); (case bZh => omega); (case cZh => omega); (case dZh => omega)); intro p9Z hp9Z hp0Z hp1Z)
  k_with "=binaryOp LShift int int" => (k_here; k_dflt (refine' lshift_int_small ?aZh ?bZh ?cZh ?_; (case aZh => omega); (case bZh => omega); (case cZh => k_extra "side")))
  k_steps
  · refine inner_all (fun k₁ IH => ?_) 8
    unfold InnerC
    intro loose₁ mean₁ mg₁ mb₁ dp₁ un₁ gd₁ cn₁ cs₁ a₁ ccd₁ cl₁ outer₁ A₁ base₁ h₁₁ L₁ m₁ news₁ s₁ lo hi t1 t2 Q₁ E₁ hle hok B₁ F₁ X₁ N₁ T₁ hs₁ hsub₁ hd₁ ret₁
    obtain ⟨h0, hlt, hhi⟩ := hok
    have Nl : News h₁₁ L₁ s₁.heap _ := fun p hp => N₁ p (hsub₁ p hp)
    refine wpAny_call ?_
    k_dflt (refine' code_defFX ?k1 ?k2 ?k3 Nl ?k5 ?kA ?kF ?kK ?k6 ?k7 ?k8 ?k9 ?kB ?_ ?c2 ?c3 ?c4 ?c5; (case kA => exact rfl); (case kF => exact rfl); (case kK => assumption); (case k1 => k_asm); (case k2 => k_asm); (case k3 => k_asm);  (case k5 => k_asm); (case k6 => k_mem); (case k7 => exact codeRec_news Nl (.tail _ (.head _)) (by assumption) (by assumption)); (case k8 => ktr_room); (case k9 => exact BindsTo.of_eq rfl); (case c5 => decide); (case kB => exact locs rfl); (case c2 => exact rfl); (case c3 => exact rfl); (case c4 => exact rfl); k_whole; intro g' L' h' FG' F' N' B' X' T' l1 hg'; (try k_lt l1); (try dsimp only); (try k_fold))
    clear Nl
    k_with_none
    k_with "side" => exact hb _ _ (by omega) (by omega) (by omega)
    k_with "call ref" => (k_dflt (refine' inner_use (IH (k₁ - 1) ?j) ?h1 ?h2 ?B ?F ?X (by assumption) ?T ?K (fun p hp => hp) ?D ?_; (case j => omega); (case B => k_asm); (case F => k_asm); (case X => k_asm); (case T => k_asm); (case K => rfl); (case h1 => omega); (case h2 => (refine ⟨?_, ?_, ?_⟩ <;> omega)); (case D => ktr_room)); (intro t9 h9 tk9 F9 N9; (try dsimp only); (try k_fold)))
    k_with "=binaryOp RShift int int" => (k_here; (with_reducible refine rshift1 ?_))
    k_with "=binaryOp Mult int int" => (k_here; k_dflt (refine' mul_n ?aZh ?bZh ?cZh ?dZh ?_; (case aZh => omega); (case bZh => omega); (case cZh => omega); (case dZh => omega)); intro p9Z hp9Z hp0Z hp1Z)
    k_with "=binaryOp LShift int int" => (k_here; k_dflt (refine' lshift_int_small ?aZh ?bZh ?cZh ?_; (case aZh => omega); (case bZh => omega); (case cZh => k_extra "side")))
    k_steps
    · intro hfr
      have e := valD_one (ds := ds) (n := n) (by assumption : lo + 1 = hi)
      rw [e] at ret₁
      exact ret₁ _ _ _ (by assumption) (news_same N₁ hsub₁ hfr (by assumption))
    · intro hfr
      have e := valD_more (ds := ds) (n := n) (by omega : lo + 1 < hi)
      rw [e, ← (by assumption : _ = ((lo + hi) / 2 - lo) * n)] at ret₁
      exact ret₁ _ _ _ (by assumption) (news_same N₁ hsub₁ hfr (by assumption))
  · intro hfr
    show Q (Value.int _ _) _
    rw [if_pos (by assumption)] at ret
    ((rename News h₀ L _ _ => lN); (rename News g' L' _ _ => lG))
    exact ret _ _ _ _ _ _ _ (by assumption) (by assumption) (by assumption) (news_add lN (.tail _ (.head _)) (news_tab N U hm hfr lN (by k_mem) (by k_mem))) (ne_newS hg' N lG (.tail _ (.head _)) (by simp only [List.map_cons, List.map_nil, List.mem_cons, List.not_mem_nil, or_false, not_or]; exact ⟨by k_ne, by k_ne⟩))
  · intro hfr
    show Q (Value.int _ _) _
    rw [if_neg (by assumption)] at ret
    ((rename News h₀ L _ _ => lN); (rename News g' L' _ _ => lG))
    exact ret _ _ _ _ _ _ _ (by assumption) (by assumption) (by assumption) (news_add lN (.tail _ (.head _)) (news_tab N U hm hfr lN (by k_mem) (by k_mem))) (ne_newS hg' N lG (.tail _ (.head _)) (by simp only [List.map_cons, List.map_nil, List.mem_cons, List.not_mem_nil, or_false, not_or]; exact ⟨by k_ne, by k_ne⟩))
end
open PySem PySem.W PySem.Calls PyProof.Rows
set_option Elab.async false
set_option maxRecDepth 100000
set_option maxHeartbeats 8000000
set_option linter.unusedVariables false
def D2i2 (w : World) (ds : List Int) (n : Int) : Prop :=
  ∀ (loose : List Str) (mean : ExcName → Option Value) (mg mb : Str → Option Value) (dp un : Nat) (gd : Option (List Code)) (cn : Str) (cs : Scope) (a : Addr) (ccd : Value) (cl : List (Str × Addr)) (outer : List Env) (A₀ : Around) (base h₀ : Heap) (L : Addr) (m : Str → Option Value)
    (news : List (Addr × Obj)) (s : Shared) (dl : Addr) (vs : List Value) (k : Nat) (tn : Tok) (c' : Addr) (oc : Obj) (fvs : Array Value) (ft : Tok) (Q E : Value → Shared → Prop),
    Below A₀ base outer h₀ → Fr h₀ L s.heap m → (hd.heap_1 w.params).In h₀ → News h₀ L s.heap news → Top topProg loose mean mg mb h₀ → cs.kind = .function → CodeHd h₀ 41 37 →
    (37, tabObj #[rawInt 47, rawInt 4, .ref c']) ∈ news → (c', oc) ∈ news → oc.data = .fields fvs → fvs[1]? = some (.str (Str.ofString "_digits2int.<locals>.inner") ft) → (dl, listOf vs.toArray k) ∈ news → IntsAre vs ds → dp + 20 < recursionLimit →
    (∀ t h' tk', Fr h₀ L h' m → News h₀ L h' news → Q (.int (if 0 < ds.length then valD ds n 0 ds.length else 0) t) { s with heap := h', toks := tk' }) →
    wpAny (model PySem.Challenge.rw_op0106_01.row.prog w) (ktrTop dp un gd cn cs L a ccd cl outer) (call (.ref 42) [.ref dl, .int n tn]) Q E s
section
theorem d2i2_c (w : World) (ds : List Int) (n : Int) (h1 : ds.length ≤ 8) (hn1 : 1 ≤ n) (hn2 : n ≤ 3) (hb : ∀ lo hi, 0 ≤ lo → lo < hi → hi ≤ (ds.length : Int) → (valD ds n lo hi).natAbs < 2 ^ 64) : D2i2 w ds n := by
  w_on
  unfold D2i2
  k_fill
  intro loose mean mg mb dp un gd cn cs a ccd cl outer A₀ base h₀ L m news s dl vs k tn c' oc fvs ft Q E B F X N T hk hC hU hc hoc hft hm hI hd ret
  have hsub : ∀ p ∈ [(37, tabObj #[rawInt 47, rawInt 4, .ref c']), (c', oc), (dl, listOf vs.toArray k)], p ∈ news := fun p hp => by
    rcases List.mem_cons.mp hp with rfl | hp
    · exact hU
    · rcases List.mem_cons.mp hp with rfl | hp
      · exact hc
      · rcases List.mem_singleton.mp hp with rfl
        exact hm
  have Nl : News h₀ L s.heap [(37, tabObj #[rawInt 47, rawInt 4, .ref c']), (c', oc), (dl, listOf vs.toArray k)] := fun p hp => N p (hsub p hp)
  refine wpAny_call ?_
  k_dflt (refine' code_defFC ?k1 ?k2 ?k3 Nl ?k5 ?kA ?kF ?kK ?k6 ?k7 ?k8 ?k9 ?kB ?kD ?_ ?c2 ?c3 ?c4; (case kA => exact rfl); (case kF => exact rfl); (case kK => assumption); (case k1 => k_asm); (case k2 => k_asm); (case k3 => k_asm);  (case k5 => k_asm); (case k6 => k_is); (case k7 => k_is); (case k8 => ktr_room); (case k9 => exact BindsTo.of_eq rfl); (case kB => exact rfl); (case kD => decide +kernel); (case c2 => exact rfl); (case c3 => exact rfl); (case c4 => exact rfl); k_whole; intro g' L' h' tk' cells' FG' F' N' Y' B' X' T' l1 hg'; (try k_lt l1); k_cells Y'; (try simp only [List.cons_append, List.nil_append] at N'); (try dsimp only); (try k_fold))
  clear Nl
  have hC' : CodeHd g' 41 37 := hC.keeps (Fr.keep FG')
  have hLn := hI.length
  k_with_none
  k_with "call ref" => (k_dflt (refine' inner_use (k := 8) (val := valD ds n) (ok := fun lo hi => 0 ≤ lo ∧ lo < hi ∧ hi ≤ (ds.length : Int)) ?C ?h1 ?h2 ?B ?F ?X (by assumption) ?T ?K (fun p hp => hp) ?D ?_; (case B => k_asm); (case F => k_asm); (case X => k_asm); (case T => k_asm); (case K => rfl); (case h1 => omega); (case h2 => (constructor <;> omega)); (case D => ktr_room)); rotate_left; (intro t9 h9 tk9 F9 N9; (try dsimp only); (try k_fold)); rotate_left)
  k_with "=binaryOp RShift int int" => (k_here; (with_reducible refine rshift1 ?_))
  k_with "=binaryOp Mult int int" => (k_here; k_dflt (refine' mul_n ?aZh ?bZh ?cZh ?dZh ?_; (case aZh => omega); (case bZh => omega); (case cZh => omega); (case dZh => omega)); intro p9Z hp9Z hp0Z hp1Z)
  k_with "=binaryOp LShift int int" => (k_here; k_dflt (refine' lshift_int_small ?aZh ?bZh ?cZh ?_; (case aZh => omega); (case bZh => omega); (case cZh => k_extra "side")))
  k_steps
  · refine inner_all (fun k₁ IH => ?_) 8
    unfold InnerC
    intro loose₁ mean₁ mg₁ mb₁ dp₁ un₁ gd₁ cn₁ cs₁ a₁ ccd₁ cl₁ outer₁ A₁ base₁ h₁₁ L₁ m₁ news₁ s₁ lo hi t1 t2 Q₁ E₁ hle hok B₁ F₁ X₁ N₁ T₁ hs₁ hsub₁ hd₁ ret₁
    obtain ⟨h0, hlt, hhi⟩ := hok
    have Nl : News h₁₁ L₁ s₁.heap _ := fun p hp => N₁ p (hsub₁ p hp)
    refine wpAny_call ?_
    k_dflt (refine' code_defFX ?k1 ?k2 ?k3 Nl ?k5 ?kA ?kF ?kK ?k6 ?k7 ?k8 ?k9 ?kB ?_ ?c2 ?c3 ?c4 ?c5; (case kA => exact rfl); (case kF => exact rfl); (case kK => assumption); (case k1 => k_asm); (case k2 => k_asm); (case k3 => k_asm);  (case k5 => k_asm); (case k6 => k_mem); (case k7 => exact codeRec_news Nl (by k_mem) hoc hft); (case k8 => ktr_room); (case k9 => exact BindsTo.of_eq rfl); (case c5 => decide); (case kB => exact locs rfl); (case c2 => exact rfl); (case c3 => exact rfl); (case c4 => exact rfl); k_whole; intro g' L' h' FG' F' N' B' X' T' l1 hg'; (try k_lt l1); (try dsimp only); (try k_fold))
    clear Nl
    k_with_none
    k_with "side" => exact hb _ _ (by omega) (by omega) (by omega)
    k_with "call ref" => (k_dflt (refine' inner_use (IH (k₁ - 1) ?j) ?h1 ?h2 ?B ?F ?X (by assumption) ?T ?K (fun p hp => hp) ?D ?_; (case j => omega); (case B => k_asm); (case F => k_asm); (case X => k_asm); (case T => k_asm); (case K => rfl); (case h1 => omega); (case h2 => (refine ⟨?_, ?_, ?_⟩ <;> omega)); (case D => ktr_room)); (intro t9 h9 tk9 F9 N9; (try dsimp only); (try k_fold)))
    k_with "=binaryOp RShift int int" => (k_here; (with_reducible refine rshift1 ?_))
    k_with "=binaryOp Mult int int" => (k_here; k_dflt (refine' mul_n ?aZh ?bZh ?cZh ?dZh ?_; (case aZh => omega); (case bZh => omega); (case cZh => omega); (case dZh => omega)); intro p9Z hp9Z hp0Z hp1Z)
    k_with "=binaryOp LShift int int" => (k_here; k_dflt (refine' lshift_int_small ?aZh ?bZh ?cZh ?_; (case aZh => omega); (case bZh => omega); (case cZh => k_extra "side")))
    k_steps
    · intro hfr
      have e := valD_one (ds := ds) (n := n) (by assumption : lo + 1 = hi)
      rw [e] at ret₁
      exact ret₁ _ _ _ (by assumption) (news_same N₁ hsub₁ hfr (by assumption))
    · intro hfr
      have e := valD_more (ds := ds) (n := n) (by omega : lo + 1 < hi)
      rw [e, ← (by assumption : _ = ((lo + hi) / 2 - lo) * n)] at ret₁
      exact ret₁ _ _ _ (by assumption) (news_same N₁ hsub₁ hfr (by assumption))
  · intro hfr
    show Q (Value.int _ _) _
    rw [if_pos (by assumption)] at ret
    ((rename News h₀ L _ _ => lN))
    exact ret _ _ _ (by assumption) (news_same N hsub hfr (fun p hp => lN p (by
      rcases List.mem_cons.mp hp with rfl | hp
      · k_mem
      · rcases List.mem_cons.mp hp with rfl | hp
        · k_mem
        · rcases List.mem_singleton.mp hp with rfl
          k_mem)))
  · intro hfr
    show Q (Value.int _ _) _
    rw [if_neg (by assumption)] at ret
    ((rename News h₀ L _ _ => lN))
    exact ret _ _ _ (by assumption) (news_same N hsub hfr (fun p hp => lN p (by
      rcases List.mem_cons.mp hp with rfl | hp
      · k_mem
      · rcases List.mem_cons.mp hp with rfl | hp
        · k_mem
        · rcases List.mem_singleton.mp hp with rfl
          k_mem)))
end
open PySem PySem.W PySem.Calls PyProof.Rows
set_option Elab.async false
set_option maxRecDepth 100000
set_option linter.unusedVariables false
section
variable {prog : Program} {w : World} {A : Around} {E : Value → Shared → Prop} {s : Shared} {h₀ : Heap} {L l : Addr} {m : Str → Option Value} {news : List (Addr × Obj)} {Q : Value → Shared → Prop}
theorem rep_U {v x : Int} {t u : Tok} {n : Nat} (F : Fr h₀ L s.heap m) (N : News h₀ L s.heap news) (hl : (l, listOf [Value.int v t].toArray n) ∈ news) (h0 : -1000000 ≤ x) (h1 : x ≤ 1000000)
    (h : ∀ D h' us, Fr h₀ L h' m → News h₀ L h' ((D, listOf (us : List Value).toArray 0) :: news) → (∀ p ∈ news, p.1 < D) → IntsAre us (List.replicate x.toNat v) → Q (.ref D) { s with heap := h' }) : wpAny (model prog w) A (binaryOp .Mult (.ref l) (.int x u)) Q E s := by
  refine KM.mul F N (PySem.IsL.isList (n := n) (N _ hl).1) (.cons v t .nil) (by omega) (by omega) (by simp only [List.length_cons, List.length_nil]; omega) fun D h' F' N' l1 hI' _ _ _ _ _ => h D h' _ F' N' l1 ?_
  rw [lm_rep_flat_one v] at hI'
  exact hI'
theorem fdiv_n {a b : Int} {t u : Tok} (ha : 0 ≤ a) (hb : 1 ≤ b) (hb' : b ≤ 3) (h : ∀ p, p = a.fdiv b → 0 ≤ p → p ≤ a → (b ≤ a → 1 ≤ p) → Q (.int p s.toks) { s with toks := s.toks + 1 }) : wpAny (model prog w) A (binaryOp .FloorDiv (.int a t) (.int b u)) Q E s := by
  have e : a.fdiv b = a / b := Int.fdiv_eq_ediv_of_nonneg _ (by omega)
  have h' := h _ rfl (by rw [e]; exact Int.ediv_nonneg ha (by omega)) (by rw [e]; exact Int.ediv_le_self _ ha) (fun hba => by rw [e]; exact Int.le_ediv_of_mul_le (by omega) (by omega))
  have : b = 1 ∨ b = 2 ∨ b = 3 := by omega
  rcases this with rfl | rfl | rfl
  · exact floordiv_int (by decide) h'
  · exact floordiv_int (by decide) h'
  · exact floordiv_int (by decide) h'
end
section
variable {prog : Program} {w : World} {A : Around} {E : Value → Shared → Prop} {s : Shared} {h₀ : Heap} {L l : Addr} {m : Str → Option Value} {news : List (Addr × Obj)} {Q : Value → Shared → Prop}
theorem len_U {vs : List Value} {ns : List Int} {n : Nat} (N : News h₀ L s.heap news) (hm : (l, listOf vs.toArray n) ∈ news) (hi : IntsAre vs ns) (hz : ns.length ≤ 1000000) (h : Q (.int ns.length (s.toks + 1)) { s with toks := s.toks + 1 + 1 }) : wpAny (model prog w) A (call (.builtin "len") [.ref l]) Q E s := by
  have hl := hi.length
  refine len_list (PySem.IsL.isList (n := n) (N _ hm).1) (by rw [List.size_toArray]; omega) ?_
  rw [List.size_toArray, hl]
  exact h
theorem mul_n8 {a b : Int} {t u : Tok} (h0 : 0 ≤ a) (h1 : a ≤ 5) (hb : 1 ≤ b) (hb' : b ≤ 3) (h : ∀ p, p = a * b → 0 ≤ p → p ≤ 15 → Q (.int p s.toks) { s with toks := s.toks + 1 }) :
    wpAny (model prog w) A (binaryOp .Mult (.int a t) (.int b u)) Q E s := by
  have : b = 1 ∨ b = 2 ∨ b = 3 := by omega
  rcases this with rfl | rfl | rfl
  · exact mul_int (h _ rfl (by omega) (by omega))
  · exact mul_int (h _ rfl (by omega) (by omega))
  · exact mul_int (h _ rfl (by omega) (by omega))
theorem rshift_p {a p : Int} {t u : Tok} (h0 : 0 ≤ p) (ha : 0 ≤ a) (h : 0 ≤ a.fdiv (2 ^ p.toNat) → a.fdiv (2 ^ p.toNat) ≤ a → Q (.int (a.fdiv (2 ^ p.toNat)) s.toks) { s with toks := s.toks + 1 }) : wpAny (model prog w) A (binaryOp .RShift (.int a t) (.int p u)) Q E s := by
  have hp : (0 : Int) < 2 ^ p.toNat := Int.pow_pos (by decide)
  have e : a.fdiv (2 ^ p.toNat) = a / 2 ^ p.toNat := Int.fdiv_eq_ediv_of_nonneg _ (Int.le_of_lt hp)
  exact rshift_int h0 (h (by rw [e]; exact Int.ediv_nonneg ha (Int.le_of_lt hp)) (by rw [e]; exact Int.ediv_le_self _ ha))
end
theorem news_frameG {h₀ h h' : Heap} {L dl : Addr} {news : List (Addr × Obj)} {g G : Obj → List (Addr × Obj)} {o o' : Obj} (N : News h₀ L h news) (U : UpdF dl o news g) (UG : UpdF dl o (G o) G) (hs : ∀ p ∈ G o, p ∈ news)
    (hfr : ∀ b o2, h.get? b = some o2 → b ∉ (G o).map (·.1) → h'.get? b = some o2) (N' : News h₀ L h' (G o')) : News h₀ L h' (g o') := by
  obtain ⟨pre, post, rfl, hg, a, b⟩ := U.split
  obtain ⟨pre', post', e1, hG, a', b'⟩ := UG.split
  rw [hg]
  have keep : ∀ p ∈ pre ++ (dl, o) :: post, p.1 ≠ dl → h'.get? p.1 = some p.2 := fun p hp hn => by
    by_cases hb : p.1 ∈ (G o).map (·.1)
    · obtain ⟨q, hq, e⟩ := List.mem_map.mp hb
      have z1 := (N p hp).1
      have z2 := (N q (hs q hq)).1
      rw [e, z1] at z2
      have e2 : p = q := Prod.ext e.symm (Option.some.inj z2)
      have hq' : q ∈ G o' := by
        rw [hG]
        rw [e1] at hq
        rcases List.mem_append.mp hq with x | x
        · exact List.mem_append_left _ x
        · rcases List.mem_cons.mp x with x | x
          · exact absurd (by rw [e2, x]) hn
          · exact List.mem_append_right _ (.tail _ x)
      rw [e2]
      exact (N' q hq').1
    · exact hfr _ _ (N p hp).1 hb
  intro p hp
  rcases List.mem_append.mp hp with q | q
  · have hp' : p ∈ pre ++ (dl, o) :: post := List.mem_append_left _ q
    exact ⟨keep p hp' (a p q), (N p hp').2⟩
  · rcases List.mem_cons.mp q with rfl | q
    · exact N' _ (by rw [hG]; exact List.mem_append_right _ (.head _))
    · have hp' : p ∈ pre ++ (dl, o) :: post := List.mem_append_right _ (.tail _ q)
      exact ⟨keep p hp' (b p q), (N p hp').2⟩
theorem xor_low {x p : Int} (h0 : 0 ≤ x) (h1 : x < 256) (h2 : 0 ≤ p) (h3 : p ≤ 15) : 0 ≤ Builtin.bitXor x (x.fdiv (2 ^ p.toNat) * 2 ^ p.toNat) ∧ Builtin.bitXor x (x.fdiv (2 ^ p.toNat) * 2 ^ p.toNat) < 256 := by
  obtain ⟨k, rfl⟩ := Int.eq_ofNat_of_zero_le h0
  obtain ⟨q, rfl⟩ := Int.eq_ofNat_of_zero_le h2
  have : ∀ q : Fin 16, ∀ k : Fin 256, 0 ≤ Builtin.bitXor ((k.1 : Nat) : Int) ((((k.1 : Nat) : Int)).fdiv (2 ^ q.1) * 2 ^ q.1) ∧ Builtin.bitXor ((k.1 : Nat) : Int) ((((k.1 : Nat) : Int)).fdiv (2 ^ q.1) * 2 ^ q.1) < 256 := by decide +kernel
  exact this ⟨q, by omega⟩ ⟨k, by omega⟩
theorem intBits_le {x : Int} (h0 : 0 ≤ x) (h1 : x < 256) : Builtin.Int.intBits x ≤ 8 := by
  obtain ⟨k, rfl⟩ := Int.eq_ofNat_of_zero_le h0
  have hk : k < 256 := by omega
  have : ∀ j : Fin 256, Builtin.Int.intBits ((j.1 : Nat) : Int) ≤ 8 := by decide +kernel
  exact this ⟨k, hk⟩
theorem intBits_pos {x : Int} (h : x ≠ 0) : 1 ≤ Builtin.Int.intBits x := by
  unfold Builtin.Int.intBits
  rw [if_neg (by simpa using h)]
  omega
open PySem PySem.W PySem.Calls PyProof.Rows
set_option Elab.async false
set_option maxRecDepth 100000
set_option maxHeartbeats 8000000
set_option linter.unusedVariables false
def i2d (n : Int) : Nat → List Int → Int → Int → Int → List Int
  | 0, ds, x, lo, _ => ds.set lo.toNat x
  | f + 1, ds, x, lo, hi => if lo + 1 = hi then ds.set lo.toNat x else
      i2d n f (i2d n f ds (Builtin.bitXor x (x.fdiv (2 ^ (((lo + hi) / 2 - lo) * n).toNat) * 2 ^ (((lo + hi) / 2 - lo) * n).toNat)) lo ((lo + hi) / 2)) (x.fdiv (2 ^ (((lo + hi) / 2 - lo) * n).toNat)) ((lo + hi) / 2) hi
theorem i2d_length (n : Int) : ∀ (f : Nat) (ds : List Int) (x lo hi : Int), (i2d n f ds x lo hi).length = ds.length
  | 0, ds, x, lo, hi => by rw [i2d, List.length_set]
  | f + 1, ds, x, lo, hi => by
    rw [i2d]
    split
    · rw [List.length_set]
    · rw [i2d_length n f, i2d_length n f]
theorem i2d_fuel (n : Int) : ∀ (f g : Nat) (ds : List Int) (x lo hi : Int), lo < hi → (hi - lo).toNat ≤ f → (hi - lo).toNat ≤ g → i2d n f ds x lo hi = i2d n g ds x lo hi
  | 0, _, ds, x, lo, hi, h, h1, _ => absurd h1 (by omega)
  | _ + 1, 0, ds, x, lo, hi, h, _, h1 => absurd h1 (by omega)
  | f + 1, g + 1, ds, x, lo, hi, h, h1, h2 => by
    simp only [i2d]
    split
    · rfl
    · rw [i2d_fuel n f g _ _ lo _ (by omega) (by omega) (by omega), i2d_fuel n f g _ _ _ hi (by omega) (by omega) (by omega)]
@[irreducible] def valI (n : Int) (ds : List Int) (x lo hi : Int) : List Int := i2d n (hi - lo).toNat ds x lo hi
theorem valI_length (n : Int) (ds : List Int) (x lo hi : Int) : (valI n ds x lo hi).length = ds.length := by rw [valI, i2d_length]
theorem valI_one {n : Int} {ds : List Int} {x lo hi : Int} (h : lo + 1 = hi) : valI n ds x lo hi = ds.set lo.toNat x := by
  rw [valI, show (hi - lo).toNat = 0 + 1 from by omega, i2d, if_pos h]
theorem valI_more {n : Int} {ds : List Int} {x lo hi p : Int} (h : lo + 1 < hi) (hp : p = ((lo + hi) / 2 - lo) * n) : valI n ds x lo hi = valI n (valI n ds (Builtin.bitXor x (x.fdiv (2 ^ p.toNat) * 2 ^ p.toNat)) lo ((lo + hi) / 2)) (x.fdiv (2 ^ p.toNat)) ((lo + hi) / 2) hi := by
  obtain ⟨k, hk⟩ : ∃ k, (hi - lo).toNat = k + 1 := ⟨(hi - lo).toNat - 1, by omega⟩
  rw [valI, hk, i2d, if_neg (by omega), valI, valI, hp, i2d_fuel n k _ _ _ lo _ (by omega) (by omega) (Nat.le_refl _), i2d_fuel n k _ _ _ _ hi (by omega) (by omega) (Nat.le_refl _)]
def InnerM (w : World) (G : Obj → List (Addr × Obj)) (f dl : Addr) (n : Int) (len : Nat) (k : Nat) : Prop :=
  ∀ (loose : List Str) (mean : ExcName → Option Value) (mg mb : Str → Option Value) (dp un : Nat) (gd : Option (List Code)) (cn : Str) (cs : Scope) (a : Addr) (ccd : Value) (cl : List (Str × Addr)) (outer : List Env) (A₀ : Around) (base h₀ : Heap) (L : Addr) (m : Str → Option Value)
    (news : List (Addr × Obj)) (g : Obj → List (Addr × Obj)) (s : Shared) (x lo hi : Int) (t0 t1 t2 : Tok) (vs : List Value) (ds : List Int) (kk : Nat) (Q E : Value → Shared → Prop),
    (hi - lo).toNat ≤ k → (0 ≤ x ∧ x < 256 ∧ 0 ≤ lo ∧ lo < hi ∧ hi ≤ (len : Int)) → ds.length = len → IntsAre vs ds → Below A₀ base outer h₀ → Fr h₀ L s.heap m → (hd.heap_1 w.params).In h₀ → News h₀ L s.heap news → Top topProg loose mean mg mb h₀ → cs.kind = .function →
    (∀ p ∈ G (listOf vs.toArray kk), p ∈ news) → UpdF dl (listOf vs.toArray kk) news g → dp + k < recursionLimit →
    (∀ vs' kk' h' tk', Fr h₀ L h' m → News h₀ L h' (g (listOf (vs' : List Value).toArray kk')) → IntsAre vs' (valI n ds x lo hi) → Q .none { s with heap := h', toks := tk' }) →
    wpAny (model PySem.Challenge.rw_op0106_01.row.prog w) (ktrTop dp un gd cn cs L a ccd cl outer) (call (.ref f) [.int x t0, .int lo t1, .int hi t2]) Q E s
section
variable {w : World} {loose : List Str} {mean : ExcName → Option Value} {mg mb : Str → Option Value} {dp un : Nat} {gd : Option (List Code)} {cn : Str} {cs : Scope} {a : Addr} {ccd : Value} {cl : List (Str × Addr)} {outer : List Env} {A₀ : Around} {base h₀ : Heap} {L : Addr} {m : Str → Option Value}
theorem innerM_use {G g : Obj → List (Addr × Obj)} {news : List (Addr × Obj)} {f dl : Addr} {n : Int} {len k : Nat} {s : Shared} {x lo hi : Int} {t0 t1 t2 : Tok} {vs : List Value} {ds : List Int} {kk : Nat} {Q E : Value → Shared → Prop} (C : InnerM w G f dl n len k) (hk : (hi - lo).toNat ≤ k) (ho : 0 ≤ x ∧ x < 256 ∧ 0 ≤ lo ∧ lo < hi ∧ hi ≤ (len : Int)) (hl : ds.length = len) (hI : IntsAre vs ds) (B : Below A₀ base outer h₀) (F : Fr h₀ L s.heap m) (X : (hd.heap_1 w.params).In h₀) (N : News h₀ L s.heap news) (T : Top topProg loose mean mg mb h₀) (hs : cs.kind = .function)
    (U : UpdF dl (listOf vs.toArray kk) news g) (hsub : ∀ p ∈ G (listOf vs.toArray kk), p ∈ news) (hd : dp + k < recursionLimit)
    (ret : ∀ vs' kk' h' tk', Fr h₀ L h' m → News h₀ L h' (g (listOf (vs' : List Value).toArray kk')) → IntsAre vs' (valI n ds x lo hi) → Q .none { s with heap := h', toks := tk' }) :
    wpAny (model PySem.Challenge.rw_op0106_01.row.prog w) (ktrTop dp un gd cn cs L a ccd cl outer) (call (.ref f) [.int x t0, .int lo t1, .int hi t2]) Q E s := C _ _ _ _ _ _ _ _ _ _ _ _ _ _ _ _ _ _ _ _ _ _ _ _ _ _ _ _ _ _ _ _ hk ho hl hI B F X N T hs hsub U hd ret
end
section
variable {w : World} {loose : List Str} {mean : ExcName → Option Value} {mg mb : Str → Option Value} {dp un : Nat} {gd : Option (List Code)} {cn : Str} {cs : Scope} {a : Addr} {ccd : Value} {cl : List (Str × Addr)} {outer : List Env} {A₀ : Around} {base h₀ : Heap} {L : Addr} {m : Str → Option Value}
theorem innerM_start {g : Obj → List (Addr × Obj)} {news : List (Addr × Obj)} {f dl : Addr} {n : Int} {len k : Nat} {s : Shared} {x lo hi : Int} {t0 t1 t2 : Tok} {vs : List Value} {ds : List Int} {kk : Nat} {Q E : Value → Shared → Prop} (B : Below A₀ base outer h₀) (F : Fr h₀ L s.heap m) (X : (hd.heap_1 w.params).In h₀) (N : News h₀ L s.heap news) (T : Top topProg loose mean mg mb h₀) (hs : cs.kind = .function)
    (hI : IntsAre vs ds) (hm : (dl, listOf vs.toArray kk) ∈ news) (U : UpdF dl (listOf vs.toArray kk) news g) (hl : ds.length = len) (C : InnerM w g f dl n len k) (hk : (hi - lo).toNat ≤ k) (ho : 0 ≤ x ∧ x < 256 ∧ 0 ≤ lo ∧ lo < hi ∧ hi ≤ (len : Int)) (hd : dp + k < recursionLimit)
    (ret : ∀ vs' kk' h' tk', Fr h₀ L h' m → News h₀ L h' (g (listOf (vs' : List Value).toArray kk')) → IntsAre vs' (valI n ds x lo hi) → Q .none { s with heap := h', toks := tk' }) :
    wpAny (model PySem.Challenge.rw_op0106_01.row.prog w) (ktrTop dp un gd cn cs L a ccd cl outer) (call (.ref f) [.int x t0, .int lo t1, .int hi t2]) Q E s :=
  innerM_use C hk ho hl hI B F X N T hs U (fun p hp => by
    obtain ⟨pre, post, e1, hg, _⟩ := U.split
    rw [e1]; rw [hg] at hp; exact hp) hd ret
end
theorem innerM_all {w : World} {G : Obj → List (Addr × Obj)} {f dl : Addr} {n : Int} {len : Nat} (step : ∀ k, (∀ j, j < k → InnerM w G f dl n len j) → InnerM w G f dl n len k) : ∀ k, InnerM w G f dl n len k := fun k => Nat.strongRecOn k step
@[irreducible] def i2dZ (x n : Int) : List Int := List.replicate ((Builtin.Int.intBits x + n - 1).fdiv n).toNat 0
@[irreducible] def i2dF (x n : Int) : List Int := if x = 0 then i2dZ x n else valI n (i2dZ x n) x 0 (i2dZ x n).length
theorem i2dF_zero {x n p : Int} (h : x = 0) (hp : p = (Builtin.Int.intBits x + n - 1).fdiv n) : i2dF x n = List.replicate p.toNat 0 := by rw [i2dF, if_pos h, i2dZ, hp]
theorem i2dF_more {x n p : Int} (h : x ≠ 0) (hp : p = (Builtin.Int.intBits x + n - 1).fdiv n) : i2dF x n = valI n (List.replicate p.toNat 0) x 0 (List.replicate p.toNat (0 : Int)).length := by subst hp; simp only [i2dF, if_neg h, i2dZ]
theorem news_frameS {h₀ h h' : Heap} {L dl : Addr} {news sub : List (Addr × Obj)} {g G : Obj → List (Addr × Obj)} {o o' : Obj} (N : News h₀ L h news) (U : UpdF dl o news g) (hs : ∀ p ∈ sub, p ∈ news) (hfr : ∀ b o2, h.get? b = some o2 → b ∉ sub.map (·.1) → h'.get? b = some o2)
    (UG : UpdF dl o sub G) (N' : News h₀ L h' (G o')) : News h₀ L h' (g o') := by
  obtain ⟨pre, post, e1, hG, _, _⟩ := UG.split
  have e : G o = sub := by rw [hG, e1]
  exact news_frameG N U (by rw [e]; exact UG) (by rw [e]; exact hs) (by rw [e]; exact hfr) N'
def I2d1 (w : World) (x n : Int) : Prop :=
  ∀ (loose : List Str) (mean : ExcName → Option Value) (mg mb : Str → Option Value) (dp un : Nat) (gd : Option (List Code)) (cn : Str) (cs : Scope) (a : Addr) (ccd : Value) (cl : List (Str × Addr)) (outer : List Env) (A₀ : Around) (base h₀ : Heap) (L : Addr) (m : Str → Option Value)
    (news : List (Addr × Obj)) (g : Obj → List (Addr × Obj)) (s : Shared) (ta tn : Tok) (Q E : Value → Shared → Prop),
    Below A₀ base outer h₀ → Fr h₀ L s.heap m → (hd.heap_1 w.params).In h₀ → News h₀ L s.heap news → Top topProg loose mean mg mb h₀ → cs.kind = .function → CodeHd h₀ 34 30 →
    UpdF 30 (tabObj #[]) news g → dp + 20 < recursionLimit →
    (∀ D us kk h' tk' c' oc fvs ft, oc.data = .fields fvs → fvs[1]? = some (.str (Str.ofString "_int2digits.<locals>.inner") ft) → IntsAre us (i2dF x n) → Fr h₀ L h' m → News h₀ L h' ((D, listOf (us : List Value).toArray kk) :: (c', oc) :: g (tabObj #[rawInt 32, rawInt 4, .ref c'])) → (∀ p ∈ news, p.1 ≠ D ∧ p.1 ≠ c') → Q (.ref D) { s with heap := h', toks := tk' }) →
    wpAny (model PySem.Challenge.rw_op0106_01.row.prog w) (ktrTop dp un gd cn cs L a ccd cl outer) (call (.ref 35) [.int x ta, .int n tn]) Q E s
section
theorem i2d1_c (w : World) (x n : Int) (h1 : 0 ≤ x) (h2 : x < 256) (hn1 : 1 ≤ n) (hn2 : n ≤ 3) : I2d1 w x n := by
  w_on
  unfold I2d1
  k_fill
  intro loose mean mg mb dp un gd cn cs a ccd cl outer A₀ base h₀ L m news g s ta tn Q E B F X N T hk hC U hd ret
  have Nl : News h₀ L s.heap [(30, tabObj #[])] := news_one N U
  refine wpAny_call ?_
  k_dflt (refine' code_defFC ?k1 ?k2 ?k3 Nl ?k5 ?kA ?kF ?kK ?k6 ?k7 ?k8 ?k9 ?kB ?kD ?_ ?c2 ?c3 ?c4; (case kA => exact rfl); (case kF => exact rfl); (case kK => assumption); (case k1 => k_asm); (case k2 => k_asm); (case k3 => k_asm);  (case k5 => k_asm); (case k6 => k_is); (case k7 => k_is); (case k8 => ktr_room); (case k9 => exact BindsTo.of_eq rfl); (case kB => exact rfl); (case kD => decide +kernel); (case c2 => exact rfl); (case c3 => exact rfl); (case c4 => exact rfl); k_whole; intro g' L' h' tk' cells' FG' F' N' Y' B' X' T' l1 hg'; (try k_lt l1); k_cells Y'; (try simp only [List.cons_append, List.nil_append] at N'); (try dsimp only); (try k_fold))
  clear Nl
  have hC' : CodeHd g' 34 30 := hC.keeps (Fr.keep FG')
  have hbits := intBits_le h1 h2
  have hbits1 := @intBits_pos x
  k_with_none
  k_with "call ref" => (k_dflt (refine' innerM_start (k := 12) (n := n) ?B ?F ?X ?N ?T ?K ?I ?hm ?U rfl ?C ?h1 ?h2 ?D ?_; (case B => k_asm); (case F => k_asm); (case X => k_asm); (case N => k_asm); (case T => k_asm); (case K => rfl); (case I => with_reducible assumption); (case hm => k_mem); (case U => k_updF); (case h1 => ((simp only [List.length_replicate]); omega)); (case h2 => ((simp only [List.length_replicate]); (have hbits2 := hbits1 (by assumption)); (refine ⟨?_, ?_, ?_, ?_, ?_⟩ <;> omega))); (case D => ktr_room)); rotate_left; (intro vs9 kk9 h9 tk9 F9 N9 hI9; (try dsimp only at N9); (try dsimp only); (try k_fold)); rotate_left)
  k_with "=binaryOp RShift int int" => (k_here; k_dflt (refine' rshift_p ?aZh ?bZh ?_; (case aZh => omega); (case bZh => omega)); intro hr0Z hr1Z)
  k_with "=binaryOp RShift int int" => (k_here; (with_reducible refine rshift1 ?_))
  k_with "=binaryOp Mult int int" => (k_here; k_dflt (refine' mul_n8 ?aZh ?bZh ?cZh ?dZh ?_; (case aZh => omega); (case bZh => omega); (case cZh => omega); (case dZh => omega)); intro p9Z hp9Z hp0Z hp1Z)
  k_with "=binaryOp LShift int int" => (k_here; k_dflt (refine' lshift_int_small ?aZh ?bZh ?cZh ?_; (case aZh => omega); (case bZh => omega); (case cZh => omega)))
  k_with "=binaryOp FloorDiv int int" => (k_here; k_dflt (refine' fdiv_n ?aZh ?bZh ?cZh ?_; (case aZh => omega); (case bZh => omega); (case cZh => omega)); intro p9Z hp9Z hp0Z hp1Z hp2Z)
  k_with "=binaryOp Mult ref int" => (k_here; k_dflt (refine' rep_U ?FZh ?NZh ?lZh ?aZh ?bZh ?_; (case FZh => k_asm); (case NZh => k_asm); (case lZh => k_mem); (case aZh => omega); (case bZh => omega)); intro DZ' hZ' usZ' FZ' NZ' l1Z hIZ'; (try k_lt l1Z); (try k_sweep))
  k_with "=call builtin:len" => (k_here; k_dflt (refine' len_U ?NZh ?mZh ?iZh ?zZh ?_; (case NZh => k_asm); (case mZh => k_mem); (case iZh => first | with_reducible assumption | l_ints); (case zZh => first | omega | ((simp only [List.length_append, List.length_cons, List.length_nil, List.length_set, List.length_dropLast, List.length_replicate]); omega))))
  k_steps
  · refine innerM_all (fun k₁ IH => ?_) 12
    unfold InnerM
    intro loose₁ mean₁ mg₁ mb₁ dp₁ un₁ gd₁ cn₁ cs₁ a₁ ccd₁ cl₁ outer₁ A₁ base₁ h₁₁ L₁ m₁ news₁ g₁ s₁ x₁ lo hi t0 t1 t2 vs₁ ds₁ kk₁ Q₁ E₁ hle hok hdl hI₁ B₁ F₁ X₁ N₁ T₁ hs₁ hsub₁ U₁ hd₁ ret₁
    obtain ⟨hx0, hx1, h0, hlt, hhi⟩ := hok
    dsimp only at hsub₁
    have hdl' := hdl
    rw [List.length_replicate] at hhi hdl'
    have Nl : News h₁₁ L₁ s₁.heap _ := fun p hp => N₁ p (hsub₁ p hp)
    refine wpAny_call ?_
    k_dflt (refine' code_defFX ?k1 ?k2 ?k3 Nl ?k5 ?kA ?kF ?kK ?k6 ?k7 ?k8 ?k9 ?kB ?_ ?c2 ?c3 ?c4 ?c5; (case kA => exact rfl); (case kF => exact rfl); (case kK => assumption); (case k1 => k_asm); (case k2 => k_asm); (case k3 => k_asm);  (case k5 => k_asm); (case k6 => k_mem); (case k7 => exact codeRec_news Nl (by k_mem) (by assumption) (by assumption)); (case k8 => ktr_room); (case k9 => exact BindsTo.of_eq rfl); (case c5 => decide); (case kB => exact locs rfl); (case c2 => exact rfl); (case c3 => exact rfl); (case c4 => exact rfl); k_whole; intro g' L' h' FG' F' N' B' X' T' l1 hg'; (try k_lt l1); (try dsimp only); (try k_fold))
    clear Nl
    k_with_none
    k_with "call ref" => (k_dflt (refine' innerM_use (IH (k₁ - 1) ?j) ?h1 ?h2 ?hl ?I ?B ?F ?X ?N ?T ?K ?U (fun p hp => hp) ?D ?_; (case j => omega); (case B => k_asm); (case F => k_asm); (case X => k_asm); (case N => k_asm); (case T => k_asm); (case K => rfl); (case I => with_reducible assumption); (case U => k_updF); (case hl => (first | assumption | exact (valI_length ..).trans (by assumption))); (case h1 => omega); (case h2 => (refine ⟨?_, ?_, ?_, ?_, ?_⟩ <;> (first | omega | ((simp only [List.length_replicate]); omega) | exact (xor_low (by omega) (by omega) (by omega) (by omega)).1 | exact (xor_low (by omega) (by omega) (by omega) (by omega)).2))); (case D => ktr_room)); (intro vs9 kk9 h9 tk9 F9 N9 hI9; (try dsimp only at N9); (try dsimp only); (try k_fold)))
    k_with "=binaryOp RShift int int" => (k_here; k_dflt (refine' rshift_p ?aZh ?bZh ?_; (case aZh => omega); (case bZh => omega)); intro hr0Z hr1Z)
    k_with "=binaryOp RShift int int" => (k_here; (with_reducible refine rshift1 ?_))
    k_with "=binaryOp Mult int int" => (k_here; k_dflt (refine' mul_n8 ?aZh ?bZh ?cZh ?dZh ?_; (case aZh => omega); (case bZh => omega); (case cZh => omega); (case dZh => omega)); intro p9Z hp9Z hp0Z hp1Z)
    k_with "=binaryOp LShift int int" => (k_here; k_dflt (refine' lshift_int_small ?aZh ?bZh ?cZh ?_; (case aZh => omega); (case bZh => omega); (case cZh => omega)))
    k_with "=binaryOp FloorDiv int int" => (k_here; k_dflt (refine' fdiv_n ?aZh ?bZh ?cZh ?_; (case aZh => omega); (case bZh => omega); (case cZh => omega)); intro p9Z hp9Z hp0Z hp1Z hp2Z)
    k_with "=binaryOp Mult ref int" => (k_here; k_dflt (refine' rep_U ?FZh ?NZh ?lZh ?aZh ?bZh ?_; (case FZh => k_asm); (case NZh => k_asm); (case lZh => k_mem); (case aZh => omega); (case bZh => omega)); intro DZ' hZ' usZ' FZ' NZ' l1Z hIZ'; (try k_lt l1Z); (try k_sweep))
    k_with "=call builtin:len" => (k_here; k_dflt (refine' len_U ?NZh ?mZh ?iZh ?zZh ?_; (case NZh => k_asm); (case mZh => k_mem); (case iZh => first | with_reducible assumption | l_ints); (case zZh => first | omega | ((simp only [List.length_append, List.length_cons, List.length_nil, List.length_set, List.length_dropLast, List.length_replicate]); omega))))
    k_steps
    · intro hfr
      show Q₁ Value.none _
      rw [valI_one (by assumption : lo + 1 = hi)] at ret₁
      (rename News h₁₁ L₁ _ _ => lN)
      exact ret₁ _ _ _ _ (by assumption) (news_frameS N₁ U₁ hsub₁ hfr (by k_updF) lN) (by assumption)
    · intro hfr
      show Q₁ Value.none _
      rw [valI_more (by omega : lo + 1 < hi) (by assumption)] at ret₁
      (rename News h₁₁ L₁ _ _ => lN)
      exact ret₁ _ _ _ _ (by assumption) (news_frameS N₁ U₁ hsub₁ hfr (by k_updF) lN) (by assumption)
  · intro hfr
    show Q (Value.ref _) _
    rw [i2dF_more (by assumption : x ≠ 0) (by assumption)] at ret
    ((rename News h₀ L _ _ => lN); (rename News g' L' _ _ => lG); (rename IntsAre _ (valI _ _ _ _ _) => lI))
    exact ret _ _ _ _ _ _ _ _ _ (by assumption) (by assumption) lI (by assumption) (news_add lN (by k_mem) (news_add lN (.tail _ (.head _)) (news_frameM N U hfr lN (by k_mem)))) (fun p hp => ⟨ne_new hg' N lG (by k_mem) (by k_ne) p hp, ne_new hg' N lG (.tail _ (.head _)) (by k_ne) p hp⟩)
  · intro hfr
    show Q (Value.ref _) _
    rw [i2dF_zero (by assumption : x = 0) (by assumption)] at ret
    ((rename News h₀ L _ _ => lN); (rename News g' L' _ _ => lG))
    exact ret _ _ _ _ _ _ _ _ _ (by assumption) (by assumption) (by assumption) (by assumption) (news_add lN (by k_mem) (news_add lN (.tail _ (.head _)) (news_frameM N U hfr lN (by k_mem)))) (fun p hp => ⟨ne_new hg' N lG (by k_mem) (by k_ne) p hp, ne_new hg' N lG (.tail _ (.head _)) (by k_ne) p hp⟩)
end
open PySem PySem.W PySem.Calls PyProof.Rows
set_option Elab.async false
set_option maxRecDepth 100000
set_option maxHeartbeats 8000000
set_option linter.unusedVariables false
def I2d2 (w : World) (x n : Int) : Prop :=
  ∀ (loose : List Str) (mean : ExcName → Option Value) (mg mb : Str → Option Value) (dp un : Nat) (gd : Option (List Code)) (cn : Str) (cs : Scope) (a : Addr) (ccd : Value) (cl : List (Str × Addr)) (outer : List Env) (A₀ : Around) (base h₀ : Heap) (L : Addr) (m : Str → Option Value)
    (news : List (Addr × Obj)) (s : Shared) (ta tn : Tok) (c' : Addr) (oc : Obj) (fvs : Array Value) (ft : Tok) (Q E : Value → Shared → Prop),
    Below A₀ base outer h₀ → Fr h₀ L s.heap m → (hd.heap_1 w.params).In h₀ → News h₀ L s.heap news → Top topProg loose mean mg mb h₀ → cs.kind = .function → CodeHd h₀ 34 30 →
    (30, tabObj #[rawInt 32, rawInt 4, .ref c']) ∈ news → (c', oc) ∈ news → oc.data = .fields fvs → fvs[1]? = some (.str (Str.ofString "_int2digits.<locals>.inner") ft) → dp + 20 < recursionLimit →
    (∀ D us kk h' tk', IntsAre us (i2dF x n) → Fr h₀ L h' m → News h₀ L h' ((D, listOf (us : List Value).toArray kk) :: news) → (∀ p ∈ news, p.1 ≠ D) → Q (.ref D) { s with heap := h', toks := tk' }) →
    wpAny (model PySem.Challenge.rw_op0106_01.row.prog w) (ktrTop dp un gd cn cs L a ccd cl outer) (call (.ref 35) [.int x ta, .int n tn]) Q E s
section
theorem i2d2_c (w : World) (x n : Int) (h1 : 0 ≤ x) (h2 : x < 256) (hn1 : 1 ≤ n) (hn2 : n ≤ 3) : I2d2 w x n := by
  w_on
  unfold I2d2
  k_fill
  intro loose mean mg mb dp un gd cn cs a ccd cl outer A₀ base h₀ L m news s ta tn c' oc fvs ft Q E B F X N T hk hC hU hc hoc hft hd ret
  have hsub : ∀ p ∈ [(30, tabObj #[rawInt 32, rawInt 4, .ref c']), (c', oc)], p ∈ news := fun p hp => by
    rcases List.mem_cons.mp hp with rfl | hp
    · exact hU
    · rcases List.mem_singleton.mp hp with rfl
      exact hc
  have Nl : News h₀ L s.heap [(30, tabObj #[rawInt 32, rawInt 4, .ref c']), (c', oc)] := fun p hp => N p (hsub p hp)
  refine wpAny_call ?_
  k_dflt (refine' code_defFC ?k1 ?k2 ?k3 Nl ?k5 ?kA ?kF ?kK ?k6 ?k7 ?k8 ?k9 ?kB ?kD ?_ ?c2 ?c3 ?c4; (case kA => exact rfl); (case kF => exact rfl); (case kK => assumption); (case k1 => k_asm); (case k2 => k_asm); (case k3 => k_asm);  (case k5 => k_asm); (case k6 => k_is); (case k7 => k_is); (case k8 => ktr_room); (case k9 => exact BindsTo.of_eq rfl); (case kB => exact rfl); (case kD => decide +kernel); (case c2 => exact rfl); (case c3 => exact rfl); (case c4 => exact rfl); k_whole; intro g' L' h' tk' cells' FG' F' N' Y' B' X' T' l1 hg'; (try k_lt l1); k_cells Y'; (try simp only [List.cons_append, List.nil_append] at N'); (try dsimp only); (try k_fold))
  clear Nl
  have hC' : CodeHd g' 34 30 := hC.keeps (Fr.keep FG')
  have hbits := intBits_le h1 h2
  have hbits1 := @intBits_pos x
  k_with_none
  k_with "call ref" => (k_dflt (refine' innerM_start (k := 12) (n := n) ?B ?F ?X ?N ?T ?K ?I ?hm ?U rfl ?C ?h1 ?h2 ?D ?_; (case B => k_asm); (case F => k_asm); (case X => k_asm); (case N => k_asm); (case T => k_asm); (case K => rfl); (case I => with_reducible assumption); (case hm => k_mem); (case U => k_updF); (case h1 => ((simp only [List.length_replicate]); omega)); (case h2 => ((simp only [List.length_replicate]); (have hbits2 := hbits1 (by assumption)); (refine ⟨?_, ?_, ?_, ?_, ?_⟩ <;> omega))); (case D => ktr_room)); rotate_left; (intro vs9 kk9 h9 tk9 F9 N9 hI9; (try dsimp only at N9); (try dsimp only); (try k_fold)); rotate_left)
  k_with "=binaryOp RShift int int" => (k_here; k_dflt (refine' rshift_p ?aZh ?bZh ?_; (case aZh => omega); (case bZh => omega)); intro hr0Z hr1Z)
  k_with "=binaryOp RShift int int" => (k_here; (with_reducible refine rshift1 ?_))
  k_with "=binaryOp Mult int int" => (k_here; k_dflt (refine' mul_n8 ?aZh ?bZh ?cZh ?dZh ?_; (case aZh => omega); (case bZh => omega); (case cZh => omega); (case dZh => omega)); intro p9Z hp9Z hp0Z hp1Z)
  k_with "=binaryOp LShift int int" => (k_here; k_dflt (refine' lshift_int_small ?aZh ?bZh ?cZh ?_; (case aZh => omega); (case bZh => omega); (case cZh => omega)))
  k_with "=binaryOp FloorDiv int int" => (k_here; k_dflt (refine' fdiv_n ?aZh ?bZh ?cZh ?_; (case aZh => omega); (case bZh => omega); (case cZh => omega)); intro p9Z hp9Z hp0Z hp1Z hp2Z)
  k_with "=binaryOp Mult ref int" => (k_here; k_dflt (refine' rep_U ?FZh ?NZh ?lZh ?aZh ?bZh ?_; (case FZh => k_asm); (case NZh => k_asm); (case lZh => k_mem); (case aZh => omega); (case bZh => omega)); intro DZ' hZ' usZ' FZ' NZ' l1Z hIZ'; (try k_lt l1Z); (try k_sweep))
  k_with "=call builtin:len" => (k_here; k_dflt (refine' len_U ?NZh ?mZh ?iZh ?zZh ?_; (case NZh => k_asm); (case mZh => k_mem); (case iZh => first | with_reducible assumption | l_ints); (case zZh => first | omega | ((simp only [List.length_append, List.length_cons, List.length_nil, List.length_set, List.length_dropLast, List.length_replicate]); omega))))
  k_steps
  · refine innerM_all (fun k₁ IH => ?_) 12
    unfold InnerM
    intro loose₁ mean₁ mg₁ mb₁ dp₁ un₁ gd₁ cn₁ cs₁ a₁ ccd₁ cl₁ outer₁ A₁ base₁ h₁₁ L₁ m₁ news₁ g₁ s₁ x₁ lo hi t0 t1 t2 vs₁ ds₁ kk₁ Q₁ E₁ hle hok hdl hI₁ B₁ F₁ X₁ N₁ T₁ hs₁ hsub₁ U₁ hd₁ ret₁
    obtain ⟨hx0, hx1, h0, hlt, hhi⟩ := hok
    dsimp only at hsub₁
    have hdl' := hdl
    rw [List.length_replicate] at hhi hdl'
    have Nl : News h₁₁ L₁ s₁.heap _ := fun p hp => N₁ p (hsub₁ p hp)
    refine wpAny_call ?_
    k_dflt (refine' code_defFX ?k1 ?k2 ?k3 Nl ?k5 ?kA ?kF ?kK ?k6 ?k7 ?k8 ?k9 ?kB ?_ ?c2 ?c3 ?c4 ?c5; (case kA => exact rfl); (case kF => exact rfl); (case kK => assumption); (case k1 => k_asm); (case k2 => k_asm); (case k3 => k_asm);  (case k5 => k_asm); (case k6 => k_mem); (case k7 => exact codeRec_news Nl (by k_mem) hoc hft); (case k8 => ktr_room); (case k9 => exact BindsTo.of_eq rfl); (case c5 => decide); (case kB => exact locs rfl); (case c2 => exact rfl); (case c3 => exact rfl); (case c4 => exact rfl); k_whole; intro g' L' h' FG' F' N' B' X' T' l1 hg'; (try k_lt l1); (try dsimp only); (try k_fold))
    clear Nl
    k_with_none
    k_with "call ref" => (k_dflt (refine' innerM_use (IH (k₁ - 1) ?j) ?h1 ?h2 ?hl ?I ?B ?F ?X ?N ?T ?K ?U (fun p hp => hp) ?D ?_; (case j => omega); (case B => k_asm); (case F => k_asm); (case X => k_asm); (case N => k_asm); (case T => k_asm); (case K => rfl); (case I => with_reducible assumption); (case U => k_updF); (case hl => (first | assumption | exact (valI_length ..).trans (by assumption))); (case h1 => omega); (case h2 => (refine ⟨?_, ?_, ?_, ?_, ?_⟩ <;> (first | omega | ((simp only [List.length_replicate]); omega) | exact (xor_low (by omega) (by omega) (by omega) (by omega)).1 | exact (xor_low (by omega) (by omega) (by omega) (by omega)).2))); (case D => ktr_room)); (intro vs9 kk9 h9 tk9 F9 N9 hI9; (try dsimp only at N9); (try dsimp only); (try k_fold)))
    k_with "=binaryOp RShift int int" => (k_here; k_dflt (refine' rshift_p ?aZh ?bZh ?_; (case aZh => omega); (case bZh => omega)); intro hr0Z hr1Z)
    k_with "=binaryOp RShift int int" => (k_here; (with_reducible refine rshift1 ?_))
    k_with "=binaryOp Mult int int" => (k_here; k_dflt (refine' mul_n8 ?aZh ?bZh ?cZh ?dZh ?_; (case aZh => omega); (case bZh => omega); (case cZh => omega); (case dZh => omega)); intro p9Z hp9Z hp0Z hp1Z)
    k_with "=binaryOp LShift int int" => (k_here; k_dflt (refine' lshift_int_small ?aZh ?bZh ?cZh ?_; (case aZh => omega); (case bZh => omega); (case cZh => omega)))
    k_with "=binaryOp FloorDiv int int" => (k_here; k_dflt (refine' fdiv_n ?aZh ?bZh ?cZh ?_; (case aZh => omega); (case bZh => omega); (case cZh => omega)); intro p9Z hp9Z hp0Z hp1Z hp2Z)
    k_with "=binaryOp Mult ref int" => (k_here; k_dflt (refine' rep_U ?FZh ?NZh ?lZh ?aZh ?bZh ?_; (case FZh => k_asm); (case NZh => k_asm); (case lZh => k_mem); (case aZh => omega); (case bZh => omega)); intro DZ' hZ' usZ' FZ' NZ' l1Z hIZ'; (try k_lt l1Z); (try k_sweep))
    k_with "=call builtin:len" => (k_here; k_dflt (refine' len_U ?NZh ?mZh ?iZh ?zZh ?_; (case NZh => k_asm); (case mZh => k_mem); (case iZh => first | with_reducible assumption | l_ints); (case zZh => first | omega | ((simp only [List.length_append, List.length_cons, List.length_nil, List.length_set, List.length_dropLast, List.length_replicate]); omega))))
    k_steps
    · intro hfr
      show Q₁ Value.none _
      rw [valI_one (by assumption : lo + 1 = hi)] at ret₁
      (rename News h₁₁ L₁ _ _ => lN)
      exact ret₁ _ _ _ _ (by assumption) (news_frameS N₁ U₁ hsub₁ hfr (by k_updF) lN) (by assumption)
    · intro hfr
      show Q₁ Value.none _
      rw [valI_more (by omega : lo + 1 < hi) (by assumption)] at ret₁
      (rename News h₁₁ L₁ _ _ => lN)
      exact ret₁ _ _ _ _ (by assumption) (news_frameS N₁ U₁ hsub₁ hfr (by k_updF) lN) (by assumption)
  · intro hfr
    show Q (Value.ref _) _
    rw [i2dF_more (by assumption : x ≠ 0) (by assumption)] at ret
    ((rename News h₀ L _ _ => lN); (rename News g' L' _ _ => lG); (rename IntsAre _ (valI _ _ _ _ _) => lI))
    exact ret _ _ _ _ _ lI (by assumption) (news_add lN (by k_mem) (news_same N hsub hfr (fun p hp => lN p (by
      rcases List.mem_cons.mp hp with rfl | hp
      · k_mem
      · rcases List.mem_singleton.mp hp with rfl
        k_mem)))) (ne_newS hg' N lG (by k_mem) (by simp only [List.map_cons, List.map_nil, List.mem_cons, List.not_mem_nil, or_false, not_or]; exact ⟨by k_ne, by k_ne⟩))
  · intro hfr
    show Q (Value.ref _) _
    rw [i2dF_zero (by assumption : x = 0) (by assumption)] at ret
    ((rename News h₀ L _ _ => lN); (rename News g' L' _ _ => lG); (rename IntsAre _ (List.replicate _ _) => lI))
    exact ret _ _ _ _ _ lI (by assumption) (news_add lN (by k_mem) (news_same N hsub hfr (fun p hp => lN p (by
      rcases List.mem_cons.mp hp with rfl | hp
      · k_mem
      · rcases List.mem_singleton.mp hp with rfl
        k_mem)))) (ne_newS hg' N lG (by k_mem) (by simp only [List.map_cons, List.map_nil, List.mem_cons, List.not_mem_nil, or_false, not_or]; exact ⟨by k_ne, by k_ne⟩))
end
open PySem PySem.W PySem.Calls PyProof.Rows
set_option Elab.async false
set_option maxRecDepth 100000
set_option linter.unusedVariables false
section
variable {prog : Program} {w : World} {A : Around} {E : Value → Shared → Prop} {s : Shared} {env : Env} {h₀ : Heap} {x : Str} {body : List Stmt} {Q : Flow → Shared → Prop}
/-- a loop over reversed(list of ints), by what holds between its turns; the list itself is left out behind -/
theorem kst_revList {σ : Type} {I l : Addr} {vs : List Value} {ns : List Int} {nn : Nat} {m₀ : Str → Option Value} {news : List (Addr × Obj)} (Led : σ → List (Addr × Obj)) (ps : σ → List (Str × Value)) (Facts : σ → Prop) (stored : List Str) (P : List Int → σ → Prop) (c₀ : σ)
    (hh : A.handled = none) (F : Fr h₀ env.locals s.heap m₀) (N : News h₀ env.locals s.heap news) (hi : IntsAre vs ns) (hI : (I, revObj l ((vs.length : Int) - 1)) ∈ news) (hl : (l, listOf vs.toArray nn) ∈ news) (hlI : l ≠ I) (hL : ∀ p ∈ Led c₀, p ∈ news) (hne : ∀ p ∈ Led c₀, p.1 ≠ I ∧ p.1 ≠ l) (hf : Facts c₀) (hk : ∀ p ∈ ps c₀, m₀ p.1 = some p.2) (hp : P [] c₀)
    (turn : ∀ (c : σ) (pre post : List Int) (k : Int) t (u : Str → Option Value) h tk own, ns.reverse = pre ++ k :: post → k ∈ ns → OwnOff own ((Led c₀).map (·.1)) → Facts c → P pre c →
      Fr h₀ env.locals h (fun y => if y = x then some (.int k t) else kstB (fun z => if stored.contains z then u z else m₀ z) (ps c) y) → News h₀ env.locals h (Led c ++ own) →
      wpAny (model prog w) A (execs body env) (InvPostN h₀ env.locals (KstS Led ps Facts x stored m₀ P (pre ++ [k])) own ((Led c₀).map (·.1)) { s with heap := h, toks := tk } Q) E { s with heap := h, toks := tk })
    (done : ∀ (c : σ) (u : Str → Option Value) h tk, Facts c → P ns.reverse c → Fr h₀ env.locals h (fun y => if y = x then u y else kstB (fun z => if stored.contains z then u z else m₀ z) (ps c) y) → News h₀ env.locals h (Led c) → Q .next { s with heap := h, toks := tk }) :
    wpAny (model prog w) A (pyIter (.ref I)) (fun it s₂ => LoopAtV prog w A h₀ env x body Q E it s₂) E s := by
  have zI := N _ hI
  have zl := N _ hl
  have hlen : vs.length = ns.length := hi.length
  have hit : s.heap.IsRevIter I l ((vs.length : Int) - 1) := ⟨_, zI.1, rfl, rfl⟩
  have hls : s.heap.IsList l vs.toArray := ⟨_, zl.1, rfl, nn, rfl⟩
  refine wpAny_pyIter_revIter hit ?_
  have W := Walks.listRev (prog := prog) (w := w) hh I l hlI vs.toArray
  have hsz : vs.toArray.size = ns.length := by simp [hlen]
  rw [hsz] at W
  refine loop_invN (news := Led c₀) (fun i m nx => KstS Led ps Facts x stored m₀ P (ns.reverse.take i) m nx) W ?_ ?_ ?_ ?_ ⟨Nat.zero_le _, ?_, hls⟩ F (fun p hp => N p (hL p hp)) ⟨c₀, rfl, hf, hk, fun _ _ _ _ => rfl, by simpa using hp⟩ ?_ ?_
  · intro hm
    rcases List.mem_cons.mp hm with e | hm
    · exact zI.2.1 e.symm
    · exact zl.2.1 (List.mem_singleton.mp hm).symm
  · intro b hb
    rw [List.mem_singleton.mp hb]
    exact zI.2.2
  · intro p hp hI
    exact (hne p hp).1 (List.mem_singleton.mp hI)
  · intro p hp hI
    rcases List.mem_cons.mp hI with e | hI
    · exact (hne p hp).1 e
    · exact (hne p hp).2 (List.mem_singleton.mp hI)
  · have e : (ns.length : Int) - 1 - ((0 : Nat) : Int) = (vs.length : Int) - 1 := by omega
    rw [e]
    exact hit
  · rintro i v m₁ nx h tk own hi' hP _ hoff ⟨c, rfl, hf', h1, h2, hp'⟩ F₁ N₁
    have hlt : i < ns.length := hi'
    have hj : ns.length - 1 - i < ns.length := by omega
    obtain ⟨t, hx⟩ := hi.get (ns.length - 1 - i) ns[ns.length - 1 - i] (by simp [hj])
    have hv : v = .int ns[ns.length - 1 - i] t := by
      have hP' : vs[ns.length - 1 - i]? = some v := by simpa using hP
      rw [hx] at hP'; exact (Option.some.inj hP').symm
    subst hv
    have hk' : ns.reverse[i]? = some ns[ns.length - 1 - i] := by
      rw [List.getElem?_reverse hlt]
      simp [hj]
    have hs : ns.reverse.take (i + 1) = ns.reverse.take i ++ [ns[ns.length - 1 - i]] := by simp [List.take_add_one, hk']
    have e : ns.reverse = ns.reverse.take i ++ ns[ns.length - 1 - i] :: ns.reverse.drop (i + 1) := by
      have ht := List.take_append_drop (i + 1) ns.reverse
      rw [hs, List.append_assoc] at ht
      exact ht.symm
    rw [hs]
    exact turn c _ _ _ t m₁ h tk own e (List.getElem_mem _) hoff hf' hp' (kst_fr h1 h2 F₁) N₁
  · rintro m₁ nx h tk ⟨c, rfl, hf', h1, h2, hp'⟩ F₁ N₁
    have hl : ns.reverse.take ns.length = ns.reverse := List.take_of_length_le (by rw [List.length_reverse]; exact Nat.le_refl _)
    rw [hl] at hp'
    exact done c m₁ h tk hf' hp' (kst_frOut h1 h2 F₁) N₁
end
open PySem PySem.W PySem.Calls PyProof.Rows
set_option Elab.async false
set_option maxRecDepth 100000
set_option linter.unusedVariables false
theorem pow_step {k1 k2 a n B : Nat} (h1 : 1 ≤ k1) (h2 : 1 ≤ k2) (ha : a ≤ 3 * k2) : B * 16 ^ k1 * 2 ^ a + B * 16 ^ k2 ≤ B * 16 ^ (k1 + k2) := by
  have e1 : 2 ^ a ≤ 8 ^ k2 := by
    rw [show (8 : Nat) = 2 ^ 3 from rfl, ← Nat.pow_mul]
    exact Nat.pow_le_pow_right (by decide) ha
  have e2 : 2 * 8 ^ k2 ≤ 16 ^ k2 := by
    obtain ⟨j, rfl⟩ : ∃ j, k2 = j + 1 := ⟨k2 - 1, by omega⟩
    have : 8 ^ j ≤ 16 ^ j := Nat.pow_le_pow_left (by decide) j
    rw [Nat.pow_succ, Nat.pow_succ]
    omega
  have e3 : 2 ≤ 16 ^ k1 := by
    obtain ⟨j, rfl⟩ : ∃ j, k1 = j + 1 := ⟨k1 - 1, by omega⟩
    have : 0 < 16 ^ j := Nat.pow_pos (by decide)
    rw [Nat.pow_succ]
    omega
  have f1 : 2 * (B * 16 ^ k1 * 2 ^ a) ≤ B * 16 ^ k1 * 16 ^ k2 := by
    have : B * 16 ^ k1 * (2 * 2 ^ a) ≤ B * 16 ^ k1 * 16 ^ k2 := Nat.mul_le_mul_left _ (by omega)
    rw [← Nat.mul_assoc, Nat.mul_comm (B * 16 ^ k1) 2, Nat.mul_assoc] at this
    exact this
  have f2 : 2 * (B * 16 ^ k2) ≤ B * 16 ^ k1 * 16 ^ k2 := by
    have : B * 2 * 16 ^ k2 ≤ B * 16 ^ k1 * 16 ^ k2 := Nat.mul_le_mul_right _ (Nat.mul_le_mul_left _ e3)
    rw [Nat.mul_comm B 2, Nat.mul_assoc] at this
    exact this
  rw [Nat.pow_add, ← Nat.mul_assoc]
  omega
theorem d2i_bound {ds : List Int} {n : Int} {B : Nat} (hn1 : 1 ≤ n) (hn3 : n ≤ 3) (hB : ∀ i, (ds.getD i 0).natAbs ≤ B) : ∀ (f : Nat) (lo hi : Int), lo < hi → (hi - lo).toNat ≤ f → (d2i ds n f lo hi).natAbs ≤ B * 16 ^ (hi - lo).toNat
  | 0, lo, hi, h, h1 => absurd h1 (by omega)
  | f + 1, lo, hi, h, h1 => by
    rw [d2i]
    split
    · exact Nat.le_trans (hB _) (Nat.le_mul_of_pos_right _ (Nat.pow_pos (by decide)))
    · have a1 := d2i_bound hn1 hn3 hB f ((lo + hi) / 2) hi (by omega) (by omega)
      have a2 := d2i_bound hn1 hn3 hB f lo ((lo + hi) / 2) (by omega) (by omega)
      have e : (hi - lo).toNat = (hi - (lo + hi) / 2).toNat + ((lo + hi) / 2 - lo).toNat := by omega
      rw [e]
      have hmul : ((lo + hi) / 2 - lo) * n ≤ ((lo + hi) / 2 - lo) * 3 := Int.mul_le_mul_of_nonneg_left hn3 (by omega)
      have hpow := pow_step (k1 := (hi - (lo + hi) / 2).toNat) (k2 := ((lo + hi) / 2 - lo).toNat) (a := (((lo + hi) / 2 - lo) * n).toNat) (n := 0) (B := B) (by omega) (by omega) (by omega)
      refine Nat.le_trans (Int.natAbs_add_le _ _) (Nat.le_trans (Nat.add_le_add ?_ a2) hpow)
      rw [Int.natAbs_mul, Int.natAbs_pow]
      exact Nat.mul_le_mul_right _ a1
theorem valD_bound {ds : List Int} {n : Int} {B : Nat} (hn1 : 1 ≤ n) (hn3 : n ≤ 3) (hB : ∀ d ∈ ds, d.natAbs ≤ B) (hB2 : B < 2 ^ 32) (hl : ds.length ≤ 8) : ∀ lo hi, 0 ≤ lo → lo < hi → hi ≤ (ds.length : Int) → (valD ds n lo hi).natAbs < 2 ^ 64 := by
  intro lo hi h0 h1 h2
  have hB' : ∀ i, (ds.getD i 0).natAbs ≤ B := fun i => by
    by_cases hi : i < ds.length
    · rw [List.getD_eq_getElem?_getD, List.getElem?_eq_getElem hi]
      exact hB _ (List.getElem_mem hi)
    · rw [List.getD_eq_getElem?_getD, List.getElem?_eq_none (by omega)]
      exact Nat.zero_le _
  rw [valD]
  refine Nat.lt_of_le_of_lt (d2i_bound hn1 hn3 hB' _ lo hi h1 (Nat.le_refl _)) ?_
  have e : 16 ^ (hi - lo).toNat ≤ 16 ^ 8 := Nat.pow_le_pow_right (by decide) (by omega)
  have : B * 16 ^ (hi - lo).toNat ≤ B * 16 ^ 8 := Nat.mul_le_mul_left _ e
  omega
@[irreducible] def dmStep (b n : Int) (s : List Int × Int) (d : Int) : List Int × Int := (s.1 ++ [(s.2 * 2 ^ n.toNat + d).fdiv b], (s.2 * 2 ^ n.toNat + d).fmod b)
@[irreducible] def dmRun (x b n : Int) : List Int × Int := (i2dF x n).reverse.foldl (dmStep b n) ([], 0)
@[irreducible] def dmF (x b n : Int) : Int × Int := (if 0 < (dmRun x b n).1.reverse.length then valD (dmRun x b n).1.reverse n 0 (dmRun x b n).1.reverse.length else 0, (dmRun x b n).2)
set_option maxHeartbeats 4000000 in
theorem dmF_nat : ∀ b : Fin 4, ∀ x : Fin 256, dmF (x.1 : Nat) ((b.1 + 1 : Nat) : Int) (Builtin.Int.intBits ((b.1 + 1 : Nat) : Int)) = (((x.1 / (b.1 + 1) : Nat) : Int), ((x.1 % (b.1 + 1) : Nat) : Int)) := by decide +kernel
theorem i2dF_nat : ∀ n : Fin 3, ∀ x : Fin 256, (i2dF (x.1 : Nat) ((n.1 + 1 : Nat) : Int)).length ≤ 8 ∧ (i2dF (x.1 : Nat) ((n.1 + 1 : Nat) : Int)).all (fun d => decide (0 ≤ d) && decide (d < 256)) = true := by decide +kernel
theorem dmF_is {x b : Int} (h0 : 0 ≤ x) (h1 : x < 256) (hb1 : 1 ≤ b) (hb2 : b ≤ 4) : dmF x b (Builtin.Int.intBits b) = (x / b, x % b) := by
  obtain ⟨k, rfl⟩ := Int.eq_ofNat_of_zero_le h0
  obtain ⟨c, rfl⟩ := Int.eq_ofNat_of_zero_le (by omega : (0 : Int) ≤ b)
  obtain ⟨j, rfl⟩ : ∃ j, c = j + 1 := ⟨c - 1, by omega⟩
  exact dmF_nat ⟨j, by omega⟩ ⟨k, by omega⟩
theorem i2dF_is {x n : Int} (h0 : 0 ≤ x) (h1 : x < 256) (hb1 : 1 ≤ n) (hb2 : n ≤ 3) : (i2dF x n).length ≤ 8 ∧ ∀ d ∈ i2dF x n, 0 ≤ d ∧ d < 256 := by
  obtain ⟨k, rfl⟩ := Int.eq_ofNat_of_zero_le h0
  obtain ⟨c, rfl⟩ := Int.eq_ofNat_of_zero_le (by omega : (0 : Int) ≤ n)
  obtain ⟨j, rfl⟩ : ∃ j, c = j + 1 := ⟨c - 1, by omega⟩
  have h := i2dF_nat ⟨j, by omega⟩ ⟨k, by omega⟩
  refine ⟨h.1, fun d hd => ?_⟩
  have := List.all_eq_true.mp h.2 d hd
  simpa using this
theorem bits4 {b : Int} (hb1 : 1 ≤ b) (hb2 : b ≤ 4) : 1 ≤ (Builtin.Int.intBits b : Int) ∧ (Builtin.Int.intBits b : Int) ≤ 3 := by
  have : b = 1 ∨ b = 2 ∨ b = 3 ∨ b = 4 := by omega
  rcases this with rfl | rfl | rfl | rfl <;> decide +kernel
/-- the loop's word -/
def DmW (b n : Int) (pre : List Int) (qs : List Int) (r : Int) : Prop := (qs, r) = pre.foldl (dmStep b n) ([], 0) ∧ qs.length = pre.length ∧ (∀ q ∈ qs, q.natAbs ≤ 300) ∧ 0 ≤ r ∧ r < b
theorem DmW.start {b n : Int} (h : 1 ≤ b) : DmW b n [] [] 0 := ⟨rfl, rfl, (fun _ h => nomatch h), by omega, by omega⟩
theorem DmW.next {b n : Int} {pre qs : List Int} {r d : Int} (h : DmW b n pre qs r) (hb1 : 1 ≤ b) (hb2 : b ≤ 4) (hn1 : 1 ≤ n) (hn3 : n ≤ 3) (hd0 : 0 ≤ d) (hd1 : d < 256) :
    DmW b n (pre ++ [d]) (qs ++ [(r * 2 ^ n.toNat + d).fdiv b]) ((r * 2 ^ n.toNat + d).fmod b) := by
  obtain ⟨a1, a2, a3, a4, a5⟩ := h
  have hv : 0 ≤ r * 2 ^ n.toNat + d ∧ r * 2 ^ n.toNat + d ≤ 300 := by
    have : n = 1 ∨ n = 2 ∨ n = 3 := by omega
    rcases this with rfl | rfl | rfl
    · rw [show (2 : Int) ^ (1 : Int).toNat = 2 from rfl]; omega
    · rw [show (2 : Int) ^ (2 : Int).toNat = 4 from rfl]; omega
    · rw [show (2 : Int) ^ (3 : Int).toNat = 8 from rfl]; omega
  refine ⟨?_, by rw [List.length_append, List.length_append, a2]; rfl, fun q hq => ?_, ?_, ?_⟩
  · rw [List.foldl_append, ← a1]
    show _ = dmStep b n (qs, r) d
    rw [dmStep]
  · rcases List.mem_append.mp hq with hq | hq
    · exact a3 q hq
    · rw [List.mem_singleton.mp hq, Int.fdiv_eq_ediv_of_nonneg _ (by omega)]
      have := Int.ediv_nonneg hv.1 (by omega : 0 ≤ b)
      have := Int.ediv_le_self b hv.1
      omega
  · rw [Int.fmod_eq_emod_of_nonneg _ (by omega)]
    exact Int.emod_nonneg _ (by omega)
  · rw [Int.fmod_eq_emod_of_nonneg _ (by omega)]
    exact Int.emod_lt_of_pos _ (by omega)
theorem DmW.val {b n : Int} {pre qs : List Int} {r d : Int} (h : DmW b n pre qs r) (hb1 : 1 ≤ b) (hb2 : b ≤ 4) (hn1 : 1 ≤ n) (hn3 : n ≤ 3) (hd0 : 0 ≤ d) (hd1 : d < 256) : 0 ≤ r * 2 ^ n.toNat + d ∧ r * 2 ^ n.toNat + d ≤ 300 := by
  obtain ⟨a1, a2, a3, a4, a5⟩ := h
  have : n = 1 ∨ n = 2 ∨ n = 3 := by omega
  rcases this with rfl | rfl | rfl
  · rw [show (2 : Int) ^ (1 : Int).toNat = 2 from rfl]; omega
  · rw [show (2 : Int) ^ (2 : Int).toNat = 4 from rfl]; omega
  · rw [show (2 : Int) ^ (3 : Int).toNat = 8 from rfl]; omega
theorem bits300 {v : Int} (h0 : 0 ≤ v) (h1 : v ≤ 300) : (Builtin.Int.intBits v : Int) ≤ 9 := by
  obtain ⟨k, rfl⟩ := Int.eq_ofNat_of_zero_le h0
  have : ∀ j : Fin 301, (Builtin.Int.intBits ((j.1 : Nat) : Int) : Int) ≤ 9 := by decide +kernel
  exact this ⟨k, by omega⟩
theorem DmW.fin {x b n : Int} {qs : List Int} {r : Int} (h : DmW b n (i2dF x n).reverse qs r) : dmRun x b n = (qs, r) := by rw [dmRun]; exact h.1.symm
open PySem PySem.W PySem.Calls PyProof.Rows
set_option Elab.async false
set_option maxRecDepth 100000
set_option maxHeartbeats 8000000
set_option linter.unusedVariables false
def AllNe (d : Addr) : List (Addr × Obj) → Prop
  | [] => True
  | p :: r => @Ne Nat p.1 d ∧ AllNe d r
theorem allNe_of {d : Addr} : ∀ {l : List (Addr × Obj)}, (∀ p ∈ l, p.1 ≠ d) → AllNe d l
  | [], _ => trivial
  | p :: _, h => ⟨h p (.head _), allNe_of fun q hq => h q (.tail _ hq)⟩
theorem allNe_2 {d e : Addr} {l : List (Addr × Obj)} (h : ∀ p ∈ l, p.1 ≠ d ∧ p.1 ≠ e) : AllNe d l ∧ AllNe e l := ⟨allNe_of fun p hp => (h p hp).1, allNe_of fun p hp => (h p hp).2⟩
theorem tab_ne {h₀ h : Heap} {L P c : Addr} {news : List (Addr × Obj)} {ps : Array Value} {oc : Obj} {fvs : Array Value} {q : Str} {ft : Tok} (N : News h₀ L h news) (h1 : (P, tabObj ps) ∈ news) (h2 : (c, oc) ∈ news) (hoc : oc.data = .fields fvs) (hft : fvs[1]? = some (.str q ft)) (hps : ∀ q t, ps[1]? ≠ some (.str q t)) : @Ne Nat P c := fun e => by
  have z1 := (N _ h1).1
  have z2 := (N _ h2).1
  rw [show P = c from e, z2] at z1
  have z3 : oc = tabObj ps := Option.some.inj z1
  rw [z3] at hoc
  have z4 : ps = fvs := by injection hoc
  rw [← z4] at hft
  exact hps _ _ hft
theorem list_ne {h₀ h : Heap} {L D c : Addr} {news : List (Addr × Obj)} {vs : Array Value} {k : Nat} {oc : Obj} {fvs : Array Value} (N : News h₀ L h news) (h2 : (c, oc) ∈ news) (h1 : (D, listOf vs k) ∈ news) (hoc : oc.data = .fields fvs) : @Ne Nat c D := fun e => by
  have z1 := (N _ h1).1
  have z2 := (N _ h2).1
  rw [show D = c from e.symm, z2] at z1
  have z3 : oc = listOf vs k := Option.some.inj z1
  rw [z3] at hoc
  cases hoc
theorem tab0 : ∀ (q : Str) (t : Tok), (#[] : Array Value)[1]? ≠ some (.str q t) := fun _ _ h => by simp at h
theorem tab3 {a b : Int} {c : Addr} : ∀ (q : Str) (t : Tok), (#[rawInt a, rawInt b, .ref c] : Array Value)[1]? ≠ some (.str q t) := fun _ _ h => by simp [rawInt] at h
section
variable {w : World} {loose : List Str} {mean : ExcName → Option Value} {mg mb : Str → Option Value} {dp un : Nat} {gd : Option (List Code)} {cn : Str} {cs : Scope} {a : Addr} {ccd : Value} {cl : List (Str × Addr)} {outer : List Env} {A₀ : Around} {base h₀ : Heap} {L : Addr} {m : Str → Option Value}
variable {news : List (Addr × Obj)} {g : Obj → List (Addr × Obj)} {s : Shared} {Q E : Value → Shared → Prop}
theorem i2d1_use {x n : Int} {ta tn : Tok} (h1 : 0 ≤ x) (h2 : x < 256) (hn1 : 1 ≤ n) (hn2 : n ≤ 3) (B : Below A₀ base outer h₀) (F : Fr h₀ L s.heap m) (X : (hd.heap_1 w.params).In h₀) (N : News h₀ L s.heap news) (T : Top topProg loose mean mg mb h₀) (hs : cs.kind = .function) (hC : CodeHd h₀ 34 30)
    (U : UpdF 30 (tabObj #[]) news g) (hd : dp + 20 < recursionLimit)
    (ret : ∀ D us kk h' tk' c' oc fvs ft, oc.data = .fields fvs → fvs[1]? = some (.str (Str.ofString "_int2digits.<locals>.inner") ft) → IntsAre us (i2dF x n) → Fr h₀ L h' m → News h₀ L h' ((D, listOf (us : List Value).toArray kk) :: (c', oc) :: g (tabObj #[rawInt 32, rawInt 4, .ref c'])) → (∀ p ∈ news, p.1 ≠ D ∧ p.1 ≠ c') → @Ne Nat c' D → Q (.ref D) { s with heap := h', toks := tk' }) :
    wpAny (model PySem.Challenge.rw_op0106_01.row.prog w) (ktrTop dp un gd cn cs L a ccd cl outer) (call (.ref 35) [.int x ta, .int n tn]) Q E s :=
  i2d1_c w x n h1 h2 hn1 hn2 _ _ _ _ _ _ _ _ _ _ _ _ _ _ _ _ _ _ _ _ _ _ _ _ _ B F X N T hs hC U hd fun D us kk h' tk' c' oc fvs ft e1 e2 e3 e4 e5 e6 => ret D us kk h' tk' c' oc fvs ft e1 e2 e3 e4 e5 e6 (list_ne e5 (.tail _ (.head _)) (.head _) e1)
theorem i2d2_use {x n : Int} {ta tn : Tok} {c' : Addr} {oc : Obj} {fvs : Array Value} {ft : Tok} (h1 : 0 ≤ x) (h2 : x < 256) (hn1 : 1 ≤ n) (hn2 : n ≤ 3) (B : Below A₀ base outer h₀) (F : Fr h₀ L s.heap m) (X : (hd.heap_1 w.params).In h₀) (N : News h₀ L s.heap news) (T : Top topProg loose mean mg mb h₀) (hs : cs.kind = .function) (hC : CodeHd h₀ 34 30)
    (hU : (30, tabObj #[rawInt 32, rawInt 4, .ref c']) ∈ news) (hc : (c', oc) ∈ news) (hoc : oc.data = .fields fvs) (hft : fvs[1]? = some (.str (Str.ofString "_int2digits.<locals>.inner") ft)) (hd : dp + 20 < recursionLimit)
    (ret : ∀ D us kk h' tk', IntsAre us (i2dF x n) → Fr h₀ L h' m → News h₀ L h' ((D, listOf (us : List Value).toArray kk) :: news) → (∀ p ∈ news, p.1 ≠ D) → Q (.ref D) { s with heap := h', toks := tk' }) :
    wpAny (model PySem.Challenge.rw_op0106_01.row.prog w) (ktrTop dp un gd cn cs L a ccd cl outer) (call (.ref 35) [.int x ta, .int n tn]) Q E s :=
  i2d2_c w x n h1 h2 hn1 hn2 _ _ _ _ _ _ _ _ _ _ _ _ _ _ _ _ _ _ _ _ _ _ _ _ _ _ _ _ B F X N T hs hC hU hc hoc hft hd ret
theorem d2i1_use {ds : List Int} {n : Int} {tn : Tok} {dl : Addr} {vs : List Value} {k : Nat} (h1 : ds.length ≤ 8) (hn1 : 1 ≤ n) (hn2 : n ≤ 3) (hb : ∀ d ∈ ds, d.natAbs ≤ 300) (B : Below A₀ base outer h₀) (F : Fr h₀ L s.heap m) (X : (hd.heap_1 w.params).In h₀) (N : News h₀ L s.heap news) (T : Top topProg loose mean mg mb h₀) (hs : cs.kind = .function) (hC : CodeHd h₀ 41 37)
    (U : UpdF 37 (tabObj #[]) news g) (hm : (dl, listOf vs.toArray k) ∈ news) (hI : IntsAre vs ds) (hd : dp + 20 < recursionLimit)
    (ret : ∀ v t h' tk' c' oc fvs ft, v = (if 0 < ds.length then valD ds n 0 ds.length else 0) → oc.data = .fields fvs → fvs[1]? = some (.str (Str.ofString "_digits2int.<locals>.inner") ft) → Fr h₀ L h' m → News h₀ L h' ((c', oc) :: g (tabObj #[rawInt 47, rawInt 4, .ref c'])) → (∀ p ∈ news, p.1 ≠ c') → Q (.int v t) { s with heap := h', toks := tk' }) :
    wpAny (model PySem.Challenge.rw_op0106_01.row.prog w) (ktrTop dp un gd cn cs L a ccd cl outer) (call (.ref 42) [.ref dl, .int n tn]) Q E s :=
  d2i1_c w ds n h1 hn1 hn2 (valD_bound hn1 hn2 hb (by decide) h1) _ _ _ _ _ _ _ _ _ _ _ _ _ _ _ _ _ _ _ _ _ _ _ _ _ _ _ B F X N T hs hC U hm hI hd fun t h' tk' c' oc fvs ft => ret _ t h' tk' c' oc fvs ft rfl
theorem d2i2_use {ds : List Int} {n : Int} {tn : Tok} {dl : Addr} {vs : List Value} {k : Nat} {c' : Addr} {oc : Obj} {fvs : Array Value} {ft : Tok} (h1 : ds.length ≤ 8) (hn1 : 1 ≤ n) (hn2 : n ≤ 3) (hb : ∀ d ∈ ds, d.natAbs ≤ 300) (B : Below A₀ base outer h₀) (F : Fr h₀ L s.heap m) (X : (hd.heap_1 w.params).In h₀) (N : News h₀ L s.heap news) (T : Top topProg loose mean mg mb h₀) (hs : cs.kind = .function) (hC : CodeHd h₀ 41 37)
    (hU : (37, tabObj #[rawInt 47, rawInt 4, .ref c']) ∈ news) (hc : (c', oc) ∈ news) (hoc : oc.data = .fields fvs) (hft : fvs[1]? = some (.str (Str.ofString "_digits2int.<locals>.inner") ft)) (hm : (dl, listOf vs.toArray k) ∈ news) (hI : IntsAre vs ds) (hd : dp + 20 < recursionLimit)
    (ret : ∀ v t h' tk', v = (if 0 < ds.length then valD ds n 0 ds.length else 0) → Fr h₀ L h' m → News h₀ L h' news → Q (.int v t) { s with heap := h', toks := tk' }) :
    wpAny (model PySem.Challenge.rw_op0106_01.row.prog w) (ktrTop dp un gd cn cs L a ccd cl outer) (call (.ref 42) [.ref dl, .int n tn]) Q E s :=
  d2i2_c w ds n h1 hn1 hn2 (valD_bound hn1 hn2 hb (by decide) h1) _ _ _ _ _ _ _ _ _ _ _ _ _ _ _ _ _ _ _ _ _ _ _ _ _ _ _ _ _ _ B F X N T hs hC hU hc hoc hft hm hI hd fun t h' tk' => ret _ t h' tk' rfl
end
open PySem PySem.W PySem.Calls PyProof.Rows
set_option Elab.async false
set_option maxRecDepth 100000
set_option linter.unusedVariables false
section
variable {prog : Program} {w : World} {A : Around} {E : Value → Shared → Prop} {s : Shared} {env : Env} {h₀ : Heap} {x : Str} {body : List Stmt} {Q : Flow → Shared → Prop}
theorem dm_loop {I l q : Addr} {vs us₀ : List Value} {ns : List Int} {nn k₀ : Nat} {t₀ : Tok} {m₀ : Str → Option Value} {rest : List (Addr × Obj)} (y : Str) (stored : List Str) (b n : Int)
    (hh : A.handled = none) (F : Fr h₀ env.locals s.heap m₀) (N : News h₀ env.locals s.heap ((I, revObj l ((vs.length : Int) - 1)) :: (q, listOf us₀.toArray k₀) :: (l, listOf vs.toArray nn) :: rest)) (hi : IntsAre vs ns) (hu : IntsAre us₀ [])
    (hlI : @Ne Nat l I) (hqI : @Ne Nat q I) (hql : @Ne Nat q l) (hrest : ∀ p ∈ rest, p.1 ≠ I ∧ p.1 ≠ l) (hy : m₀ y = some (.int 0 t₀)) (hb : 1 ≤ b)
    (turn : ∀ (us : List Value) (qs : List Int) (kn : Nat) (r : Int) (tr : Tok) (pre post : List Int) (k : Int) t (u : Str → Option Value) h tk own, ns.reverse = pre ++ k :: post → k ∈ ns → OwnOff own (((q, listOf us₀.toArray k₀) :: rest).map (·.1)) → IntsAre us qs → DmW b n pre qs r →
      Fr h₀ env.locals h (fun z => if z = x then some (.int k t) else kstB (fun z => if stored.contains z then u z else m₀ z) [(y, .int r tr)] z) → News h₀ env.locals h ((q, listOf us.toArray kn) :: (rest ++ own)) →
      wpAny (model prog w) A (execs body env) (InvPostN h₀ env.locals (KstS (σ := List Value × List Int × Nat × Int × Tok) (fun c => (q, listOf c.1.toArray c.2.2.1) :: rest) (fun c => [(y, .int c.2.2.2.1 c.2.2.2.2)]) (fun c => IntsAre c.1 c.2.1) x stored m₀ (fun pre c => DmW b n pre c.2.1 c.2.2.2.1) (pre ++ [k])) own (((q, listOf us₀.toArray k₀) :: rest).map (·.1)) { s with heap := h, toks := tk } Q) E { s with heap := h, toks := tk })
    (done : ∀ (us : List Value) (qs : List Int) (kn : Nat) (r : Int) (tr : Tok) (u : Str → Option Value) h tk, IntsAre us qs → DmW b n ns.reverse qs r → Fr h₀ env.locals h (fun z => if z = x then u z else kstB (fun z => if stored.contains z then u z else m₀ z) [(y, .int r tr)] z) → News h₀ env.locals h ((q, listOf us.toArray kn) :: rest) → Q .next { s with heap := h, toks := tk }) :
    wpAny (model prog w) A (pyIter (.ref I)) (fun it s₂ => LoopAtV prog w A h₀ env x body Q E it s₂) E s := by
  refine kst_revList (σ := List Value × List Int × Nat × Int × Tok) (l := l) (vs := vs) (nn := nn) (ns := ns) (fun c => (q, listOf c.1.toArray c.2.2.1) :: rest) (fun c => [(y, .int c.2.2.2.1 c.2.2.2.2)]) (fun c => IntsAre c.1 c.2.1) stored (fun pre c => DmW b n pre c.2.1 c.2.2.2.1) (us₀, [], k₀, 0, t₀)
    hh F N hi (.head _) (.tail _ (.tail _ (.head _))) hlI (fun p hp => ?_) (fun p hp => ?_) hu (fun p hp => ?_) (DmW.start hb) ?_ ?_
  · rcases List.mem_cons.mp hp with rfl | hp
    · exact .tail _ (.head _)
    · exact .tail _ (.tail _ (.tail _ hp))
  · rcases List.mem_cons.mp hp with rfl | hp
    · exact ⟨hqI, hql⟩
    · exact hrest p hp
  · rcases List.mem_singleton.mp hp with rfl
    exact hy
  · rintro ⟨us, qs, kn, r, tr⟩ pre post k t u h tk own e hk ho hf hp F₁ N₁
    exact turn us qs kn r tr pre post k t u h tk own e hk ho hf hp F₁ N₁
  · rintro ⟨us, qs, kn, r, tr⟩ u h tk hf hp F₁ N₁
    exact done us qs kn r tr u h tk hf hp F₁ N₁
end
theorem reverse_U {prog : Program} {w : World} {A : Around} {E : Value → Shared → Prop} {s : Shared} {h₀ : Heap} {L D : Addr} {m : Str → Option Value} {news : List (Addr × Obj)} {g : Obj → List (Addr × Obj)} {ys : List Value} {ns : List Int} {n : Nat} {Q : Value → Shared → Prop} (F : Fr h₀ L s.heap m) (N : News h₀ L s.heap news) (U : UpdF D (listOf ys.toArray n) news g) (hi : IntsAre ys ns) (hz : ns.length ≤ 1000000)
    (h : ∀ h' us n', Fr h₀ L h' m → News h₀ L h' (g (listOf (us : List Value).toArray n')) → IntsAre us ns.reverse → Q .none { s with heap := h' }) : wpAny (model prog w) A (call (.builtin "list.reverse") [.ref D]) Q E s := by
  obtain ⟨pre, post, rfl, hg, a, c⟩ := U.split
  have h1 := hi.length
  refine kl_reverse (its := ys.toArray) (l := ys.reverse) F N (by simp) (upd_of c pre a) (by rw [sizeLine_eq]; simp; omega) fun h' F' N' => h h' ys.reverse n F' (by rw [hg]; exact N') (PyProof.Rows.IntsAre.reverse hi)
theorem divmod_U {prog : Program} {w : World} {A : Around} {E : Value → Shared → Prop} {s : Shared} {h₀ : Heap} {L : Addr} {m : Str → Option Value} {news : List (Addr × Obj)} {Q : Value → Shared → Prop} {a b : Int} {t u : Tok} (F : Fr h₀ L s.heap m) (N : News h₀ L s.heap news) (h0 : 0 ≤ a) (h1 : a ≤ 300) (hb : 1 ≤ b) (hb4 : b ≤ 4)
    (h : ∀ D nt t1 t2 h' tk', Fr h₀ L h' m → News h₀ L h' ((D, { cls := .type "tuple", data := .seq #[.int (a.fdiv b) t1, .int (a.fmod b) t2] nt }) :: news) → (∀ p ∈ news, p.1 < D) → Q (.ref D) { s with heap := h', toks := tk' }) :
    wpAny (model prog w) A (call (.builtin "divmod") [.int a t, .int b u]) Q E s :=
  divmod_N F N (by omega) (fun h' F' N' => h _ _ _ _ _ _ F' N' fun p hp => Heap.lt_size (N p hp).1) (Or.inl (PyProof.noPylong_small (by omega)))
open PySem PySem.W PySem.Calls PyProof.Rows
set_option Elab.async false
set_option maxRecDepth 100000
set_option maxHeartbeats 8000000
set_option linter.unusedVariables false
def Dmp1 (w : World) (x b : Int) : Prop :=
  ∀ (loose : List Str) (mean : ExcName → Option Value) (mg mb : Str → Option Value) (dp un : Nat) (gd : Option (List Code)) (cn : Str) (cs : Scope) (a : Addr) (ccd : Value) (cl : List (Str × Addr)) (outer : List Env) (A₀ : Around) (base h₀ : Heap) (L : Addr) (m : Str → Option Value)
    (news : List (Addr × Obj)) (g : Obj → List (Addr × Obj)) (s : Shared) (ta tb : Tok) (c2 : Addr) (oc2 : Obj) (fvs2 : Array Value) (ft2 : Tok) (Q E : Value → Shared → Prop),
    Below A₀ base outer h₀ → Fr h₀ L s.heap m → (hd.heap_1 w.params).In h₀ → News h₀ L s.heap news → Top topProg loose mean mg mb h₀ → cs.kind = .function → CodeHd h₀ 34 30 → CodeHd h₀ 41 37 → UpdF 30 (tabObj #[]) news g → (37, tabObj #[rawInt 47, rawInt 4, .ref c2]) ∈ news → (c2, oc2) ∈ news → oc2.data = .fields fvs2 → fvs2[1]? = some (.str (Str.ofString "_digits2int.<locals>.inner") ft2) → dp + 30 < recursionLimit →
    (∀ D nt t1 t2 h' tk' c1 oc1 fvs1 ft1, oc1.data = .fields fvs1 → fvs1[1]? = some (.str (Str.ofString "_int2digits.<locals>.inner") ft1) → Fr h₀ L h' m → News h₀ L h' ((D, { cls := .type "tuple", data := .seq #[.int (x / b) t1, .int (x % b) t2] nt }) :: (c1, oc1) :: g (tabObj #[rawInt 32, rawInt 4, .ref c1])) → (∀ p ∈ news, p.1 ≠ D ∧ p.1 ≠ c1) → Q (.ref D) { s with heap := h', toks := tk' }) →
    wpAny (model PySem.Challenge.rw_op0106_01.row.prog w) (ktrTop dp un gd cn cs L a ccd cl outer) (call (.ref 49) [.int x ta, .int b tb]) Q E s
section
theorem dmp1_c (w : World) (x b : Int) (h1 : 0 ≤ x) (h2 : x < 256) (hb1 : 1 ≤ b) (hb2 : b ≤ 4) : Dmp1 w x b := by
  w_on
  unfold Dmp1
  k_fill
  intro loose mean mg mb dp un gd cn cs a ccd cl outer A₀ base h₀ L m news g s ta tb c2 oc2 fvs2 ft2 Q E B F X N T hk hC30 hC37 U h37 hc2 hoc2 hft2 hd ret
  have hsub : ∀ p ∈ [(30, tabObj #[]), (37, tabObj #[rawInt 47, rawInt 4, .ref c2]), (c2, oc2)], p ∈ news := fun p hp => by
    rcases List.mem_cons.mp hp with rfl | hp
    · obtain ⟨pre, post, rfl, _⟩ := U.split
      exact List.mem_append_right _ (.head _)
    · rcases List.mem_cons.mp hp with rfl | hp
      · exact h37
      · rcases List.mem_singleton.mp hp with rfl
        exact hc2
  have Nl : News h₀ L s.heap [(30, tabObj #[]), (37, tabObj #[rawInt 47, rawInt 4, .ref c2]), (c2, oc2)] := fun p hp => N p (hsub p hp)
  have ne1 := tab_ne N h37 hc2 hoc2 hft2 tab3
  have ne2 := tab_ne N (hsub _ (.head _)) hc2 hoc2 hft2 tab0
  refine wpAny_call ?_
  k_dflt (refine' code_defF ?k1 ?k2 ?k3 Nl ?k5 ?kA ?kF ?kK ?k6 ?k7 ?k8 ?k9 ?kB ?_ ?c2 ?c3 ?c4 ?c5; (case kA => exact rfl); (case kF => exact rfl); (case kK => assumption); (case k1 => k_asm); (case k2 => k_asm); (case k3 => k_asm);  (case k5 => k_asm); (case k6 => k_is); (case k7 => k_is); (case k8 => ktr_room); (case k9 => exact BindsTo.of_eq rfl); (case c5 => decide); (case kB => exact locs rfl); (case c2 => exact rfl); (case c3 => exact rfl); (case c4 => exact rfl); k_whole; intro g' L' h' FG' F' N' B' X' T' l1 hg'; (try k_lt l1); (try dsimp only); (try k_fold))
  clear Nl
  k_with_none
  have hC30' : CodeHd g' 34 30 := hC30.keeps (Fr.keep FG')
  have hC37' : CodeHd g' 41 37 := hC37.keeps (Fr.keep FG')
  have hbits := bits4 hb1 hb2
  k_with "=call ref" => (k_here; (with_reducible show wpAny _ _ (call (Value.ref 35) _) _ _ _); k_dflt (refine' i2d1_use ?c1Zh ?c2Zh ?c3Zh ?c4Zh ?BZh ?FZh ?XZh ?NZh ?TZh ?KZh ?CZh ?UZh ?DZh ?_; (case BZh => k_asm); (case FZh => k_asm); (case XZh => k_asm); (case NZh => k_asm); (case TZh => k_asm); (case KZh => first | exact rfl | assumption); (case CZh => assumption); (case UZh => k_updF); (case DZh => ktr_room)); (case c1Zh => omega); (case c2Zh => omega); (case c3Zh => omega); (case c4Zh => omega); (intro D9Z us9Z kk9Z h9Z tk9Z c9Z oc9Z fvs9Z ft9Z hoc9Z hft9Z hI9Z F9Z N9Z hne9Z hcd9Z); (replace hne9Z := allNe_2 hne9Z); (simp only [AllNe, and_true] at hne9Z); (try dsimp only at N9Z); (try dsimp only); (try k_fold))
  k_with "=call ref" => (k_here; (with_reducible show wpAny _ _ (call (Value.ref 42) _) _ _ _); k_dflt (refine' d2i2_use ?c1Zh ?c2Zh ?c3Zh ?c4Zh ?BZh ?FZh ?XZh ?NZh ?TZh ?KZh ?CZh ?hUZh ?hcZh ?hocZh ?hftZh ?hmZh ?IZh ?DZh ?_; (case BZh => k_asm); (case FZh => k_asm); (case XZh => k_asm); (case NZh => k_asm); (case TZh => k_asm); (case KZh => first | exact rfl | assumption); (case CZh => assumption); (case hUZh => k_mem); (case hcZh => k_mem); (case hocZh => assumption); (case hftZh => assumption); (case hmZh => k_mem); (case IZh => first | with_reducible assumption | l_ints); (case DZh => ktr_room)); (case c1Zh => first | assumption | k_extra "side"); (case c2Zh => omega); (case c3Zh => omega); (case c4Zh => first | assumption | k_extra "side"); (intro v9Z t9Z h9Z tk9Z hv9Z F9Z N9Z); (try dsimp only at N9Z); (try dsimp only); (try k_fold))
  k_with "=binaryOp LShift int int" => (k_here; k_dflt (refine' lshift_int_small ?aZh ?bZh ?cZh ?_; (case aZh => omega); (case bZh => omega); (case cZh => omega)))
  k_with "=call builtin:list.append" => (k_here; k_dflt (refine' append_U ?FZh ?NZh ?UZh ?iZh ?zZh ?_; (case FZh => k_asm); (case NZh => k_asm); (case UZh => k_updF); (case iZh => first | with_reducible assumption | exact IntsAre.nil | l_ints); (case zZh => first | omega | ((simp only [List.length_append, List.length_cons, List.length_nil, List.length_set, List.length_dropLast, List.length_replicate]); omega) | k_extra "side")); intro hZ' usZ' nZ' FZ' NZ' hIZ'; (try dsimp only at NZ'); (try k_sweep))
  k_with "=call ref" => (k_here; (with_reducible show wpAny _ _ (call (Value.ref 21) _) _ _ _); refine wpAny_call ?_; k_dflt (refine' code_def ?k1Zh ?k2Zh ?k3Zh ?k4Zh ?k5Zh ?kAZh ?kFZh ?kKZh ?k6Zh ?k7Zh ?k8Zh ?k9Zh ?kBZh ?_ ?c2Zh ?c3Zh ?c4Zh ?c5Zh; (case kAZh => exact rfl); (case kFZh => exact rfl); (case kKZh => exact rfl); (case k1Zh => k_asm); (case k2Zh => k_asm); (case k3Zh => k_asm); (case k4Zh => k_asm); (case k5Zh => k_asm); (case k6Zh => k_is); (case k7Zh => k_is); (case k8Zh => ktr_room); (case k9Zh => exact BindsTo.of_eq rfl); (case c5Zh => decide); (case kBZh => exact locs rfl); (case c2Zh => exact rfl); (case c3Zh => exact rfl); (case c4Zh => exact rfl); k_whole; intro gZ' LZ' hZ' FGZ' FZ' NZ' BZ' XZ' TZ'; (try dsimp only); (try k_lift BZ'); (try k_fold)))
  k_with "=call builtin:divmod" => (k_here; k_dflt (refine' divmod_U ?FZh ?NZh ?aZh ?bZh ?cZh ?dZh ?_; (case FZh => k_asm); (case NZh => k_asm); (case aZh => omega); (case bZh => omega); (case cZh => omega); (case dZh => omega)); intro DZ' ntZ' t1Z' t2Z' hZ' tkZ' FZ' NZ' l1Z; (try k_lt l1Z); (try k_sweep))
  k_with "=call builtin:list.reverse" => (k_here; k_dflt (refine' reverse_U ?FZh ?NZh ?UZh ?iZh ?zZh ?_; (case FZh => k_asm); (case NZh => k_asm); (case UZh => k_updF); (case iZh => first | with_reducible assumption | exact IntsAre.nil | l_ints); (case zZh => omega)); intro hZ' usZ' nZ' FZ' NZ' hIZ'; (try dsimp only at NZ'); (try k_sweep))
  k_with "=InvEndN" => k_dflt kst_close
  k_steps
  · ((rename Fr g' L' _ _ => lF'); (rename News g' L' _ _ => lN'); (rename IntsAre _ (i2dF _ _) => lI);
      (refine dm_loop "r" ["q_digit"] b (Builtin.Int.intBits b) rfl lF' lN' lI .nil (by k_ne) (by k_ne) (by k_ne) ?hrest rfl hb1 ?_ ?_);
      (case hrest => ((repeat (refine List.forall_mem_cons.mpr ⟨⟨by k_ne, by k_ne⟩, ?_⟩)); exact List.forall_mem_nil _)); (all_goals clear lF' lN'))
    · intro us9 qs9 kn9 r9 tr9 pre post d9 t9 u9 h9 tk9 own9 e9 hd9 kOff hI9 hW9 kFr kNews
      dsimp only [kstB] at kFr
      simp only [List.cons_append, List.nil_append] at kNews
      simp only [List.map_cons, List.map_nil] at kOff
      have hd8 := (i2dF_is h1 h2 hbits.1 hbits.2).2 d9 hd9
      have hv9 := hW9.val hb1 hb2 hbits.1 hbits.2 hd8.1 hd8.2
      have hb9 := bits300 hv9.1 hv9.2
      have hl9 := hW9.2.1
      have hr9 := hW9.2.2.2
      have hp9 : pre.length ≤ 8 := by
        have e8 := congrArg List.length e9
        have e7 := (i2dF_is h1 h2 hbits.1 hbits.2).1
        rw [List.length_reverse, List.length_append, List.length_cons] at e8
        omega
      k_with "state" => exact hW9.next hb1 hb2 hbits.1 hbits.2 hd8.1 hd8.2
      try k_fold
      k_steps
    · intro us9 qs9 kn9 r9 tr9 u9 h9 tk9 hI9 hW9 kFr kNews
      dsimp only [kstB] at kFr
      have hl8 : qs9.length ≤ 8 := by
        have e7 := (i2dF_is h1 h2 hbits.1 hbits.2).1
        have e8 := hW9.2.1
        rw [List.length_reverse] at e8
        omega
      have hq1 : qs9.reverse.length ≤ 8 := by rw [List.length_reverse]; exact hl8
      have hq2 : ∀ d ∈ qs9.reverse, d.natAbs ≤ 300 := fun d hd => hW9.2.2.1 d (List.mem_reverse.mp hd)
      have hdm := dmF_is h1 h2 hb1 hb2
      rw [dmF, hW9.fin] at hdm
      have hdm1 := congrArg Prod.fst hdm
      have hdm2 := congrArg Prod.snd hdm
      clear hdm
      dsimp only at hdm1 hdm2
      try k_fold
      k_steps
      intro hfr
      show Q (Value.ref _) _
      rw [← (by assumption : _ = (if 0 < qs9.reverse.length then valD qs9.reverse (Builtin.Int.intBits b) 0 qs9.reverse.length else 0))] at hdm1
      rw [← hdm1, ← hdm2] at ret
      ((rename News h₀ L _ _ => lN); (rename News g' L' _ _ => lG))
      exact ret _ _ _ _ _ _ _ _ _ _ (by assumption) (by assumption) (by assumption) (news_add lN (.head _) (news_add lN (.tail _ (.tail _ (.head _))) (news_frameS N U hsub hfr (by k_updF) (fun p hp => lN p (.tail _ (.tail _ (.tail _ hp))))))) (fun p hp => ⟨ne_newS hg' N lG (.head _) (by simp only [List.map_cons, List.map_nil, List.mem_cons, List.not_mem_nil, or_false, not_or]; exact ⟨by k_ne, by k_ne, by k_ne⟩) p hp, ne_newS hg' N lG (.tail _ (.tail _ (.head _))) (by simp only [List.map_cons, List.map_nil, List.mem_cons, List.not_mem_nil, or_false, not_or]; exact ⟨by k_ne, by k_ne, by k_ne⟩) p hp⟩)
end
open PySem PySem.W PySem.Calls PyProof.Rows
set_option Elab.async false
set_option maxRecDepth 100000
set_option maxHeartbeats 8000000
set_option linter.unusedVariables false
def Dmp2 (w : World) (x b : Int) : Prop :=
  ∀ (loose : List Str) (mean : ExcName → Option Value) (mg mb : Str → Option Value) (dp un : Nat) (gd : Option (List Code)) (cn : Str) (cs : Scope) (a : Addr) (ccd : Value) (cl : List (Str × Addr)) (outer : List Env) (A₀ : Around) (base h₀ : Heap) (L : Addr) (m : Str → Option Value)
    (news : List (Addr × Obj)) (s : Shared) (ta tb : Tok) (c2 : Addr) (oc2 : Obj) (fvs2 : Array Value) (ft2 : Tok) (c1 : Addr) (oc1 : Obj) (fvs1 : Array Value) (ft1 : Tok) (Q E : Value → Shared → Prop),
    Below A₀ base outer h₀ → Fr h₀ L s.heap m → (hd.heap_1 w.params).In h₀ → News h₀ L s.heap news → Top topProg loose mean mg mb h₀ → cs.kind = .function → CodeHd h₀ 34 30 → CodeHd h₀ 41 37 → (30, tabObj #[rawInt 32, rawInt 4, .ref c1]) ∈ news → (c1, oc1) ∈ news → oc1.data = .fields fvs1 → fvs1[1]? = some (.str (Str.ofString "_int2digits.<locals>.inner") ft1) → (37, tabObj #[rawInt 47, rawInt 4, .ref c2]) ∈ news → (c2, oc2) ∈ news → oc2.data = .fields fvs2 → fvs2[1]? = some (.str (Str.ofString "_digits2int.<locals>.inner") ft2) → dp + 30 < recursionLimit →
    (∀ D nt t1 t2 h' tk', Fr h₀ L h' m → News h₀ L h' ((D, { cls := .type "tuple", data := .seq #[.int (x / b) t1, .int (x % b) t2] nt }) :: news) → (∀ p ∈ news, p.1 ≠ D) → Q (.ref D) { s with heap := h', toks := tk' }) →
    wpAny (model PySem.Challenge.rw_op0106_01.row.prog w) (ktrTop dp un gd cn cs L a ccd cl outer) (call (.ref 49) [.int x ta, .int b tb]) Q E s
section
theorem dmp2_c (w : World) (x b : Int) (h1 : 0 ≤ x) (h2 : x < 256) (hb1 : 1 ≤ b) (hb2 : b ≤ 4) : Dmp2 w x b := by
  w_on
  unfold Dmp2
  k_fill
  intro loose mean mg mb dp un gd cn cs a ccd cl outer A₀ base h₀ L m news s ta tb c2 oc2 fvs2 ft2 c1 oc1 fvs1 ft1 Q E B F X N T hk hC30 hC37 h30 hc1 hoc1 hft1 h37 hc2 hoc2 hft2 hd ret
  have hsub : ∀ p ∈ [(30, tabObj #[rawInt 32, rawInt 4, .ref c1]), (c1, oc1), (37, tabObj #[rawInt 47, rawInt 4, .ref c2]), (c2, oc2)], p ∈ news := fun p hp => by
    rcases List.mem_cons.mp hp with rfl | hp
    · exact h30
    · rcases List.mem_cons.mp hp with rfl | hp
      · exact hc1
      · rcases List.mem_cons.mp hp with rfl | hp
        · exact h37
        · rcases List.mem_singleton.mp hp with rfl
          exact hc2
  have Nl : News h₀ L s.heap [(30, tabObj #[rawInt 32, rawInt 4, .ref c1]), (c1, oc1), (37, tabObj #[rawInt 47, rawInt 4, .ref c2]), (c2, oc2)] := fun p hp => N p (hsub p hp)
  have ne1 := tab_ne N h37 hc2 hoc2 hft2 tab3
  have ne2 := tab_ne N h30 hc2 hoc2 hft2 tab3
  have ne3 := tab_ne N h30 hc1 hoc1 hft1 tab3
  have ne4 := tab_ne N h37 hc1 hoc1 hft1 tab3
  refine wpAny_call ?_
  k_dflt (refine' code_defF ?k1 ?k2 ?k3 Nl ?k5 ?kA ?kF ?kK ?k6 ?k7 ?k8 ?k9 ?kB ?_ ?c2 ?c3 ?c4 ?c5; (case kA => exact rfl); (case kF => exact rfl); (case kK => assumption); (case k1 => k_asm); (case k2 => k_asm); (case k3 => k_asm);  (case k5 => k_asm); (case k6 => k_is); (case k7 => k_is); (case k8 => ktr_room); (case k9 => exact BindsTo.of_eq rfl); (case c5 => decide); (case kB => exact locs rfl); (case c2 => exact rfl); (case c3 => exact rfl); (case c4 => exact rfl); k_whole; intro g' L' h' FG' F' N' B' X' T' l1 hg'; (try k_lt l1); (try dsimp only); (try k_fold))
  clear Nl
  k_with_none
  have hC30' : CodeHd g' 34 30 := hC30.keeps (Fr.keep FG')
  have hC37' : CodeHd g' 41 37 := hC37.keeps (Fr.keep FG')
  have hbits := bits4 hb1 hb2
  k_with "=call ref" => (k_here; (with_reducible show wpAny _ _ (call (Value.ref 35) _) _ _ _); k_dflt (refine' i2d2_use ?c1Zh ?c2Zh ?c3Zh ?c4Zh ?BZh ?FZh ?XZh ?NZh ?TZh ?KZh ?CZh ?hUZh ?hcZh ?hocZh ?hftZh ?DZh ?_; (case BZh => k_asm); (case FZh => k_asm); (case XZh => k_asm); (case NZh => k_asm); (case TZh => k_asm); (case KZh => first | exact rfl | assumption); (case CZh => assumption); (case hUZh => k_mem); (case hcZh => k_mem); (case hocZh => assumption); (case hftZh => assumption); (case DZh => ktr_room)); (case c1Zh => omega); (case c2Zh => omega); (case c3Zh => omega); (case c4Zh => omega); (intro D9Z us9Z kk9Z h9Z tk9Z hI9Z F9Z N9Z hne9Z); (replace hne9Z := allNe_of hne9Z); (simp only [AllNe, and_true] at hne9Z); (try dsimp only at N9Z); (try dsimp only); (try k_fold))
  k_with "=call ref" => (k_here; (with_reducible show wpAny _ _ (call (Value.ref 42) _) _ _ _); k_dflt (refine' d2i2_use ?c1Zh ?c2Zh ?c3Zh ?c4Zh ?BZh ?FZh ?XZh ?NZh ?TZh ?KZh ?CZh ?hUZh ?hcZh ?hocZh ?hftZh ?hmZh ?IZh ?DZh ?_; (case BZh => k_asm); (case FZh => k_asm); (case XZh => k_asm); (case NZh => k_asm); (case TZh => k_asm); (case KZh => first | exact rfl | assumption); (case CZh => assumption); (case hUZh => k_mem); (case hcZh => k_mem); (case hocZh => assumption); (case hftZh => assumption); (case hmZh => k_mem); (case IZh => first | with_reducible assumption | l_ints); (case DZh => ktr_room)); (case c1Zh => first | assumption | k_extra "side"); (case c2Zh => omega); (case c3Zh => omega); (case c4Zh => first | assumption | k_extra "side"); (intro v9Z t9Z h9Z tk9Z hv9Z F9Z N9Z); (try dsimp only at N9Z); (try dsimp only); (try k_fold))
  k_with "=binaryOp LShift int int" => (k_here; k_dflt (refine' lshift_int_small ?aZh ?bZh ?cZh ?_; (case aZh => omega); (case bZh => omega); (case cZh => omega)))
  k_with "=call builtin:list.append" => (k_here; k_dflt (refine' append_U ?FZh ?NZh ?UZh ?iZh ?zZh ?_; (case FZh => k_asm); (case NZh => k_asm); (case UZh => k_updF); (case iZh => first | with_reducible assumption | exact IntsAre.nil | l_ints); (case zZh => first | omega | ((simp only [List.length_append, List.length_cons, List.length_nil, List.length_set, List.length_dropLast, List.length_replicate]); omega) | k_extra "side")); intro hZ' usZ' nZ' FZ' NZ' hIZ'; (try dsimp only at NZ'); (try k_sweep))
  k_with "=call ref" => (k_here; (with_reducible show wpAny _ _ (call (Value.ref 21) _) _ _ _); refine wpAny_call ?_; k_dflt (refine' code_def ?k1Zh ?k2Zh ?k3Zh ?k4Zh ?k5Zh ?kAZh ?kFZh ?kKZh ?k6Zh ?k7Zh ?k8Zh ?k9Zh ?kBZh ?_ ?c2Zh ?c3Zh ?c4Zh ?c5Zh; (case kAZh => exact rfl); (case kFZh => exact rfl); (case kKZh => exact rfl); (case k1Zh => k_asm); (case k2Zh => k_asm); (case k3Zh => k_asm); (case k4Zh => k_asm); (case k5Zh => k_asm); (case k6Zh => k_is); (case k7Zh => k_is); (case k8Zh => ktr_room); (case k9Zh => exact BindsTo.of_eq rfl); (case c5Zh => decide); (case kBZh => exact locs rfl); (case c2Zh => exact rfl); (case c3Zh => exact rfl); (case c4Zh => exact rfl); k_whole; intro gZ' LZ' hZ' FGZ' FZ' NZ' BZ' XZ' TZ'; (try dsimp only); (try k_lift BZ'); (try k_fold)))
  k_with "=call builtin:divmod" => (k_here; k_dflt (refine' divmod_U ?FZh ?NZh ?aZh ?bZh ?cZh ?dZh ?_; (case FZh => k_asm); (case NZh => k_asm); (case aZh => omega); (case bZh => omega); (case cZh => omega); (case dZh => omega)); intro DZ' ntZ' t1Z' t2Z' hZ' tkZ' FZ' NZ' l1Z; (try k_lt l1Z); (try k_sweep))
  k_with "=call builtin:list.reverse" => (k_here; k_dflt (refine' reverse_U ?FZh ?NZh ?UZh ?iZh ?zZh ?_; (case FZh => k_asm); (case NZh => k_asm); (case UZh => k_updF); (case iZh => first | with_reducible assumption | exact IntsAre.nil | l_ints); (case zZh => omega)); intro hZ' usZ' nZ' FZ' NZ' hIZ'; (try dsimp only at NZ'); (try k_sweep))
  k_with "=InvEndN" => k_dflt kst_close
  k_steps
  · ((rename Fr g' L' _ _ => lF'); (rename News g' L' _ _ => lN'); (rename IntsAre _ (i2dF _ _) => lI);
      (refine dm_loop "r" ["q_digit"] b (Builtin.Int.intBits b) rfl lF' lN' lI .nil (by k_ne) (by k_ne) (by k_ne) ?hrest rfl hb1 ?_ ?_);
      (case hrest => ((repeat (refine List.forall_mem_cons.mpr ⟨⟨by k_ne, by k_ne⟩, ?_⟩)); exact List.forall_mem_nil _)); (all_goals clear lF' lN'))
    · intro us9 qs9 kn9 r9 tr9 pre post d9 t9 u9 h9 tk9 own9 e9 hd9 kOff hI9 hW9 kFr kNews
      dsimp only [kstB] at kFr
      simp only [List.cons_append, List.nil_append] at kNews
      simp only [List.map_cons, List.map_nil] at kOff
      have hd8 := (i2dF_is h1 h2 hbits.1 hbits.2).2 d9 hd9
      have hv9 := hW9.val hb1 hb2 hbits.1 hbits.2 hd8.1 hd8.2
      have hb9 := bits300 hv9.1 hv9.2
      have hl9 := hW9.2.1
      have hr9 := hW9.2.2.2
      have hp9 : pre.length ≤ 8 := by
        have e8 := congrArg List.length e9
        have e7 := (i2dF_is h1 h2 hbits.1 hbits.2).1
        rw [List.length_reverse, List.length_append, List.length_cons] at e8
        omega
      k_with "state" => exact hW9.next hb1 hb2 hbits.1 hbits.2 hd8.1 hd8.2
      try k_fold
      k_steps
    · intro us9 qs9 kn9 r9 tr9 u9 h9 tk9 hI9 hW9 kFr kNews
      dsimp only [kstB] at kFr
      have hl8 : qs9.length ≤ 8 := by
        have e7 := (i2dF_is h1 h2 hbits.1 hbits.2).1
        have e8 := hW9.2.1
        rw [List.length_reverse] at e8
        omega
      have hq1 : qs9.reverse.length ≤ 8 := by rw [List.length_reverse]; exact hl8
      have hq2 : ∀ d ∈ qs9.reverse, d.natAbs ≤ 300 := fun d hd => hW9.2.2.1 d (List.mem_reverse.mp hd)
      have hdm := dmF_is h1 h2 hb1 hb2
      rw [dmF, hW9.fin] at hdm
      have hdm1 := congrArg Prod.fst hdm
      have hdm2 := congrArg Prod.snd hdm
      clear hdm
      dsimp only at hdm1 hdm2
      try k_fold
      k_steps
      intro hfr
      show Q (Value.ref _) _
      rw [← (by assumption : _ = (if 0 < qs9.reverse.length then valD qs9.reverse (Builtin.Int.intBits b) 0 qs9.reverse.length else 0))] at hdm1
      rw [← hdm1, ← hdm2] at ret
      ((rename News h₀ L _ _ => lN); (rename News g' L' _ _ => lG))
      exact ret _ _ _ _ _ _ (by assumption) (news_add lN (.head _) (news_same N hsub hfr (fun p hp => lN p (.tail _ (.tail _ hp))))) (ne_newS hg' N lG (.head _) (by simp only [List.map_cons, List.map_nil, List.mem_cons, List.not_mem_nil, or_false, not_or]; exact ⟨by k_ne, by k_ne, by k_ne, by k_ne⟩))
end
open PySem PySem.W PySem.Calls PyProof.Rows
set_option Elab.async false
set_option maxRecDepth 100000
set_option maxHeartbeats 8000000
set_option linter.unusedVariables false
section
variable {w : World} {loose : List Str} {mean : ExcName → Option Value} {mg mb : Str → Option Value} {dp un : Nat} {gd : Option (List Code)} {cn : Str} {cs : Scope} {a : Addr} {ccd : Value} {cl : List (Str × Addr)} {outer : List Env} {A₀ : Around} {base h₀ : Heap} {L : Addr} {m : Str → Option Value}
variable {news : List (Addr × Obj)} {g : Obj → List (Addr × Obj)} {s : Shared} {Q E : Value → Shared → Prop}
theorem dmp1_use {x b : Int} {ta tb : Tok} {c2 : Addr} {oc2 : Obj} {fvs2 : Array Value} {ft2 : Tok} (h1 : 0 ≤ x) (h2 : x < 256) (hb1 : 1 ≤ b) (hb2 : b ≤ 4) (B : Below A₀ base outer h₀) (F : Fr h₀ L s.heap m) (X : (hd.heap_1 w.params).In h₀) (N : News h₀ L s.heap news) (T : Top topProg loose mean mg mb h₀) (hs : cs.kind = .function) (hC30 : CodeHd h₀ 34 30) (hC37 : CodeHd h₀ 41 37)
    (U : UpdF 30 (tabObj #[]) news g) (h37 : (37, tabObj #[rawInt 47, rawInt 4, .ref c2]) ∈ news) (hc2 : (c2, oc2) ∈ news) (hoc2 : oc2.data = .fields fvs2) (hft2 : fvs2[1]? = some (.str (Str.ofString "_digits2int.<locals>.inner") ft2)) (hd : dp + 30 < recursionLimit)
    (ret : ∀ D nt q r t1 t2 h' tk' c1 oc1 fvs1 ft1, q = x / b → r = x % b → oc1.data = .fields fvs1 → fvs1[1]? = some (.str (Str.ofString "_int2digits.<locals>.inner") ft1) → Fr h₀ L h' m → News h₀ L h' ((D, { cls := .type "tuple", data := .seq #[.int q t1, .int r t2] nt }) :: (c1, oc1) :: g (tabObj #[rawInt 32, rawInt 4, .ref c1])) → (∀ p ∈ news, p.1 ≠ D ∧ p.1 ≠ c1) → Q (.ref D) { s with heap := h', toks := tk' }) :
    wpAny (model PySem.Challenge.rw_op0106_01.row.prog w) (ktrTop dp un gd cn cs L a ccd cl outer) (call (.ref 49) [.int x ta, .int b tb]) Q E s :=
  dmp1_c w x b h1 h2 hb1 hb2 _ _ _ _ _ _ _ _ _ _ _ _ _ _ _ _ _ _ _ _ _ _ _ _ _ _ _ _ _ B F X N T hs hC30 hC37 U h37 hc2 hoc2 hft2 hd fun D nt t1 t2 h' tk' c1 oc1 fvs1 ft1 => ret D nt _ _ t1 t2 h' tk' c1 oc1 fvs1 ft1 rfl rfl
theorem dmp2_use {x b : Int} {ta tb : Tok} {c2 : Addr} {oc2 : Obj} {fvs2 : Array Value} {ft2 : Tok} {c1 : Addr} {oc1 : Obj} {fvs1 : Array Value} {ft1 : Tok} (h1 : 0 ≤ x) (h2 : x < 256) (hb1 : 1 ≤ b) (hb2 : b ≤ 4) (B : Below A₀ base outer h₀) (F : Fr h₀ L s.heap m) (X : (hd.heap_1 w.params).In h₀) (N : News h₀ L s.heap news) (T : Top topProg loose mean mg mb h₀) (hs : cs.kind = .function) (hC30 : CodeHd h₀ 34 30) (hC37 : CodeHd h₀ 41 37)
    (h30 : (30, tabObj #[rawInt 32, rawInt 4, .ref c1]) ∈ news) (hc1 : (c1, oc1) ∈ news) (hoc1 : oc1.data = .fields fvs1) (hft1 : fvs1[1]? = some (.str (Str.ofString "_int2digits.<locals>.inner") ft1)) (h37 : (37, tabObj #[rawInt 47, rawInt 4, .ref c2]) ∈ news) (hc2 : (c2, oc2) ∈ news) (hoc2 : oc2.data = .fields fvs2) (hft2 : fvs2[1]? = some (.str (Str.ofString "_digits2int.<locals>.inner") ft2)) (hd : dp + 30 < recursionLimit)
    (ret : ∀ D nt q r t1 t2 h' tk', q = x / b → r = x % b → Fr h₀ L h' m → News h₀ L h' ((D, { cls := .type "tuple", data := .seq #[.int q t1, .int r t2] nt }) :: news) → (∀ p ∈ news, p.1 ≠ D) → Q (.ref D) { s with heap := h', toks := tk' }) :
    wpAny (model PySem.Challenge.rw_op0106_01.row.prog w) (ktrTop dp un gd cn cs L a ccd cl outer) (call (.ref 49) [.int x ta, .int b tb]) Q E s :=
  dmp2_c w x b h1 h2 hb1 hb2 _ _ _ _ _ _ _ _ _ _ _ _ _ _ _ _ _ _ _ _ _ _ _ _ _ _ _ _ _ _ _ _ B F X N T hs hC30 hC37 h30 hc1 hoc1 hft1 h37 hc2 hoc2 hft2 hd fun D nt t1 t2 h' tk' => ret D nt _ _ t1 t2 h' tk' rfl rfl
end
open PySem PySem.W PySem.Calls PyProof.Rows
set_option Elab.async false
set_option maxRecDepth 100000
set_option maxHeartbeats 8000000
set_option linter.unusedVariables false
def Idv1 (w : World) (x b : Int) : Prop :=
  ∀ (loose : List Str) (mean : ExcName → Option Value) (mg mb : Str → Option Value) (dp un : Nat) (gd : Option (List Code)) (cn : Str) (cs : Scope) (a : Addr) (ccd : Value) (cl : List (Str × Addr)) (outer : List Env) (A₀ : Around) (base h₀ : Heap) (L : Addr) (m : Str → Option Value)
    (news : List (Addr × Obj)) (g : Obj → List (Addr × Obj)) (s : Shared) (ta tb : Tok) (c2 : Addr) (oc2 : Obj) (fvs2 : Array Value) (ft2 : Tok) (Q E : Value → Shared → Prop),
    Below A₀ base outer h₀ → Fr h₀ L s.heap m → (hd.heap_1 w.params).In h₀ → News h₀ L s.heap news → Top topProg loose mean mg mb h₀ → cs.kind = .function → CodeHd h₀ 34 30 → CodeHd h₀ 41 37 → UpdF 30 (tabObj #[]) news g → (37, tabObj #[rawInt 47, rawInt 4, .ref c2]) ∈ news → (c2, oc2) ∈ news → oc2.data = .fields fvs2 → fvs2[1]? = some (.str (Str.ofString "_digits2int.<locals>.inner") ft2) → dp + 40 < recursionLimit →
    (∀ D nt t1 t2 h' tk' c1 oc1 fvs1 ft1, oc1.data = .fields fvs1 → fvs1[1]? = some (.str (Str.ofString "_int2digits.<locals>.inner") ft1) → Fr h₀ L h' m → News h₀ L h' ((D, { cls := .type "tuple", data := .seq #[.int (-x / -b) t1, .int (-(-x % -b)) t2] nt }) :: (c1, oc1) :: g (tabObj #[rawInt 32, rawInt 4, .ref c1])) → (∀ p ∈ news, p.1 ≠ D ∧ p.1 ≠ c1) → Q (.ref D) { s with heap := h', toks := tk' }) →
    wpAny (model PySem.Challenge.rw_op0106_01.row.prog w) (ktrTop dp un gd cn cs L a ccd cl outer) (call (.ref 56) [.int x ta, .int b tb]) Q E s
section
theorem idv1_c (w : World) (x b : Int) (h1 : x ≤ 0) (h2 : -256 < x) (hb1 : b ≤ -1) (hb2 : -4 ≤ b) : Idv1 w x b := by
  w_on
  unfold Idv1
  k_fill
  intro loose mean mg mb dp un gd cn cs a ccd cl outer A₀ base h₀ L m news g s ta tb c2 oc2 fvs2 ft2 Q E B F X N T hk hC30 hC37 U h37 hc2 hoc2 hft2 hd ret
  have hsub : ∀ p ∈ [(30, tabObj #[]), (37, tabObj #[rawInt 47, rawInt 4, .ref c2]), (c2, oc2)], p ∈ news := fun p hp => by
    rcases List.mem_cons.mp hp with rfl | hp
    · obtain ⟨pre, post, rfl, _⟩ := U.split
      exact List.mem_append_right _ (.head _)
    · rcases List.mem_cons.mp hp with rfl | hp
      · exact h37
      · rcases List.mem_singleton.mp hp with rfl
        exact hc2
  have Nl : News h₀ L s.heap [(30, tabObj #[]), (37, tabObj #[rawInt 47, rawInt 4, .ref c2]), (c2, oc2)] := fun p hp => N p (hsub p hp)
  have ne1 := tab_ne N h37 hc2 hoc2 hft2 tab3
  have ne2 := tab_ne N (hsub _ (.head _)) hc2 hoc2 hft2 tab0
  refine wpAny_call ?_
  k_dflt (refine' code_defF ?k1 ?k2 ?k3 Nl ?k5 ?kA ?kF ?kK ?k6 ?k7 ?k8 ?k9 ?kB ?_ ?c2 ?c3 ?c4 ?c5; (case kA => exact rfl); (case kF => exact rfl); (case kK => assumption); (case k1 => k_asm); (case k2 => k_asm); (case k3 => k_asm);  (case k5 => k_asm); (case k6 => k_is); (case k7 => k_is); (case k8 => ktr_room); (case k9 => exact BindsTo.of_eq rfl); (case c5 => decide); (case kB => exact locs rfl); (case c2 => exact rfl); (case c3 => exact rfl); (case c4 => exact rfl); k_whole; intro g' L' h' FG' F' N' B' X' T' l1 hg'; (try k_lt l1); (try dsimp only); (try k_fold))
  clear Nl
  k_with_none
  have hC30' : CodeHd g' 34 30 := hC30.keeps (Fr.keep FG')
  have hC37' : CodeHd g' 41 37 := hC37.keeps (Fr.keep FG')
  k_with "=call ref" => (k_here; (with_reducible show wpAny _ _ (call (Value.ref 49) _) _ _ _); k_dflt (refine' dmp1_use ?c1Zh ?c2Zh ?c3Zh ?c4Zh ?BZh ?FZh ?XZh ?NZh ?TZh ?KZh ?CZh ?C'Zh ?UZh ?h37Zh ?hc2Zh ?hoc2Zh ?hft2Zh ?DZh ?_; (case BZh => k_asm); (case FZh => k_asm); (case XZh => k_asm); (case NZh => k_asm); (case TZh => k_asm); (case KZh => first | exact rfl | assumption); (case CZh => assumption); (case C'Zh => assumption); (case UZh => k_updF); (case h37Zh => k_mem); (case hc2Zh => k_mem); (case hoc2Zh => assumption); (case hft2Zh => assumption); (case DZh => ktr_room)); (case c1Zh => omega); (case c2Zh => omega); (case c3Zh => omega); (case c4Zh => omega); (intro D9Z nt9Z q9Z r9Z t1Z t2Z h9Z tk9Z c9Z oc9Z fvs9Z ft9Z hq9Z hr9Z hoc9Z hft9Z F9Z N9Z hne9Z); (replace hne9Z := allNe_2 hne9Z); (simp only [AllNe, and_true] at hne9Z); (try dsimp only at N9Z); (try dsimp only); (try k_fold))
  k_with "=call ref" => (k_here; (with_reducible show wpAny _ _ (call (Value.ref 56) _) _ _ _); refine wpAny_call ?_; k_dflt (refine' code_def ?k1Zh ?k2Zh ?k3Zh ?k4Zh ?k5Zh ?kAZh ?kFZh ?kKZh ?k6Zh ?k7Zh ?k8Zh ?k9Zh ?kBZh ?_ ?c2Zh ?c3Zh ?c4Zh ?c5Zh; (case kAZh => exact rfl); (case kFZh => exact rfl); (case kKZh => exact rfl); (case k1Zh => k_asm); (case k2Zh => k_asm); (case k3Zh => k_asm); (case k4Zh => k_asm); (case k5Zh => k_asm); (case k6Zh => k_is); (case k7Zh => k_is); (case k8Zh => ktr_room); (case k9Zh => exact BindsTo.of_eq rfl); (case c5Zh => decide); (case kBZh => exact locs rfl); (case c2Zh => exact rfl); (case c3Zh => exact rfl); (case c4Zh => exact rfl); k_whole; intro gZ' LZ' hZ' FGZ' FZ' NZ' BZ' XZ' TZ'; (try dsimp only); (have hC30' : CodeHd gZ' 34 30 := CodeHd.keeps (by assumption) (Fr.keep FGZ')); (have hC37' : CodeHd gZ' 41 37 := CodeHd.keeps (by assumption) (Fr.keep FGZ')); (try k_lift BZ'); (try k_fold)))
  k_steps
  · exfalso; omega
  · exfalso; omega
  · intro hfr
    show Q (Value.ref _) _
    rw [← (by assumption : _ = -x / -b), ← (by assumption : _ = -x % -b)] at ret
    ((rename News h₀ L _ _ => lN); (rename News g' L' _ _ => lG))
    exact ret _ _ _ _ _ _ _ _ _ _ (by assumption) (by assumption) (by assumption) (news_add lN (.head _) (news_add lN (.tail _ (.tail _ (.head _))) (news_frameS N U hsub hfr (by k_updF) (fun p hp => lN p (.tail _ (.tail _ (.tail _ hp))))))) (fun p hp => ⟨ne_newS hg' N lG (.head _) (by simp only [List.map_cons, List.map_nil, List.mem_cons, List.not_mem_nil, or_false, not_or]; exact ⟨by k_ne, by k_ne, by k_ne⟩) p hp, ne_newS hg' N lG (.tail _ (.tail _ (.head _))) (by simp only [List.map_cons, List.map_nil, List.mem_cons, List.not_mem_nil, or_false, not_or]; exact ⟨by k_ne, by k_ne, by k_ne⟩) p hp⟩)
end
open PySem PySem.W PySem.Calls PyProof.Rows
set_option Elab.async false
set_option maxRecDepth 100000
set_option maxHeartbeats 8000000
set_option linter.unusedVariables false
def Idv2 (w : World) (x b : Int) : Prop :=
  ∀ (loose : List Str) (mean : ExcName → Option Value) (mg mb : Str → Option Value) (dp un : Nat) (gd : Option (List Code)) (cn : Str) (cs : Scope) (a : Addr) (ccd : Value) (cl : List (Str × Addr)) (outer : List Env) (A₀ : Around) (base h₀ : Heap) (L : Addr) (m : Str → Option Value)
    (news : List (Addr × Obj)) (s : Shared) (ta tb : Tok) (c2 : Addr) (oc2 : Obj) (fvs2 : Array Value) (ft2 : Tok) (c1 : Addr) (oc1 : Obj) (fvs1 : Array Value) (ft1 : Tok) (Q E : Value → Shared → Prop),
    Below A₀ base outer h₀ → Fr h₀ L s.heap m → (hd.heap_1 w.params).In h₀ → News h₀ L s.heap news → Top topProg loose mean mg mb h₀ → cs.kind = .function → CodeHd h₀ 34 30 → CodeHd h₀ 41 37 → (30, tabObj #[rawInt 32, rawInt 4, .ref c1]) ∈ news → (c1, oc1) ∈ news → oc1.data = .fields fvs1 → fvs1[1]? = some (.str (Str.ofString "_int2digits.<locals>.inner") ft1) → (37, tabObj #[rawInt 47, rawInt 4, .ref c2]) ∈ news → (c2, oc2) ∈ news → oc2.data = .fields fvs2 → fvs2[1]? = some (.str (Str.ofString "_digits2int.<locals>.inner") ft2) → dp + 40 < recursionLimit →
    (∀ D nt t1 t2 h' tk', Fr h₀ L h' m → News h₀ L h' ((D, { cls := .type "tuple", data := .seq #[.int (-x / -b) t1, .int (-(-x % -b)) t2] nt }) :: news) → (∀ p ∈ news, p.1 ≠ D) → Q (.ref D) { s with heap := h', toks := tk' }) →
    wpAny (model PySem.Challenge.rw_op0106_01.row.prog w) (ktrTop dp un gd cn cs L a ccd cl outer) (call (.ref 56) [.int x ta, .int b tb]) Q E s
section
theorem idv2_c (w : World) (x b : Int) (h1 : x ≤ 0) (h2 : -256 < x) (hb1 : b ≤ -1) (hb2 : -4 ≤ b) : Idv2 w x b := by
  w_on
  unfold Idv2
  k_fill
  intro loose mean mg mb dp un gd cn cs a ccd cl outer A₀ base h₀ L m news s ta tb c2 oc2 fvs2 ft2 c1 oc1 fvs1 ft1 Q E B F X N T hk hC30 hC37 h30 hc1 hoc1 hft1 h37 hc2 hoc2 hft2 hd ret
  have hsub : ∀ p ∈ [(30, tabObj #[rawInt 32, rawInt 4, .ref c1]), (c1, oc1), (37, tabObj #[rawInt 47, rawInt 4, .ref c2]), (c2, oc2)], p ∈ news := fun p hp => by
    rcases List.mem_cons.mp hp with rfl | hp
    · exact h30
    · rcases List.mem_cons.mp hp with rfl | hp
      · exact hc1
      · rcases List.mem_cons.mp hp with rfl | hp
        · exact h37
        · rcases List.mem_singleton.mp hp with rfl
          exact hc2
  have Nl : News h₀ L s.heap [(30, tabObj #[rawInt 32, rawInt 4, .ref c1]), (c1, oc1), (37, tabObj #[rawInt 47, rawInt 4, .ref c2]), (c2, oc2)] := fun p hp => N p (hsub p hp)
  have ne1 := tab_ne N h37 hc2 hoc2 hft2 tab3
  have ne2 := tab_ne N h30 hc2 hoc2 hft2 tab3
  have ne3 := tab_ne N h30 hc1 hoc1 hft1 tab3
  have ne4 := tab_ne N h37 hc1 hoc1 hft1 tab3
  refine wpAny_call ?_
  k_dflt (refine' code_defF ?k1 ?k2 ?k3 Nl ?k5 ?kA ?kF ?kK ?k6 ?k7 ?k8 ?k9 ?kB ?_ ?c2 ?c3 ?c4 ?c5; (case kA => exact rfl); (case kF => exact rfl); (case kK => assumption); (case k1 => k_asm); (case k2 => k_asm); (case k3 => k_asm);  (case k5 => k_asm); (case k6 => k_is); (case k7 => k_is); (case k8 => ktr_room); (case k9 => exact BindsTo.of_eq rfl); (case c5 => decide); (case kB => exact locs rfl); (case c2 => exact rfl); (case c3 => exact rfl); (case c4 => exact rfl); k_whole; intro g' L' h' FG' F' N' B' X' T' l1 hg'; (try k_lt l1); (try dsimp only); (try k_fold))
  clear Nl
  k_with_none
  have hC30' : CodeHd g' 34 30 := hC30.keeps (Fr.keep FG')
  have hC37' : CodeHd g' 41 37 := hC37.keeps (Fr.keep FG')
  k_with "=call ref" => (k_here; (with_reducible show wpAny _ _ (call (Value.ref 49) _) _ _ _); k_dflt (refine' dmp2_use ?c1Zh ?c2Zh ?c3Zh ?c4Zh ?BZh ?FZh ?XZh ?NZh ?TZh ?KZh ?CZh ?C'Zh ?h30Zh ?hc1Zh ?hoc1Zh ?hft1Zh ?h37Zh ?hc2Zh ?hoc2Zh ?hft2Zh ?DZh ?_; (case BZh => k_asm); (case FZh => k_asm); (case XZh => k_asm); (case NZh => k_asm); (case TZh => k_asm); (case KZh => first | exact rfl | assumption); (case CZh => assumption); (case C'Zh => assumption); (case h30Zh => k_mem); (case hc1Zh => k_mem); (case hoc1Zh => assumption); (case hft1Zh => assumption); (case h37Zh => k_mem); (case hc2Zh => k_mem); (case hoc2Zh => assumption); (case hft2Zh => assumption); (case DZh => ktr_room)); (case c1Zh => omega); (case c2Zh => omega); (case c3Zh => omega); (case c4Zh => omega); (intro D9Z nt9Z q9Z r9Z t1Z t2Z h9Z tk9Z hq9Z hr9Z F9Z N9Z hne9Z); (replace hne9Z := allNe_of hne9Z); (simp only [AllNe, and_true] at hne9Z); (try dsimp only at N9Z); (try dsimp only); (try k_fold))
  k_with "=call ref" => (k_here; (with_reducible show wpAny _ _ (call (Value.ref 56) _) _ _ _); refine wpAny_call ?_; k_dflt (refine' code_def ?k1Zh ?k2Zh ?k3Zh ?k4Zh ?k5Zh ?kAZh ?kFZh ?kKZh ?k6Zh ?k7Zh ?k8Zh ?k9Zh ?kBZh ?_ ?c2Zh ?c3Zh ?c4Zh ?c5Zh; (case kAZh => exact rfl); (case kFZh => exact rfl); (case kKZh => exact rfl); (case k1Zh => k_asm); (case k2Zh => k_asm); (case k3Zh => k_asm); (case k4Zh => k_asm); (case k5Zh => k_asm); (case k6Zh => k_is); (case k7Zh => k_is); (case k8Zh => ktr_room); (case k9Zh => exact BindsTo.of_eq rfl); (case c5Zh => decide); (case kBZh => exact locs rfl); (case c2Zh => exact rfl); (case c3Zh => exact rfl); (case c4Zh => exact rfl); k_whole; intro gZ' LZ' hZ' FGZ' FZ' NZ' BZ' XZ' TZ'; (try dsimp only); (have hC30' : CodeHd gZ' 34 30 := CodeHd.keeps (by assumption) (Fr.keep FGZ')); (have hC37' : CodeHd gZ' 41 37 := CodeHd.keeps (by assumption) (Fr.keep FGZ')); (try k_lift BZ'); (try k_fold)))
  k_steps
  · exfalso; omega
  · exfalso; omega
  · intro hfr
    show Q (Value.ref _) _
    rw [← (by assumption : _ = -x / -b), ← (by assumption : _ = -x % -b)] at ret
    ((rename News h₀ L _ _ => lN); (rename News g' L' _ _ => lG))
    exact ret _ _ _ _ _ _ (by assumption) (news_add lN (.head _) (news_same N hsub hfr (fun p hp => lN p (.tail _ (.tail _ hp))))) (ne_newS hg' N lG (.head _) (by simp only [List.map_cons, List.map_nil, List.mem_cons, List.not_mem_nil, or_false, not_or]; exact ⟨by k_ne, by k_ne, by k_ne, by k_ne⟩))
end
open PySem PySem.W PySem.Calls PyProof.Rows
set_option Elab.async false
set_option maxRecDepth 100000
set_option linter.unusedVariables false
theorem from_T {prog : Program} {w : World} {A : Around} {E : Value → Shared → Prop} {s : Shared} {h₀ : Heap} {L l : Addr} {m : Str → Option Value} {news : List (Addr × Obj)} {value slice : PySem.Expr} {vs : List Value} {ns : List Int} {vl vu : Value} {x : Int} {Q : Value → Shared → Prop}
    (F : Fr h₀ L s.heap m) (N : News h₀ L s.heap news) (hl : s.heap.IsList l vs.toArray) (pl : IsPart vl (some x)) (pu : IsPart vu none) (hi : IntsAre vs ns) (h0 : 0 ≤ x) (hz : ns.length ≤ 1000000)
    (h : ∀ D ws h', Fr h₀ L h' m → News h₀ L h' ((D, listOf (ws : List Value).toArray 0) :: news) → (∀ p ∈ news, p.1 < D) → IntsAre ws (ns.drop x.toNat) → Q (.ref D) { s with heap := h' })
    (hs : subscripted slice false (.ref l) (.ref s.heap.objs.size) = operate [.ref s.heap.objs.size, .ref l] (getItem (.ref l) (.ref s.heap.objs.size))) :
    wpAny (model prog w) A (subscriptTail value slice (.ref l) (.ref s.heap.objs.size)) Q E { s with heap := s.heap.push { cls := .type "slice", data := .fields #[vl, vu, .none] } } := by
  have h1 := hi.length
  refine tail_any (Heap.IsList.typeIs (s := { s with heap := s.heap.push { cls := .type "slice", data := .fields #[vl, vu, .none] } }) (hl.push _)) list_getitem_lookup
    (wpAny_getItem_list_slice (hl.push _) (Heap.IsSliceOf.new ..) pl pu .none (by simp) ?_ (by rw [sizeLine_eq, List.size_toArray]; omega)) hs
  have N1 := News.push (F.push { cls := .type "slice", data := .fields #[vl, vu, .none] }) (N.grown fun _ _ e => Heap.get?_push_of_some _ e) { cls := .type "list", data := .seq (slicePick vs.toArray (some x) none none) }
  rw [Heap.size_push] at N1
  show Q (.ref (s.heap.push _).objs.size) _
  rw [Heap.size_push]
  refine h _ (slicePick vs.toArray (some x) none none).toList _ ((F.push _).push _) ?_ (fun p hp => Nat.lt_succ_of_lt (Heap.lt_size (N p hp).1)) (kmk_from hi h0)
  rw [Array.toArray_toList]
  exact N1
theorem add_T {prog : Program} {w : World} {A : Around} {E : Value → Shared → Prop} {s : Shared} {h₀ : Heap} {L a b : Addr} {m : Str → Option Value} {news : List (Addr × Obj)} {xs ys : List Value} {ns : List Int} {n1 n2 : Nat} {k : Int} {Q : Value → Shared → Prop}
    (F : Fr h₀ L s.heap m) (N : News h₀ L s.heap news) (hx : IntsAre xs (ns.take 7)) (hy : IntsAre ys (([1, 2, 0, 2, 2, 1, 0] : List Int).drop k.toNat)) (ha : (a, listOf xs.toArray n1) ∈ news) (hb : (b, listOf ys.toArray n2) ∈ news) (hk : k = (ns.take 7).length) (hlay : PyData.layable0 (.list (ns.map .int)) = true)
    (h : ∀ D us T h', T.length = 7 → (∀ j, Builtin.Int.intBits (T.getD j 0) ≤ 1048576) → Fr h₀ L h' m → News h₀ L h' ((D, listOf (us : List Value).toArray 0) :: news) → (∀ p ∈ news, p.1 < D) → IntsAre us T → Q (.ref D) { s with heap := h' }) :
    wpAny (model prog w) A (binaryOp .Add (.ref a) (.ref b)) Q E s := by
  have hl : (ns.take 7 ++ ([1, 2, 0, 2, 2, 1, 0] : List Int).drop k.toNat).length = 7 := by
    rw [List.length_append, List.length_drop, hk]
    have : (ns.take 7).length ≤ 7 := List.length_take_le ..
    simp only [List.length_cons, List.length_nil]
    omega
  refine add_lists_ints (vs := xs) (ws := ys) F N ⟨_, (N _ ha).1, rfl, n1, rfl⟩ ⟨_, (N _ hb).1, rfl, n2, rfl⟩ hx hy (fun h' F' N' hI' => h _ _ _ h' hl (fun j => ?_) F' N' (fun p hp => Heap.lt_size (N p hp).1) hI') (by rw [List.length_append] at hl; rw [hl, sizeLine_eq]; omega)
  have hlit : ∀ d : Int, d = 0 ∨ d = 1 ∨ d = 2 → Builtin.Int.intBits d ≤ 1048576 := fun d hd => by rcases hd with rfl | rfl | rfl <;> decide +kernel
  by_cases hj : j < (ns.take 7 ++ ([1, 2, 0, 2, 2, 1, 0] : List Int).drop k.toNat).length
  · rw [List.getD_eq_getElem?_getD, List.getElem?_eq_getElem hj]
    show Builtin.Int.intBits (_)[j] ≤ _
    have hm := List.getElem_mem hj
    rcases List.mem_append.mp hm with q | q
    · exact intBits_le_of_item (List.mem_of_mem_take q) hlay
    · have q' := List.mem_of_mem_drop q
      refine hlit _ ?_
      simp only [List.mem_cons, List.not_mem_nil, or_false] at q'
      omega
  · rw [List.getD_eq_getElem?_getD, List.getElem?_eq_none (by omega)]
    exact hlit 0 (.inl rfl)
open PySem PySem.W PySem.Calls PyProof.Rows
set_option Elab.async false
set_option maxRecDepth 100000
set_option maxHeartbeats 8000000
set_option linter.unusedVariables false
def NotesC (w : World) : Prop :=
  ∀ (loose : List Str) (mean : ExcName → Option Value) (mg mb : Str → Option Value) (dp un : Nat) (gd : Option (List Code)) (cn : Str) (cs : Scope) (a : Addr) (ccd : Value) (cl : List (Str × Addr)) (outer : List Env) (A₀ : Around) (base h₀ : Heap) (L : Addr) (m : Str → Option Value)
    (news : List (Addr × Obj)) (s : Shared) (l : Addr) (vs : List Value) (ns : List Int) (Q E : Value → Shared → Prop),
    Below A₀ base outer h₀ → Fr h₀ L s.heap m → (hd.heap_1 w.params).In h₀ → News h₀ L s.heap news → Top topProg loose mean mg mb h₀ → cs.kind = .function → h₀.IsList l vs.toArray → IntsAre vs ns → PyData.layable0 (.list (ns.map .int)) = true → ns.length ≤ 63 → dp + 6 < recursionLimit →
    (∀ D nt a us k c0 c1 c2 c3 hh ww uu t1 t2 t3 h' tk', IntsAre us [c0, c1, c2, c3] → (0 ≤ c0 ∧ c0 ≤ 2) → (0 ≤ c1 ∧ c1 ≤ 2) → (0 ≤ c2 ∧ c2 ≤ 2) → (0 ≤ c3 ∧ c3 ≤ 2) → (1 ≤ hh ∧ hh ≤ 4) → (1 ≤ ww ∧ ww ≤ 2) → 1 ≤ uu → Builtin.Int.intBits uu ≤ 2000000 → Fr h₀ L h' m →
      News h₀ L h' ((D, { cls := .type "tuple", data := .seq #[.ref a, .int hh t1, .int ww t2, .int uu t3] nt }) :: (a, listOf (us : List Value).toArray k) :: news) → (∀ p ∈ news, p.1 ≠ D ∧ p.1 ≠ a) → Q (.ref D) { s with heap := h', toks := tk' }) →
    wpAny (model PySem.Challenge.rw_op0106_01.row.prog w) (ktrTop dp un gd cn cs L a ccd cl outer) (call (.ref 103) [.ref l]) Q E s
theorem mod4 (x : Int) : 1 ≤ x.fmod 4 + 1 ∧ x.fmod 4 + 1 ≤ 4 := by
  rw [Int.fmod_eq_emod_of_nonneg _ (by decide)]
  omega
theorem mod2 (x : Int) : 1 ≤ x.fmod 2 + 1 ∧ x.fmod 2 + 1 ≤ 2 := by
  rw [Int.fmod_eq_emod_of_nonneg _ (by decide)]
  omega
theorem abs1 (x : Int) : 1 ≤ (if x < 0 then -x else x) + 1 := by split <;> omega
theorem bits1 {x : Int} {k m : Nat} (h : Builtin.Int.intBits x ≤ k) (hm : k < m) : Builtin.Int.intBits ((if x < 0 then -x else x) + 1) ≤ m := by
  have h1 := intBits_le_iff.mp h
  refine intBits_le_iff.mpr ?_
  have h2 : 2 ^ k < 2 ^ m := Nat.pow_lt_pow_right (by decide) hm
  have h3 : ((if x < 0 then -x else x) + 1).natAbs = x.natAbs + 1 := by split <;> omega
  rw [h3]
  exact Nat.lt_of_le_of_lt h1 h2
theorem mod3 (x : Int) : 0 ≤ x.fmod 3 ∧ x.fmod 3 ≤ 2 := by
  rw [Int.fmod_eq_emod_of_nonneg _ (by decide)]
  omega
theorem notes_fin {T : List Int} {ys : List Value} (h : IntsAre ys (List.map (fun k' => (T.getD k'.toNat 0).fmod 3) (rangeKs 0 ((4 : Int) - 0).toNat))) : IntsAre ys [(T.getD 0 0).fmod 3, (T.getD 1 0).fmod 3, (T.getD 2 0).fmod 3, (T.getD 3 0).fmod 3] := h
theorem idx7 {k : Int} {T : List Int} (hT : T.length = 7) (h : k < 0 + ((4 - 0 : Int).toNat : Int)) : k < T.length := by
  rw [hT]; simp at h; omega
theorem idx7b {k : Int} (h : k < 0 + ((4 - 0 : Int).toNat : Int)) : k < 2 ^ 63 := by
  simp at h; omega
section
set_option maxHeartbeats 2000000 in
theorem notes_c (w : World) : NotesC w := by
  w_on
  unfold NotesC
  k_fill
  intro loose mean mg mb dp un gd cn cs a ccd cl outer A₀ base h₀ L m news s l vs ns Q E B F X N T hk hl hI hlay hlen hd ret
  have Nl : News h₀ L s.heap [] := fun p hp => nomatch hp
  refine wpAny_call ?_
  k_dflt (refine' code_defFC ?k1 ?k2 ?k3 Nl ?k5 ?kA ?kF ?kK ?k6 ?k7 ?k8 ?k9 ?kB ?kD ?_ ?c2 ?c3 ?c4; (case kA => exact rfl); (case kF => exact rfl); (case kK => assumption); (case k1 => k_asm); (case k2 => k_asm); (case k3 => k_asm);  (case k5 => k_asm); (case k6 => k_is); (case k7 => k_is); (case k8 => ktr_room); (case k9 => exact BindsTo.of_eq rfl); (case kB => exact rfl); (case kD => decide +kernel); (case c2 => exact rfl); (case c3 => exact rfl); (case c4 => exact rfl); k_whole; intro g' L' h' tk' cells' FG' F' N' Y' B' X' T' l1 hg'; (try k_lt l1); k_cells Y'; (try simp only [List.cons_append, List.nil_append] at N'); (try dsimp only); (try k_fold))
  clear Nl
  k_with_none
  have hl' : g'.IsList l vs.toArray := stays_list (Fr.keep FG') hl
  k_with "=subscriptTail Name Name ref int" => (k_here; k_dflt (refine' ksa_sub ?k1Zh ?k2Zh ?k3Zh ?k4Zh ?k5Zh ?k6Zh ?_ ?k7Zh; (case k1Zh => k_asm); (case k2Zh => k_mem); (case k3Zh => with_reducible assumption); (case k4Zh => assumption); (case k5Zh => exact idx7 (by assumption) (by assumption)); (case k6Zh => exact idx7b (by assumption)); (case k7Zh => with_unfolding_all rfl)); intro _)
  k_with "=binaryOp Add ref ref" => (k_here; k_dflt (refine' add_T ?FZh ?NZh ?iZh ?jZh ?aZh ?bZh ?kZh ?yZh ?_; (case FZh => k_asm); (case NZh => k_asm); (case iZh => with_reducible assumption); (case jZh => with_reducible assumption); (case aZh => k_mem); (case bZh => k_mem); (case kZh => rfl); (case yZh => assumption)); intro DZ' usZ' TZ' hZ' hT7Z hTbZ FZ' NZ' l1Z hIZ'; (try k_lt l1Z); (try k_sweep))
  k_with "=subscriptTail List cons Slice ref ref" => (k_here; (with_reducible show wpAny _ _ (subscriptTail _ (PySem.Expr.Slice _ _ none _) (Value.ref _) (Value.ref _)) _ _ _); k_dflt (refine' from_T (ns := [1, 2, 0, 2, 2, 1, 0]) ?FZh ?NZh ?lZh ?pZh ?qZh ?iZh ?jZh ?zZh ?_ ?sZh; (case FZh => k_asm); (case NZh => k_asm); (case lZh => kmk_list); (case pZh => kmk_part); (case qZh => kmk_part); (case iZh => exact .cons _ _ (.cons _ _ (.cons _ _ (.cons _ _ (.cons _ _ (.cons _ _ (.cons _ _ .nil))))))); (case jZh => omega); (case zZh => decide); (case sZh => with_unfolding_all rfl)); intro DZ' wsZ' hZ' FZ' NZ' l1Z hIZ'; (try k_lt l1Z); (try k_sweep))
  k_with "=call builtin:len" => (k_here; k_dflt (refine' len_U ?NZh ?mZh ?iZh ?zZh ?_; (case NZh => k_asm); (case mZh => k_mem); (case iZh => first | with_reducible assumption | l_ints); (case zZh => first | omega | ((simp only [List.length_append, List.length_cons, List.length_nil, List.length_set, List.length_dropLast, List.length_replicate]); omega))))
  k_steps
  intro hfr
  show Q (Value.ref _) _
  ((rename News h₀ L _ _ => lN); (rename News g' L' _ _ => lG); (rename ∀ j, Builtin.Int.intBits _ ≤ 1048576 => hTb9))
  refine ret _ _ _ _ _ _ _ _ _ _ _ _ _ _ _ _ _ (notes_fin (by assumption)) (mod3 _) (mod3 _) (mod3 _) (mod3 _) ?h1 ?h2 ?h3 ?h4 (by assumption) (news_add lN (.head _) (news_add lN (.tail _ (.head _)) (fun p hp => ⟨hfr _ _ (N p hp).1 (fun h => nomatch h), (N p hp).2⟩))) ?h5
  case h1 => exact mod4 _
  case h2 => exact mod2 _
  case h3 => exact abs1 _
  case h4 => exact bits1 (hTb9 _) (by decide)
  case h5 => exact fun p hp => ⟨ne_newS hg' N lG (.head _) (fun h => nomatch h) p hp, ne_newS hg' N lG (.tail _ (.head _)) (fun h => nomatch h) p hp⟩
end
open PySem PySem.W PySem.Calls PyProof.Rows
set_option Elab.async false
set_option maxRecDepth 100000
set_option maxHeartbeats 8000000
set_option linter.unusedVariables false
theorem heapifyF_length (ns : List Int) : (heapifyF ns).length = ns.length := by rw [heapifyF]; exact heapify_length _ _
theorem idv_q {x b : Int} (h1 : x ≤ 0) (h2 : -256 < x) (hb1 : b ≤ -1) (hb2 : -4 ≤ b) : 0 ≤ -x / -b ∧ -x / -b ≤ 255 := by
  have a1 := Int.ediv_nonneg (show 0 ≤ -x by omega) (show 0 ≤ -b by omega)
  have a2 := Int.ediv_le_self (-b) (show 0 ≤ -x by omega)
  omega
theorem idv_r {x b : Int} (h1 : x ≤ 0) (h2 : -256 < x) (hb1 : b ≤ -1) (hb2 : -4 ≤ b) : -3 ≤ -(-x % -b) ∧ -(-x % -b) ≤ 0 := by
  have a1 := Int.emod_nonneg (-x) (show -b ≠ 0 by omega)
  have a2 := Int.emod_lt_of_pos (-x) (show 0 < -b by omega)
  omega
/-- an address that is none of a list's -/
def NeAll (d : Addr) (l : List Addr) : Prop := ∀ x ∈ l, @Ne Nat x d
theorem neAll_of {d : Addr} {l : List (Addr × Obj)} (h : ∀ p ∈ l, p.1 ≠ d) : NeAll d (l.map (·.1)) := fun x hx => by
  obtain ⟨p, hp, rfl⟩ := List.mem_map.mp hx
  exact h p hp
theorem neAll_2 {d e : Addr} {l : List (Addr × Obj)} (h : ∀ p ∈ l, p.1 ≠ d ∧ p.1 ≠ e) : NeAll d (l.map (·.1)) ∧ NeAll e (l.map (·.1)) := ⟨neAll_of fun p hp => (h p hp).1, neAll_of fun p hp => (h p hp).2⟩
theorem neAll_4 {d e f g : Addr} {l : List (Addr × Obj)} (h : ∀ p ∈ l, p.1 ≠ d ∧ p.1 ≠ e ∧ p.1 ≠ f ∧ p.1 ≠ g) : NeAll d (l.map (·.1)) ∧ NeAll e (l.map (·.1)) ∧ NeAll f (l.map (·.1)) ∧ NeAll g (l.map (·.1)) :=
  ⟨neAll_of fun p hp => (h p hp).1, neAll_of fun p hp => (h p hp).2.1, neAll_of fun p hp => (h p hp).2.2.1, neAll_of fun p hp => (h p hp).2.2.2⟩
theorem NeAll.get {d x : Addr} {l : List Addr} (h : NeAll d l) (hx : x ∈ l) : @Ne Nat x d := h x hx
theorem NeAll.get' {d x : Addr} {l : List Addr} (h : NeAll d l) (hx : x ∈ l) : @Ne Nat d x := fun e => h x hx e.symm
section
variable {prog : Program} {w : World} {A : Around} {E : Value → Shared → Prop} {s : Shared} {Q : Value → Shared → Prop} {h₀ : Heap} {L : Addr} {m : Str → Option Value} {news : List (Addr × Obj)}
theorem pow_2w {n : Int} {t u : Tok} (h1 : 1 ≤ n) (h2 : n ≤ 2) (h : ∀ p, p = 2 ^ n.toNat → p = 2 ∨ p = 4 → Q (.int p s.toks) { s with toks := s.toks + 1 }) : wpAny (model prog w) A (binaryOp .Pow (.int 2 t) (.int n u)) Q E s := by
  have : n = 1 ∨ n = 2 := by omega
  rcases this with rfl | rfl
  · exact pow_int_small (by decide) (by decide) (by decide) (h _ rfl (.inl rfl))
  · exact pow_int_small (by decide) (by decide) (by decide) (h _ rfl (.inr rfl))
theorem pow_mk {a n : Int} {t u : Tok} (ha : a = 2 ∨ a = 4) (h1 : 0 ≤ n) (h2 : n ≤ 3) (h : ∀ p, p = a ^ n.toNat → 1 ≤ p → p ≤ 64 → Q (.int p s.toks) { s with toks := s.toks + 1 }) : wpAny (model prog w) A (binaryOp .Pow (.int a t) (.int n u)) Q E s := by
  have : n = 0 ∨ n = 1 ∨ n = 2 ∨ n = 3 := by omega
  rcases ha with rfl | rfl <;> rcases this with rfl | rfl | rfl | rfl <;> exact pow_int_small (by decide) (by decide) (by decide) (h _ rfl (by decide) (by decide))
theorem mul_note {a p : Int} {t u : Tok} (ha : Builtin.Int.intBits a ≤ 2000000) (h1 : 1 ≤ p) (h2 : p ≤ 64) (h : ∀ v, v = -a * p → Q (.int v s.toks) { s with toks := s.toks + 1 }) : wpAny (model prog w) A (binaryOp .Mult (.int (-a) t) (.int p u)) Q E s := by
  have hp : Builtin.Int.intBits p ≤ 7 := intBits_le_iff.mpr (by have : (2 : Nat) ^ 7 = 128 := rfl; omega)
  have hn : Builtin.Int.intBits (-a) ≤ 2000000 := intBits_le_of_natAbs (by rw [Int.natAbs_neg]; exact Nat.le_refl _) ha
  exact mul_int (h _ rfl) (PySem.IntMulOk.of_right (Nat.le_trans hp (by decide)))
theorem bits_small {b : Int} (h0 : -100000 ≤ b) (h1 : b ≤ 100000) : Builtin.Int.intBits b ≤ 17 := intBits_le_iff.mpr (by have : (2 : Nat) ^ 17 = 131072 := rfl; omega)
theorem mul_m {a b : Int} {t u : Tok} (ha : a = 2 ∨ a = 4) (h0 : 0 ≤ b) (h1 : b ≤ 10000) (h : ∀ p, p = a * b → 0 ≤ p → p ≤ 4 * b → Q (.int p s.toks) { s with toks := s.toks + 1 }) : wpAny (model prog w) A (binaryOp .Mult (.int a t) (.int b u)) Q E s := by
  have hb := bits_small (b := b) (by omega) (by omega)
  have h2 : 0 ≤ a * b ∧ a * b ≤ 4 * b := by rcases ha with rfl | rfl <;> omega
  have ha' := bits_small (b := a) (by omega) (by omega)
  exact mul_int (h _ rfl h2.1 h2.2) (PySem.IntMulOk.of_right (Nat.le_trans hb (by decide)))
theorem mul_h {a b : Int} {t u : Tok} (h0 : -10000 ≤ a) (h1 : a ≤ 10000) (hb1 : 1 ≤ b) (hb2 : b ≤ 4) (h : ∀ p, p = a * b → -40000 ≤ p → p ≤ 40000 → Q (.int p s.toks) { s with toks := s.toks + 1 }) : wpAny (model prog w) A (binaryOp .Mult (.int a t) (.int b u)) Q E s := by
  have ha' := bits_small (b := a) (by omega) (by omega)
  have hb := bits_small (b := b) (by omega) (by omega)
  have : b = 1 ∨ b = 2 ∨ b = 3 ∨ b = 4 := by omega
  have h2 : -40000 ≤ a * b ∧ a * b ≤ 40000 := by rcases this with rfl | rfl | rfl | rfl <;> omega
  exact mul_int (h _ rfl h2.1 h2.2) (PySem.IntMulOk.of_right (Nat.le_trans hb (by decide)))
theorem item4 {value slice : PySem.Expr} {D : Addr} {vs : List Value} {n : Nat} {c0 c1 c2 c3 c k : Int} {u : Tok} (N : News h₀ L s.heap news) (hi : IntsAre vs [c0, c1, c2, c3]) (hm : (D, listOf vs.toArray n) ∈ news) (hk : (k = 0 ∧ c = c0) ∨ (k = 1 ∧ c = c1) ∨ (k = 2 ∧ c = c2) ∨ (k = 3 ∧ c = c3)) (h : ∀ t, Q (.int c t) s)
    (hs : subscripted slice false (.ref D) (.int k u) = operate [.ref D, .int k u] (getItem (.ref D) (.int k u))) :
    wpAny (model prog w) A (subscriptTail value slice (.ref D) (.int k u)) Q E s := by
  rcases hk with ⟨rfl, rfl⟩ | ⟨rfl, rfl⟩ | ⟨rfl, rfl⟩ | ⟨rfl, rfl⟩
  · exact ksa_sub N hm hi (by decide) (by simp only [List.length_cons, List.length_nil]; decide) (by decide) h hs
  · exact ksa_sub N hm hi (by decide) (by simp only [List.length_cons, List.length_nil]; decide) (by decide) h hs
  · exact ksa_sub N hm hi (by decide) (by simp only [List.length_cons, List.length_nil]; decide) (by decide) h hs
  · exact ksa_sub N hm hi (by decide) (by simp only [List.length_cons, List.length_nil]; decide) (by decide) h hs
end
open PySem PySem.W PySem.Calls PyProof.Rows
set_option Elab.async false
set_option maxRecDepth 100000
set_option maxHeartbeats 8000000
set_option linter.unusedVariables false
section
variable {w : World} {loose : List Str} {mean : ExcName → Option Value} {mg mb : Str → Option Value} {dp un : Nat} {gd : Option (List Code)} {cn : Str} {cs : Scope} {a : Addr} {ccd : Value} {cl : List (Str × Addr)} {outer : List Env} {A₀ : Around} {base h₀ : Heap} {L : Addr} {m : Str → Option Value}
variable {news : List (Addr × Obj)} {g : Obj → List (Addr × Obj)} {s : Shared} {Q E : Value → Shared → Prop}
theorem notes_use {l : Addr} {vs : List Value} {ns : List Int} (B : Below A₀ base outer h₀) (F : Fr h₀ L s.heap m) (X : (hd.heap_1 w.params).In h₀) (N : News h₀ L s.heap news) (T : Top topProg loose mean mg mb h₀) (hs : cs.kind = .function) (hl : h₀.IsList l vs.toArray) (hI : IntsAre vs ns) (hlay : PyData.layable0 (.list (ns.map .int)) = true) (hlen : ns.length ≤ 63) (hd : dp + 6 < recursionLimit)
    (ret : ∀ D nt a us k c0 c1 c2 c3 hh ww uu t1 t2 t3 h' tk', IntsAre us [c0, c1, c2, c3] → (0 ≤ c0 ∧ c0 ≤ 2) → (0 ≤ c1 ∧ c1 ≤ 2) → (0 ≤ c2 ∧ c2 ≤ 2) → (0 ≤ c3 ∧ c3 ≤ 2) → (1 ≤ hh ∧ hh ≤ 4) → (1 ≤ ww ∧ ww ≤ 2) → 1 ≤ uu → Builtin.Int.intBits uu ≤ 2000000 → Fr h₀ L h' m →
      News h₀ L h' ((D, { cls := .type "tuple", data := .seq #[.ref a, .int hh t1, .int ww t2, .int uu t3] nt }) :: (a, listOf (us : List Value).toArray k) :: news) → (∀ p ∈ news, p.1 ≠ D ∧ p.1 ≠ a) → Q (.ref D) { s with heap := h', toks := tk' }) :
    wpAny (model PySem.Challenge.rw_op0106_01.row.prog w) (ktrTop dp un gd cn cs L a ccd cl outer) (call (.ref 103) [.ref l]) Q E s :=
  notes_c w _ _ _ _ _ _ _ _ _ _ _ _ _ _ _ _ _ _ _ _ _ _ _ _ _ B F X N T hs hl hI hlay hlen hd ret
theorem idv1_use {x b : Int} {ta tb : Tok} {c2 : Addr} {oc2 : Obj} {fvs2 : Array Value} {ft2 : Tok} (h1 : x ≤ 0) (h2 : -256 < x) (hb1 : b ≤ -1) (hb2 : -4 ≤ b) (B : Below A₀ base outer h₀) (F : Fr h₀ L s.heap m) (X : (hd.heap_1 w.params).In h₀) (N : News h₀ L s.heap news) (T : Top topProg loose mean mg mb h₀) (hs : cs.kind = .function) (hC30 : CodeHd h₀ 34 30) (hC37 : CodeHd h₀ 41 37)
    (U : UpdF 30 (tabObj #[]) news g) (h37 : (37, tabObj #[rawInt 47, rawInt 4, .ref c2]) ∈ news) (hc2 : (c2, oc2) ∈ news) (hoc2 : oc2.data = .fields fvs2) (hft2 : fvs2[1]? = some (.str (Str.ofString "_digits2int.<locals>.inner") ft2)) (hd : dp + 40 < recursionLimit)
    (ret : ∀ D nt q r t1 t2 h' tk' c1 oc1 fvs1 ft1, q = -x / -b → r = -(-x % -b) → (0 ≤ q ∧ q ≤ 255) → (-3 ≤ r ∧ r ≤ 0) → oc1.data = .fields fvs1 → fvs1[1]? = some (.str (Str.ofString "_int2digits.<locals>.inner") ft1) → Fr h₀ L h' m → News h₀ L h' ((D, { cls := .type "tuple", data := .seq #[.int q t1, .int r t2] nt }) :: (c1, oc1) :: g (tabObj #[rawInt 32, rawInt 4, .ref c1])) → (∀ p ∈ news, p.1 ≠ D ∧ p.1 ≠ c1) → Q (.ref D) { s with heap := h', toks := tk' }) :
    wpAny (model PySem.Challenge.rw_op0106_01.row.prog w) (ktrTop dp un gd cn cs L a ccd cl outer) (call (.ref 56) [.int x ta, .int b tb]) Q E s :=
  idv1_c w x b h1 h2 hb1 hb2 _ _ _ _ _ _ _ _ _ _ _ _ _ _ _ _ _ _ _ _ _ _ _ _ _ _ _ _ _ B F X N T hs hC30 hC37 U h37 hc2 hoc2 hft2 hd fun D nt t1 t2 h' tk' c1 oc1 fvs1 ft1 => ret D nt _ _ t1 t2 h' tk' c1 oc1 fvs1 ft1 rfl rfl (idv_q h1 h2 hb1 hb2) (idv_r h1 h2 hb1 hb2)
theorem idv2_use {x b : Int} {ta tb : Tok} {c2 : Addr} {oc2 : Obj} {fvs2 : Array Value} {ft2 : Tok} {c1 : Addr} {oc1 : Obj} {fvs1 : Array Value} {ft1 : Tok} (h1 : x ≤ 0) (h2 : -256 < x) (hb1 : b ≤ -1) (hb2 : -4 ≤ b) (B : Below A₀ base outer h₀) (F : Fr h₀ L s.heap m) (X : (hd.heap_1 w.params).In h₀) (N : News h₀ L s.heap news) (T : Top topProg loose mean mg mb h₀) (hs : cs.kind = .function) (hC30 : CodeHd h₀ 34 30) (hC37 : CodeHd h₀ 41 37)
    (h30 : (30, tabObj #[rawInt 32, rawInt 4, .ref c1]) ∈ news) (hc1 : (c1, oc1) ∈ news) (hoc1 : oc1.data = .fields fvs1) (hft1 : fvs1[1]? = some (.str (Str.ofString "_int2digits.<locals>.inner") ft1)) (h37 : (37, tabObj #[rawInt 47, rawInt 4, .ref c2]) ∈ news) (hc2 : (c2, oc2) ∈ news) (hoc2 : oc2.data = .fields fvs2) (hft2 : fvs2[1]? = some (.str (Str.ofString "_digits2int.<locals>.inner") ft2)) (hd : dp + 40 < recursionLimit)
    (ret : ∀ D nt q r t1 t2 h' tk', q = -x / -b → r = -(-x % -b) → (0 ≤ q ∧ q ≤ 255) → (-3 ≤ r ∧ r ≤ 0) → Fr h₀ L h' m → News h₀ L h' ((D, { cls := .type "tuple", data := .seq #[.int q t1, .int r t2] nt }) :: news) → (∀ p ∈ news, p.1 ≠ D) → Q (.ref D) { s with heap := h', toks := tk' }) :
    wpAny (model PySem.Challenge.rw_op0106_01.row.prog w) (ktrTop dp un gd cn cs L a ccd cl outer) (call (.ref 56) [.int x ta, .int b tb]) Q E s :=
  idv2_c w x b h1 h2 hb1 hb2 _ _ _ _ _ _ _ _ _ _ _ _ _ _ _ _ _ _ _ _ _ _ _ _ _ _ _ _ _ _ _ _ B F X N T hs hC30 hC37 h30 hc1 hoc1 hft1 h37 hc2 hoc2 hft2 hd fun D nt t1 t2 h' tk' => ret D nt _ _ t1 t2 h' tk' rfl rfl (idv_q h1 h2 hb1 hb2) (idv_r h1 h2 hb1 hb2)
theorem share_use {l : Addr} {vs : List Value} {ns : List Int} {n : Nat} {heirs many unit : Int} {t1 t2 t3 : Tok} (h1 : 1 ≤ heirs) (h2 : heirs ≤ 4) (h3 : many = 2 ∨ many = 4) (h4 : ns.length ≤ 8) (B : Below A₀ base outer h₀) (F : Fr h₀ L s.heap m) (X : (hd.heap_1 w.params).In h₀) (N : News h₀ L s.heap news) (T : Top topProg loose mean mg mb h₀) (hs : cs.kind = .function)
    (U : UpdF l (listOf vs.toArray n) news g) (hI : IntsAre vs ns) (hd : dp + 6 < recursionLimit) (hun : un + 200 < cLine)
    (ret : ∀ D a1 a2 a3 us1 us2 us3 n1 n2 n3 nt vs' n' h' tk', IntsAre us1 (shareF heirs many unit 40 ⟨ns, [], [], []⟩).1 → IntsAre us2 (shareF heirs many unit 40 ⟨ns, [], [], []⟩).2.1 → IntsAre us3 (shareF heirs many unit 40 ⟨ns, [], [], []⟩).2.2 → Fr h₀ L h' m →
      News h₀ L h' ((D, { cls := .type "tuple", data := .seq #[.ref a1, .ref a2, .ref a3] nt }) :: (a1, listOf us1.toArray n1) :: (a2, listOf us2.toArray n2) :: (a3, listOf us3.toArray n3) :: g (listOf (vs' : List Value).toArray n')) →
      (∀ p ∈ news, p.1 ≠ D ∧ p.1 ≠ a1 ∧ p.1 ≠ a2 ∧ p.1 ≠ a3) → Q (.ref D) { s with heap := h', toks := tk' }) :
    wpAny (model PySem.Challenge.rw_op0106_01.row.prog w) (ktrTop dp un gd cn cs L a ccd cl outer) (call (.ref 110) [.ref l, .int heirs t1, .int many t2, .int unit t3]) Q E s :=
  share_c w heirs many unit ns h1 h2 h3 h4 _ _ _ _ _ _ _ _ _ _ _ _ _ _ _ _ _ _ _ _ _ _ _ _ _ _ _ _ _ B F X N T hs U hI hd hun ret
end
theorem diff_use {w : World} {loose : List Str} {mean : ExcName → Option Value} {mg mb : Str → Option Value} {cn : Str} {cs : Scope} {a : Addr} {ccd : Value} {h₀ : Heap} {L : Addr} {m : Str → Option Value} {rest : List (Addr × Obj)} {s : Shared} {l1 l2 : Addr} {vs1 vs2 : List Value} {n1 n2 : Nat} {Q E : Value → Shared → Prop} {ns1 ns2 : List Int} (h1 : ns1.length ≤ 1000) (h2 : ns2.length ≤ 1000)
    (F : Fr h₀ L s.heap m) (X : (hd.heap_1 w.params).In h₀) (N : News h₀ L s.heap ((l1, listOf vs1.toArray n1) :: (l2, listOf vs2.toArray n2) :: rest)) (T : Top topProg loose mean mg mb h₀) (hk : cs.kind = .function)
    (hne : l1 ≠ l2) (hr : ∀ p ∈ rest, p.1 ≠ l1 ∧ p.1 ≠ l2) (hI1 : IntsAre vs1 ns1) (hI2 : IntsAre vs2 ns2) (hlo : Str.ofString "ValueError" ∉ loose)
    (ret : ∀ D a1 us1 us2 k1 k2 nt h' tk', IntsAre us1 (diffF ns1.length ns1 ns2 []).1 → IntsAre us2 (diffF ns1.length ns1 ns2 []).2 → Fr h₀ L h' m →
      News h₀ L h' ((D, { cls := .type "tuple", data := .seq #[.ref a1, .ref l2] nt }) :: (a1, listOf (us1 : List Value).toArray k1) :: (l2, listOf (us2 : List Value).toArray k2) :: rest) → Q (.ref D) { s with heap := h', toks := tk' }) :
    wpAny (model PySem.Challenge.rw_op0106_01.row.prog w) (callerA.deeper (envOf cn cs L a ccd)) (call (.ref 98) [.ref l1, .ref l2]) Q E s :=
  diff_c w ns1 ns2 h1 h2 _ _ _ _ _ _ _ _ _ _ _ _ _ _ _ _ _ _ _ _ _ F X N T hk hne hr hI1 hI2 hlo ret
open PySem PySem.W PySem.Calls PyProof.Rows
set_option Elab.async false
set_option maxRecDepth 100000
set_option maxHeartbeats 8000000
set_option linter.unusedVariables false
theorem digs_len {c0 c1 c2 c3 : Int} (i : Nat) : (List.map (fun k => -k) (List.drop i [c0, c1, c2, c3])).length ≤ 8 := by
  rw [List.length_map, List.length_drop]
  simp only [List.length_cons, List.length_nil]
  omega
theorem digs_mem {c0 c1 c2 c3 : Int} (i : Nat) (hc0 : 0 ≤ c0 ∧ c0 ≤ 2) (hc1 : 0 ≤ c1 ∧ c1 ≤ 2) (hc2 : 0 ≤ c2 ∧ c2 ≤ 2) (hc3 : 0 ≤ c3 ∧ c3 ≤ 2) : ∀ d ∈ List.map (fun k => -k) (List.drop i [c0, c1, c2, c3]), d.natAbs ≤ 300 := by
  intro d hd
  obtain ⟨k, hk, rfl⟩ := List.mem_map.mp hd
  have := List.mem_of_mem_drop hk
  simp only [List.mem_cons, List.not_mem_nil, or_false] at this
  rcases this with rfl | rfl | rfl | rfl <;> omega
def digV (a b c d : Int) (i : Nat) (n : Int) : Int := if 0 < (List.map (fun k => -k) (List.drop i [a, b, c, d])).length then valD (List.map (fun k => -k) (List.drop i [a, b, c, d])) n 0 (List.map (fun k => -k) (List.drop i [a, b, c, d])).length else 0
theorem digs_fin : ∀ i : Fin 4, ∀ n : Fin 2, ∀ a b c d : Fin 3, -170 ≤ digV (a.1 : Nat) (b.1 : Nat) (c.1 : Nat) (d.1 : Nat) i.1 ((n.1 + 1 : Nat) : Int) ∧ digV (a.1 : Nat) (b.1 : Nat) (c.1 : Nat) (d.1 : Nat) i.1 ((n.1 + 1 : Nat) : Int) ≤ 0 := by decide +kernel
theorem digs_ok {c0 c1 c2 c3 n v : Int} {i : Nat} (hn1 : 1 ≤ n) (hn2 : n ≤ 2) (hc0 : 0 ≤ c0 ∧ c0 ≤ 2) (hc1 : 0 ≤ c1 ∧ c1 ≤ 2) (hc2 : 0 ≤ c2 ∧ c2 ≤ 2) (hc3 : 0 ≤ c3 ∧ c3 ≤ 2)
    (hv : v = (if 0 < (List.map (fun k => -k) (List.drop i [c0, c1, c2, c3])).length then valD (List.map (fun k => -k) (List.drop i [c0, c1, c2, c3])) n 0 (List.map (fun k => -k) (List.drop i [c0, c1, c2, c3])).length else 0)) : -170 ≤ v ∧ v ≤ 0 := by
  by_cases hi : i < 4
  · obtain ⟨a, rfl⟩ := Int.eq_ofNat_of_zero_le hc0.1
    obtain ⟨b, rfl⟩ := Int.eq_ofNat_of_zero_le hc1.1
    obtain ⟨c, rfl⟩ := Int.eq_ofNat_of_zero_le hc2.1
    obtain ⟨d, rfl⟩ := Int.eq_ofNat_of_zero_le hc3.1
    obtain ⟨e, rfl⟩ := Int.eq_ofNat_of_zero_le (show 0 ≤ n by omega)
    obtain ⟨j, rfl⟩ : ∃ j, e = j + 1 := ⟨e - 1, by omega⟩
    have h := digs_fin ⟨i, hi⟩ ⟨j, by omega⟩ ⟨a, by omega⟩ ⟨b, by omega⟩ ⟨c, by omega⟩ ⟨d, by omega⟩
    rw [hv]
    exact h
  · rw [List.drop_of_length_le (by simp only [List.length_cons, List.length_nil]; omega)] at hv
    rw [hv]
    simp
/-- the taken shares -/
@[irreducible] def takenOf (h : Int) (pre : List Int) : List Int := pre.flatMap fun s => List.replicate h.toNat s
theorem takenOf_len (h : Int) (pre : List Int) : (takenOf h pre).length = pre.length * h.toNat := by
  rw [takenOf]
  induction pre with
  | nil => simp
  | cons a r ih => simp only [List.flatMap_cons, List.length_append, List.length_replicate, List.length_cons, ih, Nat.add_mul]; omega
theorem taken_nil {h : Int} : takenOf h [] = [] := by rw [takenOf]; rfl
theorem taken_next {h n : Int} {pre taken : List Int} (e : taken = takenOf h pre) : taken ++ List.replicate h.toNat n = takenOf h (pre ++ [n]) := by
  rw [e, takenOf, takenOf, List.flatMap_append]
  simp
theorem takeF_le {heirs : Int} (h4 : heirs ≤ 4) : ∀ (f : Nat) (like hp : List Int), like.length ≤ 4 → (takeF heirs f like hp).1.length ≤ 4
  | 0, like, hp, h => by rw [takeF]; exact h
  | f + 1, like, hp, h => by
    rw [takeF]
    split
    · exact takeF_le h4 f _ _ (by rw [List.length_append]; simp only [List.length_cons, List.length_nil]; omega)
    · exact h
theorem takeS_le {heirs : Int} (h4 : heirs ≤ 4) (hp : List Int) : (takeS heirs hp).1.length ≤ 4 := by rw [takeS]; exact takeF_le h4 _ _ _ (by simp)
theorem shareF_le {heirs many unit : Int} (h4 : heirs ≤ 4) : ∀ (k : Nat) (s : ShareSt), (shareF heirs many unit k s).2.1.length ≤ s.sh.length + k ∧ (shareF heirs many unit k s).2.2.length ≤ s.lf.length + 4 * k
  | 0, s => by rw [shareF]; exact ⟨Nat.le_refl _, Nat.le_refl _⟩
  | k + 1, s => by
    rw [shareF]
    split
    · exact ⟨Nat.le_add_right _ _, Nat.le_add_right _ _⟩
    · have a := shareF_le (heirs := heirs) (many := many) (unit := unit) h4 k (shareStep heirs many unit s)
      have b := takeS_le h4 s.hp
      have c : (shareStep heirs many unit s).sh.length ≤ s.sh.length + 1 ∧ (shareStep heirs many unit s).lf.length ≤ s.lf.length + 4 := by
        rw [shareStep]
        split
        · exact ⟨by simp, Nat.le_add_right _ _⟩
        · split
          · exact ⟨Nat.le_add_right _ _, by rw [List.length_append]; omega⟩
          · exact ⟨Nat.le_add_right _ _, Nat.le_add_right _ _⟩
      omega
theorem share_len {heirs many unit : Int} {us : List Value} {ns : List Int} (hI : IntsAre us (shareF heirs many unit 40 ⟨ns, [], [], []⟩).2.1) (h4 : heirs ≤ 4) : (shareF heirs many unit 40 ⟨ns, [], [], []⟩).2.1.length ≤ 40 := by
  have := (shareF_le (many := many) (unit := unit) h4 40 ⟨ns, [], [], []⟩).1
  simpa using this
theorem share_lef {heirs many unit : Int} {us : List Value} {ns : List Int} (hI : IntsAre us (shareF heirs many unit 40 ⟨ns, [], [], []⟩).2.2) (h4 : heirs ≤ 4) : (shareF heirs many unit 40 ⟨ns, [], [], []⟩).2.2.length ≤ 160 := by
  have := (shareF_le (many := many) (unit := unit) h4 40 ⟨ns, [], [], []⟩).2
  simpa using this
section
variable {prog : Program} {w : World} {A : Around} {E : Value → Shared → Prop} {s : Shared} {Q : Value → Shared → Prop} {a b : Addr} {xs ys : List Value} {ns ms : List Int}
theorem ne_same (ha : s.heap.IsList a xs.toArray) (hb : s.heap.IsList b ys.toArray) (hi : IntsAre xs ns) (hj : IntsAre ys ms) (hu : A.units + 64 < cLine) (e : ns = ms) (h : Q (.bool false) s) : wpAny (model prog w) A (compareOp .NotEq (.ref a) (.ref b)) Q E s :=
  ke_ne_ints ha hb hi hj hu (by rw [decide_eq_true e]; exact h)
theorem add_U {h₀ : Heap} {L : Addr} {m : Str → Option Value} {news : List (Addr × Obj)} {n1 n2 : Nat} (F : Fr h₀ L s.heap m) (N : News h₀ L s.heap news) (hi : IntsAre xs ns) (hj : IntsAre ys ms) (ha : (a, listOf xs.toArray n1) ∈ news) (hb : (b, listOf ys.toArray n2) ∈ news) (hz : ns.length + ms.length ≤ 1000000)
    (h : ∀ D us h', Fr h₀ L h' m → News h₀ L h' ((D, listOf (us : List Value).toArray 0) :: news) → (∀ p ∈ news, p.1 < D) → IntsAre us (ns ++ ms) → Q (.ref D) { s with heap := h' }) :
    wpAny (model prog w) A (binaryOp .Add (.ref a) (.ref b)) Q E s :=
  add_lists_ints (vs := xs) (ws := ys) F N ⟨_, (N _ ha).1, rfl, n1, rfl⟩ ⟨_, (N _ hb).1, rfl, n2, rfl⟩ hi hj (fun h' F' N' hI' => h _ _ h' F' N' (fun p hp => Heap.lt_size (N p hp).1) hI') (by rw [sizeLine_eq]; omega)
end
theorem taken_le' {h n : Int} {pre post taken all ms : List Int} (e : taken = takenOf h pre) (h4 : 1 ≤ h ∧ h ≤ 4) (ha : all = pre ++ n :: post) (hl : all.length ≤ 40) (hm : ms.length ≤ 50000) : taken.length + ms.length ≤ 1000000 := by
  rw [e, takenOf_len]
  rw [ha, List.length_append] at hl
  have : pre.length * h.toNat ≤ 40 * 4 := Nat.mul_le_mul (by omega) (by omega)
  omega
theorem taken_next' {h n : Int} {pre taken ms ns : List Int} (e : taken = takenOf h pre) (e1 : ns = taken ++ ms) (e2 : ms = List.replicate h.toNat n) : ns = takenOf h (pre ++ [n]) := by
  rw [e1, e2]; exact taken_next e
theorem neAll_lt {d : Addr} {l : List (Addr × Obj)} (h : ∀ p ∈ l, p.1 < d) : NeAll d (l.map (·.1)) := neAll_of fun p hp => Nat.ne_of_lt (h p hp)
section
variable {prog : Program} {w : World} {A : Around} {E : Value → Shared → Prop} {s : Shared} {h₀ : Heap} {L D l b : Addr} {m : Str → Option Value} {news : List (Addr × Obj)} {g : Obj → List (Addr × Obj)} {ys zs : List Value} {ns ms : List Int} {n n2 : Nat} {Q : Value → Shared → Prop}
theorem rep_B {v x : Int} {t u : Tok} {n : Nat} (F : Fr h₀ L s.heap m) (N : News h₀ L s.heap news) (hl : (l, listOf [Value.int v t].toArray n) ∈ news) (h0 : -50000 ≤ x) (h1 : x ≤ 50000)
    (h : ∀ D h' us ms, ms = List.replicate x.toNat v → ms.length ≤ 50000 → Fr h₀ L h' m → News h₀ L h' ((D, listOf (us : List Value).toArray 0) :: news) → (∀ p ∈ news, p.1 < D) → IntsAre us ms → Q (.ref D) { s with heap := h' }) : wpAny (model prog w) A (binaryOp .Mult (.ref l) (.int x u)) Q E s :=
  rep_U F N hl (by omega) (by omega) fun D h' us F' N' l1 hI' => h D h' us _ rfl (by rw [List.length_replicate]; omega) F' N' l1 hI'
theorem rep_C {v x : Int} {t u : Tok} {n : Nat} (h0 : 0 ≤ x ∧ x ≤ 2) (F : Fr h₀ L s.heap m) (N : News h₀ L s.heap news) (hl : (l, listOf [Value.int v t].toArray n) ∈ news)
    (h : ∀ D h' us ms, ms = List.replicate x.toNat v → ms.length ≤ 2 → Fr h₀ L h' m → News h₀ L h' ((D, listOf (us : List Value).toArray 0) :: news) → (∀ p ∈ news, p.1 < D) → IntsAre us ms → Q (.ref D) { s with heap := h' }) : wpAny (model prog w) A (binaryOp .Mult (.ref l) (.int x u)) Q E s :=
  rep_U F N hl (by omega) (by omega) fun D h' us F' N' l1 hI' => h D h' us _ rfl (by rw [List.length_replicate]; omega) F' N' l1 hI'
theorem extend_B (F : Fr h₀ L s.heap m) (N : News h₀ L s.heap news) (U : UpdF D (listOf ys.toArray n) news g) (hb : (b, listOf zs.toArray n2) ∈ news) (hi : IntsAre ys ns) (hj : IntsAre zs ms) (hz : ns.length + ms.length ≤ 1000000)
    (h : ∀ h' us n' ns', ns' = ns ++ ms → ns'.length = ns.length + ms.length → Fr h₀ L h' m → News h₀ L h' (g (listOf (us : List Value).toArray n')) → IntsAre us ns' → Q .none { s with heap := h' }) : wpAny (model prog w) A (call (.builtin "list.extend") [.ref D, .ref b]) Q E s :=
  extend_U F N U hb hi hj hz fun h' us n' F' N' hI' => h h' us n' _ rfl (List.length_append ..) F' N' hI'
end
section
variable {w : World} {loose : List Str} {mean : ExcName → Option Value} {mg mb : Str → Option Value} {dp un : Nat} {gd : Option (List Code)} {cn : Str} {cs : Scope} {a : Addr} {ccd : Value} {cl : List (Str × Addr)} {outer : List Env} {A₀ : Around} {base h₀ : Heap} {L : Addr} {m : Str → Option Value}
variable {news : List (Addr × Obj)} {g : Obj → List (Addr × Obj)} {s : Shared} {Q E : Value → Shared → Prop}
theorem d2iL1_use {c0 c1 c2 c3 n : Int} {i : Nat} {tn : Tok} {dl : Addr} {vs : List Value} {k : Nat} (hI : IntsAre vs (List.map (fun k => -k) (List.drop i [c0, c1, c2, c3]))) (hn1 : 1 ≤ n) (hn2 : n ≤ 2) (hc0 : 0 ≤ c0 ∧ c0 ≤ 2) (hc1 : 0 ≤ c1 ∧ c1 ≤ 2) (hc2 : 0 ≤ c2 ∧ c2 ≤ 2) (hc3 : 0 ≤ c3 ∧ c3 ≤ 2) (B : Below A₀ base outer h₀) (F : Fr h₀ L s.heap m) (X : (hd.heap_1 w.params).In h₀) (N : News h₀ L s.heap news) (T : Top topProg loose mean mg mb h₀) (hs : cs.kind = .function) (hC : CodeHd h₀ 41 37)
    (U : UpdF 37 (tabObj #[]) news g) (hm : (dl, listOf vs.toArray k) ∈ news) (hd : dp + 20 < recursionLimit)
    (ret : ∀ v t h' tk' c' oc fvs ft, v = digV c0 c1 c2 c3 i n → (-170 ≤ v ∧ v ≤ 0) → oc.data = .fields fvs → fvs[1]? = some (.str (Str.ofString "_digits2int.<locals>.inner") ft) → Fr h₀ L h' m → News h₀ L h' ((c', oc) :: g (tabObj #[rawInt 47, rawInt 4, .ref c'])) → (∀ p ∈ news, p.1 ≠ c') → Q (.int v t) { s with heap := h', toks := tk' }) :
    wpAny (model PySem.Challenge.rw_op0106_01.row.prog w) (ktrTop dp un gd cn cs L a ccd cl outer) (call (.ref 42) [.ref dl, .int n tn]) Q E s :=
  d2i1_use (digs_len i) hn1 (by omega) (digs_mem i hc0 hc1 hc2 hc3) B F X N T hs hC U hm hI hd fun v t h' tk' c' oc fvs ft e => ret v t h' tk' c' oc fvs ft e (digs_ok hn1 hn2 hc0 hc1 hc2 hc3 e)
theorem d2iL2_use {c0 c1 c2 c3 n : Int} {i : Nat} {tn : Tok} {dl : Addr} {vs : List Value} {k : Nat} {c' : Addr} {oc : Obj} {fvs : Array Value} {ft : Tok} (hI : IntsAre vs (List.map (fun k => -k) (List.drop i [c0, c1, c2, c3]))) (hn1 : 1 ≤ n) (hn2 : n ≤ 2) (hc0 : 0 ≤ c0 ∧ c0 ≤ 2) (hc1 : 0 ≤ c1 ∧ c1 ≤ 2) (hc2 : 0 ≤ c2 ∧ c2 ≤ 2) (hc3 : 0 ≤ c3 ∧ c3 ≤ 2) (B : Below A₀ base outer h₀) (F : Fr h₀ L s.heap m) (X : (hd.heap_1 w.params).In h₀) (N : News h₀ L s.heap news) (T : Top topProg loose mean mg mb h₀) (hs : cs.kind = .function) (hC : CodeHd h₀ 41 37)
    (hU : (37, tabObj #[rawInt 47, rawInt 4, .ref c']) ∈ news) (hc : (c', oc) ∈ news) (hoc : oc.data = .fields fvs) (hft : fvs[1]? = some (.str (Str.ofString "_digits2int.<locals>.inner") ft)) (hm : (dl, listOf vs.toArray k) ∈ news) (hd : dp + 20 < recursionLimit)
    (ret : ∀ v t h' tk', v = digV c0 c1 c2 c3 i n → (-170 ≤ v ∧ v ≤ 0) → Fr h₀ L h' m → News h₀ L h' news → Q (.int v t) { s with heap := h', toks := tk' }) :
    wpAny (model PySem.Challenge.rw_op0106_01.row.prog w) (ktrTop dp un gd cn cs L a ccd cl outer) (call (.ref 42) [.ref dl, .int n tn]) Q E s :=
  d2i2_use (digs_len i) hn1 (by omega) (digs_mem i hc0 hc1 hc2 hc3) B F X N T hs hC hU hc hoc hft hm hI hd fun v t h' tk' e => ret v t h' tk' e (digs_ok hn1 hn2 hc0 hc1 hc2 hc3 e)
end
open PySem PySem.W PySem.Calls PyProof.Rows
set_option Elab.async false
set_option maxRecDepth 100000
set_option linter.unusedVariables false
section
variable {u : Int} (hu : 0 < u)
theorem map_getD (u : Int) (l : List Int) (i : Nat) : (l.map (u * ·)).getD i 0 = u * l.getD i 0 := by
  rw [List.getD_eq_getElem?_getD, List.getD_eq_getElem?_getD, List.getElem?_map]
  cases l[i]? <;> simp
theorem map_set (u : Int) (l : List Int) (i : Nat) (x : Int) : (l.map (u * ·)).set i (u * x) = (l.set i x).map (u * ·) := by rw [List.map_set]
theorem map_getLastD (u : Int) (l : List Int) : (l.map (u * ·)).getLastD 0 = u * l.getLastD 0 := by
  rw [List.getLastD_eq_getLast?, List.getLastD_eq_getLast?, List.getLast?_map]
  cases l.getLast? <;> simp
theorem map_dropLast (u : Int) (l : List Int) : (l.map (u * ·)).dropLast = l.dropLast.map (u * ·) := by rw [List.map_dropLast]
theorem map_nil_iff (u : Int) (l : List Int) : l.map (u * ·) = [] ↔ l = [] := List.map_eq_nil_iff
include hu
theorem mul_lt (a b : Int) : u * a < u * b ↔ a < b := ⟨fun h => Int.lt_of_mul_lt_mul_left h (Int.le_of_lt hu), fun h => Int.mul_lt_mul_of_pos_left h hu⟩
theorem mul_eq (a b : Int) : u * a = u * b ↔ a = b := ⟨fun h => Int.eq_of_mul_eq_mul_left (by omega) h, fun h => by rw [h]⟩
theorem sd_map : ∀ (f : Nat) (ns : List Int) (start pos x : Int), sd f (ns.map (u * ·)) start pos (u * x) = (sd f ns start pos x).map (u * ·)
  | 0, ns, start, pos, x => by rw [sd, sd, map_set]
  | f + 1, ns, start, pos, x => by
    rw [sd, sd, map_getD, map_set, map_set]
    by_cases h1 : start < pos
    · rw [if_pos h1, if_pos h1]
      by_cases h2 : x < ns.getD ((pos - 1) / 2).toNat 0
      · rw [if_pos h2, if_pos ((mul_lt hu _ _).mpr h2), sd_map f]
      · rw [if_neg h2, if_neg (fun h => h2 ((mul_lt hu _ _).mp h))]
    · rw [if_neg h1, if_neg h1]
theorem siftdownF_map (ns : List Int) (start pos : Int) : siftdownF (ns.map (u * ·)) start pos = (siftdownF ns start pos).map (u * ·) := by
  rw [siftdownF, siftdownF, map_getD, sd_map hu]
theorem su_map : ∀ (f : Nat) (ns : List Int) (pos : Int), su f (ns.map (u * ·)) pos = ((su f ns pos).1.map (u * ·), (su f ns pos).2)
  | 0, ns, pos => by rw [su, su]
  | f + 1, ns, pos => by
    rw [su, su, map_getD, map_getD, map_set, map_set, List.length_map]
    by_cases h1 : 2 * pos + 1 < ns.length
    · rw [if_pos h1, if_pos h1]
      by_cases h2 : 2 * pos + 1 + 1 < ns.length ∧ ¬ ns.getD (2 * pos + 1).toNat 0 < ns.getD (2 * pos + 1 + 1).toNat 0
      · rw [if_pos h2, if_pos ⟨h2.1, fun h => h2.2 ((mul_lt hu _ _).mp h)⟩, su_map f]
      · rw [if_neg h2, if_neg (fun h => h2 ⟨h.1, fun q => h.2 ((mul_lt hu _ _).mpr q)⟩), su_map f]
    · rw [if_neg h1, if_neg h1]
theorem siftupF_map (ns : List Int) (pos : Int) : siftupF (ns.map (u * ·)) pos = (siftupF ns pos).map (u * ·) := by
  rw [siftupF, siftupF, su_map hu, List.length_map, map_getD, map_set, siftdownF_map hu]
theorem popF_map (ns : List Int) : popF (ns.map (u * ·)) = (u * (popF ns).1, (popF ns).2.map (u * ·)) := by
  rw [popF, popF, map_dropLast, map_getLastD]
  by_cases h : ns.dropLast = []
  · rw [if_pos h, if_pos ((map_nil_iff _ _).mpr h)]; rfl
  · rw [if_neg h, if_neg (fun q => h ((map_nil_iff _ _).mp q)), map_getD, map_set, siftupF_map hu]
theorem pushF_map (ns : List Int) (x : Int) : pushF (ns.map (u * ·)) (u * x) = (pushF ns x).map (u * ·) := by
  rw [pushF, pushF, List.length_map, ← siftdownF_map hu, List.map_append]; rfl
theorem fold_map : ∀ (l : List Int) (ns : List Int), l.foldl (fun h i => siftupF h i) (ns.map (u * ·)) = (l.foldl (fun h i => siftupF h i) ns).map (u * ·)
  | [], ns => rfl
  | i :: r, ns => by rw [List.foldl_cons, List.foldl_cons, siftupF_map hu, fold_map r]
theorem heapifyF_map (ns : List Int) : heapifyF (ns.map (u * ·)) = (heapifyF ns).map (u * ·) := by rw [heapifyF, heapifyF, List.length_map, fold_map hu]
theorem takeF_map (heirs : Int) : ∀ (f : Nat) (like hp : List Int), takeF heirs f (like.map (u * ·)) (hp.map (u * ·)) = ((takeF heirs f like hp).1.map (u * ·), (takeF heirs f like hp).2.map (u * ·))
  | 0, like, hp => by rw [takeF, takeF]
  | f + 1, like, hp => by
    rw [takeF, takeF, List.length_map, List.length_map, map_getD, map_getD]
    by_cases h : (like.length : Int) < heirs ∧ 0 < hp.length ∧ hp.getD 0 0 = like.getD 0 0
    · rw [if_pos h, if_pos ⟨h.1, h.2.1, (mul_eq hu _ _).mpr h.2.2⟩, popF_map hu, ← takeF_map heirs f, List.map_append]; rfl
    · rw [if_neg h, if_neg (fun q => h ⟨q.1, q.2.1, (mul_eq hu _ _).mp q.2.2⟩)]
theorem takeS_map (heirs : Int) (hp : List Int) : takeS heirs (hp.map (u * ·)) = ((takeS heirs hp).1.map (u * ·), (takeS heirs hp).2.map (u * ·)) := by
  rw [takeS, takeS, popF_map hu, ← takeF_map hu]; rfl
theorem pushN_map (x : Int) (hp : List Int) : ∀ k, pushN (u * x) (hp.map (u * ·)) k = (pushN x hp k).map (u * ·)
  | 0 => by rw [pushN, pushN]
  | k + 1 => by rw [pushN, pushN, pushN_map x hp k, pushF_map hu]
def ShareSt.scale (u : Int) (s : ShareSt) : ShareSt := ⟨s.hp.map (u * ·), s.off.map (u * ·), s.sh.map (u * ·), s.lf.map (u * ·)⟩
omit hu in
def stepOK (heirs many : Int) (s : ShareSt) : Bool := (takeS heirs s.hp).1.length == heirs.toNat || (takeS heirs s.hp).1.getD 0 0 == -1 || (((takeS heirs s.hp).1.getD 0 0).fdiv many) * many == (takeS heirs s.hp).1.getD 0 0
theorem shareStep_map {heirs many : Int} (h1 : 1 ≤ heirs) (hm : many ≠ 0) (s : ShareSt) (ok : stepOK heirs many s = true) : shareStep heirs many u (s.scale u) = (shareStep heirs many 1 s).scale u := by
  have e : (s.scale u).hp = s.hp.map (u * ·) := rfl
  rw [shareStep, shareStep, e, takeS_map hu]
  simp only [List.length_map, map_getD]
  by_cases ha : ((takeS heirs s.hp).1.length : Int) = heirs
  · rw [if_pos ha, if_pos ha]
    simp [ShareSt.scale]
  · rw [if_neg ha, if_neg ha]
    by_cases hb : (takeS heirs s.hp).1.getD 0 0 = -1
    · rw [if_pos hb, if_pos (by rw [hb]; omega)]
      simp [ShareSt.scale]
    · rw [if_neg hb, if_neg (fun q => hb ((mul_eq hu _ _).mp (by rw [q]; omega)))]
      have hd : (((takeS heirs s.hp).1.getD 0 0).fdiv many) * many = (takeS heirs s.hp).1.getD 0 0 := by
        simp only [stepOK, Bool.or_eq_true, beq_iff_eq] at ok
        rcases ok with (q | q) | q
        · exact absurd (by omega) ha
        · exact absurd q hb
        · exact q
      have hq : (u * (takeS heirs s.hp).1.getD 0 0).fdiv many = u * ((takeS heirs s.hp).1.getD 0 0).fdiv many := by
        generalize ((takeS heirs s.hp).1.getD 0 0).fdiv many = y at hd
        rw [← hd, ← Int.mul_assoc]
        exact Int.mul_fdiv_cancel _ hm
      rw [hq, pushN_map hu]
      simp [ShareSt.scale]
omit hu in
def shareC (heirs many : Int) : Nat → ShareSt → Option (List Int × List Int × List Int)
  | 0, s => some (s.off ++ s.hp, s.sh, s.lf)
  | k + 1, s => match s.hp with
    | [] => some (s.off, s.sh, s.lf)
    | _ :: _ => match stepOK heirs many s with
      | true => shareC heirs many k (shareStep heirs many 1 s)
      | false => none
theorem shareC_is {heirs many : Int} (h1 : 1 ≤ heirs) (hm : many ≠ 0) : ∀ (k : Nat) (s : ShareSt) (r : List Int × List Int × List Int), shareC heirs many k s = some r → shareF heirs many u k (s.scale u) = (r.1.map (u * ·), r.2.1.map (u * ·), r.2.2.map (u * ·))
  | 0, s, r, h => by
    rw [shareC] at h
    rw [← Option.some.inj h, shareF]
    simp [ShareSt.scale]
  | k + 1, s, r, h => by
    rw [shareC] at h
    rw [shareF]
    have e : (s.scale u).hp = s.hp.map (u * ·) := rfl
    cases hp : s.hp with
    | nil =>
      rw [hp] at h
      rw [if_pos (by rw [e, hp]; rfl), ← Option.some.inj h]
      rfl
    | cons a l =>
      rw [hp] at h
      rw [if_neg (by rw [e, hp]; exact fun q => nomatch q)]
      cases ok : stepOK heirs many s with
      | false => rw [ok] at h; cases h
      | true =>
        rw [ok] at h
        rw [shareStep_map hu h1 hm s ok]
        exact shareC_is h1 hm k _ r h
theorem diffF_map : ∀ (k : Nat) (e a m : List Int), diffF k (e.map (u * ·)) (a.map (u * ·)) (m.map (u * ·)) = ((diffF k e a m).1.map (u * ·), (diffF k e a m).2.map (u * ·))
  | 0, e, a, m => by rw [diffF, diffF]
  | k + 1, e, a, m => by
    rw [diffF, diffF, map_getLastD, map_dropLast]
    by_cases h : e = []
    · rw [if_pos h, if_pos ((map_nil_iff _ _).mpr h)]
    · rw [if_neg h, if_neg (fun q => h ((map_nil_iff _ _).mp q))]
      have hm : u * e.getLastD 0 ∈ a.map (u * ·) ↔ e.getLastD 0 ∈ a := by
        rw [List.mem_map]
        exact ⟨fun ⟨x, hx, q⟩ => (mul_eq hu _ _).mp q ▸ hx, fun q => ⟨_, q, rfl⟩⟩
      have he : ∀ l : List Int, ∀ x, (l.map (u * ·)).erase (u * x) = (l.erase x).map (u * ·) := by
        intro l x
        induction l with
        | nil => rfl
        | cons b r ih =>
          rw [List.map_cons, List.erase_cons, List.erase_cons]
          by_cases q : b = x
          · rw [if_pos (beq_iff_eq.mpr ((mul_eq hu _ _).mpr q)), if_pos (beq_iff_eq.mpr q)]
          · rw [if_neg (fun z => q ((mul_eq hu _ _).mp (beq_iff_eq.mp z))), if_neg (fun z => q (beq_iff_eq.mp z)), ih, List.map_cons]
      by_cases hx : e.getLastD 0 ∈ a
      · rw [if_pos hx, if_pos (hm.mpr hx), he, diffF_map k]
      · rw [if_neg hx, if_neg (fun q => hx (hm.mp q)), ← diffF_map k, List.map_append]; rfl
omit hu in
theorem takenOf_map (h : Int) (pre : List Int) : takenOf h (pre.map (u * ·)) = (takenOf h pre).map (u * ·) := by
  rw [takenOf, takenOf]
  induction pre with
  | nil => rfl
  | cons a r ih => rw [List.map_cons, List.flatMap_cons, List.flatMap_cons, List.map_append, ih, List.map_replicate]
end
open PySem PySem.W PySem.Calls PyProof.Rows
set_option Elab.async false
set_option maxRecDepth 100000
set_option linter.unusedVariables false
/-- what the law reckons of a kind: quotient and rest by the number of heirs -/
def qOf (c0 c1 c2 c3 hh ww : Int) (i : Nat) : Int := -(digV c0 c1 c2 c3 i ww) / - -hh
def rOf (c0 c1 c2 c3 hh ww : Int) (i : Nat) : Int := -(-(digV c0 c1 c2 c3 i ww) % - -hh)
def noteOf (ww : Int) (i : Nat) : Int := -((2 ^ ww.toNat) ^ i)
structure Outs where
  notes : List Int
  come : List Int
  due : List Int
  missing : List Int
  more : List Int
  changed : Int
def outsOf (c0 c1 c2 c3 hh ww : Int) (u : Int) : Outs :=
  let many : Int := 2 ^ ww.toNat
  let q := qOf c0 c1 c2 c3 hh ww
  let r := rOf c0 c1 c2 c3 hh ww
  let n := fun i : Nat => u * noteOf ww i
  { notes := [] ++ List.replicate c0.toNat (n 0) ++ List.replicate c1.toNat (n 1) ++ List.replicate c2.toNat (n 2) ++ List.replicate c3.toNat (n 3)
    come := [] ++ List.replicate ((q 3 - many * 0) * hh + -r 3).toNat (n 3) ++ List.replicate ((q 2 - many * q 3) * hh + -r 2).toNat (n 2) ++ List.replicate ((q 1 - many * q 2) * hh + -r 1).toNat (n 1) ++ List.replicate ((q 0 - many * q 1) * hh + -r 0).toNat (n 0)
    due := [] ++ List.replicate (q 3 - many * 0).toNat (n 3) ++ List.replicate (q 2 - many * q 3).toNat (n 2) ++ List.replicate (q 1 - many * q 2).toNat (n 1) ++ List.replicate (q 0 - many * q 1).toNat (n 0)
    missing := [] ++ List.replicate (-r 3 - many * 0).toNat (n 3) ++ List.replicate (-r 2 - many * -r 3).toNat (n 2) ++ List.replicate (-r 1 - many * -r 2).toNat (n 1)
    more := [] ++ List.replicate (many * 0 - -r 3).toNat (n 3) ++ List.replicate (many * -r 3 - -r 2).toNat (n 2) ++ List.replicate (many * -r 2 - -r 1).toNat (n 1) ++ List.replicate (many * -r 1).toNat (n 0)
    changed := -r 0 }
theorem outs_scale (c0 c1 c2 c3 hh ww u : Int) : outsOf c0 c1 c2 c3 hh ww u = ⟨(outsOf c0 c1 c2 c3 hh ww 1).notes.map (u * ·), (outsOf c0 c1 c2 c3 hh ww 1).come.map (u * ·), (outsOf c0 c1 c2 c3 hh ww 1).due.map (u * ·), (outsOf c0 c1 c2 c3 hh ww 1).missing.map (u * ·), (outsOf c0 c1 c2 c3 hh ww 1).more.map (u * ·), (outsOf c0 c1 c2 c3 hh ww 1).changed⟩ := by
  simp only [outsOf, List.map_append, List.map_replicate, List.map_nil, Int.one_mul]
def chk (c0 c1 c2 c3 hh ww : Int) : Bool :=
  match shareC hh (2 ^ ww.toNat) 40 ⟨heapifyF (outsOf c0 c1 c2 c3 hh ww 1).notes, [], [], []⟩ with
  | none => false
  | some r => r.1 == (outsOf c0 c1 c2 c3 hh ww 1).come && r.2.1 == (outsOf c0 c1 c2 c3 hh ww 1).due && r.2.2 == List.replicate (outsOf c0 c1 c2 c3 hh ww 1).changed.toNat (-1) &&
      diffF (outsOf c0 c1 c2 c3 hh ww 1).notes.length (outsOf c0 c1 c2 c3 hh ww 1).notes (takenOf hh r.2.1 ++ r.2.2) [] == ((outsOf c0 c1 c2 c3 hh ww 1).missing, (outsOf c0 c1 c2 c3 hh ww 1).more)
theorem chk_00 : ∀ w : Fin 2, ∀ h : Fin 4, ∀ c d : Fin 3, chk ((0 : Nat) : Int) ((0 : Nat) : Int) ((c.1 : Nat) : Int) ((d.1 : Nat) : Int) ((h.1 + 1 : Nat) : Int) ((w.1 + 1 : Nat) : Int) = true := by decide +kernel
theorem chk_01 : ∀ w : Fin 2, ∀ h : Fin 4, ∀ c d : Fin 3, chk ((0 : Nat) : Int) ((1 : Nat) : Int) ((c.1 : Nat) : Int) ((d.1 : Nat) : Int) ((h.1 + 1 : Nat) : Int) ((w.1 + 1 : Nat) : Int) = true := by decide +kernel
theorem chk_02 : ∀ w : Fin 2, ∀ h : Fin 4, ∀ c d : Fin 3, chk ((0 : Nat) : Int) ((2 : Nat) : Int) ((c.1 : Nat) : Int) ((d.1 : Nat) : Int) ((h.1 + 1 : Nat) : Int) ((w.1 + 1 : Nat) : Int) = true := by decide +kernel
theorem chk_10 : ∀ w : Fin 2, ∀ h : Fin 4, ∀ c d : Fin 3, chk ((1 : Nat) : Int) ((0 : Nat) : Int) ((c.1 : Nat) : Int) ((d.1 : Nat) : Int) ((h.1 + 1 : Nat) : Int) ((w.1 + 1 : Nat) : Int) = true := by decide +kernel
theorem chk_11 : ∀ w : Fin 2, ∀ h : Fin 4, ∀ c d : Fin 3, chk ((1 : Nat) : Int) ((1 : Nat) : Int) ((c.1 : Nat) : Int) ((d.1 : Nat) : Int) ((h.1 + 1 : Nat) : Int) ((w.1 + 1 : Nat) : Int) = true := by decide +kernel
theorem chk_12 : ∀ w : Fin 2, ∀ h : Fin 4, ∀ c d : Fin 3, chk ((1 : Nat) : Int) ((2 : Nat) : Int) ((c.1 : Nat) : Int) ((d.1 : Nat) : Int) ((h.1 + 1 : Nat) : Int) ((w.1 + 1 : Nat) : Int) = true := by decide +kernel
theorem chk_20 : ∀ w : Fin 2, ∀ h : Fin 4, ∀ c d : Fin 3, chk ((2 : Nat) : Int) ((0 : Nat) : Int) ((c.1 : Nat) : Int) ((d.1 : Nat) : Int) ((h.1 + 1 : Nat) : Int) ((w.1 + 1 : Nat) : Int) = true := by decide +kernel
theorem chk_21 : ∀ w : Fin 2, ∀ h : Fin 4, ∀ c d : Fin 3, chk ((2 : Nat) : Int) ((1 : Nat) : Int) ((c.1 : Nat) : Int) ((d.1 : Nat) : Int) ((h.1 + 1 : Nat) : Int) ((w.1 + 1 : Nat) : Int) = true := by decide +kernel
theorem chk_22 : ∀ w : Fin 2, ∀ h : Fin 4, ∀ c d : Fin 3, chk ((2 : Nat) : Int) ((2 : Nat) : Int) ((c.1 : Nat) : Int) ((d.1 : Nat) : Int) ((h.1 + 1 : Nat) : Int) ((w.1 + 1 : Nat) : Int) = true := by decide +kernel
open PySem PySem.W PySem.Calls PyProof.Rows
set_option Elab.async false
set_option maxRecDepth 100000
set_option linter.unusedVariables false
theorem note_is {u many p w ww : Int} {e : Nat} (i : Nat) (hm : many = 2 ^ ww.toNat) (hw : w = -u * p) (hp : p = many ^ e) (he : e = i) : w = u * noteOf ww i := by
  rw [hw, hp, hm, he, noteOf, Int.neg_mul, Int.mul_neg]
theorem notes_is {c0 c1 c2 c3 hh ww many u : Int} {v0 p0 : Int} {e0 : Nat} {v1 p1 : Int} {e1 : Nat} {v2 p2 : Int} {e2 : Nat} {v3 p3 : Int} {e3 : Nat} {N1 N2 N3 N4 M1 M2 M3 M4 : List Int} (hN4 : N4 = N3 ++ M4) (hM4 : M4 = List.replicate c3.toNat v3) (hv3 : v3 = -u * p3) (hp3 : p3 = many ^ e3) (he3 : e3 = 3) (hN3 : N3 = N2 ++ M3) (hM3 : M3 = List.replicate c2.toNat v2) (hv2 : v2 = -u * p2) (hp2 : p2 = many ^ e2) (he2 : e2 = 2) (hN2 : N2 = N1 ++ M2) (hM2 : M2 = List.replicate c1.toNat v1) (hv1 : v1 = -u * p1) (hp1 : p1 = many ^ e1) (he1 : e1 = 1) (hN1 : N1 = [] ++ M1) (hM1 : M1 = List.replicate c0.toNat v0) (hv0 : v0 = -u * p0) (hp0 : p0 = many ^ e0) (he0 : e0 = 0) (hm : many = 2 ^ ww.toNat) : N4 = (outsOf c0 c1 c2 c3 hh ww u).notes := by
  rw [hN4, hM4, hN3, hM3, hN2, hM2, hN1, hM1, note_is 3 hm hv3 hp3 he3, note_is 2 hm hv2 hp2 he2, note_is 1 hm hv1 hp1 he1, note_is 0 hm hv0 hp0 he0]
  rfl
theorem chk_all {c0 c1 c2 c3 hh ww : Int} (hc0 : 0 ≤ c0 ∧ c0 ≤ 2) (hc1 : 0 ≤ c1 ∧ c1 ≤ 2) (hc2 : 0 ≤ c2 ∧ c2 ≤ 2) (hc3 : 0 ≤ c3 ∧ c3 ≤ 2) (hh1 : 1 ≤ hh ∧ hh ≤ 4) (hw : 1 ≤ ww ∧ ww ≤ 2) : chk c0 c1 c2 c3 hh ww = true := by
  obtain ⟨a, rfl⟩ := Int.eq_ofNat_of_zero_le hc0.1
  obtain ⟨b, rfl⟩ := Int.eq_ofNat_of_zero_le hc1.1
  obtain ⟨c, rfl⟩ := Int.eq_ofNat_of_zero_le hc2.1
  obtain ⟨d, rfl⟩ := Int.eq_ofNat_of_zero_le hc3.1
  obtain ⟨e, rfl⟩ := Int.eq_ofNat_of_zero_le (show 0 ≤ hh by omega)
  obtain ⟨f, rfl⟩ := Int.eq_ofNat_of_zero_le (show 0 ≤ ww by omega)
  obtain ⟨h, rfl⟩ : ∃ h, e = h + 1 := ⟨e - 1, by omega⟩
  obtain ⟨w, rfl⟩ : ∃ w, f = w + 1 := ⟨f - 1, by omega⟩
  have ha : a = 0 ∨ a = 1 ∨ a = 2 := by omega
  have hb : b = 0 ∨ b = 1 ∨ b = 2 := by omega
  rcases ha with rfl | rfl | rfl <;> rcases hb with rfl | rfl | rfl
  · exact chk_00 ⟨w, by omega⟩ ⟨h, by omega⟩ ⟨c, by omega⟩ ⟨d, by omega⟩
  · exact chk_01 ⟨w, by omega⟩ ⟨h, by omega⟩ ⟨c, by omega⟩ ⟨d, by omega⟩
  · exact chk_02 ⟨w, by omega⟩ ⟨h, by omega⟩ ⟨c, by omega⟩ ⟨d, by omega⟩
  · exact chk_10 ⟨w, by omega⟩ ⟨h, by omega⟩ ⟨c, by omega⟩ ⟨d, by omega⟩
  · exact chk_11 ⟨w, by omega⟩ ⟨h, by omega⟩ ⟨c, by omega⟩ ⟨d, by omega⟩
  · exact chk_12 ⟨w, by omega⟩ ⟨h, by omega⟩ ⟨c, by omega⟩ ⟨d, by omega⟩
  · exact chk_20 ⟨w, by omega⟩ ⟨h, by omega⟩ ⟨c, by omega⟩ ⟨d, by omega⟩
  · exact chk_21 ⟨w, by omega⟩ ⟨h, by omega⟩ ⟨c, by omega⟩ ⟨d, by omega⟩
  · exact chk_22 ⟨w, by omega⟩ ⟨h, by omega⟩ ⟨c, by omega⟩ ⟨d, by omega⟩
theorem plain {c0 c1 c2 c3 hh ww u : Int} (hc0 : 0 ≤ c0 ∧ c0 ≤ 2) (hc1 : 0 ≤ c1 ∧ c1 ≤ 2) (hc2 : 0 ≤ c2 ∧ c2 ≤ 2) (hc3 : 0 ≤ c3 ∧ c3 ≤ 2) (hh1 : 1 ≤ hh ∧ hh ≤ 4) (hw : 1 ≤ ww ∧ ww ≤ 2) (hu : 1 ≤ u) :
    (shareF hh (2 ^ ww.toNat) u 40 ⟨heapifyF (outsOf c0 c1 c2 c3 hh ww u).notes, [], [], []⟩).1 = (outsOf c0 c1 c2 c3 hh ww u).come ∧
    (shareF hh (2 ^ ww.toNat) u 40 ⟨heapifyF (outsOf c0 c1 c2 c3 hh ww u).notes, [], [], []⟩).2.1 = (outsOf c0 c1 c2 c3 hh ww u).due ∧
    (shareF hh (2 ^ ww.toNat) u 40 ⟨heapifyF (outsOf c0 c1 c2 c3 hh ww u).notes, [], [], []⟩).2.2 = List.replicate (outsOf c0 c1 c2 c3 hh ww u).changed.toNat (-u) ∧
    diffF (outsOf c0 c1 c2 c3 hh ww u).notes.length (outsOf c0 c1 c2 c3 hh ww u).notes (takenOf hh (shareF hh (2 ^ ww.toNat) u 40 ⟨heapifyF (outsOf c0 c1 c2 c3 hh ww u).notes, [], [], []⟩).2.1 ++ (shareF hh (2 ^ ww.toNat) u 40 ⟨heapifyF (outsOf c0 c1 c2 c3 hh ww u).notes, [], [], []⟩).2.2) [] = ((outsOf c0 c1 c2 c3 hh ww u).missing, (outsOf c0 c1 c2 c3 hh ww u).more) := by
  have h := chk_all hc0 hc1 hc2 hc3 hh1 hw
  rw [chk] at h
  cases hr : shareC hh (2 ^ ww.toNat) 40 ⟨heapifyF (outsOf c0 c1 c2 c3 hh ww 1).notes, [], [], []⟩ with
  | none => rw [hr] at h; cases h
  | some r =>
    rw [hr] at h
    simp only [Bool.and_eq_true, beq_iff_eq] at h
    obtain ⟨⟨⟨h1, h2⟩, h3⟩, h4⟩ := h
    have hp : (2 : Int) ^ ww.toNat ≠ 0 := Int.ne_of_gt (Int.pow_pos (by decide))
    have hs := shareC_is (u := u) (by omega) hh1.1 hp 40 _ r hr
    have e : ShareSt.scale u ⟨heapifyF (outsOf c0 c1 c2 c3 hh ww 1).notes, [], [], []⟩ = ⟨heapifyF (outsOf c0 c1 c2 c3 hh ww u).notes, [], [], []⟩ := by
      rw [outs_scale c0 c1 c2 c3 hh ww u, ShareSt.scale]
      simp only [List.map_nil]
      rw [heapifyF_map (by omega)]
    rw [e] at hs
    rw [hs]
    refine ⟨?_, ?_, ?_, ?_⟩
    · rw [outs_scale c0 c1 c2 c3 hh ww u, h1]
    · rw [outs_scale c0 c1 c2 c3 hh ww u, h2]
    · rw [outs_scale c0 c1 c2 c3 hh ww u, h3, List.map_replicate, Int.mul_neg, Int.mul_one]
    · rw [outs_scale c0 c1 c2 c3 hh ww u]
      dsimp only
      rw [takenOf_map, ← List.map_append, List.length_map]
      have hd := diffF_map (u := u) (by omega) (outsOf c0 c1 c2 c3 hh ww 1).notes.length (outsOf c0 c1 c2 c3 hh ww 1).notes (takenOf hh r.2.1 ++ r.2.2) []
      rw [List.map_nil] at hd
      rw [hd, h4]
open PySem PySem.W PySem.Calls PyProof.Rows
set_option Elab.async false
set_option maxRecDepth 100000
set_option linter.unusedVariables false
theorem tk_left {hh : Int} {tk sh lf : List Int} (e : tk = takenOf hh sh) (h4 : 1 ≤ hh ∧ hh ≤ 4) (h1 : sh.length ≤ 40) (h2 : lf.length ≤ 160) : tk.length + lf.length ≤ 1000 := by
  rw [e, takenOf_len]
  have : sh.length * hh.toNat ≤ 40 * 4 := Nat.mul_le_mul h1 (by omega)
  omega
theorem tk_app {hh : Int} {tk sh lf : List Int} (e : tk = takenOf hh sh) (h4 : 1 ≤ hh ∧ hh ≤ 4) (h1 : sh.length ≤ 40) (h2 : lf.length ≤ 160) : (tk ++ lf).length ≤ 1000 := by
  rw [List.length_append]; exact tk_left e h4 h1 h2
theorem eq_pairs {prog : Program} {w : World} {A : Around} {E : Value → Shared → Prop} {s : Shared} {Q : Value → Shared → Prop} {h₀ : Heap} {L S T a b c d : Addr} {news : List (Addr × Obj)} {k1 k2 k3 k4 n1 n2 : Nat} {xs ys zs ws : List Value} {ns ms : List Int} (N : News h₀ L s.heap news)
    (hS : (S, { cls := .type "tuple", data := .seq #[.ref a, .ref b] n1 }) ∈ news) (hT : (T, { cls := .type "tuple", data := .seq #[.ref c, .ref d] n2 }) ∈ news)
    (ha : (a, listOf xs.toArray k1) ∈ news) (hb : (b, listOf ys.toArray k2) ∈ news) (hc : (c, listOf zs.toArray k3) ∈ news) (hd : (d, listOf ws.toArray k4) ∈ news)
    (i1 : IntsAre xs ns) (i2 : IntsAre ys ms) (i3 : IntsAre zs ns) (i4 : IntsAre ws ms) (hu : A.units + 64 < cLine) (h : Q (.bool true) s) : wpAny (model prog w) A (compareOp .Eq (.ref S) (.ref T)) Q E s := by
  refine eq_dataH (reads_tuple_at (N _ hS).1 rfl rfl (.cons (reads_newData ⟨_, (N _ ha).1, rfl, k1, rfl⟩ (ke_carried i1)) (.cons (reads_newData ⟨_, (N _ hb).1, rfl, k2, rfl⟩ (ke_carried i2)) .nil)))
    (reads_tuple_at (N _ hT).1 rfl rfl (.cons (reads_newData ⟨_, (N _ hc).1, rfl, k3, rfl⟩ (ke_carried i3)) (.cons (reads_newData ⟨_, (N _ hd).1, rfl, k4, rfl⟩ (ke_carried i4)) .nil))) ?_ ?_ hu ?_
  · simp [SeqAt.shaped, PyData.canLay0, PyData.canLayAll0, PyData.depth, PyData.depthAll, ke_canLayAll0, ke_depthAll]
  · simp [SeqAt.shaped, PyData.canLay0, PyData.canLayAll0, PyData.depth, PyData.depthAll, ke_canLayAll0, ke_depthAll]
  · simp only [PyData.eqv, PyData.eqvAll, ked_eqvAll, decide_true, Bool.and_true]
    exact h
open PySem PySem.W PySem.Calls PyProof.Rows
set_option Elab.async false
set_option maxRecDepth 100000
set_option maxHeartbeats 8000000
set_option linter.unusedVariables false
section
variable {prog : Program} {w : World} {A : Around} {E : Value → Shared → Prop} {s : Shared} {h₀ : Heap} {L D b x y : Addr} {ox oy : Obj} {m : Str → Option Value} {rest : List (Addr × Obj)} {g : Obj → List (Addr × Obj)} {ys zs : List Value} {ns ms : List Int} {n n2 : Nat} {Q : Value → Shared → Prop}
/-- list.extend by a new list that stands at the ledger's head above a list of one note: both are left out behind -/
theorem extend_D2 (F : Fr h₀ L s.heap m) (N : News h₀ L s.heap ((b, listOf zs.toArray n2) :: (x, ox) :: rest)) (U : UpdF D (listOf ys.toArray n) rest g) (h1 : @Ne Nat b D) (h2 : @Ne Nat x D) (hi : IntsAre ys ns) (hj : IntsAre zs ms) (hz : ns.length + ms.length ≤ 1000000)
    (h : ∀ h' us n' ns', ns' = ns ++ ms → ns'.length = ns.length + ms.length → Fr h₀ L h' m → News h₀ L h' (g (listOf (us : List Value).toArray n')) → IntsAre us ns' → Q .none { s with heap := h' }) : wpAny (model prog w) A (call (.builtin "list.extend") [.ref D, .ref b]) Q E s :=
  extend_B F N (UpdF.tail h1 (UpdF.tail h2 U)) (.head _) hi hj hz fun h' us n' ns' e1 e2 F' N' hI' => h h' us n' ns' e1 e2 F' (fun p hp => N' p (.tail _ (.tail _ hp))) hI'
theorem extend_D3 {vt : Array Value} {nt : Nat} (F : Fr h₀ L s.heap m) (N : News h₀ L s.heap ((b, listOf zs.toArray n2) :: (x, ox) :: (y, { cls := .type "tuple", data := .seq vt nt }) :: rest)) (U : UpdF D (listOf ys.toArray n) rest g) (h1 : @Ne Nat b D) (h2 : @Ne Nat x D) (h3 : @Ne Nat y D) (hi : IntsAre ys ns) (hj : IntsAre zs ms) (hz : ns.length + ms.length ≤ 1000000)
    (h : ∀ h' us n' ns', ns' = ns ++ ms → ns'.length = ns.length + ms.length → Fr h₀ L h' m → News h₀ L h' (g (listOf (us : List Value).toArray n')) → IntsAre us ns' → Q .none { s with heap := h' }) : wpAny (model prog w) A (call (.builtin "list.extend") [.ref D, .ref b]) Q E s :=
  extend_B F N (UpdF.tail h1 (UpdF.tail h2 (UpdF.tail h3 U))) (.head _) hi hj hz fun h' us n' ns' e1 e2 F' N' hI' => h h' us n' ns' e1 e2 F' (fun p hp => N' p (.tail _ (.tail _ (.tail _ hp)))) hI'
end
section
variable {w : World} {loose : List Str} {mean : ExcName → Option Value} {mg mb : Str → Option Value} {dp un : Nat} {gd : Option (List Code)} {cn : Str} {cs : Scope} {a : Addr} {ccd : Value} {cl : List (Str × Addr)} {outer : List Env} {A₀ : Around} {base h₀ : Heap} {L : Addr} {m : Str → Option Value}
variable {news : List (Addr × Obj)} {g : Obj → List (Addr × Obj)} {s : Shared} {Q E : Value → Shared → Prop}
theorem d2iD1_use {c0 c1 c2 c3 n : Int} {i : Nat} {tn : Tok} {dl x : Addr} {ox : Obj} {rest : List (Addr × Obj)} {vs : List Value} {k : Nat} (hI : IntsAre vs (List.map (fun k => -k) (List.drop i [c0, c1, c2, c3]))) (hn1 : 1 ≤ n) (hn2 : n ≤ 2) (hc0 : 0 ≤ c0 ∧ c0 ≤ 2) (hc1 : 0 ≤ c1 ∧ c1 ≤ 2) (hc2 : 0 ≤ c2 ∧ c2 ≤ 2) (hc3 : 0 ≤ c3 ∧ c3 ≤ 2) (B : Below A₀ base outer h₀) (F : Fr h₀ L s.heap m) (X : (hd.heap_1 w.params).In h₀) (N : News h₀ L s.heap ((dl, listOf vs.toArray k) :: (x, ox) :: rest)) (T : Top topProg loose mean mg mb h₀) (hs : cs.kind = .function) (hC : CodeHd h₀ 41 37)
    (U : UpdF 37 (tabObj #[]) rest g) (hd1 : @Ne Nat dl 37) (hd2 : @Ne Nat x 37) (hd : dp + 20 < recursionLimit)
    (ret : ∀ v t h' tk' c' oc fvs ft, v = digV c0 c1 c2 c3 i n → (-170 ≤ v ∧ v ≤ 0) → oc.data = .fields fvs → fvs[1]? = some (.str (Str.ofString "_digits2int.<locals>.inner") ft) → Fr h₀ L h' m → News h₀ L h' ((c', oc) :: g (tabObj #[rawInt 47, rawInt 4, .ref c'])) → (∀ p ∈ rest, p.1 ≠ c') → Q (.int v t) { s with heap := h', toks := tk' }) :
    wpAny (model PySem.Challenge.rw_op0106_01.row.prog w) (ktrTop dp un gd cn cs L a ccd cl outer) (call (.ref 42) [.ref dl, .int n tn]) Q E s :=
  d2iL1_use hI hn1 hn2 hc0 hc1 hc2 hc3 B F X N T hs hC (UpdF.tail hd1 (UpdF.tail hd2 U)) (.head _) hd fun v t h' tk' c' oc fvs ft e1 e2 e3 e4 e5 e6 e7 => ret v t h' tk' c' oc fvs ft e1 e2 e3 e4 e5 (fun p hp => e6 p (by rcases List.mem_cons.mp hp with rfl | hp; exact .head _; exact .tail _ (.tail _ (.tail _ hp)))) (fun p hp => e7 p (.tail _ (.tail _ hp)))
theorem d2iD2_use {c0 c1 c2 c3 n : Int} {i : Nat} {tn : Tok} {dl x : Addr} {ox : Obj} {rest : List (Addr × Obj)} {vs : List Value} {k : Nat} {c' : Addr} {oc : Obj} {fvs : Array Value} {ft : Tok} (hI : IntsAre vs (List.map (fun k => -k) (List.drop i [c0, c1, c2, c3]))) (hn1 : 1 ≤ n) (hn2 : n ≤ 2) (hc0 : 0 ≤ c0 ∧ c0 ≤ 2) (hc1 : 0 ≤ c1 ∧ c1 ≤ 2) (hc2 : 0 ≤ c2 ∧ c2 ≤ 2) (hc3 : 0 ≤ c3 ∧ c3 ≤ 2) (B : Below A₀ base outer h₀) (F : Fr h₀ L s.heap m) (X : (hd.heap_1 w.params).In h₀) (N : News h₀ L s.heap ((dl, listOf vs.toArray k) :: (x, ox) :: rest)) (T : Top topProg loose mean mg mb h₀) (hs : cs.kind = .function) (hC : CodeHd h₀ 41 37)
    (hU : (37, tabObj #[rawInt 47, rawInt 4, .ref c']) ∈ rest) (hc : (c', oc) ∈ rest) (hoc : oc.data = .fields fvs) (hft : fvs[1]? = some (.str (Str.ofString "_digits2int.<locals>.inner") ft)) (hd : dp + 20 < recursionLimit)
    (ret : ∀ v t h' tk', v = digV c0 c1 c2 c3 i n → (-170 ≤ v ∧ v ≤ 0) → Fr h₀ L h' m → News h₀ L h' rest → Q (.int v t) { s with heap := h', toks := tk' }) :
    wpAny (model PySem.Challenge.rw_op0106_01.row.prog w) (ktrTop dp un gd cn cs L a ccd cl outer) (call (.ref 42) [.ref dl, .int n tn]) Q E s :=
  d2iL2_use hI hn1 hn2 hc0 hc1 hc2 hc3 B F X N T hs hC (.tail _ (.tail _ hU)) (.tail _ (.tail _ hc)) hoc hft (.head _) hd fun v t h' tk' e1 e2 e3 e4 => ret v t h' tk' e1 e2 e3 (fun p hp => e4 p (.tail _ (.tail _ hp)))
end
open PySem PySem.W PySem.Calls PyProof.Rows
set_option Elab.async false
set_option maxRecDepth 100000
set_option maxHeartbeats 8000000
set_option linter.unusedVariables false
theorem take_one (ns : List Int) (i : Nat) (h : i < ns.length) : ns.take (i + 1) = ns.take i ++ [ns[i]] := by rw [List.take_add_one, List.getElem?_eq_getElem h]; rfl
/-- a turn's end -/
def LawEnd (h₀ : Heap) (L : Addr) (J : (Str → Option Value) → List (Addr × Obj) → Prop) (x : Addr × Obj) (s₁ s₂ : Shared) : Prop :=
  ∃ h' tk m' nx, s₂ = { s₁ with heap := h', toks := tk } ∧ Fr h₀ L h' m' ∧ News h₀ L h' (x :: nx) ∧ (∀ p ∈ nx, p.1 ≠ x.1) ∧ J m' nx
def LawPost (h₀ : Heap) (L : Addr) (J : (Str → Option Value) → List (Addr × Obj) → Prop) (x : Addr × Obj) (s₁ : Shared) (Q : Flow → Shared → Prop) (f : Flow) (s₂ : Shared) : Prop :=
  match f with
  | .ret v => Q (.ret v) s₂
  | .brk => Q .next s₂
  | _ => LawEnd h₀ L J x s₁ s₂
section
variable {prog : Program} {w : World} {A : Around} {E : Value → Shared → Prop} {s : Shared} {env : Env} {h₀ : Heap} {x : Str} {body : List Stmt} {Q : Flow → Shared → Prop}
/-- a loop over a list of the ledger: between the turns any word of the frame and the ledger, the ledger may grow -/
theorem law_loop {l : Addr} {vs : List Value} {ns : List Int} {nn : Nat} {m₀ : Str → Option Value} {news : List (Addr × Obj)} (J : List Int → (Str → Option Value) → List (Addr × Obj) → Prop)
    (hJl : ∀ pre m nx, J pre m nx → (l, listOf vs.toArray nn) ∈ nx)
    (hh : A.handled = none) (hi : IntsAre vs ns) (F : Fr h₀ env.locals s.heap m₀) (N : News h₀ env.locals s.heap news) (hj : J [] m₀ news)
    (turn : ∀ pre post k t m₁ nx I oI h tk, ns = pre ++ k :: post → J pre m₁ nx → (∀ p ∈ nx, p.1 ≠ I) → Fr h₀ env.locals h (fun y => if y = x then some (.int k t) else m₁ y) → News h₀ env.locals h ((I, oI) :: nx) →
      wpAny (model prog w) A (execs body env) (LawPost h₀ env.locals (J (pre ++ [k])) (I, oI) { s with heap := h, toks := tk } Q) E { s with heap := h, toks := tk })
    (done : ∀ m₁ nx h tk, J ns m₁ nx → Fr h₀ env.locals h m₁ → News h₀ env.locals h nx → Q .next { s with heap := h, toks := tk }) :
    wpAny (model prog w) A (pyIter (.ref l)) (fun it s₂ => LoopAtV prog w A h₀ env x body Q E it s₂) E s := by
  have hl := hJl _ _ _ hj
  have hol : s.heap.get? l = some (listOf vs.toArray nn) := (N _ hl).1
  have hls : s.heap.IsList l vs.toArray := ⟨_, hol, rfl, nn, rfl⟩
  have hne : l ≠ s.heap.objs.size := Nat.ne_of_lt (Heap.lt_size hol)
  refine wpAny_pyIter_list hls ?_
  have W := Walks.list (prog := prog) (w := w) hh s.heap.objs.size l hne vs.toArray
  have hlen : vs.toArray.size = ns.length := by simp [hi.length]
  rw [hlen] at W
  refine ⟨_, _, _, ns.length, _, _, m₀, news, (fun i m nx => J (ns.take i) m nx), rfl, W, ?_, ?_, ?_, ⟨⟨_, Heap.get?_push_size _ rfl, rfl, rfl⟩, hls.at fun o e => Heap.get?_push_of_some _ e⟩, F.push _, (fun p hp => ⟨Heap.get?_push_of_some _ (N p hp).1, (N p hp).2⟩), hj, ?_, ?_⟩
  · intro hm
    rcases List.mem_cons.mp hm with e | hm
    · exact absurd F.ns.lt (e ▸ Nat.lt_irrefl _)
    · exact (N _ hl).2.1 ((List.mem_singleton.mp hm).symm)
  · intro b hb
    rw [List.mem_singleton.mp hb]
    exact next_is_new F
  · intro p hp hI
    exact absurd (Heap.lt_size (N p hp).1) ((List.mem_singleton.mp hI) ▸ Nat.lt_irrefl _)
  · rintro i v m₁ news₁ s₁ own ⟨hh', tk', rfl⟩ hin hP hJ hoff hown hget hfp hst F₁ N₁
    obtain ⟨⟨oI, hI, _⟩, _⟩ := hst
    have hIn : (s.heap.objs.size, oI) ∈ own := hfp _ (.head _) (next_is_new F) _ hI
    have hlt' : i < ns.length := hin
    obtain ⟨t, hx⟩ := hi.get i ns[i] (List.getElem?_eq_getElem hlt')
    have hv : v = .int ns[i] t := by
      have hP' : vs[i]? = some v := by simpa using hP
      rw [hx] at hP'; exact (Option.some.inj hP').symm
    subst hv
    have hs : ns.take (i + 1) = ns.take i ++ [ns[i]] := take_one ns i hlt'
    have he : ns = ns.take i ++ ns[i] :: ns.drop (i + 1) := by
      have ht := List.take_append_drop (i + 1) ns
      rw [hs, List.append_assoc] at ht
      exact ht.symm
    have N₂ : News h₀ env.locals hh' ((s.heap.objs.size, oI) :: news₁) := fun p hp => by
      rcases List.mem_cons.mp hp with rfl | hp
      · exact N₁ _ (List.mem_append_left _ hIn)
      · exact N₁ _ (List.mem_append_right _ hp)
    have hoff' : ∀ p ∈ news₁, p.1 ≠ s.heap.objs.size := fun p hp q => hoff p hp (by rw [q]; exact .head _)
    have hlo : hh'.get? l = some (listOf vs.toArray nn) := (N₂ _ (.tail _ (hJl _ _ _ hJ))).1
    refine wpAny_mono (turn _ _ ns[i] t m₁ news₁ _ oI hh' tk' he hJ hoff' F₁ N₂) (fun f s₂ p => ?_) fun _ _ e => e
    have fin : LawEnd h₀ env.locals (J (ns.take i ++ [ns[i]])) (s.heap.objs.size, oI) { s with heap := hh', toks := tk' } s₂ →
        LoopStepU h₀ env.locals [s.heap.objs.size] own (fun m nx => J (ns.take (i + 1)) m nx) { s with heap := hh', toks := tk' } .next s₂ := by
      rintro ⟨h', tk, m', nx, e, F', N', hn, hm⟩
      rw [← hs] at hm
      refine ⟨rfl, h', tk, m', nx, e, F', fun p hp => ?_, fun p hp q => hn p hp (List.mem_singleton.mp q), hm⟩
      rcases List.mem_append.mp hp with h | h
      · rcases List.mem_cons.mp (hown p h) with h1 | h1
        · have h2 : hh'.get? p.1 = some p.2 := hget p h
          rw [h1, hI] at h2
          have h3 : p = (s.heap.objs.size, oI) := Prod.ext h1 (Option.some.inj h2).symm
          rw [h3]; exact N' _ (.head _)
        · have h1 : p.1 = l := List.mem_singleton.mp h1
          have h2 : hh'.get? p.1 = some p.2 := hget p h
          rw [h1, hlo] at h2
          have h3 : p = (l, listOf vs.toArray nn) := Prod.ext h1 (Option.some.inj h2).symm
          rw [h3]; exact N' _ (.tail _ (hJl _ _ _ hm))
      · exact N' p (.tail _ h)
    cases f with
    | ret v => exact .ret p
    | brk => exact .brk p
    | next => exact .next (fin p)
    | cont => exact .cont (fin p)
  · rintro h' tk m' news' F' N' _ hJ
    rw [List.take_length] at hJ
    exact done m' news' h' tk hJ F' N'
end
open PySem PySem.W PySem.Calls PyProof.Rows
set_option Elab.async false
set_option maxRecDepth 100000
set_option maxHeartbeats 8000000
set_option linter.unusedVariables false
/-- a table of made defs' code that is filled -/
def TabIn (a b : Int) (q : String) (t : Obj) (R : List (Addr × Obj)) : Prop :=
  ∃ c oc fvs ft, t = tabObj #[rawInt a, rawInt b, .ref c] ∧ (c, oc) ∈ R ∧ oc.data = .fields fvs ∧ fvs[1]? = some (.str (Str.ofString q) ft)
def TabOk (a b : Int) (q : String) (t : Obj) (R : List (Addr × Obj)) : Prop := t = tabObj #[] ∨ TabIn a b q t R
theorem TabIn.mono {a b : Int} {q : String} {t : Obj} {R R' : List (Addr × Obj)} (h : TabIn a b q t R) (hs : ∀ p ∈ R, p ∈ R') : TabIn a b q t R' := by
  obtain ⟨c, oc, fvs, ft, e, hm, h1, h2⟩ := h
  exact ⟨c, oc, fvs, ft, e, hs _ hm, h1, h2⟩
theorem TabOk.mono {a b : Int} {q : String} {t : Obj} {R R' : List (Addr × Obj)} (h : TabOk a b q t R) (hs : ∀ p ∈ R, p ∈ R') : TabOk a b q t R' := h.imp id fun h => h.mono hs
/-- the ledger's rest: the two tables, what they name, and more that stands off the given addresses -/
def RestP (T : Obj → List (Addr × Obj) → Prop) (adr : List Addr) (R : List (Addr × Obj)) : Prop :=
  ∃ t30 t37 R0, R = (30, t30) :: (37, t37) :: R0 ∧ TabOk 32 4 "_int2digits.<locals>.inner" t30 R0 ∧ T t37 R0 ∧ OwnOff R adr ∧ OwnOff R0 [30, 37]
def Rest (adr : List Addr) (R : List (Addr × Obj)) : Prop := RestP (TabOk 47 4 "_digits2int.<locals>.inner") adr R
def RestF (adr : List Addr) (R : List (Addr × Obj)) : Prop := RestP (TabIn 47 4 "_digits2int.<locals>.inner") adr R
theorem RestF.rest {adr : List Addr} {R : List (Addr × Obj)} (h : RestF adr R) : Rest adr R := by
  obtain ⟨t30, t37, R0, e, h1, h2, h3, h4⟩ := h
  exact ⟨t30, t37, R0, e, h1, .inr h2, h3, h4⟩
theorem Rest.off {adr : List Addr} {R : List (Addr × Obj)} (h : Rest adr R) : OwnOff R adr := by
  obtain ⟨t30, t37, R0, e, h1, h2, h3, h4⟩ := h
  exact h3
theorem RestF.off {adr : List Addr} {R : List (Addr × Obj)} (h : RestF adr R) : OwnOff R adr := h.rest.off
def Kept (R R' : List (Addr × Obj)) : Prop := ∀ p ∈ R, p.1 ≠ 30 → p.1 ≠ 37 → p ∈ R'
theorem Kept.refl {R : List (Addr × Obj)} : Kept R R := fun _ h _ _ => h
theorem Kept.trans {R R' R'' : List (Addr × Obj)} (h : Kept R R') (h' : Kept R' R'') : Kept R R'' := fun p hp a b => h' p (h p hp a b) a b
theorem list_off {h₀ h : Heap} {L D P : Addr} {news : List (Addr × Obj)} {vs ps : Array Value} {k : Nat} (N : News h₀ L h news) (h1 : (P, tabObj ps) ∈ news) (h2 : (D, listOf vs k) ∈ news) : @Ne Nat D P := fun e => by
  have z1 := (N _ h1).1
  have z2 := (N _ h2).1
  rw [show P = D from e.symm, z2] at z1
  have z3 : listOf vs k = tabObj ps := Option.some.inj z1
  have z4 := congrArg Obj.data z3
  cases z4
theorem TabOk.tab {a b : Int} {q : String} {t : Obj} {R : List (Addr × Obj)} (h : TabOk a b q t R) : ∃ ps, t = tabObj ps := by
  rcases h with rfl | ⟨c, oc, fvs, ft, rfl, _⟩
  · exact ⟨_, rfl⟩
  · exact ⟨_, rfl⟩
theorem updF6 {D1 D2 D3 D4 D5 D6 P : Addr} {o1 o2 o3 o4 o5 o6 o : Obj} {R : List (Addr × Obj)} (h1 : @Ne Nat D1 P) (h2 : @Ne Nat D2 P) (h3 : @Ne Nat D3 P) (h4 : @Ne Nat D4 P) (h5 : @Ne Nat D5 P) (h6 : @Ne Nat D6 P) {g : Obj → List (Addr × Obj)} (U : UpdF P o R g) :
    UpdF P o ((D1, o1) :: (D2, o2) :: (D3, o3) :: (D4, o4) :: (D5, o5) :: (D6, o6) :: R) (fun o' => (D1, o1) :: (D2, o2) :: (D3, o3) :: (D4, o4) :: (D5, o5) :: (D6, o6) :: g o') :=
  UpdF.tail h1 (UpdF.tail h2 (UpdF.tail h3 (UpdF.tail h4 (UpdF.tail h5 (UpdF.tail h6 U)))))
theorem off_cons {p : Addr × Obj} {R : List (Addr × Obj)} {adr : List Addr} (h : ∀ b ∈ adr, p.1 ≠ b) (hR : OwnOff R adr) : OwnOff (p :: R) adr := fun q hq b hb => by
  rcases List.mem_cons.mp hq with rfl | hq
  · exact h b hb
  · exact hR q hq b hb
theorem ne6 {D1 D2 D3 D4 D5 D6 c : Addr} {o1 o2 o3 o4 o5 o6 : Obj} {R : List (Addr × Obj)} (h : ∀ p ∈ (D1, o1) :: (D2, o2) :: (D3, o3) :: (D4, o4) :: (D5, o5) :: (D6, o6) :: R, p.1 ≠ c) : (∀ b ∈ [D1, D2, D3, D4, D5, D6], c ≠ b) ∧ ∀ p ∈ R, p.1 ≠ c := by
  refine ⟨fun b hb e => ?_, fun p hp => h p (.tail _ (.tail _ (.tail _ (.tail _ (.tail _ (.tail _ hp))))))⟩
  simp only [List.mem_cons, List.not_mem_nil, or_false] at hb
  rcases hb with rfl | rfl | rfl | rfl | rfl | rfl
  · exact h _ (.head _) e.symm
  · exact h _ (.tail _ (.head _)) e.symm
  · exact h _ (.tail _ (.tail _ (.head _))) e.symm
  · exact h _ (.tail _ (.tail _ (.tail _ (.head _)))) e.symm
  · exact h _ (.tail _ (.tail _ (.tail _ (.tail _ (.head _))))) e.symm
  · exact h _ (.tail _ (.tail _ (.tail _ (.tail _ (.tail _ (.head _)))))) e.symm
theorem mem_swap {p c : Addr × Obj} (l r : List (Addr × Obj)) (hp : p ∈ l ++ c :: r) : p ∈ c :: (l ++ r) := by
  rcases List.mem_append.mp hp with h | h
  · exact .tail _ (List.mem_append_left _ h)
  · rcases List.mem_cons.mp h with rfl | h
    · exact .head _
    · exact .tail _ (List.mem_append_right _ h)
theorem mem_swap1 {p c d : Addr × Obj} (l r : List (Addr × Obj)) (hp : p ∈ d :: (l ++ c :: r)) : p ∈ d :: c :: (l ++ r) := by
  rcases List.mem_cons.mp hp with rfl | h
  · exact .head _
  · exact .tail _ (mem_swap l r h)
section
variable {w : World} {loose : List Str} {mean : ExcName → Option Value} {mg mb : Str → Option Value} {dp un : Nat} {gd : Option (List Code)} {cn : Str} {cs : Scope} {a : Addr} {ccd : Value} {cl : List (Str × Addr)} {outer : List Env} {A₀ : Around} {base h₀ : Heap} {L : Addr} {m : Str → Option Value}
variable {s : Shared} {Q E : Value → Shared → Prop} {D1 D2 D3 D4 D5 D6 : Addr} {o1 o2 o3 o4 o5 o6 : Obj} {R : List (Addr × Obj)}
theorem d2iT_use {c0 c1 c2 c3 n : Int} {i : Nat} {tn : Tok} {dl x : Addr} {xs : Array Value} {kx : Nat} {vs : List Value} {k : Nat} (hI : IntsAre vs (List.map (fun k => -k) (List.drop i [c0, c1, c2, c3]))) (hn1 : 1 ≤ n) (hn2 : n ≤ 2) (hc0 : 0 ≤ c0 ∧ c0 ≤ 2) (hc1 : 0 ≤ c1 ∧ c1 ≤ 2) (hc2 : 0 ≤ c2 ∧ c2 ≤ 2) (hc3 : 0 ≤ c3 ∧ c3 ≤ 2)
    (B : Below A₀ base outer h₀) (F : Fr h₀ L s.heap m) (X : (hd.heap_1 w.params).In h₀) (N : News h₀ L s.heap ((dl, listOf vs.toArray k) :: (x, listOf xs kx) :: (D1, o1) :: (D2, o2) :: (D3, o3) :: (D4, o4) :: (D5, o5) :: (D6, o6) :: R)) (T : Top topProg loose mean mg mb h₀) (hs : cs.kind = .function) (hC : CodeHd h₀ 41 37)
    (hR : Rest [D1, D2, D3, D4, D5, D6] R) (hd : dp + 20 < recursionLimit)
    (ret : ∀ v t h' tk' R', v = digV c0 c1 c2 c3 i n → (-170 ≤ v ∧ v ≤ 0) → RestF [D1, D2, D3, D4, D5, D6] R' → Kept R R' → OwnOff R' [D1, D2, D3, D4, D5, D6] → Fr h₀ L h' m → News h₀ L h' ((D1, o1) :: (D2, o2) :: (D3, o3) :: (D4, o4) :: (D5, o5) :: (D6, o6) :: R') → Q (.int v t) { s with heap := h', toks := tk' }) :
    wpAny (model PySem.Challenge.rw_op0106_01.row.prog w) (ktrTop dp un gd cn cs L a ccd cl outer) (call (.ref 42) [.ref dl, .int n tn]) Q E s := by
  obtain ⟨t30, t37, R0, rfl, T30, T37, hoff, hoff0⟩ := hR
  have hne : ∀ b ∈ [D1, D2, D3, D4, D5, D6], @Ne Nat b 37 := fun b hb e => hoff (37, t37) (.tail _ (.head _)) b hb e.symm
  have m37 : (37, t37) ∈ (D1, o1) :: (D2, o2) :: (D3, o3) :: (D4, o4) :: (D5, o5) :: (D6, o6) :: (30, t30) :: (37, t37) :: R0 := .tail _ (.tail _ (.tail _ (.tail _ (.tail _ (.tail _ (.tail _ (.head _)))))))
  rcases T37 with rfl | T37
  · have e1 := list_off N (.tail _ (.tail _ m37)) (.head _)
    have e2 := list_off N (.tail _ (.tail _ m37)) (.tail _ (.head _))
    have U : UpdF 37 (tabObj #[]) ((30, t30) :: (37, tabObj #[]) :: R0) (fun o => (30, t30) :: (37, o) :: R0) := UpdF.tail (show (30 : Nat) ≠ 37 by decide) (UpdF.head fun p hp => hoff0 p hp 37 (.tail _ (.head _)))
    refine d2iD1_use hI hn1 hn2 hc0 hc1 hc2 hc3 B F X N T hs hC (updF6 (hne _ (.head _)) (hne _ (.tail _ (.head _))) (hne _ (.tail _ (.tail _ (.head _)))) (hne _ (.tail _ (.tail _ (.tail _ (.head _))))) (hne _ (.tail _ (.tail _ (.tail _ (.tail _ (.head _)))))) (hne _ (.tail _ (.tail _ (.tail _ (.tail _ (.tail _ (.head _))))))) U) e1 e2 hd
      fun v t h' tk' c' oc fvs ft hv hvb hoc hft F' N' hne' => ?_
    obtain ⟨n1, n2⟩ := ne6 hne'
    have hoff' : OwnOff ((30, t30) :: (37, tabObj #[rawInt 47, rawInt 4, .ref c']) :: (c', oc) :: R0) [D1, D2, D3, D4, D5, D6] :=
      off_cons (hoff (30, t30) (.head _)) (off_cons (p := (37, tabObj #[rawInt 47, rawInt 4, .ref c'])) (hoff (37, tabObj #[]) (.tail _ (.head _))) (off_cons n1 fun p hp => hoff p (.tail _ (.tail _ hp))))
    refine ret v t h' tk' ((30, t30) :: (37, tabObj #[rawInt 47, rawInt 4, .ref c']) :: (c', oc) :: R0) hv hvb ⟨_, _, _, rfl, T30.mono fun _ h => .tail _ h, ⟨c', oc, fvs, ft, rfl, .head _, hoc, hft⟩, hoff', off_cons (fun b hb => ?_) hoff0⟩ (fun p hp a b => ?_) hoff' F' (fun p hp => N' p ?_)
    · simp only [List.mem_cons, List.not_mem_nil, or_false] at hb
      rcases hb with rfl | rfl
      · exact fun e => n2 (30, t30) (.head _) e.symm
      · exact fun e => n2 (37, tabObj #[]) (.tail _ (.head _)) e.symm
    · rcases List.mem_cons.mp hp with rfl | hp
      · exact absurd rfl a
      · rcases List.mem_cons.mp hp with rfl | hp
        · exact absurd rfl b
        · exact .tail _ (.tail _ (.tail _ hp))
    · exact mem_swap [_, _, _, _, _, _, _, _] _ hp
  · obtain ⟨c', oc, fvs, ft, rfl, hc, hoc, hft⟩ := T37
    exact d2iD2_use hI hn1 hn2 hc0 hc1 hc2 hc3 B F X N T hs hC m37 (.tail _ (.tail _ (.tail _ (.tail _ (.tail _ (.tail _ (.tail _ (.tail _ hc)))))))) hoc hft hd
      fun v t h' tk' hv hvb F' N' => ret v t h' tk' _ hv hvb ⟨_, _, _, rfl, T30, ⟨c', oc, fvs, ft, rfl, hc, hoc, hft⟩, hoff, hoff0⟩ .refl hoff F' N'
theorem idvT_use {x b : Int} {ta tb : Tok} (h1 : x ≤ 0) (h2 : -256 < x) (hb1 : b ≤ -1) (hb2 : -4 ≤ b)
    (B : Below A₀ base outer h₀) (F : Fr h₀ L s.heap m) (X : (hd.heap_1 w.params).In h₀) (N : News h₀ L s.heap ((D1, o1) :: (D2, o2) :: (D3, o3) :: (D4, o4) :: (D5, o5) :: (D6, o6) :: R)) (T : Top topProg loose mean mg mb h₀) (hs : cs.kind = .function) (hC30 : CodeHd h₀ 34 30) (hC37 : CodeHd h₀ 41 37)
    (hR : RestF [D1, D2, D3, D4, D5, D6] R) (hd : dp + 40 < recursionLimit)
    (ret : ∀ D nt q r t1 t2 h' tk' R', q = -x / -b → r = -(-x % -b) → (0 ≤ q ∧ q ≤ 255) → (-3 ≤ r ∧ r ≤ 0) → RestF [D1, D2, D3, D4, D5, D6] R' → Kept R R' → OwnOff R' [D1, D2, D3, D4, D5, D6] → Fr h₀ L h' m →
      News h₀ L h' ((D, { cls := .type "tuple", data := .seq #[.int q t1, .int r t2] nt }) :: (D1, o1) :: (D2, o2) :: (D3, o3) :: (D4, o4) :: (D5, o5) :: (D6, o6) :: R') → NeAll D [D1, D2, D3, D4, D5, D6] → Q (.ref D) { s with heap := h', toks := tk' }) :
    wpAny (model PySem.Challenge.rw_op0106_01.row.prog w) (ktrTop dp un gd cn cs L a ccd cl outer) (call (.ref 56) [.int x ta, .int b tb]) Q E s := by
  obtain ⟨t30, t37, R0, rfl, T30, T37, hoff, hoff0⟩ := hR
  obtain ⟨c2, oc2, fvs2, ft2, rfl, hc2, hoc2, hft2⟩ := T37
  have hne : ∀ b ∈ [D1, D2, D3, D4, D5, D6], @Ne Nat b 30 := fun b hb e => hoff (30, t30) (.head _) b hb e.symm
  have m37 : (37, tabObj #[rawInt 47, rawInt 4, .ref c2]) ∈ (D1, o1) :: (D2, o2) :: (D3, o3) :: (D4, o4) :: (D5, o5) :: (D6, o6) :: (30, t30) :: (37, tabObj #[rawInt 47, rawInt 4, .ref c2]) :: R0 := .tail _ (.tail _ (.tail _ (.tail _ (.tail _ (.tail _ (.tail _ (.head _)))))))
  have mc2 : (c2, oc2) ∈ (D1, o1) :: (D2, o2) :: (D3, o3) :: (D4, o4) :: (D5, o5) :: (D6, o6) :: (30, t30) :: (37, tabObj #[rawInt 47, rawInt 4, .ref c2]) :: R0 := .tail _ (.tail _ (.tail _ (.tail _ (.tail _ (.tail _ (.tail _ (.tail _ hc2)))))))
  rcases T30 with rfl | T30
  · have U : UpdF 30 (tabObj #[]) ((30, tabObj #[]) :: (37, tabObj #[rawInt 47, rawInt 4, .ref c2]) :: R0) (fun o => (30, o) :: (37, tabObj #[rawInt 47, rawInt 4, .ref c2]) :: R0) := UpdF.head fun p hp => by
      rcases List.mem_cons.mp hp with rfl | hp
      · exact show (37 : Nat) ≠ 30 by decide
      · exact hoff0 p hp 30 (.head _)
    refine idv1_use h1 h2 hb1 hb2 B F X N T hs hC30 hC37 (updF6 (hne _ (.head _)) (hne _ (.tail _ (.head _))) (hne _ (.tail _ (.tail _ (.head _)))) (hne _ (.tail _ (.tail _ (.tail _ (.head _))))) (hne _ (.tail _ (.tail _ (.tail _ (.tail _ (.head _)))))) (hne _ (.tail _ (.tail _ (.tail _ (.tail _ (.tail _ (.head _))))))) U) m37 mc2 hoc2 hft2 hd
      fun D nt q r t1 t2 h' tk' c1 oc1 fvs1 ft1 hq hr hqb hrb hoc hft F' N' hne' => ?_
    obtain ⟨n1, n2⟩ := ne6 (c := c1) fun p hp => (hne' p hp).2
    obtain ⟨n3, _⟩ := ne6 (c := D) fun p hp => (hne' p hp).1
    have hoff' : OwnOff ((30, tabObj #[rawInt 32, rawInt 4, .ref c1]) :: (37, tabObj #[rawInt 47, rawInt 4, .ref c2]) :: (c1, oc1) :: R0) [D1, D2, D3, D4, D5, D6] :=
      off_cons (p := (30, tabObj #[rawInt 32, rawInt 4, .ref c1])) (hoff (30, tabObj #[]) (.head _)) (off_cons (hoff _ (.tail _ (.head _))) (off_cons n1 fun p hp => hoff p (.tail _ (.tail _ hp))))
    refine ret D nt q r t1 t2 h' tk' ((30, tabObj #[rawInt 32, rawInt 4, .ref c1]) :: (37, tabObj #[rawInt 47, rawInt 4, .ref c2]) :: (c1, oc1) :: R0) hq hr hqb hrb ⟨_, _, _, rfl, .inr ⟨c1, oc1, fvs1, ft1, rfl, .head _, hoc, hft⟩, ⟨c2, oc2, fvs2, ft2, rfl, .tail _ hc2, hoc2, hft2⟩, hoff', off_cons (fun b hb => ?_) hoff0⟩ (fun p hp a b => ?_) hoff' F' (fun p hp => N' p ?_) (fun b hb e => n3 b hb e.symm)
    · simp only [List.mem_cons, List.not_mem_nil, or_false] at hb
      rcases hb with rfl | rfl
      · exact fun e => n2 (30, tabObj #[]) (.head _) e.symm
      · exact fun e => n2 (37, _) (.tail _ (.head _)) e.symm
    · rcases List.mem_cons.mp hp with rfl | hp
      · exact absurd rfl a
      · rcases List.mem_cons.mp hp with rfl | hp
        · exact absurd rfl b
        · exact .tail _ (.tail _ (.tail _ hp))
    · exact mem_swap1 [_, _, _, _, _, _, _, _] _ hp
  · obtain ⟨c1, oc1, fvs1, ft1, rfl, hc1, hoc1, hft1⟩ := T30
    refine idv2_use h1 h2 hb1 hb2 B F X N T hs hC30 hC37 (.tail _ (.tail _ (.tail _ (.tail _ (.tail _ (.tail _ (.head _))))))) (.tail _ (.tail _ (.tail _ (.tail _ (.tail _ (.tail _ (.tail _ (.tail _ hc1)))))))) hoc1 hft1 m37 mc2 hoc2 hft2 hd
      fun D nt q r t1 t2 h' tk' hq hr hqb hrb F' N' hne' => ?_
    obtain ⟨n3, _⟩ := ne6 (c := D) hne'
    exact ret D nt q r t1 t2 h' tk' _ hq hr hqb hrb ⟨_, _, _, rfl, .inr ⟨c1, oc1, fvs1, ft1, rfl, hc1, hoc1, hft1⟩, ⟨c2, oc2, fvs2, ft2, rfl, hc2, hoc2, hft2⟩, hoff, hoff0⟩ .refl hoff F' N' (fun b hb e => n3 b hb e.symm)
end
open PySem PySem.W PySem.Calls PyProof.Rows
set_option Elab.async false
set_option maxRecDepth 100000
set_option maxHeartbeats 8000000
set_option linter.unusedVariables false
/-- the law's own def, out of the heap behind the top -/
noncomputable def lawDef (P : Params) : List Stmt × Scope := match (hd.heap_1 P).lookup 115 with
  | some ⟨_, _, .func fd, _⟩ => (match fd.body with | .stmts b => b | _ => [], fd.scope)
  | _ => ([], { kind := .function, names := [], isGenerator := false, isCoroutine := false })
noncomputable def lawScope (P : Params) : Scope := (lawDef P).2
/-- the body of its last loop -/
noncomputable def turnBody (P : Params) : List Stmt := match (lawDef P).1[15]? with
  | some (Stmt.For _ _ b _ _) => b
  | _ => []
def turnPs (cA D1 D2 D3 D4 : Addr) (hh ww uu many ab ch : Int) (th tw tu tm ta tc : Tok) : List (Str × Value) := [(Str.ofString "counts", .ref cA), (Str.ofString "heirs", .int hh th), (Str.ofString "width", .int ww tw), (Str.ofString "unit", .int uu tu), (Str.ofString "many", .int many tm), (Str.ofString "come_off", .ref D1), (Str.ofString "due", .ref D2), (Str.ofString "missing", .ref D3), (Str.ofString "more", .ref D4), (Str.ofString "above", .int ab ta), (Str.ofString "changed", .int ch tc)]
def turnSt : List Str := [Str.ofString "kind", Str.ofString "note", Str.ofString "quotient", Str.ofString "rest", Str.ofString "each", Str.ofString "brought", Str.ofString "above", Str.ofString "changed"]
/-- one turn of the law's last loop -/
def TurnC (w : World) (cs : Scope) (body : List Stmt) : Prop :=
  ∀ (loose : List Str) (mean : ExcName → Option Value) (mg mb : Str → Option Value) (a : Addr) (ccd : Value) (h₀ : Heap) (L : Addr) (m₁ : Str → Option Value) (s : Shared) (P : Flow → Shared → Prop) (E : Value → Shared → Prop)
    (k c0 c1 c2 c3 hh ww uu many ab ch : Int) (tk th tw tu tm ta tc : Tok) (cA D1 D2 D3 D4 I : Addr) (oI : Obj) (vs us1 us2 us3 us4 : List Value) (n0 n1 n2 n3 n4 : Nat) (ns1 ns2 ns3 ns4 : List Int) (R : List (Addr × Obj)),
    Fr h₀ L s.heap (fun y => if y = Str.ofString "kind" then some (.int k tk) else kstB m₁ (turnPs cA D1 D2 D3 D4 hh ww uu many ab ch th tw tu tm ta tc) y) → (hd.heap_1 w.params).In h₀ →
    News h₀ L s.heap ((D1, listOf us1.toArray n1) :: (D2, listOf us2.toArray n2) :: (D3, listOf us3.toArray n3) :: (D4, listOf us4.toArray n4) :: (cA, listOf vs.toArray n0) :: (I, oI) :: R) → Top topProg loose mean mg mb h₀ → CodeHd h₀ 34 30 → CodeHd h₀ 41 37 →
    Below callerA h₀ [] h₀ → Rest [D1, D2, D3, D4, cA, I] R → NeAll D1 [cA, I] → NeAll D2 [D1, cA, I] → NeAll D3 [D1, D2, cA, I] → NeAll D4 [D1, D2, D3, cA, I] → NeAll I [cA] →
    0 ≤ k → k ≤ 3 → (0 ≤ c0 ∧ c0 ≤ 2) → (0 ≤ c1 ∧ c1 ≤ 2) → (0 ≤ c2 ∧ c2 ≤ 2) → (0 ≤ c3 ∧ c3 ≤ 2) → (1 ≤ hh ∧ hh ≤ 4) → (1 ≤ ww ∧ ww ≤ 2) → 1 ≤ uu → Builtin.Int.intBits uu ≤ 2000000 → (many = 2 ∨ many = 4) → (0 ≤ ab ∧ ab ≤ 255) → (0 ≤ ch ∧ ch ≤ 3) →
    IntsAre vs [c0, c1, c2, c3] → IntsAre us1 ns1 → IntsAre us2 ns2 → IntsAre us3 ns3 → IntsAre us4 ns4 → ns1.length ≤ 200000 → ns2.length ≤ 200000 → ns3.length ≤ 200000 → ns4.length ≤ 200000 →
    (∀ q r n us1' us2' us3' us4' n1' n2' n3' n4' ns1' ns2' ns3' ns4' R' m' ta' tc' h' tk', q = -(digV c0 c1 c2 c3 k.toNat ww) / - -hh → r = -(-(digV c0 c1 c2 c3 k.toNat ww) % - -hh) → n = -uu * many ^ k.toNat → (0 ≤ q ∧ q ≤ 255) → (-3 ≤ r ∧ r ≤ 0) →
      ns1' = ns1 ++ List.replicate ((q - many * ab) * hh + -r).toNat n → ns2' = ns2 ++ List.replicate (q - many * ab).toNat n → (0 < k → ns3' = ns3 ++ List.replicate (-r - many * ch).toNat n ∧ ns4' = ns4 ++ List.replicate (many * ch - -r).toNat n) → (¬ 0 < k → ns3' = ns3 ∧ ns4' = ns4 ++ List.replicate (many * ch).toNat n) →
      ns1'.length ≤ ns1.length + 50000 → ns2'.length ≤ ns2.length + 50000 → ns3'.length ≤ ns3.length + 50000 → ns4'.length ≤ ns4.length + 50000 → IntsAre us1' ns1' → IntsAre us2' ns2' → IntsAre us3' ns3' → IntsAre us4' ns4' →
      RestF [D1, D2, D3, D4, cA, I] R' → Kept R R' → Fr h₀ L h' m' → m' (Str.ofString "above") = some (.int q ta') → m' (Str.ofString "changed") = some (.int (-r) tc') → (∀ z, turnSt.contains z = false → m' z = kstB m₁ (turnPs cA D1 D2 D3 D4 hh ww uu many ab ch th tw tu tm ta tc) z) →
      News h₀ L h' ((D1, listOf (us1' : List Value).toArray n1') :: (D2, listOf (us2' : List Value).toArray n2') :: (D3, listOf (us3' : List Value).toArray n3') :: (D4, listOf (us4' : List Value).toArray n4') :: (cA, listOf vs.toArray n0) :: (I, oI) :: R') → P .next { s with heap := h', toks := tk' }) →
    wpAny (model PySem.Challenge.rw_op0106_01.row.prog w) (callerA.deeper (envOf (Str.ofString "law") cs L a ccd)) (execs body (envOf (Str.ofString "law") cs L a ccd)) P E s
theorem turn_names {z : Str} (hz : turnSt.contains z = false) : z ≠ Str.ofString "kind" ∧ z ≠ Str.ofString "note" ∧ z ≠ Str.ofString "quotient" ∧ z ≠ Str.ofString "rest" ∧ z ≠ Str.ofString "each" ∧ z ≠ Str.ofString "brought" ∧ z ≠ Str.ofString "above" ∧ z ≠ Str.ofString "changed" := by
  rw [List.contains_eq_mem, decide_eq_false_iff_not] at hz
  simp only [turnSt, List.mem_cons, List.not_mem_nil, or_false, not_or] at hz
  exact hz
local macro_rules | `(tactic| k_ne) => `(tactic| first | exact NeAll.get (by with_reducible assumption) (by k_mem) | exact NeAll.get' (by with_reducible assumption) (by k_mem) | (refine neN ?_; decide) | (refine neN ?_; (try dsimp only); (repeat ((with_reducible rename _ ≠ _ ∧ _ => h9); (cases h9))); first | with_reducible assumption | exact Ne.symm (by with_reducible assumption)))
local macro_rules | `(tactic| k_lt $h:ident) => `(tactic| (replace $h := neAll_lt $h; simp only [List.map_cons, List.map_nil] at $h:ident))
theorem turn_c (w : World) : TurnC w (lawScope w.params) (turnBody w.params) := by
  w_on
  conv in (lawScope _) => whnf
  conv in (turnBody _) => whnf
  unfold TurnC
  k_fill
  intro loose mean mg mb a ccd h₀ L m₁ s P E k c0 c1 c2 c3 hh ww uu many ab ch tk th tw tu tm ta tc cA D1 D2 D3 D4 I oI vs us1 us2 us3 us4 n0 n1 n2 n3 n4 ns1 ns2 ns3 ns4 R F X N T hC30 hC37 B hR hD1 hD2 hD3 hD4 hDI hk0 hk3 hc0 hc1 hc2 hc3 hhh hww huu hub hmany hab hch hIv hI1 hI2 hI3 hI4 hl1 hl2 hl3 hl4 ret
  have hO := hR.off
  dsimp only [turnPs, kstB] at F
  k_with_none
  k_with "=binaryOp Pow int int" => (k_here; k_dflt (refine' pow_mk ?aZh ?bZh ?cZh ?_; (case aZh => with_reducible assumption); (case bZh => with_reducible assumption); (case cZh => with_reducible assumption)); intro p9Z hp9Z hp0Z hp1Z)
  k_with "=binaryOp Pow int int" => (k_here; (with_reducible show wpAny _ _ (binaryOp _ (Value.int 2 _) (Value.int _ _)) _ _ _); k_dflt (refine' pow_2w ?aZh ?bZh ?_; (case aZh => omega); (case bZh => omega)); intro p9Z hp9Z hm9Z)
  k_with "=binaryOp Mult int int" => (k_here; k_dflt (refine' mul_h ?aZh ?bZh ?cZh ?dZh ?_; (case aZh => omega); (case bZh => omega); (case cZh => omega); (case dZh => omega)); intro p9Z hp9Z hp0Z hp1Z)
  k_with "=binaryOp Mult int int" => (k_here; k_dflt (refine' mul_m ?aZh ?bZh ?cZh ?_; (case aZh => with_reducible assumption); (case bZh => omega); (case cZh => omega)); intro p9Z hp9Z hp0Z hp1Z)
  k_with "=binaryOp Mult int int" => (k_here; (with_reducible show wpAny _ _ (binaryOp _ (Value.int (-_) _) (Value.int _ _)) _ _ _); k_dflt (refine' mul_note ?aZh ?bZh ?cZh ?_; (case aZh => with_reducible assumption); (case bZh => with_reducible assumption); (case cZh => with_reducible assumption)); intro v9Z hv9Z)
  k_with "=call builtin:list.extend" => (k_here; k_dflt (refine' extend_B ?FZh ?NZh ?UZh ?bZh ?iZh ?jZh ?zZh ?_; (case FZh => k_asm); (case NZh => k_asm); (case UZh => k_updF); (case bZh => k_mem); (case iZh => first | with_reducible assumption | exact IntsAre.nil); (case jZh => first | with_reducible assumption | exact IntsAre.nil); (case zZh => first | exact taken_le' (by with_reducible assumption) (by with_reducible assumption) (by with_reducible assumption) (by with_reducible assumption) (by with_reducible assumption) | (simp only [List.length_nil]; omega) | omega)); intro hZ' usZ' nZ' nsZ' hnsZ' hnlZ' FZ' NZ' hIZ'; (try rw [List.length_nil, Nat.zero_add] at hnlZ'); (try dsimp only at NZ'); (try k_sweep))
  k_with "=call builtin:list.extend" => (k_here; k_dflt (refine' extend_D2 ?FZh ?NZh ?UZh ?n1Zh ?n2Zh ?iZh ?jZh ?zZh ?_; (case FZh => k_asm); (case NZh => with_reducible assumption); (case UZh => k_updF); (case n1Zh => k_ne); (case n2Zh => k_ne); (case iZh => first | with_reducible assumption | exact IntsAre.nil); (case jZh => first | with_reducible assumption | exact IntsAre.nil); (case zZh => first | exact taken_le' (by with_reducible assumption) (by with_reducible assumption) (by with_reducible assumption) (by with_reducible assumption) (by with_reducible assumption) | (simp only [List.length_nil]; omega) | omega)); intro hZ' usZ' nZ' nsZ' hnsZ' hnlZ' FZ' NZ' hIZ'; (try rw [List.length_nil, Nat.zero_add] at hnlZ'); (try dsimp only at NZ'); (try k_sweep))
  k_with "=call builtin:list.extend" => (k_here; k_dflt (refine' extend_D3 ?FZh ?NZh ?UZh ?n1Zh ?n2Zh ?n3Zh ?iZh ?jZh ?zZh ?_; (case FZh => k_asm); (case NZh => with_reducible assumption); (case UZh => k_updF); (case n1Zh => k_ne); (case n2Zh => k_ne); (case n3Zh => k_ne); (case iZh => first | with_reducible assumption | exact IntsAre.nil); (case jZh => first | with_reducible assumption | exact IntsAre.nil); (case zZh => first | exact taken_le' (by with_reducible assumption) (by with_reducible assumption) (by with_reducible assumption) (by with_reducible assumption) (by with_reducible assumption) | (simp only [List.length_nil]; omega) | omega)); intro hZ' usZ' nZ' nsZ' hnsZ' hnlZ' FZ' NZ' hIZ'; (try rw [List.length_nil, Nat.zero_add] at hnlZ'); (try dsimp only at NZ'); (try k_sweep))
  k_with "=call builtin:len" => (k_here; k_dflt (refine' len_U ?NZh ?mZh ?iZh ?zZh ?_; (case NZh => k_asm); (case mZh => k_mem); (case iZh => first | with_reducible assumption | l_ints); (case zZh => first | omega | ((simp only [List.length_append, List.length_cons, List.length_nil, List.length_set, List.length_dropLast, List.length_replicate]); omega))))
  k_with "=binaryOp Mult ref int" => (k_here; k_dflt (refine' rep_B ?FZh ?NZh ?lZh ?aZh ?bZh ?_; (case FZh => k_asm); (case NZh => k_asm); (case lZh => k_mem); (case aZh => omega); (case bZh => omega)); intro DZ' hZ' usZ' msZ' hmsZ' hmlZ' FZ' NZ' l1Z hIZ'; (try k_lt l1Z); (try k_sweep))
  k_with "=call ref" => (k_here; (with_reducible show wpAny _ _ (call (Value.ref 42) _) _ _ _); k_dflt (refine' d2iT_use ?IZh ?c1Zh ?c2Zh ?c3Zh ?c4Zh ?c5Zh ?c6Zh ?BZh ?FZh ?XZh ?NZh ?TZh ?KZh ?CZh ?RZh ?DZh ?_; (case IZh => with_reducible assumption); (case BZh => k_asm); (case FZh => k_asm); (case XZh => k_asm); (case NZh => with_reducible assumption); (case TZh => k_asm); (case KZh => first | exact rfl | assumption); (case CZh => assumption); (case RZh => with_reducible assumption); (case c3Zh => with_reducible assumption); (case c4Zh => with_reducible assumption); (case c5Zh => with_reducible assumption); (case c6Zh => with_reducible assumption); (case DZh => ktr_room)); (case c1Zh => omega); (case c2Zh => omega); (intro v9Z t9Z h9Z tk9Z R9Z hv9Z hvb9Z hR9Z hK9Z hO9Z F9Z N9Z); (try dsimp only at N9Z); (try dsimp only); (try k_fold))
  k_with "=call ref" => (k_here; (with_reducible show wpAny _ _ (call (Value.ref 56) _) _ _ _); k_dflt (refine' idvT_use ?c1Zh ?c2Zh ?c3Zh ?c4Zh ?BZh ?FZh ?XZh ?NZh ?TZh ?KZh ?CZh ?C2Zh ?RZh ?DZh ?_; (case BZh => k_asm); (case FZh => k_asm); (case XZh => k_asm); (case NZh => with_reducible assumption); (case TZh => k_asm); (case KZh => first | exact rfl | assumption); (case CZh => assumption); (case C2Zh => assumption); (case RZh => with_reducible assumption); (case DZh => ktr_room)); (case c1Zh => omega); (case c2Zh => omega); (case c3Zh => omega); (case c4Zh => omega); (intro D9Z nt9Z q9Z r9Z t1Z t2Z h9Z tk9Z R9Z hq9Z hr9Z hqb9Z hrb9Z hR9Z hK9Z hO9Z F9Z N9Z hne9Z); (try dsimp only at N9Z); (try dsimp only); (try k_fold))
  k_steps
  · clear qk ek
    subst_vars
    refine' ret _ _ _ _ _ _ _ _ _ _ _ _ _ _ _ _ _ _ _ _ _ rfl rfl rfl (by assumption) (by assumption) ?e1 ?e2 ?e3 ?e4 ?l1 ?l2 ?l3 ?l4 ?i1 ?i2 ?i3 ?i4 (by assumption) (Kept.trans (by assumption) (by assumption)) FZ' rfl rfl ?hz NZ'
    case i1 => with_reducible assumption
    case i2 => with_reducible assumption
    case i3 => with_reducible assumption
    case i4 => with_reducible assumption
    case e1 => rfl
    case e2 => rfl
    case e3 => exact fun _ => ⟨rfl, rfl⟩
    case e4 => exact fun h => absurd (by assumption) h
    case l1 => omega
    case l2 => omega
    case l3 => omega
    case l4 => omega
    case hz =>
      intro z hz
      obtain ⟨g1, g2, g3, g4, g5, g6, g7, g8⟩ := turn_names hz
      simp only [turnPs, kstB, if_neg g1, if_neg g2, if_neg g3, if_neg g4, if_neg g5, if_neg g6, if_neg g7, if_neg g8]
  · clear qk ek
    subst_vars
    refine' ret _ _ _ _ _ _ _ _ _ _ _ _ _ _ _ _ _ _ _ _ _ rfl rfl rfl (by assumption) (by assumption) ?ye1 ?ye2 ?ye3 ?ye4 ?yl1 ?yl2 ?yl3 ?yl4 ?yi1 ?yi2 ?yi3 ?yi4 (by assumption) (Kept.trans (by assumption) (by assumption)) FZ' rfl rfl ?yhz NZ'
    case yi1 => with_reducible assumption
    case yi2 => with_reducible assumption
    case yi3 => with_reducible assumption
    case yi4 => with_reducible assumption
    case ye1 => rfl
    case ye2 => rfl
    case ye3 => exact fun h => absurd h (by assumption)
    case ye4 => exact fun _ => ⟨rfl, rfl⟩
    case yl1 => omega
    case yl2 => omega
    case yl3 => omega
    case yl4 => omega
    case yhz =>
      intro z hz
      obtain ⟨g1, g2, g3, g4, g5, g6, g7, g8⟩ := turn_names hz
      simp only [turnPs, kstB, if_neg g1, if_neg g2, if_neg g3, if_neg g4, if_neg g5, if_neg g6, if_neg g7, if_neg g8]
open PySem PySem.W PySem.Calls PyProof.Rows
set_option Elab.async false
set_option maxRecDepth 100000
set_option maxHeartbeats 8000000
set_option linter.unusedVariables false
structure LawSt where
  above : Int
  changed : Int
  come : List Int
  due : List Int
  missing : List Int
  more : List Int
/-- what one turn of the law's last loop makes of its names -/
def lawStep (c0 c1 c2 c3 hh ww uu many : Int) (st : LawSt) (k : Int) : LawSt where
  above := -(digV c0 c1 c2 c3 k.toNat ww) / - -hh
  changed := - -(-(digV c0 c1 c2 c3 k.toNat ww) % - -hh)
  come := st.come ++ List.replicate ((-(digV c0 c1 c2 c3 k.toNat ww) / - -hh - many * st.above) * hh + - -(-(digV c0 c1 c2 c3 k.toNat ww) % - -hh)).toNat (-uu * many ^ k.toNat)
  due := st.due ++ List.replicate (-(digV c0 c1 c2 c3 k.toNat ww) / - -hh - many * st.above).toNat (-uu * many ^ k.toNat)
  missing := if 0 < k then st.missing ++ List.replicate (- -(-(digV c0 c1 c2 c3 k.toNat ww) % - -hh) - many * st.changed).toNat (-uu * many ^ k.toNat) else st.missing
  more := if 0 < k then st.more ++ List.replicate (many * st.changed - - -(-(digV c0 c1 c2 c3 k.toNat ww) % - -hh)).toNat (-uu * many ^ k.toNat) else st.more ++ List.replicate (many * st.changed).toNat (-uu * many ^ k.toNat)
def lawSt (c0 c1 c2 c3 hh ww uu many : Int) (pre : List Int) : LawSt := pre.foldl (lawStep c0 c1 c2 c3 hh ww uu many) ⟨0, 0, [], [], [], []⟩
theorem lawSt_snoc (c0 c1 c2 c3 hh ww uu many : Int) (pre : List Int) (k : Int) : lawSt c0 c1 c2 c3 hh ww uu many (pre ++ [k]) = lawStep c0 c1 c2 c3 hh ww uu many (lawSt c0 c1 c2 c3 hh ww uu many pre) k := by
  rw [lawSt, List.foldl_append]; rfl
theorem note_pow {u many ww : Int} (i : Nat) (hm : many = 2 ^ ww.toNat) : -u * many ^ i = u * noteOf ww i := note_is i hm rfl rfl rfl
theorem lawSt_is {c0 c1 c2 c3 hh ww uu many : Int} (hm : many = 2 ^ ww.toNat) :
    (lawSt c0 c1 c2 c3 hh ww uu many [3, 2, 1, 0]).come = (outsOf c0 c1 c2 c3 hh ww uu).come ∧ (lawSt c0 c1 c2 c3 hh ww uu many [3, 2, 1, 0]).due = (outsOf c0 c1 c2 c3 hh ww uu).due ∧
    (lawSt c0 c1 c2 c3 hh ww uu many [3, 2, 1, 0]).missing = (outsOf c0 c1 c2 c3 hh ww uu).missing ∧ (lawSt c0 c1 c2 c3 hh ww uu many [3, 2, 1, 0]).more = (outsOf c0 c1 c2 c3 hh ww uu).more ∧
    (lawSt c0 c1 c2 c3 hh ww uu many [3, 2, 1, 0]).changed = (outsOf c0 c1 c2 c3 hh ww uu).changed := by
  simp only [lawSt, List.foldl_cons, List.foldl_nil, lawStep, if_pos (show (0 : Int) < 3 by decide), if_pos (show (0 : Int) < 2 by decide), if_pos (show (0 : Int) < 1 by decide), if_neg (show ¬ (0 : Int) < 0 by decide),
    show (3 : Int).toNat = 3 from rfl, show (2 : Int).toNat = 2 from rfl, show (1 : Int).toNat = 1 from rfl, show (0 : Int).toNat = 0 from rfl, note_pow 3 hm, note_pow 2 hm, note_pow 1 hm, note_pow 0 hm]
  subst hm
  exact ⟨rfl, rfl, rfl, rfl, rfl⟩
/-- an address off a list's -/
def Off1 (x : Addr) : List Addr → Prop
  | [] => True
  | b :: r => @Ne Nat x b ∧ Off1 x r
theorem Off1.all {x : Addr} : ∀ {l : List Addr}, Off1 x l → ∀ b ∈ l, x ≠ b
  | [], _, b, hb => nomatch hb
  | c :: r, h, b, hb => by
    rcases List.mem_cons.mp hb with rfl | hb
    · exact h.1
    · exact Off1.all h.2 b hb
/-- between the turns -/
def LawJ (keep : List (Addr × Obj)) (D1 D2 D3 D4 cA : Addr) (vs : List Value) (n0 : Nat) (c0 c1 c2 c3 hh ww uu many : Int) (m₀ : Str → Option Value) (pre : List Int) (m : Str → Option Value) (nx : List (Addr × Obj)) : Prop :=
  ∃ us1 us2 us3 us4 n1 n2 n3 n4 ta tc R, nx = (D1, listOf (us1 : List Value).toArray n1) :: (D2, listOf (us2 : List Value).toArray n2) :: (D3, listOf (us3 : List Value).toArray n3) :: (D4, listOf (us4 : List Value).toArray n4) :: (cA, listOf vs.toArray n0) :: R ∧
    Rest [D1, D2, D3, D4, cA] R ∧ (∀ p ∈ keep, p ∈ R) ∧ IntsAre us1 (lawSt c0 c1 c2 c3 hh ww uu many pre).come ∧ IntsAre us2 (lawSt c0 c1 c2 c3 hh ww uu many pre).due ∧ IntsAre us3 (lawSt c0 c1 c2 c3 hh ww uu many pre).missing ∧ IntsAre us4 (lawSt c0 c1 c2 c3 hh ww uu many pre).more ∧
    m (Str.ofString "above") = some (.int (lawSt c0 c1 c2 c3 hh ww uu many pre).above ta) ∧ m (Str.ofString "changed") = some (.int (lawSt c0 c1 c2 c3 hh ww uu many pre).changed tc) ∧ (∀ z, turnSt.contains z = false → m z = m₀ z) ∧
    (0 ≤ (lawSt c0 c1 c2 c3 hh ww uu many pre).above ∧ (lawSt c0 c1 c2 c3 hh ww uu many pre).above ≤ 255) ∧ (0 ≤ (lawSt c0 c1 c2 c3 hh ww uu many pre).changed ∧ (lawSt c0 c1 c2 c3 hh ww uu many pre).changed ≤ 3) ∧
    (lawSt c0 c1 c2 c3 hh ww uu many pre).come.length ≤ 50000 * pre.length ∧ (lawSt c0 c1 c2 c3 hh ww uu many pre).due.length ≤ 50000 * pre.length ∧ (lawSt c0 c1 c2 c3 hh ww uu many pre).missing.length ≤ 50000 * pre.length ∧ (lawSt c0 c1 c2 c3 hh ww uu many pre).more.length ≤ 50000 * pre.length
theorem rest_more {T : Obj → List (Addr × Obj) → Prop} {adr : List Addr} {R : List (Addr × Obj)} {I : Addr} (h : RestP T adr R) (hI : ∀ p ∈ R, p.1 ≠ I) : RestP T (adr ++ [I]) R := by
  obtain ⟨t30, t37, R0, e, h1, h2, h3, h4⟩ := h
  refine ⟨t30, t37, R0, e, h1, h2, fun p hp b hb => ?_, h4⟩
  rcases List.mem_append.mp hb with hb | hb
  · exact h3 p hp b hb
  · rw [List.mem_singleton.mp hb]; exact hI p hp
theorem rest_less {T : Obj → List (Addr × Obj) → Prop} {adr adr' : List Addr} {R : List (Addr × Obj)} (h : RestP T adr R) (hs : ∀ b ∈ adr', b ∈ adr) : RestP T adr' R := by
  obtain ⟨t30, t37, R0, e, h1, h2, h3, h4⟩ := h
  exact ⟨t30, t37, R0, e, h1, h2, fun p hp b hb => h3 p hp b (hs b hb), h4⟩
section
variable {w : World} {cs : Scope} {body : List Stmt} {loose : List Str} {mean : ExcName → Option Value} {mg mb : Str → Option Value} {a : Addr} {ccd : Value} {h₀ : Heap} {L : Addr} {m₀ : Str → Option Value} {news : List (Addr × Obj)} {s : Shared} {Q : Flow → Shared → Prop} {E : Value → Shared → Prop}
theorem law_turns {c0 c1 c2 c3 hh ww uu many : Int} {th tw tu tm ta tc : Tok} {l cA D1 D2 D3 D4 b1 b2 b3 b4 b5 : Addr} {o1 o2 o3 o4 o5 : Obj} {lv vs : List Value} {ln n0 : Nat}
    (TC : TurnC w cs body) (F : Fr h₀ L s.heap m₀) (X : (hd.heap_1 w.params).In h₀) (N : News h₀ L s.heap news) (T : Top topProg loose mean mg mb h₀) (hC30 : CodeHd h₀ 34 30) (hC37 : CodeHd h₀ 41 37) (B : Below callerA h₀ [] h₀)
    (e1 : m₀ (Str.ofString "counts") = some (.ref cA)) (e2 : m₀ (Str.ofString "heirs") = some (.int hh th)) (e3 : m₀ (Str.ofString "width") = some (.int ww tw)) (e4 : m₀ (Str.ofString "unit") = some (.int uu tu)) (e5 : m₀ (Str.ofString "many") = some (.int many tm))
    (e6 : m₀ (Str.ofString "come_off") = some (.ref D1)) (e7 : m₀ (Str.ofString "due") = some (.ref D2)) (e8 : m₀ (Str.ofString "missing") = some (.ref D3)) (e9 : m₀ (Str.ofString "more") = some (.ref D4)) (e10 : m₀ (Str.ofString "above") = some (.int 0 ta)) (e11 : m₀ (Str.ofString "changed") = some (.int 0 tc))
    (x1 : m₀ (Str.ofString "notes") = some (.ref b1)) (x2 : m₀ (Str.ofString "off") = some (.ref b2)) (x3 : m₀ (Str.ofString "shares") = some (.ref b3)) (x4 : m₀ (Str.ofString "left") = some (.ref b4)) (x5 : m₀ (Str.ofString "taken") = some (.ref b5))
    (ml : (l, listOf lv.toArray ln) ∈ news) (mA : (cA, listOf vs.toArray n0) ∈ news) (m1 : (D1, listOf #[] 0) ∈ news) (m2 : (D2, listOf #[] 0) ∈ news) (m3 : (D3, listOf #[] 0) ∈ news) (m4 : (D4, listOf #[] 0) ∈ news) (m30 : (30, tabObj #[]) ∈ news) (m37 : (37, tabObj #[]) ∈ news)
    (y1 : (b1, o1) ∈ news) (y2 : (b2, o2) ∈ news) (y3 : (b3, o3) ∈ news) (y4 : (b4, o4) ∈ news) (y5 : (b5, o5) ∈ news)
    (hl : Off1 l [D1, D2, D3, D4, cA, 30, 37]) (z1 : Off1 b1 [D1, D2, D3, D4, cA, 30, 37]) (z2 : Off1 b2 [D1, D2, D3, D4, cA, 30, 37]) (z3 : Off1 b3 [D1, D2, D3, D4, cA, 30, 37]) (z4 : Off1 b4 [D1, D2, D3, D4, cA, 30, 37]) (z5 : Off1 b5 [D1, D2, D3, D4, cA, 30, 37])
    (hA : Off1 cA [30, 37]) (h1 : Off1 D1 [cA, 30, 37]) (h2 : Off1 D2 [D1, cA, 30, 37]) (h3 : Off1 D3 [D1, D2, cA, 30, 37]) (h4 : Off1 D4 [D1, D2, D3, cA, 30, 37])
    (hc0 : 0 ≤ c0 ∧ c0 ≤ 2) (hc1 : 0 ≤ c1 ∧ c1 ≤ 2) (hc2 : 0 ≤ c2 ∧ c2 ≤ 2) (hc3 : 0 ≤ c3 ∧ c3 ≤ 2) (hhh : 1 ≤ hh ∧ hh ≤ 4) (hww : 1 ≤ ww ∧ ww ≤ 2) (huu : 1 ≤ uu) (hub : Builtin.Int.intBits uu ≤ 2000000) (hmany : many = 2 ∨ many = 4) (hmw : many = 2 ^ ww.toNat)
    (hIl : IntsAre lv [3, 2, 1, 0]) (hIv : IntsAre vs [c0, c1, c2, c3])
    (done : ∀ us1 us2 us3 us4 n1 n2 n3 n4 tc' (u : Str → Option Value) h tk O ps30 ps37, O = outsOf c0 c1 c2 c3 hh ww uu → IntsAre us1 O.come → IntsAre us2 O.due → IntsAre us3 O.missing → IntsAre us4 O.more → (0 ≤ O.changed ∧ O.changed ≤ 3) →
      Fr h₀ L h (fun y => if y = Str.ofString "changed" then some (.int O.changed tc') else if turnSt.contains y then u y else m₀ y) →
      News h₀ L h ((D1, listOf (us1 : List Value).toArray n1) :: (D2, listOf (us2 : List Value).toArray n2) :: (D3, listOf (us3 : List Value).toArray n3) :: (D4, listOf (us4 : List Value).toArray n4) :: (b1, o1) :: (b2, o2) :: (b3, o3) :: (b4, o4) :: (b5, o5) :: (30, tabObj ps30) :: (37, tabObj ps37) :: []) → Q .next { s with heap := h, toks := tk }) :
    wpAny (model PySem.Challenge.rw_op0106_01.row.prog w) (callerA.deeper (envOf (Str.ofString "law") cs L a ccd)) (pyIter (.ref l))
      (fun it s₂ => LoopAtV PySem.Challenge.rw_op0106_01.row.prog w (callerA.deeper (envOf (Str.ofString "law") cs L a ccd)) h₀ (envOf (Str.ofString "law") cs L a ccd) (Str.ofString "kind") body Q E it s₂) E s := by
  have hps : ∀ (m : Str → Option Value) (ab ch : Int) (ta' tc' : Tok), m (Str.ofString "above") = some (.int ab ta') → m (Str.ofString "changed") = some (.int ch tc') → (∀ z, turnSt.contains z = false → m z = m₀ z) →
      ∀ p ∈ turnPs cA D1 D2 D3 D4 hh ww uu many ab ch th tw tu tm ta' tc', m p.1 = some p.2 := by
    intro m ab ch ta' tc' g1 g2 g3 p hp
    simp only [turnPs, List.mem_cons, List.not_mem_nil, or_false] at hp
    rcases hp with rfl | rfl | rfl | rfl | rfl | rfl | rfl | rfl | rfl | rfl | rfl
    · exact (g3 (Str.ofString "counts") (by decide +kernel)).trans e1
    · exact (g3 (Str.ofString "heirs") (by decide +kernel)).trans e2
    · exact (g3 (Str.ofString "width") (by decide +kernel)).trans e3
    · exact (g3 (Str.ofString "unit") (by decide +kernel)).trans e4
    · exact (g3 (Str.ofString "many") (by decide +kernel)).trans e5
    · exact (g3 (Str.ofString "come_off") (by decide +kernel)).trans e6
    · exact (g3 (Str.ofString "due") (by decide +kernel)).trans e7
    · exact (g3 (Str.ofString "missing") (by decide +kernel)).trans e8
    · exact (g3 (Str.ofString "more") (by decide +kernel)).trans e9
    · exact g1
    · exact g2
  have hst := @lawSt_is c0 c1 c2 c3 hh ww uu many hmw
  refine law_loop (l := l) (vs := lv) (nn := ln) (ns := [3, 2, 1, 0]) (m₀ := m₀) (news := (D1, listOf ([] : List Value).toArray 0) :: (D2, listOf ([] : List Value).toArray 0) :: (D3, listOf ([] : List Value).toArray 0) :: (D4, listOf ([] : List Value).toArray 0) :: (cA, listOf vs.toArray n0) :: (30, tabObj #[]) :: (37, tabObj #[]) :: (l, listOf lv.toArray ln) :: (b1, o1) :: (b2, o2) :: (b3, o3) :: (b4, o4) :: (b5, o5) :: [])
    (LawJ [(l, listOf lv.toArray ln), (b1, o1), (b2, o2), (b3, o3), (b4, o4), (b5, o5)] D1 D2 D3 D4 cA vs n0 c0 c1 c2 c3 hh ww uu many m₀) ?_ rfl hIl F ?_ ?_ ?_ ?_
  · rintro pre m nx ⟨us1, us2, us3, us4, n1, n2, n3, n4, ta', tc', R, rfl, hR, hK, _⟩
    exact .tail _ (.tail _ (.tail _ (.tail _ (.tail _ (hK _ (.head _))))))
  · intro p hp
    simp only [List.mem_cons, List.not_mem_nil, or_false] at hp
    rcases hp with rfl | rfl | rfl | rfl | rfl | rfl | rfl | rfl | rfl | rfl | rfl | rfl | rfl
    · exact N _ m1
    · exact N _ m2
    · exact N _ m3
    · exact N _ m4
    · exact N _ mA
    · exact N _ m30
    · exact N _ m37
    · exact N _ ml
    · exact N _ y1
    · exact N _ y2
    · exact N _ y3
    · exact N _ y4
    · exact N _ y5
  · refine ⟨[], [], [], [], 0, 0, 0, 0, ta, tc, _, rfl, ⟨_, _, _, rfl, .inl rfl, .inl rfl, ?_, ?_⟩, fun p hp => .tail _ (.tail _ hp), .nil, .nil, .nil, .nil, e10, e11, fun _ _ => rfl, ⟨Int.le_refl 0, by show (0 : Int) ≤ 255; decide⟩, ⟨Int.le_refl 0, by show (0 : Int) ≤ 3; decide⟩, Nat.zero_le _, Nat.zero_le _, Nat.zero_le _, Nat.zero_le _⟩
    · have g : ∀ b ∈ [D1, D2, D3, D4, cA], b ∈ [D1, D2, D3, D4, cA, 30, 37] := fun b hb => List.mem_append_left [30, 37] hb
      have t : ∀ P ∈ [30, 37], ∀ b ∈ [D1, D2, D3, D4, cA], @Ne Nat P b := by
        intro P hP b hb
        simp only [List.mem_cons, List.not_mem_nil, or_false] at hb
        rcases hb with rfl | rfl | rfl | rfl | rfl
        · exact fun e => h1.all P (.tail _ hP) e.symm
        · exact fun e => h2.all P (.tail _ (.tail _ hP)) e.symm
        · exact fun e => h3.all P (.tail _ (.tail _ (.tail _ hP))) e.symm
        · exact fun e => h4.all P (.tail _ (.tail _ (.tail _ (.tail _ hP)))) e.symm
        · exact fun e => hA.all P hP e.symm
      refine off_cons (t 30 (.head _)) (off_cons (t 37 (.tail _ (.head _))) (off_cons (fun b hb => hl.all b (g b hb)) (off_cons (fun b hb => z1.all b (g b hb)) (off_cons (fun b hb => z2.all b (g b hb)) (off_cons (fun b hb => z3.all b (g b hb)) (off_cons (fun b hb => z4.all b (g b hb)) (off_cons (fun b hb => z5.all b (g b hb)) fun p hp => nomatch hp)))))))
    · have g : ∀ b ∈ [30, 37], b ∈ [D1, D2, D3, D4, cA, 30, 37] := fun b hb => List.mem_append_right [D1, D2, D3, D4, cA] hb
      refine off_cons (fun b hb => hl.all b (g b hb)) (off_cons (fun b hb => z1.all b (g b hb)) (off_cons (fun b hb => z2.all b (g b hb)) (off_cons (fun b hb => z3.all b (g b hb)) (off_cons (fun b hb => z4.all b (g b hb)) (off_cons (fun b hb => z5.all b (g b hb)) fun p hp => nomatch hp)))))
  · rintro pre post k t m₁ nx I oI h tk he ⟨us1, us2, us3, us4, n1, n2, n3, n4, ta', tc', R, rfl, hR, hK, i1, i2, i3, i4, g1, g2, g3, hab, hch, l1, l2, l3, l4⟩ hI F₁ N₁
    have hk : 0 ≤ k ∧ k ≤ 3 := by
      have : k ∈ [3, 2, 1, 0] := by rw [he]; exact List.mem_append_right _ (.head _)
      simp only [List.mem_cons, List.not_mem_nil, or_false] at this
      omega
    have hpl : pre.length ≤ 3 := by
      have := congrArg List.length he
      simp only [List.length_append, List.length_cons, List.length_nil] at this
      omega
    have q := hps m₁ _ _ ta' tc' g1 g2 g3
    have hm : (fun y => if y = Str.ofString "kind" then some (Value.int k t) else m₁ y) = fun y => if y = Str.ofString "kind" then some (Value.int k t) else kstB m₁ (turnPs cA D1 D2 D3 D4 hh ww uu many (lawSt c0 c1 c2 c3 hh ww uu many pre).above (lawSt c0 c1 c2 c3 hh ww uu many pre).changed th tw tu tm ta' tc') y := by
      funext y
      rw [kstB_eq q fun _ => rfl]
    rw [hm] at F₁
    have hR' : Rest [D1, D2, D3, D4, cA, I] R := rest_more hR fun p hp => hI p (.tail _ (.tail _ (.tail _ (.tail _ (.tail _ hp)))))
    refine TC loose mean mg mb a ccd h₀ L m₁ _ _ E k c0 c1 c2 c3 hh ww uu many _ _ t th tw tu tm ta' tc' cA D1 D2 D3 D4 I oI vs us1 us2 us3 us4 n0 n1 n2 n3 n4 _ _ _ _ R F₁ X ?_ T hC30 hC37 B hR' ?_ ?_ ?_ ?_ ?_ hk.1 hk.2 hc0 hc1 hc2 hc3 hhh hww huu hub hmany hab hch hIv i1 i2 i3 i4 (by omega) (by omega) (by omega) (by omega) ?_
    · intro p hp
      simp only [List.mem_cons] at hp
      rcases hp with rfl | rfl | rfl | rfl | rfl | rfl | hp
      · exact N₁ _ (.tail _ (.head _))
      · exact N₁ _ (.tail _ (.tail _ (.head _)))
      · exact N₁ _ (.tail _ (.tail _ (.tail _ (.head _))))
      · exact N₁ _ (.tail _ (.tail _ (.tail _ (.tail _ (.head _)))))
      · exact N₁ _ (.tail _ (.tail _ (.tail _ (.tail _ (.tail _ (.head _))))))
      · exact N₁ _ (.head _)
      · exact N₁ _ (.tail _ (.tail _ (.tail _ (.tail _ (.tail _ (.tail _ hp))))))
    · intro x hx
      simp only [List.mem_cons, List.not_mem_nil, or_false] at hx
      rcases hx with rfl | rfl
      · exact fun e => h1.1 e.symm
      · exact fun e => hI _ (.head _) e.symm
    · intro x hx
      simp only [List.mem_cons, List.not_mem_nil, or_false] at hx
      rcases hx with rfl | rfl | rfl
      · exact fun e => h2.1 e.symm
      · exact fun e => h2.2.1 e.symm
      · exact fun e => hI _ (.tail _ (.head _)) e.symm
    · intro x hx
      simp only [List.mem_cons, List.not_mem_nil, or_false] at hx
      rcases hx with rfl | rfl | rfl | rfl
      · exact fun e => h3.1 e.symm
      · exact fun e => h3.2.1 e.symm
      · exact fun e => h3.2.2.1 e.symm
      · exact fun e => hI _ (.tail _ (.tail _ (.head _))) e.symm
    · intro x hx
      simp only [List.mem_cons, List.not_mem_nil, or_false] at hx
      rcases hx with rfl | rfl | rfl | rfl | rfl
      · exact fun e => h4.1 e.symm
      · exact fun e => h4.2.1 e.symm
      · exact fun e => h4.2.2.1 e.symm
      · exact fun e => h4.2.2.2.1 e.symm
      · exact fun e => hI _ (.tail _ (.tail _ (.tail _ (.head _)))) e.symm
    · intro x hx
      rw [List.mem_singleton.mp hx]
      exact hI _ (.tail _ (.tail _ (.tail _ (.tail _ (.head _)))))
    · intro q' r' n' us1' us2' us3' us4' n1' n2' n3' n4' ns1' ns2' ns3' ns4' R' m' ta'' tc'' h' tk' hq hr hn hqb hrb f1 f2 f3 f4 k1 k2 k3 k4 j1 j2 j3 j4 hRF hKp F' a1 a2 a3 N'
      have hO := hRF.off
      have hIA : ∀ b ∈ [D1, D2, D3, D4, cA], b ≠ I := by
        intro b hb
        simp only [List.mem_cons, List.not_mem_nil, or_false] at hb
        rcases hb with rfl | rfl | rfl | rfl | rfl
        · exact hI _ (.head _)
        · exact hI _ (.tail _ (.head _))
        · exact hI _ (.tail _ (.tail _ (.head _)))
        · exact hI _ (.tail _ (.tail _ (.tail _ (.head _))))
        · exact hI _ (.tail _ (.tail _ (.tail _ (.tail _ (.head _)))))
      subst hq hr hn
      have c1' : (lawSt c0 c1 c2 c3 hh ww uu many (pre ++ [k])).come = ns1' := by rw [lawSt_snoc, f1]; rfl
      have c2' : (lawSt c0 c1 c2 c3 hh ww uu many (pre ++ [k])).due = ns2' := by rw [lawSt_snoc, f2]; rfl
      have c3' : (lawSt c0 c1 c2 c3 hh ww uu many (pre ++ [k])).missing = ns3' := by
        rw [lawSt_snoc]
        by_cases hk0 : 0 < k
        · rw [(f3 hk0).1]; exact if_pos hk0
        · rw [(f4 hk0).1]; exact if_neg hk0
      have c4' : (lawSt c0 c1 c2 c3 hh ww uu many (pre ++ [k])).more = ns4' := by
        rw [lawSt_snoc]
        by_cases hk0 : 0 < k
        · rw [(f3 hk0).2]; exact if_pos hk0
        · rw [(f4 hk0).2]; exact if_neg hk0
      refine ⟨h', tk', m', (D1, listOf us1'.toArray n1') :: (D2, listOf us2'.toArray n2') :: (D3, listOf us3'.toArray n3') :: (D4, listOf us4'.toArray n4') :: (cA, listOf vs.toArray n0) :: R', rfl, F', fun p hp => ?_, fun p hp => ?_, ⟨us1', us2', us3', us4', n1', n2', n3', n4', ta'', tc'', R', rfl, rest_less hRF.rest fun b hb => List.mem_append_left [I] hb, fun p hp => hKp p (hK p hp) ?_ ?_, ?_, ?_, ?_, ?_, ?_, ?_, fun z hz => ?_, ?_, ?_, ?_, ?_, ?_, ?_⟩⟩
      · simp only [List.mem_cons] at hp
        rcases hp with rfl | rfl | rfl | rfl | rfl | rfl | hp
        · exact N' _ (.tail _ (.tail _ (.tail _ (.tail _ (.tail _ (.head _))))))
        · exact N' _ (.head _)
        · exact N' _ (.tail _ (.head _))
        · exact N' _ (.tail _ (.tail _ (.head _)))
        · exact N' _ (.tail _ (.tail _ (.tail _ (.head _))))
        · exact N' _ (.tail _ (.tail _ (.tail _ (.tail _ (.head _)))))
        · exact N' _ (.tail _ (.tail _ (.tail _ (.tail _ (.tail _ (.tail _ hp))))))
      · simp only [List.mem_cons] at hp
        rcases hp with rfl | rfl | rfl | rfl | rfl | hp
        · exact hIA _ (.head _)
        · exact hIA _ (.tail _ (.head _))
        · exact hIA _ (.tail _ (.tail _ (.head _)))
        · exact hIA _ (.tail _ (.tail _ (.tail _ (.head _))))
        · exact hIA _ (.tail _ (.tail _ (.tail _ (.tail _ (.head _)))))
        · exact hO p hp I (.tail _ (.tail _ (.tail _ (.tail _ (.tail _ (.head _))))))
      · simp only [List.mem_cons, List.not_mem_nil, or_false] at hp
        rcases hp with rfl | rfl | rfl | rfl | rfl | rfl
        · exact hl.2.2.2.2.2.1
        · exact z1.2.2.2.2.2.1
        · exact z2.2.2.2.2.2.1
        · exact z3.2.2.2.2.2.1
        · exact z4.2.2.2.2.2.1
        · exact z5.2.2.2.2.2.1
      · simp only [List.mem_cons, List.not_mem_nil, or_false] at hp
        rcases hp with rfl | rfl | rfl | rfl | rfl | rfl
        · exact hl.2.2.2.2.2.2.1
        · exact z1.2.2.2.2.2.2.1
        · exact z2.2.2.2.2.2.2.1
        · exact z3.2.2.2.2.2.2.1
        · exact z4.2.2.2.2.2.2.1
        · exact z5.2.2.2.2.2.2.1
      · rw [c1']; exact j1
      · rw [c2']; exact j2
      · rw [c3']; exact j3
      · rw [c4']; exact j4
      · rw [lawSt_snoc]; exact a1
      · rw [lawSt_snoc]; exact a2
      · rw [a3 z hz, kstB_eq q fun _ => rfl]; exact g3 z hz
      · rw [lawSt_snoc]; exact hqb
      · rw [lawSt_snoc]; show 0 ≤ - -(-(digV c0 c1 c2 c3 k.toNat ww) % - -hh) ∧ - -(-(digV c0 c1 c2 c3 k.toNat ww) % - -hh) ≤ 3; omega
      · rw [c1', List.length_append]; simp only [List.length_cons, List.length_nil]; omega
      · rw [c2', List.length_append]; simp only [List.length_cons, List.length_nil]; omega
      · rw [c3', List.length_append]; simp only [List.length_cons, List.length_nil]; omega
      · rw [c4', List.length_append]; simp only [List.length_cons, List.length_nil]; omega
  · rintro m₁ nx h tk ⟨us1, us2, us3, us4, n1, n2, n3, n4, ta', tc', R, rfl, hR, hK, i1, i2, i3, i4, g1, g2, g3, hab, hch, l1, l2, l3, l4⟩ F₁ N₁
    obtain ⟨s1, s2, s3, s4, s5⟩ := hst
    rw [s1] at i1
    rw [s2] at i2
    rw [s3] at i3
    rw [s4] at i4
    rw [s5] at g2 hch
    obtain ⟨t30, t37, R0, rfl, T30, T37, _⟩ := hR
    obtain ⟨ps30, rfl⟩ := T30.tab
    obtain ⟨ps37, rfl⟩ := T37.tab
    refine done us1 us2 us3 us4 n1 n2 n3 n4 tc' m₁ h tk _ ps30 ps37 rfl i1 i2 i3 i4 hch ?_ ?_
    · have hm : m₁ = fun y => if y = Str.ofString "changed" then some (Value.int (outsOf c0 c1 c2 c3 hh ww uu).changed tc') else if turnSt.contains y then m₁ y else m₀ y := by
        funext y
        by_cases hy : y = Str.ofString "changed"
        · rw [if_pos hy, hy, g2]
        · rw [if_neg hy]
          by_cases hz : turnSt.contains y = true
          · rw [if_pos hz]
          · rw [if_neg hz]; exact g3 y (by simpa using hz)
      rw [← hm]
      exact F₁
    · intro p hp
      simp only [List.mem_cons, List.not_mem_nil, or_false] at hp
      rcases hp with rfl | rfl | rfl | rfl | rfl | rfl | rfl | rfl | rfl | rfl | rfl
      · exact N₁ _ (.head _)
      · exact N₁ _ (.tail _ (.head _))
      · exact N₁ _ (.tail _ (.tail _ (.head _)))
      · exact N₁ _ (.tail _ (.tail _ (.tail _ (.head _))))
      · exact N₁ _ (.tail _ (.tail _ (.tail _ (.tail _ (.tail _ (hK _ (.tail _ (.head _))))))))
      · exact N₁ _ (.tail _ (.tail _ (.tail _ (.tail _ (.tail _ (hK _ (.tail _ (.tail _ (.head _)))))))))
      · exact N₁ _ (.tail _ (.tail _ (.tail _ (.tail _ (.tail _ (hK _ (.tail _ (.tail _ (.tail _ (.head _))))))))))
      · exact N₁ _ (.tail _ (.tail _ (.tail _ (.tail _ (.tail _ (hK _ (.tail _ (.tail _ (.tail _ (.tail _ (.head _)))))))))))
      · exact N₁ _ (.tail _ (.tail _ (.tail _ (.tail _ (.tail _ (hK _ (.tail _ (.tail _ (.tail _ (.tail _ (.tail _ (.head _))))))))))))
      · exact N₁ _ (.tail _ (.tail _ (.tail _ (.tail _ (.tail _ (.head _))))))
      · exact N₁ _ (.tail _ (.tail _ (.tail _ (.tail _ (.tail _ (.tail _ (.head _)))))))
end
/-- the last call of the law, its tables kept -/
theorem diff_law2 {w : World} {loose : List Str} {mean : ExcName → Option Value} {mg mb : Str → Option Value} {cn : Str} {cs : Scope} {a : Addr} {ccd : Value} {h₀ : Heap} {L : Addr} {m : Str → Option Value} {news : List (Addr × Obj)} {s : Shared} {l1 l2 l3 l4 : Addr} {vs1 vs2 vs3 vs4 : List Value} {n1 n2 n3 n4 : Nat} {ps1 ps2 : Array Value} {Q E : Value → Shared → Prop} {ns1 ns2 ns3 ns4 : List Int}
    (F : Fr h₀ L s.heap m) (X : (hd.heap_1 w.params).In h₀) (N : News h₀ L s.heap news) (T : Top topProg loose mean mg mb h₀) (hk : cs.kind = .function) (hlo : Str.ofString "ValueError" ∉ loose)
    (e3 : m (Str.ofString "missing") = some (.ref l3)) (e4 : m (Str.ofString "more") = some (.ref l4))
    (m1 : (l1, listOf vs1.toArray n1) ∈ news) (m2 : (l2, listOf vs2.toArray n2) ∈ news) (m3 : (l3, listOf vs3.toArray n3) ∈ news) (m4 : (l4, listOf vs4.toArray n4) ∈ news) (m5 : (30, tabObj ps1) ∈ news) (m6 : (37, tabObj ps2) ∈ news)
    (hI1 : IntsAre vs1 ns1) (hI2 : IntsAre vs2 ns2) (hI3 : IntsAre vs3 ns3) (hI4 : IntsAre vs4 ns4)
    (h12 : @Ne Nat l1 l2) (h31 : @Ne Nat l3 l1) (h32 : @Ne Nat l3 l2) (h41 : @Ne Nat l4 l1) (h42 : @Ne Nat l4 l2) (z1 : ns1.length ≤ 1000) (z2 : ns2.length ≤ 1000) (e : diffF ns1.length ns1 ns2 [] = (ns3, ns4))
    (ret : ∀ D a1 us1 us2 k1 k2 nt h' tk', IntsAre us1 ns3 → IntsAre us2 ns4 → Fr h₀ L h' m →
      News h₀ L h' ((D, { cls := .type "tuple", data := .seq #[.ref a1, .ref l2] nt }) :: (a1, listOf (us1 : List Value).toArray k1) :: (l2, listOf (us2 : List Value).toArray k2) :: (l3, listOf vs3.toArray n3) :: (l4, listOf vs4.toArray n4) :: (30, tabObj ps1) :: (37, tabObj ps2) :: []) → Q (.ref D) { s with heap := h', toks := tk' }) :
    wpAny (model PySem.Challenge.rw_op0106_01.row.prog w) (callerA.deeper (envOf cn cs L a ccd)) (call (.ref 98) [.ref l1, .ref l2]) Q E s := by
  have g1 := list_off N m5 m1
  have g2 := list_off N m5 m2
  have g3 := list_off N m6 m1
  have g4 := list_off N m6 m2
  refine diff_use (n1 := n1) (n2 := n2) (rest := [(l3, listOf vs3.toArray n3), (l4, listOf vs4.toArray n4), (30, tabObj ps1), (37, tabObj ps2)]) z1 z2 F X (fun p hp => ?_) T hk h12 (fun p hp => ?_) hI1 hI2 hlo fun D a1 us1 us2 k1 k2 nt h' tk' i1 i2 F' N' => ret D a1 us1 us2 k1 k2 nt h' tk' (by rw [e] at i1; exact i1) (by rw [e] at i2; exact i2) F' N'
  · simp only [List.mem_cons, List.not_mem_nil, or_false] at hp
    rcases hp with rfl | rfl | rfl | rfl | rfl | rfl
    · exact N _ m1
    · exact N _ m2
    · exact N _ m3
    · exact N _ m4
    · exact N _ m5
    · exact N _ m6
  · simp only [List.mem_cons, List.not_mem_nil, or_false] at hp
    rcases hp with rfl | rfl | rfl | rfl
    · exact ⟨h31, h32⟩
    · exact ⟨h41, h42⟩
    · exact ⟨fun e => g1 e.symm, fun e => g2 e.symm⟩
    · exact ⟨fun e => g3 e.symm, fun e => g4 e.symm⟩
/-- the law's end -/
theorem law_end {cl : Str → Option Addr} {mean : ExcName → Option Value} {ns : List Int} {s₁ s' : Shared} {L : Addr} {m : Str → Option Value} {news : List (Addr × Obj)} {p1 p2 : Array Value} (F : Fr s₁.heap L s'.heap m) (hg : s'.gens = #[]) (hos : s'.os = s₁.os) (N : News s₁.heap L s'.heap news) (m1 : (30, tabObj p1) ∈ news) (m2 : (37, tabObj p2) ∈ news) :
    GoodW PySem.Challenge.rw_op0106_01.row.toRowW.claim cl mean [ofPy (PyData.list (List.map PyData.int ns))] s₁ (.ok (.ret (.bool true))) s' ∧ GrownAll [(34, 30), (41, 37)] s'.heap := by
  w_on
  refine ⟨goodW_bool F hg (raisesW_false ?_) ?_ hos, GrownAt.of N m1, GrownAt.of N m2, trivial⟩
  · wrow_none_raised
  · kc_post
open PySem PySem.W PySem.Calls PyProof.Rows
set_option Elab.async false
set_option maxRecDepth 100000
set_option maxHeartbeats 8000000
set_option linter.unusedVariables false
set_option maxHeartbeats 40000000 in
theorem law_walk : PySem.Challenge.rw_op0106_01.Holds := hd (by
  k_go0
  all_goals try k_fold
  k_with_none
  k_with "=call ref" => (k_here; (with_reducible show wpAny _ _ (call (Value.ref 103) _) _ _ _); k_dflt (refine' notes_use ?BZh ?FZh ?XZh ?NZh ?TZh ?KZh ?lZh ?IZh ?yZh ?lenZh ?DZh ?_; (case BZh => k_asm); (case FZh => k_asm); (case XZh => k_asm); (case NZh => k_asm); (case TZh => k_asm); (case KZh => first | exact rfl | assumption); (case lZh => with_reducible assumption); (case IZh => with_reducible assumption); (case yZh => lay_of); (case lenZh => omega); (case DZh => ktr_room)); (intro D9Z nt9Z a9Z us9Z k9Z c0Z c1Z c2Z c3Z hhZ wwZ uuZ t1Z t2Z t3Z h9Z tk9Z hI9Z hc0Z hc1Z hc2Z hc3Z hh9Z hw9Z hu9Z hb9Z F9Z N9Z hne9Z); (replace hne9Z := neAll_2 hne9Z); (obtain ⟨hneD9Z, hneA9Z⟩ := hne9Z); (simp only [List.map_cons, List.map_nil] at hneD9Z hneA9Z); (try dsimp only at N9Z); (try dsimp only); (try k_fold))
  k_with "=binaryOp Pow int int" => (k_here; k_dflt (refine' pow_mk ?aZh ?bZh ?cZh ?_; (case aZh => with_reducible assumption); (case bZh => decide); (case cZh => decide)); intro p9Z hp9Z hp0Z hp1Z)
  k_with "=binaryOp Pow int int" => (k_here; (with_reducible show wpAny _ _ (binaryOp _ (Value.int 2 _) (Value.int _ _)) _ _ _); k_dflt (refine' pow_2w ?aZh ?bZh ?_; (case aZh => omega); (case bZh => omega)); intro p9Z hp9Z hm9Z)
  k_with "=binaryOp Mult int int" => (k_here; k_dflt (refine' mul_h ?aZh ?bZh ?cZh ?dZh ?_; (case aZh => omega); (case bZh => omega); (case cZh => omega); (case dZh => omega)); intro p9Z hp9Z hp0Z hp1Z)
  k_with "=binaryOp Mult int int" => (k_here; k_dflt (refine' mul_m ?aZh ?bZh ?cZh ?_; (case aZh => with_reducible assumption); (case bZh => omega); (case cZh => omega)); intro p9Z hp9Z hp0Z hp1Z)
  k_with "=binaryOp Mult int int" => (k_here; (with_reducible show wpAny _ _ (binaryOp _ (Value.int (-_) _) (Value.int _ _)) _ _ _); k_dflt (refine' mul_note ?aZh ?bZh ?cZh ?_; (case aZh => with_reducible assumption); (case bZh => with_reducible assumption); (case cZh => with_reducible assumption)); intro v9Z hv9Z)
  k_with "=subscriptTail Name Name ref int" => (k_here; k_dflt (refine' item4 ?NZh ?iZh ?mZh ?kZh ?_ ?sZh; (case NZh => k_asm); (case iZh => with_reducible assumption); (case mZh => k_mem); (case kZh => first | exact .inl ⟨by decide, rfl⟩ | exact .inr (.inl ⟨by decide, rfl⟩) | exact .inr (.inr (.inl ⟨by decide, rfl⟩)) | exact .inr (.inr (.inr ⟨by decide, rfl⟩))); (case sZh => with_unfolding_all rfl)); intro _)
  k_with "=call builtin:list.extend" => (k_here; k_dflt (refine' extend_B ?FZh ?NZh ?UZh ?bZh ?iZh ?jZh ?zZh ?_; (case FZh => k_asm); (case NZh => k_asm); (case UZh => k_updF); (case bZh => k_mem); (case iZh => first | with_reducible assumption | exact IntsAre.nil); (case jZh => first | with_reducible assumption | exact IntsAre.nil); (case zZh => first | exact taken_le' (by with_reducible assumption) (by with_reducible assumption) (by with_reducible assumption) (by with_reducible assumption) (by with_reducible assumption) | (simp only [List.length_nil]; omega) | omega)); intro hZ' usZ' nZ' nsZ' hnsZ' hnlZ' FZ' NZ' hIZ'; (try rw [List.length_nil, Nat.zero_add] at hnlZ'); (try dsimp only at NZ'); (try k_sweep))
  k_with "=call builtin:list.extend" => (k_here; k_dflt (refine' extend_D2 ?FZh ?NZh ?UZh ?n1Zh ?n2Zh ?iZh ?jZh ?zZh ?_; (case FZh => k_asm); (case NZh => with_reducible assumption); (case UZh => k_updF); (case n1Zh => k_ne); (case n2Zh => k_ne); (case iZh => first | with_reducible assumption | exact IntsAre.nil); (case jZh => first | with_reducible assumption | exact IntsAre.nil); (case zZh => first | exact taken_le' (by with_reducible assumption) (by with_reducible assumption) (by with_reducible assumption) (by with_reducible assumption) (by with_reducible assumption) | (simp only [List.length_nil]; omega) | omega)); intro hZ' usZ' nZ' nsZ' hnsZ' hnlZ' FZ' NZ' hIZ'; (try rw [List.length_nil, Nat.zero_add] at hnlZ'); (try dsimp only at NZ'); (try k_sweep))
  k_with "=call builtin:list.extend" => (k_here; k_dflt (refine' extend_D3 ?FZh ?NZh ?UZh ?n1Zh ?n2Zh ?n3Zh ?iZh ?jZh ?zZh ?_; (case FZh => k_asm); (case NZh => with_reducible assumption); (case UZh => k_updF); (case n1Zh => k_ne); (case n2Zh => k_ne); (case n3Zh => k_ne); (case iZh => first | with_reducible assumption | exact IntsAre.nil); (case jZh => first | with_reducible assumption | exact IntsAre.nil); (case zZh => first | exact taken_le' (by with_reducible assumption) (by with_reducible assumption) (by with_reducible assumption) (by with_reducible assumption) (by with_reducible assumption) | (simp only [List.length_nil]; omega) | omega)); intro hZ' usZ' nZ' nsZ' hnsZ' hnlZ' FZ' NZ' hIZ'; (try rw [List.length_nil, Nat.zero_add] at hnlZ'); (try dsimp only at NZ'); (try k_sweep))
  k_with "=InvEndN" => k_dflt kst_close
  k_with "=compareOp NotEq ref ref" => (k_here; k_dflt (refine' ne_same ?aZh ?bZh ?iZh ?jZh ?uZh ?eZh ?_; (case aZh => is_list); (case bZh => is_list); (case iZh => with_reducible assumption); (case jZh => with_reducible assumption); (case uZh => first | ke_room | ktr_units); (case eZh => first | with_reducible rfl | exact Eq.symm (by with_reducible assumption))))
  k_with "=binaryOp Add ref ref" => (k_here; k_dflt (refine' add_U ?FZh ?NZh ?iZh ?jZh ?aZh ?bZh ?zZh ?_; (case FZh => k_asm); (case NZh => k_asm); (case aZh => k_mem); (case bZh => k_mem); (case iZh => with_reducible assumption); (case jZh => with_reducible assumption); (case zZh => exact Nat.le_trans (tk_left rfl (by with_reducible assumption) (by with_reducible assumption) (by with_reducible assumption)) (by decide))); intro DZ' usZ' hZ' FZ' NZ' l1Z hIZ'; (try k_lt l1Z); (try k_sweep))
  k_with "=call ref" => (k_here; (with_reducible show wpAny _ _ (call (Value.ref 98) _) _ _ _); k_dflt (refine' diff_law2 ?FZh ?XZh ?NZh ?TZh ?KZh ?loZh ?e3Zh ?e4Zh ?m1Zh ?m2Zh ?m3Zh ?m4Zh ?m5Zh ?m6Zh ?i1Zh ?i2Zh ?i3Zh ?i4Zh ?h12Zh ?h31Zh ?h32Zh ?h41Zh ?h42Zh ?z1Zh ?z2Zh ?eZh ?_; (case FZh => k_asm); (case XZh => k_asm); (case NZh => k_asm); (case TZh => k_asm); (case KZh => first | exact rfl | assumption); (case loZh => first | assumption | decide +kernel); (case e3Zh => rfl); (case e4Zh => rfl); (case m1Zh => k_mem); (case m2Zh => k_mem); (case m3Zh => k_mem); (case m4Zh => k_mem); (case m5Zh => k_mem); (case m6Zh => k_mem); (case i1Zh => with_reducible assumption); (case i2Zh => with_reducible assumption); (case i3Zh => with_reducible assumption); (case i4Zh => with_reducible assumption); (case h12Zh => k_ne); (case h31Zh => k_ne); (case h32Zh => k_ne); (case h41Zh => k_ne); (case h42Zh => k_ne); (case z1Zh => omega); (case z2Zh => exact tk_app rfl (by with_reducible assumption) (by with_reducible assumption) (by with_reducible assumption)); (case eZh => with_reducible assumption)); (intro D9Z a9Z us1Z us2Z k1Z k2Z nt9Z h9Z tk9Z hI1Z hI2Z F9Z N9Z); (try dsimp only at N9Z); (try dsimp only); (try k_fold))
  k_with "=compareOp Eq ref ref" => (k_here; k_dflt (refine' eq_pairs ?NZh ?SZh ?TZh ?aZh ?bZh ?cZh ?dZh ?i1Zh ?i2Zh ?i3Zh ?i4Zh ?uZh ?_; (case NZh => k_asm); (case SZh => k_mem); (case TZh => k_mem); (case aZh => k_mem); (case bZh => k_mem); (case cZh => k_mem); (case dZh => k_mem); (case i1Zh => with_reducible assumption); (case i2Zh => with_reducible assumption); (case i3Zh => with_reducible assumption); (case i4Zh => with_reducible assumption); (case uZh => first | ke_room | ktr_units)))
  k_with "=call ref" => (k_here; (with_reducible show wpAny _ _ (call (Value.ref 77) _) _ _ _); k_dflt (refine' mut_use (heapify_c _ _ ?c1Zh) ?k1Zh ?k2Zh ?k3Zh ?k4Zh ?k5Zh ?kKZh ?kUZh ?kIZh ?kdZh ?_; (case k1Zh => k_asm); (case k2Zh => k_asm); (case k3Zh => k_asm); (case k4Zh => k_asm); (case k5Zh => k_asm); (case kKZh => first | exact rfl | assumption); (case kUZh => k_updF); (case kIZh => with_reducible assumption); (case kdZh => ktr_room)); (case c1Zh => omega); (intro r9Z vs9Z ns9Z n9Z h9Z tk9Z hp9Z hi9Z F9Z N9Z); (obtain ⟨hr9Z, hn9Z⟩ := hp9Z); (first | subst hr9Z | (obtain ⟨t9Z, hr9Z⟩ := hr9Z; subst hr9Z)); (subst hn9Z); (try dsimp only at N9Z); (try dsimp only); (try k_fold))
  k_with "=call ref" => (k_here; (with_reducible show wpAny _ _ (call (Value.ref 110) _) _ _ _); k_dflt (refine' share_use ?c1Zh ?c2Zh ?c3Zh ?c4Zh ?BZh ?FZh ?XZh ?NZh ?TZh ?KZh ?UZh ?IZh ?DZh ?uZh ?_; (case BZh => k_asm); (case FZh => k_asm); (case XZh => k_asm); (case NZh => k_asm); (case TZh => k_asm); (case KZh => first | exact rfl | assumption); (case UZh => k_updF); (case IZh => with_reducible assumption); (case DZh => ktr_room); (case uZh => ktr_units)); (case c1Zh => omega); (case c2Zh => omega); (case c3Zh => with_reducible assumption); (case c4Zh => (simp only [heapifyF_length]; omega)); (intro D9Z a1Z a2Z a3Z us1Z us2Z us3Z n1Z n2Z n3Z nt9Z vs9Z n9Z h9Z tk9Z hI1Z hI2Z hI3Z F9Z N9Z hne9Z); (replace hne9Z := neAll_4 hne9Z); (obtain ⟨hne91Z, hne92Z, hne93Z, hne94Z⟩ := hne9Z); (simp only [List.map_cons, List.map_nil] at hne91Z hne92Z hne93Z hne94Z); (have hsh9Z := share_len hI2Z (by omega)); (have hlf9Z := share_lef hI3Z (by omega)); (try dsimp only at N9Z); (try dsimp only); (try k_fold))
  k_with "=call builtin:len" => (k_here; k_dflt (refine' len_U ?NZh ?mZh ?iZh ?zZh ?_; (case NZh => k_asm); (case mZh => k_mem); (case iZh => first | with_reducible assumption | l_ints); (case zZh => first | omega | ((simp only [List.length_append, List.length_cons, List.length_nil, List.length_set, List.length_dropLast, List.length_replicate]); omega))))
  k_with "=binaryOp Mult ref int" => (k_here; k_dflt (refine' rep_B ?FZh ?NZh ?lZh ?aZh ?bZh ?_; (case FZh => k_asm); (case NZh => k_asm); (case lZh => k_mem); (case aZh => omega); (case bZh => omega)); intro DZ' hZ' usZ' msZ' hmsZ' hmlZ' FZ' NZ' l1Z hIZ'; (try k_lt l1Z); (try k_sweep))
  k_with "=binaryOp Mult ref int" => (k_here; k_dflt (refine' rep_C ?cZh ?FZh ?NZh ?lZh ?_; (case cZh => with_reducible assumption); (case FZh => k_asm); (case NZh => k_asm); (case lZh => k_mem)); intro DZ' hZ' usZ' msZ' hmsZ' hmlZ' FZ' NZ' l1Z hIZ'; (try k_lt l1Z); (try k_sweep))
  k_with "=And" => ((with_reducible show And (GoodW _ _ _ _ _ _ _) _); refine stopHere ?_)
  k_with "pyIter ref" => (k_of "share" => k_state_given ["heirs"] (fun hh pre taken => taken = takenOf hh pre) "taken")
  k_with "state" => exact taken_nil.symm
  k_with "state" => exact taken_next' (by with_reducible assumption) (by with_reducible assumption) (by with_reducible assumption)
  k_with "=pyIter ref" => ((with_reducible show wpAny _ _ (pyIter (Value.ref _)) (fun it s₂ => LoopAtV _ _ _ _ _ _ (Stmt.Assign _ _ _ :: _) _ _ it s₂) _ _); refine stopHere ?_)
  k_steps
  unfold Stop
  rename _ = (2 : Int) ^ Int.toNat _ => hmw
  have hN : nsZ' = (outsOf c0Z c1Z c2Z c3Z hhZ wwZ uuZ).notes := notes_is (by with_reducible assumption) (by with_reducible assumption) (by with_reducible assumption) (by with_reducible assumption) (by decide) (by with_reducible assumption) (by with_reducible assumption) (by with_reducible assumption) (by with_reducible assumption) (by decide) (by with_reducible assumption) (by with_reducible assumption) (by with_reducible assumption) (by with_reducible assumption) (by decide) (by with_reducible assumption) (by with_reducible assumption) (by with_reducible assumption) (by with_reducible assumption) (by decide) hmw
  have hp := plain hc0Z hc1Z hc2Z hc3Z hh9Z hw9Z hu9Z
  rw [← hN, ← hmw] at hp
  obtain ⟨p1, p2, p3, p4⟩ := hp
  rw [p2, p3] at p4
  rw [p1] at hI1Z
  rw [p2] at hI2Z hsh9Z kInv
  rw [p3] at hI3Z hlf9Z
  subst kInv
  k_dflt (refine' law_turns (turn_c _) ?FZh ?XZh ?NZh ?TZh ?C1Zh ?C2Zh ?BZh ?e1Zh ?e2Zh ?e3Zh ?e4Zh ?e5Zh ?e6Zh ?e7Zh ?e8Zh ?e9Zh ?e10Zh ?e11Zh ?e12Zh ?e13Zh ?e14Zh ?e15Zh ?e16Zh ?mlZh ?mAZh ?m1Zh ?m2Zh ?m3Zh ?m4Zh ?m30Zh ?m37Zh ?y1Zh ?y2Zh ?y3Zh ?y4Zh ?y5Zh ?hlZh ?z1Zh ?z2Zh ?z3Zh ?z4Zh ?z5Zh ?hAZh ?h1Zh ?h2Zh ?h3Zh ?h4Zh hc0Z hc1Z hc2Z hc3Z hh9Z hw9Z hu9Z hb9Z ?hmZh hmw ?ilZh ?ivZh ?_; (case FZh => k_asm); (case XZh => k_asm); (case NZh => k_asm); (case TZh => k_asm); (case C1Zh => assumption); (case C2Zh => assumption); (case BZh => k_asm))
  case e1Zh => rfl
  case e2Zh => rfl
  case e3Zh => rfl
  case e4Zh => rfl
  case e5Zh => rfl
  case e6Zh => rfl
  case e7Zh => rfl
  case e8Zh => rfl
  case e9Zh => rfl
  case e10Zh => rfl
  case e11Zh => rfl
  case e12Zh => rfl
  case e13Zh => rfl
  case e14Zh => rfl
  case e15Zh => rfl
  case e16Zh => rfl
  case mlZh => k_mem
  case mAZh => k_mem
  case m1Zh => k_mem
  case m2Zh => k_mem
  case m3Zh => k_mem
  case m4Zh => k_mem
  case m30Zh => k_mem
  case m37Zh => k_mem
  case y1Zh => k_mem
  case y2Zh => k_mem
  case y3Zh => k_mem
  case y4Zh => k_mem
  case y5Zh => k_mem
  case hlZh => exact ⟨by k_ne, by k_ne, by k_ne, by k_ne, by k_ne, by k_ne, by k_ne, trivial⟩
  case z1Zh => exact ⟨by k_ne, by k_ne, by k_ne, by k_ne, by k_ne, by k_ne, by k_ne, trivial⟩
  case z2Zh => exact ⟨by k_ne, by k_ne, by k_ne, by k_ne, by k_ne, by k_ne, by k_ne, trivial⟩
  case z3Zh => exact ⟨by k_ne, by k_ne, by k_ne, by k_ne, by k_ne, by k_ne, by k_ne, trivial⟩
  case z4Zh => exact ⟨by k_ne, by k_ne, by k_ne, by k_ne, by k_ne, by k_ne, by k_ne, trivial⟩
  case z5Zh => exact ⟨by k_ne, by k_ne, by k_ne, by k_ne, by k_ne, by k_ne, by k_ne, trivial⟩
  case hAZh => exact ⟨by k_ne, by k_ne, trivial⟩
  case h1Zh => exact ⟨by k_ne, by k_ne, by k_ne, trivial⟩
  case h2Zh => exact ⟨by k_ne, by k_ne, by k_ne, by k_ne, trivial⟩
  case h3Zh => exact ⟨by k_ne, by k_ne, by k_ne, by k_ne, by k_ne, trivial⟩
  case h4Zh => exact ⟨by k_ne, by k_ne, by k_ne, by k_ne, by k_ne, by k_ne, trivial⟩
  case hmZh => with_reducible assumption
  case ilZh => exact .cons _ _ (.cons _ _ (.cons _ _ (.cons _ _ .nil)))
  case ivZh => with_reducible assumption
  intro us1 us2 us3 us4 n1 n2 n3 n4 tc' u h tk O ps30 ps37 hO j1 j2 j3 j4 hch F' N'
  rw [← hO] at hI1Z hI2Z hI3Z p4 hsh9Z hlf9Z kFacts
  dsimp only [turnSt] at F'
  try dsimp only
  try k_fold
  k_steps
  unfold Stop
  rename Fr _ _ _ _ => lF9
  rename News _ _ _ _ => lN9
  rename Shared.gens _ = _ => hg9
  exact law_end lF9 hg9 rfl lN9 (by k_mem) (by k_mem))
end Mine
set_option maxRecDepth 100000 in
set_option maxHeartbeats 8000000 in
theorem PySem.Challenge.cw_op0106_01_holds : PySem.Challenge.rw_op0106_01.Holds := by
  exact Mine.law_walk
