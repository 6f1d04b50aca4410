import PyProof.Rows.All
import Wide.All
import OpenK.AllK
import Wide.FinOn
import PySem.Challenge.RW_pd0047_01
open PySem PySem.W PyProof.Rows PySem.Calls
set_option Elab.async false
namespace Mine
set_option compiler.extract_closed false
set_option hygiene false
set_option maxRecDepth 100000
set_option maxHeartbeats 40000000
set_option pp.deepTerms false
set_option pp.deepTerms.threshold 10
set_option synthInstance.maxSize 1 in
open_top hd for PySem.Challenge.rw_pd0047_01


noncomputable abbrev NoE : Value → Shared → Prop := fun _ _ => False

section
variable {prog : Program} {w : World} {K : Frag} {p : Program} {loose : List Str} {mean : ExcName → Option Value} {mg mb : Str → Option Value} {b : Heap} {A : Around} {s : Shared}

/-- entering a def of the text: all that lives stays, but for what is given as open to change -/
theorem enter {R : Result → Shared → Prop} {name qual : Str} {params : Arguments} {body : List Stmt} {scope : Scope} {dV kV doc pm cdv ct oc : Value} {an od : Option Addr} {osl : Array (Option Value)} {f : Addr} {args : Args}
    (ms : List (Addr × Obj)) (binds : List (Str × Value))
    (X : K.In b) (T : Top p loose mean mg mb b) (hb : ∀ x o, b.get? x = some o → s.heap.get? x = some o)
    (hms : ∀ q ∈ ms, s.heap.get? q.1 = some q.2 ∧ b.get? q.1 = none)
    (ho : K.lookup f = some ⟨oc, od, .func (fnOf name qual params body scope dV kV doc pm an cdv ct), osl⟩) (hcd : codeIn K cdv qual = true) (hroom : A.depth < recursionLimit)
    (hbind : BindsTo s (fnOf name qual params body scope dV kV doc pm an cdv ct) args binds) (hloc : ∀ y ∈ binds, scope.names.lookup y.1 = some .local)
    (h : ∀ g L' h₁, (∀ x o, s.heap.get? x = some o → x ∉ ms.map Prod.fst → g.get? x = some o) → K.In g → Top p loose mean mg mb g → Fr g L' h₁ (fun y => binds.reverse.lookup y) → News g L' h₁ ms →
      wpAny (model prog w) (A.deeper (envOf qual scope L' f cdv)) (execs body (envOf qual scope L' f cdv))
        (fun fl s' => R (.ok (.ret (match fl with | .ret v => v | _ => .none))) s') NoE { s with heap := h₁, toks := s.toks + binds.length })
    (hcell : ∀ x ∈ scope.names, x.2 ≠ .cell)
    (hco : scope.isCoroutine = false) (hgen : scope.isGenerator = false) (hk : scope.kind = .function) : codeAny (model prog w) A (.call (.ref f) args) R s := by
  have nm : ∀ x o, b.get? x = some o → x ∉ ms.map Prod.fst := fun x o e q => by
    obtain ⟨y, hy, rfl⟩ := List.mem_map.mp q
    rw [(hms y hy).2] at e; cases e
  have st : b.StaysIn (hideAll s.heap (ms.map Prod.fst)) := fun x o e => hideAll_get _ (hb x o e) (nm x o e)
  refine codeAny_call_def (fd := fnOf name qual params body scope dV kV doc pm an cdv ct) (body := body) (binds := binds) hroom (hb _ _ (X _ _ ho)) rfl (T.nolimit.keeps hb) (codeRec_of (K := K) (fun a o e => hb _ _ (X a o e)) hcd) rfl hbind hcell hloc (fun h₁ hns hk₁ => ?_) hco hgen hk
  refine wpAny_mono (h (hideAll s.heap (ms.map Prod.fst)) s.heap.objs.size h₁ (fun x o e hx => hideAll_get _ e hx) (X.keeps st) (T.keeps st) ⟨hns, fun x o e => hk₁ x o (of_hideAll _ e), Nat.le_of_eq (hideAll_size _ _)⟩
    (fun q hq => ⟨hk₁ _ _ (hms q hq).1, Nat.ne_of_lt (Heap.lt_size (hms q hq).1), hideAll_none _ (List.mem_map_of_mem hq)⟩)) (fun _ _ x => x) (fun _ _ x => x.elim)
end


/-- what the map of a frame holds -/
noncomputable def Has (m : Str → Option Value) : List (Str × Value) → Prop
  | [] => True
  | q :: r => m q.1 = some q.2 ∧ Has m r
theorem Has.lookup {m : Str → Option Value} : ∀ {ps : List (Str × Value)}, Has m ps → ∀ y, (ps.lookup y).or (m y) = m y
  | [], _, y => rfl
  | q :: r, h, y => by
    rw [List.lookup_cons]
    by_cases e : (y == q.1) = true
    · rw [e, eq_of_beq e, h.1]; rfl
    · simp only [e]; exact Has.lookup h.2 y
theorem Has.canon {g h : Heap} {L : Addr} {m : Str → Option Value} {ps : List (Str × Value)} (hp : Has m ps) (F : Fr g L h m) : Fr g L h (fun y => (ps.lookup y).or (m y)) := by
  have : (fun y => (ps.lookup y).or (m y)) = m := funext fun y => hp.lookup y
  rw [this]; exact F

section
variable {prog : Program} {w : World} {A : Around} {s : Shared} {env : Env} {g : Heap} {L : Addr} {m : Str → Option Value} {news news' : List (Addr × Obj)}
theorem whileR {test : Expr} {body : List Stmt} {pos : Pos} {Q : Flow → Shared → Prop} (I : Nat → Shared → Prop) (n : Nat) (hI : I n s)
    (turn : ∀ n s, I n s → wpAny (model prog w) A (isTrue test env (eval test env)) (fun b s₂ =>
        if b = true then wpAny (model prog w) A (execs body env) (fun f s₃ => match f with
            | .next | .cont => ∃ m, m < n ∧ I m s₃
            | .brk => Q .next s₃
            | .ret v => Q (.ret v) s₃) NoE s₂
        else Q .next s₂) NoE s) : wpAny (model prog w) A (exec (.While test body [] pos) env) Q NoE s := by
  refine wpAny_While (codeAny_whileLoop I (fun n s' hs => ?_) n hI)
  refine wpAny_mono (turn n s' hs) (fun b s₂ h₂ => ?_) (fun _ _ e => e.elim)
  cases b with
  | false => simp only [Bool.false_eq_true, if_false] at h₂ ⊢; exact wpAny_execs_nil h₂
  | true => simp only [if_true] at h₂ ⊢; exact wpAny_mono h₂ (fun f s₃ h₃ => h₃) (fun _ _ e => e.elim)

/-- a turn's end: the frame and the ledger stand, the measure is less -/
noncomputable def Again (g : Heap) (L : Addr) (s : Shared) (J : Nat → (Str → Option Value) → List (Addr × Obj) → Prop) (n : Nat) (s₃ : Shared) : Prop :=
  ∃ h tk m news n', s₃ = { s with heap := h, toks := tk } ∧ Fr g L h m ∧ News g L h news ∧ n' < n ∧ J n' m news
noncomputable def TurnQ (g : Heap) (L : Addr) (s : Shared) (J : Nat → (Str → Option Value) → List (Addr × Obj) → Prop) (n : Nat) (Q : Flow → Shared → Prop) (f : Flow) (s₃ : Shared) : Prop :=
  match f with
  | .next | .cont => Again g L s J n s₃
  | .brk => Q .next s₃
  | .ret v => Q (.ret v) s₃
theorem whileJ {test : Expr} {body : List Stmt} {pos : Pos} {Q : Flow → Shared → Prop} (J : Nat → (Str → Option Value) → List (Addr × Obj) → Prop) (n₀ : Nat)
    (F : Fr g L s.heap m) (N : News g L s.heap news) (hJ : J n₀ m news)
    (turn : ∀ n m₁ news₁ h₁ tk₁, Fr g L h₁ m₁ → News g L h₁ news₁ → J n m₁ news₁ →
      wpAny (model prog w) A (isTrue test env (eval test env)) (fun b s₂ =>
        if b = true then wpAny (model prog w) A (execs body env) (TurnQ g L s J n Q) NoE s₂ else Q .next s₂) NoE { s with heap := h₁, toks := tk₁ }) :
    wpAny (model prog w) A (exec (.While test body [] pos) env) Q NoE s := by
  refine whileR (fun n s' => ∃ h tk m news, s' = { s with heap := h, toks := tk } ∧ Fr g L h m ∧ News g L h news ∧ J n m news) n₀ ⟨s.heap, s.toks, m, news, rfl, F, N, hJ⟩ ?_
  rintro n s' ⟨h₁, tk₁, m₁, news₁, rfl, F₁, N₁, J₁⟩
  refine wpAny_mono (turn n m₁ news₁ h₁ tk₁ F₁ N₁ J₁) (fun b s₂ h₂ => ?_) (fun _ _ e => e)
  cases b with
  | false => simpa using h₂
  | true =>
    simp only [if_true] at h₂ ⊢
    refine wpAny_mono h₂ (fun f s₃ h₃ => ?_) (fun _ _ e => e)
    cases f with
    | next => obtain ⟨h, tk, m, news, n', rfl, F, N, hn, hJ⟩ := h₃; exact ⟨n', hn, h, tk, m, news, rfl, F, N, hJ⟩
    | cont => obtain ⟨h, tk, m, news, n', rfl, F, N, hn, hJ⟩ := h₃; exact ⟨n', hn, h, tk, m, news, rfl, F, N, hJ⟩
    | brk => exact h₃
    | ret v => exact h₃

/-- what stands behind a statement, said once -/
structure Behind (P : Shared → Prop) (f : Flow) (s : Shared) : Prop where
  fl : f = .next
  st : P s
theorem cutQ {t : Sem Flow} {Q : Flow → Shared → Prop} (P : Shared → Prop) (h : wpAny (model prog w) A t (Behind P) NoE s) (k : ∀ s', P s' → Q .next s') : wpAny (model prog w) A t Q NoE s :=
  wpAny_mono h (fun f s' hf => by obtain ⟨rfl, hp⟩ := hf; exact k s' hp) (fun _ _ e => e)
/-- what a tree hands back, said once -/
structure Gives {α : Type} (P : α → Shared → Prop) (v : α) (s : Shared) : Prop where
  st : P v s
theorem cutV {α : Type} {t : Sem α} {Q : α → Shared → Prop} (P : α → Shared → Prop) (h : wpAny (model prog w) A t (Gives P) NoE s) (k : ∀ v s', P v s' → Q v s') : wpAny (model prog w) A t Q NoE s :=
  wpAny_mono h (fun f s' hf => k f s' hf.st) (fun _ _ e => e)
/-- an end that the walk leaves alone -/
structure End (P : Prop) : Prop where
  out : P
theorem shr1 {k : Nat} {t u : Tok} {Q : Value → Shared → Prop} (hk : 0 < k) (h : Q (.int ((k - 1) / 2 : Nat) s.toks) { s with toks := s.toks + 1 }) : wpAny (model prog w) A (binaryOp .RShift (.int ((k : Int) - 1) t) (.int 1 u)) Q NoE s := by
  refine rshift_int (by decide) ?_
  have : ((k : Int) - 1).fdiv (2 ^ Int.toNat 1) = (((k - 1) / 2 : Nat) : Int) := by
    rw [show (2 ^ Int.toNat 1 : Int) = 2 from rfl, Int.fdiv_eq_ediv_of_nonneg _ (by decide)]; omega
  rw [this]; exact h

theorem sub_list {value slice : Expr} {a : Addr} {vs : List Value} {n : Nat} {k : Int} {u : Tok} {E : Value → Shared → Prop} {Q : Value → Shared → Prop} (N : News g L s.heap news) (hm : (a, listOf vs.toArray n) ∈ news)
    (h0 : 0 ≤ k) (h1 : k < vs.length) (h2 : k < 2 ^ 63) (h : Q (vs.getD k.toNat .none) s)
    (hs : subscripted slice false (.ref a) (.int k u) = operate [.ref a, .int k u] (getItem (.ref a) (.int k u))) (hg : ∀ r, letTemporaryGo value (.ref a) r = pure ()) :
    wpAny (model prog w) A (subscriptTail value slice (.ref a) (.int k u)) Q E s :=
  item_listL (PySem.IsL.isList (n := n) (N _ hm).1) h0 h2 (by
    have : k.toNat < vs.length := by omega
    rw [List.getElem?_eq_getElem this, List.getD_eq_getElem?_getD, List.getElem?_eq_getElem this]; rfl) h hs hg
theorem set_list {D : Addr} {vs : List Value} {n : Nat} {k : Int} {t : Tok} {x : Value} {E : Value → Shared → Prop} {Q : Unit → Shared → Prop} (F : Fr g L s.heap m) (N : News g L s.heap news) (U : Upd D (listOf vs.toArray n) (listOf (vs.set k.toNat x).toArray n) news news')
    (h0 : 0 ≤ k) (h1 : k < vs.length) (hfit : k < 2 ^ 63)
    (h : ∀ h', Fr g L h' m → News g L h' news' → Q () { s with heap := h' }) :
    wpAny (model prog w) A (setItem (.ref D) (.int k t) x) Q E s := by
  obtain ⟨pre, post, rfl, rfl, a, b⟩ := U.split
  have z := N (D, listOf vs.toArray n) (List.mem_append.mpr (.inr (.head _)))
  refine ki_setAt z.1 h0 hfit (by rw [List.size_toArray]; omega) (h _ (F.change (Heap.SameBut.update ..) z.2.1 z.2.2) (ki_turn _ N a b ?_ ?_))
  · show vs.toArray.setIfInBounds k.toNat x = (vs.set k.toNat x).toArray
    apply Array.toList_inj.mp
    simp
  · simp
theorem sub_nat {value slice : Expr} {a : Addr} {vs : List Value} {n k : Nat} {u : Tok} {E : Value → Shared → Prop} {Q : Value → Shared → Prop} (N : News g L s.heap news) (hm : (a, listOf vs.toArray n) ∈ news)
    (h1 : k < vs.length) (h2 : vs.length ≤ 1000000) (h : Q (vs.getD (k : Int).toNat .none) s)
    (hs : subscripted slice false (.ref a) (.int k u) = operate [.ref a, .int k u] (getItem (.ref a) (.int k u))) (hg : ∀ r, letTemporaryGo value (.ref a) r = pure ()) :
    wpAny (model prog w) A (subscriptTail value slice (.ref a) (.int k u)) Q E s :=
  sub_list N hm (by omega) (by omega) (by omega) h hs hg
theorem set_nat {D : Addr} {vs : List Value} {n k : Nat} {t : Tok} {x : Value} {E : Value → Shared → Prop} {Q : Unit → Shared → Prop} (F : Fr g L s.heap m) (N : News g L s.heap news) (U : Upd D (listOf vs.toArray n) (listOf (vs.set (k : Int).toNat x).toArray n) news news')
    (h1 : k < vs.length) (h2 : vs.length ≤ 1000000)
    (h : ∀ h', Fr g L h' m → News g L h' news' → Q () { s with heap := h' }) :
    wpAny (model prog w) A (setItem (.ref D) (.int k t) x) Q E s :=
  set_list F N U (by omega) (by omega) (by omega) h
theorem len_listN {a : Addr} {vs : List Value} {n : Nat} {E : Value → Shared → Prop} {Q : Value → Shared → Prop} (N : News g L s.heap news) (hm : (a, listOf vs.toArray n) ∈ news) (h1 : vs.length ≤ 1000000)
    (h : Q (.int vs.length (s.toks + 1)) { s with toks := s.toks + 1 + 1 }) : wpAny (model prog w) A (call (.builtin "len") [.ref a]) Q E s := by
  have hz : vs.toArray.size = vs.length := List.size_toArray ..
  refine Calls.call_len_list (PySem.IsL.isList (n := n) (N _ hm).1) (by rw [hz]; omega) ?_
  rw [hz]; exact h
theorem append_list {D : Addr} {vs : List Value} {n : Nat} {x : Value} {E : Value → Shared → Prop} {Q : Value → Shared → Prop} (F : Fr g L s.heap m) (N : News g L s.heap news) (U : Upd D (listOf vs.toArray n) (listOf (vs ++ [x]).toArray (n + 1)) news news') (h1 : vs.length ≤ 1000000)
    (h : ∀ h', Fr g L h' m → News g L h' news' → Q .none { s with heap := h' }) : wpAny (model prog w) A (call (.builtin "list.append") [.ref D, x]) Q E s :=
  append_K F N (by rw [List.push_toArray]; exact U) h (by rw [List.size_toArray, sizeLine_eq]; omega)
theorem pop_list {D : Addr} {vs : List Value} {n : Nat} {E : Value → Shared → Prop} {Q : Value → Shared → Prop} (F : Fr g L s.heap m) (N : News g L s.heap news) (U : Upd D (listOf vs.toArray n) (listOf vs.dropLast.toArray (n + 1)) news news') (h0 : 0 < vs.length) (h1 : vs.length ≤ 1000000)
    (h : ∀ h', Fr g L h' m → News g L h' news' → Q (vs.getD (vs.length - 1) .none) { s with heap := h' }) : wpAny (model prog w) A (call (.builtin "list.pop") [.ref D]) Q E s := by
  refine kl_pop F N (p := vs.dropLast) (y := vs.getD (vs.length - 1) .none) ?_ U (by rw [sizeLine_eq]; simp only []; omega) h
  have hne : vs ≠ [] := by intro e; rw [e] at h0; exact absurd h0 (Nat.lt_irrefl 0)
  have e := kpa_last (vs.getLast hne) vs.dropLast
  rw [List.dropLast_concat_getLast hne] at e
  have q : vs.getD (vs.length - 1) .none = vs.getLast hne := by
    rw [List.getD_eq_getElem?_getD, List.getElem?_eq_getElem (by omega), List.getLast_eq_getElem]; rfl
  rw [q]; exact e
theorem truthy_listN {a : Addr} {vs : List Value} {n : Nat} {E : Value → Shared → Prop} {Q : Bool → Shared → Prop} (N : News g L s.heap news) (hm : (a, listOf vs.toArray n) ∈ news) (h1 : vs.length ≤ 1000000)
    (h : Q (decide (0 < vs.length)) { s with toks := s.toks + 1 + 1 }) : wpAny (model prog w) A (truthy (.ref a)) Q E s := by
  refine wpAny_truthy_list (PySem.IsL.isList (n := n) (N _ hm).1) (by rw [List.size_toArray]; omega) ?_
  have e : (!vs.toArray.isEmpty) = decide (0 < vs.length) := by cases vs <;> simp
  rw [e]; exact h
end

local macro_rules | `(tactic| walk_at "fit") => `(tactic| first | assumption | exact Nat.le_trans (by assumption) (by decide) | omega | (simp only [List.length_append, List.length_set, List.length_dropLast, List.length_cons, List.length_nil, List.length_map, List.length_range, Int.natCast_add, Int.natCast_one]; omega))
local macro_rules | `(tactic| walk_at "gL") => `(tactic| with_reducible show wpAny _ _ (call (Value.builtin _) (Value.ref _ :: _)) _ _ _)
local macro_rules | `(tactic| walk_at "call builtin:len") => `(tactic| (walk_at "gL"; with_unfolding_all refine' len_listN (by k_asm) (by k_mem) (by walk_at "fit") ?_))
local macro_rules | `(tactic| walk_at "call builtin:list.append") => `(tactic| (walk_at "gL"; (with_unfolding_all refine' append_list (by k_asm) (by k_asm) (by k_upd) (by walk_at "fit") ?_); intro _ _ _))
local macro_rules | `(tactic| walk_at "call builtin:list.pop") => `(tactic| (walk_at "gL"; (with_unfolding_all refine' pop_list (by k_asm) (by k_asm) (by k_upd) (by walk_at "fit") (by walk_at "fit") ?_); intro _ _ _))
local macro_rules | `(tactic| walk_at "truthy ref") => `(tactic| ((with_reducible show wpAny _ _ (truthy (Value.ref _)) _ _ _); with_unfolding_all refine' truthy_listN (by k_asm) (by k_mem) (by walk_at "fit") ?_))
section
variable {prog : Program} {w : World} {A : Around} {s : Shared} {g : Heap} {L : Addr} {m : Str → Option Value} {news : List (Addr × Obj)} {env : Env}
/-- while: the turn told of one state and one end -/
theorem whileH {test : Expr} {body : List Stmt} {pos : Pos} {Q : Flow → Shared → Prop} (J : Nat → (Str → Option Value) → List (Addr × Obj) → Prop) (X : (Str → Option Value) → List (Addr × Obj) → Prop) (n₀ : Nat)
    (F : Fr g L s.heap m) (N : News g L s.heap news) (hJ : J n₀ m news)
    (turn : ∀ n m₁ news₁ (S : Shared) (T : Flow → Shared → Prop) (B : Shared → Prop), Fr g L S.heap m₁ → News g L S.heap news₁ → J n m₁ news₁ →
      (∀ h tk m' news' n', Fr g L h m' → News g L h news' → n' < n → J n' m' news' → T .next { S with heap := h, toks := tk }) →
      (∀ h tk m' news', Fr g L h m' → News g L h news' → X m' news' → B { S with heap := h, toks := tk }) →
      wpAny (model prog w) A (isTrue test env (eval test env)) (fun b s₂ => if b = true then wpAny (model prog w) A (execs body env) T NoE s₂ else B s₂) NoE S)
    (after : ∀ h tk m' news', Fr g L h m' → News g L h news' → X m' news' → Q .next { s with heap := h, toks := tk }) :
    wpAny (model prog w) A (exec (.While test body [] pos) env) Q NoE s :=
  whileJ J n₀ F N hJ fun n m₁ news₁ h₁ tk₁ F₁ N₁ J₁ =>
    turn n m₁ news₁ { s with heap := h₁, toks := tk₁ } (TurnQ g L s J n Q) (fun s₂ => Q .next s₂) F₁ N₁ J₁ (fun h tk m' news' n' F N hn hJ => ⟨h, tk, m', news', n', rfl, F, N, hn, hJ⟩) fun h tk m' news' F N hX => after h tk m' news' F N hX
theorem whileB {test : Expr} {body : List Stmt} {pos : Pos} {Q : Flow → Shared → Prop} (J : Nat → (Str → Option Value) → List (Addr × Obj) → Prop) (X : (Str → Option Value) → List (Addr × Obj) → Prop) (n₀ : Nat)
    (F : Fr g L s.heap m) (N : News g L s.heap news) (hJ : J n₀ m news)
    (turn : ∀ n m₁ news₁ (S : Shared) (T : Flow → Shared → Prop) (B : Shared → Prop), Fr g L S.heap m₁ → News g L S.heap news₁ → J n m₁ news₁ →
      (∀ h tk m' news' n', Fr g L h m' → News g L h news' → n' < n → J n' m' news' → T .cont { S with heap := h, toks := tk }) →
      (∀ h tk m' news', Fr g L h m' → News g L h news' → X m' news' → T .brk { S with heap := h, toks := tk } ∧ B { S with heap := h, toks := tk }) →
      wpAny (model prog w) A (isTrue test env (eval test env)) (fun b s₂ => if b = true then wpAny (model prog w) A (execs body env) T NoE s₂ else B s₂) NoE S)
    (after : ∀ h tk m' news', Fr g L h m' → News g L h news' → X m' news' → Q .next { s with heap := h, toks := tk }) :
    wpAny (model prog w) A (exec (.While test body [] pos) env) Q NoE s :=
  whileJ J n₀ F N hJ fun n m₁ news₁ h₁ tk₁ F₁ N₁ J₁ =>
    turn n m₁ news₁ { s with heap := h₁, toks := tk₁ } (TurnQ g L s J n Q) (fun s₂ => Q .next s₂) F₁ N₁ J₁ (fun h tk m' news' n' F N hn hJ => ⟨h, tk, m', news', n', rfl, F, N, hn, hJ⟩) fun h tk m' news' F N hX => ⟨after h tk m' news' F N hX, after h tk m' news' F N hX⟩
theorem newsVia {h : Heap} {l l' : List (Addr × Obj)} (N : News g L h l) (k : News g L h l → News g L h l') : News g L h l' := k N
theorem newsCons {h : Heap} {p : Addr × Obj} {l : List (Addr × Obj)} (a : h.get? p.1 = some p.2 ∧ p.1 ≠ L ∧ g.get? p.1 = none) (b : News g L h l) : News g L h (p :: l) := fun q hq => by
  rcases List.mem_cons.mp hq with rfl | hq
  · exact a
  · exact b q hq
theorem allN {α : Type} {P : α → Prop} : ∀ x ∈ ([] : List α), P x := fun _ h => nomatch h
theorem allC {α : Type} {P : α → Prop} {a : α} {l : List α} (h : P a) (t : ∀ x ∈ l, P x) : ∀ x ∈ a :: l, P x := fun x hx => by
  cases hx with
  | head => exact h
  | tail _ hx => exact t x hx
theorem allS {α : Type} {P : α → Prop} {a : α} {l : List α} (h : ∀ x ∈ a :: l, P x) : P a ∧ ∀ x ∈ l, P x := ⟨h _ (.head _), fun x hx => h x (.tail _ hx)⟩
theorem room_le {d n k c : Nat} (h : d + n < c) (hk : k ≤ n) : d + k < c := Nat.lt_of_le_of_lt (Nat.add_le_add_left hk d) h
theorem room1 {A : Around} {e : Env} {n k c : Nat} (h : A.depth + n < c) (hk : 1 + k ≤ n) : (A.deeper e).depth + k < c := by show A.depth + 1 + k < c; omega
theorem unit1 {A : Around} {e : Env} {n k c : Nat} (h : A.units + n < c) (hk : 3 + k ≤ n) : (A.deeper e).units + k < c := by simp only [Around.deeper_units]; omega
end

local macro_rules | `(tactic| walk_at "mem") => `(tactic| first | exact List.Mem.head _ | assumption | (refine List.Mem.tail _ ?_; walk_at "mem") | (refine List.mem_append_left _ ?_; walk_at "mem") | (refine List.mem_append_right _ ?_; walk_at "mem"))
local macro_rules | `(tactic| walk_at "ro") => `(tactic| (rename News _ _ _ _ => Nro; (repeat (refine newsCons (Nro _ ?_) ?_; (· walk_at "mem"))); first | exact News.nil | (refine fun p hp => Nro p ?_; walk_at "mem")))

theorem halfLe (p : Nat) : (p - 1) / 2 ≤ p := Nat.le_trans (Nat.div_le_self _ _) (Nat.sub_le _ _)
theorem halfLt {p q : Nat} (h : q < p) : (p - 1) / 2 < p := Nat.lt_of_le_of_lt (Nat.div_le_self _ _) (Nat.sub_lt (Nat.lt_of_le_of_lt (Nat.zero_le _) h) Nat.zero_lt_one)
section
variable {α : Type} (lt : α → α → Bool) (d : α)
noncomputable def sdGo (x : α) (sp : Nat) (xs : List α) (pos : Nat) : List α :=
  if sp < pos then
    if lt x (xs.getD ((pos - 1) / 2) d) then sdGo x sp (xs.set pos (xs.getD ((pos - 1) / 2) d)) ((pos - 1) / 2) else xs.set pos x
  else xs.set pos x
termination_by pos
decreasing_by exact halfLt (by assumption)
end

noncomputable def CmpOk (prog : Program) (w : World) (g : Heap) (S : Value → Prop) (lt : Value → Value → Bool) : Prop :=
  ∀ x y, S x → S y → ∀ (A : Around) (s : Shared) (Q : Value → Shared → Prop), A.units + 100 < cLine → (∀ a o, g.get? a = some o → s.heap.get? a = some o) → Q (.bool (lt x y)) s → wpAny (model prog w) A (compareOp .Lt x y) Q NoE s



theorem getD_mem {S : Value → Prop} {vs : List Value} (h : ∀ v ∈ vs, S v) {i : Nat} (hi : i < vs.length) : S (vs.getD i .none) := by
  rw [List.getD_eq_getElem?_getD, List.getElem?_eq_getElem hi]; exact h _ (List.getElem_mem hi)
theorem set_all {S : Value → Prop} {vs : List Value} (h : ∀ v ∈ vs, S v) {x : Value} (hx : S x) (i : Nat) : ∀ v ∈ vs.set i x, S v := fun v hv => by
  rcases List.mem_or_eq_of_mem_set hv with q | q
  · exact h v q
  · rw [q]; exact hx


local macro_rules | `(tactic| walk_at "subscriptTail") => `(tactic| ((with_reducible show wpAny _ _ (subscriptTail _ _ (Value.ref _) (Value.int _ _)) _ _ _); with_unfolding_all first | refine' sub_nat (by k_asm) (by k_mem) (by walk_at "fit") (by walk_at "fit") ?_ (by rfl) (fun _ => by rfl) | refine' sub_list (by k_asm) (by k_mem) (by walk_at "fit") (by walk_at "fit") (by walk_at "fit") ?_ (by rfl) (fun _ => by rfl)))
local macro_rules | `(tactic| walk_at "go") => `(tactic| repeat' ((fail_if_success with_reducible (first | show wpAny _ _ (exec (.While ..) _) _ _ _ | show wpAny _ _ (exec (.For ..) _) _ _ _ | show wpAny _ _ (exec (.Try ..) _) _ _ _ | show wpAny _ _ (exec (.Assign _ (.ListComp ..) _) _) _ _ _ | show wpAny _ _ (eval (.ListComp ..) _) _ _ _ | show wpAny _ _ (eval (.SetComp ..) _) _ _ _)); first | walk1 | (dsimp only; walk1)))
local macro_rules | `(tactic| walk_at "binaryOp RShift int int") => `(tactic| refine shr1 (by omega) ?_)
local macro_rules | `(tactic| walk_at "le") => `(tactic| first | assumption | exact getD_mem (by assumption) (by omega))
local macro_rules | `(tactic| walk_at "compareOp Lt") => `(tactic| ((rename CmpOk _ _ _ _ _ => hcm); refine hcm _ _ (by walk_at "le") (by walk_at "le") _ _ _ (by simp only [Around.deeper_units]; omega) (fun a o e => Fr.keep (by assumption) a o (by solve_by_elim)) ?_))
local macro_rules | `(tactic| walk_at "setItem") => `(tactic| ((with_reducible show wpAny _ _ (setItem (Value.ref _) (Value.int _ _) _) _ _ _); (with_unfolding_all first | refine' set_nat (by k_asm) (by k_asm) (by k_upd) (by walk_at "fit") (by walk_at "fit") ?_ | refine' set_list (by k_asm) (by k_asm) (by k_upd) (by walk_at "fit") (by walk_at "fit") (by walk_at "fit") ?_); intro _ _ _))
section
variable {w : World} {mean : ExcName → Option Value} {mg mb : Str → Option Value} {b g : Heap} {A : Around} {s : Shared} {L : Addr} {m : Str → Option Value} {rest : List (Addr × Obj)}
inductive SdJ (l : Addr) (lt : Value → Value → Bool) (S : Value → Prop) (vs : List Value) (sp p : Nat) (t1 : Tok) (x : Value) (k : Nat) (m : Str → Option Value) (news : List (Addr × Obj)) : Prop
  | mk (vs' : List Value) (n' : Nat) (t : Tok) (hk : k < vs.length) (hlen : vs'.length = vs.length) (hS' : ∀ v ∈ vs', S v) (hgo : sdGo lt .none x sp vs' k = sdGo lt .none x sp vs p)
    (hm : Has m [("heap", .ref l), ("startpos", .int sp t1), ("pos", .int k t), ("newitem", x)]) (hled : news = [(l, listOf vs'.toArray n')])
inductive SdX (l : Addr) (lt : Value → Value → Bool) (vs : List Value) (sp p : Nat) (x : Value) (m : Str → Option Value) (news : List (Addr × Obj)) : Prop
  | mk (vs' : List Value) (n' pos : Nat) (t : Tok) (hk : pos < vs.length) (hlen : vs'.length = vs.length) (hgo : vs'.set pos x = sdGo lt .none x sp vs p) (hm : Has m [("heap", .ref l), ("pos", .int pos t), ("newitem", x)]) (hled : news = [(l, listOf vs'.toArray n')])
theorem siftdown_call {R : Result → Shared → Prop} {l : Addr} {vs : List Value} {n : Nat} {sp p : Nat} {t1 t2 : Tok} {S : Value → Prop} {lt : Value → Value → Bool} : (hd.heap_39 w.params).In b → (T : Top hd.view_39 (looseW hd.view_39 []) mean mg mb b) → (hb : ∀ x o, b.get? x = some o → s.heap.get? x = some o) →
  (hl : s.heap.get? l = some (listOf vs.toArray n)) → (hlb : b.get? l = none) → (hroom : A.depth < recursionLimit) → (hu : A.units + 200 < cLine) → (hp : p < vs.length) → (hn : vs.length ≤ 1000) →
  (hS : ∀ v ∈ vs, S v) → (hc : CmpOk PySem.Challenge.rw_pd0047_01.row.prog w b S lt) →
  (hR : ∀ h' n' tk, (∀ x o, s.heap.get? x = some o → x ≠ l → h'.get? x = some o) → h'.get? l = some (listOf (sdGo lt .none (vs.getD p .none) sp vs p).toArray n') → R (.ok (.ret .none)) { s with heap := h', toks := tk }) →
  codeAny (model PySem.Challenge.rw_pd0047_01.row.prog w) A (.call (.ref 49) ⟨[.ref l, .int sp t1, .int p t2], []⟩) R s := by
  k_fill
  intro X T hb hl hlb hroom hu hp hn hS hc hR
  refine enter [(l, listOf vs.toArray n)] [("heap", .ref l), ("startpos", .int sp t1), ("pos", .int p t2)] X T hb ?_ (by k_is) (by k_is) hroom (BindsTo.of_eq rfl) (locs rfl) ?_ (by decide) rfl rfl rfl
  · intro q hq; cases hq with
    | head => exact ⟨hl, hlb⟩
    | tail _ h => cases h
  intro g L' h₁ hg X' T' F N
  have hbg : ∀ x o, b.get? x = some o → g.get? x = some o := fun x o e => hg x o (hb x o e) (by
    intro hm; simp at hm; rw [hm, hlb] at e; cases e)
  clear X T hb
  walk_at "go"
  generalize hX : vs.getD (Int.toNat (p : Int)) .none = x at *
  have hx : S x := hX ▸ getD_mem hS hp
  have hX' : vs.getD p .none = x := hX
  rw [hX'] at hR
  (rename Fr _ _ _ _ => F1)
  (rename News _ _ _ _ => N1)
  refine whileB (SdJ l lt S vs sp p t1 x) (SdX l lt vs sp p x) p F1 N1 ⟨vs, n, t2, hp, rfl, hS, rfl, ⟨rfl, rfl, rfl, rfl, trivial⟩, rfl⟩ ?_ ?_
  · clear hS
    rintro k m₁ news₁ S2 T2 B2 F2 N2 ⟨vs', n', t, hk, hlen, hS', hgo, hm, rfl⟩ hT2 hB2
    replace F2 := hm.canon F2
    have hkl : k < vs'.length := hlen ▸ hk
    have hpl := Nat.lt_of_le_of_lt (halfLe k) hkl
    have hpar : S (vs'.getD ((k - 1) / 2) .none) := getD_mem hS' hpl
    clear F1 N1
    walk_at "go"
    · have hlt : sp < k := by omega
      have hif : lt x (vs'.getD ((k - 1) / 2) .none) = true := by assumption
      refine hT2 _ _ _ _ ((k - 1) / 2) (by assumption) (by assumption) (halfLt hlt) ⟨vs'.set k (vs'.getD ((k - 1) / 2) .none), n', _, hlen ▸ hpl, by rw [List.length_set]; exact hlen, set_all hS' hpar k, ?_, ⟨rfl, rfl, rfl, rfl, trivial⟩, rfl⟩
      rw [← hgo]
      conv => rhs; rw [sdGo]
      rw [if_pos hlt, if_pos hif]
    · have hlt : sp < k := by omega
      have hif : ¬ (lt x (vs'.getD ((k - 1) / 2) .none) = true) := by first | assumption | exact Bool.eq_false_iff.mp (by assumption)
      refine (hB2 _ _ _ _ (by assumption) (by assumption) ⟨vs', n', k, t, hk, hlen, ?_, ⟨rfl, rfl, rfl, trivial⟩, rfl⟩).1
      rw [← hgo]
      conv => rhs; rw [sdGo]
      rw [if_pos hlt, if_neg hif]
    · have hlt : ¬ (sp < k) := by omega
      refine (hB2 _ _ _ _ (by assumption) (by assumption) ⟨vs', n', k, t, hk, hlen, ?_, ⟨rfl, rfl, rfl, trivial⟩, rfl⟩).2
      rw [← hgo]
      conv => rhs; rw [sdGo]
      rw [if_neg hlt]
  · rintro h3 tk3 m3 led3 F3 N3 ⟨vs3, n3, pos3, t3, hp3, hl3, he3, hm3, rfl⟩
    replace F3 := hm3.canon F3
    clear F1 N1
    walk_at "go"
    (rename Fr _ _ _ _ => F4)
    (rename News _ _ _ _ => N4)
    refine hR _ n3 _ (fun x o e hx => F4.keep x o (hg x o e (by simpa using hx))) ?_
    have := (N4 _ (.head _)).1
    rw [← he3]; exact this
end

section
variable {w : World} {mean : ExcName → Option Value} {mg mb : Str → Option Value} {b g : Heap} {A : Around} {s : Shared} {L : Addr} {m : Str → Option Value} {rest : List (Addr × Obj)}
theorem suLt {p n : Nat} (h : p < n) : n - (2 * p + 1) < n - p := Nat.sub_lt_sub_left h (by omega)
theorem suLt2 {p n : Nat} (h : p < n) : n - (2 * p + 2) < n - p := Nat.sub_lt_sub_left h (by omega)
theorem suLt0 {p n : Nat} (h : 2 * p + 1 < n) : p < n := by omega
section
variable {α : Type} (lt : α → α → Bool) (d : α)
noncomputable def suGo (e : Nat) (xs : List α) (pos : Nat) : List α × Nat :=
  if 2 * pos + 1 < e then
    if 2 * pos + 2 < e ∧ ¬ (lt (xs.getD (2 * pos + 1) d) (xs.getD (2 * pos + 2) d) = true) then suGo e (xs.set pos (xs.getD (2 * pos + 2) d)) (2 * pos + 2)
    else suGo e (xs.set pos (xs.getD (2 * pos + 1) d)) (2 * pos + 1)
  else (xs, pos)
termination_by e - pos
decreasing_by
  · exact suLt2 (suLt0 (by assumption))
  · exact suLt (suLt0 (by assumption))
noncomputable def siftup (xs : List α) (pos : Nat) : List α :=
  sdGo lt d (xs.getD pos d) pos ((suGo lt d xs.length xs pos).1.set (suGo lt d xs.length xs pos).2 (xs.getD pos d)) (suGo lt d xs.length xs pos).2
end

theorem after_upd {h h' : Heap} {l : Addr} {o o' : Obj} (F : Fr g L h m) (N : News g L h ((l, o) :: rest)) (hr : ∀ p ∈ rest, p.1 ≠ l)
    (hk : ∀ x q, h.get? x = some q → x ≠ l → h'.get? x = some q) (hl : h'.get? l = some o') : Fr g L h' m ∧ News g L h' ((l, o') :: rest) := by
  have D := N _ (.head _)
  refine ⟨⟨F.ns.at' fun q e => hk _ q e (fun x => D.2.1 x.symm), fun x q e => hk x q (F.keep x q e) (fun z => ?_), F.above⟩, fun p hp => ?_⟩
  · have := D.2.2; rw [z] at e; rw [this] at e; cases e
  · rcases List.mem_cons.mp hp with rfl | hp
    · exact ⟨hl, D.2⟩
    · have P := N p (.tail _ hp); exact ⟨hk _ _ P.1 (hr p hp), P.2⟩

theorem siftdown_at {Q : Value → Shared → Prop} {l : Addr} {vs : List Value} {n : Nat} {sp p : Nat} {t1 t2 : Tok} {S : Value → Prop} {lt : Value → Value → Bool}
    (F : Fr g L s.heap m) (N : News g L s.heap ((l, listOf vs.toArray n) :: rest)) (hr : ∀ p ∈ rest, p.1 ≠ l) (X : (hd.heap_39 w.params).In g) (T : Top hd.view_39 (looseW hd.view_39 []) mean mg mb g)
    (hc : CmpOk PySem.Challenge.rw_pd0047_01.row.prog w g S lt) (hroom : A.depth < recursionLimit) (hu : A.units + 200 < cLine) (hp : p < vs.length) (hn : vs.length ≤ 1000) (hS : ∀ v ∈ vs, S v)
    (hQ : ∀ h' n' tk, Fr g L h' m → News g L h' ((l, listOf (sdGo lt .none (vs.getD p .none) sp vs p).toArray n') :: rest) → Q .none { s with heap := h', toks := tk }) :
    wpAny (model PySem.Challenge.rw_pd0047_01.row.prog w) A (call (.ref 49) [.ref l, .int sp t1, .int p t2]) Q NoE s := by
  have D := N _ (.head _)
  refine wpAny_call (siftdown_call X T F.keep D.1 D.2.2 hroom hu hp hn hS hc fun h' n' tk hk hl' => ?_)
  obtain ⟨F', N'⟩ := after_upd F N hr hk hl'
  exact hQ h' n' tk F' N'
theorem CmpOk.up {prog : Program} {S : Value → Prop} {lt : Value → Value → Bool} (hc : CmpOk prog w b S lt) (hbg : ∀ x o, b.get? x = some o → g.get? x = some o) : CmpOk prog w g S lt :=
  fun x y hx hy A s Q hu hk => hc x y hx hy A s Q hu (fun a o e => hk a o (hbg a o e))

theorem sdGo_length {α : Type} (lt : α → α → Bool) (d x : α) (sp : Nat) (pos : Nat) : ∀ (xs : List α), (sdGo lt d x sp xs pos).length = xs.length := by
  induction pos using Nat.strongRecOn with
  | ind pos ih =>
    intro xs
    rw [sdGo]
    split
    · rename_i h
      split
      · rw [ih _ (halfLt h), List.length_set]
      · rw [List.length_set]
    · rw [List.length_set]
theorem sdGo_all {S : Value → Prop} (lt : Value → Value → Bool) (x : Value) (hx : S x) (sp : Nat) (pos : Nat) : ∀ (xs : List Value), (∀ v ∈ xs, S v) → pos < xs.length → ∀ v ∈ sdGo lt .none x sp xs pos, S v := by
  induction pos using Nat.strongRecOn with
  | ind pos ih =>
    intro xs hxs hp
    rw [sdGo]
    split
    · rename_i h
      have h2 := Nat.lt_of_le_of_lt (halfLe pos) hp
      split
      · exact ih _ (halfLt h) _ (set_all hxs (getD_mem hxs h2) _) (by rw [List.length_set]; exact h2)
      · exact set_all hxs hx _
    · exact set_all hxs hx _

/-- what stands while the hole goes down, and behind it -/
inductive SuJ (l : Addr) (lt : Value → Value → Bool) (S : Value → Prop) (vs : List Value) (p : Nat) (x : Value) (k : Nat) (m : Str → Option Value) (news : List (Addr × Obj)) : Prop
  | mk (vs' : List Value) (n' pos : Nat) (t t' te t0 : Tok) (hk0 : k = vs.length - pos) (hk : pos < vs.length) (hlen : vs'.length = vs.length) (hS' : ∀ v ∈ vs', S v) (hgo : suGo lt .none vs.length vs' pos = suGo lt .none vs.length vs p)
    (hm : Has m [("heap", .ref l), ("startpos", .int p t0), ("pos", .int pos t), ("newitem", x), ("endpos", .int vs.length te), ("childpos", .int ((2 * pos + 1 : Nat) : Int) t')]) (hled : news = [(l, listOf vs'.toArray n')])
inductive SuX (l : Addr) (lt : Value → Value → Bool) (S : Value → Prop) (vs : List Value) (p : Nat) (x : Value) (m : Str → Option Value) (news : List (Addr × Obj)) : Prop
  | mk (vs' : List Value) (n' pos : Nat) (t t0 : Tok) (hk : pos < vs.length) (hlen : vs'.length = vs.length) (hS' : ∀ v ∈ vs', S v) (hgo : (vs', pos) = suGo lt .none vs.length vs p)
    (hm : Has m [("heap", .ref l), ("startpos", .int p t0), ("pos", .int pos t), ("newitem", x)]) (hled : news = [(l, listOf vs'.toArray n')])
theorem siftup_call {R : Result → Shared → Prop} {l : Addr} {vs : List Value} {n : Nat} {p : Nat} {t2 : Tok} {S : Value → Prop} {lt : Value → Value → Bool} : (hd.heap_39 w.params).In b → (T : Top hd.view_39 (looseW hd.view_39 []) mean mg mb b) → (hb : ∀ x o, b.get? x = some o → s.heap.get? x = some o) →
  (hl : s.heap.get? l = some (listOf vs.toArray n)) → (hlb : b.get? l = none) → (hroom : A.depth + 5 < recursionLimit) → (hu : A.units + 300 < cLine) → (hp : p < vs.length) → (hn : vs.length ≤ 1000) →
  (hS : ∀ v ∈ vs, S v) → (hc : CmpOk PySem.Challenge.rw_pd0047_01.row.prog w b S lt) →
  (hR : ∀ h' n' tk, (∀ x o, s.heap.get? x = some o → x ≠ l → h'.get? x = some o) → h'.get? l = some (listOf (siftup lt .none vs p).toArray n') → R (.ok (.ret .none)) { s with heap := h', toks := tk }) →
  codeAny (model PySem.Challenge.rw_pd0047_01.row.prog w) A (.call (.ref 56) ⟨[.ref l, .int p t2], []⟩) R s := by
  k_fill
  intro X T hb hl hlb hroom hu hp hn hS hc hR
  refine enter [(l, listOf vs.toArray n)] [("heap", .ref l), ("pos", .int p t2)] X T hb ?_ (by k_is) (by k_is) (by omega) (BindsTo.of_eq rfl) (locs rfl) ?_ (by decide) rfl rfl rfl
  · intro q hq; cases hq with
    | head => exact ⟨hl, hlb⟩
    | tail _ h => cases h
  intro g L' h₁ hg X' T' F N
  replace hc := hc.up (fun x o e => hg x o (hb x o e) (by
    intro hm; simp at hm; rw [hm, hlb] at e; cases e))
  clear X T hb
  walk_at "go"
  generalize hX : vs.getD (Int.toNat (p : Int)) .none = x at *
  have hx : S x := hX ▸ getD_mem hS hp
  have hX' : vs.getD p .none = x := hX
  (rename Fr _ _ _ _ => F1)
  (rename News _ _ _ _ => N1)
  refine whileH (SuJ l lt S vs p x) (SuX l lt S vs p x) (vs.length - p) F1 N1 ⟨vs, n, p, _, _, _, _, rfl, hp, rfl, hS, rfl, ⟨rfl, rfl, rfl, rfl, rfl, rfl, trivial⟩, rfl⟩ ?_ ?_
  · clear hS
    rintro k m₁ news₁ S2 T2 B2 F2 N2 ⟨vs', n', pos, t, t', te, t0, rfl, hk, hlen, hS', hgo, hm, rfl⟩ hT2 hB2
    replace F2 := hm.canon F2
    clear F1 N1
    walk_at "go"
    · have hif : lt (vs'.getD (2 * pos + 1) .none) (vs'.getD (2 * pos + 2) .none) = true := by assumption
      refine hT2 _ _ _ _ (vs.length - (2 * pos + 1)) (by assumption) (by assumption) (suLt hk) ⟨vs'.set pos (vs'.getD (2 * pos + 1) .none), n', 2 * pos + 1, _, _, _, _, rfl, by omega, by rw [List.length_set]; exact hlen, set_all hS' (getD_mem hS' (by omega)) _, ?_, ⟨rfl, rfl, rfl, rfl, rfl, rfl, trivial⟩, rfl⟩
      rw [← hgo]
      conv => rhs; rw [suGo]
      rw [if_pos (by omega), if_neg (fun h => h.2 hif)]
    · have hif : lt (vs'.getD (2 * pos + 1) .none) (vs'.getD (2 * pos + 2) .none) = false := by assumption
      refine hT2 _ _ _ _ (vs.length - (2 * pos + 2)) (by assumption) (by assumption) (suLt2 hk) ⟨vs'.set pos (vs'.getD (2 * pos + 2) .none), n', 2 * pos + 2, _, _, _, _, rfl, by omega, by rw [List.length_set]; exact hlen, set_all hS' (getD_mem hS' (by omega)) _, ?_, ⟨rfl, rfl, rfl, rfl, rfl, rfl, trivial⟩, rfl⟩
      rw [← hgo]
      conv => rhs; rw [suGo]
      rw [if_pos (by omega), if_pos ⟨by omega, by rw [hif]; exact Bool.false_ne_true⟩]
    · refine hT2 _ _ _ _ (vs.length - (2 * pos + 1)) (by assumption) (by assumption) (suLt hk) ⟨vs'.set pos (vs'.getD (2 * pos + 1) .none), n', 2 * pos + 1, _, _, _, _, rfl, by omega, by rw [List.length_set]; exact hlen, set_all hS' (getD_mem hS' (by omega)) _, ?_, ⟨rfl, rfl, rfl, rfl, rfl, rfl, trivial⟩, rfl⟩
      rw [← hgo]
      conv => rhs; rw [suGo]
      rw [if_pos (by omega), if_neg (fun h => absurd h.1 (by omega))]
    · refine hB2 _ _ _ _ (by assumption) (by assumption) ⟨vs', n', pos, t, t0, hk, hlen, hS', ?_, ⟨rfl, rfl, rfl, rfl, trivial⟩, rfl⟩
      rw [← hgo]
      conv => rhs; rw [suGo]
      rw [if_neg (by omega)]
  · rintro h3 tk3 m3 led3 F3 N3 ⟨vs3, n3, pos3, t3, t4, hp3, hl3, hS3, he3, hm3, rfl⟩
    replace F3 := hm3.canon F3
    clear F1 N1
    walk_at "go"
    (rename Fr _ _ _ _ => F4)
    (rename News _ _ _ _ => N4)
    refine siftdown_at F4 N4 (fun _ h => nomatch h) X' T' hc (by show A.depth + 1 < _; omega) (by simp only [Around.deeper_units]; omega) (by rw [List.length_set]; omega) (by rw [List.length_set]; omega) (set_all hS3 hx _) fun h5 n5 tk5 F5 N5 => ?_
    walk_at "go"
    refine hR _ n5 _ (fun x o e hx => F5.keep x o (hg x o e (by simpa using hx))) ?_
    have q := (N5 _ (.head _)).1
    rw [siftup, ← he3, hX']
    have e1 : (vs3.set pos3 x).getD pos3 .none = x := by
      rw [List.getD_eq_getElem?_getD, List.getElem?_set_self (by omega)]; rfl
    rw [show (vs3.set (Int.toNat (pos3 : Int)) x).getD pos3 Value.none = x from e1] at q
    exact q
end

section
variable {w : World} {mean : ExcName → Option Value} {mg mb : Str → Option Value} {b g : Heap} {A : Around} {s : Shared} {L : Addr} {m : Str → Option Value} {rest : List (Addr × Obj)}
theorem siftup_at {Q : Value → Shared → Prop} {l : Addr} {vs : List Value} {n : Nat} {p : Nat} {t2 : Tok} {S : Value → Prop} {lt : Value → Value → Bool}
    (F : Fr g L s.heap m) (N : News g L s.heap ((l, listOf vs.toArray n) :: rest)) (hr : ∀ p ∈ rest, p.1 ≠ l) (X : (hd.heap_39 w.params).In g) (T : Top hd.view_39 (looseW hd.view_39 []) mean mg mb g)
    (hc : CmpOk PySem.Challenge.rw_pd0047_01.row.prog w g S lt) (hroom : A.depth + 5 < recursionLimit) (hu : A.units + 300 < cLine) (hp : p < vs.length) (hn : vs.length ≤ 1000) (hS : ∀ v ∈ vs, S v)
    (hQ : ∀ h' n' tk, Fr g L h' m → News g L h' ((l, listOf (siftup lt .none vs p).toArray n') :: rest) → Q .none { s with heap := h', toks := tk }) :
    wpAny (model PySem.Challenge.rw_pd0047_01.row.prog w) A (call (.ref 56) [.ref l, .int p t2]) Q NoE s := by
  have D := N _ (.head _)
  refine wpAny_call (siftup_call X T F.keep D.1 D.2.2 hroom hu hp hn hS hc fun h' n' tk hk hl' => ?_)
  obtain ⟨F', N'⟩ := after_upd F N hr hk hl'
  exact hQ h' n' tk F' N'

noncomputable def pushF (lt : Value → Value → Bool) (vs : List Value) (x : Value) : List Value := sdGo lt .none x 0 (vs ++ [x]) vs.length
theorem heappush_call {R : Result → Shared → Prop} {l : Addr} {vs : List Value} {x : Value} {n : Nat} {S : Value → Prop} {lt : Value → Value → Bool} : (hd.heap_39 w.params).In b → (T : Top hd.view_39 (looseW hd.view_39 []) mean mg mb b) → (hb : ∀ x o, b.get? x = some o → s.heap.get? x = some o) →
  (hl : s.heap.get? l = some (listOf vs.toArray n)) → (hlb : b.get? l = none) → (hroom : A.depth + 10 < recursionLimit) → (hu : A.units + 400 < cLine) → (hn : vs.length < 1000) →
  (hS : ∀ v ∈ vs, S v) → (hx : S x) → (hc : CmpOk PySem.Challenge.rw_pd0047_01.row.prog w b S lt) →
  (hR : ∀ h' n' tk, (∀ x o, s.heap.get? x = some o → x ≠ l → h'.get? x = some o) → h'.get? l = some (listOf (pushF lt vs x).toArray n') → R (.ok (.ret .none)) { s with heap := h', toks := tk }) →
  codeAny (model PySem.Challenge.rw_pd0047_01.row.prog w) A (.call (.ref 28) ⟨[.ref l, x], []⟩) R s := by
  k_fill
  intro X T hb hl hlb hroom hu hn hS hx hc hR
  refine enter [(l, listOf vs.toArray n)] [("heap", .ref l), ("item", x)] X T hb ?_ (by k_is) (by k_is) (by (first | lia | omega)) (BindsTo.of_eq rfl) (locs rfl) ?_ (by decide) rfl rfl rfl
  · intro q hq; cases hq with
    | head => exact ⟨hl, hlb⟩
    | tail _ h => cases h
  intro g L' h₁ hg X' T' F N
  replace hc := hc.up (fun x o e => hg x o (hb x o e) (by
    intro hm; simp at hm; rw [hm, hlb] at e; cases e))
  clear X T hb
  walk_at "go"
  (rename Fr _ _ _ _ => F4)
  (rename News _ _ _ _ => N4)
  rw [show (((vs ++ [x]).length : Nat) : Int) - 1 = ((vs.length : Nat) : Int) from by simp only [List.length_append, List.length_cons, List.length_nil]; (first | lia | omega)]
  refine siftdown_at (sp := 0) F4 N4 (fun _ h => nomatch h) X' T' hc (by show A.depth + 1 < _; (first | lia | omega)) (by simp only [Around.deeper_units]; (first | lia | omega)) (by simp) (by simp; (first | lia | omega)) (by intro v hv; rcases List.mem_append.mp hv with h | h; exact hS v h; simp at h; rw [h]; exact hx) fun h5 n5 tk5 F5 N5 => ?_
  walk_at "go"
  refine hR _ n5 _ (fun x o e hx => F5.keep x o (hg x o e (by simpa using hx))) ?_
  have q := (N5 _ (.head _)).1
  have e1 : (vs ++ [x]).getD vs.length .none = x := by simp
  rw [e1] at q
  exact q

noncomputable def popF (lt : Value → Value → Bool) (vs : List Value) : List Value := if vs.length ≤ 1 then [] else siftup lt .none (vs.dropLast.set 0 (vs.getD (vs.length - 1) .none)) 0
theorem heappop_call {R : Result → Shared → Prop} {l : Addr} {vs : List Value} {n : Nat} {S : Value → Prop} {lt : Value → Value → Bool} : (hd.heap_39 w.params).In b → (T : Top hd.view_39 (looseW hd.view_39 []) mean mg mb b) → (hb : ∀ x o, b.get? x = some o → s.heap.get? x = some o) →
  (hl : s.heap.get? l = some (listOf vs.toArray n)) → (hlb : b.get? l = none) → (hroom : A.depth + 10 < recursionLimit) → (hu : A.units + 400 < cLine) → (h0 : 0 < vs.length) → (hn : vs.length ≤ 1000) →
  (hS : ∀ v ∈ vs, S v) → (hc : CmpOk PySem.Challenge.rw_pd0047_01.row.prog w b S lt) →
  (hR : ∀ h' n' tk, (∀ x o, s.heap.get? x = some o → x ≠ l → h'.get? x = some o) → h'.get? l = some (listOf (popF lt vs).toArray n') → R (.ok (.ret (vs.getD 0 .none))) { s with heap := h', toks := tk }) →
  codeAny (model PySem.Challenge.rw_pd0047_01.row.prog w) A (.call (.ref 35) ⟨[.ref l], []⟩) R s := by
  k_fill
  intro X T hb hl hlb hroom hu h0 hn hS hc hR
  refine enter [(l, listOf vs.toArray n)] [("heap", .ref l)] X T hb ?_ (by k_is) (by k_is) (by (first | lia | omega)) (BindsTo.of_eq rfl) (locs rfl) ?_ (by decide) rfl rfl rfl
  · intro q hq; cases hq with
    | head => exact ⟨hl, hlb⟩
    | tail _ h => cases h
  intro g L' h₁ hg X' T' F N
  replace hc := hc.up (fun x o e => hg x o (hb x o e) (by
    intro hm; simp at hm; rw [hm, hlb] at e; cases e))
  clear X T hb
  walk_at "go"
  · (rename Fr _ _ _ _ => F4)
    (rename News _ _ _ _ => N4)
    have h1 : 1 < vs.length := by have := ‹0 < vs.dropLast.length›; rw [List.length_dropLast] at this; (first | lia | omega)
    have hd0 : vs.dropLast.getD 0 .none = vs.getD 0 .none := by
      rw [List.getD_eq_getElem?_getD, List.getD_eq_getElem?_getD, List.getElem?_dropLast, if_pos (by (first | lia | omega))]
    have hSd : ∀ v ∈ vs.dropLast.set 0 (vs.getD (vs.length - 1) .none), S v := set_all (fun v hv => hS v (List.dropLast_subset vs hv)) (getD_mem hS (by (first | lia | omega))) 0
    refine siftup_at (p := 0) F4 N4 (fun _ h => nomatch h) X' T' hc (by show A.depth + 1 + 5 < _; (first | lia | omega)) (by simp only [Around.deeper_units]; (first | lia | omega)) (by rw [List.length_set, List.length_dropLast]; (first | lia | omega)) (by rw [List.length_set, List.length_dropLast]; (first | lia | omega)) hSd fun h5 n5 tk5 F5 N5 => ?_
    walk_at "go"
    dsimp only
    show R (.ok (.ret (vs.dropLast.getD 0 Value.none))) _
    rw [hd0]
    refine hR _ n5 _ (fun x o e hx => F5.keep x o (hg x o e (by simpa using hx))) ?_
    have q := (N5 _ (.head _)).1
    rw [popF, if_neg (by (first | lia | omega))]
    exact q
  · (rename Fr _ _ _ _ => F4)
    (rename News _ _ _ _ => N4)
    have h1 : vs.length = 1 := by have := ‹¬ 0 < vs.dropLast.length›; rw [List.length_dropLast] at this; (first | lia | omega)
    dsimp only
    rw [show vs.length - 1 = 0 from by (first | lia | omega)]
    refine hR _ (n + 1) _ (fun x o e hx => F4.keep x o (hg x o e (by simpa using hx))) ?_
    have q := (N4 _ (.head _)).1
    rw [popF, if_pos (by (first | lia | omega))]
    rw [show vs.dropLast = [] from List.eq_nil_of_length_eq_zero (by rw [List.length_dropLast]; (first | lia | omega))] at q
    exact q
end

section
variable {w : World} {mean : ExcName → Option Value} {mg mb : Str → Option Value} {b g : Heap} {A : Around} {s : Shared} {L : Addr} {m : Str → Option Value} {rest : List (Addr × Obj)} {prog : Program} {env : Env} {news : List (Addr × Obj)}
structure LoopF (prog : Program) (w : World) (A : Around) (env : Env) (x : Str) (px : Pos) (body : List Stmt) (Q : Flow → Shared → Prop) (it : Value) (s : Shared) : Prop where
  out : codeAny (model prog w) A (.forLoop (.Name x px) it body [] env) (fun r s' => match r with | .ok f => Q f s' | .error e => cameBackBy (model prog w) A env NoE e s') s
theorem forR {Q : Flow → Shared → Prop} {x : Str} {px pos : Pos} {iter : Expr} {body : List Stmt}
    (h : wpAny (model prog w) A (eval iter env) (fun xv s₁ => wpAny (model prog w) A (pyIter xv) (LoopF prog w A env x px body Q) NoE s₁) NoE s)
    (hs : ∀ x, foldedSetIterable iter env x = pure x) : wpAny (model prog w) A (exec (.For (.Name x px) iter body [] pos) env) Q NoE s :=
  wpAny_For (wpAny_mono h (fun _ _ h₁ => wpAny_mono h₁ (fun _ _ h₂ => h₂.out) fun _ _ e => e) fun _ _ e => e) hs
noncomputable def TurnF (g₀ : Heap) (L : Addr) (s : Shared) (I : Addr) (oI : Obj) (J : Nat → Heap → (Str → Option Value) → List (Addr × Obj) → Prop) (i : Nat) (Q : Flow → Shared → Prop) (f : Flow) (s₃ : Shared) : Prop :=
  match f with
  | .next | .cont => ∃ g h tk m news, s₃ = { s with heap := h, toks := tk } ∧ (∀ a o, g₀.get? a = some o → g.get? a = some o) ∧ Fr g L h m ∧ News g L h ((I, oI) :: news) ∧ (∀ p ∈ news, p.1 ≠ I) ∧ J (i + 1) g m news
  | .brk => Q .next s₃
  | .ret v => Q (.ret v) s₃

inductive FwSt (s : Shared) (g : Heap) (L I : Addr) (St : Nat → Heap → Prop) (n : Nat) (J : Nat → Heap → (Str → Option Value) → List (Addr × Obj) → Prop) (k : Nat) (s' : Shared) : Prop
  | mk (g₁ h : Heap) (tk : Nat) (m : Str → Option Value) (news : List (Addr × Obj)) (i : Nat) (es : s' = { s with heap := h, toks := tk }) (hg : ∀ a o, g.get? a = some o → g₁.get? a = some o) (hI : g₁.get? I = none) (st : St i h) (F : Fr g₁ L h m) (N : News g₁ L h news)
    (hn : ∀ p ∈ news, p.1 ≠ I) (hJ : J i g₁ m news) (hi : i ≤ n) (hk : k = n + 1 - i)
theorem forW {Q : Flow → Shared → Prop} {x : Str} {px : Pos} {body : List Stmt} {I : Addr} {fp : List Addr} {n : Nat} {P : Nat → Value → Prop} {St : Nat → Heap → Prop}
    (W : Walks prog w A I fp [I] n P St) (J : Nat → Heap → (Str → Option Value) → List (Addr × Obj) → Prop)
    (hx : env.kindOf x = some .local) (hp : (env.scope.kind == .class || (env.scope.kind == .module && env.locals != env.globals)) = false)
    (hfp : ∀ a ∈ fp, a = I ∨ ∃ o, g.get? a = some o) (hI : g.get? I = none) (hIL : I ≠ env.locals) (hSt : ∀ i h, St i h → ∃ o, h.get? I = some o)
    (hst : St 0 s.heap) (F : Fr g env.locals s.heap m) (N : News g env.locals s.heap news) (hnI : ∀ p ∈ news, p.1 ≠ I) (h0 : J 0 g m news)
    (turn : ∀ i v g₁ m₁ news₁ h₁ tk₁ oI, i < n → P i v → (∀ a o, g.get? a = some o → g₁.get? a = some o) → J i g₁ m₁ news₁ → Fr g₁ env.locals h₁ (fun y => if y = x then some v else m₁ y) → News g₁ env.locals h₁ ((I, oI) :: news₁) → (∀ p ∈ news₁, p.1 ≠ I) →
      wpAny (model prog w) A (execs body env) (TurnF g env.locals s I oI J i Q) NoE { s with heap := h₁, toks := tk₁ })
    (done : ∀ g₁ m₁ news₁ h₁ tk₁, (∀ a o, g.get? a = some o → g₁.get? a = some o) → J n g₁ m₁ news₁ → Fr g₁ env.locals h₁ m₁ → News g₁ env.locals h₁ news₁ → Q .next { s with heap := h₁, toks := tk₁ }) :
    LoopF prog w A env x px body Q (.ref I) s := by
  refine ⟨codeAny_forLoop (FwSt s g env.locals I St n J) ?_ (n + 1)
    ⟨g, s.heap, s.toks, m, news, 0, rfl, fun _ _ e => e, hI, hst, F, N, hnI, h0, Nat.zero_le _, rfl⟩⟩
  rintro k s' ⟨g₁, h, tk, m', nw, i, rfl, hg, hI₁, hst', F', N', hnI', hJ, hi, rfl⟩
  have nxt : ∀ h₁ : Heap, (∀ b o, b ∉ [I] → h.get? b = some o → h₁.get? b = some o) → Fr g₁ env.locals h₁ m' ∧ News g₁ env.locals h₁ nw := fun h₁ hk₁ =>
    ⟨⟨F'.ns.at' fun o e => hk₁ _ o (by simp; exact fun q => hIL q.symm) e, fun b o e => hk₁ b o (by simp; intro q; rw [q, hI₁] at e; cases e) (F'.keep b o e), F'.above⟩, fun p hp => ⟨hk₁ _ _ (by simp; exact hnI' p hp) (N' p hp).1, (N' p hp).2⟩⟩
  by_cases hlt : i < n
  · refine W.item i _ _ _ hlt hst' fun v h₁ tk₁ hP hst₁ hk₁ => ?_
    obtain ⟨F₁, N₁⟩ := nxt h₁ hk₁
    obtain ⟨oI, hoI⟩ := hSt _ _ hst₁
    refine wpAny_assign_Name (wpAny_storeName_local hx F₁.ns (fun h₂ hn₂ hs₂ => ?_) hp)
    have F₂ := F₁.set hn₂ hs₂
    have hoI₂ : h₂.get? I = some oI := (hs₂.2 I hIL).trans hoI
    refine wpAny_mono (turn i v g₁ m' nw h₂ _ oI hlt hP hg hJ F₂ (fun p hp => ?_) hnI') (fun f s₃ h₃ => ?_) fun _ _ e => e.elim
    · rcases List.mem_cons.mp hp with rfl | hp
      · exact ⟨hoI₂, hIL, hI₁⟩
      · exact N₁.set hs₂ p hp
    · have fin : ∀ f, (f = .next ∨ f = .cont) → TurnF g env.locals s I oI J i Q f s₃ → ∃ m, m < n + 1 - i ∧ FwSt s g env.locals I St n J m s₃ := by
        intro f hf ht
        have ht' : ∃ g₂ h tk m news, s₃ = { s with heap := h, toks := tk } ∧ (∀ a o, g.get? a = some o → g₂.get? a = some o) ∧ Fr g₂ env.locals h m ∧ News g₂ env.locals h ((I, oI) :: news) ∧ (∀ p ∈ news, p.1 ≠ I) ∧ J (i + 1) g₂ m news := by
          rcases hf with rfl | rfl <;> exact ht
        obtain ⟨g₂, h₃', tk₃, m₂, nw₂, rfl, hg₂, F₃, N₃, hnI₃, hJ₃⟩ := ht'
        refine ⟨n + 1 - (i + 1), by omega, g₂, h₃', tk₃, m₂, nw₂, i + 1, rfl, hg₂, (N₃ _ (.head _)).2.2, ?_, F₃, fun p hp => N₃ p (.tail _ hp), hnI₃, hJ₃, hlt, rfl⟩
        refine W.frame _ _ _ hst₁ fun a ha o e => ?_
        rcases hfp a ha with rfl | ⟨q, hq⟩
        · rw [hoI] at e; cases e; exact (N₃ _ (.head _)).1
        · have e1 := F₁.keep a q (hg a q hq)
          rw [e] at e1; cases e1
          exact F₃.keep a _ (hg₂ a _ hq)
      cases f with
      | next => exact fin .next (.inl rfl) h₃
      | cont => exact fin .cont (.inr rfl) h₃
      | brk => exact h₃
      | ret v => exact h₃
  · have hin : i = n := by omega
    subst hin
    refine W.done _ _ _ hst' fun h₁ tk₁ hk₁ => wpAny_execs_nil ?_
    obtain ⟨F₁, N₁⟩ := nxt h₁ hk₁
    exact done g₁ m' nw h₁ tk₁ hg hJ F₁ N₁
end

section
variable {w : World} {mean : ExcName → Option Value} {mg mb : Str → Option Value} {b g : Heap} {A : Around} {s : Shared} {L : Addr} {m : Str → Option Value} {rest : List (Addr × Obj)} {prog : Program} {env : Env} {news : List (Addr × Obj)}
noncomputable abbrev rangeIterObj (x left step : Int) : Obj := { cls := .type "range_iterator", data := .fields #[rawInt x, rawInt left, rawInt step] }
theorem call_range_reversed {r : Addr} {k : Nat} {t u v : Tok} {E : Value → Shared → Prop} {Q : Value → Shared → Prop} (hr : IsRange s.heap r 0 k 1 t u v) (hk : k ≤ 1000000)
    (h : Q (.ref s.heap.objs.size) { s with heap := s.heap.push (rangeIterObj ((k : Int) - 1) k (-1)) }) : wpAny (model prog w) A (call (.builtin "range.__reversed__") [.ref r]) Q E s := by
  have hT : s.TypeIs (.ref r) "range" := ⟨_, hr, rfl⟩
  refine wpAny_call_entry F.slot_range_reversed hT F.entry_range_reversed ?_ (F.args_range_reversed_1 _)
  unfold Builtin.«range.__reversed__»
  refine wpAny_bind (wpAny_of_eq (a := Value.ref r) rfl ?_)
  have hz : Builtin.Range.rangeSize 0 (k : Int) 1 = (k : Int) := by
    unfold Builtin.Range.rangeSize
    rw [if_pos (by decide)]
    split
    · rw [Int.ediv_one]; (first | lia | omega)
    · (first | lia | omega)
  have hf : wpAny (model prog w) A.in1 (Builtin.Range.rangeFields (.ref r)) (fun p s' => p = ((0 : Int), (k : Int), (1 : Int)) ∧ s' = s) E s := by
    unfold Builtin.Range.rangeFields
    refine wpAny_bind (wpAny_field hr rfl (x := .int 0 t) rfl ?_)
    refine wpAny_bind (wpAny_of_eq (a := some (0 : Int)) rfl ?_)
    refine wpAny_bind (wpAny_field hr rfl (x := .int k u) rfl ?_)
    refine wpAny_bind (wpAny_of_eq (a := some (k : Int)) rfl ?_)
    refine wpAny_bind (wpAny_field hr rfl (x := .int 1 v) rfl ?_)
    refine wpAny_bind (wpAny_of_eq (a := some (1 : Int)) rfl ?_)
    exact wpAny_pure ⟨rfl, rfl⟩
  refine wpAny_bind (wpAny_mono hf (fun p s' hp => ?_) fun _ _ e => e)
  obtain ⟨rfl, rfl⟩ := hp
  dsimp only
  rw [hz]
  have hs : (Builtin.Range.rangeFitsLong 0 && Builtin.Range.rangeFitsLong (k : Int) && Builtin.Range.rangeFitsLong 1 && Builtin.Range.rangeFitsLong (-1) && Builtin.Range.rangeFitsLong (0 - 1) && Builtin.Range.rangeFitsLong (k : Int)) = true := by
    have : Builtin.Range.rangeFitsLong (k : Int) = true := by
      unfold Builtin.Range.rangeFitsLong
      simp only [Bool.and_eq_true, decide_eq_true_eq]; (first | lia | omega)
    rw [this]; decide
  simp only [hs, Bool.not_true, Bool.false_eq_true, if_false, if_true]
  refine wpAny_bind (m := newFields _ _) (wpAny_newObj_type (wpAny_pure ⟨_, rfl, ?_⟩))
  have e1 : (0 : Int) + ((k : Int) - 1) * 1 = (k : Int) - 1 := by (first | lia | omega)
  rw [e1]; exact h
theorem sub_ri_reversed : isSubtype (.type "range_iterator") (.type "reversed") = pure false := by rw [isSubtype_type]; kernel_rfl
theorem code_reversed_newR {r : Addr} {k : Nat} {t u v : Tok} {E : Value → Shared → Prop} {Q₁ : Value → Shared → Prop} (hr : IsRange s.heap r 0 k 1 t u v) (hk : k ≤ 1000000)
    (h : Q₁ (.ref s.heap.objs.size) { s with heap := s.heap.push (rangeIterObj ((k : Int) - 1) k (-1)) }) :
    codeAny (model prog w) A (.call (.builtin "reversed.__new__") ⟨[.type "reversed", .ref r], []⟩) (wants Q₁ E) s := by
  have hT : s.TypeIs (.ref r) "range" := ⟨_, hr, rfl⟩
  refine codeAny_of_tree ?_
  show wpAny _ A.in1 (do checkBuiltinCall "reversed.__new__" ⟨[.type "reversed", .ref r], []⟩; again (.builtin "reversed.__new__" ⟨[.type "reversed", .ref r], []⟩)) _ _ s
  refine wpAny_bind (wpAny_of_eq (F.newCall_reversed_1 _) (wpAny_pure ⟨plainId_quiet F.plain_reversed_new _, codeAny_builtin F.entry_reversed_new ?_⟩))
  rw [Around.under_plainId F.plain_reversed_new _]
  unfold Builtin.«reversed.__new__»
  refine wpAny_bind (wpAny_of_eq (newClass_reversed _) ?_)
  try dsimp only
  refine wpAny_bind (wpAny_of_eq (a := ()) (by first | rfl | kernel_rfl) ?_)
  refine wpAny_bind (wpAny_of_eq (a := ()) (by first | rfl | kernel_rfl) ?_)
  try dsimp only
  refine wpAny_bind (wpAny_specialOf hT F.slot_range_reversed.lookup ?_)
  try dsimp only
  refine wpAny_bind (wpAny_of_eq (F.slot_range_reversed.bind _) ?_)
  try dsimp only
  first
  | rw [if_neg (show ¬ ((Value.builtin "range.__reversed__" == Value.none) = true) from Bool.false_ne_true)]
  | (show wpAny _ _ (if (Value.builtin "range.__reversed__" == Value.none) = true then _ else _) _ _ _; rw [if_neg (show ¬ ((Value.builtin "range.__reversed__" == Value.none) = true) from Bool.false_ne_true)])
  refine wpAny_bind (wpAny_rule ?_)
  refine wpAny_bind (m := runValue (.call (.builtin "range.__reversed__") ⟨[.ref r], []⟩)) (show wpAny _ _ (call (.builtin "range.__reversed__") [.ref r]) _ _ _ from call_range_reversed hr hk ?_)
  first
  | exact wpAny_pure h
  | exact wpAny_bind (wpAny_pure (wpAny_pure h))
theorem call_reversed_range {r : Addr} {k : Nat} {t u v : Tok} {E : Value → Shared → Prop} {Q : Value → Shared → Prop} (hr : IsRange s.heap r 0 k 1 t u v) (hk : k ≤ 1000000)
    (h : Q (.ref s.heap.objs.size) { s with heap := s.heap.push (rangeIterObj ((k : Int) - 1) k (-1)) }) : wpAny (model prog w) A (call (.type "reversed") [.ref r]) Q E s := by
  refine callType_other (U := "range_iterator") (Q₁ := fun obj s₁ => obj = .ref s.heap.objs.size ∧ s₁ = { s with heap := s.heap.push (rangeIterObj ((k : Int) - 1) k (-1)) }) (by decide +kernel) F.create_reversed ⟨_, _, F.mro_reversed⟩ F.made_reversed sub_ri_reversed (F.typeCall_reversed_1 _) (code_reversed_newR hr hk ⟨rfl, rfl⟩) ?_
  rintro obj s₁ ⟨rfl, rfl⟩
  exact ⟨⟨_, Heap.get?_push_size _ rfl, rfl⟩, h⟩

theorem newsSwap {h : Heap} {p q : Addr × Obj} {r : List (Addr × Obj)} (N : News g L h (p :: q :: r)) : News g L h (q :: p :: r) := fun x hx => by
  rcases List.mem_cons.mp hx with rfl | hx
  · exact N _ (.tail _ (.head _))
  · rcases List.mem_cons.mp hx with rfl | hx
    · exact N _ (.head _)
    · exact N _ (.tail _ (.tail _ hx))
theorem reversed_rangeN {r : Addr} {k : Nat} {t u v : Tok} {E : Value → Shared → Prop} {Q : Value → Shared → Prop} (F : Fr g L s.heap m) (N : News g L s.heap news) (hr : IsRange s.heap r 0 k 1 t u v) (hk : k ≤ 1000000)
    (h : ∀ I h', Fr g L h' m → News g L h' ((I, rangeIterObj ((k : Int) - 1) k (-1)) :: news) → (∀ p ∈ news, p.1 ≠ I) → Q (.ref I) { s with heap := h' }) : wpAny (model prog w) A (call (.type "reversed") [.ref r]) Q E s :=
  call_reversed_range hr hk (h _ _ (F.push _) (N.push F _) fun p hp => Nat.ne_of_lt (Heap.lt_size (N p hp).1))
/-- a loop down over reversed(range(k)) -/
theorem for_down {Q : Flow → Shared → Prop} {x : Str} {px : Pos} {body : List Stmt} {I : Addr} {k : Nat} (J : Nat → Heap → (Str → Option Value) → List (Addr × Obj) → Prop) (hh : A.handled = none)
    (hx : env.kindOf x = some .local) (hp : (env.scope.kind == .class || (env.scope.kind == .module && env.locals != env.globals)) = false)
    (F : Fr g env.locals s.heap m) (N : News g env.locals s.heap ((I, rangeIterObj ((k : Int) - 1) k (-1)) :: news)) (hnI : ∀ p ∈ news, p.1 ≠ I) (h0 : J 0 g m news)
    (turn : ∀ i t g₁ m₁ news₁ h₁ tk₁ oI, i < k → (∀ a o, g.get? a = some o → g₁.get? a = some o) → J i g₁ m₁ news₁ → Fr g₁ env.locals h₁ (fun y => if y = x then some (.int ((k - 1 - i : Nat) : Int) t) else m₁ y) → News g₁ env.locals h₁ ((I, oI) :: news₁) → (∀ p ∈ news₁, p.1 ≠ I) →
      wpAny (model prog w) A (execs body env) (TurnF g env.locals s I oI J i Q) NoE { s with heap := h₁, toks := tk₁ })
    (done : ∀ g₁ m₁ news₁ h₁ tk₁, (∀ a o, g.get? a = some o → g₁.get? a = some o) → J k g₁ m₁ news₁ → Fr g₁ env.locals h₁ m₁ → News g₁ env.locals h₁ news₁ → Q .next { s with heap := h₁, toks := tk₁ }) :
    wpAny (model prog w) A (pyIter (.ref I)) (LoopF prog w A env x px body Q) NoE s := by
  have W := Walks.range (prog := prog) (w := w) hh I ((k : Int) - 1) (-1) k
  have D := N _ (.head _)
  have st : IsRangeIter s.heap I ((k : Int) - 1 + (0 : Nat) * (-1)) ((k : Int) - (0 : Nat)) (-1) := by
    rw [show (k : Int) - 1 + (0 : Nat) * (-1) = (k : Int) - 1 from by (first | lia | omega), show (k : Int) - (0 : Nat) = k from by (first | lia | omega)]; exact D.1
  refine W.self 0 _ _ _ st (forW W J hx hp (fun a ha => .inl (by simpa using ha)) D.2.2 D.2.1 (fun i h q => ⟨_, q⟩) st F (fun p hp => N p (.tail _ hp)) hnI h0 ?_ done)
  intro i v g₁ m₁ news₁ h₁ tk₁ oI hi hP hg hJ F₁ N₁ hn
  obtain ⟨t, rfl⟩ := hP
  rw [show (k : Int) - 1 + (i : Int) * (-1) = ((k - 1 - i : Nat) : Int) from by (first | lia | omega)] at F₁
  exact turn i t g₁ m₁ news₁ h₁ tk₁ oI hi hg hJ F₁ N₁ hn

section
variable {α : Type} (lt : α → α → Bool) (d : α)
noncomputable def hfGo : Nat → List α → List α
  | 0, xs => xs
  | j + 1, xs => hfGo j (siftup lt d xs j)
end
theorem suGo_length {α : Type} (lt : α → α → Bool) (d : α) (e : Nat) (xs : List α) (pos : Nat) : (suGo lt d e xs pos).1.length = xs.length := by
  fun_induction suGo lt d e xs pos with
  | case1 xs pos h1 h2 ih => rw [ih, List.length_set]
  | case2 xs pos h1 h2 ih => rw [ih, List.length_set]
  | case3 xs pos h => rfl
theorem suGo_lt {α : Type} (lt : α → α → Bool) (d : α) (e : Nat) (xs : List α) (pos : Nat) (h : pos < e) : (suGo lt d e xs pos).2 < e := by
  fun_induction suGo lt d e xs pos with
  | case1 xs pos h1 h2 ih => exact ih h2.1
  | case2 xs pos h1 h2 ih => exact ih h1
  | case3 xs pos h => assumption
theorem suGo_all {S : Value → Prop} (lt : Value → Value → Bool) (e : Nat) (xs : List Value) (pos : Nat) (he : e ≤ xs.length) (hS : ∀ v ∈ xs, S v) : ∀ v ∈ (suGo lt .none e xs pos).1, S v := by
  fun_induction suGo lt .none e xs pos with
  | case1 xs pos h1 h2 ih => exact ih (by rw [List.length_set]; exact he) (set_all hS (getD_mem hS (by (first | lia | omega))) _)
  | case2 xs pos h1 h2 ih => exact ih (by rw [List.length_set]; exact he) (set_all hS (getD_mem hS (by (first | lia | omega))) _)
  | case3 xs pos h => exact hS
theorem siftup_length {α : Type} (lt : α → α → Bool) (d : α) (xs : List α) (pos : Nat) : (siftup lt d xs pos).length = xs.length := by
  rw [siftup, sdGo_length, List.length_set, suGo_length]
theorem siftup_all {S : Value → Prop} (lt : Value → Value → Bool) {xs : List Value} {pos : Nat} (hS : ∀ v ∈ xs, S v) (hp : pos < xs.length) : ∀ v ∈ siftup lt .none xs pos, S v := by
  rw [siftup]
  have hx := getD_mem hS hp
  exact sdGo_all lt _ hx _ _ _ (set_all (suGo_all lt _ _ _ (Nat.le_refl _) hS) hx _) (by rw [List.length_set, suGo_length]; exact suGo_lt _ _ _ _ _ hp)
inductive HiJ (l : Addr) (lt : Value → Value → Bool) (S : Value → Prop) (vs : List Value) (i : Nat) (g₁ : Heap) (m₁ : Str → Option Value) (news₁ : List (Addr × Obj)) : Prop
  | mk (vs' : List Value) (n' : Nat) (hlen : vs'.length = vs.length) (hS' : ∀ v ∈ vs', S v) (hgo : hfGo lt .none (vs.length / 2 - i) vs' = hfGo lt .none (vs.length / 2) vs) (hm : Has m₁ [("x", .ref l)]) (hled : news₁ = [(l, listOf vs'.toArray n')])
theorem heapify_call {R : Result → Shared → Prop} {l : Addr} {vs : List Value} {n : Nat} {S : Value → Prop} {lt : Value → Value → Bool} : (hd.heap_39 w.params).In b → (T : Top hd.view_39 (looseW hd.view_39 []) mean mg mb b) → (hb : ∀ x o, b.get? x = some o → s.heap.get? x = some o) →
  (hl : s.heap.get? l = some (listOf vs.toArray n)) → (hlb : b.get? l = none) → (hh : A.handled = none) → (hroom : A.depth + 10 < recursionLimit) → (hu : A.units + 400 < cLine) → (hn : vs.length ≤ 1000) →
  (hS : ∀ v ∈ vs, S v) → (hc : CmpOk PySem.Challenge.rw_pd0047_01.row.prog w b S lt) →
  (hR : ∀ h' n' tk, (∀ x o, s.heap.get? x = some o → x ≠ l → h'.get? x = some o) → h'.get? l = some (listOf (hfGo lt .none (vs.length / 2) vs).toArray n') → R (.ok (.ret .none)) { s with heap := h', toks := tk }) →
  codeAny (model PySem.Challenge.rw_pd0047_01.row.prog w) A (.call (.ref 42) ⟨[.ref l], []⟩) R s := by
  k_fill
  intro X T hb hl hlb hh hroom hu hn hS hc hR
  refine enter [(l, listOf vs.toArray n)] [("x", .ref l)] X T hb ?_ (by k_is) (by k_is) (by (first | lia | omega)) (BindsTo.of_eq rfl) (locs rfl) ?_ (by decide) rfl rfl rfl
  · intro q hq; cases hq with
    | head => exact ⟨hl, hlb⟩
    | tail _ h => cases h
  intro g L' h₁ hg X' T' F N
  replace hc := hc.up (fun x o e => hg x o (hb x o e) (by
    intro hm; simp at hm; rw [hm, hlb] at e; cases e))
  clear X T hb
  walk_at "go"
  refine forR ?_ (by intro _; rfl)
  walk_at "go"
  (rename IsRange _ _ _ _ _ _ _ _ => hr4)
  (rename Fr _ _ _ _ => F4)
  (rename News _ _ _ _ => N4)
  rw [show ((vs.length : Int).fdiv 2) = ((vs.length / 2 : Nat) : Int) from by rw [Int.fdiv_eq_ediv_of_nonneg _ (by decide)]; (first | lia | omega)] at hr4
  refine reversed_rangeN F4 N4 hr4 (by (first | lia | omega)) fun I h5 F5 N5 hI5 => ?_
  walk_at "go"
  refine for_down (HiJ l lt S vs) hh rfl rfl F5 N5 hI5 ⟨vs, n, rfl, hS, rfl, ⟨rfl, trivial⟩, rfl⟩ ?_ ?_
  · rintro i t g₁ m₁ news₁ h₁ tk₁ oI hi hgg ⟨vs', n', hlen, hS', hgo, hm, rfl⟩ F6 N6 hnI
    have hcg := hc.up hgg
    have Xg := X'.keeps hgg
    have Tg := T'.keeps hgg
    replace F6 : Fr g₁ L' h₁ (fun y => (([("x", Value.ref l)] : List (Str × Value)).lookup y).or (if y = "i" then some (.int ((vs.length / 2 - 1 - i : Nat) : Int) t) else m₁ y)) := Has.canon (ps := [("x", Value.ref l)]) ⟨hm.1, trivial⟩ F6
    clear F5 N5 F4 N4
    walk_at "go"
    have hlI := hnI _ (.head _)
    have hnI' : ∀ (o : Obj), ∀ p ∈ [(l, o)], p.1 ≠ I := fun o p hp => by simp at hp; rw [hp]; exact hlI
    refine siftup_at F6 (newsSwap N6) (fun p hp => by simp at hp; rw [hp]; exact fun e => hlI e.symm) Xg Tg hcg (by show A.depth + 1 + 5 < _; (first | lia | omega)) (unit1 hu (by decide)) (by (first | lia | omega)) (by (first | lia | omega)) hS' fun h7 n7 tk7 F7 N7 => ?_
    walk_at "go"
    refine ⟨g₁, h7, tk7, _, [(l, _)], rfl, hgg, F7, (newsSwap N7), hnI' _, ⟨_, n7, ?_, ?_, ?_, ⟨rfl, trivial⟩, rfl⟩⟩
    · rw [siftup_length]; exact hlen
    · exact siftup_all lt hS' (by (first | lia | omega))
    · rw [← hgo, show vs.length / 2 - i = (vs.length / 2 - 1 - i) + 1 from by (first | lia | omega), hfGo, show vs.length / 2 - (i + 1) = vs.length / 2 - 1 - i from by (first | lia | omega)]
  · rintro g₁ m₁ news₁ h₁ tk₁ hgg ⟨vs', n', hlen, hS', hgo, hm, rfl⟩ F6 N6
    walk_at "go"
    refine hR _ n' _ (fun x o e hx => F6.keep x o (hgg x o (hg x o e (by simpa using hx)))) ?_
    have q := (N6 _ (.head _)).1
    rw [Nat.sub_self] at hgo
    rw [← hgo]; exact q
end

theorem kind_issub : builtinKind "issubclass" = none := by decide +kernel
theorem plain_issub : plainId "issubclass" = true := by decide +kernel
theorem entry_issub : entryFor table "issubclass" = some Builtin.«issubclass» := entryFor_of_tree (by kernel_rfl)
theorem args_issub (a b : Value) : argsOk "issubclass" ⟨[a, b], []⟩ := by unfold argsOk; kernel_rfl
theorem cb_issub (a b : Value) : checkBuiltinCall "issubclass" ⟨[a, b], []⟩ = pure () := by kernel_rfl
theorem kind_issubN : builtinKind "issubclass.nested" = none := by decide +kernel
theorem plain_issubN : plainId "issubclass.nested" = true := by decide +kernel
theorem entry_issubN : entryFor table "issubclass.nested" = some Builtin.«issubclass.nested» := entryFor_of_tree (by kernel_rfl)
theorem args_issubN (a b c : Value) : argsOk "issubclass.nested" ⟨[a, b, c], []⟩ := by unfold argsOk; kernel_rfl
theorem cb_issubN (a b c : Value) : checkBuiltinCall "issubclass.nested" ⟨[a, b, c], []⟩ = pure () := by kernel_rfl
theorem sub_str_str : isSubtype (.type "str") (.type "str") = pure true := by rw [isSubtype_type]; kernel_rfl
theorem ty_str : typeOf (.type "str") = pure (.type "type") := by kernel_rfl
section
variable {prog : Program} {w : World} {A : Around} {s : Shared} {E : Value → Shared → Prop}
theorem issubN_str {Q : Fin → Shared → Prop} {d : Int} {tk : Tok} (h : Q (.done (.ret (.bool true))) s) : wpAny (model prog w) A (Builtin.«issubclass.nested» ⟨[.type "str", .type "str", .int d tk], []⟩) Q E s := by
  obtain ⟨hp, g, dr, t, os⟩ := s
  have f1 := sub_str_str
  have f2 := ty_str
  repeat (any_goals (first | assumption | wp_step))
theorem issub_str {Q : Value → Shared → Prop} {tp : Addr} {n : Nat} (ht : s.heap.get? tp = some { cls := .type "tuple", data := .seq #[.type "str", .type "bytes"] n }) (h : ∀ tk, Q (.bool true) { s with toks := tk }) :
    wpAny (model prog w) A (call (.builtin "issubclass") [.type "str", .ref tp]) Q E s := by
  refine wpAny_call (codeAny_call_builtin plain_issub entry_issub ?_)
  refine wpAny_of_eq (cb_issub _ _) ?_
  have key : ∀ R : Result → Shared → Prop, (∀ tk, R (.ok (.ret (.bool true))) { s with toks := tk }) → codeAny (model prog w) A (.builtin "issubclass.nested" ⟨[.type "str", .ref tp, rawInt 0], []⟩) R s := by
    intro R hR
    refine codeAny_builtin entry_issubN ?_
    rw [Around.under_plainId plain_issubN _]
    obtain ⟨hp, g, dr, t, os⟩ := s
    have hT2 : (⟨hp, g, dr, t, os⟩ : Shared).TypeIs (.ref tp) "tuple" := ⟨_, ht, rfl⟩
    have f1 := F.isi_sub_tuple
    dsimp only at ht
    repeat (any_goals (first | assumption | wp_step))
    show codeAny _ _ (.call (.builtin "issubclass.nested") ⟨[.type "str", .type "str", rawInt (0 + 1)], []⟩) _ _
    refine codeAny_call_builtin plain_issubN entry_issubN (wpAny_of_eq (cb_issubN _ _ _) (issubN_str ?_))
    repeat (any_goals (first | assumption | wp_step))
    exact hR _
  exact wpAny_pure ⟨Code.quiet_builtin _ (by decide +kernel), key _ fun tk => h tk⟩
end
section
variable {w : World} {mean : ExcName → Option Value} {mg mb : Str → Option Value} {b g : Heap} {A : Around} {s : Shared} {L : Addr} {m : Str → Option Value} {rest : List (Addr × Obj)} {prog : Program} {env : Env} {news : List (Addr × Obj)}
theorem fspath_call {R : Result → Shared → Prop} {x : Str} {tx : Tok} : (hd.heap_39 w.params).In b → (T : Top hd.view_39 (looseW hd.view_39 []) mean mg mb b) → (hb : ∀ x o, b.get? x = some o → s.heap.get? x = some o) →
  (hroom : A.depth + 10 < recursionLimit) → (hu : A.units + 400 < cLine) →
  (hR : ∀ h' tk, (∀ x o, s.heap.get? x = some o → h'.get? x = some o) → R (.ok (.ret (.str x tx))) { s with heap := h', toks := tk }) →
  codeAny (model PySem.Challenge.rw_pd0047_01.row.prog w) A (.call (.ref 129) ⟨[.str x tx], []⟩) R s := by
  k_fill
  intro X T hb hroom hu hR
  refine enter [] [("path", .str x tx)] X T hb (fun _ h => nomatch h) (by k_is) (by k_is) (by omega) (BindsTo.of_eq rfl) (locs rfl) ?_ (by decide) rfl rfl rfl
  intro g L' h₁ hg X' T' F N
  clear X T hb
  walk_at "go"
  (rename News _ _ _ _ => N4)
  refine issub_str (N4 _ (.head _)).1 fun tk => ?_
  walk_at "go"
  (rename Fr _ _ _ _ => F4)
  exact hR _ _ fun x o e => F4.keep x o (hg x o e (by simp))
theorem getsep_call {R : Result → Shared → Prop} {x : Str} {tx : Tok} : (hd.heap_39 w.params).In b → (T : Top hd.view_39 (looseW hd.view_39 []) mean mg mb b) → (hb : ∀ x o, b.get? x = some o → s.heap.get? x = some o) →
  (hroom : A.depth + 10 < recursionLimit) → (hu : A.units + 400 < cLine) →
  (hR : ∀ h' tk t', (∀ x o, s.heap.get? x = some o → h'.get? x = some o) → R (.ok (.ret (.str "/" t'))) { s with heap := h', toks := tk }) →
  codeAny (model PySem.Challenge.rw_pd0047_01.row.prog w) A (.call (.ref 143) ⟨[.str x tx], []⟩) R s := by
  k_fill
  intro X T hb hroom hu hR
  refine enter [] [("path", .str x tx)] X T hb (fun _ h => nomatch h) (by k_is) (by k_is) (by omega) (BindsTo.of_eq rfl) (locs rfl) ?_ (by decide) rfl rfl rfl
  intro g L' h₁ hg X' T' F N
  clear X T hb
  walk_at "go"
  exact hR _ _ _ fun x o e => F.keep x o (hg x o e (by simp))
end

local macro_rules | `(tactic| walk_at "unpackItems ref") => `(tactic| ((k_dflt refine' unpackItemsN_ (by k_asm) (by k_asm) (News.isTup (by k_asm) (by k_mem)) (by assumption) rfl ?_); intro _ _ _))
local macro_rules | `(tactic| walk_at "assign") => `(tactic| ((with_reducible show wpAny _ _ (assign (Expr.Tuple _ _ _) _ (Value.ref _)) _ _ _); (k_dflt refine' unpackN_ (by k_asm) (by k_asm) (News.isTup (by k_asm) (by k_mem)) (by assumption) rfl rfl ?_); intro _ _ _))
section
variable {w : World} {mean : ExcName → Option Value} {mg mb : Str → Option Value} {b g : Heap} {A : Around} {s : Shared} {L : Addr} {m : Str → Option Value} {rest : List (Addr × Obj)} {prog : Program} {env : Env} {news : List (Addr × Obj)}
theorem after_ext {h h' : Heap} (F : Fr g L h m) (N : News g L h news) (hk : ∀ x q, h.get? x = some q → h'.get? x = some q) : Fr g L h' m ∧ News g L h' news :=
  ⟨⟨F.ns.at' fun q e => hk _ q e, fun x q e => hk x q (F.keep x q e), F.above⟩, fun p hp => ⟨hk _ _ (N p hp).1, (N p hp).2⟩⟩
theorem none_of {h g : Heap} {a : Addr} (hg : ∀ x o, h.get? x = some o → x ∉ ([] : List (Addr × Obj)).map Prod.fst → g.get? x = some o) (e : g.get? a = none) : h.get? a = none := by
  cases q : h.get? a with
  | none => rfl
  | some o => rw [hg a o q (by simp)] at e; cases e
theorem fspath_at {Q : Value → Shared → Prop} {x : Str} {tx : Tok} (F : Fr g L s.heap m) (N : News g L s.heap news) (X : (hd.heap_39 w.params).In g) (T : Top hd.view_39 (looseW hd.view_39 []) mean mg mb g)
    (hroom : A.depth + 10 < recursionLimit) (hu : A.units + 400 < cLine)
    (hQ : ∀ h' tk, Fr g L h' m → News g L h' news → Q (.str x tx) { s with heap := h', toks := tk }) :
    wpAny (model PySem.Challenge.rw_pd0047_01.row.prog w) A (call (.ref 129) [.str x tx]) Q NoE s :=
  wpAny_call (fspath_call X T F.keep hroom hu fun h' tk hk => hQ h' tk (after_ext F N hk).1 (after_ext F N hk).2)
theorem getsep_at {Q : Value → Shared → Prop} {x : Str} {tx : Tok} (F : Fr g L s.heap m) (N : News g L s.heap news) (X : (hd.heap_39 w.params).In g) (T : Top hd.view_39 (looseW hd.view_39 []) mean mg mb g)
    (hroom : A.depth + 10 < recursionLimit) (hu : A.units + 400 < cLine)
    (hQ : ∀ h' tk t', Fr g L h' m → News g L h' news → Q (.str "/" t') { s with heap := h', toks := tk }) :
    wpAny (model PySem.Challenge.rw_pd0047_01.row.prog w) A (call (.ref 143) [.str x tx]) Q NoE s :=
  wpAny_call (getsep_call X T F.keep hroom hu fun h' tk t' hk => hQ h' tk t' (after_ext F N hk).1 (after_ext F N hk).2)

noncomputable def headOf (x : Str) : Str := Txt.slice x none (some (Txt.rfind x "/" + 1))
noncomputable def tailOf (x : Str) : Str := Txt.slice x (some (Txt.rfind x "/" + 1)) none
noncomputable def splitHead (x : Str) : Str := if (headOf x).length ≠ 0 ∧ (headOf x != Txt.mul "/" (headOf x).length) = true then Txt.rstripChars (headOf x) "/" else headOf x
noncomputable abbrev tupOf (vs : List Value) (n : Nat) : Obj := { cls := .type "tuple", data := .seq vs.toArray n }
theorem split_call {R : Result → Shared → Prop} {x : Str} {tx : Tok} : (hd.heap_39 w.params).In b → (T : Top hd.view_39 (looseW hd.view_39 []) mean mg mb b) → (hb : ∀ x o, b.get? x = some o → s.heap.get? x = some o) →
  (hh : A.handled = none) → (hroom : A.depth + 20 < recursionLimit) → (hu : A.units + 500 < cLine) → (hx : x.length ≤ 1000) →
  (hR : ∀ h' tk a t1 t2, (∀ x o, s.heap.get? x = some o → h'.get? x = some o) → s.heap.get? a = none → h'.get? a = some (tupOf [.str (splitHead x) t1, .str (tailOf x) t2] 0) → (splitHead x).length ≤ x.length → (tailOf x).length ≤ x.length → R (.ok (.ret (.ref a))) { s with heap := h', toks := tk }) →
  codeAny (model PySem.Challenge.rw_pd0047_01.row.prog w) A (.call (.ref 150) ⟨[.str x tx], []⟩) R s := by
  k_fill
  intro X T hb hh hroom hu hx hR
  refine enter [] [("p", .str x tx)] X T hb (fun _ h => nomatch h) (by k_is) (by k_is) (by omega) (BindsTo.of_eq rfl) (locs rfl) ?_ (by decide) rfl rfl rfl
  intro g L' h₁ hg X' T' F N
  clear X T hb
  walk_at "go"
  refine fspath_at F N X' T' (room1 hroom (by decide)) (unit1 hu (by decide)) fun h2 tk2 F2 N2 => ?_
  clear F N
  walk_at "go"
  (rename Fr _ _ _ _ => F3)
  (rename News _ _ _ _ => N3)
  refine getsep_at F3 N3 X' T' (room1 hroom (by decide)) (unit1 hu (by decide)) fun h4 tk4 t4 F4 N4 => ?_
  clear F3 N3
  walk_at "go"
  · (rename Fr _ _ _ _ => F5)
    (rename News _ _ _ _ => N5)
    have D := N5 _ (.head _)
    have e : splitHead x = Txt.rstripChars (headOf x) "/" := if_pos ⟨by first | assumption | exact_mod_cast ‹((Txt.slice x none (some (Txt.rfind x (Str.ofString "/") + 1))).length : Int) ≠ 0›, by assumption⟩
    have hr : (Txt.rstripChars (Txt.slice x none (some (Txt.rfind x "/" + 1))) "/").length ≤ (Txt.slice x none (some (Txt.rfind x "/" + 1))).length := by with_reducible assumption
    have ht : (Txt.slice x (some (Txt.rfind x "/" + 1)) none).length ≤ x.length := by with_reducible assumption
    have hd : (Txt.slice x none (some (Txt.rfind x "/" + 1))).length ≤ x.length := by with_reducible assumption
    refine hR _ _ _ _ _ (fun x o e => F5.keep x o (hg x o e (by simp))) (none_of hg D.2.2) (by rw [e]; exact D.1) ?_ ht
    rw [e]; exact Nat.le_trans hr hd
  · (rename Fr _ _ _ _ => F5)
    (rename News _ _ _ _ => N5)
    have D := N5 _ (.head _)
    have e : splitHead x = headOf x := if_neg fun q => by
      have q2 := q.2
      have q3 : (headOf x != Txt.mul "/" (headOf x).length) = false := by assumption
      rw [q3] at q2; cases q2
    exact hR _ _ _ _ _ (fun x o e => F5.keep x o (hg x o e (by simp))) (none_of hg D.2.2) (by rw [e]; exact D.1) (by rw [e]; assumption) (by assumption)
  · (rename Fr _ _ _ _ => F5)
    (rename News _ _ _ _ => N5)
    have D := N5 _ (.head _)
    have e : splitHead x = headOf x := if_neg fun q => q.1 (by
      have q3 : ((headOf x).length : Int) = 0 := by assumption
      omega)
    exact hR _ _ _ _ _ (fun x o e => F5.keep x o (hg x o e (by simp))) (none_of hg D.2.2) (by rw [e]; exact D.1) (by rw [e]; assumption) (by assumption)
end

section
variable {w : World} {mean : ExcName → Option Value} {mg mb : Str → Option Value} {b g : Heap} {A : Around} {s : Shared} {L : Addr} {m : Str → Option Value} {rest : List (Addr × Obj)} {prog : Program} {env : Env} {news : List (Addr × Obj)}
theorem split_at {Q : Value → Shared → Prop} {x : Str} {tx : Tok} (F : Fr g L s.heap m) (N : News g L s.heap news) (X : (hd.heap_39 w.params).In g) (T : Top hd.view_39 (looseW hd.view_39 []) mean mg mb g)
    (hh : A.handled = none) (hroom : A.depth + 20 < recursionLimit) (hu : A.units + 500 < cLine) (hx : x.length ≤ 1000)
    (hQ : ∀ h' tk a t1 t2, Fr g L h' m → News g L h' ((a, tupOf [.str (splitHead x) t1, .str (tailOf x) t2] 0) :: news) → (splitHead x).length ≤ x.length → (tailOf x).length ≤ x.length → Q (.ref a) { s with heap := h', toks := tk }) :
    wpAny (model PySem.Challenge.rw_pd0047_01.row.prog w) A (call (.ref 150) [.str x tx]) Q NoE s := by
  refine wpAny_call (split_call X T F.keep hh hroom hu hx fun h' tk a t1 t2 hk ha hta hl1 hl2 => ?_)
  obtain ⟨F', N'⟩ := after_ext F N hk
  refine hQ h' tk a t1 t2 F' (fun p hp => ?_) hl1 hl2
  rcases List.mem_cons.mp hp with rfl | hp
  · refine ⟨hta, fun e => ?_, ?_⟩
    · obtain ⟨o, _, _, ho, _⟩ := F.ns
      have e' : a = L := e
      rw [e', ho] at ha; cases ha
    · cases q : g.get? a with
      | none => rfl
      | some o => rw [F.keep _ _ q] at ha; cases ha
  · exact N' p hp

inductive DepthIs : Str → Nat → Prop
  | zero {x : Str} : tailOf x = "" → DepthIs x 0
  | succ {x : Str} {d : Nat} : tailOf x ≠ "" → DepthIs (splitHead x) d → DepthIs x (d + 1)

inductive DpJ (d k : Nat) (m : Str → Option Value) (news : List (Addr × Obj)) : Prop
  | mk (y : Str) (t t1 t2 : Tok) (hk : k ≤ d) (hdy : DepthIs y k) (hy : y.length ≤ 1000) (hy1 : (splitHead y).length ≤ y.length) (hy2 : (tailOf y).length ≤ y.length)
    (hm : Has m [("depth", .int ((d - k : Nat) : Int) t), ("head", .str (splitHead y) t1), ("tail", .str (tailOf y) t2)]) (hled : news = [])
theorem depth_call {R : Result → Shared → Prop} {x : Str} {tx : Tok} {d : Nat} : (hd.heap_39 w.params).In b → (T : Top hd.view_39 (looseW hd.view_39 []) mean mg mb b) → (hb : ∀ x o, b.get? x = some o → s.heap.get? x = some o) →
  (hh : A.handled = none) → (hroom : A.depth + 30 < recursionLimit) → (hu : A.units + 600 < cLine) → (hx : x.length ≤ 1000) → (hd : DepthIs x d) →
  (hR : ∀ h' tk t', (∀ x o, s.heap.get? x = some o → h'.get? x = some o) → R (.ok (.ret (.int d t'))) { s with heap := h', toks := tk }) →
  codeAny (model PySem.Challenge.rw_pd0047_01.row.prog w) A (.call (.ref 167) ⟨[.str x tx], []⟩) R s := by
  k_fill
  intro X T hb hh hroom hu hx hdp hR
  refine enter [] [("folder", .str x tx)] X T hb (fun _ h => nomatch h) (by k_is) (by k_is) (by omega) (BindsTo.of_eq rfl) (locs rfl) ?_ (by decide) rfl rfl rfl
  intro g L' h₁ hg X' T' F N
  clear X T hb
  walk_at "go"
  (rename Fr _ _ _ _ => F3)
  (rename News _ _ _ _ => N3)
  refine split_at F3 N3 X' T' hh (room1 hroom (by decide)) (unit1 hu (by decide)) hx fun h4 tk4 a4 t4 u4 F4 N4 hl1 hl2 => ?_
  clear F3 N3
  walk_at "go"
  (rename Fr _ _ _ _ => F5)
  (rename News _ _ _ _ => N5)
  refine whileH (DpJ d) (fun m' _ => ∃ t, Has m' [("depth", .int d t)]) d F5 (News.nil) ⟨x, _, _, _, Nat.le_refl _, hdp, hx, hl1, hl2, ⟨by rw [Nat.sub_self]; rfl, rfl, rfl, trivial⟩, rfl⟩ ?_ ?_
  · clear hdp hx hl1 hl2
    rintro k m₁ news₁ S2 T2 B2 F2 N2 ⟨y, t, t1, t2, hk, hdy, hy, hy1, hy2, hm, rfl⟩ hT2 hB2
    replace F2 := hm.canon F2
    clear F5 N5
    walk_at "go"
    · have hne : tailOf y ≠ "" := by
        have q : (tailOf y != Str.ofString "") = true := by assumption
        intro e; rw [e] at q; simp at q
      cases hdy with
      | zero q => exact absurd q hne
      | @succ _ k' _ hdy' =>
        (rename Fr _ _ _ _ => F6)
        (rename News _ _ _ _ => N6)
        refine split_at F6 N6 X' T' hh (room1 hroom (by decide)) (unit1 hu (by decide)) (by omega) fun h7 tk7 a7 t7 u7 F7 N7 hz1 hz2 => ?_
        clear F6 N6
        walk_at "go"
        (rename Fr _ _ _ _ => F8)
        have e : ((d - k' : Nat) : Int) = ((d - (k' + 1) : Nat) : Int) + 1 := by omega
        refine hT2 _ _ _ [] k' F8 News.nil (by omega) ⟨splitHead y, ?t, _, _, by omega, hdy', by omega, hz1, hz2, ⟨?h, rfl, rfl, trivial⟩, rfl⟩
        case h => rw [e]; exact rfl
    · have hz : tailOf y = "" := by
        have q : (tailOf y != Str.ofString "") = false := by assumption
        simpa using q
      cases hdy with
      | succ q _ => exact absurd hz q
      | zero q => exact hB2 _ _ _ [] F2 News.nil ⟨t, rfl, trivial⟩
  · rintro h3 tk3 m3 led3 F3 N3 ⟨t3, hm3⟩
    replace F3 := hm3.canon F3
    clear F5 N5
    walk_at "go"
    exact hR _ _ _ fun x o e => F3.keep x o (hg x o e (by simp))
end

theorem owner_map : Manifest.owners.lookup (String.ofList ['p', 'a', 'm'].reverse) = some Manifest.sig_map := by kernel_rfl
theorem slot_map_next : Slot "map" "__next__" "map.__next__" :=
  .of (owner := "map") (n := "__next__") (by rw [typeLookup_type, builtinLookup_eq_fast]; kernel_rfl) (by decide +kernel) (by decide +kernel) (by decide +kernel)
    (by first | exact .inl (by decide +kernel) | exact .inr (by decide +kernel)) (by rw [isSubtype_type]; kernel_rfl)
theorem entry_map_next : entryFor table "map.__next__" = some Builtin.«map.__next__» := entryFor_of_tree (by kernel_rfl)
theorem args_map_next_1 (a : Value) : argsOk "map.__next__" ⟨[a], []⟩ := by
  unfold argsOk; rw [signature?_of (id := "map.__next__") (n := ['_', '_', 't', 'x', 'e', 'n', '_', '_']) (o := ['p', 'a', 'm']) (by kernel_rfl) owner_map]; kernel_rfl
theorem slot_map_iter : Slot "map" "__iter__" "map.__iter__" :=
  .of (owner := "map") (n := "__iter__") (by rw [typeLookup_type, builtinLookup_eq_fast]; kernel_rfl) (by decide +kernel) (by decide +kernel) (by decide +kernel)
    (by first | exact .inl (by decide +kernel) | exact .inr (by decide +kernel)) (by rw [isSubtype_type]; kernel_rfl)
theorem args_map_iter_1 (a : Value) : argsOk "map.__iter__" ⟨[a], []⟩ := by
  unfold argsOk; rw [signature?_of (id := "map.__iter__") (n := ['_', '_', 'r', 'e', 't', 'i', '_', '_']) (o := ['p', 'a', 'm']) (by kernel_rfl) owner_map]; kernel_rfl
theorem entry_map_iter : entryFor table "map.__iter__" = some Builtin.«dict_keyiterator.__iter__» :=
  entryFor_alias (id' := "dict_keyiterator.__iter__") (by kernel_rfl) (by first | rfl | decide +kernel | (unfold String.splitOn; simp +decide [String.splitOnAux])) (by decide +kernel) (by kernel_rfl)
theorem slot_map_init : Slot "map" "__init__" "object.__init__" :=
  .of (owner := "object") (n := "__init__") (by rw [typeLookup_type, builtinLookup_eq_fast]; kernel_rfl) (by decide +kernel) (by decide +kernel) (by decide +kernel)
    (by first | exact .inl (by decide +kernel) | exact .inr (by decide +kernel)) (by rw [isSubtype_type]; kernel_rfl)
theorem mro_map : mroOf (.type "map") = pure [.type "map", .type "object"] := by rw [mroOf_type]; kernel_rfl
theorem lookup_map_new : typeLookup (.type "map") "__new__" = pure (some (.builtin "map.__new__")) := by rw [typeLookup_type, builtinLookup_eq_fast]; kernel_rfl
theorem called_map : TypeCalled "map" "map.__new__" "object.__init__" :=
  ⟨by decide +kernel, by decide +kernel, ⟨_, _, mro_map⟩, madeBy_type mro_map lookup_map_new (by decide +kernel), by decide +kernel, by rw [isSubtype_type]; kernel_rfl, slot_map_init⟩
theorem typeCall_map_2 (a b : Value) : checkTypeCall "map" ⟨[a, b], []⟩ = pure () := by kernel_rfl
theorem newCall_map_2 (a b : Value) : checkBuiltinCall "map.__new__" ⟨[.type "map", a, b], []⟩ = pure () := by kernel_rfl
theorem entry_map_new : entryFor table "map.__new__" = some Builtin.«map.__new__» := entryFor_of_tree (by kernel_rfl)
theorem sub_map : isSubtype (.type "map") (.type "map") = pure true := by rw [isSubtype_type]; kernel_rfl
theorem map_no_len : typeLookup (.type "map") "__len__" = pure none := by rw [typeLookup_type, builtinLookup_eq_fast]; kernel_rfl
theorem map_no_hint : typeLookup (.type "map") "__length_hint__" = pure none := by rw [typeLookup_type, builtinLookup_eq_fast]; kernel_rfl

noncomputable abbrev mapObj (TI : Addr) (f : Value) : Obj := { cls := .type "map", data := .fields #[.ref TI, f] }
noncomputable abbrev oneTup (v : Value) : Obj := { cls := .type "tuple", data := .seq #[v] }
section
variable {prog : Program} {w : World} {A : Around} {s : Shared} {E : Value → Shared → Prop}
theorem map_next_item {z TI it l : Addr} {i : Nat} {items : Array Value} {f x : Value} {Q : Value → Shared → Prop} (hz : s.heap.get? z = some (mapObj TI f)) (hT : s.heap.get? TI = some (oneTup (.ref it)))
    (hit : s.heap.IsListIter it l i) (hl : s.heap.IsList l items) (hx : items[i]? = some x) (hzi : z ≠ it)
    (hc : ∀ h', h'.IsListIter it l (i + 1) → Heap.SameBut it s.heap h' → wpAny (model prog w) A (call f [x]) Q E { s with heap := h' }) :
    wpAny (model prog w) A (Builtin.«map.__next__» ⟨[.ref z], []⟩) (fun fin s' => ∃ v, fin = .done (.ret v) ∧ Q v s') E s := by
  show wpAny _ _ (field (.ref z) 0 >>= _) _ _ _
  refine wpAny_bind (wpAny_field hz rfl (x := .ref TI) rfl ?_)
  refine wpAny_bind (wpAny_seqItems hT rfl ?_)
  refine wpAny_bind (wpAny_arrayLoop ?_)
  simp only [List.forIn_cons, List.forIn_nil]
  refine wpAny_bind (wpAny_bind (wpAny_holding (wpAny_nextOf_list_item hit hl hx fun h' hit' hs => ?_)))
  refine wpAny_pure (wpAny_pure ?_)
  refine wpAny_bind (wpAny_field (hs.extBut _ _ hzi hz) rfl (x := f) rfl ?_)
  refine wpAny_bind (wpAny_holding (wpAny_mono (hc h' hit' hs) (fun v s' hv => ?_) fun _ _ e => e))
  exact wpAny_bind (wpAny_letGo (wpAny_pure ⟨v, rfl, hv⟩))
theorem map_next_end {z TI it l : Addr} {i : Nat} {items : Array Value} {f : Value} {Q : Fin → Shared → Prop} (hh : A.handled = none) (hz : s.heap.get? z = some (mapObj TI f)) (hT : s.heap.get? TI = some (oneTup (.ref it)))
    (hit : s.heap.IsListIter it l i) (hl : s.heap.IsList l items) (hx : items[i]? = none)
    (hE : ∀ h' e, Heap.ExtBut it s.heap h' → (∃ o, h'.get? e = some o ∧ o.cls = .type "StopIteration") → E (.ref e) { s with heap := h' }) :
    wpAny (model prog w) A (Builtin.«map.__next__» ⟨[.ref z], []⟩) Q E s := by
  show wpAny _ _ (field (.ref z) 0 >>= _) _ _ _
  refine wpAny_bind (wpAny_field hz rfl (x := .ref TI) rfl ?_)
  refine wpAny_bind (wpAny_seqItems hT rfl ?_)
  refine wpAny_bind (wpAny_arrayLoop ?_)
  simp only [List.forIn_cons, List.forIn_nil]
  exact wpAny_bind (wpAny_bind (wpAny_holding (wpAny_nextOf_list_end hh hit hl hx hE)))
theorem pyNext_map_item {z TI it l : Addr} {i : Nat} {items : Array Value} {f x : Value} {Q : Option Value → Shared → Prop} (hz : s.heap.get? z = some (mapObj TI f)) (hT : s.heap.get? TI = some (oneTup (.ref it)))
    (hit : s.heap.IsListIter it l i) (hl : s.heap.IsList l items) (hx : items[i]? = some x) (hzi : z ≠ it)
    (hc : ∀ h', h'.IsListIter it l (i + 1) → Heap.SameBut it s.heap h' → wpAny (model prog w) A.in1 (call f [x]) (fun v s' => Q (some v) s') NoE { s with heap := h' }) :
    wpAny (model prog w) A (pyNext (.ref z)) Q E s := by
  have hTz : s.TypeIs (.ref z) "map" := ⟨_, hz, rfl⟩
  unfold pyNext
  refine wpAny_bind (wpAny_attempt (wpAny_callSpecial?_slot (name := Str.ofString "__next__") hTz slot_map_next
    (wpAny_call_entry slot_map_next hTz entry_map_next (wpAny_mono (map_next_item (E := NoE) hz hT hit hl hx hzi fun h' a b => wpAny_mono (hc h' a b) (fun v s' hv => (wpAny_pure hv : wpAny (model prog w) A (pure (some v)) Q E s')) fun _ _ e => e) (fun _ _ h => h) fun _ _ e => e.elim) (args_map_next_1 _))))
theorem pyNext_map_end {z TI it l : Addr} {i : Nat} {items : Array Value} {f : Value} {Q : Option Value → Shared → Prop} (hh : A.handled = none) (hz : s.heap.get? z = some (mapObj TI f)) (hT : s.heap.get? TI = some (oneTup (.ref it)))
    (hit : s.heap.IsListIter it l i) (hl : s.heap.IsList l items) (hx : items[i]? = none)
    (hQ : ∀ h', Heap.ExtBut it s.heap h' → Q none { s with heap := h' }) : wpAny (model prog w) A (pyNext (.ref z)) Q E s := by
  have hTz : s.TypeIs (.ref z) "map" := ⟨_, hz, rfl⟩
  unfold pyNext
  refine wpAny_bind (wpAny_attempt (wpAny_callSpecial?_slot (name := Str.ofString "__next__") hTz slot_map_next
    (wpAny_call_entry slot_map_next hTz entry_map_next (map_next_end hh hz hT hit hl hx fun h' e hk he => ?_) (args_map_next_1 _))))
  obtain ⟨o, ho, hc⟩ := he
  refine wpAny_bind (wpAny_isInstance (T := "StopIteration") (b := true) ⟨o, ho, hc⟩ isSubtype_stop ?_)
  exact wpAny_pure (hQ _ hk)
theorem pyIter_map {z TI : Addr} {f : Value} {Q : Value → Shared → Prop} (hz : s.heap.get? z = some (mapObj TI f)) (h : Q (.ref z) s) : wpAny (model prog w) A (pyIter (.ref z)) Q E s := by
  have hT : s.TypeIs (.ref z) "map" := ⟨_, hz, rfl⟩
  refine wpAny_pyIter_slot hT slot_map_iter (wpAny_call_entry slot_map_iter hT entry_map_iter ?_ (args_map_iter_1 _))
  show wpAny _ _ (ret (.ref z)) _ _ s
  exact wpAny_pure ⟨_, rfl, "map", _, hT, slot_map_next.lookup, h⟩
end
noncomputable abbrev mapH1 (h : Heap) (l : Addr) : Heap := h.push { cls := .type "list_iterator", data := .fields #[.ref l, .int 0 0] }
noncomputable abbrev mapH2 (h : Heap) (l : Addr) : Heap := (mapH1 h l).push (oneTup (.ref h.objs.size))
noncomputable abbrev mapH3 (h : Heap) (l : Addr) (f : Value) : Heap := (mapH2 h l).push (mapObj (mapH1 h l).objs.size f)
theorem meets_map_new (f : Value) (l : Addr) (xs : Array Value) :
    Meets (Builtin.«map.__new__» ⟨[.type "map", f, .ref l], []⟩) (fun _ R s => s.heap.IsList l xs ∧ R (.ok (.ret (.ref (mapH2 s.heap l).objs.size))) { s with heap := mapH3 s.heap l f }) :=
  .of_wp fun prog w A R s h => by
    obtain ⟨hp, g, d, tk, os⟩ := s; obtain ⟨hl1, h⟩ := h
    have hsub := sub_map
    have hL1 : Heap.IsList (Shared.heap ⟨hp, g, d, tk, os⟩) l xs := hl1
    wp_walk using wpAny_pyIter_list hL1
    exact ⟨_, rfl, h⟩
section
variable {prog : Program} {w : World} {A : Around} {s : Shared} {E : Value → Shared → Prop}
theorem call_map {f : Value} {l : Addr} {xs : Array Value} {Q : Value → Shared → Prop} (hl : s.heap.IsList l xs)
    (h : ∀ h', h'.get? (s.heap.objs.size + 2) = some (mapObj (s.heap.objs.size + 1) f) → h'.get? (s.heap.objs.size + 1) = some (oneTup (.ref s.heap.objs.size)) → h'.IsListIter s.heap.objs.size l 0 → h'.objs.size = s.heap.objs.size + 3 →
      (∀ c o, s.heap.get? c = some o → h'.get? c = some o) → Q (.ref (s.heap.objs.size + 2)) { s with heap := h' }) : wpAny (model prog w) A (call (.type "map") [f, .ref l]) Q E s := by
  refine callType_new called_map (by decide) (typeCall_map_2 _ _) (newCall_map_2 _ _) (fun obj => F.args_object_init_3 obj _ _) entry_map_new (meets_map_new f l xs) ⟨hl, ?_⟩
  have z1 : (mapH1 s.heap l).objs.size = s.heap.objs.size + 1 := Heap.size_push ..
  have z2 : (mapH2 s.heap l).objs.size = s.heap.objs.size + 2 := by rw [Heap.size_push, z1]
  have z3 : (mapH3 s.heap l f).objs.size = s.heap.objs.size + 3 := by rw [Heap.size_push, z2]
  have g3 : (mapH3 s.heap l f).get? (mapH2 s.heap l).objs.size = some _ := Heap.get?_push_size _ rfl
  have g2 : (mapH3 s.heap l f).get? (mapH1 s.heap l).objs.size = some _ := Heap.get?_push_of_some _ (Heap.get?_push_size _ rfl)
  have g1 : (mapH3 s.heap l f).get? s.heap.objs.size = some _ := Heap.get?_push_of_some _ (Heap.get?_push_of_some _ (Heap.get?_push_size _ rfl))
  show _ ∧ _
  rw [z1, z2] at g3
  rw [z1] at g2
  rw [z2]
  exact ⟨⟨_, g3, rfl⟩, h _ g3 g2 ⟨_, g1, rfl, rfl⟩ z3 fun c o x => Heap.get?_push_of_some _ (Heap.get?_push_of_some _ (Heap.get?_push_of_some _ x))⟩
end
section
variable {w : World} {mean : ExcName → Option Value} {mg mb : Str → Option Value} {b g : Heap} {A : Around} {s : Shared} {L : Addr} {m : Str → Option Value} {prog : Program} {news : List (Addr × Obj)} {E : Value → Shared → Prop}
theorem walks_map {z TI it l : Addr} {items : Array Value} (hh : A.handled = none) (hroom : A.depth + 10 < recursionLimit) (hu : A.units + 410 < cLine)
    (X : (hd.heap_39 w.params).In b) (T : Top hd.view_39 (looseW hd.view_39 []) mean mg mb b) (hzi : z ≠ it) (hTi : TI ≠ it) (hli : l ≠ it) (hbi : b.get? it = none)
    (hstr : ∀ (i : Nat) v, items[i]? = some v → ∃ x t, v = .str x t) :
    Walks PySem.Challenge.rw_pd0047_01.row.prog w A z (z :: TI :: it :: l :: List.range b.objs.size) [it] items.size (fun i v => items[i]? = some v)
      (fun i h => h.get? z = some (mapObj TI (.ref 129)) ∧ h.get? TI = some (oneTup (.ref it)) ∧ h.IsListIter it l i ∧ h.IsList l items ∧ ∀ a o, b.get? a = some o → h.get? a = some o) where
  sub := fun a ha => by simp at ha; simp [ha]
  frame := fun i h h' st hk => ⟨hk z (by simp) _ st.1, hk TI (by simp) _ st.2.1, st.2.2.1.at fun o e => hk it (by simp) o e, st.2.2.2.1.at fun o e => hk l (by simp) o e,
    fun a o e => hk a (by simp [Heap.lt_size e]) o (st.2.2.2.2 a o e)⟩
  item := fun i s Q E hi st hQ => by
    have hx : items[i]? = some items[i] := by simp [hi]
    refine pyNext_map_item st.1 st.2.1 st.2.2.1 st.2.2.2.1 hx hzi fun h' hit' hs => ?_
    obtain ⟨x, t, e⟩ := hstr i _ hx
    rw [e]
    refine wpAny_call (fspath_call (s := { s with heap := h' }) X T (fun a o q => hs.extBut a o (fun z => by rw [z, hbi] at q; cases q) (st.2.2.2.2 a o q)) (by exact hroom) (by show A.units + 1 + _ < _; (first | lia | omega)) fun h'' tk hk => ?_)
    refine hQ _ h'' tk (by rw [hx, e]) ⟨hk _ _ (hs.extBut _ _ hzi st.1), hk _ _ (hs.extBut _ _ hTi st.2.1), hit'.at fun o e => hk _ _ e, (st.2.2.2.1.extBut hs.extBut hli).at fun o e => hk _ _ e, fun a o q => hk _ _ (hs.extBut a o (fun z => by rw [z, hbi] at q; cases q) (st.2.2.2.2 a o q))⟩ fun a o ha q => hk a o (hs.extBut a o (by simpa using ha) q)
  done := fun s Q E st hQ => pyNext_map_end hh st.1 st.2.1 st.2.2.1 st.2.2.2.1 (by simp) fun h' he => hQ h' s.toks fun a o ha q => he a o (by simpa using ha) q
  self := fun _ _ _ _ st hQ => pyIter_map st.1 hQ

variable {I : Addr} {fp wr : List Addr} {G : Array GenState → Array GenState → Prop} {n : Nat} {P : Nat → Value → Prop} {St : Nat → Shared → Prop}
theorem collect_map {Q : List Value → Shared → Prop} (W : WalksS prog w A.in1 I fp wr G n P St) (hT : ∀ i s, St i s → s.TypeIs (.ref I) "map") (hst : St 0 s) (hfp : ∀ b ∈ fp, b < s.heap.objs.size) (hI : I ∈ fp)
    (hQ : ∀ s' acc, Moved wr G s s' → ItemsOf P acc n → Q acc.toList s') (hn : n ≤ sizeLine) : wpAny (model prog w) A (collect (.ref I)) Q E s := by
  have hSf : s.heap.objs.size ∉ fp := fun hm => Nat.lt_irrefl _ (hfp _ hm)
  have hSI : s.heap.objs.size ≠ I := fun e => hSf (e ▸ hI)
  unfold collect
  refine wpAny_bind (wpAny_runValue (codeAny_builtin F.entry_proto_collect ?_))
  rw [Around.under_plainId F.plain_proto_collect _]
  show wpAny _ A.in1 (newList [] >>= fun l => again (.builtin "list.__iadd__" ⟨[l, .ref I], []⟩)) _ _ s
  refine wpAny_bind (wpAny_newObj_type ?_)
  refine wpAny_pure ⟨plainId_quiet F.plain_list_iadd _, codeAny_builtin F.entry_list_iadd ?_⟩
  rw [Around.under_plainId F.plain_list_iadd _]
  have hst₁ := W.frame 0 s (s.heap.push { cls := .type "list", data := .seq ([] : List Value).toArray }) s.toks hst (Nat.le_refl _) fun b _ o e => Heap.get?_push_of_some _ e
  show wpAny _ A.in1 (Builtin.List.listExtendWith (.ref s.heap.objs.size) (.ref I) (.ref s.heap.objs.size)) _ _ _
  unfold Builtin.List.listExtendWith
  refine wpAny_bind (wpAny_typeOf (hT 0 _ hst₁) ?_)
  have h1 : Builtin.List.listSameRef (.ref s.heap.objs.size) (.ref I) = false := by simp [Builtin.List.listSameRef, hSI]
  have h2 : (Value.type "map" == Value.type "list") = false := by decide
  have h3 : (Value.type "map" == Value.type "tuple") = false := by decide
  simp only [h1, h2, h3, Bool.or_false, Bool.false_eq_true, if_false]
  refine wpAny_bind (W.self 0 _ _ _ hst₁ ?_)
  refine wpAny_bind (wpAny_holding ?_)
  unfold Builtin.List.listLengthHint
  refine wpAny_bind (wpAny_specialOf (hT 0 _ hst₁) map_no_len ?_)
  show wpAny _ A.in1 (specialOf (Value.ref I) (Str.ofString "__length_hint__") >>= _) _ _ _
  refine wpAny_bind (wpAny_specialOf (hT 0 _ hst₁) map_no_hint ?_)
  refine wpAny_pure ?_
  show wpAny _ A.in1 (rule "list.extend.makes-room" >>= fun _ => Builtin.List.listTouch (.ref s.heap.objs.size) >>= fun _ =>
    again (.builtin "list.extend.loop" ⟨[.ref s.heap.objs.size, .ref I, .ref s.heap.objs.size], []⟩)) _ _ _
  refine wpAny_bind (wpAny_rule ?_)
  have hS₁ : (s.heap.push { cls := .type "list", data := .seq ([] : List Value).toArray }).get? s.heap.objs.size = some { cls := .type "list", data := .seq ([] : List Value).toArray } := Heap.get?_push_size _ rfl
  refine wpAny_bind ?_
  show wpAny _ A.in1 (updateSeq s.heap.objs.size (·.push .none) >>= fun _ => updateSeq s.heap.objs.size (·.pop)) _ _ _
  refine wpAny_bind (wpAny_updateSeq hS₁ rfl ?_)
  have hS₂ := Heap.get?_update_self (Obj.mapSeq (·.push Value.none)) hS₁ rfl
  refine wpAny_updateSeq hS₂ rfl ?_
  have hS₃ := Heap.get?_update_self (Obj.mapSeq (·.pop)) hS₂ rfl
  have oth : ∀ b o, b ≠ s.heap.objs.size → (s.heap.push { cls := .type "list", data := .seq ([] : List Value).toArray }).get? b = some o →
      (((s.heap.push { cls := .type "list", data := .seq ([] : List Value).toArray }).update s.heap.objs.size (Obj.mapSeq (·.push Value.none))).update s.heap.objs.size (Obj.mapSeq (·.pop))).get? b = some o :=
    fun b o hb e => (Heap.get?_update_other _ _ (Ne.symm hb)).trans ((Heap.get?_update_other _ _ (Ne.symm hb)).trans e)
  refine wpAny_pure ⟨plainId_quiet F.plain_extend_loop _, codeAny_extend_loopS W hn _ hSf _ n 0 _ _ _ rfl (Nat.zero_le _)
    (W.frame 0 ({ s with heap := s.heap.push { cls := .type "list", data := .seq ([] : List Value).toArray } } : Shared) _ s.toks hst₁ (Nat.le_refl _) fun b hb o e => oth b o (fun h => hSf (h ▸ hb)) e) hS₃ (ItemsOf.nil P) fun s' acc' c' hm hS' hacc => ?_⟩
  show wpAny _ A (load s.heap.objs.size >>= _) _ _ s'
  refine wpAny_bind (wpAny_load hS' ?_)
  refine wpAny_pure (hQ s' acc' (Moved.drop_new (o := { cls := .type "list", data := .seq ([] : List Value).toArray }) (tk := s.toks) (Moved.trans W.gtrans ((Moved.refl W.grefl).then_heap (by first | exact Nat.le_refl _ | exact Nat.le_succ _ | (first | lia | omega)) fun b o hb e => ?_) hm) (Nat.le_refl _)) hacc)
  exact oth b o (fun h => hb (h ▸ List.mem_cons_self)) e
theorem code_tuple_new_map {Q₁ : Value → Shared → Prop} (W : WalksS prog w A.in1.in1 I fp wr G n P St) (hT : ∀ i s, St i s → s.TypeIs (.ref I) "map") (hst : St 0 s) (hfp : ∀ b ∈ fp, b < s.heap.objs.size) (hI : I ∈ fp)
    (h : ∀ s' acc, Moved wr G s s' → ItemsOf P acc n → Q₁ (.ref s'.heap.objs.size) { s' with heap := s'.heap.push { cls := .type "tuple", data := .seq acc } }) (hsz : n ≤ sizeLine) :
    codeAny (model prog w) A (.call (.builtin "tuple.__new__") ⟨[.type "tuple", .ref I], []⟩) (wants Q₁ E) s := by
  refine codeAny_of_tree ?_
  show wpAny _ A.in1 (do checkBuiltinCall "tuple.__new__" ⟨[.type "tuple", .ref I], []⟩; again (.builtin "tuple.__new__" ⟨[.type "tuple", .ref I], []⟩)) _ _ s
  refine wpAny_bind (wpAny_of_eq (F.newCall_tuple_1 _) (wpAny_pure ⟨plainId_quiet F.plain_tuple_new _, codeAny_builtin F.entry_tuple_new ?_⟩))
  rw [Around.under_plainId F.plain_tuple_new _]
  have hsub := sub_tuple_self
  have hinit := init_tuple_lookup
  have hmh := madeHere_tuple
  have hTI := hT 0 s hst
  wp_walk using wpAny_typeOf hTI, collect_map (hn := hsz) W hT hst hfp hI
  intro s' acc hm hacc
  show wpAny _ _ (Builtin.Tuple.tupleExact acc.toList.toArray >>= fun v => ret v) _ _ _
  unfold Builtin.Tuple.tupleExact
  refine wpAny_bind (wpAny_newObj_type ?_ (by show acc.toList.toArray.size ≤ sizeLine; simp only [Array.toArray_toList]; rw [hacc.1]; exact hsz))
  refine wpAny_pure ?_
  have e : acc.toList.toArray = acc := by simp
  rw [e]
  exact h s' acc hm hacc
theorem call_tuple_map {Q : Value → Shared → Prop} (W : WalksS prog w A.in1.in1.in1 I fp wr G n P St) (hT : ∀ i s, St i s → s.TypeIs (.ref I) "map") (hst : St 0 s) (hfp : ∀ b ∈ fp, b < s.heap.objs.size) (hI : I ∈ fp)
    (hQ : ∀ s' acc, Moved wr G s s' → ItemsOf P acc n → Q (.ref s'.heap.objs.size) { s' with heap := s'.heap.push { cls := .type "tuple", data := .seq acc } }) (hsz : n ≤ sizeLine) :
    wpAny (model prog w) A (call (.type "tuple") [.ref I]) Q E s := by
  refine callType_codes (Q₁ := fun obj s₁ => s₁.TypeIs obj "tuple" ∧ Q obj s₁) F.called_tuple (F.typeCall_tuple_1 _) F.entry_object_init
    (code_tuple_new_map (hsz := hsz) W hT hst hfp hI fun s' acc hm hacc => ⟨⟨_, Heap.get?_push_size _ rfl, rfl⟩, hQ s' acc hm hacc⟩) fun obj s₁ h₁ => ?_
  exact ⟨h₁.1, F.args_object_init_2 obj _, object_init_meets F.called_tuple.init.lookup F.called_tuple.made (by decide) prog w A.in1 _ s₁ ⟨h₁.1, rfl, h₁.2⟩⟩
end

section
variable {w : World} {mean : ExcName → Option Value} {mg mb : Str → Option Value} {b g : Heap} {A : Around} {s : Shared} {L : Addr} {m : Str → Option Value} {prog : Program} {news : List (Addr × Obj)} {E : Value → Shared → Prop}
structure MapAt (g : Heap) (L : Addr) (news : List (Addr × Obj)) (f : Value) (l : Addr) (z TI it : Addr) (h : Heap) : Prop where
  z1 : h.get? z = some (mapObj TI f)
  t1 : h.get? TI = some (oneTup (.ref it))
  i1 : h.IsListIter it l 0
  gi : g.get? it = none
  iL : it ≠ L
  zi : z ≠ it
  Ti : TI ≠ it
  li : l ≠ it
  ni : ∀ p ∈ news, p.1 ≠ it
theorem mapN {f : Value} {l : Addr} {items : Array Value} {Q : Value → Shared → Prop} (F : Fr g L s.heap m) (N : News g L s.heap news) (hl : g.IsList l items)
    (h : ∀ h' z TI it, Fr g L h' m → News g L h' news → MapAt g L news f l z TI it h' → Q (.ref z) { s with heap := h' }) : wpAny (model prog w) A (call (.type "map") [f, .ref l]) Q E s := by
  have hl' := F.lst hl
  refine call_map hl' fun h' g3 g2 g1 _ hk => ?_
  obtain ⟨F', N'⟩ := after_ext F N hk
  obtain ⟨oL, _, _, hL, _⟩ := F.ns
  obtain ⟨ol, hol, _⟩ := hl'
  refine h h' _ _ _ F' N' ⟨g3, g2, g1, ?_, fun e => ?_, neN (by (first | lia | omega)), neN (by (first | lia | omega)), fun e => ?_, fun p hp e => ?_⟩
  · cases q : g.get? s.heap.objs.size with
    | none => rfl
    | some o => exact absurd (Heap.lt_size (F.keep _ _ q)) (Nat.lt_irrefl _)
  · exact absurd (e ▸ Heap.lt_size hL) (Nat.lt_irrefl _)
  · exact absurd (e ▸ Heap.lt_size hol) (Nat.lt_irrefl _)
  · exact absurd (e ▸ Heap.lt_size (N p hp).1) (Nat.lt_irrefl _)
theorem items_all {items acc : Array Value} (h : ItemsOf (fun i v => items[i]? = some v) acc items.size) : acc = items := by
  refine Array.ext h.1 fun i h1 h2 => ?_
  have := h.2 i acc[i] (by simp)
  simp [h2] at this
  exact this.symm
theorem tupleMapN {l z TI it : Addr} {items : Array Value} {Q : Value → Shared → Prop} (F : Fr g L s.heap m) (N : News g L s.heap news) (X : (hd.heap_39 w.params).In g) (T : Top hd.view_39 (looseW hd.view_39 []) mean mg mb g)
    (hh : A.handled = none) (hroom : A.depth + 10 < recursionLimit) (hu : A.units + 420 < cLine) (M : MapAt g L news (.ref 129) l z TI it s.heap) (hl : g.IsList l items)
    (hstr : ∀ (i : Nat) v, items[i]? = some v → ∃ x t, v = .str x t) (hsz : items.size ≤ 1000)
    (h : ∀ h' tk a, Fr g L h' m → News g L h' ((a, { cls := .type "tuple", data := .seq items }) :: news) → Q (.ref a) { s with heap := h', toks := tk }) :
    wpAny (model PySem.Challenge.rw_pd0047_01.row.prog w) A (call (.type "tuple") [.ref z]) Q E s := by
  have W := walks_map (A := A.in1.in1.in1) (items := items) (by exact hh) (by exact hroom) (by show A.units + 1 + 1 + 1 + _ < _; (first | lia | omega)) X T M.zi M.Ti M.li M.gi hstr
  have lt : ∀ a o, s.heap.get? a = some o → a < s.heap.objs.size := fun a o e => Heap.lt_size e
  obtain ⟨ol, hol, _⟩ := F.lst hl
  obtain ⟨oi, hoi, _⟩ := M.i1
  have hgs : ∀ a, a < g.objs.size → a < s.heap.objs.size := fun a ha => Nat.lt_of_lt_of_le ha (Nat.le_of_lt (Nat.lt_of_le_of_lt F.above (F.ns.lt)))
  refine call_tuple_map W.toS (fun i s' st => ⟨_, st.1, rfl⟩) ⟨M.z1, M.t1, M.i1, F.lst hl, F.keep⟩ (fun a ha => ?_) (by simp) (fun s' acc hm hacc => ?_) (by rw [sizeLine_eq]; (first | lia | omega))
  · simp only [List.mem_cons, List.mem_range] at ha
    rcases ha with rfl | rfl | rfl | rfl | ha
    · exact lt _ _ M.z1
    · exact lt _ _ M.t1
    · exact lt _ _ hoi
    · exact lt _ _ hol
    · exact hgs _ ha
  · have e := items_all hacc
    subst e
    have hk : ∀ a o, a ≠ it → s.heap.get? a = some o → s'.heap.get? a = some o := fun a o ha q => hm.heap a o (by simpa using ha) q
    have F1 : Fr g L s'.heap m := ⟨F.ns.at' fun o q => hk L o M.iL.symm q, fun a o q => hk a o (fun z => by rw [z, M.gi] at q; cases q) (F.keep a o q), F.above⟩
    have N1 : News g L s'.heap news := fun p hp => ⟨hk _ _ (M.ni p hp) (N p hp).1, (N p hp).2⟩
    have q := h _ s'.toks s'.heap.objs.size (F1.push { cls := .type "tuple", data := .seq acc }) (N1.push F1 { cls := .type "tuple", data := .seq acc })
    have e1 := hm.gens
    have e2 := hm.drawn
    have e3 := hm.os
    obtain ⟨hp', g', d', t', o'⟩ := s'
    dsimp only at e1 e2 e3 q ⊢
    subst e1 e2 e3
    exact q
end

section
variable {prog : Program} {w : World} {K : Frag} {p : Program} {loose : List Str} {mean : ExcName → Option Value} {mg mb : Str → Option Value} {b : Heap} {A : Around} {s : Shared}
/-- entering a def of the text that has cells; all that lives stays -/
theorem enterC {R : Result → Shared → Prop} {name qual : Str} {params : Arguments} {body : List Stmt} {scope : Scope} {dV kV doc pm cdv ct oc : Value} {an od : Option Addr} {osl : Array (Option Value)} {f : Addr} {args : Args}
    (binds : List (Str × Value)) (X : K.In b) (T : Top p loose mean mg mb b) (hb : ∀ x o, b.get? x = some o → s.heap.get? x = some o)
    (ho : K.lookup f = some ⟨oc, od, .func (fnOf name qual params body scope dV kV doc pm an cdv ct), osl⟩) (hcd : codeIn K cdv qual = true) (hroom : A.depth < recursionLimit)
    (hbind : BindsTo s (fnOf name qual params body scope dV kV doc pm an cdv ct) args binds) (hkind : (binds.all fun y => scope.names.lookup y.1 == some .local || scope.names.lookup y.1 == some .cell) = true)
    (hnd : ((cellsFrom 0 scope.names []).map (·.1)).Nodup)
    (h : ∀ L' h₁ tk cells, K.In s.heap → Top p loose mean mg mb s.heap → Fr s.heap L' h₁ (bindL (envOfC qual scope L' f cdv).kindOf binds fun _ => none) → News s.heap L' h₁ cells →
      CellsAre (bindC (envOfC qual scope L' f cdv).kindOf binds fun _ => none) (cellsFrom (L' + 1) scope.names []) cells →
      wpAny (model prog w) (A.deeper (envOfC qual scope L' f cdv)) (execs body (envOfC qual scope L' f cdv))
        (fun fl s' => R (.ok (.ret (match fl with | .ret v => v | _ => .none))) s') NoE { s with heap := h₁, toks := tk })
    (hco : scope.isCoroutine = false) (hgen : scope.isGenerator = false) (hk : scope.kind = .function) : codeAny (model prog w) A (.call (.ref f) args) R s := by
  have X' : K.In s.heap := X.keeps hb
  have T' := T.keeps hb
  refine codeAny_call_function (fd := fnOf name qual params body scope dV kV doc pm an cdv ct) hroom (X' _ _ ho) rfl hco hgen rfl (codeRec_of X' hcd) (hbind _ _ _ _ ?_)
  refine wpAny_newFunctionEnv_cells hk (kindsX hkind _) fun env' he s' x => ?_
  subst he
  refine ⟨T'.nolimit.keeps x.toInCall.keep, codeAny_func ?_⟩
  obtain ⟨h₁, tk, rfl, _⟩ := x.done
  have hk₁ := x.toInCall.keep
  obtain ⟨cells, NC, Y⟩ := Cl.news (h₀ := s.heap) (Nat.le_refl _) fun n c hm => ⟨x.cell n c (lookup_of_mem_nodup (cellsFrom_names scope.names 0 (s.heap.objs.size + 1) [] [] rfl ▸ hnd) hm), x.above n c hm⟩
  exact wpAny_mono (h s.heap.objs.size h₁ tk cells X' T' ⟨x.toInCall.ns, hk₁, Nat.le_refl _⟩ NC Y) (fun _ _ x => x) (fun _ _ x => x.elim)

theorem tryQ {env : Env} {body : List Stmt} {h₀ : ExceptHandler} {hs : List ExceptHandler} {pos : Pos} {Q : Flow → Shared → Prop} (h : wpAny (model prog w) A (execs body env) Q NoE s) :
    wpAny (model prog w) A (exec (.Try body (h₀ :: hs) [] [] pos) env) Q NoE s := by
  refine wpAny_Try_except (wpAny_mono h (fun f s₁ h₁ => ?_) fun _ _ e => e.elim)
  cases f <;> first | exact h₁ | exact wpAny_execs_nil h₁
end

section
variable {prog : Program} {w : World} {A : Around} {s : Shared} {env : Env}
/-- what an element's evaluation hands back: all that lived lives on; the new objects that tell of it -/
noncomputable def KeepsBut (C : Addr) (s s' : Shared) : Prop := ∃ h' tk m', s' = { s with heap := h', toks := tk } ∧ h'.Ns C m' ∧ ∀ b o, b ≠ C → s.heap.get? b = some o → h'.get? b = some o
noncomputable def EltQ (R : List (Addr × Obj) → Value → Value → Prop) (C : Addr) (s₃ : Shared) (v y : Value) (s₄ : Shared) : Prop :=
  KeepsBut C s₃ s₄ ∧ ∃ new : List (Addr × Obj), (∀ p ∈ new, s₄.heap.get? p.1 = some p.2 ∧ s₃.heap.get? p.1 = none) ∧ R new v y
structure CompIn (prog : Program) (w : World) (A : Around) (env : Env) (scope : Scope) (cl : List (Str × Addr)) (x : Str) (ifs : List Expr) (elt : Expr) (I : Addr) (P : Nat → Value → Prop) (p : Value → Bool) (R : List (Addr × Obj) → Value → Value → Prop) (s₂ : Shared) : Prop where
  tests : ∀ C i v s₃ m₃, s₂.heap.objs.size ≤ C → P i v → s₃.heap.Ns C m₃ → m₃ x = some v → (∀ b o, b ≠ I → s₂.heap.get? b = some o → s₃.heap.get? b = some o) →
    wpAny (model prog w) A (forIn ifs true fun c r => if r = true then do let ok ← isTrue c (compEnvC scope cl C env) (eval c (compEnvC scope cl C env)); pure (ForInStep.yield ok) else pure (ForInStep.yield r))
      (fun ok s₄ => ok = p v ∧ KeepsBut C s₃ s₄ ∧ ∃ m', s₄.heap.Ns C m' ∧ m' x = some v) NoE s₃
  elt : ∀ C i v s₃ m₃, s₂.heap.objs.size ≤ C → P i v → p v = true → s₃.heap.Ns C m₃ → m₃ x = some v → (∀ b o, b ≠ I → s₂.heap.get? b = some o → s₃.heap.get? b = some o) →
    wpAny (model prog w) A (eval elt (compEnvC scope cl C env)) (EltQ R C s₃ v) NoE s₃
theorem pairedMono {α β : Type} {F G : α → β → Prop} (h : ∀ a b, F a b → G a b) : ∀ {l₁ : List α} {l₂ : List β}, Paired F l₁ l₂ → Paired G l₁ l₂
  | _, _, .nil => .nil
  | _, _, .cons a b => .cons (h _ _ a) (pairedMono h b)
theorem pairedLen {α β : Type} {F : α → β → Prop} : ∀ {l₁ : List α} {l₂ : List β}, Paired F l₁ l₂ → l₁.length = l₂.length
  | _, _, .nil => rfl
  | _, _, .cons _ b => congrArg (· + 1) (pairedLen b)

inductive CompSt (s₂ : Shared) (St : Nat → Heap → Prop) (n : Nat) (P : Nat → Value → Prop) (p : Value → Bool) (R : List (Addr × Obj) → Value → Value → Prop) (D C I : Addr) (k : Nat) (s' : Shared) : Prop
  | mk (h' : Heap) (tk : Nat) (m' : Str → Option Value) (ys : Array Value) (kk : Nat) (B : List (Addr × Obj)) (vs : List Value) (e : s' = { s₂ with heap := h', toks := tk }) (hst : St vs.length h') (hD : h'.get? D = some (listOf ys kk)) (hn : h'.Ns C m') (hP : ∀ j v, vs[j]? = some v → P j v)
    (hF : Paired (R B) (vs.filter p) ys.toList) (hi : vs.length ≤ n) (hk0 : k = n + 1 - vs.length) (hB : ∀ q ∈ B, h'.get? q.1 = some q.2 ∧ s₂.heap.get? q.1 = none ∧ q.1 ≠ C ∧ q.1 ≠ D) (hk : ∀ b o, b ≠ I → s₂.heap.get? b = some o → h'.get? b = some o)
theorem comp_core {elt iter : Expr} {x : Str} {px : Pos} {ifs : List Expr} {scope : Scope} {cl : List (Str × Addr)} {pos : Pos} {s₂ : Shared} {I : Addr} {fp : List Addr} {n : Nat} {P : Nat → Value → Prop}
    {St : Nat → Heap → Prop} (W : Walks prog w A I fp [I] n P St) (hsz : n ≤ 100000) (p : Value → Bool) (R : List (Addr × Obj) → Value → Value → Prop) {RR : Value → Addr → Result → Shared → Prop}
    (hmono : ∀ B B' v y, (∀ q ∈ B, q ∈ B') → R B v y → R B' v y)
    (hcell : ∀ y ∈ scope.names, y.2 ≠ .cell) (hkind : scope.kind = .function) (hx : scope.names.lookup x = some .local) (hst : St 0 s₂.heap) (hfp : ∀ b ∈ fp, b < s₂.heap.objs.size) (hStI : ∀ i h, St i h → ∃ o, h.get? I = some o)
    (hq : CompIn prog w A env scope cl x ifs elt I P p R s₂)
    (hRR : ∀ D C h' tk m' ys k (vs : List Value) B, s₂.heap.get? D = none → s₂.heap.get? C = none → D ≠ C → h'.Ns C m' → h'.get? D = some (listOf ys k) → vs.length = n → (∀ j v, vs[j]? = some v → P j v) → Paired (R B) (vs.filter p) ys.toList →
      (∀ q ∈ B, h'.get? q.1 = some q.2 ∧ s₂.heap.get? q.1 = none ∧ q.1 ≠ C ∧ q.1 ≠ D) → (∀ b o, b ≠ I → s₂.heap.get? b = some o → h'.get? b = some o) → RR (.ref D) C (.ok .next) { s₂ with heap := h', toks := tk }) :
    wpAny (model prog w) A (newList []) (fun acc s₃ => wpAny (model prog w) A (newFunctionEnv scope env.globals cl [] env.qual none .none (some env)) (fun cenv s₄ =>
      codeAny (model prog w) A (.compStart (.ListComp elt [⟨.Name x px, iter, ifs, 0⟩] scope pos) 0 (.ref I) acc { cenv with scope := relabel scope env }) (RR acc cenv.locals) s₄) NoE s₃) NoE s₂ := by
  refine wpAny_newObj_type (wpAny_newFunctionEnv hcell (by intro y hy; simp at hy) (fun h₁ hns₁ hsb₁ => ?_) hkind)
  dsimp only at hns₁ hsb₁ ⊢
  generalize hH2 : s₂.heap.push { cls := .type "list", dict := none, data := .seq ([] : List Value).toArray } = H2 at hns₁ hsb₁ ⊢
  have hC : H2.objs.size = s₂.heap.objs.size + 1 := by rw [← hH2, Heap.size_push]
  have hDC : s₂.heap.objs.size ≠ H2.objs.size := by rw [hC]; exact Nat.ne_of_lt (Nat.lt_succ_self _)
  have hCle : s₂.heap.objs.size ≤ H2.objs.size := by rw [hC]; exact Nat.le_succ _
  have below : ∀ b, b < s₂.heap.objs.size → b ≠ H2.objs.size ∧ b ≠ s₂.heap.objs.size := fun b hb => ⟨by rw [hC]; exact Nat.ne_of_lt (Nat.lt_succ_of_lt hb), Nat.ne_of_lt hb⟩
  have hDf : s₂.heap.objs.size ∉ fp := fun hm => Nat.lt_irrefl _ (hfp _ hm)
  have hCf : H2.objs.size ∉ fp := fun hm => by have := hfp _ hm; rw [hC] at this; exact Nat.lt_irrefl _ (Nat.lt_of_succ_lt this)
  have hIf : I ∈ fp := W.sub I (List.mem_singleton.mpr rfl)
  have hIlt : I < s₂.heap.objs.size := hfp I hIf
  have old : ∀ b o, s₂.heap.get? b = some o → h₁.get? b = some o := fun b o e => hsb₁.extBut b o (below b (Heap.lt_size e)).1 (Heap.get?_push_of_some _ (hH2 ▸ Heap.get?_push_of_some _ e))
  have hacc : h₁.get? s₂.heap.objs.size = some (listOf #[] 0) := hsb₁.extBut _ _ hDC (Heap.get?_push_of_some _ (hH2 ▸ Heap.get?_push_size _ rfl))
  have hst₁ : St 0 h₁ := W.frame _ _ _ hst fun b _ o e => old b o e
  have fresh : ∀ a, s₂.heap.objs.size ≤ a → s₂.heap.get? a = none := fun a ha => by
    cases e : s₂.heap.get? a with
    | none => rfl
    | some o' => exact absurd (Heap.lt_size e) (Nat.not_lt.mpr ha)
  have hI0 := hStI _ _ hst
  have hCI : I ≠ H2.objs.size := (below I hIlt).1
  have hDI : I ≠ s₂.heap.objs.size := (below I hIlt).2
  have loop : ∀ s₃ : Shared, s₃ = { s₂ with heap := h₁, toks := s₂.toks + ([] : List (Str × Value)).length } →
      codeAny (model prog w) A (.compLoop (.ListComp elt [⟨.Name x px, iter, ifs, 0⟩] scope pos) 0 (.ref I) (.ref s₂.heap.objs.size) (compEnvC scope cl H2.objs.size env))
        (RR (.ref s₂.heap.objs.size) H2.objs.size) s₃ := by
    rintro s₃ rfl
    refine codeAny_compLoop_tests
      (CompSt s₂ St n P p R s₂.heap.objs.size H2.objs.size I) ?_ (n + 1)
      ⟨h₁, _, _, #[], 0, [], [], rfl, hst₁, hacc, hns₁, by simp, by simpa using Paired.nil, Nat.zero_le _, rfl, (fun _ h => nomatch h), fun b o _ e => old b o e⟩
    rintro k s' ⟨h', tk, m', ys, kk, B, vs, rfl, hst', hD', hn', hP, hF, hi, rfl, hB, hk⟩
    by_cases hlt : vs.length < n
    · refine W.item vs.length _ _ _ hlt hst' fun v h₂ tk₂ hPv hst₂ hk₂ => ?_
      have hk₂' : ∀ b o, b ≠ I → h'.get? b = some o → h₂.get? b = some o := fun b o hb e => hk₂ b o (by simpa using hb) e
      refine wpAny_assign_Name (wpAny_storeName_local (lookup_relabel_local hx) (hn'.at' fun o e => hk₂' _ o (Ne.symm hCI) e) (fun h₃ hn₃ hs₃ => ?_) (by simp [compEnvC, relabel, hkind]))
      have hs3 : ∀ b o, b ≠ H2.objs.size → h₂.get? b = some o → h₃.get? b = some o := fun b o hb e => hs₃.extBut b o hb e
      have hk3 : ∀ b o, b ≠ I → s₂.heap.get? b = some o → h₃.get? b = some o := fun b o hb e => hs3 b o (below b (Heap.lt_size e)).1 (hk₂' b o hb (hk b o hb e))
      have hst₃ : St (vs.length + 1) h₃ := W.frame _ _ _ hst₂ fun b hb o e => hs3 b o (fun q => hCf (by rw [← q]; exact hb)) e
      have hD₃ : h₃.get? s₂.heap.objs.size = some (listOf ys kk) := hs3 _ _ hDC (hk₂' _ _ (Ne.symm hDI) hD')
      have hBI : ∀ q ∈ B, q.1 ≠ I := fun q hq z => by
        obtain ⟨o, ho⟩ := hI0
        have := (hB q hq).2.1; rw [z, ho] at this; cases this
      have hB₃ : ∀ q ∈ B, h₃.get? q.1 = some q.2 := fun q hq => hs3 _ _ (hB q hq).2.2.1 (hk₂' _ _ (hBI q hq) (hB q hq).1)
      have hvv : ∀ j u, (vs ++ [v])[j]? = some u → P j u := fun j u e => by
        rw [List.getElem?_append] at e
        split at e
        · exact hP j u e
        · rename_i hj
          have : j = vs.length := by
            rw [List.getElem?_singleton] at e
            split at e
            · (first | lia | omega)
            · cases e
          subst this
          simp at e; rw [← e]; exact hPv
      refine wpAny_mono (hq.tests _ _ v { s₂ with heap := h₃, toks := _ } _ hCle hPv hn₃ (by simp) hk3) (fun ok s₄ h₄ => ?_) fun _ _ e => e.elim
      obtain ⟨rfl, ⟨h₄', tk₄, _, rfl, _, hk₄⟩, m₄, hn₄, hm₄⟩ := h₄
      replace hn₄ : h₄'.Ns H2.objs.size m₄ := hn₄
      replace hk₄ : ∀ b o, b ≠ H2.objs.size → h₃.get? b = some o → h₄'.get? b = some o := hk₄
      have nC : ∀ b o, s₂.heap.get? b = some o → b ≠ H2.objs.size := fun b o e => (below b (Heap.lt_size e)).1
      have hD₄ : h₄'.get? s₂.heap.objs.size = some (listOf ys kk) := hk₄ _ _ hDC hD₃
      by_cases hpv : p v = true
      · rw [if_pos hpv]
        refine wpAny_mono (hq.elt _ _ v { s₂ with heap := h₄', toks := tk₄ } m₄ hCle hPv hpv hn₄ hm₄ (fun b o hb e => hk₄ _ _ (nC b o e) (hk3 b o hb e))) (fun y s₅ h₅ => ?_) fun _ _ e => e.elim
        obtain ⟨⟨h₅', tk₅, m₅, rfl, hn₅, hk₅⟩, new, hnew, hR⟩ := h₅
        replace hk₅ : ∀ b o, b ≠ H2.objs.size → h₄'.get? b = some o → h₅'.get? b = some o := hk₅
        have hlen := pairedLen hF
        refine append_at (hsz := by
          rw [sizeLine_eq]
          have := List.length_filter_le p vs
          rw [← Array.length_toList]; (first | lia | omega)) (hk₅ _ _ hDC hD₄) fun h₆ hs₆ hD₆ => ?_
        have hs6 : ∀ b o, b ≠ s₂.heap.objs.size → h₅'.get? b = some o → h₆.get? b = some o := fun b o hb e => hs₆.extBut b o hb e
        have hnw : ∀ q ∈ new, h₆.get? q.1 = some q.2 ∧ s₂.heap.get? q.1 = none ∧ q.1 ≠ H2.objs.size ∧ q.1 ≠ s₂.heap.objs.size := fun q hq => by
          have z := hnew q hq
          obtain ⟨oC, _, _, hoC, _⟩ := hn₄
          have z2 : h₄'.get? q.1 = none := z.2
          have zD : q.1 ≠ s₂.heap.objs.size := fun e => by rw [e, hD₄] at z2; cases z2
          have zC : q.1 ≠ H2.objs.size := fun e => by rw [e, hoC] at z2; cases z2
          refine ⟨hs6 _ _ zD z.1, ?_, zC, zD⟩
          cases e : s₂.heap.get? q.1 with
          | none => rfl
          | some o =>
            by_cases hqI : q.1 = I
            · obtain ⟨o', ho'⟩ := hStI _ _ hst₃
              rw [hqI, hk₄ _ _ hCI ho'] at z2; cases z2
            · rw [hk₄ _ _ (nC _ _ e) (hk3 _ _ hqI e)] at z2; cases z2
        refine ⟨n + 1 - (vs ++ [v]).length, by simp; (first | lia | omega), h₆, tk₅, _, ys.push y, kk + 1, B ++ new, vs ++ [v], rfl, ?_, hD₆, hn₅.sameBut hs₆ (Ne.symm hDC), hvv, ?_, by simp; (first | lia | omega), rfl, ?_, ?_⟩
        · rw [List.length_append]
          exact W.frame _ _ _ hst₃ fun b hb o e => hs6 b o (fun q => hDf (by rw [← q]; exact hb)) (hk₅ _ _ (fun q => hCf (by rw [← q]; exact hb)) (hk₄ _ _ (fun q => hCf (by rw [← q]; exact hb)) e))
        · rw [List.filter_append, Array.toList_push]
          have : List.filter p [v] = [v] := by simp [hpv]
          rw [this]
          exact Paired.snoc (pairedMono (fun a b h => hmono _ _ _ _ (fun q hq => List.mem_append_left _ hq) h) hF) (hmono _ _ _ _ (fun q hq => List.mem_append_right _ hq) hR)
        · intro q hq
          rcases List.mem_append.mp hq with hq | hq
          · exact ⟨hs6 _ _ (hB q hq).2.2.2 (hk₅ _ _ (hB q hq).2.2.1 (hk₄ _ _ (hB q hq).2.2.1 (hB₃ q hq))), (hB q hq).2⟩
          · exact hnw q hq
        · exact fun b o hb e => hs6 b o (below b (Heap.lt_size e)).2 (hk₅ _ _ (nC b o e) (hk₄ _ _ (nC b o e) (hk3 b o hb e)))
      · rw [if_neg hpv]
        refine ⟨n + 1 - (vs ++ [v]).length, by simp; (first | lia | omega), h₄', tk₄, _, ys, kk, B, vs ++ [v], rfl, ?_, hD₄, hn₄, hvv, ?_, by simp; (first | lia | omega), rfl, fun q hq => ⟨hk₄ _ _ (hB q hq).2.2.1 (hB₃ q hq), (hB q hq).2⟩, fun b o hb e => hk₄ _ _ (nC b o e) (hk3 b o hb e)⟩
        · rw [List.length_append]
          exact W.frame _ _ _ hst₃ fun b hb o e => hk₄ _ _ (fun q => hCf (by rw [← q]; exact hb)) e
        · rw [List.filter_append]
          have : List.filter p [v] = [] := by simp [hpv]
          rw [this, List.append_nil]; exact hF
    · have hin : vs.length = n := by (first | lia | omega)
      rw [hin] at hst'
      refine W.done _ _ _ hst' fun h₂ tk₂ hk₂ => ?_
      have hk₂' : ∀ b o, b ≠ I → h'.get? b = some o → h₂.get? b = some o := fun b o hb e => hk₂ b o (by simpa using hb) e
      have hBI : ∀ q ∈ B, q.1 ≠ I := fun q hq z => by
        obtain ⟨o, ho⟩ := hI0
        have := (hB q hq).2.1; rw [z, ho] at this; cases this
      exact hRR _ _ h₂ tk₂ _ ys kk vs B (fresh _ (Nat.le_refl _)) (fresh _ hCle) hDC (hn'.at' fun o e => hk₂' _ o (Ne.symm hCI) e) (hk₂' _ _ (Ne.symm hDI) hD') hin hP hF (fun q hq => ⟨hk₂' _ _ (hBI q hq) (hB q hq).1, (hB q hq).2⟩) fun b o hb e => hk₂' b o hb (hk b o hb e)
  exact codeAny_compStart_list (loop _ rfl) (W.self 0 _ _ _ hst₁ (loop _ rfl))
end

section
variable {prog : Program} {w : World} {A : Around} {s : Shared} {env : Env} {g : Heap} {L : Addr} {m : Str → Option Value} {news : List (Addr × Obj)}
structure CompGo (prog : Program) (w : World) (A : Around) (env : Env) (elt : Expr) (x : Str) (px : Pos) (iter : Expr) (ifs : List Expr) (scope : Scope) (cl : List (Str × Addr)) (pos : Pos) (use : Option (Value → Sem Unit)) (Q : Value → Shared → Prop) (it : Value) (s₂ : Shared) : Prop where
  out : wpAny (model prog w) A (newList []) (fun acc s₃ => wpAny (model prog w) A (newFunctionEnv scope env.globals cl [] env.qual none .none (some env)) (fun cenv s₄ =>
      codeAny (model prog w) A (.compStart (.ListComp elt [⟨.Name x px, iter, ifs, 0⟩] scope pos) 0 it acc { cenv with scope := relabel scope env }) (compPost (model prog w) A NoE use Q acc cenv.locals) s₄) NoE s₃) NoE s₂
theorem listCompE {elt iter : Expr} {x : Str} {px : Pos} {ifs : List Expr} {scope : Scope} {pos : Pos} {Q : Value → Shared → Prop} (cl : List (Str × Addr))
    (h : wpAny (model prog w) A (eval iter env) (fun xv s₁ => wpAny (model prog w) A (pyIter xv) (CompGo prog w A env elt x px iter ifs scope cl pos none Q) NoE s₁) NoE s)
    (hclos : closureFor scope env = pure cl) (hkind : scope.kind = .function)
    (hnames : ∀ y ∈ scope.names, y.2 = .local → scope.names.lookup y.1 = some .local) (hs : ∀ x, foldedSetIterable iter env x = pure x) :
    wpAny (model prog w) A (eval (.ListComp elt [⟨.Name x px, iter, ifs, 0⟩] scope pos) env) Q NoE s := by
  rw [eval_ListComp]
  exact wpAny_comprehension_free (use := none) rfl hs hclos hkind hnames (wpAny_mono h (fun xv s₁ h₁ => wpAny_mono h₁ (fun it s₂ h₂ => h₂.out) fun _ _ e => e) fun _ _ e => e)
theorem listCompA {elt iter : Expr} {x y : Str} {px py : Pos} {ifs : List Expr} {scope : Scope} {pos spos : Pos} {Q : Flow → Shared → Prop} (cl : List (Str × Addr))
    (h : wpAny (model prog w) A (eval iter env) (fun xv s₁ => wpAny (model prog w) A (pyIter xv) (CompGo prog w A env elt x px iter ifs scope cl pos (some (assign (.Name y py) env)) (fun _ s' => Q .next s')) NoE s₁) NoE s)
    (hsw : swapsWith (.ListComp elt [⟨.Name x px, iter, ifs, 0⟩] scope pos) (some (.Name y py)) spos.line env = pure true)
    (hclos : closureFor scope env = pure cl) (hkind : scope.kind = .function)
    (hnames : ∀ y ∈ scope.names, y.2 = .local → scope.names.lookup y.1 = some .local) (hs : ∀ x, foldedSetIterable iter env x = pure x) :
    wpAny (model prog w) A (exec (.Assign [.Name y py] (.ListComp elt [⟨.Name x px, iter, ifs, 0⟩] scope pos) spos) env) Q NoE s := by
  rw [exec_Assign_Name_used _ _ _ _ hsw]
  refine wpAny_bind (wpAny_standAt (wpAny_bind ?_))
  show wpAny _ A (do let _ ← comprehension (.ListComp elt [⟨.Name x px, iter, ifs, 0⟩] scope pos) scope env _ (newList []) false (eval iter env) (some (assign (.Name y py) env))) _ _ s
  refine wpAny_bind (wpAny_mono (wpAny_comprehension_free (use := some (assign (.Name y py) env)) (Q := fun _ s' => Q .next s') rfl hs hclos hkind hnames
    (wpAny_mono h (fun xv s₁ h₁ => wpAny_mono h₁ (fun it s₂ h₂ => h₂.out) fun _ _ e => e) fun _ _ e => e)) (fun _ s' hq => wpAny_pure (wpAny_pure hq)) fun _ _ e => e)

/-- a source of a comprehension -/
noncomputable def Src (prog : Program) (w : World) (A : Around) (xv : Value) (s₁ : Shared) (n : Nat) (P : Nat → Value → Prop) : Prop :=
  ∀ Q : Value → Shared → Prop, (∀ I fp St h₂, Walks prog w A I fp [I] n P St → (∀ i h, St i h → ∃ o, h.get? I = some o) → St 0 h₂ → (∀ b ∈ fp, b < h₂.objs.size) → s₁.heap.get? I = none →
    (∀ a o, s₁.heap.get? a = some o → h₂.get? a = some o) → Q (.ref I) { s₁ with heap := h₂ }) → wpAny (model prog w) A (pyIter xv) Q NoE s₁
theorem Src.list {ax : Addr} {items : Array Value} (hh : A.handled = none) (hl : s.heap.IsList ax items) : Src prog w A (.ref ax) s items.size (fun i v => items[i]? = some v) := fun Q hQ => by
  obtain ⟨o, ho, r⟩ := id hl
  have hlt := Heap.lt_size ho
  have hne : ax ≠ s.heap.objs.size := Nat.ne_of_lt hlt
  refine wpAny_pyIter_list hl (hQ s.heap.objs.size _ _ _ (Walks.list hh s.heap.objs.size ax hne items) (fun i h st => let ⟨o, ho, _⟩ := st.1; ⟨o, ho⟩) ⟨⟨_, Heap.get?_push_size _ rfl, rfl, rfl⟩, hl.push _⟩ (fun b hb => ?_) (Heap.get?_none_of_le (Nat.le_refl _)) fun a o e => Heap.get?_push_of_some _ e)
  rw [Heap.size_push]
  simp only [List.mem_cons, List.not_mem_nil, or_false] at hb
  rcases hb with rfl | rfl
  · exact Nat.lt_succ_self _
  · exact Nat.lt_succ_of_lt hlt
/-- all that lives besides the base and one frame -/
noncomputable def allOf (g : Heap) (C : Addr) (h : Heap) : List (Addr × Obj) := (List.range h.objs.size).filterMap fun a => if a = C ∨ (g.get? a).isSome then none else (h.get? a).map fun o => (a, o)
theorem mem_allOf {g h : Heap} {C a : Addr} {o : Obj} : (a, o) ∈ allOf g C h ↔ h.get? a = some o ∧ a ≠ C ∧ g.get? a = none := by
  unfold allOf
  rw [List.mem_filterMap]
  constructor
  · rintro ⟨b, _, e⟩
    split at e
    · cases e
    · rename_i hb
      cases q : h.get? b with
      | none => rw [q] at e; cases e
      | some o' =>
        rw [q] at e
        cases e
        refine ⟨q, fun z => hb (.inl z), ?_⟩
        cases z : g.get? a with
        | none => rfl
        | some _ => exact absurd (.inr (by rw [z]; rfl)) hb
  · rintro ⟨h1, h2, h3⟩
    refine ⟨a, List.mem_range.mpr (Heap.lt_size h1), ?_⟩
    rw [if_neg (by rw [h3]; simp; exact h2), h1]; rfl
theorem news_allOf {g h : Heap} {C : Addr} : News g C h (allOf g C h) := fun p hp => by
  have := mem_allOf.mp (show (p.1, p.2) ∈ allOf g C h from hp)
  exact ⟨this.1, this.2.1, this.2.2⟩
theorem keepsBut_of {C : Addr} {s₃ : Shared} {h' : Heap} {tk : Nat} {m' : Str → Option Value} {led : List (Addr × Obj)} (hk : ∀ a o, g.get? a = some o → s₃.heap.get? a = some o) (F : Fr g C h' m') (N : News g C h' led) (hl : ∀ p ∈ allOf g C s₃.heap, p ∈ led) : KeepsBut C s₃ { s₃ with heap := h', toks := tk } := by
  refine ⟨h', tk, m', rfl, F.ns, fun b o hb e => ?_⟩
  cases q : g.get? b with
  | none => exact (N _ (hl _ (mem_allOf.mpr ⟨e, hb, q⟩))).1
  | some o' =>
    have := hk b o' q
    rw [e] at this; cases this
    exact F.keep b _ q
theorem compFr {C I : Addr} {s₁ s₂ s₃ : Shared} {m₃ : Str → Option Value} (F : Fr g L s₁.heap m) (N : News g L s₁.heap news) (hI : s₁.heap.get? I = none) (hk : ∀ a o, s₁.heap.get? a = some o → s₂.heap.get? a = some o) (hC : s₂.heap.objs.size ≤ C)
    (hn : s₃.heap.Ns C m₃) (hk3 : ∀ b o, b ≠ I → s₂.heap.get? b = some o → s₃.heap.get? b = some o) : Fr g C s₃.heap m₃ ∧ News g C s₃.heap news ∧ (∀ p ∈ news, p.1 < C) := by
  have nI : ∀ a o, s₁.heap.get? a = some o → a ≠ I := fun a o e z => by rw [z, hI] at e; cases e
  have lt : ∀ a o, s₁.heap.get? a = some o → a < C := fun a o e => Nat.lt_of_lt_of_le (Heap.lt_size (hk a o e)) hC
  refine ⟨⟨hn, fun b o e => hk3 b o (nI b o (F.keep b o e)) (hk b o (F.keep b o e)), ?_⟩, fun p hp => ⟨hk3 _ _ (nI _ _ (N p hp).1) (hk _ _ (N p hp).1), Nat.ne_of_lt (lt _ _ (N p hp).1), (N p hp).2.2⟩, fun p hp => lt _ _ (N p hp).1⟩
  obtain ⟨oL, _, _, hL, _⟩ := F.ns
  exact Nat.le_trans F.above (Nat.le_of_lt (lt L oL hL))

theorem Src.tuple {ax : Addr} {items : Array Value} (hh : A.handled = none) (hl : s.heap.IsTuple ax items) : Src prog w A (.ref ax) s items.size (fun i v => items[i]? = some v) := fun Q hQ => by
  have hlt : ax < s.heap.objs.size := let ⟨_, ho, _⟩ := hl.typeIs; Heap.lt_size ho
  have hne : ax ≠ s.heap.objs.size := Nat.ne_of_lt hlt
  refine wpAny_pyIter_tuple hl (hQ s.heap.objs.size _ _ _ (Walks.tuple hh s.heap.objs.size ax hne items) (fun i h st => let ⟨o, ho, _⟩ := st.1; ⟨o, ho⟩) ⟨⟨_, Heap.get?_push_size _ rfl, rfl, rfl⟩, hl.push _⟩ (fun b hb => ?_) (Heap.get?_none_of_le (Nat.le_refl _)) fun a o e => Heap.get?_push_of_some _ e)
  rw [Heap.size_push]
  simp only [List.mem_cons, List.not_mem_nil, or_false] at hb
  rcases hb with rfl | rfl
  · exact Nat.lt_succ_self _
  · exact Nat.lt_succ_of_lt hlt
theorem small_range {k : Nat} (hk : k ≤ 1000000) : Builtin.Range.small 0 (k : Int) 1 = true ∧ Builtin.Range.rangeSize 0 (k : Int) 1 = (k : Int) := by
  have hz : Builtin.Range.rangeSize 0 (k : Int) 1 = (k : Int) := by
    unfold Builtin.Range.rangeSize
    rw [if_pos (by decide)]
    split
    · rw [Int.ediv_one]; (first | lia | omega)
    · (first | lia | omega)
  refine ⟨?_, hz⟩
  unfold Builtin.Range.small
  rw [hz]
  have h1 : Builtin.Range.rangeFitsLong (k : Int) = true := by
    unfold Builtin.Range.rangeFitsLong
    simp only [Bool.and_eq_true, decide_eq_true_eq]; (first | lia | omega)
  have h2 : Builtin.Range.rangeFitsLong ((k : Int) + (1 - 1)) = true := by
    rw [show (k : Int) + (1 - 1) = k from by (first | lia | omega)]; exact h1
  rw [h1, if_pos (by decide), h2]
  simp [Builtin.Range.rangeFitsLong]
theorem Src.range {r : Addr} {k : Nat} {t u v : Tok} (hh : A.handled = none) (hr : IsRange s.heap r 0 (k : Int) 1 t u v) (hk : k ≤ 1000000) : Src prog w A (.ref r) s k (fun i v => ∃ t, v = .int (i : Int) t) := fun Q hQ => by
  obtain ⟨h1, h2⟩ := small_range hk
  have W := LCg.range_walks (prog := prog) (w := w) (I := s.heap.objs.size) hh 0 k
  have W' : Walks prog w A s.heap.objs.size [s.heap.objs.size] [s.heap.objs.size] k (fun i v => ∃ t, v = .int (i : Int) t) (fun i h => IsRangeIter h s.heap.objs.size (0 + (i : Nat) * 1) ((k : Int) - (i : Nat)) 1) :=
    { sub := W.sub, frame := W.frame, done := W.done, self := W.self,
      item := fun i s Q E hi st hQ => W.item i s Q E hi st fun v h' tk hP => hQ v h' tk (by obtain ⟨t, rfl⟩ := hP; exact ⟨t, by rw [Int.zero_add]⟩) }
  refine wpAny_pyIter_range hr h1 (hQ _ _ _ _ W' (fun i h st => ⟨_, st⟩) ?_ (fun b hb => ?_) (Heap.get?_none_of_le (Nat.le_refl _)) fun a o e => Heap.get?_push_of_some _ e)
  · rw [h2]
    show IsRangeIter _ _ _ _ _
    have e1 : (0 : Int) + ((0 : Nat) : Int) * 1 = 0 := by (first | lia | omega)
    have e2 : (k : Int) - ((0 : Nat) : Int) = k := by (first | lia | omega)
    rw [e1, e2]; exact Heap.get?_push_size _ rfl
  · rw [Heap.size_push]
    simp only [List.mem_cons, List.not_mem_nil, or_false] at hb
    rw [hb]; exact Nat.lt_succ_self _

/-- what a comprehension leaves -/
structure CompOut (g : Heap) (L : Addr) (news : List (Addr × Obj)) (h : Heap) (D : Addr) (ys : List Value) (k : Nat) (B : List (Addr × Obj)) (old : Heap) : Prop where
  N : News g L h ((D, listOf ys.toArray k) :: (B ++ news))
  BD : ∀ q ∈ B, q.1 ≠ D
  nD : ∀ q ∈ news, q.1 ≠ D
  Bn : ∀ q ∈ B, ∀ r ∈ news, q.1 ≠ r.1
  oD : old.get? D = none
  oB : ∀ q ∈ B, old.get? q.1 = none
structure CompBody (prog : Program) (w : World) (A : Around) (env : Env) (scope : Scope) (cl : List (Str × Addr)) (x : Str) (ifs : List Expr) (elt : Expr) (P : Nat → Value → Prop) (p : Value → Bool) (R : List (Addr × Obj) → Value → Value → Prop) (g : Heap) (news : List (Addr × Obj)) : Prop where
  tests : ∀ C i v s₃ m₃, P i v → Fr g C s₃.heap m₃ → m₃ x = some v → News g C s₃.heap (news ++ allOf g C s₃.heap) →
    wpAny (model prog w) A (forIn ifs true fun c r => if r = true then do let ok ← isTrue c (compEnvC scope cl C env) (eval c (compEnvC scope cl C env)); pure (ForInStep.yield ok) else pure (ForInStep.yield r))
      (fun ok s₄ => ok = p v ∧ KeepsBut C s₃ s₄ ∧ ∃ m', s₄.heap.Ns C m' ∧ m' x = some v) NoE s₃
  elt : ∀ C i v s₃ m₃, P i v → p v = true → Fr g C s₃.heap m₃ → m₃ x = some v → News g C s₃.heap (news ++ allOf g C s₃.heap) →
    wpAny (model prog w) A (eval elt (compEnvC scope cl C env)) (EltQ R C s₃ v) NoE s₃
section
variable {elt iter : Expr} {x y : Str} {px py : Pos} {ifs : List Expr} {scope : Scope} {cl : List (Str × Addr)} {pos : Pos} {xv : Value} {n : Nat} {P : Nat → Value → Prop} {p : Value → Bool} {R : List (Addr × Obj) → Value → Value → Prop} {Q : Value → Shared → Prop}
theorem CompBody.in' {s₂ : Shared} {I : Addr} (hb : CompBody prog w A env scope cl x ifs elt P p R g news) (F : Fr g L s.heap m) (N : News g L s.heap news) (hI : s.heap.get? I = none) (hk : ∀ a o, s.heap.get? a = some o → s₂.heap.get? a = some o) :
    CompIn prog w A env scope cl x ifs elt I P p R s₂ where
  tests := fun C i v s₃ m₃ hC hP hn hm hk3 => by
    obtain ⟨F3, N3, _⟩ := compFr (s₁ := s) (s₂ := s₂) (s₃ := s₃) F N hI hk hC hn hk3
    exact hb.tests C i v s₃ m₃ hP F3 hm fun p hp => (List.mem_append.mp hp).elim (N3 p) (news_allOf p)
  elt := fun C i v s₃ m₃ hC hP hp hn hm hk3 => by
    obtain ⟨F3, N3, _⟩ := compFr (s₁ := s) (s₂ := s₂) (s₃ := s₃) F N hI hk hC hn hk3
    exact hb.elt C i v s₃ m₃ hP hp F3 hm fun p hp => (List.mem_append.mp hp).elim (N3 p) (news_allOf p)
theorem compE (S : Src prog w A xv s n P) (hsz : n ≤ 100000) (F : Fr g L s.heap m) (N : News g L s.heap news) (hmono : ∀ B B' v y, (∀ q ∈ B, q ∈ B') → R B v y → R B' v y)
    (hcell : ∀ y ∈ scope.names, y.2 ≠ .cell) (hkind : scope.kind = .function) (hx : scope.names.lookup x = some .local) (hb : CompBody prog w A env scope cl x ifs elt P p R g news)
    (fin : ∀ D h' tk (ys : List Value) k (vs : List Value) B, Fr g L h' m → CompOut g L news h' D ys k B s.heap → vs.length = n → (∀ j v, vs[j]? = some v → P j v) → Paired (R B) (vs.filter p) ys → Q (.ref D) { s with heap := h', toks := tk }) :
    wpAny (model prog w) A (pyIter xv) (CompGo prog w A env elt x px iter ifs scope cl pos none Q) NoE s := by
  refine S _ fun I fp St h₂ W hSt hst hfp hI hk => ⟨comp_core (s₂ := { s with heap := h₂ }) W hsz p R hmono hcell hkind hx hst hfp hSt (hb.in' F N hI hk) ?_⟩
  intro D C h' tk m' ys k vs B hD hC hDC hn hDo hlen hP hF hB hold
  refine ⟨m', hn, fun h'' hs'' => ?_⟩
  have hC' : h₂.get? C = none := hC
  have nI : ∀ a o, s.heap.get? a = some o → a ≠ I := fun a o e z => by rw [z, hI] at e; cases e
  have nC : ∀ a o, s.heap.get? a = some o → a ≠ C := fun a o e z => by rw [← z, hk a o e] at hC'; cases hC'
  have hall : ∀ a o, s.heap.get? a = some o → h''.get? a = some o := fun a o e => hs''.extBut a o (nC a o e) (hold a o (nI a o e) (hk a o e))
  obtain ⟨F', N'⟩ := after_ext F N hall
  have sn : ∀ a, h₂.get? a = none → s.heap.get? a = none := fun a e => by
    cases q : s.heap.get? a with
    | none => rfl
    | some o => rw [hk a o q] at e; cases e
  have gn : ∀ a, s.heap.get? a = none → g.get? a = none := fun a e => by
    cases q : g.get? a with
    | none => rfl
    | some o => rw [F.keep a o q] at e; cases e
  have Ln : ∀ a, s.heap.get? a = none → a ≠ L := fun a e z => by
    obtain ⟨oL, _, _, hL, _⟩ := F.ns
    rw [z, hL] at e; cases e
  have nn : ∀ a, s.heap.get? a = none → ∀ r ∈ news, r.1 ≠ a := fun a e r hr z => by
    have := (N r hr).1; rw [z, e] at this; cases this
  have sD := sn D hD
  have ey : ys.toList.toArray = ys := by simp
  refine fin D h'' tk ys.toList k vs B F' ⟨fun q hq => ?_, fun q hq => (hB q hq).2.2.2, nn D sD, fun q hq r hr z => nn q.1 (sn _ (hB q hq).2.1) r hr z.symm, sD, fun q hq => sn _ (hB q hq).2.1⟩ hlen hP hF
  rcases List.mem_cons.mp hq with rfl | hq
  · rw [ey]; exact ⟨hs''.extBut _ _ hDC hDo, Ln D sD, gn D sD⟩
  · rcases List.mem_append.mp hq with hq | hq
    · have z := hB q hq
      exact ⟨hs''.extBut _ _ z.2.2.1 z.1, Ln _ (sn _ z.2.1), gn _ (sn _ z.2.1)⟩
    · exact N' q hq
theorem compA (S : Src prog w A xv s n P) (hsz : n ≤ 100000) (F : Fr g env.locals s.heap m) (N : News g env.locals s.heap news) (hmono : ∀ B B' v y, (∀ q ∈ B, q ∈ B') → R B v y → R B' v y)
    (hcell : ∀ y ∈ scope.names, y.2 ≠ .cell) (hkind : scope.kind = .function) (hx : scope.names.lookup x = some .local)
    (hy : env.kindOf y = some .local) (hp : (env.scope.kind == .class || (env.scope.kind == .module && env.locals != env.globals)) = false) (hb : CompBody prog w A env scope cl x ifs elt P p R g news)
    (fin : ∀ D h' tk (ys : List Value) k (vs : List Value) B, Fr g env.locals h' (fun z => if z = y then some (.ref D) else m z) → CompOut g env.locals news h' D ys k B s.heap → vs.length = n → (∀ j v, vs[j]? = some v → P j v) → Paired (R B) (vs.filter p) ys → Q .none { s with heap := h', toks := tk }) :
    wpAny (model prog w) A (pyIter xv) (CompGo prog w A env elt x px iter ifs scope cl pos (some (assign (.Name y py) env)) Q) NoE s := by
  refine S _ fun I fp St h₂ W hSt hst hfp hI hk => ⟨comp_core (s₂ := { s with heap := h₂ }) W hsz p R hmono hcell hkind hx hst hfp hSt (hb.in' F N hI hk) ?_⟩
  intro D C h' tk m' ys k vs B hD hC hDC hn hDo hlen hP hF hB hold
  have hC' : h₂.get? C = none := hC
  have nI : ∀ a o, s.heap.get? a = some o → a ≠ I := fun a o e z => by rw [z, hI] at e; cases e
  have nC : ∀ a o, s.heap.get? a = some o → a ≠ C := fun a o e z => by rw [← z, hk a o e] at hC'; cases hC'
  have hall : ∀ a o, s.heap.get? a = some o → h'.get? a = some o := fun a o e => hold a o (nI a o e) (hk a o e)
  obtain ⟨F1, N1⟩ := after_ext F N hall
  have sn : ∀ a, h₂.get? a = none → s.heap.get? a = none := fun a e => by
    cases q : s.heap.get? a with
    | none => rfl
    | some o => rw [hk a o q] at e; cases e
  have gn : ∀ a, s.heap.get? a = none → g.get? a = none := fun a e => by
    cases q : g.get? a with
    | none => rfl
    | some o => rw [F.keep a o q] at e; cases e
  obtain ⟨oL, _, _, hL, _⟩ := F.ns
  have Ln : ∀ a, s.heap.get? a = none → a ≠ env.locals := fun a e z => by rw [z, hL] at e; cases e
  have nn : ∀ a, s.heap.get? a = none → ∀ r ∈ news, r.1 ≠ a := fun a e r hr z => by
    have := (N r hr).1; rw [z, e] at this; cases this
  have sD := sn D hD
  have ey : ys.toList.toArray = ys := by simp
  show wpAny _ A (assign (.Name y py) env (.ref D)) _ _ _
  refine wpAny_assign_Name (wpAny_storeName_local hy F1.ns (fun h₃ hn₃ hs₃ => ?_) hp)
  have hLC : env.locals ≠ C := nC _ _ hL
  refine ⟨m', hn.sameBut hs₃ (Ne.symm hLC), fun h₄ hs₄ => ?_⟩
  have up : ∀ a o, a ≠ env.locals → a ≠ C → h'.get? a = some o → h₄.get? a = some o := fun a o h1 h2 e => hs₄.extBut a o h2 (hs₃.extBut a o h1 e)
  have F4 : Fr g env.locals h₄ (fun z => if z = y then some (.ref D) else m z) := ⟨hn₃.sameBut hs₄ hLC, fun a o e => up a o (fun z => by rw [z] at e; exact absurd (Heap.lt_size e) (Nat.not_lt.mpr F.above)) (nC a o (F.keep a o e)) (F1.keep a o e), F.above⟩
  refine fin D h₄ _ ys.toList k vs B F4 ⟨fun q hq => ?_, fun q hq => (hB q hq).2.2.2, nn D sD, fun q hq r hr z => nn q.1 (sn _ (hB q hq).2.1) r hr z.symm, sD, fun q hq => sn _ (hB q hq).2.1⟩ hlen hP hF
  rcases List.mem_cons.mp hq with rfl | hq
  · rw [ey]; exact ⟨up _ _ (Ln D sD) hDC hDo, Ln D sD, gn D sD⟩
  · rcases List.mem_append.mp hq with hq | hq
    · have z := hB q hq
      exact ⟨up _ _ (Ln _ (sn _ z.2.1)) z.2.2.1 z.1, Ln _ (sn _ z.2.1), gn _ (sn _ z.2.1)⟩
    · exact ⟨up _ _ (N q hq).2.1 (nC _ _ (N q hq).1) (N1 q hq).1, (N q hq).2⟩
end

theorem nameC_cell {scope : Scope} {cl : List (Str × Addr)} {C c : Addr} {x : Str} {pos : Pos} {v : Value} {o : Obj} {E : Value → Shared → Prop} {Q : Value → Shared → Prop} (N : News g C s.heap news) (hc : cl.lookup x = some c) (hm : (c, o) ∈ news) (hd : o.data = .cell (some v)) (h : Q v s)
    (hk : (compEnvC scope cl C env).scope.kind = .function) (hx : (compEnvC scope cl C env).kindOf x = some .cell) (hb : (x == ("__debug__" : Str)) = false) :
    wpAny (model prog w) A (eval (.Name x pos) (compEnvC scope cl C env)) Q E s := wpAny_Name (wpAny_loadName_cell hk hx hc ⟨o, N.get hm, hd⟩ h) hb
end

local macro_rules | `(tactic| walk_at "eval Name") => `(tactic| ((with_reducible show wpAny _ _ (eval (Expr.Name _ _) (compEnvC _ _ _ _)) _ _ _); k_dflt refine' nameC_cell (by k_asm) (by rfl) (by k_mem) (by k_asm) ?_ (by rfl) (by rfl) (by decide)))
noncomputable def bHash (b : Bool) : Int := if b then 1 else 0
noncomputable abbrev set0 (led : Bool) : Obj := { cls := .type "set", data := .set #[] 0 (.fresh 0 0 led) }
noncomputable def tab1 (b led : Bool) : SetTable := (layNew (.fresh 0 0 led) #[] (bHash b) (.bool b)).2.1
noncomputable abbrev set1 (b led : Bool) : Obj := { cls := .type "set", data := .set #[(bHash b, .bool b)] 1 (tab1 b led) }
section
variable {prog : Program} {w : World} {A : Around} {s : Shared} {E : Value → Shared → Prop}
theorem hash_bool {b : Bool} {Q : Int → Shared → Prop} (h : ∀ tk, Q (bHash b) { s with toks := tk }) : wpAny (model prog w) A (pyHash (.bool b)) Q E s := by
  have hT : s.TypeIs (.bool b) "bool" := rfl
  unfold pyHash
  have hv : [Value.bool b].any Value.onHeap = false := rfl
  refine wpAny_bind ?_
  rw [cRoomFor, if_neg (by rw [hv]; exact Bool.false_ne_true)]; refine wpAny_pure ?_
  refine wpAny_bind (wpAny_specialOf hT F.slot_bool_hash.lookup ?_)
  show wpAny _ _ (if (some (Value.builtin "int.__hash__") == some Value.none) = true then _ else _) Q E s
  rw [if_neg (by decide)]
  refine wpAny_bind (wpAny_specialOf hT F.slot_bool_hash.lookup ?_)
  show wpAny _ _ (callSpecialIfBoundUnlessNone? (.bool b) "__hash__" _ >>= _) Q E s
  refine wpAny_bind (wpAny_callSpecialIfBoundUnlessNone?_slot hT F.slot_bool_hash
    (wpAny_call_entry F.slot_bool_hash hT entry_int_hash ?_ (args_int_hash _)))
  cases b
  · show wpAny _ _ (do ret (← mkInt 0)) _ _ s
    refine wpAny_ret_mkInt ?_
    show wpAny _ _ (if (decide (-(2 : Int) ^ 63 ≤ 0) && decide ((0 : Int) < 2 ^ 63)) = true then _ else _) Q E _
    rw [if_pos (by decide)]; exact wpAny_pure (h _)
  · show wpAny _ _ (do ret (← mkInt 1)) _ _ s
    refine wpAny_ret_mkInt ?_
    show wpAny _ _ (if (decide (-(2 : Int) ^ 63 ≤ 1) && decide ((1 : Int) < 2 ^ 63)) = true then _ else _) Q E _
    rw [if_pos (by decide)]; exact wpAny_pure (h _)
theorem set_get0 {D : Addr} {led b : Bool} {Q : Bool → Shared → Prop} (hD : s.heap.get? D = some (set0 led)) (h : ∀ h', Heap.SameBut D s.heap h' → h'.get? D = some (set1 b led) → Q true { s with heap := h' }) :
    wpAny (model prog w) A (setAddHashed D (.bool b) (bHash b)) Q E s := by
  obtain ⟨hp, g, d, tk, os⟩ := s
  dsimp only at hD
  have hlay : layNew (.fresh 0 0 led) #[] (bHash b) (.bool b) = (#[(bHash b, .bool b)], tab1 b led, false, false) := by cases b <;> cases led <;> rfl
  have hpl : (tab1 b led).plain = true := by cases b <;> cases led <;> rfl
  have hfull : (tab1 b led).tooFull = false := by cases b <;> cases led <;> rfl
  have hfit : (tab1 b led).fits 1 = true := by cases b <;> cases led <;> rfl
  unfold setAddHashed setAddHashedIn
  refine wpAny_holding (wpAny_bind (wpAny_setState_of (es := #[]) (ep := 0) (t := .fresh 0 0 led) hD rfl rfl ?_))
  dsimp only
  rw [if_pos (by cases b <;> decide +kernel)]
  unfold setAddByScan
  refine wpAny_bind (wpAny_bind (wpAny_rule ?_))
  refine wpAny_bind (m := setScan D (.bool b) (bHash b) true #[]) (wpAny_of_eq (a := .absent) rfl ?_)
  dsimp only
  rw [hlay]
  dsimp only
  refine wpAny_bind (wpAny_of_eq (a := ()) rfl ?_)
  rw [hpl]
  simp only [if_true]
  refine wpAny_bind (wpAny_of_eq (hashByValue_scannable 8 (x := .bool b) rfl) ?_)
  have hpk : plainKind (.bool b) = true := by cases b <;> rfl
  rw [hpk]
  simp only [if_true, hfull, Bool.and_false, Bool.false_eq_true, if_false]
  refine wpAny_bind (wpAny_storeSet_of (s := ⟨hp, g, d, tk, os⟩) hD rfl ?_ (by rw [sizeLine_eq]; show 1 ≤ 16777216; decide))
  refine wpAny_pure (wpAny_pure ?_)
  refine h _ (Heap.SameBut.update ..) ?_
  exact Heap.get?_update_self _ hD rfl
theorem set_get1 {D : Addr} {led b : Bool} {Q : Bool → Shared → Prop} (hD : s.heap.get? D = some (set1 b led)) (h : Q false s) :
    wpAny (model prog w) A (setAddHashed D (.bool b) (bHash b)) Q E s := by
  have hfit : (tab1 b led).fits 1 = true := by cases b <;> cases led <;> rfl
  unfold setAddHashed setAddHashedIn
  refine wpAny_holding (wpAny_bind (wpAny_setState_of (es := #[(bHash b, .bool b)]) (ep := 1) (t := tab1 b led) hD rfl hfit ?_))
  dsimp only
  rw [if_pos (by cases b <;> decide +kernel)]
  unfold setAddByScan
  refine wpAny_bind (wpAny_bind (wpAny_rule ?_))
  refine wpAny_bind ?_
  show wpAny _ _ (setScanFrom D (.bool b) (bHash b) true [(bHash b, .bool b)] 0) _ _ _
  unfold setScanFrom
  simp only [BEq.rfl, if_true]
  refine wpAny_bind (wpAny_setEpoch_of (es := #[(bHash b, .bool b)]) (ep := 1) (t := tab1 b led) hD rfl hfit ?_)
  refine wpAny_bind ?_
  unfold eqBool
  simp only [BEq.rfl, if_true]
  refine wpAny_bind (wpAny_rule (wpAny_pure ?_))
  simp only [Bool.and_self, if_true]
  exact wpAny_pure (wpAny_pure (wpAny_pure h))
theorem set_add0 {D : Addr} {led b : Bool} {Q : Value → Shared → Prop} (hD : s.heap.get? D = some (set0 led)) (h : ∀ h' tk, Heap.SameBut D s.heap h' → h'.get? D = some (set1 b led) → Q .none { s with heap := h', toks := tk }) :
    wpAny (model prog w) A (call (.builtin "set.add") [.ref D, .bool b]) Q E s := by
  refine wpAny_call_entry F.slot_set_add ⟨_, hD, rfl⟩ F.entry_set_add ?_ (F.args_set_add_2 _ _)
  show wpAny _ _ (setAdd D (.bool b) >>= fun _ => ret .none) _ _ s
  unfold setAdd
  refine wpAny_bind (wpAny_holding (wpAny_bind (hash_bool fun tk => set_get0 (s := { s with toks := tk }) hD fun h' hs hD' => wpAny_pure ⟨_, rfl, h h' tk hs hD'⟩)))
theorem set_add1 {D : Addr} {led b : Bool} {Q : Value → Shared → Prop} (hD : s.heap.get? D = some (set1 b led)) (h : ∀ tk, Q .none { s with toks := tk }) :
    wpAny (model prog w) A (call (.builtin "set.add") [.ref D, .bool b]) Q E s := by
  refine wpAny_call_entry F.slot_set_add ⟨_, hD, rfl⟩ F.entry_set_add ?_ (F.args_set_add_2 _ _)
  show wpAny _ _ (setAdd D (.bool b) >>= fun _ => ret .none) _ _ s
  unfold setAdd
  exact wpAny_bind (wpAny_holding (wpAny_bind (hash_bool fun tk => set_get1 (s := { s with toks := tk }) hD (wpAny_pure ⟨_, rfl, h tk⟩))))
end

section
variable {prog : Program} {w : World} {A : Around} {s : Shared} {env : Env} {g : Heap} {L : Addr} {m : Str → Option Value} {news : List (Addr × Obj)} {E : Value → Shared → Prop} {R : Result → Shared → Prop}
theorem compTurn_set (elt target iter : Expr) (scope : Scope) (pos : Pos) (it acc : Value) (env : Env) :
    compTurn (.SetComp elt [⟨target, iter, [], 0⟩] scope pos) 0 it acc env = (standAt iter.pos >>= fun _ => pyNext it >>= fun r => match r with
      | none => pure (.done .next)
      | some v => letOwnedTupleGo target it v >>= fun _ => assign target env v >>= fun _ =>
        (eval elt env >>= fun x => standAt elt.pos >>= fun _ => call (.builtin "set.add") [acc, x] >>= fun _ => pure ()) >>= fun _ =>
          again (.compLoop (.SetComp elt [⟨target, iter, [], 0⟩] scope pos) 0 it acc env)) := by rfl
theorem compLoop_set {elt target iter : Expr} {scope : Scope} {pos : Pos} {it acc : Value} {env : Env} (I : Nat → Shared → Prop)
    (turn : ∀ n s, I n s → wpAny (model prog w) A (pyNext it) (fun r s₁ => match r with
      | none => R (.ok .next) s₁
      | some v => wpAny (model prog w) A (assign target env v) (fun _ s₂ => wpAny (model prog w) A (eval elt env) (fun x s₄ =>
              wpAny (model prog w) A (call (.builtin "set.add") [acc, x]) (fun _ s₅ => ∃ m, m < n ∧ I m s₅) NoE s₄) NoE s₂) NoE s₁) NoE s)
    (n : Nat) (h : I n s) (ht : ∀ v, letOwnedTupleGo target it v = pure () := by intro _; rfl) :
    codeAny (model prog w) A (.compLoop (.SetComp elt [⟨target, iter, [], 0⟩] scope pos) 0 it acc env) R s := by
  refine codeAny_loop rfl I (fun n s hI => ?_) n h
  show wpAny _ A ((compTurn (.SetComp elt [⟨target, iter, [], 0⟩] scope pos) 0 it acc env).onRaise (fun x => do noteFrame x env; theTreesLotGoes x)) _ _ s
  refine wpAny_noted (wpAny_noRaise ?_)
  rw [compTurn_set]
  refine wpAny_bind (wpAny_standAt (wpAny_bind (wpAny_mono (turn n s hI) (fun r s₁ h₁ => ?_) fun _ _ h' => h')))
  cases r with
  | none => exact wpAny_pure h₁
  | some v =>
    refine wpAny_bind (wpAny_of_eq (ht v) ?_)
    refine wpAny_bind (wpAny_mono h₁ (fun _ s₂ h₂ => wpAny_bind (wpAny_bind (wpAny_mono h₂ (fun x s₄ h₄ => wpAny_bind (wpAny_standAt (wpAny_bind (wpAny_mono h₄ (fun _ s₅ h₅ => wpAny_pure (wpAny_pure ⟨rfl, h₅⟩)) fun _ _ h' => h')))) fun _ _ h' => h'))) fun _ _ h' => h')
theorem compStart_set {elt target iter ifs rest scope pos it acc env}
    (h0 : codeAny (model prog w) A (.compLoop (.SetComp elt (⟨target, iter, ifs, 0⟩ :: rest) scope pos) 0 it acc env) R s)
    (h : wpAny (model prog w) A (pyIter it) (fun it' s' => codeAny (model prog w) A (.compLoop (.SetComp elt (⟨target, iter, ifs, 0⟩ :: rest) scope pos) 0 it' acc env) R s')
      (notedBy (model prog w) A env fun x s' => R (.error x) s') s) :
    codeAny (model prog w) A (.compStart (.SetComp elt (⟨target, iter, ifs, 0⟩ :: rest) scope pos) 0 it acc env) R s := by
  refine codeAny_of_tree ?_
  show wpAny _ _ ((compStart (.SetComp elt (⟨target, iter, ifs, 0⟩ :: rest) scope pos) 0 it acc env).onRaise (fun x => do noteFrame x env; standAt theWindowsPlace)) _ _ s
  refine wpAny_notedAt ?_
  unfold compStart
  show wpAny _ _ (ask >>= _) _ _ s
  refine wpAny_bind (wpAny_askSetting (wpAny_ite ?_))
  split
  · first
      | exact wpAny_bind (wpAny_pure (wpAny_pure (And.intro rfl h0)))
      | exact wpAny_pure (And.intro rfl h0)
  · first
      | exact wpAny_bind (wpAny_rule (wpAny_bind (wpAny_standAt (wpAny_bind (wpAny_mono h (fun it' s' h' => wpAny_pure (And.intro rfl h')) fun _ _ x => x)))))
      | (refine wpAny_bind (wpAny_rule ?_); show wpAny _ _ (standAt iter.pos >>= _) _ _ s; exact wpAny_bind (wpAny_standAt (wpAny_bind (wpAny_mono h (fun it' s' h' => wpAny_pure (And.intro rfl h')) fun _ _ x => x))))
/-- a set comprehension all of whose elements are one bool -/
inductive SeSt (s₂ : Shared) (St : Nat → Heap → Prop) (n : Nat) (o0 o1 : Obj) (D C I : Addr) (k : Nat) (s' : Shared) : Prop
  | mk (h' : Heap) (tk : Nat) (m' : Str → Option Value) (i : Nat) (es : s' = { s₂ with heap := h', toks := tk }) (st : St i h') (hD : h'.get? D = some (if i = 0 then o0 else o1)) (hn : h'.Ns C m') (hi : i ≤ n) (hk0 : k = n + 1 - i) (hk : ∀ b o, b ≠ I → s₂.heap.get? b = some o → h'.get? b = some o)
theorem setComp {elt iter : Expr} {x : Str} {px : Pos} {scope : Scope} {pos : Pos} {Q : Value → Shared → Prop} {n : Nat} {P : Nat → Value → Prop} (cl : List (Str × Addr)) (bb : Bool)
    (h : wpAny (model prog w) A (eval iter env) (fun xv s₁ => wpAny (model prog w) A (pyIter xv) (Gives fun it s₂ => ∃ I fp St, it = .ref I ∧ Walks prog w A I fp [I] n P St ∧ St 0 s₂.heap ∧ (∀ b ∈ fp, b < s₂.heap.objs.size) ∧
      (∀ C i v s₃ m₃, s₂.heap.objs.size ≤ C → P i v → s₃.heap.Ns C m₃ → m₃ x = some v → (∀ b o, b ≠ I → s₂.heap.get? b = some o → s₃.heap.get? b = some o) →
        wpAny (model prog w) A (eval elt (compEnvC scope cl C env)) (Gives fun y s₄ => y = .bool bb ∧ KeepsBut C s₃ s₄) NoE s₃) ∧
      (∀ D h' tk led, s₂.heap.get? D = none → h'.get? D = some (set1 bb led) → led = !w.params.followText "set-order" → (∀ b o, b ≠ I → s₂.heap.get? b = some o → h'.get? b = some o) → Q (.ref D) { s₂ with heap := h', toks := tk })) NoE s₁) NoE s)
    (hn : 0 < n) (hclos : closureFor scope env = pure cl) (hcell : ∀ y ∈ scope.names, y.2 ≠ .cell) (hkind : scope.kind = .function)
    (hnames : ∀ y ∈ scope.names, y.2 = .local → scope.names.lookup y.1 = some .local) (hx : scope.names.lookup x = some .local) (hs : ∀ x, foldedSetIterable iter env x = pure x) :
    wpAny (model prog w) A (eval (.SetComp elt [⟨.Name x px, iter, [], 0⟩] scope pos) env) Q NoE s := by
  rw [arm_eval_SetComp]
  refine wpAny_comprehension_free (use := none) rfl hs hclos hkind hnames (wpAny_mono h (fun xv s₁ h₁ => wpAny_mono h₁ (fun it s₂ h₂ => ?_) fun _ _ e => e) fun _ _ e => e)
  obtain ⟨I, fp, St, rfl, W, hst, hfp, helt, hQ⟩ := h₂.st
  clear h h₁ h₂
  unfold newSet setsByText
  refine wpAny_bind (wpAny_bind (wpAny_askSetting (wpAny_pure ?_)))
  dsimp only
  generalize hled : (!(model prog w).w.params.followText "set-order") = led
  simp only [newObj]
  refine wpAny_bind (wpAny_alloc (wpAny_pure ?_))
  refine wpAny_newFunctionEnv hcell (by intro y hy; simp at hy) (fun h₁ hns₁ hsb₁ => ?_) hkind
  dsimp only at hns₁ hsb₁ ⊢
  generalize hH2 : s₂.heap.push { cls := .type "set", dict := none, data := .set #[] 0 (.fresh 0 0 led) } = H2 at hns₁ hsb₁ ⊢
  have hC : H2.objs.size = s₂.heap.objs.size + 1 := by rw [← hH2, Heap.size_push]
  have hDC : s₂.heap.objs.size ≠ H2.objs.size := by rw [hC]; exact Nat.ne_of_lt (Nat.lt_succ_self _)
  have hCle : s₂.heap.objs.size ≤ H2.objs.size := by rw [hC]; exact Nat.le_succ _
  have below : ∀ b, b < s₂.heap.objs.size → b ≠ H2.objs.size ∧ b ≠ s₂.heap.objs.size := fun b hb => ⟨by rw [hC]; exact Nat.ne_of_lt (Nat.lt_succ_of_lt hb), Nat.ne_of_lt hb⟩
  have hDf : s₂.heap.objs.size ∉ fp := fun hm => Nat.lt_irrefl _ (hfp _ hm)
  have hCf : H2.objs.size ∉ fp := fun hm => by have := hfp _ hm; rw [hC] at this; exact Nat.lt_irrefl _ (Nat.lt_of_succ_lt this)
  have hIf : I ∈ fp := W.sub I (List.mem_singleton.mpr rfl)
  have hIlt : I < s₂.heap.objs.size := hfp I hIf
  have old : ∀ b o, s₂.heap.get? b = some o → h₁.get? b = some o := fun b o e => hsb₁.extBut b o (below b (Heap.lt_size e)).1 (Heap.get?_push_of_some _ (hH2 ▸ Heap.get?_push_of_some _ e))
  have hacc : h₁.get? s₂.heap.objs.size = some (set0 led) := hsb₁.extBut _ _ hDC (Heap.get?_push_of_some _ (hH2 ▸ Heap.get?_push_size _ rfl))
  have hst₁ : St 0 h₁ := W.frame _ _ _ hst fun b _ o e => old b o e
  have fresh : ∀ a, s₂.heap.objs.size ≤ a → s₂.heap.get? a = none := fun a ha => by
    cases e : s₂.heap.get? a with
    | none => rfl
    | some o' => exact absurd (Heap.lt_size e) (Nat.not_lt.mpr ha)
  have hCI : I ≠ H2.objs.size := (below I hIlt).1
  have hDI : I ≠ s₂.heap.objs.size := (below I hIlt).2
  have loop : ∀ s₃ : Shared, s₃ = { s₂ with heap := h₁, toks := s₂.toks + ([] : List (Str × Value)).length } →
      codeAny (model prog w) A (.compLoop (.SetComp elt [⟨.Name x px, iter, [], 0⟩] scope pos) 0 (.ref I) (.ref s₂.heap.objs.size) (compEnvC scope cl H2.objs.size env))
        (compPost (model prog w) A NoE none Q (.ref s₂.heap.objs.size) H2.objs.size) s₃ := by
    rintro s₃ rfl
    refine compLoop_set
      (SeSt s₂ St n (set0 led) (set1 bb led) s₂.heap.objs.size H2.objs.size I) ?_ (n + 1)
      ⟨h₁, _, _, 0, rfl, hst₁, hacc, hns₁, Nat.zero_le _, rfl, fun b o _ e => old b o e⟩
    rintro k s' ⟨h', tk, m', i, rfl, hst', hD', hn', hi, rfl, hk⟩
    by_cases hlt : i < n
    · refine W.item i _ _ _ hlt hst' fun v h₂ tk₂ hPv hst₂ hk₂ => ?_
      have hk₂' : ∀ b o, b ≠ I → h'.get? b = some o → h₂.get? b = some o := fun b o hb e => hk₂ b o (by simpa using hb) e
      refine wpAny_assign_Name (wpAny_storeName_local (lookup_relabel_local hx) (hn'.at' fun o e => hk₂' _ o (Ne.symm hCI) e) (fun h₃ hn₃ hs₃ => ?_) (by simp [compEnvC, relabel, hkind]))
      have hs3 : ∀ b o, b ≠ H2.objs.size → h₂.get? b = some o → h₃.get? b = some o := fun b o hb e => hs₃.extBut b o hb e
      have hk3 : ∀ b o, b ≠ I → s₂.heap.get? b = some o → h₃.get? b = some o := fun b o hb e => hs3 b o (below b (Heap.lt_size e)).1 (hk₂' b o hb (hk b o hb e))
      have hst₃ : St (i + 1) h₃ := W.frame _ _ _ hst₂ fun b hb o e => hs3 b o (fun q => hCf (by rw [← q]; exact hb)) e
      have hD₃ := hs3 _ _ hDC (hk₂' _ _ (Ne.symm hDI) hD')
      refine wpAny_mono (helt _ _ v { s₂ with heap := h₃, toks := _ } _ hCle hPv hn₃ (by simp) hk3) (fun y s₄ h₄ => ?_) fun _ _ e => e
      obtain ⟨rfl, h₄', tk₄, m₄, rfl, hn₄, hk₄⟩ := h₄.st
      replace hk₄ : ∀ b o, b ≠ H2.objs.size → h₃.get? b = some o → h₄'.get? b = some o := hk₄
      have hD₄ := hk₄ _ _ hDC hD₃
      have nC : ∀ b o, s₂.heap.get? b = some o → b ≠ H2.objs.size := fun b o e => (below b (Heap.lt_size e)).1
      have fin : ∀ h₅ tk₅, Heap.SameBut s₂.heap.objs.size h₄' h₅ → h₅.get? s₂.heap.objs.size = some (set1 bb led) → ∃ m, m < n + 1 - i ∧ SeSt s₂ St n (set0 led) (set1 bb led) s₂.heap.objs.size H2.objs.size I m { s₂ with heap := h₅, toks := tk₅ } := fun h₅ tk₅ hs₅ hD₅ =>
        ⟨n + 1 - (i + 1), by (first | lia | omega), h₅, tk₅, m₄, i + 1, rfl, W.frame _ _ _ hst₃ fun b hb o e => hs₅.extBut b o (fun q => hDf (by rw [← q]; exact hb)) (hk₄ _ _ (fun q => hCf (by rw [← q]; exact hb)) e), by rw [if_neg (by (first | lia | omega))]; exact hD₅, hn₄.sameBut hs₅ (Ne.symm hDC), hlt, rfl,
          fun b o hb e => hs₅.extBut b o (below b (Heap.lt_size e)).2 (hk₄ _ _ (nC b o e) (hk3 b o hb e))⟩
      by_cases hi0 : i = 0
      · rw [if_pos hi0] at hD₄
        exact set_add0 (s := { s₂ with heap := h₄', toks := tk₄ }) hD₄ fun h₅ tk₅ hs₅ hD₅ => fin h₅ tk₅ hs₅ hD₅
      · rw [if_neg hi0] at hD₄
        exact set_add1 (s := { s₂ with heap := h₄', toks := tk₄ }) hD₄ fun tk₅ => fin h₄' tk₅ (Heap.SameBut.refl ..) hD₄
    · have hin : i = n := by (first | lia | omega)
      subst hin
      refine W.done _ _ _ hst' fun h₂ tk₂ hk₂ => ?_
      have hk₂' : ∀ b o, b ≠ I → h'.get? b = some o → h₂.get? b = some o := fun b o hb e => hk₂ b o (by simpa using hb) e
      rw [if_neg (by (first | lia | omega))] at hD'
      refine ⟨m', hn'.at' fun o e => hk₂' _ o (Ne.symm hCI) e, fun h₃ hs₃ => ?_⟩
      exact hQ _ h₃ tk₂ led (fresh _ (Nat.le_refl _)) (hs₃.extBut _ _ hDC (hk₂' _ _ (Ne.symm hDI) hD')) hled.symm fun b o hb e => hs₃.extBut b o (below b (Heap.lt_size e)).1 (hk₂' b o hb (hk b o hb e))
  exact compStart_set (loop _ rfl) (W.self 0 _ _ _ hst₁ (loop _ rfl))
end
theorem owner_set_iterator : Manifest.owners.lookup (String.ofList ['r', 'o', 't', 'a', 'r', 'e', 't', 'i', '_', 't', 'e', 's'].reverse) = some Manifest.sig_set_iterator := by kernel_rfl
theorem slot_seti_next : Slot "set_iterator" "__next__" "set_iterator.__next__" :=
  .of (owner := "set_iterator") (n := "__next__") (by rw [typeLookup_type, builtinLookup_eq_fast]; kernel_rfl) (by decide +kernel) (by decide +kernel) (by decide +kernel)
    (by first | exact .inl (by decide +kernel) | exact .inr (by decide +kernel)) (by rw [isSubtype_type]; kernel_rfl)
theorem entry_seti_next : entryFor table "set_iterator.__next__" = some Builtin.«set_iterator.__next__» := entryFor_of_tree (by kernel_rfl)
theorem args_seti_next_1 (a : Value) : argsOk "set_iterator.__next__" ⟨[a], []⟩ := by
  unfold argsOk; rw [signature?_of (id := "set_iterator.__next__") (n := ['_', '_', 't', 'x', 'e', 'n', '_', '_']) (o := ['r', 'o', 't', 'a', 'r', 'e', 't', 'i', '_', 't', 'e', 's']) (by kernel_rfl) owner_set_iterator]; kernel_rfl
theorem entry_set_iter : entryFor table "set.__iter__" = some Builtin.«frozenset.__iter__» :=
  entryFor_alias (id' := "frozenset.__iter__") (by kernel_rfl) (by first | rfl | decide +kernel | (unfold String.splitOn; simp +decide [String.splitOnAux])) (by decide +kernel) (by kernel_rfl)
noncomputable abbrev setiObj (slot i : Int) (sv : Value) : Obj := { cls := .type "set_iterator", data := .fields #[rawInt slot, rawInt i, sv, rawInt 1, rawInt 1] }
theorem tab1_fits (b led : Bool) : (tab1 b led).fits 1 = true := by cases b <;> cases led <;> rfl
section
variable {prog : Program} {w : World} {A : Around} {s : Shared} {E : Value → Shared → Prop} {D : Addr} {bb led : Bool}
theorem set1_state {Q : (Array (Int × Value) × Nat × SetTable) → Shared → Prop} (hD : s.heap.get? D = some (set1 bb led)) (h : Q (#[(bHash bb, .bool bb)], 1, tab1 bb led) s) : wpAny (model prog w) A (setState D) Q E s :=
  wpAny_setState_of (es := #[(bHash bb, .bool bb)]) (ep := 1) (t := tab1 bb led) hD rfl (tab1_fits _ _) h
theorem iter_set1 {Q : Value → Shared → Prop} (hD : s.heap.get? D = some (set1 bb led)) (h : Q (.ref s.heap.objs.size) { s with heap := s.heap.push (setiObj 0 0 (.ref D)) }) :
    wpAny (model prog w) A (pyIter (.ref D)) Q E s := by
  have hT : s.TypeIs (.ref D) "set" := ⟨_, hD, rfl⟩
  refine wpAny_pyIter_slot hT F.slot_set_iter (wpAny_call_entry F.slot_set_iter hT entry_set_iter ?_ (F.args_set_iter_1 _))
  unfold Builtin.«frozenset.__iter__»
  refine wpAny_bind (wpAny_of_eq (a := D) rfl ?_)
  refine wpAny_bind (m := Builtin.Frozenset.sizeOf D) ?_
  unfold Builtin.Frozenset.sizeOf setEntries
  refine wpAny_bind (wpAny_bind (set1_state hD (wpAny_pure (wpAny_pure ?_))))
  unfold setDrawn setsByText
  refine wpAny_bind (wpAny_bind (set1_state hD ?_))
  dsimp only
  refine wpAny_bind (wpAny_bind (wpAny_askSetting (wpAny_pure (wpAny_pure ?_))))
  rw [if_neg (by intro hq; rw [Bool.and_eq_true] at hq; exact absurd hq.2 (by cases bb <;> cases led <;> exact Bool.false_ne_true))]
  refine wpAny_bind (wpAny_pure ?_)
  refine wpAny_bind (wpAny_setEpoch_of (es := #[(bHash bb, .bool bb)]) (ep := 1) (t := tab1 bb led) hD rfl (tab1_fits _ _) ?_)
  refine wpAny_bind (m := newFields _ _) (wpAny_newObj_type (wpAny_pure ⟨_, rfl, "set_iterator", _, ⟨_, Heap.get?_push_size _ rfl, rfl⟩, slot_seti_next.lookup, h⟩))
theorem setField_at {it : Addr} {o : Obj} {vs : Array Value} {i : Nat} {x : Value} {Q : Unit → Shared → Prop} (ho : s.heap.get? it = some { o with data := .fields vs }) (hi : i < vs.size)
    (h : ∀ h', Heap.SameBut it s.heap h' → h'.get? it = some { o with data := .fields (vs.setIfInBounds i x) } → Q () { s with heap := h' }) : wpAny (model prog w) A (setField (.ref it) i x) Q E s :=
  wpAny_setField ho rfl hi (h _ (Heap.SameBut.update ..) (Heap.get?_update_self _ ho rfl))
noncomputable def slotOf (bb : Bool) : Nat := if bb then 2 else 1
theorem setNext_first {Q : Option (Value × Nat) → Shared → Prop} (hl : led = !w.params.followText "set-order") (hD : s.heap.get? D = some (set1 bb led))
    (h : ∀ slot, (slot = slotOf bb ∨ w.params.followText "set-order" = true) → Q (some (.bool bb, slot)) s) : wpAny (model prog w) A (setNext D 0 0 1) Q E s := by
  unfold setNext setsByText
  refine wpAny_bind (set1_state hD ?_)
  dsimp only
  refine wpAny_bind (wpAny_bind (wpAny_askSetting (wpAny_pure ?_)))
  by_cases hf : w.params.followText "set-order" = true
  · rw [if_pos (by exact hf)]
    simp only [bne_self_eq_false, Bool.false_eq_true, if_false]
    refine wpAny_bind (m := setWalk D) ?_
    unfold setWalk setsByText
    refine wpAny_bind (set1_state hD ?_)
    dsimp only
    refine wpAny_bind (wpAny_bind (wpAny_askSetting (wpAny_pure ?_)))
    rw [if_pos (by exact hf)]
    refine wpAny_bind (wpAny_askSetting (wpAny_pure ?_))
    refine wpAny_pure ?_
    have e : ∀ f : Nat → Nat, pickOrder f #[(bHash bb, Value.bool bb)] = #[(bHash bb, Value.bool bb)] := fun f => by
      unfold pickOrder pickOrder.go
      simp [pickOrder.go, Nat.mod_one]
    rw [e]
    exact h 0 (.inr hf)
  · rw [if_neg (by exact hf)]
    have hf' : w.params.followText "set-order" = false := by simpa using hf
    rw [hf'] at hl
    subst hl
    rw [if_neg (by cases bb <;> exact Bool.false_ne_true)]
    refine wpAny_bind (wpAny_of_eq (a := ()) (by cases bb <;> rfl) ?_)
    cases bb
    · exact wpAny_pure (h 1 (.inl rfl))
    · exact wpAny_pure (h 2 (.inl rfl))
theorem setNext_end {slot : Nat} {Q : Option (Value × Nat) → Shared → Prop} (hl : led = !w.params.followText "set-order") (hD : s.heap.get? D = some (set1 bb led)) (hs : slot = slotOf bb ∨ w.params.followText "set-order" = true)
    (h : Q none s) : wpAny (model prog w) A (setNext D slot 1 1) Q E s := by
  unfold setNext setsByText
  refine wpAny_bind (set1_state hD ?_)
  dsimp only
  refine wpAny_bind (wpAny_bind (wpAny_askSetting (wpAny_pure ?_)))
  by_cases hf : w.params.followText "set-order" = true
  · rw [if_pos (by exact hf)]
    simp only [bne_self_eq_false, Bool.false_eq_true, if_false]
    refine wpAny_bind (m := setWalk D) ?_
    unfold setWalk setsByText
    refine wpAny_bind (set1_state hD ?_)
    dsimp only
    refine wpAny_bind (wpAny_bind (wpAny_askSetting (wpAny_pure ?_)))
    rw [if_pos (by exact hf)]
    refine wpAny_bind (wpAny_askSetting (wpAny_pure ?_))
    refine wpAny_pure ?_
    have e : ∀ f : Nat → Nat, pickOrder f #[(bHash bb, Value.bool bb)] = #[(bHash bb, Value.bool bb)] := fun f => by
      unfold pickOrder pickOrder.go
      simp [pickOrder.go, Nat.mod_one]
    rw [e]
    exact h
  · rw [if_neg (by exact hf)]
    have hf' : w.params.followText "set-order" = false := by simpa using hf
    rw [hf'] at hl
    subst hl
    rw [if_neg (by cases bb <;> exact Bool.false_ne_true)]
    refine wpAny_bind (wpAny_of_eq (a := ()) (by cases bb <;> rfl) ?_)
    obtain rfl := hs.resolve_right hf
    cases bb
    · exact wpAny_pure h
    · exact wpAny_pure h
theorem next_set1 {it : Addr} {Q : Option Value → Shared → Prop} (hl : led = !w.params.followText "set-order") (hD : s.heap.get? D = some (set1 bb led)) (hi : s.heap.get? it = some (setiObj 0 0 (.ref D)))
    (h : ∀ h' slot, Heap.SameBut it s.heap h' → (slot = slotOf bb ∨ w.params.followText "set-order" = true) → h'.get? it = some (setiObj (slot : Nat) 1 (.ref D)) → Q (some (.bool bb)) { s with heap := h' }) : wpAny (model prog w) A (pyNext (.ref it)) Q E s := by
  have hT : s.TypeIs (.ref it) "set_iterator" := ⟨_, hi, rfl⟩
  unfold pyNext
  refine wpAny_bind (wpAny_attempt (wpAny_callSpecial?_slot (name := Str.ofString "__next__") hT slot_seti_next (wpAny_call_entry slot_seti_next hT entry_seti_next ?_ (args_seti_next_1 _))))
  unfold Builtin.«set_iterator.__next__»
  refine wpAny_bind (wpAny_of_eq (a := (Value.ref it, [])) rfl ?_)
  refine wpAny_bind (m := fieldsOf (.ref it)) ?_
  unfold fieldsOf
  refine wpAny_bind (wpAny_load hi (wpAny_pure ?_))
  dsimp only
  unfold setEntries
  refine wpAny_bind (wpAny_bind (set1_state hD (wpAny_pure ?_)))
  rw [if_neg (by exact Bool.false_ne_true)]
  show wpAny _ _ (setNext D 0 0 1 >>= _) _ _ _
  refine wpAny_bind (setNext_first hl hD fun slot hsl => ?_)
  dsimp only
  refine wpAny_bind (setField_at (o := { cls := .type "set_iterator" }) hi (by simp) fun h1 hs1 hi1 => ?_)
  refine wpAny_bind (setField_at (o := { cls := .type "set_iterator" }) (s := { s with heap := h1 }) hi1 (by simp) fun h2 hs2 hi2 => ?_)
  exact wpAny_pure ⟨_, rfl, wpAny_pure (h h2 slot (hs1.trans hs2) hsl hi2)⟩
theorem end_set1 {it : Addr} {slot : Nat} {Q : Option Value → Shared → Prop} (hh : A.handled = none) (hl : led = !w.params.followText "set-order") (hD : s.heap.get? D = some (set1 bb led)) (hs : slot = slotOf bb ∨ w.params.followText "set-order" = true) (hi : s.heap.get? it = some (setiObj (slot : Nat) 1 (.ref D)))
    (hQ : ∀ h', Heap.ExtBut it s.heap h' → Q none { s with heap := h' }) : wpAny (model prog w) A (pyNext (.ref it)) Q E s := by
  have hT : s.TypeIs (.ref it) "set_iterator" := ⟨_, hi, rfl⟩
  unfold pyNext
  refine wpAny_bind (wpAny_attempt (wpAny_callSpecial?_slot (name := Str.ofString "__next__") hT slot_seti_next (wpAny_call_entry slot_seti_next hT entry_seti_next ?_ (args_seti_next_1 _))))
  unfold Builtin.«set_iterator.__next__»
  refine wpAny_bind (wpAny_of_eq (a := (Value.ref it, [])) rfl ?_)
  refine wpAny_bind (m := fieldsOf (.ref it)) ?_
  unfold fieldsOf
  refine wpAny_bind (wpAny_load hi (wpAny_pure ?_))
  dsimp only
  unfold setEntries
  refine wpAny_bind (wpAny_bind (set1_state hD (wpAny_pure ?_)))
  rw [if_neg (by exact Bool.false_ne_true)]
  show wpAny _ _ (setNext D (Int.toNat (slot : Int)) 1 1 >>= _) _ _ _
  rw [Int.toNat_natCast]
  refine wpAny_bind (setNext_end hl hD hs ?_)
  dsimp only
  refine wpAny_bind (setField_at (o := { cls := .type "set_iterator" }) hi (by simp) fun h1 hs1 hi1 => ?_)
  show wpAny _ _ (newExc (.type "StopIteration") [] >>= _) _ _ _
  refine wpAny_bind ?_
  simp only [newExc, newTuple]
  refine wpAny_bind (wpAny_newObj_type ?_ (by size_fits))
  refine wpAny_bind (m := firstArgMember _ _) (wpAny_of_eq (a := Value.none) (by first | rfl | (simp only [firstArgMember]; rfl)) ?_)
  refine wpAny_newObj_type ?_ (by size_fits)
  simp only [raiseNew]
  refine wpAny_bind (wpAny_handled ?_)
  rw [show A.in1.handled = none from hh]
  refine wpAny_bind (wpAny_pure (wpAny_throw ?_))
  refine wpAny_bind (wpAny_isInstance (T := "StopIteration") (b := true) ⟨_, Heap.get?_push_size _ rfl, rfl⟩ isSubtype_stop ?_)
  exact wpAny_pure (hQ _ ((hs1.extBut.push _).push _))
theorem unpack_set1 {Q : List Value → Shared → Prop} (hh : A.handled = none) (hl : led = !w.params.followText "set-order") (hD : s.heap.get? D = some (set1 bb led)) (h : ∀ h', (∀ a o, s.heap.get? a = some o → h'.get? a = some o) → Q [.bool bb] { s with heap := h' }) :
    wpAny (model prog w) A (unpackItems (.ref D) 1 none) Q E s := by
  have hT : s.TypeIs (.ref D) "set" := ⟨_, hD, rfl⟩
  have hlt := Heap.lt_size hD
  have hne : D ≠ s.heap.objs.size := Nat.ne_of_lt hlt
  unfold unpackItems
  refine wpAny_bind ?_
  unfold notIterableAtAll
  refine wpAny_bind (wpAny_specialOf hT F.slot_set_iter.lookup ?_)
  refine wpAny_pure ?_
  simp only [Bool.false_eq_true, if_false]
  refine wpAny_bind (wpAny_holding (iter_set1 hD ?_))
  have hD1 : (s.heap.push (setiObj 0 0 (.ref D))).get? D = some (set1 bb led) := Heap.get?_push_of_some _ hD
  refine wpAny_bind (wpAny_holding ?_)
  unfold draw
  refine wpAny_bind (next_set1 (s := { s with heap := s.heap.push (setiObj 0 0 (.ref D)) }) hl hD1 (Heap.get?_push_size _ rfl) fun h2 slot hs2 hsl hi2 => ?_)
  dsimp only
  unfold draw
  refine wpAny_bind (wpAny_holding (wpAny_pure (wpAny_pure ?_)))
  simp only [List.length_cons, List.length_nil, Nat.lt_irrefl, if_false]
  have hD2 : h2.get? D = some (set1 bb led) := hs2.extBut _ _ hne hD1
  refine wpAny_bind (wpAny_holding (end_set1 (s := { s with heap := h2 }) hh hl hD2 hsl hi2 fun h3 hs3 => ?_))
  simp only [Option.isSome_none, Bool.false_eq_true, if_false]
  exact wpAny_pure (h h3 fun a o e => hs3 a o (Nat.ne_of_lt (Heap.lt_size e)) (hs2.extBut a o (Nat.ne_of_lt (Heap.lt_size e)) (Heap.get?_push_of_some _ e)))
end

noncomputable def CmpGives (op : CmpOp) (y x : Value) (b : Bool) : Prop :=
  ∀ (prog : Program) (w : World) (A : Around) (E : Value → Shared → Prop) (s : Shared) (Q : Value → Shared → Prop), Q (.bool b) s → wpAny (model prog w) A (richCompare op y x) Q E s
theorem CmpGives.lt_str (x y : Str) (t u : Tok) : CmpGives .Lt (.str x t) (.str y u) (x.cps.toList < y.cps.toList) := fun _ _ _ _ _ _ h => PyProof.Rows.lt_str h

noncomputable def lexLt (e lt : Nat → Bool) (m n : Nat) : Nat → Nat → Bool
  | _, 0 => decide (m < n)
  | i, k + 1 => if e i = true then lexLt e lt m n (i + 1) k else lt i
theorem lt_loop (l b : Addr) (items items2 : Array Value) (n n2 : Nat) (e lt : Nat → Bool)
    (he : ∀ j (h1 : j < items.size) (h2 : j < items2.size), MeetsSeq.EqGives items[j] items2[j] (e j)) (hc : ∀ j (h1 : j < items.size) (h2 : j < items2.size), e j = false → CmpGives .Lt items[j] items2[j] (lt j)) (k : Nat) :
    ∀ i : Nat, min items.size items2.size - i = k → i ≤ min items.size items2.size → Meets (Builtin.«list.__eq__.loop» ⟨[.ref l, .ref b, rawInt i, rawInt 0], []⟩)
      (fun _ R s => s.heap.get? l = some { cls := .type "list", dict := none, data := .seq items n, slots := #[] } ∧ s.heap.get? b = some { cls := .type "list", dict := none, data := .seq items2 n2, slots := #[] } ∧
        R (.ok (.ret (.bool (lexLt e lt items.size items2.size i k)))) s) := by
  induction k with
  | zero =>
    intro i hk hi prog w A R s h
    obtain ⟨hp, g, d, tk, os⟩ := s; obtain ⟨hl, hb, h⟩ := h
    wp_walk using AutoSeq1.wpAny_loadPart' hl, AutoSeq1.wpAny_loadPart' hb
    by_cases h1 : i < items.size
    · have hi1 : items[((i : Nat) : Int).toNat]? = some items[i] := by simp [h1]
      have hi2 : items2[((i : Nat) : Int).toNat]? = none := by simp; (first | lia | omega)
      rw [hi1, hi2]
      wp_walk using AutoSeq1.wpAny_loadPart' hl, AutoSeq1.wpAny_loadPart' hb
      exact h
    · have hi1 : items[((i : Nat) : Int).toNat]? = none := by simp; (first | lia | omega)
      rw [hi1]
      wp_walk using AutoSeq1.wpAny_loadPart' hl, AutoSeq1.wpAny_loadPart' hb
      exact h
  | succ k ih =>
    intro i hk hi prog w A R s h
    obtain ⟨hp, g, d, tk, os⟩ := s; obtain ⟨hl, hb, h⟩ := h
    wp_walk using AutoSeq1.wpAny_loadPart' hl, AutoSeq1.wpAny_loadPart' hb
    have hlt : i < items.size := by (first | lia | omega)
    have hlt2 : i < items2.size := by (first | lia | omega)
    have hi1 : items[((i : Nat) : Int).toNat]? = some items[i] := by simp [hlt]
    have hi2 : items2[((i : Nat) : Int).toNat]? = some items2[i] := by simp [hlt2]
    have hcc : ((i : Int) + 1) = ((i + 1 : Nat) : Int) := by push_cast; rfl
    rw [lexLt] at h
    rw [hi1, hi2]
    refine wpAny_bind (he i hlt hlt2 prog w _ _ _ _ ?_)
    cases hb' : e i with
    | true =>
      rw [hb', if_pos rfl] at h
      wp_walk
      rw [hcc]
      exact ⟨plainId_quiet MeetsSeq3.plain_eq_loop _, codeAny_builtin MeetsSeq3.entry_eq_loop (by
        rw [Around.under_plainId MeetsSeq3.plain_eq_loop _]
        exact ih (i + 1) (by (first | lia | omega)) (by (first | lia | omega)) prog w A R _ ⟨hl, hb, h⟩)⟩
    | false =>
      rw [hb', if_neg (by decide)] at h
      wp_walk using AutoSeq1.wpAny_loadPart' hl, AutoSeq1.wpAny_loadPart' hb
      rw [hi1, hi2]
      refine wpAny_bind (hc i hlt hlt2 hb' prog w _ _ _ _ ?_)
      wp_walk
      exact h
theorem list_lt (l b : Addr) (items items2 : Array Value) (n n2 : Nat) (e lt : Nat → Bool)
    (he : ∀ j (h1 : j < items.size) (h2 : j < items2.size), MeetsSeq.EqGives items[j] items2[j] (e j)) (hc : ∀ j (h1 : j < items.size) (h2 : j < items2.size), e j = false → CmpGives .Lt items[j] items2[j] (lt j)) :
    Meets (Builtin.«list.__lt__» ⟨[.ref l, .ref b], []⟩)
      (fun _ R s => s.heap.get? l = some { cls := .type "list", dict := none, data := .seq items n, slots := #[] } ∧ s.heap.get? b = some { cls := .type "list", dict := none, data := .seq items2 n2, slots := #[] } ∧
        R (.ok (.ret (.bool (lexLt e lt items.size items2.size 0 (min items.size items2.size))))) s) := by
  intro prog w A R s h
  obtain ⟨hp, g, d, tk, os⟩ := s; obtain ⟨hl, hb, h⟩ := h
  have f3 := AutoSeq1.sub_list_list
  wp_walk using AutoSeq1.wpAny_loadPart' hl, AutoSeq1.wpAny_loadPart' hb
  exact ⟨plainId_quiet MeetsSeq3.plain_eq_loop _, codeAny_builtin MeetsSeq3.entry_eq_loop (by
    rw [Around.under_plainId MeetsSeq3.plain_eq_loop _]
    exact lt_loop l b items items2 n n2 e lt he hc _ 0 rfl (Nat.zero_le _) prog w A R _ ⟨hl, hb, h⟩)⟩


noncomputable def lexGt (e lt : Nat → Bool) (m n : Nat) : Nat → Nat → Bool
  | _, 0 => decide (m > n)
  | i, k + 1 => if e i = true then lexGt e lt m n (i + 1) k else lt i
theorem gt_loop (l b : Addr) (items items2 : Array Value) (n n2 : Nat) (e lt : Nat → Bool)
    (he : ∀ j (h1 : j < items.size) (h2 : j < items2.size), MeetsSeq.EqGives items[j] items2[j] (e j)) (hc : ∀ j (h1 : j < items.size) (h2 : j < items2.size), e j = false → CmpGives .Gt items[j] items2[j] (lt j)) (k : Nat) :
    ∀ i : Nat, min items.size items2.size - i = k → i ≤ min items.size items2.size → Meets (Builtin.«list.__eq__.loop» ⟨[.ref l, .ref b, rawInt i, rawInt 4], []⟩)
      (fun _ R s => s.heap.get? l = some { cls := .type "list", dict := none, data := .seq items n, slots := #[] } ∧ s.heap.get? b = some { cls := .type "list", dict := none, data := .seq items2 n2, slots := #[] } ∧
        R (.ok (.ret (.bool (lexGt e lt items.size items2.size i k)))) s) := by
  induction k with
  | zero =>
    intro i hk hi prog w A R s h
    obtain ⟨hp, g, d, tk, os⟩ := s; obtain ⟨hl, hb, h⟩ := h
    wp_walk using AutoSeq1.wpAny_loadPart' hl, AutoSeq1.wpAny_loadPart' hb
    by_cases h1 : i < items.size
    · have hi1 : items[((i : Nat) : Int).toNat]? = some items[i] := by simp [h1]
      have hi2 : items2[((i : Nat) : Int).toNat]? = none := by simp; (first | lia | omega)
      rw [hi1, hi2]
      wp_walk using AutoSeq1.wpAny_loadPart' hl, AutoSeq1.wpAny_loadPart' hb
      exact h
    · have hi1 : items[((i : Nat) : Int).toNat]? = none := by simp; (first | lia | omega)
      rw [hi1]
      wp_walk using AutoSeq1.wpAny_loadPart' hl, AutoSeq1.wpAny_loadPart' hb
      exact h
  | succ k ih =>
    intro i hk hi prog w A R s h
    obtain ⟨hp, g, d, tk, os⟩ := s; obtain ⟨hl, hb, h⟩ := h
    wp_walk using AutoSeq1.wpAny_loadPart' hl, AutoSeq1.wpAny_loadPart' hb
    have hlt : i < items.size := by (first | lia | omega)
    have hlt2 : i < items2.size := by (first | lia | omega)
    have hi1 : items[((i : Nat) : Int).toNat]? = some items[i] := by simp [hlt]
    have hi2 : items2[((i : Nat) : Int).toNat]? = some items2[i] := by simp [hlt2]
    have hcc : ((i : Int) + 1) = ((i + 1 : Nat) : Int) := by push_cast; rfl
    rw [lexGt] at h
    rw [hi1, hi2]
    refine wpAny_bind (he i hlt hlt2 prog w _ _ _ _ ?_)
    cases hb' : e i with
    | true =>
      rw [hb', if_pos rfl] at h
      wp_walk
      rw [hcc]
      exact ⟨plainId_quiet MeetsSeq3.plain_eq_loop _, codeAny_builtin MeetsSeq3.entry_eq_loop (by
        rw [Around.under_plainId MeetsSeq3.plain_eq_loop _]
        exact ih (i + 1) (by (first | lia | omega)) (by (first | lia | omega)) prog w A R _ ⟨hl, hb, h⟩)⟩
    | false =>
      rw [hb', if_neg (by decide)] at h
      wp_walk using AutoSeq1.wpAny_loadPart' hl, AutoSeq1.wpAny_loadPart' hb
      rw [hi1, hi2]
      refine wpAny_bind (hc i hlt hlt2 hb' prog w _ _ _ _ ?_)
      wp_walk
      exact h
theorem list_gt (l b : Addr) (items items2 : Array Value) (n n2 : Nat) (e lt : Nat → Bool)
    (he : ∀ j (h1 : j < items.size) (h2 : j < items2.size), MeetsSeq.EqGives items[j] items2[j] (e j)) (hc : ∀ j (h1 : j < items.size) (h2 : j < items2.size), e j = false → CmpGives .Gt items[j] items2[j] (lt j)) :
    Meets (Builtin.«list.__gt__» ⟨[.ref l, .ref b], []⟩)
      (fun _ R s => s.heap.get? l = some { cls := .type "list", dict := none, data := .seq items n, slots := #[] } ∧ s.heap.get? b = some { cls := .type "list", dict := none, data := .seq items2 n2, slots := #[] } ∧
        R (.ok (.ret (.bool (lexGt e lt items.size items2.size 0 (min items.size items2.size))))) s) := by
  intro prog w A R s h
  obtain ⟨hp, g, d, tk, os⟩ := s; obtain ⟨hl, hb, h⟩ := h
  have f3 := AutoSeq1.sub_list_list
  wp_walk using AutoSeq1.wpAny_loadPart' hl, AutoSeq1.wpAny_loadPart' hb
  exact ⟨plainId_quiet MeetsSeq3.plain_eq_loop _, codeAny_builtin MeetsSeq3.entry_eq_loop (by
    rw [Around.under_plainId MeetsSeq3.plain_eq_loop _]
    exact gt_loop l b items items2 n n2 e lt he hc _ 0 rfl (Nat.zero_le _) prog w A R _ ⟨hl, hb, h⟩)⟩


noncomputable def Kept (led : List (Addr × Obj)) (h : Heap) : Prop := ∀ p ∈ led, h.get? p.1 = some p.2
noncomputable def CmpAt (prog : Program) (w : World) (A : Around) (op : CmpOp) (P : Nat → Value → Prop) (bt : Nat → Nat → Bool) (led : List (Addr × Obj)) : Prop :=
  ∀ i j vi vj (s : Shared) (Q : Value → Shared → Prop) (E : Value → Shared → Prop), Kept led s.heap → P i vi → P j vj → Q (.bool (bt i j)) s → wpAny (model prog w) A (richCompare op vi vj) Q E s

section
variable {prog : Program} {w : World} {A : Around} {R : Result → Shared → Prop} {I : Addr} {fp wr : List Addr} {n : Nat} {P : Nat → Value → Prop} {St : Nat → Heap → Prop} {led : List (Addr × Obj)}
theorem min_turns (W : Walks prog w A.in1 I fp wr n P St) (bt : Nat → Nat → Bool) (hcmp : CmpAt prog w A.in1 .Lt P bt led) (S : Addr) (hSf : S ∉ fp) (hlS : ∀ p ∈ led, p.1 ≠ S) (hlw : ∀ p ∈ led, p.1 ∉ wr) :
    ∀ (k j : Nat) (s : Shared) (vb : Value) (c : Nat), n - (j + 1) = k → j + 1 ≤ n → St (j + 1) s.heap → Kept led s.heap → P (argBest bt j) vb →
    s.heap.get? S = some { cls := .type "list", dict := none, data := .seq #[vb, vb] c, slots := #[] } →
    (∀ v h' tk, P (argBest bt (n - 1)) v → (∀ b o, b ∉ wr → b ≠ S → s.heap.get? b = some o → h'.get? b = some o) → R (.ok (.ret v)) { s with heap := h', toks := tk }) →
    codeAny (model prog w) A (.builtin "min.loop" ⟨[.ref I, .none, .ref S], []⟩) R s := by
  have hSw : S ∉ wr := fun h => hSf (W.sub _ h)
  have hname : (toString "min" ++ toString ".loop" : String) = "min.loop" := by decide
  intro k
  induction k with
  | zero =>
    intro j s vb c hk hj hst hK hPb hS hR
    have hin : j + 1 = n := by omega
    refine codeAny_builtin F.entry_min_loop ?_
    rw [Around.under_plainId F.plain_min_loop _]
    show wpAny _ A.in1 (seqItems? (.ref S) >>= _) _ _ s
    refine wpAny_bind (wpAny_seqItems hS rfl ?_)
    show wpAny _ A.in1 (tryCatch (pyNext (.ref I)) _ >>= _) _ _ s
    refine wpAny_bind (wpAny_tryCatch (W.done s _ _ (hin ▸ hst) fun h' tk hk' => ?_))
    have hS' := hk' S _ hSw hS
    show wpAny _ A.in1 (updateSeq S (fun _ => #[]) >>= _) _ _ _
    refine wpAny_bind ?_
    refine wpAny_updateSeq hS' rfl (wpAny_bind (wpAny_letGo (wpAny_pure ?_)))
    refine hR vb _ tk (by rw [← hin]; exact hPb) fun b o hbw hbS e => (Heap.get?_update_other _ _ (Ne.symm hbS)).trans (hk' b o hbw e)
  | succ k ih =>
    intro j s vb c hk hj hst hK hPb hS hR
    have hlt : j + 1 < n := by omega
    refine codeAny_builtin F.entry_min_loop ?_
    rw [Around.under_plainId F.plain_min_loop _]
    show wpAny _ A.in1 (seqItems? (.ref S) >>= _) _ _ s
    refine wpAny_bind (wpAny_seqItems hS rfl ?_)
    show wpAny _ A.in1 (tryCatch (pyNext (.ref I)) _ >>= _) _ _ s
    refine wpAny_bind (wpAny_tryCatch (W.item (j + 1) s _ _ hlt hst fun v h' tk hP hst' hk' => ?_))
    have hS' := hk' S _ hSw hS
    have hK' : Kept led h' := fun p hp => hk' _ _ (hlw p hp) (hK p hp)
    show wpAny _ A.in1 (tryCatch (holding [v, v] (richCompare .Lt v vb >>= _)) _ >>= _) _ _ _
    refine wpAny_bind (wpAny_tryCatch (wpAny_holding (wpAny_bind (hcmp (j + 1) (argBest bt j) v vb _ _ _ hK' hP hPb ?_))))
    refine wpAny_bind (wpAny_holding (wpAny_truthy_bool ?_))
    refine wpAny_bind (wpAny_letGo (wpAny_pure ?_))
    cases hb : bt (j + 1) (argBest bt j) with
    | true =>
      simp only [if_true]
      refine wpAny_bind ?_
      refine wpAny_updateSeq hS' rfl (wpAny_bind (wpAny_letGo ?_))
      rw [hname]
      refine wpAny_pure ⟨plainId_quiet F.plain_min_loop _, ih (j + 1) _ v _ (by omega) hlt (W.frame _ _ _ hst' fun b hbf o e => ?_) (fun p hp => (Heap.get?_update_other _ _ (Ne.symm (hlS p hp))).trans (hK' p hp)) (by simp only [argBest, hb, if_true]; exact hP) (Heap.get?_update_self _ hS' rfl)
        fun v' h'' tk'' hP' hk'' => ?_⟩
      · exact (Heap.get?_update_other _ _ (fun h : S = b => hSf (by rw [h]; exact hbf))).trans e
      · exact hR v' h'' tk'' hP' fun b o hbw hbS e => hk'' b o hbw hbS ((Heap.get?_update_other _ _ (Ne.symm hbS)).trans (hk' b o hbw e))
    | false =>
      simp only [Bool.false_eq_true, if_false]
      refine wpAny_bind (wpAny_letGo ?_)
      rw [hname]
      refine wpAny_pure ⟨plainId_quiet F.plain_min_loop _, ih (j + 1) _ vb c (by omega) hlt hst' hK' (by simp only [argBest, hb, Bool.false_eq_true, if_false]; exact hPb) hS' fun v' h'' tk'' hP' hk'' => ?_⟩
      exact hR v' h'' tk'' hP' fun b o hbw hbS e => hk'' b o hbw hbS (hk' b o hbw e)
theorem min_start (W : Walks prog w A.in1 I fp wr n P St) (bt : Nat → Nat → Bool) (hcmp : CmpAt prog w A.in1 .Lt P bt led) (S : Addr) (hSf : S ∉ fp) (hlS : ∀ p ∈ led, p.1 ≠ S) (hlw : ∀ p ∈ led, p.1 ∉ wr) (hn : 0 < n) {s : Shared} {c : Nat} (hst : St 0 s.heap) (hK : Kept led s.heap)
    (hS : s.heap.get? S = some { cls := .type "list", dict := none, data := .seq #[] c, slots := #[] })
    (hR : ∀ v h' tk, P (argBest bt (n - 1)) v → (∀ b o, b ∉ wr → b ≠ S → s.heap.get? b = some o → h'.get? b = some o) → R (.ok (.ret v)) { s with heap := h', toks := tk }) :
    codeAny (model prog w) A (.builtin "min.loop" ⟨[.ref I, .none, .ref S], []⟩) R s := by
  have hSw : S ∉ wr := fun h => hSf (W.sub _ h)
  have hname : (toString "min" ++ toString ".loop" : String) = "min.loop" := by decide
  refine codeAny_builtin F.entry_min_loop ?_
  rw [Around.under_plainId F.plain_min_loop _]
  show wpAny _ A.in1 (seqItems? (.ref S) >>= _) _ _ s
  refine wpAny_bind (wpAny_seqItems hS rfl ?_)
  show wpAny _ A.in1 (tryCatch (pyNext (.ref I)) _ >>= _) _ _ s
  refine wpAny_bind (wpAny_tryCatch (W.item 0 s _ _ hn hst fun v h' tk hP hst' hk' => ?_))
  have hS' := hk' S _ hSw hS
  show wpAny _ A.in1 (updateSeq S (fun _ => #[v, v]) >>= _) _ _ _
  refine wpAny_bind ?_
  refine wpAny_updateSeq hS' rfl ?_
  rw [hname]
  refine wpAny_pure ⟨plainId_quiet F.plain_min_loop _, min_turns W bt hcmp S hSf hlS hlw _ 0 _ v _ rfl hn (W.frame _ _ _ hst' fun b hbf o e => ?_) (fun p hp => (Heap.get?_update_other _ _ (Ne.symm (hlS p hp))).trans (hk' _ _ (hlw p hp) (hK p hp))) hP (Heap.get?_update_self _ hS' rfl) fun v' h'' tk'' hP' hk'' => ?_⟩
  · exact (Heap.get?_update_other _ _ (fun h : S = b => hSf (by rw [h]; exact hbf))).trans e
  · exact hR v' h'' tk'' hP' fun b o hbw hbS e => hk'' b o hbw hbS ((Heap.get?_update_other _ _ (Ne.symm hbS)).trans (hk' b o hbw e))
end
theorem min_of {prog : Program} {w : World} {A : Around} {E : Value → Shared → Prop} {s : Shared} {x : Value} {Q : Value → Shared → Prop}
    (h : wpAny (model prog w) A.in1 (pyIter x) (fun it s₂ => ∃ I fp wr n P St bt led, it = .ref I ∧ Walks prog w A.in1 I fp wr n P St ∧ St 0 s₂.heap ∧ (∀ b ∈ fp, b < s₂.heap.objs.size) ∧ 0 < n ∧ CmpAt prog w A.in1 .Lt P bt led ∧ Kept led s₂.heap ∧ (∀ p ∈ led, p.1 ∉ wr) ∧
      ∀ v h' tk, P (argBest bt (n - 1)) v → (∀ b o, b ∉ wr → s₂.heap.get? b = some o → h'.get? b = some o) → Q v { s₂ with heap := h', toks := tk }) E s) :
    wpAny (model prog w) A (call (.builtin "min") [x]) Q E s := by
  have hname : (toString "min" ++ toString ".loop" : String) = "min.loop" := by decide
  refine call_function_tree F.kind_min F.plain_min F.entry_min (F.args_min1 _) ?_
  show wpAny _ A.in1 (Builtin.Builtins.bindParams "min" ["key", "default"] 0 ⟨[], []⟩ >>= _) _ _ s
  refine wpAny_bind (wpAny_of_eq (show Builtin.Builtins.bindParams "min" ["key", "default"] 0 ⟨[], []⟩ = pure [none, none] from rfl) ?_)
  refine wpAny_bind (wpAny_pure ?_)
  refine wpAny_bind (wpAny_mono h (fun it s₂ h₂ => ?_) fun _ _ e => e)
  obtain ⟨I, fp, wr, n, P, St, bt, led, rfl, W, hst, hfp, hn, hcmp, hK, hlw, hQ⟩ := h₂
  refine wpAny_bind (wpAny_newObj_type ?_)
  have hSf : s₂.heap.objs.size ∉ fp := fun hm => Nat.lt_irrefl _ (hfp _ hm)
  rw [hname]
  refine wpAny_pure ⟨plainId_quiet F.plain_min_loop _, min_start W bt hcmp s₂.heap.objs.size hSf (fun p hp => Nat.ne_of_lt (Heap.lt_size (hK p hp))) hlw hn (W.frame _ _ _ hst fun b _ o e => Heap.get?_push_of_some _ e) (fun p hp => Heap.get?_push_of_some _ (hK p hp)) (Heap.get?_push_size _ rfl) fun v h' tk hP hk => ?_⟩
  exact hQ v h' tk hP fun b o hbw e => hk b o hbw (Nat.ne_of_lt (Heap.lt_size e)) (Heap.get?_push_of_some _ e)


section
variable {prog : Program} {w : World} {A : Around} {R : Result → Shared → Prop} {I : Addr} {fp wr : List Addr} {n : Nat} {P : Nat → Value → Prop} {St : Nat → Heap → Prop} {led : List (Addr × Obj)}
theorem max_turns (W : Walks prog w A.in1 I fp wr n P St) (bt : Nat → Nat → Bool) (hcmp : CmpAt prog w A.in1 .Gt P bt led) (S : Addr) (hSf : S ∉ fp) (hlS : ∀ p ∈ led, p.1 ≠ S) (hlw : ∀ p ∈ led, p.1 ∉ wr) :
    ∀ (k j : Nat) (s : Shared) (vb : Value) (c : Nat), n - (j + 1) = k → j + 1 ≤ n → St (j + 1) s.heap → Kept led s.heap → P (argBest bt j) vb →
    s.heap.get? S = some { cls := .type "list", dict := none, data := .seq #[vb, vb] c, slots := #[] } →
    (∀ v h' tk, P (argBest bt (n - 1)) v → (∀ b o, b ∉ wr → b ≠ S → s.heap.get? b = some o → h'.get? b = some o) → R (.ok (.ret v)) { s with heap := h', toks := tk }) →
    codeAny (model prog w) A (.builtin "max.loop" ⟨[.ref I, .none, .ref S], []⟩) R s := by
  have hSw : S ∉ wr := fun h => hSf (W.sub _ h)
  have hname : (toString "max" ++ toString ".loop" : String) = "max.loop" := by decide
  intro k
  induction k with
  | zero =>
    intro j s vb c hk hj hst hK hPb hS hR
    have hin : j + 1 = n := by omega
    refine codeAny_builtin F.entry_max_loop ?_
    rw [Around.under_plainId F.plain_max_loop _]
    show wpAny _ A.in1 (seqItems? (.ref S) >>= _) _ _ s
    refine wpAny_bind (wpAny_seqItems hS rfl ?_)
    show wpAny _ A.in1 (tryCatch (pyNext (.ref I)) _ >>= _) _ _ s
    refine wpAny_bind (wpAny_tryCatch (W.done s _ _ (hin ▸ hst) fun h' tk hk' => ?_))
    have hS' := hk' S _ hSw hS
    show wpAny _ A.in1 (updateSeq S (fun _ => #[]) >>= _) _ _ _
    refine wpAny_bind ?_
    refine wpAny_updateSeq hS' rfl (wpAny_bind (wpAny_letGo (wpAny_pure ?_)))
    refine hR vb _ tk (by rw [← hin]; exact hPb) fun b o hbw hbS e => (Heap.get?_update_other _ _ (Ne.symm hbS)).trans (hk' b o hbw e)
  | succ k ih =>
    intro j s vb c hk hj hst hK hPb hS hR
    have hlt : j + 1 < n := by omega
    refine codeAny_builtin F.entry_max_loop ?_
    rw [Around.under_plainId F.plain_max_loop _]
    show wpAny _ A.in1 (seqItems? (.ref S) >>= _) _ _ s
    refine wpAny_bind (wpAny_seqItems hS rfl ?_)
    show wpAny _ A.in1 (tryCatch (pyNext (.ref I)) _ >>= _) _ _ s
    refine wpAny_bind (wpAny_tryCatch (W.item (j + 1) s _ _ hlt hst fun v h' tk hP hst' hk' => ?_))
    have hS' := hk' S _ hSw hS
    have hK' : Kept led h' := fun p hp => hk' _ _ (hlw p hp) (hK p hp)
    show wpAny _ A.in1 (tryCatch (holding [v, v] (richCompare .Gt v vb >>= _)) _ >>= _) _ _ _
    refine wpAny_bind (wpAny_tryCatch (wpAny_holding (wpAny_bind (hcmp (j + 1) (argBest bt j) v vb _ _ _ hK' hP hPb ?_))))
    refine wpAny_bind (wpAny_holding (wpAny_truthy_bool ?_))
    refine wpAny_bind (wpAny_letGo (wpAny_pure ?_))
    cases hb : bt (j + 1) (argBest bt j) with
    | true =>
      simp only [if_true]
      refine wpAny_bind ?_
      refine wpAny_updateSeq hS' rfl (wpAny_bind (wpAny_letGo ?_))
      rw [hname]
      refine wpAny_pure ⟨plainId_quiet F.plain_max_loop _, ih (j + 1) _ v _ (by omega) hlt (W.frame _ _ _ hst' fun b hbf o e => ?_) (fun p hp => (Heap.get?_update_other _ _ (Ne.symm (hlS p hp))).trans (hK' p hp)) (by simp only [argBest, hb, if_true]; exact hP) (Heap.get?_update_self _ hS' rfl)
        fun v' h'' tk'' hP' hk'' => ?_⟩
      · exact (Heap.get?_update_other _ _ (fun h : S = b => hSf (by rw [h]; exact hbf))).trans e
      · exact hR v' h'' tk'' hP' fun b o hbw hbS e => hk'' b o hbw hbS ((Heap.get?_update_other _ _ (Ne.symm hbS)).trans (hk' b o hbw e))
    | false =>
      simp only [Bool.false_eq_true, if_false]
      refine wpAny_bind (wpAny_letGo ?_)
      rw [hname]
      refine wpAny_pure ⟨plainId_quiet F.plain_max_loop _, ih (j + 1) _ vb c (by omega) hlt hst' hK' (by simp only [argBest, hb, Bool.false_eq_true, if_false]; exact hPb) hS' fun v' h'' tk'' hP' hk'' => ?_⟩
      exact hR v' h'' tk'' hP' fun b o hbw hbS e => hk'' b o hbw hbS (hk' b o hbw e)
theorem max_start (W : Walks prog w A.in1 I fp wr n P St) (bt : Nat → Nat → Bool) (hcmp : CmpAt prog w A.in1 .Gt P bt led) (S : Addr) (hSf : S ∉ fp) (hlS : ∀ p ∈ led, p.1 ≠ S) (hlw : ∀ p ∈ led, p.1 ∉ wr) (hn : 0 < n) {s : Shared} {c : Nat} (hst : St 0 s.heap) (hK : Kept led s.heap)
    (hS : s.heap.get? S = some { cls := .type "list", dict := none, data := .seq #[] c, slots := #[] })
    (hR : ∀ v h' tk, P (argBest bt (n - 1)) v → (∀ b o, b ∉ wr → b ≠ S → s.heap.get? b = some o → h'.get? b = some o) → R (.ok (.ret v)) { s with heap := h', toks := tk }) :
    codeAny (model prog w) A (.builtin "max.loop" ⟨[.ref I, .none, .ref S], []⟩) R s := by
  have hSw : S ∉ wr := fun h => hSf (W.sub _ h)
  have hname : (toString "max" ++ toString ".loop" : String) = "max.loop" := by decide
  refine codeAny_builtin F.entry_max_loop ?_
  rw [Around.under_plainId F.plain_max_loop _]
  show wpAny _ A.in1 (seqItems? (.ref S) >>= _) _ _ s
  refine wpAny_bind (wpAny_seqItems hS rfl ?_)
  show wpAny _ A.in1 (tryCatch (pyNext (.ref I)) _ >>= _) _ _ s
  refine wpAny_bind (wpAny_tryCatch (W.item 0 s _ _ hn hst fun v h' tk hP hst' hk' => ?_))
  have hS' := hk' S _ hSw hS
  show wpAny _ A.in1 (updateSeq S (fun _ => #[v, v]) >>= _) _ _ _
  refine wpAny_bind ?_
  refine wpAny_updateSeq hS' rfl ?_
  rw [hname]
  refine wpAny_pure ⟨plainId_quiet F.plain_max_loop _, max_turns W bt hcmp S hSf hlS hlw _ 0 _ v _ rfl hn (W.frame _ _ _ hst' fun b hbf o e => ?_) (fun p hp => (Heap.get?_update_other _ _ (Ne.symm (hlS p hp))).trans (hk' _ _ (hlw p hp) (hK p hp))) hP (Heap.get?_update_self _ hS' rfl) fun v' h'' tk'' hP' hk'' => ?_⟩
  · exact (Heap.get?_update_other _ _ (fun h : S = b => hSf (by rw [h]; exact hbf))).trans e
  · exact hR v' h'' tk'' hP' fun b o hbw hbS e => hk'' b o hbw hbS ((Heap.get?_update_other _ _ (Ne.symm hbS)).trans (hk' b o hbw e))
end
theorem max_of {prog : Program} {w : World} {A : Around} {E : Value → Shared → Prop} {s : Shared} {x : Value} {Q : Value → Shared → Prop}
    (h : wpAny (model prog w) A.in1 (pyIter x) (fun it s₂ => ∃ I fp wr n P St bt led, it = .ref I ∧ Walks prog w A.in1 I fp wr n P St ∧ St 0 s₂.heap ∧ (∀ b ∈ fp, b < s₂.heap.objs.size) ∧ 0 < n ∧ CmpAt prog w A.in1 .Gt P bt led ∧ Kept led s₂.heap ∧ (∀ p ∈ led, p.1 ∉ wr) ∧
      ∀ v h' tk, P (argBest bt (n - 1)) v → (∀ b o, b ∉ wr → s₂.heap.get? b = some o → h'.get? b = some o) → Q v { s₂ with heap := h', toks := tk }) E s) :
    wpAny (model prog w) A (call (.builtin "max") [x]) Q E s := by
  have hname : (toString "max" ++ toString ".loop" : String) = "max.loop" := by decide
  refine call_function_tree F.kind_max F.plain_max F.entry_max (F.args_max1 _) ?_
  show wpAny _ A.in1 (Builtin.Builtins.bindParams "max" ["key", "default"] 0 ⟨[], []⟩ >>= _) _ _ s
  refine wpAny_bind (wpAny_of_eq (show Builtin.Builtins.bindParams "max" ["key", "default"] 0 ⟨[], []⟩ = pure [none, none] from rfl) ?_)
  refine wpAny_bind (wpAny_pure ?_)
  refine wpAny_bind (wpAny_mono h (fun it s₂ h₂ => ?_) fun _ _ e => e)
  obtain ⟨I, fp, wr, n, P, St, bt, led, rfl, W, hst, hfp, hn, hcmp, hK, hlw, hQ⟩ := h₂
  refine wpAny_bind (wpAny_newObj_type ?_)
  have hSf : s₂.heap.objs.size ∉ fp := fun hm => Nat.lt_irrefl _ (hfp _ hm)
  rw [hname]
  refine wpAny_pure ⟨plainId_quiet F.plain_max_loop _, max_start W bt hcmp s₂.heap.objs.size hSf (fun p hp => Nat.ne_of_lt (Heap.lt_size (hK p hp))) hlw hn (W.frame _ _ _ hst fun b _ o e => Heap.get?_push_of_some _ e) (fun p hp => Heap.get?_push_of_some _ (hK p hp)) (Heap.get?_push_size _ rfl) fun v h' tk hP hk => ?_⟩
  exact hQ v h' tk hP fun b o hbw e => hk b o hbw (Nat.ne_of_lt (Heap.lt_size e)) (Heap.get?_push_of_some _ e)


theorem CmpGives.gt_str (x y : Str) (t u : Tok) : CmpGives .Gt (.str x t) (.str y u) (y.cps.toList < x.cps.toList) := fun _ _ _ _ s _ h =>
  richCompare_gives (op := .Gt) (typeIs_str s x t) (typeIs_str s y u) F.slot_str_gt F.entry_str_gt (F.args_str_gt_2 _ _) (gives_str_gt x y t u) (fun e => nomatch e) h
theorem strsGet {us : List Value} {xs : List Str} (h : StrsAre us xs) (j : Nat) (hj : j < us.length) : ∃ t, us[j] = .str (xs.getD j "") t := by
  have hj' : j < xs.length := h.length ▸ hj
  obtain ⟨t, e⟩ := h.get j xs[j] (by simp [hj'])
  refine ⟨t, ?_⟩
  have : xs.getD j "" = xs[j] := by simp [List.getD, hj']
  rw [this]
  have e2 : us[j]? = some us[j] := by simp [hj]
  rw [e2] at e
  exact Option.some.inj e

noncomputable def strsLt (xs ys : List Str) : Bool := lexLt (fun j => xs.getD j "" == ys.getD j "") (fun j => decide ((xs.getD j "").cps.toList < (ys.getD j "").cps.toList)) xs.length ys.length 0 (min xs.length ys.length)
theorem cmpLt {prog : Program} {w : World} {A : Around} {a b : Addr} {us vs : List Value} {xs ys : List Str} {k k' : Nat} {s : Shared} {Q : Value → Shared → Prop} {E : Value → Shared → Prop} (hu : A.units < cLine)
    (ha : s.heap.get? a = some (listOf us.toArray k)) (hb : s.heap.get? b = some (listOf vs.toArray k')) (hx : StrsAre us xs) (hy : StrsAre vs ys) (h : Q (.bool (strsLt xs ys)) s) : wpAny (model prog w) A (richCompare .Lt (.ref a) (.ref b)) Q E s := by
  refine richCompare_meets_room (op := .Lt) ⟨_, ha, rfl⟩ ⟨_, hb, rfl⟩ F.slot_list_lt F.entry_list_lt (F.args_list_lt_2 _ _)
    (list_lt a b us.toArray vs.toArray k k' (fun j => xs.getD j "" == ys.getD j "") (fun j => decide ((xs.getD j "").cps.toList < (ys.getD j "").cps.toList)) (fun j h1 h2 => ?_) (fun j h1 h2 _ => ?_)) ⟨ha, hb, ?_⟩ hu
  · obtain ⟨t, e1⟩ := strsGet hx j (by simpa using h1)
    obtain ⟨t', e2⟩ := strsGet hy j (by simpa using h2)
    have e1' : us.toArray[j] = _ := e1
    have e2' : vs.toArray[j] = _ := e2
    rw [e1', e2']
    exact eqGives_str _ _ _ _
  · obtain ⟨t, e1⟩ := strsGet hx j (by simpa using h1)
    obtain ⟨t', e2⟩ := strsGet hy j (by simpa using h2)
    have e1' : us.toArray[j] = _ := e1
    have e2' : vs.toArray[j] = _ := e2
    rw [e1', e2']
    exact CmpGives.lt_str _ _ _ _
  · refine ⟨fun z => (nomatch z), ?_⟩
    rw [List.size_toArray, List.size_toArray, hx.length, hy.length]
    exact h


noncomputable def strsGt (xs ys : List Str) : Bool := lexGt (fun j => xs.getD j "" == ys.getD j "") (fun j => decide ((ys.getD j "").cps.toList < (xs.getD j "").cps.toList)) xs.length ys.length 0 (min xs.length ys.length)
theorem cmpGt {prog : Program} {w : World} {A : Around} {a b : Addr} {us vs : List Value} {xs ys : List Str} {k k' : Nat} {s : Shared} {Q : Value → Shared → Prop} {E : Value → Shared → Prop} (hu : A.units < cLine)
    (ha : s.heap.get? a = some (listOf us.toArray k)) (hb : s.heap.get? b = some (listOf vs.toArray k')) (hx : StrsAre us xs) (hy : StrsAre vs ys) (h : Q (.bool (strsGt xs ys)) s) : wpAny (model prog w) A (richCompare .Gt (.ref a) (.ref b)) Q E s := by
  refine richCompare_meets_room (op := .Gt) ⟨_, ha, rfl⟩ ⟨_, hb, rfl⟩ F.slot_list_gt F.entry_list_gt (F.args_list_gt_2 _ _)
    (list_gt a b us.toArray vs.toArray k k' (fun j => xs.getD j "" == ys.getD j "") (fun j => decide ((ys.getD j "").cps.toList < (xs.getD j "").cps.toList)) (fun j h1 h2 => ?_) (fun j h1 h2 _ => ?_)) ⟨ha, hb, ?_⟩ hu
  · obtain ⟨t, e1⟩ := strsGet hx j (by simpa using h1)
    obtain ⟨t', e2⟩ := strsGet hy j (by simpa using h2)
    have e1' : us.toArray[j] = _ := e1
    have e2' : vs.toArray[j] = _ := e2
    rw [e1', e2']
    exact eqGives_str _ _ _ _
  · obtain ⟨t, e1⟩ := strsGet hx j (by simpa using h1)
    obtain ⟨t', e2⟩ := strsGet hy j (by simpa using h2)
    have e1' : us.toArray[j] = _ := e1
    have e2' : vs.toArray[j] = _ := e2
    rw [e1', e2']
    exact CmpGives.gt_str _ _ _ _
  · refine ⟨fun z => (nomatch z), ?_⟩
    rw [List.size_toArray, List.size_toArray, hx.length, hy.length]
    exact h


section
variable {w : World} {A : Around} {s : Shared} {g : Heap} {L : Addr} {m : Str → Option Value} {prog : Program} {env : Env} {news : List (Addr × Obj)}
noncomputable abbrev Nd (news : List (Addr × Obj)) : Prop := (news.map Prod.fst).Nodup
theorem nd_new {h : Heap} (N : News g L h news) : h.objs.size ∉ news.map Prod.fst := fun hm => by
  obtain ⟨p, hp, e⟩ := List.mem_map.mp hm
  exact absurd (Heap.lt_size (N p hp).1) (by rw [e]; exact Nat.lt_irrefl _)
theorem nd_fresh {h : Heap} {a : Addr} (N : News g L h news) (ha : h.get? a = none) : a ∉ news.map Prod.fst := fun hm => by
  obtain ⟨p, hp, e⟩ := List.mem_map.mp hm
  have := (N p hp).1
  rw [e, ha] at this; cases this
theorem nd_ne {a : Addr} (nd : a ∉ news.map Prod.fst) : ∀ p ∈ news, p.1 ≠ a := fun p hp e => nd (e ▸ List.mem_map_of_mem hp)
structure LoopT (prog : Program) (w : World) (A : Around) (env : Env) (target : Expr) (body : List Stmt) (Q : Flow → Shared → Prop) (it : Value) (s : Shared) : Prop where
  out : codeAny (model prog w) A (.forLoop target it body [] env) (fun r s' => match r with | .ok f => Q f s' | .error e => cameBackBy (model prog w) A env NoE e s') s
theorem forT {Q : Flow → Shared → Prop} {target iter : Expr} {pos : Pos} {body : List Stmt}
    (h : wpAny (model prog w) A (eval iter env) (fun xv s₁ => wpAny (model prog w) A (pyIter xv) (LoopT prog w A env target body Q) NoE s₁) NoE s)
    (hs : ∀ x, foldedSetIterable iter env x = pure x) : wpAny (model prog w) A (exec (.For target iter body [] pos) env) Q NoE s :=
  wpAny_For (wpAny_mono h (fun _ _ h₁ => wpAny_mono h₁ (fun _ _ h₂ => h₂.out) fun _ _ e => e) fun _ _ e => e) hs
theorem fresh_of (F : Fr g L s.heap m) {a : Addr} (ha : s.heap.get? a = none) : g.get? a = none ∧ a ≠ L := by
  constructor
  · cases q : g.get? a with
    | none => rfl
    | some o => rw [F.keep a o q] at ha; cases ha
  · obtain ⟨oL, _, _, hL, _⟩ := F.ns
    intro e; rw [e, hL] at ha; cases ha
noncomputable def TurnE (g : Heap) (L : Addr) (s : Shared) (led : List (Addr × Obj)) (J : Nat → (Str → Option Value) → Prop) (i : Nat) (Q : Flow → Shared → Prop) (f : Flow) (s₃ : Shared) : Prop :=
  match f with
  | .next | .cont => ∃ h tk m, s₃ = { s with heap := h, toks := tk } ∧ Fr g L h m ∧ News g L h led ∧ J (i + 1) m
  | .brk => Q .next s₃
  | .ret v => Q (.ret v) s₃
theorem cutN {t : Sem Flow} {Q : Flow → Shared → Prop} (P : List (Addr × Obj) → Shared → Prop) (N : News g L s.heap news) (h : wpAny (model prog w) A t (Behind (P news)) NoE s) (k : ∀ s', P news s' → Q .next s') : wpAny (model prog w) A t Q NoE s :=
  cutQ (P news) h k
/-- a loop over enumerate(list), the list in the ledger; the body touches names alone or leaves -/
inductive EnSt (s : Shared) (g : Heap) (L e it l : Addr) (vs : List Value) (news : List (Addr × Obj)) (J : Nat → (Str → Option Value) → Prop) (q : Nat) (s' : Shared) : Prop
  | mk (h : Heap) (tk : Nat) (m : Str → Option Value) (i : Nat) (es : s' = { s with heap := h, toks := tk }) (st : (∃ old, IsEnum h e it (i : Nat) old) ∧ h.IsListIter it l i ∧ h.IsList l vs.toArray) (F : Fr g L h m) (N : News g L h news) (hJ : J i m) (hi : i ≤ vs.length) (hq : q = vs.length + 1 - i)
theorem for_enum {Q : Flow → Shared → Prop} {elts : List Expr} {kk : Nat} {pos : Pos} {body : List Stmt} {e it l : Addr} {vs : List Value} {k : Nat} (J : Nat → (Str → Option Value) → Prop) (hh : A.handled = none)
    (F : Fr g L s.heap m) (N : News g L s.heap news) (hl : (l, listOf vs.toArray k) ∈ news) (he : IsEnum s.heap e it 0 .none) (hit : s.heap.IsListIter it l 0)
    (hei : e ≠ it) (ge : g.get? e = none) (gi : g.get? it = none) (eL : e ≠ L) (iL : it ≠ L) (ne : e ∉ news.map Prod.fst) (ni : it ∉ news.map Prod.fst) (h0 : J 0 m)
    (hn2 : (assignEach elts env).length = 2) (hstar : (assignEach elts env).findIdx? (·.1) = none)
    (turn : ∀ i v t m₁ h₁ tk₁ oe oi, vs[i]? = some v → J i m₁ → Fr g L h₁ m₁ → News g L h₁ ((e, oe) :: (it, oi) :: news) →
      wpAny (model prog w) A (assignInOrder ((assignEach elts env).map (·.2)) [.int (i : Nat) t, v]) (fun _ s₂ => wpAny (model prog w) A (execs body env)
        (TurnE g L s ((e, oe) :: (it, oi) :: news) J i Q) NoE s₂) NoE { s with heap := h₁, toks := tk₁ })
    (done : ∀ m₁ h₁ tk₁, J vs.length m₁ → Fr g L h₁ m₁ → News g L h₁ news → Q .next { s with heap := h₁, toks := tk₁ }) :
    LoopT prog w A env (.Tuple elts kk pos) body Q (.ref e) s := by
  have lne : l ≠ e := nd_ne ne _ hl
  have lni : l ≠ it := nd_ne ni _ hl
  have W := WalksT.enumerate (prog := prog) (w := w) hh e it l hei lne lni vs.toArray
  have hL : s.heap.IsList l vs.toArray := ⟨_, (N _ hl).1, rfl, _, rfl⟩
  refine ⟨codeAny_forLoop_any (EnSt s g L e it l vs news J) ?_ (vs.length + 1)
    ⟨s.heap, s.toks, m, 0, rfl, ⟨⟨_, he⟩, hit, hL⟩, F, N, h0, Nat.zero_le _, rfl⟩⟩
  rintro q s' ⟨h, tk, m', i, rfl, hst', F', N', hJ, hi, rfl⟩
  have nxt : ∀ h₁ h₂ : Heap, Fr g L h₁ m' → News g L h₁ news → (∀ b o, b ∉ [e, it] → h₁.get? b = some o → h₂.get? b = some o) → Fr g L h₂ m' ∧ News g L h₂ news := fun h₁ h₂ F1 N1 hk₁ =>
    ⟨⟨F1.ns.at' fun o x => hk₁ _ o (by simp; exact ⟨fun q => eL q.symm, fun q => iL q.symm⟩) x, fun b o x => hk₁ b o (by
        simp only [List.mem_cons, List.not_mem_nil, or_false, not_or]
        refine ⟨fun q => ?_, fun q => ?_⟩
        · rw [q, ge] at x; cases x
        · rw [q, gi] at x; cases x) (F1.keep b o x), F1.above⟩,
      fun p hp => ⟨hk₁ _ _ (by simp only [List.mem_cons, List.not_mem_nil, or_false, not_or]; exact ⟨nd_ne ne p hp, nd_ne ni p hp⟩) (N1 p hp).1, (N1 p hp).2⟩⟩
  by_cases hlt : i < vs.length
  · refine W.item i _ _ _ (by simpa using hlt) hst' fun T vals h₁ tk₁ hPt hTs hTt hM hk₁ => ?_
    obtain ⟨F₁, N₁⟩ := nxt h h₁ F' N' hk₁
    refine W.go _ _ _ i T _ _ _ hM fun h₂ hst₂ hk₂ => ?_
    obtain ⟨F₂, N₂⟩ := nxt h₁ h₂ F₁ N₁ hk₂
    obtain ⟨t, x, hx, rfl⟩ := hPt
    have hTw := W.apart _ _ _ hM
    obtain ⟨oT, hoT, hcT⟩ := hTt
    have hT2 : h₂.IsTuple T #[.int (i : Nat) t, x] := ⟨oT, hk₂ _ _ hTw hoT, hcT⟩
    obtain ⟨oe, hoe⟩ : ∃ oe, h₂.get? e = some oe := by obtain ⟨⟨old, z⟩, _⟩ := hst₂; exact ⟨_, z⟩
    obtain ⟨oi, hoi, hoi2⟩ := hst₂.2.1
    have N3 : News g L h₂ ((e, oe) :: (it, oi) :: news) := fun p hp => by
      rcases List.mem_cons.mp hp with rfl | hp
      · exact ⟨hoe, eL, ge⟩
      · rcases List.mem_cons.mp hp with rfl | hp
        · exact ⟨hoi, iL, gi⟩
        · exact N₂ p hp
    refine unpackN_ (s := { s with heap := h₂, toks := tk₁ }) F₂ N3 hT2 hh hn2 hstar fun h₃ F₃ N₄ => ?_
    refine wpAny_mono (turn i x t m' h₃ tk₁ oe oi (by simpa using hx) hJ F₃ N₄) (fun _ s₂ h₂ => wpAny_mono h₂ (fun f s₃ h₃ => ?_) fun _ _ e => e.elim) fun _ _ e => e.elim
    have fin : (∃ h tk m, s₃ = { s with heap := h, toks := tk } ∧ Fr g L h m ∧ News g L h ((e, oe) :: (it, oi) :: news) ∧ J (i + 1) m) → ∃ m, m < vs.length + 1 - i ∧ EnSt s g L e it l vs news J m s₃ := by
      rintro ⟨h4, tk4, m4, rfl, F4, N4, J4⟩
      refine ⟨vs.length + 1 - (i + 1), by omega, h4, tk4, m4, i + 1, rfl, ?_, F4, fun p hp => N4 p (.tail _ (.tail _ hp)), J4, by omega, rfl⟩
      refine W.frame _ _ _ hst₂ fun a ha o q => ?_
      simp only [List.mem_cons, List.not_mem_nil, or_false] at ha
      rcases ha with rfl | rfl | rfl
      · rw [hoe] at q; cases q; exact (N4 _ (.head _)).1
      · rw [hoi] at q; cases q; exact (N4 _ (.tail _ (.head _))).1
      · rw [(N₂ _ hl).1] at q; cases q; exact (N4 _ (.tail _ (.tail _ hl))).1
    cases f with
    | next => exact fin h₃
    | cont => exact fin h₃
    | brk => exact h₃
    | ret v => exact h₃
  · have hin : i = vs.length := by omega
    subst hin
    refine W.done _ _ _ (by simpa using hst') fun h₁ tk₁ hk₁ => wpAny_execs_nil ?_
    obtain ⟨F₁, N₁⟩ := nxt h h₁ F' N' hk₁
    exact done m' h₁ tk₁ hJ F₁ N₁
theorem newsDup {h : Heap} {p : Addr × Obj} {l : List (Addr × Obj)} (hp : p ∈ l) (N : News g L h l) : News g L h (p :: l) := fun q hq => by
  rcases List.mem_cons.mp hq with rfl | hq
  · exact N _ hp
  · exact N q hq
theorem for_enumC {Q : Flow → Shared → Prop} {elts : List Expr} {kk : Nat} {pos : Pos} {body : List Stmt} {l : Addr} {vs : List Value} {k : Nat} (J : Nat → (Str → Option Value) → Prop) (hh : A.handled = none)
    (F : Fr g L s.heap m) (N : News g L s.heap news) (hl : (l, listOf vs.toArray k) ∈ news) (h0 : J 0 m)
    (hn2 : (assignEach elts env).length = 2) (hstar : (assignEach elts env).findIdx? (·.1) = none)
    (turn : ∀ i v t m₁ h₁ tk₁ e it oe oi, vs[i]? = some v → J i m₁ → Fr g L h₁ m₁ → News g L h₁ ((e, oe) :: (it, oi) :: news) →
      wpAny (model prog w) A (assignInOrder ((assignEach elts env).map (·.2)) [.int (i : Nat) t, v]) (fun _ s₂ => wpAny (model prog w) A (execs body env)
        (TurnE g L s ((e, oe) :: (it, oi) :: news) J i Q) NoE s₂) NoE { s with heap := h₁, toks := tk₁ })
    (done : ∀ m₁ h₁ tk₁, J vs.length m₁ → Fr g L h₁ m₁ → News g L h₁ news → Q .next { s with heap := h₁, toks := tk₁ }) :
    wpAny (model prog w) A (call (.type "enumerate") [.ref l]) (fun xv s₁ => wpAny (model prog w) A (pyIter xv) (LoopT prog w A env (.Tuple elts kk pos) body Q) NoE s₁) NoE s := by
  have hL : s.heap.IsList l vs.toArray := ⟨_, (N _ hl).1, rfl, _, rfl⟩
  refine call_enumerate_list hL fun h' he hi hsz hk => ?_
  obtain ⟨F2, N2⟩ := after_ext F N hk
  have f1 := fresh_of F (Heap.get?_none_of_le (Nat.le_refl s.heap.objs.size))
  have f2 := fresh_of F (Heap.get?_none_of_le (Nat.le_succ s.heap.objs.size))
  refine wpAny_pyIter_enum he ?_
  exact for_enum (s := { s with heap := h' }) J hh F2 N2 hl he hi (Nat.succ_ne_self _) f2.1 f1.1 f2.2 f1.2 (nd_fresh N (Heap.get?_none_of_le (Nat.le_succ s.heap.objs.size))) (nd_new N) h0 hn2 hstar (fun i v t m₁ h₁ tk₁ oe oi a b c d => turn i v t m₁ h₁ tk₁ _ _ oe oi a b c d) done
end

/-! the order of rows; the front that two rows share -/
noncomputable abbrev sLt (x y : Str) : Bool := decide (x.cps.toList < y.cps.toList)
noncomputable def rowLt : List Str → List Str → Bool
  | _, [] => false
  | [], _ :: _ => true
  | x :: xs, y :: ys => if (x == y) = true then rowLt xs ys else sLt x y
theorem lexLt_shift (e lt e' lt' : Nat → Bool) (he : ∀ j, e (j + 1) = e' j) (hl : ∀ j, lt (j + 1) = lt' j) (m n : Nat) : ∀ k i, lexLt e lt (m + 1) (n + 1) (i + 1) k = lexLt e' lt' m n i k
  | 0, i => by simp [lexLt]
  | k + 1, i => by rw [lexLt, lexLt, he, hl, lexLt_shift e lt e' lt' he hl m n k (i + 1)]
theorem strsLt_eq : ∀ xs ys : List Str, strsLt xs ys = rowLt xs ys
  | [], [] => rfl
  | x :: xs, [] => by simp [strsLt, lexLt, rowLt]
  | [], y :: ys => by simp [strsLt, lexLt, rowLt]
  | x :: xs, y :: ys => by
    rw [rowLt, ← strsLt_eq xs ys, strsLt, strsLt, List.length_cons, List.length_cons, Nat.succ_min_succ, lexLt]
    show (if (x == y) = true then _ else _) = _
    rw [lexLt_shift (fun j => (x :: xs).getD j "" == (y :: ys).getD j "") (fun j => decide (((x :: xs).getD j "").cps.toList < ((y :: ys).getD j "").cps.toList)) (fun j => xs.getD j "" == ys.getD j "") (fun j => decide ((xs.getD j "").cps.toList < (ys.getD j "").cps.toList)) (fun j => rfl) (fun j => rfl)]
    rfl
theorem lexGt_lexLt (e lt e' lt' : Nat → Bool) (he : ∀ j, e j = e' j) (hl : ∀ j, lt j = lt' j) (m n : Nat) : ∀ k i, lexGt e lt m n i k = lexLt e' lt' n m i k
  | 0, i => by simp [lexLt, lexGt]
  | k + 1, i => by rw [lexLt, lexGt, he, hl, lexGt_lexLt e lt e' lt' he hl m n k (i + 1)]
theorem strsGt_eq (xs ys : List Str) : strsGt xs ys = rowLt ys xs := by
  rw [← strsLt_eq, strsGt, strsLt, Nat.min_comm]
  exact lexGt_lexLt _ _ _ _ (fun j => by rw [Bool.eq_iff_iff]; simp only [beq_iff_eq]; exact eq_comm) (fun j => rfl) _ _ _ _
theorem Str.ext2 {x y : Str} (h : x.cps.toList = y.cps.toList) : x = y := by
  cases x; cases y
  exact congrArg Str.mk (Array.toList_inj.mp h)
theorem sLt_irrefl (x : Str) : sLt x x = false := decide_eq_false (List.lt_irrefl _)
theorem sLt_trans {x y z : Str} (h : sLt x y = true) (h' : sLt y z = true) : sLt x z = true :=
  decide_eq_true (List.lt_trans (of_decide_eq_true h) (of_decide_eq_true h'))
theorem sLt_total {x y : Str} (h : x ≠ y) (h' : sLt x y = false) : sLt y x = true := by
  refine decide_eq_true ?_
  have h1 := of_decide_eq_false h'
  have h2 : y.cps.toList ≤ x.cps.toList := List.not_lt.mp h1
  rcases List.le_iff_lt_or_eq.mp h2 with q | q
  · exact q
  · exact absurd (Str.ext2 q.symm) h
theorem rowLt_irrefl : ∀ x : List Str, rowLt x x = false
  | [] => rfl
  | x :: xs => by rw [rowLt, if_pos (beq_self_eq_true x)]; exact rowLt_irrefl xs
theorem rowLt_trans : ∀ {x y z : List Str}, rowLt x y = true → rowLt y z = true → rowLt x z = true
  | [], [], _, h, _ => by cases h
  | _ :: _, [], _, h, _ => by cases h
  | _, _ :: _, [], _, h => by cases h
  | [], _ :: _, _ :: _, _, _ => rfl
  | x :: xs, y :: ys, z :: zs, h, h' => by
    rw [rowLt] at h h' ⊢
    by_cases e1 : x = y
    · subst e1
      rw [if_pos (beq_self_eq_true x)] at h
      by_cases e2 : x = z
      · subst e2
        rw [if_pos (beq_self_eq_true x)] at h' ⊢
        exact rowLt_trans h h'
      · rw [if_neg (by simpa using e2)] at h' ⊢; exact h'
    · rw [if_neg (by simpa using e1)] at h
      by_cases e2 : y = z
      · subst e2; rw [if_neg (by simpa using e1)]; exact h
      · rw [if_neg (by simpa using e2)] at h'
        have h3 := sLt_trans h h'
        rw [if_neg]
        · exact h3
        · intro q
          rw [eq_of_beq q, sLt_irrefl] at h3; cases h3
theorem argBest_le (bt : Nat → Nat → Bool) : ∀ k, argBest bt k ≤ k
  | 0 => Nat.le_refl _
  | k + 1 => by rw [argBest]; split; exact Nat.le_refl _; exact Nat.le_succ_of_le (argBest_le bt k)
theorem argBest_best (bt : Nat → Nat → Bool) (irr : ∀ i, bt i i = false) (tr : ∀ i j k, bt i j = true → bt j k = true → bt i k = true) : ∀ k i, i ≤ k → bt i (argBest bt k) = false
  | 0, i, h => by have : i = 0 := by omega
                  subst this; exact irr 0
  | k + 1, i, h => by
    rw [argBest]
    split
    · rename_i hb
      by_cases e : i = k + 1
      · subst e; exact irr _
      · have ih := argBest_best bt irr tr k i (by omega)
        cases q : bt i (k + 1) with
        | false => rfl
        | true => rw [tr _ _ _ q hb] at ih; cases ih
    · rename_i hb
      by_cases e : i = k + 1
      · subst e; simpa using hb
      · exact argBest_best bt irr tr k i (by omega)
noncomputable def minRow (Xs : List (List Str)) : List Str := Xs.getD (argBest (fun i j => rowLt (Xs.getD i []) (Xs.getD j [])) (Xs.length - 1)) []
noncomputable def maxRow (Xs : List (List Str)) : List Str := Xs.getD (argBest (fun i j => rowLt (Xs.getD j []) (Xs.getD i [])) (Xs.length - 1)) []
theorem getD_mem' {α : Type} {d : α} {Xs : List α} {i : Nat} (h : i < Xs.length) : Xs.getD i d ∈ Xs := by
  rw [List.getD_eq_getElem?_getD, List.getElem?_eq_getElem h]; exact List.getElem_mem h
theorem minRow_mem {Xs : List (List Str)} (h : 0 < Xs.length) : minRow Xs ∈ Xs := getD_mem' (by have := argBest_le (fun i j => rowLt (Xs.getD i []) (Xs.getD j [])) (Xs.length - 1); omega)
theorem maxRow_mem {Xs : List (List Str)} (h : 0 < Xs.length) : maxRow Xs ∈ Xs := getD_mem' (by have := argBest_le (fun i j => rowLt (Xs.getD j []) (Xs.getD i [])) (Xs.length - 1); omega)
theorem minRow_least {Xs : List (List Str)} {x : List Str} (h : x ∈ Xs) : rowLt x (minRow Xs) = false := by
  obtain ⟨i, hi, rfl⟩ := List.getElem_of_mem h
  have := argBest_best (fun i j => rowLt (Xs.getD i []) (Xs.getD j [])) (fun i => rowLt_irrefl _) (fun i j k => rowLt_trans) (Xs.length - 1) i (by omega)
  rw [show Xs[i] = Xs.getD i [] from by rw [List.getD_eq_getElem?_getD, List.getElem?_eq_getElem hi]; rfl]
  exact this
theorem maxRow_most {Xs : List (List Str)} {x : List Str} (h : x ∈ Xs) : rowLt (maxRow Xs) x = false := by
  obtain ⟨i, hi, rfl⟩ := List.getElem_of_mem h
  have := argBest_best (fun i j => rowLt (Xs.getD j []) (Xs.getD i [])) (fun i => rowLt_irrefl _) (fun i j k h h' => rowLt_trans h' h) (Xs.length - 1) i (by omega)
  rw [show Xs[i] = Xs.getD i [] from by rw [List.getD_eq_getElem?_getD, List.getElem?_eq_getElem hi]; rfl]
  exact this
/-- what two rows share -/
noncomputable def cpl : List Str → List Str → List Str
  | x :: xs, y :: ys => if x = y then x :: cpl xs ys else []
  | _, _ => []
theorem cpl_take : ∀ (i : Nat) (xs ys : List Str), xs.take i = ys.take i → i < xs.length → i < ys.length → xs.getD i "" ≠ ys.getD i "" → cpl xs ys = xs.take i
  | 0, x :: xs, y :: ys, _, _, _, h => by rw [cpl, if_neg (by simpa using h)]; rfl
  | i + 1, x :: xs, y :: ys, h, h1, h2, h3 => by
    simp only [List.take_succ_cons, List.cons.injEq] at h
    rw [cpl, if_pos h.1, cpl_take i xs ys h.2 (by simpa using h1) (by simpa using h2) (by simpa using h3), List.take_succ_cons]
  | _, [], _, _, h, _, _ => absurd h (Nat.not_lt_zero _)
  | _, _ :: _, [], _, _, h, _ => absurd h (Nat.not_lt_zero _)
theorem cpl_all : ∀ (xs ys : List Str), xs = ys.take xs.length → cpl xs ys = xs
  | [], ys, _ => by cases ys <;> rfl
  | x :: xs, [], h => by simp at h
  | x :: xs, y :: ys, h => by
    simp only [List.length_cons, List.take_succ_cons, List.cons.injEq] at h
    rw [cpl, if_pos h.1, cpl_all xs ys h.2]
theorem rowLt_prefix : ∀ (i : Nat) (xs ys : List Str), xs.take i = ys.take i → i < xs.length → rowLt ys xs = false → i < ys.length
  | 0, x :: xs, [], _, _, h => by cases h
  | 0, x :: xs, y :: ys, _, _, h => Nat.zero_lt_succ _
  | i + 1, x :: xs, y :: ys, h, h1, h2 => by
    simp only [List.take_succ_cons, List.cons.injEq] at h
    rw [rowLt, if_pos (by simpa using h.1.symm)] at h2
    have := rowLt_prefix i xs ys h.2 (by simpa using h1) h2
    simpa using this
  | i + 1, x :: xs, [], h, _, _ => by simp at h
  | _, [], _, _, h, _ => absurd h (Nat.not_lt_zero _)

section
variable {w : World} {mean : ExcName → Option Value} {mg mb : Str → Option Value} {b g : Heap} {A : Around} {s : Shared} {L : Addr} {m : Str → Option Value} {rest : List (Addr × Obj)} {prog : Program} {env : Env} {news : List (Addr × Obj)}
theorem strs_at : ∀ {vs : List Value} {ts : List Str}, StrsAre vs ts → ∀ (i : Nat) v, vs[i]? = some v → ∃ x t, v = .str x t ∧ x ∈ ts
  | _, _, .nil, i, v, e => by simp at e
  | _, _, .cons y t h, 0, v, e => by simp at e; exact ⟨y, t, e.symm, .head _⟩
  | _, _, .cons y t h, i + 1, v, e => let ⟨x, t, e, m⟩ := strs_at h i v (by simpa using e); ⟨x, t, e, .tail _ m⟩
theorem newsMove {h : Heap} {d : Addr × Obj} {l B : List (Addr × Obj)} (N : News g L h (d :: (B ++ l))) : News g L h (d :: (l ++ B)) := fun p hp => N p (by
  simp only [List.mem_cons, List.mem_append] at hp ⊢
  rcases hp with h | h | h <;> simp [h])
theorem Src.go {xv : Value} {n : Nat} {P : Nat → Value → Prop} {Q : Value → Shared → Prop} (S : Src prog w A xv s n P) (h : ∀ I fp St h₂, Walks prog w A I fp [I] n P St → (∀ i h, St i h → ∃ o, h.get? I = some o) → St 0 h₂ → (∀ b ∈ fp, b < h₂.objs.size) → s.heap.get? I = none →
    (∀ a o, s.heap.get? a = some o → h₂.get? a = some o) → Q (.ref I) { s with heap := h₂ }) : wpAny (model prog w) A (pyIter xv) Q NoE s := S Q h
theorem assign_set1 {elts : List Expr} {k : Nat} {pos : Pos} {D : Addr} {bb led : Bool} {E : Value → Shared → Prop} {Q : Unit → Shared → Prop} (hh : A.handled = none) (hl : led = !w.params.followText "set-order") (hD : s.heap.get? D = some (set1 bb led))
    (F : Fr g L s.heap m) (N : News g L s.heap news) (hn : (assignEach elts env).length = 1) (hstar : (assignEach elts env).findIdx? (·.1) = none)
    (h : ∀ h', Fr g L h' m → News g L h' news → wpAny (model prog w) A (assignInOrder ((assignEach elts env).map (·.2)) [.bool bb]) Q E { s with heap := h' }) :
    wpAny (model prog w) A (assign (.Tuple elts k pos) env (.ref D)) Q E s := by
  show wpAny _ _ (do standAt pos; unpack (.ref D) (assignEach elts env)) _ _ _
  refine wpAny_bind (wpAny_standAt ?_)
  unfold unpack
  refine wpAny_bind (wpAny_holding ?_)
  rw [hn, hstar]
  exact unpack_set1 hh hl hD fun h' hk => h h' (after_ext F N hk).1 (after_ext F N hk).2
theorem newsReord {h : Heap} {l l' : List (Addr × Obj)} (N : News g L h l) (hs : ∀ p ∈ l', p ∈ l) : News g L h l' := fun p hp => N p (hs p hp)
theorem newsApp {h : Heap} {p q r t : Addr × Obj} {B al : List (Addr × Obj)} (N : News g L h (p :: q :: r :: t :: B)) (N' : News g L h al) : News g L h (p :: q :: r :: t :: (B ++ al)) := fun x hx => by
  simp only [List.mem_cons, List.mem_append] at hx
  rcases hx with h | h | h | h | h | h
  · exact N x (by simp [h])
  · exact N x (by simp [h])
  · exact N x (by simp [h])
  · exact N x (by simp [h])
  · exact N x (by simp [h])
  · exact N' x h
theorem strs_cons {vs : List Value} {ts : List Str} (h : StrsAre vs ts) (hn : 0 < ts.length) : ∃ y t vs' ts', vs = .str y t :: vs' ∧ ts = y :: ts' ∧ StrsAre vs' ts' := by
  cases h with
  | nil => exact absurd hn (Nat.lt_irrefl 0)
  | cons y t r => exact ⟨y, t, _, _, rfl, rfl, r⟩
noncomputable def keepC (c : Str) : Bool := !(c == "") && !(c == ".")
noncomputable def keepV : Value → Bool
  | .str c _ => keepC c
  | _ => false
theorem keepV_of {x : Str} {t : Tok} (h : (x.length : Int) ≠ 0) (h2 : (x != ".") = true) : keepV (.str x t) = true := by
  show (!(x == "") && !(x == ".")) = true
  have : (x == "") = false := by
    rw [beq_eq_false_iff_ne]
    intro e; rw [e] at h; exact h rfl
  rw [this]
  simpa [bne] using h2
theorem keepV_dot {x : Str} {t : Tok} (h2 : (x != ".") = false) : keepV (.str x t) = false := by
  show (!(x == "") && !(x == ".")) = false
  have : (x == ".") = true := by simpa [bne] using h2
  rw [this]; simp
theorem keepV_nil {x : Str} {t : Tok} (h : (x.length : Int) = 0) : keepV (.str x t) = false := by
  have e : x = "" := by
    cases x with
    | mk cps =>
      have h1 : cps.size = 0 := by simpa [Str.length] using h
      rw [Array.eq_empty_of_size_eq_zero h1]; rfl
  rw [e]; rfl
structure TestQ (x : Str) (p : Value → Bool) (C : Addr) (s₃ : Shared) (v : Value) (ok : Bool) (s₄ : Shared) : Prop where
  out : ok = p v ∧ KeepsBut C s₃ s₄ ∧ ∃ m', s₄.heap.Ns C m' ∧ m' x = some v
/-- a row of objects, each a list of these texts, all in the ledger B -/
noncomputable def ListsAre (B : List (Addr × Obj)) (Xs : List (List Str)) (ys : List Value) : Prop :=
  Paired (fun (xs : List Str) (y : Value) => ∃ a us k, y = .ref a ∧ (a, listOf us.toArray k) ∈ B ∧ StrsAre us xs) Xs ys
theorem ListsAre.at' {B : List (Addr × Obj)} : ∀ {Xs : List (List Str)} {ys : List Value}, ListsAre B Xs ys → ∀ (i : Nat) (y : Value), ys[i]? = some y → ∃ a us k xs, y = .ref a ∧ (a, listOf us.toArray k) ∈ B ∧ StrsAre us xs ∧ xs ∈ Xs
  | _, _, .nil, i, y, e => by simp at e
  | _, _, .cons h r, 0, y, e => by
    simp at e; subst e
    obtain ⟨a, us, k, e1, e2, e3⟩ := h
    exact ⟨a, us, k, _, e1, e2, e3, .head _⟩
  | _, _, .cons h r, i+1, y, e => by
    obtain ⟨a, us, k, xs, e1, e2, e3, e4⟩ := ListsAre.at' r i y (by simpa using e)
    exact ⟨a, us, k, xs, e1, e2, e3, .tail _ e4⟩
theorem lists1 {B : List (Addr × Obj)} : ∀ {vs : List Value} {ts : List Str} {ys : List Value}, StrsAre vs ts →
    Paired (fun (v : Value) (y : Value) => ∃ x t a us k, v = .str x t ∧ y = .ref a ∧ (a, listOf us.toArray k) ∈ B ∧ StrsAre us (Txt.split x "/")) vs ys → ListsAre B (ts.map (Txt.split · "/")) ys
  | _, _, _, .nil, .nil => .nil
  | _, _, _, .cons y t r, .cons h p => by
    obtain ⟨x, t, a, us, k, e1, e2, e3, e4⟩ := h
    cases e1
    exact .cons ⟨a, us, k, e2, e3, e4⟩ (lists1 r p)
theorem strs_fun : ∀ {us : List Value} {xs xs' : List Str}, StrsAre us xs → StrsAre us xs' → xs = xs' := by
  intro us xs xs' h
  induction h generalizing xs' with
  | nil => intro h'; cases h'; rfl
  | cons _ _ _ ih => intro h'; cases h' with | cons _ _ r' => rw [ih r']
inductive FilR (f : List Str → List Str) (B B' : List (Addr × Obj)) (v y : Value) : Prop
  | mk (a : Addr) (us : List Value) (k : Nat) (xs : List Str) (a' : Addr) (us' : List Value) (k' : Nat) (e1 : v = .ref a) (hB : (a, listOf us.toArray k) ∈ B) (hs : StrsAre us xs) (e2 : y = .ref a') (hB' : (a', listOf us'.toArray k') ∈ B') (hs' : StrsAre us' (f xs))
theorem lists2 {f : List Str → List Str} {B B' : List (Addr × Obj)} (hf : ∀ a o o', (a, o) ∈ B → (a, o') ∈ B → o = o') : ∀ {Xs : List (List Str)} {ys ys' : List Value}, ListsAre B Xs ys →
    Paired (FilR f B B') ys ys' → ListsAre B' (Xs.map f) ys' := by
  intro Xs ys ys' h
  induction h generalizing ys' with
  | nil => intro p; cases p; exact .nil
  | cons h r ih =>
    intro p
    cases p with
    | cons q p =>
      obtain ⟨a, us, k, e1, e2, e3⟩ := h
      obtain ⟨a0, us0, k0, xs, a', us', k', f1, f2, f3, f4, f5, f6⟩ := q
      rw [e1] at f1; cases f1
      have := hf _ _ _ e2 f2
      have hu : us = us0 := by
        have h2 := congrArg Obj.data this
        have h3 : us = us0 ∧ k = k0 := by simpa [W.listOf] using h2
        exact h3.1
      subst hu
      rw [strs_fun f3 e3] at f6
      exact .cons ⟨a', us', k', f4, f5, f6⟩ (ih p)
theorem strs_filter : ∀ {us : List Value} {xs : List Str}, StrsAre us xs → StrsAre (us.filter keepV) (xs.filter keepC)
  | _, _, .nil => .nil
  | _, _, .cons y t r => by
    show StrsAre (List.filter keepV (.str y t :: _)) (List.filter keepC (y :: _))
    rw [List.filter_cons, List.filter_cons]
    show StrsAre (if keepC y = true then _ else _) _
    split
    · exact .cons y t (strs_filter r)
    · exact strs_filter r
theorem paired_eq : ∀ {l l' : List Value}, Paired (fun v y => y = v) l l' → l' = l
  | _, _, .nil => rfl
  | _, _, .cons h r => by rw [h, paired_eq r]
theorem list_of_at {vs items : List Value} (h : vs.length = items.toArray.size) (hP : ∀ (j : Nat) v, vs[j]? = some v → items.toArray[j]? = some v) : vs = items := by
  refine List.ext_getElem? fun j => ?_
  rw [List.size_toArray] at h
  cases e : vs[j]? with
  | none => 
    rw [List.getElem?_eq_none_iff] at e
    rw [eq_comm, List.getElem?_eq_none_iff]; omega
  | some v => have := hP j v e; simpa using this.symm
theorem filter_true (l : List Value) : l.filter (fun _ => true) = l := List.filter_eq_self.mpr fun _ _ => rfl
end

section
variable {w : World} {A : Around} {s : Shared} {g : Heap} {L : Addr} {m : Str → Option Value} {prog : Program} {env : Env} {news : List (Addr × Obj)}
theorem ListsAre.get' {B : List (Addr × Obj)} : ∀ {Xs : List (List Str)} {ys : List Value}, ListsAre B Xs ys → ∀ (i : Nat) (y : Value), ys[i]? = some y → ∃ a us k, y = .ref a ∧ (a, listOf us.toArray k) ∈ B ∧ StrsAre us (Xs.getD i [])
  | _, _, .nil, i, y, e => by simp at e
  | _, _, .cons h r, 0, y, e => by
    simp at e; subst e
    obtain ⟨a, us, k, e1, e2, e3⟩ := h
    exact ⟨a, us, k, e1, e2, e3⟩
  | _, _, .cons h r, i+1, y, e => by
    obtain ⟨a, us, k, e1, e2, e3⟩ := ListsAre.get' r i y (by simpa using e)
    exact ⟨a, us, k, e1, e2, e3⟩
theorem ListsAre.len {B : List (Addr × Obj)} {Xs : List (List Str)} {ys : List Value} (h : ListsAre B Xs ys) : Xs.length = ys.length := pairedLen h
theorem min_rows {D : Addr} {ys : List Value} {k : Nat} {B : List (Addr × Obj)} {Xs : List (List Str)} {Q : Value → Shared → Prop} (F : Fr g L s.heap m) (N : News g L s.heap news) (hD : (D, listOf ys.toArray k) ∈ news) (hB : ∀ p ∈ B, p ∈ news)
    (hZ : ListsAre B Xs ys) (hne : 0 < Xs.length) (hu : A.units + 10 < cLine) (hh : A.handled = none)
    (hQ : ∀ h' tk a us k, Fr g L h' m → News g L h' news → (a, listOf us.toArray k) ∈ news → StrsAre us (minRow Xs) → Q (.ref a) { s with heap := h', toks := tk }) :
    wpAny (model prog w) A (call (.builtin "min") [.ref D]) Q NoE s := by
  refine min_of (Src.list (A := A.in1) (by exact hh) ⟨_, (N _ hD).1, rfl, _, rfl⟩ _ ?_)
  intro I fp St h₂ W hSt hst hfp hI hk
  obtain ⟨F2, N2⟩ := after_ext F N hk
  have nI : ∀ a o, s.heap.get? a = some o → a ≠ I := fun a o e z => by rw [z, hI] at e; cases e
  refine ⟨I, fp, [I], _, _, St, fun i j => rowLt (Xs.getD i []) (Xs.getD j []), B, rfl, W, hst, hfp, by rw [List.size_toArray, ← hZ.len]; exact hne, ?_, fun p hp => hk _ _ (N p (hB p hp)).1, fun p hp => by simpa using nI _ _ (N p (hB p hp)).1, ?_⟩
  · intro i j vi vj s' Q' E' hK hi hj hQ'
    obtain ⟨a, us, k, rfl, ha, hus⟩ := hZ.get' i vi (by simpa using hi)
    obtain ⟨b, vs, k', rfl, hb, hvs⟩ := hZ.get' j vj (by simpa using hj)
    exact cmpLt (by show A.units + 1 < _; (first | lia | omega)) (hK _ ha) (hK _ hb) hus hvs (by rw [strsLt_eq]; exact hQ')
  · intro v h' tk hv hk'
    have hv' : ys[argBest (fun i j => rowLt (Xs.getD i []) (Xs.getD j [])) (Xs.length - 1)]? = some v := by
      rw [hZ.len]; simpa using hv
    obtain ⟨a, us, k, rfl, ha, hus⟩ := hZ.get' _ v hv'
    obtain ⟨F3, N3⟩ := after_ext (h' := h') F N fun x o e => hk' x o (by simpa using nI _ _ e) (hk x o e)
    exact hQ h' tk a us k F3 N3 (hB _ ha) hus
theorem max_rows {D : Addr} {ys : List Value} {k : Nat} {B : List (Addr × Obj)} {Xs : List (List Str)} {Q : Value → Shared → Prop} (F : Fr g L s.heap m) (N : News g L s.heap news) (hD : (D, listOf ys.toArray k) ∈ news) (hB : ∀ p ∈ B, p ∈ news)
    (hZ : ListsAre B Xs ys) (hne : 0 < Xs.length) (hu : A.units + 10 < cLine) (hh : A.handled = none)
    (hQ : ∀ h' tk a us k, Fr g L h' m → News g L h' news → (a, listOf us.toArray k) ∈ news → StrsAre us (maxRow Xs) → Q (.ref a) { s with heap := h', toks := tk }) :
    wpAny (model prog w) A (call (.builtin "max") [.ref D]) Q NoE s := by
  refine max_of (Src.list (A := A.in1) (by exact hh) ⟨_, (N _ hD).1, rfl, _, rfl⟩ _ ?_)
  intro I fp St h₂ W hSt hst hfp hI hk
  obtain ⟨F2, N2⟩ := after_ext F N hk
  have nI : ∀ a o, s.heap.get? a = some o → a ≠ I := fun a o e z => by rw [z, hI] at e; cases e
  refine ⟨I, fp, [I], _, _, St, fun i j => rowLt (Xs.getD j []) (Xs.getD i []), B, rfl, W, hst, hfp, by rw [List.size_toArray, ← hZ.len]; exact hne, ?_, fun p hp => hk _ _ (N p (hB p hp)).1, fun p hp => by simpa using nI _ _ (N p (hB p hp)).1, ?_⟩
  · intro i j vi vj s' Q' E' hK hi hj hQ'
    obtain ⟨a, us, k, rfl, ha, hus⟩ := hZ.get' i vi (by simpa using hi)
    obtain ⟨b, vs, k', rfl, hb, hvs⟩ := hZ.get' j vj (by simpa using hj)
    exact cmpGt (by show A.units + 1 < _; (first | lia | omega)) (hK _ ha) (hK _ hb) hus hvs (by rw [strsGt_eq]; exact hQ')
  · intro v h' tk hv hk'
    have hv' : ys[argBest (fun i j => rowLt (Xs.getD j []) (Xs.getD i [])) (Xs.length - 1)]? = some v := by
      rw [hZ.len]; simpa using hv
    obtain ⟨a, us, k, rfl, ha, hus⟩ := hZ.get' _ v hv'
    obtain ⟨F3, N3⟩ := after_ext (h' := h') F N fun x o e => hk' x o (by simpa using nI _ _ e) (hk x o e)
    exact hQ h' tk a us k F3 N3 (hB _ ha) hus
end
theorem pick_upto (us : List Value) (i : Nat) : slicePick us.toArray none (some (i : Int)) none = (us.take i).toArray := by
  have e : sliceBounds none (some (i : Int)) none us.toArray.size = (((0 : Nat) : Int), ((min i us.toArray.size : Nat) : Int), 1) := by
    simp only [sliceBounds, Option.getD_none, show (1 : Int) > 0 by decide, if_true, if_neg (show ¬ ((i : Int) < 0) by (first | lia | omega))]
    congr 1
    congr 1
    (first | lia | omega)
  rw [W.kmk_pick_nat _ e]
  show ((us.drop 0).take (min i us.toArray.size - 0)).toArray = _
  rw [List.drop_zero, Nat.sub_zero, List.size_toArray, W.kmk_take_min]
theorem cpl_prefix : ∀ xs ys : List Str, cpl xs ys <+: xs
  | [], ys => by cases ys <;> exact List.nil_prefix
  | x :: xs, [] => List.nil_prefix
  | x :: xs, y :: ys => by
    rw [cpl]; split
    · exact (List.prefix_cons_inj x).mpr (cpl_prefix xs ys)
    · exact List.nil_prefix
theorem sum_short {c : Nat} : ∀ {l : List Str}, (∀ x ∈ l, x.length ≤ c) → (l.map (·.length)).sum ≤ c * l.length
  | [], _ => by simp
  | x :: l, h => by
    have h1 := h x (.head _)
    have h2 := sum_short (c := c) (l := l) fun y hy => h y (.tail _ hy)
    simp only [List.map_cons, List.sum_cons, List.length_cons, Nat.mul_add, Nat.mul_one]; (first | lia | omega)
theorem strsAll {us : List Value} {xs : List Str} (h : StrsAre us xs) : us.length = xs.length := h.length
theorem join_short {ys : List Str} (h : ∀ x ∈ ys, x.length ≤ 100) (hn : ys.length ≤ 102) : (Txt.join "/" ys).length ≤ 11000 := by
  show (Builtin.Str.glued "/" _).length ≤ _
  rw [StrLaws.glued_eq_join]
  have h1 := StrLaws.join_length_le "/" ys
  have h2 : (Str.ofString "/").length = 1 := rfl
  have h3 := sum_short h
  rw [h2] at h1
  (first | lia | omega)

section
local macro_rules | `(tactic| walk_at "subscriptTail Name Slice ref ref") => `(tactic| (k_dflt (refine slice_list (by assumption) (by assumption) (News.isList (by assumption) (by walk_at "mem")) (by first | exact .none | exact .int _ _) (by first | exact .none | exact .int _ _) ?_); intro _ _ _))
variable {w : World} {mean : ExcName → Option Value} {mg mb : Str → Option Value} {b g : Heap} {A : Around} {s : Shared} {L : Addr} {m : Str → Option Value} {rest : List (Addr × Obj)} {prog : Program} {env : Env} {news : List (Addr × Obj)}
noncomputable def rowOf (x : Str) : List Str := (Txt.split x "/").filter keepC
noncomputable def commonT (bb : Bool) (ts : List Str) : Str := (if bb = true then "/" else "") ++ Txt.join "/" (cpl (minRow (ts.map rowOf)) (maxRow (ts.map rowOf)))
inductive CoX (g : Heap) (L : Addr) (s : Shared) (X1 X2 : List Str) (bb : Bool) (led : List (Addr × Obj)) (s' : Shared) : Prop
  | mk (h : Heap) (tk : Nat) (m' : Str → Option Value) (aC : Addr) (usC : List Value) (kC : Nat) (es : s' = { s with heap := h, toks := tk }) (F : Fr g L h m') (N : News g L h ((aC, listOf usC.toArray kC) :: led)) (hs : StrsAre usC (cpl X1 X2)) (hl : usC.length ≤ 102) (hm : Has m' [("common", .ref aC), ("isabs", .bool bb)])
noncomputable def CoJ (X1 X2 : List Str) (bb : Bool) (a16 a18 : Addr) (i : Nat) (m : Str → Option Value) : Prop := X1.take i = X2.take i ∧ Has m [("s1", .ref a16), ("s2", .ref a18), ("common", .ref a16), ("isabs", .bool bb)]
theorem commonpath_call {R : Result → Shared → Prop} {l : Addr} {vs : List Value} {n : Nat} {ts : List Str} {bb : Bool} : (hd.heap_39 w.params).In b → (T : Top hd.view_39 (looseW hd.view_39 []) mean mg mb b) → (hb : ∀ x o, b.get? x = some o → s.heap.get? x = some o) →
  (hl : s.heap.get? l = some (listOf vs.toArray n)) → (hvs : StrsAre vs ts) → (hne : 0 < ts.length) → (hn : ts.length ≤ 100) → (hts : ∀ x ∈ ts, x.length ≤ 100) → (habs : ∀ x ∈ ts, Txt.startswith x "/" = bb) →
  (hh : A.handled = none) → (hroom : A.depth + 50 < recursionLimit) → (hu : A.units + 1000 < cLine) →
  (hR : ∀ h' tk t', (∀ x o, s.heap.get? x = some o → h'.get? x = some o) → R (.ok (.ret (.str (commonT bb ts) t'))) { s with heap := h', toks := tk }) →
  codeAny (model PySem.Challenge.rw_pd0047_01.row.prog w) A (.call (.ref 155) ⟨[.ref l], []⟩) R s := by
  k_fill
  intro X T hb hl hvs hne hn hts habs hh hroom hu hR
  refine enterC [("paths", .ref l)] X T hb (by k_is) (by k_is) (Nat.lt_of_le_of_lt (Nat.le_add_right _ _) hroom) (BindsTo.of_eq rfl) rfl (by decide +kernel) ?_ rfl rfl rfl
  intro L' h₁ tk cells X' T' F N Y
  k_cells Y
  clear X T hb
  have hlg : s.heap.IsList l vs.toArray := ⟨_, hl, rfl, n, rfl⟩
  have hlen : vs.length = ts.length := hvs.length
  have hstr' : ∀ (i : Nat) v, vs.toArray[i]? = some v → ∃ x t, v = .str x t ∧ x ∈ ts := fun i v e => strs_at hvs i v (by simpa using e)
  have hstr : ∀ (i : Nat) v, vs.toArray[i]? = some v → ∃ x t, v = .str x t := fun i v e => let ⟨x, t, e, _⟩ := hstr' i v e; ⟨x, t, e⟩
  walk_at "go"
  refine mapN F N hlg fun h2 z TI it F2 N2 M2 => ?_
  walk_at "go"
  refine tupleMapN F2 N2 X' T' hh (room1 hroom (by decide)) (unit1 hu (by decide)) M2 hlg hstr (by rw [List.size_toArray]; omega) fun h3 tk3 a3 F3 N3 => ?_
  clear F N F2 N2 M2
  walk_at "go"
  (rename News _ _ _ _ => N4)
  refine truthy_tuple (News.isTup N4 (.head _)) (by rw [List.size_toArray]; omega) ?_
  obtain ⟨y0, t0, vs0, ts0, rfl, rfl, hvs0⟩ := strs_cons hvs hne
  rw [show (!(Value.str y0 t0 :: vs0).toArray.isEmpty) = true from by simp]
  walk_at "go"
  refine tryQ ?_
  walk_at "go"
  (rename Fr _ _ _ _ => F5)
  (rename News _ _ _ _ => N5)
  dsimp only [List.cons_append, List.nil_append] at N5
  refine listCompA [("sep", L' + 1)] ?_ rfl rfl rfl (by decide) (by intro _; rfl)
  walk_at "go"
  refine' compA (p := fun _ => true) (R := fun B v y => ∃ x t a us k, v = .str x t ∧ y = .ref a ∧ (a, listOf us.toArray k) ∈ B ∧ StrsAre us (Txt.split x "/")) ?S ?s2 ?F ?N ?mono ?c1 ?c2 ?c3 ?c4 ?c5 ?body ?fin
  case F => exact F5
  case N => exact N5
  case S => exact Src.tuple (items := (Value.str y0 t0 :: vs0).toArray) hh ⟨_, (N5 _ (.head _)).1, rfl, _, rfl⟩
  case s2 => rw [List.size_toArray]; omega
  case c1 => decide
  case c2 => rfl
  case c3 => rfl
  case c4 => rfl
  case c5 => rfl
  case mono => rintro B B' v y h ⟨x, t, a, us, k, e1, e2, hm, hs⟩; exact ⟨x, t, a, us, k, e1, e2, h _ hm, hs⟩
  case body =>
    refine ⟨fun C i v s₃ m₃ hP F3 hm N3 => wpAny_tests_nil ⟨rfl, keepsBut_of (fun a o e => F3.keep a o e) F3 N3 (fun p hp => List.mem_append_right _ hp), m₃, F3.ns, hm⟩, fun C i v s₃ m₃ hP _ F3 hm N3 => ?_⟩
    obtain ⟨x, t, rfl, hxm⟩ := hstr' i v hP
    have hxl := hts x hxm
    have F3k := F3.keep
    replace F3 := Has.canon (ps := [("path", Value.str x t)]) ⟨hm, trivial⟩ F3
    dsimp only [List.cons_append, List.nil_append] at N3
    clear F5 N5
    walk_at "go"
    all_goals (try k_data)
    rename_i us h6 k6 e6 hs6 hl6 hil6 F6 N6
    show EltQ _ _ _ _ _ _
    refine ⟨keepsBut_of (fun a o e => F3k a o e) F6 N6 (fun p hp => by simp only [List.mem_cons]; exact .inr (.inr (.inr (.inr hp)))), [(_, listOf (strValues us).toArray 0)], fun q hq => ?_, x, t, _, strValues us, 0, rfl, rfl, .head _, e6 ▸ hs6⟩
    simp only [List.mem_cons, List.not_mem_nil, or_false] at hq
    rw [hq]
    exact ⟨(N6 _ (.head _)).1, Heap.get?_none_of_le (Nat.le_refl _)⟩
  case fin =>
    intro D6 h6 tk6 ys6 k6 vv6 B6 F6 O6 hlen6 hP6 hpr6
    have N6 := newsMove O6.N
    have hv6 := list_of_at hlen6 hP6
    rw [filter_true, hv6] at hpr6
    have hY := lists1 (.cons y0 t0 hvs0) hpr6
    dsimp only [List.cons_append, List.nil_append] at N6
    clear F5 N5
    walk_at "go"
    refine tryQ ?_
    walk_at "go"
    refine setComp (P := fun i v => (Value.str y0 t0 :: vs0).toArray[i]? = some v) (n := (Value.str y0 t0 :: vs0).toArray.size) [("sep", L' + 1)] bb ?_ (by rw [List.size_toArray]; omega) rfl (by decide) rfl (by decide) rfl (by intro _; rfl)
    walk_at "go"
    (rename Fr _ _ _ _ => F7)
    (rename News _ _ _ _ => N7)
    refine' Src.go (n := (Value.str y0 t0 :: vs0).toArray.size) (P := fun i v => (Value.str y0 t0 :: vs0).toArray[i]? = some v) ?S ?h
    case S => exact Src.tuple (items := (Value.str y0 t0 :: vs0).toArray) hh ⟨_, (N7 _ (.tail _ (.head _))).1, rfl, _, rfl⟩
    case h =>
    intro I fp St h₂ W hSt hst hfp hI hk
    refine Gives.mk ⟨I, fp, St, rfl, W, hst, hfp, ?elt, ?fin2⟩
    case elt =>
      intro C i v s₃ m₃ hC hP hn hm hk3
      obtain ⟨F3, N3, _⟩ := compFr F7 N7 hI hk hC hn hk3
      obtain ⟨x, t, rfl, hxm⟩ := hstr' i v hP
      have hxl := hts x hxm
      have hxb := habs x hxm
      have F3k := F3.keep
      replace F3 := Has.canon (ps := [("p", Value.str x t)]) ⟨hm, trivial⟩ F3
      replace N3 : News s.heap C s₃.heap (_ :: _ :: _ :: _ :: (B6 ++ allOf s.heap C s₃.heap)) := newsApp N3 news_allOf
      clear F7 N7
      walk_at "go"
      all_goals (try k_data)
      (rename Fr _ _ _ _ => F8)
      (rename News _ _ _ _ => N8)
      show Gives _ _ _
      refine ⟨by rw [← hxb], keepsBut_of (fun a o e => F3k a o e) F8 N8 (fun p hp => by walk_at "mem")⟩
    case fin2 =>
      intro D8 h8 tk8 led hD8 hset hled hk8
      obtain ⟨F8, N8⟩ := after_ext (h' := h8) F7 N7 (fun a o e => hk8 a o (fun z => by rw [z, hI] at e; cases e) (hk a o e))
      clear F7 N7 hk8 hk hSt hst hfp W hI
      walk_at "go"
      refine assign_set1 hh hled hset F8 N8 rfl rfl fun h9 F9 N9 => ?_
      clear F8 N8
      walk_at "go"
      (rename Fr _ _ _ _ => F10)
      (rename News _ _ _ _ => N10)
      refine listCompA [("curdir", L' + 1 + 1)] ?_ rfl rfl rfl (by decide) (by intro _; rfl)
      walk_at "go"
      refine' compA (p := fun _ => true) (R := FilR (List.filter keepC) B6) ?Sb ?s2b ?Fb ?Nb ?monob ?c1b ?c2b ?c3b ?c4b ?c5b ?bodyb ?finb
      case Fb => exact F10
      case Nb => exact N10
      case Sb => exact Src.list (items := ys6.toArray) hh ⟨_, (N10 _ (.head _)).1, rfl, _, rfl⟩
      case s2b => rw [List.size_toArray, ← hY.length, List.length_map]; omega
      case c1b => decide
      case c2b => rfl
      case c3b => rfl
      case c4b => rfl
      case c5b => rfl
      case monob => rintro B B' v y h ⟨a, us, k, xs, a', us', k', e1, e2, e3, e4, hm, hs⟩; exact ⟨a, us, k, xs, a', us', k', e1, e2, e3, e4, h _ hm, hs⟩
      case bodyb =>
        refine ⟨fun C i v s₃ m₃ hP F3 hm N3 => wpAny_tests_nil ⟨rfl, keepsBut_of (fun a o e => F3.keep a o e) F3 N3 (fun p hp => List.mem_append_right _ hp), m₃, F3.ns, hm⟩, fun C i v s₃ m₃ hP _ F3 hm N3 => ?_⟩
        obtain ⟨a, us, k, xs, rfl, hB, hxs, hxm⟩ := hY.at' i v (by simpa using hP)
        obtain ⟨x0, hx0, rfl⟩ := List.mem_map.mp hxm
        have hxl : (Txt.split x0 "/").length ≤ 102 := Nat.le_trans (split_le x0 "/") (Nat.add_le_add_right (hts x0 hx0) 2)
        have F3k := F3.keep
        replace F3 := Has.canon (ps := [("s", Value.ref a)]) ⟨hm, trivial⟩ F3
        dsimp only [List.cons_append, List.nil_append] at N3
        clear F10 N10
        refine listCompE [("curdir", L' + 1 + 1)] ?_ rfl rfl (by decide) (by intro _; rfl)
        walk_at "go"
        all_goals (try k_data)
        (rename Fr _ _ _ _ => F11)
        (rename News _ _ _ _ => N11)
        refine' compE (p := keepV) (R := fun _ v y => y = v) ?Sc ?s2c ?Fc ?Nc ?monoc ?c1c ?c2c ?c3c ?bodyc ?finc
        case Fc => exact F11
        case Nc => exact N11
        case Sc => exact Src.list (items := us.toArray) hh ⟨_, (N11 (a, listOf us.toArray k) (by walk_at "mem")).1, rfl, _, rfl⟩
        case s2c => rw [List.size_toArray, hxs.length]; omega
        case c1c => decide
        case c2c => rfl
        case c3c => rfl
        case monoc => intro B B' v y _ h; exact h
        case bodyc =>
          have hus : ∀ (i : Nat) v, us.toArray[i]? = some v → ∃ x t, v = .str x t ∧ x.length ≤ 100 := fun i v e => by
            obtain ⟨x, t, e, hx⟩ := strs_at hxs i v (by simpa using e)
            exact ⟨x, t, e, Nat.le_trans (part_short hx) (hts x0 hx0)⟩
          refine ⟨fun C i v s₃ m₃ hP F3 hm N3 => wpAny_tests_one ?_, fun C i v s₃ m₃ hP _ F3 hm N3 => ?_⟩
          · obtain ⟨x, t, rfl, hxm⟩ := hus i v hP
            have F3k := F3.keep
            replace F3 := Has.canon (ps := [("c", Value.str x t)]) ⟨hm, trivial⟩ F3
            dsimp only [List.cons_append, List.nil_append] at N3
            clear F11 N11
            refine wpAny_mono (Q := TestQ "c" keepV C s₃ (.str x t)) ?_ (fun _ _ h => h.out) (fun _ _ e => e)
            walk_at "go"
            all_goals (try k_data)
            all_goals (rename Fr _ _ _ _ => F13)
            all_goals (rename News _ _ _ _ => N13)
            all_goals (refine ⟨?_, keepsBut_of (fun a o e => F3k a o e) F13 N13 (fun p hp => by walk_at "mem"), _, F13.ns, rfl⟩)
            all_goals clear F13 N13 F3k
            · exact (keepV_of ‹_› ‹_›).symm
            · exact (keepV_dot ‹_›).symm
            · exact (keepV_nil ‹_›).symm
          · obtain ⟨x, t, rfl, hxm⟩ := hus i v hP
            have F3k := F3.keep
            replace F3 := Has.canon (ps := [("c", Value.str x t)]) ⟨hm, trivial⟩ F3
            dsimp only [List.cons_append, List.nil_append] at N3
            clear F11 N11
            walk_at "go"
            all_goals (try k_data)
            (rename Fr _ _ _ _ => F13)
            (rename News _ _ _ _ => N13)
            exact ⟨keepsBut_of (fun a o e => F3k a o e) F13 N13 (fun p hp => by walk_at "mem"), [], fun q hq => (nomatch hq), rfl⟩
        case finc =>
          intro D12 h12 tk12 ys12 k12 vv12 B12 F12 O12 hlen12 hP12 hpr12
          have hv12 := list_of_at hlen12 hP12
          rw [hv12] at hpr12
          have hy12 := paired_eq hpr12
          refine ⟨keepsBut_of (fun a o e => F3k a o e) F12 O12.N (fun p hp => by walk_at "mem"), [(D12, listOf ys12.toArray k12)], fun q hq => ?_, _, us, k, _, D12, ys12, k12, rfl, hB, hxs, rfl, .head _, hy12 ▸ strs_filter hxs⟩
          simp only [List.mem_cons, List.not_mem_nil, or_false] at hq
          rw [hq]
          exact ⟨(O12.N _ (.head _)).1, O12.oD⟩
      case finb =>
        intro D14 h14 tk14 ys14 k14 vv14 B14 F14 O14 hlen14 hP14 hpr14
        have N14 := newsMove O14.N
        have hv14 := list_of_at hlen14 hP14
        rw [filter_true, hv14] at hpr14
        have hZ := lists2 (fun a o o' h h' => by
          have h1 := (N10 (a, o) (by simp [h])).1
          have h2 := (N10 (a, o') (by simp [h'])).1
          rw [h1] at h2; exact Option.some.inj h2) hY hpr14
        dsimp only [List.cons_append, List.nil_append] at N14
        clear F10 N10
        walk_at "go"
        (rename Fr _ _ _ _ => F15)
        (rename News _ _ _ _ => N15)
        have hXl : 0 < (((y0 :: ts0).map (Txt.split · "/")).map (List.filter keepC)).length := by simp
        refine min_rows F15 N15 (.head _) (fun p hp => by simp [hp]) hZ hXl (unit1 hu (by decide)) hh fun h16 tk16 a16 us16 k16 F16 N16 ha16 hs16 => ?_
        clear F15 N15
        walk_at "go"
        (rename Fr _ _ _ _ => F17)
        (rename News _ _ _ _ => N17)
        refine max_rows F17 N17 (.head _) (fun p hp => by simp [hp]) hZ hXl (unit1 hu (by decide)) hh fun h18 tk18 a18 us18 k18 F18 N18 ha18 hs18 => ?_
        clear F17 N17
        walk_at "go"
        (rename Fr _ _ _ _ => F19)
        (rename News _ _ _ _ => N19)
        replace N19 := newsDup ha18 N19
        replace N19 := newsDup (List.mem_cons_of_mem _ ha16) N19
        have hmm : rowLt (maxRow (((y0 :: ts0).map (Txt.split · "/")).map (List.filter keepC))) (minRow (((y0 :: ts0).map (Txt.split · "/")).map (List.filter keepC))) = false := minRow_least (maxRow_mem hXl)
        have hCT : commonT bb (y0 :: ts0) = (if bb = true then "/" else "") ++ Txt.join "/" (cpl (minRow (((y0 :: ts0).map (Txt.split · "/")).map (List.filter keepC))) (maxRow (((y0 :: ts0).map (Txt.split · "/")).map (List.filter keepC)))) := by
          rw [commonT, List.map_map]; rfl
        rw [hCT] at hR
        clear hCT
        have hX1 : (minRow (((y0 :: ts0).map (Txt.split · "/")).map (List.filter keepC))).length ≤ 102 := by
          obtain ⟨x, hx, e⟩ := List.mem_map.mp (minRow_mem hXl)
          obtain ⟨x', hx', e'⟩ := List.mem_map.mp hx
          rw [← e, ← e']
          exact Nat.le_trans (List.length_filter_le _ _) (Nat.le_trans (split_le x' "/") (Nat.add_le_add_right (hts x' hx') 2))
        have hXs : ∀ x ∈ minRow (((y0 :: ts0).map (Txt.split · "/")).map (List.filter keepC)), x.length ≤ 100 := by
          obtain ⟨x, hx, e⟩ := List.mem_map.mp (minRow_mem hXl)
          obtain ⟨x', hx', e'⟩ := List.mem_map.mp hx
          rw [← e, ← e']
          intro y hy
          exact Nat.le_trans (part_short (List.mem_filter.mp hy).1) (hts x' hx')
        generalize minRow (((y0 :: ts0).map (Txt.split · "/")).map (List.filter keepC)) = X1 at hs16 hmm hR hX1 hXs
        generalize maxRow (((y0 :: ts0).map (Txt.split · "/")).map (List.filter keepC)) = X2 at hs18 hmm hR
        clear hZ hY
        refine cutN (CoX s.heap L' s X1 X2 bb) N19 ?_ ?_
        · refine forT ?_ (by intro _; rfl)
          walk_at "go"
          refine for_enumC (CoJ X1 X2 bb a16 a18) hh F19 N19 (.head _) ⟨rfl, rfl, rfl, rfl, rfl, trivial⟩ rfl rfl ?_ ?_
          · intro i v t m₁ h₁ tk₁ e it oe oi hv hJ F20 N20
            obtain ⟨htk, hm⟩ := hJ
            replace F20 := hm.canon F20
            obtain ⟨x, tx, rfl, hx⟩ := hs16.item i v hv
            have hi1 : i < X1.length := (List.getElem?_eq_some_iff.mp hx).1
            have hi2 : i < X2.length := rowLt_prefix i X1 X2 htk hi1 hmm
            have hl18 := hs18.length
            have hi3 : i < us18.length := by omega
            obtain ⟨t18, e18⟩ := strsGet hs18 i hi3
            clear F19 N19
            walk_at "go"
            · (rename Fr _ _ _ _ => F21)
              (rename News _ _ _ _ => N21)
              have hne : x ≠ X2.getD i "" := by
                have q : (x != X2.getD (Int.toNat (i : Int)) Str.empty) = true := by assumption
                intro e; rw [e] at q; exact absurd q (by rw [show Int.toNat (i : Int) = i from rfl]; show ¬ ((X2.getD i "" != X2.getD i "") = true); simp)
              have hx' : X1.getD i "" = x := by rw [List.getD_eq_getElem?_getD, hx]; rfl
              dsimp only
              show Behind _ _ _
              rw [pick_upto] at N21
              refine ⟨rfl, _, _, _, _, us16.take i, 0, rfl, F21, fun p hp => N21 p ?_, ?_, ?_, ⟨rfl, rfl, trivial⟩⟩
              · simp only [List.mem_cons] at hp ⊢
                rcases hp with h | h
                · exact .inl h
                · exact .inr (.inr (.inr h))
              · rw [cpl_take i X1 X2 htk hi1 hi2 (by rw [hx']; exact hne)]
                exact hs16.take' i
              · rw [List.length_take, hs16.length]; exact Nat.le_trans (Nat.min_le_right _ _) hX1
            · (rename Fr _ _ _ _ => F21)
              (rename News _ _ _ _ => N21)
              have heq : x = X2.getD i "" := by
                have q : (x != X2.getD (Int.toNat (i : Int)) Str.empty) = false := by assumption
                have q2 : (x != X2.getD i "") = false := q
                simpa using q2
              show TurnE _ _ _ _ _ _ _ _ _
              refine ⟨_, _, _, rfl, F21, N21, ?_, ⟨rfl, rfl, rfl, rfl, trivial⟩⟩
              rw [List.take_succ, List.take_succ, htk, hx, List.getElem?_eq_getElem hi2]
              rw [heq, List.getD_eq_getElem?_getD, List.getElem?_eq_getElem hi2]; rfl
          · intro m₁ h₁ tk₁ hJ F20 N20
            obtain ⟨htk, hm⟩ := hJ
            refine ⟨rfl, _, _, m₁, a16, us16, k16, rfl, F20, newsDup (.head _) N20, ?_, ?_, ⟨hm.2.2.1, hm.2.2.2.1, trivial⟩⟩
            · rw [cpl_all X1 X2 (by rw [← hs16.length, ← htk, hs16.length, List.take_length])]; exact hs16
            · rw [hs16.length]; exact hX1
        · rintro s' ⟨h20, tk20, m20, aC, usC, kC, rfl, F20, N20, hsC, hlC, hm20⟩
          replace F20 := hm20.canon F20
          clear F19 N19
          have hCl : (cpl X1 X2).length ≤ 102 := by rw [← hsC.length]; exact hlC
          have hJs : ((cpl X1 X2).map (·.length)).sum + (cpl X1 X2).length * 1 ≤ 16777216 := Nat.le_trans (Nat.add_le_add (Nat.le_trans (sum_short fun x hx => hXs x ((cpl_prefix X1 X2).subset hx)) (Nat.mul_le_mul_left 100 hCl)) (Nat.le_trans (Nat.le_of_eq (Nat.mul_one _)) hCl)) (by decide)
          have hJl := join_short (fun x hx => hXs x ((cpl_prefix X1 X2).subset hx)) hCl
          walk_at "go"
          all_goals (rename Fr _ _ _ _ => F22)
          all_goals (rename News _ _ _ _ => N22)
          all_goals refine join_list (items := usC.toArray) ⟨_, (N22 _ (.head _)).1, rfl, _, rfl⟩ hsC hJs fun t23 k23 => ?_
          · refine PyProof.Rows.add_str (fun t' k => ?_) (by have h2 : (Str.ofString "/").length = 1 := rfl; rw [h2, sizeLine_eq]; exact Nat.le_trans (Nat.add_le_add_left hJl _) (by decide))
            have hbb : bb = true := by assumption
            rw [if_pos hbb] at hR
            exact hR _ _ _ (fun x o e => F22.keep x o e)
          · refine PyProof.Rows.add_str (fun t' k => ?_) (by have h2 : (Str.ofString "").length = 0 := rfl; rw [h2, sizeLine_eq]; exact Nat.le_trans (Nat.add_le_add_left hJl _) (by decide))
            have hbb : bb = false := by assumption
            rw [if_neg (by rw [hbb]; decide)] at hR
            exact hR _ _ _ (fun x o e => F22.keep x o e)
theorem commonpath_at {Q : Value → Shared → Prop} {l : Addr} {vs : List Value} {n : Nat} {ts : List Str} {bb : Bool} (F : Fr g L s.heap m) (N : News g L s.heap news) (hm : (l, listOf vs.toArray n) ∈ news) (X : (hd.heap_39 w.params).In g) (T : Top hd.view_39 (looseW hd.view_39 []) mean mg mb g)
    (hvs : StrsAre vs ts) (hne : 0 < ts.length) (hn : ts.length ≤ 100) (hts : ∀ x ∈ ts, x.length ≤ 100) (habs : ∀ x ∈ ts, Txt.startswith x "/" = bb) (hh : A.handled = none) (hroom : A.depth + 50 < recursionLimit) (hu : A.units + 1000 < cLine)
    (hQ : ∀ h' tk t', Fr g L h' m → News g L h' news → Q (.str (commonT bb ts) t') { s with heap := h', toks := tk }) :
    wpAny (model PySem.Challenge.rw_pd0047_01.row.prog w) A (call (.ref 155) [.ref l]) Q NoE s :=
  wpAny_call (commonpath_call X T F.keep (N _ hm).1 hvs hne hn hts habs hh hroom hu fun h' tk t' hk => hQ h' tk t' (after_ext F N hk).1 (after_ext F N hk).2)
theorem depth_at {Q : Value → Shared → Prop} {x : Str} {tx : Tok} {d : Nat} (F : Fr g L s.heap m) (N : News g L s.heap news) (X : (hd.heap_39 w.params).In g) (T : Top hd.view_39 (looseW hd.view_39 []) mean mg mb g)
    (hh : A.handled = none) (hroom : A.depth + 30 < recursionLimit) (hu : A.units + 600 < cLine) (hx : x.length ≤ 1000) (hd : DepthIs x d)
    (hQ : ∀ h' tk t', Fr g L h' m → News g L h' news → Q (.int d t') { s with heap := h', toks := tk }) :
    wpAny (model PySem.Challenge.rw_pd0047_01.row.prog w) A (call (.ref 167) [.str x tx]) Q NoE s :=
  wpAny_call (depth_call X T F.keep hh hroom hu hx hd fun h' tk t' hk => hQ h' tk t' (after_ext F N hk).1 (after_ext F N hk).2)
end

/-! the plain law of the heap: sdGo, suGo, siftup, hfGo, popF, pushF over any order -/
section
variable {α : Type} {lt : α → α → Bool} {d : α}
theorem parNe {p q : Nat} (h : q < p) : p ≠ (p - 1) / 2 := Nat.ne_of_gt (halfLt h)
theorem kid {i p : Nat} (a : 0 < i) (c : (i - 1) / 2 = p) : i = 2 * p + 1 ∨ i = 2 * p + 2 := by
  cases i with
  | zero => exact absurd a (Nat.lt_irrefl _)
  | succ j =>
    have h := Nat.div_add_mod j 2
    rw [show j / 2 = p from c] at h
    rcases Nat.mod_two_eq_zero_or_one j with q | q
    · rw [q] at h; exact .inl (congrArg (· + 1) h.symm)
    · rw [q] at h; exact .inr (congrArg (· + 1) h.symm)
theorem kidGe {c r : Nat} (h0 : 0 < c) (e : (c - 1) / 2 = r) : 2 * r + 1 ≤ c := (kid h0 e).elim (fun q => Nat.le_of_eq q.symm) (fun q => q ▸ Nat.le_succ _)
theorem kid1 {i p : Nat} (a : 0 < i) (c : (i - 1) / 2 = p) (e : i ≠ 2 * p + 2) : i = 2 * p + 1 := (kid a c).resolve_right e
theorem kid2 {i p : Nat} (a : 0 < i) (c : (i - 1) / 2 = p) (e : i ≠ 2 * p + 1) : i = 2 * p + 2 := (kid a c).resolve_left e
theorem kidNe (p k : Nat) : p ≠ 2 * p + (k + 1) := by omega
theorem par1 (p : Nat) : (2 * p + 1 - 1) / 2 = p := Nat.mul_div_cancel_left p Nat.two_pos
theorem par2 (p : Nat) : (2 * p + 2 - 1) / 2 = p := Nat.mul_add_div Nat.two_pos p 1
structure Ord (lt : α → α → Bool) : Prop where
  asym : ∀ a b, lt a b = true → lt b a = false
  ntr : ∀ a b c, lt b a = false → lt c b = false → lt c a = false
theorem getD_set (xs : List α) (p i : Nat) (y d : α) : (xs.set p y).getD i d = if p = i ∧ i < xs.length then y else xs.getD i d := by
  rw [List.getD_eq_getElem?_getD, List.getD_eq_getElem?_getD, List.getElem?_set]
  by_cases h : p = i
  · subst h
    by_cases h2 : p < xs.length
    · simp [h2]
    · simp [h2]
  · simp [h]
theorem getD_set_ne {xs : List α} {p i : Nat} {y d : α} (h : p ≠ i) : (xs.set p y).getD i d = xs.getD i d := by
  rw [getD_set, if_neg (fun q => h q.1)]
theorem getD_set_eq {xs : List α} {p : Nat} {y d : α} (h : p < xs.length) : (xs.set p y).getD p d = y := by
  rw [getD_set, if_pos ⟨rfl, h⟩]
inductive Desc (j : Nat) : Nat → Prop
  | here : Desc j j
  | child {p : Nat} : Desc j ((p - 1) / 2) → 0 < p → Desc j p
theorem Desc.le {j p : Nat} (h : Desc j p) : j ≤ p := by
  induction h with
  | here => exact Nat.le_refl _
  | child _ _ ih => exact Nat.le_trans ih (halfLe _)
theorem Desc.up {j p : Nat} (h : Desc j p) (hp : j < p) : Desc j ((p - 1) / 2) := by
  cases h with
  | here => exact absurd hp (Nat.lt_irrefl _)
  | child h _ => exact h
theorem Desc.zero : ∀ p, Desc 0 p := fun p => by
  induction p using Nat.strongRecOn with
  | ind p ih =>
    by_cases h : p = 0
    · subst h; exact .here
    · exact .child (ih _ (halfLt (Nat.pos_of_ne_zero h))) (Nat.pos_of_ne_zero h)
/-- the pairs at and above j stand in order, but for those at the hole -/
noncomputable def PairsBut (lt : α → α → Bool) (d : α) (j hole : Nat) (xs : List α) : Prop :=
  ∀ i, 0 < i → i < xs.length → j ≤ (i - 1) / 2 → i ≠ hole → (i - 1) / 2 ≠ hole → lt (xs.getD i d) (xs.getD ((i - 1) / 2) d) = false
noncomputable def Hp (lt : α → α → Bool) (d : α) (j : Nat) (xs : List α) : Prop :=
  ∀ i, 0 < i → i < xs.length → j ≤ (i - 1) / 2 → lt (xs.getD i d) (xs.getD ((i - 1) / 2) d) = false
noncomputable def Kids (lt : α → α → Bool) (d : α) (hole : Nat) (xs : List α) (x : α) : Prop :=
  ∀ c, 0 < c → c < xs.length → (c - 1) / 2 = hole → lt (xs.getD c d) x = false
theorem sdGo_heap (O : Ord lt) (x : α) (j : Nat) : ∀ (pos : Nat) (xs : List α), Desc j pos → pos < xs.length → PairsBut lt d j pos xs → Kids lt d pos xs x →
    (j < pos → Kids lt d pos xs (xs.getD ((pos - 1) / 2) d)) → Hp lt d j (sdGo lt d x j xs pos) := by
  intro pos
  induction pos using Nat.strongRecOn with
  | ind pos ih =>
    intro xs hD hp hP hK hG
    have hpl := Nat.lt_of_le_of_lt (halfLe pos) hp
    have stop : (j < pos → lt x (xs.getD ((pos - 1) / 2) d) = false) → Hp lt d j (xs.set pos x) := by
      intro hs i h0 hi hj
      rw [List.length_set] at hi
      by_cases e1 : i = pos
      · subst e1
        rw [getD_set_eq hi, getD_set_ne (parNe h0)]
        exact hs (Nat.lt_of_le_of_lt hj (halfLt h0))
      · rw [getD_set_ne (fun e => e1 e.symm)]
        by_cases e2 : (i - 1) / 2 = pos
        · rw [e2, getD_set_eq hp]; exact hK i h0 hi e2
        · rw [getD_set_ne (fun e => e2 e.symm)]; exact hP i h0 hi hj e1 e2
    rw [sdGo]
    split
    · rename_i hlt
      split
      · rename_i hx
        have hDu := hD.up hlt
        have hle := hDu.le
        have hn := Nat.ne_of_lt (halfLt hlt)
        refine ih _ (halfLt hlt) _ hDu (by rw [List.length_set]; exact hpl) ?_ ?_ ?_
        · intro i h0 hi hj e1 e2
          rw [List.length_set] at hi
          by_cases e3 : i = pos
          · subst e3; exact absurd rfl e2
          · rw [getD_set_ne (fun e => e3 e.symm)]
            by_cases e4 : (i - 1) / 2 = pos
            · rw [e4, getD_set_eq hp]; exact hG hlt i h0 hi e4
            · rw [getD_set_ne (fun e => e4 e.symm)]; exact hP i h0 hi hj e3 e4
        · intro c h0 hc e
          rw [List.length_set] at hc
          by_cases e3 : c = pos
          · subst e3; rw [getD_set_eq hp]; exact O.asym _ _ hx
          · rw [getD_set_ne (fun e => e3 e.symm)]
            have := hP c h0 hc (e ▸ hle) e3 (e ▸ hn)
            rw [e] at this
            exact O.ntr _ _ _ (O.asym _ _ hx) this
        · intro hj c h0 hc e
          rw [List.length_set] at hc
          have hn2 := Nat.lt_of_le_of_lt (halfLe _) (halfLt hlt)
          rw [getD_set_ne (p := pos) (i := ((pos - 1) / 2 - 1) / 2) (Nat.ne_of_gt hn2)]
          have hDu2 := (hDu.up hj).le
          have hpp := hP ((pos - 1) / 2) (Nat.lt_of_le_of_lt (Nat.zero_le _) hj) hpl hDu2 hn (Nat.ne_of_lt hn2)
          by_cases e3 : c = pos
          · subst e3; rw [getD_set_eq hp]; exact hpp
          · rw [getD_set_ne (fun e => e3 e.symm)]
            have := hP c h0 hc (e ▸ hle) e3 (e ▸ hn)
            rw [e] at this
            exact O.ntr _ _ _ hpp this
      · rename_i hx
        exact stop fun _ => by simpa using hx
    · rename_i hlt
      exact stop fun h => absurd h hlt
theorem perm_setA (x : α) : ∀ (ys : List α) (q : Nat), q < ys.length → (ys.getD q d :: ys.set q x).Perm (x :: ys)
  | [], q, h => absurd h (Nat.not_lt_zero _)
  | y :: ys, 0, _ => .swap _ _ _
  | y :: ys, q + 1, h => by
    have ih := perm_setA x ys q (Nat.lt_of_succ_lt_succ h)
    show (ys.getD q d :: y :: ys.set q x).Perm (x :: y :: ys)
    exact (List.Perm.swap _ _ _).trans ((ih.cons y).trans (List.Perm.swap _ _ _))
theorem perm_set (x : α) : ∀ (xs : List α) (p q : Nat), p ≠ q → p < xs.length → q < xs.length → ((xs.set p (xs.getD q d)).set q x).Perm (xs.set p x)
  | [], p, q, _, h, _ => absurd h (Nat.not_lt_zero _)
  | y :: ys, 0, 0, h, _, _ => absurd rfl h
  | y :: ys, 0, q + 1, _, _, h => perm_setA x ys q (Nat.lt_of_succ_lt_succ h)
  | y :: ys, p + 1, 0, _, h, _ => by
    show (x :: ys.set p y).Perm (y :: ys.set p x)
    have h' : p < ys.length := Nat.lt_of_succ_lt_succ h
    have := perm_setA (d := d) y (ys.set p x) p (by rw [List.length_set]; exact h')
    rw [getD_set_eq h', List.set_set] at this
    exact this
  | y :: ys, p + 1, q + 1, h, h1, h2 => (perm_set x ys p q (fun e => h (congrArg (· + 1) e)) (Nat.lt_of_succ_lt_succ h1) (Nat.lt_of_succ_lt_succ h2)).cons y
theorem sdGo_perm (x : α) (j : Nat) : ∀ (pos : Nat) (xs : List α), pos < xs.length → (sdGo lt d x j xs pos).Perm (xs.set pos x) := by
  intro pos
  induction pos using Nat.strongRecOn with
  | ind pos ih =>
    intro xs hp
    rw [sdGo]
    split
    · rename_i hlt
      have hpl := Nat.lt_of_le_of_lt (halfLe pos) hp
      split
      · exact (ih _ (halfLt hlt) _ (by rw [List.length_set]; exact hpl)).trans (perm_set x xs pos _ (parNe hlt) hp hpl)
      · exact .refl _
    · exact .refl _
structure SuOut (lt : α → α → Bool) (d x : α) (j e : Nat) (xs : List α) (pos : Nat) (r : List α × Nat) : Prop where
  len : r.1.length = e
  lt' : r.2 < e
  desc : Desc j r.2
  leaf : ¬ 2 * r.2 + 1 < e
  pairs : PairsBut lt d j r.2 r.1
  perm : (r.1.set r.2 x).Perm (xs.set pos x)
theorem suStep {j : Nat} {xs : List α} {pos c : Nat} (hD : Desc j pos) (hP : PairsBut lt d j pos xs) (hG : j < pos → Kids lt d pos xs (xs.getD ((pos - 1) / 2) d))
    (hp : pos < xs.length) (hc : c < xs.length) (hcp : (c - 1) / 2 = pos) (h0 : 0 < c) (hs : ∀ i, 0 < i → i < xs.length → (i - 1) / 2 = pos → i ≠ c → lt (xs.getD i d) (xs.getD c d) = false) :
    PairsBut lt d j c (xs.set pos (xs.getD c d)) ∧ (j < c → Kids lt d c (xs.set pos (xs.getD c d)) ((xs.set pos (xs.getD c d)).getD ((c - 1) / 2) d)) := by
  have hpc : pos < c := hcp ▸ halfLt h0
  refine ⟨fun i h1 h2 h3 h4 h5 => ?_, fun hj i h1 h2 h3 => ?_⟩
  · rw [List.length_set] at h2
    by_cases e1 : i = pos
    · subst e1
      rw [getD_set_eq hp, getD_set_ne (parNe h1)]
      exact hG (Nat.lt_of_le_of_lt h3 (halfLt h1)) c h0 hc hcp
    · rw [getD_set_ne (fun e => e1 e.symm)]
      by_cases e2 : (i - 1) / 2 = pos
      · rw [e2, getD_set_eq hp]; exact hs i h1 h2 e2 h4
      · rw [getD_set_ne (fun e => e2 e.symm)]; exact hP i h1 h2 h3 e1 e2
  · rw [List.length_set] at h2
    have hpi : pos < i := Nat.lt_trans hpc (h3 ▸ halfLt h1)
    rw [hcp, getD_set_eq hp, getD_set_ne (Nat.ne_of_lt hpi)]
    have := hP i h1 h2 (h3 ▸ Nat.le_of_lt hj) (Nat.ne_of_gt hpi) (h3 ▸ Nat.ne_of_gt hpc)
    rw [h3] at this; exact this
theorem suGo_spec (O : Ord lt) (x : α) (j e : Nat) (xs : List α) (pos : Nat) (hlen : xs.length = e) (hD : Desc j pos) (hp : pos < e) (hP : PairsBut lt d j pos xs)
    (hG : j < pos → Kids lt d pos xs (xs.getD ((pos - 1) / 2) d)) : SuOut lt d x j e xs pos (suGo lt d e xs pos) := by
  fun_induction suGo lt d e xs pos with
  | case1 xs pos h1 h2 ih =>
    have hsm : ∀ i, 0 < i → i < xs.length → (i - 1) / 2 = pos → i ≠ 2 * pos + 2 → lt (xs.getD i d) (xs.getD (2 * pos + 2) d) = false := fun i a b c e => by
      rw [kid1 a c e]; exact Bool.not_eq_true _ ▸ h2.2
    obtain ⟨P', G'⟩ := suStep hD hP hG (hlen ▸ hp) (hlen ▸ h2.1) (par2 _) (Nat.succ_pos _) hsm
    have r := ih (by rw [List.length_set]; exact hlen) (.child ((par2 _).symm ▸ hD) (Nat.succ_pos _)) h2.1 P' G'
    exact ⟨r.len, r.lt', r.desc, r.leaf, r.pairs, r.perm.trans (perm_set x xs pos _ (kidNe pos 1) (hlen ▸ hp) (hlen ▸ h2.1))⟩
  | case2 xs pos h1 h2 ih =>
    have hsm : ∀ i, 0 < i → i < xs.length → (i - 1) / 2 = pos → i ≠ 2 * pos + 1 → lt (xs.getD i d) (xs.getD (2 * pos + 1) d) = false := fun i a b c e' => by
      have e2 := kid2 a c e'
      rw [e2]
      refine O.asym _ _ ?_
      by_cases q : lt (xs.getD (2 * pos + 1) d) (xs.getD (2 * pos + 2) d) = true
      · exact q
      · exact absurd ⟨hlen ▸ e2 ▸ b, q⟩ h2
    obtain ⟨P', G'⟩ := suStep hD hP hG (hlen ▸ hp) (hlen ▸ h1) (par1 _) (Nat.succ_pos _) hsm
    have r := ih (by rw [List.length_set]; exact hlen) (.child ((par1 _).symm ▸ hD) (Nat.succ_pos _)) h1 P' G'
    exact ⟨r.len, r.lt', r.desc, r.leaf, r.pairs, r.perm.trans (perm_set x xs pos _ (kidNe pos 0) (hlen ▸ hp) (hlen ▸ h1))⟩
  | case3 xs pos h => exact ⟨hlen, hp, hD, h, hP, .refl _⟩
theorem set_self (xs : List α) (p : Nat) : xs.set p (xs.getD p d) = xs := by
  by_cases h : p < xs.length
  · rw [List.getD_eq_getElem?_getD, List.getElem?_eq_getElem h]; exact List.set_getElem_self h
  · exact List.set_eq_of_length_le (Nat.le_of_not_lt h)
theorem siftup_heap (O : Ord lt) {xs : List α} {j : Nat} (hj : j < xs.length) (h : Hp lt d (j + 1) xs) : Hp lt d j (siftup lt d xs j) ∧ (siftup lt d xs j).Perm xs := by
  have r := suGo_spec (d := d) O (xs.getD j d) j xs.length xs j rfl .here hj (fun i h0 hi hj' e1 e2 => h i h0 hi (Nat.lt_of_le_of_ne hj' (Ne.symm e2))) (fun q => absurd q (Nat.lt_irrefl _))
  rw [siftup]
  generalize suGo lt d xs.length xs j = R at r
  have hlen : (R.1.set R.2 (xs.getD j d)).length = xs.length := by rw [List.length_set]; exact r.len
  have nok : ∀ y, Kids lt d R.2 (R.1.set R.2 (xs.getD j d)) y := fun y c h0 hc e => by
    rw [hlen] at hc; exact absurd (Nat.lt_of_le_of_lt (kidGe h0 e) hc) r.leaf
  refine ⟨sdGo_heap O _ _ _ _ r.desc (by rw [hlen]; exact r.lt') (fun i h0 hi hj e1 e2 => ?_) (nok _) (fun _ => nok _), ?_⟩
  · rw [hlen] at hi
    rw [getD_set_ne (fun e => e1 e.symm), getD_set_ne (fun e => e2 e.symm)]
    exact r.pairs i h0 (by rw [r.len]; exact hi) hj e1 e2
  · refine (sdGo_perm _ _ _ _ (by rw [hlen]; exact r.lt')).trans ?_
    rw [List.set_set]
    refine r.perm.trans ?_
    rw [set_self]
theorem hfGo_heap (O : Ord lt) : ∀ (k : Nat) (xs : List α), k ≤ xs.length → Hp lt d k xs → Hp lt d 0 (hfGo lt d k xs) ∧ (hfGo lt d k xs).Perm xs
  | 0, xs, _, h => ⟨h, .refl _⟩
  | k + 1, xs, hk, h => by
    obtain ⟨h1, h2⟩ := siftup_heap (d := d) O hk h
    obtain ⟨h3, h4⟩ := hfGo_heap O k _ (by rw [h2.length_eq]; exact Nat.le_of_succ_le hk) h1
    exact ⟨h3, h4.trans h2⟩
theorem heapify_heap (O : Ord lt) (xs : List α) : Hp lt d 0 (hfGo lt d (xs.length / 2) xs) ∧ (hfGo lt d (xs.length / 2) xs).Perm xs :=
  hfGo_heap O _ _ (Nat.div_le_self _ _) fun i h0 hi hj =>
    absurd ((Nat.div_lt_iff_lt_mul Nat.two_pos).mp (Nat.lt_succ_of_le hj)) (Nat.not_lt.mpr (by rw [Nat.mul_comm]; exact Nat.lt_of_le_of_lt (kidGe h0 rfl) hi))
theorem Hp.least (O : Ord lt) {xs : List α} (h : Hp lt d 0 xs) (irr : ∀ a, lt a a = false) : ∀ i, i < xs.length → lt (xs.getD i d) (xs.getD 0 d) = false := by
  intro i
  induction i using Nat.strongRecOn with
  | ind i ih =>
    intro hi
    by_cases e : i = 0
    · subst e; exact irr _
    · exact O.ntr _ _ _ (ih ((i - 1) / 2) (halfLt (Nat.pos_of_ne_zero e)) (Nat.lt_of_le_of_lt (halfLe i) hi)) (h i (Nat.pos_of_ne_zero e) hi (Nat.zero_le _))
end
theorem popF_heap {lt : Value → Value → Bool} (O : Ord lt) {vs : List Value} (h0 : 0 < vs.length) (h : Hp lt .none 0 vs) : Hp lt .none 0 (popF lt vs) ∧ vs.Perm (vs.getD 0 .none :: popF lt vs) := by
  rw [popF]
  split
  · rename_i h1
    refine ⟨fun i a b => absurd b (Nat.not_lt_zero _), ?_⟩
    cases vs with
    | nil => exact absurd h0 (Nat.lt_irrefl _)
    | cons v r =>
      cases r with
      | nil => exact .refl _
      | cons a b => exact absurd h1 (by simp)
  · rename_i h1
    have hlen : (vs.dropLast.set 0 (vs.getD (vs.length - 1) .none)).length = vs.length - 1 := by rw [List.length_set, List.length_dropLast]
    obtain ⟨a, b⟩ := siftup_heap (d := .none) O (xs := vs.dropLast.set 0 (vs.getD (vs.length - 1) .none)) (j := 0) (by rw [hlen]; exact Nat.sub_pos_of_lt (Nat.lt_of_not_le h1)) (fun i h2 h3 h4 => by
      rw [hlen] at h3
      have hd : ∀ k, k < vs.length - 1 → vs.dropLast.getD k .none = vs.getD k .none := fun k hk => by
        rw [List.getD_eq_getElem?_getD, List.getD_eq_getElem?_getD, List.getElem?_dropLast, if_pos hk]
      rw [getD_set_ne (Nat.ne_of_lt h2), getD_set_ne (Nat.ne_of_lt h4), hd i h3, hd _ (Nat.lt_of_le_of_lt (halfLe i) h3)]
      exact h i h2 (Nat.lt_of_lt_of_le h3 (Nat.sub_le _ _)) (Nat.zero_le _))
    refine ⟨a, List.Perm.trans ?_ (b.symm.cons _)⟩
    have hne : vs ≠ [] := by intro e; rw [e] at h0; exact absurd h0 (Nat.lt_irrefl _)
    have e1 : vs.getD (vs.length - 1) .none = vs.getLast hne := by
      rw [List.getD_eq_getElem?_getD, List.getElem?_eq_getElem (Nat.sub_lt h0 Nat.one_pos), List.getLast_eq_getElem]; rfl
    rw [e1]
    have e2 : vs.dropLast ++ [vs.getLast hne] = vs := List.dropLast_concat_getLast hne
    generalize vs.getLast hne = z at e2
    generalize vs.dropLast = ds at e2 hlen
    subst e2
    cases ds with
    | nil => simp at h1
    | cons y ys =>
      show (y :: (ys ++ [z])).Perm (y :: z :: ys)
      exact (List.perm_append_comm (l₁ := ys) (l₂ := [z])).cons y
theorem pushF_heap {lt : Value → Value → Bool} (O : Ord lt) {vs : List Value} (x : Value) (h : Hp lt .none 0 vs) : Hp lt .none 0 (pushF lt vs x) ∧ (pushF lt vs x).Perm (x :: vs) := by
  rw [pushF]
  have hg : ∀ i, i < vs.length → (vs ++ [x]).getD i .none = vs.getD i .none := fun i hi => by
    rw [List.getD_eq_getElem?_getD, List.getD_eq_getElem?_getD, List.getElem?_append_left hi]
  have nok : ∀ y, Kids lt .none vs.length (vs ++ [x]) y := fun y c h0 hc e => by
    simp only [List.length_append, List.length_cons, List.length_nil] at hc; have := kidGe h0 e; (clear e; omega)
  refine ⟨sdGo_heap O _ _ _ _ (Desc.zero _) (by simp) (fun i h0 hi hj e1 e2 => ?_) (nok _) (fun _ => nok _), (sdGo_perm _ _ _ _ (by simp)).trans ?_⟩
  · simp only [List.length_append, List.length_cons, List.length_nil] at hi
    have hi' := Nat.lt_of_le_of_ne (Nat.le_of_lt_succ hi) e1
    rw [hg i hi', hg _ (Nat.lt_of_le_of_lt (halfLe i) hi')]
    exact h i h0 hi' hj
  · have : (vs ++ [x]).set vs.length x = vs ++ [x] := by
      have e := set_self (d := .none) (vs ++ [x]) vs.length
      have q : (vs ++ [x]).getD vs.length Value.none = x := by simp
      rw [q] at e; exact e
    rw [this]
    exact List.perm_append_comm (l₁ := vs) (l₂ := [x])

/-! orders -/
section
variable {α β γ : Type}
structure Sto (lt : α → α → Bool) : Prop where
  irr : ∀ a, lt a a = false
  tr : ∀ a b c, lt a b = true → lt b c = true → lt a c = true
  tot : ∀ a b, a ≠ b → lt a b = false → lt b a = true
noncomputable def lexP [DecidableEq α] (l1 : α → α → Bool) (l2 : β → β → Bool) (p q : α × β) : Bool := if p.1 = q.1 then l2 p.2 q.2 else l1 p.1 q.1
theorem Sto.asym {lt : α → α → Bool} (h : Sto lt) {a b : α} (e : lt a b = true) : lt b a = false := by
  cases q : lt b a with
  | false => rfl
  | true => have := h.tr _ _ _ e q; rw [h.irr] at this; exact this.symm
theorem Sto.ntr {lt : α → α → Bool} (h : Sto lt) {a b c : α} (h1 : lt b a = false) (h2 : lt c b = false) [DecidableEq α] : lt c a = false := by
  by_cases e1 : a = b
  · subst e1; exact h2
  · by_cases e2 : b = c
    · subst e2; exact h1
    · exact h.asym (h.tr _ _ _ (h.tot _ _ (Ne.symm e1) h1) (h.tot _ _ (Ne.symm e2) h2))
theorem Sto.anti {lt : α → α → Bool} (h : Sto lt) {a b : α} [DecidableEq α] (h1 : lt b a = false) (h2 : lt a b = false) : a = b := by
  by_cases e : a = b
  · exact e
  · have := h.tot _ _ e h2; rw [h1] at this; cases this
theorem Sto.lexP [DecidableEq α] {l1 : α → α → Bool} {l2 : β → β → Bool} (h1 : Sto l1) (h2 : Sto l2) : Sto (lexP l1 l2) where
  irr a := by rw [Mine.lexP, if_pos rfl]; exact h2.irr _
  tr a b c e1 e2 := by
    rw [Mine.lexP] at e1 e2 ⊢
    split at e1
    · rename_i q1
      rw [q1]
      split at e2
      · rename_i q2; rw [if_pos q2]; exact h2.tr _ _ _ e1 e2
      · rename_i q2; rw [if_neg q2]; exact e2
    · rename_i q1
      split at e2
      · rename_i q2; rw [← q2, if_neg q1]; exact e1
      · have e3 := h1.tr _ _ _ e1 e2
        rw [if_neg]
        · exact e3
        · intro q; rw [q, h1.irr] at e3; cases e3
  tot a b hne e := by
    rw [Mine.lexP] at e ⊢
    split at e
    · rename_i q
      rw [if_pos q.symm]
      exact h2.tot _ _ (fun z => hne (Prod.ext q z)) e
    · rename_i q
      rw [if_neg (fun z => q z.symm)]
      exact h1.tot _ _ q e
theorem Sto.ord [DecidableEq α] {lt : α → α → Bool} (h : Sto lt) (f : γ → α) : Ord (fun x y => lt (f x) (f y)) where
  asym _ _ e := h.asym e
  ntr _ _ _ e1 e2 := h.ntr e1 e2
noncomputable abbrev iLt (a b : Int) : Bool := decide (a < b)
noncomputable abbrev nLt (a b : Nat) : Bool := decide ((a : Int) < (b : Int))
theorem sto_i : Sto iLt where
  irr a := by simp [iLt]
  tr a b c := by simp only [iLt, decide_eq_true_eq]; (first | lia | omega)
  tot a b := by simp only [iLt, decide_eq_true_eq, decide_eq_false_iff_not]; (first | lia | omega)
theorem sto_n : Sto nLt where
  irr a := by simp [nLt]
  tr a b c := by simp only [nLt, decide_eq_true_eq]; (first | lia | omega)
  tot a b := by simp only [nLt, decide_eq_true_eq, decide_eq_false_iff_not]; (first | lia | omega)
theorem sto_s : Sto sLt := ⟨sLt_irrefl, fun _ _ _ => sLt_trans, fun _ _ => sLt_total⟩
noncomputable abbrev K2 := Int × Str
noncomputable abbrev K3 := Int × Nat × Str
noncomputable abbrev K4 := Int × Str × Nat × Nat
noncomputable def lt2 : K2 → K2 → Bool := lexP iLt sLt
noncomputable def lt3 : K3 → K3 → Bool := lexP iLt (lexP nLt sLt)
noncomputable def lt4 : K4 → K4 → Bool := lexP iLt (lexP sLt (lexP nLt nLt))
theorem sto2 : Sto lt2 := sto_i.lexP sto_s
theorem sto3 : Sto lt3 := sto_i.lexP (sto_n.lexP sto_s)
theorem sto4 : Sto lt4 := sto_i.lexP (sto_s.lexP (sto_n.lexP sto_n))
theorem lt4_lt2 {a b : K4} (h : lt4 a b = false) : lt2 (a.1, a.2.1) (b.1, b.2.1) = false := by
  unfold lt4 lexP at h
  unfold lt2 lexP
  dsimp only at h ⊢
  split at h
  · rename_i e
    rw [if_pos e]
    split at h
    · rename_i e2; rw [e2]; exact sLt_irrefl _
    · exact h
  · rename_i e; rw [if_neg e]; exact h
theorem lt4_fst {a b : K4} (h : lt4 a b = false) : b.1 ≤ a.1 := by
  unfold lt4 lexP at h
  split at h
  · rename_i e; (first | lia | omega)
  · simp only [iLt, decide_eq_false_iff_not] at h; (first | lia | omega)
theorem lt3_fst {a b : K3} (h : lt3 a b = false) : b.1 ≤ a.1 := by
  unfold lt3 lexP at h
  split at h
  · rename_i e; (first | lia | omega)
  · simp only [iLt, decide_eq_false_iff_not] at h; (first | lia | omega)
theorem lt2_fst {a b : K2} (h : lt2 a b = false) : b.1 ≤ a.1 := by
  unfold lt2 lexP at h
  split at h
  · rename_i e; (first | lia | omega)
  · simp only [iLt, decide_eq_false_iff_not] at h; (first | lia | omega)
/-- two sorted lists of the same items are one -/
theorem sorted_unique [DecidableEq α] {lt : α → α → Bool} (h : Sto lt) {l l' : List α} (s1 : l.Pairwise (fun a b => lt b a = false)) (s2 : l'.Pairwise (fun a b => lt b a = false)) (p : l.Perm l') : l = l' :=
  p.eq_of_pairwise (fun _ _ _ _ e1 e2 => h.anti e1 e2) s1 s2
end
/-! fronts -/
noncomputable abbrev Row := List Str
noncomputable def fr (A : List Row) (P : Row) : Bool := A.any (P.isPrefixOf ·)
noncomputable def val (U : List Str) (A : List Row) (P : Row) : Nat := A.count P + U.countP (fun x => fr A (P ++ [x]))
noncomputable def mul (U : List Str) (A : List Row) (P : Row) : Nat := val U A P - 1
theorem fr_iff {A : List Row} {P : Row} : fr A P = true ↔ ∃ r ∈ A, P <+: r := by
  unfold fr
  rw [List.any_eq_true]
  simp only [List.isPrefixOf_iff_prefix]
theorem fr_append (A B : List Row) (P : Row) : fr (A ++ B) P = (fr A P || fr B P) := List.any_append
theorem fr_perm {A B : List Row} (h : A.Perm B) (P : Row) : fr A P = fr B P := h.any_eq
theorem mul_perm (U : List Str) {A B : List Row} (h : A.Perm B) (P : Row) : mul U A P = mul U B P := by
  unfold mul val
  rw [h.count_eq]
  congr 3
  funext x
  exact fr_perm h _
theorem val_pos {U : List Str} {A : List Row} (hU : ∀ r ∈ A, ∀ x ∈ r, x ∈ U) (P : Row) : 0 < val U A P ↔ fr A P = true := by
  rw [fr_iff]
  constructor
  · intro h
    unfold val at h
    by_cases h1 : 0 < A.count P
    · exact ⟨P, List.count_pos_iff.mp h1, List.prefix_rfl⟩
    · have h2 : 0 < U.countP (fun x => fr A (P ++ [x])) := by (first | lia | omega)
      obtain ⟨x, _, hx⟩ := List.countP_pos_iff.mp h2
      obtain ⟨r, hr, hp⟩ := fr_iff.mp hx
      exact ⟨r, hr, (List.prefix_append P [x]).trans hp⟩
  · rintro ⟨r, hr, t, rfl⟩
    unfold val
    cases t with
    | nil =>
      rw [List.append_nil] at hr
      have := List.count_pos_iff.mpr hr
      (first | lia | omega)
    | cons x t =>
      have : 0 < U.countP (fun x => fr A (P ++ [x])) := List.countP_pos_iff.mpr ⟨x, hU _ hr x (by simp), fr_iff.mpr ⟨_, hr, ⟨t, by simp⟩⟩⟩
      (first | lia | omega)
theorem countP_or_and (p q : Str → Bool) : ∀ U : List Str, U.countP (fun x => p x || q x) + U.countP (fun x => p x && q x) = U.countP p + U.countP q := by
  intro U
  induction U with
  | nil => rfl
  | cons x U ih =>
    rw [List.countP_cons, List.countP_cons, List.countP_cons, List.countP_cons, Nat.add_add_add_comm, ih,
      (by decide : ∀ a b : Bool, (if (a || b) = true then 1 else 0) + (if (a && b) = true then 1 else 0) = (if a = true then 1 else 0) + (if b = true then 1 else 0)), Nat.add_add_add_comm]
theorem countP_next {U : List Str} (hn : U.Nodup) {F : Row} (hF : ∀ x ∈ F, x ∈ U) (P : Row) : U.countP (fun x => (P ++ [x]).isPrefixOf F) = if P <+: F ∧ P ≠ F then 1 else 0 := by
  by_cases h : P <+: F ∧ P ≠ F
  · rw [if_pos h]
    obtain ⟨⟨t, rfl⟩, hne⟩ := h
    cases t with
    | nil => simp at hne
    | cons y t =>
      have e : (fun x => (P ++ [x]).isPrefixOf (P ++ y :: t)) = fun x => x == y := by
        funext x
        rw [Bool.eq_iff_iff, List.isPrefixOf_iff_prefix, List.prefix_append_right_inj, List.cons_prefix_cons]
        simp
      rw [e]
      have := List.Nodup.count (a := y) hn
      rw [if_pos (hF y (by simp))] at this
      exact this
  · rw [if_neg h]
    rw [List.countP_eq_zero]
    intro x _ hx
    rw [List.isPrefixOf_iff_prefix] at hx
    refine h ⟨(List.prefix_append P [x]).trans hx, ?_⟩
    rintro rfl
    have := hx.length_le
    simp only [List.length_append, List.length_cons, List.length_nil] at this
    (first | lia | omega)
theorem tie1 {a b t : Nat} (ha : 0 < a) (hb : 0 < b) (h : t + 0 = a + b) : t - 1 = a - 1 + (b - 1) + 1 := by
  rw [Nat.add_assoc, Nat.sub_add_cancel hb, ← Nat.sub_add_comm ha]; exact congrArg (· - 1) h
theorem tie2 {a b t : Nat} (ha : 0 < a) (hb : 0 < b) (h : t + 1 = a + b) : t - 1 = a - 1 + (b - 1) + 0 := by
  rw [Nat.eq_sub_of_add_eq h, Nat.sub_add_comm ha, Nat.add_sub_assoc hb, Nat.add_zero]
theorem tie3 {a b t : Nat} (hb : ¬ 0 < b) (h : t + 0 = a + b) : t - 1 = a - 1 + (b - 1) + 0 := by
  rw [Nat.eq_zero_of_not_pos hb] at h ⊢; exact congrArg (· - 1) h
/-- two bundles that share the chain to F alone -/
theorem mul_tie {U : List Str} (hn : U.Nodup) {A B : List Row} {F : Row} (hA : ∀ r ∈ A, ∀ x ∈ r, x ∈ U) (hB : ∀ r ∈ B, ∀ x ∈ r, x ∈ U) (hAB : ∀ P, (fr A P && fr B P) = P.isPrefixOf F) (P : Row) :
    mul U (A ++ B) P = mul U A P + mul U B P + if P = F then 1 else 0 := by
  have hF : ∀ x ∈ F, x ∈ U := by
    have := hAB F
    rw [List.isPrefixOf_iff_prefix.mpr List.prefix_rfl, Bool.and_eq_true, fr_iff] at this
    obtain ⟨⟨r, hr, hp⟩, _⟩ := this
    exact fun x hx => hA r hr x (hp.subset hx)
  have hT : val U (A ++ B) P + (if P <+: F ∧ P ≠ F then 1 else 0) = val U A P + val U B P := by
    have e1 := countP_or_and (fun x => fr A (P ++ [x])) (fun x => fr B (P ++ [x])) U
    rw [show (fun x => fr A (P ++ [x]) && fr B (P ++ [x])) = fun x => (P ++ [x]).isPrefixOf F from funext fun x => hAB _, countP_next hn hF] at e1
    unfold val
    rw [List.count_append, show (fun x => fr (A ++ B) (P ++ [x])) = fun x => fr A (P ++ [x]) || fr B (P ++ [x]) from funext fun x => fr_append _ _ _, Nat.add_assoc]
    exact (congrArg (A.count P + B.count P + ·) e1).trans (Nat.add_add_add_comm _ _ _ _)
  have vA := val_pos hA P
  have vB := val_pos hB P
  have hP := hAB P
  unfold mul
  by_cases h : P <+: F
  · rw [List.isPrefixOf_iff_prefix.mpr h, Bool.and_eq_true] at hP
    by_cases e : P = F
    · rw [if_neg (fun q => q.2 e)] at hT
      rw [if_pos e]; exact tie1 (vA.mpr hP.1) (vB.mpr hP.2) hT
    · rw [if_pos ⟨h, e⟩] at hT
      rw [if_neg e]; exact tie2 (vA.mpr hP.1) (vB.mpr hP.2) hT
  · rw [if_neg (fun q => h q.1)] at hT
    rw [if_neg (fun e : P = F => h (e ▸ List.prefix_rfl))]
    by_cases a : fr A P = true
    · refine tie3 (fun q => h (List.isPrefixOf_iff_prefix.mp (hP.symm.trans ?_))) hT
      rw [a, vB.mp q]; rfl
    · rw [Nat.add_comm (_ - 1)]
      exact tie3 (fun q => a (vA.mp q)) (hT.trans (Nat.add_comm _ _))
theorem mul_one {U : List Str} (hn : U.Nodup) {r : Row} (hr : ∀ x ∈ r, x ∈ U) (P : Row) : mul U [r] P = 0 := by
  have h := countP_next hn hr P
  have e : (fun x => fr [r] (P ++ [x])) = fun x => (P ++ [x]).isPrefixOf r := funext fun x => by simp [fr]
  unfold mul val
  rw [e, h, List.count_singleton]
  by_cases q : P = r
  · rw [if_neg (show ¬ (P <+: r ∧ P ≠ r) from fun z => z.2 q)]; split <;> simp
  · have : (r == P) = false := by rw [beq_eq_false_iff_ne]; exact fun z : r = P => q z.symm
    rw [this]
    show (if false = true then 1 else 0) + (if P <+: r ∧ P ≠ r then 1 else 0) - 1 = 0
    rw [if_neg (by decide)]; split <;> rfl
/-! the front that rows share -/
noncomputable def comF (X : List Row) : Row := cpl (minRow X) (maxRow X)
theorem cpl_spec (P xs ys : Row) : P <+: cpl xs ys ↔ P <+: xs ∧ P <+: ys := by
  induction P generalizing xs ys with
  | nil => exact ⟨fun _ => ⟨List.nil_prefix, List.nil_prefix⟩, fun _ => List.nil_prefix⟩
  | cons p P ih =>
    cases xs with
    | nil => exact ⟨fun h => ⟨h, (nomatch List.prefix_nil.mp h)⟩, fun h => h.1⟩
    | cons x xs =>
      cases ys with
      | nil => exact ⟨fun h => (nomatch List.prefix_nil.mp h), fun h => h.2⟩
      | cons y ys =>
        rw [cpl, List.cons_prefix_cons, List.cons_prefix_cons]
        split
        · rename_i e
          subst e
          rw [List.cons_prefix_cons, ih]
          exact ⟨fun h => ⟨⟨h.1, h.2.1⟩, h.1, h.2.2⟩, fun h => ⟨h.1.1, h.1.2, h.2.2⟩⟩
        · rename_i e
          exact ⟨fun h => (nomatch List.prefix_nil.mp h), fun h => absurd (h.1.1.symm.trans h.2.1) e⟩
theorem between (P a r b : Row) (h1 : P <+: a) (h2 : P <+: b) (h3 : rowLt r a = false) (h4 : rowLt b r = false) : P <+: r := by
  induction P generalizing a r b with
  | nil => exact List.nil_prefix
  | cons p P ih =>
    obtain ⟨a, rfl⟩ := h1
    obtain ⟨b, rfl⟩ := h2
    cases r with
    | nil => cases h3
    | cons z r =>
      rw [List.cons_append, rowLt] at h3 h4
      by_cases e : p = z
      · subst e
        rw [if_pos (beq_self_eq_true p)] at h3 h4
        exact List.cons_prefix_cons.mpr ⟨rfl, ih _ _ _ (List.prefix_append _ _) (List.prefix_append _ _) h3 h4⟩
      · rw [if_neg (fun q => e (eq_of_beq q).symm)] at h3
        rw [if_neg (fun q => e (eq_of_beq q))] at h4
        exact absurd (h3.symm.trans (sLt_total e h4)) Bool.false_ne_true
theorem comF_spec {X : List Row} (h : 0 < X.length) (P : Row) : P <+: comF X ↔ ∀ r ∈ X, P <+: r := by
  rw [comF, cpl_spec]
  constructor
  · rintro ⟨h1, h2⟩ r hr
    exact between P _ r _ h1 h2 (minRow_least hr) (maxRow_most hr)
  · intro q; exact ⟨q _ (minRow_mem h), q _ (maxRow_mem h)⟩
theorem prefix_both {P Q R : Row} (h1 : P <+: R) (h2 : Q <+: R) (h : P.length ≤ Q.length) : P <+: Q := List.prefix_of_prefix_length_le h1 h2 h
theorem prefix_ext {F G : Row} (h : ∀ P, P <+: F ↔ P <+: G) : F = G :=
  ((h F).mp List.prefix_rfl).eq_of_length_le (((h G).mpr List.prefix_rfl).length_le)
noncomputable def lcp (r s : Row) : Row := comF [r, s]
theorem lcp_spec (r s P : Row) : P <+: lcp r s ↔ P <+: r ∧ P <+: s := by
  rw [lcp, comF_spec (by simp)]; simp

/-! the two ways of tying -/
noncomputable def rowAt (rows : List Row) (k : Nat) : Row := rows.getD k []
noncomputable abbrev Lc (rows : List Row) (i j : Nat) : Row := lcp (rowAt rows i) (rowAt rows j)
noncomputable def key2 (sf : Row → Str) (F : Row) : K2 := (-(F.length : Int), sf F)
noncomputable def entry4 (sf : Row → Str) (rows : List Row) (i j : Nat) : K4 := (-((Lc rows i j).length : Int), sf (Lc rows i j), i, j)
theorem lcp_comm (r s : Row) : lcp r s = lcp s r := prefix_ext fun P => by rw [lcp_spec, lcp_spec]; exact And.comm
theorem flat_disj {α : Type} {x : α} : ∀ {bs : List (List α)}, bs.flatten.Nodup → ∀ {b c : List α}, b ∈ bs → c ∈ bs → x ∈ b → x ∈ c → b = c
  | [], _, _, _, h, _, _, _ => nomatch h
  | d :: bs, hn, b, c, hb, hc, xb, xc => by
    rw [List.flatten_cons, List.nodup_append] at hn
    rcases List.mem_cons.mp hb with rfl | hb <;> rcases List.mem_cons.mp hc with rfl | hc
    · rfl
    · exact absurd rfl (hn.2.2 x xb x (List.mem_flatten.mpr ⟨_, by assumption, xc⟩))
    · exact absurd rfl (hn.2.2 x xc x (List.mem_flatten.mpr ⟨_, by assumption, xb⟩))
    · exact flat_disj hn.2.1 hb hc xb xc
theorem flat_nodup {α : Type} : ∀ {bs : List (List α)}, bs.flatten.Nodup → (∀ b ∈ bs, b ≠ []) → bs.Nodup
  | [], _, _ => List.nodup_nil
  | d :: bs, hn, h => by
    have hn' := hn
    rw [List.flatten_cons, List.nodup_append] at hn'
    refine List.nodup_cons.mpr ⟨fun hd => ?_, flat_nodup hn'.2.1 fun b hb => h b (.tail _ hb)⟩
    have hne := h d (.head _)
    match d, hne with
    | x :: d, _ => exact absurd rfl (hn'.2.2 x (.head _) x (List.mem_flatten.mpr ⟨_, hd, .head _⟩))
structure Kru (U : List Str) (sf : Row → Str) (rows : List Row) (bs : List (List Nat)) (its : List K4) (noted : List Row) : Prop where
  part : bs.flatten.Perm (List.range rows.length)
  ne : ∀ b ∈ bs, b ≠ []
  ok : ∀ t ∈ its, ∃ i j, i < j ∧ j < rows.length ∧ t = entry4 sf rows i j
  all : ∀ i j, i < j → j < rows.length → entry4 sf rows i j ∈ its ∨ ∃ b ∈ bs, i ∈ b ∧ j ∈ b
  close : ∀ b ∈ bs, ∀ i ∈ b, ∀ j ∈ b, i ≠ j → ∀ t ∈ its, -t.1 ≤ ((Lc rows i j).length : Int)
  cnt : ∀ P, noted.count P = (bs.map fun b => mul U (b.map (rowAt rows)) P).sum
  sorted : (noted.map (key2 sf)).Pairwise (fun a b => lt2 b a = false)
  below : ∀ a ∈ noted, ∀ t ∈ its, lt2 (t.1, t.2.1) (key2 sf a) = false
section
variable {U : List Str} {sf : Row → Str} {rows : List Row} {bs : List (List Nat)} {its its' : List K4} {noted : List Row}
theorem rowAt_names (hU : ∀ r ∈ rows, ∀ x ∈ r, x ∈ U) (k : Nat) : ∀ x ∈ rowAt rows k, x ∈ U := by
  unfold rowAt
  rw [List.getD_eq_getElem?_getD]
  cases e : rows[k]? with
  | none => intro x hx; cases hx
  | some r => exact hU r (List.mem_of_getElem? e)
theorem sum_zero {α : Type} {f : α → Nat} : ∀ {l : List α}, (∀ x ∈ l, f x = 0) → (l.map f).sum = 0
  | [], _ => rfl
  | x :: l, h => by rw [List.map_cons, List.sum_cons, h x (.head _), sum_zero fun y hy => h y (.tail _ hy)]
theorem flatten_singles {α : Type} : ∀ l : List α, (l.map fun k => [k]).flatten = l
  | [] => rfl
  | x :: l => by rw [List.map_cons, List.flatten_cons, flatten_singles l]; rfl
theorem Kru.start (hn : U.Nodup) (hU : ∀ r ∈ rows, ∀ x ∈ r, x ∈ U) (ok : ∀ t ∈ its, ∃ i j, i < j ∧ j < rows.length ∧ t = entry4 sf rows i j)
    (all : ∀ i j, i < j → j < rows.length → entry4 sf rows i j ∈ its) : Kru U sf rows ((List.range rows.length).map fun k => [k]) its [] where
  part := by rw [flatten_singles]
  ne b hb := by obtain ⟨k, _, rfl⟩ := List.mem_map.mp hb; exact List.cons_ne_nil _ _
  ok := ok
  all i j h1 h2 := .inl (all i j h1 h2)
  close b hb i hi j hj hne := by
    obtain ⟨k, _, rfl⟩ := List.mem_map.mp hb
    simp only [List.mem_cons, List.not_mem_nil, or_false] at hi hj
    exact absurd (hi.trans hj.symm) hne
  cnt P := by
    rw [sum_zero]; rfl
    intro b hb
    obtain ⟨k, _, rfl⟩ := List.mem_map.mp hb
    exact mul_one hn (rowAt_names hU k) P
  sorted := List.Pairwise.nil
  below a ha := nomatch ha
noncomputable def pairOf (bs : List (List Nat)) (i j : Nat) : List (List Nat) := bs.filter fun b => decide (i ∈ b) || decide (j ∈ b)
theorem mem_pairOf {i j : Nat} {b : List Nat} : b ∈ pairOf bs i j ↔ b ∈ bs ∧ (i ∈ b ∨ j ∈ b) := by
  unfold pairOf
  rw [List.mem_filter, Bool.or_eq_true, decide_eq_true_eq, decide_eq_true_eq]
theorem Kru.nodup (K : Kru U sf rows bs its noted) : bs.flatten.Nodup := K.part.nodup_iff.mpr List.nodup_range
theorem Kru.home (K : Kru U sf rows bs its noted) {i : Nat} (h : i < rows.length) : ∃ b ∈ bs, i ∈ b := List.mem_flatten.mp (K.part.mem_iff.mpr (List.mem_range.mpr h))
theorem Kru.same (K : Kru U sf rows bs its noted) {i j : Nat} (hi : i < rows.length) (hj : j < rows.length) (h : (pairOf bs i j).length ≠ 2) : ∃ b ∈ bs, i ∈ b ∧ j ∈ b := by
  obtain ⟨A, hA, iA⟩ := K.home hi
  obtain ⟨B, hB, jB⟩ := K.home hj
  by_cases e : A = B
  · subst e; exact ⟨A, hA, iA, jB⟩
  · exfalso
    apply h
    have p : (pairOf bs i j).Perm [A, B] := by
      refine (List.perm_ext_iff_of_nodup ((flat_nodup K.nodup K.ne).filter _) (by simp [e])).mpr fun b => ?_
      refine Iff.trans (mem_pairOf (i := i) (j := j)) ?_
      simp only [List.mem_cons, List.not_mem_nil, or_false]
      constructor
      · rintro ⟨hb, h | h⟩
        · exact .inl (flat_disj K.nodup hb hA h iA)
        · exact .inr (flat_disj K.nodup hb hB h jB)
      · rintro (rfl | rfl)
        · exact ⟨hA, .inl iA⟩
        · exact ⟨hB, .inr jB⟩
    rw [p.length_eq]; rfl
theorem entry4_inj {i j i' j' : Nat} (h : entry4 sf rows i j = entry4 sf rows i' j') : i = i' ∧ j = j' := by
  simp only [entry4, Prod.mk.injEq] at h
  exact ⟨h.2.2.1, h.2.2.2⟩
theorem Kru.pass (K : Kru U sf rows bs its noted) {i j : Nat} (hp : its.Perm (entry4 sf rows i j :: its')) (hi : i < rows.length) (hj : j < rows.length) (h : (pairOf bs i j).length ≠ 2) :
    Kru U sf rows bs its' noted where
  part := K.part
  ne := K.ne
  ok t ht := K.ok t (hp.mem_iff.mpr (.tail _ ht))
  all a b h1 h2 := by
    rcases K.all a b h1 h2 with q | q
    · rcases List.mem_cons.mp (hp.mem_iff.mp q) with e | q
      · obtain ⟨rfl, rfl⟩ := entry4_inj e
        exact .inr (K.same hi hj h)
      · exact .inl q
    · exact .inr q
  close b hb x hx y hy hne t ht := K.close b hb x hx y hy hne t (hp.mem_iff.mpr (.tail _ ht))
  cnt := K.cnt
  sorted := K.sorted
  below a ha t ht := K.below a ha t (hp.mem_iff.mpr (.tail _ ht))
theorem Kru.cross (K : Kru U sf rows bs its noted) {A B : List Nat} (hA : A ∈ bs) (hB : B ∈ bs) (hne : A ≠ B) {a b : Nat} (ha : a ∈ A) (hb : b ∈ B) : ∃ t ∈ its, t.1 = -((Lc rows a b).length : Int) := by
  have lt : ∀ {C : List Nat} {c : Nat}, C ∈ bs → c ∈ C → c < rows.length := fun hC hc => List.mem_range.mp (K.part.mem_iff.mp (List.mem_flatten.mpr ⟨_, hC, hc⟩))
  have hab : a ≠ b := by rintro rfl; exact hne (flat_disj K.nodup hA hB ha hb)
  have no : ∀ {x y : Nat}, (∃ c ∈ bs, x ∈ c ∧ y ∈ c) → (x = a ∧ y = b ∨ x = b ∧ y = a) → False := by
    rintro x y ⟨c, hc, hx, hy⟩ (⟨rfl, rfl⟩ | ⟨rfl, rfl⟩)
    · exact hne ((flat_disj K.nodup hA hc ha hx).trans (flat_disj K.nodup hc hB hy hb))
    · exact hne ((flat_disj K.nodup hA hc ha hy).trans (flat_disj K.nodup hc hB hx hb))
  rcases Nat.lt_or_gt_of_ne hab with h | h
  · rcases K.all a b h (lt hB hb) with q | q
    · exact ⟨_, q, rfl⟩
    · exact (no q (.inl ⟨rfl, rfl⟩)).elim
  · rcases K.all b a h (lt hA ha) with q | q
    · exact ⟨_, q, by show -((lcp (rowAt rows b) (rowAt rows a)).length : Int) = _; rw [lcp_comm]⟩
    · exact (no q (.inr ⟨rfl, rfl⟩)).elim
/-- two bundles A, B with x in the one and y in the other, the pair just popped -/
theorem Kru.tieAt (hn : U.Nodup) (hU : ∀ r ∈ rows, ∀ x ∈ r, x ∈ U) (K : Kru U sf rows bs its noted) {i j x y : Nat} {A B M : List Nat} (hp : its.Perm (entry4 sf rows i j :: its')) (hleast : ∀ t ∈ its', lt4 t (entry4 sf rows i j) = false)
    (hA : A ∈ bs) (hB : B ∈ bs) (hne : A ≠ B) (hx : x ∈ A) (hy : y ∈ B) (hxy : Lc rows x y = Lc rows i j) (hi : i ∈ A ∨ i ∈ B) (hj : j ∈ A ∨ j ∈ B) (hM : M.Perm (A ++ B)) :
    Kru U sf rows (bs.filter (fun b => !decide (b ∈ [A, B])) ++ [M]) its' (noted ++ [comF (M.map (rowAt rows))]) := by
  have hsub : ∀ t ∈ its', t ∈ its := fun t ht => hp.mem_iff.mpr (.tail _ ht)
  have htin : entry4 sf rows i j ∈ its := hp.mem_iff.mpr (.head _)
  have t1 : (entry4 sf rows i j).1 = -((Lc rows x y).length : Int) := by rw [hxy]; rfl
  have hmax : ∀ t ∈ its, -t.1 ≤ ((Lc rows x y).length : Int) := fun t ht => by
    rcases List.mem_cons.mp (hp.mem_iff.mp ht) with rfl | q
    · rw [t1]; (first | lia | omega)
    · have := lt4_fst (hleast t q); rw [t1] at this; (first | lia | omega)
  have near : ∀ {C : List Nat} {c z : Nat}, C ∈ bs → c ∈ C → z ∈ C → Lc rows x y <+: rowAt rows z → Lc rows x y <+: rowAt rows c := fun {C c z} hC hc hz hF => by
    by_cases e : c = z
    · subst e; exact hF
    · have := K.close C hC c hc z hz e _ htin
      rw [t1] at this
      have hl := (lcp_spec (rowAt rows c) (rowAt rows z) (Lc rows c z)).mp List.prefix_rfl
      exact (prefix_both hF hl.2 (by (first | lia | omega))).trans hl.1
  have hFxy := (lcp_spec (rowAt rows x) (rowAt rows y) (Lc rows x y)).mp List.prefix_rfl
  have fA : ∀ a ∈ A, Lc rows x y <+: rowAt rows a := fun a ha => near hA ha hx hFxy.1
  have fB : ∀ b ∈ B, Lc rows x y <+: rowAt rows b := fun b hb => near hB hb hy hFxy.2
  have fM : ∀ c ∈ M, Lc rows x y <+: rowAt rows c := fun c hc => (List.mem_append.mp (hM.mem_iff.mp hc)).elim (fA c) (fB c)
  have inM : ∀ c, c ∈ A ∨ c ∈ B → c ∈ M := fun c hc => hM.mem_iff.mpr (List.mem_append.mpr hc)
  have hG : comF (M.map (rowAt rows)) = Lc rows x y := prefix_ext fun P => by
    rw [comF_spec (by rw [List.length_map]; exact List.length_pos_of_mem (inM x (.inl hx)))]
    constructor
    · intro h
      exact (lcp_spec _ _ _).mpr ⟨h _ (List.mem_map_of_mem (inM x (.inl hx))), h _ (List.mem_map_of_mem (inM y (.inr hy)))⟩
    · intro h r hr
      obtain ⟨c, hc, rfl⟩ := List.mem_map.mp hr
      exact h.trans (fM c hc)
  have hAB : ∀ P, (fr (A.map (rowAt rows)) P && fr (B.map (rowAt rows)) P) = P.isPrefixOf (Lc rows x y) := fun P => by
    rw [Bool.eq_iff_iff, Bool.and_eq_true, fr_iff, fr_iff, List.isPrefixOf_iff_prefix]
    constructor
    · rintro ⟨⟨r, hr, hPr⟩, s, hs, hPs⟩
      obtain ⟨a, ha, rfl⟩ := List.mem_map.mp hr
      obtain ⟨b, hb, rfl⟩ := List.mem_map.mp hs
      have h1 : P.length ≤ (Lc rows a b).length := ((lcp_spec _ _ P).mpr ⟨hPr, hPs⟩).length_le
      obtain ⟨t, ht, e⟩ := K.cross hA hB hne ha hb
      have h2 := hmax t ht
      rw [e] at h2
      exact prefix_both hPr (fA a ha) (by (first | lia | omega))
    · intro h
      exact ⟨⟨_, List.mem_map_of_mem hx, h.trans hFxy.1⟩, _, List.mem_map_of_mem hy, h.trans hFxy.2⟩
  have hbs : bs.Perm (A :: B :: bs.filter (fun b => !decide (b ∈ [A, B]))) := by
    have nb := flat_nodup K.nodup K.ne
    refine (List.perm_ext_iff_of_nodup nb ?_).mpr fun b => ?_
    · refine List.nodup_cons.mpr ⟨fun h => ?_, List.nodup_cons.mpr ⟨fun h => ?_, nb.filter _⟩⟩
      · rcases List.mem_cons.mp h with e | h
        · exact hne e
        · simp at h
      · simp at h
    · simp only [List.mem_cons, List.mem_filter, List.not_mem_nil, or_false, Bool.not_eq_true', decide_eq_false_iff_not, not_or]
      constructor
      · intro h
        by_cases e1 : b = A
        · exact .inl e1
        · by_cases e2 : b = B
          · exact .inr (.inl e2)
          · exact .inr (.inr ⟨h, e1, e2⟩)
      · rintro (rfl | rfl | h)
        · exact hA
        · exact hB
        · exact h.1
  have hin : ∀ b ∈ bs.filter (fun b => !decide (b ∈ [A, B])), b ∈ bs := fun b hb => (List.mem_filter.mp hb).1
  have hk : key2 sf (Lc rows x y) = ((entry4 sf rows i j).1, (entry4 sf rows i j).2.1) := by rw [hxy]; rfl
  refine ⟨?_, ?_, fun t ht => K.ok t (hsub t ht), ?_, ?_, ?_, ?_, ?_⟩
  · refine List.Perm.trans ?_ K.part
    refine List.Perm.trans ?_ hbs.flatten.symm
    rw [List.flatten_append, List.flatten_cons, List.flatten_cons]
    simp only [List.flatten_cons, List.flatten_nil, List.append_nil]
    refine List.perm_append_comm.trans ?_
    rw [← List.append_assoc]
    exact hM.append_right _
  · intro b hb
    rcases List.mem_append.mp hb with h | h
    · exact K.ne b (hin b h)
    · simp only [List.mem_cons, List.not_mem_nil, or_false] at h
      rw [h]; exact List.ne_nil_of_mem (inM x (.inl hx))
  · intro a b h1 h2
    rcases K.all a b h1 h2 with q | ⟨c, hc, ha, hb⟩
    · rcases List.mem_cons.mp (hp.mem_iff.mp q) with e | q
      · obtain ⟨rfl, rfl⟩ := entry4_inj e
        exact .inr ⟨M, by simp, inM _ hi, inM _ hj⟩
      · exact .inl q
    · rcases List.mem_cons.mp (hbs.mem_iff.mp hc) with rfl | hc
      · exact .inr ⟨M, by simp, inM _ (.inl ha), inM _ (.inl hb)⟩
      · rcases List.mem_cons.mp hc with rfl | hc
        · exact .inr ⟨M, by simp, inM _ (.inr ha), inM _ (.inr hb)⟩
        · exact .inr ⟨c, List.mem_append_left _ hc, ha, hb⟩
  · intro b hb a ha c hc hac t ht
    rcases List.mem_append.mp hb with h | h
    · exact K.close b (hin b h) a ha c hc hac t (hsub t ht)
    · simp only [List.mem_cons, List.not_mem_nil, or_false] at h
      subst h
      have h1 := ((lcp_spec _ _ _).mpr ⟨fM a ha, fM c hc⟩).length_le
      have h2 := hmax t (hsub t ht)
      exact Int.le_trans h2 (by exact_mod_cast h1)
  · intro P
    rw [hG, List.count_append, K.cnt P, (hbs.map _).sum_nat, List.map_append, List.sum_append]
    simp only [List.map_cons, List.map_nil, List.sum_cons, List.sum_nil, List.count_singleton]
    have e1 : mul U (M.map (rowAt rows)) P = mul U (A.map (rowAt rows)) P + mul U (B.map (rowAt rows)) P + if P = Lc rows x y then 1 else 0 := by
      rw [mul_perm U (hM.map (rowAt rows)), List.map_append]
      exact mul_tie hn (fun r hr => by obtain ⟨k, _, rfl⟩ := List.mem_map.mp hr; exact rowAt_names hU k) (fun r hr => by obtain ⟨k, _, rfl⟩ := List.mem_map.mp hr; exact rowAt_names hU k) hAB P
    rw [e1]
    have e2 : (if (Lc rows x y == P) = true then 1 else 0 : Nat) = if P = Lc rows x y then 1 else 0 := by
      by_cases e : P = Lc rows x y
      · rw [if_pos e, if_pos (by rw [e]; exact beq_self_eq_true _)]
      · rw [if_neg e, if_neg (by rw [beq_iff_eq]; exact fun z => e z.symm)]
    rw [e2]; (first | lia | omega)
  · rw [hG, List.map_append, List.pairwise_append]
    refine ⟨K.sorted, List.pairwise_singleton _ _, fun a ha b hb => ?_⟩
    obtain ⟨a', ha', rfl⟩ := List.mem_map.mp ha
    simp only [List.map_cons, List.map_nil, List.mem_cons, List.not_mem_nil, or_false] at hb
    rw [hb, hk]
    exact K.below a' ha' _ htin
  · intro a ha t ht
    rw [hG] at ha
    rcases List.mem_append.mp ha with h | h
    · exact K.below a h t (hsub t ht)
    · simp only [List.mem_cons, List.not_mem_nil, or_false] at h
      rw [h, hk]; exact lt4_lt2 (hleast t ht)
theorem Kru.tie (hn : U.Nodup) (hU : ∀ r ∈ rows, ∀ x ∈ r, x ∈ U) (K : Kru U sf rows bs its noted) {i j : Nat} {A B M : List Nat} (hp : its.Perm (entry4 sf rows i j :: its')) (hleast : ∀ t ∈ its', lt4 t (entry4 sf rows i j) = false)
    (hi : i < rows.length) (hj : j < rows.length) (h : pairOf bs i j = [A, B]) (hM : M.Perm (A ++ B)) :
    Kru U sf rows (bs.filter (fun b => !decide (b ∈ [A, B])) ++ [M]) its' (noted ++ [comF (M.map (rowAt rows))]) := by
  have mA : A ∈ pairOf bs i j := by rw [h]; exact .head _
  have mB : B ∈ pairOf bs i j := by rw [h]; exact .tail _ (.head _)
  have hAB : A ≠ B := by
    have := (flat_nodup K.nodup K.ne).filter (fun b => decide (i ∈ b) || decide (j ∈ b))
    rw [show bs.filter (fun b => decide (i ∈ b) || decide (j ∈ b)) = [A, B] from h] at this
    simpa using this
  rw [mem_pairOf] at mA mB
  obtain ⟨C, hC, iC⟩ := K.home hi
  obtain ⟨D, hD, jD⟩ := K.home hj
  have cC : C = A ∨ C = B := by
    have : C ∈ pairOf bs i j := mem_pairOf.mpr ⟨hC, .inl iC⟩
    rw [h] at this; simpa using this
  have cD : D = A ∨ D = B := by
    have : D ∈ pairOf bs i j := mem_pairOf.mpr ⟨hD, .inr jD⟩
    rw [h] at this; simpa using this
  have one : ∀ {b : List Nat}, b ∈ bs → i ∈ b → b = C := fun hb hi => flat_disj K.nodup hb hC hi iC
  have two : ∀ {b : List Nat}, b ∈ bs → j ∈ b → b = D := fun hb hj => flat_disj K.nodup hb hD hj jD
  rcases cC with rfl | rfl
  · have : D = B := by
      rcases mB.2 with q | q
      · exact absurd (one mB.1 q).symm hAB
      · exact (two mB.1 q).symm
    subst this
    exact K.tieAt hn hU hp hleast mA.1 mB.1 hAB iC jD rfl (.inl iC) (.inr jD) hM
  · have : D = A := by
      rcases mA.2 with q | q
      · exact absurd (one mA.1 q) hAB
      · exact (two mA.1 q).symm
    subst this
    exact K.tieAt hn hU hp hleast mA.1 mB.1 hAB jD iC (lcp_comm _ _) (.inr iC) (.inl jD) hM
theorem map_range_rows : (List.range rows.length).map (rowAt rows) = rows := by
  refine List.ext_getElem? fun k => ?_
  rw [List.getElem?_map]
  by_cases h : k < rows.length
  · rw [List.getElem?_range h]; simp [rowAt, h]
  · rw [List.getElem?_eq_none (by simp; (first | lia | omega)), List.getElem?_eq_none (by (first | lia | omega))]; rfl
theorem Kru.fin (K : Kru U sf rows bs [] noted) (h0 : 0 < rows.length) (P : Row) : noted.count P = mul U rows P := by
  obtain ⟨b, hb, zb⟩ := K.home h0
  have one : ∀ c ∈ bs, c = b := fun c hc => by
    match c, K.ne c hc with
    | x :: c', _ =>
      have hx : x < rows.length := List.mem_range.mp (K.part.mem_iff.mp (List.mem_flatten.mpr ⟨_, hc, .head _⟩))
      by_cases e : x = 0
      · subst e; exact flat_disj K.nodup hc hb (.head _) zb
      · rcases K.all 0 x (by (first | lia | omega)) hx with q | ⟨d, hd, h1, h2⟩
        · cases q
        · exact (flat_disj K.nodup hc hd (.head _) h2).trans (flat_disj K.nodup hd hb h1 zb)
  have hbs : bs = [b] := by
    have nb := flat_nodup K.nodup K.ne
    match bs, nb, one, hb with
    | [c], _, one, _ => rw [one c (.head _)]
    | c :: d :: r, nb, one, _ =>
      have e1 := one c (.head _)
      have e2 := one d (.tail _ (.head _))
      rw [e1, e2] at nb
      simp at nb
  have hp := K.part
  rw [hbs] at hp
  simp only [List.flatten_cons, List.flatten_nil, List.append_nil] at hp
  rw [K.cnt P, hbs]
  simp only [List.map_cons, List.map_nil, List.sum_cons, List.sum_nil, Nat.add_zero]
  rw [mul_perm U (hp.map (rowAt rows)), map_range_rows]
end

/-! the second way -/
noncomputable def entry3 (sf : Row → Str) (rows : List Row) (i j : Nat) : K3 := (-((Lc rows i j).length : Int), j, sf (Lc rows i j))
structure Pri (U : List Str) (sf : Row → Str) (rows : List Row) (ins : List Nat) (its : List K3) (Fs : List Row) : Prop where
  ne : ins ≠ []
  nd : ins.Nodup
  lt : ∀ k ∈ ins, k < rows.length
  ok : ∀ t ∈ its, ∃ i ∈ ins, ∃ j, j < rows.length ∧ t = entry3 sf rows i j
  all : ∀ i ∈ ins, ∀ j, j < rows.length → j ∉ ins → entry3 sf rows i j ∈ its
  cnt : ∀ P, Fs.count P = mul U (ins.map (rowAt rows)) P
noncomputable def PriS (U : List Str) (sf : Row → Str) (rows : List Row) (ins : List Nat) (its : List K3) (noted : List Str) : Prop :=
  (ins = [] ∧ its = [((0 : Int), (0 : Nat), ("" : Str))] ∧ noted = []) ∨ ∃ Fs : List Row, noted = ("" : Str) :: Fs.map sf ∧ Pri U sf rows ins its Fs
section
variable {U : List Str} {sf : Row → Str} {rows : List Row} {ins : List Nat} {its its' its2 : List K3} {noted : List Str}
theorem PriS.nd (h : PriS U sf rows ins its noted) : ins.Nodup := by
  rcases h with ⟨rfl, _, _⟩ | ⟨_, _, h⟩
  · exact List.nodup_nil
  · exact h.nd
theorem PriS.lt (h : PriS U sf rows ins its noted) : ∀ k ∈ ins, k < rows.length := by
  rcases h with ⟨rfl, _, _⟩ | ⟨_, _, h⟩
  · intro k hk; cases hk
  · exact h.lt
theorem nodup_short : ∀ (n : Nat) (l : List Nat), l.Nodup → (∀ k ∈ l, k < n) → l.length ≤ n
  | 0, [], _, _ => Nat.le_refl _
  | 0, x :: l, _, h => absurd (h x (.head _)) (Nat.not_lt_zero _)
  | n + 1, l, hn, h => by
    have h1 := nodup_short n (l.filter (· != n)) (hn.filter _) fun k hk => by
      obtain ⟨h2, h3⟩ := List.mem_filter.mp hk
      have := h k h2
      simp at h3
      (first | lia | omega)
    have e : l.length = l.countP (· != n) + l.countP (fun x => ¬ (x != n)) := List.length_eq_countP_add_countP _
    have e2 : l.countP (fun x => ¬ (x != n)) = l.count n := by
      unfold List.count
      congr 1
      funext x
      rw [Bool.eq_iff_iff]
      simp
    rw [e2, hn.count, List.countP_eq_length_filter] at e
    split at e <;> (first | lia | omega)
theorem PriS.short (h : PriS U sf rows ins its noted) : ins.length ≤ rows.length := nodup_short _ _ h.nd h.lt
theorem PriS.pop_lt (h : PriS U sf rows ins its noted) (h0 : 0 < rows.length) {t : K3} (ht : t ∈ its) : t.2.1 < rows.length := by
  rcases h with ⟨_, rfl, _⟩ | ⟨_, _, h⟩
  · simp only [List.mem_cons, List.not_mem_nil, or_false] at ht; rw [ht]; exact h0
  · obtain ⟨i, _, j, hj, rfl⟩ := h.ok t ht; exact hj
theorem PriS.skip (h : PriS U sf rows ins its noted) {t : K3} (hp : its.Perm (t :: its')) (hk : t.2.1 ∈ ins) : PriS U sf rows ins its' noted := by
  rcases h with ⟨rfl, _, _⟩ | ⟨Fs, e, h⟩
  · cases hk
  · refine .inr ⟨Fs, e, h.ne, h.nd, h.lt, fun x hx => h.ok x (hp.mem_iff.mpr (.tail _ hx)), fun i hi j hj hn => ?_, h.cnt⟩
    rcases List.mem_cons.mp (hp.mem_iff.mp (h.all i hi j hj hn)) with q | q
    · rw [← q] at hk; exact absurd hk hn
    · exact q
theorem PriS.step (hn : U.Nodup) (hU : ∀ r ∈ rows, ∀ x ∈ r, x ∈ U) (h0 : 0 < rows.length) (h : PriS U sf rows ins its noted) {t : K3} (hp : its.Perm (t :: its')) (hleast : ∀ x ∈ its', lt3 x t = false) (hk : t.2.1 ∉ ins)
    (h2 : its2.Perm (its' ++ ((List.range rows.length).filter (fun j => !decide (j ∈ ins ++ [t.2.1]))).map (entry3 sf rows t.2.1))) : PriS U sf rows (ins ++ [t.2.1]) its2 (noted ++ [t.2.2]) := by
  rcases h with ⟨rfl, rfl, rfl⟩ | ⟨Fs, rfl, h⟩
  · have hl := hp.length_eq
    have hin := hp.mem_iff.mpr (List.mem_cons_self (a := t) (l := its'))
    simp only [List.mem_cons, List.not_mem_nil, or_false] at hin
    subst hin
    have e : its' = [] := by
      cases its' with
      | nil => rfl
      | cons a b => simp at hl
    subst e
    refine .inr ⟨[], rfl, by simp, by simp, fun k hk => by simp at hk; (first | lia | omega), fun x hx => ?_, fun i hi j hj hnj => ?_, fun P => ?_⟩
    · have := h2.mem_iff.mp hx
      simp only [List.nil_append] at this
      obtain ⟨j, hj, rfl⟩ := List.mem_map.mp this
      exact ⟨0, by simp, j, List.mem_range.mp (List.mem_filter.mp hj).1, rfl⟩
    · simp at hi
      subst hi
      refine h2.mem_iff.mpr ?_
      exact List.mem_map_of_mem (List.mem_filter.mpr ⟨List.mem_range.mpr hj, by simpa using hnj⟩)
    · show 0 = mul U [rowAt rows 0] P
      rw [mul_one hn (rowAt_names hU 0)]
  · obtain ⟨i, hi, k, hkn, rfl⟩ := h.ok t (hp.mem_iff.mpr (.head _))
    have e1 : (entry3 sf rows i k).2.1 = k := rfl
    rw [e1] at hk h2
    have hsub : ∀ x ∈ its', x ∈ its := fun x hx => hp.mem_iff.mpr (.tail _ hx)
    have hF := (lcp_spec (rowAt rows i) (rowAt rows k) (Lc rows i k)).mp List.prefix_rfl
    refine .inr ⟨Fs ++ [Lc rows i k], ?_, by simp, ?_, ?_, ?_, ?_, fun P => ?_⟩
    · rw [List.map_append]; rfl
    · rw [List.nodup_append]
      refine ⟨h.nd, by simp, fun a ha b hb => ?_⟩
      simp only [List.mem_cons, List.not_mem_nil, or_false] at hb
      rintro rfl
      rw [hb] at ha; exact hk ha
    · intro x hx
      rcases List.mem_append.mp hx with q | q
      · exact h.lt x q
      · simp only [List.mem_cons, List.not_mem_nil, or_false] at q
        rw [q]; exact hkn
    · intro x hx
      rcases List.mem_append.mp (h2.mem_iff.mp hx) with q | q
      · obtain ⟨a, ha, b, hb, e⟩ := h.ok x (hsub x q)
        exact ⟨a, List.mem_append_left _ ha, b, hb, e⟩
      · obtain ⟨j, hj, rfl⟩ := List.mem_map.mp q
        exact ⟨k, by simp [e1], j, List.mem_range.mp (List.mem_filter.mp hj).1, rfl⟩
    · intro a ha j hj hnj
      rcases List.mem_append.mp ha with q | q
      · have hj2 : j ∉ ins := fun z => hnj (List.mem_append_left _ z)
        rcases List.mem_cons.mp (hp.mem_iff.mp (h.all a q j hj hj2)) with e | e
        · have : j = k := congrArg (fun t : K3 => t.2.1) e
          subst this
          exact absurd (by simp [e1]) hnj
        · exact h2.mem_iff.mpr (List.mem_append_left _ e)
      · have ea : a = k := by simpa [e1] using q
        subst ea
        exact h2.mem_iff.mpr (List.mem_append_right _ (List.mem_map_of_mem (List.mem_filter.mpr ⟨List.mem_range.mpr hj, by simpa [e1] using hnj⟩)))
    · have hAB : ∀ P, (fr (ins.map (rowAt rows)) P && fr [rowAt rows k] P) = P.isPrefixOf (Lc rows i k) := fun P => by
        rw [Bool.eq_iff_iff, Bool.and_eq_true, fr_iff, fr_iff, List.isPrefixOf_iff_prefix]
        constructor
        · rintro ⟨⟨r, hr, hPr⟩, s, hs, hPs⟩
          simp only [List.mem_cons, List.not_mem_nil, or_false] at hs
          subst hs
          obtain ⟨a, ha, rfl⟩ := List.mem_map.mp hr
          have h1 : P.length ≤ (Lc rows a k).length := ((lcp_spec _ _ P).mpr ⟨hPr, hPs⟩).length_le
          have h3 : (Lc rows a k).length ≤ (Lc rows i k).length := by
            rcases List.mem_cons.mp (hp.mem_iff.mp (h.all a ha k hkn hk)) with e | e
            · have e5 : -((Lc rows a k).length : Int) = -((Lc rows i k).length : Int) := congrArg (fun t : K3 => t.1) e
              (first | lia | omega)
            · have e5 : -((Lc rows i k).length : Int) ≤ -((Lc rows a k).length : Int) := lt3_fst (hleast _ e)
              (first | lia | omega)
          exact prefix_both hPs hF.2 (by (first | lia | omega))
        · intro q
          exact ⟨⟨_, List.mem_map_of_mem hi, q.trans hF.1⟩, _, by simp, q.trans hF.2⟩
      have e2 := mul_tie hn (fun r hr => by obtain ⟨a, _, rfl⟩ := List.mem_map.mp hr; exact rowAt_names hU a) (fun r hr => by simp only [List.mem_cons, List.not_mem_nil, or_false] at hr; rw [hr]; exact rowAt_names hU k) hAB P
      rw [e1, List.map_append, List.count_append, h.cnt P, show List.map (rowAt rows) [k] = [rowAt rows k] from rfl, e2, mul_one hn (rowAt_names hU k), Nat.add_zero, List.count_singleton]
      congr 1
      by_cases e : P = Lc rows i k
      · rw [if_pos e, if_pos (by rw [e]; exact beq_self_eq_true _)]
      · rw [if_neg e, if_neg (by rw [beq_iff_eq]; exact fun z => e z.symm)]
theorem PriS.fin (h : PriS U sf rows ins [] noted) : ∃ Fs : List Row, noted = ("" : Str) :: Fs.map sf ∧ ∀ P, Fs.count P = mul U rows P := by
  rcases h with ⟨_, e, _⟩ | ⟨Fs, e, h⟩
  · cases e
  · refine ⟨Fs, e, fun P => ?_⟩
    have hp : ins.Perm (List.range rows.length) := (List.perm_ext_iff_of_nodup h.nd List.nodup_range).mpr fun j => by
      rw [List.mem_range]
      refine ⟨h.lt j, fun hj => ?_⟩
      by_cases q : j ∈ ins
      · exact q
      · obtain ⟨i, hi⟩ := List.exists_mem_of_ne_nil _ h.ne
        exact nomatch h.all i hi j hj q
    rw [h.cnt P, mul_perm U (hp.map (rowAt rows)), map_range_rows]
end
/-! what is due -/
noncomputable def addNew {α : Type} [DecidableEq α] (l : List α) (x : α) : List α := if x ∈ l then l else l ++ [x]
theorem addNew_nodup {α : Type} [DecidableEq α] {l : List α} (x : α) (h : l.Nodup) : (addNew l x).Nodup := by
  unfold addNew
  split
  · exact h
  · rename_i hx
    rw [List.nodup_append]
    refine ⟨h, by simp, fun a ha b hb => ?_⟩
    simp only [List.mem_cons, List.not_mem_nil, or_false] at hb
    rintro rfl
    rw [hb] at ha; exact hx ha
theorem mem_addNew {α : Type} [DecidableEq α] {l : List α} {x y : α} : y ∈ addNew l x ↔ y ∈ l ∨ y = x := by
  unfold addNew
  split
  · rename_i hx
    exact ⟨.inl, fun h => h.elim id fun e => e ▸ hx⟩
  · simp
noncomputable def frontsRow (l : List Row) (r : Row) (k : Nat) : List Row := (List.range k).foldl (fun acc i => addNew acc (r.take i)) l
noncomputable def frontsOf (rows : List Row) : List Row := rows.foldl (fun acc r => frontsRow acc r (r.length + 1)) []
theorem frontsRow_succ (l : List Row) (r : Row) (k : Nat) : frontsRow l r (k + 1) = addNew (frontsRow l r k) (r.take k) := by
  unfold frontsRow
  rw [List.range_succ, List.foldl_append]; rfl
theorem frontsRow_spec {l : List Row} (r : Row) (h : l.Nodup) : ∀ k, (frontsRow l r k).Nodup ∧ ∀ P, P ∈ frontsRow l r k ↔ P ∈ l ∨ ∃ i, i < k ∧ P = r.take i
  | 0 => ⟨h, fun P => by simp [frontsRow]⟩
  | k + 1 => by
    obtain ⟨h1, h2⟩ := frontsRow_spec r h k
    rw [frontsRow_succ]
    refine ⟨addNew_nodup _ h1, fun P => ?_⟩
    rw [mem_addNew, h2, or_assoc]
    refine or_congr Iff.rfl ⟨?_, ?_⟩
    · rintro (⟨i, hi, e⟩ | e)
      · exact ⟨i, by (first | lia | omega), e⟩
      · exact ⟨k, by (first | lia | omega), e⟩
    · rintro ⟨i, hi, e⟩
      by_cases q : i = k
      · subst q; exact .inr e
      · exact .inl ⟨i, by (first | lia | omega), e⟩
theorem fronts_foldl : ∀ (rows : List Row) (l : List Row), l.Nodup → (rows.foldl (fun acc r => frontsRow acc r (r.length + 1)) l).Nodup ∧ ∀ P, P ∈ rows.foldl (fun acc r => frontsRow acc r (r.length + 1)) l ↔ P ∈ l ∨ fr rows P = true
  | [], l, h => ⟨h, fun P => by simp [fr]⟩
  | r :: rows, l, h => by
    obtain ⟨h1, h2⟩ := frontsRow_spec r h (r.length + 1)
    obtain ⟨h3, h4⟩ := fronts_foldl rows _ h1
    refine ⟨h3, fun P => ?_⟩
    rw [List.foldl_cons, h4, h2, fr_iff, fr_iff, or_assoc]
    refine or_congr Iff.rfl ⟨?_, ?_⟩
    · rintro (⟨i, _, rfl⟩ | ⟨s, hs, hp⟩)
      · exact ⟨r, .head _, List.take_prefix _ _⟩
      · exact ⟨s, .tail _ hs, hp⟩
    · rintro ⟨s, hs, hp⟩
      rcases List.mem_cons.mp hs with rfl | hs
      · have hl := hp.length_le
        exact .inl ⟨P.length, by (first | lia | omega), List.prefix_iff_eq_take.mp hp⟩
      · exact .inr ⟨s, hs, hp⟩
theorem fronts_spec (rows : List Row) : (frontsOf rows).Nodup ∧ ∀ P, P ∈ frontsOf rows ↔ fr rows P = true := by
  obtain ⟨h1, h2⟩ := fronts_foldl rows [] List.nodup_nil
  exact ⟨h1, fun P => by rw [frontsOf, h2]; simp⟩
noncomputable def waysTurn (F : Row) (s : List Str × Nat) (r : Row) : List Str × Nat :=
  if r = F then (s.1, s.2 + 1) else if r.take F.length = F then (addNew s.1 (r.getD F.length ""), s.2) else s
noncomputable def waysOf (rows : List Row) (F : Row) : List Str × Nat := rows.foldl (waysTurn F) ([], 0)
theorem front_next {F r : Row} {x : Str} : F ++ [x] <+: r ↔ r ≠ F ∧ r.take F.length = F ∧ r.getD F.length "" = x := by
  constructor
  · rintro ⟨t, rfl⟩
    refine ⟨fun e => ?_, ?_, ?_⟩
    · have := congrArg List.length e; simp at this
    · rw [List.append_assoc, List.take_left]
    · rw [List.getD_eq_getElem?_getD, List.append_assoc, List.getElem?_append_right (Nat.le_refl _)]; simp
  · rintro ⟨h1, h2, rfl⟩
    have hl : F.length < r.length := by
      rcases Nat.lt_or_ge F.length r.length with q | q
      · exact q
      · rw [List.take_of_length_le q] at h2; exact absurd h2 h1
    refine ⟨r.drop (F.length + 1), ?_⟩
    rw [List.getD_eq_getElem?_getD, List.getElem?_eq_getElem hl]
    show F ++ [r[F.length]] ++ _ = r
    have e := List.take_append_drop (F.length + 1) r
    rw [List.take_add_one, h2, List.getElem?_eq_getElem hl] at e
    exact e
theorem ways_foldl (F : Row) : ∀ (rows : List Row) (s : List Str × Nat), s.1.Nodup → (rows.foldl (waysTurn F) s).1.Nodup ∧ (rows.foldl (waysTurn F) s).2 = s.2 + rows.count F ∧ ∀ x, x ∈ (rows.foldl (waysTurn F) s).1 ↔ x ∈ s.1 ∨ fr rows (F ++ [x]) = true
  | [], s, h => ⟨h, by simp, fun x => by simp [fr]⟩
  | r :: rows, s, h => by
    have h1 : (waysTurn F s r).1.Nodup := by
      unfold waysTurn
      split
      · exact h
      · split
        · exact addNew_nodup _ h
        · exact h
    obtain ⟨h2, h3, h4⟩ := ways_foldl F rows _ h1
    refine ⟨h2, ?_, fun x => ?_⟩
    · rw [List.foldl_cons, h3, List.count_cons]
      unfold waysTurn
      by_cases e : r = F
      · rw [if_pos e, if_pos (by rw [e]; exact beq_self_eq_true _)]
        show s.2 + 1 + _ = _
        (first | lia | omega)
      · rw [if_neg e]
        have e5 : (r == F) = false := by rw [beq_eq_false_iff_ne]; exact e
        rw [e5]
        split <;> simp
    · rw [List.foldl_cons, h4]
      have e2 : fr (r :: rows) (F ++ [x]) = ((F ++ [x]).isPrefixOf r || fr rows (F ++ [x])) := List.any_cons
      rw [e2, Bool.or_eq_true, List.isPrefixOf_iff_prefix, ← or_assoc]
      refine or_congr ?_ Iff.rfl
      rw [front_next]
      unfold waysTurn
      by_cases e : r = F
      · rw [if_pos e]
        exact ⟨.inl, fun q => q.elim id fun z => absurd e z.1⟩
      · rw [if_neg e]
        by_cases e3 : r.take F.length = F
        · rw [if_pos e3, mem_addNew]
          exact or_congr Iff.rfl ⟨fun z => ⟨e, e3, z.symm⟩, fun z => z.2.2.symm⟩
        · rw [if_neg e3]
          exact ⟨.inl, fun q => q.elim id fun z => absurd z.2.1 e3⟩
theorem ways_spec {U : List Str} (hn : U.Nodup) {rows : List Row} (hU : ∀ r ∈ rows, ∀ x ∈ r, x ∈ U) (F : Row) : (waysOf rows F).1.length + (waysOf rows F).2 = val U rows F := by
  obtain ⟨h1, h2, h3⟩ := ways_foldl F rows ([], 0) List.nodup_nil
  have e : (waysOf rows F).1.Perm (U.filter fun x => fr rows (F ++ [x])) := (List.perm_ext_iff_of_nodup h1 (hn.filter _)).mpr fun x => by
    show x ∈ (rows.foldl (waysTurn F) ([], 0)).1 ↔ _
    rw [h3, List.mem_filter]
    simp only [List.not_mem_nil, false_or]
    refine ⟨fun h => ⟨?_, h⟩, fun h => h.2⟩
    obtain ⟨r, hr, hp⟩ := fr_iff.mp h
    exact hU r hr x (hp.subset (by simp))
  rw [e.length_eq, ← List.countP_eq_length_filter]
  unfold val
  have h2' : (waysOf rows F).2 = rows.count F := by
    show (rows.foldl (waysTurn F) ([], 0)).2 = _
    rw [h2]; simp
  rw [h2']
  exact Nat.add_comm _ _
noncomputable def dueOf (rows : List Row) : List Row := (frontsOf rows).flatMap fun F => List.replicate ((waysOf rows F).1.length + (waysOf rows F).2 - 1) F
theorem count_flat (f : Row → Nat) (P : Row) : ∀ {l : List Row}, l.Nodup → (l.flatMap fun F => List.replicate (f F) F).count P = if P ∈ l then f P else 0
  | [], _ => by simp
  | F :: l, h => by
    obtain ⟨h1, h2⟩ := List.nodup_cons.mp h
    rw [List.flatMap_cons, List.count_append, List.count_replicate, count_flat f P h2]
    by_cases e : F = P
    · subst e
      rw [if_pos (beq_self_eq_true _), if_neg h1, if_pos (.head _)]; rfl
    · rw [if_neg (by rw [beq_iff_eq]; exact e)]
      by_cases q : P ∈ l
      · rw [if_pos q, if_pos (.tail _ q)]; (first | lia | omega)
      · rw [if_neg q, if_neg (fun z => (List.mem_cons.mp z).elim (fun z => e z.symm) q)]
theorem due_count {U : List Str} (hn : U.Nodup) {rows : List Row} (hU : ∀ r ∈ rows, ∀ x ∈ r, x ∈ U) (P : Row) : (dueOf rows).count P = mul U rows P := by
  obtain ⟨h1, h2⟩ := fronts_spec rows
  rw [dueOf, count_flat _ P h1, ways_spec hn hU P]
  split
  · rfl
  · rename_i h
    have := mt (val_pos hU P).mp (fun q => h ((h2 P).mpr q))
    unfold mul; (first | lia | omega)
theorem due_perm {U : List Str} (hn : U.Nodup) {rows : List Row} (hU : ∀ r ∈ rows, ∀ x ∈ r, x ∈ U) {Fs : List Row} (h : ∀ P, Fs.count P = mul U rows P) : Fs.Perm (dueOf rows) :=
  List.perm_iff_count.mpr fun P => by rw [h P, due_count hn hU P]
/-- the names of all rows, each once -/
noncomputable def namesOf (rows : List Row) : List Str := rows.flatten.foldl addNew []
theorem names_foldl {α : Type} [DecidableEq α] : ∀ (xs l : List α), l.Nodup → (xs.foldl addNew l).Nodup ∧ ∀ x, x ∈ xs.foldl addNew l ↔ x ∈ l ∨ x ∈ xs
  | [], l, h => ⟨h, fun x => by simp⟩
  | y :: xs, l, h => by
    obtain ⟨h1, h2⟩ := names_foldl xs _ (addNew_nodup y h)
    refine ⟨h1, fun x => ?_⟩
    rw [List.foldl_cons, h2, mem_addNew, List.mem_cons, or_assoc]
theorem names_spec (rows : List Row) : (namesOf rows).Nodup ∧ ∀ r ∈ rows, ∀ x ∈ r, x ∈ namesOf rows := by
  obtain ⟨h1, h2⟩ := names_foldl rows.flatten ([] : List Str) List.nodup_nil
  exact ⟨h1, fun r hr x hx => (h2 x).mpr (.inr (List.mem_flatten.mpr ⟨r, hr, hx⟩))⟩
/-- the two ends -/
theorem tied_end {sf : Row → Str} {rows : List Row} {bs : List (List Nat)} {noted : List Row} {S : List K2} (K : Kru (namesOf rows) sf rows bs [] noted) (h0 : 0 < rows.length)
    (hp : S.Perm ((dueOf rows).map (key2 sf))) (hs : S.Pairwise (fun a b => lt2 b a = false)) : noted.map sf = S.map Prod.snd := by
  obtain ⟨h1, h2⟩ := names_spec rows
  have e := sorted_unique sto2 K.sorted hs (((due_perm h1 h2 (K.fin h0)).map (key2 sf)).trans hp.symm)
  rw [← e, List.map_map]; rfl
theorem grown_end {sf : Row → Str} {rows : List Row} {ins : List Nat} {noted : List Str} {S : List K2} (h : PriS (namesOf rows) sf rows ins [] noted) (hp : S.Perm ((dueOf rows).map (key2 sf))) :
    ∃ x, noted = ("" : Str) :: x ∧ x.Perm (S.map Prod.snd) := by
  obtain ⟨h1, h2⟩ := names_spec rows
  obtain ⟨Fs, rfl, hc⟩ := h.fin
  refine ⟨_, rfl, ((due_perm h1 h2 hc).map sf).trans ?_⟩
  have := (hp.map Prod.snd).symm
  rw [List.map_map] at this
  exact this

/-! how deep a folder lies -/
section
open StrLaws Builtin.Str
noncomputable def folderOf (bb : Bool) (F : List Str) : Str := (if bb = true then "/" else "") ++ Txt.join "/" F
noncomputable def joinL : List Str → List Nat
  | [] => []
  | [x] => x.cps.toList
  | x :: r => x.cps.toList ++ 47 :: joinL r
noncomputable def topL (bb : Bool) : List Nat := if bb = true then [47] else []
theorem slash_is : (Str.ofString "/") = (⟨#[47]⟩ : Str) := by decide +kernel
theorem join_list_of : ∀ F : List Str, (Str.join "/" F).cps.toList = joinL F
  | [] => rfl
  | [x] => rfl
  | x :: y :: r => by
    show ((x ++ (Str.ofString "/") ++ Str.join "/" (y :: r)).cps).toList = x.cps.toList ++ 47 :: joinL (y :: r)
    rw [Str.cps_append, Str.cps_append, Array.toList_append, Array.toList_append, join_list_of (y :: r), slash_is]
    simp
theorem folder_list (bb : Bool) (F : List Str) : (folderOf bb F).cps.toList = topL bb ++ joinL F := by
  cases bb
  · show ((Str.ofString "") ++ Builtin.Str.glued "/" F).cps.toList = _
    have e : (Str.ofString "") = (⟨#[]⟩ : Str) := by decide +kernel
    rw [glued_eq_join, Str.cps_append, Array.toList_append, join_list_of, e]; rfl
  · show ((Str.ofString "/") ++ Builtin.Str.glued "/" F).cps.toList = _
    rw [glued_eq_join, Str.cps_append, Array.toList_append, join_list_of, slash_is]; rfl
theorem joinL_snoc (x : Str) : ∀ G : List Str, G ≠ [] → joinL (G ++ [x]) = joinL G ++ 47 :: x.cps.toList
  | [], h => absurd rfl h
  | [y], _ => rfl
  | y :: z :: r, _ => by
    have := joinL_snoc x (z :: r) (by simp)
    show y.cps.toList ++ 47 :: joinL ((z :: r) ++ [x]) = (y.cps.toList ++ 47 :: joinL (z :: r)) ++ _
    rw [this, List.append_assoc]; rfl
noncomputable def Names (F : List Str) : Prop := ∀ x ∈ F, x.cps.toList ≠ [] ∧ 47 ∉ x.cps.toList
theorem joinL_last {G : List Str} {x : Str} (h : Names (G ++ [x])) : ∃ l c, joinL (G ++ [x]) = l ++ [c] ∧ c ≠ 47 := by
  obtain ⟨h1, h2⟩ := h x (by simp)
  have e := List.dropLast_concat_getLast h1
  have hc : x.cps.toList.getLast h1 ≠ 47 := fun q => h2 (q ▸ List.getLast_mem h1)
  by_cases hG : G = []
  · subst hG; exact ⟨_, _, e.symm, hc⟩
  · refine ⟨joinL G ++ 47 :: x.cps.toList.dropLast, x.cps.toList.getLast h1, ?_, hc⟩
    rw [joinL_snoc x G hG, List.append_assoc, List.cons_append, e]
theorem rfind_at {y : Str} {p x : List Nat} (hy : y.cps.toList = p ++ x) (hx : 47 ∉ x) (hp : p = [] ∨ p.getLast? = some 47) : Txt.rfind y "/" + 1 = (p.length : Int) := by
  have at_ : ∀ i, At y "/" y.length i ↔ (p ++ x)[i]? = some 47 := fun i => by
    rw [slash_is, ← hy]; exact subAt_one y 47 i
  have last : p ≠ [] → (p ++ x)[p.length - 1]? = some 47 := fun hne => by
    rcases hp with h | h
    · exact absurd h hne
    · rw [List.getLast?_eq_getElem?] at h
      have hl := List.length_pos_iff.mpr hne
      rw [List.getElem?_append_left (by omega)]; exact h
  unfold Txt.rfind
  rcases last_spec y "/" with ⟨e, hn⟩ | ⟨i, e, hA, hm⟩
  · rw [e]
    by_cases hne : p = []
    · subst hne; rfl
    · exact absurd ((at_ _).mpr (last hne)) (hn _)
  · rw [e]
    have hi := (at_ i).mp hA
    have hlt : i < p.length := by
      rcases Nat.lt_or_ge i p.length with q | q
      · exact q
      · rw [List.getElem?_append_right q] at hi
        exact absurd (List.mem_of_getElem? hi) hx
    have hne : p ≠ [] := by rintro rfl; exact absurd hlt (Nat.not_lt_zero _)
    have : i = p.length - 1 := by
      rcases Nat.lt_or_ge i (p.length - 1) with q | q
      · exact absurd ((at_ _).mpr (last hne)) (hm _ q)
      · omega
    show (i : Int) + 1 = _
    omega
theorem headTail {y : Str} {p x : List Nat} (hy : y.cps.toList = p ++ x) (hx : 47 ∉ x) (hp : p = [] ∨ p.getLast? = some 47) : (headOf y).cps.toList = p ∧ (tailOf y).cps.toList = x := by
  have e := rfind_at hy hx hp
  have hl : y.cps.toList.length = p.length + x.length := by rw [hy, List.length_append]
  unfold headOf tailOf
  rw [e]
  constructor
  · show (sliceText y none (some (p.length : Int))).cps.toList = p
    rw [sliceText_to ⟨by omega, by omega⟩, hy]
    simp
  · show (sliceText y (some (p.length : Int)) none).cps.toList = x
    rw [sliceText_from ⟨by omega, by omega⟩, hy]
    simp only [Int.toNat_natCast, List.length_append]
    rw [List.drop_left, List.take_of_length_le (by omega)]
theorem str_of_list {x y : Str} (h : x.cps.toList = y.cps.toList) : x = y := Str.ext2 h
theorem foldl_all {c : Nat} : ∀ (l : List (Array Nat)) (acc : Array Nat), (∀ z ∈ acc.toList, z = c) → (∀ a ∈ l, ∀ z ∈ a.toList, z = c) → ∀ z ∈ (l.foldl (· ++ ·) acc).toList, z = c
  | [], _, h, _ => h
  | a :: l, acc, h, h2 => foldl_all l (acc ++ a) (fun z hz => by
      rw [Array.toList_append] at hz
      rcases List.mem_append.mp hz with q | q
      · exact h z q
      · exact h2 a (.head _) z q) fun b hb => h2 b (.tail _ hb)
theorem mul_slash (n : Int) : ∀ z ∈ (Txt.mul "/" n).cps.toList, z = 47 := by
  intro z
  unfold Txt.mul
  split
  · intro h; cases h
  · split
    · rw [slash_is]; simp
    · refine foldl_all _ _ (fun z h => by simp at h) (fun a ha z hz => ?_) z
      rw [slash_is] at ha
      have := (List.mem_replicate.mp ha).2
      subst this
      simpa using hz
theorem rstrip_one {y : Str} {l : List Nat} {c : Nat} (hy : y.cps.toList = l ++ [c] ++ [47]) (hc : c ≠ 47) : (Txt.rstripChars y "/").cps.toList = l ++ [c] := by
  unfold Txt.rstripChars
  rw [PyProof.Rows.stripBy_eq, strSub_toList]
  have hlen : y.length = l.length + 2 := by
    show y.cps.size = _
    rw [← Array.length_toList, hy]; simp
  have e : stripHi (Str.ofString "/").cps.contains true y (stripLo (Str.ofString "/").cps.contains false y) = l.length + 1 := by
    unfold stripHi stripLo
    simp only [if_true, Bool.false_eq_true, if_false, List.drop_zero]
    rw [hy, hlen, slash_is]
    simp only [List.reverse_append, List.reverse_cons, List.reverse_nil, List.nil_append, List.cons_append]
    rw [List.takeWhile_cons, if_pos (by simp), List.takeWhile_cons, if_neg (by simp; exact hc)]
    simp
  rw [e]
  show List.take (l.length + 1 - 0) (List.drop 0 y.cps.toList) = _
  rw [hy, List.drop_zero, Nat.sub_zero]
  rw [show l.length + 1 = (l ++ [c]).length by simp, List.take_left]
theorem depth_is (bb : Bool) : ∀ (n : Nat) (F : List Str), F.length = n → Names F → DepthIs (folderOf bb F) n
  | 0, F, hn, _ => by
    have : F = [] := List.eq_nil_of_length_eq_zero hn
    subst this
    refine .zero (str_of_list ?_)
    have h := headTail (y := folderOf bb []) (p := topL bb) (x := []) (by rw [folder_list]; rfl) (by simp) (by cases bb <;> simp [topL])
    rw [h.2]; rfl
  | n + 1, F, hn, hF => by
    have hne : F ≠ [] := by rintro rfl; cases hn
    obtain ⟨G, x, rfl⟩ : ∃ G x, F = G ++ [x] := ⟨_, _, (List.dropLast_concat_getLast hne).symm⟩
    obtain ⟨hx1, hx2⟩ := hF x (by simp)
    have hG : Names G := fun z hz => hF z (List.mem_append_left _ hz)
    have hlen : G.length = n := by simpa using hn
    have ne : ∀ {t : Str}, t.cps.toList = x.cps.toList → t ≠ "" := fun e q => hx1 (by rw [← e, q]; decide +kernel)
    by_cases e : G = []
    · subst e
      have h := headTail (y := folderOf bb ([] ++ [x])) (p := topL bb) (x := x.cps.toList) (by rw [folder_list]; rfl) hx2 (by cases bb <;> simp [topL])
      refine .succ (ne h.2) ?_
      have hh : headOf (folderOf bb ([] ++ [x])) = folderOf bb [] := str_of_list (by rw [h.1, folder_list]; simp [joinL])
      have e2 : splitHead (folderOf bb ([] ++ [x])) = folderOf bb [] := by
        unfold splitHead
        rw [hh, if_neg]
        cases bb <;> decide +kernel
      rw [e2]
      exact depth_is bb n [] hlen hG
    · have h := headTail (y := folderOf bb (G ++ [x])) (p := topL bb ++ joinL G ++ [47]) (x := x.cps.toList) (by rw [folder_list, joinL_snoc x G e]; simp) hx2 (.inr (by simp))
      refine .succ (ne h.2) ?_
      obtain ⟨G', z, rfl⟩ : ∃ G' z, G = G' ++ [z] := ⟨_, _, (List.dropLast_concat_getLast e).symm⟩
      obtain ⟨l, c, el, hc⟩ := joinL_last hG
      have h1 : (headOf (folderOf bb (G' ++ [z] ++ [x]))).cps.toList = (topL bb ++ l) ++ [c] ++ [47] := by rw [h.1, el]; simp
      have e2 : splitHead (folderOf bb (G' ++ [z] ++ [x])) = folderOf bb (G' ++ [z]) := by
        unfold splitHead
        rw [if_pos]
        · refine str_of_list ?_
          rw [rstrip_one h1 hc, folder_list, el]; simp
        · constructor
          · show (headOf _).cps.size ≠ 0
            rw [← Array.length_toList, h1]; simp
          · rw [bne_iff_ne]
            intro q
            have := mul_slash (headOf (folderOf bb (G' ++ [z] ++ [x]))).length c (by rw [← q, h1]; simp)
            exact hc this
      rw [e2]
      exact depth_is bb n _ hlen hG
theorem row_names (x : Str) : Names ((Txt.split x "/").filter keepC) := fun p hp => by
  obtain ⟨h1, h2⟩ := List.mem_filter.mp hp
  refine ⟨fun e => ?_, ?_⟩
  · have : p = "" := str_of_list (by rw [e]; decide +kernel)
    rw [this] at h2; exact absurd h2 (by decide +kernel)
  · rw [slash_is] at h1; exact split_free x 47 p h1
end

/-! the order of two tuples -/
theorem lexLt_end (e lt : Nat → Bool) (m n i : Nat) : lexLt e lt m n i 0 = decide (m < n) := by cases i <;> rfl
theorem tuple_lt (l b : Addr) (items items2 : Array Value) (n n2 : Nat) (dd dd2 : Option Addr) (sl sl2 : Array (Option Value)) (e lt : Nat → Bool)
    (he : ∀ j (h1 : j < items.size) (h2 : j < items2.size), MeetsSeq.EqGives items[j] items2[j] (e j)) (hc : ∀ j (h1 : j < items.size) (h2 : j < items2.size), e j = false → CmpGives .Lt items[j] items2[j] (lt j)) :
    Meets (Builtin.«tuple.__lt__» ⟨[.ref l, .ref b], []⟩)
      (fun _ R s => s.heap.get? l = some { cls := .type "tuple", dict := dd, data := .seq items n, slots := sl } ∧ s.heap.get? b = some { cls := .type "tuple", dict := dd2, data := .seq items2 n2, slots := sl2 } ∧
        R (.ok (.ret (.bool (lexLt e lt items.size items2.size 0 (min items.size items2.size))))) s) :=
  .of_wp fun prog w A R s h => by
    obtain ⟨hp, g, d, tk, os⟩ := s; obtain ⟨hl, hb, h⟩ := h
    have f2 := AutoSeq1.sub_tuple_tuple
    have hZ : (items.toList.zip items2.toList).length = min items.size items2.size := by simp
    wp_walk using wpAny_loadPart' hl, wpAny_loadPart' hb, wpAny_forIn_list _ (fun rest b s' => b.1 = none ∧ s' = ⟨hp, g, d, tk, os⟩ ∧ ∃ i, i ≤ min items.size items2.size ∧ rest = (items.toList.zip items2.toList).drop i ∧
      R (.ok (.ret (.bool (lexLt e lt items.size items2.size i (min items.size items2.size - i))))) ⟨hp, g, d, tk, os⟩) _
    case turn =>
      rintro ⟨y, x⟩ rest b s' ⟨hb', rfl, i, hi, hz, hR⟩
      have hlt : i < (items.toList.zip items2.toList).length := by
        rcases Nat.lt_or_ge i (items.toList.zip items2.toList).length with h' | h'
        · exact h'
        · rw [List.drop_of_length_le h'] at hz; cases hz
      have hm : i < min items.size items2.size := hZ ▸ hlt
      have h1 : i < items.size := Nat.lt_of_lt_of_le hm (Nat.min_le_left _ _)
      have h2 : i < items2.size := Nat.lt_of_lt_of_le hm (Nat.min_le_right _ _)
      rw [List.drop_eq_getElem_cons hlt] at hz
      injection hz with hyx hrest
      have hy : y = items[i] := by have := congrArg Prod.fst hyx; simpa using this
      have hx : x = items2[i] := by have := congrArg Prod.snd hyx; simpa using this
      subst hy hx
      rw [show min items.size items2.size - i = (min items.size items2.size - (i + 1)) + 1 from by (first | lia | omega), lexLt] at hR
      refine wpAny_bind (he i h1 h2 prog w _ _ _ _ ?_)
      cases hy : e i with
      | true =>
        rw [hy, if_pos rfl] at hR
        wp_walk
        exact ⟨rfl, rfl, i + 1, hm, hrest, hR⟩
      | false =>
        rw [hy, if_neg (by decide)] at hR
        repeat ((fail_if_success (with_reducible show wpAny _ _ (richCompare _ _ _ >>= _) _ _ _)); (fail_if_success (with_reducible show wpAny _ _ (richCompare _ _ _) _ _ _)); wp_step)
        refine wpAny_bind (hc i h1 h2 hy prog w _ _ _ _ ?_)
        wp_walk
        exact ⟨_, rfl, hR⟩
    case fin =>
      rintro ⟨b1, b2⟩ s' ⟨hb', rfl, i, hi, hz, hR⟩
      simp only at hb'
      subst hb'
      have hge : min items.size items2.size ≤ i := by
        rcases Nat.lt_or_ge i (items.toList.zip items2.toList).length with h' | h'
        · rw [List.drop_eq_getElem_cons h'] at hz; cases hz
        · exact hZ ▸ h'
      rw [show min items.size items2.size - i = 0 from by (first | lia | omega), lexLt_end] at hR
      wp_walk
      exact ⟨_, rfl, by simpa [Builtin.Tuple.tupleCompareSizes] using hR⟩
    case h =>
      exact ⟨rfl, rfl, 0, Nat.zero_le _, rfl, by simpa using h⟩
/-- what a tuple's place holds: an int or a text -/
inductive At
  | int (i : Int)
  | str (x : Str)
inductive AtIs : Value → At → Prop
  | int (i : Int) (t : Tok) : AtIs (.int i t) (.int i)
  | str (x : Str) (t : Tok) : AtIs (.str x t) (.str x)
noncomputable def At.eqB : At → At → Bool
  | .int i, .int j => i == j
  | .str x, .str y => x == y
  | _, _ => false
noncomputable def At.ltB : At → At → Bool
  | .int i, .int j => decide (i < j)
  | .str x, .str y => decide (x.cps.toList < y.cps.toList)
  | _, _ => false
noncomputable def At.like : At → At → Prop
  | .int _, .int _ => True
  | .str _, .str _ => True
  | _, _ => False
theorem AtIs.eq : ∀ {v v' : Value} {a a' : At}, AtIs v a → AtIs v' a' → a.like a' → MeetsSeq.EqGives v v' (a.eqB a')
  | _, _, _, _, .int i t, .int j u, _ => MeetsSeq.EqGives.int i j t u
  | _, _, _, _, .str x t, .str y u, _ => eqGives_str x y t u
theorem AtIs.lt : ∀ {v v' : Value} {a a' : At}, AtIs v a → AtIs v' a' → a.like a' → CmpGives .Lt v v' (a.ltB a')
  | _, _, _, _, .int i t, .int j u, _ => fun _ _ _ _ _ _ q => PyProof.Rows.lt_int q
  | _, _, _, _, .str x t, .str y u, _ => CmpGives.lt_str x y t u
noncomputable def atLt : List At → List At → Bool
  | x :: xs, y :: ys => if x.eqB y = true then atLt xs ys else x.ltB y
  | [], _ :: _ => true
  | _, [] => false
noncomputable def Likes (xs ys : List At) : Prop := Paired At.like xs ys
theorem lexLt_at (e lt : Nat → Bool) : ∀ (k i : Nat) (xs ys : List At), xs.length = k → ys.length = k → (∀ j, j < k → e (i + j) = (xs.getD j (.int 0)).eqB (ys.getD j (.int 0))) → (∀ j, j < k → lt (i + j) = (xs.getD j (.int 0)).ltB (ys.getD j (.int 0))) →
    lexLt e lt (i + k) (i + k) i k = atLt xs ys
  | 0, i, [], [], _, _, _, _ => by rw [lexLt_end]; simp [atLt]
  | k + 1, i, x :: xs, y :: ys, h1, h2, he, hl => by
    have e0 : e i = x.eqB y := he 0 (Nat.zero_lt_succ _)
    have l0 : lt i = x.ltB y := hl 0 (Nat.zero_lt_succ _)
    rw [lexLt, atLt, e0, l0]
    have := lexLt_at e lt k (i + 1) xs ys (by simpa using h1) (by simpa using h2) (fun j hj => by rw [show i + 1 + j = i + (j + 1) by (first | lia | omega)]; exact he (j + 1) (by (first | lia | omega))) (fun j hj => by rw [show i + 1 + j = i + (j + 1) by (first | lia | omega)]; exact hl (j + 1) (by (first | lia | omega)))
    rw [show i + (k + 1) = i + 1 + k by (first | lia | omega), this]
/-- a tuple of these places, in this heap -/
noncomputable def TupAt (h : Heap) (v : Value) (as : List At) : Prop := ∃ a n vs, v = .ref a ∧ h.get? a = some (tupOf vs n) ∧ Paired AtIs vs as
theorem pairC {α β : Type} {F : α → β → Prop} {us : List α} {b : β} {bs : List β} (h : Paired F us (b :: bs)) : ∃ u us', us = u :: us' ∧ F u b ∧ Paired F us' bs := by
  cases h with
  | cons a r => exact ⟨_, _, rfl, a, r⟩
theorem pairN {α β : Type} {F : α → β → Prop} {us : List α} (h : Paired F us ([] : List β)) : us = [] := by cases h; rfl
theorem atInt {v : Value} {i : Int} (h : AtIs v (.int i)) : ∃ t, v = .int i t := by cases h; exact ⟨_, rfl⟩
theorem atStr {v : Value} {x : Str} (h : AtIs v (.str x)) : ∃ t, v = .str x t := by cases h; exact ⟨_, rfl⟩
theorem pairedGet {α β : Type} {F : α → β → Prop} : ∀ {l₁ : List α} {l₂ : List β}, Paired F l₁ l₂ → ∀ (d : β) (j : Nat) (h : j < l₁.length), F l₁[j] (l₂.getD j d) := by
  intro l₁ l₂ h d
  induction h with
  | nil => intro j h; exact absurd h (Nat.not_lt_zero _)
  | cons a _ ih =>
    intro j
    cases j with
    | zero => intro _; exact a
    | succ j => intro h; exact ih j (Nat.lt_of_succ_lt_succ h)
theorem cmpTup {prog : Program} {w : World} {A : Around} {x y : Value} {xs ys : List At} {s : Shared} {Q : Value → Shared → Prop} {E : Value → Shared → Prop} (hu : A.units < cLine)
    (hx : TupAt s.heap x xs) (hy : TupAt s.heap y ys) (hl : Likes xs ys) (h : Q (.bool (atLt xs ys)) s) : wpAny (model prog w) A (compareOp .Lt x y) Q E s := by
  obtain ⟨a, n, us, rfl, ha, hus⟩ := hx
  obtain ⟨b, k, vs, rfl, hb, hvs⟩ := hy
  have e1 := pairedLen hus
  have e2 := pairedLen hvs
  have e3 := pairedLen hl
  show wpAny (model prog w) A (richCompare .Lt (.ref a) (.ref b)) Q E s
  refine richCompare_meets_room (op := .Lt) ⟨_, ha, rfl⟩ ⟨_, hb, rfl⟩ F.slot_tuple_lt F.entry_tuple_lt (F.args_tuple_lt_2 _ _)
    (tuple_lt a b us.toArray vs.toArray n k none none #[] #[] (fun j => (xs.getD j (.int 0)).eqB (ys.getD j (.int 0))) (fun j => (xs.getD j (.int 0)).ltB (ys.getD j (.int 0))) (fun j h1 h2 => ?_) (fun j h1 h2 _ => ?_)) ⟨ha, hb, ?_⟩ hu
  · have h1' : j < us.length := by simpa using h1
    have h2' : j < vs.length := by simpa using h2
    have := pairedGet hl (.int 0) j (by (first | lia | omega))
    rw [show xs[j]'(by (first | lia | omega)) = xs.getD j (.int 0) from by simp [List.getD, show j < xs.length by (first | lia | omega)]] at this
    exact (pairedGet hus (.int 0) j h1').eq (pairedGet hvs (.int 0) j h2') this
  · have h1' : j < us.length := by simpa using h1
    have h2' : j < vs.length := by simpa using h2
    have := pairedGet hl (.int 0) j (by (first | lia | omega))
    rw [show xs[j]'(by (first | lia | omega)) = xs.getD j (.int 0) from by simp [List.getD, show j < xs.length by (first | lia | omega)]] at this
    exact (pairedGet hus (.int 0) j h1').lt (pairedGet hvs (.int 0) j h2') this
  · refine ⟨fun z => (nomatch z), ?_⟩
    have := lexLt_at (fun j => (xs.getD j (.int 0)).eqB (ys.getD j (.int 0))) (fun j => (xs.getD j (.int 0)).ltB (ys.getD j (.int 0))) xs.length 0 xs ys rfl e3.symm (fun j _ => by rw [Nat.zero_add]) (fun j _ => by rw [Nat.zero_add])
    rw [Nat.zero_add] at this
    rw [List.size_toArray, List.size_toArray, e1, e2, ← e3, Nat.min_self, this]
    exact h
noncomputable def at4 (t : K4) : List At := [.int t.1, .str t.2.1, .int t.2.2.1, .int t.2.2.2]
noncomputable def at3 (t : K3) : List At := [.int t.1, .int t.2.1, .str t.2.2]
theorem atLt4 (t u : K4) : atLt (at4 t) (at4 u) = lt4 t u := by
  obtain ⟨a, b, c, d⟩ := t
  obtain ⟨a', b', c', d'⟩ := u
  simp only [at4, atLt, At.eqB, At.ltB, lt4, lexP, beq_iff_eq, Int.natCast_inj]
  repeat' split
  all_goals first | rfl | skip
  simp_all
theorem atLt3 (t u : K3) : atLt (at3 t) (at3 u) = lt3 t u := by
  obtain ⟨a, b, c⟩ := t
  obtain ⟨a', b', c'⟩ := u
  simp only [at3, atLt, At.eqB, At.ltB, lt3, lexP, beq_iff_eq, Int.natCast_inj]
  repeat' split
  all_goals first | rfl | skip
  simp_all [sLt_irrefl]
theorem likes4 (t u : K4) : Likes (at4 t) (at4 u) := .cons trivial (.cons trivial (.cons trivial (.cons trivial .nil)))
theorem likes3 (t u : K3) : Likes (at3 t) (at3 u) := .cons trivial (.cons trivial (.cons trivial .nil))
/-- the order of a heap's items, each told by dec -/
noncomputable def ordBy {κ : Type} (lt : κ → κ → Bool) (dec : Value → κ) (x y : Value) : Bool := lt (dec x) (dec y)
theorem cmpOk_of {κ : Type} {prog : Program} {w : World} {b : Heap} {S : Value → Prop} {dec : Value → κ} {at_ : κ → List At} {lt : κ → κ → Bool} (hS : ∀ v, S v → TupAt b v (at_ (dec v))) (hl : ∀ t u, Likes (at_ t) (at_ u)) (ha : ∀ t u, atLt (at_ t) (at_ u) = lt t u) :
    CmpOk prog w b S (ordBy lt dec) := fun x y hx hy A s Q hu hk hQ => by
  have up : ∀ {v as}, TupAt b v as → TupAt s.heap v as := fun ⟨a, n, vs, e, h, p⟩ => ⟨a, n, vs, e, hk _ _ h, p⟩
  exact cmpTup (by (first | lia | omega)) (up (hS x hx)) (up (hS y hy)) (hl _ _) (by rw [ha]; exact hQ)

section
variable {w : World} {mean : ExcName → Option Value} {mg mb : Str → Option Value} {b g : Heap} {A : Around} {s : Shared} {L : Addr} {m : Str → Option Value} {rest : List (Addr × Obj)} {prog : Program} {env : Env} {news : List (Addr × Obj)}
noncomputable def poolT (i : Int) : Str := (["", "a", "b", "a-", ".", "a.b", "..", "a"] : List Str).getD i.toNat ""
noncomputable def pieceT (x : Int) (p : Nat) : Str := poolT ((x / 8 ^ p) % 8)
noncomputable def pathT (x : Int) (front : Str) : Str := front ++ Txt.join "/" ((List.range 4).map (pieceT x))
theorem Src.bound {xv : Value} {n : Nat} {P : Nat → Value → Prop} (S : Src prog w A xv s n P) : Src prog w A xv s n (fun i v => i < n ∧ P i v) := fun Q hQ =>
  S Q fun I fp St h₂ W a b c d e => hQ I fp St h₂ { sub := W.sub, frame := W.frame, done := W.done, self := W.self, item := fun i s Q E hi st hQ => W.item i s Q E hi st fun v h' tk hP => hQ v h' tk ⟨hi, hP⟩ } a b c d e
theorem idx8 (x : Int) (i : Nat) : (x.fdiv (8 ^ i)).fmod 8 = ((((x / 8 ^ i) % 8).toNat : Nat) : Int) ∧ ((x / 8 ^ i) % 8).toNat < 8 := by
  have h8 : (0 : Int) < 8 ^ i := Int.pow_pos (by decide)
  rw [Int.fdiv_eq_ediv_of_nonneg _ (Int.le_of_lt h8), Int.fmod_eq_emod_of_nonneg _ (by decide)]
  (first | lia | omega)
theorem poolV (t0 t1 t2 t3 t4 t5 t6 t7 : Tok) : ∀ k, k < 8 → ∃ t, ([.str "" t0, .str "a" t1, .str "b" t2, .str "a-" t3, .str "." t4, .str "a.b" t5, .str ".." t6, .str "a" t7] : List Value).getD k .none = .str (poolT k) t
  | 0, _ => ⟨_, rfl⟩
  | 1, _ => ⟨_, rfl⟩
  | 2, _ => ⟨_, rfl⟩
  | 3, _ => ⟨_, rfl⟩
  | 4, _ => ⟨_, rfl⟩
  | 5, _ => ⟨_, rfl⟩
  | 6, _ => ⟨_, rfl⟩
  | 7, _ => ⟨_, rfl⟩
  | k + 8, h => absurd h (by (first | lia | omega))
theorem pairedAt {α β : Type} {F : α → β → Prop} : ∀ {l₁ : List α} {l₂ : List β}, Paired F l₁ l₂ → ∀ (j : Nat) (h : j < l₁.length) (h' : j < l₂.length), F l₁[j] l₂[j] := by
  intro l₁ l₂ h
  induction h with
  | nil => intro j h; exact absurd h (Nat.not_lt_zero _)
  | cons a _ ih =>
    intro j
    cases j with
    | zero => intro _ _; exact a
    | succ j => intro h h'; exact ih j (Nat.lt_of_succ_lt_succ h) (Nat.lt_of_succ_lt_succ h')
theorem strs_of : ∀ {us : List Value} {xs : List Str}, us.length = xs.length → (∀ j (h : j < us.length), ∃ t, us[j] = .str (xs.getD j "") t) → StrsAre us xs
  | [], [], _, _ => .nil
  | u :: us, x :: xs, hl, h => by
    obtain ⟨t, e⟩ := h 0 (Nat.zero_lt_succ _)
    have e' : u = .str x t := e
    rw [e']
    exact .cons x t (strs_of (by simpa using hl) fun j hj => h (j + 1) (by simpa using hj))
theorem poolT_len (i : Int) : (poolT i).length ≤ 3 := by
  unfold poolT
  generalize i.toNat = k
  match k with
  | 0 => decide +kernel
  | 1 => decide +kernel
  | 2 => decide +kernel
  | 3 => decide +kernel
  | 4 => decide +kernel
  | 5 => decide +kernel
  | 6 => decide +kernel
  | 7 => decide +kernel
  | k + 8 => exact (show (Str.ofString "").length ≤ 3 by decide +kernel)
theorem slash_len : (Str.ofString "/").length = 1 := by decide +kernel
theorem pieces_len (x : Int) : (Txt.join "/" ((List.range 4).map (pieceT x))).length ≤ 16 := by
  show (Builtin.Str.glued "/" _).length ≤ _
  rw [StrLaws.glued_eq_join]
  have h1 := StrLaws.join_length_le "/" ((List.range 4).map (pieceT x))
  have a := poolT_len ((x / 8 ^ 0) % 8)
  have b := poolT_len ((x / 8 ^ 1) % 8)
  have c := poolT_len ((x / 8 ^ 2) % 8)
  have d := poolT_len ((x / 8 ^ 3) % 8)
  rw [slash_len] at h1
  simp only [List.range, List.range.loop, List.map_cons, List.map_nil, List.sum_cons, List.sum_nil, List.length_cons, List.length_nil, pieceT] at h1 ⊢
  (first | lia | omega)
theorem pieces_sum (x : Int) : (((List.range 4).map (pieceT x)).map (·.length)).sum ≤ 12 := by
  have a := poolT_len ((x / 8 ^ 0) % 8)
  have b := poolT_len ((x / 8 ^ 1) % 8)
  have c := poolT_len ((x / 8 ^ 2) % 8)
  have d := poolT_len ((x / 8 ^ 3) % 8)
  simp only [List.range, List.range.loop, List.map_cons, List.map_nil, List.sum_cons, List.sum_nil, pieceT]
  (first | lia | omega)
theorem path_len (x : Int) (front : Str) : (pathT x front).length ≤ front.length + 16 := by
  have := pieces_len x
  rw [pathT, Str.length_append]; (first | lia | omega)
theorem small8 (x : Int) : ∀ i : Nat, i < 4 → Builtin.divisionGoesByPylong x (8 ^ i) = false
  | 0, _ => PyProof.noPylong_small (by decide)
  | 1, _ => PyProof.noPylong_small (by decide)
  | 2, _ => PyProof.noPylong_small (by decide)
  | 3, _ => PyProof.noPylong_small (by decide)
  | k + 4, h => absurd h (by (first | lia | omega))
theorem div8 {E : Value → Shared → Prop} {Q : Value → Shared → Prop} {x : Int} {i : Nat} {t u : Tok} (hi : i < 4) (h : Q (.int (x.fdiv (8 ^ i)) s.toks) { s with toks := s.toks + 1 }) : wpAny (model prog w) A (binaryOp .FloorDiv (.int x t) (.int (8 ^ Int.toNat (i : Int)) u)) Q E s := by
  have e : (8 : Int) ^ Int.toNat (i : Int) = 8 ^ i := rfl
  rw [e]
  exact floordiv_int (Int.ne_of_gt (Int.pow_pos (by decide))) h (.inl (small8 x i hi))
theorem mod8 {E : Value → Shared → Prop} {Q : Value → Shared → Prop} {x : Int} {i : Nat} {t u : Tok} (h : ∀ k : Nat, k < 8 → k = ((x / 8 ^ i) % 8).toNat → Q (.int (k : Nat) s.toks) { s with toks := s.toks + 1 }) : wpAny (model prog w) A (binaryOp .Mod (.int (x.fdiv (8 ^ i)) t) (.int 8 u)) Q E s := by
  refine mod_int' (by decide) ?_
  obtain ⟨e, l⟩ := idx8 x i
  rw [e]
  exact h _ l rfl
theorem path_call {R : Result → Shared → Prop} {x : Int} {front : Str} {tx tf : Tok} : (hd.heap_39 w.params).In b → (T : Top hd.view_39 (looseW hd.view_39 []) mean mg mb b) → (hb : ∀ x o, b.get? x = some o → s.heap.get? x = some o) →
  (hh : A.handled = none) → (hroom : A.depth + 10 < recursionLimit) → (hu : A.units + 400 < cLine) → (hf : front.length ≤ 2) →
  (hR : ∀ h' tk t', (∀ x o, s.heap.get? x = some o → h'.get? x = some o) → R (.ok (.ret (.str (pathT x front) t'))) { s with heap := h', toks := tk }) →
  codeAny (model PySem.Challenge.rw_pd0047_01.row.prog w) A (.call (.ref 160) ⟨[.int x tx, .str front tf], []⟩) R s := by
  k_fill
  intro X T hb hh hroom hu hf hR
  refine enterC [("x", .int x tx), ("front", .str front tf)] X T hb (by k_is) (by k_is) (by (first | lia | omega)) (BindsTo.of_eq rfl) rfl (by decide +kernel) ?_ rfl rfl rfl
  intro L' h₁ tk cells X' T' F N Y
  k_cells Y
  clear X T hb
  walk_at "go"
  refine listCompE [("x", L' + 1), ("pool", L' + 1 + 1)] ?_ rfl rfl (by decide) (by intro _; rfl)
  walk_at "go"
  (rename Fr _ _ _ _ => F5)
  (rename News _ _ _ _ => N5)
  (rename IsRange _ _ _ _ _ _ _ _ => hr5)
  refine' compE (n := 4) (p := fun _ => true) (R := fun _ v y => ∃ (i : Nat) (t t' : Tok), v = .int i t ∧ y = .str (pieceT x i) t') ?S ?s2 ?F ?N ?mono ?c1 ?c2 ?c3 ?body ?fin
  case F => exact F5
  case N => exact N5
  case S => exact Src.bound (Src.range (k := 4) hh (by exact hr5) (by decide))
  case s2 => decide
  case c1 => decide
  case c2 => rfl
  case c3 => rfl
  case mono => intro B B' v y _ h; exact h
  case body =>
    refine ⟨fun C i v s₃ m₃ hP F3 hm N3 => wpAny_tests_nil ⟨rfl, keepsBut_of (fun a o e => F3.keep a o e) F3 N3 (fun p hp => List.mem_append_right _ hp), m₃, F3.ns, hm⟩, fun C i v s₃ m₃ hP _ F3 hm N3 => ?_⟩
    obtain ⟨hi, t, rfl⟩ := hP
    have F3k := F3.keep
    replace F3 := Has.canon (ps := [("p", Value.int i t)]) ⟨hm, trivial⟩ F3
    dsimp only [List.cons_append, List.nil_append] at N3
    clear F5 N5
    walk_at "go"
    all_goals (try k_data)
    refine div8 hi ?_
    walk1
    refine mod8 fun k hk ek => ?_
    (rename Fr _ _ _ _ => F8)
    (rename News _ _ _ _ => N8)
    refine sub_list N8 (by k_mem) (by (first | lia | omega)) (by simp; (first | lia | omega)) (by (first | lia | omega)) ?_ (by with_unfolding_all rfl) (by intro _; with_unfolding_all rfl)
    obtain ⟨t9, e9⟩ := poolV _ _ _ _ _ _ _ _ k hk
    refine ⟨keepsBut_of (fun a o e => F3k a o e) F8 N8 (fun p hp => by walk_at "mem"), [], fun q hq => (nomatch hq), i, t, t9, rfl, ?_⟩
    refine e9.trans ?_
    simp only [pieceT, poolT]; rw [← ek]; rfl
  case fin =>
    intro D6 h6 tk6 ys6 k6 vv6 B6 F6 O6 hlen6 hP6 hpr6
    have hZ : StrsAre ys6 ((List.range 4).map (pieceT x)) := by
      rw [filter_true] at hpr6
      refine strs_of (by rw [← pairedLen hpr6, hlen6]; simp) fun j hj => ?_
      have hj4 : j < vv6.length := by rw [pairedLen hpr6]; exact hj
      obtain ⟨_, t, e⟩ := hP6 j _ (List.getElem?_eq_getElem hj4)
      obtain ⟨i, t1, t2, e1, e2⟩ := pairedAt hpr6 j hj4 hj
      rw [e] at e1
      have e3 : (j : Int) = (i : Int) := by cases e1; rfl
      refine ⟨t2, ?_⟩
      rw [e2, show i = j from by (first | lia | omega)]
      simp [show j < 4 by (first | lia | omega)]
    have N6 := O6.N
    walk_at "go"
    refine join_list (items := ys6.toArray) ⟨listOf ys6.toArray k6, (N6 (D6, listOf ys6.toArray k6) (.head _)).1, rfl, k6, rfl⟩ hZ ?_ fun t7 k7 => ?_
    · have := pieces_sum x
      rw [slash_len, List.length_map, List.length_range]; (first | lia | omega)
    refine PyProof.Rows.add_str (fun t' k => ?_) ?_
    · exact hR _ _ _ (fun x o e => F6.keep x o e)
    · have := pieces_len x
      rw [sizeLine_eq]; (first | lia | omega)
theorem path_at {Q : Value → Shared → Prop} {x : Int} {front : Str} {tx tf : Tok} (F : Fr g L s.heap m) (N : News g L s.heap news) (X : (hd.heap_39 w.params).In g) (T : Top hd.view_39 (looseW hd.view_39 []) mean mg mb g)
    (hh : A.handled = none) (hroom : A.depth + 10 < recursionLimit) (hu : A.units + 400 < cLine) (hf : front.length ≤ 2)
    (hQ : ∀ h' tk t', Fr g L h' m → News g L h' news → Q (.str (pathT x front) t') { s with heap := h', toks := tk }) :
    wpAny (model PySem.Challenge.rw_pd0047_01.row.prog w) A (call (.ref 160) [.int x tx, .str front tf]) Q NoE s :=
  wpAny_call (path_call X T F.keep hh hroom hu hf fun h' tk t' hk => hQ h' tk t' (after_ext F N hk).1 (after_ext F N hk).2)
end

/-! the heap's defs, called upon a list of tuples -/
section
variable {w : World} {mean : ExcName → Option Value} {mg mb : Str → Option Value} {b g : Heap} {A : Around} {s : Shared} {L : Addr} {m : Str → Option Value} {rest : List (Addr × Obj)} {news : List (Addr × Obj)}
theorem at_fun : ∀ {us : List Value} {as as' : List At}, Paired AtIs us as → Paired AtIs us as' → as = as' := by
  intro us
  induction us with
  | nil => intro as as' h h'; cases h; cases h'; rfl
  | cons u us ih =>
    intro as as' h h'
    cases h with
    | cons a r =>
      cases h' with
      | cons a' r' =>
        rw [ih r r']
        cases a <;> cases a' <;> rfl
theorem TupAt.fun' {h : Heap} {v : Value} {as as' : List At} (h1 : TupAt h v as) (h2 : TupAt h v as') : as = as' := by
  obtain ⟨a, n, us, rfl, ha, p⟩ := h1
  obtain ⟨a', n', us', e, ha', p'⟩ := h2
  cases e
  rw [ha] at ha'
  have e2 : us = us' := by simpa using congrArg Obj.data (Option.some.inj ha') |> fun z => (by simpa [tupOf] using z : us = us' ∧ n = n').1
  subst e2
  exact at_fun p p'
/-- the same, told by a ledger -/
noncomputable def TupIn (B : List (Addr × Obj)) (v : Value) (as : List At) : Prop := ∃ a n us, v = .ref a ∧ (a, tupOf us n) ∈ B ∧ Paired AtIs us as
theorem TupIn.at {B : List (Addr × Obj)} {v : Value} {as : List At} (h : TupIn B v as) {h' : Heap} (N : News g L h' news) (hB : ∀ p ∈ B, p ∈ news) : TupAt h' v as :=
  let ⟨a, n, us, e, hm, p⟩ := h; ⟨a, n, us, e, (N _ (hB _ hm)).1, p⟩
theorem TupIn.mono {B B' : List (Addr × Obj)} {v : Value} {as : List At} (h : TupIn B v as) (hB : ∀ p ∈ B, p ∈ B') : TupIn B' v as :=
  let ⟨a, n, us, e, hm, p⟩ := h; ⟨a, n, us, e, hB _ hm, p⟩
section
variable {κ : Type} {at_ : κ → List At} {lt : κ → κ → Bool}
open Classical in
noncomputable def decH [Inhabited κ] (at_ : κ → List At) (h : Heap) (v : Value) : κ := if e : ∃ t, TupAt h v (at_ t) then e.choose else default
theorem decH_of [Inhabited κ] (inj : ∀ t u, at_ t = at_ u → t = u) {h : Heap} {v : Value} {t : κ} (ht : TupAt h v (at_ t)) : decH at_ h v = t := by
  have e : ∃ t, TupAt h v (at_ t) := ⟨t, ht⟩
  unfold decH
  rw [dif_pos e]
  exact inj _ _ (TupAt.fun' e.choose_spec ht)
theorem tup_hide {h : Heap} {l : Addr} {vs : List Value} {n : Nat} {v : Value} {as : List At} (hl : h.get? l = some (listOf vs.toArray n)) (ht : TupAt h v as) : TupAt (hideAll h [l]) v as := by
  obtain ⟨a, k, us, e, ha, p⟩ := ht
  refine ⟨a, k, us, e, hideAll_get _ ha ?_, p⟩
  intro q
  simp only [List.mem_cons, List.not_mem_nil, or_false] at q
  rw [q, hl] at ha
  have e2 : Value.type "list" = Value.type "tuple" := congrArg Obj.cls (Option.some.inj ha)
  injection e2 with e3
  exact absurd e3 (by decide)
/-- the base of a call upon one list of the ledger: all that lives but this list -/
theorem hide_base {l : Addr} {o : Obj} (F : Fr g L s.heap m) (N : News g L s.heap ((l, o) :: rest)) : (∀ x q, g.get? x = some q → (hideAll s.heap [l]).get? x = some q) ∧ (∀ x q, (hideAll s.heap [l]).get? x = some q → s.heap.get? x = some q) ∧ (hideAll s.heap [l]).get? l = none := by
  have D := N _ (.head _)
  refine ⟨fun x q e => hideAll_get _ (F.keep x q e) ?_, fun x q e => of_hideAll _ e, hideAll_none _ (.head _)⟩
  intro z
  simp only [List.mem_cons, List.not_mem_nil, or_false] at z
  have := D.2.2
  rw [z] at e
  rw [this] at e; cases e
variable (hlk : ∀ t u, Likes (at_ t) (at_ u)) (hlt : ∀ t u, atLt (at_ t) (at_ u) = lt t u)
include hlk hlt
theorem heappop_at {Q : Value → Shared → Prop} {l : Addr} {vs : List Value} {n : Nat} {dec : Value → κ} (F : Fr g L s.heap m) (N : News g L s.heap ((l, listOf vs.toArray n) :: rest)) (hr : ∀ p ∈ rest, p.1 ≠ l)
    (X : (hd.heap_39 w.params).In g) (T : Top hd.view_39 (looseW hd.view_39 []) mean mg mb g) (hroom : A.depth + 10 < recursionLimit) (hu : A.units + 400 < cLine) (h0 : 0 < vs.length) (hn : vs.length ≤ 1000)
    (hS : ∀ v ∈ vs, TupAt s.heap v (at_ (dec v)))
    (hQ : ∀ h' n' tk, Fr g L h' m → News g L h' ((l, listOf (popF (ordBy lt dec) vs).toArray n') :: rest) → Q (vs.getD 0 .none) { s with heap := h', toks := tk }) :
    wpAny (model PySem.Challenge.rw_pd0047_01.row.prog w) A (call (.ref 35) [.ref l]) Q NoE s := by
  have D := N _ (.head _)
  obtain ⟨e1, e2, e3⟩ := hide_base F N
  refine wpAny_call (heappop_call (S := fun v => TupAt (hideAll s.heap [l]) v (at_ (dec v))) (X.keeps e1) (T.keeps e1) e2 D.1 e3 hroom hu h0 hn (fun v hv => tup_hide D.1 (hS v hv)) (cmpOk_of (fun v hv => hv) hlk hlt) fun h' n' tk hk hl' => ?_)
  obtain ⟨F', N'⟩ := after_upd F N hr hk hl'
  exact hQ h' n' tk F' N'
theorem heappush_at {Q : Value → Shared → Prop} {l : Addr} {vs : List Value} {x : Value} {n : Nat} {dec : Value → κ} (F : Fr g L s.heap m) (N : News g L s.heap ((l, listOf vs.toArray n) :: rest)) (hr : ∀ p ∈ rest, p.1 ≠ l)
    (X : (hd.heap_39 w.params).In g) (T : Top hd.view_39 (looseW hd.view_39 []) mean mg mb g) (hroom : A.depth + 10 < recursionLimit) (hu : A.units + 400 < cLine) (hn : vs.length < 1000)
    (hS : ∀ v ∈ vs, TupAt s.heap v (at_ (dec v))) (hx : TupAt s.heap x (at_ (dec x)))
    (hQ : ∀ h' n' tk, Fr g L h' m → News g L h' ((l, listOf (pushF (ordBy lt dec) vs x).toArray n') :: rest) → Q .none { s with heap := h', toks := tk }) :
    wpAny (model PySem.Challenge.rw_pd0047_01.row.prog w) A (call (.ref 28) [.ref l, x]) Q NoE s := by
  have D := N _ (.head _)
  obtain ⟨e1, e2, e3⟩ := hide_base F N
  refine wpAny_call (heappush_call (S := fun v => TupAt (hideAll s.heap [l]) v (at_ (dec v))) (X.keeps e1) (T.keeps e1) e2 D.1 e3 hroom hu hn (fun v hv => tup_hide D.1 (hS v hv)) (tup_hide D.1 hx) (cmpOk_of (fun v hv => hv) hlk hlt) fun h' n' tk hk hl' => ?_)
  obtain ⟨F', N'⟩ := after_upd F N hr hk hl'
  exact hQ h' n' tk F' N'
theorem heapify_at {Q : Value → Shared → Prop} {l : Addr} {vs : List Value} {n : Nat} {dec : Value → κ} (F : Fr g L s.heap m) (N : News g L s.heap ((l, listOf vs.toArray n) :: rest)) (hr : ∀ p ∈ rest, p.1 ≠ l)
    (X : (hd.heap_39 w.params).In g) (T : Top hd.view_39 (looseW hd.view_39 []) mean mg mb g) (hh : A.handled = none) (hroom : A.depth + 10 < recursionLimit) (hu : A.units + 400 < cLine) (hn : vs.length ≤ 1000)
    (hS : ∀ v ∈ vs, TupAt s.heap v (at_ (dec v)))
    (hQ : ∀ h' n' tk, Fr g L h' m → News g L h' ((l, listOf (hfGo (ordBy lt dec) .none (vs.length / 2) vs).toArray n') :: rest) → Q .none { s with heap := h', toks := tk }) :
    wpAny (model PySem.Challenge.rw_pd0047_01.row.prog w) A (call (.ref 42) [.ref l]) Q NoE s := by
  have D := N _ (.head _)
  obtain ⟨e1, e2, e3⟩ := hide_base F N
  refine wpAny_call (heapify_call (S := fun v => TupAt (hideAll s.heap [l]) v (at_ (dec v))) (X.keeps e1) (T.keeps e1) e2 D.1 e3 hh hroom hu hn (fun v hv => tup_hide D.1 (hS v hv)) (cmpOk_of (fun v hv => hv) hlk hlt) fun h' n' tk hk hl' => ?_)
  obtain ⟨F', N'⟩ := after_upd F N hr hk hl'
  exact hQ h' n' tk F' N'
end
theorem at4_inj (t u : K4) (h : at4 t = at4 u) : t = u := by
  obtain ⟨a, b, c, d⟩ := t
  obtain ⟨a', b', c', d'⟩ := u
  simp only [at4, List.cons.injEq, At.int.injEq, At.str.injEq, Int.natCast_inj, and_true] at h
  obtain ⟨rfl, rfl, rfl, rfl⟩ := h; rfl
theorem at3_inj (t u : K3) (h : at3 t = at3 u) : t = u := by
  obtain ⟨a, b, c⟩ := t
  obtain ⟨a', b', c'⟩ := u
  simp only [at3, List.cons.injEq, At.int.injEq, At.str.injEq, Int.natCast_inj, and_true] at h
  obtain ⟨rfl, rfl, rfl⟩ := h; rfl
theorem ord4 (dec : Value → K4) : Ord (ordBy lt4 dec) := sto4.ord dec
theorem ord3 (dec : Value → K3) : Ord (ordBy lt3 dec) := sto3.ord dec
end

/-! rules for the walks of the two ways -/
section
variable {w : World} {A : Around} {s : Shared} {g : Heap} {L : Addr} {m : Str → Option Value} {prog : Program} {env : Env} {news : List (Addr × Obj)}
noncomputable def isIt (o : Obj) : Prop := ∃ fs, o.data = .fields fs
/-- no iterator stands in the ledger, but for those that are told -/
noncomputable def NoIt (k0 news : List (Addr × Obj)) : Prop := ∀ p ∈ news, ¬ isIt p.2 ∨ p ∈ k0
theorem noIt_ne {h : Heap} {I : Addr} {oI : Obj} {k0 : List (Addr × Obj)} (hI : h.get? I = some oI) (hi : isIt oI) (N : News g L h news) (hn : NoIt k0 news) (h0 : ∀ p ∈ k0, p.1 ≠ I) : ∀ p ∈ news, p.1 ≠ I := fun p hp e => by
  rcases hn p hp with q | q
  · have := (N p hp).1
    rw [e, hI] at this
    exact q (Option.some.inj this ▸ hi)
  · exact h0 p q e
noncomputable def TurnC (g : Heap) (L : Addr) (s : Shared) (I : Addr) (oI : Obj) (J : Nat → (Str → Option Value) → List (Addr × Obj) → Prop) (i : Nat) (Q : Flow → Shared → Prop) (f : Flow) (s₃ : Shared) : Prop :=
  match f with
  | .next | .cont => ∃ h tk m news, s₃ = { s with heap := h, toks := tk } ∧ Fr g L h m ∧ News g L h ((I, oI) :: news) ∧ J (i + 1) m news
  | .brk => Q .next s₃
  | .ret v => Q (.ret v) s₃
inductive FoSt (s : Shared) (g : Heap) (L : Addr) (St : Nat → Heap → Prop) (n : Nat) (J : Nat → (Str → Option Value) → List (Addr × Obj) → Prop) (k : Nat) (s' : Shared) : Prop
  | mk (h : Heap) (tk : Nat) (m : Str → Option Value) (news : List (Addr × Obj)) (i : Nat) (es : s' = { s with heap := h, toks := tk }) (st : St i h) (F : Fr g L h m) (N : News g L h news) (hJ : J i m news) (hi : i ≤ n) (hk : k = n + 1 - i)
theorem forTC {Q : Flow → Shared → Prop} {target : Expr} {body : List Stmt} {I : Addr} {fp : List Addr} {n : Nat} {P : Nat → Value → Prop} {St : Nat → Heap → Prop}
    (W : Walks prog w A I fp [I] n P St) (J : Nat → (Str → Option Value) → List (Addr × Obj) → Prop) (keep : List (Addr × Obj)) (hkp : ∀ i m' news', J i m' news' → ∀ p ∈ keep, p ∈ news') (k0 : List (Addr × Obj)) (hk0 : ∀ p ∈ k0, p.1 ≠ I) (hJ : ∀ i m' news', J i m' news' → NoIt k0 news')
    (hfp : ∀ a ∈ fp, a = I ∨ (∃ o, g.get? a = some o) ∨ ∃ o, (a, o) ∈ keep) (hI : g.get? I = none) (hIL : I ≠ L) (hSt : ∀ i h, St i h → ∃ o, h.get? I = some o ∧ isIt o)
    (hst : St 0 s.heap) (F : Fr g L s.heap m) (N : News g L s.heap news) (h0 : J 0 m news)
    (ht : ∀ v, letOwnedTupleGo target (.ref I) v = pure ())
    (turn : ∀ i v m₁ news₁ h₁ tk₁ oI, i < n → P i v → J i m₁ news₁ → Fr g L h₁ m₁ → News g L h₁ ((I, oI) :: news₁) → (∀ p ∈ news₁, p.1 ≠ I) → isIt oI →
      wpAny (model prog w) A (assign target env v) (fun _ s₂ => wpAny (model prog w) A (execs body env) (TurnC g L s I oI J i Q) NoE s₂) NoE { s with heap := h₁, toks := tk₁ })
    (done : ∀ m₁ news₁ h₁ tk₁, J n m₁ news₁ → Fr g L h₁ m₁ → News g L h₁ news₁ → Q .next { s with heap := h₁, toks := tk₁ }) :
    LoopT prog w A env target body Q (.ref I) s := by
  refine ⟨codeAny_forLoop (FoSt s g L St n J) ?_ (n + 1)
    ⟨s.heap, s.toks, m, news, 0, rfl, hst, F, N, h0, Nat.zero_le _, rfl⟩ (ht := ht)⟩
  rintro k s' ⟨h, tk, m', nw, i, rfl, hst', F', N', J', hi, rfl⟩
  obtain ⟨o0, ho0, hi0⟩ := hSt _ _ hst'
  have hne := noIt_ne ho0 hi0 N' (hJ _ _ _ J') hk0
  have nxt : ∀ h₁ : Heap, (∀ b o, b ∉ [I] → h.get? b = some o → h₁.get? b = some o) → Fr g L h₁ m' ∧ News g L h₁ nw := fun h₁ hk₁ =>
    ⟨⟨F'.ns.at' fun o e => hk₁ _ o (by simp; exact fun q => hIL q.symm) e, fun b o e => hk₁ b o (by simp; intro q; rw [q, hI] at e; cases e) (F'.keep b o e), F'.above⟩, fun p hp => ⟨hk₁ _ _ (by simp; exact hne p hp) (N' p hp).1, (N' p hp).2⟩⟩
  by_cases hlt : i < n
  · refine W.item i _ _ _ hlt hst' fun v h₁ tk₁ hP hst₁ hk₁ => ?_
    obtain ⟨F₁, N₁⟩ := nxt h₁ hk₁
    obtain ⟨oI, hoI, hiI⟩ := hSt _ _ hst₁
    refine wpAny_mono (turn i v m' nw h₁ tk₁ oI hlt hP J' F₁ (fun p hp => ?_) hne hiI) (fun _ s₂ h₂ => wpAny_mono h₂ (fun f s₃ h₃ => ?_) fun _ _ e => e.elim) fun _ _ e => e.elim
    · rcases List.mem_cons.mp hp with rfl | hp
      · exact ⟨hoI, hIL, hI⟩
      · exact N₁ p hp
    · have fin : (∃ h tk m news, s₃ = { s with heap := h, toks := tk } ∧ Fr g L h m ∧ News g L h ((I, oI) :: news) ∧ J (i + 1) m news) → ∃ m, m < n + 1 - i ∧ FoSt s g L St n J m s₃ := by
        rintro ⟨h₃', tk₃, m₂, nw₂, rfl, F₃, N₃, J₃⟩
        refine ⟨n + 1 - (i + 1), by (first | lia | omega), h₃', tk₃, m₂, nw₂, i + 1, rfl, ?_, F₃, fun p hp => N₃ p (.tail _ hp), J₃, hlt, rfl⟩
        refine W.frame _ _ _ hst₁ fun a ha o e => ?_
        rcases hfp a ha with rfl | ⟨q, hq⟩ | ⟨q, hq⟩
        · rw [hoI] at e; cases e; exact (N₃ _ (.head _)).1
        · have e1 := F₁.keep a q hq
          rw [e] at e1; cases e1
          exact F₃.keep a _ hq
        · have e1 := (N₁ _ (hkp _ _ _ J' _ hq)).1
          rw [e] at e1; cases e1
          exact (N₃ _ (.tail _ (hkp _ _ _ J₃ _ hq))).1
      cases f with
      | next => exact fin h₃
      | cont => exact fin h₃
      | brk => exact h₃
      | ret v => exact h₃
  · have hin : i = n := by (first | lia | omega)
    subst hin
    refine W.done _ _ _ hst' fun h₁ tk₁ hk₁ => wpAny_execs_nil ?_
    obtain ⟨F₁, N₁⟩ := nxt h₁ hk₁
    exact done m' nw h₁ tk₁ J' F₁ N₁
/-- a loop over a list: in the ledger (and left as it is), or older than the frame -/
theorem for_listC {Q : Flow → Shared → Prop} {target : Expr} {body : List Stmt} {ax : Addr} {vs : List Value} (J : Nat → (Str → Option Value) → List (Addr × Obj) → Prop) (hh : A.handled = none)
    (F : Fr g L s.heap m) (N : News g L s.heap news) (h0 : J 0 m news) (k0 : List (Addr × Obj)) (hk0 : ∀ p ∈ k0, p ∈ news) (hJ : ∀ i m' news', J i m' news' → NoIt k0 news') (hl : g.IsList ax vs.toArray ∨ ∃ k, ∀ i m' news', J i m' news' → (ax, listOf vs.toArray k) ∈ news')
    (ht : ∀ I v, letOwnedTupleGo target (.ref I) v = pure ())
    (turn : ∀ i v m₁ news₁ h₁ tk₁ I oI, i < vs.length → vs[i]? = some v → J i m₁ news₁ → Fr g L h₁ m₁ → News g L h₁ ((I, oI) :: news₁) → (∀ p ∈ news₁, p.1 ≠ I) → isIt oI →
      wpAny (model prog w) A (assign target env v) (fun _ s₂ => wpAny (model prog w) A (execs body env) (TurnC g L s I oI J i Q) NoE s₂) NoE { s with heap := h₁, toks := tk₁ })
    (done : ∀ m₁ news₁ h₁ tk₁, J vs.length m₁ news₁ → Fr g L h₁ m₁ → News g L h₁ news₁ → Q .next { s with heap := h₁, toks := tk₁ }) :
    wpAny (model prog w) A (pyIter (.ref ax)) (LoopT prog w A env target body Q) NoE s := by
  obtain ⟨keep, hkp, hl', hk1⟩ : ∃ keep : List (Addr × Obj), (∀ i m' news', J i m' news' → ∀ p ∈ keep, p ∈ news') ∧ s.heap.IsList ax vs.toArray ∧ ((∃ o, g.get? ax = some o) ∨ ∃ o, (ax, o) ∈ keep) := by
    rcases hl with h | ⟨k, h⟩
    · exact ⟨[], fun _ _ _ _ p hp => (nomatch hp), F.lst h, .inl (let ⟨o, e, _⟩ := h; ⟨o, e⟩)⟩
    · exact ⟨[(ax, listOf vs.toArray k)], fun i m' n' q p hp => by simp at hp; rw [hp]; exact h i m' n' q, ⟨_, (N _ (h _ _ _ h0)).1, rfl, _, rfl⟩, .inr ⟨_, .head _⟩⟩
  have hlt : ax < s.heap.objs.size := by obtain ⟨_, e, _⟩ := hl'; exact Heap.lt_size e
  have hf := fresh_of F (Heap.get?_none_of_le (Nat.le_refl s.heap.objs.size))
  refine wpAny_pyIter_list hl' ?_
  obtain ⟨F2, N2⟩ := after_ext (h' := s.heap.push { cls := .type "list_iterator", data := .fields #[.ref ax, .int 0 0] }) F N fun a o e => Heap.get?_push_of_some _ e
  have W := Walks.list (prog := prog) (w := w) hh s.heap.objs.size ax (Nat.ne_of_lt hlt) vs.toArray
  refine forTC (s := { s with heap := _ }) W J keep hkp k0 (fun p hp => Nat.ne_of_lt (Heap.lt_size (N p (hk0 p hp)).1)) hJ (fun a ha => ?_) hf.1 hf.2 (fun i h st => let ⟨o, ho, _, hd⟩ := st.1; ⟨o, ho, _, hd⟩)
    ⟨⟨_, Heap.get?_push_size _ rfl, rfl, rfl⟩, hl'.push _⟩ F2 N2 h0 (ht _) ?_ ?_
  · simp only [List.mem_cons, List.not_mem_nil, or_false] at ha
    rcases ha with rfl | rfl
    · exact .inl rfl
    · exact .inr hk1
  · intro i v m₁ news₁ h₁ tk₁ oI hi hP hJ F1 N1 hn1 hiI
    exact turn i v m₁ news₁ h₁ tk₁ _ oI (by simpa using hi) (by simpa using hP) hJ F1 N1 hn1 hiI
  · intro m₁ news₁ h₁ tk₁ hJ F1 N1
    exact done m₁ news₁ h₁ tk₁ (by simpa using hJ) F1 N1
theorem for_rangeC {Q : Flow → Shared → Prop} {target : Expr} {body : List Stmt} {r : Addr} {k : Nat} {t u v : Tok} (J : Nat → (Str → Option Value) → List (Addr × Obj) → Prop) (hh : A.handled = none)
    (F : Fr g L s.heap m) (N : News g L s.heap news) (h0 : J 0 m news) (k0 : List (Addr × Obj)) (hk0 : ∀ p ∈ k0, p ∈ news) (hJ : ∀ i m' news', J i m' news' → NoIt k0 news') (hr : IsRange s.heap r 0 (k : Int) 1 t u v) (hk : k ≤ 1000000)
    (ht : ∀ I v, letOwnedTupleGo target (.ref I) v = pure ())
    (turn : ∀ i t m₁ news₁ h₁ tk₁ I oI, i < k → J i m₁ news₁ → Fr g L h₁ m₁ → News g L h₁ ((I, oI) :: news₁) → (∀ p ∈ news₁, p.1 ≠ I) → isIt oI →
      wpAny (model prog w) A (assign target env (.int (i : Nat) t)) (fun _ s₂ => wpAny (model prog w) A (execs body env) (TurnC g L s I oI J i Q) NoE s₂) NoE { s with heap := h₁, toks := tk₁ })
    (done : ∀ m₁ news₁ h₁ tk₁, J k m₁ news₁ → Fr g L h₁ m₁ → News g L h₁ news₁ → Q .next { s with heap := h₁, toks := tk₁ }) :
    wpAny (model prog w) A (pyIter (.ref r)) (LoopT prog w A env target body Q) NoE s := by
  have hf := fresh_of F (Heap.get?_none_of_le (Nat.le_refl s.heap.objs.size))
  obtain ⟨h1, h2⟩ := small_range hk
  have W := LCg.range_walks (prog := prog) (w := w) (I := s.heap.objs.size) hh 0 k
  refine wpAny_pyIter_range hr h1 ?_
  rw [h2]
  obtain ⟨F2, N2⟩ := after_ext (h' := s.heap.push (rangeIterObj 0 k 1)) F N fun a o e => Heap.get?_push_of_some _ e
  refine forTC (s := { s with heap := _ }) W J [] (fun i m' n' hJ p hp => (nomatch hp)) k0 (fun p hp => Nat.ne_of_lt (Heap.lt_size (N p (hk0 p hp)).1)) hJ (fun a ha => ?_) hf.1 hf.2 (fun i h st => ⟨_, st, _, rfl⟩)
    ?_ F2 N2 h0 (ht _) ?_ ?_
  · simp only [List.mem_cons, List.not_mem_nil, or_false] at ha
    exact .inl ha
  · show IsRangeIter _ _ _ _ _
    have e1 : (0 : Int) + ((0 : Nat) : Int) * 1 = 0 := by (first | lia | omega)
    have e2 : (k : Int) - ((0 : Nat) : Int) = k := by (first | lia | omega)
    rw [e1, e2]; exact Heap.get?_push_size _ rfl
  · intro i v m₁ news₁ h₁ tk₁ oI hi hP hJ F1 N1 hn1 hiI
    obtain ⟨t, rfl⟩ := hP
    rw [Int.zero_add]
    exact turn i t m₁ news₁ h₁ tk₁ _ oI hi hJ F1 N1 hn1 hiI
  · intro m₁ news₁ h₁ tk₁ hJ F1 N1
    exact done m₁ news₁ h₁ tk₁ hJ F1 N1
/-- an item of a list, wherever it lies -/
theorem sub_isl {value slice : Expr} {a : Addr} {vs : List Value} {k : Int} {u : Tok} {E : Value → Shared → Prop} {Q : Value → Shared → Prop} (hl : s.heap.IsList a vs.toArray)
    (h0 : 0 ≤ k) (h1 : k < vs.length) (h2 : k < 2 ^ 63) (h : Q (vs.getD k.toNat .none) s)
    (hs : subscripted slice false (.ref a) (.int k u) = operate [.ref a, .int k u] (getItem (.ref a) (.int k u))) (hg : ∀ r, letTemporaryGo value (.ref a) r = pure ()) :
    wpAny (model prog w) A (subscriptTail value slice (.ref a) (.int k u)) Q E s :=
  item_listL hl h0 h2 (by
    have : k.toNat < vs.length := by (first | lia | omega)
    rw [List.getElem?_eq_getElem this, List.getD_eq_getElem?_getD, List.getElem?_eq_getElem this]; rfl) h hs hg
theorem list_ne_nil (l b : Addr) (items : Array Value) (n n2 : Nat) :
    Meets (Builtin.«list.__ne__» ⟨[.ref l, .ref b], []⟩)
      (fun _ R s => s.heap.get? l = some { cls := .type "list", dict := none, data := .seq items n, slots := #[] } ∧ s.heap.get? b = some { cls := .type "list", dict := none, data := .seq #[] n2, slots := #[] } ∧
        R (.ok (.ret (.bool (decide (0 < items.size))))) s) := by
  intro prog w A R s h
  obtain ⟨hp, g, d, tk, os⟩ := s; obtain ⟨hl, hb, h⟩ := h
  have f3 := AutoSeq1.sub_list_list
  by_cases h0 : items.size = 0
  · have e : items = #[] := Array.eq_empty_of_size_eq_zero h0
    subst e
    wp_walk using AutoSeq1.wpAny_loadPart' hl, AutoSeq1.wpAny_loadPart' hb
    exact ⟨plainId_quiet MeetsSeq3.plain_eq_loop _, codeAny_builtin MeetsSeq3.entry_eq_loop (by
      rw [Around.under_plainId MeetsSeq3.plain_eq_loop _]
      wp_walk using AutoSeq1.wpAny_loadPart' hl, AutoSeq1.wpAny_loadPart' hb
      exact h)⟩
  · have hne : (items.size != (#[] : Array Value).size) = true := by simpa using h0
    rw [decide_eq_true (by (first | lia | omega) : 0 < items.size)] at h
    wp_walk using AutoSeq1.wpAny_loadPart' hl, AutoSeq1.wpAny_loadPart' hb
    exact h
theorem ne_nil {a e : Addr} {vs : List Value} {k k' : Nat} {E : Value → Shared → Prop} {Q : Value → Shared → Prop} (N : News g L s.heap news) (ha : (a, listOf vs.toArray k) ∈ news) (he : (e, listOf #[] k') ∈ news) (hu : A.units < cLine)
    (h : Q (.bool (decide (0 < vs.length))) s) : wpAny (model prog w) A (compareOp .NotEq (.ref a) (.ref e)) Q E s := by
  show wpAny (model prog w) A (richCompare .NotEq (.ref a) (.ref e)) Q E s
  refine richCompare_meets_room (op := .NotEq) ⟨_, (N _ ha).1, rfl⟩ ⟨_, (N _ he).1, rfl⟩ F.slot_list_ne F.entry_list_ne (F.args_list_ne_2 _ _) (list_ne_nil a e vs.toArray k k') ⟨(N _ ha).1, (N _ he).1, ?_⟩ hu
  rw [List.size_toArray]
  exact ⟨fun z => (nomatch z), h⟩
end

local macro_rules | `(tactic| walk_at "compareOp NotEq") => `(tactic| ((with_reducible show wpAny _ _ (compareOp _ (Value.ref _) (Value.ref _)) _ _ _); with_unfolding_all refine' ne_nil (by k_asm) (by k_mem) (by k_mem) (by simp only [Around.deeper_units]; omega) ?_))
local macro_rules | `(tactic| walk_at "compareOp NotEq ref") => `(tactic| walk_at "compareOp NotEq")
local macro_rules | `(tactic| walk_at "compareOp NotEq ref ref") => `(tactic| walk_at "compareOp NotEq")
/-! loops whose turn is told of one state and one end: short proofs -/
section
variable {prog : Program} {w : World} {A : Around} {s : Shared} {g : Heap} {L : Addr} {m : Str → Option Value} {news : List (Addr × Obj)} {env : Env}
theorem for_rangeH {Q : Flow → Shared → Prop} {target : Expr} {body : List Stmt} {r : Addr} {k : Nat} {t u v : Tok} (J : Nat → (Str → Option Value) → List (Addr × Obj) → Prop) (hh : A.handled = none)
    (F : Fr g L s.heap m) (N : News g L s.heap news) (h0 : J 0 m news) (k0 : List (Addr × Obj)) (hk0 : ∀ p ∈ k0, p ∈ news) (hJ : ∀ i m' news', J i m' news' → NoIt k0 news') (hr : IsRange s.heap r 0 (k : Int) 1 t u v) (hk : k ≤ 1000000)
    (ht : ∀ I v, letOwnedTupleGo target (.ref I) v = pure ())
    (turn : ∀ i t m₁ news₁ (S : Shared) (T : Flow → Shared → Prop) I oI, i < k → J i m₁ news₁ → Fr g L S.heap m₁ → News g L S.heap ((I, oI) :: news₁) → (∀ p ∈ news₁, p.1 ≠ I) → isIt oI →
      (∀ h tk m' news', Fr g L h m' → News g L h ((I, oI) :: news') → J (i + 1) m' news' → T .next { S with heap := h, toks := tk }) →
      wpAny (model prog w) A (assign target env (.int (i : Nat) t)) (fun _ s₂ => wpAny (model prog w) A (execs body env) T NoE s₂) NoE S)
    (done : ∀ m₁ news₁ h₁ tk₁, J k m₁ news₁ → Fr g L h₁ m₁ → News g L h₁ news₁ → Q .next { s with heap := h₁, toks := tk₁ }) :
    wpAny (model prog w) A (pyIter (.ref r)) (LoopT prog w A env target body Q) NoE s :=
  for_rangeC J hh F N h0 k0 hk0 hJ hr hk ht (fun i t m₁ news₁ h₁ tk₁ I oI hi hJ F N hn hI => turn i t m₁ news₁ { s with heap := h₁, toks := tk₁ } (TurnC g L s I oI J i Q) I oI hi hJ F N hn hI fun h tk m' news' F N hJ => ⟨h, tk, m', news', rfl, F, N, hJ⟩) done
theorem for_listH {Q : Flow → Shared → Prop} {target : Expr} {body : List Stmt} {ax : Addr} {vs : List Value} (J : Nat → (Str → Option Value) → List (Addr × Obj) → Prop) (hh : A.handled = none)
    (F : Fr g L s.heap m) (N : News g L s.heap news) (h0 : J 0 m news) (k0 : List (Addr × Obj)) (hk0 : ∀ p ∈ k0, p ∈ news) (hJ : ∀ i m' news', J i m' news' → NoIt k0 news') (hl : g.IsList ax vs.toArray ∨ ∃ k, ∀ i m' news', J i m' news' → (ax, listOf vs.toArray k) ∈ news')
    (ht : ∀ I v, letOwnedTupleGo target (.ref I) v = pure ())
    (turn : ∀ i v m₁ news₁ (S : Shared) (T : Flow → Shared → Prop) I oI, i < vs.length → vs[i]? = some v → J i m₁ news₁ → Fr g L S.heap m₁ → News g L S.heap ((I, oI) :: news₁) → (∀ p ∈ news₁, p.1 ≠ I) → isIt oI →
      (∀ h tk m' news', Fr g L h m' → News g L h ((I, oI) :: news') → J (i + 1) m' news' → T .next { S with heap := h, toks := tk }) →
      wpAny (model prog w) A (assign target env v) (fun _ s₂ => wpAny (model prog w) A (execs body env) T NoE s₂) NoE S)
    (done : ∀ m₁ news₁ h₁ tk₁, J vs.length m₁ news₁ → Fr g L h₁ m₁ → News g L h₁ news₁ → Q .next { s with heap := h₁, toks := tk₁ }) :
    wpAny (model prog w) A (pyIter (.ref ax)) (LoopT prog w A env target body Q) NoE s :=
  for_listC J hh F N h0 k0 hk0 hJ hl ht (fun i v m₁ news₁ h₁ tk₁ I oI hi hv hJ F N hn hI => turn i v m₁ news₁ { s with heap := h₁, toks := tk₁ } (TurnC g L s I oI J i Q) I oI hi hv hJ F N hn hI fun h tk m' news' F N hJ => ⟨h, tk, m', news', rfl, F, N, hJ⟩) done
end

/-! bundles, folders -/
section
variable {w : World} {A : Around} {s : Shared} {g : Heap} {L : Addr} {m : Str → Option Value} {prog : Program} {env : Env} {news : List (Addr × Obj)}
noncomputable def NatsAre (us : List Value) (b : List Nat) : Prop := IntsAre us (b.map fun k : Nat => (k : Int))
noncomputable def BunIs (B : List (Addr × Obj)) (b : List Nat) (y : Value) : Prop := ∃ a us k, y = .ref a ∧ (a, listOf us.toArray k) ∈ B ∧ NatsAre us b
noncomputable def BunsAre (B : List (Addr × Obj)) (bs : List (List Nat)) (ys : List Value) : Prop := Paired (BunIs B) bs ys
theorem BunIs.mono {B B' : List (Addr × Obj)} (h : ∀ p ∈ B, p ∈ B') {b : List Nat} {y : Value} : BunIs B b y → BunIs B' b y := fun ⟨a, us, k, e, hm, q⟩ => ⟨a, us, k, e, h _ hm, q⟩
theorem BunsAre.mono {B B' : List (Addr × Obj)} (h : ∀ p ∈ B, p ∈ B') {bs : List (List Nat)} {ys : List Value} (q : BunsAre B bs ys) : BunsAre B' bs ys := pairedMono (fun _ _ => BunIs.mono h) q
theorem ints_fun : ∀ {us : List Value} {ns ns' : List Int}, IntsAre us ns → IntsAre us ns' → ns = ns' := by
  intro us ns ns' h
  induction h generalizing ns' with
  | nil => intro h'; cases h'; rfl
  | cons _ _ _ ih => intro h'; cases h' with | cons _ _ r' => rw [ih r']
theorem nats_inj {b c : List Nat} (h : b.map (fun k : Nat => (k : Int)) = c.map fun k : Nat => (k : Int)) : b = c :=
  List.map_inj_right (fun _ _ e => Int.natCast_inj.mp e) |>.mp h
/-- in one heap a reference tells of one bundle -/
theorem BunIs.fun' (N : News g L s.heap news) {b c : List Nat} {y : Value} (h : BunIs news b y) (h' : BunIs news c y) : b = c := by
  obtain ⟨a, us, k, rfl, hm, q⟩ := h
  obtain ⟨a', us', k', e, hm', q'⟩ := h'
  cases e
  have := (N _ hm).1
  rw [(N _ hm').1] at this
  have e2 : us' = us ∧ k' = k := by simpa [W.listOf] using congrArg Obj.data (Option.some.inj this)
  rw [e2.1] at q'
  exact nats_inj (ints_fun q q')
theorem ints_map : ∀ (ns : List Int), ∃ us, IntsAre us ns
  | [] => ⟨_, .nil⟩
  | n :: ns => let ⟨us, h⟩ := ints_map ns; ⟨_, .cons n 0 h⟩
noncomputable def bunD (b : List Nat) : Dat := .list (b.map fun k : Nat => Dat.int (k : Int))
theorem ints_dat {B : List (Addr × Obj)} : ∀ {us : List Value} {b : List Nat}, NatsAre us b → DatAll B us (b.map fun k : Nat => Dat.int (k : Int))
  | us, b, h => by
    unfold NatsAre at h
    generalize hn : (b.map fun k : Nat => (k : Int)) = ns at h
    have e : (b.map fun k : Nat => Dat.int (k : Int)) = ns.map Dat.int := by rw [← hn, List.map_map]; rfl
    rw [e]
    clear hn e
    induction h with
    | nil => exact .nil
    | cons n t _ ih => exact .cons (.int n t) ih
theorem BunIs.dat {B : List (Addr × Obj)} {b : List Nat} {y : Value} (h : BunIs B b y) : DatIn B y (bunD b) := by
  obtain ⟨a, us, k, rfl, hm, q⟩ := h
  exact .list hm (ints_dat q)
theorem BunsAre.dat {B : List (Addr × Obj)} : ∀ {bs : List (List Nat)} {ys : List Value}, BunsAre B bs ys → DatAll B ys (bs.map bunD)
  | _, _, .nil => .nil
  | _, _, .cons h r => .cons h.dat (BunsAre.dat r)
theorem bunD_inj {b c : List Nat} (h : bunD b = bunD c) : b = c := by
  unfold bunD at h
  injection h with h
  exact List.map_inj_right (fun x y e => by injection e with e; exact Int.natCast_inj.mp e) |>.mp h
theorem bunD_ok (b : List Nat) : kqdOk 8 (bunD b) = true := by
  show ((b.map fun k : Nat => Dat.int (k : Int)).all (kqdOk 7)) = true
  rw [List.all_map, List.all_eq_true]
  intro _ _; rfl
theorem bunD_mem {b : List Nat} {bs : List (List Nat)} : bunD b ∈ bs.map bunD ↔ b ∈ bs := by
  rw [List.mem_map]
  exact ⟨fun ⟨c, hc, e⟩ => bunD_inj e ▸ hc, fun h => ⟨b, h, rfl⟩⟩
theorem any_nat (b : List Nat) (i : Nat) : ((b.map fun k : Nat => (k : Int)).any (· == (i : Int))) = decide (i ∈ b) := by
  rw [Bool.eq_iff_iff, List.any_map, List.any_eq_true, decide_eq_true_eq]
  constructor
  · rintro ⟨x, hx, e⟩
    have : (x : Int) = i := by simpa using e
    rw [← Int.natCast_inj.mp this]; exact hx
  · intro h; exact ⟨i, h, by simp⟩
/-- commonpath's value, as a folder -/
theorem commonT_eq (bb : Bool) (ts : List Str) : commonT bb ts = folderOf bb (comF (ts.map rowOf)) := rfl
theorem comF_row {ts : List Str} (h : 0 < ts.length) : ∃ x ∈ ts, comF (ts.map rowOf) <+: rowOf x := by
  obtain ⟨x, hx, e⟩ := List.mem_map.mp (minRow_mem (Xs := ts.map rowOf) (by rw [List.length_map]; exact h))
  exact ⟨x, hx, by rw [e]; exact cpl_prefix _ _⟩
theorem comF_names {ts : List Str} (h : 0 < ts.length) : Names (comF (ts.map rowOf)) := by
  obtain ⟨x, _, hp⟩ := comF_row h
  exact fun p hp' => row_names x p (hp.subset hp')
theorem folder_len (bb : Bool) {x : Str} {F : List Str} (hF : F <+: rowOf x) (hx : x.length ≤ 20) : (folderOf bb F).length ≤ 500 := by
  have h1 : ∀ p ∈ F, p.length ≤ 20 := fun p hp => Nat.le_trans (part_short (List.mem_filter.mp (hF.subset hp)).1) hx
  have h2 : F.length ≤ 22 := Nat.le_trans hF.length_le (Nat.le_trans (List.length_filter_le _ _) (Nat.le_trans (split_le x "/") (by (first | lia | omega))))
  have h3 := sum_short h1
  have h4 := StrLaws.join_length_le "/" F
  rw [slash_len] at h4
  have h5 : (Txt.join "/" F).length ≤ 462 := by
    show (Builtin.Str.glued "/" F).length ≤ _
    rw [StrLaws.glued_eq_join]; (first | lia | omega)
  cases bb
  · show ((Str.ofString "") ++ Txt.join "/" F).length ≤ _
    rw [Str.length_append]
    have : (Str.ofString "").length = 0 := by decide +kernel
    (first | lia | omega)
  · show ((Str.ofString "/") ++ Txt.join "/" F).length ≤ _
    rw [Str.length_append, slash_len]; (first | lia | omega)
theorem comF_len (bb : Bool) {ts : List Str} (h : 0 < ts.length) (hts : ∀ x ∈ ts, x.length ≤ 20) : (folderOf bb (comF (ts.map rowOf))).length ≤ 500 := by
  obtain ⟨x, hx, hp⟩ := comF_row h
  exact folder_len bb hp (hts x hx)
theorem comF_depth (bb : Bool) {ts : List Str} (h : 0 < ts.length) : DepthIs (folderOf bb (comF (ts.map rowOf))) (comF (ts.map rowOf)).length := depth_is bb _ _ rfl (comF_names h)
theorem rowAt_map {ts : List Str} {i : Nat} (h : i < ts.length) : rowAt (ts.map rowOf) i = rowOf (ts.getD i "") := by
  unfold rowAt
  simp [List.getD, h]
theorem pair_lcp {ts : List Str} {i j : Nat} (hi : i < ts.length) (hj : j < ts.length) : comF ([ts.getD i "", ts.getD j ""].map rowOf) = Lc (ts.map rowOf) i j := by
  rw [Lc, rowAt_map hi, rowAt_map hj]; rfl
theorem strs_getD {us : List Value} {xs : List Str} (h : StrsAre us xs) {j : Nat} (hj : j < xs.length) : ∃ t, us.getD j .none = .str (xs.getD j "") t := by
  have hj' : j < us.length := by rw [h.length]; exact hj
  obtain ⟨t, e⟩ := strsGet h j hj'
  exact ⟨t, by rw [List.getD_eq_getElem?_getD, List.getElem?_eq_getElem hj']; exact e⟩
open Classical in
noncomputable def holdsB (B : List (Addr × Obj)) (q : List Nat → Bool) (v : Value) : Bool := decide (∃ b, BunIs B b v ∧ q b = true)
open Classical in
theorem holdsB_of (N : News g L s.heap news) {b : List Nat} {y : Value} (h : BunIs news b y) (q : List Nat → Bool) : holdsB news q y = q b := by
  unfold holdsB
  cases e : q b with
  | true => exact decide_eq_true ⟨b, h, e⟩
  | false =>
    refine decide_eq_false ?_
    rintro ⟨c, hc, ec⟩
    rw [BunIs.fun' N hc h, e] at ec; cases ec
theorem buns_filter (N : News g L s.heap news) {B : List (Addr × Obj)} (hB : ∀ p ∈ B, p ∈ news) (q : List Nat → Bool) : ∀ {bs : List (List Nat)} {ys : List Value}, BunsAre B bs ys → BunsAre B (bs.filter q) (ys.filter (holdsB news q))
  | _, _, .nil => .nil
  | _, _, .cons (a := b) (b := y) h r => by
    have e := holdsB_of N (h.mono hB) q
    have r' := buns_filter N hB q r
    rw [List.filter_cons, List.filter_cons, e]
    cases q b with
    | true => exact .cons h r'
    | false => exact r'
theorem BunsAre.at' {B : List (Addr × Obj)} {bs : List (List Nat)} {ys : List Value} (h : BunsAre B bs ys) {i : Nat} {y : Value} (e : ys[i]? = some y) : ∃ b ∈ bs, BunIs B b y := by
  obtain ⟨hi, rfl⟩ := List.getElem?_eq_some_iff.mp e
  have hi' : i < bs.length := by rw [pairedLen h]; exact hi
  have : ∀ {l₁ : List (List Nat)} {l₂ : List Value}, Paired (BunIs B) l₁ l₂ → ∀ (j : Nat) (h : j < l₁.length) (h' : j < l₂.length), BunIs B l₁[j] l₂[j] := fun q j a b => pairedAt q j a b
  exact ⟨bs[i], List.getElem_mem hi', this h i hi' hi⟩
end

section
variable {w : World} {mean : ExcName → Option Value} {mg mb : Str → Option Value} {b g : Heap} {A : Around} {s : Shared} {L : Addr} {m : Str → Option Value} {rest : List (Addr × Obj)} {prog : Program} {env : Env} {news : List (Addr × Obj)}
theorem allLt_mem {d : Addr} {l : List (Addr × Obj)} (h : AllLt d l) : ∀ p ∈ l, p.1 < d := by
  induction l with
  | nil => intro p hp; cases hp
  | cons q r ih =>
    intro p hp
    rcases List.mem_cons.mp hp with rfl | hp
    · exact h.1
    · exact ih h.2 p hp
theorem fresh_all {g h h' : Heap} {C l' : Addr} {o : Obj} {news : List (Addr × Obj)} (ha : AllLt l' (allOf g C h)) (N : News g C h' ((l', o) :: news)) : h.get? l' = none := by
  cases e : h.get? l' with
  | none => rfl
  | some q => exact absurd (allLt_mem ha _ (mem_allOf.mpr ⟨e, (N _ (.head _)).2.1, (N _ (.head _)).2.2⟩)) (Nat.lt_irrefl _)
theorem paired_of {α β : Type} {F : α → β → Prop} : ∀ {l₁ : List α} {l₂ : List β}, l₁.length = l₂.length → (∀ j (h : j < l₁.length) (h' : j < l₂.length), F l₁[j] l₂[j]) → Paired F l₁ l₂
  | [], [], _, _ => .nil
  | _ :: _, _ :: _, hl, h => .cons (h 0 (Nat.zero_lt_succ _) (Nat.zero_lt_succ _)) (paired_of (by simpa using hl) fun j h1 h2 => h (j + 1) (by simpa using h1) (by simpa using h2))
theorem singles_are {n : Nat} {B : List (Addr × Obj)} {vv ys : List Value} (hn : vv.length = n) (hP : ∀ (j : Nat) v, vv[j]? = some v → ∃ t, v = .int (j : Int) t)
    (h : Paired (fun v y => ∃ (i : Nat) (t t' : Tok) (a : Addr) (k : Nat), v = .int i t ∧ y = .ref a ∧ (a, listOf #[.int i t'] k) ∈ B) vv ys) : BunsAre B ((List.range n).map fun k => [k]) ys := by
  refine paired_of (by rw [List.length_map, List.length_range, ← hn]; exact pairedLen h) fun j h1 h2 => ?_
  have hj : j < vv.length := by rw [pairedLen h]; exact h2
  obtain ⟨t, e⟩ := hP j _ (List.getElem?_eq_getElem hj)
  obtain ⟨i, t1, t2, a, k, e1, e2, hm⟩ := pairedAt h j hj h2
  rw [e] at e1
  have e3 : (j : Int) = (i : Int) := by cases e1; rfl
  have e4 : i = j := by (first | lia | omega)
  subst e4
  rw [e2]
  refine ⟨a, [.int i t2], k, rfl, hm, ?_⟩
  simp only [List.getElem_map, List.getElem_range]
  exact .cons _ _ .nil
theorem off_cons {q : Addr × Obj} {own : List (Addr × Obj)} {adr : List Addr} (h : ∀ b ∈ adr, b ≠ q.1) (ho : OwnOff own adr) : OwnOff (q :: own) adr := fun p hp b hb => by
  rcases List.mem_cons.mp hp with rfl | hp
  · exact (h b hb).symm
  · exact ho p hp b hb
noncomputable def pairsT (sf : Row → Str) (rows : List Row) (j : Nat) : List K4 := (List.range j).flatMap fun j => (List.range j).map fun i => entry4 sf rows i j
theorem pairsT_succ (sf : Row → Str) (rows : List Row) (j : Nat) : pairsT sf rows (j + 1) = pairsT sf rows j ++ (List.range j).map fun i => entry4 sf rows i j := by
  unfold pairsT
  rw [List.range_succ, List.flatMap_append, List.flatMap_singleton]
theorem pairsT_len (sf : Row → Str) (rows : List Row) : ∀ j, (pairsT sf rows j).length ≤ j * j
  | 0 => Nat.le_refl _
  | j + 1 => by
    have := pairsT_len sf rows j
    rw [pairsT_succ, List.length_append, List.length_map, List.length_range, Nat.add_mul, Nat.mul_add]
    (first | lia | omega)
theorem pairedSnoc {α β : Type} {F : α → β → Prop} {l₁ : List α} {l₂ : List β} {a : α} {b : β} (h : Paired F l₁ l₂) (hab : F a b) : Paired F (l₁ ++ [a]) (l₂ ++ [b]) := Paired.snoc h hab
/-- what stands while the pairs are laid -/
inductive PairJ (l D Hp No P1 P2 P3 P4 : Addr) (fix k0 : List (Addr × Obj)) (xj : Option Value) (its : List K4) (m' : Str → Option Value) (led : List (Addr × Obj)) : Prop
  | mk (hv : List Value) (kh : Nat) (op oi oj oc : Obj) (own : List (Addr × Obj)) (xp xi : Option Value)
    (hm : Has m' [("bundles", .ref D), ("heap", .ref Hp), ("noted", .ref No)])
    (hled : led = (Hp, listOf hv.toArray kh) :: (No, listOf #[] 0) :: (P4, op) :: (P3, oi) :: (P2, oj) :: (P1, oc) :: own)
    (dp : op.data = .cell xp) (di : oi.data = .cell xi) (dj : oj.data = .cell xj) (dc : oc.data = .cell (some (.ref l)))
    (hits : Paired (fun v t => TupIn own v (at4 t)) hv its) (hoff : OwnOff own [Hp, No, P4, P3, P2, P1]) (hno : NoIt k0 own) (hfix : ∀ p ∈ fix, p ∈ own)
theorem PairJ.noIt {l D Hp No P1 P2 P3 P4 : Addr} {fix k0 : List (Addr × Obj)} {xj : Option Value} {its : List K4} {m' : Str → Option Value} {led : List (Addr × Obj)} : PairJ l D Hp No P1 P2 P3 P4 fix k0 xj its m' led → NoIt k0 led := by
  rintro ⟨hv, kh, op, oi, oj, oc, own, xp, xi, hm, rfl, dp, di, dj, dc, hits, hoff, hno, hfix⟩ p hp
  simp only [List.mem_cons] at hp
  rcases hp with rfl | rfl | rfl | rfl | rfl | rfl | hp
  · exact .inl fun ⟨_, e⟩ => (nomatch e)
  · exact .inl fun ⟨_, e⟩ => (nomatch e)
  · exact .inl fun ⟨_, e⟩ => by rw [dp] at e; cases e
  · exact .inl fun ⟨_, e⟩ => by rw [di] at e; cases e
  · exact .inl fun ⟨_, e⟩ => by rw [dj] at e; cases e
  · exact .inl fun ⟨_, e⟩ => by rw [dc] at e; cases e
  · exact hno p hp
theorem PairJ.turn {h : Heap} {l Dd Hp No P1 P2 P3 P4 D l' I2 : Addr} {ol oI2 op oi oj oc : Obj} {own fix k0 : List (Addr × Obj)} {hv : List Value} {kh n0 : Nat} {xp xi xj : Option Value} {its : List K4} {sf : Row → Str} {rows : List Row} {i j : Nat} {t1 t2 t3 t4 : Tok}
    (N : News g L h ((D, tupOf [.int (-((Lc rows i j).length : Int)) t1, .str (sf (Lc rows i j)) t2, .int (i : Nat) t3, .int (j : Nat) t4] n0) :: (l', ol) :: (Hp, listOf (hv ++ [Value.ref D]).toArray (kh + 1)) :: (No, listOf #[] 0) :: (P4, op) :: (P3, oi) :: (P2, oj) :: (P1, oc) :: (I2, oI2) :: own))
    (lD : l' < D ∧ Hp < D ∧ No < D ∧ P4 < D ∧ P3 < D ∧ P2 < D ∧ P1 < D ∧ AllLt D ((I2, oI2) :: own))
    (dp : op.data = .cell xp) (di : oi.data = .cell xi) (dj : oj.data = .cell xj) (dc : oc.data = .cell (some (.ref l)))
    (hits : Paired (fun v t => TupIn own v (at4 t)) hv its) (hoff : OwnOff own [Hp, No, P4, P3, P2, P1]) (hno : NoIt k0 own) (hfix : ∀ p ∈ fix, p ∈ own) :
    ∃ nw, News g L h ((I2, oI2) :: nw) ∧ ∀ m', Has m' [("bundles", .ref Dd), ("heap", .ref Hp), ("noted", .ref No)] → PairJ l Dd Hp No P1 P2 P3 P4 fix k0 xj (its ++ [entry4 sf rows i j]) m' nw := by
  refine ⟨_, newsVia (l' := (I2, oI2) :: (Hp, listOf (hv ++ [Value.ref D]).toArray (kh + 1)) :: (No, listOf #[] 0) :: (P4, op) :: (P3, oi) :: (P2, oj) :: (P1, oc) :: (D, tupOf [.int (-((Lc rows i j).length : Int)) t1, .str (sf (Lc rows i j)) t2, .int (i : Nat) t3, .int (j : Nat) t4] n0) :: own) N (fun N => by walk_at "ro"),
    fun m' hm => ⟨_, _, op, oi, oj, oc, _, xp, xi, hm, rfl, dp, di, dj, dc, pairedSnoc (pairedMono (fun v t h => h.mono fun p hp => .tail _ hp) hits) ⟨D, n0, _, rfl, .head _, .cons (.int _ _) (.cons (.str _ _) (.cons (.int _ _) (.cons (.int _ _) .nil)))⟩, off_cons ?_ hoff, fun p hp => ?_, fun p hp => .tail _ (hfix p hp)⟩⟩
  · intro b hb
    obtain ⟨_, a1, a2, a3, a4, a5, a6, _⟩ := lD
    simp only [List.mem_cons, List.not_mem_nil, or_false] at hb
    rcases hb with rfl | rfl | rfl | rfl | rfl | rfl
    · exact Nat.ne_of_lt a1
    · exact Nat.ne_of_lt a2
    · exact Nat.ne_of_lt a3
    · exact Nat.ne_of_lt a4
    · exact Nat.ne_of_lt a5
    · exact Nat.ne_of_lt a6
  · rcases List.mem_cons.mp hp with rfl | hp
    · exact .inl fun ⟨_, e⟩ => (nomatch e)
    · exact hno p hp
theorem PairJ.drop {h : Heap} {l Dd Hp No P1 P2 P3 P4 I : Addr} {oI op oi oj oc : Obj} {own fix k0 : List (Addr × Obj)} {hv : List Value} {kh : Nat} {xp xi xj : Option Value} {its : List K4} {m' : Str → Option Value}
    (N : News g L h ((Hp, listOf hv.toArray kh) :: (No, listOf #[] 0) :: (P4, op) :: (P3, oi) :: (P2, oj) :: (P1, oc) :: own)) (hiI : isIt oI) (hfI : ∀ p ∈ fix, p.1 ≠ I)
    (hm : Has m' [("bundles", .ref Dd), ("heap", .ref Hp), ("noted", .ref No)]) (dp : op.data = .cell xp) (di : oi.data = .cell xi) (dj : oj.data = .cell xj) (dc : oc.data = .cell (some (.ref l)))
    (hits : Paired (fun v t => TupIn own v (at4 t)) hv its) (hoff : OwnOff own [Hp, No, P4, P3, P2, P1]) (hno : NoIt ((I, oI) :: k0) own) (hfix : ∀ p ∈ (I, oI) :: fix, p ∈ own) :
    ∃ nw, News g L h ((I, oI) :: nw) ∧ PairJ l Dd Hp No P1 P2 P3 P4 fix k0 xj its m' nw := by
  have hIo : (I, oI) ∈ own := hfix _ (.head _)
  have hsub : ∀ p ∈ own.filter (fun p => decide (p.1 ≠ I)), p ∈ own := fun p hp => (List.mem_filter.mp hp).1
  have hin : ∀ p ∈ own, p.1 ≠ I → p ∈ own.filter (fun p => decide (p.1 ≠ I)) := fun p hp hne => List.mem_filter.mpr ⟨hp, by simpa using hne⟩
  have No' : ∀ p ∈ own, News g L h own := fun _ _ q hq => N q (by simp [hq])
  refine ⟨_, (show News g L h ((I, oI) :: (Hp, listOf hv.toArray kh) :: (No, listOf #[] 0) :: (P4, op) :: (P3, oi) :: (P2, oj) :: (P1, oc) :: own.filter (fun p => decide (p.1 ≠ I))) from newsCons (N _ (.tail _ (.tail _ (.tail _ (.tail _ (.tail _ (.tail _ hIo))))))) (newsCons (N _ (by walk_at "mem")) (newsCons (N _ (by walk_at "mem")) (newsCons (N _ (by walk_at "mem")) (newsCons (N _ (by walk_at "mem")) (newsCons (N _ (by walk_at "mem")) (newsCons (N _ (by walk_at "mem")) fun p hp => N p (.tail _ (.tail _ (.tail _ (.tail _ (.tail _ (.tail _ (hsub p hp)))))))))))))),
    ⟨hv, kh, op, oi, oj, oc, _, xp, xi, hm, rfl, dp, di, dj, dc, pairedMono (fun v t h => ?_) hits, fun p hp => hoff p (hsub p hp), fun p hp => ?_, fun p hp => hin p (hfix p (.tail _ hp)) (hfI p hp)⟩⟩
  · obtain ⟨a, n, us, e, hma, q⟩ := h
    refine ⟨a, n, us, e, hin _ hma fun z => ?_, q⟩
    have h1 := (N (a, tupOf us n) (by simp [hma])).1
    have h2 := (N (I, oI) (by simp [hIo])).1
    have z' : a = I := z
    rw [z', h2] at h1
    obtain ⟨fs, hfs⟩ := hiI
    have e9 : oI = tupOf us n := Option.some.inj h1
    rw [e9] at hfs
    cases hfs
  · obtain ⟨hpo, hne⟩ := List.mem_filter.mp hp
    rcases hno p hpo with q | q
    · exact .inl q
    · rcases List.mem_cons.mp q with rfl | q
      · simp at hne
      · exact .inr q
end

section
variable {w : World} {A : Around} {s : Shared} {g : Heap} {L : Addr} {m : Str → Option Value} {prog : Program} {env : Env} {news : List (Addr × Obj)}
theorem dec_items {h : Heap} {own : List (Addr × Obj)} {hv : List Value} {its : List K4} (N : News g L h news) (hB : ∀ p ∈ own, p ∈ news) (hits : Paired (fun v t => TupIn own v (at4 t)) hv its) :
    (∀ v ∈ hv, TupIn own v (at4 (decH at4 h v))) ∧ hv.map (decH at4 h) = its := by
  induction hits with
  | nil => exact ⟨fun _ h => (nomatch h), rfl⟩
  | cons a r ih =>
    have e := decH_of at4_inj (a.at N hB)
    refine ⟨fun v hv => ?_, ?_⟩
    · rcases List.mem_cons.mp hv with rfl | hv
      · rw [e]; exact a
      · exact ih.1 v hv
    · rw [List.map_cons, e, ih.2]
theorem len_flat {α : Type} : ∀ {bs : List (List α)}, (∀ b ∈ bs, b ≠ []) → bs.length ≤ bs.flatten.length
  | [], _ => Nat.le_refl _
  | b :: bs, h => by
    have h1 := List.length_pos_iff.mpr (h b (.head _))
    have h2 := len_flat (bs := bs) fun c hc => h c (.tail _ hc)
    rw [List.flatten_cons, List.length_append, List.length_cons]; (first | lia | omega)
theorem len_part {α : Type} : ∀ {bs : List (List α)} {b : List α}, b ∈ bs → b.length ≤ bs.flatten.length
  | c :: bs, _, .head _ => by rw [List.flatten_cons, List.length_append]; (first | lia | omega)
  | c :: bs, b, .tail _ h => by
    have := len_part h
    rw [List.flatten_cons, List.length_append]; (first | lia | omega)
theorem Kru.size {U : List Str} {sf : Row → Str} {rows : List Row} {bs : List (List Nat)} {its : List K4} {noted : List Row} (K : Kru U sf rows bs its noted) : bs.length ≤ rows.length ∧ ∀ b ∈ bs, b.length ≤ rows.length := by
  have e := K.part.length_eq
  rw [List.length_range] at e
  exact ⟨e ▸ len_flat K.ne, fun b hb => e ▸ len_part hb⟩
theorem Kru.perm {U : List Str} {sf : Row → Str} {rows : List Row} {bs : List (List Nat)} {its its' : List K4} {noted : List Row} (K : Kru U sf rows bs its noted) (h : its.Perm its') : Kru U sf rows bs its' noted :=
  ⟨K.part, K.ne, fun t ht => K.ok t (h.mem_iff.mpr ht), fun i j a b => (K.all i j a b).imp h.mem_iff.mp id, fun b hb i hi j hj hne t ht => K.close b hb i hi j hj hne t (h.mem_iff.mpr ht), K.cnt, K.sorted, fun a ha t ht => K.below a ha t (h.mem_iff.mpr ht)⟩
theorem mem_pairsT {sf : Row → Str} {rows : List Row} {n : Nat} {t : K4} : t ∈ pairsT sf rows n ↔ ∃ i j, i < j ∧ j < n ∧ t = entry4 sf rows i j := by
  unfold pairsT
  simp only [List.mem_flatMap, List.mem_map, List.mem_range]
  exact ⟨fun ⟨j, hj, i, hi, e⟩ => ⟨i, j, hi, hj, e.symm⟩, fun ⟨i, j, hi, hj, e⟩ => ⟨j, hj, i, hi, e.symm⟩⟩
theorem Kru.laid (sf : Row → Str) (rows : List Row) : Kru (namesOf rows) sf rows ((List.range rows.length).map fun k => [k]) (pairsT sf rows rows.length) [] := by
  obtain ⟨h1, h2⟩ := names_spec rows
  exact Kru.start h1 h2 (fun t ht => mem_pairsT.mp ht) fun i j a b => mem_pairsT.mpr ⟨i, j, a, b, rfl⟩
/-- what stands while the pairs come out -/
inductive TieJ (sf : Row → Str) (rows : List Row) (l Ha No P1 P2 P3 P4 : Addr) (dec : Value → K4) (n : Nat) (m' : Str → Option Value) (led : List (Addr × Obj)) : Prop
  | mk (hv nv ys : List Value) (kh kn kD : Nat) (D : Addr) (bs : List (List Nat)) (noted : List Row) (op oi oj oc : Obj) (own : List (Addr × Obj)) (xp xi xj : Option Value)
    (hn : n = hv.length) (hm : Has m' [("bundles", .ref D), ("heap", .ref Ha), ("noted", .ref No)])
    (hled : led = (Ha, listOf hv.toArray kh) :: (No, listOf nv.toArray kn) :: (P4, op) :: (P3, oi) :: (P2, oj) :: (P1, oc) :: own)
    (dp : op.data = .cell xp) (di : oi.data = .cell xi) (dj : oj.data = .cell xj) (dc : oc.data = .cell (some (.ref l)))
    (hD : (D, listOf ys.toArray kD) ∈ own) (hbs : BunsAre own bs ys) (hnv : StrsAre nv (noted.map sf)) (hK : Kru (namesOf rows) sf rows bs (hv.map dec) noted) (hH : Hp (ordBy lt4 dec) .none 0 hv)
    (hT : ∀ v ∈ hv, TupIn own v (at4 (dec v))) (hoff : OwnOff own [Ha, No, P4, P3, P2, P1]) (hb : nv.length + hv.length ≤ 200)
theorem at4_inv {us : List Value} {t : K4} (h : Paired AtIs us (at4 t)) : ∃ t1 t2 t3 t4, us = [.int t.1 t1, .str t.2.1 t2, .int (t.2.2.1 : Nat) t3, .int (t.2.2.2 : Nat) t4] := by
  obtain ⟨a, r, rfl, ha, h⟩ := pairC h
  obtain ⟨b, r, rfl, hb, h⟩ := pairC h
  obtain ⟨c, r, rfl, hc, h⟩ := pairC h
  obtain ⟨d, r, rfl, hd, h⟩ := pairC h
  obtain rfl := pairN h
  obtain ⟨t1, rfl⟩ := atInt ha
  obtain ⟨t2, rfl⟩ := atStr hb
  obtain ⟨t3, rfl⟩ := atInt hc
  obtain ⟨t4, rfl⟩ := atInt hd
  exact ⟨t1, t2, t3, t4, rfl⟩
/-- the pair that comes out -/
theorem pop4 {sf : Row → Str} {rows : List Row} {bs : List (List Nat)} {noted : List Row} {dec : Value → K4} {hv : List Value} {own : List (Addr × Obj)} (h0 : 0 < hv.length) (hK : Kru (namesOf rows) sf rows bs (hv.map dec) noted) (hH : Hp (ordBy lt4 dec) .none 0 hv)
    (hT : ∀ v ∈ hv, TupIn own v (at4 (dec v))) : ∃ i j a n t1 t2 t3 t4, i < j ∧ j < rows.length ∧ hv.getD 0 .none = .ref a ∧ (a, tupOf [.int (-((Lc rows i j).length : Int)) t1, .str (sf (Lc rows i j)) t2, .int (i : Nat) t3, .int (j : Nat) t4] n) ∈ own ∧
      (hv.map dec).Perm (entry4 sf rows i j :: (popF (ordBy lt4 dec) hv).map dec) ∧ (∀ t ∈ (popF (ordBy lt4 dec) hv).map dec, lt4 t (entry4 sf rows i j) = false) ∧ Hp (ordBy lt4 dec) .none 0 (popF (ordBy lt4 dec) hv) ∧ (∀ v ∈ popF (ordBy lt4 dec) hv, v ∈ hv) ∧ (popF (ordBy lt4 dec) hv).length + 1 = hv.length := by
  obtain ⟨h1, h2⟩ := popF_heap (ord4 dec) h0 hH
  have hm : hv.getD 0 .none ∈ hv := h2.mem_iff.mpr (.head _)
  obtain ⟨a, n, us, e, hma, q⟩ := hT _ hm
  obtain ⟨i, j, hij, hj, et⟩ := hK.ok (dec (hv.getD 0 .none)) (List.mem_map_of_mem hm)
  rw [et] at q
  obtain ⟨t1, t2, t3, t4, rfl⟩ := at4_inv q
  have least := hH.least (ord4 dec) (fun v => sto4.irr _)
  refine ⟨i, j, a, n, t1, t2, t3, t4, hij, hj, e, hma, ?_, fun t ht => ?_, h1, fun v hv' => h2.mem_iff.mpr (.tail _ hv'), by rw [h2.length_eq]; simp⟩
  · rw [← et]; exact h2.map dec
  · obtain ⟨v, hv', rfl⟩ := List.mem_map.mp ht
    have hvm : v ∈ hv := h2.mem_iff.mpr (.tail _ hv')
    obtain ⟨k, hk, rfl⟩ := List.getElem_of_mem hvm
    have := least k hk
    rw [show hv.getD k Value.none = hv[k] from by rw [List.getD_eq_getElem?_getD, List.getElem?_eq_getElem hk]; rfl] at this
    rw [← et]; exact this
theorem two_of {α : Type} : ∀ {l : List α}, l.length = 2 → ∃ a b, l = [a, b]
  | [a, b], _ => ⟨a, b, rfl⟩
theorem buns_two {B : List (Addr × Obj)} {a b : List Nat} {ys : List Value} (h : BunsAre B [a, b] ys) : ∃ y z, ys = [y, z] ∧ BunIs B a y ∧ BunIs B b z := by
  cases h with
  | cons h1 r =>
    cases r with
    | cons h2 r => cases r; exact ⟨_, _, rfl, h1, h2⟩
theorem item_last {value slice : Expr} {a : Addr} {vs : List Value} {x : Value} {u : Tok} {E : Value → Shared → Prop} {Q : Value → Shared → Prop} (hl : s.heap.IsList a (vs ++ [x]).toArray) (h : Q x s)
    (hs : subscripted slice false (.ref a) (.int (-1) u) = operate [.ref a, .int (-1) u] (getItem (.ref a) (.int (-1) u))) (hg : ∀ r, letTemporaryGo value (.ref a) r = pure ()) :
    wpAny (model prog w) A (subscriptTail value slice (.ref a) (.int (-1) u)) Q E s := by
  refine subscriptTail_builtin hl.typeIs slot_list_getitem.lookup (wpAny_getItem_list_neg hl (by decide) (by simp; (first | lia | omega)) (by decide) ?_ h) hs hg
  have e : ((-1 : Int) + ((vs ++ [x]).toArray.size : Nat)).toNat = vs.length := by
    rw [List.size_toArray, List.length_append, List.length_singleton]; (first | lia | omega)
  rw [e]; simp
theorem nat_list {ns : List Int} {C : List Nat} (h : ns.Perm (C.map fun k : Nat => (k : Int))) : ∃ M : List Nat, ns = M.map (fun k : Nat => (k : Int)) ∧ M.Perm C := by
  refine ⟨ns.map Int.toNat, ?_, ?_⟩
  · rw [List.map_map]
    refine (List.map_id ns).symm.trans (List.map_congr_left fun x hx => ?_)
    obtain ⟨k, _, rfl⟩ := List.mem_map.mp (h.mem_iff.mp hx)
    rfl
  · have := h.map Int.toNat
    rw [List.map_map] at this
    have e : C.map (Int.toNat ∘ fun k : Nat => (k : Int)) = C := (List.map_congr_left fun _ _ => rfl).trans (List.map_id C)
    rw [e] at this; exact this
theorem Kru.inside {U : List Str} {sf : Row → Str} {rows : List Row} {bs : List (List Nat)} {its : List K4} {noted : List Row} (K : Kru U sf rows bs its noted) {b : List Nat} (hb : b ∈ bs) {k : Nat} (hk : k ∈ b) : k < rows.length :=
  List.mem_range.mp (K.part.mem_iff.mp (List.mem_flatten.mpr ⟨_, hb, hk⟩))
theorem ints_at : ∀ {us : List Value} {M : List Nat}, NatsAre us M → ∀ (i : Nat) v, us[i]? = some v → ∃ k t, v = .int (k : Nat) t ∧ M[i]? = some k
  | us, M, h, i, v, e => by
    unfold NatsAre at h
    generalize hn : (M.map fun k : Nat => (k : Int)) = ns at h
    induction h generalizing M i with
    | nil => simp at e
    | cons n t _ ih =>
      cases M with
      | nil => cases hn
      | cons k M =>
        simp only [List.map_cons, List.cons.injEq] at hn
        cases i with
        | zero =>
          simp at e
          exact ⟨k, t, by rw [← e, hn.1], rfl⟩
        | succ i => exact ih M i (by simpa using e) hn.2
theorem picked_strs {vv ys : List Value} {M : List Nat} {ts : List Str} (hM : NatsAre vv M) (h : Paired (fun v y => ∃ (k : Nat) (t t' : Tok), v = .int (k : Nat) t ∧ y = .str (ts.getD k "") t') vv ys) : StrsAre ys (M.map fun k => ts.getD k "") := by
  have hl : vv.length = M.length := by
    have := IntsAre.length hM
    rw [List.length_map] at this; exact this
  refine strs_of (by rw [List.length_map, ← hl]; exact (pairedLen h).symm) fun j hj => ?_
  have hj' : j < vv.length := by rw [pairedLen h]; exact hj
  obtain ⟨k, t, t', e1, e2⟩ := pairedAt h j hj' hj
  obtain ⟨k', t2, e3, e4⟩ := ints_at hM j _ (List.getElem?_eq_getElem hj')
  rw [e1] at e3
  have e5 : (k : Int) = (k' : Int) := by cases e3; rfl
  have e6 : k = k' := by (first | lia | omega)
  subst e6
  refine ⟨t', ?_⟩
  rw [e2]
  simp [List.getD, e4]
end

/-! what the library's sort (kas_sort) does under a pure order -/
section
variable {f : Nat → Nat → Bool} {n : Nat}
noncomputable def okT (f : Nat → Nat → Bool) (n : Nat) {α : Type} (P : α → Prop) : KasT α → Prop
  | .ret a => P a
  | .ask i j k => i < n ∧ j < n ∧ okT f n P (k (f i j))
theorem okT_mono {α : Type} {P P' : α → Prop} (hp : ∀ a, P a → P' a) : ∀ (t : KasT α), okT f n P t → okT f n P' t
  | .ret a, h => hp a h
  | .ask _ _ k, ⟨h1, h2, h⟩ => ⟨h1, h2, okT_mono hp (k _) h⟩
theorem okT_bind {α β : Type} {P : β → Prop} {g : α → KasT β} : ∀ (t : KasT α), okT f n (fun a => okT f n P (g a)) t → okT f n P (t.bind g)
  | .ret _, h => h
  | .ask _ _ k, ⟨h1, h2, h⟩ => ⟨h1, h2, okT_bind (k _) h⟩
theorem okT_wp {α : Type} {P : α → Prop} {cmp : Nat → Nat → (Bool → Shared → Prop) → Shared → Prop} {Q : α → Shared → Prop} {s : Shared} (hc : ∀ i j, i < n → j < n → ∀ C : Bool → Shared → Prop, C (f i j) s → cmp i j C s) (hq : ∀ a, P a → Q a s) :
    ∀ (t : KasT α), okT f n P t → t.kasWp cmp Q s
  | .ret a, h => hq a h
  | .ask i j k, ⟨h1, h2, h⟩ => hc i j h1 h2 _ (okT_wp hc hq (k _) h)
noncomputable def atP (p : Array Nat) (i : Nat) : Nat := p.getD i 0
theorem atP_get (p : Array Nat) (i : Nat) : atP p i = p[i]?.getD 0 := Array.getD_eq_getD_getElem?
theorem rev_at {p : Array Nat} {i j : Nat} (hj : j ≤ p.size) (k : Nat) : atP (kas_rev p i j) k = if i ≤ k ∧ k < j then atP p (i + j - 1 - k) else atP p k := by
  rw [atP_get, kas_rev, getElem?_mirror_all hj]
  split <;> rw [atP_get]
theorem bub_at {p : Array Nat} {src d : Nat} (hs : src < p.size) (hd : d ≤ src) (k : Nat) : atP (bubble p src d) k = if k = src - d then atP p src else if src - d < k ∧ k ≤ src then atP p (k - 1) else atP p k := by
  rw [atP_get, getElem?_bubble hs d hd]
  split
  · exact (atP_get p src).symm
  · split
    · exact (atP_get p (k - 1)).symm
    · exact (atP_get p k).symm
noncomputable def Rng (n : Nat) (p : Array Nat) : Prop := p.Perm (List.toArray (List.range n))
theorem Rng.size {p : Array Nat} (h : Rng n p) : p.size = n := by
  have := Array.Perm.size_eq h
  simpa using this
theorem Rng.lt {p : Array Nat} (h : Rng n p) (h0 : 0 < n) (i : Nat) : atP p i < n := by
  rw [atP_get]
  by_cases q : i < p.size
  · rw [Array.getElem?_eq_getElem q]
    have hm : p[i] ∈ p := Array.getElem_mem q
    have := (Array.Perm.mem_iff h).mp hm
    simpa using this
  · rw [Array.getElem?_eq_none (Nat.le_of_not_lt q)]; exact h0
theorem Rng.rev {p : Array Nat} (h : Rng n p) (i j : Nat) : Rng n (kas_rev p i j) := (mirror_perm _ _ _ _).trans h
theorem Rng.bub {p : Array Nat} (h : Rng n p) (i j : Nat) : Rng n (bubble p i j) := (bubble_perm _ _ _).trans h
/-- upwards, downwards (not smaller), alike -/
noncomputable def Up (f : Nat → Nat → Bool) (p : Array Nat) (b : Nat) : Prop := ∀ i j, i < j → j < b → f (atP p j) (atP p i) = false
noncomputable def Dn (f : Nat → Nat → Bool) (p : Array Nat) (b : Nat) : Prop := ∀ i j, i < j → j < b → f (atP p i) (atP p j) = false
noncomputable def Al (f : Nat → Nat → Bool) (p : Array Nat) (a b : Nat) : Prop := ∀ i j, a ≤ i → i < b → a ≤ j → j < b → f (atP p i) (atP p j) = false
variable (O : Ord f)
include O in
theorem irr_ (i : Nat) : f i i = false := by
  cases q : f i i with
  | false => rfl
  | true => rw [O.asym _ _ q] at q; exact q.symm
include O in
theorem up_ext {p : Array Nat} {m : Nat} (h : Up f p m) (hm : 1 ≤ m) (e : f (atP p m) (atP p (m - 1)) = false) : Up f p (m + 1) := fun i j hij hj => by
  by_cases q : j = m
  · subst q
    by_cases q2 : i = j - 1
    · rw [q2]; exact e
    · exact O.ntr _ _ _ (h i (j - 1) (Nat.lt_of_le_of_ne (Nat.le_sub_one_of_lt hij) q2) (Nat.sub_one_lt_of_lt hij)) e
  · exact h i j hij (Nat.lt_of_le_of_ne (Nat.le_of_lt_succ hj) q)
include O in
theorem dn_ext {p : Array Nat} {m : Nat} (h : Dn f p m) (hm : 1 ≤ m) (e : f (atP p (m - 1)) (atP p m) = false) : Dn f p (m + 1) := fun i j hij hj => by
  by_cases q : j = m
  · subst q
    by_cases q2 : i = j - 1
    · rw [q2]; exact e
    · exact O.ntr _ _ _ e (h i (j - 1) (Nat.lt_of_le_of_ne (Nat.le_sub_one_of_lt hij) q2) (Nat.sub_one_lt_of_lt hij))
  · exact h i j hij (Nat.lt_of_le_of_ne (Nat.le_of_lt_succ hj) q)
include O in
theorem up_al {p : Array Nat} {m : Nat} (h : Up f p m) (e : f (atP p 0) (atP p (m - 1)) = false) : Al f p 0 m := by
  have h1 : ∀ i, i < m → f (atP p 0) (atP p i) = false := fun i hi => by
    by_cases q : i = m - 1
    · rw [q]; exact e
    · exact O.ntr _ _ _ (h i (m - 1) (Nat.lt_of_le_of_ne (Nat.le_sub_one_of_lt hi) q) (Nat.sub_one_lt_of_lt hi)) e
  have h2 : ∀ i, i < m → f (atP p i) (atP p 0) = false := fun i hi => by
    by_cases q : i = 0
    · rw [q]; exact irr_ O _
    · exact h 0 i (Nat.pos_of_ne_zero q) hi
  exact fun i j _ hi _ hj => O.ntr _ _ _ (h1 j hj) (h2 i hi)
theorem revIn {a b k : Nat} (h1 : a ≤ k) (h2 : k < b) : a ≤ a + b - 1 - k ∧ a + b - 1 - k < b := by omega
theorem revLt {m i j : Nat} (hij : i < j) (hj : j < m) : 0 + m - 1 - j < 0 + m - 1 - i := by omega
theorem oneIdx {m i j : Nat} (h1 : m ≤ i) (h2 : i < m + 1) (h3 : m ≤ j) (h4 : j < m + 1) : i = j := Nat.le_antisymm (Nat.le_trans (Nat.le_of_lt_succ h2) h3) (Nat.le_trans (Nat.le_of_lt_succ h4) h1)
theorem dn_rev {p : Array Nat} {m a b : Nat} (h : Dn f p m) (hb : b ≤ m) (hm : m ≤ p.size) (e : Al f p a b) : Dn f (kas_rev p a b) m := fun i j hij hj => by
  rw [rev_at (Nat.le_trans hb hm), rev_at (Nat.le_trans hb hm)]
  by_cases c1 : a ≤ i ∧ i < b
  · rw [if_pos c1]
    by_cases c2 : a ≤ j ∧ j < b
    · rw [if_pos c2]
      exact e _ _ (revIn c1.1 c1.2).1 (revIn c1.1 c1.2).2 (revIn c2.1 c2.2).1 (revIn c2.1 c2.2).2
    · rw [if_neg c2]
      exact h _ _ (Nat.lt_of_lt_of_le (revIn c1.1 c1.2).2 (Nat.le_of_not_lt fun q => c2 ⟨Nat.le_trans c1.1 (Nat.le_of_lt hij), q⟩)) hj
  · rw [if_neg c1]
    by_cases c2 : a ≤ j ∧ j < b
    · rw [if_pos c2]
      exact h _ _ (Nat.lt_of_lt_of_le (Nat.lt_of_not_le fun q => c1 ⟨q, Nat.lt_trans hij c2.2⟩) (revIn c2.1 c2.2).1) (Nat.lt_of_lt_of_le (revIn c2.1 c2.2).2 hb)
    · rw [if_neg c2]; exact h _ _ hij hj
theorem al_rev {p : Array Nat} {a b : Nat} (hb : b ≤ p.size) (e : Al f p a b) : Al f (kas_rev p a b) a b := fun i j h1 h2 h3 h4 => by
  rw [rev_at hb, rev_at hb, if_pos ⟨h1, h2⟩, if_pos ⟨h3, h4⟩]
  exact e _ _ (revIn h1 h2).1 (revIn h1 h2).2 (revIn h3 h4).1 (revIn h3 h4).2
theorem dn_up {p : Array Nat} {m : Nat} (h : Dn f p m) (hm : m ≤ p.size) : Up f (kas_rev p 0 m) m := fun i j hij hj => by
  rw [rev_at hm, rev_at hm, if_pos ⟨Nat.zero_le _, hj⟩, if_pos ⟨Nat.zero_le _, Nat.lt_trans hij hj⟩]
  exact h _ _ (revLt hij hj) (revIn (Nat.zero_le _) (Nat.lt_trans hij hj)).2
include O in
theorem asc_ok {p : Array Nat} (R : Rng n p) (h0 : 0 < n) : ∀ (k m : Nat), 1 ≤ m → Up f p m → okT f n (fun m' => m ≤ m' ∧ m' ≤ m + k ∧ Up f p m' ∧ (m' < m + k → f (atP p m') (atP p (m' - 1)) = true)) (kas_asc p k m)
  | 0, m, _, h => ⟨Nat.le_refl _, Nat.le_refl _, h, fun q => absurd q (Nat.lt_irrefl _)⟩
  | k + 1, m, hm, h => by
    refine ⟨R.lt h0 _, R.lt h0 _, ?_⟩
    cases q : f (p.getD m 0) (p.getD (m - 1) 0) with
    | true =>
      (try simp only [if_true])
      exact ⟨Nat.le_refl _, Nat.le_add_right _ _, h, fun _ => q⟩
    | false =>
      (try simp only [Bool.false_eq_true, if_false])
      exact okT_mono (fun m' ⟨a, b, c, d⟩ => ⟨Nat.le_of_succ_le a, Nat.succ_add_eq_add_succ m k ▸ b, c, fun z => d ((Nat.succ_add_eq_add_succ m k).symm ▸ z)⟩) _ (asc_ok R h0 k (m + 1) (Nat.le_add_left 1 m) (up_ext O h hm q))
include O in
theorem desc_ok (h0 : 0 < n) : ∀ (k : Nat) (p : Array Nat) (m q : Nat), Rng n p → q < m → m + k ≤ n → Dn f p m → Al f p (m - (q + 1)) m →
    okT f n (fun r => Rng n r.1 ∧ r.2.2 < r.2.1 ∧ m ≤ r.2.1 ∧ r.2.1 ≤ m + k ∧ Dn f r.1 r.2.1 ∧ Al f r.1 (r.2.1 - (r.2.2 + 1)) r.2.1) (kas_desc k p m q)
  | 0, p, m, q, R, hq, hn, hd, ha => ⟨R, hq, Nat.le_refl _, Nat.le_refl _, hd, ha⟩
  | k + 1, p, m, q, R, hq, hn, hd, ha => by
    refine ⟨R.lt h0 _, R.lt h0 _, ?_⟩
    have hsz := R.size
    have E := Nat.succ_add_eq_add_succ m k
    have hm1 : m + 1 ≤ n := Nat.le_trans (Nat.add_le_add_left (Nat.succ_pos k) m) hn
    have h1m : 1 ≤ m := Nat.lt_of_le_of_lt (Nat.zero_le _) hq
    have one : ∀ p, Al f p (m + 1 - (0 + 1)) (m + 1) := fun p i j h1 h2 h3 h4 => oneIdx (i := i) (j := j) h1 h2 h3 h4 ▸ irr_ O _
    rw [← E] at hn
    cases c : f (p.getD m 0) (p.getD (m - 1) 0) with
    | true =>
      (try simp only [if_true])
      have e := dn_ext O hd h1m (O.asym _ _ c)
      split
      · exact okT_mono (fun r ⟨a, b, c1, c2, d, e⟩ => ⟨a, b, Nat.le_of_succ_le c1, E ▸ c2, d, e⟩) _ (desc_ok h0 k _ (m + 1) 0 (R.rev _ _) (Nat.succ_pos _) hn (dn_rev e (Nat.le_succ _) (hsz ▸ hm1) ha) (one _))
      · exact okT_mono (fun r ⟨a, b, c1, c2, d, e⟩ => ⟨a, b, Nat.le_of_succ_le c1, E ▸ c2, d, e⟩) _ (desc_ok h0 k _ (m + 1) 0 R (Nat.succ_pos _) hn e (one _))
    | false =>
      (try simp only [Bool.false_eq_true, if_false])
      refine ⟨R.lt h0 _, R.lt h0 _, ?_⟩
      cases d : f (p.getD (m - 1) 0) (p.getD m 0) with
      | true =>
        (try simp only [if_true])
        exact ⟨R, hq, Nat.le_refl _, Nat.le_add_right _ _, hd, ha⟩
      | false =>
        (try simp only [Bool.false_eq_true, if_false])
        refine okT_mono (fun r ⟨a, b, c1, c2, d, e⟩ => ⟨a, b, Nat.le_of_succ_le c1, E ▸ c2, d, e⟩) _ (desc_ok h0 k p (m + 1) (q + 1) R (Nat.succ_lt_succ hq) hn (dn_ext O hd h1m d) ?_)
        rw [Nat.succ_sub_succ]
        intro i j h1 h2 h3 h4
        have mm : m - (q + 1) ≤ m - 1 := Nat.sub_le_sub_left (Nat.succ_pos q) m
        have ml : m - 1 < m := Nat.sub_one_lt_of_lt hq
        by_cases q1 : i = m
        · by_cases q2 : j = m
          · rw [q1, q2]; exact irr_ O _
          · rw [q1]; exact O.ntr _ _ _ (ha _ _ mm ml h3 (Nat.lt_of_le_of_ne (Nat.le_of_lt_succ h4) q2)) c
        · have hi := Nat.lt_of_le_of_ne (Nat.le_of_lt_succ h2) q1
          by_cases q2 : j = m
          · rw [q2]; exact O.ntr _ _ _ d (ha _ _ h1 hi mm ml)
          · exact ha _ _ h1 hi h3 (Nat.lt_of_le_of_ne (Nat.le_of_lt_succ h4) q2)
include O in
theorem tail3_ok {p : Array Nat} {m : Nat} (R : Rng n p) (h0 : 0 < n) (h1 : 1 ≤ m) (hm : m ≤ n) (hd : Dn f p m) : okT f n (fun r => Rng n r.2 ∧ Up f r.2 r.1 ∧ 1 ≤ r.1 ∧ r.1 ≤ n) (kas_tail3 m n p) := by
  refine okT_bind _ (okT_mono (fun m' ⟨a, b, c, _⟩ => ⟨R.rev _ _, c, Nat.le_trans h1 a, (Nat.add_sub_of_le hm ▸ b : m' ≤ n)⟩) _ (asc_ok O (R.rev 0 m) h0 (n - m) m h1 (dn_up hd (by rw [R.size]; exact hm))))
include O in
theorem descPart_ok {p : Array Nat} {m : Nat} (R : Rng n p) (h0 : 0 < n) (h1 : 1 ≤ m) (hm : m < n) (hd : Dn f p (m + 1)) : okT f n (fun r => Rng n r.2 ∧ Up f r.2 r.1 ∧ 1 ≤ r.1 ∧ r.1 ≤ n) (kas_descPart m n p) := by
  have hs : m + 1 + (n - (m + 1)) = n := Nat.add_sub_of_le hm
  refine okT_bind _ (okT_mono (fun r h => ?_) _ (desc_ok O h0 (n - (m + 1)) p (m + 1) 0 R (Nat.succ_pos _) (Nat.le_of_eq hs) hd fun i j a b c d => oneIdx (i := i) (j := j) a b c d ▸ irr_ O _))
  rw [hs] at h
  obtain ⟨a, b, c, d, e, g⟩ := h
  split
  · exact tail3_ok O (a.rev _ _) h0 (Nat.le_trans (Nat.le_add_left 1 m) c) d (dn_rev e (Nat.le_refl _) (a.size ▸ d) g)
  · exact tail3_ok O a h0 (Nat.le_trans (Nat.le_add_left 1 m) c) d e
include O in
theorem count_ok {p : Array Nat} (R : Rng n p) (h0 : 0 < n) : okT f n (fun r => Rng n r.2 ∧ Up f r.2 r.1 ∧ 1 ≤ r.1 ∧ r.1 ≤ n) (kas_count n p) := by
  have no1 : ∀ i j, i < j → j < 1 → f (atP p j) (atP p i) = false ∧ f (atP p i) (atP p j) = false := fun i j a b => (Nat.not_lt_zero i (Nat.lt_of_lt_of_le a (Nat.le_of_lt_succ b))).elim
  refine okT_bind _ (okT_mono (fun m h => ?_) _ (asc_ok O R h0 (n - 1) 1 (Nat.le_refl _) fun i j a b => (no1 i j a b).1))
  rw [show 1 + (n - 1) = n from Nat.add_sub_of_le h0] at h
  obtain ⟨a, b, c, d⟩ := h
  by_cases e : (m == n) = true
  · rw [if_pos e]
    exact ⟨R, c, a, b⟩
  · rw [if_neg e]
    have hlt : m < n := Nat.lt_of_le_of_ne b (fun q => e (q ▸ beq_self_eq_true _))
    have dl := d hlt
    split
    · refine ⟨R.lt h0 _, R.lt h0 _, ?_⟩
      cases q : f (p.getD 0 0) (p.getD (m - 1) 0) with
      | true =>
        (try simp only [if_true])
        exact ⟨R, c, a, b⟩
      | false =>
        (try simp only [Bool.false_eq_true, if_false])
        have hms : m ≤ p.size := R.size ▸ b
        have m1 : m - 1 < m := Nat.sub_lt a Nat.one_pos
        have al := up_al O c q
        have al2 := al_rev hms al
        refine descPart_ok O (R.rev _ _) h0 a hlt (dn_ext O (fun i j h1 h2 => al2 i j (Nat.zero_le _) (Nat.lt_trans h1 h2) (Nat.zero_le _) h2) a ?_)
        rw [rev_at hms, rev_at hms, if_pos ⟨Nat.zero_le _, m1⟩, if_neg (fun q => Nat.lt_irrefl _ q.2), Nat.zero_add, Nat.sub_self]
        exact O.ntr _ _ _ (O.asym _ _ dl) (al 0 (m - 1) (Nat.zero_le _) a (Nat.zero_le _) m1)
    · have hm1 : m = 1 := by (first | lia | omega)
      subst hm1
      exact descPart_ok O R h0 a hlt (dn_ext O (fun i j h1 h2 => (no1 i j h1 h2).2) a (O.asym _ _ dl))
include O in
theorem place_ok {p : Array Nat} (R : Rng n p) (h0 : 0 < n) {k : Nat} (hu : Up f p k) : ∀ (d l r : Nat), l ≤ r → r ≤ k → r - l ≤ d → (∀ i, i < l → f (atP p k) (atP p i) = false) → (∀ i, r ≤ i → i < k → f (atP p k) (atP p i) = true) →
    okT f n (fun l => l ≤ k ∧ (∀ i, i < l → f (atP p k) (atP p i) = false) ∧ (∀ i, l ≤ i → i < k → f (atP p k) (atP p i) = true)) (kas_place p k d l r)
  | 0, l, r, hlr, hr, hd, h1, h2 => ⟨Nat.le_trans hlr hr, h1, fun i a b => h2 i (Nat.le_trans (Nat.le_of_sub_eq_zero (Nat.le_zero.mp hd)) a) b⟩
  | d + 1, l, r, hlr, hr, hd, h1, h2 => by
    unfold kas_place
    split
    · rename_i hge
      exact ⟨Nat.le_trans hlr hr, h1, fun i a b => h2 i (by (clear hd h1 h2 hu R hr hlr b; first | lia | omega)) b⟩
    · refine ⟨R.lt h0 _, R.lt h0 _, ?_⟩
      have hlt : l < r := by (clear hd h1 h2 hu R hr; first | lia | omega)
      have m1 : (l + r) / 2 < r := (Nat.div_lt_iff_lt_mul Nat.two_pos).mpr (by rw [Nat.mul_two]; exact Nat.add_lt_add_right hlt r)
      have m2 : l ≤ (l + r) / 2 := (Nat.le_div_iff_mul_le Nat.two_pos).mpr (by rw [Nat.mul_two]; exact Nat.add_le_add_left hlr l)
      generalize (l + r) / 2 = mid at m1 m2 ⊢
      cases q : f (p.getD k 0) (p.getD mid 0) with
      | true =>
        (try simp only [if_true])
        refine place_ok R h0 hu d l _ m2 (Nat.le_trans (Nat.le_of_lt m1) hr) (Nat.le_of_lt_succ (Nat.lt_of_lt_of_le (Nat.sub_lt_sub_right m2 m1) hd)) h1 fun i a b => ?_
        by_cases e : i = mid
        · rw [e]; exact q
        · have u := hu mid i (Nat.lt_of_le_of_ne a (Ne.symm e)) b
          cases z : f (atP p k) (atP p i) with
          | true => rfl
          | false => rw [show f (p.getD k 0) (p.getD mid 0) = false from O.ntr _ _ _ u z] at q; exact q
      | false =>
        (try simp only [Bool.false_eq_true, if_false])
        refine place_ok R h0 hu d _ r m1 hr (Nat.le_of_lt_succ (Nat.lt_of_lt_of_le (Nat.sub_lt_sub_left hlt (Nat.lt_succ_of_le m2)) hd)) (fun i a => ?_) h2
        by_cases e : i = mid
        · rw [e]; exact q
        · exact O.ntr _ _ _ (hu i mid (Nat.lt_of_le_of_ne (Nat.le_of_lt_succ a) e) (Nat.lt_of_lt_of_le m1 hr)) q
include O in
theorem bub_up {p : Array Nat} {k l : Nat} (hk : k < p.size) (hu : Up f p k) (hl : l ≤ k) (h1 : ∀ i, i < l → f (atP p k) (atP p i) = false) (h2 : ∀ i, l ≤ i → i < k → f (atP p k) (atP p i) = true) : Up f (bubble p k (k - l)) (k + 1) := fun i j hij hj => by
  rw [bub_at hk (Nat.sub_le _ _), bub_at hk (Nat.sub_le _ _), Nat.sub_sub_self hl]
  rcases Nat.lt_trichotomy j l with q | q | q
  · have q2 := Nat.lt_trans hij q
    rw [if_neg (Nat.ne_of_lt q), if_neg (fun z => Nat.lt_asymm q z.1), if_neg (Nat.ne_of_lt q2), if_neg (fun z => Nat.lt_asymm q2 z.1)]
    exact hu _ _ hij (Nat.lt_of_lt_of_le q hl)
  · rw [q] at hij
    rw [if_pos q, if_neg (Nat.ne_of_lt hij), if_neg (fun z => Nat.lt_asymm hij z.1)]
    exact h1 _ hij
  · rw [if_neg (Nat.ne_of_gt q), if_pos ⟨q, Nat.le_of_lt_succ hj⟩]
    have j1 : j - 1 < k := Nat.lt_of_lt_of_le (Nat.sub_one_lt_of_lt q) (Nat.le_of_lt_succ hj)
    rcases Nat.lt_trichotomy i l with r | r | r
    · rw [if_neg (Nat.ne_of_lt r), if_neg (fun z => Nat.lt_asymm r z.1)]
      exact hu _ _ (Nat.lt_of_lt_of_le r (Nat.le_sub_one_of_lt q)) j1
    · rw [if_pos r]
      exact O.asym _ _ (h2 _ (Nat.le_sub_one_of_lt q) j1)
    · rw [if_neg (Nat.ne_of_gt r), if_pos ⟨r, Nat.le_trans (Nat.le_of_lt hij) (Nat.le_of_lt_succ hj)⟩]
      exact hu _ _ (Nat.sub_lt_sub_right (Nat.lt_of_le_of_lt (Nat.zero_le _) r) hij) j1
include O in
theorem bin_ok (h0 : 0 < n) : ∀ (d : Nat) (p : Array Nat) (k : Nat), Rng n p → d + k = n → Up f p k → okT f n (fun p => Rng n p ∧ Up f p n) (kas_bin d p k)
  | 0, p, k, R, e, hu => ⟨R, (Nat.zero_add k).symm.trans e ▸ hu⟩
  | d + 1, p, k, R, e, hu => by
    refine okT_bind _ (okT_mono (fun l ⟨a, b, c⟩ => ?_) _ (place_ok O R h0 hu k 0 k (Nat.zero_le _) (Nat.le_refl _) (Nat.le_refl _) (fun i z => absurd z (Nat.not_lt_zero _)) (fun i a b => absurd b (Nat.not_lt.mpr a))))
    exact bin_ok h0 d _ (k + 1) (R.bub _ _) ((Nat.succ_add_eq_add_succ d k).symm.trans e) (bub_up O (by rw [R.size, ← e]; exact Nat.lt_add_of_pos_left (Nat.succ_pos d)) hu a b c)
include O in
theorem sort_ok (h0 : 0 < n) : okT f n (fun p => Rng n p ∧ Up f p n) (kas_sort n) := by
  refine okT_bind _ (okT_mono (fun r ⟨a, b, c, d⟩ => ?_) _ (count_ok O (Array.Perm.refl _) h0))
  have e : max r.1 1 = r.1 := Nat.max_eq_left c
  rw [e]
  split
  · exact bin_ok O h0 _ _ _ a (Nat.sub_add_cancel d) b
  · have : r.1 = n := by (first | lia | omega)
    rw [this] at b
    exact ⟨a, b⟩
end

/-! sorted(xs), xs a list of pairs (int, str) -/
section
variable {w : World} {g : Heap} {A : Around} {s : Shared} {L : Addr} {m : Str → Option Value} {news : List (Addr × Obj)} {prog : Program} {E : Value → Shared → Prop}
noncomputable def at2 (t : K2) : List At := [.int t.1, .str t.2]
theorem at2_inj (t u : K2) (h : at2 t = at2 u) : t = u := by
  obtain ⟨a, b⟩ := t
  obtain ⟨a', b'⟩ := u
  simp only [at2, List.cons.injEq, At.int.injEq, At.str.injEq, and_true] at h
  obtain ⟨rfl, rfl⟩ := h; rfl
theorem at2_inv {us : List Value} {t : K2} (h : Paired AtIs us (at2 t)) : ∃ t1 t2, us = [.int t.1 t1, .str t.2 t2] := by
  obtain ⟨a, r, rfl, ha, h⟩ := pairC h
  obtain ⟨b, r, rfl, hb, h⟩ := pairC h
  obtain rfl := pairN h
  obtain ⟨t1, rfl⟩ := atInt ha
  obtain ⟨t2, rfl⟩ := atStr hb
  exact ⟨t1, t2, rfl⟩
theorem tup2_lt {x y : Value} {t u : K2} {Q : Bool → Shared → Prop} (hx : TupAt s.heap x (at2 t)) (hy : TupAt s.heap y (at2 u)) (h : Q (lt2 t u) s) : wpAny (model prog w) A (keyLt' (tuples' true) x y) Q E s := by
  obtain ⟨a, n, us, rfl, ha, hus⟩ := hx
  obtain ⟨b, k, vs, rfl, hb, hvs⟩ := hy
  obtain ⟨t1, t2, rfl⟩ := at2_inv hus
  obtain ⟨u1, u2, rfl⟩ := at2_inv hvs
  obtain ⟨i, x⟩ := t
  obtain ⟨j, y⟩ := u
  refine kat_lt ha rfl hb rfl ?_
  show KatLex prog w A true _ Q [(.int i t1, .int j u1), (.str x t2, .str y u2)] 0 s
  refine kat_cons (wpAny_eqBool_int (kat_go (fun e => kat_yes (kat_cons (eqGives_str x y t2 u2 _ _ _ _ _ _ (kat_go (fun e2 => kat_yes (kat_nil ?_)) fun e2 => kat_no (kat_one _ _ ?_))))) fun e => kat_no (oneLt_int ?_)))
  · have e1 : i = j := beq_iff_eq.mp e
    have e3 : x = y := beq_iff_eq.mp e2
    subst e1 e3
    have : lt2 (i, x) (i, x) = false := sto2.irr _
    rw [this] at h
    exact h
  · have e1 : i = j := beq_iff_eq.mp e
    subst e1
    refine CmpGives.lt_str x y t2 u2 _ _ _ _ _ _ ?_
    have : lt2 (i, x) (i, y) = decide (x.cps.toList < y.cps.toList) := by
      unfold lt2 lexP; rw [if_pos rfl]
    rw [this] at h
    exact h
  · have e1 : i ≠ j := beq_eq_false_iff_ne.mp e
    have : lt2 (i, x) (j, y) = decide (i < j) := by
      unfold lt2 lexP; rw [if_neg e1]
    rw [this] at h
    exact h
theorem tups_of {h : Heap} {dec : Value → K2} : ∀ {vs : List Value}, (∀ v ∈ vs, TupAt h v (at2 (dec v))) → ∃ fs, KatTups h vs fs ∧ fs.length = vs.length ∧ ∀ v ∈ fs, ∃ i t, v = Value.int i t
  | [], _ => ⟨[], .nil, rfl, fun _ h => nomatch h⟩
  | v :: vs, hv => by
    obtain ⟨fs, h1, h2, h3⟩ := tups_of (vs := vs) fun x hx => hv x (.tail _ hx)
    obtain ⟨a, n, us, rfl, ha, p⟩ := hv v (.head _)
    obtain ⟨t1, t2, rfl⟩ := at2_inv p
    refine ⟨_ :: fs, .cons ha rfl rfl rfl h1, by simp [h2], fun x hx => ?_⟩
    rcases List.mem_cons.mp hx with rfl | hx
    · exact ⟨_, _, rfl⟩
    · exact h3 x hx
theorem range_all (vs : List Value) : ((List.range vs.length).map fun i => vs.getD i Value.none) = vs := by
  refine List.ext_getElem (by simp) fun i h1 h2 => ?_
  simp [List.getD, h2]
theorem sorted_tup2 {l : Addr} {vs : List Value} {dec : Value → K2} {Q : Value → Shared → Prop} (F : Fr g L s.heap m) (N : News g L s.heap news) (hl : s.heap.IsList l vs.toArray) (hS : ∀ v ∈ vs, TupIn news v (at2 (dec v))) (h2 : 2 ≤ vs.length) (h64 : vs.length < 64)
    (hQ : ∀ (D : Addr) (out : List Value) (c : Nat) (h' : Heap), Fr g L h' m → News g L h' ((D, listOf out.toArray c) :: news) → (∀ q ∈ news, q.1 < D) → out.Perm vs → out.Pairwise (fun a b => lt2 (dec b) (dec a) = false) → Q (.ref D) { s with heap := h' }) :
    wpAny (model prog w) A (call (.builtin "sorted") [.ref l]) Q E s := by
  refine kat_sorted F N hl h2 h64 fun D e1 h' F' N' hlt => ?_
  have hS' : ∀ v ∈ vs, TupAt h' v (at2 (dec v)) := fun v hv => (hS v hv).at N' fun p hp => .tail _ hp
  obtain ⟨fs, q1, q2, q3⟩ := tups_of hS'
  refine kat_kind (T := .type "int") q1 (by omega) (fun v hv => ?_) rfl ?_
  · obtain ⟨i, t, rfl⟩ := q3 v hv
    exact .now
  refine okT_wp (f := fun i j => lt2 (dec (vs.getD i .none)) (dec (vs.getD j .none))) (n := vs.length) (fun i j hi hj C hC => ?_) (fun p hp => ?_) _ (sort_ok (sto2.ord _) (by omega))
  · have at_ : ∀ i, i < vs.length → TupAt h' (vs.getD i .none) (at2 (dec (vs.getD i .none))) := fun i hi => hS' _ (by rw [show vs.getD i Value.none = vs[i] from by simp [List.getD, hi]]; exact List.getElem_mem hi)
    rw [kas_ask_eq]
    unfold kas_cmp
    rw [kas_item_eq, kas_item_eq]
    exact tup2_lt (at_ i hi) (at_ j hj) hC
  · obtain ⟨R, hu⟩ := hp
    have hsz := R.size
    have hR : p.toList.Perm (List.range vs.length) := by
      have := Array.perm_iff_toList_perm.mp R
      simpa using this
    refine KasFin.intro F' N' (.head fun q hq => Nat.ne_of_lt (hlt q hq)) fun h'' c F'' N'' => hQ D _ c h'' F'' N'' hlt ?_ ?_
    · have := hR.map fun i => vs.getD i Value.none
      rw [range_all] at this
      exact this
    · rw [List.pairwise_map, List.pairwise_iff_getElem]
      intro i j hi hj hij
      have := hu i j hij (by simpa [hsz] using hj)
      have e1 : atP p i = p.toList[i] := by rw [atP_get]; simp at hi; simp [hi]
      have e2 : atP p j = p.toList[j] := by rw [atP_get]; simp at hj; simp [hj]
      rw [e1, e2] at this
      exact this
end
/-! how many folders are due -/
theorem lcp_best (A : List Row) (r : Row) (h : A ≠ []) : ∃ F : Row, F <+: r ∧ ∀ P, (fr A P && fr [r] P) = P.isPrefixOf F := by
  induction A with
  | nil => exact absurd rfl h
  | cons a A ih =>
    obtain ⟨F1, q1⟩ : ∃ F1, F1 = lcp a r := ⟨_, rfl⟩
    have h1 := fun P => lcp_spec a r P
    rw [← q1] at h1
    have hF1 := (h1 F1).mp List.prefix_rfl
    by_cases e : A = []
    · subst e
      refine ⟨F1, hF1.2, fun P => ?_⟩
      rw [Bool.eq_iff_iff, Bool.and_eq_true, fr_iff, fr_iff, List.isPrefixOf_iff_prefix, h1]
      simp
    · obtain ⟨F2, h2, h3⟩ := ih e
      have h3' : ∀ P, (fr A P = true ∧ fr [r] P = true) ↔ P <+: F2 := fun P => by
        rw [← Bool.and_eq_true, h3, List.isPrefixOf_iff_prefix]
      have hf : ∀ P, fr [r] P = true ↔ P <+: r := fun P => by rw [fr_iff]; simp
      have hc : ∀ P, fr (a :: A) P = true ↔ P <+: a ∨ fr A P = true := fun P => by rw [fr_iff, fr_iff]; simp
      have split : ∀ P, (fr (a :: A) P && fr [r] P) = true ↔ P <+: F1 ∨ P <+: F2 := fun P => by
        rw [Bool.and_eq_true, hc, h1, ← h3', hf, or_and_right]
      rcases Nat.le_total F1.length F2.length with q | q
      · refine ⟨F2, h2, fun P => ?_⟩
        rw [Bool.eq_iff_iff, split, List.isPrefixOf_iff_prefix]
        exact ⟨fun z => z.elim (fun z => z.trans (prefix_both hF1.2 h2 q)) id, .inr⟩
      · refine ⟨F1, hF1.2, fun P => ?_⟩
        rw [Bool.eq_iff_iff, split, List.isPrefixOf_iff_prefix]
        exact ⟨fun z => z.elim id fun z => z.trans (prefix_both h2 hF1.2 q), .inl⟩
theorem mul_some {U : List Str} (hn : U.Nodup) : ∀ {rows : List Row}, (∀ r ∈ rows, ∀ x ∈ r, x ∈ U) → rows ≠ [] → ∃ Fs : List Row, Fs.length + 1 = rows.length ∧ ∀ P, Fs.count P = mul U rows P := by
  intro rows
  induction rows with
  | nil => intro _ h; exact absurd rfl h
  | cons r rows ih =>
    intro hU _
    by_cases e : rows = []
    · subst e
      refine ⟨[], rfl, fun P => ?_⟩
      rw [mul_one hn (hU r (.head _))]; rfl
    · obtain ⟨Fs, h1, h2⟩ := ih (fun r hr => hU r (.tail _ hr)) e
      obtain ⟨F, _, h3⟩ := lcp_best rows r e
      refine ⟨F :: Fs, by simp [h1], fun P => ?_⟩
      have e2 := mul_tie hn (A := rows) (B := [r]) (fun r hr => hU r (.tail _ hr)) (fun x hx => by simp only [List.mem_cons, List.not_mem_nil, or_false] at hx; rw [hx]; exact hU r (.head _)) h3 P
      rw [mul_perm U (show (r :: rows).Perm (rows ++ [r]) from (List.perm_append_singleton r rows).symm), e2, mul_one hn (hU r (.head _)), Nat.add_zero, List.count_cons, h2]
      congr 1
      by_cases q : P = F
      · rw [if_pos q, if_pos (by rw [q]; exact beq_self_eq_true _)]
      · rw [if_neg q, if_neg (by rw [beq_iff_eq]; exact fun z => q z.symm)]
theorem due_len {rows : List Row} (h : rows ≠ []) : (dueOf rows).length + 1 = rows.length := by
  obtain ⟨h1, h2⟩ := names_spec rows
  obtain ⟨Fs, e, hc⟩ := mul_some h1 h2 h
  rw [← (due_perm h1 h2 hc).length_eq]; exact e

section
variable {w : World} {A : Around} {s : Shared} {g : Heap} {L : Addr} {m : Str → Option Value} {news : List (Addr × Obj)}
theorem at3_inv {us : List Value} {t : K3} (h : Paired AtIs us (at3 t)) : ∃ t1 t2 t3, us = [.int t.1 t1, .int (t.2.1 : Nat) t2, .str t.2.2 t3] := by
  obtain ⟨a, r, rfl, ha, h⟩ := pairC h
  obtain ⟨b, r, rfl, hb, h⟩ := pairC h
  obtain ⟨c, r, rfl, hc, h⟩ := pairC h
  obtain rfl := pairN h
  obtain ⟨t1, rfl⟩ := atInt ha
  obtain ⟨t2, rfl⟩ := atInt hb
  obtain ⟨t3, rfl⟩ := atStr hc
  exact ⟨t1, t2, t3, rfl⟩
theorem pop3 {U : List Str} {sf : Row → Str} {rows : List Row} {ins : List Nat} {noted : List Str} {dec : Value → K3} {hv : List Value} {own : List (Addr × Obj)} (hr : 0 < rows.length) (h0 : 0 < hv.length) (hP : PriS U sf rows ins (hv.map dec) noted) (hH : Hp (ordBy lt3 dec) .none 0 hv)
    (hT : ∀ v ∈ hv, TupIn own v (at3 (dec v))) : ∃ (t : K3) (a : Addr) (n : Nat) (t1 t2 t3 : Tok), t.2.1 < rows.length ∧ hv.getD 0 .none = .ref a ∧ (a, tupOf [.int t.1 t1, .int (t.2.1 : Nat) t2, .str t.2.2 t3] n) ∈ own ∧
      (hv.map dec).Perm (t :: (popF (ordBy lt3 dec) hv).map dec) ∧ (∀ x ∈ (popF (ordBy lt3 dec) hv).map dec, lt3 x t = false) ∧ Hp (ordBy lt3 dec) .none 0 (popF (ordBy lt3 dec) hv) ∧ (∀ v ∈ popF (ordBy lt3 dec) hv, v ∈ hv) ∧ (popF (ordBy lt3 dec) hv).length + 1 = hv.length := by
  obtain ⟨h1, h2⟩ := popF_heap (ord3 dec) h0 hH
  have hm : hv.getD 0 .none ∈ hv := h2.mem_iff.mpr (.head _)
  obtain ⟨a, n, us, e, hma, q⟩ := hT _ hm
  obtain ⟨t1, t2, t3, rfl⟩ := at3_inv q
  have least := hH.least (ord3 dec) (fun v => sto3.irr _)
  refine ⟨_, a, n, t1, t2, t3, hP.pop_lt hr (List.mem_map_of_mem hm), e, hma, h2.map dec, fun t ht => ?_, h1, fun v hv' => h2.mem_iff.mpr (.tail _ hv'), by rw [h2.length_eq]; simp⟩
  obtain ⟨v, hv', rfl⟩ := List.mem_map.mp ht
  have hvm : v ∈ hv := h2.mem_iff.mpr (.tail _ hv')
  obtain ⟨k, hk, rfl⟩ := List.getElem_of_mem hvm
  have := least k hk
  rw [show hv.getD k Value.none = hv[k] from by rw [List.getD_eq_getElem?_getD, List.getElem?_eq_getElem hk]; rfl] at this
  exact this
theorem dec_grow {h : Heap} {own : List (Addr × Obj)} {hv : List Value} {dec : Value → K3} (N : News g L h news) (hB : ∀ p ∈ own, p ∈ news) (hT : ∀ v ∈ hv, TupIn own v (at3 (dec v))) : ∀ v ∈ hv, decH at3 h v = dec v :=
  fun v hv' => decH_of at3_inj ((hT v hv').at N hB)
theorem hp_congr {hv : List Value} {dec dec' : Value → K3} (e : ∀ v ∈ hv, dec' v = dec v) (h : Hp (ordBy lt3 dec) .none 0 hv) : Hp (ordBy lt3 dec') .none 0 hv := fun i h0 hi hj => by
  have hm : ∀ k, k < hv.length → hv.getD k .none ∈ hv := fun k hk => by
    rw [List.getD_eq_getElem?_getD, List.getElem?_eq_getElem hk]; exact List.getElem_mem hk
  have := h i h0 hi hj
  unfold ordBy at this ⊢
  rw [e _ (hm i hi), e _ (hm _ (Nat.lt_of_le_of_lt (halfLe i) hi))]; exact this
theorem map_congr' {hv : List Value} {dec dec' : Value → K3} (e : ∀ v ∈ hv, dec' v = dec v) : hv.map dec' = hv.map dec := List.map_congr_left e
/-- what stands while the paths come in -/
inductive GroJ (sf : Row → Str) (rows : List Row) (l Ha In No : Addr) (n : Nat) (m' : Str → Option Value) (led : List (Addr × Obj)) : Prop
  | mk (hv iv nv : List Value) (kh ki kn : Nat) (ins : List Nat) (noted : List Str) (dec : Value → K3) (own : List (Addr × Obj))
    (hn : n = (rows.length - ins.length) * (rows.length + 1) + hv.length)
    (hm : Has m' [("paths", .ref l), ("inside", .ref In), ("noted", .ref No), ("heap", .ref Ha)])
    (hled : led = (Ha, listOf hv.toArray kh) :: (In, listOf iv.toArray ki) :: (No, listOf nv.toArray kn) :: own)
    (hin : NatsAre iv ins) (hnv : StrsAre nv noted) (hl : noted.length = ins.length) (hP : PriS (namesOf rows) sf rows ins (hv.map dec) noted) (hH : Hp (ordBy lt3 dec) .none 0 hv)
    (hT : ∀ v ∈ hv, TupIn own v (at3 (dec v))) (hoff : OwnOff own [Ha, In, No]) (hno : NoIt [] own) (hb : hv.length ≤ 1 + rows.length * ins.length)
/-- and while one path's pairs go in -/
inductive GroI (sf : Row → Str) (rows : List Row) (l Ha In No : Addr) (iv nv : List Value) (ki kn : Nat) (ins : List Nat) (k : Nat) (tk : Tok) (base : List K3) (j : Nat) (m' : Str → Option Value) (led : List (Addr × Obj)) : Prop
  | mk (hv : List Value) (kh : Nat) (dec : Value → K3) (own : List (Addr × Obj))
    (hm : Has m' [("paths", .ref l), ("inside", .ref In), ("noted", .ref No), ("heap", .ref Ha), ("k", .int (k : Nat) tk)])
    (hled : led = (Ha, listOf hv.toArray kh) :: (In, listOf iv.toArray ki) :: (No, listOf nv.toArray kn) :: own)
    (hp : (hv.map dec).Perm (base ++ ((List.range j).filter (fun j => !decide (j ∈ ins))).map (entry3 sf rows k))) (hH : Hp (ordBy lt3 dec) .none 0 hv)
    (hT : ∀ v ∈ hv, TupIn own v (at3 (dec v))) (hoff : OwnOff own [Ha, In, No]) (hno : NoIt [] own)
theorem GroI.noIt {sf : Row → Str} {rows : List Row} {l Ha In No : Addr} {iv nv : List Value} {ki kn : Nat} {ins : List Nat} {k : Nat} {tk : Tok} {base : List K3} {j : Nat} {m' : Str → Option Value} {led : List (Addr × Obj)} :
    GroI sf rows l Ha In No iv nv ki kn ins k tk base j m' led → NoIt [] led := by
  rintro ⟨hv, kh, dec, own, hm, rfl, hp, hH, hT, hoff, hno⟩ p hp
  simp only [List.mem_cons] at hp
  rcases hp with rfl | rfl | rfl | hp
  · exact .inl fun ⟨_, e⟩ => (nomatch e)
  · exact .inl fun ⟨_, e⟩ => (nomatch e)
  · exact .inl fun ⟨_, e⟩ => (nomatch e)
  · exact hno p hp
/-- behind the while -/
inductive GroX (sf : Row → Str) (rows : List Row) (Ha In No : Addr) (m' : Str → Option Value) (led : List (Addr × Obj)) : Prop
  | mk (nv iv hv : List Value) (noted : List Str) (ins : List Nat) (kh ki kn : Nat) (own : List (Addr × Obj)) (hled : led = (Ha, listOf hv.toArray kh) :: (In, listOf iv.toArray ki) :: (No, listOf nv.toArray kn) :: own)
    (hm : Has m' [("inside", .ref In), ("noted", .ref No)]) (hnv : StrsAre nv noted) (hP : PriS (namesOf rows) sf rows ins [] noted) (hoff : OwnOff own [Ha, In, No]) (hl9 : noted.length ≤ 9)
theorem range_out {ins : List Nat} {j : Nat} (h : j ∉ ins) : (List.range (j + 1)).filter (fun j => !decide (j ∈ ins)) = (List.range j).filter (fun j => !decide (j ∈ ins)) ++ [j] := by
  rw [List.range_succ, List.filter_append]; simp [h]
theorem range_in {ins : List Nat} {j : Nat} (h : j ∈ ins) : (List.range (j + 1)).filter (fun j => !decide (j ∈ ins)) = (List.range j).filter (fun j => !decide (j ∈ ins)) := by
  rw [List.range_succ, List.filter_append]; simp [h]
theorem pick_from1 (us : List Value) : slicePick us.toArray (some 1) none none = (us.drop 1).toArray := by
  have e : sliceBounds (some 1) none none us.toArray.size = (((min 1 us.toArray.size : Nat) : Int), ((us.toArray.size : Nat) : Int), 1) := by
    simp only [sliceBounds, Option.getD_none, show (1 : Int) > 0 by decide, if_true, if_neg (show ¬ ((1 : Int) < 0) by decide)]
    congr 1
    omega
  rw [W.kmk_pick_nat _ e]
  show ((us.drop (min 1 us.toArray.size)).take (us.toArray.size - min 1 us.toArray.size)).toArray = _
  rw [List.size_toArray]
  congr 1
  rcases Nat.lt_or_ge 0 us.length with q | q
  · rw [Nat.min_eq_left q, List.take_of_length_le (by rw [List.length_drop]; exact Nat.le_refl _)]
  · have : us = [] := List.eq_nil_of_length_eq_zero (Nat.le_zero.mp q)
    subst this; rfl
theorem filt_len (p : Nat → Bool) (j : Nat) : ((List.range j).filter p).length ≤ j := by
  have := List.length_filter_le p (List.range j)
  simpa using this
end

section
local macro_rules | `(tactic| walk_at "subscriptTail Name Slice ref ref") => `(tactic| (k_dflt (refine slice_list (by assumption) (by assumption) (News.isList (by assumption) (by walk_at "mem")) (by first | exact .none | exact .int _ _) (by first | exact .none | exact .int _ _) ?_); intro _ _ _))
variable {w : World} {mean : ExcName → Option Value} {mg mb : Str → Option Value} {b g : Heap} {A : Around} {s : Shared} {L : Addr} {m : Str → Option Value} {rest : List (Addr × Obj)} {prog : Program} {env : Env} {news : List (Addr × Obj)}
theorem gr_bd {a b h h2 h3 f N t : Nat} (hm : b = a + N) (hb : h ≤ 1 + a) (e : h2 + 1 = h) (e3 : h3 = h2 + f) (hf : f ≤ t) (ht : N = t) : h3 ≤ 1 + b := by
  rw [hm, e3, ht, ← Nat.add_assoc]; exact Nat.add_le_add (Nat.le_trans (Nat.le_of_succ_le (Nat.le_of_eq e)) hb) hf
theorem gr_ms {x y h h2 h3 f N t : Nat} (hm : y = x + (N + 1)) (e : h2 + 1 = h) (e3 : h3 = h2 + f) (hf : f ≤ t) (ht : N = t) : x + h3 < y + h := by
  rw [hm, e3, ← e, ht, Nat.add_assoc]
  refine Nat.add_lt_add_left (Nat.lt_of_le_of_lt (Nat.add_le_add_left hf h2) ?_) x
  rw [Nat.add_comm h2]; exact Nat.add_lt_add (Nat.lt_succ_self t) (Nat.lt_succ_self h2)
theorem sub_step {N c : Nat} (h : c + 1 ≤ N) : N - c = N - (c + 1) + 1 := by
  rw [Nat.sub_add_eq, Nat.sub_add_cancel (Nat.sub_pos_of_lt h)]
theorem grown_call {R : Result → Shared → Prop} {l : Addr} {vs : List Value} {n : Nat} {ts : List Str} {bb : Bool} : (hd.heap_39 w.params).In b → (T : Top hd.view_39 (looseW hd.view_39 []) mean mg mb b) → (hb : ∀ x o, b.get? x = some o → s.heap.get? x = some o) →
  (hl : s.heap.get? l = some (listOf vs.toArray n)) → (hvs : StrsAre vs ts) → (hne : 0 < ts.length) → (hn : ts.length ≤ 9) → (hts : ∀ x ∈ ts, x.length ≤ 20) → (habs : ∀ x ∈ ts, Txt.startswith x "/" = bb) →
  (hh : A.handled = none) → (hroom : A.depth + 60 < recursionLimit) → (hu : A.units + 2000 < cLine) →
  (hR : ∀ h' tk a us k ins noted, (∀ x o, s.heap.get? x = some o → h'.get? x = some o) → s.heap.get? a = none → h'.get? a = some (listOf us.toArray k) → StrsAre us (noted.drop 1) → noted.length ≤ 9 →
    PriS (namesOf (ts.map rowOf)) (folderOf bb) (ts.map rowOf) ins [] noted → R (.ok (.ret (.ref a))) { s with heap := h', toks := tk }) →
  codeAny (model PySem.Challenge.rw_pd0047_01.row.prog w) A (.call (.ref 179) ⟨[.ref l], []⟩) R s := by
  k_fill
  w_top off
  intro X T hb hl hvs hne hn hts habs hh hroom hu hR
  have hlg : s.heap.IsList l vs.toArray := ⟨_, hl, rfl, n, rfl⟩
  have hlen : vs.length = ts.length := hvs.length
  have hnames := names_spec (ts.map rowOf)
  have hrl' : True → (ts.map rowOf).length = ts.length := fun _ => List.length_map _
  have hr9 : (ts.map rowOf).length ≤ 9 := by rw [List.length_map]; exact hn
  have hne' : True → 0 < (ts.map rowOf).length := fun _ => by rw [List.length_map]; exact hne
  have hlen' : True → vs.length = ts.length := fun _ => hlen
  clear hlen hne
  refine enter [] [("paths", .ref l)] X T hb (fun _ h => nomatch h) (by k_is) (by k_is) (Nat.lt_of_le_of_lt (Nat.le_add_right _ _) hroom) (BindsTo.of_eq rfl) (locs rfl) ?_ (by decide) rfl rfl rfl
  intro g L' h₁ hg X' T' F N
  clear X T hb
  walk_at "go"
  all_goals (try k_data)
  (rename Fr _ _ _ _ => F1)
  (rename News _ _ _ _ => N1)
  rename_i In _ _ No _ l2 Tu _ l3 Ha _ l4 Dx _ l5 _ _ _ _
  have hlG : g.IsList l vs.toArray := ⟨_, hg _ _ hl (fun h => nomatch h), rfl, n, rfl⟩
  have hrr : ∀ (oi on : Obj) (own : List (Addr × Obj)), OwnOff own [Ha, In, No] → ∀ p ∈ (In, oi) :: (No, on) :: own, p.1 ≠ Ha := by
    intro oi on own hoff p hp
    simp only [List.mem_cons] at hp
    rcases hp with rfl | rfl | hp
    · exact Nat.ne_of_lt l4.2.2
    · exact Nat.ne_of_lt l4.2.1
    · exact hoff p hp _ (.head _)
  · refine whileH (GroJ (folderOf bb) (ts.map rowOf) l Ha In No) (GroX (folderOf bb) (ts.map rowOf) Ha In No) (((ts.map rowOf).length - 0) * ((ts.map rowOf).length + 1) + 1) F1
      (newsVia (l' := (Ha, listOf [Value.ref Tu].toArray 0) :: (In, listOf [].toArray 0) :: (No, listOf [].toArray 0) :: [(Tu, _)]) N1 (fun N => by walk_at "ro"))
      ⟨[.ref Tu], [], [], 0, 0, 0, [], [], fun _ => (0, 0, ""), _, rfl, ⟨rfl, rfl, rfl, rfl, trivial⟩, rfl, .nil, .nil, rfl, .inl ⟨rfl, rfl, rfl⟩, fun i _ h _ => by simp at h; omega, fun v hv => ?i1, ?i2, ?i3, by simp⟩ ?turn ?after
    case i1 =>
      simp only [List.mem_cons, List.not_mem_nil, or_false] at hv
      rw [hv]
      exact ⟨_, _, _, rfl, .head _, .cons (.int _ _) (.cons (.int _ _) (.cons (.str _ _) .nil))⟩
    case i2 =>
      refine off_cons ?_ (fun p hp => nomatch hp)
      exact (allC (Nat.ne_of_gt l4.1) (allC (Nat.ne_of_lt l3.2) (allC (Nat.ne_of_lt l3.1) allN)))
    case i3 =>
      intro p hp
      simp only [List.mem_cons, List.not_mem_nil, or_false] at hp
      rw [hp]
      exact .inl fun ⟨_, e⟩ => (nomatch e)
    case turn =>
      clear F1 N1
      rintro n m₁ news₁ S T B F11 N11 ⟨hv, iv, nv, kh, ki, kn, ins, noted, dec, own, rfl, hm, rfl, hin, hnv, hlq, hP, hH, hT, hoff, hno, hb⟩ hT0 hB0
      replace F11 := hm.canon F11
      have hins : ins.length ≤ 9 := Nat.le_trans hP.short hr9
      have hhl : hv.length ≤ 82 := by
        exact Nat.le_trans hb (Nat.add_le_add_left (Nat.mul_le_mul hr9 hins) 1)
      walk_at "go"
      · (rename Fr _ _ _ _ => F12)
        (rename News _ _ _ _ => N12)
        have h0 : 0 < hv.length := by first | assumption | (rename decide _ = true => h; exact of_decide_eq_true h)
        obtain ⟨t, a, na, t1, t2, t3, hkl, e0, hma, hp0, hle, hH', hsub, hl2⟩ := pop3 (hne' trivial) h0 hP hH hT
        replace N12 := newsVia (l' := (Ha, listOf hv.toArray kh) :: (In, listOf iv.toArray ki) :: (No, listOf nv.toArray kn) :: own) N12 (fun N => by walk_at "ro")
        refine heappop_at (dec := dec) likes3 atLt3 F12 N12 (hrr _ _ _ hoff) X' T' (room1 hroom (by decide)) (unit1 hu (by decide)) h0 (Nat.le_trans hhl (by decide)) (fun v hv' => (hT v hv').at N12 fun p hp => by simp [hp]) fun h13 n13 tk13 F13 N13 => ?_
        rw [e0]
        generalize popF (ordBy lt3 dec) hv = hv2 at N13 hp0 hle hH' hsub hl2
        have hane := hoff _ hma
        obtain ⟨na1, hane⟩ := allS hane
        obtain ⟨na2, hane⟩ := allS hane
        obtain ⟨na3, hane⟩ := allS hane
        replace N13 := newsDup (List.mem_cons_of_mem _ (List.mem_cons_of_mem _ (List.mem_cons_of_mem _ hma))) N13
        clear F12 N12
        obtain ⟨tl, tkk, tf⟩ := t
        dsimp only at hkl N13
        have hkl' : tkk < ts.length := hrl' trivial ▸ hkl
        have hivl : iv.length ≤ 9 := by rw [IntsAre.length hin, List.length_map]; exact hins
        have hnvl : nv.length ≤ 9 := by rw [StrsAre.length hnv, hlq]; exact hins
        have hnvT : True → StrsAre nv noted := fun _ => hnv
        walk_at "go"
        · (rename Fr _ _ _ _ => F17)
          (rename News _ _ _ _ => N17)
          (rename List.any _ _ = true => q1)
          rw [any_nat] at q1
          refine hT0 _ _ _ _ (((ts.map rowOf).length - ins.length) * ((ts.map rowOf).length + 1) + hv2.length) F17 (newsVia (l' := (Ha, listOf hv2.toArray n13) :: (In, listOf iv.toArray ki) :: (No, listOf nv.toArray kn) :: own) N17 (fun N => by walk_at "ro")) (Nat.add_lt_add_left (Nat.lt_of_lt_of_eq (Nat.lt_succ_self _) hl2) _)
            ⟨hv2, iv, nv, n13, ki, kn, ins, noted, dec, own, rfl, ⟨rfl, rfl, rfl, rfl, trivial⟩, rfl, hin, hnvT trivial, hlq, hP.skip hp0 (of_decide_eq_true q1), hH', fun v hv' => hT v (hsub v hv'), hoff, hno, Nat.le_trans (Nat.le_of_succ_le (Nat.le_of_eq hl2)) hb⟩
        · (rename Fr _ _ _ _ => F14)
          (rename News _ _ _ _ => N14)
          (rename List.any _ _ = false => q1)
          rw [any_nat] at q1
          replace q1 := of_decide_eq_false q1
          refine forT ?_ (by intro _; rfl)
          walk_at "go"
          (rename Fr _ _ _ _ => F15)
          (rename News _ _ _ _ => N15)
          (rename IsRange _ _ _ _ _ _ _ _ => hr15)
          have hin' : NatsAre (iv ++ [Value.int (tkk : Nat) t2]) (ins ++ [tkk]) := by
            unfold NatsAre
            rw [List.map_append]
            exact IntsAre.append hin (.cons _ _ .nil)
          have hnv' : StrsAre (nv ++ [Value.str tf t3]) (noted ++ [tf]) := StrsAre.append' (hnvT trivial) (.cons _ _ .nil)
          refine for_rangeH (k := ts.length) (GroI (folderOf bb) (ts.map rowOf) l Ha In No (iv ++ [Value.int (tkk : Nat) t2]) (nv ++ [Value.str tf t3]) (ki + 1) (kn + 1) (ins ++ [tkk]) tkk t2 (hv2.map dec)) hh F15
            (newsVia (l' := (Ha, listOf hv2.toArray n13) :: (In, listOf (iv ++ [Value.int (tkk : Nat) t2]).toArray (ki + 1)) :: (No, listOf (nv ++ [Value.str tf t3]).toArray (kn + 1)) :: own) N15 (fun N => by walk_at "ro"))
            ⟨hv2, n13, dec, own, ⟨rfl, rfl, rfl, rfl, rfl, trivial⟩, rfl, by simp, hH', fun v hv' => hT v (hsub v hv'), hoff, hno⟩ [] (fun p hp => nomatch hp) (fun i m' n' h => h.noIt) (by exact hr15) (Nat.le_trans hn (by decide)) (by intro _ _; rfl) ?turn2 ?done2
          case turn2 =>
            generalize iv ++ [Value.int (tkk : Nat) t2] = iv2 at hin'
            generalize nv ++ [Value.str tf t3] = nv2 at hnv'
            clear F15 N15 hT hoff hno hH' hm hH hnvT
            rintro j tj m₂ news₂ S2 T2 I oI hj ⟨hv3, kh3, dec3, own3, hm3, rfl, hp3, hH3, hT3, hoff3, hno3⟩ F16 N16 hI hiI hT2
            replace F16 := hm3.canon F16
            have hl3 : hv3.length ≤ 100 := by
              have e1 := hp3.length_eq
              have e2 := filt_len (fun j => !decide (j ∈ ins ++ [tkk])) j
              simp only [List.length_map, List.length_append] at e1
              rw [e1]
              exact Nat.le_trans (Nat.add_le_add (Nat.le_trans (Nat.le_of_succ_le (Nat.le_of_eq hl2)) hhl) (Nat.le_trans e2 (Nat.le_trans (Nat.le_of_lt hj) hn))) (by decide)
            obtain ⟨hI1, hI⟩ := allS hI
            obtain ⟨hI2, hI⟩ := allS hI
            obtain ⟨hI3, hI⟩ := allS hI
            have hI4 := hI
            have hoff4 : OwnOff ((I, oI) :: own3) [Ha, In, No] := off_cons (by exact (allC (hI1) (allC (hI2) (allC (hI3) allN)))) hoff3
            replace N16 := newsVia (l' := (Ha, listOf hv3.toArray kh3) :: (In, listOf iv2.toArray (ki + 1)) :: (No, listOf nv2.toArray (kn + 1)) :: ((I, oI) :: own3)) N16 (fun N => by walk_at "ro")
            have hIo : (I, oI) ∈ (I, oI) :: own3 := .head _
            have hoo : ∀ p ∈ own3, p ∈ (I, oI) :: own3 := fun p hp => .tail _ hp
            generalize hown : (I, oI) :: own3 = own4 at N16 hoff4 hIo hoo
            walk_at "go"
            · (rename Fr _ _ _ _ => F17)
              (rename News _ _ _ _ => N17)
              (rename List.any _ _ = true => q2)
              rw [any_nat] at q2
              replace q2 := of_decide_eq_true q2
              subst hown
              refine hT2 _ _ _ ((Ha, listOf hv3.toArray kh3) :: (In, listOf iv2.toArray (ki + 1)) :: (No, listOf nv2.toArray (kn + 1)) :: own3) F17 (by walk_at "ro") ⟨hv3, kh3, dec3, own3, ⟨rfl, rfl, rfl, rfl, rfl, trivial⟩, rfl, ?_, hH3, hT3, hoff3, hno3⟩
              rw [range_in q2]; exact hp3
            · (rename Fr _ _ _ _ => F17)
              (rename News _ _ _ _ => N17)
              (rename List.any _ _ = false => q2)
              rw [any_nat] at q2
              replace q2 := of_decide_eq_false q2
              rename_i l1
              have hprs : ∀ x ∈ [ts.getD tkk "", ts.getD j ""], x ∈ ts := fun x hx => by
                simp only [List.mem_cons, List.not_mem_nil, or_false] at hx
                rcases hx with rfl | rfl
                · exact getD_mem' hkl'
                · exact getD_mem' hj
              refine commonpath_at (ts := [ts.getD tkk "", ts.getD j ""]) (bb := bb) F17 N17 (.head _) X' T' (.cons _ _ (.cons _ _ .nil)) (Nat.zero_lt_succ _) (by simp) (fun x hx => Nat.le_trans (hts x (hprs x hx)) (by decide)) (fun x hx => habs x (hprs x hx)) hh (room1 hroom (by decide)) (unit1 hu (by decide)) fun h18 tk18 t18 F18 N18 => ?_
              rw [commonT_eq]
              have hFl := comF_len bb (ts := [ts.getD tkk "", ts.getD j ""]) (Nat.zero_lt_succ _) (fun x hx => hts x (hprs x hx))
              have hFd := comF_depth bb (ts := [ts.getD tkk "", ts.getD j ""]) (Nat.zero_lt_succ _)
              rw [pair_lcp hkl' hj] at hFl hFd
              rw [pair_lcp hkl' hj]
              clear F17 N17
              walk_at "go"
              (rename Fr _ _ _ _ => F19)
              (rename News _ _ _ _ => N19)
              refine depth_at F19 N19 X' T' hh (room1 hroom (by decide)) (unit1 hu (by decide)) (Nat.le_trans hFl (by decide)) hFd fun h20 tk20 t20 F20 N20 => ?_
              clear F19 N19
              walk_at "go"
              (rename Fr _ _ _ _ => F21)
              (rename News _ _ _ _ => N21)
              rename_i D h21 lD
              obtain ⟨lD1, lD2, lD3, lD4, lD5⟩ := lD
              generalize htup : tupOf [Value.int (-((Lc (ts.map rowOf) tkk j).length : Int)) tk20, Value.int (j : Nat) tj, Value.str (folderOf bb (Lc (ts.map rowOf) tkk j)) t18] 0 = tup
              replace N21 := newsVia (l' := (Ha, listOf hv3.toArray kh3) :: (In, listOf iv2.toArray (ki + 1)) :: (No, listOf nv2.toArray (kn + 1)) :: (D, tup) :: own4) N21 (fun N => by rw [← htup]; walk_at "ro")
              have hoffD : ∀ {own : List (Addr × Obj)}, OwnOff own [Ha, In, No] → OwnOff ((D, tup) :: own) [Ha, In, No] := fun h => off_cons (by exact (allC (Nat.ne_of_lt lD2) (allC (Nat.ne_of_lt lD3) (allC (Nat.ne_of_lt lD4) allN)))) h
              have hgD := dec_grow N21 (own := own4) (fun p hp => by simp [hp]) (fun v hv' => (hT3 v hv').mono hoo)
              have hDx := (N21 _ (.tail _ (.tail _ (.tail _ (.head _))))).1
              rw [← htup] at hDx
              have hx : TupAt h21 (.ref D) (at3 (entry3 (folderOf bb) (ts.map rowOf) tkk j)) := ⟨D, 0, _, rfl, hDx, .cons (.int _ _) (.cons (.int _ _) (.cons (.str _ _) .nil))⟩
              have hxd := decH_of at3_inj hx
              have hHd := hp_congr hgD hH3
              generalize decH at3 h21 = dec4 at hgD hxd hHd
              refine heappush_at (dec := dec4) likes3 atLt3 F21 N21 (hrr _ _ _ (hoffD hoff4)) X' T' (room1 hroom (by decide)) (unit1 hu (by decide)) (Nat.lt_of_le_of_lt hl3 (by decide)) (fun v hv' => by rw [hgD v hv']; exact (hT3 v hv').at N21 fun p hp => by simp [hoo p hp]) (by rw [hxd]; exact hx) fun h22 n22 tk22 F22 N22 => ?_
              obtain ⟨hH5, hp5⟩ := pushF_heap (ord3 dec4) (.ref D) hHd
              generalize pushF (ordBy lt3 dec4) hv3 (.ref D) = hv5 at N22 hH5 hp5
              clear F21 N21
              walk_at "go"
              subst hown
              refine hT2 _ _ _ ((Ha, listOf hv5.toArray n22) :: (In, listOf iv2.toArray (ki + 1)) :: (No, listOf nv2.toArray (kn + 1)) :: (D, tup) :: own3) F22 (by walk_at "ro") ⟨hv5, n22, dec4, (D, tup) :: own3, ⟨rfl, rfl, rfl, rfl, rfl, trivial⟩, rfl, ?_, hH5, fun v hv' => ?_, hoffD hoff3, fun p hp => ?_⟩
              · have e1 := hp5.map dec4
                rw [List.map_cons, hxd, map_congr' hgD] at e1
                rw [range_out q2, List.map_append, ← List.append_assoc]
                exact (e1.trans (hp3.cons _)).trans (List.perm_append_singleton _ _).symm
              · rcases List.mem_cons.mp (hp5.mem_iff.mp hv') with rfl | hv'
                · rw [hxd]
                  exact ⟨D, 0, _, rfl, (by rw [← htup]; exact List.Mem.head _), .cons (.int _ _) (.cons (.int _ _) (.cons (.str _ _) .nil))⟩
                · rw [hgD v hv']
                  exact (hT3 v hv').mono fun p hp => .tail _ hp
              · rcases List.mem_cons.mp hp with rfl | hp
                · exact .inl fun ⟨_, e⟩ => by rw [← htup] at e; cases e
                · exact hno3 p hp
          case done2 =>
            clear F15 N15 hT hoff hno hH' hm hH
            rintro m₂ news₂ h₂ tk₂ ⟨hv3, kh3, dec3, own3, hm3, rfl, hp3, hH3, hT3, hoff3, hno3⟩ F16 N16
            replace F16 := hm3.canon F16
            have hl3 := hp3.length_eq
            have hP2 : PriS (namesOf (ts.map rowOf)) (folderOf bb) (ts.map rowOf) (ins ++ [tkk]) (hv3.map dec3) (noted ++ [tf]) := hP.step hnames.1 hnames.2 (hne' trivial) hp0 hle q1 (by rw [hrl' trivial]; exact hp3)
            have hsh := hP2.short
            simp only [List.length_map, List.length_append, List.length_singleton] at hl3 hsh
            have hfl := filt_len (fun j => !decide (j ∈ ins ++ [tkk])) ts.length
            have hmul : (ts.map rowOf).length * (ins ++ [tkk]).length = (ts.map rowOf).length * ins.length + (ts.map rowOf).length := by
              rw [List.length_append, List.length_singleton, Nat.mul_add, Nat.mul_one]
            have hmul2 : ((ts.map rowOf).length - ins.length) * ((ts.map rowOf).length + 1) = ((ts.map rowOf).length - (ins ++ [tkk]).length) * ((ts.map rowOf).length + 1) + ((ts.map rowOf).length + 1) := by
              rw [List.length_append, List.length_singleton, show (ts.map rowOf).length - ins.length = ((ts.map rowOf).length - (ins.length + 1)) + 1 from sub_step (by rw [hrl' trivial]; exact hsh), Nat.add_mul, Nat.one_mul]
            walk_at "go"
            exact hT0 _ _ _ _ (((ts.map rowOf).length - (ins ++ [tkk]).length) * ((ts.map rowOf).length + 1) + hv3.length) F16 N16 (gr_ms hmul2 hl2 hl3 hfl (hrl' trivial))
              ⟨hv3, iv ++ [Value.int (tkk : Nat) t2], nv ++ [Value.str tf t3], kh3, ki + 1, kn + 1, ins ++ [tkk], noted ++ [tf], dec3, own3, rfl, ⟨rfl, rfl, rfl, rfl, trivial⟩, rfl, hin', hnv', by simp [hlq], hP2, hH3, hT3, hoff3, hno3, gr_bd hmul hb hl2 hl3 hfl (hrl' trivial)⟩
      · (rename Fr _ _ _ _ => F12)
        (rename News _ _ _ _ => N12)
        have h0 : ¬ (0 < hv.length) := by first | assumption | (rename decide _ = false => h; exact of_decide_eq_false h)
        have hv0 : hv = [] := List.eq_nil_of_length_eq_zero (Nat.eq_zero_of_not_pos h0)
        have hPf := hP
        rw [hv0, List.map_nil] at hPf
        exact hB0 _ _ _ _ F12 (newsVia (l' := (Ha, listOf hv.toArray kh) :: (In, listOf iv.toArray ki) :: (No, listOf nv.toArray kn) :: own) N12 (fun N => by walk_at "ro")) ⟨nv, iv, hv, noted, ins, kh, ki, kn, own, rfl, ⟨rfl, rfl, trivial⟩, hnv, hPf, hoff, by rw [hlq]; exact hins⟩
    case after =>
      rintro h11 tk11 m11 led11 F11 N11 ⟨nv, iv, hv, noted, ins, kh, ki, kn, own, rfl, hm, hnv, hP, hoff, hl9⟩
      replace F11 := hm.canon F11
      clear F1 N1
      have hnvT : True → StrsAre nv noted := fun _ => hnv
      walk_at "go"
      all_goals (try k_data)
      (rename Fr _ _ _ _ => F12)
      (rename News _ _ _ _ => N12)
      rw [pick_from1] at N12
      have D12 := N12 _ (.head _)
      refine hR _ _ _ (nv.drop 1) 0 ins noted (fun x o e => F12.keep x o (hg x o e (fun h => nomatch h))) ?_ D12.1 (StrsAre.drop' (hnvT trivial) 1) hl9 hP
      cases e : s.heap.get? _ with
      | none => rfl
      | some o => rw [hg _ o e (fun h => nomatch h)] at D12; exact absurd D12.2.2 (by simp)
end

/-! rows and fronts as data; the folders of a sorted list of pairs -/
section
variable {w : World} {A : Around} {s : Shared} {g : Heap} {L : Addr} {m : Str → Option Value} {prog : Program} {env : Env} {news : List (Addr × Obj)}
noncomputable def RowIs (B : List (Addr × Obj)) (r : Row) (y : Value) : Prop := ∃ a us k, y = .ref a ∧ (a, listOf us.toArray k) ∈ B ∧ StrsAre us r
noncomputable def RowsAre (B : List (Addr × Obj)) (rs : List Row) (ys : List Value) : Prop := Paired (RowIs B) rs ys
theorem RowIs.mono {B B' : List (Addr × Obj)} (h : ∀ p ∈ B, p ∈ B') {b : Row} {y : Value} : RowIs B b y → RowIs B' b y := fun ⟨a, us, k, e, hm, q⟩ => ⟨a, us, k, e, h _ hm, q⟩
theorem RowsAre.mono {B B' : List (Addr × Obj)} (h : ∀ p ∈ B, p ∈ B') {bs : List Row} {ys : List Value} (q : RowsAre B bs ys) : RowsAre B' bs ys := pairedMono (fun _ _ => RowIs.mono h) q
theorem RowsAre.at' {B : List (Addr × Obj)} {rs : List Row} {ys : List Value} (h : RowsAre B rs ys) {i : Nat} (hi : i < rs.length) : ∃ a us k, ys.getD i .none = .ref a ∧ ys[i]? = some (.ref a) ∧ (a, listOf us.toArray k) ∈ B ∧ StrsAre us (rs.getD i []) := by
  have hi' : i < ys.length := by rw [← pairedLen h]; exact hi
  obtain ⟨a, us, k, e, hm, q⟩ := pairedAt h i hi hi'
  refine ⟨a, us, k, ?_, ?_, hm, ?_⟩
  · rw [List.getD_eq_getElem?_getD, List.getElem?_eq_getElem hi']; exact e
  · rw [List.getElem?_eq_getElem hi', e]
  · rw [List.getD_eq_getElem?_getD, List.getElem?_eq_getElem hi]; exact q
noncomputable def rowD (r : Row) : Dat := .list (r.map Dat.str)
theorem strs_dat {B : List (Addr × Obj)} : ∀ {us : List Value} {r : List Str}, StrsAre us r → DatAll B us (r.map Dat.str)
  | _, _, .nil => .nil
  | _, _, .cons x t h => .cons (.str x t) (strs_dat h)
theorem RowIs.dat {B : List (Addr × Obj)} {r : Row} {y : Value} (h : RowIs B r y) : DatIn B y (rowD r) := by
  obtain ⟨a, us, k, rfl, hm, q⟩ := h
  exact .list hm (strs_dat q)
theorem RowsAre.dat {B : List (Addr × Obj)} : ∀ {bs : List Row} {ys : List Value}, RowsAre B bs ys → DatAll B ys (bs.map rowD)
  | _, _, .nil => .nil
  | _, _, .cons h r => .cons h.dat (RowsAre.dat r)
theorem dstr_inj {b c : List Str} (h : b.map Dat.str = c.map Dat.str) : b = c := List.map_inj_right (fun x y e => by injection e) |>.mp h
theorem rowD_inj {b c : Row} (h : rowD b = rowD c) : b = c := by
  unfold rowD at h
  injection h with h
  exact dstr_inj h
noncomputable def RowOk (r : Row) : Prop := ∀ x ∈ r, PyData.strOk x = true
theorem dstr_ok {r : Row} (h : RowOk r) (n : Nat) : ∀ d ∈ r.map Dat.str, kqdOk n d = true := fun d hd => by
  obtain ⟨x, hx, rfl⟩ := List.mem_map.mp hd
  cases n <;> exact h x hx
theorem rowD_ok {r : Row} (h : RowOk r) : kqdOk 8 (rowD r) = true := by
  show ((r.map Dat.str).all (kqdOk 7)) = true
  rw [List.all_eq_true]
  exact dstr_ok h 7
theorem rowD_mem {b : Row} {bs : List Row} : rowD b ∈ bs.map rowD ↔ b ∈ bs := by
  rw [List.mem_map]
  exact ⟨fun ⟨c, hc, e⟩ => rowD_inj e ▸ hc, fun h => ⟨b, h, rfl⟩⟩
/-- two lists of strings, told of by a ledger, are alike? -/
theorem rows_eq {a b : Addr} {us vs : List Value} {r q : Row} {k k' : Nat} {E : Value → Shared → Prop} {Q : Value → Shared → Prop} (N : News g L s.heap news) (ha : (a, listOf us.toArray k) ∈ news) (hb : (b, listOf vs.toArray k') ∈ news) (hus : StrsAre us r) (hvs : StrsAre vs q)
    (hr : RowOk r) (hq : RowOk q) (hu : A.units + 64 < cLine) (h : Q (.bool (decide (r = q))) s) : wpAny (model prog w) A (compareOp .Eq (.ref a) (.ref b)) Q E s := by
  refine kqd_eq N ha rfl rfl (strs_dat (B := []) hus) (fun p hp => nomatch hp) hb rfl rfl (strs_dat (B := []) hvs) (fun p hp => nomatch hp) (dstr_ok hr 8) (dstr_ok hq 8) hu ?_
  exact (fun b e => e ▸ h : ∀ b, decide (r = q) = b → Q (.bool b) s) _ (decide_eq_decide.mpr ⟨fun e => by rw [e], dstr_inj⟩)
/-- a list of strings within a list of such? -/
theorem row_notin {a b : Addr} {us ys : List Value} {r : Row} {rs : List Row} {k k' : Nat} {B : List (Addr × Obj)} {E : Value → Shared → Prop} {Q : Value → Shared → Prop} (N : News g L s.heap news) (ha : (a, listOf us.toArray k) ∈ news) (hb : (b, listOf ys.toArray k') ∈ news) (hB : ∀ p ∈ B, p ∈ news)
    (hus : StrsAre us r) (hys : RowsAre B rs ys) (hr : RowOk r) (hq : ∀ q ∈ rs, RowOk q) (hu : A.units + 64 < cLine) (h : Q (.bool (!decide (r ∈ rs))) s) : wpAny (model prog w) A (compareOp .NotIn (.ref a) (.ref b)) Q E s := by
  refine kqd_notIn N hb rfl rfl hys.dat hB (RowIs.dat (B := news) ⟨a, us, k, rfl, ha, hus⟩) (fun p hp => hp) ?_ (rowD_ok hr) hu ?_
  · intro d hd
    obtain ⟨q, hq', rfl⟩ := List.mem_map.mp hd
    exact rowD_ok (hq q hq')
  · exact (fun b e => e ▸ h : ∀ b, (!decide (r ∈ rs)) = b → Q (.bool b) s) _ (congrArg _ (decide_eq_decide.mpr rowD_mem.symm))
theorem join_mem : ∀ {F : List Str} {p : Str}, p ∈ F → ∀ {c : Nat}, c ∈ p.cps.toList → c ∈ (Str.join "/" F).cps.toList := fun {F p} hp {c} hc => by
  rw [join_list_of]
  induction F with
  | nil => cases hp
  | cons y r ih =>
    cases r with
    | nil =>
      simp only [List.mem_cons, List.not_mem_nil, or_false] at hp
      rw [← hp]; exact hc
    | cons z r =>
      show c ∈ y.cps.toList ++ 47 :: joinL (z :: r)
      rcases List.mem_cons.mp hp with rfl | hp
      · exact List.mem_append_left _ hc
      · exact List.mem_append_right _ (.tail _ (ih hp))
theorem split_ok {x : Str} (h : PyData.strOk x = true) : RowOk (rowOf x) := fun p hp => by
  have hp' := (List.mem_filter.mp hp).1
  have e := StrLaws.join_split x "/"
  have : ∀ c ∈ p.cps.toList, c ∈ x.cps.toList := fun c hc => by
    rw [← e]
    exact join_mem hp' hc
  unfold PyData.strOk at h ⊢
  rw [Array.all_eq_true'] at h ⊢
  exact fun c hc => h c (Array.mem_toList_iff.mp (this c (Array.mem_toList_iff.mpr hc)))
theorem take_snoc {vs : List Value} {i : Nat} {v : Value} (e : vs[i]? = some v) : vs.take (i + 1) = vs.take i ++ [v] := by
  rw [List.take_add_one, e]; rfl
theorem pick_rest {x x₂ : Str} {pos : Pos} {scope : Scope} {cl : List (Str × Addr)} {ax : Addr} {vs : List Value} {dec : Value → K2} {Fin : List Value → List (Addr × Obj) → Prop} (hT : ∀ v ∈ vs, TupIn news v (at2 (dec v))) (hS : LCg.SrcAt g ax vs.toArray news)
    (hk : ∀ C, (compEnvC scope cl C env).scope.kind = .function) (hl : ∀ C, (compEnvC scope cl C env).kindOf x₂ = some .local) (hd : (x₂ == ("__debug__" : Str)) = false)
    (fin : ∀ ys, StrsAre ys (vs.map fun v => (dec v).2) → Fin ys news) : ∀ (n i : Nat) (ys : List Value), i + n = vs.length → StrsAre ys ((vs.take i).map fun v => (dec v).2) →
    LCp.CompRestP prog w A g L m env (.Name x₂ pos) x x₂ scope cl s (LCg.SrcAt g ax vs.toArray) (fun i v => vs.toArray[i]? = some v) Fin n i ys news
  | 0, i, ys, hi, hy => LCp.CompRestP.zero (fin ys (by rw [List.take_of_length_le (by (first | lia | omega))] at hy; exact hy))
  | n + 1, i, ys, hi, hy => LCp.CompRestP.succ fun v hv => by
    have hv' : vs[i]? = some v := by simpa using hv
    obtain ⟨a, k, us, rfl, hm, p⟩ := hT v (List.mem_of_getElem? hv')
    obtain ⟨t1, t2, rfl⟩ := at2_inv p
    refine ⟨a, _, _, _, k, rfl, hm, rfl, rfl, fun I oI C oC D m₂ h tk E' hC hx hx2 F N off ne => ?_⟩
    refine LCgL.ld_own N (.tail _ (.head _)) hC hx2 (LCg.CompEnd.intro F N news (fun p hp => hp) off hS (pick_rest hT hS hk hl hd fin n (i + 1) _ (by (first | lia | omega)) ?_)) (hk C) (hl C) hd
    rw [take_snoc hv', List.map_append]
    exact StrsAre.append' hy (.cons _ _ .nil)
end

/-! the states of _law_due's loops -/
section
variable {w : World} {A : Around} {s : Shared} {g : Heap} {L : Addr} {m : Str → Option Value} {news : List (Addr × Obj)}
/-- the rows and fronts so far -/
inductive DueA (l Ro Fo Du : Addr) (top : Str) (tt : Tok) (fix k0 : List (Addr × Obj)) (rs fs : List Row) (m' : Str → Option Value) (led : List (Addr × Obj)) : Prop
  | mk (rv fv : List Value) (kr kf : Nat) (own : List (Addr × Obj)) (hm : Has m' [("paths", .ref l), ("top", .str top tt), ("rows", .ref Ro), ("fronts", .ref Fo), ("due", .ref Du)])
    (hled : led = (Ro, listOf rv.toArray kr) :: (Fo, listOf fv.toArray kf) :: (Du, listOf #[] 0) :: own) (hr : RowsAre own rs rv) (hf : RowsAre own fs fv) (hoff : OwnOff own [Ro, Fo, Du]) (hno : NoIt k0 own) (hfix : ∀ p ∈ fix, p ∈ own)
theorem noIt_head {a : Addr} {xs : Array Value} {k : Nat} {k0 l : List (Addr × Obj)} (h : NoIt k0 l) : NoIt k0 ((a, listOf xs k) :: l) := fun p hp => by
  rcases List.mem_cons.mp hp with rfl | hp
  · exact .inl fun ⟨_, e⟩ => (nomatch e)
  · exact h p hp
theorem DueA.noIt {l Ro Fo Du : Addr} {top : Str} {tt : Tok} {fix k0 : List (Addr × Obj)} {rs fs : List Row} {m' : Str → Option Value} {led : List (Addr × Obj)} : DueA l Ro Fo Du top tt fix k0 rs fs m' led → NoIt k0 led := by
  rintro ⟨rv, fv, kr, kf, own, hm, rfl, hr, hf, hoff, hno, hfix⟩
  exact noIt_head (noIt_head (noIt_head hno))
/-- what is due so far -/
noncomputable def dueT (sf : Row → Str) (rows fs : List Row) : List K2 := (fs.flatMap fun F => List.replicate ((waysOf rows F).1.length + (waysOf rows F).2 - 1) F).map (key2 sf)
inductive DueB (l Ro Fo Du : Addr) (top : Str) (tt : Tok) (rv fv : List Value) (kr kf : Nat) (fix k0 : List (Addr × Obj)) (ts : List K2) (m' : Str → Option Value) (led : List (Addr × Obj)) : Prop
  | mk (dv : List Value) (kd : Nat) (own : List (Addr × Obj)) (hm : Has m' [("paths", .ref l), ("top", .str top tt), ("rows", .ref Ro), ("fronts", .ref Fo), ("due", .ref Du)])
    (hled : led = (Du, listOf dv.toArray kd) :: (Ro, listOf rv.toArray kr) :: (Fo, listOf fv.toArray kf) :: own) (hd : Paired (fun v t => TupIn own v (at2 t)) dv ts) (hoff : OwnOff own [Du, Ro, Fo]) (hno : NoIt k0 own) (hfix : ∀ p ∈ fix, p ∈ own)
theorem DueB.noIt {l Ro Fo Du : Addr} {top : Str} {tt : Tok} {rv fv : List Value} {kr kf : Nat} {fix k0 : List (Addr × Obj)} {ts : List K2} {m' : Str → Option Value} {led : List (Addr × Obj)} : DueB l Ro Fo Du top tt rv fv kr kf fix k0 ts m' led → NoIt k0 led := by
  rintro ⟨dv, kd, own, hm, rfl, hd, hoff, hno, hfix⟩
  exact noIt_head (noIt_head (noIt_head hno))
/-- the ways on from one front, so far -/
inductive DueC (l Ro Fo Du Wa aF : Addr) (top : Str) (tt : Tok) (F : Row) (dv rv fv : List Value) (kd kr kf : Nat) (fix k0 : List (Addr × Obj)) (W : List Str × Nat) (m' : Str → Option Value) (led : List (Addr × Obj)) : Prop
  | mk (wv : List Value) (kw : Nat) (own : List (Addr × Obj)) (t1 t2 : Tok) (hm : Has m' [("paths", .ref l), ("top", .str top tt), ("rows", .ref Ro), ("fronts", .ref Fo), ("due", .ref Du), ("front", .ref aF), ("k", .int (F.length : Nat) t1), ("ways", .ref Wa), ("ends", .int (W.2 : Nat) t2)])
    (hled : led = (Wa, listOf wv.toArray kw) :: (Du, listOf dv.toArray kd) :: (Ro, listOf rv.toArray kr) :: (Fo, listOf fv.toArray kf) :: own) (hw : StrsAre wv W.1) (hoff : OwnOff own [Wa, Du, Ro, Fo]) (hno : NoIt k0 own) (hfix : ∀ p ∈ fix, p ∈ own)
theorem DueC.noIt {l Ro Fo Du Wa aF : Addr} {top : Str} {tt : Tok} {F : Row} {dv rv fv : List Value} {kd kr kf : Nat} {fix k0 : List (Addr × Obj)} {W : List Str × Nat} {m' : Str → Option Value} {led : List (Addr × Obj)} : DueC l Ro Fo Du Wa aF top tt F dv rv fv kd kr kf fix k0 W m' led → NoIt k0 led := by
  rintro ⟨wv, kw, own, t1, t2, hm, rfl, hw, hoff, hno, hfix⟩
  exact noIt_head (noIt_head (noIt_head (noIt_head hno)))
theorem frontsOf_take (rows : List Row) (i : Nat) (h : i < rows.length) : (rows.take (i + 1)).foldl (fun acc r => frontsRow acc r (r.length + 1)) [] = frontsRow ((rows.take i).foldl (fun acc r => frontsRow acc r (r.length + 1)) []) (rows.getD i []) ((rows.getD i []).length + 1) := by
  rw [List.take_add_one, List.getElem?_eq_getElem h, List.foldl_append, List.getD_eq_getElem?_getD, List.getElem?_eq_getElem h]; rfl
theorem ways_take (rows : List Row) (F : Row) (i : Nat) (h : i < rows.length) : (rows.take (i + 1)).foldl (waysTurn F) ([], 0) = waysTurn F ((rows.take i).foldl (waysTurn F) ([], 0)) (rows.getD i []) := by
  rw [List.take_add_one, List.getElem?_eq_getElem h, List.foldl_append, List.getD_eq_getElem?_getD, List.getElem?_eq_getElem h]; rfl
theorem take_getD (rows : List Row) (i : Nat) (h : i < rows.length) : rows.take (i + 1) = rows.take i ++ [rows.getD i []] := by
  rw [List.take_add_one, List.getElem?_eq_getElem h, List.getD_eq_getElem?_getD, List.getElem?_eq_getElem h]; rfl
theorem take_ok {r : Row} (h : RowOk r) (k : Nat) : RowOk (r.take k) := fun x hx => h x (List.mem_of_mem_take hx)
theorem frontsRow_ok {l : List Row} {r : Row} (hl : ∀ q ∈ l, RowOk q) (hr : RowOk r) : ∀ k, ∀ q ∈ frontsRow l r k, RowOk q
  | 0 => hl
  | k + 1 => fun q hq => by
    rw [frontsRow_succ] at hq
    rcases mem_addNew.mp hq with h | rfl
    · exact frontsRow_ok hl hr k q h
    · exact take_ok hr k
theorem fronts_ok : ∀ {rows l : List Row}, (∀ q ∈ l, RowOk q) → (∀ r ∈ rows, RowOk r) → ∀ q ∈ rows.foldl (fun acc r => frontsRow acc r (r.length + 1)) l, RowOk q
  | [], _, h, _ => h
  | r :: rows, _, h, h2 => fronts_ok (rows := rows) (frontsRow_ok h (h2 r (.head _)) _) fun q hq => h2 q (.tail _ hq)
theorem addNew_len (l : List Row) (x : Row) : (addNew l x).length ≤ l.length + 1 := by
  unfold addNew
  split <;> simp
theorem frontsRow_len (l : List Row) (r : Row) : ∀ k, (frontsRow l r k).length ≤ l.length + k
  | 0 => Nat.le_refl _
  | k + 1 => by
    rw [frontsRow_succ]
    have h1 := addNew_len (frontsRow l r k) (r.take k)
    have h2 := frontsRow_len l r k
    (first | lia | omega)
theorem fronts_len {n : Nat} : ∀ {rows l : List Row}, (∀ r ∈ rows, r.length ≤ n) → (rows.foldl (fun acc r => frontsRow acc r (r.length + 1)) l).length ≤ l.length + rows.length * (n + 1)
  | [], _, _ => by simp
  | r :: rows, l, h => by
    have h1 := fronts_len (rows := rows) (l := frontsRow l r (r.length + 1)) fun q hq => h q (.tail _ hq)
    have h2 := frontsRow_len l r (r.length + 1)
    have h3 := h r (.head _)
    rw [List.foldl_cons, List.length_cons, Nat.add_mul]
    (first | lia | omega)
theorem row_len {x : Str} (h : x.length ≤ 20) : (rowOf x).length ≤ 22 := Nat.le_trans (List.length_filter_le _ _) (Nat.le_trans (split_le x "/") (by (first | lia | omega)))
theorem ways_len (F : Row) : ∀ (rows : List Row) (W : List Str × Nat), (rows.foldl (waysTurn F) W).1.length + (rows.foldl (waysTurn F) W).2 ≤ W.1.length + W.2 + rows.length
  | [], W => Nat.le_refl _
  | r :: rows, W => by
    have h1 := ways_len F rows (waysTurn F W r)
    have h2 : (waysTurn F W r).1.length + (waysTurn F W r).2 ≤ W.1.length + W.2 + 1 := by
      unfold waysTurn
      split
      · show W.1.length + (W.2 + 1) ≤ _
        (first | lia | omega)
      · split
        · show (addNew W.1 _).length + W.2 ≤ _
          unfold addNew
          split <;> (try rw [List.length_append, List.length_singleton]) <;> (first | lia | omega)
        · (first | lia | omega)
    rw [List.foldl_cons, List.length_cons]
    (first | lia | omega)
theorem dueT_len (sf : Row → Str) {rows : List Row} (h : rows ≠ []) (i : Nat) : (dueT sf rows ((frontsOf rows).take i)).length + 1 ≤ rows.length := by
  have e := due_len h
  have : (dueT sf rows ((frontsOf rows).take i)).length ≤ (dueOf rows).length := by
    unfold dueT dueOf
    rw [List.length_map]
    conv => rhs; rw [← List.take_append_drop i (frontsOf rows)]
    rw [List.flatMap_append, List.length_append]
    (first | lia | omega)
  (first | lia | omega)
theorem dueT_succ (sf : Row → Str) {rows fs : List Row} {i : Nat} (h : i < fs.length) : dueT sf rows (fs.take (i + 1)) = dueT sf rows (fs.take i) ++ List.replicate ((waysOf rows (fs.getD i [])).1.length + (waysOf rows (fs.getD i [])).2 - 1) (key2 sf (fs.getD i [])) := by
  unfold dueT
  rw [take_getD _ _ h, List.flatMap_append, List.map_append, List.flatMap_singleton, List.map_replicate]
theorem paired_repl {α β : Type} {R : α → β → Prop} {a : α} {b : β} (h : R a b) : ∀ n, Paired R (List.replicate n a) (List.replicate n b)
  | 0 => .nil
  | n + 1 => .cons h (paired_repl h n)
theorem paired_app {α β : Type} {R : α → β → Prop} : ∀ {a c : List α} {b d : List β}, Paired R a b → Paired R c d → Paired R (a ++ c) (b ++ d)
  | _, _, _, _, .nil, h => h
  | _, _, _, _, .cons h r, h2 => .cons h (paired_app r h2)
theorem keep_any (x : Str) : (!([("" : Str), "."].any fun y => y == x)) = keepC x := by
  unfold keepC
  rw [List.any_cons, List.any_cons, List.any_nil, Bool.or_false, Bool.not_or, BEq.comm (a := ("" : Str)), BEq.comm (a := ("." : Str))]
theorem rows_last {B : List (Addr × Obj)} {rs : List Row} {r : Row} {ys : List Value} (h : RowsAre B (rs ++ [r]) ys) : ∃ ys' a us k, ys = ys' ++ [Value.ref a] ∧ (a, listOf us.toArray k) ∈ B ∧ StrsAre us r := by
  have hl := pairedLen h
  rw [List.length_append, List.length_singleton] at hl
  have hne : ys ≠ [] := by rintro rfl; simp at hl
  obtain ⟨a, us, k, e, hm, q⟩ := pairedAt h rs.length (by simp) (by (first | lia | omega))
  rw [List.getElem_append_right (Nat.le_refl _)] at q
  refine ⟨ys.dropLast, a, us, k, ?_, hm, by simpa using q⟩
  have := List.dropLast_concat_getLast hne
  rw [List.getLast_eq_getElem] at this
  have e2 : ys[ys.length - 1]'(by (first | lia | omega)) = ys[rs.length]'(by (first | lia | omega)) := by congr 1; (first | lia | omega)
  rw [e2, e] at this
  exact this.symm
theorem under {h : Heap} {l : List (Addr × Obj)} (N : News g L h l) : ∀ p ∈ l, p.1 < h.objs.size := fun p hp => Heap.lt_size (N p hp).1
/-- the ledger's tail without one iterator -/
theorem own_drop {h : Heap} {I : Addr} {oI : Obj} {own k0 : List (Addr × Obj)} (N : ∀ p ∈ own, h.get? p.1 = some p.2) (hiI : isIt oI) (hIo : (I, oI) ∈ own) (hno : NoIt ((I, oI) :: k0) own) :
    ∃ own', (∀ p ∈ own', p ∈ own) ∧ NoIt k0 own' ∧ (∀ r y, RowIs own r y → RowIs own' r y) ∧ (∀ v as, TupIn own v as → TupIn own' v as) ∧ ∀ p ∈ own, p.1 ≠ I → p ∈ own' := by
  obtain ⟨fs, hfs⟩ := hiI
  have hin : ∀ p ∈ own, p.1 ≠ I → p ∈ own.filter (fun p => decide (p.1 ≠ I)) := fun p hp hne => List.mem_filter.mpr ⟨hp, by simpa using hne⟩
  have hI : ∀ (a : Addr) (o : Obj), (a, o) ∈ own → a = I → o = oI := fun a o hm e => by
    subst e
    have h1 := N _ hm
    rw [N _ hIo] at h1
    exact (Option.some.inj h1).symm
  refine ⟨own.filter (fun p => decide (p.1 ≠ I)), fun p hp => (List.mem_filter.mp hp).1, fun p hp => ?_, fun r y h => ?_, fun v as h => ?_, hin⟩
  · obtain ⟨h1, h2⟩ := List.mem_filter.mp hp
    rcases hno p h1 with q | q
    · exact .inl q
    · rcases List.mem_cons.mp q with rfl | q
      · simp at h2
      · exact .inr q
  · obtain ⟨a, us, k, e, hm, q⟩ := h
    refine ⟨a, us, k, e, hin _ hm fun z => ?_, q⟩
    have := hI _ _ hm z
    rw [← this] at hfs; cases hfs
  · obtain ⟨a, n, us, e, hm, q⟩ := h
    refine ⟨a, n, us, e, hin _ hm fun z => ?_, q⟩
    have := hI _ _ hm z
    rw [← this] at hfs; cases hfs
theorem front_len {rows : List Row} {n : Nat} (h : ∀ r ∈ rows, r.length ≤ n) {F : Row} (hF : F ∈ frontsOf rows) : F.length ≤ n := by
  obtain ⟨r, hr, hp⟩ := fr_iff.mp (((fronts_spec rows).2 F).mp hF)
  exact Nat.le_trans hp.length_le (h r hr)
theorem row_getD {rs : List Row} {i : Nat} (h : i < rs.length) : rs.getD i [] ∈ rs := by
  rw [List.getD_eq_getElem?_getD, List.getElem?_eq_getElem h]; exact List.getElem_mem h
theorem off_perm {own : List (Addr × Obj)} {a b : List Addr} (h : ∀ x ∈ b, x ∈ a) (o : OwnOff own a) : OwnOff own b := fun p hp x hx => o p hp x (h x hx)
theorem any_str (b : List Str) (y : Str) : (b.any fun x => x == y) = decide (y ∈ b) := by
  rw [Bool.eq_iff_iff, List.any_eq_true, decide_eq_true_eq]
  constructor
  · rintro ⟨x, hx, e⟩
    rw [← beq_iff_eq.mp e]; exact hx
  · intro h; exact ⟨y, h, by simp⟩
theorem front_part {ts : List Str} (hts : ∀ x ∈ ts, x.length ≤ 20) {F : Row} (hF : F ∈ frontsOf (ts.map rowOf)) : ∀ x ∈ F, x.length ≤ 20 := fun x hx => by
  obtain ⟨r, hr, hp⟩ := fr_iff.mp (((fronts_spec _).2 F).mp hF)
  obtain ⟨y, hy, rfl⟩ := List.mem_map.mp hr
  exact Nat.le_trans (part_short (List.mem_filter.mp (hp.subset hx)).1) (hts y hy)
theorem ext_list {prog : Program} {E : Value → Shared → Prop} {Q : Value → Shared → Prop} {D b : Addr} {dv xs : List Value} {kd kb : Nat} {rest : List (Addr × Obj)} (F : Fr g L s.heap m) (N : News g L s.heap ((D, listOf dv.toArray kd) :: rest)) (hr : ∀ p ∈ rest, p.1 ≠ D) (hb : (b, listOf xs.toArray kb) ∈ rest) (hl : dv.length ≤ 1000) (hx : xs.length ≤ 1000)
    (h : ∀ k' h', Fr g L h' m → News g L h' ((D, listOf (dv ++ xs).toArray k') :: rest) → Q .none { s with heap := h' }) : wpAny (model prog w) A (call (.builtin "list.extend") [.ref D, .ref b]) Q E s := by
  by_cases e : xs = []
  · subst e
    refine kxn_extend F N (.tail _ hb) rfl (.head hr) ?_ (by simp [sizeLine_eq]; (first | lia | omega)) (by simp [sizeLine_eq]; (first | lia | omega)) fun h' F' N' => h _ h' F' (by rw [List.append_nil]; exact N')
    simp [Builtin.List.listTooLong, sizeLine]; (first | lia | omega)
  · refine kl_extend (l := dv ++ xs) F N (.tail _ hb) (by simp) (by simpa using e) (.head hr) ?_ (by simp [sizeLine_eq]; (first | lia | omega)) (by simp [sizeLine_eq]; (first | lia | omega)) fun h' F' N' => h _ h' F' N'
    simp [Builtin.List.listTooLong, sizeLine]; (first | lia | omega)
theorem dec_items2 {h : Heap} {own : List (Addr × Obj)} {hv : List Value} {its : List K2} (N : News g L h news) (hB : ∀ p ∈ own, p ∈ news) (hits : Paired (fun v t => TupIn own v (at2 t)) hv its) :
    (∀ v ∈ hv, TupIn own v (at2 (decH at2 h v))) ∧ hv.map (decH at2 h) = its := by
  induction hits with
  | nil => exact ⟨fun _ h => (nomatch h), rfl⟩
  | cons a r ih =>
    have e := decH_of at2_inj (a.at N hB)
    refine ⟨fun v hv => ?_, ?_⟩
    · rcases List.mem_cons.mp hv with rfl | hv
      · rw [e]; exact a
      · exact ih.1 v hv
    · rw [List.map_cons, e, ih.2]
end

section
local macro_rules | `(tactic| walk_at "subscriptTail Name Slice ref ref") => `(tactic| (k_dflt (refine slice_list (by assumption) (by assumption) (News.isList (by assumption) (by walk_at "mem")) (by first | exact .none | exact .int _ _) (by first | exact .none | exact .int _ _) ?_); intro _ _ _))
variable {w : World} {mean : ExcName → Option Value} {mg mb : Str → Option Value} {b g : Heap} {A : Around} {s : Shared} {L : Addr} {m : Str → Option Value} {rest : List (Addr × Obj)} {prog : Program} {env : Env} {news : List (Addr × Obj)}
theorem toNat_pred {a b c : Nat} (h : a = c) : ((a : Int) + (b : Nat) - 1).toNat = c + b - 1 := by
  rw [h, ← Int.natCast_add]; exact Int.toNat_sub _ 1
theorem kma_lo (a b : Nat) : -(2 ^ 63 : Int) ≤ (a : Int) + (b : Nat) - 1 := by omega
theorem kma_hi {a b : Nat} (h : a + b ≤ 9) : (a : Int) + (b : Nat) - 1 < 2 ^ 63 := by omega
theorem kma_rep {a b : Nat} (h : a + b ≤ 9) : 1 * ((a : Int) + (b : Nat) - 1).toNat ≤ 256 := by
  rw [toNat_pred rfl, Nat.one_mul]; exact Nat.le_trans (Nat.sub_le _ _) (Nat.le_trans h (by decide))
theorem due_call {R : Result → Shared → Prop} {l : Addr} {vs : List Value} {n : Nat} {ts : List Str} {bb : Bool} {top : Str} {tt : Tok} : (hd.heap_39 w.params).In b → (T : Top hd.view_39 (looseW hd.view_39 []) mean mg mb b) → (hb : ∀ x o, b.get? x = some o → s.heap.get? x = some o) →
  (hl : s.heap.get? l = some (listOf vs.toArray n)) → (hvs : StrsAre vs ts) → (hne : 3 ≤ ts.length) → (hn : ts.length ≤ 9) → (hts : ∀ x ∈ ts, x.length ≤ 20) → (hok : ∀ x ∈ ts, PyData.strOk x = true) → (htop : top = if bb = true then "/" else "") →
  (hh : A.handled = none) → (hroom : A.depth + 60 < recursionLimit) → (hu : A.units + 2000 < cLine) →
  (hR : ∀ (h' : Heap) (tk : Nat) (a : Addr) (us : List Value) (k : Nat) (S : List K2), (∀ x o, s.heap.get? x = some o → h'.get? x = some o) → s.heap.get? a = none → h'.get? a = some (listOf us.toArray k) → StrsAre us (S.map Prod.snd) →
    S.Perm ((dueOf (ts.map rowOf)).map (key2 (folderOf bb))) → S.Pairwise (fun a b => lt2 b a = false) → R (.ok (.ret (.ref a))) { s with heap := h', toks := tk }) →
  codeAny (model PySem.Challenge.rw_pd0047_01.row.prog w) A (.call (.ref 184) ⟨[.ref l, .str top tt], []⟩) R s := by
  k_fill
  w_top off
  intro X T hb hl hvs hne hn hts hok htop hh hroom hu hR
  have hlen' : True → vs.length = ts.length := fun _ => hvs.length
  have hrl' : True → (ts.map rowOf).length = ts.length := fun _ => List.length_map _
  have hr9 : (ts.map rowOf).length ≤ 9 := by rw [List.length_map]; exact hn
  have hrne : ts.map rowOf ≠ [] := fun z => by rw [List.map_eq_nil_iff.mp z] at hne; exact absurd hne (by decide)
  have hneT : True → 3 ≤ ts.length := fun _ => hne
  clear hne
  have hrok : ∀ r ∈ ts.map rowOf, RowOk r := fun r hr => by obtain ⟨x, hx, rfl⟩ := List.mem_map.mp hr; exact split_ok (hok x hx)
  have hrle : ∀ r ∈ ts.map rowOf, r.length ≤ 22 := fun r hr => by obtain ⟨x, hx, rfl⟩ := List.mem_map.mp hr; exact row_len (hts x hx)
  have hfl : ∀ i, (((ts.map rowOf).take i).foldl (fun acc r => frontsRow acc r (r.length + 1)) []).length ≤ 207 := fun i => by
    have h1 := fronts_len (n := 22) (rows := (ts.map rowOf).take i) (l := []) fun r hr => hrle r (List.mem_of_mem_take hr)
    have h2 : ((ts.map rowOf).take i).length ≤ 9 := by rw [List.length_take]; exact Nat.le_trans (Nat.min_le_right _ _) hr9
    rw [List.length_nil, Nat.zero_add] at h1
    exact Nat.le_trans h1 (Nat.mul_le_mul_right _ h2)
  refine enter [] [("paths", .ref l), ("top", .str top tt)] X T hb (fun _ h => nomatch h) (by k_is) (by k_is) (Nat.lt_of_le_of_lt (Nat.le_add_right _ _) hroom) (BindsTo.of_eq rfl) (locs rfl) ?_ (by decide) rfl rfl rfl
  intro g L' h₁ hg X' T' F N
  clear X T hb
  walk_at "go"
  all_goals (try k_data)
  (rename Fr _ _ _ _ => F1)
  (rename News _ _ _ _ => N1)
  have hlG : g.IsList l vs.toArray := ⟨_, hg _ _ hl (fun h => nomatch h), rfl, n, rfl⟩
  refine forT ?_ (by intro _; rfl)
  walk_at "go"
  rename_i Ro _ _ Fo _ l2 Du _ l3 Dx _ l4 _ _ _ _
  refine for_listH (fun i => DueA l Ro Fo Du top tt [] [] ((ts.map rowOf).take i) (((ts.map rowOf).take i).foldl (fun acc r => frontsRow acc r (r.length + 1)) [])) hh F1
    (newsVia (l' := (Ro, listOf [].toArray 0) :: (Fo, listOf [].toArray 0) :: (Du, listOf #[] 0) :: []) N1 (fun N => by walk_at "ro"))
    ⟨[], [], 0, 0, [], ⟨rfl, rfl, rfl, rfl, rfl, trivial⟩, rfl, .nil, .nil, (fun p hp => nomatch hp), (fun p hp => nomatch hp), (fun p hp => nomatch hp)⟩ [] (fun p hp => nomatch hp) (fun i m' n' h => h.noIt) (.inl hlG) (by intro _ _; rfl) ?turn1 ?done1
  case turn1 =>
    clear F1 N1
    rintro i v m₁ news₁ S T1 I oI hi hv ⟨rv, fv, kr, kf, own, hm, rfl, hr, hf, hoff, hno, hfix⟩ F2 N2 hI hiI hT1
    replace F2 := hm.canon F2
    clear hfix
    have hi' : i < ts.length := hlen' trivial ▸ hi
    have hir : i < (ts.map rowOf).length := by rw [hrl' trivial]; exact hi'
    obtain ⟨tx, ev⟩ := strs_getD hvs (j := i) hi'
    have hve : v = .str (ts.getD i "") tx := by
      rw [List.getD_eq_getElem?_getD, hv] at ev; exact ev
    subst hve
    clear ev hv
    have hxm : ts.getD i "" ∈ ts := getD_mem' hi'
    have hrx : (ts.map rowOf).getD i [] = rowOf (ts.getD i "") := rowAt_map hi'
    have hxl := hts _ hxm
    obtain ⟨hI1, hI⟩ := allS hI
    obtain ⟨hI2, hI⟩ := allS hI
    obtain ⟨hI3, hI⟩ := allS hI
    have hI4 := hI
    have hoff2 : OwnOff ((I, oI) :: own) [Ro, Fo, Du] := off_cons (by exact (allC (hI1) (allC (hI2) (allC (hI3) allN)))) hoff
    replace N2 := newsVia (l' := (Ro, listOf rv.toArray kr) :: (Fo, listOf fv.toArray kf) :: (Du, listOf #[] 0) :: ((I, oI) :: own)) N2 (fun N => by walk_at "ro")
    have hIo : (I, oI) ∈ (I, oI) :: own := .head _
    have hno2 : NoIt [(I, oI)] ((I, oI) :: own) := fun p hp => by
      rcases List.mem_cons.mp hp with rfl | hp
      · exact .inr (.head _)
      · exact (hno p hp).imp id (fun h => nomatch h)
    replace hr := hr.mono (B' := (I, oI) :: own) fun p hp => .tail _ hp
    replace hf := hf.mono (B' := (I, oI) :: own) fun p hp => .tail _ hp
    generalize (I, oI) :: own = own2 at N2 hoff2 hIo hno2 hr hf
    walk_at "go"
    refine listCompE [] ?_ rfl rfl (by decide) (by intro _; rfl)
    walk_at "go"
    all_goals (try k_data)
    rename_i sp h6 k6 e1 hsp e3 hisl F6 N6
    rw [e1] at hsp e3
    have hsl := split_le (ts.getD i "") "/"
    have hspl : (Txt.split (ts.getD i "") "/").length ≤ 22 := Nat.le_trans hsl (Nat.add_le_add_right hxl 2)
    generalize strValues sp = us at hsp hisl N6
    clear e1
    refine' compE (p := keepV) (R := fun _ v y => y = v) ?Sc ?s2c ?Fc ?Nc ?monoc ?c1c ?c2c ?c3c ?bodyc ?finc
    case Fc => exact F6
    case Nc => exact N6
    case Sc => exact Src.list (items := us.toArray) hh hisl
    case s2c => rw [List.size_toArray, hsp.length]; exact Nat.le_trans hspl (by decide)
    case c1c => decide
    case c2c => rfl
    case c3c => rfl
    case monoc => intro B B' v y _ h; exact h
    case bodyc =>
      have hus : ∀ (i : Nat) v, us.toArray[i]? = some v → ∃ x t, v = .str x t ∧ x.length ≤ 100 := fun j v e => by
        obtain ⟨x, t, e, hx⟩ := strs_at hsp j v (by simpa using e)
        exact ⟨x, t, e, Nat.le_trans (e3 x hx) (Nat.le_trans hxl (by decide))⟩
      refine ⟨fun C i v s₃ m₃ hP F3 hm N3 => wpAny_tests_one ?_, fun C i v s₃ m₃ hP _ F3 hm N3 => ?_⟩
      · obtain ⟨x, t, rfl, hxm⟩ := hus i v hP
        have F3k := F3.keep
        replace F3 := Has.canon (ps := [("piece", Value.str x t)]) ⟨hm, trivial⟩ F3
        dsimp only [List.cons_append, List.nil_append] at N3
        clear F6 N6
        refine wpAny_mono (Q := TestQ "piece" keepV C s₃ (.str x t)) ?_ (fun _ _ h => h.out) (fun _ _ e => e)
        walk_at "go"
        all_goals (try k_data)
        (rename Fr _ _ _ _ => F13)
        (rename News _ _ _ _ => N13)
        exact ⟨keep_any x, keepsBut_of (fun a o e => F3k a o e) F13 N13 (fun p hp => by walk_at "mem"), _, F13.ns, rfl⟩
      · obtain ⟨x, t, rfl, hxm⟩ := hus i v hP
        have F3k := F3.keep
        replace F3 := Has.canon (ps := [("piece", Value.str x t)]) ⟨hm, trivial⟩ F3
        dsimp only [List.cons_append, List.nil_append] at N3
        clear F6 N6
        walk_at "go"
        all_goals (try k_data)
        (rename Fr _ _ _ _ => F13)
        (rename News _ _ _ _ => N13)
        exact ⟨keepsBut_of (fun a o e => F3k a o e) F13 N13 (fun p hp => by walk_at "mem"), [], fun q hq => (nomatch hq), rfl⟩
    case finc =>
      intro D8 h8 tk8 ys8 k8 vv8 B8 F8 O8 hlen8 hP8 hpr8
      have hv8 := list_of_at hlen8 hP8
      rw [hv8] at hpr8
      have hst8 : StrsAre ys8 (rowOf (ts.getD i "")) := paired_eq hpr8 ▸ strs_filter hsp
      have hy8l : ys8.length = (rowOf (ts.getD i "")).length := hst8.length
      have hrl8 := row_len hxl
      have hnD := O8.nD
      obtain ⟨nD0, hnD⟩ := allS hnD
      obtain ⟨nD1, hnD⟩ := allS hnD
      obtain ⟨nD2, hnD⟩ := allS hnD
      obtain ⟨nD3, hnD⟩ := allS hnD
      have nD4 := hnD
      have N8 := newsVia (l' := (Ro, listOf rv.toArray kr) :: (D8, listOf ys8.toArray k8) :: (Fo, listOf fv.toArray kf) :: (Du, listOf #[] 0) :: own2) O8.N (fun N => by walk_at "ro")
      have hrv9 : rv.length ≤ 9 := by rw [← pairedLen hr, List.length_take]; exact Nat.le_trans (Nat.min_le_right _ _) hr9
      have hy8b : ys8.length ≤ 22 := by rw [hy8l]; exact hrl8
      clear F6 N6 O8 hpr8 hv8 hP8 hlen8 hsp hisl e3
      repeat' ((fail_if_success (with_reducible show wpAny _ _ (call _ _) _ _ _)); (first | walk1 | (dsimp only; walk1)))
      all_goals (try k_data)
      have hRo : ∀ p ∈ (D8, listOf ys8.toArray k8) :: (Fo, listOf fv.toArray kf) :: (Du, listOf #[] 0) :: own2, p.1 ≠ Ro := by
        exact (allC (fun e => nD1 e.symm) (allC (Nat.ne_of_gt l2) (allC (Nat.ne_of_gt l3.2) (fun p hp => hoff2 p hp _ (.head _)))))
      refine append_list F8 N8 (.head hRo) (Nat.le_trans hrv9 (by decide)) fun h9 F9 N9 => ?_
      clear F8 N8
      have hr2 : RowsAre ((D8, listOf ys8.toArray k8) :: own2) ((ts.map rowOf).take i ++ [rowOf (ts.getD i "")]) (rv ++ [.ref D8]) := pairedSnoc (hr.mono fun p hp => .tail _ hp) ⟨D8, ys8, k8, rfl, .head _, hst8⟩
      have hf2 := hf.mono (B' := (D8, listOf ys8.toArray k8) :: own2) fun p hp => .tail _ hp
      have hoff3 : OwnOff ((D8, listOf ys8.toArray k8) :: own2) [Ro, Fo, Du] := off_cons (by exact (allC (nD1) (allC (nD2) (allC (nD3) allN)))) hoff2
      have hno3 := noIt_head (a := D8) (xs := ys8.toArray) (k := k8) hno2
      replace N9 := newsVia (l' := (Ro, listOf (rv ++ [Value.ref D8]).toArray (kr + 1)) :: (Fo, listOf fv.toArray kf) :: (Du, listOf #[] 0) :: ((D8, listOf ys8.toArray k8) :: own2)) N9 (fun N => by walk_at "ro")
      have hIo3 : (I, oI) ∈ (D8, listOf ys8.toArray k8) :: own2 := .tail _ hIo
      have hD8 : (D8, listOf ys8.toArray k8) ∈ (D8, listOf ys8.toArray k8) :: own2 := .head _
      generalize (D8, listOf ys8.toArray k8) :: own2 = own3 at N9 hr2 hf2 hoff3 hno3 hIo3 hD8
      clear hr hf hoff2 hno2 hIo hRo
      replace N9 := newsDup (p := (D8, listOf ys8.toArray k8)) (by simp [hD8]) N9
      walk_at "go"
      refine forT ?_ (by intro _; rfl)
      repeat' ((fail_if_success (with_reducible show wpAny _ _ (subscriptTail _ _ _ _) _ _ _)); (first | walk1 | (dsimp only; walk1)))
      all_goals (try k_data)
      (rename News _ _ _ _ => N10)
      refine item_last ⟨_, (N10 (Ro, _) (by walk_at "mem")).1, rfl, _, rfl⟩ ?_ (by with_unfolding_all rfl) (by intro _; with_unfolding_all rfl)
      walk_at "go"
      all_goals (try k_data)
      (rename Fr _ _ _ _ => F11)
      (rename News _ _ _ _ => N11)
      (rename IsRange _ _ _ _ _ _ _ _ => hr11)
      rw [hy8l] at hr11
      have hfle := hfl i
      clear hy8l
      refine for_rangeH (k := (rowOf (ts.getD i "")).length + 1) (fun j => DueA l Ro Fo Du top tt [(I, oI)] [(I, oI)] ((ts.map rowOf).take i ++ [rowOf (ts.getD i "")]) (frontsRow (((ts.map rowOf).take i).foldl (fun acc r => frontsRow acc r (r.length + 1)) []) (rowOf (ts.getD i "")) j)) hh F11
        (newsVia (l' := (Ro, listOf (rv ++ [Value.ref D8]).toArray (kr + 1)) :: (Fo, listOf fv.toArray kf) :: (Du, listOf #[] 0) :: own3) N11 (fun N => by walk_at "ro"))
        ⟨_, fv, kr + 1, kf, own3, ⟨rfl, rfl, rfl, rfl, rfl, trivial⟩, rfl, hr2, hf2, hoff3, hno3, fun p hp => by rcases List.mem_cons.mp hp with rfl | hp; exact hIo3; cases hp⟩ [(I, oI)] (fun p hp => by rcases List.mem_cons.mp hp with rfl | hp; exact .tail _ (.tail _ (.tail _ hIo3)); cases hp) (fun j m' n' h => h.noIt) (by exact hr11) (Nat.le_trans (Nat.succ_le_succ hrl8) (by decide)) (by intro _ _; rfl) ?turn2 ?done2
      case turn2 =>
        clear F11 N11 hr2 hf2 hoff3 hno3 hIo3 hD8 hm hr11
        have hfok := fronts_ok (rows := (ts.map rowOf).take i) (l := []) (fun q hq => nomatch hq) (fun r hr => hrok r (List.mem_of_mem_take hr))
        have hrow := split_ok (hok _ hxm)
        generalize (((ts.map rowOf).take i).foldl (fun acc r => frontsRow acc r (r.length + 1)) []) = fs0 at hfle hfok
        rintro j tj m₂ news₂ S2 T2 I2 oI2 hj ⟨rv, fv, kr, kf, own, hm, rfl, hr, hf, hoff, hno, hfix⟩ F12 N12 hI2 hiI2 hT2
        replace F12 := hm.canon F12
        obtain ⟨rv', aR, usR, kR, rfl, hmR, hsR⟩ := rows_last hr
        obtain ⟨hJ1, hI2⟩ := allS hI2
        obtain ⟨hJ2, hI2⟩ := allS hI2
        obtain ⟨hJ3, hI2⟩ := allS hI2
        have hJ4 := hI2
        replace N12 := newsDup (p := (aR, listOf usR.toArray kR)) (by walk_at "mem") N12
        have hfs := frontsRow_len fs0 (rowOf (ts.getD i "")) j
        have hfv := pairedLen hf
        have hfvb : fv.length ≤ 229 := by rw [← hfv]; exact Nat.le_trans hfs (Nat.add_le_add hfle (Nat.le_trans (Nat.le_of_lt_succ hj) hrl8))
        have husb : usR.length ≤ 22 := by rw [hsR.length]; exact hrl8
        clear hfs hfv hfle hy8b
        repeat' ((fail_if_success (with_reducible show wpAny _ _ (subscriptTail _ _ _ _) _ _ _)); (first | walk1 | (dsimp only; walk1)))
        all_goals (try k_data)
        (rename News _ _ _ _ => N13)
        refine item_last ⟨_, (N13 (Ro, _) (by walk_at "mem")).1, rfl, _, rfl⟩ ?_ (by with_unfolding_all rfl) (by intro _; with_unfolding_all rfl)
        repeat' ((fail_if_success (with_reducible show wpAny _ _ (compareOp _ _ _) _ _ _)); (first | walk1 | (dsimp only; walk1)))
        all_goals (try k_data)
        (rename News _ _ _ _ => N14)
        rw [pick_upto] at N14
        have htk : StrsAre (usR.take j) ((rowOf (ts.getD i "")).take j) := StrsAre.take' hsR j
        refine row_notin (B := own) N14 (.head _) (by walk_at "mem") (fun p hp => by walk_at "mem") htk hf (take_ok hrow j) (frontsRow_ok hfok hrow j) (unit1 hu (by decide)) ?_
        repeat' ((fail_if_success (with_reducible show wpAny _ _ (subscriptTail _ _ _ _) _ _ _)); (first | walk1 | (dsimp only; walk1)))
        all_goals (try k_data)
        · (rename Fr _ _ _ _ => F15)
          (rename News _ _ _ _ => N15)
          (rename _ ∈ frontsRow _ _ _ => q1)
          refine hT2 _ _ _ ((Ro, listOf (rv' ++ [Value.ref aR]).toArray kr) :: (Fo, listOf fv.toArray kf) :: (Du, listOf #[] 0) :: own) F15 (by walk_at "ro")
            ⟨_, fv, kr, kf, own, ⟨rfl, rfl, rfl, rfl, rfl, trivial⟩, rfl, hr, ?_, hoff, hno, hfix⟩
          rw [frontsRow_succ, addNew, if_pos q1]; exact hf
        · (rename News _ _ _ _ => N15)
          (rename ¬ (_ ∈ frontsRow _ _ _) => q1)
          have hRoU := under N15 (Ro, _) (by walk_at "mem")
          have hFoU := under N15 (Fo, _) (by walk_at "mem")
          have hDuU := under N15 (Du, _) (by walk_at "mem")
          refine item_last ⟨_, (N15 (Ro, _) (by walk_at "mem")).1, rfl, _, rfl⟩ ?_ (by with_unfolding_all rfl) (by intro _; with_unfolding_all rfl)
          repeat' ((fail_if_success (with_reducible show wpAny _ _ (call _ _) _ _ _)); (first | walk1 | (dsimp only; walk1)))
          all_goals (try k_data)
          (rename Fr _ _ _ _ => F16)
          (rename News _ _ _ _ => N16)
          rw [pick_upto] at N16
          refine append_list F16 (newsVia (l' := (Fo, listOf fv.toArray kf) :: (_, listOf (usR.take j).toArray 0) :: (I2, oI2) :: (Ro, listOf (rv' ++ [Value.ref aR]).toArray kr) :: (Du, listOf #[] 0) :: own) N16 (fun N => by walk_at "ro")) (.head ?hne16) (Nat.le_trans hfvb (by decide)) fun h17 F17 N17 => ?_
          case hne16 =>
            exact (allC (Nat.ne_of_gt (Nat.lt_succ_of_lt hFoU)) (allC (fun e => hJ2 e.symm) (allC (Nat.ne_of_lt l2) (allC (Nat.ne_of_gt l3.1) (fun p hp => hoff p hp _ (.tail _ (.head _)))))))
          obtain ⟨D, N17, hD1, hD2, hD3⟩ : ∃ D, News g L' h17 ((Fo, listOf (fv ++ [Value.ref D]).toArray (kf + 1)) :: (D, listOf (usR.take j).toArray 0) :: (I2, oI2) :: (Ro, listOf (rv' ++ [Value.ref aR]).toArray kr) :: (Du, listOf #[] 0) :: own) ∧ Ro < D ∧ Fo < D ∧ Du < D := ⟨_, N17, Nat.lt_succ_of_lt hRoU, Nat.lt_succ_of_lt hFoU, Nat.lt_succ_of_lt hDuU⟩
          clear F16 N16
          walk_at "go"
          refine hT2 _ _ _ ((Ro, listOf (rv' ++ [Value.ref aR]).toArray kr) :: (Fo, listOf (fv ++ [Value.ref D]).toArray (kf + 1)) :: (Du, listOf #[] 0) :: (D, listOf (usR.take j).toArray 0) :: own) F17 (by walk_at "ro")
            ⟨_, _, kr, kf + 1, _, ⟨rfl, rfl, rfl, rfl, rfl, trivial⟩, rfl, hr.mono (fun p hp => .tail _ hp), ?_, off_cons ?_ hoff, noIt_head hno, fun p hp => .tail _ (hfix p hp)⟩
          · rw [frontsRow_succ, addNew, if_neg q1]
            exact pairedSnoc (hf.mono fun p hp => .tail _ hp) ⟨D, _, _, rfl, .head _, htk⟩
          · exact (allC (Nat.ne_of_lt hD1) (allC (Nat.ne_of_lt hD2) (allC (Nat.ne_of_lt hD3) allN)))
      case done2 =>
        clear F11 N11 hr2 hf2 hoff3 hno3 hIo3 hD8 hm hr11
        rintro m₂ news₂ h₂ tk₂ ⟨rv, fv, kr, kf, own, hm, rfl, hr, hf, hoff, hno, hfix⟩ F12 N12
        replace F12 := hm.canon F12
        walk_at "go"
        have hIm : (I, oI) ∈ own := hfix _ (.head _)
        obtain ⟨own', q1, q2, q3, q4, q5⟩ := own_drop (fun p hp => (N12 p (by walk_at "mem")).1) hiI hIm hno
        refine hT1 _ _ _ ((Ro, listOf rv.toArray kr) :: (Fo, listOf fv.toArray kf) :: (Du, listOf #[] 0) :: own') F12
          (newsCons (N12 _ (by walk_at "mem")) (newsCons (N12 _ (by walk_at "mem")) (newsCons (N12 _ (by walk_at "mem")) (newsCons (N12 _ (by walk_at "mem")) fun p hp => N12 p (.tail _ (.tail _ (.tail _ (q1 p hp))))))))
          ⟨rv, fv, kr, kf, own', ⟨rfl, rfl, rfl, rfl, rfl, trivial⟩, rfl, ?_, ?_, fun p hp => hoff p (q1 p hp), q2, fun p hp => nomatch hp⟩
        · rw [take_getD _ _ hir, hrx]; exact pairedMono (fun r y h => q3 r y h) hr
        · rw [frontsOf_take _ _ hir, hrx]; exact pairedMono (fun r y h => q3 r y h) hf
  case done1 =>
    clear F1 N1
    rintro m₁ news₁ h₁ tk₁ ⟨rv, fv, kr, kf, own, hm, rfl, hr, hf, hoff, hno, hfix⟩ F2 N2
    replace F2 := hm.canon F2
    rw [(hlen' trivial).trans (hrl' trivial).symm, List.take_length] at hr hf
    have hrv : True → (ts.map rowOf).length = rv.length := fun _ => pairedLen hr
    have hrv9 : rv.length ≤ 9 := by rw [← hrv trivial]; exact hr9
    have hfv := pairedLen hf
    have hfl9 := hfl (ts.map rowOf).length
    rw [List.take_length] at hfl9
    have hfok : ∀ q ∈ frontsOf (ts.map rowOf), RowOk q := fronts_ok (fun q hq => nomatch hq) hrok
    change RowsAre own (frontsOf (ts.map rowOf)) fv at hf
    change (frontsOf (ts.map rowOf)).length = fv.length at hfv
    change (frontsOf (ts.map rowOf)).length ≤ 207 at hfl9
    have hfv9 : fv.length ≤ 207 := by rw [← hfv]; exact hfl9
    have hfvT : True → (frontsOf (ts.map rowOf)).length = fv.length := fun _ => hfv
    clear hfl9 hfv
    clear hfix
    walk_at "go"
    refine forT ?_ (by intro _; rfl)
    walk_at "go"
    all_goals (try k_data)
    refine for_listH (vs := fv) (fun i => DueB l Ro Fo Du top tt rv fv kr kf own [] (dueT (folderOf bb) (ts.map rowOf) ((frontsOf (ts.map rowOf)).take i))) hh F2
      (newsVia (l' := (Du, listOf [].toArray 0) :: (Ro, listOf rv.toArray kr) :: (Fo, listOf fv.toArray kf) :: own) N2 (fun N => by walk_at "ro"))
      ⟨[], 0, own, ⟨rfl, rfl, rfl, rfl, rfl, trivial⟩, rfl, .nil, off_perm (by simp) hoff, hno, fun p hp => hp⟩ [] (fun p hp => nomatch hp) (fun i m' n' h => h.noIt)
      (.inr ⟨kf, fun i m' n' h => by obtain ⟨dv, kd, own2, hm, rfl, hd, hoff2, hno2, hfix⟩ := h; exact .tail _ (.tail _ (.head _))⟩) (by intro _ _; rfl) ?turn3 ?done3
    case turn3 =>
      clear F2 N2 hm
      rintro i v m₁ news₁ S T3 I oI hi hv ⟨dv, kd, own2, hm, rfl, hd, hoff2, hno2, hfix⟩ F3 N3 hI hiI hT3
      replace F3 := hm.canon F3
      have hi' : i < (frontsOf (ts.map rowOf)).length := by rw [hfvT trivial]; exact hi
      obtain ⟨aF, usF, kF, _, eF, hmF, hsF⟩ := hf.at' hi'
      rw [hv] at eF
      obtain rfl := Option.some.inj eF
      have hFm := row_getD hi'
      have hFl := front_len hrle hFm
      have hFok := hfok _ hFm
      have hFx := front_part hts hFm
      have hsu := dueT_succ (folderOf bb) (rows := ts.map rowOf) hi'
      have hdv9 : dv.length ≤ 9 := by rw [pairedLen hd]; exact Nat.le_trans (Nat.le_of_succ_le (dueT_len (folderOf bb) (rows := ts.map rowOf) hrne i)) hr9
      generalize hF : (frontsOf (ts.map rowOf)).getD i [] = F at hsF hFm hFl hFok hFx hsu
      have husl : usF.length = F.length := hsF.length
      have husF : usF.length ≤ 22 := by rw [husl]; exact hFl
      obtain ⟨hI1, hI⟩ := allS hI
      obtain ⟨hI2, hI⟩ := allS hI
      obtain ⟨hI3, hI⟩ := allS hI
      have hI4 := hI
      replace N3 := newsDup (p := (aF, listOf usF.toArray kF)) (by simp [hfix _ hmF]) N3
      walk_at "go"
      all_goals (try k_data)
      refine forT ?_ (by intro _; rfl)
      walk_at "go"
      all_goals (try k_data)
      (rename Fr _ _ _ _ => F4)
      (rename News _ _ _ _ => N4)
      rename_i Wa _ l5 _ _ _ _ _ _ _
      obtain ⟨w1, w2, w3, w4, w5, w6⟩ := l5
      rw [husl] at F4
      clear husl
      refine for_listH (vs := rv) (fun j => DueC l Ro Fo Du Wa aF top tt F dv rv fv kd kr kf ((I, oI) :: own2) [(I, oI)] (((ts.map rowOf).take j).foldl (waysTurn F) ([], 0))) hh F4
        (newsVia (l' := (Wa, listOf [].toArray 0) :: (Du, listOf dv.toArray kd) :: (Ro, listOf rv.toArray kr) :: (Fo, listOf fv.toArray kf) :: (I, oI) :: own2) N4 (fun N => by walk_at "ro"))
        ⟨[], 0, (I, oI) :: own2, _, _, ⟨rfl, rfl, rfl, rfl, rfl, rfl, rfl, rfl, rfl, trivial⟩, rfl, .nil, off_cons (by exact (allC (Nat.ne_of_gt w2) (allC (hI1) (allC (hI2) (allC (hI3) allN))))) ?off4, ?no4, fun p hp => hp⟩ [(I, oI)]
        (fun p hp => by rcases List.mem_cons.mp hp with rfl | hp; (· walk_at "mem"); cases hp) (fun i m' n' h => h.noIt)
        (.inr ⟨kr, fun i m' n' h => by obtain ⟨wv, kw, own3, t1, t2, hm, rfl, hw, hoff3, hno3, hfix3⟩ := h; exact .tail _ (.tail _ (.head _))⟩) (by intro _ _; rfl) ?turn4 ?done4
      case off4 =>
        intro p hp b hb
        rcases List.mem_cons.mp hb with rfl | hb
        · exact Nat.ne_of_lt (allLt_mem w6 p hp)
        · exact hoff2 p hp b hb
      case no4 =>
        intro p hp
        rcases List.mem_cons.mp hp with rfl | hp
        · exact .inr (.head _)
        · exact (hno2 p hp).imp id fun h => nomatch h
      case turn4 =>
        clear F4 N4 hm
        rintro j v m₂ news₂ S2 T4 I2 oI2 hj hv2 ⟨wv, kw, own3, t1, t2, hm, rfl, hw, hoff3, hno3, hfix3⟩ F5 N5 hI2 hiI2 hT4
        replace F5 := hm.canon F5
        have hj' : j < (ts.map rowOf).length := by rw [hrv trivial]; exact hj
        obtain ⟨aR, usR, kR, _, eR, hmR, hsR⟩ := hr.at' hj'
        rw [hv2] at eR
        obtain rfl := Option.some.inj eR
        have hrm := row_getD hj'
        have hrow := hrok _ hrm
        have hrlen := hrle _ hrm
        have hsw := ways_take (ts.map rowOf) F j hj'
        have hwl := ways_len F ((ts.map rowOf).take j) ([], 0)
        have htl : ((ts.map rowOf).take j).length ≤ 9 := by rw [List.length_take]; exact Nat.le_trans (Nat.min_le_right _ _) hr9
        generalize ((ts.map rowOf).take j).foldl (waysTurn F) ([], 0) = W at hm hw hsw hwl F5
        generalize (ts.map rowOf).getD j [] = r at hsR hrm hrow hrlen hsw
        rw [hsw] at hT4
        have husb : usR.length ≤ 22 := by rw [hsR.length]; exact hrlen
        have hwv9 : wv.length ≤ 9 := by rw [hw.length]; exact Nat.le_trans (Nat.le_add_right _ _) (Nat.le_trans hwl (Nat.le_trans (Nat.le_of_eq (Nat.zero_add _)) htl))
        clear hwl htl
        obtain ⟨hK1, hI2⟩ := allS hI2
        obtain ⟨hK2, hI2⟩ := allS hI2
        obtain ⟨hK3, hI2⟩ := allS hI2
        obtain ⟨hK4, hI2⟩ := allS hI2
        have hK5 := hI2
        have hmR3 := hfix3 _ (.tail _ (hfix _ hmR))
        have hmF3 := hfix3 _ (.tail _ (hfix _ hmF))
        replace N5 := newsDup (p := (aR, listOf usR.toArray kR)) (by walk_at "mem") (newsDup (p := (aF, listOf usF.toArray kF)) (by walk_at "mem") N5)
        repeat' ((fail_if_success (with_reducible show wpAny _ _ (compareOp _ _ _) _ _ _)); (first | walk1 | (dsimp only; walk1)))
        all_goals (try k_data)
        (rename News _ _ _ _ => N6)
        refine rows_eq N6 (by walk_at "mem") (by walk_at "mem") hsR hsF hrow hFok (unit1 hu (by decide)) ?_
        repeat' ((fail_if_success (with_reducible show wpAny _ _ (compareOp _ _ _) _ _ _)); (first | walk1 | (dsimp only; walk1)))
        all_goals (try k_data)
        · (rename Fr _ _ _ _ => F7)
          (rename _ = F => q1)
          rw [show waysTurn F W r = (W.1, W.2 + 1) from if_pos q1] at hT4
          exact hT4 _ _ _ ((Wa, listOf wv.toArray kw) :: (Du, listOf dv.toArray kd) :: (Ro, listOf rv.toArray kr) :: (Fo, listOf fv.toArray kf) :: own3) F7 (by walk_at "ro")
            ⟨wv, kw, own3, t1, _, ⟨rfl, rfl, rfl, rfl, rfl, rfl, rfl, rfl, rfl, trivial⟩, rfl, hw, hoff3, hno3, hfix3⟩
        · (rename News _ _ _ _ => N7)
          (rename ¬ (_ = F) => q1)
          rw [pick_upto] at N7
          refine rows_eq N7 (.head _) (by walk_at "mem") (StrsAre.take' hsR F.length) hsF (take_ok hrow _) hFok (unit1 hu (by decide)) ?_
          repeat' ((fail_if_success (with_reducible show wpAny _ _ (subscriptTail _ _ _ _) _ _ _)); (first | walk1 | (dsimp only; walk1)))
          all_goals (try k_data)
          · (rename News _ _ _ _ => N8)
            (rename List.take _ _ = F => q2)
            have hlt : F.length < r.length := by
              rcases Nat.lt_or_ge F.length r.length with q | q
              · exact q
              · rw [List.take_of_length_le q] at q2; exact absurd q2 q1
            rw [show waysTurn F W r = (addNew W.1 (r.getD F.length ""), W.2) from by unfold waysTurn; rw [if_neg q1, if_pos q2]] at hT4
            obtain ⟨tr, er⟩ := strs_getD hsR (j := F.length) hlt
            have f0 : (0 : Int) ≤ (F.length : Nat) := Int.natCast_nonneg _
            have f1 : ((F.length : Nat) : Int) < (usR.length : Nat) := by rw [hsR.length]; exact Int.ofNat_lt.mpr hlt
            have f2 : ((F.length : Nat) : Int) < 2 ^ 63 := Int.lt_of_le_of_lt (Int.ofNat_le.mpr hFl) (by decide)
            refine sub_isl (a := aR) (vs := usR) ⟨_, (N8 (aR, _) (by walk_at "mem")).1, rfl, _, rfl⟩ f0 f1 f2 ?_ (by with_unfolding_all rfl) (by intro _; with_unfolding_all rfl)
            rw [Int.toNat_natCast, er]
            repeat' ((fail_if_success (with_reducible show wpAny _ _ (subscriptTail _ _ _ _) _ _ _)); (first | walk1 | (dsimp only; walk1)))
            all_goals (try k_data)
            · (rename Fr _ _ _ _ => F9)
              (rename News _ _ _ _ => N9)
              (rename List.any _ _ = true => q3)
              rw [any_str] at q3
              rw [show addNew W.1 (r.getD F.length "") = W.1 from if_pos (of_decide_eq_true q3)] at hT4
              exact hT4 _ _ _ ((Wa, listOf wv.toArray kw) :: (Du, listOf dv.toArray kd) :: (Ro, listOf rv.toArray kr) :: (Fo, listOf fv.toArray kf) :: own3) F9 (by walk_at "ro")
                ⟨wv, kw, own3, t1, t2, ⟨rfl, rfl, rfl, rfl, rfl, rfl, rfl, rfl, rfl, trivial⟩, rfl, hw, hoff3, hno3, hfix3⟩
            · (rename Fr _ _ _ _ => F9)
              (rename News _ _ _ _ => N9)
              (rename List.any _ _ = false => q3)
              rw [any_str] at q3
              rw [show addNew W.1 (r.getD F.length "") = W.1 ++ [r.getD F.length ""] from if_neg (of_decide_eq_false q3)] at hT4
              refine sub_isl (a := aR) (vs := usR) ⟨_, (N9 (aR, _) (by walk_at "mem")).1, rfl, _, rfl⟩ f0 f1 f2 ?_ (by with_unfolding_all rfl) (by intro _; with_unfolding_all rfl)
              rw [Int.toNat_natCast, er]
              have hwT : True → StrsAre wv W.1 := fun _ => hw
              replace N9 := newsVia (l' := (Wa, listOf wv.toArray kw) :: (I2, oI2) :: (Du, listOf dv.toArray kd) :: (Ro, listOf rv.toArray kr) :: (Fo, listOf fv.toArray kf) :: own3) N9 (fun N => by walk_at "ro")
              have hWa : ∀ p ∈ (I2, oI2) :: (Du, listOf dv.toArray kd) :: (Ro, listOf rv.toArray kr) :: (Fo, listOf fv.toArray kf) :: own3, p.1 ≠ Wa := by
                exact (allC (fun e => hK1 e.symm) (allC (Nat.ne_of_lt w3) (allC (Nat.ne_of_lt w4) (allC (Nat.ne_of_lt w5) (fun p hp => hoff3 p hp _ (.head _))))))
              repeat' ((fail_if_success (with_reducible show wpAny _ _ (call _ _) _ _ _)); (first | walk1 | (dsimp only; walk1)))
              all_goals (try k_data)
              refine append_list F9 N9 (.head hWa) (Nat.le_trans hwv9 (by decide)) fun h10 F10 N10 => ?_
              clear F9 N9
              walk_at "go"
              exact hT4 _ _ _ ((Wa, listOf (wv ++ [Value.str (r.getD F.length "") tr]).toArray (kw + 1)) :: (Du, listOf dv.toArray kd) :: (Ro, listOf rv.toArray kr) :: (Fo, listOf fv.toArray kf) :: own3) F10 (by walk_at "ro")
                ⟨_, _, own3, t1, t2, ⟨rfl, rfl, rfl, rfl, rfl, rfl, rfl, rfl, rfl, trivial⟩, rfl, StrsAre.append' (hwT trivial) (.cons _ _ .nil), hoff3, hno3, hfix3⟩
          · (rename Fr _ _ _ _ => F8)
            (rename News _ _ _ _ => N8)
            (rename ¬ (List.take _ _ = F) => q2)
            rw [show waysTurn F W r = W from by unfold waysTurn; rw [if_neg q1, if_neg q2]] at hT4
            exact hT4 _ _ _ ((Wa, listOf wv.toArray kw) :: (Du, listOf dv.toArray kd) :: (Ro, listOf rv.toArray kr) :: (Fo, listOf fv.toArray kf) :: own3) F8 (by walk_at "ro")
              ⟨wv, kw, own3, t1, t2, ⟨rfl, rfl, rfl, rfl, rfl, rfl, rfl, rfl, rfl, trivial⟩, rfl, hw, hoff3, hno3, hfix3⟩
      case done4 =>
        clear F4 N4 hm
        rintro m₂ news₂ h₂ tk₂ ⟨wv, kw, own3, t1, t2, hm, rfl, hw, hoff3, hno3, hfix3⟩ F5 N5
        replace F5 := hm.canon F5
        rw [← hrv trivial, List.take_length] at hm hw F5
        change StrsAre wv (waysOf (ts.map rowOf) F).1 at hw
        have hwl := ways_len F (ts.map rowOf) ([], 0)
        change (waysOf (ts.map rowOf) F).1.length + (waysOf (ts.map rowOf) F).2 ≤ _ at hwl
        have hwvl : True → wv.length = (waysOf (ts.map rowOf) F).1.length := fun _ => hw.length
        have hw9 : wv.length + (waysOf (ts.map rowOf) F).2 ≤ 9 := by rw [hw.length]; exact Nat.le_trans hwl (Nat.le_trans (Nat.le_of_eq (Nat.zero_add _)) hr9)
        clear hwl
        have hIm : (I, oI) ∈ own3 := hfix3 _ (.head _)
        have hmF3 := hfix3 _ (.tail _ (hfix _ hmF))
        replace N5 := newsDup (p := (aF, listOf usF.toArray kF)) (by walk_at "mem") N5
        have hfix4 : ∀ p ∈ own2, p ∈ own3 := fun p hp => hfix3 _ (.tail _ hp)
        walk_at "go"
        all_goals (try k_data)
        (rename Fr _ _ _ _ => F6)
        (rename News _ _ _ _ => N6)
        have hFsum : (F.map (·.length)).sum ≤ 100 * F.length := sum_short fun x hx => Nat.le_trans (hFx x hx) (by decide)
        refine join_listW (items := usF.toArray) ⟨_, (N6 (aF, _) (by walk_at "mem")).1, rfl, _, rfl⟩ hsF (by decide) (Nat.le_trans (Nat.add_le_add (Nat.le_trans hFsum (Nat.mul_le_mul_left 100 hFl)) hFl) (by decide)) fun t8 k8 => ?_
        have hJl := join_short (fun x hx => Nat.le_trans (hFx x hx) (by decide)) (Nat.le_trans hFl (by decide))
        have htl : top.length ≤ 1 := by rw [htop]; cases bb <;> decide
        refine PyProof.Rows.add_str (fun t9 k9 => ?_) (by rw [sizeLine_eq]; exact Nat.le_trans (Nat.add_le_add htl hJl) (by decide))
        have eF : top ++ Txt.join "/" F = folderOf bb F := by rw [htop]; rfl
        rw [eF]
        repeat' ((fail_if_success (with_reducible show wpAny _ _ (binaryOp Operator.Mult _ _) _ _ _)); (first | walk1 | (dsimp only; walk1)))
        all_goals (try k_data)
        (rename Fr _ _ _ _ => F7)
        (rename News _ _ _ _ => N7)
        rename_i Tu _ x1 Li _ x2
        obtain ⟨x1a, x1b, x1c, x1d, x1e, x1f⟩ := x1
        obtain ⟨x2a, x2b, x2c, x2d, x2e, x2f, x2g⟩ := x2
        have hxn : ((wv.length : Int) + ((waysOf (ts.map rowOf) F).2 : Nat) - 1).toNat = (waysOf (ts.map rowOf) F).1.length + (waysOf (ts.map rowOf) F).2 - 1 := toNat_pred (hwvl trivial)
        have hc9 : (waysOf (ts.map rowOf) F).1.length + (waysOf (ts.map rowOf) F).2 - 1 ≤ 9 := by rw [← hwvl trivial]; exact Nat.le_trans (Nat.sub_le _ _) hw9
        refine KMa.mul (vs := [.ref Tu]) (ws := List.replicate ((waysOf (ts.map rowOf) F).1.length + (waysOf (ts.map rowOf) F).2 - 1) (.ref Tu)) F7 N7 ⟨_, (N7 (Li, _) (by walk_at "mem")).1, rfl, _, rfl⟩ (kma_lo _ _) (kma_hi hw9)
          (kma_rep hw9) (by show (List.replicate ((wv.length : Int) + ((waysOf (ts.map rowOf) F).2 : Nat) - 1).toNat [Value.ref Tu]).flatten = _; rw [hxn]; simp) fun Dm h10 F10 N10 lt10 => ?_
        generalize hc : (waysOf (ts.map rowOf) F).1.length + (waysOf (ts.map rowOf) F).2 - 1 = c at hsu N10 hxn hc9
        replace N10 := newsVia (l' := (Du, listOf dv.toArray kd) :: (Dm, listOf (List.replicate c (Value.ref Tu)).toArray 0) :: (Tu, tupOf [Value.int (-(F.length : Int)) tk₂, Value.str (folderOf bb F) t9] 0) :: (Ro, listOf rv.toArray kr) :: (Fo, listOf fv.toArray kf) :: own3) N10 (fun N => by walk_at "ro")
        have hDuN : ∀ p ∈ (Dm, listOf (List.replicate c (Value.ref Tu)).toArray 0) :: (Tu, tupOf [Value.int (-(F.length : Int)) tk₂, Value.str (folderOf bb F) t9] 0) :: (Ro, listOf rv.toArray kr) :: (Fo, listOf fv.toArray kf) :: own3, p.1 ≠ Du := by
          exact (allC (Nat.ne_of_gt (lt10 (Du, _) (by walk_at "mem"))) (allC (Nat.ne_of_gt x1c) (allC (Nat.ne_of_lt l3.2) (allC (Nat.ne_of_lt l3.1) (fun p hp => hoff3 p hp _ (.tail _ (.head _)))))))
        clear F7 N7 lt10
        repeat' ((fail_if_success (with_reducible show wpAny _ _ (call _ _) _ _ _)); (first | walk1 | (dsimp only; walk1)))
        all_goals (try k_data)
        refine ext_list F10 N10 hDuN (.head _) (Nat.le_trans hdv9 (by decide)) (by rw [List.length_replicate]; exact Nat.le_trans hc9 (by decide)) fun k12 h12 F12 N12 => ?_
        clear F10 N10
        walk_at "go"
        obtain ⟨own', q1, q2, q3, q4, q5⟩ := own_drop (fun p hp => (N12 p (by walk_at "mem")).1) hiI hIm hno3
        refine hT3 _ _ _ ((Du, listOf (dv ++ List.replicate c (Value.ref Tu)).toArray k12) :: (Ro, listOf rv.toArray kr) :: (Fo, listOf fv.toArray kf) :: (Tu, tupOf [Value.int (-(F.length : Int)) tk₂, Value.str (folderOf bb F) t9] 0) :: own') F12
          (newsCons (N12 _ (by walk_at "mem")) (newsCons (N12 _ (by walk_at "mem")) (newsCons (N12 _ (by walk_at "mem")) (newsCons (N12 _ (by walk_at "mem")) (newsCons (N12 _ (by walk_at "mem")) fun p hp => N12 p (.tail _ (.tail _ (.tail _ (.tail _ (.tail _ (q1 p hp)))))))))))
          ⟨_, k12, _, ⟨rfl, rfl, rfl, rfl, rfl, trivial⟩, rfl, ?_, off_cons ?_ (off_perm (by simp) fun p hp => hoff3 p (q1 p hp)), fun p hp => ?_, fun p hp => .tail _ (q5 p (hfix4 _ (hfix p hp)) (hI4 p (hfix p hp)))⟩
        · rw [hsu]
          exact paired_app (pairedMono (fun v t h => (q4 _ _ (h.mono hfix4)).mono fun p hp => .tail _ hp) hd) (paired_repl ⟨Tu, 0, _, rfl, .head _, .cons (.int _ _) (.cons (.str _ _) .nil)⟩ c)
        · exact (allC (Nat.ne_of_lt x1c) (allC (Nat.ne_of_lt x1d) (allC (Nat.ne_of_lt x1e) allN)))
        · rcases List.mem_cons.mp hp with rfl | hp
          · exact .inl fun ⟨_, e⟩ => (nomatch e)
          · exact q2 p hp
    case done3 =>
      clear F2 N2 hm
      rintro m₁ news₁ h₁ tk₁ ⟨dv, kd, own2, hm, rfl, hd, hoff2, hno2, hfix⟩ F3 N3
      replace F3 := hm.canon F3
      rw [← hfvT trivial, List.take_length] at hd
      have hdl : dv.length = (dueOf (ts.map rowOf)).length := by
        rw [pairedLen hd]; unfold dueT dueOf; rw [List.length_map]
      have hdn := due_len (rows := ts.map rowOf) hrne
      have hd3 : 3 ≤ (dueOf (ts.map rowOf)).length + 1 := by rw [hdn, hrl' trivial]; exact hneT trivial
      have hd2 : 2 ≤ dv.length := by rw [hdl]; exact Nat.le_of_succ_le_succ hd3
      have hd9 : dv.length ≤ 9 := by rw [hdl]; exact Nat.le_trans (Nat.le_of_succ_le (Nat.le_of_eq hdn)) hr9
      clear hdl hdn hd3
      walk_at "go"
      (rename Fr _ _ _ _ => F4)
      (rename News _ _ _ _ => N4)
      refine LCp.ListComp_P F4 rfl (by decide) rfl (by decide) rfl rfl (by decide) ?_ (by intro _; rfl)
      repeat' ((fail_if_success (with_reducible show wpAny _ _ (call _ _) _ _ _)); (first | walk1 | (dsimp only; walk1)))
      all_goals (try k_data)
      (rename Fr _ _ _ _ => F5)
      (rename News _ _ _ _ => N5)
      obtain ⟨hT, hdec⟩ := dec_items2 N5 (fun p hp => by walk_at "mem") hd
      generalize decH at2 _ = dec at hT hdec
      refine sorted_tup2 (dec := dec) F5 N5 ⟨_, (N5 (Du, _) (by walk_at "mem")).1, rfl, _, rfl⟩ (fun v hv => (hT v hv).mono fun p hp => by walk_at "mem") hd2 (Nat.lt_of_le_of_lt hd9 (by decide)) fun D out c h6 F6 N6 lt6 hp6 hs6 => ?_
      have hol := hp6.length_eq
      refine LCp.SrcLP.ledger hh F6 N6 (.head _) (by show out.length ≤ _; rw [sizeLine_eq, hol]; exact Nat.le_trans hd9 (by decide)) fun g' => pick_rest (dec := dec) (fun v hv => (hT v (hp6.mem_iff.mp hv)).mono fun p hp => by walk_at "mem") (.inr ⟨_, .head _, rfl, _, rfl⟩) (fun _ => rfl) (fun _ => rfl) (by decide) ?_ out.length 0 [] (by simp) .nil
      intro ys hys D' h' tk F' N' off
      clear F5 N5 F6 N6
      walk_at "go"
      have DN := N' _ (.head _)
      refine hR _ _ D' ys _ (out.map dec) (fun x o e => F'.keep x o (hg x o e (fun h => nomatch h))) ?_ DN.1 (by rw [List.map_map]; exact hys) ((hp6.map dec).trans (by rw [hdec]; exact List.Perm.refl _)) (List.pairwise_map.mpr hs6)
      cases e : s.heap.get? D' with
      | none => rfl
      | some o => rw [hg _ o e (fun h => nomatch h)] at DN; exact absurd DN.2.2 (by simp)
end

section
variable {w : World} {mean : ExcName → Option Value} {mg mb : Str → Option Value} {b g : Heap} {A : Around} {s : Shared} {L : Addr} {m : Str → Option Value} {rest : List (Addr × Obj)} {prog : Program} {env : Env} {news : List (Addr × Obj)}
theorem tied_call {R : Result → Shared → Prop} {l : Addr} {vs : List Value} {n : Nat} {ts : List Str} {bb : Bool} : (hd.heap_39 w.params).In b → (T : Top hd.view_39 (looseW hd.view_39 []) mean mg mb b) → (hb : ∀ x o, b.get? x = some o → s.heap.get? x = some o) →
  (hl : s.heap.get? l = some (listOf vs.toArray n)) → (hvs : StrsAre vs ts) → (hne : 0 < ts.length) → (hn : ts.length ≤ 9) → (hts : ∀ x ∈ ts, x.length ≤ 20) → (habs : ∀ x ∈ ts, Txt.startswith x "/" = bb) →
  (hh : A.handled = none) → (hroom : A.depth + 60 < recursionLimit) → (hu : A.units + 2000 < cLine) →
  (hR : ∀ h' tk a us k bs noted, (∀ x o, s.heap.get? x = some o → h'.get? x = some o) → s.heap.get? a = none → h'.get? a = some (listOf us.toArray k) → StrsAre us (noted.map (folderOf bb)) → us.length ≤ 200 →
    Kru (namesOf (ts.map rowOf)) (folderOf bb) (ts.map rowOf) bs [] noted → R (.ok (.ret (.ref a))) { s with heap := h', toks := tk }) →
  codeAny (model PySem.Challenge.rw_pd0047_01.row.prog w) A (.call (.ref 172) ⟨[.ref l], []⟩) R s := by
  k_fill
  w_top off
  intro X T hb hl hvs hne hn hts habs hh hroom hu hR
  refine enterC [("paths", .ref l)] X T hb (by k_is) (by k_is) (by omega) (BindsTo.of_eq rfl) rfl (by decide +kernel) ?_ rfl rfl rfl
  intro L' h₁ tk cells X' T' F N Y
  k_cells Y
  rename_i op0 oi0 oj0 oc0 dp0 di0 dj0 dc0
  clear X T hb
  have hlg : s.heap.IsList l vs.toArray := ⟨_, hl, rfl, n, rfl⟩
  have hlen : vs.length = ts.length := hvs.length
  walk_at "go"
  refine listCompE [] ?_ rfl rfl (by decide) (by intro _; rfl)
  walk_at "go"
  (rename Fr _ _ _ _ => F5)
  (rename News _ _ _ _ => N5)
  (rename IsRange _ _ _ _ _ _ _ _ => hr5)
  refine' compE (n := ts.length) (p := fun _ => true) (R := fun B v y => ∃ (i : Nat) (t t' : Tok) (a : Addr) (k : Nat), v = .int i t ∧ y = .ref a ∧ (a, listOf #[.int i t'] k) ∈ B) ?S ?s2 ?F ?N ?mono ?c1 ?c2 ?c3 ?body ?fin
  case F => exact F5
  case N => exact N5
  case S => exact Src.range (k := ts.length) hh (by exact hr5) (by omega)
  case s2 => omega
  case c1 => decide
  case c2 => rfl
  case c3 => rfl
  case mono => rintro B B' v y h ⟨i, t, t', a, k, e1, e2, hm⟩; exact ⟨i, t, t', a, k, e1, e2, h _ hm⟩
  case body =>
    refine ⟨fun C i v s₃ m₃ hP F3 hm N3 => wpAny_tests_nil ⟨rfl, keepsBut_of (fun a o e => F3.keep a o e) F3 N3 (fun p hp => List.mem_append_right _ hp), m₃, F3.ns, hm⟩, fun C i v s₃ m₃ hP _ F3 hm N3 => ?_⟩
    obtain ⟨t, rfl⟩ := hP
    have F3k := F3.keep
    replace F3 := Has.canon (ps := [("k", Value.int i t)]) ⟨hm, trivial⟩ F3
    dsimp only [List.cons_append, List.nil_append] at N3
    clear F5 N5
    walk_at "go"
    all_goals (try k_data)
    (rename Fr _ _ _ _ => F6)
    (rename News _ _ _ _ => N6)
    refine ⟨keepsBut_of (fun a o e => F3k a o e) F6 N6 (fun p hp => by walk_at "mem"), [_], fun q hq => ?_, i, t, t, _, 0, rfl, rfl, .head _⟩
    simp only [List.mem_cons, List.not_mem_nil, or_false] at hq
    rw [hq]
    exact ⟨(N6 _ (.head _)).1, fresh_all (by first | assumption | (rename _ ∧ _ => hlast; first | exact hlast.2.2.2.2 | exact hlast.2.2.2 | exact hlast.2.2.2.2.2)) N6⟩
  case fin =>
    intro D6 h6 tk6 ys6 k6 vv6 B6 F6 O6 hlen6 hP6 hpr6
    have N6 := newsMove O6.N
    dsimp only [List.cons_append, List.nil_append] at N6
    have hBs : BunsAre B6 ((List.range ts.length).map fun k => [k]) ys6 := by
      rw [filter_true] at hpr6
      exact singles_are hlen6 hP6 hpr6
    have hoff6 : OwnOff B6 [L' + 1 + 1 + 1 + 1, L' + 1 + 1 + 1, L' + 1 + 1, L' + 1] := fun p hp b hb => by
      have h1 := O6.Bn p hp
      simp only [List.mem_cons, List.not_mem_nil, or_false] at hb
      rcases hb with rfl | rfl | rfl | rfl
      · exact h1 (_, _) (.head _)
      · exact h1 (_, _) (.tail _ (.head _))
      · exact h1 (_, _) (.tail _ (.tail _ (.head _)))
      · exact h1 (_, _) (.tail _ (.tail _ (.tail _ (.head _))))
    have hnD := O6.nD
    simp only [List.forall_mem_cons] at hnD
    clear F5 N5
    walk_at "go"
    (rename Fr _ _ _ _ => F7)
    (rename News _ _ _ _ => N7)
    rename_i Hp hh1 l1a No hh2 l1b D9 hh3 l1c hh4 hh5 hh6 hh7
    clear l1c hh1 hh2 hh3 hh4 hh5 hh6
    obtain ⟨lH1, lH2, lH3, lH4, lH5, lH6⟩ := l1a
    obtain ⟨lN1, lN2, lN3, lN4, lN5, lN6, lN7⟩ := l1b
    have hoff7 : OwnOff ((D6, listOf ys6.toArray k6) :: B6) [Hp, No, L' + 1 + 1 + 1 + 1, L' + 1 + 1 + 1, L' + 1 + 1, L' + 1] := fun p hp b hb => by
      rcases List.mem_cons.mp hp with rfl | hp
      · simp only [List.mem_cons, List.not_mem_nil, or_false] at hb
        rcases hb with rfl | rfl | rfl | rfl | rfl | rfl
        · exact Nat.ne_of_lt lH1
        · exact Nat.ne_of_lt lN2
        · exact fun e => hnD.1 e.symm
        · exact fun e => hnD.2.1 e.symm
        · exact fun e => hnD.2.2.1 e.symm
        · exact fun e => hnD.2.2.2.1 e.symm
      · rcases List.mem_cons.mp hb with rfl | hb
        · exact Nat.ne_of_lt (allLt_mem lH6 p hp)
        · rcases List.mem_cons.mp hb with rfl | hb
          · exact Nat.ne_of_lt (allLt_mem lN7 p hp)
          · exact hoff6 p hp b hb
    have hrr : ∀ (ol op oi oj oc : Obj) (own : List (Addr × Obj)), OwnOff own [Hp, No, L' + 1 + 1 + 1 + 1, L' + 1 + 1 + 1, L' + 1 + 1, L' + 1] → ∀ p ∈ (No, ol) :: (L' + 1 + 1 + 1 + 1, op) :: (L' + 1 + 1 + 1, oi) :: (L' + 1 + 1, oj) :: (L' + 1, oc) :: own, p.1 ≠ Hp := by
      intro ol op oi oj oc own hoff p hp
      simp only [List.mem_cons] at hp
      rcases hp with rfl | rfl | rfl | rfl | rfl | hp
      · exact Nat.ne_of_gt lN1
      · exact Nat.ne_of_lt lH2
      · exact Nat.ne_of_lt lH3
      · exact Nat.ne_of_lt lH4
      · exact Nat.ne_of_lt lH5
      · exact hoff p hp _ (.head _)
    refine forT ?_ (by intro _; rfl)
    walk_at "go"
    (rename Fr _ _ _ _ => F8)
    (rename News _ _ _ _ => N8)
    (rename IsRange _ _ _ _ _ _ _ _ => hr8)
    refine for_rangeH (k := ts.length) (fun j m led => ∃ xj, PairJ l D6 Hp No (L' + 1) (L' + 1 + 1) (L' + 1 + 1 + 1) (L' + 1 + 1 + 1 + 1) ((D6, listOf ys6.toArray k6) :: B6) B6 xj (pairsT (folderOf bb) (ts.map rowOf) j) m led) hh F8
      (newsVia (l' := (Hp, listOf #[] 0) :: (No, listOf #[] 0) :: (L' + 1 + 1 + 1 + 1, op0) :: (L' + 1 + 1 + 1, oi0) :: (L' + 1 + 1, oj0) :: (L' + 1, oc0) :: (D6, listOf ys6.toArray k6) :: B6) N8 (fun N => by walk_at "ro"))
      ?h08 B6 (fun p hp => by walk_at "mem") (fun i m' n' h => let ⟨_, h⟩ := h; h.noIt) (by exact hr8) (by omega) (by intro _ _; rfl) ?turn8 ?done8
    case h08 =>
      refine ⟨_, [], 0, op0, oi0, oj0, oc0, _, _, _, ⟨rfl, rfl, rfl, trivial⟩, rfl, dp0, di0, dj0, dc0, .nil, hoff7, ?_, fun p hp => hp⟩
      intro p hp
      rcases List.mem_cons.mp hp with rfl | hp
      · exact .inl fun ⟨_, e⟩ => (nomatch e)
      · exact .inr hp
    case turn8 =>
      rintro j t m₁ news₁ S8 T8 I oI hj ⟨xj, hv, kh, op, oi, oj, oc, own, xp, xi, hm, rfl, dp, di, dj, dc, hits, hoff, hno, hfix⟩ F9 N9 hI hiI hT8
      replace F9 := hm.canon F9
      have hfI : ∀ p ∈ (D6, listOf ys6.toArray k6) :: B6, p.1 ≠ I := fun p hp => hI p (by simp [hfix p hp])
      simp only [List.forall_mem_cons] at hI
      clear F8 N8
      have hoff2 : OwnOff ((I, oI) :: own) [Hp, No, L' + 1 + 1 + 1 + 1, L' + 1 + 1 + 1, L' + 1 + 1, L' + 1] := off_cons (by exact (allC (hI.1) (allC (hI.2.1) (allC (hI.2.2.1) (allC (hI.2.2.2.1) (allC (hI.2.2.2.2.1) (allC (hI.2.2.2.2.2.1) allN))))))) hoff
      replace N9 := newsVia (l' := (Hp, listOf hv.toArray kh) :: (No, listOf #[] 0) :: (L' + 1 + 1 + 1 + 1, op) :: (L' + 1 + 1 + 1, oi) :: (L' + 1 + 1, oj) :: (L' + 1, oc) :: ((I, oI) :: own)) N9 (fun N => by walk_at "ro")
      have hIo : (I, oI) ∈ (I, oI) :: own := .head _
      have hoo : ∀ p ∈ own, p ∈ (I, oI) :: own := fun p hp => .tail _ hp
      have hno2 : NoIt ((I, oI) :: B6) ((I, oI) :: own) := fun p hp => by
        rcases List.mem_cons.mp hp with rfl | hp
        · exact .inr (.head _)
        · exact (hno p hp).imp id (fun h => .tail _ h)
      generalize (I, oI) :: own = own2 at N9 hoff2 hIo hoo hno2
      walk_at "go"
      (rename _ = Data.cell _ => dj2)
      refine forT ?_ (by intro _; rfl)
      walk_at "go"
      (rename Fr _ _ _ _ => F10)
      (rename News _ _ _ _ => N10)
      (rename IsRange _ _ _ _ _ _ _ _ => hr10)
      refine for_rangeH (k := j) (fun i m led => PairJ l D6 Hp No (L' + 1) (L' + 1 + 1) (L' + 1 + 1 + 1) (L' + 1 + 1 + 1 + 1) ((I, oI) :: (D6, listOf ys6.toArray k6) :: B6) ((I, oI) :: B6) (some (.int j t)) (pairsT (folderOf bb) (ts.map rowOf) j ++ (List.range i).map fun i => entry4 (folderOf bb) (ts.map rowOf) i j) m led) hh F10 N10
        ?h10 ((I, oI) :: B6) ?k10 (fun i m' n' h => h.noIt) (by exact hr10) (by omega) (by intro _ _; rfl) ?turn10 ?done10
      case k10 =>
        intro p hp
        simp only [List.mem_cons]
        rcases List.mem_cons.mp hp with rfl | hp
        · simp [hIo]
        · simp [hoo p (hfix p (.tail _ hp))]
      case h10 =>
        refine ⟨hv, kh, op, oi, _, oc, own2, xp, xi, ⟨rfl, rfl, rfl, trivial⟩, rfl, dp, di, dj2, dc, ?_, hoff2, hno2, fun p hp => ?_⟩
        · rw [List.range_zero, List.map_nil, List.append_nil]
          exact pairedMono (fun v t h => h.mono hoo) hits
        · rcases List.mem_cons.mp hp with rfl | hp
          · exact hIo
          · exact hoo p (hfix p hp)
      case turn10 =>
        clear hits hoff hno hfix hoff2 hno2 dp di dj dc dj2 hIo hoo F10 N10 hm hr10
        rintro i ti m₂ news₂ S10 T10 I2 oI2 hi ⟨hv, kh, op, oi, oj, oc, own, xp, xi, hm, rfl, dp, di, dj, dc, hits, hoff, hno, hfix⟩ F11 N11 hI2 hiI2 hT10
        replace F11 := hm.canon F11
        have hvl : hv.length ≤ 200 := by
          have h1 := pairedLen hits
          have h2 := pairsT_len (folderOf bb) (ts.map rowOf) j
          have h3 : j * j ≤ 9 * 9 := Nat.mul_le_mul (by omega) (by omega)
          rw [List.length_append, List.length_map, List.length_range] at h1
          omega
        simp only [List.forall_mem_cons] at hI2
        have hoff2 : OwnOff ((I2, oI2) :: own) [Hp, No, L' + 1 + 1 + 1 + 1, L' + 1 + 1 + 1, L' + 1 + 1, L' + 1] := off_cons (by exact (allC (hI2.1) (allC (hI2.2.1) (allC (hI2.2.2.1) (allC (hI2.2.2.2.1) (allC (hI2.2.2.2.2.1) (allC (hI2.2.2.2.2.2.1) allN))))))) hoff
        replace N11 := newsVia (l' := (Hp, listOf hv.toArray kh) :: (No, listOf #[] 0) :: (L' + 1 + 1 + 1 + 1, op) :: (L' + 1 + 1 + 1, oi) :: (L' + 1 + 1, oj) :: (L' + 1, oc) :: ((I2, oI2) :: own)) N11 (fun N => by walk_at "ro")
        have hI2o : (I2, oI2) ∈ (I2, oI2) :: own := .head _
        have hoo : ∀ p ∈ own, p ∈ (I2, oI2) :: own := fun p hp => .tail _ hp
        generalize hown : (I2, oI2) :: own = own2 at N11 hoff2 hI2o hoo
        walk_at "go"
        (rename Fr _ _ _ _ => F12)
        (rename News _ _ _ _ => N12)
        have hil : i < ts.length := by omega
        have mi : ts.getD i "" ∈ ts := getD_mem' hil
        have mj : ts.getD j "" ∈ ts := getD_mem' hj
        have hpr : ∀ x ∈ [ts.getD i "", ts.getD j ""], x ∈ ts := fun x hx => by
          simp only [List.mem_cons, List.not_mem_nil, or_false] at hx
          rcases hx with rfl | rfl
          · exact mi
          · exact mj
        refine commonpath_at (ts := [ts.getD i "", ts.getD j ""]) (bb := bb) F12 N12 (.head _) X' T' (.cons _ _ (.cons _ _ .nil)) (Nat.zero_lt_succ _) (by simp) (fun x hx => Nat.le_trans (hts x (hpr x hx)) (by decide)) (fun x hx => habs x (hpr x hx)) hh (room1 hroom (by decide)) (unit1 hu (by decide)) fun h13 tk13 t13 F13 N13 => ?_
        rw [commonT_eq]
        have hFl := comF_len bb (ts := [ts.getD i "", ts.getD j ""]) (Nat.zero_lt_succ _) (fun x hx => hts x (hpr x hx))
        have hFd := comF_depth bb (ts := [ts.getD i "", ts.getD j ""]) (Nat.zero_lt_succ _)
        rw [pair_lcp hil hj] at hFl hFd
        rw [pair_lcp hil hj]
        clear F12 N12
        walk_at "go"
        (rename Fr _ _ _ _ => F14)
        (rename News _ _ _ _ => N14)
        refine depth_at F14 N14 X' T' hh (room1 hroom (by decide)) (unit1 hu (by decide)) (by omega) hFd fun h15 tk15 t15 F15 N15 => ?_
        clear F14 N14
        walk_at "go"
        (rename Fr _ _ _ _ => F16)
        (rename News _ _ _ _ => N16)
        (rename _ = Data.cell _ => di2)
        (rename _ ∧ _ => lD)
        subst hown
        obtain ⟨nw, Nw, PJ⟩ := PairJ.turn N16 lD dp di2 dj dc hits hoff hno hfix
        refine hT10 _ _ _ nw F16 Nw ?_
        simp only [List.append_assoc] at PJ
        (try dsimp only)
        rw [List.range_succ, List.map_append]
        exact PJ _ ⟨rfl, rfl, rfl, trivial⟩
      case done10 =>
        rintro m₂ news₂ h₂ tk₂ ⟨hv, kh, op, oi, oj, oc, own, xp, xi, hm, rfl, dp, di, dj, dc, hits, hoff, hno, hfix⟩ F11 N11
        walk_at "go"
        obtain ⟨nw, Nw, PJ⟩ := PairJ.drop N11 hiI hfI hm dp di dj dc hits hoff hno hfix
        refine hT8 _ _ _ nw F11 Nw ?_
        (try dsimp only)
        refine ⟨some (.int j t), ?_⟩
        rw [pairsT_succ]
        exact PJ
    case done8 =>
      rintro m₁ news₁ h₁ tk₁ ⟨xj, hv, kh, op, oi, oj, oc, own, xp, xi, hm, rfl, dp, di, dj, dc, hits, hoff, hno, hfix⟩ F9 N9
      replace F9 := hm.canon F9
      clear F8 N8
      have hvl : hv.length ≤ 200 := by
        have h1 := pairedLen hits
        have h2 := pairsT_len (folderOf bb) (ts.map rowOf) ts.length
        have h3 : ts.length * ts.length ≤ 9 * 9 := Nat.mul_le_mul hn hn
        omega
      walk_at "go"
      obtain ⟨hT, hdec⟩ := dec_items N9 (fun p hp => by walk_at "mem") hits
      generalize decH at4 h₁ = dec at hT hdec
      refine heapify_at (dec := dec) likes4 atLt4 F9 N9 (hrr _ _ _ _ _ _ hoff) X' T' hh (room1 hroom (by decide)) (unit1 hu (by decide)) (by omega) (fun v hv' => (hT v hv').at N9 fun p hp => by walk_at "mem") fun h10 n10 tk10 F10 N10 => ?_
      obtain ⟨hH, hperm⟩ := heapify_heap (d := Value.none) (ord4 dec) hv
      have hK : Kru (namesOf (ts.map rowOf)) (folderOf bb) (ts.map rowOf) ((List.range ts.length).map fun k => [k]) ((hfGo (ordBy lt4 dec) .none (hv.length / 2) hv).map dec) [] := by
        have h1 := Kru.laid (folderOf bb) (ts.map rowOf)
        rw [List.length_map] at h1
        refine h1.perm ?_
        rw [← hdec]; exact (hperm.map dec).symm
      generalize hfGo (ordBy lt4 dec) .none (hv.length / 2) hv = hv2 at N10 hH hperm hK
      have hl2 := hperm.length_eq
      clear F9 N9
      walk_at "go"
      refine whileH (TieJ (folderOf bb) (ts.map rowOf) l Hp No (L' + 1) (L' + 1 + 1) (L' + 1 + 1 + 1) (L' + 1 + 1 + 1 + 1) dec) (TieJ (folderOf bb) (ts.map rowOf) l Hp No (L' + 1) (L' + 1 + 1) (L' + 1 + 1 + 1) (L' + 1 + 1 + 1 + 1) dec 0) hv2.length F10 N10
          ⟨hv2, [], ys6, n10, 0, k6, D6, _, [], op, oi, oj, oc, own, xp, xi, xj, rfl, ⟨rfl, rfl, rfl, trivial⟩, rfl, dp, di, dj, dc, hfix _ (.head _), hBs.mono (fun p hp => hfix _ (.tail _ hp)), .nil, hK, hH, fun v hv' => hT v (hperm.mem_iff.mp hv'), hoff, by simp; omega⟩ ?_ ?_
      · clear F10 N10 hK hH hperm hT hoff hits hfix hno dp di dj dc hm hdec hvl hl2 hBs
        rintro n m₁ news₁ S T B F11 N11 ⟨hv, nv, ys, kh, kn, kD, D, bs, noted, op, oi, oj, oc, own, xp, xi, xj, rfl, hm, rfl, dp, di, dj, dc, hD, hbs, hnv, hK, hH, hT, hoff, hb⟩ hT0 hB0
        replace F11 := hm.canon F11
        walk_at "go"
        · (rename Fr _ _ _ _ => F12)
          (rename News _ _ _ _ => N12)
          have h0 : 0 < hv.length := by first | assumption | (rename decide _ = true => h; exact of_decide_eq_true h)
          obtain ⟨i, j, a, na, t1, t2, t3, t4, hij, hj, e0, hma, hp0, hle, hH', hsub, hlen'⟩ := pop4 h0 hK hH hT
          replace N12 := newsVia (l' := (Hp, listOf hv.toArray kh) :: (No, listOf nv.toArray kn) :: (L' + 1 + 1 + 1 + 1, op) :: (L' + 1 + 1 + 1, oi) :: (L' + 1 + 1, oj) :: (L' + 1, oc) :: own) N12 (fun N => by walk_at "ro")
          refine heappop_at (dec := dec) likes4 atLt4 F12 N12 (hrr _ _ _ _ _ _ hoff) X' T' (room1 hroom (by decide)) (unit1 hu (by decide)) h0 (by omega) (fun v hv' => (hT v hv').at N12 fun p hp => by walk_at "mem") fun h13 n13 tk13 F13 N13 => ?_
          rw [e0]
          generalize popF (ordBy lt4 dec) hv = hv2 at N13 hp0 hle hH' hsub hlen'
          have hane := hoff _ hma
          obtain ⟨na1, hane⟩ := allS hane
          obtain ⟨na2, hane⟩ := allS hane
          obtain ⟨na3, hane⟩ := allS hane
          obtain ⟨na4, hane⟩ := allS hane
          obtain ⟨na5, hane⟩ := allS hane
          obtain ⟨na6, hane⟩ := allS hane
          replace N13 := newsDup (List.mem_cons_of_mem _ (List.mem_cons_of_mem _ (List.mem_cons_of_mem _ (List.mem_cons_of_mem _ (List.mem_cons_of_mem _ (List.mem_cons_of_mem _ hma)))))) N13
          clear F12 N12
          walk_at "go"
          (rename Fr _ _ _ _ => F14)
          (rename News _ _ _ _ => N14)
          replace N14 := newsVia (l' := (Hp, listOf hv2.toArray n13) :: (No, listOf nv.toArray kn) :: (L' + 1 + 1 + 1 + 1, op) :: (L' + 1 + 1 + 1, _) :: (L' + 1 + 1, _) :: (L' + 1, oc) :: own) N14 (fun N => by walk_at "ro")
          replace N14 := newsDup (List.mem_cons_of_mem _ (List.mem_cons_of_mem _ (List.mem_cons_of_mem _ (List.mem_cons_of_mem _ (List.mem_cons_of_mem _ (List.mem_cons_of_mem _ hD)))))) N14
          have hkey : ∀ b y, BunIs own b y → holdsB own (fun b => decide (i ∈ b) || decide (j ∈ b)) y = (decide (i ∈ b) || decide (j ∈ b)) := fun b y h => holdsB_of (s := { s with heap := _ }) (g := s.heap) (L := L') (fun p hp => N14 p (by simp [hp])) h (fun b => decide (i ∈ b) || decide (j ∈ b))
          have hbs15 : BunsAre own (pairOf bs i j) (ys.filter (holdsB own fun b => decide (i ∈ b) || decide (j ∈ b))) := buns_filter (s := { s with heap := _ }) (g := s.heap) (L := L') (news := own) (fun p hp => N14 p (by simp [hp])) (fun p hp => hp) _ hbs
          refine wpAny_Assign_Name ?_
          refine listCompE [("j", L' + 1 + 1), ("i", L' + 1 + 1 + 1)] ?_ rfl rfl (by decide) (by intro _; rfl)
          walk_at "go"
          refine' compE (n := ys.toArray.size) (P := fun i v => ys.toArray[i]? = some v) (p := holdsB own fun b => decide (i ∈ b) || decide (j ∈ b)) (R := fun _ v y => y = v) ?Sd ?s2d ?Fd ?Nd ?monod ?c1d ?c2d ?c3d ?bodyd ?find
          case Fd => exact F14
          case Nd => exact N14
          case Sd => exact Src.list (items := ys.toArray) hh ⟨_, (N14 _ (.head _)).1, rfl, _, rfl⟩
          case s2d =>
            have hsz := hK.size
            rw [List.length_map] at hsz
            rw [List.size_toArray, ← pairedLen hbs]; omega
          case monod => intro B B' v y _ h; exact h
          case c1d => decide
          case c2d => rfl
          case c3d => rfl
          case bodyd =>
            refine ⟨fun C q v s₃ m₃ hP F3 hm3 N3 => wpAny_tests_one ?_, fun C q v s₃ m₃ hP _ F3 hm3 N3 => ?_⟩
            · obtain ⟨bq, hbq, aq, usq, kq, rfl, hmq, hnq⟩ := hbs.at' (show ys[q]? = some v by simpa using hP)
              have F3k := F3.keep
              replace F3 := Has.canon (ps := [("bundle", Value.ref aq)]) ⟨hm3, trivial⟩ F3
              replace N3 := newsDup (p := (aq, listOf usq.toArray kq)) (by walk_at "mem") N3
              dsimp only [List.cons_append, List.nil_append] at N3
              clear F14 N14
              refine wpAny_mono (Q := TestQ "bundle" (holdsB own fun b => decide (i ∈ b) || decide (j ∈ b)) C s₃ (.ref aq)) ?_ (fun _ _ h => h.out) (fun _ _ e => e)
              walk_at "go"
              all_goals (try k_data)
              all_goals (have hun : holdsB own (fun b => decide (i ∈ b) || decide (j ∈ b)) (.ref aq) = (decide (i ∈ bq) || decide (j ∈ bq)) := hkey _ _ ⟨aq, usq, kq, rfl, hmq, hnq⟩)
              · refine ⟨?_, keepsBut_of (fun a o e => F3k a o e) F3 N3 (fun p hp => by walk_at "mem"), _, F3.ns, rfl⟩
                (rename List.any _ _ = true => q1)
                rw [any_nat] at q1
                rw [hun, q1]; rfl
              · refine ⟨?_, keepsBut_of (fun a o e => F3k a o e) F3 N3 (fun p hp => by walk_at "mem"), _, F3.ns, rfl⟩
                (rename List.any _ _ = true => q1)
                rw [any_nat] at q1
                rw [hun, q1, Bool.or_true]
              · refine ⟨?_, keepsBut_of (fun a o e => F3k a o e) F3 N3 (fun p hp => by walk_at "mem"), _, F3.ns, rfl⟩
                (rename List.any _ _ = false => q1)
                (rename List.any _ (fun x => x == (i : Int)) = false => q2)
                rw [any_nat] at q1 q2
                rw [hun, q1, q2]; rfl
            · obtain ⟨bq, hbq, aq, usq, kq, rfl, hmq, hnq⟩ := hbs.at' (show ys[q]? = some v by simpa using hP)
              have F3k := F3.keep
              replace F3 := Has.canon (ps := [("bundle", Value.ref aq)]) ⟨hm3, trivial⟩ F3
              dsimp only [List.cons_append, List.nil_append] at N3
              clear F14 N14
              walk_at "go"
              all_goals (try k_data)
              exact ⟨keepsBut_of (fun a o e => F3k a o e) F3 N3 (fun p hp => by walk_at "mem"), [], fun q hq => (nomatch hq), rfl⟩
          case find =>
            intro D15 h15 tk15 ys15 k15 vv15 B15 F15 O15 hlen15 hP15 hpr15
            have hv15 := list_of_at hlen15 hP15
            rw [hv15] at hpr15
            have hy15 := paired_eq hpr15
            subst hy15
            have N15 := newsVia (l' := (D15, listOf (ys.filter (holdsB own fun b => decide (i ∈ b) || decide (j ∈ b))).toArray k15) :: (Hp, listOf hv2.toArray n13) :: (No, listOf nv.toArray kn) :: (L' + 1 + 1 + 1 + 1, op) :: (L' + 1 + 1 + 1, _) :: (L' + 1 + 1, _) :: (L' + 1, oc) :: own) O15.N (fun N => by walk_at "ro")
            have hN15 := O15.nD
            obtain ⟨nd0, hN15⟩ := allS hN15
            obtain ⟨nd1, hN15⟩ := allS hN15
            obtain ⟨nd2, hN15⟩ := allS hN15
            obtain ⟨nd3, hN15⟩ := allS hN15
            obtain ⟨nd4, hN15⟩ := allS hN15
            obtain ⟨nd5, hN15⟩ := allS hN15
            obtain ⟨nd6, hN15⟩ := allS hN15
            have nd7 := hN15
            have hl15 := pairedLen hbs15
            generalize ys.filter (holdsB own fun b => decide (i ∈ b) || decide (j ∈ b)) = ys15 at N15 hbs15 hl15
            clear F14 N14 O15 hkey hpr15 hP15 hlen15 hv15
            refine' storeX_C (c := L' + 1 + 1 + 1 + 1) (o := op) F15 N15 rfl ?UU dp ?_ rfl rfl
            case UU => exact .tail (fun e => nd3 e.symm) (.tail (Nat.ne_of_gt lH2) (.tail (Nat.ne_of_gt lN3) (.head (List.forall_mem_cons.mpr ⟨Nat.ne_of_lt (Nat.lt_succ_self _), List.forall_mem_cons.mpr ⟨Nat.ne_of_lt (Nat.lt_trans (Nat.lt_succ_self _) (Nat.lt_succ_self _)), List.forall_mem_cons.mpr ⟨Nat.ne_of_lt (Nat.lt_trans (Nat.lt_succ_self _) (Nat.lt_trans (Nat.lt_succ_self _) (Nat.lt_succ_self _))), fun p hp => hoff p hp _ (.tail _ (.tail _ (.head _)))⟩⟩⟩))))
            intro h16 op2 F16 N16 dp2
            clear F15 N15
            have hsz := hK.size
            rw [List.length_map] at hsz
            have hpl : (pairOf bs i j).length ≤ bs.length := List.length_filter_le _ _
            have hps : ys15.length ≤ 9 := by omega
            walk_at "go"
            · have hl2' : (pairOf bs i j).length = 2 := by rw [hl15]; omega
              obtain ⟨Ab, Bb, eAB⟩ : ∃ Ab Bb, pairOf bs i j = [Ab, Bb] := two_of hl2'
              rw [eAB] at hbs15
              obtain ⟨yA, yB, rfl, ⟨aA, usA, kA, rfl, hmA, hnA⟩, ⟨aB, usB, kB, rfl, hmB, hnB⟩⟩ := buns_two hbs15
              (rename Fr _ _ _ _ => F17)
              (rename News _ _ _ _ => N17)
              have hkey2 : ∀ b y, BunIs own b y → holdsB own (fun b => !decide (b ∈ [Ab, Bb])) y = !decide (b ∈ [Ab, Bb]) := fun b y h => holdsB_of (s := { s with heap := _ }) (g := s.heap) (L := L') (fun p hp => N17 p (by simp [hp])) h (fun b => !decide (b ∈ [Ab, Bb]))
              have hbs17 : BunsAre own (bs.filter fun b => !decide (b ∈ [Ab, Bb])) (ys.filter (holdsB own fun b => !decide (b ∈ [Ab, Bb]))) := buns_filter (s := { s with heap := _ }) (g := s.heap) (L := L') (news := own) (fun p hp => N17 p (by simp [hp])) (fun p hp => hp) _ hbs
              have hDa : DatAll own [Value.ref aA, Value.ref aB] [bunD Ab, bunD Bb] := .cons (BunIs.dat ⟨aA, usA, kA, rfl, hmA, hnA⟩) (.cons (BunIs.dat ⟨aB, usB, kB, rfl, hmB, hnB⟩) .nil)
              replace N17 := newsDup (show (D, listOf ys.toArray kD) ∈ _ from by simp [hD]) N17
              refine listCompA [("pair", L' + 1 + 1 + 1 + 1)] ?_ rfl rfl rfl (by decide) (by intro _; rfl)
              walk_at "go"
              refine' compA (n := ys.toArray.size) (P := fun i v => ys.toArray[i]? = some v) (p := holdsB own fun b => !decide (b ∈ [Ab, Bb])) (R := fun _ v y => y = v) ?Se ?s2e ?Fe ?Ne ?monoe ?c1e ?c2e ?c3e ?c4e ?c5e ?bodye ?fine
              case Fe => exact F17
              case Ne => exact N17
              case Se => exact Src.list (items := ys.toArray) hh ⟨_, (N17 _ (.head _)).1, rfl, _, rfl⟩
              case s2e =>
                rw [List.size_toArray, ← pairedLen hbs]; omega
              case monoe => intro B B' v y _ h; exact h
              case c1e => decide
              case c2e => rfl
              case c3e => rfl
              case c4e => rfl
              case c5e => rfl
              case bodye =>
                refine ⟨fun C q v s₃ m₃ hP F3 hm3 N3 => wpAny_tests_one ?_, fun C q v s₃ m₃ hP _ F3 hm3 N3 => ?_⟩
                · obtain ⟨bq, hbq, aq, usq, kq, rfl, hmq, hnq⟩ := hbs.at' (show ys[q]? = some v by simpa using hP)
                  have F3k := F3.keep
                  replace F3 := Has.canon (ps := [("bundle", Value.ref aq)]) ⟨hm3, trivial⟩ F3
                  dsimp only [List.cons_append, List.nil_append] at N3
                  clear F17 N17
                  have hun := hkey2 _ _ (BunIs.mono (fun p hp => hp) ⟨aq, usq, kq, rfl, hmq, hnq⟩)
                  have hDx : DatIn own (.ref aq) (bunD bq) := BunIs.dat ⟨aq, usq, kq, rfl, hmq, hnq⟩
                  refine wpAny_mono (Q := TestQ "bundle" (holdsB own fun b => !decide (b ∈ [Ab, Bb])) C s₃ (.ref aq)) ?_ (fun _ _ h => h.out) (fun _ _ e => e)
                  repeat' ((fail_if_success (with_reducible show wpAny _ _ (compareOp CmpOp.NotIn _ _) _ _ _)); walk1)
                  all_goals (try k_data)
                  (rename News _ _ _ _ => N3')
                  refine kqd_notIn N3' (List.mem_cons_of_mem _ (.head _)) rfl rfl hDa ?sa hDx ?sx ?ha (bunD_ok _) ?hu ?_
                  case sa => exact fun p hp => by walk_at "mem"
                  case sx => exact fun p hp => by walk_at "mem"
                  case ha => exact (allC (bunD_ok _) (allC (bunD_ok _) allN))
                  case hu => first | (simp only [Around.deeper_units]; omega) | omega | (show A.units + 64 < _; omega)
                  walk_at "go"
                  all_goals (try k_data)
                  refine ⟨?_, keepsBut_of (fun a o e => F3k a o e) F3 N3' (fun p hp => by walk_at "mem"), _, F3.ns, rfl⟩
                  rw [hun]
                  congr 1
                  exact decide_eq_decide.mpr (bunD_mem (b := bq) (bs := [Ab, Bb]))
                · obtain ⟨bq, hbq, aq, usq, kq, rfl, hmq, hnq⟩ := hbs.at' (show ys[q]? = some v by simpa using hP)
                  have F3k := F3.keep
                  replace F3 := Has.canon (ps := [("bundle", Value.ref aq)]) ⟨hm3, trivial⟩ F3
                  dsimp only [List.cons_append, List.nil_append] at N3
                  clear F17 N17
                  walk_at "go"
                  all_goals (try k_data)
                  exact ⟨keepsBut_of (fun a o e => F3k a o e) F3 N3 (fun p hp => by walk_at "mem"), [], fun q hq => (nomatch hq), rfl⟩
              case fine =>
                intro D18 h18 tk18 ys18 k18 vv18 B18 F18 O18 hlen18 hP18 hpr18
                have hv18 := list_of_at hlen18 hP18
                rw [hv18] at hpr18
                have hy18 := paired_eq hpr18
                subst hy18
                have N18 := newsVia (l' := (D18, listOf (ys.filter (holdsB own fun b => !decide (b ∈ [Ab, Bb]))).toArray k18) :: (D15, _) :: (Hp, listOf hv2.toArray n13) :: (No, listOf nv.toArray kn) :: (L' + 1 + 1 + 1 + 1, op2) :: (L' + 1 + 1 + 1, _) :: (L' + 1 + 1, _) :: (L' + 1, oc) :: own) O18.N (fun N => by walk_at "ro")
                have hN18 := O18.nD
                obtain ⟨ne0, hN18⟩ := allS hN18
                obtain ⟨ne9, hN18⟩ := allS hN18
                obtain ⟨ne1, hN18⟩ := allS hN18
                obtain ⟨ne2, hN18⟩ := allS hN18
                obtain ⟨ne3, hN18⟩ := allS hN18
                obtain ⟨ne4, hN18⟩ := allS hN18
                obtain ⟨ne5, hN18⟩ := allS hN18
                obtain ⟨ne6, hN18⟩ := allS hN18
                have ne7 := hN18
                have hl18 := pairedLen hbs17
                have hs18 : (bs.filter fun b => !decide (b ∈ [Ab, Bb])).length ≤ bs.length := List.length_filter_le _ _
                generalize ys.filter (holdsB own fun b => !decide (b ∈ [Ab, Bb])) = ys18 at N18 hbs17 hl18
                clear F17 N17 O18 hkey2 hpr18 hP18 hlen18 hv18
                repeat' ((fail_if_success (with_reducible show wpAny _ _ (subscriptTail _ _ _ _) _ _ _)); (first | walk1 | (dsimp only; walk1)))
                walk_at "subscriptTail"
                repeat' ((fail_if_success (with_reducible show wpAny _ _ (subscriptTail _ _ _ _) _ _ _)); (first | walk1 | (dsimp only; walk1)))
                walk_at "subscriptTail"
                repeat' ((fail_if_success (with_reducible show wpAny _ _ (binaryOp _ _ _) _ _ _)); (first | walk1 | (dsimp only; walk1)))
                all_goals (try k_data)
                (rename Fr _ _ _ _ => F19)
                (rename News _ _ _ _ => N19)
                show wpAny _ _ (binaryOp .Add (.ref aA) (.ref aB)) _ _ _
                have hAB := hsz.2 Ab (by have := mem_pairOf (bs := bs) (i := i) (j := j) (b := Ab); rw [eAB] at this; exact (this.mp (.head _)).1)
                have hBB := hsz.2 Bb (by have := mem_pairOf (bs := bs) (i := i) (j := j) (b := Bb); rw [eAB] at this; exact (this.mp (.tail _ (.head _))).1)
                refine add_lists_ints F19 N19 ⟨_, (N19 (aA, listOf usA.toArray kA) (by walk_at "mem")).1, rfl, _, rfl⟩ ⟨_, (N19 (aB, listOf usB.toArray kB) (by walk_at "mem")).1, rfl, _, rfl⟩ hnA hnB (fun h20 F20 N20 hi20 => ?_) (by rw [List.length_map, List.length_map, sizeLine_eq]; omega)
                repeat' ((fail_if_success (with_reducible show wpAny _ _ (call _ _) _ _ _)); (first | walk1 | (dsimp only; walk1)))
                all_goals (try k_data)
                refine kso_sorted F20 N20 ⟨_, (N20 _ (.head _)).1, rfl, _, rfl⟩ hi20 (by rw [List.length_append, List.length_map, List.length_map]; omega) fun D21 vs21 ns21 c21 h21 F21 N21 lt21 hi21 hl21 hp21 _ _ => ?_
                have nA21 : ∀ b ∈ [Hp, No, L' + 1 + 1 + 1 + 1, L' + 1 + 1 + 1, L' + 1 + 1, L' + 1], b ≠ D21 := by
                  exact (allC (Nat.ne_of_lt (lt21 _ (.tail _ (.tail _ (.tail _ (.head _)))))) (allC (Nat.ne_of_lt (lt21 _ (.tail _ (.tail _ (.tail _ (.tail _ (.head _))))))) (allC (Nat.ne_of_lt (lt21 _ (.tail _ (.tail _ (.tail _ (.tail _ (.tail _ (.head _)))))))) (allC (Nat.ne_of_lt (lt21 _ (.tail _ (.tail _ (.tail _ (.tail _ (.tail _ (.tail _ (.head _))))))))) (allC (Nat.ne_of_lt (lt21 _ (.tail _ (.tail _ (.tail _ (.tail _ (.tail _ (.tail _ (.tail _ (.head _)))))))))) (allC (Nat.ne_of_lt (lt21 _ (.tail _ (.tail _ (.tail _ (.tail _ (.tail _ (.tail _ (.tail _ (.tail _ (.head _))))))))))) allN))))))
                have nD21 : D18 ≠ D21 := Nat.ne_of_lt (lt21 (D18, _) (.tail _ (.head _)))
                replace N21 := newsVia (l' := (D18, listOf ys18.toArray k18) :: (D21, listOf vs21.toArray c21) :: (Hp, listOf hv2.toArray n13) :: (No, listOf nv.toArray kn) :: (L' + 1 + 1 + 1 + 1, op2) :: (L' + 1 + 1 + 1, _) :: (L' + 1 + 1, _) :: (L' + 1, oc) :: own) N21 (fun N => by walk_at "ro")
                clear F19 N19 F20 N20
                repeat' ((fail_if_success (with_reducible show wpAny _ _ (call _ _) _ _ _)); (first | walk1 | (dsimp only; walk1)))
                all_goals (try k_data)
                refine append_list F21 N21 (.head ?hD18) (by omega) fun h23 F23 N23 => ?_
                case hD18 =>
                  intro p hp
                  simp only [List.mem_cons] at hp
                  rcases hp with rfl | rfl | rfl | rfl | rfl | rfl | rfl | hp
                  · exact nD21.symm
                  · exact ne1
                  · exact ne2
                  · exact ne3
                  · exact ne4
                  · exact ne5
                  · exact ne6
                  · exact ne7 p hp
                clear F21 N21
                obtain ⟨M, rfl, hM⟩ := nat_list (ns := ns21) (C := Ab ++ Bb) (by rw [List.map_append]; exact hp21)
                have hMn : ∀ k ∈ M, k < ts.length := fun k hk => by
                  have h1 := fun b hb => hK.inside (b := b) hb (k := k)
                  rw [List.length_map] at h1
                  have hA := mem_pairOf (bs := bs) (i := i) (j := j) (b := Ab)
                  have hB := mem_pairOf (bs := bs) (i := i) (j := j) (b := Bb)
                  rw [eAB] at hA hB
                  rcases List.mem_append.mp (hM.mem_iff.mp hk) with q | q
                  · exact h1 Ab (hA.mp (.head _)).1 q
                  · exact h1 Bb (hB.mp (.tail _ (.head _))).1 q
                have hMl : M.length ≤ 18 := by
                  rw [hM.length_eq, List.length_append]; omega
                walk_at "go"
                (rename Fr _ _ _ _ => F24)
                (rename News _ _ _ _ => N24)
                refine listCompE [("paths", L' + 1)] ?_ rfl rfl (by decide) (by intro _; rfl)
                repeat' ((fail_if_success (with_reducible show wpAny _ _ (subscriptTail _ _ _ _) _ _ _)); (first | walk1 | (dsimp only; walk1)))
                all_goals (try k_data)
                refine item_last ⟨_, (N24 _ (.head _)).1, rfl, _, rfl⟩ ?_ (by with_unfolding_all rfl) (by intro _; with_unfolding_all rfl)
                have hin21 := ints_at hi21
                refine' compE (n := vs21.toArray.size) (P := fun i v => vs21.toArray[i]? = some v) (p := fun _ => true) (R := fun _ v y => ∃ (k : Nat) (t t' : Tok), v = .int (k : Nat) t ∧ y = .str (ts.getD k "") t') ?Sg ?s2g ?Fg ?Ng ?monog ?c1g ?c2g ?c3g ?bodyg ?fing
                case Fg => exact F24
                case Ng => exact N24
                case Sg => exact Src.list (items := vs21.toArray) hh ⟨_, (N24 _ (.tail _ (.head _))).1, rfl, _, rfl⟩
                case s2g => rw [List.size_toArray, IntsAre.length hi21, List.length_map]; omega
                case monog => intro B B' v y _ h; exact h
                case c1g => decide
                case c2g => rfl
                case c3g => rfl
                case bodyg =>
                  refine ⟨fun C i v s₃ m₃ hP F3 hm N3 => wpAny_tests_nil ⟨rfl, keepsBut_of (fun a o e => F3.keep a o e) F3 N3 (fun p hp => List.mem_append_right _ hp), m₃, F3.ns, hm⟩, fun C q v s₃ m₃ hP _ F3 hm3 N3 => ?_⟩
                  obtain ⟨k, t, rfl, ek⟩ := hin21 q v (by simpa using hP)
                  have hkl := hMn k (List.mem_of_getElem? ek)
                  have F3k := F3.keep
                  replace F3 := Has.canon (ps := [("k", Value.int (k : Nat) t)]) ⟨hm3, trivial⟩ F3
                  dsimp only [List.cons_append, List.nil_append] at N3
                  clear F24 N24
                  walk_at "go"
                  all_goals (try k_data)
                  exact ⟨keepsBut_of (fun a o e => F3k a o e) F3 N3 (fun p hp => by walk_at "mem"), [], fun q hq => (nomatch hq), k, t, _, rfl, rfl⟩
                case fing =>
                  intro D25 h25 tk25 ys25 k25 vv25 B25 F25 O25 hlen25 hP25 hpr25
                  have hv25 := list_of_at hlen25 hP25
                  rw [hv25, filter_true] at hpr25
                  have hst25 : StrsAre ys25 (M.map fun k => ts.getD k "") := picked_strs hi21 hpr25
                  have hD25 := O25.nD
                  have N25 := newsVia (l' := (D25, listOf ys25.toArray k25) :: (D18, listOf (ys18 ++ [Value.ref D21]).toArray (k18 + 1)) :: (D21, listOf vs21.toArray c21) :: (Hp, listOf hv2.toArray n13) :: (No, listOf nv.toArray kn) :: (L' + 1 + 1 + 1 + 1, op2) :: (L' + 1 + 1 + 1, _) :: (L' + 1 + 1, _) :: (L' + 1, oc) :: own) O25.N (fun N => by walk_at "ro")
                  have hMp : 0 < M.length := by
                    have hA := mem_pairOf (bs := bs) (i := i) (j := j) (b := Ab)
                    rw [eAB] at hA
                    have := List.length_pos_iff.mpr (hK.ne _ (hA.mp (.head _)).1)
                    rw [hM.length_eq, List.length_append]; omega
                  have hMt : ∀ x ∈ M.map (fun k => ts.getD k ""), x ∈ ts := fun x hx => by
                    obtain ⟨k, hk, rfl⟩ := List.mem_map.mp hx
                    exact getD_mem' (hMn k hk)
                  clear F24 N24 O25 hpr25 hP25 hlen25 hv25
                  walk_at "go"
                  (rename Fr _ _ _ _ => F26)
                  (rename News _ _ _ _ => N26)
                  refine commonpath_at (ts := M.map fun k => ts.getD k "") (bb := bb) F26 N26 (.head _) X' T' hst25 (by rw [List.length_map]; exact hMp) (by rw [List.length_map]; omega) (fun x hx => Nat.le_trans (hts x (hMt x hx)) (by decide)) (fun x hx => habs x (hMt x hx)) hh (room1 hroom (by decide)) (unit1 hu (by decide)) fun h27 tk27 t27 F27 N27 => ?_
                  rw [commonT_eq]
                  have hrw : (M.map fun k => ts.getD k "").map rowOf = M.map (rowAt (ts.map rowOf)) := by
                    rw [List.map_map]
                    exact List.map_congr_left fun k hk => (rowAt_map (hMn k hk)).symm
                  rw [hrw]
                  clear F26 N26
                  have hnvT : True → StrsAre nv (noted.map (folderOf bb)) := fun _ => hnv
                  walk_at "go"
                  (rename Fr _ _ _ _ => F28)
                  (rename News _ _ _ _ => N28)
                  have hoffN : OwnOff ((D18, listOf (ys18 ++ [Value.ref D21]).toArray (k18 + 1)) :: (D21, listOf vs21.toArray c21) :: own) [Hp, No, L' + 1 + 1 + 1 + 1, L' + 1 + 1 + 1, L' + 1 + 1, L' + 1] :=
                    off_cons (by exact (allC (ne1) (allC (ne2) (allC (ne3) (allC (ne4) (allC (ne5) (allC (ne6) allN))))))) (off_cons nA21 hoff)
                  have hbsN : BunsAre ((D18, listOf (ys18 ++ [Value.ref D21]).toArray (k18 + 1)) :: (D21, listOf vs21.toArray c21) :: own) (bs.filter (fun b => !decide (b ∈ [Ab, Bb])) ++ [M]) (ys18 ++ [Value.ref D21]) :=
                    pairedSnoc (BunsAre.mono (fun p hp => .tail _ (.tail _ hp)) hbs17) ⟨D21, vs21, c21, rfl, .tail _ (.head _), hi21⟩
                  have hnvN : ∀ t, StrsAre (nv ++ [Value.str (folderOf bb (comF (M.map (rowAt (ts.map rowOf))))) t]) ((noted ++ [comF (M.map (rowAt (ts.map rowOf)))]).map (folderOf bb)) := fun t => by
                    rw [List.map_append]
                    exact StrsAre.append' (hnvT trivial) (.cons _ _ .nil)
                  replace N28 := newsVia (l' := (No, listOf nv.toArray kn) :: (Hp, listOf hv2.toArray n13) :: (L' + 1 + 1 + 1 + 1, op2) :: (L' + 1 + 1 + 1, _) :: (L' + 1 + 1, _) :: (L' + 1, oc) :: (D18, listOf (ys18 ++ [Value.ref D21]).toArray (k18 + 1)) :: (D21, listOf vs21.toArray c21) :: own) N28 (fun N => by walk_at "ro")
                  have hNo : ∀ (oi oj : Obj), ∀ p ∈ (Hp, listOf hv2.toArray n13) :: (L' + 1 + 1 + 1 + 1, op2) :: (L' + 1 + 1 + 1, oi) :: (L' + 1 + 1, oj) :: (L' + 1, oc) :: (D18, listOf (ys18 ++ [Value.ref D21]).toArray (k18 + 1)) :: (D21, listOf vs21.toArray c21) :: own, p.1 ≠ No := by
                    intro oi oj p hp
                    rcases List.mem_cons.mp hp with rfl | hp
                    · exact Nat.ne_of_lt lN1
                    rcases List.mem_cons.mp hp with rfl | hp
                    · exact Nat.ne_of_lt lN3
                    rcases List.mem_cons.mp hp with rfl | hp
                    · exact Nat.ne_of_lt lN4
                    rcases List.mem_cons.mp hp with rfl | hp
                    · exact Nat.ne_of_lt lN5
                    rcases List.mem_cons.mp hp with rfl | hp
                    · exact Nat.ne_of_lt lN6
                    exact hoffN p hp _ (.tail _ (.head _))
                  refine append_list F28 N28 (.head (hNo _ _)) (by omega) fun h29 F29 N29 => ?_
                  clear F28 N28
                  walk_at "go"
                  have hKN := hK.tie (names_spec _).1 (names_spec _).2 hp0 hle (Nat.lt_trans hij hj) hj eAB hM
                  refine hT0 _ _ _ _ hv2.length F29 (newsVia (l' := (Hp, listOf hv2.toArray n13) :: (No, listOf (nv ++ [Value.str (folderOf bb (comF (M.map (rowAt (ts.map rowOf))))) t27]).toArray (kn + 1)) :: (L' + 1 + 1 + 1 + 1, op2) :: (L' + 1 + 1 + 1, _) :: (L' + 1 + 1, _) :: (L' + 1, oc) :: (D18, listOf (ys18 ++ [Value.ref D21]).toArray (k18 + 1)) :: (D21, listOf vs21.toArray c21) :: own) N29 (fun N => by walk_at "ro")) (by omega)
                    ⟨hv2, _, _, n13, kn + 1, k18 + 1, D18, _, _, op2, _, _, oc, _, _, _, _, rfl, ⟨rfl, rfl, rfl, trivial⟩, rfl, dp2, by assumption, by assumption, dc, .head _, hbsN, hnvN t27, hKN, hH', fun v hv' => (hT v (hsub v hv')).mono (fun p hp => .tail _ (.tail _ hp)), hoffN, by rw [List.length_append, List.length_singleton]; omega⟩
            · (rename Fr _ _ _ _ => F17)
              (rename News _ _ _ _ => N17)
              have hne2 : (pairOf bs i j).length ≠ 2 := by rw [hl15]; omega
              refine hT0 _ _ _ _ hv2.length F17 (newsVia (l' := (Hp, listOf hv2.toArray n13) :: (No, listOf nv.toArray kn) :: (L' + 1 + 1 + 1 + 1, op2) :: (L' + 1 + 1 + 1, _) :: (L' + 1 + 1, _) :: (L' + 1, oc) :: own) N17 (fun N => by walk_at "ro")) (by omega)
                ⟨hv2, nv, ys, n13, kn, kD, D, bs, noted, op2, _, _, oc, own, _, _, _, rfl, ⟨rfl, rfl, rfl, trivial⟩, rfl, dp2, by assumption, by assumption, dc, hD, hbs, hnv, hK.pass hp0 (by omega) hj hne2, hH', fun v hv' => hT v (hsub v hv'), hoff, by omega⟩
        · (rename Fr _ _ _ _ => F12)
          (rename News _ _ _ _ => N12)
          have h0 : ¬ (0 < hv.length) := by first | assumption | (rename decide _ = false => h; exact of_decide_eq_false h)
          exact hB0 _ _ _ _ F12 (newsVia (l' := (Hp, listOf hv.toArray kh) :: (No, listOf nv.toArray kn) :: (L' + 1 + 1 + 1 + 1, op) :: (L' + 1 + 1 + 1, oi) :: (L' + 1 + 1, oj) :: (L' + 1, oc) :: own) N12 (fun N => by walk_at "ro"))
            ⟨hv, nv, ys, kh, kn, kD, D, bs, noted, op, oi, oj, oc, own, xp, xi, xj, by omega, ⟨rfl, rfl, rfl, trivial⟩, rfl, dp, di, dj, dc, hD, hbs, hnv, hK, hH, hT, hoff, hb⟩
      · rintro h11 tk11 m11 led11 F11 N11 ⟨hv, nv, ys, kh, kn, kD, D, bs, noted, op, oi, oj, oc, own, xp, xi, xj, hn0, hm, rfl, dp, di, dj, dc, hD, hbs, hnv, hK, hH, hT, hoff, hb⟩
        replace F11 := hm.canon F11
        have hv0 : hv = [] := List.eq_nil_of_length_eq_zero hn0.symm
        subst hv0
        clear F10 N10
        walk_at "go"
        have DN := N11 _ (.tail _ (.head _))
        exact hR _ _ No nv kn bs noted (fun x o e => F11.keep x o e) DN.2.2 DN.1 hnv (by have := hb; omega) hK
end

/-! what the law's paths are; its three calls -/
section
variable {w : World} {mean : ExcName → Option Value} {mg mb : Str → Option Value} {b g : Heap} {A : Around} {s : Shared} {L : Addr} {m : Str → Option Value} {news : List (Addr × Obj)}
noncomputable def frontT (bb : Bool) : Str := if bb = true then "/" else "./"
theorem front_short (bb : Bool) : (frontT bb).length ≤ 2 := by cases bb <;> decide +kernel
theorem path_starts (x : Int) (bb : Bool) : Txt.startswith (pathT x (frontT bb)) "/" = bb := by
  unfold pathT
  rw [KAf.starts_left (by cases bb <;> decide +kernel)]
  cases bb <;> decide +kernel
theorem ok_app {x y : Str} (h : PyData.strOk x = true) (h2 : PyData.strOk y = true) : PyData.strOk (x ++ y) = true := by
  unfold PyData.strOk at h h2 ⊢
  rw [Array.all_eq_true'] at h h2 ⊢
  intro c hc
  rw [Str.cps_append] at hc
  rcases Array.mem_append.mp hc with q | q
  · exact h c q
  · exact h2 c q
theorem joinL_ok : ∀ {F : List Str}, RowOk F → ∀ c ∈ joinL F, decide (c < 0x110000) = true
  | [], _, c, hc => by cases hc
  | [x], h, c, hc => by
    have := h x (.head _)
    unfold PyData.strOk at this
    rw [Array.all_eq_true'] at this
    exact this c (Array.mem_toList_iff.mp hc)
  | x :: y :: r, h, c, hc => by
    rcases List.mem_append.mp (show c ∈ x.cps.toList ++ 47 :: joinL (y :: r) from hc) with q | q
    · have := h x (.head _)
      unfold PyData.strOk at this
      rw [Array.all_eq_true'] at this
      exact this c (Array.mem_toList_iff.mp q)
    · rcases List.mem_cons.mp q with rfl | q
      · decide
      · exact joinL_ok (F := y :: r) (fun z hz => h z (.tail _ hz)) c q
theorem ok_join {F : List Str} (h : RowOk F) : PyData.strOk (Txt.join "/" F) = true := by
  show PyData.strOk (Builtin.Str.glued "/" F) = true
  rw [StrLaws.glued_eq_join]
  unfold PyData.strOk
  rw [Array.all_eq_true']
  intro c hc
  refine joinL_ok h c ?_
  rw [← join_list_of]
  exact Array.mem_toList_iff.mpr hc
theorem poolT_ok (i : Int) : PyData.strOk (poolT i) = true := by
  unfold poolT
  generalize i.toNat = k
  match k with
  | 0 => decide +kernel
  | 1 => decide +kernel
  | 2 => decide +kernel
  | 3 => decide +kernel
  | 4 => decide +kernel
  | 5 => decide +kernel
  | 6 => decide +kernel
  | 7 => decide +kernel
  | k + 8 => exact (show PyData.strOk (Str.ofString "") = true by decide +kernel)
theorem path_ok (x : Int) (bb : Bool) : PyData.strOk (pathT x (frontT bb)) = true := by
  unfold pathT
  refine ok_app (by cases bb <;> decide +kernel) (ok_join fun p hp => ?_)
  obtain ⟨j, _, rfl⟩ := List.mem_map.mp hp
  exact poolT_ok _
theorem folder_ok (bb : Bool) {F : Row} (h : RowOk F) : PyData.strOk (folderOf bb F) = true := ok_app (by cases bb <;> decide +kernel) (ok_join h)
theorem after_new {h h' : Heap} {a : Addr} {o : Obj} (F : Fr g L h m) (N : News g L h news) (hk : ∀ x q, h.get? x = some q → h'.get? x = some q) (ha : h.get? a = none) (ho : h'.get? a = some o) : Fr g L h' m ∧ News g L h' ((a, o) :: news) := by
  obtain ⟨F', N'⟩ := after_ext F N hk
  refine ⟨F', newsCons ⟨ho, fun e => ?_, ?_⟩ N'⟩
  · obtain ⟨oL, _, _, hL, _⟩ := F.ns
    have e' : a = L := e
    rw [e', hL] at ha; cases ha
  · cases q : g.get? a with
    | none => rfl
    | some o' => rw [F.keep a o' q] at ha; cases ha
theorem tied_at {Q : Value → Shared → Prop} {l : Addr} {vs : List Value} {n : Nat} {ts : List Str} {bb : Bool} (F : Fr g L s.heap m) (N : News g L s.heap news) (hm : (l, listOf vs.toArray n) ∈ news) (X : (hd.heap_39 w.params).In g) (T : Top hd.view_39 (looseW hd.view_39 []) mean mg mb g)
    (hvs : StrsAre vs ts) (hne : 0 < ts.length) (hn : ts.length ≤ 9) (hts : ∀ x ∈ ts, x.length ≤ 20) (habs : ∀ x ∈ ts, Txt.startswith x "/" = bb) (hh : A.handled = none) (hroom : A.depth + 60 < recursionLimit) (hu : A.units + 2000 < cLine)
    (hQ : ∀ h' tk a us k bs noted, Fr g L h' m → News g L h' ((a, listOf us.toArray k) :: news) → StrsAre us (noted.map (folderOf bb)) → Kru (namesOf (ts.map rowOf)) (folderOf bb) (ts.map rowOf) bs [] noted → Q (.ref a) { s with heap := h', toks := tk }) :
    wpAny (model PySem.Challenge.rw_pd0047_01.row.prog w) A (call (.ref 172) [.ref l]) Q NoE s :=
  wpAny_call (tied_call X T F.keep (N _ hm).1 hvs hne hn hts habs hh hroom hu fun h' tk a us k bs noted hk ha ho hus _ K => hQ h' tk a us k bs noted (after_new F N hk ha ho).1 (after_new F N hk ha ho).2 hus K)
theorem grown_at {Q : Value → Shared → Prop} {l : Addr} {vs : List Value} {n : Nat} {ts : List Str} {bb : Bool} (F : Fr g L s.heap m) (N : News g L s.heap news) (hm : (l, listOf vs.toArray n) ∈ news) (X : (hd.heap_39 w.params).In g) (T : Top hd.view_39 (looseW hd.view_39 []) mean mg mb g)
    (hvs : StrsAre vs ts) (hne : 0 < ts.length) (hn : ts.length ≤ 9) (hts : ∀ x ∈ ts, x.length ≤ 20) (habs : ∀ x ∈ ts, Txt.startswith x "/" = bb) (hh : A.handled = none) (hroom : A.depth + 60 < recursionLimit) (hu : A.units + 2000 < cLine)
    (hQ : ∀ h' tk a us k ins noted, Fr g L h' m → News g L h' ((a, listOf us.toArray k) :: news) → StrsAre us (noted.drop 1) → noted.length ≤ 9 → PriS (namesOf (ts.map rowOf)) (folderOf bb) (ts.map rowOf) ins [] noted → Q (.ref a) { s with heap := h', toks := tk }) :
    wpAny (model PySem.Challenge.rw_pd0047_01.row.prog w) A (call (.ref 179) [.ref l]) Q NoE s :=
  wpAny_call (grown_call X T F.keep (N _ hm).1 hvs hne hn hts habs hh hroom hu fun h' tk a us k ins noted hk ha ho hus hl K => hQ h' tk a us k ins noted (after_new F N hk ha ho).1 (after_new F N hk ha ho).2 hus hl K)
theorem due_at {Q : Value → Shared → Prop} {l : Addr} {vs : List Value} {n : Nat} {ts : List Str} {bb : Bool} {top : Str} {tt : Tok} (F : Fr g L s.heap m) (N : News g L s.heap news) (hm : (l, listOf vs.toArray n) ∈ news) (X : (hd.heap_39 w.params).In g) (T : Top hd.view_39 (looseW hd.view_39 []) mean mg mb g)
    (hvs : StrsAre vs ts) (hne : 3 ≤ ts.length) (hn : ts.length ≤ 9) (hts : ∀ x ∈ ts, x.length ≤ 20) (hok : ∀ x ∈ ts, PyData.strOk x = true) (htop : top = if bb = true then "/" else "") (hh : A.handled = none) (hroom : A.depth + 60 < recursionLimit) (hu : A.units + 2000 < cLine)
    (hQ : ∀ h' tk a (us : List Value) k (S : List K2), Fr g L h' m → News g L h' ((a, listOf us.toArray k) :: news) → StrsAre us (S.map Prod.snd) → S.Perm ((dueOf (ts.map rowOf)).map (key2 (folderOf bb))) → S.Pairwise (fun a b => lt2 b a = false) → Q (.ref a) { s with heap := h', toks := tk }) :
    wpAny (model PySem.Challenge.rw_pd0047_01.row.prog w) A (call (.ref 184) [.ref l, .str top tt]) Q NoE s :=
  wpAny_call (due_call X T F.keep (N _ hm).1 hvs hne hn hts hok htop hh hroom hu fun h' tk a us k S hk ha ho hus h1 h2 => hQ h' tk a us k S (after_new F N hk ha ho).1 (after_new F N hk ha ho).2 hus h1 h2)
theorem rising_pw : ∀ (ss : List Str) (p : Str), risingS p ss = true → (p :: ss).Pairwise (fun a b => sLt b a = false)
  | [], p, _ => by simp
  | x :: r, p, h => by
    have h' : (!Spec.ltCps x.cps.toList p.cps.toList && risingS x r) = true := h
    rw [Bool.and_eq_true, ltCps_eq] at h'
    have h1 : sLt x p = false := by simpa using h'.1
    have ih := rising_pw r x h'.2
    refine List.pairwise_cons.mpr ⟨fun y hy => ?_, ih⟩
    rcases List.mem_cons.mp hy with rfl | hy
    · exact h1
    · exact sto_s.ntr h1 (List.rel_of_pairwise_cons ih hy)
theorem sortedS_pw {ss : List Str} (h : sortedS ss = true) : ss.Pairwise (fun a b => sLt b a = false) := by
  cases ss with
  | nil => exact .nil
  | cons x r => exact rising_pw r x h
theorem sortedS_eq {a b : List Str} (ha : sortedS a = true) (hb : sortedS b = true) (hp : a.Perm b) : a = b := sorted_unique sto_s (sortedS_pw ha) (sortedS_pw hb) hp
theorem due_ok {bb : Bool} {rows : List Row} (h : ∀ r ∈ rows, RowOk r) {S : List K2} (hp : S.Perm ((dueOf rows).map (key2 (folderOf bb)))) : RowOk (S.map Prod.snd) := fun x hx => by
  obtain ⟨t, ht, rfl⟩ := List.mem_map.mp hx
  obtain ⟨F, hF, rfl⟩ := List.mem_map.mp (hp.mem_iff.mp ht)
  obtain ⟨G, hG, hF'⟩ := List.mem_flatMap.mp hF
  obtain rfl := (List.mem_replicate.mp hF').2
  exact folder_ok bb (fronts_ok (l := []) (fun q hq => nomatch hq) h _ hG)
theorem ints_item : ∀ {us : List Value} {ms : List Int}, IntsAre us ms → ∀ (i : Nat) v, us[i]? = some v → ∃ x t, v = .int x t
  | _, _, .nil, i, v, e => by simp at e
  | _, _, .cons y t h, 0, v, e => by simp at e; exact ⟨y, t, e.symm⟩
  | _, _, .cons y t h, i + 1, v, e => ints_item h i v (by simpa using e)
inductive PathR (f : Int → Str) (v y : Value) : Prop
  | mk (x : Int) (t t' : Tok) (e1 : v = .int x t) (e2 : y = .str (f x) t')
theorem paths_of {f : Int → Str} : ∀ {us ys : List Value} {ms : List Int}, IntsAre us ms → Paired (PathR f) us ys → StrsAre ys (ms.map f)
  | _, _, _, .nil, .nil => .nil
  | _, _, _, .cons y t h, .cons e r => by
    obtain ⟨x, t1, t2, e1, e2⟩ := e
    cases e1
    rw [e2]
    exact .cons _ _ (paths_of h r)
theorem top_eq (bb : Bool) : (if bb = true then ("/" : Str) else ("" : Str)) = if bb = true then "/" else "" := by cases bb <;> rfl
end

section
variable {w : World} {mean : ExcName → Option Value} {mg mb : Str → Option Value} {b g : Heap} {A : Around} {s : Shared} {L : Addr} {m : Str → Option Value} {news : List (Addr × Obj)}
inductive LawT (g : Heap) (L : Addr) (s : Shared) (bb : Bool) (D : Addr) (ys : List Value) (k : Nat) (v : Value) (s' : Shared) : Prop
  | mk (t : Tok) (h : Heap) (tk : Nat) (m' : Str → Option Value) (ev : v = .str (if bb = true then ("/" : Str) else ("" : Str)) t) (es : s' = { s with heap := h, toks := tk }) (hm : Has m' [("paths", .ref D)]) (F : Fr g L h m') (N : News g L h [(D, listOf ys.toArray k)])
theorem law_call {R : Result → Shared → Prop} {l : Addr} {vs : List Value} {ns : List Int} : (hd.heap_39 w.params).In b → (T : Top hd.view_39 (looseW hd.view_39 []) mean mg mb b) → (hb : ∀ x o, b.get? x = some o → s.heap.get? x = some o) →
  (hl : s.heap.IsList l vs.toArray) → (hns : IntsAre vs ns) → (hn : ns.length ≤ 63) → (hh : A.handled = none) → (hroom : A.depth + 70 < recursionLimit) → (hu : A.units + 4000 < cLine) →
  (hR : ∀ h' tk, (∀ x o, s.heap.get? x = some o → h'.get? x = some o) → R (.ok (.ret (.bool true))) { s with heap := h', toks := tk }) →
  codeAny (model PySem.Challenge.rw_pd0047_01.row.prog w) A (.call (.ref 189) ⟨[.ref l], []⟩) R s := by
  k_fill
  intro X T hb hl hns hn hh hroom hu hR
  have hnl : vs.length = ns.length := hns.length
  refine enterC [("script", .ref l)] X T hb (by k_is) (by k_is) (by omega) (BindsTo.of_eq rfl) rfl (by decide +kernel) ?_ rfl rfl rfl
  intro L' h₁ tk cells X' T' F N Y
  k_cells Y
  clear X T hb
  repeat' ((fail_if_success (with_reducible show wpAny _ _ (call _ _) _ _ _)); (first | walk1 | (dsimp only; walk1)))
  all_goals (try k_data)
  (rename Fr _ _ _ _ => F0)
  (rename News _ _ _ _ => N0)
  refine sumK hh F0 N0 (F0.lst hl) hns fun h2 tk2 t2 F2 N2 => ?_
  clear F0 N0
  walk_at "go"
  all_goals (try k_data)
  (rename Fr _ _ _ _ => F1)
  (rename News _ _ _ _ => N1)
  (rename _ = Data.cell _ => dr)
  generalize hbb : (ns.sum.fmod 2 == 0) = bb at dr
  have hnsT : True → IntsAre vs ns := fun _ => hns
  refine listCompA [("rooted", L' + 1)] ?_ rfl rfl rfl (by decide) (by intro _; rfl)
  repeat' ((fail_if_success (with_reducible show wpAny _ _ (binaryOp _ _ _) _ _ _)); (first | walk1 | (dsimp only; walk1)))
  all_goals (try k_data)
  (rename Fr _ _ _ _ => F3)
  (rename News _ _ _ _ => N3)
  rename_i Li _ l1 D ws _ hI hC hL l2
  refine add_lists_ints F3 N3 ⟨_, (N3 (Li, _) (by walk_at "mem")).1, rfl, _, rfl⟩ ⟨_, (N3 (D, _) (by walk_at "mem")).1, rfl, _, rfl⟩ (.cons _ _ (.cons _ _ (.cons _ _ (.cons _ _ (.cons _ _ .nil))))) hI (fun h4 F4 N4 hi4 => ?_) (by rw [sizeLine_eq, hC]; simp; omega)
  generalize hus : [Value.int 17 _, Value.int 3 _, Value.int 401 _, Value.int 9 _, Value.int 161 _] ++ ws = us at N4 hi4
  have hul : us.length = 5 + min 4 ns.length := by rw [hi4.length, List.length_append, hC]; rfl
  have hml : ([17, 3, 401, 9, 161] ++ List.take 4 ns).length = us.length := hi4.length.symm
  generalize [17, 3, 401, 9, 161] ++ List.take 4 ns = ms at hi4 hml
  clear F3 N3 hI hus
  walk_at "go"
  refine' compA (P := fun i v => us.toArray[i]? = some v) (n := us.toArray.size) (p := fun _ => true) (R := fun _ => PathR fun x => pathT x (frontT bb)) ?Sb ?s2b ?Fb ?Nb ?monob ?c1b ?c2b ?c3b ?c4b ?c5b ?bodyb ?finb
  case Fb => exact F4
  case Nb => exact N4
  case Sb => exact Src.list (items := us.toArray) hh ⟨_, (N4 _ (.head _)).1, rfl, _, rfl⟩
  case s2b => rw [List.size_toArray]; omega
  case c1b => decide
  case c2b => rfl
  case c3b => rfl
  case c4b => rfl
  case c5b => rfl
  case monob => intro B B' v y _ h; exact h
  case bodyb =>
    refine ⟨fun C i v s₃ m₃ hP F3 hm N3 => wpAny_tests_nil ⟨rfl, keepsBut_of (fun a o e => F3.keep a o e) F3 N3 (fun p hp => List.mem_append_right _ hp), m₃, F3.ns, hm⟩, fun C i v s₃ m₃ hP _ F3 hm N3 => ?_⟩
    obtain ⟨x, t, rfl⟩ := ints_item hi4 i v (by simpa using hP)
    have F3k := F3.keep
    replace F3 := Has.canon (ps := [("x", Value.int x t)]) ⟨hm, trivial⟩ F3
    dsimp only [List.cons_append, List.nil_append] at N3
    clear F4 N4 hbb
    cases bb
    all_goals walk_at "go"
    all_goals (try k_data)
    all_goals (rename Fr _ _ _ _ => F5)
    all_goals (rename News _ _ _ _ => N5)
    · refine path_at F5 N5 X' T' hh (room1 hroom (by decide)) (unit1 hu (by decide)) (by decide +kernel) fun h6 tk6 t6 F6 N6 => ?_
      exact ⟨keepsBut_of (fun a o e => F3k a o e) F6 N6 (fun p hp => by walk_at "mem"), [], fun q hq => (nomatch hq), ⟨x, t, t6, rfl, rfl⟩⟩
    · refine path_at F5 N5 X' T' hh (room1 hroom (by decide)) (unit1 hu (by decide)) (by decide +kernel) fun h6 tk6 t6 F6 N6 => ?_
      exact ⟨keepsBut_of (fun a o e => F3k a o e) F6 N6 (fun p hp => by walk_at "mem"), [], fun q hq => (nomatch hq), ⟨x, t, t6, rfl, rfl⟩⟩
  case finb =>
    intro D6 h6 tk6 ys6 k6 vv6 B6 F6 O6 hlen6 hP6 hpr6
    have hv6 := list_of_at hlen6 hP6
    rw [hv6, filter_true] at hpr6
    have hst : StrsAre ys6 (ms.map fun x => pathT x (frontT bb)) := paths_of hi4 hpr6
    have hts : ∀ y ∈ ms.map (fun x => pathT x (frontT bb)), y.length ≤ 20 := fun y hy => by
      obtain ⟨x, _, rfl⟩ := List.mem_map.mp hy
      have h1 := path_len x (frontT bb)
      have h2 := front_short bb
      omega
    have habs : ∀ y ∈ ms.map (fun x => pathT x (frontT bb)), Txt.startswith y "/" = bb := fun y hy => by
      obtain ⟨x, _, rfl⟩ := List.mem_map.mp hy
      exact path_starts x bb
    have hok : ∀ y ∈ ms.map (fun x => pathT x (frontT bb)), PyData.strOk y = true := fun y hy => by
      obtain ⟨x, _, rfl⟩ := List.mem_map.mp hy
      exact path_ok x bb
    have htl : (ms.map fun x => pathT x (frontT bb)).length = 5 + min 4 ns.length := by rw [List.length_map, hml, hul]
    generalize ms.map (fun x => pathT x (frontT bb)) = ts at hst hts habs hok htl
    have hrok : ∀ r ∈ ts.map rowOf, RowOk r := fun r hr => by obtain ⟨x, hx, rfl⟩ := List.mem_map.mp hr; exact split_ok (hok x hx)
    have N6 : News s.heap L' h6 [(D6, listOf ys6.toArray k6), (L' + 1, _)] := newsVia (l' := [(D6, listOf ys6.toArray k6), (L' + 1, _)]) O6.N (fun N => by walk_at "ro")
    replace F6 : Fr s.heap L' h6 _ := Has.canon (ps := [("paths", Value.ref D6)]) ⟨rfl, trivial⟩ F6
    clear F4 N4 O6 hpr6 hv6 hP6 hlen6 hi4
    repeat' ((fail_if_success (with_reducible show wpAny _ _ (eval (Expr.IfExp _ _ _ _) _) _ _ _)); (first | walk1 | (dsimp only; walk1)))
    all_goals (try k_data)
    (rename Fr _ _ _ _ => F7)
    (rename News _ _ _ _ => N7)
    refine cutV (LawT s.heap L' s bb D6 ys6 k6) ?_ ?_
    · clear hbb
      cases bb
      all_goals walk_at "go"
      all_goals (try k_data)
      all_goals (rename Fr _ _ _ _ => F8)
      all_goals (rename News _ _ _ _ => N8)
      all_goals exact ⟨⟨_, _, _, _, rfl, rfl, ⟨rfl, trivial⟩, F8, by walk_at "ro"⟩⟩
    · rintro v s' ⟨t, h8, tk8, m8, rfl, rfl, hm8, F8, N8⟩
      replace F8 := hm8.canon F8
      clear F7 N7
      repeat' ((fail_if_success (with_reducible show wpAny _ _ (call _ _) _ _ _)); (first | walk1 | (dsimp only; walk1)))
      all_goals (try k_data)
      refine due_at (ts := ts) (bb := bb) F8 N8 (.head _) X' T' hst (by omega) (by omega) hts hok (top_eq bb) hh (room1 hroom (by decide)) (unit1 hu (by decide)) fun h9 tk9 aD usD kD S F9 N9 hsD hpD hqD => ?_
      clear F8 N8
      repeat' ((fail_if_success (with_reducible show wpAny _ _ (call _ _) _ _ _)); (first | walk1 | (dsimp only; walk1)))
      all_goals (try k_data)
      (rename Fr _ _ _ _ => F10)
      (rename News _ _ _ _ => N10)
      refine tied_at (ts := ts) (bb := bb) F10 N10 (by walk_at "mem") X' T' hst (by omega) (by omega) hts habs hh (room1 hroom (by decide)) (unit1 hu (by decide)) fun h11 tk11 aT usT kT bs noted F11 N11 hsT K => ?_
      have heq := tied_end K (by rw [List.length_map]; omega) hpD hqD
      rw [heq] at hsT
      have hDok := due_ok (bb := bb) hrok hpD
      clear F10 N10 K heq
      repeat' ((fail_if_success (with_reducible show wpAny _ _ (compareOp _ _ _) _ _ _)); (first | walk1 | (dsimp only; walk1)))
      all_goals (try k_data)
      (rename News _ _ _ _ => N12)
      refine rows_eq N12 (by walk_at "mem") (by walk_at "mem") hsT hsD hDok hDok (unit1 hu (by decide)) ?_
      rw [decide_eq_true rfl]
      repeat' ((fail_if_success (with_reducible show wpAny _ _ (call (Value.ref _) _) _ _ _)); (first | walk1 | (dsimp only; walk1)))
      all_goals (try k_data)
      (rename Fr _ _ _ _ => F13)
      (rename News _ _ _ _ => N13)
      replace N13 := newsVia (l' := [(D6, listOf ys6.toArray k6), (aD, listOf usD.toArray kD)]) N13 (fun N => by walk_at "ro")
      refine grown_at (ts := ts) (bb := bb) F13 N13 (.head _) X' T' hst (by omega) (by omega) hts habs hh (room1 hroom (by decide)) (unit1 hu (by decide)) fun h14 tk14 aG usG kG ins noted2 F14 N14 hsG hl9 hG => ?_
      obtain ⟨xs, rfl, hxp⟩ := grown_end hG hpD
      have hdl := due_len (rows := ts.map rowOf) (by intro z; have h1 := congrArg List.length z; rw [List.length_map, List.length_nil] at h1; omega)
      have hSl : (S.map Prod.snd).length ≤ 9 := by
        have h1 := hpD.length_eq
        rw [List.length_map] at h1 ⊢
        rw [List.length_map] at hdl
        omega
      have hxl := hxp.length_eq
      replace hsG : StrsAre usG xs := hsG
      have hxok : RowOk xs := fun y hy => hDok y (hxp.mem_iff.mp hy)
      clear F13 N13 hG hpD hqD hl9
      have huG := hsG.length
      have huD := hsD.length
      repeat' ((fail_if_success (with_reducible show wpAny _ _ (call (Value.builtin "sorted") _) _ _ _)); (first | walk1 | (dsimp only; walk1)))
      all_goals (try k_data)
      (rename Fr _ _ _ _ => F15)
      (rename News _ _ _ _ => N15)
      refine sorted_N_str F15 N15 ⟨_, (N15 (aG, _) (by walk_at "mem")).1, rfl, _, rfl⟩ hsG (by omega) fun h16 vG sG eG F16 N16 hG16 hGp hGs => ?_
      clear F15 N15
      repeat' ((fail_if_success (with_reducible show wpAny _ _ (call (Value.builtin "sorted") _) _ _ _)); (first | walk1 | (dsimp only; walk1)))
      all_goals (try k_data)
      (rename Fr _ _ _ _ => F17)
      (rename News _ _ _ _ => N17)
      refine sorted_N_str F17 N17 ⟨_, (N17 (aD, _) (by walk_at "mem")).1, rfl, _, rfl⟩ hsD (by omega) fun h18 vD sD eD F18 N18 hD18 hDp hDs => ?_
      clear F17 N17
      have hGD : sG = sD := sortedS_eq hGs hDs ((hGp.trans hxp).trans hDp.symm)
      have hsok : RowOk sD := fun y hy => hDok y (hDp.mem_iff.mp hy)
      rw [hGD] at hG16
      repeat' ((fail_if_success (with_reducible show wpAny _ _ (compareOp _ _ _) _ _ _)); (first | walk1 | (dsimp only; walk1)))
      all_goals (try k_data)
      (rename News _ _ _ _ => N19)
      refine rows_eq N19 (by walk_at "mem") (by walk_at "mem") hG16 hD18 hsok hsok (unit1 hu (by decide)) ?_
      rw [decide_eq_true rfl]
      walk_at "go"
      exact hR _ _ (fun x o e => F18.keep x o e)
end

theorem law_holds : PySem.Challenge.rw_pd0047_01.Holds := hd (by
  k_fill
  intro w s₀ s₁ mg mb G Y fa o pm cd doc dV kV ho hdd hcd hD hmg hg args vals as hpre hlay hrd hwl hlo
  have KX := kIn_of Y
  have X := (Ground.X G).1
  refine Ground.open G ?_
  intro T B D TE TW
  have hfa : mg "law" = some (.ref 189) := mg_of KX T.g (by k_is)
  have hfb : fa = 189 := by
    have h1 : some (Value.ref fa) = some (.ref 189) := hmg.symm.trans hfa
    injection h1 with h2
    injection h2
  subst hfb
  clear hmg hfa
  wrow_args hpre hlay hrd hwl hlo
  all_goals (refine enter_call ?_)
  all_goals (w_top on)
  all_goals (try refine codeAny_mono ?_ (fun _ _ g => GoodW.toG g))
  (rename IntsAre _ _ => hI)
  (rename s₁.heap.IsList _ _ => hL)
  (rename ¬ _ => hc)
  refine law_call KX T (fun x o e => e) hL hI (by omega) rfl (by decide +kernel) (by decide +kernel) fun h' tk hk => ?_
  refine ⟨.inl ⟨_, ofPy (.bool true), [], rfl, fun cls => ?ra, ?rd, ?po, fun _ => ⟨List.nodup_nil, fun a h => nomatch h⟩⟩, hk, rfl, hg⟩
  case ra => rfl
  case rd => first | exact .bool true | exact ReadsW.bool _ | constructor
  case po =>
    simp only [RowW.claim, OpenLaw.row, ofPy, WTm.holds, WTm.value, WShape.has]
    first | rfl | decide +kernel | (simp [WShape.arms]; done))


end Mine
theorem PySem.Challenge.cw_pd0047_01_holds : PySem.Challenge.rw_pd0047_01.Holds := by
  exact Mine.law_holds
