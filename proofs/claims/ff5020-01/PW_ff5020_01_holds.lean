import PyProof.Rows.All
import Wide.All
import OpenK.AllK
import Wide.FinOn
import PySem.Challenge.RW_ff5020_01
set_option Elab.async false
set_option maxRecDepth 100000
set_option maxHeartbeats 8000000

/-! The head of the walk. -/
section
open PySem PySem.W PyProof.Rows
namespace Mine
open_top hd for PySem.Challenge.rw_ff5020_01
end Mine
end

/-! Plain -/
section
namespace Mine
def tbl : List (Int × Int × Int) := [(0, 0, 0), (1, 31, 0), (127, 159, 0), (173, 173, 0), (768, 879, 0), (4352, 4447, 2), (8203, 8207, 0), (9200, 9203, 2), (11904, 12350, 2), (12353, 13311, 2), (19968, 40959, 2), (44032, 55203, 2), (65024, 65039, 0), (65281, 65376, 2), (127744, 127994, 2), (127995, 127999, 0), (128000, 128591, 2)]
def wtb : List (Int × Int × Int) := [(0, 0, 0), (173, 173, 0), (768, 879, 0), (4352, 4447, 2), (8203, 8207, 0), (9200, 9203, 2), (11904, 12350, 2), (12353, 13311, 2), (19968, 40959, 2), (44032, 55203, 2), (65024, 65039, 0), (65281, 65376, 2), (127744, 127994, 2), (127995, 127999, 0), (128000, 128591, 2)]
def sgl : List (Int × Int) := [(32, 126), (160, 172), (174, 767), (880, 1154), (9472, 9724), (10240, 10495)]
def sizeIn : List (Int × Int × Int) → Int → Int
  | [], _ => 1
  | (a, b, c) :: r, n => if a ≤ n ∧ n ≤ b then c else sizeIn r n
def lawSize (n : Int) : Int := sizeIn tbl n
def plainIn : List (Int × Int) → Int → Bool
  | [], _ => false
  | (a, b) :: r, n => (decide (a ≤ n) && decide (n ≤ b)) || plainIn r n
def lawPlain (n : Int) : Bool := plainIn sgl n

theorem law_low {n : Int} (h : n ≠ 0) (h0 : 0 ≤ n) (h1 : n < 32) : lawSize n = 0 := by
  simp only [lawSize, tbl, sizeIn]
  repeat' split
  all_goals first | rfl | omega
theorem law_ctl {n : Int} (h : 127 ≤ n) (h1 : n < 160) : lawSize n = 0 := by
  simp only [lawSize, tbl, sizeIn]
  repeat' split
  all_goals first | rfl | omega
theorem law_hi {n : Int} (h : 128591 < n) : lawSize n = 1 := by
  simp only [lawSize, tbl, sizeIn]
  repeat' split
  all_goals first | rfl | omega
theorem law_wtb {n : Int} (h0 : 0 ≤ n) (h : n = 0 ∨ 32 ≤ n) (h1 : n < 127 ∨ 160 ≤ n) : lawSize n = sizeIn wtb n := by
  simp only [lawSize, tbl, wtb, sizeIn]
  rw [if_neg (show ¬ (1 ≤ n ∧ n ≤ 31) by omega), if_neg (show ¬ (127 ≤ n ∧ n ≤ 159) by omega)]
theorem law_one {n : Int} (h : lawPlain n = true) : lawSize n = 1 := by
  simp only [lawPlain, sgl, plainIn, Bool.or_eq_true, Bool.and_eq_true, decide_eq_true_eq, Bool.false_eq_true, or_false] at h
  simp only [lawSize, tbl, sizeIn]
  repeat' split
  all_goals first | rfl | omega
theorem sizeIn_none : ∀ {l : List (Int × Int × Int)} {n : Int}, (∀ (i : Nat) r, l[i]? = some r → r.2.1 < n ∨ n < r.1) → sizeIn l n = 1
  | [], _, _ => rfl
  | (a, b, c) :: r, n, h => by
    have h0 := h 0 (a, b, c) rfl
    have ih := sizeIn_none (l := r) (n := n) fun i r' e => h (i + 1) r' (by simpa using e)
    simp only [sizeIn]
    rw [if_neg (by have h0' : b < n ∨ n < a := h0; omega), ih]
theorem wtb_len : wtb.length = 15 := rfl
theorem wtb_apart : ∀ i j : Fin 15, i < j → (wtb[i.val]!).2.1 < (wtb[j.val]!).1 ∧ (wtb[i.val]!).1 ≤ (wtb[i.val]!).2.1 ∧ (wtb[j.val]!).1 ≤ (wtb[j.val]!).2.1 := by decide
theorem wtb_get {i : Nat} {r : Int × Int × Int} (h : wtb[i]? = some r) : i < 15 ∧ wtb[i]! = r := by
  have hi := (List.getElem?_eq_some_iff.mp h).1
  refine ⟨hi, ?_⟩
  rw [List.getElem!_eq_getElem?_getD, h]; rfl
theorem wtb_lt {i j : Nat} {r r' : Int × Int × Int} (hi : wtb[i]? = some r) (hj : wtb[j]? = some r') (h : i < j) : r.2.1 < r'.1 ∧ r.1 ≤ r.2.1 ∧ r'.1 ≤ r'.2.1 := by
  obtain ⟨hi1, rfl⟩ := wtb_get hi
  obtain ⟨hj1, rfl⟩ := wtb_get hj
  exact wtb_apart ⟨i, hi1⟩ ⟨j, hj1⟩ h
theorem sizeIn_hit : ∀ {l : List (Int × Int × Int)} {n : Int} {j : Nat} {a b c : Int}, (∀ (i : Nat) r, i < j → l[i]? = some r → r.2.1 < n ∨ n < r.1) → l[j]? = some (a, b, c) → a ≤ n → n ≤ b → sizeIn l n = c
  | [], _, _, _, _, _, _, h, _, _ => by simp at h
  | (a', b', c') :: r, n, 0, a, b, c, _, h, h1, h2 => by
    simp only [List.getElem?_cons_zero, Option.some.injEq, Prod.mk.injEq] at h
    obtain ⟨rfl, rfl, rfl⟩ := h
    simp only [sizeIn]
    rw [if_pos ⟨h1, h2⟩]
  | (a', b', c') :: r, n, j + 1, a, b, c, hb, h, h1, h2 => by
    have h0 := hb 0 (a', b', c') (Nat.succ_pos _) rfl
    simp only [sizeIn]
    rw [if_neg (by have h0' : b' < n ∨ n < a' := h0; omega)]
    exact sizeIn_hit (l := r) (j := j) (fun i r' hi e => hb (i + 1) r' (by omega) (by simpa using e)) (by simpa using h) h1 h2
theorem wtb_hit {n : Int} {j : Nat} {a b c : Int} (h : wtb[j]? = some (a, b, c)) (h1 : a ≤ n) (h2 : n ≤ b) : sizeIn wtb n = c :=
  sizeIn_hit (fun i r hi e => .inl (by have h3 : r.2.1 < a := (wtb_lt e h hi).1; omega)) h h1 h2
theorem wtb_up {n : Int} {j : Nat} {a b c : Int} (h : wtb[j]? = some (a, b, c)) (h2 : b < n) : ∀ (i : Nat) r, wtb[i]? = some r → i ≤ j → r.2.1 < n := by
  intro i r e hi
  rcases Nat.lt_or_eq_of_le hi with hi | rfl
  · have h3 : r.2.1 < a ∧ r.1 ≤ r.2.1 ∧ a ≤ b := wtb_lt e h hi
    omega
  · rw [h] at e; cases e; exact h2
theorem wtb_down {n : Int} {j : Nat} {a b c : Int} (h : wtb[j]? = some (a, b, c)) (h2 : n < a) : ∀ (i : Nat) r, wtb[i]? = some r → j ≤ i → n < r.1 := by
  intro i r e hi
  rcases Nat.lt_or_eq_of_le hi with hi | rfl
  · have h3 : b < r.1 ∧ a ≤ b ∧ r.1 ≤ r.2.1 := wtb_lt h e hi
    omega
  · rw [h] at e; cases e; exact h2
end Mine
end

/-! Base -/
section
open PySem PySem.W PySem.Spec PySem.Calls PyProof.Rows
namespace Mine

/-- a call that only allocates: all that stood stands -/
def Full (s : Shared) (h' : Heap) : Prop := ∀ b o, s.heap.get? b = some o → h'.get? b = some o

def PureC (prog : Program) (w : World) (K : Frag) (f : Addr) (d u : Nat) (args : List Value) (R : Heap → Value → Heap → Prop) : Prop :=
  ∀ (p : Program) (loose : List Str) (mean : ExcName → Option Value) (mg mb : Str → Option Value) (A : Around) (s : Shared) (Q E : Value → Shared → Prop),
    A.handled = none → A.depth + d < recursionLimit → A.units + u < cLine → K.In s.heap → Top p loose mean mg mb s.heap →
    (∀ v h' tk', Full s h' → R s.heap v h' → Q v { s with heap := h', toks := tk' }) →
    wpAny (model prog w) A (call (.ref f) args) Q E s

section
variable {prog : Program} {w : World} {A : Around} {s : Shared} {K : Frag} {p : Program} {loose : List Str} {mean : ExcName → Option Value} {mg mb : Str → Option Value}

theorem enter_K {R : Result → Shared → Prop} {name qual : Str} {params : Arguments} {body : List Stmt} {scope : Scope} {dV kV doc pm cdv ct oc : Value} {an od : Option Addr} {osl : Array (Option Value)} {f : Addr} {args : Args} {binds : List (Str × Value)}
    (X : K.In s.heap) (T : Top p loose mean mg mb s.heap)
    (ho : K.lookup f = some ⟨oc, od, .func (fnOf name qual params body scope dV kV doc pm an cdv ct), osl⟩) (hcd : codeIn K cdv qual = true) (hroom : A.depth < recursionLimit)
    (hbind : BindsTo s (fnOf name qual params body scope dV kV doc pm an cdv ct) args binds) (hloc : ∀ y ∈ binds, scope.names.lookup y.1 = some .local)
    (h : ∀ g L' h₁, g = s.heap → Fr g L' h₁ (fun y => binds.reverse.lookup y) → News g L' h₁ [] → K.In g → Top p loose mean mg mb g →
      wpAny (model prog w) (A.deeper (envOf qual scope L' f cdv)) (execs body (envOf qual scope L' f cdv))
        (fun fl s' => R (.ok (.ret (match fl with | .ret v => v | _ => .none))) s') (fun _ _ => False)
        { s with heap := h₁, toks := s.toks + binds.length })
    (hco : scope.isCoroutine = false) (hgen : scope.isGenerator = false) (hk : scope.kind = .function)
    (hcell : ∀ x ∈ scope.names, x.2 ≠ .cell) : codeAny (model prog w) A (.call (.ref f) args) R s := by
  refine codeAny_call_def (fd := fnOf name qual params body scope dV kV doc pm an cdv ct) (body := body) (binds := binds) hroom (X _ _ ho) rfl T.nolimit (codeRec_of X hcd) rfl hbind hcell hloc (fun h₁ hns hk₁ => ?_) hco hgen hk
  exact wpAny_mono (h s.heap _ h₁ rfl ⟨hns, hk₁, Nat.le_refl _⟩ News.nil X T) (fun _ _ x => x) fun _ _ x => x.elim
end
end Mine
namespace Mine
section
variable {prog : Program} {w : World} {A : Around} {s : Shared} {K : Frag} {p : Program} {loose : List Str} {mean : ExcName → Option Value} {mg mb : Str → Option Value} {h₀ : Heap} {L : Addr} {m : Str → Option Value} {news : List (Addr × Obj)}

theorem code_defF {R : Result → Shared → Prop} {name qual : Str} {params : Arguments} {body : List Stmt} {scope : Scope} {dV kV doc pm cdv ct oc : Value} {an od : Option Addr} {osl : Array (Option Value)} {f : Addr} {args : Args} {binds : List (Str × Value)}
    (F : Fr h₀ L s.heap m) (X₀ : K.In h₀) (N : News h₀ L s.heap news) (T : Top p loose mean mg mb h₀)
    (ho : K.lookup f = some ⟨oc, od, .func (fnOf name qual params body scope dV kV doc pm an cdv ct), osl⟩) (hcd : codeIn K cdv qual = true) (hroom : A.depth < recursionLimit)
    (hbind : BindsTo s (fnOf name qual params body scope dV kV doc pm an cdv ct) args binds) (hloc : ∀ y ∈ binds, scope.names.lookup y.1 = some .local)
    (h : ∀ g L' h₁, Fr h₀ L g m → Fr g L' h₁ (fun y => binds.reverse.lookup y) → News g L' h₁ news → K.In g → Top p loose mean mg mb g →
      wpAny (model prog w) (A.deeper (envOf qual scope L' f cdv)) (execs body (envOf qual scope L' f cdv))
        (fun fl s' => LeaveK h₀ L m g R (match fl with | .ret v => v | _ => .none) s') (fun _ _ => False)
        { s with heap := h₁, toks := s.toks + binds.length })
    (hco : scope.isCoroutine = false) (hgen : scope.isGenerator = false) (hk : scope.kind = .function)
    (hcell : ∀ x ∈ scope.names, x.2 ≠ .cell) : codeAny (model prog w) A (.call (.ref f) args) R s := by
  have nm : ∀ b o, h₀.get? b = some o → b ∉ news.map (·.1) := fun b o e q => by
    obtain ⟨p, hp, rfl⟩ := List.mem_map.mp q
    rw [(N p hp).2.2] at e; cases e
  have st : ∀ b o, h₀.get? b = some o → (hideAll s.heap (news.map (·.1))).get? b = some o := fun b o e => hideAll_get _ (F.keep b o e) (nm b o e)
  obtain ⟨oL, es, ep, hL, hLd, hLk, hLf⟩ := F.ns
  have nL : L ∉ news.map (·.1) := fun q => by
    obtain ⟨p, hp, e⟩ := List.mem_map.mp q
    exact (N p hp).2.1 e
  have hLg := hideAll_get (news.map (·.1)) hL nL
  refine codeAny_call_def (fd := fnOf name qual params body scope dV kV doc pm an cdv ct) (body := body) (binds := binds) hroom (X₀.keeps F.keep _ _ ho) rfl (T.nolimit.keeps F.keep) (codeRec_of (X₀.keeps F.keep) hcd) rfl hbind hcell hloc (fun h₁ hns hk₁ => ?_) hco hgen hk
  refine wpAny_mono (h _ s.heap.objs.size h₁ ⟨⟨oL, es, ep, hLg, hLd, hLk, hLf⟩, st, F.above⟩ ⟨hns, fun b o e => hk₁ b o (of_hideAll _ e), Nat.le_of_eq (hideAll_size _ _)⟩
    (fun p hp => ⟨hk₁ _ _ (N p hp).1, Nat.ne_of_lt (Heap.lt_size (N p hp).1), hideAll_none _ (List.mem_map_of_mem hp)⟩) (X₀.keeps st) (T.keeps st)) (fun fl s' hl => ?_) fun _ _ y => y.elim
  obtain ⟨L', m', news', F', N', k⟩ := hl
  refine k ⟨⟨oL, es, ep, F'.keep L oL hLg, hLd, hLk, hLf⟩, fun b o e => F'.keep b o (st b o e), F.above⟩ fun p hp => ⟨(N' p hp).1, fun q => ?_, ?_⟩
  · have := (N' p hp).2.2; rw [q, hLg] at this; cases this
  · cases q : h₀.get? p.1 with
    | none => rfl
    | some o => have := (N' p hp).2.2; rw [st _ _ q] at this; cases this

/-- a full-keeping call, seen from a frame -/
theorem pure_use {d u : Nat} {f : Addr} {args : List Value} {R : Heap → Value → Heap → Prop} {Q E : Value → Shared → Prop}
    (C : PureC prog w K f d u args R) (F : Fr h₀ L s.heap m) (X₀ : K.In h₀) (N : News h₀ L s.heap news) (T : Top p loose mean mg mb h₀)
    (hA : A.handled = none) (hd : A.depth + d < recursionLimit) (hu : A.units + u < cLine)
    (k : ∀ v h' tk', Full s h' → Fr h₀ L h' m → News h₀ L h' news → R s.heap v h' → Q v { s with heap := h', toks := tk' }) :
    wpAny (model prog w) A (call (.ref f) args) Q E s :=
  C p loose mean mg mb A s Q E hA hd hu (X₀.keeps F.keep) (T.keeps F.keep) fun v h' tk' hk r =>
    k v h' tk' hk (F.keeps hk) (fun p hp => ⟨hk _ _ (N p hp).1, (N p hp).2⟩) r
end
end Mine
namespace Mine
section
variable {prog : Program} {w : World} {A : Around} {s : Shared} {env : Env} {h₀ : Heap} {L : Addr} {m : Str → Option Value} {news : List (Addr × Obj)} {E : Value → Shared → Prop} {Q : Flow → Shared → Prop}

theorem fr_set {h : Heap} {x : Str} {v : Value} (F : Fr h₀ L h m) (e : m x = some v) : Fr h₀ L h (fun y => if y = x then some v else m y) := by
  have : (fun y => if y = x then some v else m y) = m := funext fun y => by
    by_cases h : y = x
    · rw [if_pos h, h, e]
    · rw [if_neg h]
  rw [this]; exact F

theorem set_eq {m m' : Str → Option Value} {x : Str} {v : Value} (h : m' = m) (e : m x = some v) : (fun y => if y = x then some v else m' y) = m := funext fun y => by
  by_cases q : y = x
  · rw [if_pos q, q, e]
  · rw [if_neg q, h]

def TurnEnd (h₀ : Heap) (L : Addr) (s : Shared) (news : List (Addr × Obj)) (J : Nat → (Str → Option Value) → Prop) (n : Nat) (Q : Flow → Shared → Prop) (f : Flow) (s₃ : Shared) : Prop :=
  match f with
  | .ret v => Q (.ret v) s₃
  | .brk => Q .next s₃
  | _ => ∃ h' tk m₂ n', s₃ = { s with heap := h', toks := tk } ∧ Fr h₀ L h' m₂ ∧ News h₀ L h' news ∧ n' < n ∧ J n' m₂

theorem TurnEnd.mk {h' : Heap} {tk : Nat} {m₂ : Str → Option Value} {n n' : Nat} {J : Nat → (Str → Option Value) → Prop} (F : Fr h₀ L h' m₂) (N : News h₀ L h' news) (hn : n' < n) (hJ : J n' m₂) :
    TurnEnd h₀ L s news J n Q .next { s with heap := h', toks := tk } := ⟨h', tk, m₂, n', rfl, F, N, hn, hJ⟩

theorem While_R {test : Expr} {body : List Stmt} {pos : Pos} (J : Nat → (Str → Option Value) → Prop) {n₀ : Nat}
    (F : Fr h₀ L s.heap m) (N : News h₀ L s.heap news) (hJ : J n₀ m)
    (turn : ∀ n m₁ h₁ tk₁, Fr h₀ L h₁ m₁ → News h₀ L h₁ news → J n m₁ →
      wpAny (model prog w) A (isTrue test env (eval test env)) (fun b s₂ =>
        if b = true then wpAny (model prog w) A (execs body env) (TurnEnd h₀ L s news J n Q) (fun _ _ => False) s₂ else Q .next s₂) (fun _ _ => False) { s with heap := h₁, toks := tk₁ }) :
    wpAny (model prog w) A (exec (.While test body [] pos) env) Q E s := by
  refine wpAny_noRaise (wpAny_While (codeAny_whileLoop (fun n s' => ∃ h₁ tk₁ m₁, s' = { s with heap := h₁, toks := tk₁ } ∧ Fr h₀ L h₁ m₁ ∧ News h₀ L h₁ news ∧ J n m₁) ?_ n₀ ⟨s.heap, s.toks, m, rfl, F, N, hJ⟩))
  rintro n s' ⟨h₁, tk₁, m₁, rfl, F₁, N₁, J₁⟩
  refine wpAny_mono (turn n m₁ h₁ tk₁ F₁ N₁ J₁) (fun b s₂ h₂ => ?_) fun _ _ x => x.elim
  cases b with
  | false =>
    simp only [Bool.false_eq_true, if_false] at h₂ ⊢
    exact wpAny_execs_nil h₂
  | true =>
    simp only [if_true] at h₂ ⊢
    refine wpAny_mono h₂ (fun f s₃ h₃ => ?_) fun _ _ x => x.elim
    cases f with
    | ret v => exact h₃
    | brk => exact h₃
    | next => obtain ⟨h', tk, m₂, n', rfl, F₂, N₂, hn, J₂⟩ := h₃; exact ⟨n', hn, h', tk, m₂, rfl, F₂, N₂, J₂⟩
    | cont => obtain ⟨h', tk, m₂, n', rfl, F₂, N₂, hn, J₂⟩ := h₃; exact ⟨n', hn, h', tk, m₂, rfl, F₂, N₂, J₂⟩
end

/-- a tuple of three ints, as an object of the ledger -/
abbrev tup3 (a b c : Value) : Obj := { cls := .type "tuple", data := .seq #[a, b, c] }
def RowsN (news : List (Addr × Obj)) : List Value → List (Int × Int × Int) → Prop
  | [], [] => True
  | v :: vs, r :: rs => (∃ T ta tb tc, v = .ref T ∧ (T, tup3 (.int r.1 ta) (.int r.2.1 tb) (.int r.2.2 tc)) ∈ news) ∧ RowsN news vs rs
  | _, _ => False
theorem RowsN.get {news : List (Addr × Obj)} : ∀ {vs : List Value} {rs : List (Int × Int × Int)}, RowsN news vs rs → ∀ {j : Nat} {r : Int × Int × Int}, rs[j]? = some r →
    ∃ T ta tb tc, vs[j]? = some (.ref T) ∧ (T, tup3 (.int r.1 ta) (.int r.2.1 tb) (.int r.2.2 tc)) ∈ news
  | [], [], _, _, _, h => by simp at h
  | v :: vs, r :: rs, h, 0, r', e => by
    obtain ⟨⟨T, ta, tb, tc, rfl, hm⟩, _⟩ := h
    simp at e; subst e
    exact ⟨T, ta, tb, tc, rfl, hm⟩
  | v :: vs, r :: rs, h, j + 1, r', e => by
    obtain ⟨T, ta, tb, tc, h1, h2⟩ := RowsN.get h.2 (j := j) (r := r') (by simpa using e)
    exact ⟨T, ta, tb, tc, by simpa using h1, h2⟩
theorem RowsN.len {news : List (Addr × Obj)} : ∀ {vs : List Value} {rs : List (Int × Int × Int)}, RowsN news vs rs → vs.length = rs.length
  | [], [], _ => rfl
  | _ :: _, _ :: _, h => by simp [RowsN.len h.2]
end Mine
namespace Mine
def Stop (P : Prop) : Prop := P
theorem Stop.out {P : Prop} (h : Stop P) : P := h
theorem Stop.mk {P : Prop} (h : P) : Stop P := h
end Mine
namespace Mine
structure Flag (n : Nat) : Prop where
theorem execs_app (env : Env) : ∀ (l₁ l₂ : List Stmt), execs (l₁ ++ l₂) env = (execs l₁ env >>= fun f => match f with | .next => execs l₂ env | f => pure f)
  | [], l₂ => by rw [List.nil_append, execs_nil, pure_bind]
  | st :: r, l₂ => by
    rw [List.cons_append, execs_cons, execs_cons, bind_assoc]
    congr 1
    funext f
    cases f with
    | next => exact execs_app env r l₂
    | brk => rw [pure_bind]
    | cont => rw [pure_bind]
    | ret v => rw [pure_bind]
def CutPost (R : Shared → Prop) (Q : Flow → Shared → Prop) (f : Flow) (s : Shared) : Prop := match f with | .next => R s | f => Q f s
section
variable {M : Model} {A : Around} {env : Env} {s : Shared} {E : Value → Shared → Prop} {Q : Flow → Shared → Prop}
theorem execs_drop (k : Nat) (R : Shared → Prop) {l : List Stmt} (h1 : wpAny M A (execs (l.take k) env) (CutPost R Q) E s) (h2 : ∀ s', R s' → wpAny M A (execs (l.drop k) env) Q E s') :
    wpAny M A (execs l env) Q E s := by
  rw [← List.take_append_drop k l, execs_app]
  refine wpAny_bind (wpAny_mono h1 (fun f s' h => ?_) fun _ _ e => e)
  cases f with
  | next => exact h2 s' h
  | brk => exact wpAny_pure h
  | cont => exact wpAny_pure h
  | ret v => exact wpAny_pure h
end
section
variable {prog : Program} {w : World} {A : Around} {s : Shared} {E : Value → Shared → Prop} {Q : Value → Shared → Prop}
theorem half_int {a : Int} {t u : Tok} (h : ∀ q : Int, 2 * q ≤ a → a < 2 * q + 2 → Q (.int q s.toks) { s with toks := s.toks + 1 }) : wpAny (model prog w) A (binaryOp .RShift (.int a t) (.int 1 u)) Q E s := by
  refine rshift_int (by decide) (h _ ?_ ?_)
  · have : a.fdiv (2 ^ (1 : Int).toNat) = a / 2 := by
      rw [show (2 : Int) ^ (1 : Int).toNat = 2 from rfl, Int.fdiv_eq_ediv_of_nonneg _ (by decide)]
    rw [this]; omega
  · have : a.fdiv (2 ^ (1 : Int).toNat) = a / 2 := by
      rw [show (2 : Int) ^ (1 : Int).toNat = 2 from rfl, Int.fdiv_eq_ediv_of_nonneg _ (by decide)]
    rw [this]; omega
end
end Mine
namespace Mine
def SEnd (J : Nat → Shared → Prop) (fp : List Addr) (i : Nat) (s₁ : Shared) (Q : Flow → Shared → Prop) (f : Flow) (s₃ : Shared) : Prop :=
  match f with
  | .ret v => Q (.ret v) s₃
  | .brk => Q .next s₃
  | _ => J i s₃ ∧ ∀ b ∈ fp, ∀ o, s₁.heap.get? b = some o → s₃.heap.get? b = some o
section
variable {prog : Program} {w : World} {A : Around} {s : Shared} {env : Env} {E : Value → Shared → Prop} {Q : Flow → Shared → Prop}
theorem For_S {target : Expr} {body : List Stmt} {I : Addr} {fp wr : List Addr} {n : Nat} {P : Nat → Value → Prop} {St : Nat → Heap → Prop} (W : Walks prog w A I fp wr n P St) (J : Nat → Shared → Prop)
    (hgo : ∀ i v (s₁ : Shared) (Q₁ : Unit → Shared → Prop), P i v → St (i + 1) s₁.heap → Q₁ () s₁ → wpAny (model prog w) A (letOwnedTupleGo target (.ref I) v) Q₁ (fun _ _ => False) s₁)
    (hmove : ∀ i (s : Shared) h' tk, J i s → (∀ b o, b ∉ wr → s.heap.get? b = some o → h'.get? b = some o) → J i { s with heap := h', toks := tk })
    (turn : ∀ i v s₁, i < n → P i v → J i s₁ → St (i + 1) s₁.heap →
      wpAny (model prog w) A (assign target env v) (fun _ s₂ => wpAny (model prog w) A (execs body env) (SEnd J fp (i + 1) s₁ Q) (fun _ _ => False) s₂) (fun _ _ => False) s₁)
    (done : ∀ s₁, J n s₁ → Q .next s₁) (hst : St 0 s.heap) (hJ : J 0 s) :
    codeAny (model prog w) A (.forLoop target (.ref I) body [] env) (fun r s' => match r with | .ok f => Q f s' | .error e => cameBackBy (model prog w) A env E e s') s := by
  refine codeAny_forLoop_any (fun k s => ∃ i, k = n - i ∧ i ≤ n ∧ J i s ∧ St i s.heap) ?_ n ⟨0, by omega, by omega, hJ, hst⟩
  rintro k s ⟨i, rfl, hi, hJ, hst⟩
  rcases Nat.lt_or_ge i n with hlt | hge
  · refine W.item i s _ _ hlt hst fun v h' tk hP hst' hk => ?_
    refine wpAny_mono (hgo i v _ (fun _ s₁ => s₁ = { s with heap := h', toks := tk }) hP hst' rfl) (fun _ s₁ e => ?_) fun _ _ x => x.elim
    subst e
    refine wpAny_mono (turn i v _ hlt hP (hmove i s h' tk hJ hk) hst') (fun _ s₂ h₂ => wpAny_mono h₂ (fun f s₃ h₃ => ?_) fun _ _ x => x.elim) fun _ _ x => x.elim
    cases f with
    | ret v => exact h₃
    | brk => exact h₃
    | next => exact ⟨n - (i + 1), by omega, i + 1, rfl, hlt, h₃.1, W.frame _ _ _ hst' h₃.2⟩
    | cont => exact ⟨n - (i + 1), by omega, i + 1, rfl, hlt, h₃.1, W.frame _ _ _ hst' h₃.2⟩
  · have : i = n := by omega
    subst this
    exact W.done s _ _ hst fun h' tk hk => wpAny_execs_nil (done _ (hmove _ s h' tk hJ hk))
end

section
variable {prog : Program} {w : World} {A : Around} {s : Shared} {env : Env} {h₀ : Heap} {m : Str → Option Value} {news : List (Addr × Obj)} {E : Value → Shared → Prop} {Q : Flow → Shared → Prop}
def FEnd (h₀ : Heap) (L : Addr) (s : Shared) (news : List (Addr × Obj)) (J : (Str → Option Value) → Prop) (Q : Flow → Shared → Prop) (f : Flow) (s₃ : Shared) : Prop :=
  match f with
  | .ret v => Q (.ret v) s₃
  | .brk => Q .next s₃
  | _ => ∃ h' tk m₂, s₃ = { s with heap := h', toks := tk } ∧ Fr h₀ L h' m₂ ∧ News h₀ L h' news ∧ J m₂
theorem FEnd.mk {L : Addr} {h' : Heap} {tk : Nat} {m₂ : Str → Option Value} {J : (Str → Option Value) → Prop} (F : Fr h₀ L h' m₂) (N : News h₀ L h' news) (hJ : J m₂) :
    FEnd h₀ L s news J Q .next { s with heap := h', toks := tk } := ⟨h', tk, m₂, rfl, F, N, hJ⟩

/-- a for over a list of the ledger, its items anything; the target unpacks or names -/
theorem For_list {target : Expr} {body : List Stmt} {l : Addr} {vs : List Value} {c : Nat} (hh : A.handled = none) (F : Fr h₀ env.locals s.heap m) (N : News h₀ env.locals s.heap news)
    (hl : (l, listOf vs.toArray c) ∈ news) (J : Nat → (Str → Option Value) → Prop) (hJ : J 0 m)
    (hgo : (∃ es k p, target = .Tuple es k p) ∧ (∀ (i : Nat) v, vs[i]? = some v → ∃ T, v = .ref T))
    (turn : ∀ i v m₁ h₁ tk₁ I oI, vs[i]? = some v → J i m₁ → Fr h₀ env.locals h₁ m₁ → News h₀ env.locals h₁ ((I, oI) :: news) →
      wpAny (model prog w) A (assign target env v) (fun _ s₂ => wpAny (model prog w) A (execs body env) (FEnd h₀ env.locals s ((I, oI) :: news) (J (i + 1)) Q) (fun _ _ => False) s₂) (fun _ _ => False) { s with heap := h₁, toks := tk₁ })
    (done : ∀ m₁ h₁ tk₁, J vs.length m₁ → Fr h₀ env.locals h₁ m₁ → News h₀ env.locals h₁ news → Q .next { s with heap := h₁, toks := tk₁ }) :
    wpAny (model prog w) A (pyIter (.ref l)) (fun it s₂ => codeAny (model prog w) A (.forLoop target it body [] env) (fun r s' => match r with | .ok f => Q f s' | .error e => cameBackBy (model prog w) A env E e s') s₂) E s := by
  have hls : s.heap.IsList l vs.toArray := ⟨_, (N _ hl).1, rfl, _, rfl⟩
  have hlt : l < s.heap.objs.size := Heap.lt_size (N _ hl).1
  have hLt : env.locals < s.heap.objs.size := F.ns.lt
  refine wpAny_pyIter_list hls ?_
  have W := Walks.list (prog := prog) (w := w) hh s.heap.objs.size l (Nat.ne_of_lt hlt) vs.toArray
  have hnI : h₀.get? s.heap.objs.size = none := Heap.get?_none_of_le (Nat.le_trans F.above (Nat.le_of_lt hLt))
  have hnl : ∀ p ∈ news, p.1 ≠ s.heap.objs.size := fun p hp => Nat.ne_of_lt (Heap.lt_size (N p hp).1)
  obtain ⟨⟨es, kk, pp, rfl⟩, hgo⟩ := hgo
  refine For_S W (fun i s₁ => ∃ h tk m₁, s₁ = { s with heap := h, toks := tk } ∧ Fr h₀ env.locals h m₁ ∧ News h₀ env.locals h news ∧ J i m₁) ?_ ?_ ?_ ?_ ?_ ?_
  · intro i v s₁ Q₁ hP hst hQ
    obtain ⟨T, rfl⟩ := hgo i v (by simpa using hP)
    exact wpAny_letOwnedTupleGo_listiter hst.1 hQ
  · rintro i s₁ h' tk ⟨h, tk₀, m₁, rfl, F₁, N₁, hj⟩ hk
    have hk' : ∀ b o, b ≠ s.heap.objs.size → h.get? b = some o → h'.get? b = some o := fun b o hb e => hk b o (by simpa using hb) e
    exact ⟨h', tk, m₁, rfl, ⟨F₁.ns.at' fun o e => hk' _ o (Nat.ne_of_lt hLt) e, fun b o e => hk' b o (fun q => by rw [q, hnI] at e; cases e) (F₁.keep b o e), F₁.above⟩,
      fun p hp => ⟨hk' _ _ (hnl p hp) (N₁ p hp).1, (N₁ p hp).2⟩, hj⟩
  · rintro i v s₁ hi hP ⟨h, tk₀, m₁, rfl, F₁, N₁, hj⟩ hst
    obtain ⟨oI, hoI, r⟩ := id hst.1
    have N₂ : News h₀ env.locals h ((s.heap.objs.size, oI) :: news) := fun p hp => by
      rcases List.mem_cons.mp hp with rfl | hp
      · exact ⟨hoI, Nat.ne_of_gt hLt, hnI⟩
      · exact N₁ p hp
    refine wpAny_mono (turn i v m₁ h tk₀ _ oI (by simpa using hP) hj F₁ N₂) (fun _ s₂ h₂ => wpAny_mono h₂ (fun f s₃ h₃ => ?_) fun _ _ x => x) fun _ _ x => x
    have fin : (∃ h' tk m₂, s₃ = { s with heap := h', toks := tk } ∧ Fr h₀ env.locals h' m₂ ∧ News h₀ env.locals h' ((s.heap.objs.size, oI) :: news) ∧ J (i + 1) m₂) →
        (∃ h tk m₁, s₃ = { s with heap := h, toks := tk } ∧ Fr h₀ env.locals h m₁ ∧ News h₀ env.locals h news ∧ J (i + 1) m₁) ∧ ∀ b ∈ [s.heap.objs.size, l], ∀ o, h.get? b = some o → s₃.heap.get? b = some o := by
      rintro ⟨h', tk, m₂, rfl, F₂, N₃, hj₂⟩
      refine ⟨⟨h', tk, m₂, rfl, F₂, fun p hp => N₃ p (.tail _ hp), hj₂⟩, fun b hb o e => ?_⟩
      rcases List.mem_cons.mp hb with rfl | hb
      · rw [hoI] at e; cases e; exact (N₃ _ (.head _)).1
      · have hb' : b = l := by simpa using hb
        subst hb'
        have := (N₁ _ hl).1
        rw [e] at this
        cases this
        exact (N₃ _ (.tail _ hl)).1
    cases f with
    | ret v => exact h₃
    | brk => exact h₃
    | next => exact fin h₃
    | cont => exact fin h₃
  · rintro s₁ ⟨h, tk, m₁, rfl, F₁, N₁, hj⟩
    exact done m₁ h tk (by simpa using hj) F₁ N₁
  · exact ⟨⟨_, Heap.get?_push_size _ rfl, rfl, rfl⟩, hls.at fun o e => Heap.get?_push_of_some _ e⟩
  · exact ⟨_, s.toks, m, rfl, F.push _, fun p hp => ⟨Heap.get?_push_of_some _ (N p hp).1, (N p hp).2⟩, hJ⟩
end
end Mine

namespace Mine
def Fresh (h h' : Heap) (nw : List (Addr × Obj)) : Prop := ∀ p ∈ nw, h'.get? p.1 = some p.2 ∧ h.get? p.1 = none
def IsTableN (rows : List (Int × Int × Int)) (h : Heap) (v : Value) (h' : Heap) : Prop := ∃ l vs nw, v = .ref l ∧ (l, listOf vs.toArray 0) ∈ nw ∧ RowsN nw vs rows ∧ Fresh h h' nw
theorem news_more {h₀ h h' : Heap} {L : Addr} {m : Str → Option Value} {news nw : List (Addr × Obj)} (F : Fr h₀ L h m) (N : News h₀ L h' news) (hf : Fresh h h' nw) : News h₀ L h' (nw ++ news) := fun p hp => by
  rcases List.mem_append.mp hp with hp | hp
  · obtain ⟨h1, h2⟩ := hf p hp
    refine ⟨h1, fun q => ?_, ?_⟩
    · obtain ⟨o, es, ep, ho, _⟩ := F.ns
      rw [q, ho] at h2; cases h2
    · cases q : h₀.get? p.1 with
      | none => rfl
      | some o => rw [F.keep _ _ q] at h2; cases h2
  · exact N p hp
theorem fresh_of {h₀ h' : Heap} {L : Addr} {news : List (Addr × Obj)} (N : News h₀ L h' news) : Fresh h₀ h' news := fun p hp => ⟨(N p hp).1, (N p hp).2.2⟩
theorem RowsN.mono {nw nw' : List (Addr × Obj)} (h : ∀ p ∈ nw, p ∈ nw') : ∀ {vs : List Value} {rs : List (Int × Int × Int)}, RowsN nw vs rs → RowsN nw' vs rs
  | [], [], _ => trivial
  | _ :: _, _ :: _, ⟨⟨T, a, b, c, e, hm⟩, r⟩ => ⟨⟨T, a, b, c, e, h _ hm⟩, RowsN.mono h r⟩
end Mine
end

/-! Tabs -/
section
open PySem PySem.W PySem.Spec PySem.Calls PyProof.Rows
namespace Mine
theorem c_table (w : World) : PureC PySem.Challenge.rw_ff5020_01.row.prog w (hd.heap_39 w.params) 88 1 8 [] (IsTableN tbl) := by
  k_fill
  intro p loose mean mg mb A s Q E hA hdp hun X T hQ
  refine wpAny_call ?_
  k_dflt (refine' enter_K ?X ?T ?o ?c ?r ?b ?l ?_ ?c2 ?c3 ?c4 ?c5; (case X => exact X); (case T => exact T); (case o => k_is); (case c => k_is); (case r => omega); (case b => exact BindsTo.of_eq rfl); (case l => exact locs rfl); (case c2 => exact rfl); (case c3 => exact rfl); (case c4 => exact rfl); (case c5 => decide))
  intro g L' h₁ hg F' N' X' T'
  (try dsimp only)
  (try k_fold)
  k_steps
  (with_reducible rename Fr _ _ _ _ => F)
  (with_reducible rename News _ _ _ _ => N)
  subst hg
  exact hQ _ _ _ F.keep ⟨_, _, _, rfl, by k_mem, (by (repeat' (first | exact True.intro | refine And.intro ⟨_, _, _, _, rfl, by k_mem⟩ ?_))), fresh_of N⟩

abbrev tup2 (a b : Value) : Obj := { cls := .type "tuple", data := .seq #[a, b] }
def RowsN2 (news : List (Addr × Obj)) : List Value → List (Int × Int) → Prop
  | [], [] => True
  | v :: vs, r :: rs => (∃ T ta tb, v = .ref T ∧ (T, tup2 (.int r.1 ta) (.int r.2 tb)) ∈ news) ∧ RowsN2 news vs rs
  | _, _ => False
def IsTableN2 (rows : List (Int × Int)) (h : Heap) (v : Value) (h' : Heap) : Prop := ∃ l vs nw, v = .ref l ∧ (l, listOf vs.toArray 0) ∈ nw ∧ RowsN2 nw vs rows ∧ Fresh h h' nw
theorem c_single (w : World) : PureC PySem.Challenge.rw_ff5020_01.row.prog w (hd.heap_39 w.params) 95 1 8 [] (IsTableN2 sgl) := by
  k_fill
  intro p loose mean mg mb A s Q E hA hdp hun X T hQ
  refine wpAny_call ?_
  k_dflt (refine' enter_K ?X ?T ?o ?c ?r ?b ?l ?_ ?c2 ?c3 ?c4 ?c5; (case X => exact X); (case T => exact T); (case o => k_is); (case c => k_is); (case r => omega); (case b => exact BindsTo.of_eq rfl); (case l => exact locs rfl); (case c2 => exact rfl); (case c3 => exact rfl); (case c4 => exact rfl); (case c5 => decide))
  intro g L' h₁ hg F' N' X' T'
  (try dsimp only)
  (try k_fold)
  k_steps
  (with_reducible rename Fr _ _ _ _ => F)
  (with_reducible rename News _ _ _ _ => N)
  subst hg
  exact hQ _ _ _ F.keep ⟨_, _, _, rfl, by k_mem, (by (repeat' (first | exact True.intro | refine And.intro ⟨_, _, _, rfl, by k_mem⟩ ?_))), fresh_of N⟩
end Mine
end

/-! CGet -/
section
open PySem PySem.W PySem.Spec PySem.Calls PyProof.Rows
namespace Mine
section
variable {prog : Program} {w : World} {A : Around} {s : Shared} {h₀ : Heap} {L : Addr} {news : List (Addr × Obj)} {E : Value → Shared → Prop} {Q : Value → Shared → Prop}
theorem item_row {value slice : Expr} {W : Addr} {vs : List Value} {k : Int} {u : Tok} (N : News h₀ L s.heap news) (hW : (W, ({ cls := .type "tuple", data := .seq vs.toArray } : Obj)) ∈ news) (hr : RowsN news vs wtb)
    (h0 : 0 ≤ k) (hk : k < 15)
    (H : ∀ T a b c ta tb tc, wtb[k.toNat]? = some (a, b, c) → IsTup s.heap T #[.int a ta, .int b tb, .int c tc] → Q (.ref T) s)
    (hs : subscripted slice false (.ref W) (.int k u) = operate [.ref W, .int k u] (getItem (.ref W) (.int k u)) := by with_unfolding_all rfl) :
    wpAny (model prog w) A (subscriptTail value slice (.ref W) (.int k u)) Q E s := by
  have hl : k.toNat < wtb.length := by show k.toNat < 15; omega
  obtain ⟨T, ta, tb, tc, h1, h2⟩ := hr.get (List.getElem?_eq_getElem hl)
  refine item_tupleT (News.isTup N hW) (by omega) (by omega) (j := k.toNat) ?_ h1 (H T _ _ _ ta tb tc (List.getElem?_eq_getElem hl) (News.isTup N h2)) hs
  have := hr.len
  unfold seqIndex?
  have e : wtb.length = 15 := rfl
  simp only [this, e]
  split <;> first | omega | simp_all | skip
end
local macro_rules | `(tactic| k_room) => `(tactic| ((try simp only [depth_under_make, depth_under_kw, depth_in1, depth_deeper, depth_caller]); (try dsimp only); omega))
local macro_rules | `(tactic| k_enter) => `(tactic| (refine' code_defF ?k2 ?k3 ?k4 ?k5 ?k6 ?k7 ?k8 ?k9 ?kB ?_ ?c2 ?c3 ?c4 ?c5; (case k2 => k_asm); (case k3 => k_asm); (case k4 => k_asm); (case k5 => k_asm); (case k6 => k_is); (case k7 => k_is); (case k8 => k_room); (case k9 => first | exact BindsTo.of_eq rfl | exact binds_K (by k_in) rfl (by k_is) rfl rfl rfl | fail "k_enter: no rule for these arguments"); (case c5 => decide); (case kB => exact locs rfl); (case c2 => exact rfl); (case c3 => exact rfl); (case c4 => exact rfl); k_whole; intro g' L' h' FG' F' N' X' T'; (try dsimp only); (try k_fold)))
local macro_rules | `(tactic| walk_at "binaryOp RShift int int") => `(tactic| (k_here; refine' half_int ?_; intro q hq1 hq2))
local macro_rules | `(tactic| walk_at "exec While Compare cons nil") => `(tactic| (k_here; refine Stop.out ?_))
local macro_rules | `(tactic| walk_at "subscriptTail Name Name ref int") => `(tactic| (k_here; refine' item_row ?N ?W ?r ?a ?b ?_; (case N => k_asm); (case W => k_asm); (case r => k_asm); (case a => omega); (case b => omega); intro T a b c ta tb tc he hT))

def GJ (W : Addr) (n : Int) (k : Nat) (m : Str → Option Value) : Prop :=
  ∃ lo hi t1 t2 tc, m "lower_bound" = some (.int lo t1) ∧ m "upper_bound" = some (.int hi t2) ∧ m "codepoint" = some (.int n tc) ∧ m "table" = some (.ref W) ∧
    0 ≤ lo ∧ hi ≤ 14 ∧ lo ≤ hi + 1 ∧ k = (hi + 1 - lo).toNat ∧ (∀ (i : Nat) r, wtb[i]? = some r → (i : Int) < lo → r.2.1 < n) ∧ (∀ (i : Nat) r, wtb[i]? = some r → hi < (i : Int) → n < r.1)

theorem c_get (w : World) (n : Nat) (x : Str) (t t2 : Tok) : PureC PySem.Challenge.rw_ff5020_01.row.prog w (hd.heap_39 w.params) 58 3 20 [.str ⟨#[n]⟩ t, .str x t2] (fun _ v _ => ∃ t, v = .int (lawSize n) t) := by
  k_fill
  intro p loose mean mg mb A s Q E hA hdp hun X T hQ
  obtain ⟨_, dp, fr, gd, un⟩ := A
  subst hA
  dsimp only at hdp hun
  refine wpAny_call ?_
  k_dflt (refine' enter_K ?X ?T ?o ?c ?r ?b ?l ?_ ?c2 ?c3 ?c4 ?c5; (case X => exact X); (case T => exact T); (case o => k_is); (case c => k_is); (case r => (try dsimp only); omega); (case b => first | exact BindsTo.of_eq rfl | exact binds_K X rfl (by k_is) rfl rfl rfl); (case l => exact locs rfl); (case c2 => exact rfl); (case c3 => exact rfl); (case c4 => exact rfl); (case c5 => decide))
  intro g L' h₁ hg F' N' X' T'
  (try dsimp only)
  (try k_fold)
  refine execs_drop 2 (fun s' => ∃ h' tk m tc, s' = { s with heap := h', toks := tk } ∧ Fr g L' h' m ∧ News g L' h' [] ∧ m "codepoint" = some (.int n tc) ∧ m "unicode_version" = some (.str x t2) ∧ ((n : Int) = 0 ∨ 32 ≤ (n : Int)) ∧ ((n : Int) < 127 ∨ 160 ≤ (n : Int))) ?_ ?_
  · dsimp only [List.take]
    k_steps
    all_goals first
      | exact ⟨_, _, _, _, rfl, by assumption, by assumption, rfl, rfl, by omega, by omega⟩
      | (with_reducible rename Fr _ _ _ _ => F
         subst hg
         exact hQ _ _ _ F.keep ⟨_, by first | rw [law_low (by omega) (by omega) (by omega)] | rw [law_ctl (by omega) (by omega)]⟩)
  clear F' N'
  rintro s' ⟨h', tk, m, tc, rfl, F, N, e1, e2, b1, b2⟩
  have hsz : lawSize n = sizeIn wtb n := law_wtb (by omega) (by omega) (by omega)
  dsimp only [List.drop]
  refine execs_drop 5 (fun s' => ∃ h' tk m nw W vs tc t1 t2, s' = { s with heap := h', toks := tk } ∧ Fr g L' h' m ∧ News g L' h' nw ∧ m "table" = some (.ref W) ∧ (W, ({ cls := .type "tuple", data := .seq vs.toArray } : Obj)) ∈ nw ∧ RowsN nw vs wtb ∧
    m "codepoint" = some (.int n tc) ∧ m "lower_bound" = some (.int 0 t1) ∧ m "upper_bound" = some (.int 14 t2)) ?_ ?_
  · have q := set_eq (set_eq (rfl : m = m) e1) e2
    rw [← q] at F
    clear q e1 e2
    dsimp only [List.take]
    k_steps
    all_goals first
      | (with_reducible rename Fr _ _ _ _ => F
         with_reducible rename News _ _ _ _ => N
         exact ⟨_, _, _, _, _, _, _, _, _, rfl, F, N, rfl, by k_mem, by (repeat' (first | exact True.intro | refine And.intro ⟨_, _, _, _, rfl, by k_mem⟩ ?_)), rfl, rfl, rfl⟩)
      | (with_reducible rename Fr _ _ _ _ => F
         subst hg
         exact hQ _ _ _ F.keep ⟨_, by rw [law_hi (by omega)]⟩)
  clear e1 e2 F N
  rintro s' ⟨h', tk, m, nw, W, vs, tc, t1, t2, rfl, F, N, e1, hW, hr, e2, e3, e4⟩
  dsimp only [List.drop]
  refine wpAny_execs_cons ?_
  refine While_R (GJ W n) (n₀ := 15) F N ⟨0, 14, _, _, _, e3, e4, e2, e1, by omega, by omega, by omega, by omega, fun i r _ h => absurd h (by omega), fun i r h1 h2 => ?_⟩ ?_
  · have : i < 15 := (List.getElem?_eq_some_iff.mp h1).1
    omega
  clear F N e2 e3 e4 e1
  rintro k m₁ h₁ tk₁ F₁ N₁ ⟨lo, hi, u1, u2, u3, e1, e2, e3, e4, b1, b2, b3, b4, hb, ha⟩
  have q := set_eq (set_eq (set_eq (set_eq (rfl : m₁ = m₁) e1) e2) e3) e4
  rw [← q] at F₁
  clear q e1 e2 e3 e4
  k_steps
  all_goals with_reducible rename Fr _ _ _ _ => F
  all_goals with_reducible rename News _ _ _ _ => N
  · rename (wtb[(_ : Nat)]? = some (_, _, _)) => he
    refine TurnEnd.mk F N ?lt ⟨_, _, _, _, _, rfl, rfl, rfl, rfl, ?a, ?b, ?c, rfl, ?d, ?e⟩
    case d => exact hb
    case e => exact fun i r h hi => wtb_down he (by omega) i r h (by omega)
    all_goals omega
  · rename (wtb[(_ : Nat)]? = some (_, _, _)) => he
    refine TurnEnd.mk F N ?lt2 ⟨_, _, _, _, _, rfl, rfl, rfl, rfl, ?a2, ?b2, ?c2, rfl, ?d2, ?e2⟩
    case d2 => exact fun i r h hi => wtb_up he (by omega) i r h (by omega)
    case e2 => exact ha
    all_goals omega
  · rename (wtb[(_ : Nat)]? = some (_, _, _)) => he
    show Q _ _
    subst hg
    exact hQ _ _ _ F.keep ⟨_, by rw [hsz, wtb_hit he (by omega) (by omega)]⟩
  · show Q _ _
    subst hg
    have h1 : sizeIn wtb n = 1 := by
      refine sizeIn_none fun i r h => ?_
      rcases Int.lt_or_le i lo with q | q
      · exact .inl (hb i r h q)
      · exact .inr (ha i r h (by omega))
    exact hQ _ _ _ F.keep ⟨_, by rw [hsz, h1]⟩
theorem c_get1 (w : World) (n : Nat) (t : Tok) : PureC PySem.Challenge.rw_ff5020_01.row.prog w (hd.heap_39 w.params) 58 3 20 [.str ⟨#[n]⟩ t] (fun _ v _ => ∃ t, v = .int (lawSize n) t) := by
  k_fill
  intro p loose mean mg mb A s Q E hA hdp hun X T hQ
  obtain ⟨_, dp, fr, gd, un⟩ := A
  subst hA
  dsimp only at hdp hun
  refine wpAny_call ?_
  k_dflt (refine' enter_K ?X ?T ?o ?c ?r ?b ?l ?_ ?c2 ?c3 ?c4 ?c5; (case X => exact X); (case T => exact T); (case o => k_is); (case c => k_is); (case r => (try dsimp only); omega); (case b => first | exact BindsTo.of_eq rfl | exact binds_K X rfl (by k_is) rfl rfl rfl); (case l => exact locs rfl); (case c2 => exact rfl); (case c3 => exact rfl); (case c4 => exact rfl); (case c5 => decide))
  intro g L' h₁ hg F' N' X' T'
  (try dsimp only)
  (try k_fold)
  refine execs_drop 2 (fun s' => ∃ h' tk m tc x t2, s' = { s with heap := h', toks := tk } ∧ Fr g L' h' m ∧ News g L' h' [] ∧ m "codepoint" = some (.int n tc) ∧ m "unicode_version" = some (.str x t2) ∧ ((n : Int) = 0 ∨ 32 ≤ (n : Int)) ∧ ((n : Int) < 127 ∨ 160 ≤ (n : Int))) ?_ ?_
  · dsimp only [List.take]
    k_steps
    all_goals first
      | exact ⟨_, _, _, _, _, _, rfl, by assumption, by assumption, rfl, rfl, by omega, by omega⟩
      | (with_reducible rename Fr _ _ _ _ => F
         subst hg
         exact hQ _ _ _ F.keep ⟨_, by first | rw [law_low (by omega) (by omega) (by omega)] | rw [law_ctl (by omega) (by omega)]⟩)
  clear F' N'
  rintro s' ⟨h', tk, m, tc, x, t2, rfl, F, N, e1, e2, b1, b2⟩
  have hsz : lawSize n = sizeIn wtb n := law_wtb (by omega) (by omega) (by omega)
  dsimp only [List.drop]
  refine execs_drop 5 (fun s' => ∃ h' tk m nw W vs tc t1 t2, s' = { s with heap := h', toks := tk } ∧ Fr g L' h' m ∧ News g L' h' nw ∧ m "table" = some (.ref W) ∧ (W, ({ cls := .type "tuple", data := .seq vs.toArray } : Obj)) ∈ nw ∧ RowsN nw vs wtb ∧
    m "codepoint" = some (.int n tc) ∧ m "lower_bound" = some (.int 0 t1) ∧ m "upper_bound" = some (.int 14 t2)) ?_ ?_
  · have q := set_eq (set_eq (rfl : m = m) e1) e2
    rw [← q] at F
    clear q e1 e2
    dsimp only [List.take]
    k_steps
    all_goals first
      | (with_reducible rename Fr _ _ _ _ => F
         with_reducible rename News _ _ _ _ => N
         exact ⟨_, _, _, _, _, _, _, _, _, rfl, F, N, rfl, by k_mem, by (repeat' (first | exact True.intro | refine And.intro ⟨_, _, _, _, rfl, by k_mem⟩ ?_)), rfl, rfl, rfl⟩)
      | (with_reducible rename Fr _ _ _ _ => F
         subst hg
         exact hQ _ _ _ F.keep ⟨_, by rw [law_hi (by omega)]⟩)
  clear e1 e2 F N
  rintro s' ⟨h', tk, m, nw, W, vs, tc, t1, t2, rfl, F, N, e1, hW, hr, e2, e3, e4⟩
  dsimp only [List.drop]
  refine wpAny_execs_cons ?_
  refine While_R (GJ W n) (n₀ := 15) F N ⟨0, 14, _, _, _, e3, e4, e2, e1, by omega, by omega, by omega, by omega, fun i r _ h => absurd h (by omega), fun i r h1 h2 => ?_⟩ ?_
  · have : i < 15 := (List.getElem?_eq_some_iff.mp h1).1
    omega
  clear F N e2 e3 e4 e1
  rintro k m₁ h₁ tk₁ F₁ N₁ ⟨lo, hi, u1, u2, u3, e1, e2, e3, e4, b1, b2, b3, b4, hb, ha⟩
  have q := set_eq (set_eq (set_eq (set_eq (rfl : m₁ = m₁) e1) e2) e3) e4
  rw [← q] at F₁
  clear q e1 e2 e3 e4
  k_steps
  all_goals with_reducible rename Fr _ _ _ _ => F
  all_goals with_reducible rename News _ _ _ _ => N
  · rename (wtb[(_ : Nat)]? = some (_, _, _)) => he
    refine TurnEnd.mk F N ?lt ⟨_, _, _, _, _, rfl, rfl, rfl, rfl, ?a, ?b, ?c, rfl, ?d, ?e⟩
    case d => exact hb
    case e => exact fun i r h hi => wtb_down he (by omega) i r h (by omega)
    all_goals omega
  · rename (wtb[(_ : Nat)]? = some (_, _, _)) => he
    refine TurnEnd.mk F N ?lt2 ⟨_, _, _, _, _, rfl, rfl, rfl, rfl, ?a2, ?b2, ?c2, rfl, ?d2, ?e2⟩
    case d2 => exact fun i r h hi => wtb_up he (by omega) i r h (by omega)
    case e2 => exact ha
    all_goals omega
  · rename (wtb[(_ : Nat)]? = some (_, _, _)) => he
    show Q _ _
    subst hg
    exact hQ _ _ _ F.keep ⟨_, by rw [hsz, wtb_hit he (by omega) (by omega)]⟩
  · show Q _ _
    subst hg
    have h1 : sizeIn wtb n = 1 := by
      refine sizeIn_none fun i r h => ?_
      rcases Int.lt_or_le i lo with q | q
      · exact .inl (hb i r h q)
      · exact .inr (ha i r h (by omega))
    exact hQ _ _ _ F.keep ⟨_, by rw [hsz, h1]⟩
end Mine
end

/-! CSize -/
section
open PySem PySem.W PySem.Spec PySem.Calls PyProof.Rows
namespace Mine
local macro_rules | `(tactic| walk_at "pyIter ref") => `(tactic| (k_here; refine Stop.out ?_))
local macro_rules | `(tactic| walk_at "call ref nil") => `(tactic| (k_here; refine' pure_use (c_table _) ?F ?X ?N ?T ?h ?d ?u ?_; (case F => k_asm); (case X => k_asm); (case N => k_asm); (case T => k_asm); (case h => rfl); (case d => (simp only [depth_deeper]; omega)); (case u => (simp only [units_deeper]; omega)); intro v h' tk' hk F' N' hR))
theorem c_size (w : World) (n : Int) (t : Tok) : PureC PySem.Challenge.rw_ff5020_01.row.prog w (hd.heap_39 w.params) 114 2 20 [.int n t] (fun _ v _ => ∃ t, v = .int (lawSize n) t) := by
  k_fill
  intro p loose mean mg mb A s Q E hA hdp hun X T hQ
  obtain ⟨_, dp, fr, gd, un⟩ := A
  subst hA
  dsimp only at hdp hun
  refine wpAny_call ?_
  k_dflt (refine' enter_K ?X ?T ?o ?c ?r ?b ?l ?_ ?c2 ?c3 ?c4 ?c5; (case X => exact X); (case T => exact T); (case o => k_is); (case c => k_is); (case r => (try dsimp only); omega); (case b => first | exact BindsTo.of_eq rfl | exact binds_K X rfl (by k_is) rfl rfl rfl); (case l => exact locs rfl); (case c2 => exact rfl); (case c3 => exact rfl); (case c4 => exact rfl); (case c5 => decide))
  intro g L' h₁ hg F' N' X' T'
  (try dsimp only)
  (try k_fold)
  refine wpAny_execs_cons (wpAny_For ?_ fun _ => rfl)
  k_steps
  with_reducible rename IsTableN _ _ _ _ => hR
  with_reducible rename Fr _ _ _ _ => F
  with_reducible rename News _ _ _ _ => N
  obtain ⟨l, vs, nw, rfl, hl, hr, hf⟩ := hR
  have N2 := news_more F' N hf
  rw [List.append_nil] at N2
  clear N N'
  refine For_list rfl F N2 hl (fun i m => (∃ t, m "number" = some (.int n t)) ∧ ∀ (k : Nat) r, k < i → tbl[k]? = some r → r.2.1 < n ∨ n < r.1) ⟨⟨_, rfl⟩, fun k r h => absurd h (by omega)⟩ ⟨⟨_, _, _, rfl⟩, fun i v hv => ?_⟩ ?_ ?_
  · have hi : i < tbl.length := by rw [← hr.len]; exact (List.getElem?_eq_some_iff.mp hv).1
    obtain ⟨T, ta, tb, tc, h1, h2⟩ := hr.get (List.getElem?_eq_getElem hi)
    rw [hv] at h1; exact ⟨T, Option.some.inj h1⟩
  · rintro i v m₁ h₂ tk₁ I oI hv ⟨⟨t, e1⟩, hj⟩ F₁ N₁
    have hi : i < tbl.length := by rw [← hr.len]; exact (List.getElem?_eq_some_iff.mp hv).1
    obtain ⟨T, ta, tb, tc, h1, h2⟩ := hr.get (List.getElem?_eq_getElem hi)
    rw [hv] at h1
    cases h1
    have hT := News.isTup N₁ (.tail _ h2)
    have ht : tbl[i]? = some tbl[i] := List.getElem?_eq_getElem hi
    generalize tbl[i] = r at hT ht
    obtain ⟨a, b, c⟩ := r
    have q := set_eq (rfl : m₁ = m₁) e1
    rw [← q] at F₁
    clear q e1 h2 F F'
    dsimp only at hT
    k_steps
    all_goals with_reducible rename Fr _ _ _ _ => F
    all_goals with_reducible rename News _ _ _ _ => N
    · show Q _ _
      subst hg
      have h1 : lawSize n = c := sizeIn_hit (fun k r hk e => hj k r hk e) ht (by assumption) (by assumption)
      exact hQ _ _ _ F.keep ⟨_, by rw [h1]⟩
    all_goals
      refine FEnd.mk F N ⟨⟨_, rfl⟩, fun k r hk e => ?_⟩
      rcases Nat.lt_or_eq_of_le (Nat.le_of_lt_succ hk) with q | q
      · exact hj k r q e
      · subst q
        rw [ht] at e
        cases e
        show b < n ∨ n < a
        omega
  · rintro m₁ h₂ tk₁ ⟨⟨t, e1⟩, hj⟩ F₁ N₁
    have q := set_eq (rfl : m₁ = m₁) e1
    rw [← q] at F₁
    clear q e1 F F'
    have hz : lawSize n = 1 := sizeIn_none fun i r h => hj i r (by rw [hr.len]; exact (List.getElem?_eq_some_iff.mp h).1) h
    k_steps
    with_reducible rename Fr _ _ _ _ => F
    show Q _ _
    subst hg
    exact hQ _ _ _ F.keep ⟨_, by rw [hz]⟩
end Mine
end

/-! GenL -/
section
open PySem PySem.W PySem.Spec PySem.Calls PyProof.Rows
namespace Mine

/-- a generator of one clause, its turns by an invariant over the whole state -/
structure GLoop (prog : Program) (w : World) (D U : Nat) (cenv : Env) (I a : Addr) (g n : Nat) (x : Str) (px : Pos) (elt : Expr) (J : Nat → Shared → Prop) (Jn : Nat → Value → Shared → Prop) (Ja : Nat → Shared → Prop) (tr : Nat → Bool) : Prop where
  next : ∀ (A' : Around) j (s : Shared) (Q : Option Value → Shared → Prop) (E : Value → Shared → Prop), A'.handled = none → j < n → J j s → (∀ v s', Jn j v s' → Q (some v) s') → wpAny (model prog w) A' (pyNext (.ref I)) Q E s
  done : ∀ (A' : Around) (s : Shared) (Q : Option Value → Shared → Prop) (E : Value → Shared → Prop), A'.handled = none → J n s → (∀ s', J (n + 1) s' → Q none s') → wpAny (model prog w) A' (pyNext (.ref I)) Q E s
  self : ∀ (A' : Around) (s : Shared) (Q : Value → Shared → Prop) (E : Value → Shared → Prop), A'.handled = none → J 0 s → Q (.ref I) s → wpAny (model prog w) A' (pyIter (.ref I)) Q E s
  asg : ∀ (A' : Around) j v (s : Shared) (Q : Unit → Shared → Prop) (E : Value → Shared → Prop), A'.handled = none → Jn j v s → (∀ s', Ja j s' → Q () s') → wpAny (model prog w) A' (assign (.Name x px) cenv v) Q E s
  elt : ∀ (A' : Around) j (s : Shared) (Q : Value → Shared → Prop) (E : Value → Shared → Prop), A'.handled = none → A'.depth ≤ D → A'.units ≤ U → j < n → Ja j s → (∀ s', J (j + 1) s' → Q (.bool (tr j)) s') → wpAny (model prog w) A' (eval elt cenv) Q E s
  set : ∀ j (s : Shared) (y : GenState), y.bare = true → J j s → J j (s.setGen g y)
  grow : ∀ j (s : Shared) h', J j s → (∀ b o, s.heap.get? b = some o → h'.get? b = some o) → J j { s with heap := h' }
  gen : ∀ j s, J j s → s.heap.IsGen a g ∧ s.heap.NoLimit ∧ g < s.gens.size

def glY (g n : Nat) (J : Nat → Shared → Prop) (tr : Nat → Bool) : Protocol := fun m _ v s kap =>
  (∃ j, j + m + 1 = n ∧ v = .bool (tr j) ∧ J (j + 1) s) ∧ ∀ y z : GenState, y.bare = true → z.bare = true → kap (.send .none) ((s.setGen g y).setGen g z)
def glR (n : Nat) (J : Nat → Shared → Prop) : GenEnd := fun k _ r s₁ => r = .ok .next ∧ (k = 0 ∧ J (n + 1) s₁)

section
variable {prog : Program} {w : World} {A : Around} {cenv : Env} {I a : Addr} {g n : Nat} {x : Str} {px : Pos} {elt iter : Expr} {scope : Scope} {pos : Pos}
  {J : Nat → Shared → Prop} {Jn : Nat → Value → Shared → Prop} {Ja : Nat → Shared → Prop} {tr : Nat → Bool}

theorem gl_loop (hh : A.handled = none) (G : GLoop prog w (A.depth + 1) (A.units + 3) cenv I a g n x px elt J Jn Ja tr) (hco : cenv.scope.isCoroutine = false) :
    ∀ (k j : Nat) (s₀ s : Shared), n - j = k → j ≤ n → J j s →
      Seg (model prog w) A (glR n J) (glY g n J tr) k s₀
        (.compLoop (.GeneratorExp elt [⟨.Name x px, iter, [], 0⟩] scope pos) 0 (.ref I) .none cenv)
        ((model prog w).den (.compLoop (.GeneratorExp elt [⟨.Name x px, iter, [], 0⟩] scope pos) 0 (.ref I) .none cenv)) [] s := by
  have hh' : (A.over (.compLoop (.GeneratorExp elt [⟨.Name x px, iter, [], 0⟩] scope pos) 0 (.ref I) .none cenv) []).handled = none := hh
  have hdep' : (A.over (.compLoop (.GeneratorExp elt [⟨.Name x px, iter, [], 0⟩] scope pos) 0 (.ref I) .none cenv) []).depth ≤ A.depth + 1 := Nat.le_of_eq rfl
  have huni' : (A.over (.compLoop (.GeneratorExp elt [⟨.Name x px, iter, [], 0⟩] scope pos) 0 (.ref I) .none cenv) []).units ≤ A.units + 3 := Nat.le_of_eq rfl
  intro k
  induction k with
  | zero =>
    intro j s₀ s hk hj hJ
    have hjn : j = n := by omega
    subst hjn
    show Seg _ A _ _ _ s₀ _ ((compTurn (.GeneratorExp elt [⟨.Name x px, iter, [], 0⟩] scope pos) 0 (.ref I) .none cenv).onRaise (leaving cenv)) [] s
    rw [compTurn_gen, Sem.onRaise_eq_wrap]
    refine seg_bind_wrap (wpAny_standAt ?_)
    refine seg_bind_wrap (G.done _ s _ _ hh' hJ fun s' hJ' => ?_)
    exact seg_end (.ok .next) ⟨rfl, rfl, hJ'⟩
  | succ k ih =>
    intro j s₀ s hk hj hJ
    have hlt : j < n := by omega
    show Seg _ A _ _ _ s₀ _ ((compTurn (.GeneratorExp elt [⟨.Name x px, iter, [], 0⟩] scope pos) 0 (.ref I) .none cenv).onRaise (leaving cenv)) [] s
    rw [compTurn_gen, Sem.onRaise_eq_wrap]
    refine seg_bind_wrap (wpAny_standAt ?_)
    refine seg_bind_wrap (G.next _ j s _ _ hh' hlt hJ fun v s₁ h₁ => ?_)
    refine seg_bind_wrap (wpAny_of_eq (rfl : letOwnedTupleGo (.Name x px) (.ref I) v = pure ()) ?_)
    refine seg_bind_wrap (G.asg _ j v s₁ _ _ hh' h₁ fun s₂ h₂ => ?_)
    refine seg_bind_wrap (wpAny_mono (wpAny_tests_nil (Q := fun ok s₃ => ok = true ∧ s₃ = s₂) ⟨rfl, rfl⟩) (fun ok s₃ h₃ => ?_) fun _ _ e => e)
    obtain ⟨rfl, rfl⟩ := h₃
    simp only [if_true]
    have hy : ∀ v, yieldOut cenv v = yieldValue v := fun v => by simp only [yieldOut, hco, Bool.false_eq_true, if_false]
    simp only [hy]
    rw [Sem.bind_eq_wrap', Sem.bind_eq_wrap', Sem.wrap_wrap, Sem.wrap_wrap]
    refine seg_wrap (G.elt _ j _ _ _ hh' hdep' huni' hlt h₂ fun s₄ h₄ => ?_)
    refine seg_at (seg_yield rfl rfl rfl ⟨⟨j, by omega, rfl, h₄⟩, fun y z hy hz => ?_⟩)
    exact seg_again rfl (ih (j + 1) _ _ (by omega) hlt (G.set _ _ _ hz (G.set _ _ _ hy h₄)))

theorem gl_start (hh : A.handled = none) (G : GLoop prog w (A.depth + 1) (A.units + 3) cenv I a g n x px elt J Jn Ja tr) (hco : cenv.scope.isCoroutine = false) (s₀ s : Shared) (hJ : J 0 s) :
    Seg (model prog w) A (glR n J) (glY g n J tr) n s₀
      (.compStart (.GeneratorExp elt [⟨.Name x px, iter, [], 0⟩] scope pos) 0 (.ref I) .none cenv)
      ((model prog w).den (.compStart (.GeneratorExp elt [⟨.Name x px, iter, [], 0⟩] scope pos) 0 (.ref I) .none cenv)) [] s := by
  have hh' : (A.over (.compStart (.GeneratorExp elt [⟨.Name x px, iter, [], 0⟩] scope pos) 0 (.ref I) .none cenv) []).handled = none := hh
  have loop := gl_loop (iter := iter) (scope := scope) (pos := pos) hh G hco n 0 s₀ s (Nat.sub_zero _) (Nat.zero_le _) hJ
  show Seg _ A _ _ _ s₀ _ ((compStart (.GeneratorExp elt [⟨.Name x px, iter, [], 0⟩] scope pos) 0 (.ref I) .none cenv).onRaise (leaving cenv)) [] s
  unfold compStart
  rw [Sem.onRaise_eq_wrap]
  show Seg _ A _ _ _ s₀ _ ((ask >>= _).wrap _ _ _ _) [] s
  refine seg_bind_wrap (wpAny_askSetting ?_)
  split
  · exact seg_again rfl loop
  · first
      | exact seg_bind_wrap (wpAny_rule (seg_bind_wrap (wpAny_standAt (seg_bind_wrap (G.self _ s _ _ hh' hJ (seg_again rfl loop))))))
      | (refine seg_bind_wrap (wpAny_rule ?_); show Seg _ A _ _ _ s₀ _ ((standAt iter.pos >>= _).wrap _ _ _ _) [] s; exact seg_bind_wrap (wpAny_standAt (seg_bind_wrap (G.self _ s _ _ hh' hJ (seg_again rfl loop)))))

def GSt (prog : Program) (w : World) (A : Around) (g n : Nat) (J : Nat → Shared → Prop) (tr : Nat → Bool) (j : Nat) (s : Shared) : Prop :=
  J j s ∧ ∃ gs, s.gens[g]? = some gs ∧ gs.Goes (model prog w) A.in1 (glR n J) (glY g n J tr) (n - j) (.send .none) (s.setGen g .running)

theorem gl_item (hh : A.handled = none) (hroom : A.depth < recursionLimit) (G : GLoop prog w (A.in1.depth + 1) (A.in1.units + 3) cenv I a g n x px elt J Jn Ja tr) {j : Nat} {s : Shared} {Q : Option Value → Shared → Prop} {E : Value → Shared → Prop} (hj : j < n)
    (st : GSt prog w A g n J tr j s) (hQ : ∀ s', GSt prog w A g n J tr (j + 1) s' → Q (some (.bool (tr j))) s') : wpAny (model prog w) A (pyNext (.ref a)) Q E s := by
  obtain ⟨hJ, gs, hgs, hgo⟩ := st
  obtain ⟨hg, hl, hlt⟩ := G.gen _ _ hJ
  obtain ⟨m, hm⟩ : ∃ m, n - j = m + 1 := ⟨n - j - 1, by omega⟩
  rw [hm] at hgo
  refine wpAny_pyNext_genexpQ (P := fun k _ s₁ => k = 0 ∧ J (n + 1) s₁) hh hl hroom hg hgs hgo (fun v s₁ gs' hb hv => ?_) (fun s₁ hp h' hk => ?_)
  · obtain ⟨⟨j', hj', rfl, hJ'⟩, hkap⟩ := hv
    have e : j' = j := by omega
    subst e
    refine hQ _ ⟨G.set _ _ _ hb hJ', gs', setGen_self (gs := s₁.gens[g]'(G.gen _ _ hJ').2.2) (Array.getElem?_eq_getElem _), ?_⟩
    have e : n - (j' + 1) = m := by omega
    rw [e]
    exact hkap gs' .running hb rfl
  · exact absurd hp.1 (Nat.succ_ne_zero m)

theorem gl_done (hh : A.handled = none) (hroom : A.depth < recursionLimit) (G : GLoop prog w (A.in1.depth + 1) (A.in1.units + 3) cenv I a g n x px elt J Jn Ja tr) {s : Shared} {Q : Option Value → Shared → Prop} {E : Value → Shared → Prop}
    (st : GSt prog w A g n J tr n s) (hQ : ∀ s', J (n + 1) s' → Q none s') : wpAny (model prog w) A (pyNext (.ref a)) Q E s := by
  obtain ⟨hJ, gs, hgs, hgo⟩ := st
  obtain ⟨hg, hl, hlt⟩ := G.gen _ _ hJ
  rw [Nat.sub_self] at hgo
  refine wpAny_pyNext_genexpQ (P := fun k _ s₁ => k = 0 ∧ J (n + 1) s₁) hh hl hroom hg hgs hgo (fun v s₁ gs' hb hv => ?_) (fun s₁ hp h' hk => ?_)
  · obtain ⟨⟨j', hj', _⟩, hkap⟩ := hv
    exact False.elim (hkap .running .running rfl rfl)
  · exact hQ _ (G.grow _ _ h' (G.set _ _ _ rfl hp.2) hk)

theorem gl_all {R : Result → Shared → Prop} (hh : A.handled = none) (hroom : A.depth < recursionLimit) (G : GLoop prog w (A.in1.in1.depth + 1) (A.in1.in1.units + 3) cenv I a g n x px elt J Jn Ja tr) : ∀ (k j : Nat) (s : Shared), n - j = k → j ≤ n → GSt prog w A.in1 g n J tr j s →
    (∀ s' i, J i s' → R (.ok (.ret (.bool (((List.range n).drop j).all tr)))) s') → codeAny (model prog w) A (.builtin "all.loop" ⟨[.ref a], []⟩) R s := by
  intro k
  induction k with
  | zero =>
    intro j s hk hj hst hR
    have hjn : j = n := by omega
    subst hjn
    refine codeAny_builtin F.entry_all_loop ?_
    rw [Around.under_plainId F.plain_all_loop _]
    show wpAny _ A.in1 (pyNext (.ref a) >>= _) _ _ s
    refine wpAny_bind (gl_done (A := A.in1) hh hroom G hst fun s' hm => ?_)
    refine wpAny_bind (wpAny_rule (wpAny_pure ?_))
    have := hR s' _ hm
    rw [List.drop_of_length_le (by simp)] at this
    exact this
  | succ k ih =>
    intro j s hk hj hst hR
    have hlt : j < n := by omega
    have hd : (List.range n).drop j = j :: (List.range n).drop (j + 1) := by
      rw [List.drop_eq_getElem_cons (by simpa using hlt)]; simp
    refine codeAny_builtin F.entry_all_loop ?_
    rw [Around.under_plainId F.plain_all_loop _]
    show wpAny _ A.in1 (pyNext (.ref a) >>= _) _ _ s
    refine wpAny_bind (gl_item (A := A.in1) hh hroom G hlt hst fun s' hst' => ?_)
    refine wpAny_bind (wpAny_holding (wpAny_truthy_bool ?_))
    refine wpAny_bind (wpAny_letGo ?_)
    cases hb : tr j with
    | true =>
      simp only [if_true]
      refine wpAny_pure ⟨plainId_quiet F.plain_all_loop _, ih (j + 1) _ (by omega) hlt hst' fun s'' i hm' => ?_⟩
      have := hR s'' i hm'
      rw [hd, List.all_cons, hb, Bool.true_and] at this
      exact this
    | false =>
      simp only [Bool.false_eq_true, if_false]
      refine wpAny_bind (wpAny_rule (wpAny_pure ?_))
      have := hR s' _ hst'.1
      rw [hd, List.all_cons, hb, Bool.false_and] at this
      exact this

theorem gl_callAll {Q : Value → Shared → Prop} {E : Value → Shared → Prop} {s : Shared} (hh : A.handled = none) (hroom : A.depth < recursionLimit) (G : GLoop prog w (A.in1.in1.depth + 1) (A.in1.in1.units + 3) cenv I a g n x px elt J Jn Ja tr)
    (st : GSt prog w A.in1 g n J tr 0 s) (hQ : ∀ s' i, J i s' → Q (.bool ((List.range n).all tr)) s') : wpAny (model prog w) A (call (.builtin "all") [.ref a]) Q E s := by
  refine call_function_tree F.kind_all F.plain_all F.entry_all (F.args_all1 _) ?_
  unfold Builtin.«all»
  refine wpAny_bind (m := oneArg "all" _) (wpAny_pure ?_)
  refine wpAny_bind (wpAny_pyIter_gen (G.gen _ _ st.1).1 ?_)
  exact wpAny_pure ⟨plainId_quiet F.plain_all_loop _, gl_all hh hroom G n 0 s rfl (Nat.zero_le _) st fun s' i hm => by simpa using hQ s' i hm⟩
end
end Mine
end

/-! TabS -/
section
open PySem PySem.W PySem.Spec PySem.Calls PyProof.Rows
namespace Mine
/-- the only old things that a call may turn: the two defs' tables of inner code, and newer tables -/
def mutB (N : Nat) (b : Addr) (o : Obj) : Bool := match o.cls, o.data with
  | .none, .fields _ => b == 45 || b == 76 || decide (N ≤ b)
  | _, _ => false
def KeepT (N : Nat) (h h' : Heap) : Prop := ∀ b o, h.get? b = some o → mutB N b o = false → h'.get? b = some o
def NoMut (N : Nat) (h : Heap) : Prop := ∀ b o, h.get? b = some o → mutB N b o = false
theorem mutB_cls {N : Nat} {b : Addr} {o : Obj} (h : o.cls ≠ .none) : mutB N b o = false := by
  obtain ⟨c, d, dt, sl⟩ := o
  unfold mutB
  cases c <;> first | rfl | (exact absurd rfl h)
theorem mutB_dict {N : Nat} {b : Addr} {o : Obj} {es ep} (h : o.data = .dict es ep) : mutB N b o = false := by
  obtain ⟨c, d, dt, sl⟩ := o
  simp only at h; subst h
  unfold mutB
  cases c <;> rfl
theorem mutB_low {N : Nat} {b : Addr} {o : Obj} (h : b ≠ 45) (h2 : b ≠ 76) (h3 : b < N) : mutB N b o = false := by
  have e1 : (b == 45) = false := by simpa using h
  have e2 : (b == 76) = false := by simpa using h2
  unfold mutB
  split
  · rw [e1, e2]; simp; exact h3
  · rfl
theorem KeepT.refl (N : Nat) (h : Heap) : KeepT N h h := fun _ _ e _ => e
theorem KeepT.trans {N : Nat} {h h' h'' : Heap} (x : KeepT N h h') (y : KeepT N h' h'') : KeepT N h h'' := fun b o e m => y b o (x b o e m) m
theorem KeepT.of_full {N : Nat} {h h' : Heap} (x : ∀ b o, h.get? b = some o → h'.get? b = some o) : KeepT N h h' := fun b o e _ => x b o e
section
variable {N : Nat} {h₀ h h' : Heap} {L : Addr} {m : Str → Option Value} {news : List (Addr × Obj)}
theorem fr_keepT (F : Fr h₀ L h m) (hn : NoMut N h₀) (k : KeepT N h h') : Fr h₀ L h' m :=
  ⟨by obtain ⟨o, es, ep, ho, hd, r⟩ := F.ns; exact ⟨o, es, ep, k _ _ ho (mutB_dict hd), hd, r⟩, fun b o e => k b o (F.keep b o e) (hn b o e), F.above⟩
theorem news_keepT (N₁ : News h₀ L h news) (hn : ∀ p ∈ news, mutB N p.1 p.2 = false) (k : KeepT N h h') : News h₀ L h' news :=
  fun p hp => ⟨k _ _ (N₁ p hp).1 (hn p hp), (N₁ p hp).2⟩
end
/-- a heap without what may turn -/
noncomputable def untab (N : Nat) (h : Heap) : Heap := hideAll h ((List.range h.objs.size).filter fun b => match h.get? b with | some o => mutB N b o | none => false)
theorem untab_of {N : Nat} {h : Heap} {b : Addr} {o : Obj} (e : (untab N h).get? b = some o) : h.get? b = some o := of_hideAll _ e
theorem untab_get {N : Nat} {h : Heap} {b : Addr} {o : Obj} (e : h.get? b = some o) (m : mutB N b o = false) : (untab N h).get? b = some o := by
  refine hideAll_get _ e fun hm => ?_
  have := (List.mem_filter.mp hm).2
  rw [e] at this
  simp only at this
  rw [m] at this; cases this
theorem untab_nomut (N : Nat) (h : Heap) : NoMut N (untab N h) := fun b o e => by
  have e' := untab_of e
  cases m : mutB N b o with
  | false => rfl
  | true =>
    have hm : b ∈ (List.range h.objs.size).filter fun b => match h.get? b with | some o => mutB N b o | none => false := by
      refine List.mem_filter.mpr ⟨List.mem_range.mpr (Heap.lt_size e'), ?_⟩
      rw [e']; exact m
    have := hideAll_none _ hm (h := h)
    unfold untab at e
    rw [this] at e; cases e
theorem untab_size (N : Nat) (h : Heap) : (untab N h).objs.size = h.objs.size := hideAll_size _ _

structure BaseOk (N : Nat) (K : Frag) (p : Program) (loose : List Str) (mean : ExcName → Option Value) (mg mb : Str → Option Value) (h₀ h : Heap) : Prop where
  X : K.In h₀
  T : Top p loose mean mg mb h₀
  nm : NoMut N h₀
  le : ∀ b o, h₀.get? b = some o → h.get? b = some o
theorem BaseOk.keep {N : Nat} {K : Frag} {p : Program} {loose : List Str} {mean : ExcName → Option Value} {mg mb : Str → Option Value} {h₀ h h' : Heap} (B : BaseOk N K p loose mean mg mb h₀ h) (k : KeepT N h h') : BaseOk N K p loose mean mg mb h₀ h' :=
  ⟨B.X, B.T, B.nm, fun b o e => k b o (B.le b o e) (B.nm b o e)⟩
theorem BaseOk.untab {N : Nat} {K : Frag} {p : Program} {loose : List Str} {mean : ExcName → Option Value} {mg mb : Str → Option Value} {h₀ h : Heap} (B : BaseOk N K p loose mean mg mb h₀ h) : BaseOk N K p loose mean mg mb (untab N h) h :=
  have st : ∀ b o, h₀.get? b = some o → (Mine.untab N h).get? b = some o := fun b o e => untab_get (B.le b o e) (B.nm b o e)
  ⟨B.X.keeps st, B.T.keeps st, untab_nomut N h, fun b o e => untab_of e⟩

def TabB (N : Nat) (h : Heap) (c1 P1 : Addr) : Prop := CodeHd h c1 P1 ∧ N ≤ P1 ∧ ∃ ps, h.get? P1 = some (tabObj ps) ∧ (ps = #[] ∨ ∃ c2 : Addr, ps = #[rawInt 10, rawInt 20, .ref c2])
def TabA (N : Nat) (h : Heap) : Prop := CodeHd h 49 45 ∧ (h.get? 45 = some (tabObj #[]) ∨ ∃ c1 P1, h.get? 45 = some (tabObj #[rawInt 10, rawInt 15, .ref c1]) ∧ TabB N h c1 P1)
def TabCell (h : Heap) : Prop := CodeHd h 80 76 ∧ (h.get? 76 = some (tabObj #[]) ∨ ∃ c1 : Addr, h.get? 76 = some (tabObj #[rawInt 41, rawInt 19, .ref c1]))
def TabS (N : Nat) (h : Heap) : Prop := TabA N h ∧ TabCell h

theorem codeHd_at {h h' : Heap} {c P : Addr} (x : CodeHd h c P) (k : ∀ o, h.get? c = some o → o.cls ≠ .none → h'.get? c = some o) : CodeHd h' c P :=
  let ⟨o, vs, file, tf, flags, tg, inF, text, tt, e, ec, r⟩ := x; ⟨o, vs, file, tf, flags, tg, inF, text, tt, k o e (by rw [ec]; nofun), ec, r⟩
theorem TabB.keeps {N : Nat} {h h' : Heap} {c1 P1 : Addr} (x : TabB N h c1 P1) (k : ∀ b o, h.get? b = some o → h'.get? b = some o) : TabB N h' c1 P1 :=
  ⟨x.1.keeps k, x.2.1, let ⟨ps, e, r⟩ := x.2.2; ⟨ps, k _ _ e, r⟩⟩
theorem TabS.keeps {N : Nat} {h h' : Heap} (x : TabS N h) (k : ∀ b o, h.get? b = some o → h'.get? b = some o) : TabS N h' :=
  ⟨⟨x.1.1.keeps k, x.1.2.imp (fun e => k _ _ e) fun ⟨c1, P1, e, r⟩ => ⟨c1, P1, k _ _ e, r.keeps k⟩⟩, x.2.1.keeps k, x.2.2.imp (fun e => k _ _ e) fun ⟨c1, e⟩ => ⟨c1, k _ _ e⟩⟩

/-- the contract of a call that may make inner code -/
def GenC (prog : Program) (w : World) (K : Frag) (f : Addr) (d u : Nat) (args : List Value) (R : Value → Prop) : Prop :=
  ∀ (N : Nat) (p : Program) (loose : List Str) (mean : ExcName → Option Value) (mg mb : Str → Option Value) (h₀ : Heap) (A : Around) (s : Shared) (Q E : Value → Shared → Prop),
    A.handled = none → A.depth + d < recursionLimit → A.units + u < cLine → BaseOk N K p loose mean mg mb h₀ s.heap → TabS N s.heap → 76 < N → N ≤ s.heap.objs.size → AllBare s.gens →
    (∀ v s', KeepT N s.heap s'.heap → TabS N s'.heap → AllBare s'.gens → s'.os = s.os → R v → Q v s') →
    wpAny (model prog w) A (call (.ref f) args) Q E s

section
variable {prog : Program} {w : World} {A : Around} {s : Shared} {K : Frag} {p : Program} {loose : List Str} {mean : ExcName → Option Value} {mg mb : Str → Option Value} {env : Env} {E : Value → Shared → Prop} {Q : Value → Shared → Prop}
theorem nm_B {h₀ : Heap} {x : Str} {pos : Pos} {v : Value} (X : K.In h₀) (T : Top p loose mean mg mb h₀) (le : ∀ b o, h₀.get? b = some o → s.heap.get? b = some o) (e : nsIn K mainGlobals x = some none) (hv : bootBuiltins x = some v) (hn : x ≠ "__name__") (h : Q v s)
    (hg : env.globals = mainGlobals) (hb : env.builtins = builtinsNs) (hk : env.scope.kind = .function) (hx : env.kindOf x = some .globalImplicit) (hd : (x == ("__debug__" : Str)) = false := by decide) :
    wpAny (model prog w) A (eval (.Name x pos) env) Q E s :=
  Calls.Name_function_global hk hx (Calls.loadGlobal_builtin (env := env) (hg ▸ T.g.keeps le) (mg_none_of X T.g e) (hb ▸ T.b.keeps le) ((T.builtins x hn).trans hv) h) hd
theorem nm_G {h₀ : Heap} {x : Str} {pos : Pos} {v : Value} (X : K.In h₀) (T : Top p loose mean mg mb h₀) (le : ∀ b o, h₀.get? b = some o → s.heap.get? b = some o) (e : nsIn K mainGlobals x = some (some v)) (h : Q v s)
    (hg : env.globals = mainGlobals) (hk : env.scope.kind = .function) (hx : env.kindOf x = some .globalImplicit) (hd : (x == ("__debug__" : Str)) = false := by decide) :
    wpAny (model prog w) A (eval (.Name x pos) env) Q E s :=
  Calls.Name_function_global hk hx (Calls.loadGlobal_global (env := env) (hg ▸ T.g.keeps le) (mg_of X T.g e) h) hd

/-- the outer generator's code: made or found -/
theorem tabA_code {N : Nat} {hb : Heap} {q : Str} {scope : Scope} {pos : Pos} (hc : env.code = .ref 49) (h1 : pos.line = 10) (h2 : pos.col = 15) (T : TabA N hb) (le : ∀ b o, hb.get? b = some o → s.heap.get? b = some o) (hN : N ≤ s.heap.objs.size)
    (hQ : ∀ c1 P1 h' tk, Heap.ExtBut 45 s.heap h' → s.heap.objs.size ≤ h'.objs.size → h'.get? 45 = some (tabObj #[rawInt 10, rawInt 15, .ref c1]) → TabB N h' c1 P1 →
      ((s.heap.objs.size ≤ P1 ∧ s.heap.objs.size ≤ c1) ∨ (TabB N hb c1 P1)) → Q (.ref c1) { s with heap := h', toks := tk }) :
    wpAny (model prog w) A (genexprCode env pos q scope) Q E s := by
  obtain ⟨hd, ht | ⟨c1, P1, ht, hb'⟩⟩ := T
  · have hd := hd.keeps le
    have ht := le _ _ ht
    refine wpAny_genexprCodeX hc (hd.code ht trivial) (hd.tab ht) rfl fun c' h' tk hx hge hlt hcode _ htab hin => ?_
    obtain ⟨P', hP, hc', ht'⟩ := hin
    have e : (#[] ++ #[rawInt pos.line, rawInt pos.col, Value.ref c'] : Array Value) = #[rawInt 10, rawInt 15, .ref c'] := by rw [h1, h2]; rfl
    rw [e] at htab
    exact hQ c' P' h' tk hx (Nat.le_trans hge (Nat.le_of_lt hlt)) htab.2 ⟨CodeHd.of hc' ht', Nat.le_trans hN hP, #[], ht'.2, .inl rfl⟩ (.inl ⟨hP, hge⟩)
  · have hd := hd.keeps le
    have ht := le _ _ ht
    refine wpAny_genexprCode_hit hc (hd.code ht (by simp [TriplesOk, rawInt])) (c' := .ref c1) (by simp [codeAmong, rawInt, h1, h2]) ?_
    exact hQ c1 P1 s.heap s.toks (Heap.ExtBut.refl _ _) (Nat.le_refl _) ht (hb'.keeps le) (.inr hb')

theorem tabB_code {N : Nat} {c1 P1 : Addr} {q : Str} {scope : Scope} {pos : Pos} (hc : env.code = .ref c1) (h1 : pos.line = 10) (h2 : pos.col = 20) (T : TabB N s.heap c1 P1)
    (hQ : ∀ c2 h' tk, Heap.ExtBut P1 s.heap h' → s.heap.objs.size ≤ h'.objs.size → TabB N h' c1 P1 → Q (.ref c2) { s with heap := h', toks := tk }) :
    wpAny (model prog w) A (genexprCode env pos q scope) Q E s := by
  obtain ⟨hd, hn, ps, ht, rfl | ⟨c2, rfl⟩⟩ := T
  · refine wpAny_genexprCodeX hc (hd.code ht trivial) (hd.tab ht) rfl fun c' h' tk hx hge hlt hcode _ htab _ => ?_
    have e : (#[] ++ #[rawInt pos.line, rawInt pos.col, Value.ref c'] : Array Value) = #[rawInt 10, rawInt 20, .ref c'] := by rw [h1, h2]; rfl
    rw [e] at htab hcode
    exact hQ c' h' tk hx (Nat.le_trans hge (Nat.le_of_lt hlt)) ⟨CodeHd.of hcode htab, hn, _, htab.2, .inr ⟨c', rfl⟩⟩
  · refine wpAny_genexprCode_hit hc (hd.code ht (by simp [TriplesOk, rawInt])) (c' := .ref c2) (by simp [codeAmong, rawInt, h1, h2]) ?_
    exact hQ c2 s.heap s.toks (Heap.ExtBut.refl _ _) (Nat.le_refl _) ⟨hd, hn, _, ht, .inr ⟨c2, rfl⟩⟩
end
end Mine
namespace Mine
/-- what of the ledger bears the tables: whoever keeps it (and the base) keeps them -/
def TabLed (N : Nat) (g : Heap) (led : List (Addr × Obj)) : Prop := ∀ h', (∀ b o, g.get? b = some o → h'.get? b = some o) → (∀ p ∈ led, h'.get? p.1 = some p.2) → TabS N h'
theorem noMut_none {N : Nat} {g h : Heap} {b : Addr} {o : Obj} (nm : NoMut N g) (le : ∀ b o, g.get? b = some o → h.get? b = some o) (e : h.get? b = some o) (m : mutB N b o = true) : g.get? b = none := by
  cases q : g.get? b with
  | none => rfl
  | some o' =>
    have := le _ _ q
    rw [e] at this; cases this
    have := nm _ _ q
    rw [m] at this; cases this
theorem tabS_led {N : Nat} {g h : Heap} {L : Addr} {m : Str → Option Value} (le : ∀ b o, g.get? b = some o → h.get? b = some o) (nm : NoMut N g) (hL : h.Ns L m) (h49 : CodeHd g 49 45) (h80 : CodeHd g 80 76) (TS : TabS N h) :
    ∃ led, News g L h led ∧ TabLed N g led := by
  have m45 : ∀ ps, mutB N 45 (tabObj ps) = true := fun ps => by show ((45 : Nat) == 45 || (45 : Nat) == 76 || decide (N ≤ 45)) = true; simp
  have m76 : ∀ ps, mutB N 76 (tabObj ps) = true := fun ps => by show ((76 : Nat) == 45 || (76 : Nat) == 76 || decide (N ≤ 76)) = true; simp
  have mP : ∀ P ps, N ≤ P → mutB N P (tabObj ps) = true := fun P ps hP => by show (P == 45 || P == 76 || decide (N ≤ P)) = true; simp [hP]
  have neL : ∀ b ps, h.get? b = some (tabObj ps) → b ≠ L := fun b ps e q => by
    obtain ⟨o, es, ep, ho, hd, _⟩ := hL
    rw [q, ho] at e; cases e; cases hd
  obtain ⟨ps76, e76, r76⟩ : ∃ ps, h.get? 76 = some (tabObj ps) ∧ (ps = #[] ∨ ∃ c1 : Addr, ps = #[rawInt 41, rawInt 19, .ref c1]) := by
    rcases TS.2.2 with e | ⟨c1, e⟩
    · exact ⟨_, e, .inl rfl⟩
    · exact ⟨_, e, .inr ⟨c1, rfl⟩⟩
  have done76 : ∀ h' : Heap, (∀ b o, g.get? b = some o → h'.get? b = some o) → h'.get? 76 = some (tabObj ps76) → TabCell h' := fun h' k e => by
    refine ⟨h80.keeps k, ?_⟩
    rcases r76 with rfl | ⟨c1, rfl⟩
    · exact .inl e
    · exact .inr ⟨c1, e⟩
  have n76 : h.get? 76 = some (tabObj ps76) ∧ (76 : Addr) ≠ L ∧ g.get? 76 = none := ⟨e76, neL _ _ e76, noMut_none nm le e76 (m76 _)⟩
  rcases TS.1.2 with e | ⟨c1, P1, e, hb⟩
  · refine ⟨[(45, tabObj #[]), (76, tabObj ps76)], fun p hp => ?_, fun h' k l => ⟨⟨h49.keeps k, .inl (l _ (.head _))⟩, done76 h' k (l _ (.tail _ (.head _)))⟩⟩
    rcases List.mem_cons.mp hp with rfl | hp
    · exact ⟨e, neL _ _ e, noMut_none nm le e (m45 _)⟩
    · rw [List.mem_singleton.mp hp]; exact n76
  · obtain ⟨hc, hN, ps, eP, rP⟩ := hb
    have n45 : h.get? 45 = some (tabObj #[rawInt 10, rawInt 15, .ref c1]) ∧ (45 : Addr) ≠ L ∧ g.get? 45 = none := ⟨e, neL _ _ e, noMut_none nm le e (m45 _)⟩
    have nP : h.get? P1 = some (tabObj ps) ∧ P1 ≠ L ∧ g.get? P1 = none := ⟨eP, neL _ _ eP, noMut_none nm le eP (mP _ _ hN)⟩
    cases q : g.get? c1 with
    | some oc =>
      have hcg : ∀ h' : Heap, (∀ b o, g.get? b = some o → h'.get? b = some o) → CodeHd h' c1 P1 := fun h' k => codeHd_at hc fun o e1 _ => by
        have e2 := le _ _ q
        rw [e1] at e2; cases e2
        exact k _ _ q
      refine ⟨[(45, tabObj #[rawInt 10, rawInt 15, .ref c1]), (76, tabObj ps76), (P1, tabObj ps)], fun p hp => ?_, fun h' k l => ⟨⟨h49.keeps k, .inr ⟨c1, P1, l _ (.head _), hcg h' k, hN, ps, l _ (.tail _ (.tail _ (.head _))), rP⟩⟩, done76 h' k (l _ (.tail _ (.head _)))⟩⟩
      rcases List.mem_cons.mp hp with rfl | hp
      · exact n45
      · rcases List.mem_cons.mp hp with rfl | hp
        · exact n76
        · rw [List.mem_singleton.mp hp]; exact nP
    | none =>
      obtain ⟨oc, vs, file, tf, flags, tg, inF, text, tt, ec, ecls, r⟩ := id hc
      have hcL : c1 ≠ L := fun q' => by
        obtain ⟨o, es, ep, ho, hd, _⟩ := hL
        rw [← q', ec] at ho; cases ho
        rw [r.1] at hd; cases hd
      refine ⟨[(45, tabObj #[rawInt 10, rawInt 15, .ref c1]), (76, tabObj ps76), (P1, tabObj ps), (c1, oc)], fun p hp => ?_, fun h' k l => ⟨⟨h49.keeps k, .inr ⟨c1, P1, l _ (.head _), codeHd_at hc fun o e1 _ => ?_, hN, ps, l _ (.tail _ (.tail _ (.head _))), rP⟩⟩, done76 h' k (l _ (.tail _ (.head _)))⟩⟩
      · rcases List.mem_cons.mp hp with rfl | hp
        · exact n45
        · rcases List.mem_cons.mp hp with rfl | hp
          · exact n76
          · rcases List.mem_cons.mp hp with rfl | hp
            · exact nP
            · rw [List.mem_singleton.mp hp]; exact ⟨ec, hcL, q⟩
      · rw [ec] at e1; cases e1
        exact l _ (.tail _ (.tail _ (.tail _ (.head _))))
end Mine
end

/-! GenM -/
section
open PySem PySem.W PySem.Spec PySem.Calls PyProof.Rows
namespace Mine
section
variable {M : Model} {A : Around} {E : Value → Shared → Prop} {s : Shared}
theorem gen_make_cells {env : Env} {elt target iter : Expr} {scope : Scope} {pos : Pos} {Q : Value → Shared → Prop}
    (hco : scope.isCoroutine = false) (hclos : closureFor scope env = pure []) (h0 : scope.names.lookup (".0" : Str) = some NameKind.local) (hkind : scope.kind = .function) (hroom : A.depth < recursionLimit)
    (h : wpAny M A (eval iter env) (fun xv s₁ => wpAny M A (pyIter xv) (fun it s₂ => s₂.heap.NoLimit ∧
      wpAny M A (genexprCode env pos (env.qual ++ "<genexpr>") scope) (fun code s₃ => wpAny M A (builtinsFor env.globals env.builtins) (fun bi s₄ =>
        ∀ s₅, InCallC s₄ s₄.heap.objs.size (bindL (newEnv scope s₄.heap.objs.size env.globals (cellsFrom (s₄.heap.objs.size + 1) scope.names []) (env.qual ++ "<genexpr>.") none code none bi).kindOf [(".0", it)] fun _ => none)
            (cellsFrom (s₄.heap.objs.size + 1) scope.names []) (bindC (newEnv scope s₄.heap.objs.size env.globals (cellsFrom (s₄.heap.objs.size + 1) scope.names []) (env.qual ++ "<genexpr>.") none code none bi).kindOf [(".0", it)] fun _ => none) s₅ →
          ∀ o tk, o.cls = .type "generator" → (∃ nm qn, o.data = .fields #[.int s₅.gens.size 0, nm, qn]) → o.slots = #[] →
          Q (.ref s₅.heap.objs.size) { s₅ with
            gens := s₅.gens.push (.fresh (.compStart (.GeneratorExp elt [⟨target, iter, [], 0⟩] scope pos) 0 it .none (newEnv scope s₄.heap.objs.size env.globals (cellsFrom (s₄.heap.objs.size + 1) scope.names []) (env.qual ++ "<genexpr>.") none code none bi))),
            toks := tk, heap := s₅.heap.push o }) E s₃) E s₂) E s₁) E s)
    (hs : ∀ x, genFold iter env x = pure x) :
    wpAny M A (eval (.GeneratorExp elt [⟨target, iter, [], 0⟩] scope pos) env) Q E s := by
  rw [eval_GeneratorExp1 _ _ _ _ _ _ _ hco, hclos]
  refine wpAny_bind (wpAny_mono h (fun xv s₁ h₁ => ?_) fun _ _ e => e)
  refine wpAny_bind (wpAny_standAt ?_)
  refine wpAny_bind (wpAny_of_eq (hs xv) ?_)
  refine wpAny_bind (wpAny_holding (wpAny_mono h₁ (fun it s₂ h₂ => ?_) fun _ _ e => e))
  refine wpAny_bind (wpAny_enterFrame h₂.1 hroom ?_)
  refine wpAny_bind (wpAny_pure ?_)
  refine wpAny_bind (wpAny_mono h₂.2 (fun code s₃ h₃ => ?_) fun _ _ e => e)
  refine wpAny_bind (wpAny_mono h₃ (fun bi s₄ h₄ => ?_) fun _ _ e => e)
  refine wpAny_bind (wpAny_newFunctionEnv_cells hkind (fun y hy => ?_) fun env' he s₅ x => ?_)
  · rcases List.mem_cons.mp hy with rfl | hy
    · exact .inl h0
    · cases hy
  subst he
  simp only [newGenerator, newFields]
  refine wpAny_bind (wpAny_newGen (wpAny_bind (wpAny_mkText (wpAny_bind (wpAny_mkText (wpAny_newObj_type ?_ (by size_fits)))))))
  exact h₄ s₅ x _ _ rfl ⟨_, _, rfl⟩ rfl
end
end Mine
end

/-! CIsw -/
section
open PySem PySem.W PySem.Spec PySem.Calls PyProof.Rows
namespace Mine
section
variable {prog : Program} {w : World} {A : Around} {cenv : Env} {I a : Addr} {g n : Nat} {x : Str} {px : Pos} {elt iter : Expr} {scope : Scope} {pos : Pos}
  {J : Nat → Shared → Prop} {Jn : Nat → Value → Shared → Prop} {Ja : Nat → Shared → Prop} {tr : Nat → Bool}
theorem gl_freshAll {Q : Value → Shared → Prop} {E : Value → Shared → Prop} {s : Shared} (hh : A.handled = none) (hroom : A.depth < recursionLimit)
    (hg : s.gens[g]? = some (.fresh (.compStart (.GeneratorExp elt [⟨.Name x px, iter, [], 0⟩] scope pos) 0 (.ref I) .none cenv)))
    (G : GLoop prog w (A.depth + 1) (A.units + 6) cenv I a g n x px elt J Jn Ja tr) (hco : cenv.scope.isCoroutine = false)
    (hJ : J 0 s) (hQ : ∀ s' i, J i s' → Q (.bool ((List.range n).all tr)) s') : wpAny (model prog w) A (call (.builtin "all") [.ref a]) Q E s := by
  have G1 : GLoop prog w (A.in1.in1.depth + 1) (A.in1.in1.units + 3) cenv I a g n x px elt J Jn Ja tr :=
    { G with elt := fun A' j s Q E h1 h2 h3 => G.elt A' j s Q E h1 h2 (Nat.le_trans h3 (by show A.units + 1 + 1 + 3 ≤ A.units + 6; omega)) }
  exact gl_callAll hh hroom G1 ⟨hJ, _, hg, rfl, gl_start (A := A.in1.in1) hh G1 hco _ _ (G.set _ _ _ rfl hJ)⟩ hQ
end

theorem keepT_extBut {N : Nat} {h h' : Heap} {P : Addr} (hP : ∃ ps, h.get? P = some (tabObj ps)) (hm : P = 45 ∨ P = 76 ∨ N ≤ P) (hx : Heap.ExtBut P h h') : KeepT N h h' := fun b o e m => by
  refine hx b o (fun q => ?_) e
  subst q
  obtain ⟨ps, hP⟩ := hP
  rw [hP] at e; cases e
  have : mutB N b (tabObj ps) = true := by
    unfold mutB
    show (b == 45 || b == 76 || decide (N ≤ b)) = true
    rcases hm with rfl | rfl | hm
    · simp
    · simp
    · simp [hm]
  rw [this] at m; cases m
theorem mutB_tab {N : Nat} {P : Addr} {ps : Array Value} (hm : N ≤ P) : mutB N P (tabObj ps) = true := by
  show (P == 45 || P == 76 || decide (N ≤ P)) = true
  simp [hm]

structure OInv (N : Nat) (hs : Heap) (a : Addr) (g : Nat) (c1 P1 : Addr) (s₀ : Shared) (s : Shared) : Prop where
  gen : s.heap.IsGen a g
  lt : g < s.gens.size
  bare : AllBare s.gens
  os : s.os = s₀.os
  old : KeepT N hs s.heap
  t45 : s.heap.get? 45 = some (tabObj #[rawInt 10, rawInt 15, .ref c1])
  tb : TabB N s.heap c1 P1
  t76 : s.heap.get? 76 = hs.get? 76
section
variable {N : Nat} {hs h' : Heap} {a : Addr} {g : Nat} {c1 P1 X : Addr} {s₀ s : Shared}
theorem OInv.but {tk : Nat} (V : OInv N hs a g c1 P1 s₀ s) (hk : ∀ b o, b ≠ X → s.heap.get? b = some o → h'.get? b = some o) (da : a ≠ X) (d45 : 45 ≠ X) (d76 : 76 ≠ X) (dP : P1 ≠ X) (dc : c1 ≠ X) (hX : hs.get? X = none) (h76 : ∃ o, hs.get? 76 = some o) :
    OInv N hs a g c1 P1 s₀ { s with heap := h', toks := tk } where
  gen := let ⟨o, nm, qn, ho, r⟩ := V.gen; ⟨o, nm, qn, hk _ _ da ho, r⟩
  lt := V.lt
  bare := V.bare
  os := V.os
  old := fun b o e m => hk b o (fun q => by rw [q, hX] at e; cases e) (V.old b o e m)
  t45 := hk _ _ d45 V.t45
  tb := ⟨codeHd_at V.tb.1 fun o e _ => hk _ _ dc e, V.tb.2.1, let ⟨ps, e, r⟩ := V.tb.2.2; ⟨ps, hk _ _ dP e, r⟩⟩
  t76 := by obtain ⟨o, e⟩ := h76; rw [e]; exact hk _ _ d76 (V.t76.trans e)
theorem OInv.inner {s' : Shared} (V : OInv N hs a g c1 P1 s₀ s) (hk : ∀ b o, b ≠ P1 → s.heap.get? b = some o → s'.heap.get? b = some o) (da : a ≠ P1) (d45 : 45 ≠ P1) (d76 : 76 ≠ P1) (tb : TabB N s'.heap c1 P1)
    (hlt : g < s'.gens.size) (hb : AllBare s'.gens) (hos : s'.os = s.os) (h76 : ∃ o, hs.get? 76 = some o) : OInv N hs a g c1 P1 s₀ s' where
  gen := let ⟨o, nm, qn, ho, r⟩ := V.gen; ⟨o, nm, qn, hk _ _ da ho, r⟩
  lt := hlt
  bare := hb
  os := hos.trans V.os
  old := fun b o e m => by
    refine hk b o (fun q => ?_) (V.old b o e m)
    subst q
    obtain ⟨ps, ht, _⟩ := V.tb.2.2
    have e2 := V.old b o e m
    rw [ht] at e2; cases e2
    rw [mutB_tab V.tb.2.1] at m; cases m
  t45 := hk _ _ d45 V.t45
  tb := tb
  t76 := by obtain ⟨o, e⟩ := h76; rw [e]; exact hk _ _ d76 (V.t76.trans e)
theorem OInv.set {y : GenState} (V : OInv N hs a g c1 P1 s₀ s) (hy : y.bare = true) : OInv N hs a g c1 P1 s₀ (s.setGen g y) where
  gen := V.gen
  lt := by show g < (s.gens.setIfInBounds g y).size; rw [Array.size_setIfInBounds]; exact V.lt
  bare := fun z hz => by
    have hz' : z ∈ s.gens.setIfInBounds g y := hz
    rcases Array.mem_or_eq_of_mem_setIfInBounds hz' with h | h
    · exact V.bare z h
    · rw [h]; exact hy
  os := V.os
  old := V.old
  t45 := V.t45
  tb := V.tb
  t76 := V.t76
theorem OInv.grow (V : OInv N hs a g c1 P1 s₀ s) (hk : ∀ b o, s.heap.get? b = some o → h'.get? b = some o) (h76 : ∃ o, hs.get? 76 = some o) : OInv N hs a g c1 P1 s₀ { s with heap := h' } where
  gen := V.gen.keeps hk
  lt := V.lt
  bare := V.bare
  os := V.os
  old := fun b o e m => hk b o (V.old b o e m)
  t45 := hk _ _ V.t45
  tb := V.tb.keeps hk
  t76 := by obtain ⟨o, e⟩ := h76; rw [e]; exact hk _ _ (V.t76.trans e)
end

theorem TabB.ltP {N : Nat} {h : Heap} {c1 P1 : Addr} (q : TabB N h c1 P1) : P1 < h.objs.size := by
  obtain ⟨_, _, ps, e, _⟩ := q; exact Heap.lt_size e
theorem TabB.ltc {N : Nat} {h : Heap} {c1 P1 : Addr} (q : TabB N h c1 P1) : c1 < h.objs.size := by
  obtain ⟨⟨o, _, _, _, _, _, _, _, _, e, _⟩, _⟩ := q; exact Heap.lt_size e

theorem TabB.at {N : Nat} {h h' : Heap} {c1 P1 : Addr} (x : TabB N h c1 P1) (kc : ∀ o, h.get? c1 = some o → h'.get? c1 = some o) (kP : ∀ o, h.get? P1 = some o → h'.get? P1 = some o) : TabB N h' c1 P1 :=
  ⟨codeHd_at x.1 fun o e _ => kc o e, x.2.1, let ⟨ps, e, r⟩ := x.2.2; ⟨ps, kP _ e, r⟩⟩
theorem genOnlyQ_size {g : Nat} {a b : Array GenState} (h : GenOnlyQ g a b) : b.size = a.size := by
  rcases h with rfl | ⟨⟨h, _⟩, _⟩
  · rfl
  · exact h
def rv (j : Nat) : Array Value := #[.int (sgl.getD j (0, 0)).1 (222 + 2 * j), .int (sgl.getD j (0, 0)).2 (223 + 2 * j)]
theorem rangesAt {h : Heap} {w : World} (X : (hd.heap_39 w.params).In h) : ∀ k : Nat, k < 6 → h.IsTuple (37 + k) (rv k) := by
  intro k hk
  have : k = 0 ∨ k = 1 ∨ k = 2 ∨ k = 3 ∨ k = 4 ∨ k = 5 := by omega
  rcases this with rfl | rfl | rfl | rfl | rfl | rfl
  · exact ⟨_, X 37 _ rfl, rfl, _, rfl⟩
  · exact ⟨_, X 38 _ rfl, rfl, _, rfl⟩
  · exact ⟨_, X 39 _ rfl, rfl, _, rfl⟩
  · exact ⟨_, X 40 _ rfl, rfl, _, rfl⟩
  · exact ⟨_, X 41 _ rfl, rfl, _, rfl⟩
  · exact ⟨_, X 42 _ rfl, rfl, _, rfl⟩

def rangesL : List Value := [.ref 37, .ref 38, .ref 39, .ref 40, .ref 41, .ref 42]
theorem all_sign (x : Str) (q : Nat → Bool) : (List.range x.cps.size).all (fun j => q (x.cps.getD j 0)) = x.cps.toList.all q := by
  rw [Bool.eq_iff_iff, List.all_eq_true, List.all_eq_true]
  constructor
  · intro h c hc
    obtain ⟨j, hj, rfl⟩ := List.getElem_of_mem hc
    have hj' : j < x.cps.size := by simpa using hj
    have := h j (List.mem_range.mpr hj')
    simpa [Array.getD, hj'] using this
  · intro h j hj
    have hj' := List.mem_range.mp hj
    refine h _ ?_
    simp [Array.getD, hj']
theorem plain_any (n : Int) : (List.range 6).any (fun j => decide ((sgl.getD j (0, 0)).1 ≤ n) && decide (n ≤ (sgl.getD j (0, 0)).2)) = lawPlain n := by
  simp [List.range, List.range.loop, lawPlain, plainIn, sgl]

local macro_rules | `(tactic| walk_at "eval GeneratorExp") => `(tactic| (k_here; refine Stop.out ?_))
theorem c_isw (w : World) (x : Str) (t : Tok) : GenC PySem.Challenge.rw_ff5020_01.row.prog w (hd.heap_39 w.params) 50 5 40 [.str x t] (fun v => v = .bool (x.cps.toList.all fun c => lawPlain c)) := by
  k_fill
  intro N p loose mean mg mb h₀ A s Q E hA hdp hun B TS h76 hN hb hQ
  obtain ⟨_, dp, fr, gd, un⟩ := A
  subst hA
  dsimp only at hdp hun
  have X : (hd.heap_39 w.params).In s.heap := B.X.keeps B.le
  have T : Top p loose mean mg mb s.heap := B.T.keeps B.le
  refine wpAny_call ?_
  k_dflt (refine' enter_K ?X ?T ?o ?c ?r ?b ?l ?_ ?c2 ?c3 ?c4 ?c5; (case X => exact X); (case T => exact T); (case o => k_is); (case c => k_is); (case r => (try dsimp only); omega); (case b => first | exact BindsTo.of_eq rfl | exact binds_K X rfl (by k_is) rfl rfl rfl); (case l => exact locs rfl); (case c2 => exact rfl); (case c3 => exact rfl); (case c4 => exact rfl); (case c5 => decide))
  intro g L' h₁ hg F' N' X' T'
  (try dsimp only)
  (try k_fold)
  k_steps
  refine Stop.mk ?_
  subst hg
  have TS1 : TabS N h₁ := TS.keeps F'.keep
  have hN1 : N ≤ h₁.objs.size := Nat.le_trans hN (Nat.le_trans F'.above (Nat.le_of_lt F'.ns.lt))
  refine gen_make_cells rfl (closureFor_none (by decide)) rfl rfl (by (simp only [depth_deeper]); (try dsimp only); omega) ?_ (fun _ => rfl)
  refine ld F' rfl ?_
  refine wpAny_pyIter_str fun o St W hst => ?_
  refine ⟨(T'.nolimit.keeps F'.keep).keeps fun b o e => Heap.get?_push_of_some _ e, ?_⟩
  have o45 : ∃ ps, s.heap.get? 45 = some (tabObj ps) := TS.1.2.elim (fun e => ⟨_, e⟩) fun ⟨_, _, e, _⟩ => ⟨_, e⟩
  have o76 : ∃ o, s.heap.get? 76 = some o := TS.2.2.elim (fun e => ⟨_, e⟩) fun ⟨_, e⟩ => ⟨_, e⟩
  have hLs : s.heap.objs.size ≤ L' := F'.above
  have hL1 : L' < h₁.objs.size := F'.ns.lt
  have hh1 : s.heap.objs.size < h₁.objs.size := Nat.lt_of_le_of_lt hLs hL1
  refine tabA_code rfl rfl rfl TS1.1 (fun b o e => Heap.get?_push_of_some _ e) (by rw [Heap.size_push]; exact Nat.le_succ_of_le hN1) fun c1 P1 h₃ tk₃ hx hsz t45 tb hdis => ?_
  rw [Heap.size_push] at hsz
  have hsz' : h₁.objs.size + 1 ≤ h₃.objs.size := hsz
  have k3 : KeepT N s.heap h₃ := (KeepT.of_full fun b o e => Heap.get?_push_of_some _ (F'.keep b o e)).trans (keepT_extBut (by obtain ⟨ps, e⟩ := o45; exact ⟨ps, Heap.get?_push_of_some _ (F'.keep _ _ e)⟩) (.inl rfl) hx)
  have hP1 : P1 < h₃.objs.size ∧ c1 < h₃.objs.size := ⟨tb.ltP, tb.ltc⟩
  have hdI : P1 ≠ h₁.objs.size ∧ c1 ≠ h₁.objs.size := by
    rcases hdis with ⟨q1, q2⟩ | q
    · rw [Heap.size_push] at q1 q2
      exact ⟨Nat.ne_of_gt q1, Nat.ne_of_gt q2⟩
    · exact ⟨Nat.ne_of_lt q.ltP, Nat.ne_of_lt q.ltc⟩
  obtain ⟨bm, ob, hM⟩ := bmod_of_top B.T
  have hM3 := hM.keeps (B.keep k3).le
  refine wpAny_builtinsFor hM3.ns hM3.name hM3.ne hM3.obj hM3.cls hM3.dict hM3.data ?_
  intro s₅ hin o5 tk5 hcls hdat hslots
  have cell0 := hin.cell "character" (h₃.objs.size + 1) rfl
  obtain ⟨h₅, tk', rfl, hk5⟩ := hin.done
  have hCC : h₃.objs.size + 1 < h₅.objs.size := let ⟨_, e, _⟩ := cell0; Heap.lt_size e
  have hsI : s.heap.get? h₁.objs.size = none := Heap.get?_none_of_le (by omega)
  have hsC : s.heap.get? (h₃.objs.size + 1) = none := Heap.get?_none_of_le (by omega)
  refine args_nil ?_
  have dI45 : (45 : Nat) ≠ h₁.objs.size := Nat.ne_of_lt (by omega)
  have dI76 : (76 : Nat) ≠ h₁.objs.size := Nat.ne_of_lt (by omega)
  have dC45 : (45 : Nat) ≠ h₃.objs.size + 1 := Nat.ne_of_lt (by omega)
  have dC76 : (76 : Nat) ≠ h₃.objs.size + 1 := Nat.ne_of_lt (by omega)
  have dIC : h₁.objs.size ≠ h₃.objs.size + 1 := Nat.ne_of_lt (by omega)
  have daI : h₅.objs.size ≠ h₁.objs.size := Nat.ne_of_gt (by omega)
  have daC : h₅.objs.size ≠ h₃.objs.size + 1 := Nat.ne_of_gt hCC
  have dPC : P1 ≠ h₃.objs.size + 1 := Nat.ne_of_lt (Nat.lt_succ_of_lt hP1.1)
  have dcC : c1 ≠ h₃.objs.size + 1 := Nat.ne_of_lt (Nat.lt_succ_of_lt hP1.2)
  have daP : h₅.objs.size ≠ P1 := Nat.ne_of_gt (Nat.lt_trans hP1.1 (Nat.lt_of_succ_lt hCC))
  have d45P : (45 : Nat) ≠ P1 := Nat.ne_of_lt (Nat.lt_of_lt_of_le (by omega) tb.2.1)
  have d76P : (76 : Nat) ≠ P1 := Nat.ne_of_lt (Nat.lt_of_lt_of_le h76 tb.2.1)
  have up : ∀ b o, b ≠ 45 → h₁.get? b = some o → h₅.get? b = some o := fun b o q e => hk5 _ _ (hx b o q (Heap.get?_push_of_some _ e))
  have lez : ∀ s' : Shared, OInv N s.heap h₅.objs.size s.gens.size c1 P1 s s' → ∀ b o, h₀.get? b = some o → s'.heap.get? b = some o := fun s' V b o e => V.old b o (B.le b o e) (B.nm b o e)
  refine gl_freshAll (n := x.cps.size) (I := h₁.objs.size) (g := s.gens.size) (tr := fun j => lawPlain ((x.cps.getD j 0 : Nat) : Int))
    (J := fun j s' => OInv N s.heap h₅.objs.size s.gens.size c1 P1 s s' ∧ (j ≤ x.cps.size → St j s'.heap) ∧ ∃ cv, s'.heap.IsCell (h₃.objs.size + 1) cv)
    (Jn := fun j v s' => SignAt x j v ∧ OInv N s.heap h₅.objs.size s.gens.size c1 P1 s s' ∧ St (j + 1) s'.heap ∧ ∃ cv, s'.heap.IsCell (h₃.objs.size + 1) cv)
    (Ja := fun j s' => OInv N s.heap h₅.objs.size s.gens.size c1 P1 s s' ∧ St (j + 1) s'.heap ∧ ∃ t, s'.heap.IsCell (h₃.objs.size + 1) (some (.str ⟨#[x.cps.getD j 0]⟩ t)))
    rfl (by simp only [depth_deeper]; (try dsimp only); omega) (Array.getElem?_push_size ..) ?G rfl ?J0 ?Q
  case J0 =>
    refine ⟨⟨?_, ?_, hb.push rfl, rfl, ?_, Heap.get?_push_of_some _ (hk5 _ _ t45), tb.keeps fun b o e => Heap.get?_push_of_some _ (hk5 _ _ e), ?_⟩, fun _ => ?_, ?_⟩
    · obtain ⟨nm, qn, e⟩ := hdat
      exact ⟨o5, nm, qn, Heap.get?_push_size _ (by unfold Obj.isFreed; split <;> simp_all), hcls, e, hslots⟩
    · show s.gens.size < (s.gens.push _).size
      rw [Array.size_push]; exact Nat.lt_succ_self _
    · exact k3.trans (KeepT.of_full fun b o e => Heap.get?_push_of_some _ (hk5 _ _ e))
    · obtain ⟨o, e⟩ := o76
      rw [e]
      exact Heap.get?_push_of_some _ (up _ _ (by decide) (F'.keep _ _ e))
    · refine (W (callerA) rfl).frame _ _ _ hst fun b hb o e => Heap.get?_push_of_some _ (hk5 _ _ (hx _ _ (fun q => ?_) e))
      have hb' : b = h₁.objs.size := by simpa using hb
      exact dI45 (q ▸ hb')
    · exact ⟨_, cell0.keeps fun b o e => Heap.get?_push_of_some _ e⟩
  case Q =>
    rintro s' i ⟨V, _, _⟩
    refine hQ _ _ V.old ⟨⟨codeHd_at TS.1.1 fun o e m => V.old _ _ e (mutB_cls m), .inr ⟨c1, P1, V.t45, V.tb⟩⟩, codeHd_at TS.2.1 fun o e m => V.old _ _ e (mutB_cls m), by rw [V.t76]; exact TS.2.2⟩ V.bare V.os ?_
    exact congrArg Value.bool (all_sign x fun c => lawPlain (c : Int))
  case G =>
    constructor
    case next =>
      intro A' j s' Q E hh hj ⟨V, hst, cv, hc⟩ hQ
      refine (W A' hh).item j s' Q E hj (hst (Nat.le_of_lt hj)) fun v h' tk hP hst' hk => ?_
      have hk' : ∀ b o, b ≠ h₁.objs.size → s'.heap.get? b = some o → h'.get? b = some o := fun b o q e => hk b o (by simpa using q) e
      refine hQ v _ ⟨hP, V.but hk' daI dI45 dI76 hdI.1 hdI.2 hsI o76, hst', cv, ?_⟩
      obtain ⟨o, e, r⟩ := hc
      exact ⟨o, hk' _ _ (Ne.symm dIC) e, r⟩
    case done =>
      intro A' s' Q E hh ⟨V, hst, cv, hc⟩ hQ
      refine (W A' hh).done s' Q E (hst (Nat.le_refl _)) fun h' tk hk => ?_
      have hk' : ∀ b o, b ≠ h₁.objs.size → s'.heap.get? b = some o → h'.get? b = some o := fun b o q e => hk b o (by simpa using q) e
      refine hQ _ ⟨V.but hk' daI dI45 dI76 hdI.1 hdI.2 hsI o76, fun q => absurd q (by omega), cv, ?_⟩
      obtain ⟨o, e, r⟩ := hc
      exact ⟨o, hk' _ _ (Ne.symm dIC) e, r⟩
    case self => exact fun A' s' Q E hh ⟨V, hst, _⟩ hQ => (W A' hh).self 0 s' Q E (hst (Nat.zero_le _)) hQ
    case asg =>
      rintro A' j v s' Q E hh ⟨⟨c, u, hc1, rfl⟩, V, hst, cv, hc⟩ hQ
      refine wpAny_assign_Name (wpAny_storeName_cell rfl rfl rfl hc fun h' hcell hs => hQ _ ⟨V.but (tk := s'.toks) (hs.extBut) daC dC45 dC76 dPC dcC hsC o76, ?_, u, ?_⟩)
      · refine (W A' hh).frame _ _ _ hst fun b hb o e => hs.extBut _ _ ?_ e
        have hb' : b = h₁.objs.size := by simpa using hb
        rw [hb']; exact dIC
      · have : x.cps.getD j 0 = c := by rw [Array.getD_eq_getD_getElem?, hc1]; rfl
        rw [this]; exact hcell
    case set => exact fun j s' y hy ⟨V, hst, hc⟩ => ⟨V.set hy, hst, hc⟩
    case grow => exact fun j s' h' ⟨V, hst, cv, hc⟩ hk => ⟨V.grow hk o76, fun q => (W callerA rfl).frame _ _ _ (hst q) fun b _ o e => hk b o e, cv, hc.keeps hk⟩
    case gen => exact fun j s' ⟨V, _⟩ => ⟨V.gen, B.T.nolimit.keeps (lez s' V), V.lt⟩
    case elt =>
      rintro ⟨_, dp', fr', gd', un'⟩ j s' Q E hh hd hu hj ⟨V, hst, t', hcell⟩ hQ
      subst hh
      have le := lez s' V
      have Xs := B.X.keeps le
      have l43 : s'.heap.IsList 43 rangesL.toArray := lstK Xs rfl
      have hroom : dp' < recursionLimit := by
        simp only [depth_deeper] at hd
        omega
      refine Call_ (nm_B B.X B.T le (by k_is) boot_any (by decide) ?_ rfl rfl rfl rfl)
      refine callWith_builtin1 (args_cons ?_)
      refine wpAny_GeneratorExp_walksQTD rfl rfl (cl := [("character", h₃.objs.size + 1)]) rfl (by decide) rfl rfl rfl (by decide) rfl hroom ?_ (fun _ => rfl)
      refine nm_G (v := .ref 43) B.X B.T le (by k_is) ?_ rfl rfl rfl
      refine wpAny_pyIter_list l43 ?_
      refine ⟨(B.T.nolimit.keeps le).keeps fun b o e => Heap.get?_push_of_some _ e, tabB_code rfl rfl rfl (V.tb.keeps fun b o e => Heap.get?_push_of_some _ e) fun c2 h6 tk6 hx6 hs6 tb6 => ?_⟩
      rw [Heap.size_push] at hs6
      have hs6' : s'.heap.objs.size + 1 ≤ h6.objs.size := hs6
      have k6 : ∀ b o, b ≠ P1 → s'.heap.get? b = some o → h6.get? b = some o := fun b o q e => hx6 b o q (Heap.get?_push_of_some _ e)
      have nP : h₀.get? P1 = none := by
        cases q : h₀.get? P1 with
        | none => rfl
        | some o =>
          have e1 := le _ _ q
          obtain ⟨ps, e2, _⟩ := V.tb.2.2
          rw [e2] at e1; cases e1
          have := B.nm _ _ q
          rw [mutB_tab V.tb.2.1] at this; cases this
      have le6 : ∀ b o, h₀.get? b = some o → h6.get? b = some o := fun b o e => k6 b o (fun q => by rw [q, nP] at e; cases e) (le b o e)
      have hM6 := hM.keeps le6
      refine wpAny_builtinsFor hM6.ns hM6.name hM6.ne hM6.obj hM6.cls hM6.dict hM6.data ?_
      have hlt43 : 43 < s'.heap.objs.size := by obtain ⟨_, e, _⟩ := l43; exact Heap.lt_size e
      have X6 := B.X.keeps le6
      have hIt : h6.IsListIter s'.heap.objs.size 43 0 := ⟨_, hx6 _ _ (Nat.ne_of_gt V.tb.ltP) (Heap.get?_push_size _ rfl), rfl, rfl⟩
      have hcs : cStatics < s'.heap.objs.size := let ⟨_, hn, _⟩ := B.T.nolimit.keeps le; hn.lt
      refine ⟨s'.heap.objs.size, _, _, 6, _, _, _, fun _ => true, fun i y => y = .bool (decide ((sgl.getD i (0, 0)).1 ≤ ((x.cps.getD j 0 : Nat) : Int)) && decide (((x.cps.getD j 0 : Nat) : Int) ≤ (sgl.getD i (0, 0)).2)), rfl,
        fun A'' hA'' => WalksU.listOfTuples hA'' s'.heap.objs.size 43 (Nat.ne_of_lt hlt43) rangesL.toArray (fun j => 37 + j) rv ?hit ?hTI, fun i vals e => ⟨_, _, e⟩,
        ⟨hIt, lstK X6 rfl, fun k hk => rangesAt X6 k hk⟩, ?hfp, B.T.nolimit.keeps le6, ?hcs, fun href hr => ?hq, ?rest⟩
      case hit =>
        intro i hi
        have hi' : i < 6 := hi
        have : i = 0 ∨ i = 1 ∨ i = 2 ∨ i = 3 ∨ i = 4 ∨ i = 5 := by omega
        rcases this with rfl | rfl | rfl | rfl | rfl | rfl <;> rfl
      case hTI =>
        intro i hi
        have hi' : i < 6 := hi
        exact Nat.ne_of_lt (by omega)
      case hfp =>
        intro b hb'
        rcases List.mem_cons.mp hb' with rfl | hb'
        · exact hs6'
        · rcases List.mem_cons.mp hb' with rfl | hb'
          · exact Nat.lt_of_lt_of_le hlt43 (Nat.le_of_succ_le hs6')
          · obtain ⟨i, hi, rfl⟩ := List.mem_map.mp hb'
            have hi' : i < 6 := List.mem_range.mp hi
            show 37 + i < h6.objs.size
            omega
      case hcs => exact fun hm => absurd (List.mem_singleton.mp hm) (Nat.ne_of_lt hcs)
      case hq =>
        constructor
        · intro A2 E2 i va vb s2 m2 _ _ _ _ _ _ _ _
          exact wpAny_tests_nil ⟨rfl, ⟨s2.heap, s2.toks, rfl, fun _ _ e => e⟩⟩
        · intro A2 E2 i va vb s2 m2 hh2 hd2 hu2 hPt _ hn ha hb2 hkp
          have hPt' : #[va, vb] = rv i := hPt
          injection hPt' with hPt'
          injection hPt' with q1 hPt'
          injection hPt' with q2 _
          subst q1 q2
          have keep2 : ∀ b o, b ≠ s'.heap.objs.size → h6.get? b = some o → s2.heap.get? b = some o := fun b o q e => hkp b (List.mem_range.mpr (Heap.lt_size e)) (fun hm => q (List.mem_singleton.mp hm)) o (hr _ _ e)
          have le2 : ∀ b o, h₀.get? b = some o → s2.heap.get? b = some o := fun b o e => keep2 b o (Nat.ne_of_lt (Heap.lt_size (le b o e))) (le6 b o e)
          have cell2 : s2.heap.IsCell (h₃.objs.size + 1) (some (.str ⟨#[x.cps.getD j 0]⟩ t')) := by
            obtain ⟨o, e, r⟩ := hcell
            exact ⟨o, keep2 _ _ (Nat.ne_of_lt (Heap.lt_size e)) (k6 _ _ (Ne.symm dPC) e), r⟩
          refine Compare_chain (ldG hn ha ?_)
          refine chain_link ?_
          refine Call_ (nm_B B.X B.T le2 (by k_is) boot_ord (by decide) ?_ rfl rfl rfl rfl)
          refine callWith_builtin1 (args_cons (wpAny_Name (wpAny_loadName_free rfl rfl rfl cell2 (args_nil ?_)))) 
          refine P.ord_of_char ?_
          refine le_int ?_
          refine wpAny_truthy_bool ?_
          cases hq1 : decide ((sgl.getD i (0, 0)).1 ≤ ((x.cps.getD j 0 : Nat) : Int)) with
          | false =>
            simp only [Bool.false_eq_true, if_false]
            exact ⟨by rw [Bool.false_and], _, _, rfl, fun _ _ e => e⟩
          | true =>
            simp only [if_true]
            refine chain_last (ldG hn hb2 ?_)
            refine le_int ?_
            exact ⟨by rw [Bool.true_and], _, _, rfl, fun _ _ e => e⟩
      case rest =>
        intro a2 h7 tk7 gs hgb hag hsz7 hk7 W2 hat
        refine args_nil ?_
        have hpass : passing (fun _ => true) 6 0 = List.range 6 := rfl
        refine call_any_walkS ((W2.in4_1).self 0 _ _ _ hat ⟨a2, _, _, _, _, _, _, fun i => decide ((sgl.getD i (0, 0)).1 ≤ ((x.cps.getD j 0 : Nat) : Int)) && decide (((x.cps.getD j 0 : Nat) : Int) ≤ (sgl.getD i (0, 0)).2), rfl, W2.in4_1, hat, ?_, fun s9 hm => ?_⟩)
        · rintro i v s2 Q2 E2 ⟨k, hk, rfl⟩ hQ2
          rw [hpass] at hk
          have hik : k = i := by
            obtain ⟨h1, h2⟩ := List.getElem?_eq_some_iff.mp hk
            simpa using h2.symm
          subst hik
          exact wpAny_truthy_bool hQ2
        · rw [hpass, List.length_range, plain_any]
          have hk9 : ∀ b o, b < s'.heap.objs.size → h6.get? b = some o → s9.heap.get? b = some o := fun b o q e => by
            refine hm.heap b o (fun hm' => ?_) (hk7 _ _ e)
            rcases List.mem_cons.mp hm' with q1 | hm'
            · have : h6.objs.size ≤ b := Nat.le_of_eq q1.symm
              exact absurd (Nat.lt_of_lt_of_le q (Nat.le_trans (Nat.le_of_succ_le hs6') this)) (Nat.lt_irrefl _)
            · have := List.mem_singleton.mp hm'
              exact absurd q (by rw [this]; exact Nat.lt_irrefl _)
          have hkV : ∀ b o, b ≠ P1 → s'.heap.get? b = some o → s9.heap.get? b = some o := fun b o q e => hk9 b o (Heap.lt_size e) (k6 b o q e)
          refine hQ s9 ⟨V.inner hkV daP d45P d76P (tb6.at (fun o e => hk9 _ _ V.tb.ltc e) (fun o e => hk9 _ _ V.tb.ltP e)) ?_ ((V.bare.push hgb).moved hm.gens) hm.os o76, fun _ => ?_, some (.str ⟨#[x.cps.getD j 0]⟩ t'), ?_⟩
          · rw [genOnlyQ_size hm.gens]
            show s.gens.size < (s'.gens.push gs).size
            rw [Array.size_push]; exact Nat.lt_succ_of_lt V.lt
          · refine (W callerA rfl).frame _ _ _ hst fun b hb' o e => hkV _ _ (fun q => ?_) e
            have hb2 : b = h₁.objs.size := by simpa using hb'
            exact hdI.1 (q.symm.trans hb2)
          · obtain ⟨o, e, r⟩ := hcell
            exact ⟨o, hkV _ _ (Ne.symm dPC) e, r⟩
end Mine
end

/-! Ent -/
section
open PySem PySem.W PySem.Spec PySem.Calls PyProof.Rows
namespace Mine
section
variable {prog : Program} {w : World} {A : Around} {s : Shared} {K : Frag} {p : Program} {loose : List Str} {mean : ExcName → Option Value} {mg mb : Str → Option Value}

/-- entering a def, with or without cells, over a base of one's own -/
theorem enter_G {R : Result → Shared → Prop} {name qual : Str} {params : Arguments} {body : List Stmt} {scope : Scope} {dV kV doc pm cdv ct oc : Value} {an od : Option Addr} {osl : Array (Option Value)} {f : Addr} {args : Args} {binds : List (Str × Value)}
    (g : Heap) {led : List (Addr × Obj)} (hsz : g.objs.size = s.heap.objs.size) (le : ∀ b o, g.get? b = some o → s.heap.get? b = some o) (hled : ∀ p ∈ led, s.heap.get? p.1 = some p.2 ∧ g.get? p.1 = none)
    (X : K.In g) (T : Top p loose mean mg mb g)
    (ho : K.lookup f = some ⟨oc, od, .func (fnOf name qual params body scope dV kV doc pm an cdv ct), osl⟩) (hcd : codeIn K cdv qual = true) (hroom : A.depth < recursionLimit)
    (hbind : BindsTo s (fnOf name qual params body scope dV kV doc pm an cdv ct) args binds) (hkind : (binds.all fun y => scope.names.lookup y.1 == some .local || scope.names.lookup y.1 == some .cell) = true)
    (hnd : ((cellsFrom 0 scope.names []).map (·.1)).Nodup)
    (h : ∀ L' h₁ tk cells, Fr g L' h₁ (bindL (envOfC qual scope L' f cdv).kindOf binds fun _ => none) → News g L' h₁ (cells ++ led) →
      CellsAre (bindC (envOfC qual scope L' f cdv).kindOf binds fun _ => none) (cellsFrom (L' + 1) scope.names []) cells → (∀ b o, s.heap.get? b = some o → h₁.get? b = some o) →
      wpAny (model prog w) (A.deeper (envOfC qual scope L' f cdv)) (execs body (envOfC qual scope L' f cdv))
        (fun fl s' => R (.ok (.ret (match fl with | .ret v => v | _ => .none))) s') (fun _ _ => False)
        { s with heap := h₁, toks := tk })
    (hco : scope.isCoroutine = false) (hgen : scope.isGenerator = false) (hk : scope.kind = .function) : codeAny (model prog w) A (.call (.ref f) args) R s := by
  refine codeAny_call_function (fd := fnOf name qual params body scope dV kV doc pm an cdv ct) hroom (X.keeps le _ _ ho) rfl hco hgen rfl (codeRec_of (X.keeps le) hcd) (hbind _ _ _ _ ?_)
  refine wpAny_newFunctionEnv_cells hk (kindsX hkind _) fun env' he s' x => ?_
  subst he
  refine ⟨(T.nolimit.keeps le).keeps x.toInCall.keep, codeAny_func ?_⟩
  obtain ⟨h₁, tk, rfl, _⟩ := x.done
  have hk₁ := x.toInCall.keep
  obtain ⟨cells, NC, Y⟩ := Cl.news (h₀ := s.heap) (Nat.le_refl _) fun n c hm => ⟨x.cell n c (lookup_of_mem_nodup (cellsFrom_names scope.names 0 (s.heap.objs.size + 1) [] [] rfl ▸ hnd) hm), x.above n c hm⟩
  refine wpAny_mono (h s.heap.objs.size h₁ tk cells ⟨x.toInCall.ns, fun b o e => hk₁ b o (le b o e), Nat.le_of_eq hsz⟩ (fun p hp => ?_) Y hk₁) (fun fl s' hl => hl) fun _ _ y => y.elim
  rcases List.mem_append.mp hp with hp | hp
  · refine ⟨(NC p hp).1, (NC p hp).2.1, ?_⟩
    cases q : g.get? p.1 with
    | none => rfl
    | some o => have := le _ _ q; rw [(NC p hp).2.2] at this; cases this
  · exact ⟨hk₁ _ _ (hled p hp).1, Nat.ne_of_lt (Heap.lt_size (hled p hp).1), (hled p hp).2⟩

theorem tabS_led0 {N : Nat} {g h : Heap} (le : ∀ b o, g.get? b = some o → h.get? b = some o) (nm : NoMut N g) (T : Top p loose mean mg mb h) (h49 : CodeHd g 49 45) (h80 : CodeHd g 80 76) (TS : TabS N h) :
    ∃ led, (∀ p ∈ led, h.get? p.1 = some p.2 ∧ g.get? p.1 = none) ∧ TabLed N g led := by
  obtain ⟨led, h1, h2⟩ := tabS_led (L := builtinsNs) (m := mb) le nm T.b h49 h80 TS
  exact ⟨led, fun p hp => ⟨(h1 p hp).1, (h1 p hp).2.2⟩, h2⟩

theorem codeHd_untab {N : Nat} {h : Heap} {c P : Addr} (x : CodeHd h c P) : CodeHd (untab N h) c P :=
  codeHd_at x fun _ e m => untab_get e (mutB_cls m)

/-- what holds in a frame over `untab` -/
structure InU (N : Nat) (K : Frag) (p : Program) (loose : List Str) (mean : ExcName → Option Value) (mg mb : Str → Option Value) (g : Heap) : Prop where
  X : K.In g
  T : Top p loose mean mg mb g
  nm : NoMut N g
  h49 : CodeHd g 49 45
  h80 : CodeHd g 80 76
  sz : N ≤ g.objs.size
  lt : 76 < N

/-- entering over `untab` -/
theorem enter_U {N : Nat} {h₀ : Heap} {R : Result → Shared → Prop} {name qual : Str} {params : Arguments} {body : List Stmt} {scope : Scope} {dV kV doc pm cdv ct oc : Value} {an od : Option Addr} {osl : Array (Option Value)} {f : Addr} {args : Args} {binds : List (Str × Value)}
    (B : BaseOk N K p loose mean mg mb h₀ s.heap) (TS : TabS N s.heap) (h76 : 76 < N) (hN : N ≤ s.heap.objs.size)
    (ho : K.lookup f = some ⟨oc, od, .func (fnOf name qual params body scope dV kV doc pm an cdv ct), osl⟩) (hcd : codeIn K cdv qual = true) (hroom : A.depth < recursionLimit)
    (hbind : BindsTo s (fnOf name qual params body scope dV kV doc pm an cdv ct) args binds) (hkind : (binds.all fun y => scope.names.lookup y.1 == some .local || scope.names.lookup y.1 == some .cell) = true)
    (hnd : ((cellsFrom 0 scope.names []).map (·.1)).Nodup)
    (h : ∀ g L' h₁ tk cells led, Fr g L' h₁ (bindL (envOfC qual scope L' f cdv).kindOf binds fun _ => none) → News g L' h₁ (cells ++ led) →
      CellsAre (bindC (envOfC qual scope L' f cdv).kindOf binds fun _ => none) (cellsFrom (L' + 1) scope.names []) cells → TabLed N g led → InU N K p loose mean mg mb g →
      (∀ (L : Addr) (h' : Heap) m, Fr g L h' m → KeepT N s.heap h') →
      K.In g → Top p loose mean mg mb g →
      wpAny (model prog w) (A.deeper (envOfC qual scope L' f cdv)) (execs body (envOfC qual scope L' f cdv))
        (fun fl s' => R (.ok (.ret (match fl with | .ret v => v | _ => .none))) s') (fun _ _ => False)
        { s with heap := h₁, toks := tk })
    (hco : scope.isCoroutine = false) (hgen : scope.isGenerator = false) (hk : scope.kind = .function) : codeAny (model prog w) A (.call (.ref f) args) R s := by
  have B2 := B.untab
  have T : Top p loose mean mg mb s.heap := B.T.keeps B.le
  obtain ⟨led, hl, TL⟩ := tabS_led0 B2.le B2.nm T (codeHd_untab TS.1.1) (codeHd_untab TS.2.1) TS
  refine enter_G (untab N s.heap) (untab_size N s.heap) B2.le hl B2.X B2.T ho hcd hroom hbind hkind hnd (fun L' h₁ tk cells F' N' Y hk₁ => ?_) hco hgen hk
  exact h _ L' h₁ tk cells led F' N' Y TL ⟨B2.X, B2.T, B2.nm, codeHd_untab TS.1.1, codeHd_untab TS.2.1, by rw [untab_size]; exact hN, h76⟩ (fun L h' m F b o e mm => F.keep b o (untab_get e mm)) B2.X B2.T

/-- a call that may make inner code, seen from a frame -/
theorem gen_use {N d u : Nat} {g : Heap} {L f : Addr} {m : Str → Option Value} {own led all : List (Addr × Obj)} {args : List Value} {R : Value → Prop} {Q E : Value → Shared → Prop}
    (C : GenC prog w K f d u args R) (U : InU N K p loose mean mg mb g) (F : Fr g L s.heap m) (N₁ : News g L s.heap all) (TL : TabLed N g led) (hall : all = own ++ led)
    (hown : ∀ p ∈ own, mutB N p.1 p.2 = false) (hA : A.handled = none) (hd : A.depth + d < recursionLimit) (hu : A.units + u < cLine) (hb : AllBare s.gens)
    (k : ∀ v s' led', Fr g L s'.heap m → News g L s'.heap (own ++ led') → TabLed N g led' → AllBare s'.gens → s'.os = s.os → R v → Q v s') :
    wpAny (model prog w) A (call (.ref f) args) Q E s := by
  subst hall
  have TS : TabS N s.heap := TL _ F.keep fun p hp => (N₁ p (List.mem_append_right _ hp)).1
  refine C N p loose mean mg mb g A s Q E hA hd hu ⟨U.X, U.T, U.nm, F.keep⟩ TS U.lt (Nat.le_trans U.sz (Nat.le_trans F.above (Nat.le_of_lt F.ns.lt))) hb fun v s' hk TS' hb' hos r => ?_
  have F' := fr_keepT F U.nm hk
  obtain ⟨led', NL, TL'⟩ := tabS_led F'.keep U.nm F'.ns U.h49 U.h80 TS'
  have N2 : News g L s'.heap own := news_keepT (fun p hp => N₁ p (List.mem_append_left _ hp)) hown hk
  exact k v s' led' F' (fun p hp => (List.mem_append.mp hp).elim (N2 p) (NL p)) TL' hb' hos r
theorem tabLed_done {N : Nat} {g : Heap} {L : Addr} {h : Heap} {m : Str → Option Value} {led all : List (Addr × Obj)} (TL : TabLed N g led) (F : Fr g L h m) (N₁ : News g L h all) (hs : ∀ p ∈ led, p ∈ all) : TabS N h :=
  TL _ F.keep fun p hp => (N₁ p (hs p hp)).1
end
end Mine
end

/-! CCell -/
section
open PySem PySem.W PySem.Spec PySem.Calls PyProof.Rows
namespace Mine
/-- the sum of a text's signs -/
def lsum (x : Str) : Int := (x.cps.toList.map fun c : Nat => lawSize (c : Int)).sum
theorem lsum_plain {x : Str} (h : (x.cps.toList.all fun c => lawPlain c) = true) : lsum x = (x.cps.size : Int) := by
  unfold lsum
  rw [← Array.length_toList]
  generalize x.cps.toList = l at h
  induction l with
  | nil => rfl
  | cons c l ih =>
    simp only [List.all_cons, Bool.and_eq_true] at h
    simp only [List.map_cons, List.sum_cons, List.length_cons, ih h.2, law_one h.1]
    omega
/-- the texts that the law asks for -/
def CellOk (x : Str) : Prop := (∀ c ∈ x.cps.toList, c ≠ 8205 ∧ c ≠ 65039) ∨ x = ⟨#[8205]⟩ ∨ x = ⟨#[65039]⟩
theorem lsum_none {x : Str} (h : x = ⟨#[8205]⟩ ∨ x = ⟨#[65039]⟩) : lsum x = 0 := by
  rcases h with rfl | rfl <;> rfl
theorem pre_lsum (x : Str) : preSum (fun i => lawSize ((x.cps.getD i 0 : Nat) : Int)) x.cps.size = lsum x := by
  have h := preSum_getD (x.cps.toList.map fun c : Nat => lawSize (c : Int)) x.cps.size
  rw [List.take_of_length_le (by simp)] at h
  unfold lsum
  rw [← h]
  have : ∀ k, k ≤ x.cps.size → preSum (fun i => lawSize ((x.cps.getD i 0 : Nat) : Int)) k = preSum (fun i => (x.cps.toList.map fun c : Nat => lawSize (c : Int)).getD i 0) k := by
    intro k
    induction k with
    | zero => intro _; rfl
    | succ k ih =>
      intro hk
      have hk' : k < x.cps.size := hk
      simp only [preSum, ih (Nat.le_of_succ_le hk)]
      congr 1
      simp [Array.getD, List.getD_eq_getElem?_getD, hk']
  exact this _ (Nat.le_refl _)
theorem tabCell_code {prog : Program} {w : World} {A : Around} {s : Shared} {env : Env} {E : Value → Shared → Prop} {Q : Value → Shared → Prop} {q : Str} {scope : Scope} {pos : Pos} (hc : env.code = .ref 80) (h1 : pos.line = 41) (h2 : pos.col = 19) (T : TabCell s.heap)
    (hQ : ∀ c1 h' tk, Heap.ExtBut 76 s.heap h' → s.heap.objs.size ≤ h'.objs.size → h'.get? 76 = some (tabObj #[rawInt 41, rawInt 19, .ref c1]) → Q (.ref c1) { s with heap := h', toks := tk }) :
    wpAny (model prog w) A (genexprCode env pos q scope) Q E s := by
  obtain ⟨hd, ht | ⟨c1, ht⟩⟩ := T
  · refine wpAny_genexprCodeX hc (hd.code ht trivial) (hd.tab ht) rfl fun c' h' tk hx hge hlt hcode _ htab _ => ?_
    have e : (#[] ++ #[rawInt pos.line, rawInt pos.col, Value.ref c'] : Array Value) = #[rawInt 41, rawInt 19, .ref c'] := by rw [h1, h2]; rfl
    rw [e] at htab
    exact hQ c' h' tk hx (Nat.le_trans hge (Nat.le_of_lt hlt)) htab.2
  · refine wpAny_genexprCode_hit hc (hd.code ht (by simp [TriplesOk, rawInt])) (c' := .ref c1) (by simp [codeAmong, rawInt, h1, h2]) ?_
    exact hQ c1 s.heap s.toks (Heap.ExtBut.refl _ _) (Nat.le_refl _) ht
theorem pass_all (n : Nat) : passing (fun _ => true) n 0 = List.range n := by
  unfold passing
  simp
theorem codeHd_ne {h : Heap} {c P b : Addr} {ps} (x : CodeHd h c P) (e : h.get? b = some (tabObj ps)) : c ≠ b := fun q => by
  obtain ⟨o, _, _, _, _, _, _, _, _, e2, ec, _⟩ := x
  rw [q, e] at e2; cases e2; cases ec
/-- only the table 76 was turned -/
theorem tabS_76 {N : Nat} {h h' : Heap} {c1 : Addr} (TS : TabS N h) (h76 : 76 < N) (hk : ∀ b o, b ≠ 76 → h.get? b = some o → h'.get? b = some o) (e : h'.get? 76 = some (tabObj #[rawInt 41, rawInt 19, .ref c1])) : TabS N h' ∧ KeepT N h h' := by
  obtain ⟨ps, e0⟩ : ∃ ps, h.get? 76 = some (tabObj ps) := TS.2.2.elim (fun e => ⟨_, e⟩) fun ⟨_, e⟩ => ⟨_, e⟩
  have cd : ∀ {c P}, CodeHd h c P → CodeHd h' c P := fun x => codeHd_at x fun o eo _ => hk _ _ (codeHd_ne x e0) eo
  refine ⟨⟨⟨cd TS.1.1, TS.1.2.imp (hk _ _ (by decide)) fun ⟨c, P, e1, b⟩ => ⟨c, P, hk _ _ (by decide) e1, cd b.1, b.2.1, let ⟨ps, ep, r⟩ := b.2.2; ⟨ps, hk _ _ (Nat.ne_of_gt (Nat.lt_of_lt_of_le h76 b.2.1)) ep, r⟩⟩⟩, cd TS.2.1, .inr ⟨c1, e⟩⟩, fun b o eo m => hk b o (fun q => ?_) eo⟩
  · rw [q, e0] at eo; cases eo
    have : mutB N 76 (tabObj ps) = true := by
      show ((76 : Nat) == 45 || (76 : Nat) == 76 || decide (N ≤ 76)) = true
      simp
    rw [q] at m
    rw [this] at m; cases m
theorem mutB_cell {N : Nat} {b : Addr} {o : Obj} {v} (h : o.data = .cell v) : mutB N b o = false := by
  obtain ⟨c, d, dt, sl⟩ := o
  simp only at h; subst h
  unfold mutB
  cases c <;> rfl
local macro_rules | `(tactic| k_room) => `(tactic| ((try simp only [depth_under_make, depth_under_kw, depth_in1, depth_deeper, depth_caller]); (try dsimp only); omega))
local macro_rules | `(tactic| k_enter) => `(tactic| (refine' code_defF ?k2 ?k3 ?k4 ?k5 ?k6 ?k7 ?k8 ?k9 ?kB ?_ ?c2 ?c3 ?c4 ?c5; (case k2 => k_asm); (case k3 => k_asm); (case k4 => k_asm); (case k5 => k_asm); (case k6 => k_is); (case k7 => k_is); (case k8 => k_room); (case k9 => first | exact BindsTo.of_eq rfl | exact binds_K (by k_in) rfl (by k_is) rfl rfl rfl | fail "k_enter: no rule for these arguments"); (case c5 => decide); (case kB => exact locs rfl); (case c2 => exact rfl); (case c3 => exact rfl); (case c4 => exact rfl); k_whole; intro g' L' h' FG' F' N' X' T'; (try dsimp only); (try k_fold)))
local macro_rules | `(tactic| walk_at "call builtin:len") => `(tactic| ((with_reducible show wpAny _ _ (call (Value.builtin "len") [Value.str ⟨#[_]⟩ _]) _ _ _); refine len_str (by decide) ?_))
local macro_rules | `(tactic| walk_at "call ref cons nil") => `(tactic| (k_here; (with_reducible show wpAny _ _ (call (.ref 50) _) _ _ _); refine Stop.out ?_))
theorem c_cell (w : World) (x : Str) (hx : CellOk x) (hlen : x.cps.size < 1000) (t : Tok) (y : Str) (t2 : Tok) : GenC PySem.Challenge.rw_ff5020_01.row.prog w (hd.heap_39 w.params) 81 8 80 [.str x t, .str y t2] (fun v => ∃ t, v = .int (lsum x) t) := by
  k_fill
  intro N p loose mean mg mb h₀ A s Q E hA hdp hun B TS h76 hN hb hQ
  obtain ⟨_, dp, fr, gd, un⟩ := A
  subst hA
  dsimp only at hdp hun
  have X : (hd.heap_39 w.params).In s.heap := B.X.keeps B.le
  refine wpAny_call ?_
  k_dflt (refine' enter_U B TS h76 hN ?o ?c ?r ?b ?kd ?nd ?_ ?c2 ?c3 ?c4; (case o => k_is); (case c => k_is); (case r => (try dsimp only); omega); (case b => first | exact BindsTo.of_eq rfl | exact binds_K X rfl (by k_is) rfl rfl rfl); (case kd => exact rfl); (case nd => decide +kernel); (case c2 => exact rfl); (case c3 => exact rfl); (case c4 => exact rfl))
  intro g L' h₁ tk cells led F' N' Y TL U KT X' T'
  k_cells Y
  (try simp only [List.cons_append, List.nil_append] at N')
  (try dsimp only)
  (try k_fold)
  clear X
  with_reducible rename Obj => oc
  with_reducible rename (_ : Obj).data = _ => hoc
  replace F' : Fr g L' h₁ (fun y => if y = ("text" : Str) then some (.str x t) else none) := F'
  replace hoc : oc.data = .cell (some (.str y t2)) := hoc
  refine execs_drop 1 (fun s' => ∃ led', Fr g L' s'.heap (fun y => if y = ("text" : Str) then some (.str x t) else none) ∧ News g L' s'.heap ((L' + 1, oc) :: led') ∧ TabLed N g led' ∧ AllBare s'.gens ∧ s'.os = s.os) ?_ ?_
  · dsimp only [List.take]
    k_steps
    refine Stop.mk ?_
    refine gen_use (own := [(L' + 1, oc)]) (c_isw w x t) U F' N' TL rfl (fun p hp => by rw [List.mem_singleton.mp hp]; exact mutB_cell hoc) rfl (by simp only [depth_deeper]; omega) (by simp only [units_deeper]; omega) hb ?_
    clear F' N' TL hb led
    rintro v s' led F' N' TL hb hos rfl
    simp only [List.cons_append, List.nil_append] at N'
    k_steps
    · rename (_ : Bool) = true => hp
      refine len_str (by show ¬ (x.cps.size : Int) ≥ 2 ^ 63; omega) ?_
      refine hQ _ _ (KT _ _ _ F') (tabLed_done TL F' N' fun p hp => .tail _ hp) hb hos ⟨s'.toks + 1, ?_⟩
      rw [lsum_plain hp]; rfl
    · exact ⟨led, F', N', TL, hb, hos⟩
  · clear F' N' TL hb led
    rintro s' ⟨led, F', N', TL, hb, hos⟩
    dsimp only [List.drop]
    refine execs_drop 1 (fun s' => ∃ led', Fr g L' s'.heap (fun y => if y = ("text" : Str) then some (.str x t) else none) ∧ News g L' s'.heap ((L' + 1, oc) :: led') ∧ TabLed N g led' ∧ AllBare s'.gens ∧ s'.os = s.os ∧ (x = ⟨#[8205]⟩ ∨ x = ⟨#[65039]⟩)) ?_ ?_
    · dsimp only [List.take]
      have hc1 : (!(Builtin.Str.occurrences x "\u200d" 0 x.length 1).isEmpty) = decide (8205 ∈ x.cps.toList) := StrLaws.found_one x 8205
      have hc2 : (!(Builtin.Str.occurrences x "\ufe0f" 0 x.length 1).isEmpty) = decide (65039 ∈ x.cps.toList) := StrLaws.found_one x 65039
      k_steps
      · have TS1 : TabS N s'.heap := tabLed_done TL F' N' fun p hp => .tail _ hp
        have hNs : N ≤ s'.heap.objs.size := Nat.le_trans U.sz (Nat.le_trans F'.above (Nat.le_of_lt F'.ns.lt))
        have cell0 : s'.heap.IsCell (L' + 1) (some (.str y t2)) := ⟨oc, (N' _ (.head _)).1, hoc⟩
        have hdp2 : dp + 1 < recursionLimit := by omega
        refine wpAny_GeneratorExp_walksQD (cl := [("unicode_version", L' + 1)]) rfl rfl rfl (by decide) rfl rfl rfl (by simp only [depth_deeper]; exact hdp2) ?_ (fun _ => rfl)
        refine nameX_L F' rfl ?_
        refine wpAny_pyIter_str fun o St W hst => ?_
        refine ⟨(T'.nolimit.keeps F'.keep).keeps fun b o e => Heap.get?_push_of_some _ e, ?_⟩
        refine tabCell_code rfl rfl rfl (TS1.keeps fun b o e => Heap.get?_push_of_some _ e).2 fun c1 h₃ tk₃ hx3 hsz t76 => ?_
        rw [Heap.size_push] at hsz
        have hsz' : s'.heap.objs.size + 1 ≤ h₃.objs.size := hsz
        have k3 : ∀ b o, b ≠ 76 → s'.heap.get? b = some o → h₃.get? b = some o := fun b o q e => hx3 _ _ q (Heap.get?_push_of_some _ e)
        have g76 : ∀ o, g.get? 76 = some o → False := fun o e => by
          have e1 := F'.keep _ _ e
          obtain ⟨ps, e0⟩ : ∃ ps, s'.heap.get? 76 = some (tabObj ps) := TS1.2.2.elim (fun e => ⟨_, e⟩) fun ⟨_, e⟩ => ⟨_, e⟩
          rw [e0] at e1; cases e1
          have := U.nm _ _ e
          have : mutB N 76 (tabObj ps) = true := by
            show ((76 : Nat) == 45 || (76 : Nat) == 76 || decide (N ≤ 76)) = true
            simp
          simp_all
        have le3 : ∀ b o, g.get? b = some o → h₃.get? b = some o := fun b o e => k3 b o (fun q => g76 o (q ▸ e)) (F'.keep b o e)
        obtain ⟨bm, ob, hM⟩ := bmod_of_top T'
        have hM3 := hM.keeps le3
        refine wpAny_builtinsFor hM3.ns hM3.name hM3.ne hM3.obj hM3.cls hM3.dict hM3.data ?_
        have hcs : cStatics < s'.heap.objs.size := let ⟨_, hn, _⟩ := T'.nolimit.keeps F'.keep; hn.lt
        have cell3 : h₃.IsCell (L' + 1) (some (.str y t2)) := by
          obtain ⟨o, e, r⟩ := cell0
          refine ⟨o, k3 _ _ (fun q => ?_) e, r⟩
          obtain ⟨ps, e0⟩ : ∃ ps, s'.heap.get? 76 = some (tabObj ps) := TS1.2.2.elim (fun e => ⟨_, e⟩) fun ⟨_, e⟩ => ⟨_, e⟩
          rw [q, e0] at e; cases e; cases r
        refine ⟨s'.heap.objs.size, _, _, x.cps.size, _, _, fun _ => true, fun i v => ∃ t, v = .int (lawSize ((x.cps.getD i 0 : Nat) : Int)) t, rfl, W, ?hst, ?hfp, T'.nolimit.keeps le3, ?hcs, fun href hr => ?hq, ?rest⟩
        case hst =>
          refine (W callerA rfl).frame _ _ _ hst fun b hb' o e => hx3 _ _ (fun q => ?_) e
          have hb2 : b = s'.heap.objs.size := by simpa using hb'
          have : (76 : Nat) < s'.heap.objs.size := Nat.lt_of_lt_of_le h76 hNs
          exact Nat.ne_of_gt this (hb2.symm.trans q)
        case hfp =>
          intro b hb'
          have hb2 : b = s'.heap.objs.size := by simpa using hb'
          rw [hb2]; exact hsz'
        case hcs => exact fun hm => absurd (List.mem_singleton.mp hm) (Nat.ne_of_lt hcs)
        case hq =>
          constructor
          · intro A2 E2 i v s2 m2 _ _ _ _ _ _ _
            exact wpAny_tests_nil ⟨rfl, ⟨s2.heap, s2.toks, rfl, fun _ _ e => e⟩⟩
          · rintro ⟨_, dp', fr', gd', un'⟩ E2 i v s2 m2 hh2 hd2 hu2 ⟨c, u, hc1, rfl⟩ _ hn ha hkp
            subst hh2
            simp only [depth_deeper, units_deeper] at hd2 hu2
            (try dsimp only at hd2 hu2)
            have keep2 : ∀ b o, b ≠ s'.heap.objs.size → h₃.get? b = some o → s2.heap.get? b = some o := fun b o q e => hkp b (List.mem_range.mpr (Heap.lt_size e)) (fun hm => q (List.mem_singleton.mp hm)) o (hr _ _ e)
            have le2 : ∀ b o, g.get? b = some o → s2.heap.get? b = some o := fun b o e => keep2 b o (Nat.ne_of_lt (Heap.lt_size (F'.keep b o e))) (le3 b o e)
            have cell2 : s2.heap.IsCell (L' + 1) (some (.str y t2)) := by
              obtain ⟨o, e, r⟩ := cell3
              refine ⟨o, keep2 _ _ (Nat.ne_of_lt ?_) e, r⟩
              obtain ⟨o, e, r⟩ := cell0
              exact Heap.lt_size e
            have Xs := X'.keeps le2
            have Ts := T'.keeps le2
            refine Call_ (nm_G (v := .ref 58) X' T' le2 (by k_is) ?_ rfl rfl rfl)
            refine callWith_K Xs (by k_is) (args_cons (ldG hn ha (args_cons (wpAny_Name (wpAny_loadName_free rfl rfl rfl cell2 (args_nil ⟨Xs, ?_⟩))))))
            refine c_get w c y u t2 p loose mean mg mb _ s2 _ E2 rfl ?_ ?_ Xs Ts fun v h' tk' hk r => ?_
            · (try dsimp only); omega
            · (try dsimp only); omega
            · obtain ⟨t', rfl⟩ := r
              have : x.cps.getD i 0 = c := by rw [Array.getD_eq_getD_getElem?, hc1]; rfl
              exact ⟨⟨t', by rw [this]⟩, _, _, rfl, hk⟩
        case rest =>
          intro a h₅ tk₅ gs hgb hag hsz5 hk5 WS hat
          refine args_nil ?_
          refine call_sum_walkAnyS (WS.in4_1.self 0 _ _ _ hat ⟨a, _, _, _, _, _, _, fun i => lawSize ((x.cps.getD i 0 : Nat) : Int), rfl, WS.in4_1, hat, ?_, ?_, fun s₉ t' hm => ?_⟩)
          · intro b hb'
            show b < h₅.objs.size
            rw [hsz5]
            rcases List.mem_cons.mp hb' with rfl | hb'
            · exact Nat.lt_succ_self _
            · rcases List.mem_cons.mp hb' with rfl | hb'
              · exact Nat.lt_succ_of_lt hag
              · exact Nat.lt_succ_of_lt (Nat.lt_trans (List.mem_range.mp hb') hag)
          · rintro i v ⟨k, hk, t', rfl⟩
            rw [pass_all] at hk
            have hik : k = i := by
              obtain ⟨h1, h2⟩ := List.getElem?_eq_some_iff.mp hk
              simpa using h2.symm
            subst hik
            exact ⟨t', rfl⟩
          · have hk9 : ∀ b o, b < s'.heap.objs.size → h₃.get? b = some o → s₉.heap.get? b = some o := fun b o q e => by
              refine hm.heap b o (fun hm' => ?_) (hk5 _ _ e)
              rcases List.mem_cons.mp hm' with q1 | hm'
              · have : h₃.objs.size ≤ b := Nat.le_of_eq q1.symm
                exact absurd (Nat.lt_of_lt_of_le q (Nat.le_trans (Nat.le_of_succ_le hsz') this)) (Nat.lt_irrefl _)
              · have := List.mem_singleton.mp hm'
                exact absurd q (by rw [this]; exact Nat.lt_irrefl _)
            have h76s : (76 : Nat) < s'.heap.objs.size := Nat.lt_of_lt_of_le h76 hNs
            obtain ⟨TS9, K9⟩ := tabS_76 TS1 h76 (fun b o q e => hk9 b o (Heap.lt_size e) (k3 b o q e)) (hk9 _ _ h76s t76)
            show Q _ _
            refine hQ _ _ ((KT _ _ _ F').trans K9) TS9 ((hb.push hgb).moved hm.gens) (hm.os.trans hos) ⟨t', ?_⟩
            rw [pass_all, List.length_range, pre_lsum]
      all_goals
        refine ⟨led, F', N', TL, hb, hos, ?_⟩
        rcases hx with hx | hx
        · exfalso
          first
            | (rename (Builtin.Str.occurrences x _ 0 x.length 1).isEmpty = false => hq
               rw [hq] at hc2
               have := of_decide_eq_true hc2.symm
               exact (hx _ this).2 rfl)
            | (rename (Builtin.Str.occurrences x _ 0 x.length 1).isEmpty = false => hq
               rw [hq] at hc1
               have := of_decide_eq_true hc1.symm
               exact (hx _ this).1 rfl)
        · exact hx
    · clear F' N' TL hb led hos
      rintro s' ⟨led, F', N', TL, hb, hos, hx2⟩
      dsimp only [List.drop]
      rcases hx2 with rfl | rfl
      · k_steps
        with_reducible rename Fr _ _ _ _ => F
        with_reducible rename News _ _ _ _ => N₂
        show Q _ _
        exact hQ _ _ (KT _ _ _ F) (tabLed_done TL F N₂ fun p hp => by (repeat (first | exact hp | refine List.Mem.tail _ ?_))) hb hos ⟨_, by rw [lsum_none (.inl rfl)]⟩
      · k_steps
        with_reducible rename Fr _ _ _ _ => F
        with_reducible rename News _ _ _ _ => N₂
        show Q _ _
        exact hQ _ _ (KT _ _ _ F) (tabLed_done TL F N₂ fun p hp => by (repeat (first | exact hp | refine List.Mem.tail _ ?_))) hb hos ⟨_, by rw [lsum_none (.inr rfl)]⟩
end Mine
end

/-! CLen -/
section
open PySem PySem.W PySem.Spec PySem.Calls PyProof.Rows
namespace Mine
theorem len_ok {x : Str} (h : x.cps.size < 1000) : ¬ (x.length : Int) ≥ 2 ^ 63 := by
  show ¬ (x.cps.size : Int) ≥ 2 ^ 63
  omega
local macro_rules | `(tactic| k_room) => `(tactic| ((try simp only [depth_under_make, depth_under_kw, depth_in1, depth_deeper, depth_caller]); (try dsimp only); omega))
local macro_rules | `(tactic| walk_at "call ref") => `(tactic| (k_here; refine Stop.out ?_))
theorem c_cached (w : World) (x : Str) (hx : CellOk x) (hlen : x.cps.size < 1000) (t : Tok) (y : Str) (t2 : Tok) : GenC PySem.Challenge.rw_ff5020_01.row.prog w (hd.heap_39 w.params) 66 9 90 [.str x t, .str y t2] (fun v => ∃ t, v = .int (lsum x) t) := by
  k_fill
  intro N p loose mean mg mb h₀ A s Q E hA hdp hun B TS h76 hN hb hQ
  obtain ⟨_, dp, fr, gd, un⟩ := A
  subst hA
  dsimp only at hdp hun
  have X : (hd.heap_39 w.params).In s.heap := B.X.keeps B.le
  refine wpAny_call ?_
  k_dflt (refine' enter_U B TS h76 hN ?o ?c ?r ?b ?kd ?nd ?_ ?c2 ?c3 ?c4; (case o => k_is); (case c => k_is); (case r => (try dsimp only); omega); (case b => first | exact BindsTo.of_eq rfl | exact binds_K X rfl (by k_is) rfl rfl rfl); (case kd => exact rfl); (case nd => decide +kernel); (case c2 => exact rfl); (case c3 => exact rfl); (case c4 => exact rfl))
  intro g L' h₁ tk cells led F' N' Y TL U KT X' T'
  cases Y
  (try simp only [List.cons_append, List.nil_append] at N')
  (try dsimp only)
  (try k_fold)
  clear X
  replace F' : Fr g L' h₁ (fun y' => if y' = ("unicode_version" : Str) then some (.str y t2) else if y' = ("text" : Str) then some (.str x t) else none) := F'
  k_steps
  refine Stop.mk ?_
  refine gen_use (own := []) (c_cell w x hx hlen t y t2) U F' N' TL rfl (fun p hp => by cases hp) rfl (by simp only [depth_deeper]; omega) (by simp only [units_deeper]; omega) hb ?_
  clear F' N' TL hb led
  rintro v s' led F' N' TL hb hos ⟨t', rfl⟩
  simp only [List.nil_append] at N'
  show Q _ _
  exact hQ _ _ (KT _ _ _ F') (tabLed_done TL F' N' fun p hp => hp) hb hos ⟨_, rfl⟩
theorem c_cached1 (w : World) (x : Str) (hx : CellOk x) (hlen : x.cps.size < 1000) (t : Tok) : GenC PySem.Challenge.rw_ff5020_01.row.prog w (hd.heap_39 w.params) 66 9 90 [.str x t] (fun v => ∃ t, v = .int (lsum x) t) := by
  k_fill
  intro N p loose mean mg mb h₀ A s Q E hA hdp hun B TS h76 hN hb hQ
  obtain ⟨_, dp, fr, gd, un⟩ := A
  subst hA
  dsimp only at hdp hun
  have X : (hd.heap_39 w.params).In s.heap := B.X.keeps B.le
  refine wpAny_call ?_
  k_dflt (refine' enter_U B TS h76 hN ?o ?c ?r ?b ?kd ?nd ?_ ?c2 ?c3 ?c4; (case o => k_is); (case c => k_is); (case r => (try dsimp only); omega); (case b => first | exact BindsTo.of_eq rfl | exact binds_K X rfl (by k_is) rfl rfl rfl); (case kd => exact rfl); (case nd => decide +kernel); (case c2 => exact rfl); (case c3 => exact rfl); (case c4 => exact rfl))
  intro g L' h₁ tk cells led F' N' Y TL U KT X' T'
  cases Y
  (try simp only [List.cons_append, List.nil_append] at N')
  (try dsimp only)
  (try k_fold)
  clear X
  k_steps
  refine Stop.mk ?_
  refine gen_use (own := []) (c_cell w x hx hlen t _ _) U F' N' TL rfl (fun p hp => by cases hp) rfl (by simp only [depth_deeper]; omega) (by simp only [units_deeper]; omega) hb ?_
  clear F' N' TL hb led
  rintro v s' led F' N' TL hb hos ⟨t', rfl⟩
  simp only [List.nil_append] at N'
  show Q _ _
  exact hQ _ _ (KT _ _ _ F') (tabLed_done TL F' N' fun p hp => hp) hb hos ⟨_, rfl⟩
theorem c_clen (w : World) (x : Str) (hx : CellOk x) (hlen : x.cps.size < 1000) (t : Tok) : GenC PySem.Challenge.rw_ff5020_01.row.prog w (hd.heap_39 w.params) 74 10 100 [.str x t] (fun v => ∃ t, v = .int (lsum x) t) := by
  k_fill
  intro N p loose mean mg mb h₀ A s Q E hA hdp hun B TS h76 hN hb hQ
  obtain ⟨_, dp, fr, gd, un⟩ := A
  subst hA
  dsimp only at hdp hun
  have X : (hd.heap_39 w.params).In s.heap := B.X.keeps B.le
  refine wpAny_call ?_
  k_dflt (refine' enter_U B TS h76 hN ?o ?c ?r ?b ?kd ?nd ?_ ?c2 ?c3 ?c4; (case o => k_is); (case c => k_is); (case r => (try dsimp only); omega); (case b => first | exact BindsTo.of_eq rfl | exact binds_K X rfl (by k_is) rfl rfl rfl); (case kd => exact rfl); (case nd => decide +kernel); (case c2 => exact rfl); (case c3 => exact rfl); (case c4 => exact rfl))
  intro g L' h₁ tk cells led F' N' Y TL U KT X' T'
  cases Y
  (try simp only [List.cons_append, List.nil_append] at N')
  (try dsimp only)
  (try k_fold)
  clear X
  k_steps
  refine len_str (len_ok hlen) ?_
  k_steps
  · refine Stop.mk ?_
    refine gen_use (own := []) (c_cached w x hx hlen t _ _) U F' N' TL rfl (fun p hp => by cases hp) rfl (by simp only [depth_deeper]; omega) (by simp only [units_deeper]; omega) hb ?_
    clear F' N' TL hb led
    rintro v s' led F' N' TL hb hos ⟨t', rfl⟩
    simp only [List.nil_append] at N'
    show Q _ _
    exact hQ _ _ (KT _ _ _ F') (tabLed_done TL F' N' fun p hp => hp) hb hos ⟨_, rfl⟩
  · refine Stop.mk ?_
    refine gen_use (own := []) (c_cell w x hx hlen t _ _) U F' N' TL rfl (fun p hp => by cases hp) rfl (by simp only [depth_deeper]; omega) (by simp only [units_deeper]; omega) hb ?_
    clear F' N' TL hb led
    rintro v s' led F' N' TL hb hos ⟨t', rfl⟩
    simp only [List.nil_append] at N'
    show Q _ _
    exact hQ _ _ (KT _ _ _ F') (tabLed_done TL F' N' fun p hp => hp) hb hos ⟨_, rfl⟩
end Mine
end

/-! LC -/
section
open PySem PySem.W PySem.Spec PySem.Calls PyProof.Rows PyProof.Rows.LCg
namespace Mine
section
variable {prog : Program} {w : World} {A : Around} {E : Value → Shared → Prop} {s : Shared} {h₀ : Heap} {L : Addr} {m : Str → Option Value} {env : Env}
/-- a list comprehension of pairs with one test, over a list of the ledger -/
theorem lc_pair {elt iter c : PySem.Expr} {a b : Str} {pa pb tp : Pos} {kk : Nat} {scope : Scope} {cl : List (Str × Addr)} {pos : Pos} {Q : Value → Shared → Prop}
    (hh : A.handled = none) (hclos : closureFor scope env = pure cl) (hcell : ∀ y ∈ scope.names, y.2 ≠ .cell) (hkind : scope.kind = .function)
    (hnames : ∀ y ∈ scope.names, y.2 = .local → scope.names.lookup y.1 = some .local) (hxa : scope.names.lookup a = some .local) (hxb : scope.names.lookup b = some .local) (hab : ¬ a = b)
    (hit : wpAny (model prog w) A (eval iter env) (fun xv s₁ => ∃ (news : List (Addr × Obj)) (l : Addr) (vs : List Value) (c₀ : Nat) (pz : Nat → Bool), xv = .ref l ∧ vs.length ≤ sizeLine ∧ Fr h₀ L s₁.heap m ∧ News h₀ L s₁.heap news ∧ (l, listOf vs.toArray c₀) ∈ news ∧
      (∀ (i : Nat), i < vs.length → ∃ T va vb, vs[i]? = some (.ref T) ∧ (T, tup2 va vb) ∈ news) ∧
      (∀ i T va vb C h tk m₂ (E' : Value → Shared → Prop), vs[i]? = some (.ref T) → (T, tup2 va vb) ∈ news → Fr h₀ L h m → News h₀ L h news → h.Ns C m₂ → m₂ a = some va → m₂ b = some vb →
        wpAny (model prog w) A (isTrue c (compEnvC scope cl C env) (eval c (compEnvC scope cl C env))) (fun ok s₃ => ok = pz i ∧ Keeps { s₁ with heap := h, toks := tk } s₃) E' { s₁ with heap := h, toks := tk }) ∧
      (∀ C h tk m₂ va (E' : Value → Shared → Prop), Fr h₀ L h m → h.Ns C m₂ → m₂ a = some va →
        wpAny (model prog w) A (eval elt (compEnvC scope cl C env)) (fun _ s₃ => Keeps { s₁ with heap := h, toks := tk } s₃) E' { s₁ with heap := h, toks := tk }) ∧
      ∀ D ys h tk, Fr h₀ L h m → News h₀ L h ((D, lst ys) :: news) → (ys = [] ↔ ∀ j, j < vs.length → pz j = false) → Q (.ref D) { s₁ with heap := h, toks := tk }) E s)
    (hs : ∀ x, foldedSetIterable iter env x = pure x := by intro _; rfl) :
    wpAny (model prog w) A (eval (.ListComp elt [⟨.Tuple [.Name a pa, .Name b pb] kk tp, iter, [c], 0⟩] scope pos) env) Q E s := by
  rw [eval_ListComp]
  refine wpAny_comprehension_free (use := none) rfl hs hclos hkind hnames (wpAny_mono hit (fun xv s₁ h₁ => ?_) fun _ _ e => e)
  obtain ⟨news, l, vs, c₀, pz, rfl, hsz, F, N, hl, hrow, htest, helt, post⟩ := h₁
  have hls : s₁.heap.IsList l vs.toArray := ⟨_, (N _ hl).1, rfl, _, rfl⟩
  refine wpAny_pyIter_list hls ?_
  generalize hI : s₁.heap.objs.size = I
  have hlt : l < s₁.heap.objs.size := Heap.lt_size (N _ hl).1
  have hlI : l ≠ I := hI ▸ Nat.ne_of_lt hlt
  have hLt : L < s₁.heap.objs.size := F.ns.lt
  refine wpAny_newObj_type (wpAny_newFunctionEnv hcell (by intro y hy; simp at hy) (fun h₁ hns₁ hsb₁ => ?_) hkind)
  dsimp only at hns₁ hsb₁ ⊢
  generalize hHI : s₁.heap.push _ = HI at hns₁ hsb₁ ⊢
  have kHI : ∀ b o, s₁.heap.get? b = some o → HI.get? b = some o := fun b o e => by rw [← hHI]; exact Heap.get?_push_of_some _ e
  have szI : HI.objs.size = I + 1 := by rw [← hHI, Heap.size_push, hI]
  have itI : HI.IsListIter I l 0 := by rw [← hHI, ← hI]; exact ⟨_, Heap.get?_push_size _ rfl, rfl, rfl⟩
  generalize hD : HI.objs.size = D
  generalize hHD : HI.push _ = HD at hns₁ hsb₁ ⊢
  have kHD : ∀ b o, HI.get? b = some o → HD.get? b = some o := fun b o e => by rw [← hHD]; exact Heap.get?_push_of_some _ e
  have szD : HD.objs.size = D + 1 := by rw [← hHD, Heap.size_push, hD]
  have atD : HD.get? D = some (lst []) := by rw [← hHD, ← hD]; exact Heap.get?_push_size _ rfl
  generalize hC : HD.objs.size = C at hns₁ hsb₁ ⊢
  have hID : I ≠ D := by rw [← hD, szI]; exact Nat.ne_of_lt (Nat.lt_succ_self _)
  have hDC : D ≠ C := by rw [← hC, szD]; exact Nat.ne_of_lt (Nat.lt_succ_self _)
  have hIC : I ≠ C := by rw [← hC, szD, ← hD, szI]; exact Nat.ne_of_lt (Nat.lt_succ_of_lt (Nat.lt_succ_self _))
  have lowC : ∀ b, b < s₁.heap.objs.size → b ≠ I ∧ b ≠ D ∧ b ≠ C := fun b hb => by
    have hb' : (b : Nat) < I := hI ▸ hb
    refine ⟨Nat.ne_of_lt hb', ?_, ?_⟩
    · rw [← hD, szI]; exact Nat.ne_of_lt (Nat.lt_succ_of_lt hb')
    · rw [← hC, szD, ← hD, szI]; exact Nat.ne_of_lt (Nat.lt_succ_of_lt (Nat.lt_succ_of_lt hb'))
  have old : ∀ b o, s₁.heap.get? b = some o → h₁.get? b = some o := fun b o e => hsb₁.extBut b o (lowC b (Heap.lt_size e)).2.2 (Heap.get?_push_of_some _ (kHD _ _ (kHI _ _ e)))
  have hD₁ : h₁.get? D = some (lst []) := hsb₁.extBut _ _ hDC (Heap.get?_push_of_some _ atD)
  have hI₁ : h₁.IsListIter I l 0 := by
    obtain ⟨o, e, r⟩ := itI
    exact ⟨o, hsb₁.extBut _ _ hIC (Heap.get?_push_of_some _ (kHD _ _ e)), r⟩
  have g₀ : ∀ b, s₁.heap.objs.size ≤ b → h₀.get? b = none := fun b hb => by
    cases e : h₀.get? b with
    | none => rfl
    | some o => exact absurd (Heap.lt_size (F.keep b o e)) (Nat.not_lt.mpr hb)
  have hI₀ : h₀.get? I = none := g₀ _ (Nat.le_of_eq hI)
  have hD₀ : h₀.get? D = none := g₀ _ (by rw [← hD, szI, hI]; exact Nat.le_succ _)
  have hC₀ : h₀.get? C = none := g₀ _ (by rw [← hC, szD, ← hD, szI, hI]; exact Nat.le_succ_of_le (Nat.le_succ _))
  have hLL := lowC L hLt
  have hll := lowC l hlt
  have nN : ∀ p ∈ news, p.1 ≠ I ∧ p.1 ≠ D ∧ p.1 ≠ C := fun p hp => lowC _ (Heap.lt_size (N p hp).1)
  have W := Walks.list (prog := prog) (w := w) hh I l hlI vs.toArray
  have loop : ∀ s₃ : Shared, s₃ = { s₁ with heap := h₁, toks := s₁.toks + ([] : List (Str × Value)).length } →
      codeAny (model prog w) A (.compLoop (.ListComp elt [⟨.Tuple [.Name a pa, .Name b pb] kk tp, iter, [c], 0⟩] scope pos) 0 (.ref I) (.ref D) (compEnvC scope cl C env))
        (compPost (model prog w) A E none Q (.ref D) C) s₃ := by
    rintro s₃ rfl
    refine kct_loop (fun k s' => ∃ h' tk i ys m', s' = { s₁ with heap := h', toks := tk } ∧ i ≤ vs.length ∧ k = vs.length + 1 - i ∧ ys.length ≤ i ∧ (ys = [] ↔ ∀ j, j < i → pz j = false) ∧ h'.IsListIter I l i ∧ Fr h₀ L h' m ∧ h'.Ns C m' ∧ News h₀ L h' ((D, lst ys) :: news)) ?_ (vs.length + 1)
      ⟨h₁, _, 0, [], _, rfl, Nat.zero_le _, rfl, Nat.le_refl _, ⟨fun _ j hj => absurd hj (Nat.not_lt_zero _), fun _ => rfl⟩, hI₁, F.keeps old, hns₁, fun p hp => ?_⟩
    · rintro k s' ⟨h', tk, i, ys, m', rfl, hi, rfl, hyl, hys, hit', F', hn', N'⟩
      have hl' : h'.IsList l vs.toArray := ⟨_, (N' _ (.tail _ hl)).1, rfl, _, rfl⟩
      by_cases hlt' : i < vs.length
      · refine W.item i _ _ _ (by simpa using hlt') ⟨hit', hl'⟩ fun v h₂ tk₂ hP hst₂ hk₂ => ?_
        obtain ⟨T, va, vb, hv, hT⟩ := hrow i hlt'
        have hP' : vs[i]? = some v := by simpa using hP
        rw [hv] at hP'; cases hP'
        have up₂ : ∀ b o, b ≠ I → h'.get? b = some o → h₂.get? b = some o := fun b o q e => hk₂ b o (by simpa using q) e
        refine wpAny_letOwnedTupleGo_listiter hst₂.1 ?_
        have hT₂ : h₂.IsTuple T #[va, vb] := ⟨_, up₂ _ _ (nN _ hT).1 (N' _ (.tail _ hT)).1, rfl, _, rfl⟩
        refine kcp_assign (env := compEnvC scope cl C env) hh hT₂ (lookup_relabel_local hxa) (lookup_relabel_local hxb) (by simp [compEnvC, relabel, hkind]) (hn'.at' fun o e => up₂ _ o (Ne.symm hIC) e) fun h₄ tk₄ hn₄ hs₄ => ?_
        have up : ∀ b o, b ≠ I → b ≠ C → h'.get? b = some o → h₄.get? b = some o := fun b o h1 h2 e => hs₄ b o h2 (up₂ b o h1 e)
        have F₄ : Fr h₀ L h₄ m := ⟨F'.ns.at' fun o e => up _ o hLL.1 hLL.2.2 e, fun b o e => up b o (fun q => by rw [q, hI₀] at e; cases e) (fun q => by rw [q, hC₀] at e; cases e) (F'.keep b o e), F'.above⟩
        have N₄ : News h₀ L h₄ ((D, lst ys) :: news) := fun q hq => by
          refine ⟨up _ _ ?_ ?_ (N' q hq).1, (N' q hq).2⟩
          · rcases List.mem_cons.mp hq with rfl | hq
            · exact Ne.symm hID
            · exact (nN q hq).1
          · rcases List.mem_cons.mp hq with rfl | hq
            · exact hDC
            · exact (nN q hq).2.2
        have hI₄ : h₄.IsListIter I l (i + 1) := by
          obtain ⟨o, e, r⟩ := hst₂.1
          exact ⟨o, hs₄ _ _ hIC e, r⟩
        refine wpAny_mono (htest i T va vb C h₄ tk₄ _ _ hv hT F₄ (fun q hq => N₄ q (.tail _ hq)) hn₄ (by simp [hab]) (by simp)) (fun okb s₅ h₅ => ?_) fun _ _ e => e
        obtain ⟨rfl, h₅, tk₅, rfl, k₅⟩ := h₅
        have F₅ := F₄.keeps k₅
        have N₅ : News h₀ L h₅ ((D, lst ys) :: news) := fun q hq => ⟨k₅ _ _ (N₄ q hq).1, (N₄ q hq).2⟩
        have hn₅ := hn₄.keeps k₅
        have hI₅ : h₅.IsListIter I l (i + 1) := by
          obtain ⟨o, e, r⟩ := hI₄
          exact ⟨o, k₅ _ _ e, r⟩
        cases hp : pz i with
        | false =>
          simp only [Bool.false_eq_true, if_false]
          refine ⟨vs.length + 1 - (i + 1), by omega, h₅, tk₅, i + 1, ys, _, rfl, hlt', rfl, Nat.le_succ_of_le hyl, hys.trans ⟨fun x j hj => ?_, fun x j hj => x j (Nat.lt_succ_of_lt hj)⟩, hI₅, F₅, hn₅, N₅⟩
          rcases Nat.lt_or_eq_of_le (Nat.le_of_lt_succ hj) with q | q
          · exact x j q
          · rw [q]; exact hp
        | true =>
          simp only [if_true]
          refine wpAny_mono (helt C h₅ tk₅ _ va _ F₅ hn₅ (by simp [hab])) (fun y s₆ h₆ => ?_) fun _ _ e => e
          obtain ⟨h₆, tk₆, rfl, k₆⟩ := h₆
          have F₆ := F₅.keeps k₆
          have hn₆ := hn₅.keeps k₆
          have N₆ : News h₀ L h₆ ((D, lst ys) :: news) := fun q hq => ⟨k₆ _ _ (N₅ q hq).1, (N₅ q hq).2⟩
          refine append_at (hsz := by show ys.toArray.size ≤ sizeLine; rw [List.size_toArray]; exact Nat.le_trans hyl (Nat.le_trans hi hsz)) (N₆ _ (.head _)).1 fun h₇ hs₇ hD₇ => ?_
          refine ⟨vs.length + 1 - (i + 1), by omega, h₇, _, i + 1, ys ++ [y], _, rfl, hlt', rfl, by rw [List.length_append, List.length_singleton]; exact Nat.succ_le_succ hyl, ⟨fun x => by simp at x, fun x => ?_⟩, ?_, F₆.change hs₇ (Ne.symm hLL.2.1) hD₀, hn₆.sameBut hs₇ (Ne.symm hDC), fun q hq => ?_⟩
          · have := x i (Nat.lt_succ_self _)
            rw [hp] at this; cases this
          · obtain ⟨o, e, r⟩ := hI₅
            exact ⟨o, hs₇.extBut _ _ hID (k₆ _ _ e), r⟩
          · rcases List.mem_cons.mp hq with rfl | hq
            · exact ⟨hD₇.trans (congrArg some (lst_snoc ys y)), Ne.symm hLL.2.1, hD₀⟩
            · exact ⟨hs₇.extBut _ _ (nN q hq).2.1 (N₆ q (.tail _ hq)).1, (N₆ q (.tail _ hq)).2⟩
      · have hin : i = vs.length := Nat.le_antisymm hi (Nat.not_lt.mp hlt')
        subst hin
        refine W.done _ _ _ (by simpa using (⟨hit', hl'⟩ : h'.IsListIter I l vs.length ∧ h'.IsList l vs.toArray)) fun h₂ tk₂ hk₂ => ?_
        have up₂ : ∀ b o, b ≠ I → h'.get? b = some o → h₂.get? b = some o := fun b o q e => hk₂ b o (by simpa using q) e
        refine ⟨m', hn'.at' fun o e => up₂ _ o (Ne.symm hIC) e, fun h'' hs'' => ?_⟩
        refine post D ys h'' tk₂ ⟨F'.ns.at' fun o e => hs''.extBut _ _ hLL.2.2 (up₂ _ o hLL.1 e), fun b o e => hs''.extBut _ _ (fun q => by rw [q, hC₀] at e; cases e) (up₂ b o (fun q => by rw [q, hI₀] at e; cases e) (F'.keep b o e)), F'.above⟩ (fun q hq => ?_) hys
        refine ⟨hs''.extBut _ _ ?_ (up₂ _ _ ?_ (N' q hq).1), (N' q hq).2⟩
        · rcases List.mem_cons.mp hq with rfl | hq
          · exact hDC
          · exact (nN q hq).2.2
        · rcases List.mem_cons.mp hq with rfl | hq
          · exact Ne.symm hID
          · exact (nN q hq).1
    · rcases List.mem_cons.mp hp with rfl | hp
      · exact ⟨hD₁, Ne.symm hLL.2.1, hD₀⟩
      · exact ⟨old _ _ (N p hp).1, (N p hp).2⟩
  refine codeAny_compStart_list (loop _ rfl) (W.self 0 _ _ _ ⟨hI₁, ⟨_, old _ _ (N _ hl).1, rfl, _, rfl⟩⟩ (loop _ rfl))
end
end Mine
end

/-! CPlain -/
section
open PySem PySem.W PySem.Spec PySem.Calls PyProof.Rows PyProof.Rows.LCg
namespace Mine
local macro_rules | `(tactic| k_room) => `(tactic| ((try simp only [depth_under_make, depth_under_kw, depth_in1, depth_deeper, depth_caller]); (try dsimp only); omega))
local macro_rules | `(tactic| walk_at "eval ListComp") => `(tactic| (k_here; refine Stop.out ?_))
theorem RowsN2.get {news : List (Addr × Obj)} : ∀ {vs : List Value} {rs : List (Int × Int)}, RowsN2 news vs rs → ∀ {j : Nat} {r : Int × Int}, rs[j]? = some r →
    ∃ T ta tb, vs[j]? = some (.ref T) ∧ (T, tup2 (.int r.1 ta) (.int r.2 tb)) ∈ news
  | [], [], _, _, _, h => by simp at h
  | v :: vs, r :: rs, h, 0, r', e => by
    obtain ⟨⟨T, ta, tb, rfl, hm⟩, _⟩ := h
    simp at e; subst e
    exact ⟨T, ta, tb, rfl, hm⟩
  | v :: vs, r :: rs, h, j + 1, r', e => by
    obtain ⟨T, ta, tb, h1, h2⟩ := RowsN2.get h.2 (j := j) (r := r') (by simpa using e)
    exact ⟨T, ta, tb, by simpa using h1, h2⟩
theorem RowsN2.len {news : List (Addr × Obj)} : ∀ {vs : List Value} {rs : List (Int × Int)}, RowsN2 news vs rs → vs.length = rs.length
  | [], [], _ => rfl
  | _ :: _, _ :: _, h => by simp [RowsN2.len h.2]
def pzAt (n : Int) (j : Nat) : Bool := decide ((sgl.getD j (0, 0)).1 ≤ n) && decide (n ≤ (sgl.getD j (0, 0)).2)
theorem c_plain (w : World) (n : Int) (t : Tok) : PureC PySem.Challenge.rw_ff5020_01.row.prog w (hd.heap_39 w.params) 119 3 30 [.int n t] (fun _ v _ => v = .bool (lawPlain n)) := by
  k_fill
  intro p loose mean mg mb A s Q E hA hdp hun X T hQ
  obtain ⟨_, dp, fr, gd, un⟩ := A
  subst hA
  dsimp only at hdp hun
  refine wpAny_call ?_
  k_dflt (refine' enter_G s.heap (led := []) rfl (fun _ _ e => e) (fun p hp => by cases hp) X T ?o ?c ?r ?b ?kd ?nd ?_ ?c2 ?c3 ?c4; (case o => k_is); (case c => k_is); (case r => (try dsimp only); omega); (case b => first | exact BindsTo.of_eq rfl | exact binds_K X rfl (by k_is) rfl rfl rfl); (case kd => exact rfl); (case nd => decide +kernel); (case c2 => exact rfl); (case c3 => exact rfl); (case c4 => exact rfl))
  intro L' h₁ tk cells F' N' Y hk₁
  k_cells Y
  (try simp only [List.cons_append, List.nil_append] at N')
  (try dsimp only)
  (try k_fold)
  with_reducible rename Obj => oc
  with_reducible rename (_ : Obj).data = _ => hoc
  replace F' : Fr s.heap L' h₁ (fun y => none) := F'
  replace hoc : oc.data = .cell (some (.int n t)) := hoc
  k_steps
  refine Stop.mk ?_
  refine lc_pair (h₀ := s.heap) (L := L') (m := fun _ => none) (cl := [("number", L' + 1)]) rfl rfl (by decide) rfl (by decide) rfl rfl (by decide) ?_
  refine Call_ (nm_G (v := .ref 95) X T F'.keep (by k_is) ?_ rfl rfl rfl)
  refine callWith_K0 (X.keeps F'.keep) (by k_is) ?_
  refine pure_use (c_single w) F' X N' T rfl (by simp only [depth_deeper]; omega) (by simp only [units_deeper]; omega) ?_
  intro v h₂ tk₂ hF F₂ N₂ hR
  obtain ⟨l, vs, nw, rfl, hl, hr, hf⟩ := hR
  have N₃ := news_more F' N₂ hf
  have hlen : vs.length = 6 := hr.len
  refine ⟨_, l, vs, _, pzAt n, rfl, by rw [hlen]; size_fits, F₂, N₃, List.mem_append_left _ hl, fun i hi => ?_, ?_, ?_, ?_⟩
  · have hi' : i < sgl.length := by rw [hlen] at hi; exact hi
    obtain ⟨T, ta, tb, h1, h2⟩ := hr.get (List.getElem?_eq_getElem hi')
    exact ⟨T, _, _, h1, List.mem_append_left _ h2⟩
  · intro i T va vb C h tk m₂ E' hv hT Fh Nh hn ha hb2
    have hi : i < vs.length := (List.getElem?_eq_some_iff.mp hv).1
    have hi' : i < sgl.length := by rw [hlen] at hi; exact hi
    obtain ⟨T2, ta, tb, h1, h2⟩ := hr.get (List.getElem?_eq_getElem hi')
    rw [hv] at h1; cases h1
    have e1 := (Nh _ hT).1.symm.trans (Nh _ (List.mem_append_left _ h2)).1
    injection e1 with e1
    injection e1 with _ _ e1 _
    injection e1 with e1 _
    injection e1 with e1
    injection e1 with q1 e1
    injection e1 with q2 _
    subst q1 q2
    have hg : sgl[i] = sgl.getD i (0, 0) := by simp [List.getD_eq_getElem?_getD, hi']
    rw [hg] at ha hb2
    have cell2 : h.IsCell (L' + 1) (some (.int n t)) := ⟨oc, (Nh _ (List.mem_append_right _ (.head _))).1, hoc⟩
    refine isTrue_chain (ldG hn ha ?_)
    refine test_link ?_
    refine wpAny_Name (wpAny_loadName_cell rfl rfl rfl cell2 ?_)
    refine le_int ?_
    refine wpAny_truthy_bool ?_
    unfold pzAt
    cases hq1 : decide ((sgl.getD i (0, 0)).1 ≤ n) with
    | false =>
      simp only [Bool.false_eq_true, if_false]
      exact ⟨by rw [Bool.false_and], _, _, rfl, fun _ _ e => e⟩
    | true =>
      simp only [if_true]
      refine test_last (ldG hn hb2 ?_)
      refine le_int ?_
      refine wpAny_truthy_bool ?_
      exact ⟨by rw [Bool.true_and], _, _, rfl, fun _ _ e => e⟩
  · intro C h tk m₂ va E' Fh hn ha
    exact ldG hn ha ⟨_, _, rfl, fun _ _ e => e⟩
  · intro D ys h tk Fh Nh hys
    have hlp : lawPlain n = decide (ys ≠ []) := by
      rw [hlen] at hys
      rw [← plain_any n, Bool.eq_iff_iff, List.any_eq_true]
      constructor
      · rintro ⟨j, hj, hp⟩
        refine decide_eq_true fun q => ?_
        have := hys.mp q j (List.mem_range.mp hj)
        unfold pzAt at this
        rw [hp] at this; cases this
      · intro hq
        have hq := of_decide_eq_true hq
        by_cases hz : ∃ j, j < 6 ∧ pzAt n j = true
        · obtain ⟨j, hj, hp⟩ := hz
          exact ⟨j, List.mem_range.mpr hj, hp⟩
        · refine absurd (hys.mpr fun j hj => ?_) hq
          cases hp : pzAt n j with
          | false => rfl
          | true => exact absurd ⟨j, hj, hp⟩ hz
    clear F' N' F₂ N₂ N₃
    k_steps
    with_reducible rename Fr _ _ _ _ => F₅
    with_reducible rename News _ _ _ _ => N₅
    refine cmp_ofNotEq ?_
    have l2 := (N₅ _ (.head _)).1
    have l1 := (N₅ _ (.tail _ (.head _))).1
    cases ys with
    | nil => exact SeqAt.RcNeAt.lists (e := fun _ => true) ⟨_, l1, rfl, _, rfl⟩ ⟨_, l2, rfl, _, rfl⟩ rfl (by simp only [units_deeper]; omega) (fun j h1 h2 => absurd h1 (Nat.not_lt_zero _)) _ _ _ _ (hQ _ _ _ F₅.keep (by rw [hlp]; rfl))
    | cons y ys => exact SeqAt.RcNeAt.lists_lengths ⟨_, l1, rfl, _, rfl⟩ ⟨_, l2, rfl, _, rfl⟩ (by simp) (by simp only [units_deeper]; omega) _ _ _ _ (hQ _ _ _ F₅.keep (by rw [hlp]; simp))
end Mine
end

/-! CDraw -/
section
open PySem PySem.W PySem.Spec PySem.Calls PyProof.Rows PyProof.Rows.LCg
namespace Mine
local macro_rules | `(tactic| k_room) => `(tactic| ((try simp only [depth_under_make, depth_under_kw, depth_in1, depth_deeper, depth_caller]); (try dsimp only); omega))
/-- the state of the draws: a list of a list of ints and a place -/
structure DSt (h : Heap) (S L0 : Addr) : Prop where
  obj : ∃ (i : Nat) (t : Tok) (c : Nat), h.get? S = some (listOf #[.ref L0, .int i t] c)
  src : ∃ (vs : List Value) (ns : List Int) (c : Nat), h.get? L0 = some (listOf vs.toArray c) ∧ IntsAre vs ns ∧ ns.length < 1000
  ne : S ≠ L0
/-- a call that turns the state alone -/
def DrawC (prog : Program) (w : World) (K : Frag) (f : Addr) (d u : Nat) (S L0 : Addr) (args : List Value) (R : Value → Prop) : Prop :=
  ∀ (p : Program) (loose : List Str) (mean : ExcName → Option Value) (mg mb : Str → Option Value) (h₀ : Heap) (A : Around) (s : Shared) (Q E : Value → Shared → Prop),
    A.handled = none → A.depth + d < recursionLimit → A.units + u < cLine → K.In h₀ → Top p loose mean mg mb h₀ → (∀ b o, h₀.get? b = some o → s.heap.get? b = some o) → h₀.get? S = none → DSt s.heap S L0 →
    (∀ v h' tk', (∀ b o, b ≠ S → s.heap.get? b = some o → h'.get? b = some o) → DSt h' S L0 → R v → Q v { s with heap := h', toks := tk' }) →
    wpAny (model prog w) A (call (.ref f) args) Q E s
theorem c_draw (w : World) (S L0 : Addr) (many : Int) (hm : 0 < many) (t : Tok) : DrawC PySem.Challenge.rw_ff5020_01.row.prog w (hd.heap_39 w.params) 102 2 90 S L0 [.ref S, .int many t] (fun v => ∃ n t, v = .int n t ∧ 0 ≤ n ∧ n < many) := by
  k_fill
  intro p loose mean mg mb h₀ A s Q E hA hdp hun X T le hS DS hQ
  obtain ⟨_, dp, fr, gd, un⟩ := A
  subst hA
  dsimp only at hdp hun
  obtain ⟨⟨i, ti, ci, eS⟩, ⟨vs, ns, c0, eL, hi, hns⟩, hne⟩ := DS
  have nS : ∀ b o, h₀.get? b = some o → b ≠ S := fun b o e q => by rw [q, hS] at e; cases e
  have X1 : (hd.heap_39 w.params).In (hideAll s.heap [S]) := X.keeps fun b o e => hideAll_get _ (le b o e) (fun q => nS b o e (List.mem_singleton.mp q))
  have T1 : Top p loose mean mg mb (hideAll s.heap [S]) := T.keeps fun b o e => hideAll_get _ (le b o e) (fun q => nS b o e (List.mem_singleton.mp q))
  have Xs := X.keeps le
  refine wpAny_call ?_
  k_dflt (refine' enter_G (hideAll s.heap [S]) (led := [(S, listOf #[.ref L0, .int i ti] ci)]) (hideAll_size _ _) (fun _ _ e => of_hideAll _ e) (fun p hp => by rw [List.mem_singleton.mp hp]; exact ⟨eS, hideAll_none _ (.head _)⟩) X1 T1 ?o ?c ?r ?b ?kd ?nd ?_ ?c2 ?c3 ?c4; (case o => k_is); (case c => k_is); (case r => (try dsimp only); omega); (case b => first | exact BindsTo.of_eq rfl | exact binds_K Xs rfl (by k_is) rfl rfl rfl); (case kd => exact rfl); (case nd => decide +kernel); (case c2 => exact rfl); (case c3 => exact rfl); (case c4 => exact rfl))
  intro L' h₁ tk cells F' N' Y hk₁
  cases Y
  (try simp only [List.cons_append, List.nil_append] at N')
  (try dsimp only)
  (try k_fold)
  clear Xs X T
  have eL1 : (hideAll s.heap [S]).IsList L0 vs.toArray := ⟨_, hideAll_get _ eL (fun q => hne (List.mem_singleton.mp q).symm), rfl, _, rfl⟩
  k_steps
  all_goals with_reducible rename Fr _ _ _ _ => F
  all_goals with_reducible rename News _ _ _ _ => N
  · show Q _ _
    exact hQ _ _ _ (fun b o q e => F.keep b o (hideAll_get _ e (by simpa using q))) ⟨⟨i, _, _, (N _ (.head _)).1⟩, ⟨vs, ns, c0, F.keep _ _ (hideAll_get _ eL (by simpa using hne.symm)), hi, hns⟩, hne⟩ ⟨_, _, rfl, Int.le_refl _, hm⟩
  · show Q _ _
    exact hQ _ _ _ (fun b o q e => F.keep b o (hideAll_get _ e (by simpa using q))) ⟨⟨i + 1, _, _, (N _ (.head _)).1⟩, ⟨vs, ns, c0, F.keep _ _ (hideAll_get _ eL (by simpa using hne.symm)), hi, hns⟩, hne⟩ ⟨_, _, rfl, Int.fmod_nonneg_of_pos _ hm, Int.fmod_lt_of_pos _ hm⟩
end Mine
end

/-! CNum -/
section
open PySem PySem.W PySem.Spec PySem.Calls PyProof.Rows PyProof.Rows.LCg
namespace Mine
section
variable {prog : Program} {w : World} {A : Around} {s : Shared} {K : Frag} {p : Program} {loose : List Str} {mean : ExcName → Option Value} {mg mb : Str → Option Value} {h₀ : Heap} {L : Addr} {m : Str → Option Value} {news : List (Addr × Obj)}
/-- a call that turns the state, seen from a frame whose ledger holds the state at its head -/
theorem draw_use {d u : Nat} {f S L0 : Addr} {args : List Value} {R : Value → Prop} {Q E : Value → Shared → Prop} {oS : Obj} {rest : List (Addr × Obj)}
    (C : DrawC prog w K f d u S L0 args R) (F : Fr h₀ L s.heap m) (X₀ : K.In h₀) (N : News h₀ L s.heap news) (T : Top p loose mean mg mb h₀)
    (src : ∃ (vs : List Value) (ns : List Int) (c : Nat), h₀.get? L0 = some (listOf vs.toArray c) ∧ IntsAre vs ns ∧ ns.length < 1000) (hne : S ≠ L0) (hoS : ∃ (i : Nat) (t : Tok) (c : Nat), oS = listOf #[.ref L0, .int i t] c) (hmem : (S, oS) ∈ news) (hrest : ∀ q ∈ rest, q ∈ news ∧ q.1 ≠ S)
    (hA : A.handled = none) (hd : A.depth + d < recursionLimit) (hu : A.units + u < cLine)
    (k : ∀ v h' tk' oS', Fr h₀ L h' m → News h₀ L h' ((S, oS') :: rest) → (∃ (i : Nat) (t : Tok) (c : Nat), oS' = listOf #[.ref L0, .int i t] c) → R v → Q v { s with heap := h', toks := tk' }) :
    wpAny (model prog w) A (call (.ref f) args) Q E s :=
  C p loose mean mg mb h₀ A s Q E hA hd hu X₀ T F.keep (N _ hmem).2.2 ⟨let ⟨i, t, c, e⟩ := hoS; ⟨i, t, c, by rw [← e]; exact (N _ hmem).1⟩, let ⟨vs, ns, c, e, r⟩ := src; ⟨vs, ns, c, F.keep _ _ e, r⟩, hne⟩ fun v h' tk' hk DS' r => by
    obtain ⟨i, t, c, e⟩ := DS'.obj
    refine k v h' tk' (listOf #[.ref L0, .int i t] c) ⟨F.ns.at' fun o e => hk _ _ (Ne.symm (N _ hmem).2.1) e, fun b o e => hk b o (fun q => by rw [q, (N _ hmem).2.2] at e; cases e) (F.keep b o e), F.above⟩ (fun q hq => ?_) ⟨i, t, c, rfl⟩ r
    rcases List.mem_cons.mp hq with rfl | hq
    · exact ⟨e, (N _ hmem).2⟩
    · exact ⟨hk _ _ (hrest q hq).2 (N q (hrest q hq).1).1, (N q (hrest q hq).1).2⟩
end
local macro_rules | `(tactic| k_room) => `(tactic| ((try simp only [depth_under_make, depth_under_kw, depth_in1, depth_deeper, depth_caller]); (try dsimp only); omega))
local macro_rules | `(tactic| walk_at "subscriptTail Name Name ref int") => `(tactic| (k_here; refine Stop.out ?_))
local macro_rules | `(tactic| walk_at "call ref") => `(tactic| (k_here; refine Stop.out ?_))
theorem c_number (w : World) (S L0 : Addr) : DrawC PySem.Challenge.rw_ff5020_01.row.prog w (hd.heap_39 w.params) 126 5 120 S L0 [.ref S] (fun v => ∃ n t, v = .int n t ∧ 0 ≤ n ∧ n < 1100003) := by
  k_fill
  intro p loose mean mg mb h₀ A s Q E hA hdp hun X T le hS DS hQ
  obtain ⟨_, dp, fr, gd, un⟩ := A
  subst hA
  dsimp only at hdp hun
  obtain ⟨i, ti, ci, eS⟩ := DS.obj
  have nS : ∀ b o, h₀.get? b = some o → b ≠ S := fun b o e q => by rw [q, hS] at e; cases e
  have X1 : (hd.heap_39 w.params).In (hideAll s.heap [S]) := X.keeps fun b o e => hideAll_get _ (le b o e) (fun q => nS b o e (List.mem_singleton.mp q))
  have T1 : Top p loose mean mg mb (hideAll s.heap [S]) := T.keeps fun b o e => hideAll_get _ (le b o e) (fun q => nS b o e (List.mem_singleton.mp q))
  have Xs := X.keeps le
  refine wpAny_call ?_
  k_dflt (refine' enter_G (hideAll s.heap [S]) (led := [(S, listOf #[.ref L0, .int i ti] ci)]) (hideAll_size _ _) (fun _ _ e => of_hideAll _ e) (fun p hp => by rw [List.mem_singleton.mp hp]; exact ⟨eS, hideAll_none _ (.head _)⟩) X1 T1 ?o ?c ?r ?b ?kd ?nd ?_ ?c2 ?c3 ?c4; (case o => k_is); (case c => k_is); (case r => (try dsimp only); omega); (case b => first | exact BindsTo.of_eq rfl | exact binds_K Xs rfl (by k_is) rfl rfl rfl); (case kd => exact rfl); (case nd => decide +kernel); (case c2 => exact rfl); (case c3 => exact rfl); (case c4 => exact rfl))
  intro L' h₁ tk cells F' N' Y hk₁
  cases Y
  (try simp only [List.cons_append, List.nil_append] at N')
  (try dsimp only)
  (try k_fold)
  clear Xs X T
  have hne := DS.ne
  have src : ∃ (vs : List Value) (ns : List Int) (c : Nat), (hideAll s.heap [S]).get? L0 = some (listOf vs.toArray c) ∧ IntsAre vs ns ∧ ns.length < 1000 :=
    let ⟨vs, ns, c, e, r⟩ := DS.src; ⟨vs, ns, c, hideAll_get _ e (by simpa using hne.symm), r⟩
  have DS1 : ∃ (i' : Nat) (t : Tok) (c : Nat), listOf #[.ref L0, .int i ti] ci = listOf #[.ref L0, .int i' t] c := ⟨i, ti, ci, rfl⟩
  clear DS hk₁
  replace F' : Fr (hideAll s.heap [S]) L' h₁ (fun y => if y = ("state" : Str) then some (.ref S) else none) := F'
  generalize hg : hideAll s.heap [S] = g at F' N' X1 T1 src
  have kk : ∀ h' : Heap, (∀ b o, g.get? b = some o → h'.get? b = some o) → ∀ b o, b ≠ S → s.heap.get? b = some o → h'.get? b = some o := fun h' k b o q e => k b o (by rw [← hg]; exact hideAll_get _ e (by simpa using q))
  clear hg nS hS le eS
  k_steps
  refine Stop.mk ?_
  refine draw_use (rest := []) (c_draw w S L0 3 (by decide) _) F' X1 N' T1 src hne DS1 (.head _) (fun q hq => by cases hq) rfl (by simp only [depth_deeper]; omega) (by simp only [units_deeper]; omega) ?_
  clear F' N' DS1
  rintro v h₂ tk₂ oS F' N' DS1 ⟨k, tk3, rfl, hk0, hk3⟩
  rcases (show k < 2 ∨ k = 2 by omega) with hk | rfl
  · k_steps
    · exfalso; omega
    with_reducible rename Fr _ _ _ _ => F'
    with_reducible rename News _ _ _ _ => N'
    refine Stop.mk ?_
    refine pure_use (c_table w) F' X1 N' T1 rfl (by simp only [depth_deeper]; omega) (by simp only [units_deeper]; omega) ?_
    intro v h₃ tk₃ hF F₃ N₃ hR
    obtain ⟨l, vs, nw, rfl, hl, hr, hf⟩ := hR
    have N₄ := news_more F' N₃ hf
    have nwS : ∀ q ∈ nw, q.1 ≠ S := fun q hq e => by
      have := (hf q hq).2
      rw [e, (N' _ (.head _)).1] at this; cases this
    clear F' N' N₃ hf hF
    k_steps
    with_reducible rename Fr _ _ _ _ => F'
    with_reducible rename News _ _ _ _ => N'
    refine Stop.mk ?_
    refine draw_use (rest := nw) (c_draw w S L0 17 (by decide) _) F' X1 N' T1 src hne DS1 (List.mem_append_right _ (.head _)) (fun q hq => ⟨List.mem_append_left _ hq, nwS q hq⟩) rfl (by simp only [depth_deeper]; omega) (by simp only [units_deeper]; omega) ?_
    clear F' N' DS1
    rintro v h₄ tk₄ oS F' N' DS1 ⟨k2, tk5, rfl, hk20, hk217⟩
    have hi : k2.toNat < tbl.length := by show k2.toNat < 17; omega
    obtain ⟨T, ta, tb, tc, h1, h2⟩ := hr.get (List.getElem?_eq_getElem hi)
    refine tail_any (Heap.IsList.typeIs ⟨_, (N' _ (.tail _ hl)).1, rfl, _, rfl⟩) slot_list_getitem.lookup (wpAny_getItem_list ⟨_, (N' _ (.tail _ hl)).1, rfl, _, rfl⟩ hk20 (by omega) (by simpa using h1) ?_) (by with_unfolding_all rfl)
    k_steps
    with_reducible rename Fr _ _ _ _ => F'
    with_reducible rename News _ _ _ _ => N'
    refine Stop.mk ?_
    have htb : 0 ≤ (tbl[k2.toNat]).1 ∧ 0 ≤ (tbl[k2.toNat]).2.1 ∧ (tbl[k2.toNat]).1 < 1000000 ∧ (tbl[k2.toNat]).2.1 < 1000000 := by
      have : ∀ r ∈ tbl, 0 ≤ r.1 ∧ 0 ≤ r.2.1 ∧ r.1 < 1000000 ∧ r.2.1 < 1000000 := by decide
      exact this _ (List.getElem_mem hi)
    generalize tbl[k2.toNat] = row at h2 htb
    obtain ⟨a, b, c⟩ := row
    dsimp only at h2 htb
    obtain ⟨x, tx, hx0, hx1, hx⟩ : ∃ (x : Int) (tx : Tok), 0 ≤ x ∧ x < 1000000 ∧ ∃ j, seqIndex? k 3 = some j ∧ [Value.int a ta, .int b tb, .int c tc][j]? = some (.int x tx) := by
      rcases (show k = 0 ∨ k = 1 by omega) with rfl | rfl
      · exact ⟨a, ta, htb.1, htb.2.2.1, 0, rfl, rfl⟩
      · exact ⟨b, tb, htb.2.1, htb.2.2.2, 1, rfl, rfl⟩
    obtain ⟨j, hj1, hj2⟩ := hx
    refine item_tupleT (l := [Value.int a ta, .int b tb, .int c tc]) (News.isTup N' (.tail _ h2)) (by omega) (by omega) hj1 hj2 ?_ (by with_unfolding_all rfl)
    k_steps
    refine Stop.mk ?_
    refine draw_use (rest := []) (c_draw w S L0 3 (by decide) _) F' X1 N' T1 src hne DS1 (.head _) (fun q hq => by cases hq) rfl (by simp only [depth_deeper]; omega) (by simp only [units_deeper]; omega) ?_
    clear F' N' DS1 oS
    rintro v h₅ tk₅ oS F' N' DS1 ⟨y, tk6, rfl, hy0, hy3⟩
    k_steps
    with_reducible rename Fr _ _ _ _ => F'
    with_reducible rename News _ _ _ _ => N'
    exact hQ _ _ _ (kk _ F'.keep) ⟨let ⟨i, t, c, e⟩ := DS1; ⟨i, t, c, by rw [← e]; exact (N' _ (.tail _ (.head _))).1⟩, let ⟨vs, ns, c, e, r⟩ := src; ⟨vs, ns, c, F'.keep _ _ e, r⟩, hne⟩ ⟨_, _, rfl, by omega, by omega⟩
  · k_steps
    with_reducible rename Fr _ _ _ _ => F'
    with_reducible rename News _ _ _ _ => N'
    refine Stop.mk ?_
    refine draw_use (rest := []) (c_draw w S L0 1000003 (by decide) _) F' X1 N' T1 src hne DS1 (.head _) (fun q hq => by cases hq) rfl (by simp only [depth_deeper]; omega) (by simp only [units_deeper]; omega) ?_
    clear F' N' DS1 oS hk0 hk3
    rintro v h₂ tk₂ oS F' N' DS1 ⟨a, tk4, rfl, ha0, ha3⟩
    k_steps
    with_reducible rename Fr _ _ _ _ => F'
    with_reducible rename News _ _ _ _ => N'
    refine Stop.mk ?_
    refine draw_use (rest := []) (c_draw w S L0 2 (by decide) _) F' X1 N' T1 src hne DS1 (.head _) (fun q hq => by cases hq) rfl (by simp only [depth_deeper]; omega) (by simp only [units_deeper]; omega) ?_
    clear F' N' DS1 oS
    rintro v h₂ tk₂ oS F' N' DS1 ⟨b, tk4, rfl, hb0, hb3⟩
    k_steps
    with_reducible rename Fr _ _ _ _ => F'
    show Q _ _
    exact hQ _ _ _ (kk _ F'.keep) ⟨let ⟨i, t, c, e⟩ := DS1; ⟨i, t, c, by rw [← e]; exact (N' _ (.head _)).1⟩, let ⟨vs, ns, c, e, r⟩ := src; ⟨vs, ns, c, F'.keep _ _ e, r⟩, hne⟩ ⟨_, _, rfl, by omega, by omega⟩
end Mine
end

/-! CState -/
section
open PySem PySem.W PySem.Spec PySem.Calls PyProof.Rows PyProof.Rows.LCg
namespace Mine
local macro_rules | `(tactic| k_room) => `(tactic| ((try simp only [depth_under_make, depth_under_kw, depth_in1, depth_deeper, depth_caller]); (try dsimp only); omega))
def StateC (prog : Program) (w : World) (K : Frag) (f : Addr) (d u : Nat) (l : Addr) (vs : List Value) : Prop :=
  ∀ (p : Program) (loose : List Str) (mean : ExcName → Option Value) (mg mb : Str → Option Value) (A : Around) (s : Shared) (Q E : Value → Shared → Prop),
    A.handled = none → A.depth + d < recursionLimit → A.units + u < cLine → K.In s.heap → Top p loose mean mg mb s.heap → s.heap.IsList l vs.toArray →
    (∀ S L0 h' tk', Full s h' → DSt h' S L0 → s.heap.get? S = none → s.heap.get? L0 = none → Q (.ref S) { s with heap := h', toks := tk' }) →
    wpAny (model prog w) A (call (.ref f) [.ref l]) Q E s
theorem c_state (w : World) (l : Addr) (vs : List Value) (ns : List Int) (hI : IntsAre vs ns) (hn : ns.length ≤ 63) : StateC PySem.Challenge.rw_ff5020_01.row.prog w (hd.heap_39 w.params) 107 3 200 l vs := by
  k_fill
  intro p loose mean mg mb A s Q E hA hdp hun X T hL hQ
  obtain ⟨_, dp, fr, gd, un⟩ := A
  subst hA
  dsimp only at hdp hun
  refine wpAny_call ?_
  k_dflt (refine' enter_K ?X ?T ?o ?c ?r ?b ?l ?_ ?c2 ?c3 ?c4 ?c5; (case X => exact X); (case T => exact T); (case o => k_is); (case c => k_is); (case r => (try dsimp only); omega); (case b => first | exact BindsTo.of_eq rfl | exact binds_K X rfl (by k_is) rfl rfl rfl); (case l => exact locs rfl); (case c2 => exact rfl); (case c3 => exact rfl); (case c4 => exact rfl); (case c5 => decide))
  intro g L' h₁ hg F' N' X' T'
  (try dsimp only)
  (try k_fold)
  rw [← hg] at hL
  have hcond : ¬ ((63 : Nat) : Int) < (ns.length : Int) := by omega
  k_steps
  with_reducible rename Fr _ _ _ _ => F
  with_reducible rename News _ _ _ _ => N
  with_reducible rename IntsAre _ _ => hI8
  rename (_ < _ ∧ _ < _) => hlt
  show Q _ _
  subst hg
  exact hQ _ _ _ _ F.keep ⟨⟨0, _, _, (N _ (.head _)).1⟩, ⟨_, _, _, (N _ (.tail _ (.head _))).1, hI8, by simp only [List.length_map, List.length_take]; omega⟩, Nat.ne_of_gt hlt.1⟩ (N _ (.head _)).2.2 (N _ (.tail _ (.head _))).2.2
end Mine
end

/-! LawLib -/
section
open PySem PySem.W PySem.Spec PySem.Calls PyProof.Rows PyProof.Rows.LCg
namespace Mine
theorem tabS_led2 {N : Nat} {g h : Heap} {L : Addr} {m : Str → Option Value} (le : ∀ b o, g.get? b = some o → h.get? b = some o) (nm : NoMut N g) (hL : h.Ns L m) (h49 : CodeHd g 49 45) (h80 : CodeHd g 80 76) (TS : TabS N h) :
    ∃ led, News g L h led ∧ TabLed N g led ∧ ∀ q ∈ led, q.2.cls ≠ .type "range_iterator" := by
  have m45 : ∀ ps, mutB N 45 (tabObj ps) = true := fun ps => by show ((45 : Nat) == 45 || (45 : Nat) == 76 || decide (N ≤ 45)) = true; simp
  have m76 : ∀ ps, mutB N 76 (tabObj ps) = true := fun ps => by show ((76 : Nat) == 45 || (76 : Nat) == 76 || decide (N ≤ 76)) = true; simp
  have mP : ∀ P ps, N ≤ P → mutB N P (tabObj ps) = true := fun P ps hP => by show (P == 45 || P == 76 || decide (N ≤ P)) = true; simp [hP]
  have neL : ∀ b ps, h.get? b = some (tabObj ps) → b ≠ L := fun b ps e q => by
    obtain ⟨o, es, ep, ho, hd, _⟩ := hL
    rw [q, ho] at e; cases e; cases hd
  obtain ⟨ps76, e76, r76⟩ : ∃ ps, h.get? 76 = some (tabObj ps) ∧ (ps = #[] ∨ ∃ c1 : Addr, ps = #[rawInt 41, rawInt 19, .ref c1]) := by
    rcases TS.2.2 with e | ⟨c1, e⟩
    · exact ⟨_, e, .inl rfl⟩
    · exact ⟨_, e, .inr ⟨c1, rfl⟩⟩
  have done76 : ∀ h' : Heap, (∀ b o, g.get? b = some o → h'.get? b = some o) → h'.get? 76 = some (tabObj ps76) → TabCell h' := fun h' k e => by
    refine ⟨h80.keeps k, ?_⟩
    rcases r76 with rfl | ⟨c1, rfl⟩
    · exact .inl e
    · exact .inr ⟨c1, e⟩
  have n76 : h.get? 76 = some (tabObj ps76) ∧ (76 : Addr) ≠ L ∧ g.get? 76 = none := ⟨e76, neL _ _ e76, noMut_none nm le e76 (m76 _)⟩
  rcases TS.1.2 with e | ⟨c1, P1, e, hb⟩
  · refine ⟨[(45, tabObj #[]), (76, tabObj ps76)], fun p hp => ?_, fun h' k l => ⟨⟨h49.keeps k, .inl (l _ (.head _))⟩, done76 h' k (l _ (.tail _ (.head _)))⟩, fun q hq => by
      rcases List.mem_cons.mp hq with rfl | hq
      · nofun
      · rw [List.mem_singleton.mp hq]; nofun⟩
    rcases List.mem_cons.mp hp with rfl | hp
    · exact ⟨e, neL _ _ e, noMut_none nm le e (m45 _)⟩
    · rw [List.mem_singleton.mp hp]; exact n76
  · obtain ⟨hc, hN, ps, eP, rP⟩ := hb
    have n45 : h.get? 45 = some (tabObj #[rawInt 10, rawInt 15, .ref c1]) ∧ (45 : Addr) ≠ L ∧ g.get? 45 = none := ⟨e, neL _ _ e, noMut_none nm le e (m45 _)⟩
    have nP : h.get? P1 = some (tabObj ps) ∧ P1 ≠ L ∧ g.get? P1 = none := ⟨eP, neL _ _ eP, noMut_none nm le eP (mP _ _ hN)⟩
    cases q : g.get? c1 with
    | some oc =>
      have hcg : ∀ h' : Heap, (∀ b o, g.get? b = some o → h'.get? b = some o) → CodeHd h' c1 P1 := fun h' k => codeHd_at hc fun o e1 _ => by
        have e2 := le _ _ q
        rw [e1] at e2; cases e2
        exact k _ _ q
      refine ⟨[(45, tabObj #[rawInt 10, rawInt 15, .ref c1]), (76, tabObj ps76), (P1, tabObj ps)], fun p hp => ?_, fun h' k l => ⟨⟨h49.keeps k, .inr ⟨c1, P1, l _ (.head _), hcg h' k, hN, ps, l _ (.tail _ (.tail _ (.head _))), rP⟩⟩, done76 h' k (l _ (.tail _ (.head _)))⟩, fun q hq => by
        rcases List.mem_cons.mp hq with rfl | hq
        · nofun
        · rcases List.mem_cons.mp hq with rfl | hq
          · nofun
          · rw [List.mem_singleton.mp hq]; nofun⟩
      rcases List.mem_cons.mp hp with rfl | hp
      · exact n45
      · rcases List.mem_cons.mp hp with rfl | hp
        · exact n76
        · rw [List.mem_singleton.mp hp]; exact nP
    | none =>
      obtain ⟨oc, vs, file, tf, flags, tg, inF, text, tt, ec, ecls, r⟩ := id hc
      have hcL : c1 ≠ L := fun q' => by
        obtain ⟨o, es, ep, ho, hd, _⟩ := hL
        rw [← q', ec] at ho; cases ho
        rw [r.1] at hd; cases hd
      refine ⟨[(45, tabObj #[rawInt 10, rawInt 15, .ref c1]), (76, tabObj ps76), (P1, tabObj ps), (c1, oc)], fun p hp => ?_, fun h' k l => ⟨⟨h49.keeps k, .inr ⟨c1, P1, l _ (.head _), codeHd_at hc fun o e1 _ => ?_, hN, ps, l _ (.tail _ (.tail _ (.head _))), rP⟩⟩, done76 h' k (l _ (.tail _ (.head _)))⟩, fun q hq => by
        rcases List.mem_cons.mp hq with rfl | hq
        · nofun
        · rcases List.mem_cons.mp hq with rfl | hq
          · nofun
          · rcases List.mem_cons.mp hq with rfl | hq
            · nofun
            · rw [List.mem_singleton.mp hq]; show oc.cls ≠ _; rw [ecls]; intro q'; exact absurd (Value.type.inj q') (by decide)⟩
      · rcases List.mem_cons.mp hp with rfl | hp
        · exact n45
        · rcases List.mem_cons.mp hp with rfl | hp
          · exact n76
          · rcases List.mem_cons.mp hp with rfl | hp
            · exact nP
            · rw [List.mem_singleton.mp hp]; exact ⟨ec, hcL, q⟩
      · rw [ec] at e1; cases e1
        exact l _ (.tail _ (.tail _ (.tail _ (.head _))))
section
variable {prog : Program} {w : World} {A : Around} {s : Shared} {K : Frag} {p : Program} {loose : List Str} {mean : ExcName → Option Value} {mg mb : Str → Option Value}
theorem TabS.but {N : Nat} {h h' : Heap} {S : Addr} {its : Array Value} {c : Nat} (TS : TabS N h) (eS : h.get? S = some (listOf its c)) (k : ∀ b o, b ≠ S → h.get? b = some o → h'.get? b = some o) : TabS N h' := by
  have nt : ∀ {P ps}, h.get? P = some (tabObj ps) → h'.get? P = some (tabObj ps) := fun {P ps} e => k _ _ (fun q => by rw [q, eS] at e; cases e) e
  have nc : ∀ {c P}, CodeHd h c P → CodeHd h' c P := fun {c P} x => by
    obtain ⟨o, vs, file, tf, flags, tg, inF, text, tt, e, ec, r⟩ := x
    refine ⟨o, vs, file, tf, flags, tg, inF, text, tt, k _ _ (fun q => ?_) e, ec, r⟩
    rw [q, eS] at e; cases e
    have := r.1; cases this
  have nb : ∀ {c1 P1}, TabB N h c1 P1 → TabB N h' c1 P1 := fun x => ⟨nc x.1, x.2.1, let ⟨ps, e, r⟩ := x.2.2; ⟨ps, nt e, r⟩⟩
  exact ⟨⟨nc TS.1.1, TS.1.2.imp nt fun ⟨c1, P1, e, r⟩ => ⟨c1, P1, nt e, nb r⟩⟩, nc TS.2.1, TS.2.2.imp nt fun ⟨c1, e⟩ => ⟨c1, nt e⟩⟩

/-- a call that may make inner code, seen from a frame: only `own` and the tables are kept -/
theorem gen_law {N d u : Nat} {g : Heap} {L f : Addr} {m : Str → Option Value} {own led all : List (Addr × Obj)} {args : List Value} {R : Value → Prop} {Q E : Value → Shared → Prop}
    (C : GenC prog w K f d u args R) (U : InU N K p loose mean mg mb g) (F : Fr g L s.heap m) (N₁ : News g L s.heap all) (TL : TabLed N g led) (hled : ∀ p ∈ led, p ∈ all)
    (hown : ∀ p ∈ own, p ∈ all ∧ mutB N p.1 p.2 = false) (hA : A.handled = none) (hd : A.depth + d < recursionLimit) (hu : A.units + u < cLine) (hb : AllBare s.gens)
    (k : ∀ v s' led', Fr g L s'.heap m → News g L s'.heap (own ++ led') → TabLed N g led' → AllBare s'.gens → s'.os = s.os → R v → Q v s') :
    wpAny (model prog w) A (call (.ref f) args) Q E s :=
  gen_use (own := own) (all := own ++ led) C U F (fun q hq => (List.mem_append.mp hq).elim (fun h => N₁ q (hown q h).1) fun h => N₁ q (hled q h)) TL rfl (fun q hq => (hown q hq).2) hA hd hu hb k

/-- a call that turns the state, seen from a frame -/
theorem draw_law {N d u : Nat} {g : Heap} {L f S L0 : Addr} {m : Str → Option Value} {own led all : List (Addr × Obj)} {args : List Value} {R : Value → Prop} {Q E : Value → Shared → Prop} {oS oL : Obj}
    (C : DrawC prog w K f d u S L0 args R) (U : InU N K p loose mean mg mb g) (F : Fr g L s.heap m) (N₁ : News g L s.heap all) (TL : TabLed N g led) (hled : ∀ p ∈ led, p ∈ all)
    (hoL : ∃ (vs : List Value) (ns : List Int) (c : Nat), oL = listOf vs.toArray c ∧ IntsAre vs ns ∧ ns.length < 1000) (hne : S ≠ L0) (hoS : ∃ (i : Nat) (t : Tok) (c : Nat), oS = listOf #[.ref L0, .int i t] c)
    (hS : (S, oS) ∈ all) (hL : (L0, oL) ∈ all) (hown : ∀ q ∈ own, q ∈ all ∧ q.2 ≠ oS)
    (hA : A.handled = none) (hd : A.depth + d < recursionLimit) (hu : A.units + u < cLine)
    (k : ∀ v h' tk' oS' led', Fr g L h' m → News g L h' ((S, oS') :: (L0, oL) :: (own ++ led')) → TabLed N g led' → (∃ (i : Nat) (t : Tok) (c : Nat), oS' = listOf #[.ref L0, .int i t] c) → R v → Q v { s with heap := h', toks := tk' }) :
    wpAny (model prog w) A (call (.ref f) args) Q E s := by
  have eS := N₁ _ hS
  have eL := N₁ _ hL
  refine C p loose mean mg mb g A s Q E hA hd hu U.X U.T F.keep eS.2.2 ⟨let ⟨i, t, c, e⟩ := hoS; ⟨i, t, c, by rw [← e]; exact eS.1⟩, let ⟨vs, ns, c, e, r⟩ := hoL; ⟨vs, ns, c, by rw [← e]; exact eL.1, r⟩, hne⟩ fun v h' tk' hk DS' r => ?_
  have TS : TabS N s.heap := TL _ F.keep fun p hp => (N₁ p (hled p hp)).1
  have TS' : TabS N h' := by
    obtain ⟨i, t, c, rfl⟩ := hoS
    exact TS.but eS.1 hk
  have F' : Fr g L h' m := ⟨F.ns.at' fun o e => hk _ _ (Ne.symm eS.2.1) e, fun b o e => hk b o (fun q => by rw [q, eS.2.2] at e; cases e) (F.keep b o e), F.above⟩
  obtain ⟨led', NL, TL'⟩ := tabS_led F'.keep U.nm F'.ns U.h49 U.h80 TS'
  obtain ⟨i, t, c, e⟩ := DS'.obj
  refine k v h' tk' (listOf #[.ref L0, .int i t] c) led' F' (fun q hq => ?_) TL' ⟨i, t, c, rfl⟩ r
  rcases List.mem_cons.mp hq with rfl | hq
  · exact ⟨e, eS.2⟩
  · rcases List.mem_cons.mp hq with rfl | hq
    · exact ⟨hk _ _ hne.symm eL.1, eL.2⟩
    · rcases List.mem_append.mp hq with hq | hq
      · have h1 := N₁ q (hown q hq).1
        refine ⟨hk _ _ (fun e2 => ?_) h1.1, h1.2⟩
        have h3 := h1.1
        rw [e2, eS.1] at h3
        exact (hown q hq).2 (Option.some.inj h3).symm
      · exact NL q hq
theorem isList_keepT {N : Nat} {h h' : Heap} {l : Addr} {its : Array Value} (x : h.IsList l its) (k : KeepT N h h') : h'.IsList l its :=
  let ⟨o, e, hc, r⟩ := x; ⟨o, k _ _ e (mutB_cls (by rw [hc]; nofun)), hc, r⟩
/-- the law makes the state -/
theorem state_law {N d u : Nat} {g : Heap} {L f l : Addr} {m : Str → Option Value} {all : List (Addr × Obj)} {vs : List Value} {Q E : Value → Shared → Prop}
    (C : StateC prog w K f d u l vs) (U : InU N K p loose mean mg mb g) (F : Fr g L s.heap m) (N₁ : News g L s.heap all) (hl : s.heap.IsList l vs.toArray)
    (hA : A.handled = none) (hd : A.depth + d < recursionLimit) (hu : A.units + u < cLine)
    (k : ∀ S L0 h' tk' oS oL, Fr g L h' m → News g L h' ((S, oS) :: (L0, oL) :: all) → S ≠ L0 → (∃ (i : Nat) (t : Tok) (c : Nat), oS = listOf #[.ref L0, .int i t] c) →
      (∃ (vs : List Value) (ns : List Int) (c : Nat), oL = listOf vs.toArray c ∧ IntsAre vs ns ∧ ns.length < 1000) → Q (.ref S) { s with heap := h', toks := tk' }) :
    wpAny (model prog w) A (call (.ref f) [.ref l]) Q E s := by
  refine C p loose mean mg mb A s Q E hA hd hu (U.X.keeps F.keep) (U.T.keeps F.keep) hl fun S L0 h' tk' hk D nS nL => ?_
  obtain ⟨i, t, c, e1⟩ := D.obj
  obtain ⟨vs', ns', c', e2, r⟩ := D.src
  have g0 : ∀ b, s.heap.get? b = none → g.get? b = none := fun b hb => by
    cases q : g.get? b with
    | none => rfl
    | some o => have := F.keep _ _ q; rw [hb] at this; cases this
  have gL : ∀ b, s.heap.get? b = none → b ≠ L := fun b hb q => by
    obtain ⟨o, _, _, e, _⟩ := F.ns
    rw [← q, hb] at e; cases e
  refine k S L0 h' tk' _ _ (F.keeps hk) (fun q hq => ?_) D.ne ⟨i, t, c, rfl⟩ ⟨vs', ns', c', rfl, r⟩
  rcases List.mem_cons.mp hq with rfl | hq
  · exact ⟨e1, gL _ nS, g0 _ nS⟩
  · rcases List.mem_cons.mp hq with rfl | hq
    · exact ⟨e2, gL _ nL, g0 _ nL⟩
    · exact ⟨hk _ _ (N₁ q hq).1, (N₁ q hq).2⟩
end

/-- what stays through the law's loop -/
structure LInv (N : Nat) (g : Heap) (L S L0 I : Addr) (oL : Obj) (s₀ : Shared) (P : (Str → Option Value) → Prop) (s : Shared) : Prop where
  ex : ∃ m oS led, Fr g L s.heap m ∧ News g L s.heap ((S, oS) :: (L0, oL) :: led) ∧ TabLed N g led ∧ (∃ (i : Nat) (t : Tok) (c : Nat), oS = listOf #[.ref L0, .int i t] c) ∧ (∀ q ∈ led, q.1 ≠ I) ∧ P m
  bare : AllBare s.gens
  os : s.os = s₀.os
theorem LInv.move {N : Nat} {g : Heap} {L S L0 I : Addr} {oL : Obj} {s₀ s : Shared} {P : (Str → Option Value) → Prop} {h' : Heap} {tk : Nat} (V : LInv N g L S L0 I oL s₀ P s) (hLI : L ≠ I) (hSI : S ≠ I) (hL0I : L0 ≠ I) (hg : g.get? I = none)
    (k : ∀ b o, b ≠ I → s.heap.get? b = some o → h'.get? b = some o) : LInv N g L S L0 I oL s₀ P { s with heap := h', toks := tk } := by
  obtain ⟨⟨m, oS, led, F, N₁, TL, hoS, hI, hP⟩, b, o⟩ := V
  refine ⟨⟨m, oS, led, ⟨F.ns.at' fun o e => k _ _ hLI e, fun b o e => k b o (fun q => by rw [q, hg] at e; cases e) (F.keep b o e), F.above⟩, fun q hq => ⟨k _ _ ?_ (N₁ q hq).1, (N₁ q hq).2⟩, TL, hoS, hI, hP⟩, b, o⟩
  rcases List.mem_cons.mp hq with rfl | hq
  · exact hSI
  · rcases List.mem_cons.mp hq with rfl | hq
    · exact hL0I
    · exact hI q hq
/-- the end of a turn: the tables are laid out anew -/
theorem LInv.mk' {N : Nat} {K : Frag} {p : Program} {loose : List Str} {mean : ExcName → Option Value} {mg mb : Str → Option Value} {g : Heap} {L S L0 I : Addr} {oS oL oI : Obj} {s₀ s : Shared} {P : (Str → Option Value) → Prop} {m : Str → Option Value} {led all : List (Addr × Obj)}
    (U : InU N K p loose mean mg mb g) (F : Fr g L s.heap m) (N₁ : News g L s.heap all) (TL : TabLed N g led) (hled : ∀ q ∈ led, q ∈ all) (hS : (S, oS) ∈ all) (hL : (L0, oL) ∈ all) (hI : s.heap.get? I = some oI) (hc : oI.cls = .type "range_iterator")
    (hoS : ∃ (i : Nat) (t : Tok) (c : Nat), oS = listOf #[.ref L0, .int i t] c) (hP : P m) (hb : AllBare s.gens) (hos : s.os = s₀.os) : LInv N g L S L0 I oL s₀ P s := by
  have TS : TabS N s.heap := TL _ F.keep fun q hq => (N₁ q (hled q hq)).1
  obtain ⟨led2, NL, TL2, hr⟩ := tabS_led2 F.keep U.nm F.ns U.h49 U.h80 TS
  refine ⟨⟨m, oS, led2, F, fun q hq => ?_, TL2, hoS, fun q hq e => ?_, hP⟩, hb, hos⟩
  · rcases List.mem_cons.mp hq with rfl | hq
    · exact N₁ _ hS
    · rcases List.mem_cons.mp hq with rfl | hq
      · exact N₁ _ hL
      · exact NL q hq
  · have h1 := (NL q hq).1
    rw [e, hI] at h1
    have h2 := Option.some.inj h1
    exact hr q hq (by rw [← h2]; exact hc)
end Mine
end

/-! CLaw -/
section
open PySem PySem.W PySem.Spec PySem.Calls PyProof.Rows PyProof.Rows.LCg
namespace Mine
local macro_rules | `(tactic| k_room) => `(tactic| ((try simp only [depth_under_make, depth_under_kw, depth_in1, depth_deeper, depth_caller]); (try dsimp only); omega))
local macro_rules | `(tactic| walk_at "call ref") => `(tactic| (k_here; refine Stop.out ?_))
local macro_rules | `(tactic| walk_at "pyIter ref") => `(tactic| (k_here; refine Stop.out ?_))
def LawC (prog : Program) (w : World) (K : Frag) (f : Addr) (d u : Nat) (l : Addr) (vs : List Value) (R : Value → Prop) : Prop :=
  ∀ (N : Nat) (p : Program) (loose : List Str) (mean : ExcName → Option Value) (mg mb : Str → Option Value) (h₀ : Heap) (A : Around) (s : Shared) (Q E : Value → Shared → Prop),
    A.handled = none → A.depth + d < recursionLimit → A.units + u < cLine → BaseOk N K p loose mean mg mb h₀ s.heap → TabS N s.heap → 76 < N → N ≤ s.heap.objs.size → AllBare s.gens → s.heap.IsList l vs.toArray →
    (∀ v s', KeepT N s.heap s'.heap → TabS N s'.heap → AllBare s'.gens → s'.os = s.os → R v → Q v s') →
    codeAny (model prog w) A (.call (.ref f) ⟨[.ref l], []⟩) (fun r s' => match r with | .ok (.ret v) => Q v s' | .ok _ => False | .error e => E e s') s
def aplain (x : Str) : Bool := x.cps.toList.all fun c => lawPlain c
def LP (S : Addr) (i : Nat) (m : Str → Option Value) : Prop := ∃ x t1 t2, m "state" = some (.ref S) ∧ m "signs" = some (.str x t1) ∧ m "total" = some (.int (lsum x) t2) ∧ m "plain" = some (.bool (aplain x)) ∧ (∀ c ∈ x.cps.toList, c ≠ 8205 ∧ c ≠ 65039) ∧ x.cps.size ≤ i
theorem range_small {k : Int} (h0 : 0 ≤ k) (h7 : k < 7) : Builtin.Range.small 0 (6 + k) 1 = true ∧ ∃ n : Nat, (Builtin.Range.rangeSize 0 (6 + k) 1 : Int) = (n : Int) ∧ n ≤ 12 := by
  have : k = 0 ∨ k = 1 ∨ k = 2 ∨ k = 3 ∨ k = 4 ∨ k = 5 ∨ k = 6 := by omega
  rcases this with rfl | rfl | rfl | rfl | rfl | rfl | rfl
  · exact ⟨by decide, 6, by decide, by decide⟩
  · exact ⟨by decide, 7, by decide, by decide⟩
  · exact ⟨by decide, 8, by decide, by decide⟩
  · exact ⟨by decide, 9, by decide, by decide⟩
  · exact ⟨by decide, 10, by decide, by decide⟩
  · exact ⟨by decide, 11, by decide, by decide⟩
  · exact ⟨by decide, 12, by decide, by decide⟩
theorem cellOk_one (k : Nat) : CellOk ⟨#[k]⟩ := by
  by_cases h1 : k = 8205
  · exact .inr (.inl (by rw [h1]))
  · by_cases h2 : k = 65039
    · exact .inr (.inr (by rw [h2]))
    · exact .inl fun c hc => by
        have : c = k := by simpa using hc
        rw [this]; exact ⟨h1, h2⟩
theorem lsum_one (k : Nat) : lsum ⟨#[k]⟩ = lawSize (k : Int) := by simp [lsum]
theorem lsum_app (x : Str) (k : Nat) : lsum (x ++ ⟨#[k]⟩) = lsum x + lawSize (k : Int) := by
  show ((x.cps ++ #[k]).toList.map fun c : Nat => lawSize (c : Int)).sum = _
  rw [Array.toList_append, List.map_append, List.sum_append]
  simp [lsum]
theorem aplain_app (x : Str) (k : Nat) : aplain (x ++ ⟨#[k]⟩) = (aplain x && lawPlain (k : Int)) := by
  show ((x.cps ++ #[k]).toList.all fun c => lawPlain c) = _
  rw [Array.toList_append, List.all_append]
  simp [aplain]
theorem good_app {x : Str} {k : Nat} (hx : ∀ c ∈ x.cps.toList, c ≠ 8205 ∧ c ≠ 65039) (hk : (([8205, 65039] : List Int).any fun x => x == (k : Int)) = false) : ∀ c ∈ (x ++ ⟨#[k]⟩ : Str).cps.toList, c ≠ 8205 ∧ c ≠ 65039 := fun c hc => by
  have hc' : c ∈ (x.cps ++ #[k]).toList := hc
  rw [Array.toList_append] at hc'
  rcases List.mem_append.mp hc' with h | h
  · exact hx c h
  · have : c = k := by simpa using h
    subst this
    simp only [List.any_cons, List.any_nil, Bool.or_false, Bool.or_eq_false_iff, beq_eq_false_iff_ne] at hk
    exact ⟨fun e => hk.1 (by rw [e]; rfl), fun e => hk.2 (by rw [e]; rfl)⟩
theorem size_app (x : Str) (k i : Nat) (h : x.cps.size ≤ i) : (x ++ ⟨#[k]⟩ : Str).cps.size ≤ i + 1 := by
  show (x.cps ++ #[k]).size ≤ i + 1
  simp only [Array.size_append]
  exact Nat.succ_le_succ h
theorem mul_size (n : Int) : (Txt.mul "a" n).cps.size = n.toNat := by
  rw [← Array.length_toList, show (Txt.mul "a" n).cps.toList = List.replicate n.toNat 97 from mul_one_list 97 n, List.length_replicate]
theorem mul_ok (n : Int) : CellOk (Txt.mul "a" n) := .inl fun c hc => by
  rw [show (Txt.mul "a" n).cps.toList = List.replicate n.toNat 97 from mul_one_list 97 n] at hc
  rw [List.eq_of_mem_replicate hc]; decide
theorem mul_lsum (n : Int) (h : 0 ≤ n) : lsum (Txt.mul "a" n) = n := by
  unfold lsum
  rw [show (Txt.mul "a" n).cps.toList = List.replicate n.toNat 97 from mul_one_list 97 n, List.map_replicate]
  rw [show lawSize ((97 : Nat) : Int) = 1 from by decide]
  have : ∀ k : Nat, (List.replicate k (1 : Int)).sum = k := fun k => by
    induction k with
    | zero => rfl
    | succ k ih => rw [List.replicate_succ, List.sum_cons, ih]; omega
  rw [this]; omega
theorem c_law (w : World) (l : Addr) (vs : List Value) (ns : List Int) (hI : IntsAre vs ns) (hn : ns.length ≤ 63) : LawC PySem.Challenge.rw_ff5020_01.row.prog w (hd.heap_39 w.params) 133 20 400 l vs (fun v => v = .bool true) := by
  k_fill
  intro N p loose mean mg mb h₀ A s Q E hA hdp hun B TS h76 hN hb hl hQ
  obtain ⟨_, dp, fr, gd, un⟩ := A
  subst hA
  dsimp only at hdp hun
  have X : (hd.heap_39 w.params).In s.heap := B.X.keeps B.le
  k_dflt (refine' enter_U B TS h76 hN ?o ?c ?r ?b ?kd ?nd ?_ ?c2 ?c3 ?c4; (case o => k_is); (case c => k_is); (case r => (try dsimp only); omega); (case b => first | exact BindsTo.of_eq rfl | exact binds_K X rfl (by k_is) rfl rfl rfl); (case kd => exact rfl); (case nd => decide +kernel); (case c2 => exact rfl); (case c3 => exact rfl); (case c4 => exact rfl))
  intro g L' h₁ tk cells led F' N' Y TL U KT X' T'
  cases Y
  (try simp only [List.cons_append, List.nil_append] at N')
  (try dsimp only)
  (try k_fold)
  clear X
  replace F' : Fr g L' h₁ (fun y => if y = ("script" : Str) then some (.ref l) else none) := F'
  refine execs_drop 2 (fun s' => ∃ S L0 oS oL, S ≠ L0 ∧ (∃ (i : Nat) (t : Tok) (c : Nat), oS = listOf #[.ref L0, .int i t] c) ∧ (∃ (vs : List Value) (ns : List Int) (c : Nat), oL = listOf vs.toArray c ∧ IntsAre vs ns ∧ ns.length < 1000) ∧
    ∃ m t1 t2, Fr g L' s'.heap m ∧ News g L' s'.heap ((S, oS) :: (L0, oL) :: led) ∧ AllBare s'.gens ∧ s'.os = s.os ∧ m "state" = some (.ref S) ∧ m "signs" = some (.str "" t1) ∧ m "total" = some (.int 0 t2) ∧ m "plain" = some (.bool true)) ?_ ?_
  · dsimp only [List.take]
    k_steps
    refine Stop.mk ?_
    refine state_law (c_state w l vs ns hI hn) U F' N' (isList_keepT hl (KT _ _ _ F')) rfl (by simp only [depth_deeper]; omega) (by simp only [units_deeper]; omega) ?_
    clear F' N'
    intro S L0 h₂ tk₂ oS oL F' N' hne hoS hoL
    k_steps
    with_reducible rename Fr _ _ _ _ => F'
    with_reducible rename News _ _ _ _ => N'
    exact ⟨S, L0, oS, oL, hne, hoS, hoL, _, _, _, F', fun q hq => N' q (.tail _ hq), hb, rfl, rfl, rfl, rfl, rfl⟩
  clear F' N' hb
  rintro s' ⟨S, L0, oS, oL, hne, hoS, hoL, m, t1, t2, F', N', hb, hos, e1, e2, e3, e4⟩
  have q := set_eq (set_eq (set_eq (set_eq (rfl : m = m) e1) e2) e3) e4
  rw [← q] at F'
  clear q e1 e2 e3 e4
  dsimp only [List.drop]
  refine wpAny_execs_cons (wpAny_For ?_ fun _ => rfl)
  k_steps
  refine Stop.mk ?_
  refine draw_law (own := []) (c_draw w S L0 7 (by decide) _) U F' N' TL (fun q hq => .tail _ (.tail _ hq)) hoL hne hoS (.head _) (.tail _ (.head _)) (fun q hq => by cases hq) rfl (by simp only [depth_deeper]; omega) (by simp only [units_deeper]; omega) ?_
  clear F' N' TL hoS
  rintro v h₃ tk₃ oS led F' N' TL hoS ⟨k0, tk4, rfl, hk0, hk7⟩
  simp only [List.nil_append] at N'
  k_steps
  refine Stop.mk ?_
  with_reducible rename Fr _ _ _ _ => F'
  with_reducible rename News _ _ _ _ => N'
  with_reducible rename IsRange _ _ _ _ _ _ _ _ => hR
  rename (∀ (b : Addr) (o : Obj), _ → _) => hup
  clear hup
  rename Heap => hr
  obtain ⟨hsm, n, hn1, hn12⟩ := range_small hk0 hk7
  refine wpAny_pyIter_range hR hsm ?_
  rw [hn1]
  dsimp only
  generalize hIx : hr.objs.size = I
  have hLI : L' ≠ I := hIx ▸ Nat.ne_of_lt F'.ns.lt
  have hlow : ∀ q ∈ ((S, oS) :: (L0, oL) :: led), q.1 ≠ I := fun q hq => hIx ▸ Nat.ne_of_lt (Heap.lt_size (N' q hq).1)
  have hgI : g.get? I = none := Heap.get?_none_of_le (hIx ▸ Nat.le_trans F'.above (Nat.le_of_lt F'.ns.lt))
  have hSI : S ≠ I := hlow _ (.head _)
  have hL0I : L0 ≠ I := hlow _ (.tail _ (.head _))
  refine For_S (I := I) (n := n) (Walks.range rfl I 0 1 n) (fun i s₁ => LInv N g L' S L0 I oL s (LP S i) s₁) ?go ?move ?turn ?done ?st ?j
  case go => exact fun i v s₁ Q₁ hP hst hQ => wpAny_of_eq rfl hQ
  case move => exact fun i s₁ h' tk V k => V.move hLI hSI hL0I hgI fun b o q e => k b o (by simpa using q) e
  case st => exact hIx ▸ Heap.get?_push_size _ rfl
  case j =>
    refine ⟨⟨_, oS, led, F'.push _, fun q hq => ⟨Heap.get?_push_of_some _ (N' q hq).1, (N' q hq).2⟩, TL, hoS, fun q hq => hlow q (.tail _ (.tail _ hq)), "", _, _, rfl, rfl, rfl, rfl, (fun c hc => by cases hc), Nat.zero_le _⟩, hb, hos⟩
  case done =>
    clear F' N' TL hoS hb hos hlow hR
    rintro s₂ ⟨⟨m₂, oS, led, F', N', TL, hoS, -, x, t1, t2, e1, e2, e3, e4, hx, hxn⟩, hb, hos⟩
    have mL : mutB N L0 oL = false := by obtain ⟨vs, ns, c, rfl, _⟩ := hoL; exact mutB_cls (by nofun)
    have hown : ∀ all : List (Addr × Obj), (S, oS) ∈ all → (L0, oL) ∈ all → ∀ q ∈ [(S, oS), (L0, oL)], q ∈ all ∧ mutB N q.1 q.2 = false := fun all h1 h2 q hq => by
      rcases List.mem_cons.mp hq with rfl | hq
      · exact ⟨h1, by obtain ⟨_, _, _, rfl⟩ := hoS; exact mutB_cls (by nofun)⟩
      · rw [List.mem_singleton.mp hq]; exact ⟨h2, mL⟩
    have q := set_eq (set_eq (set_eq (set_eq (rfl : m₂ = m₂) e1) e2) e3) e4
    rw [← q] at F'
    clear q e1 e2 e3 e4
    have hcx : CellOk x := .inl hx
    have hlx : x.cps.size < 1000 := by omega
    clear hIx hLI hgI hSI hL0I
    k_steps
    with_reducible rename Fr _ _ _ _ => F'
    with_reducible rename News _ _ _ _ => N'
    refine Stop.mk ?_
    refine gen_law (own := [(S, oS), (L0, oL)]) (led := led) (c_clen w x hcx hlx _) U F' N' TL (fun q hq => by (repeat (first | exact hq | refine List.Mem.tail _ ?_))) (hown _ (by k_mem) (by k_mem)) rfl (by simp only [depth_deeper]; omega) (by simp only [units_deeper]; omega) hb ?_
    clear F' N' TL hb
    rintro v s₃ led F' N' TL hb hos' ⟨t5, rfl⟩
    replace hos : s₃.os = s.os := hos'.trans hos
    clear hos'
    simp only [List.cons_append, List.nil_append] at N'
    k_steps
    · exact absurd rfl (by assumption : lsum x ≠ lsum x)
    with_reducible rename Fr _ _ _ _ => F'
    with_reducible rename News _ _ _ _ => N'
    refine Stop.mk ?_
    refine gen_law (own := [(S, oS), (L0, oL)]) (led := led) (c_cached1 w x hcx hlx _) U F' N' TL (fun q hq => by (repeat (first | exact hq | refine List.Mem.tail _ ?_))) (hown _ (by k_mem) (by k_mem)) rfl (by simp only [depth_deeper]; omega) (by simp only [units_deeper]; omega) hb ?_
    clear F' N' TL hb
    rintro v s₃ led F' N' TL hb hos' ⟨t6, rfl⟩
    replace hos : s₃.os = s.os := hos'.trans hos
    clear hos'
    simp only [List.cons_append, List.nil_append] at N'
    k_steps
    · exact absurd rfl (by assumption : lsum x ≠ lsum x)
    with_reducible rename Fr _ _ _ _ => F'
    with_reducible rename News _ _ _ _ => N'
    refine Stop.mk ?_
    refine gen_law (own := [(S, oS), (L0, oL)]) (led := led) (c_cell w x hcx hlx _ _ _) U F' N' TL (fun q hq => by (repeat (first | exact hq | refine List.Mem.tail _ ?_))) (hown _ (by k_mem) (by k_mem)) rfl (by simp only [depth_deeper]; omega) (by simp only [units_deeper]; omega) hb ?_
    clear F' N' TL hb
    rintro v s₃ led F' N' TL hb hos' ⟨t7, rfl⟩
    replace hos : s₃.os = s.os := hos'.trans hos
    clear hos'
    simp only [List.cons_append, List.nil_append] at N'
    k_steps
    · exact absurd rfl (by assumption : lsum x ≠ lsum x)
    with_reducible rename Fr _ _ _ _ => F'
    with_reducible rename News _ _ _ _ => N'
    refine Stop.mk ?_
    refine gen_law (own := [(S, oS), (L0, oL)]) (led := led) (c_isw w x _) U F' N' TL (fun q hq => by (repeat (first | exact hq | refine List.Mem.tail _ ?_))) (hown _ (by k_mem) (by k_mem)) rfl (by simp only [depth_deeper]; omega) (by simp only [units_deeper]; omega) hb ?_
    clear F' N' TL hb
    rintro v s₃ led F' N' TL hb hos' rfl
    replace hos : s₃.os = s.os := hos'.trans hos
    clear hos'
    simp only [List.cons_append, List.nil_append] at N'
    k_steps
    · exact absurd (by assumption : ((x.cps.toList.all fun c => lawPlain c) != aplain x) = true) (by simp [aplain])
    with_reducible rename Fr _ _ _ _ => F'
    with_reducible rename News _ _ _ _ => N'
    refine Stop.mk ?_
    refine draw_law (own := []) (led := led) (c_draw w S L0 4 (by decide) _) U F' N' TL (fun q hq => by (repeat (first | exact hq | refine List.Mem.tail _ ?_))) hoL hne hoS (by k_mem) (by k_mem) (fun q hq => by cases hq) rfl (by simp only [depth_deeper]; omega) (by simp only [units_deeper]; omega) ?_
    clear F' N' TL hown hoS oS
    rintro v h₄ tk₄ oS led F' N' TL hoS ⟨d0, tk5, rfl, hd0, hd4⟩
    simp only [List.nil_append] at N'
    k_steps
    all_goals with_reducible rename Fr _ _ _ _ => F'
    all_goals with_reducible rename News _ _ _ _ => N'
    all_goals refine Stop.mk ?_
    all_goals try
      refine draw_law (own := []) (led := led) (c_draw w S L0 16 (by decide) _) U F' N' TL (fun q hq => by (repeat (first | exact hq | refine List.Mem.tail _ ?_))) hoL hne hoS (by k_mem) (by k_mem) (fun q hq => by cases hq) rfl (by simp only [depth_deeper]; omega) (by simp only [units_deeper]; omega) ?_
      clear F' N' TL hoS oS
      rintro v h₅ tk₅ oS led F' N' TL hoS ⟨b0, tk6, rfl, hb0, hb16⟩
      simp only [List.nil_append] at N'
      k_steps
    all_goals with_reducible rename Fr _ _ _ _ => F'
    all_goals with_reducible rename News _ _ _ _ => N'
    all_goals try
      refine Stop.mk ?_
      refine gen_law (own := [(S, oS), (L0, oL)]) (led := led) (c_clen w (Txt.mul "a" (505 + b0)) (mul_ok _) (by rw [mul_size]; omega) _) U F' N' TL (fun q hq => by (repeat (first | exact hq | refine List.Mem.tail _ ?_))) (fun q hq => by
          rcases List.mem_cons.mp hq with rfl | hq
          · exact ⟨by k_mem, by obtain ⟨_, _, _, rfl⟩ := hoS; exact mutB_cls (by nofun)⟩
          · rw [List.mem_singleton.mp hq]; exact ⟨by k_mem, mL⟩) rfl (by simp only [depth_deeper]; omega) (by simp only [units_deeper]; omega) hb ?_
      clear F' N' TL hb
      rintro v s₄ led F' N' TL hb hos' ⟨t8, rfl⟩
      replace hos : s₄.os = s.os := hos'.trans hos
      clear hos'
      simp only [List.cons_append, List.nil_append] at N'
      rw [mul_lsum _ (by omega)]
      k_steps
    · exact absurd rfl (by assumption : (505 + _ : Int) ≠ 505 + _)
    all_goals with_reducible rename Fr _ _ _ _ => F'
    all_goals with_reducible rename News _ _ _ _ => N'
    all_goals refine Stop.mk ?_
    all_goals refine gen_law (own := [(S, oS), (L0, oL)]) (led := led) (c_clen w "" (.inl (fun c hc => by cases hc)) (by decide) _) U F' N' TL (fun q hq => by (repeat (first | exact hq | refine List.Mem.tail _ ?_))) (fun q hq => by
          rcases List.mem_cons.mp hq with rfl | hq
          · exact ⟨by k_mem, by obtain ⟨_, _, _, rfl⟩ := hoS; exact mutB_cls (by nofun)⟩
          · rw [List.mem_singleton.mp hq]; exact ⟨by k_mem, mL⟩) rfl (by simp only [depth_deeper]; omega) (by simp only [units_deeper]; omega) hb ?_
    all_goals clear F' N' TL hb
    all_goals rintro v s₄ led F' N' TL hb hos' ⟨t10, rfl⟩
    all_goals replace hos : s₄.os = s.os := hos'.trans hos
    all_goals clear hos'
    all_goals simp only [List.cons_append, List.nil_append] at N'
    all_goals rw [show lsum "" = 0 from rfl]
    all_goals k_steps
    all_goals with_reducible rename Fr _ _ _ _ => F'
    all_goals with_reducible rename News _ _ _ _ => N'
    all_goals refine Stop.mk ?_
    all_goals refine gen_law (own := [(S, oS), (L0, oL)]) (led := led) (c_isw w "" _) U F' N' TL (fun q hq => by (repeat (first | exact hq | refine List.Mem.tail _ ?_))) (fun q hq => by
          rcases List.mem_cons.mp hq with rfl | hq
          · exact ⟨by k_mem, by obtain ⟨_, _, _, rfl⟩ := hoS; exact mutB_cls (by nofun)⟩
          · rw [List.mem_singleton.mp hq]; exact ⟨by k_mem, mL⟩) rfl (by simp only [depth_deeper]; omega) (by simp only [units_deeper]; omega) hb ?_
    all_goals clear F' N' TL hb
    all_goals rintro v s₅ led F' N' TL hb hos' rfl
    all_goals replace hos : s₅.os = s.os := hos'.trans hos
    all_goals clear hos'
    all_goals simp only [List.cons_append, List.nil_append] at N'
    all_goals rw [show ((("" : Str).cps.toList.all fun c => lawPlain c)) = true from rfl]
    all_goals k_steps
    all_goals with_reducible rename Fr _ _ _ _ => F'
    all_goals with_reducible rename News _ _ _ _ => N'
    all_goals refine Stop.mk ?_
    all_goals refine gen_law (own := [(S, oS), (L0, oL)]) (led := led) (c_clen w ⟨#[20320, 769, 97]⟩ (.inl (by decide)) (by decide) _) U F' N' TL (fun q hq => by (repeat (first | exact hq | refine List.Mem.tail _ ?_))) (fun q hq => by
          rcases List.mem_cons.mp hq with rfl | hq
          · exact ⟨by k_mem, by obtain ⟨_, _, _, rfl⟩ := hoS; exact mutB_cls (by nofun)⟩
          · rw [List.mem_singleton.mp hq]; exact ⟨by k_mem, mL⟩) rfl (by simp only [depth_deeper]; omega) (by simp only [units_deeper]; omega) hb ?_
    all_goals clear F' N' TL hb
    all_goals rintro v s₅ led F' N' TL hb hos' ⟨t11, rfl⟩
    all_goals replace hos : s₅.os = s.os := hos'.trans hos
    all_goals clear hos'
    all_goals simp only [List.cons_append, List.nil_append] at N'
    all_goals rw [show lsum ⟨#[20320, 769, 97]⟩ = 3 from by decide]
    all_goals k_steps
    all_goals exact hQ _ _ (KT _ _ _ F') (tabLed_done TL F' N' fun q hq => by (repeat (first | exact hq | refine List.Mem.tail _ ?_))) hb hos rfl
  case turn =>
    clear F' N' TL hoS hb hos hlow hR
    rintro i v s₁ hi ⟨tv, rfl⟩ ⟨⟨m₂, oS, led, F', N', TL, hoS, hIq, x, t1, t2, e1, e2, e3, e4, hx, hxn⟩, hb, hos⟩ hst
    obtain ⟨oI, hoI, hcI⟩ : ∃ oI : Obj, s₁.heap.get? I = some oI ∧ oI.cls = .type "range_iterator" := ⟨_, hst, rfl⟩
    have N2 : News g L' s₁.heap ((I, oI) :: (S, oS) :: (L0, oL) :: led) := fun q hq => by
      rcases List.mem_cons.mp hq with rfl | hq
      · exact ⟨hoI, Ne.symm hLI, hgI⟩
      · exact N' q hq
    have hend : ∀ s₃ : Shared, LInv N g L' S L0 I oL s (LP S (i + 1)) s₃ → s₃.heap.get? I = some oI → LInv N g L' S L0 I oL s (LP S (i + 1)) s₃ ∧ ∀ b ∈ [I], ∀ o, s₁.heap.get? b = some o → s₃.heap.get? b = some o := fun s₃ V e => ⟨V, fun b hb o e1 => by
      rw [List.mem_singleton.mp hb] at e1 ⊢
      rw [hoI] at e1; cases e1; exact e⟩
    clear N' hst hoI hIq
    have q := set_eq (set_eq (set_eq (set_eq (rfl : m₂ = m₂) e1) e2) e3) e4
    rw [← q] at F'
    clear q e1 e2 e3 e4
    have mI : mutB N I oI = false := mutB_cls (by rw [hcI]; nofun)
    have mS : ∀ (i : Nat) t c, mutB N S (listOf #[.ref L0, .int i t] c) = false := fun _ _ _ => mutB_cls (by nofun)
    have mL : mutB N L0 oL = false := by obtain ⟨vs, ns, c, rfl, _⟩ := hoL; exact mutB_cls (by nofun)
    k_steps
    with_reducible rename Fr _ _ _ _ => F'
    with_reducible rename News _ _ _ _ => N'
    refine Stop.mk ?_
    refine draw_law (own := [(I, oI)]) (led := led) (c_number w S L0) U F' N' TL (fun q hq => by (repeat (first | exact hq | refine List.Mem.tail _ ?_))) hoL hne hoS (by k_mem) (by k_mem) (fun q hq => ?_) rfl (by simp only [depth_deeper]; omega) (by simp only [units_deeper]; omega) ?_
    · rw [List.mem_singleton.mp hq]
      obtain ⟨_, _, _, rfl⟩ := hoS
      exact ⟨by k_mem, fun e => by rw [show oI = _ from e] at hcI; exact absurd (Value.type.inj hcI) (by decide)⟩
    clear F' N' TL hoS oS led
    rintro v h₄ tk₄ oS led F' N' TL hoS ⟨n0, tk5, rfl, hn0, hn1⟩
    obtain ⟨k, rfl⟩ := Int.eq_ofNat_of_zero_le hn0
    simp only [List.cons_append, List.nil_append] at N'
    k_steps
    with_reducible rename Fr _ _ _ _ => F'
    with_reducible rename News _ _ _ _ => N'
    refine Stop.mk ?_
    refine pure_use (c_size w _ _) F' X' N' T' rfl (by simp only [depth_deeper]; omega) (by simp only [units_deeper]; omega) ?_
    clear F' N'
    rintro v h₅ tk₅ _ F' N' ⟨tz, rfl⟩
    k_steps
    with_reducible rename Fr _ _ _ _ => F'
    with_reducible rename News _ _ _ _ => N'
    refine Stop.mk ?_
    refine pure_use (c_get1 w k _) F' X' N' T' rfl (by simp only [depth_deeper]; omega) (by simp only [units_deeper]; omega) ?_
    clear F' N'
    rintro v h₆ tk₆ _ F' N' ⟨tz2, rfl⟩
    k_steps
    · exact absurd rfl (by assumption : lawSize (k : Int) ≠ lawSize (k : Int))
    with_reducible rename Fr _ _ _ _ => F'
    with_reducible rename News _ _ _ _ => N'
    refine Stop.mk ?_
    refine pure_use (c_get w k _ _ _) F' X' N' T' rfl (by simp only [depth_deeper]; omega) (by simp only [units_deeper]; omega) ?_
    clear F' N'
    rintro v h₇ tk₇ _ F' N' ⟨tz3, rfl⟩
    k_steps
    · exact absurd rfl (by assumption : lawSize (k : Int) ≠ lawSize (k : Int))
    with_reducible rename Fr _ _ _ _ => F'
    with_reducible rename News _ _ _ _ => N'
    refine Stop.mk ?_
    refine gen_law (own := [(S, oS), (L0, oL), (I, oI)]) (led := led) (c_isw w ⟨#[k]⟩ _) U F' N' TL (fun q hq => by (repeat (first | exact hq | refine List.Mem.tail _ ?_))) (fun q hq => ?_) rfl (by simp only [depth_deeper]; omega) (by simp only [units_deeper]; omega) hb ?_
    · rcases List.mem_cons.mp hq with rfl | hq
      · exact ⟨by k_mem, by obtain ⟨_, _, _, rfl⟩ := hoS; exact mS _ _ _⟩
      · rcases List.mem_cons.mp hq with rfl | hq
        · exact ⟨by k_mem, mL⟩
        · rw [List.mem_singleton.mp hq]; exact ⟨by k_mem, mI⟩
    clear F' N' TL hb
    rintro v s₂ led F' N' TL hb hos2 hv
    rw [show ((⟨#[k]⟩ : Str).cps.toList.all fun c => lawPlain c) = lawPlain (k : Int) by simp] at hv
    subst hv
    replace hos2 : s₂.os = s.os := hos2.trans hos
    clear hos
    simp only [List.cons_append, List.nil_append] at N'
    k_steps
    with_reducible rename Fr _ _ _ _ => F'
    with_reducible rename News _ _ _ _ => N'
    refine Stop.mk ?_
    refine pure_use (c_plain w k _) F' X' N' T' rfl (by simp only [depth_deeper]; omega) (by simp only [units_deeper]; omega) ?_
    clear F' N'
    rintro v h₈ tk₈ _ F' N' rfl
    k_steps
    · exact absurd (by assumption : (lawPlain (k : Int) != lawPlain (k : Int)) = true) (by simp)
    with_reducible rename Fr _ _ _ _ => F'
    with_reducible rename News _ _ _ _ => N'
    refine Stop.mk ?_
    refine pure_use (c_plain w k _) F' X' N' T' rfl (by simp only [depth_deeper]; omega) (by simp only [units_deeper]; omega) ?_
    clear F' N'
    rintro v h₉ tk₉ _ F' N' rfl
    k_steps
    · exact absurd (law_one (by assumption : lawPlain (k : Int) = true)) (by assumption)
    all_goals with_reducible rename Fr _ _ _ _ => F'
    all_goals with_reducible rename News _ _ _ _ => N'
    all_goals refine Stop.mk ?_
    all_goals refine gen_law (own := [(S, oS), (L0, oL), (I, oI)]) (led := led) (c_clen w ⟨#[k]⟩ (cellOk_one k) (Nat.lt_of_sub_eq_succ rfl) _) U F' N' TL (fun q hq => by (repeat (first | exact hq | refine List.Mem.tail _ ?_))) (fun q hq => by
        rcases List.mem_cons.mp hq with rfl | hq
        · exact ⟨by k_mem, by obtain ⟨_, _, _, rfl⟩ := hoS; exact mS _ _ _⟩
        · rcases List.mem_cons.mp hq with rfl | hq
          · exact ⟨by k_mem, mL⟩
          · rw [List.mem_singleton.mp hq]; exact ⟨by k_mem, mI⟩) rfl (by simp only [depth_deeper]; omega) (by simp only [units_deeper]; omega) hb ?_
    all_goals clear F' N' TL hb
    all_goals rintro v s₃ led F' N' TL hb hos3 ⟨t9, rfl⟩
    all_goals rw [lsum_one]
    all_goals replace hos3 : s₃.os = s.os := hos3.trans hos2
    all_goals simp only [List.cons_append, List.nil_append] at N'
    all_goals k_steps
    all_goals try exact absurd rfl (by assumption : lawSize (k : Int) ≠ lawSize (k : Int))
    all_goals with_reducible rename Fr _ _ _ _ => F'
    all_goals with_reducible rename News _ _ _ _ => N'
    all_goals try
      refine Stop.mk ?_
      refine pure_use (c_plain w k _) F' X' N' T' rfl (by simp only [depth_deeper]; omega) (by simp only [units_deeper]; omega) ?_
      clear F' N'
      rintro v h₁₀ tk₁₀ _ F' N' rfl
      k_steps
    all_goals with_reducible rename Fr _ _ _ _ => F'
    all_goals with_reducible rename News _ _ _ _ => N'
    all_goals refine hend _ (LInv.mk' U F' N' TL (fun q hq => by (repeat (first | exact hq | refine List.Mem.tail _ ?_))) (by k_mem) (by k_mem) (N' (I, oI) (by k_mem)).1 hcI hoS ?_ hb hos3) (N' (I, oI) (by k_mem)).1
    all_goals first
      | exact ⟨x, _, _, rfl, rfl, rfl, rfl, hx, Nat.le_succ_of_le hxn⟩
      | exact ⟨x ++ ⟨#[k]⟩, _, _, rfl, rfl, by rw [lsum_app]; rfl, by rw [aplain_app, (by assumption : aplain x = false), Bool.false_and]; rfl, good_app hx (by assumption), size_app _ _ _ hxn⟩
      | exact ⟨x ++ ⟨#[k]⟩, _, _, rfl, rfl, by rw [lsum_app]; rfl, by rw [aplain_app, (by assumption : aplain x = true), Bool.true_and]; rfl, good_app hx (by assumption), size_app _ _ _ hxn⟩
end Mine
end

section
open PySem PySem.W PySem.Spec PySem.Calls PyProof.Rows PyProof.Rows.LCg
namespace Mine
/-- what the law keeps is what the claim asks to be kept -/
theorem oldK_of {h h' : Heap} (hT : TabsAt [(49, 45), (80, 76)] h) (K : KeepT h.objs.size h h') (TS : TabS h.objs.size h') : OldK h h' := by
  have g45 : ∃ ps, h'.get? 45 = some (tabObj ps) := TS.1.2.elim (fun e => ⟨_, e⟩) fun ⟨_, _, e, _⟩ => ⟨_, e⟩
  have g76 : ∃ ps, h'.get? 76 = some (tabObj ps) := TS.2.2.elim (fun e => ⟨_, e⟩) fun ⟨_, e⟩ => ⟨_, e⟩
  have t45 := hT (49, 45) (.head _)
  have t76 := hT (80, 76) (.tail _ (.head _))
  have other : ∀ b o, b ≠ 45 → b ≠ 76 → h.get? b = some o → h'.get? b = some o := fun b o h1 h2 e => K b o e (mutB_low h1 h2 (Heap.lt_size e))
  refine ⟨fun b o e => ?_, fun b o e => ?_⟩
  · by_cases h1 : b = 45
    · subst h1
      obtain ⟨ps, e2⟩ := g45
      have e3 := t45.2
      rw [e] at e3; cases e3
      exact .inr (.inl ⟨(t45.1.tab t45.2).isCodeTable, rfl, #[], ps, rfl, by rw [Array.empty_append]; exact e2⟩)
    · by_cases h2 : b = 76
      · subst h2
        obtain ⟨ps, e2⟩ := g76
        have e3 := t76.2
        rw [e] at e3; cases e3
        exact .inr (.inl ⟨(t76.1.tab t76.2).isCodeTable, rfl, #[], ps, rfl, by rw [Array.empty_append]; exact e2⟩)
      · exact .inl (other b o h1 h2 e)
  · by_cases h1 : b = 45
    · subst h1; obtain ⟨ps, e2⟩ := g45; exact ⟨_, e2⟩
    · by_cases h2 : b = 76
      · subst h2; obtain ⟨ps, e2⟩ := g76; exact ⟨_, e2⟩
      · exact ⟨_, other b o h1 h2 e⟩
theorem tabS_of {N : Nat} {h : Heap} (hT : TabsAt [(49, 45), (80, 76)] h) : TabS N h :=
  ⟨⟨(hT (49, 45) (.head _)).1, .inl (hT (49, 45) (.head _)).2⟩, (hT (80, 76) (.tail _ (.head _))).1, .inl (hT (80, 76) (.tail _ (.head _))).2⟩
theorem baseOk_of {K : Frag} {p : Program} {loose : List Str} {mean : ExcName → Option Value} {mg mb : Str → Option Value} {h : Heap} (hT : TabsAt [(49, 45), (80, 76)] h) (X : K.In h) (T : Top p loose mean mg mb h) (hK : noTabs K = true) :
    BaseOk h.objs.size K topProg (loose ++ (recsOf p).map (·.name) ++ (litsOf p).map (·.1) ++ (clssOf p loose).map (·.name)) mean mg mb (ghostOf h [(49, 45), (80, 76)]) h where
  X := ghost_K hT X hK
  T := ghost_top hT T
  nm := fun b o e => by
    have e1 := of_hideAll _ e
    refine mutB_low (fun q => ?_) (fun q => ?_) (Heap.lt_size e1)
    · rw [q] at e
      have := hideAll_none ([(49, 45), (80, 76)].map (fun q : Addr × Addr => q.2)) (b := 45) (h := h) (by decide)
      rw [this] at e; cases e
    · rw [q] at e
      have := hideAll_none ([(49, 45), (80, 76)].map (fun q : Addr × Addr => q.2)) (b := 76) (h := h) (by decide)
      rw [this] at e; cases e
  le := fun b o e => of_hideAll _ e
end Mine
end

open PySem PySem.W PySem.Spec PySem.Calls PyProof.Rows PyProof.Rows.LCg
open Mine in
theorem PySem.Challenge.cw_ff5020_01_holds : PySem.Challenge.rw_ff5020_01.Holds := by
  refine Mine.hd ?_
  k_fill
  intro w s₀ s₁ mg mb G Y fa o pm cd doc dV kV ho hd2 hcd hD hmg hg args vals as hpre hlay hrd hwl hlo
  have KX := kIn_of Y
  have X := (Ground.X G).1
  have V := (Ground.X G).2
  refine Ground.open G ?_
  intro T B D TE TW
  try (refine guard_noD D (by decide +kernel) ?_; clear D)
  have hT9 : TabsAt [(49, 45), (80, 76)] s₁.heap := List.forall_mem_cons.mpr ⟨tab_of (x := "_is_single_cell_widths") (c := 49) (P := 45) T KX rfl (by kernel_rfl), List.forall_mem_cons.mpr ⟨tab_of (x := "_cell_len") (c := 80) (P := 76) T KX rfl (by kernel_rfl), fun _ h => nomatch h⟩⟩
  have hfa : fa = 133 := by
    have h1 := mg_of KX T.g (show nsIn (hd.heap_39 w.params) mainGlobals "law" = some (some (.ref 133)) from by kernel_rfl)
    have h2 : mg "law" = some (.ref fa) := hmg
    rw [h1] at h2
    exact (Value.ref.inj (Option.some.inj h2)).symm
  subst hfa
  clear hmg ho hd2 hcd hD B TE TW X V
  wrow_args hpre hlay hrd hwl hlo
  refine enter_call ?_
  w_top on
  rename (¬ ((63 : Nat) : Int) < _) => hn63
  rename List Int => ns9
  with_reducible rename IntsAre _ _ => hI9
  with_reducible rename Heap.IsList _ _ _ => hL9
  have h49 := (hT9 (49, 45) (.head _)).2
  have h80 := (hT9 (80, 76) (.tail _ (.head _))).2
  have h76N : 76 < s₁.heap.objs.size := Heap.lt_size h80
  refine codeAny_mono (c_law w _ _ _ hI9 (by omega) s₁.heap.objs.size topProg _ _ mg mb _ callerA s₁
    (fun v s' => GoodWG PySem.Challenge.rw_ff5020_01.row.claim (classAt s₀.heap) (ExcName.means s₀.heap) [ofPy (PyData.list (ns9.map PyData.int))] s₁ (.ok (.ret v)) s') (fun _ _ => False)
    rfl (by decide) (by decide) (baseOk_of hT9 KX T (by kernel_rfl)) (tabS_of hT9) h76N (Nat.le_refl _) (.of_eq hg) hL9 ?_) fun r s' h => ?_
  · rintro v s' hk hts hb hos rfl
    exact ⟨.inl ⟨_, _, [], rfl, fun _ => rfl, ReadsW.bool true, by first | rfl | wrow_post, fun _ => ⟨List.nodup_nil, fun _ hm => (nomatch hm)⟩⟩, oldK_of hT9 hk hts, hos, hb⟩
  · match r, h with
    | .ok (.ret v), h => exact h
    | .ok .next, h => exact h.elim
    | .ok .brk, h => exact h.elim
    | .ok .cont, h => exact h.elim
    | .error e, h => exact h.elim

