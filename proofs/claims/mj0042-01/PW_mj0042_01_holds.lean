import PyProof.Rows.All
import Wide.All
import OpenK.AllK
import Wide.FinOn
import PySem.Challenge.RW_mj0042_01
open PySem PySem.W PyProof.Rows
set_option Elab.async false
set_option linter.all false

-- MHead
namespace Mine
set_option maxRecDepth 100000
set_option maxHeartbeats 8000000
open_top hd for PySem.Challenge.rw_mj0042_01
end Mine

-- MBase
namespace Mine
/-- the end of a call of ours: what is told of the value, and all that stood stands -/
structure Done (s : Shared) (P : Heap → Value → Prop) (v : Value) (s' : Shared) : Prop where
  val : P s'.heap v
  keeps : Keeps s s'

theorem Done.intro {s : Shared} {P : Heap → Value → Prop} {v : Value} {h' : Heap} {tk : Nat} {L : Addr} {m : Str → Option Value} (F : Fr s.heap L h' m) (hP : P h' v) : Done s P v { s with heap := h', toks := tk } :=
  ⟨hP, h', tk, rfl, F.keep⟩

/-- a value that is the text x -/
def IsS (x : Str) (_ : Heap) (v : Value) : Prop := ∃ t, v = .str x t
def IsB (b : Bool) (_ : Heap) (v : Value) : Prop := v = .bool b

/-- a frame's name holds a text, an int -/
def HasS (m : Str → Option Value) (n : String) (x : Str) : Prop := ∃ t, m (Str.ofString n) = some (.str x t)
def HasI (m : Str → Option Value) (n : String) (i : Int) : Prop := ∃ t, m (Str.ofString n) = some (.int i t)
theorem HasS.of {m : Str → Option Value} {n : String} {x y : Str} {t : Tok} (h : m (Str.ofString n) = some (.str y t)) (e : y = x) : HasS m n x := ⟨t, e ▸ h⟩
theorem HasI.of {m : Str → Option Value} {n : String} {i j : Int} {t : Tok} (h : m (Str.ofString n) = some (.int j t)) (e : j = i) : HasI m n i := ⟨t, e ▸ h⟩
theorem HasS.under {m : Str → Option Value} {n : String} {x : Str} {y : Str} {v : Option Value} (h : HasS m n x) (e : Str.ofString n ≠ y := by decide) : HasS (fun z => if z = y then v else m z) n x := by
  obtain ⟨t, h⟩ := h
  exact ⟨t, by show (if Str.ofString n = y then v else m (Str.ofString n)) = _; rw [if_neg e]; exact h⟩
theorem HasI.under {m : Str → Option Value} {n : String} {x : Int} {y : Str} {v : Option Value} (h : HasI m n x) (e : Str.ofString n ≠ y := by decide) : HasI (fun z => if z = y then v else m z) n x := by
  obtain ⟨t, h⟩ := h
  exact ⟨t, by show (if Str.ofString n = y then v else m (Str.ofString n)) = _; rw [if_neg e]; exact h⟩

section
variable {prog : Program} {w : World} {A : Around} {E : Value → Shared → Prop} {s : Shared} {h₀ : Heap} {L : Addr} {m : Str → Option Value} {news : List (Addr × Obj)}

theorem Fr.ext {h h' : Heap} (F : Fr h₀ L h m) (k : ∀ b o, h.get? b = some o → h'.get? b = some o) : Fr h₀ L h' m :=
  ⟨F.ns.keeps k, fun b o e => k b o (F.keep b o e), F.above⟩
theorem News.ext {h h' : Heap} (N : News h₀ L h news) (k : ∀ b o, h.get? b = some o → h'.get? b = some o) : News h₀ L h' news :=
  fun p hp => ⟨k _ _ (N p hp).1, (N p hp).2⟩
theorem Fr.pin {h : Heap} {x : Str} {v : Value} (F : Fr h₀ L h m) (hx : m x = some v) : Fr h₀ L h (fun y => if y = x then some v else m y) := by
  have e : (fun y => if y = x then some v else m y) = m := by
    funext y
    by_cases h : y = x
    · subst h; simp [hx]
    · simp [h]
  rw [e]; exact F

theorem HasS.pin {h : Heap} {n : String} {x : Str} (H : HasS m n x) (F : Fr h₀ L h m) : ∃ t, Fr h₀ L h (fun y => if y = Str.ofString n then some (.str x t) else m y) :=
  let ⟨t, e⟩ := H; ⟨t, Fr.pin F e⟩
theorem HasI.pin {h : Heap} {n : String} {x : Int} (H : HasI m n x) (F : Fr h₀ L h m) : ∃ t, Fr h₀ L h (fun y => if y = Str.ofString n then some (.int x t) else m y) :=
  let ⟨t, e⟩ := H; ⟨t, Fr.pin F e⟩

/-- a contract used -/
theorem use_done {P : Heap → Value → Prop} {t : Sem Value} {Q : Value → Shared → Prop} (C : wpAny (model prog w) A t (Done s P) E s) (F : Fr h₀ L s.heap m) (N : News h₀ L s.heap news)
    (h : ∀ v h' tk, P h' v → Fr h₀ L h' m → News h₀ L h' news → (∀ b o, s.heap.get? b = some o → h'.get? b = some o) → Q v { s with heap := h', toks := tk }) : wpAny (model prog w) A t Q E s := by
  refine wpAny_mono C (fun v s' d => ?_) fun _ _ e => e
  obtain ⟨hv, h', tk, rfl, k⟩ := d
  exact h v h' tk hv (Fr.ext F k) (News.ext N k) k

theorem enter {K : Frag} {p : Program} {loose : List Str} {mg mb : Str → Option Value} {P : Heap → Value → Prop}
    {name qual : Str} {params : Arguments} {body : List Stmt} {scope : Scope} {dV kV doc pm cdv ct oc : Value} {an od : Option Addr} {osl : Array (Option Value)} {f : Addr} {vals : List Value} {binds : List (Str × Value)}
    (X : K.In s.heap) (T : TopRead p loose mg mb s.heap) (hroom : A.depth < recursionLimit)
    (ho : K.lookup f = some ⟨oc, od, .func (fnX name qual params body scope [] dV kV doc pm an cdv ct), osl⟩) (hcd : codeIn K cdv qual = true)
    (hbind : BindsTo s (fnX name qual params body scope [] dV kV doc pm an cdv ct) ⟨vals, []⟩ binds) (hloc : ∀ y ∈ binds, scope.names.lookup y.1 = some .local)
    (hcell : ∀ x ∈ scope.names, x.2 ≠ .cell) (hco : scope.isCoroutine = false) (hgen : scope.isGenerator = false) (hk : scope.kind = .function)
    (h : ∀ h₁, Fr s.heap s.heap.objs.size h₁ (fun y => binds.reverse.lookup y) → News s.heap s.heap.objs.size h₁ [] →
      wpAny (model prog w) (A.deeper (envX qual scope s.heap.objs.size f cdv [])) (execs body (envX qual scope s.heap.objs.size f cdv []))
        (fun fl s' => Done s P (match fl with | .ret v => v | _ => .none) s') (fun _ _ => False)
        { s with heap := h₁, toks := s.toks + binds.length }) :
    wpAny (model prog w) A (call (.ref f) vals) (Done s P) E s := by
  refine wpAny_call (codeAny_call_def (fd := fnX name qual params body scope [] dV kV doc pm an cdv ct) (body := body) (binds := binds) hroom (X _ _ ho) rfl T.nolimit (codeRec_of X hcd) rfl hbind hcell hloc (fun h₁ hns hk₁ => ?_) hco hgen hk)
  exact wpAny_mono (h h₁ ⟨hns, hk₁, Nat.le_refl _⟩ News.nil) (fun _ _ d => d) fun _ _ e => e.elim
end
end Mine

-- M1
namespace Mine
local macro_rules | `(tactic| walk_at "MY STEPS") => `(tactic| repeat' (first
  | ((fail_if_success (with_reducible show wpAny _ _ (exec (Stmt.While _ _ _ _) _) _ _ _)); (fail_if_success (with_reducible show wpAny _ _ (exec (Stmt.For _ _ _ _ _) _) _ _ _)); (fail_if_success (with_reducible show Done _ _ _ _)); (first | walk1 | (dsimp only; walk1)))))

def letterC (c : Nat) (g : Bool) : Nat := if (65 ≤ c ∧ c ≤ 90) ∨ (97 ≤ c ∧ c ≤ 122) then c % 32 + (if g then 64 else 96) else c

theorem isS_of {x y : Str} {h : Heap} {t : Tok} (e : x = y) : IsS y h (.str x t) := e ▸ ⟨t, rfl⟩
theorem one_eq {a b : Nat} (h : a = b) : (⟨#[a]⟩ : Str) = ⟨#[b]⟩ := h ▸ rfl
theorem letter_up (c : Nat) (k : Nat) : ((c : Int).fmod 32 + (k : Int)).toNat = c % 32 + k := by
  rw [Int.fmod_eq_emod_of_nonneg _ (by decide)]
  omega

set_option maxRecDepth 100000 in
set_option maxHeartbeats 8000000 in
theorem letter_spec {w : World} {loose : List Str} {mg mb : Str → Option Value} {d un : Nat} {fr : Option (List Env)} {gd : Option (List Code)} {s : Shared} {E : Value → Shared → Prop} {c : Nat} {t : Tok} {g : Bool}
  (X : (hd.heap_39 w.params).In s.heap) (T : TopRead hd.view_39 loose mg mb s.heap) (hr : d + 10 < recursionLimit) (hu : un + 100 < cLine) (hc : c < 128) :
  wpAny (model PySem.Challenge.rw_mj0042_01.row.prog w) ⟨none, d, fr, gd, un⟩ (call (.ref 78) [.str ⟨#[c]⟩ t, .bool g]) (Done s (IsS ⟨#[letterC c g]⟩)) E s := by
  revert X; k_fill; intro X
  refine' enter (binds := [(Str.ofString "sign", .str ⟨#[c]⟩ t), (Str.ofString "great", .bool g)]) ?X ?T ?r ?o ?c ?b ?l ?ce ?co ?ge ?ki ?_
  (case X => assumption); (case T => assumption); (case r => (dsimp only; omega)); (case o => k_is); (case c => k_is); (case b => exact BindsTo.of_eq rfl); (case l => exact locs rfl); (case ce => decide); (case co => rfl); (case ge => rfl); (case ki => rfl)
  intro h₁ F N; dsimp only [List.length_cons, List.length_nil]
  walk_at "MY STEPS"
  all_goals (refine Done.intro (by assumption) (isS_of ?_); (try subst g); refine one_eq ?_; unfold letterC)
  all_goals first
    | (rw [if_pos (by omega)]; exact letter_up c _)
    | (rw [if_neg (by omega)])
end Mine

-- MLoop
namespace Mine
section
variable {prog : Program} {w : World} {A : Around} {E : Value → Shared → Prop} {s : Shared} {env : Env} {h₀ : Heap} {x : Str} {body : List Stmt} {Q : Flow → Shared → Prop}

/-- a turn's end -/
def TurnEnd (h₀ : Heap) (L : Addr) (J : (Str → Option Value) → Prop) (own : List (Addr × Obj)) (s₁ : Shared) (Q : Flow → Shared → Prop) (f : Flow) (s₂ : Shared) : Prop :=
  match f with
  | .ret v => Q (.ret v) s₂
  | .brk => Q .next s₂
  | _ => ∃ h' tk m', s₂ = { s₁ with heap := h', toks := tk } ∧ Fr h₀ L h' m' ∧ News h₀ L h' own ∧ J m'
theorem TurnEnd.go {L : Addr} {J : (Str → Option Value) → Prop} {own : List (Addr × Obj)} {s₁ : Shared} {h' : Heap} {tk : Nat} {m' : Str → Option Value} (F : Fr h₀ L h' m') (N : News h₀ L h' own) (hj : J m') :
    TurnEnd h₀ L J own s₁ Q .next { s₁ with heap := h', toks := tk } := ⟨h', tk, m', rfl, F, N, hj⟩

theorem for_text {xt : Str} {tx : Tok} {m₀ : Str → Option Value} (J : Nat → (Str → Option Value) → Prop) (hh : A.handled = none) (F : Fr h₀ env.locals s.heap m₀) (hj : J 0 m₀)
    (turn : ∀ i c t m₁ h tk own, xt.cps[i]? = some c → J i m₁ → Fr h₀ env.locals h (fun y => if y = x then some (.str ⟨#[c]⟩ t) else m₁ y) → News h₀ env.locals h own →
      wpAny (model prog w) A (execs body env) (TurnEnd h₀ env.locals (J (i + 1)) own { s with heap := h, toks := tk } Q) E { s with heap := h, toks := tk })
    (done : ∀ m₁ h tk, J xt.cps.size m₁ → Fr h₀ env.locals h m₁ → Q .next { s with heap := h, toks := tk }) :
    wpAny (model prog w) A (pyIter (.str xt tx)) (fun it s₂ => LoopAtV prog w A h₀ env x body Q E it s₂) E s := by
  refine wpAny_pyIter_str fun o St hW hst => ?_
  have W := hW A hh
  refine loop_invN (fun i m nx => J i m) W ?_ ?_ ?_ ?_ hst (F.push _) (news := []) (fun p hp => nomatch hp) hj ?_ ?_
  · intro hm
    exact absurd F.ns.lt ((List.mem_singleton.mp hm) ▸ Nat.lt_irrefl _)
  · intro b' hb
    rw [List.mem_singleton.mp hb]
    exact next_is_new F
  · intro p hp; exact nomatch hp
  · intro p hp; exact nomatch hp
  · rintro i v m₁ nx h tk own hi ⟨c, u, hc, rfl⟩ hnx hoff hJ F₁ N₁
    obtain rfl : nx = [] := by simpa using hnx
    refine wpAny_mono (turn i c u m₁ h tk own hc hJ F₁ N₁) (fun f s₂ q => ?_) fun _ _ e => e
    have fin : (∃ h' tk' m', s₂ = { s with heap := h', toks := tk' } ∧ Fr h₀ env.locals h' m' ∧ News h₀ env.locals h' own ∧ J (i + 1) m') → InvEndN h₀ env.locals (fun m _ => J (i + 1) m) own [] { s with heap := h, toks := tk } s₂ := by
      rintro ⟨h', tk', m', rfl, F', N', hj'⟩
      exact ⟨h', tk', m', own, [], rfl, F', N', (fun p hp => nomatch hp), (fun p hp => hp), rfl, hj'⟩
    cases f with
    | ret v => exact q
    | brk => exact q
    | next => exact fin q
    | cont => exact fin q
  · intro m₁ nx h tk hJ F₁ _
    exact done m₁ h tk hJ F₁
end
end Mine

-- MLoop2
namespace Mine
section
variable {prog : Program} {w : World} {A : Around} {E : Value → Shared → Prop} {s : Shared} {env : Env} {h₀ : Heap} {x : Str} {body : List Stmt} {Q : Flow → Shared → Prop}

/-- a turn's end, with a ledger that may grow -/
def TurnEndN (h₀ : Heap) (L : Addr) (J : (Str → Option Value) → List (Addr × Obj) → Prop) (own : List (Addr × Obj)) (s₁ : Shared) (Q : Flow → Shared → Prop) (f : Flow) (s₂ : Shared) : Prop :=
  match f with
  | .ret v => Q (.ret v) s₂
  | .brk => Q .next s₂
  | _ => ∃ h' tk m' news', s₂ = { s₁ with heap := h', toks := tk } ∧ Fr h₀ L h' m' ∧ News h₀ L h' (news' ++ own) ∧ (∀ p ∈ news', ∀ q ∈ own, p.1 ≠ q.1) ∧ J m' news'
theorem TurnEndN.go {L : Addr} {J : (Str → Option Value) → List (Addr × Obj) → Prop} {own news' : List (Addr × Obj)} {s₁ : Shared} {h' : Heap} {tk : Nat} {m' : Str → Option Value} (F : Fr h₀ L h' m') (N : News h₀ L h' (news' ++ own))
    (ha : ∀ p ∈ news', ∀ q ∈ own, p.1 ≠ q.1) (hj : J m' news') : TurnEndN h₀ L J own s₁ Q .next { s₁ with heap := h', toks := tk } := ⟨h', tk, m', news', rfl, F, N, ha, hj⟩

theorem for_range {n : Nat} {r : Addr} {t u v : Tok} {m₀ : Str → Option Value} {news : List (Addr × Obj)} (J : Nat → (Str → Option Value) → List (Addr × Obj) → Prop) (hh : A.handled = none)
    (hr : IsRange s.heap r 0 n 1 t u v) (hn : n < 2 ^ 62) (F : Fr h₀ env.locals s.heap m₀) (N : News h₀ env.locals s.heap news) (hj : J 0 m₀ news)
    (turn : ∀ i ti m₁ news₁ h tk own, i < n → J i m₁ news₁ → (∀ p ∈ news₁, ∀ q ∈ own, p.1 ≠ q.1) → Fr h₀ env.locals h (fun y => if y = x then some (.int (i : Nat) ti) else m₁ y) → News h₀ env.locals h (news₁ ++ own) →
      wpAny (model prog w) A (execs body env) (TurnEndN h₀ env.locals (J (i + 1)) own { s with heap := h, toks := tk } Q) E { s with heap := h, toks := tk })
    (done : ∀ m₁ news₁ h tk, J n m₁ news₁ → Fr h₀ env.locals h m₁ → News h₀ env.locals h news₁ → Q .next { s with heap := h, toks := tk }) :
    wpAny (model prog w) A (pyIter (.ref r)) (fun it s₂ => LoopAtV prog w A h₀ env x body Q E it s₂) E s := by
  have hsz : Builtin.Range.rangeSize 0 n 1 = (n : Int) := by
    rw [rangeSize_one]; split <;> omega
  refine wpAny_pyIter_range hr (small_one (by omega) (by omega) (by omega) (by omega)) ?_
  have W := Walks.range (prog := prog) (w := w) hh s.heap.objs.size 0 1 n
  refine ⟨_, _, _, n, _, _, m₀, news, J, rfl, W, ?_, ?_, ?_, ?_, F.push _, (fun p hp => ⟨Heap.get?_push_of_some _ (N p hp).1, (N p hp).2⟩), hj, ?_, ?_⟩
  · intro hm
    exact absurd F.ns.lt ((List.mem_singleton.mp hm) ▸ Nat.lt_irrefl _)
  · intro b' hb
    rw [List.mem_singleton.mp hb]
    exact next_is_new F
  · intro p hp hI
    exact absurd (Heap.lt_size (N p hp).1) ((List.mem_singleton.mp hI) ▸ Nat.lt_irrefl _)
  · show IsRangeIter _ _ _ _ _
    unfold IsRangeIter
    rw [hsz]
    simp only [Int.ofNat_zero, Int.zero_mul, Int.add_zero, Int.sub_zero]
    exact Heap.get?_push_size _ rfl
  · rintro i v m₁ news₁ s₁ own ⟨hh', tk', rfl⟩ hin ⟨ti, rfl⟩ hJ hoff hown hobj hall hst F₁ N₁
    have hstI : (s.heap.objs.size, _) ∈ own := hall s.heap.objs.size (.head _) (next_is_new F) _ hst
    have hsep : ∀ p ∈ news₁, ∀ q ∈ own, p.1 ≠ q.1 := fun p hp q hq e => hoff p hp (e ▸ hown q hq)
    have N₂ : News h₀ env.locals hh' (news₁ ++ own) := fun p hp => N₁ p ((List.mem_append.mp hp).elim (fun h => List.mem_append.mpr (.inr h)) fun h => List.mem_append.mpr (.inl h))
    have e0 : (0 : Int) + (i : Nat) * 1 = (i : Nat) := by omega
    rw [e0] at F₁
    refine wpAny_mono (turn i ti m₁ news₁ hh' tk' own hin hJ hsep F₁ N₂) (fun f s₂ q => ?_) fun _ _ e => e
    have fin : (∃ h' tk m' news', s₂ = { s with heap := h', toks := tk } ∧ Fr h₀ env.locals h' m' ∧ News h₀ env.locals h' (news' ++ own) ∧ (∀ p ∈ news', ∀ q ∈ own, p.1 ≠ q.1) ∧ J (i + 1) m' news') →
        LoopStepU h₀ env.locals [s.heap.objs.size] own (J (i + 1)) { s with heap := hh', toks := tk' } .next s₂ := by
      rintro ⟨h', tk, m', news', rfl, F', N', ha, hj'⟩
      refine ⟨rfl, h', tk, m', news', rfl, F', fun p hp => N' p ((List.mem_append.mp hp).elim (fun h => List.mem_append.mpr (.inr h)) fun h => List.mem_append.mpr (.inl h)), fun p hp hI => ?_, hj'⟩
      exact ha p hp _ hstI (List.mem_singleton.mp hI)
    cases f with
    | ret v => exact q
    | brk => exact q
    | next => exact fin q
    | cont => exact fin q
  · intro h' tk m' news' F' N' _ hJ
    exact done m' news' h' tk hJ F' N'

theorem tuple_made {A : Around} {L : Addr} {m : Str → Option Value} {news : List (Addr × Obj)} {vs : List Value} {Q : Value → Shared → Prop} (F : Fr h₀ L s.heap m) (N : News h₀ L s.heap news)
    (h : ∀ h' a, Fr h₀ L h' m → News h₀ L h' ((a, { cls := .type "tuple", data := .seq vs.toArray }) :: news) → (∀ p ∈ news, p.1 ≠ a) → Q (.ref a) { s with heap := h' }) (hsz : vs.length ≤ sizeLine) :
    wpAny (model prog w) A (newTuple vs) Q E s :=
  newTuple_N F N (fun h' F' N' => h h' _ F' N' fun p hp => Nat.ne_of_lt (Heap.lt_size (N p hp).1)) hsz

theorem append_any {A : Around} {L D : Addr} {m : Str → Option Value} {news : List (Addr × Obj)} {its : Array Value} {n : Nat} {v : Value} {Q : Value → Shared → Prop} (F : Fr h₀ L s.heap m) (N : News h₀ L s.heap ((D, W.listOf its n) :: news)) (ha : ∀ p ∈ news, p.1 ≠ D)
    (h : ∀ h', Fr h₀ L h' m → News h₀ L h' ((D, W.listOf (its.push v) (n + 1)) :: news) → Q .none { s with heap := h' }) (hsz : its.size ≤ sizeLine) : wpAny (model prog w) A (call (.builtin "list.append") [.ref D, v]) Q E s :=
  append_K F N (Upd.head ha) h hsz
theorem News.sub {h : Heap} {L : Addr} {a b : List (Addr × Obj)} (N : News h₀ L h a) (hs : ∀ p ∈ b, p ∈ a) : News h₀ L h b := fun p hp => N p (hs p hp)
end
end Mine

-- M2
namespace Mine
local macro_rules | `(tactic| walk_at "MY STEPS") => `(tactic| repeat' (first
  | ((fail_if_success (with_reducible show wpAny _ _ (exec (Stmt.While _ _ _ _) _) _ _ _)); (fail_if_success (with_reducible show wpAny _ _ (exec (Stmt.For _ _ _ _ _) _) _ _ _)); (fail_if_success (with_reducible show Done _ _ _ _)); (fail_if_success (with_reducible show wpAny _ _ (call (Value.ref _) _) _ _ _)); (fail_if_success (with_reducible show TurnEnd _ _ _ _ _ _ _ _)); (first | walk1 | (dsimp only; walk1)))))

/-- the text with these codes -/
abbrev S (l : List Nat) : Str := ⟨l.toArray⟩
def strO : Option Nat → Str
  | none => S []
  | some c => S [c]
def cappedL (mk : Nat) : Option Nat → List Nat → List Nat
  | _, [] => []
  | last, c :: r => (if c = mk then c else letterC c (last == some mk || last.isNone)) :: cappedL mk (some c) r
def lastOf (ah : Option Nat) (l : List Nat) : Option Nat := l.getLast?.or ah
theorem cappedL_snoc (mk c : Nat) : ∀ (l : List Nat) (ah : Option Nat), cappedL mk ah (l ++ [c]) = cappedL mk ah l ++ [if c = mk then c else letterC c (lastOf ah l == some mk || (lastOf ah l).isNone)]
  | [], ah => by simp [cappedL, lastOf]
  | a :: r, ah => by
    have h : lastOf ah (a :: r) = lastOf (some a) r := by
      unfold lastOf
      cases r with
      | nil => simp
      | cons b r => rw [List.getLast?_cons_cons]; simp [List.getLast?_cons]
    rw [List.cons_append, cappedL, cappedL_snoc mk c r (some a), cappedL, h]
    rfl
theorem lastOf_snoc (ah : Option Nat) (l : List Nat) (c : Nat) : lastOf ah (l ++ [c]) = some c := by simp [lastOf]
theorem S_append (a b : List Nat) : S (a ++ b) = S a ++ S b := Str.ext' (by rw [Str.cps_append]; simp)
theorem S_length (l : List Nat) : (S l).length = l.length := by simp [Str.length]
theorem S_toList (x : Str) : S x.cps.toList = x := by cases x; simp
theorem take_succ_snoc {l : List Nat} {i c : Nat} (h : l[i]? = some c) : l.take (i + 1) = l.take i ++ [c] := by
  rw [List.take_add_one, h]; rfl
theorem strO_eq {o : Option Nat} {k : Nat} : (strO o == S [k]) = true ↔ o = some k := by cases o <;> simp [strO, S]
theorem strO_ne {o : Option Nat} {k : Nat} (h : (strO o == S [k]) = false) : (o == some k) = false := by
  cases hb : (o == some k) with
  | false => rfl
  | true => rw [strO_eq.mpr (eq_of_beq hb)] at h; cases h
theorem strO_none (o : Option Nat) : (strO o == Str.ofString "") = o.isNone := by
  rw [show Str.ofString "" = S [] from by decide +kernel]
  cases o <;> simp [strO, S]
theorem cappedL_length (mk : Nat) : ∀ (l : List Nat) (ah : Option Nat), (cappedL mk ah l).length = l.length
  | [], _ => rfl
  | _ :: r, _ => by simp [cappedL, cappedL_length mk r]

set_option maxRecDepth 100000 in
set_option maxHeartbeats 8000000 in
theorem capped_spec {w : World} {loose : List Str} {mg mb : Str → Option Value} {d un : Nat} {fr : Option (List Env)} {gd : Option (List Code)} {s : Shared} {E : Value → Shared → Prop} {x : Str} {mk : Nat} {ah : Option Nat} {t t2 t3 : Tok}
  (X : (hd.heap_39 w.params).In s.heap) (T : TopRead hd.view_39 loose mg mb s.heap) (hr : d + 20 < recursionLimit) (hu : un + 200 < cLine) (hx : ∀ c ∈ x.cps.toList, c < 128) (hl : x.length ≤ 1000000) :
  wpAny (model PySem.Challenge.rw_mj0042_01.row.prog w) ⟨none, d, fr, gd, un⟩ (call (.ref 85) [.str x t, .str (S [mk]) t2, .str (strO ah) t3]) (Done s (IsS (S (cappedL mk ah x.cps.toList)))) E s := by
  revert X; k_fill; intro X
  refine' enter (binds := [(Str.ofString "word", .str x t), (Str.ofString "mark", .str (S [mk]) t2), (Str.ofString "ahead", .str (strO ah) t3)]) ?X ?T ?r ?o ?c ?b ?l ?ce ?co ?ge ?ki ?_
  (case X => assumption); (case T => assumption); (case r => (dsimp only; omega)); (case o => k_is); (case c => k_is); (case b => exact BindsTo.of_eq rfl); (case l => exact locs rfl); (case ce => decide); (case co => rfl); (case ge => rfl); (case ki => rfl)
  intro h₁ F N; dsimp only [List.length_cons, List.length_nil]
  walk_at "MY STEPS"
  rename Fr _ _ _ _ => F₁
  refine For_invVF F₁ rfl rfl ?_
  walk_at "MY STEPS"
  refine for_text (fun i m => HasS m "text" (S (cappedL mk ah (x.cps.toList.take i))) ∧ HasS m "last" (strO (lastOf ah (x.cps.toList.take i))) ∧ HasS m "mark" (S [mk])) rfl F₁ ?_ ?_ ?_
  · exact ⟨.of rfl rfl, .of rfl rfl, .of rfl rfl⟩
  · rintro i c tc m₁ h tk own hc ⟨ht, hla, hm⟩ F₂ N₂
    obtain ⟨_, F₃⟩ := (ht.under).pin F₂
    obtain ⟨_, F₃⟩ := ((hla.under).under).pin F₃
    obtain ⟨_, F₃⟩ := (((hm.under).under).under).pin F₃
    clear F₂
    have hci : x.cps.toList[i]? = some c := by simpa using hc
    have hc8 : c < 128 := hx c (List.mem_of_getElem? hci)
    have hlen : (S (cappedL mk ah (x.cps.toList.take i))).length + 1 ≤ sizeLine := by
      rw [S_length, cappedL_length, sizeLine_eq, List.length_take]
      have : x.cps.toList.length = x.length := by simp [Str.length]
      omega
    have hsn := take_succ_snoc hci
    walk_at "MY STEPS"
    · rename (({ cps := #[c] } : Str) == S [mk]) = true => hcm
      have hcm : c = mk := by simpa [S] using hcm
      refine TurnEnd.go (by assumption) (by assumption) ⟨.of rfl ?_, .of rfl ?_, .of rfl rfl⟩
      · show (S _ ++ S [c]) = _
        rw [hsn, cappedL_snoc, if_pos hcm, S_append]
      · show (S [c]) = _
        rw [hsn, lastOf_snoc]; rfl
    all_goals (
      rename (({ cps := #[c] } : Str) == S [mk]) = false => hcm
      have hcm : ¬ c = mk := by simpa [S] using hcm
      refine use_done (letter_spec (X.keeps F₃.keep) (T.keeps F₃.keep) (by dsimp only; omega) (by dsimp only; omega) hc8) F₃ N₂ ?_
      rintro _ h' tk' ⟨t', rfl⟩ F₄ N₄ k₄
      have F₅ := F₄
      clear F₃ F₄ N₂ k₄
      walk_at "MY STEPS"
      refine TurnEnd.go (by assumption) (by assumption) ⟨.of rfl ?_, .of rfl ?_, .of rfl rfl⟩)
    · rename (strO _ == S [mk]) = true => hl1
      show (S _ ++ S [_]) = _
      rw [hsn, cappedL_snoc, if_neg hcm, S_append, hl1, strO_eq.mp hl1]; simp
    · show (S [c]) = _
      rw [hsn, lastOf_snoc]; rfl
    · rename (strO _ == S [mk]) = false => hl1
      show (S _ ++ S [_]) = _
      rw [hsn, cappedL_snoc, if_neg hcm, S_append, strO_none, strO_ne hl1, Bool.false_or]
    · show (S [c]) = _
      rw [hsn, lastOf_snoc]; rfl
  · intro m₁ h tk hJ F₂
    obtain ⟨ht, _, _⟩ := hJ
    obtain ⟨_, F₃⟩ := ht.pin F₂
    clear F₂
    walk_at "MY STEPS"
    refine Done.intro F₃ (isS_of ?_)
    rw [List.take_of_length_le (by simp)]
end Mine

-- M3
namespace Mine
local macro_rules | `(tactic| walk_at "MY STEPS") => `(tactic| repeat' (first
  | ((fail_if_success (with_reducible show wpAny _ _ (exec (Stmt.While _ _ _ _) _) _ _ _)); (fail_if_success (with_reducible show wpAny _ _ (exec (Stmt.For _ _ _ _ _) _) _ _ _)); (fail_if_success (with_reducible show Done _ _ _ _)); (fail_if_success (with_reducible show wpAny _ _ (call (Value.ref _) _) _ _ _)); (fail_if_success (with_reducible show TurnEnd _ _ _ _ _ _ _ _)); (fail_if_success (with_reducible show wpAny _ _ (eval (Expr.ListComp _ _ _ _) _) _ _ _)); (first | walk1 | (dsimp only; walk1)))))

def safeS : Str := Str.ofString "abcdefghijklmnopqrstuvwxyzABCDEFGHIJKLMNOPQRSTUVWXYZ0123456789_@%+=:,./-"
def safeC (c : Nat) : Bool := safeS.cps.toList.contains c
def bareL (l : List Nat) : Bool := !l.isEmpty && l.all safeC

section
variable {prog : Program} {w : World} {A : Around} {E : Value → Shared → Prop} {s : Shared}
theorem enterC {K : Frag} {p : Program} {loose : List Str} {mg mb : Str → Option Value} {P : Heap → Value → Prop}
    {name qual : Str} {params : Arguments} {body : List Stmt} {scope : Scope} {dV kV doc pm cdv ct oc : Value} {an od : Option Addr} {osl : Array (Option Value)} {f : Addr} {vals : List Value} {binds : List (Str × Value)} {cx : Str} {m : Str → Option Value}
    (X : K.In s.heap) (T : TopRead p loose mg mb s.heap) (hroom : A.depth < recursionLimit)
    (ho : K.lookup f = some ⟨oc, od, .func (fnX name qual params body scope [] dV kV doc pm an cdv ct), osl⟩) (hcd : codeIn K cdv qual = true)
    (hbind : bindArgs (fnX name qual params body scope [] dV kV doc pm an cdv ct) ⟨vals, []⟩ = pure binds) (hloc : ∀ y ∈ binds, scope.names.lookup y.1 = some .local)
    (hcells : ∀ n, cellsFrom n scope.names [] = [(cx, n)]) (hcx : ∀ y ∈ binds, y.1 ≠ cx) (hco : scope.isCoroutine = false) (hgen : scope.isGenerator = false) (hk : scope.kind = .function)
    (hm : ∀ n, (bindL (callEnvC (fnX name qual params body scope [] dV kV doc pm an cdv ct) n f).kindOf binds fun _ => none) = m)
    (hc0 : ∀ n, bindC (callEnvC (fnX name qual params body scope [] dV kV doc pm an cdv ct) n f).kindOf binds (fun _ => none) cx = none)
    (h : ∀ h₁ tk o, Fr s.heap s.heap.objs.size h₁ m → News s.heap s.heap.objs.size h₁ [(s.heap.objs.size + 1, o)] → o.data = .cell none →
      wpAny (model prog w) (A.deeper (envX qual scope s.heap.objs.size f cdv [(cx, s.heap.objs.size + 1)])) (execs body (envX qual scope s.heap.objs.size f cdv [(cx, s.heap.objs.size + 1)]))
        (fun fl s' => Done s P (match fl with | .ret v => v | _ => .none) s') (fun _ _ => False)
        { s with heap := h₁, toks := tk }) :
    wpAny (model prog w) A (call (.ref f) vals) (Done s P) E s := by
  refine wpAny_call (codeAny_call_cells (fd := fnX name qual params body scope [] dV kV doc pm an cdv ct) (body := body) (binds := binds) hroom (X _ _ ho) rfl T.nolimit (codeRec_of X hcd) rfl hbind rfl (fun y hy => .inl (hloc y hy)) (fun s₁ x => ?_) hco hgen hk)
  have e1 : (callEnvC (fnX name qual params body scope [] dV kV doc pm an cdv ct) s.heap.objs.size f) = envX qual scope s.heap.objs.size f cdv [(cx, s.heap.objs.size + 1)] := by
    show envX qual scope s.heap.objs.size f cdv (cellsFrom (s.heap.objs.size + 1) scope.names []) = _
    rw [hcells]
  obtain ⟨o, hoc, hdc⟩ := x.cell cx (s.heap.objs.size + 1) (by rw [e1]; show List.lookup cx [(cx, _)] = _; simp [List.lookup])
  rw [hc0] at hdc
  have hns := x.toInCall.ns
  rw [hm] at hns
  have hk₁ := x.toInCall.keep
  obtain ⟨h₁, tk, rfl⟩ := x.toInCall.same
  rw [e1]
  have hsz : s.heap.objs.size < h₁.objs.size := hns.lt
  refine wpAny_mono (h h₁ tk o ⟨hns, hk₁, Nat.le_refl _⟩ (fun q hq => ?_) hdc) (fun _ _ d => d) fun _ _ e => e.elim
  rw [List.mem_singleton.mp hq]
  exact ⟨hoc, Nat.succ_ne_self _, Heap.get?_none_of_le (Nat.le_succ _)⟩
end

def notSafeV : Value → Bool
  | .str y _ => !(y.cps.toList.all safeC)
  | _ => false
theorem notSafe_one (c : Nat) (u : Tok) : (!(!(Builtin.Str.occurrences (Str.ofString "abcdefghijklmnopqrstuvwxyzABCDEFGHIJKLMNOPQRSTUVWXYZ0123456789_@%+=:,./-") ⟨#[c]⟩ 0 (Str.ofString "abcdefghijklmnopqrstuvwxyzABCDEFGHIJKLMNOPQRSTUVWXYZ0123456789_@%+=:,./-").length 1).isEmpty)) = notSafeV (.str ⟨#[c]⟩ u) := by
  rw [StrLaws.found_one]
  simp [notSafeV, safeC, safeS, Bool.eq_iff_iff]
theorem Keeps.refl (s : Shared) : Keeps s s := ⟨s.heap, s.toks, rfl, fun _ _ e => e⟩

theorem News.add {h₀ h : Heap} {L D : Addr} {o : Obj} {news : List (Addr × Obj)} (N : News h₀ L h news) (hD : h.get? D = some o) (hDL : D ≠ L) (hD0 : h₀.get? D = none) : News h₀ L h ((D, o) :: news) := by
  intro q hq
  rcases List.mem_cons.mp hq with rfl | hq
  · exact ⟨hD, hDL, hD0⟩
  · exact N q hq
theorem keep_of_push {h h' : Heap} {o : Obj} (hk : ∀ b ob, b ∉ [h.objs.size] → (h.push o).get? b = some ob → h'.get? b = some ob) : ∀ b ob, h.get? b = some ob → h'.get? b = some ob :=
  fun b ob e => hk b ob (fun q => Nat.lt_irrefl _ ((List.mem_singleton.mp q) ▸ Heap.lt_size e)) (Heap.get?_push_of_some _ e)
theorem bare_items {x : Str} {vs : List Value} {ys : Array Value} (hlen : vs.length = x.cps.size) (hP : ∀ j v, vs[j]? = some v → SignAt x j v) (hF : Paired (fun v y => y = v) (vs.filter notSafeV) ys.toList) :
    ys.size = 0 ↔ x.cps.toList.all safeC = true := by
  have h1 : ys.toList.length = (vs.filter notSafeV).length := (Paired.length hF).symm
  have h2 : vs.filter notSafeV = [] ↔ x.cps.toList.all safeC = true := by
    rw [List.filter_eq_nil_iff, List.all_eq_true]
    constructor
    · intro h c hc
      obtain ⟨j, hj⟩ := List.mem_iff_getElem?.mp hc
      have hjl : j < vs.length := by rw [hlen]; have := (List.getElem?_eq_some_iff.mp hj).1; simpa using this
      obtain ⟨c', u, hc', hv⟩ := hP j vs[j] (List.getElem?_eq_getElem hjl)
      have e : c' = c := by
        have : x.cps.toList[j]? = some c' := by simpa using hc'
        rw [hj] at this; exact (Option.some.inj this).symm
      have := h vs[j] (List.getElem_mem hjl)
      rw [hv, e] at this
      simpa [notSafeV] using this
    · intro h v hv
      obtain ⟨j, hj⟩ := List.mem_iff_getElem?.mp hv
      obtain ⟨c', u, hc', rfl⟩ := hP j v hj
      have : x.cps.toList[j]? = some c' := by simpa using hc'
      have := h c' (List.mem_of_getElem? this)
      simpa [notSafeV] using this
  rw [← h2, ← List.length_eq_zero_iff, ← h1]
  simp
theorem bare_empty (x : Str) : (x != Str.ofString "") = !x.cps.toList.isEmpty := by
  rw [show Str.ofString "" = S [] from by decide +kernel]
  obtain ⟨l⟩ := x
  rw [Bool.eq_iff_iff]
  simp [S]
theorem bare_empty' {x : Str} (h : (x != Str.ofString "") = false) : x.cps.toList = [] := by
  rw [bare_empty] at h
  simpa using h

set_option maxRecDepth 100000 in
set_option maxHeartbeats 8000000 in
theorem bare_spec {w : World} {loose : List Str} {mg mb : Str → Option Value} {d un : Nat} {fr : Option (List Env)} {gd : Option (List Code)} {s : Shared} {E : Value → Shared → Prop} {x : Str} {t : Tok}
  (X : (hd.heap_39 w.params).In s.heap) (T : TopRead hd.view_39 loose mg mb s.heap) (hr : d + 10 < recursionLimit) (hu : un + 100 < cLine) (hl : x.length ≤ 1000000) :
  wpAny (model PySem.Challenge.rw_mj0042_01.row.prog w) ⟨none, d, fr, gd, un⟩ (call (.ref 71) [.str x t]) (Done s (IsB (bareL x.cps.toList))) E s := by
  revert X; k_fill; intro X
  refine' enterC (binds := [(Str.ofString "word", .str x t)]) (cx := Str.ofString "safe") (m := fun y => if y = Str.ofString "word" then some (.str x t) else none) ?X ?T ?r ?o ?c ?b ?l ?ce ?cx ?co ?ge ?ki ?hm ?hc0 ?_
  (case X => assumption); (case T => assumption); (case r => (dsimp only; omega)); (case o => k_is); (case c => k_is); (case b => rfl); (case l => exact locs rfl); (case ce => intro n; rfl); (case co => rfl); (case ge => rfl); (case ki => rfl)
  (case cx => simp; decide)
  (case hm => intro n; rfl)
  (case hc0 => intro n; rfl)
  intro h₁ tk o F N hd
  walk_at "MY STEPS"
  · rename (x != Str.ofString "") = true => hne
    rename Fr _ _ _ _ => F₁
    rename News _ _ _ _ => N₁
    rename (_ : Obj).data = Data.cell (some _) => hcell
    refine wpAny_ListComp_free (cl := [(Str.ofString "safe", s.heap.objs.size + 1)]) notSafeV (fun v y => y = v) rfl (by decide) rfl (by decide) rfl ?_
    walk_at "MY STEPS"
    refine wpAny_pyIter_str fun oi St hW hst => ?_
    have hcs := (N₁ _ (.head _)).1
    dsimp only at hcs
    refine ⟨_, _, _, _, _, St, rfl, hW _ rfl, by rw [sizeLine_eq]; have h : x.cps.size = x.length := rfl; omega, hst, ?_, ⟨?_, ?_⟩, ?_⟩
    · intro b hb
      rw [List.mem_singleton.mp hb]
      show _ < (Heap.push _ _).objs.size
      rw [Heap.size_push]; exact Nat.lt_succ_self _
    · rintro C i v s₃ m₃ E' hC ⟨c, u, hc, rfl⟩ hn hm hk _
      refine wpAny_tests_one (wpAny_isTrue_Compare1 ?_)
      refine wpAny_Name (wpAny_loadName_local rfl rfl hn hm ?_) (by decide)
      refine wpAny_Name (wpAny_loadName_cell (c := s.heap.objs.size + 1) rfl rfl rfl ⟨_, hk _ _ ?_ (Heap.get?_push_of_some _ hcs), hcell⟩ ?_) (by decide)
      · intro q
        have q' := List.mem_singleton.mp q
        have hlt := Heap.lt_size hcs
        rw [q'] at hlt
        exact Nat.lt_irrefl _ hlt
      · refine PyProof.Rows.notIn_str (wpAny_truthy_bool ⟨?_, Keeps.refl _⟩)
        exact notSafe_one c u
    · rintro C i v s₃ m₃ E' hC ⟨c, u, hc, rfl⟩ _ hn hm hk _
      exact wpAny_Name (wpAny_loadName_local rfl rfl hn hm ⟨rfl, Keeps.refl _⟩) (by decide)
    · intro D h' tk' ys vs hD hlD hplD hlen hP hF hk
      have keep := keep_of_push hk
      dsimp only at keep
      obtain ⟨nD, hDo⟩ := hplD
      have hD0 : s.heap.get? D = none := by
        cases e : s.heap.get? D with
        | none => rfl
        | some o' => rw [Heap.get?_push_of_some _ (F₁.keep _ _ e)] at hD; cases hD
      have hDL : D ≠ s.heap.objs.size := by
        rintro rfl
        obtain ⟨oL, _, _, hL, _⟩ := F₁.ns
        rw [Heap.get?_push_of_some _ hL] at hD; cases hD
      have F₂ := Fr.ext F₁ keep
      have N₂ := News.add (News.ext N₁ keep) hDo hDL hD0
      have hv := bare_items hlen hP hF
      clear F₁ N₁ hcs hk hD hst hW hlD
      walk_at "MY STEPS"
      rename Fr _ _ _ _ => F₃
      rename News _ _ _ _ => N₃
      have hl1 := News.isList N₃ (.tail _ (.head _))
      have hl2 := News.isList N₃ (.head _)
      have hu' : un + 3 < cLine := by omega
      by_cases hy : ys.size = 0
      · refine SeqAt.eq_listAt (e := fun _ => true) (items := ys) (items2 := #[]) hl1 hl2 hy hu' (fun j h1 => ?_) (Done.intro F₃ ?_)
        · omega
        · show Value.bool _ = Value.bool _
          rw [bareL, ← bare_empty, hne, hv.mp hy, hy]; rfl
      · refine SeqAt.eq_list_lengthsAt (items := ys) (items2 := #[]) hl1 hl2 (by simpa using hy) hu' (Done.intro F₃ ?_)
        show Value.bool _ = Value.bool _
        rw [bareL, ← bare_empty, hne, Bool.true_and]
        congr 1
        symm
        rw [Bool.eq_false_iff]
        exact fun h => hy (hv.mpr h)
  · rename (x != Str.ofString "") = false => hne
    refine Done.intro (by assumption) ?_
    show Value.bool (x != Str.ofString "") = Value.bool (bareL x.cps.toList)
    rw [hne]
    simp [bareL, bare_empty' hne]
end Mine

-- MText
namespace Mine
theorem take_drop_clip (l : List Nat) (a b : Nat) : (l.drop (min a l.length)).take (max (min a l.length) (min b l.length) - min a l.length) = (l.drop a).take (b - a) := by
  by_cases h : a ≤ l.length
  · rw [Nat.min_eq_left h]
    by_cases hb : b ≤ l.length
    · rw [Nat.min_eq_left hb]
      congr 1
      omega
    · rw [Nat.min_eq_right (by omega), Nat.max_eq_right h]
      rw [List.take_of_length_le (by simp), List.take_of_length_le (by simp; omega)]
  · rw [Nat.min_eq_right (by omega), List.drop_of_length_le (Nat.le_refl _), List.drop_of_length_le (by omega)]
    simp
theorem slice_S (l : List Nat) (a b : Nat) : Txt.slice (S l) (some (a : Int)) (some (b : Int)) = S ((l.drop a).take (b - a)) := by
  have hn : (S l).length = l.length := S_length l
  have e : Builtin.Str.strSliceIndices (some (a : Int)) (some (b : Int)) 1 (S l).length = Builtin.Str.strSliceIndices (some ((min a l.length : Nat) : Int)) (some ((max (min a l.length) (min b l.length) : Nat) : Int)) 1 (S l).length := by
    unfold Builtin.Str.strSliceIndices sliceRange
    have hneg : ∀ k : Nat, ¬ ((k : Int) < 0) := fun k => by omega
    simp only [show (1 : Int) > 0 by decide, if_true, hn, hneg, if_false]
    have h1 : max 0 (min (a : Int) (l.length : Int)) = ((min a l.length : Nat) : Int) := by omega
    have h2 : max 0 (min (b : Int) (l.length : Int)) = ((min b l.length : Nat) : Int) := by omega
    have h3 : max 0 (min ((min a l.length : Nat) : Int) (l.length : Int)) = ((min a l.length : Nat) : Int) := by omega
    have h4 : max 0 (min ((max (min a l.length) (min b l.length) : Nat) : Int) (l.length : Int)) = ((max (min a l.length) (min b l.length) : Nat) : Int) := by omega
    rw [h1, h2, h3, h4]
    have h5 : (if ((min a l.length : Nat) : Int) < ((min b l.length : Nat) : Int) then (((min b l.length : Nat) : Int) - ((min a l.length : Nat) : Int) + 1 - 1) / 1 else 0) =
        (if ((min a l.length : Nat) : Int) < ((max (min a l.length) (min b l.length) : Nat) : Int) then (((max (min a l.length) (min b l.length) : Nat) : Int) - ((min a l.length : Nat) : Int) + 1 - 1) / 1 else 0) := by
      simp only [Int.ediv_one]
      split <;> split <;> omega
    rw [h5]
  have h := slice_closes (x := S l) (i := ((min a l.length : Nat) : Int)) (j := ((max (min a l.length) (min b l.length) : Nat) : Int)) ⟨by omega, by omega, by simp only [S]; omega⟩
  have h := eq_of_beq h
  unfold Txt.slice at h ⊢
  rw [e, h]
  have h6 : (((max (min a l.length) (min b l.length) : Nat) : Int) - ((min a l.length : Nat) : Int)).toNat = max (min a l.length) (min b l.length) - min a l.length := by omega
  rw [h6, Int.toNat_natCast]
  show S ((l.drop (min a l.length)).take _) = _
  rw [take_drop_clip]
theorem item_S {l : List Nat} {i c : Nat} (h : l[i]? = some c) : Txt.item (S l) (i : Int) = S [c] := by
  have hlt : i < l.length := (List.getElem?_eq_some_iff.mp h).1
  unfold Txt.item Txt.charAt seqIndex?
  have hneg : ¬ ((i : Int) < 0) := by omega
  have hb : (decide (0 ≤ (i : Int)) && decide ((i : Int) < ((S l).length : Nat))) = true := by
    rw [S_length]; simp; omega
  simp only [hneg, if_false, hb, if_true]
  simp [h]
end Mine

-- M4
namespace Mine
local macro_rules | `(tactic| walk_at "MY STEPS") => `(tactic| repeat' (first
  | ((fail_if_success (with_reducible show wpAny _ _ (exec (Stmt.While _ _ _ _) _) _ _ _)); (fail_if_success (with_reducible show wpAny _ _ (exec (Stmt.For _ _ _ _ _) _) _ _ _)); (fail_if_success (with_reducible show Done _ _ _ _)); (fail_if_success (with_reducible show wpAny _ _ (call (Value.ref _) _) _ _ _)); (fail_if_success (with_reducible show TurnEnd _ _ _ _ _ _ _ _)); (fail_if_success (with_reducible show TurnEndN _ _ _ _ _ _ _ _)); (fail_if_success (with_reducible show wpAny _ _ (newTuple _) _ _ _)); (fail_if_success (with_reducible show wpAny _ _ (call (Value.builtin "list.append") _) _ _ _)); (fail_if_success (with_reducible show wpAny _ _ (call (Value.builtin "len") _) _ _ _)); (fail_if_success (with_reducible show wpAny _ _ (call (Value.type "range") _) _ _ _)); (fail_if_success (with_reducible show wpAny _ _ (subscriptTail _ _ (Value.ref _) (Value.int _ _)) _ _ _)); (fail_if_success (with_reducible show wpAny _ _ (pyIter _) _ _ _)); (fail_if_success (with_reducible show wpAny _ _ (eval (Expr.ListComp _ _ _ _) _) _ _ _)); (first | walk1 | (dsimp only; walk1)))))

def dueAt (mk : Nat) (k : Nat) (word : List Nat) : Bool × List Nat := if bareL word then (false, cappedL mk (if k = 0 then none else some 32) word) else (true, cappedL mk (some 39) word)
def dueN (mk : Nat) (words : List (List Nat)) (i : Nat) : List (Bool × List Nat) := (List.range i).map fun k => dueAt mk k (words.getD k [])
def rowD (r : Bool × List Nat) : PyData := .tuple [.bool r.1, .str (S r.2)]
def rowsD (rs : List (Bool × List Nat)) : PyData := .list (rs.map rowD)
/-- a value that reads as these rows -/
def IsRows (rs : List (Bool × List Nat)) (h : Heap) (v : Value) : Prop := ∃ as, Reads h v (rowsD rs) as

def tupO (b : Bool) (x : Str) (t : Tok) : Obj := { cls := .type "tuple", data := .seq #[.bool b, .str x t] }
def RowAt (news : List (Addr × Obj)) (v : Value) (r : Bool × List Nat) : Prop := ∃ a t, v = .ref a ∧ (a, tupO r.1 (S r.2) t) ∈ news
abbrev RowsIn (news : List (Addr × Obj)) (vs : List Value) (rs : List (Bool × List Nat)) : Prop := Paired (RowAt news) vs rs
theorem RowsIn.mono {a b : List (Addr × Obj)} (hs : ∀ p ∈ a, p ∈ b) : ∀ {vs : List Value} {rs : List (Bool × List Nat)}, RowsIn a vs rs → RowsIn b vs rs
  | _, _, .nil => .nil
  | _, _, .cons ⟨a, t, e, hm⟩ r => .cons ⟨a, t, e, hs _ hm⟩ (RowsIn.mono hs r)
theorem rows_all {h₀ h : Heap} {L : Addr} {news : List (Addr × Obj)} (N : News h₀ L h news) : ∀ {vs : List Value} {rs : List (Bool × List Nat)}, RowsIn news vs rs → ∃ as, ReadsAll h vs (rs.map rowD) as
  | _, _, .nil => ⟨_, ReadsAll.nil⟩
  | _, _, .cons ⟨a, t, e, hm⟩ r => by
    obtain ⟨bs, p⟩ := rows_all N r
    subst e
    exact ⟨_, ReadsAll.cons (reads_tuple_at (N.get hm) rfl rfl (.cons (.bool _) (.cons (.str _ _) .nil))) p⟩
theorem rows_list {h₀ h : Heap} {L D : Addr} {n : Nat} {news : List (Addr × Obj)} {vs : List Value} {rs : List (Bool × List Nat)} (N : News h₀ L h news) (hD : (D, W.listOf vs.toArray n) ∈ news) (hr : RowsIn news vs rs) : IsRows rs h (.ref D) := by
  obtain ⟨as, p⟩ := rows_all N hr
  exact ⟨_, reads_list_at (N.get hD) rfl rfl (by simpa [W.listOf] using p)⟩
def HasR (m : Str → Option Value) (n : String) (a : Addr) : Prop := m (Str.ofString n) = some (.ref a)
theorem HasR.of {m : Str → Option Value} {n : String} {a : Addr} (h : m (Str.ofString n) = some (.ref a)) : HasR m n a := h
theorem HasR.under {m : Str → Option Value} {n : String} {x : Addr} {y : Str} {v : Option Value} (h : HasR m n x) (e : Str.ofString n ≠ y := by decide) : HasR (fun z => if z = y then v else m z) n x := by
  show (if Str.ofString n = y then v else m (Str.ofString n)) = _
  rw [if_neg e]; exact h
theorem HasR.pin {h₀ h : Heap} {L : Addr} {m : Str → Option Value} {n : String} {x : Addr} (H : HasR m n x) (F : Fr h₀ L h m) : Fr h₀ L h (fun y => if y = Str.ofString n then some (.ref x) else m y) := Fr.pin F H

theorem due_order {α : Type} (a b : α) (l r : List α) : ∀ p ∈ a :: (b :: (l ++ r)), p ∈ b :: ((a :: l) ++ r) := by
  intro p hp
  rcases List.mem_cons.mp hp with rfl | hp
  · exact .tail _ (.head _)
  · rcases List.mem_cons.mp hp with rfl | hp
    · exact .head _
    · exact .tail _ (.tail _ hp)

theorem due_apart {D a : Addr} {o : Obj} {tups own : List (Addr × Obj)} (h1 : a ≠ D) (h2 : ∀ p ∈ tups, p.1 ≠ D) (h3 : ∀ q ∈ own, q.1 ≠ D) : ∀ p ∈ (a, o) :: (tups ++ own), p.1 ≠ D := by
  intro p hp
  rcases List.mem_cons.mp hp with rfl | hp
  · exact h1
  · exact (List.mem_append.mp hp).elim (h2 p) (h3 p)
theorem due_in {α : Type} (a : α) (l r : List α) : ∀ p ∈ a :: l, p ∈ a :: (l ++ r) := by
  intro p hp
  rcases List.mem_cons.mp hp with rfl | hp
  · exact .head _
  · exact .tail _ (List.mem_append.mpr (.inl hp))
theorem due_sep {D a : Addr} {o o' o2 : Obj} {tups own : List (Addr × Obj)} (h1 : ∀ p ∈ (D, o) :: tups, ∀ q ∈ own, p.1 ≠ q.1) (h2 : ∀ q ∈ own, a ≠ q.1) : ∀ p ∈ (D, o') :: (a, o2) :: tups, ∀ q ∈ own, p.1 ≠ q.1 := by
  intro p hp q hq
  rcases List.mem_cons.mp hp with rfl | hp
  · exact h1 (D, o) (.head _) q hq
  · rcases List.mem_cons.mp hp with rfl | hp
    · exact h2 q hq
    · exact h1 p (.tail _ hp) q hq
theorem dueN_succ (mk : Nat) (ws : List (List Nat)) (i : Nat) : dueN mk ws (i + 1) = dueN mk ws i ++ [dueAt mk i (ws.getD i [])] := by
  simp [dueN, List.range_succ]
theorem dueN_length (mk : Nat) (ws : List (List Nat)) (i : Nat) : (dueN mk ws i).length = i := by simp [dueN]

set_option maxRecDepth 100000 in
set_option maxHeartbeats 8000000 in
theorem due_spec {w : World} {loose : List Str} {mg mb : Str → Option Value} {d un : Nat} {fr : Option (List Env)} {gd : Option (List Code)} {s : Shared} {E : Value → Shared → Prop} {l : Addr} {vs : List Value} {ws : List (List Nat)} {mk : Nat} {t2 : Tok}
  (X : (hd.heap_39 w.params).In s.heap) (T : TopRead hd.view_39 loose mg mb s.heap) (hr : d + 30 < recursionLimit) (hu : un + 300 < cLine)
  (hl : s.heap.IsList l vs.toArray) (hs : StrsAre vs (ws.map S)) (hw : ∀ x ∈ ws, x.length ≤ 100000 ∧ ∀ c ∈ x, c < 128) (hn : ws.length ≤ 1000) :
  wpAny (model PySem.Challenge.rw_mj0042_01.row.prog w) ⟨none, d, fr, gd, un⟩ (call (.ref 92) [.ref l, .str (S [mk]) t2]) (Done s (IsRows (dueN mk ws ws.length))) E s := by
  have hsz : vs.length = ws.length := by simpa using hs.length
  revert X; k_fill; intro X
  refine' enter (binds := [(Str.ofString "words", .ref l), (Str.ofString "mark", .str (S [mk]) t2)]) ?X ?T ?r ?o ?c ?b ?l ?ce ?co ?ge ?ki ?_
  (case X => assumption); (case T => assumption); (case r => (dsimp only; omega)); (case o => k_is); (case c => k_is); (case b => exact BindsTo.of_eq rfl); (case l => exact locs rfl); (case ce => decide); (case co => rfl); (case ge => rfl); (case ki => rfl)
  intro h₁ F N; dsimp only [List.length_cons, List.length_nil]
  walk_at "MY STEPS"
  rename Fr _ _ _ _ => F₁
  rename News _ _ _ _ => N₁
  refine For_invVF F₁ rfl rfl ?_
  walk_at "MY STEPS"
  refine PyProof.Rows.len_list (hl.at fun o e => F₁.keep l o e) (by simp; omega) ?_
  walk_at "MY STEPS"
  refine call_range_1 ?_
  have hvn : ((vs.toArray.size : Nat) : Int) = ((ws.length : Nat) : Int) := by simp [hsz]
  rw [hvn]
  refine for_range (n := ws.length) (fun i m news => ∃ D us tups n, news = (D, W.listOf us.toArray n) :: tups ∧ (∀ p ∈ tups, p.1 ≠ D) ∧ RowsIn tups us (dueN mk ws i) ∧ HasR m "due" D ∧ HasR m "words" l ∧ HasS m "mark" (S [mk])) rfl (IsRange.new _ _ _ _ _ _ _) (by omega) (F₁.push _) (News.sub (N₁.push F₁ _) (fun p hp => .tail _ hp)) ?_ ?_ ?_
  · exact ⟨_, [], [], 0, rfl, (fun p hp => nomatch hp), .nil, .of rfl, .of rfl, .of rfl rfl⟩
  · rintro i ti m₁ news₁ h tk own hi ⟨D, us, tups, n, rfl, hap, hrows, hdue, hwords, hmark⟩ hsep F₂ N₂
    replace F₂ := (hdue.under).pin F₂
    replace F₂ := ((hwords.under).under).pin F₂
    obtain ⟨tm, F₃⟩ := (((hmark.under).under).under).pin F₂
    clear F₂ F₁ N₁
    have hwi : ws[i]? = some ws[i] := List.getElem?_eq_getElem hi
    obtain ⟨tw, hvi⟩ := hs.get i (S ws[i]) (by simp [hwi])
    have hwo := hw ws[i] (List.getElem_mem hi)
    walk_at "MY STEPS"
    refine PyProof.Rows.item_list (hl.at fun o e => F₃.keep l o e) (by omega) (by omega) (by simpa using hvi) ?_
    walk_at "MY STEPS"
    refine use_done (bare_spec (X.keeps F₃.keep) (T.keeps F₃.keep) (by dsimp only; omega) (by dsimp only; omega) (by rw [S_length]; omega)) F₃ N₂ ?_
    rintro _ h4 tk4 rfl F₄ N₄ k₄
    clear F₃ N₂ k₄
    walk_at "MY STEPS"
    all_goals (
      refine PyProof.Rows.item_list (hl.at fun o e => F₄.keep l o e) (by omega) (by omega) (by simpa using hvi) ?_
      walk_at "MY STEPS")
    all_goals (
      try rw [show Str.ofString " " = strO (some 32) from by decide +kernel]
      try rw [show Str.ofString "" = strO none from by decide +kernel]
      try rw [show Str.ofString "'" = strO (some 39) from by decide +kernel]
      refine use_done (capped_spec (X.keeps F₄.keep) (T.keeps F₄.keep) (by dsimp only; omega) (by dsimp only; omega) (by simpa using hwo.2) (by rw [S_length]; omega)) F₄ N₄ ?_
      rintro _ h5 tk5 ⟨t5, rfl⟩ F₅ N₅ k₅
      clear F₄ N₄ k₅
      walk_at "MY STEPS"
      refine tuple_made F₅ N₅ (fun h6 a F₆ N₆ hne => ?_) (by show 2 ≤ sizeLine; decide)
      clear F₅ N₅
      walk_at "MY STEPS"
      have N₇ : News s.heap s.heap.objs.size h6 ((D, W.listOf us.toArray n) :: ((a, tupO _ _ t5) :: (tups ++ own))) := Mine.News.sub N₆ (due_order _ _ _ _)
      clear N₆
      have hDa : D ≠ a := hne (D, _) (.head _)
      have hoa : ∀ q ∈ own, a ≠ q.1 := fun q hq => Ne.symm (hne q (List.mem_append.mpr (.inr hq)))
      have hapD : ∀ o : Obj, ∀ p ∈ (a, o) :: (tups ++ own), p.1 ≠ D := fun o => due_apart (Ne.symm hDa) hap fun q hq => Ne.symm (hsep (D, _) (.head _) q hq)
      refine append_any F₆ N₇ (hapD _) (fun h7 F₇ N₈ => ?_) (by rw [List.size_toArray, hrows.length, dueN_length, sizeLine_eq]; omega)
      clear F₆ N₇
      walk_at "MY STEPS"
      rename bareL _ = _ => hb
      rw [show (S ws[i]).cps.toList = ws[i] from rfl] at hb
      refine TurnEndN.go (news' := (D, W.listOf (us ++ [Value.ref a]).toArray (n + 1)) :: (a, tupO _ _ t5) :: tups) F₇ (by rw [← List.push_toArray]; exact N₈) (due_sep hsep hoa) ⟨D, us ++ [Value.ref a], _, n + 1, rfl, (fun p hp => hapD _ p (due_in _ _ _ p hp)), ?_, .of rfl, .of rfl, .of rfl rfl⟩
      rw [dueN_succ]
      refine Paired.snoc (RowsIn.mono (fun p hp => .tail _ hp) hrows) ⟨a, t5, rfl, ?_⟩
      rw [List.getD_eq_getElem?_getD, hwi, Option.getD_some, dueAt, hb])
    · rename ((i : Nat) : Int) > 0 => hi0
      rw [if_neg (by omega : ¬ i = 0)]
      exact .head _
    · rename ¬ ((i : Nat) : Int) > 0 => hi0
      rw [if_pos (by omega : i = 0)]
      exact .head _
    · exact .head _
  · rintro m₁ news₁ h tk ⟨D, us, tups, n, rfl, hap, hrows, hdue, hwords, hmark⟩ F₂ N₂
    have F₃ := hdue.pin F₂
    clear F₂
    walk_at "MY STEPS"
    exact Done.intro F₃ (rows_list N₂ (.head _) (RowsIn.mono (fun p hp => .tail _ hp) hrows))
end Mine

-- M5
namespace Mine
local macro_rules | `(tactic| walk_at "MY STEPS") => `(tactic| repeat' (first
  | ((fail_if_success (with_reducible show wpAny _ _ (exec (Stmt.While _ _ _ _) _) _ _ _)); (fail_if_success (with_reducible show wpAny _ _ (exec (Stmt.For _ _ _ _ _) _) _ _ _)); (fail_if_success (with_reducible show Done _ _ _ _)); (fail_if_success (with_reducible show wpAny _ _ (call (Value.ref _) _) _ _ _)); (fail_if_success (with_reducible show WhileStep2 _ _ _ _ _ _ _ _)); (fail_if_success (with_reducible show wpAny _ _ (newTuple _) _ _ _)); (fail_if_success (with_reducible show wpAny _ _ (call (Value.builtin "list.append") _) _ _ _)); (first | walk1 | (dsimp only; walk1)))))

/-- what join writes of a word within apostrophes -/
def encQ (l : List Nat) : List Nat := l.flatMap fun c => if c = 39 then [39, 34, 39, 34, 39] else [c]
/-- a value that is the tuple (b, x, n) -/
def IsT3 (b : Bool) (x : Str) (n : Nat) (h : Heap) (v : Value) : Prop := ∃ a t t', v = .ref a ∧ h.IsTuple a #[.bool b, .str x t, .int (n : Int) t']

theorem WhileStep2.go {h₀ h' : Heap} {L : Addr} {s : Shared} {J : Nat → (Str → Option Value) → List (Addr × Obj) → Prop} {Q : Flow → Shared → Prop} {n n' tk : Nat} {m₂ : Str → Option Value} {news₂ : List (Addr × Obj)}
    (F : Fr h₀ L h' m₂) (N : News h₀ L h' news₂) (hn : n' < n) (hJ : J n' m₂ news₂) : WhileStep2 h₀ L s J Q n .next { s with heap := h', toks := tk } := ⟨h', tk, m₂, news₂, n', rfl, F, N, hn, hJ⟩
theorem isT3_of {h₀ h : Heap} {L a : Addr} {b : Bool} {x y : Str} {n : Nat} {i : Int} {t t' : Tok} {news : List (Addr × Obj)} (N : News h₀ L h ((a, { cls := .type "tuple", data := .seq [.bool b, .str y t, .int i t'].toArray }) :: news)) (e : y = x) (e2 : i = n) : IsT3 b x n h (.ref a) := by
  subst e e2
  exact ⟨a, t, t', rfl, _, N.get (.head _), rfl, _, rfl⟩
theorem drop_get {line l : List Nat} {a : Nat} (h : line.drop a = l) (k : Nat) : line[a + k]? = l[k]? := by
  rw [← h, List.getElem?_drop]
theorem drop_take1 {line l : List Nat} {a : Nat} (h : line.drop a = l) : Txt.slice (S line) (some (a : Int)) (some ((a : Int) + 1)) = S (l.take 1) := by
  have := slice_S line a (a + 1)
  rw [show ((a + 1 : Nat) : Int) = (a : Int) + 1 from by omega] at this
  rw [this, h]
  congr 3
  omega
theorem safe_ne39 {c : Nat} (h : safeC c = true) : c ≠ 39 := by
  rintro rfl
  exact absurd h (by decide +kernel)
theorem word_bare_head {line wd rest : List Nat} {at' : Nat} (hat : line.drop at' = wd ++ rest) (hw0 : wd ≠ []) (hws : wd.all safeC = true) : (Txt.slice (S line) (some (at' : Int)) (some ((at' : Int) + 1)) != Str.ofString "'") = true := by
  cases wd with
  | nil => exact absurd rfl hw0
  | cons c r =>
    rw [drop_take1 hat, show Str.ofString "'" = S [39] from by decide +kernel]
    have hc := safe_ne39 (List.all_eq_true.mp hws c (.head _))
    simp [S, hc]

set_option maxRecDepth 100000 in
set_option maxHeartbeats 8000000 in
theorem word_bare_spec {w : World} {loose : List Str} {mg mb : Str → Option Value} {d un : Nat} {fr : Option (List Env)} {gd : Option (List Code)} {s : Shared} {E : Value → Shared → Prop} {line wd rest : List Nat} {at' : Nat} {t t2 : Tok}
  (X : (hd.heap_39 w.params).In s.heap) (T : TopRead hd.view_39 loose mg mb s.heap) (hr : d + 30 < recursionLimit) (hu : un + 300 < cLine)
  (hat : line.drop at' = wd ++ rest) (hw0 : wd ≠ []) (hws : wd.all safeC = true) (hrest : rest = [] ∨ ∃ r, rest = 32 :: r) (hl : line.length ≤ 1000000) :
  wpAny (model PySem.Challenge.rw_mj0042_01.row.prog w) ⟨none, d, fr, gd, un⟩ (call (.ref 99) [.str (S line) t, .int (at' : Int) t2]) (Done s (IsT3 false (S wd) (at' + wd.length))) E s := by
  have hll : (S line).length ≤ 1000000 := by rw [S_length]; exact hl
  revert X; k_fill; intro X
  refine' enter (binds := [(Str.ofString "line", .str (S line) t), (Str.ofString "at", .int (at' : Int) t2)]) ?X ?T ?r ?o ?c ?b ?l ?ce ?co ?ge ?ki ?_
  (case X => assumption); (case T => assumption); (case r => (dsimp only; omega)); (case o => k_is); (case c => k_is); (case b => exact BindsTo.of_eq rfl); (case l => exact locs rfl); (case ce => decide); (case co => rfl); (case ge => rfl); (case ki => rfl)
  intro h₁ F N; dsimp only [List.length_cons, List.length_nil]
  have h39 := word_bare_head hat hw0 hws
  walk_at "MY STEPS"
  · rename Fr _ _ _ _ => F₁
    rename News _ _ _ _ => N₁
    refine While_inv2 (fun n m news => ∃ k, k ≤ wd.length ∧ n = wd.length - k ∧ HasI m "end" ((at' + k : Nat) : Int) ∧ HasS m "line" (S line) ∧ HasI m "at" (at' : Int) ∧ news = []) (n₀ := wd.length) F₁ N₁ ⟨0, Nat.zero_le _, rfl, .of rfl rfl, .of rfl rfl, .of rfl rfl, rfl⟩ ?_
    rintro n m₁ news₁ h2 tk2 F₂ N₂ ⟨k, hk, rfl, he, hln, ha, rfl⟩
    obtain ⟨_, F₃⟩ := he.pin F₂
    obtain ⟨_, F₄⟩ := hln.under.pin F₃
    obtain ⟨_, F₅⟩ := ha.under.under.pin F₄
    clear F₁ N₁ F₂ F₃ F₄
    have hlen := congrArg List.length hat
    rw [List.length_drop, List.length_append] at hlen
    have hw1 : 0 < wd.length := List.length_pos_iff.mpr hw0
    walk_at "MY STEPS"
    · rename ((at' + k : Nat) : Int) < _ => hlt
      rw [S_length] at hlt
      have hc : line[at' + k]? = some (line[at' + k]'(by omega)) := List.getElem?_eq_getElem (by omega)
      generalize line[at' + k]'(by omega) = c at hc
      rw [item_S hc]
      refine use_done (bare_spec (X.keeps F₅.keep) (T.keeps F₅.keep) (by dsimp only; omega) (by dsimp only; omega) (by rw [S_length]; exact Nat.le_of_ble_eq_true rfl)) F₅ N₂ ?_
      rintro _ h3 tk3 rfl F₆ N₆ _
      have hd := drop_get hat k
      rw [hc] at hd
      by_cases hk' : k < wd.length
      · have hs : safeC c = true := by
          rw [List.getElem?_append_left hk'] at hd
          exact List.all_eq_true.mp hws c (List.mem_of_getElem? hd.symm)
        rw [show bareL (S [c]).cps.toList = true from by simp [bareL, hs]]
        clear F₅ N₂
        walk_at "MY STEPS"
        exact WhileStep2.go (by assumption) (by assumption) (n' := wd.length - (k + 1)) (by omega) ⟨k + 1, by omega, rfl, .of rfl (by omega), .of rfl rfl, .of rfl rfl, rfl⟩
      · have hke : k = wd.length := by omega
        have hs : c = 32 := by
          rw [List.getElem?_append_right (by omega), hke, Nat.sub_self] at hd
          rcases hrest with rfl | ⟨r, rfl⟩
          · simp at hd
          · simpa using hd
        rw [show bareL (S [c]).cps.toList = false from by rw [hs]; decide +kernel]
        clear F₅ N₂
        walk_at "MY STEPS"
        rename Fr _ _ _ _ => F₇
        rename News _ _ _ _ => N₇
        refine tuple_made F₇ N₇ (fun h8 a F₈ N₈ _ => ?_) (by show 3 ≤ sizeLine; decide)
        exact Done.intro F₈ (isT3_of N₈ (by rw [slice_S, hat, hke, Nat.add_sub_cancel_left, List.take_left]) (by rw [hke]))
    · rename ¬ ((at' + k : Nat) : Int) < _ => hlt
      rw [S_length] at hlt
      have hke : k = wd.length := by omega
      rename Fr _ _ _ _ => F₇
      rename News _ _ _ _ => N₇
      refine tuple_made F₇ N₇ (fun h8 a F₈ N₈ _ => ?_) (by show 3 ≤ sizeLine; decide)
      exact Done.intro F₈ (isT3_of N₈ (by rw [slice_S, hat, hke, Nat.add_sub_cancel_left, List.take_left]) (by rw [hke]))
end Mine

-- M6
namespace Mine
local macro_rules | `(tactic| walk_at "MY STEPS") => `(tactic| repeat' (first
  | ((fail_if_success (with_reducible show wpAny _ _ (exec (Stmt.While _ _ _ _) _) _ _ _)); (fail_if_success (with_reducible show wpAny _ _ (exec (Stmt.For _ _ _ _ _) _) _ _ _)); (fail_if_success (with_reducible show Done _ _ _ _)); (fail_if_success (with_reducible show wpAny _ _ (call (Value.ref _) _) _ _ _)); (fail_if_success (with_reducible show WhileStep2 _ _ _ _ _ _ _ _)); (fail_if_success (with_reducible show wpAny _ _ (newTuple _) _ _ _)); (fail_if_success (with_reducible show wpAny _ _ (call (Value.builtin "list.append") _) _ _ _)); (first | walk1 | (dsimp only; walk1)))))

theorem S_beq (a b : List Nat) : (S a == S b) = (a == b) := by
  rw [Bool.eq_iff_iff]; simp [S]
theorem S_bne (a b : List Nat) : (S a != S b) = (a != b) := by
  rw [Bool.eq_iff_iff]; simp [S]
theorem drop_take5 {line l : List Nat} {a : Nat} (h : line.drop a = l) : Txt.slice (S line) (some (a : Int)) (some ((a : Int) + 5)) = S (l.take 5) := by
  have := slice_S line a (a + 5)
  rw [show ((a + 5 : Nat) : Int) = (a : Int) + 5 from by omega] at this
  rw [this, h]
  congr 3
  omega
theorem encQ_nil : encQ [] = [] := rfl
theorem encQ_cons (c : Nat) (l : List Nat) : encQ (c :: l) = (if c = 39 then [39, 34, 39, 34, 39] else [c]) ++ encQ l := rfl
theorem encQ_append (a b : List Nat) : encQ (a ++ b) = encQ a ++ encQ b := by simp [encQ]

theorem encQ_le : ∀ l : List Nat, l.length ≤ (encQ l).length
  | [] => Nat.le_refl _
  | c :: r => by
    have := encQ_le r
    rw [encQ_cons, List.length_append, List.length_cons]
    split <;> simp <;> omega
theorem drop_succ {line l : List Nat} {a c : Nat} (h : line.drop a = c :: l) : line.drop (a + 1) = l := by
  rw [← List.drop_drop, h]; rfl
theorem drop_add {line l r : List Nat} {a k : Nat} (h : line.drop a = l ++ r) (hk : l.length = k) : line.drop (a + k) = r := by
  rw [← List.drop_drop, h, ← hk, List.drop_left]

set_option maxRecDepth 100000 in
set_option maxHeartbeats 8000000 in
theorem word_quote_spec {w : World} {loose : List Str} {mg mb : Str → Option Value} {d un : Nat} {fr : Option (List Env)} {gd : Option (List Code)} {s : Shared} {E : Value → Shared → Prop} {line wd rest : List Nat} {at' : Nat} {t t2 : Tok}
  (X : (hd.heap_39 w.params).In s.heap) (T : TopRead hd.view_39 loose mg mb s.heap) (hr : d + 30 < recursionLimit) (hu : un + 300 < cLine)
  (hat : line.drop at' = 39 :: (encQ wd ++ 39 :: rest)) (hrest : rest = [] ∨ ∃ r, rest = 32 :: r) (hl : line.length ≤ 1000000) :
  wpAny (model PySem.Challenge.rw_mj0042_01.row.prog w) ⟨none, d, fr, gd, un⟩ (call (.ref 99) [.str (S line) t, .int (at' : Int) t2]) (Done s (IsT3 true (S wd) (at' + 2 + (encQ wd).length))) E s := by
  have hll : (S line).length ≤ 1000000 := by rw [S_length]; exact hl
  have h39 : (Txt.slice (S line) (some (at' : Int)) (some ((at' : Int) + 1)) != Str.ofString "'") = false := by
    rw [drop_take1 hat, show Str.ofString "'" = S [39] from by decide +kernel, S_bne]; rfl
  have hwl : wd.length ≤ line.length := by
    have := congrArg List.length hat
    have h2 : wd.length ≤ (encQ wd).length := encQ_le wd
    simp at this
    omega
  revert X; k_fill; intro X
  refine' enter (binds := [(Str.ofString "line", .str (S line) t), (Str.ofString "at", .int (at' : Int) t2)]) ?eX ?eT ?er ?eo ?ec ?eb ?el ?ece ?eco ?ege ?eki ?_
  (case eX => assumption); (case eT => assumption); (case er => (dsimp only; omega)); (case eo => k_is); (case ec => k_is); (case eb => exact BindsTo.of_eq rfl); (case el => exact locs rfl); (case ece => decide); (case eco => rfl); (case ege => rfl); (case eki => rfl)
  intro h₁ F N; dsimp only [List.length_cons, List.length_nil]
  walk_at "MY STEPS"
  rename Fr _ _ _ _ => F₁
  rename News _ _ _ _ => N₁
  refine While_inv2 (fun n m news => ∃ done todo e, wd = done ++ todo ∧ n = todo.length ∧ HasS m "text" (S done) ∧ HasI m "end" ((e : Nat) : Int) ∧ line.drop e = encQ todo ++ 39 :: rest ∧ e = at' + 1 + (encQ done).length ∧ HasS m "line" (S line) ∧ news = []) (n₀ := wd.length) F₁ N₁ ?_ ?_
  · exact ⟨[], wd, at' + 1, rfl, rfl, .of rfl (by decide +kernel), .of rfl (by omega), drop_succ hat, rfl, .of rfl rfl, rfl⟩
  rintro n m₁ news₁ h2 tk2 F₂ N₂ ⟨done, todo, e, hwd, rfl, htx, hen, hde, hee, hln, rfl⟩
  obtain ⟨_, F₃⟩ := htx.pin F₂
  obtain ⟨_, F₄⟩ := hen.under.pin F₃
  obtain ⟨_, F₅⟩ := hln.under.under.pin F₄
  clear F₁ N₁ F₂ F₃ F₄
  have hlt : ((e : Nat) : Int) < ((S line).length : Nat) := by
    rw [S_length]
    have := congrArg List.length hde
    simp at this
    omega
  have hdl : done.length ≤ line.length := by rw [hwd] at hwl; simp at hwl; omega
  have hsz : (S done).length + 1 ≤ sizeLine := by rw [S_length, sizeLine_eq]; omega
  cases todo with
  | nil =>
    have hi := drop_get hde 0
    have h1 : (Txt.item (S line) ((e : Nat) : Int) != Str.ofString "'") = false := by
      rw [item_S (c := 39) (by simpa [encQ_nil] using hi), show Str.ofString "'" = S [39] from by decide +kernel, S_bne]; rfl
    have h5 : (Txt.slice (S line) (some ((e : Nat) : Int)) (some (((e : Nat) : Int) + 5)) == Str.ofString "'\"'\"'") = false := by
      rw [drop_take5 hde, show Str.ofString "'\"'\"'" = S [39, 34, 39, 34, 39] from by decide +kernel, S_beq]
      rcases hrest with rfl | ⟨r, rfl⟩ <;> rfl
    walk_at "MY STEPS"
    rename Fr _ _ _ _ => F₇
    rename News _ _ _ _ => N₇
    refine tuple_made F₇ N₇ (fun h8 a F₈ N₈ _ => ?_) (by show 3 ≤ sizeLine; decide)
    rw [List.append_nil] at hwd
    exact Done.intro F₈ (isT3_of N₈ (by rw [hwd]) (by rw [hwd, hee]; omega))
  | cons c r =>
    by_cases hc : c = 39
    · subst hc
      have hi := drop_get hde 0
      have h1 : (Txt.item (S line) ((e : Nat) : Int) != Str.ofString "'") = false := by
        rw [item_S (c := 39) (by simpa [encQ_cons] using hi), show Str.ofString "'" = S [39] from by decide +kernel, S_bne]; rfl
      have h5 : (Txt.slice (S line) (some ((e : Nat) : Int)) (some (((e : Nat) : Int) + 5)) == Str.ofString "'\"'\"'") = true := by
        rw [drop_take5 hde, show Str.ofString "'\"'\"'" = S [39, 34, 39, 34, 39] from by decide +kernel, S_beq]
        rfl
      walk_at "MY STEPS"
      have hd5 : line.drop (e + 5) = encQ r ++ 39 :: rest := drop_add (l := [39, 34, 39, 34, 39]) (by rw [hde, encQ_cons, if_pos rfl, List.append_assoc]) rfl
      exact WhileStep2.go (by assumption) (by assumption) (n' := r.length) (by simp) ⟨done ++ [39], r, e + 5, by rw [hwd]; simp, rfl, .of rfl (by rw [S_append, show Str.ofString "'" = S [39] from by decide +kernel]), .of rfl (by omega), hd5, by rw [encQ_append, hee]; simp [encQ_cons, encQ_nil]; omega, .of rfl rfl, rfl⟩
    · have hi := drop_get hde 0
      have hit := item_S (l := line) (i := e) (c := c) (by simpa [encQ_cons, hc] using hi)
      have h1 : (Txt.item (S line) ((e : Nat) : Int) != Str.ofString "'") = true := by
        rw [hit, show Str.ofString "'" = S [39] from by decide +kernel, S_bne]; simp [hc]
      walk_at "MY STEPS"
      have hd1 : line.drop (e + 1) = encQ r ++ 39 :: rest := drop_add (l := [c]) (by rw [hde, encQ_cons, if_neg hc, List.append_assoc]) rfl
      exact WhileStep2.go (by assumption) (by assumption) (n' := r.length) (by simp) ⟨done ++ [c], r, e + 1, by rw [hwd]; simp, rfl, .of rfl (by rw [S_append, hit]), .of rfl (by omega), hd1, by rw [encQ_append, hee]; simp [encQ_cons, encQ_nil, hc]; omega, .of rfl rfl, rfl⟩
end Mine

-- M7
namespace Mine
local macro_rules | `(tactic| walk_at "MY STEPS") => `(tactic| repeat' (first
  | ((fail_if_success (with_reducible show wpAny _ _ (exec (Stmt.While _ _ _ _) _) _ _ _)); (fail_if_success (with_reducible show wpAny _ _ (exec (Stmt.For _ _ _ _ _) _) _ _ _)); (fail_if_success (with_reducible show Done _ _ _ _)); (fail_if_success (with_reducible show wpAny _ _ (call (Value.ref _) _) _ _ _)); (fail_if_success (with_reducible show WhileStep2 _ _ _ _ _ _ _ _)); (fail_if_success (with_reducible show wpAny _ _ (newTuple _) _ _ _)); (fail_if_success (with_reducible show wpAny _ _ (assign (Expr.Tuple _ _ _) _ _) _ _ _)); (fail_if_success (with_reducible show wpAny _ _ (call (Value.builtin "list.append") _) _ _ _)); (first | walk1 | (dsimp only; walk1)))))

section
variable {prog : Program} {w : World} {A : Around} {E : Value → Shared → Prop} {s : Shared} {h₀ : Heap} {L a : Addr} {m : Str → Option Value} {cn : Str} {cs : Scope} {ccd : Value} {cl : List (Str × Addr)} {news : List (Addr × Obj)} {Q : Unit → Shared → Prop}
theorem unpack3 {x y z : Str} {px py pz pt : Pos} {k : Nat} {t : Addr} {u v q : Value} (hh : A.handled = none) (ht : s.heap.IsTuple t #[u, v, q]) (F : Fr h₀ L s.heap m) (N : News h₀ L s.heap news)
    (hk : cs.kind = .function) (hx : (envX cn cs L a ccd cl).kindOf x = some .local) (hy : (envX cn cs L a ccd cl).kindOf y = some .local) (hz : (envX cn cs L a ccd cl).kindOf z = some .local)
    (h : ∀ h' tk, Fr h₀ L h' (fun i => if i = z then some q else if i = y then some v else if i = x then some u else m i) → News h₀ L h' news → Q () { s with heap := h', toks := tk }) :
    wpAny (model prog w) A (assign (.Tuple [.Name x px, .Name y py, .Name z pz] k pt) (envX cn cs L a ccd cl) (.ref t)) Q E s := by
  refine wpAny_assign_Tuple hh ht rfl rfl fun h' hx' => ?_
  have k1 : ∀ b o, s.heap.get? b = some o → h'.get? b = some o := fun b o e => hx' b o (Nat.ne_of_lt (Heap.lt_size e)) e
  have F1 := Fr.ext F k1
  have N1 := News.ext N k1
  show wpAny _ _ (do holding [v, q] (assign (.Name x px) (envX cn cs L a ccd cl) u); do holding [q] (assign (.Name y py) (envX cn cs L a ccd cl) v); do holding [] (assign (.Name z pz) (envX cn cs L a ccd cl) q); pure ()) _ _ _
  refine wpAny_bind (wpAny_holding (wpAny_assign_Name (storeX_L F1 N1 (fun h2 F2 N2 => ?_) hk hx)))
  refine wpAny_bind (wpAny_holding (wpAny_assign_Name (storeX_L F2 N2 (fun h3 F3 N3 => ?_) hk hy)))
  refine wpAny_bind (wpAny_holding (wpAny_assign_Name (storeX_L F3 N3 (fun h4 F4 N4 => wpAny_pure ?_) hk hz)))
  exact h h4 _ F4 N4
end

def encI (i : Bool × List Nat) : List Nat := if i.1 then 39 :: (encQ i.2 ++ [39]) else i.2
def okI (i : Bool × List Nat) : Prop := i.1 = false → i.2 ≠ [] ∧ i.2.all safeC = true
def joinE : List (Bool × List Nat) → List Nat
  | [] => []
  | [i] => encI i
  | i :: j :: r => encI i ++ 32 :: joinE (j :: r)
def tailE : List (Bool × List Nat) → List Nat
  | [] => []
  | r => 32 :: joinE r
theorem joinE_cons (i : Bool × List Nat) (r : List (Bool × List Nat)) : joinE (i :: r) = encI i ++ tailE r := by
  cases r <;> simp [joinE, tailE]
theorem tailE_cases (r : List (Bool × List Nat)) : tailE r = [] ∨ ∃ x, tailE r = 32 :: x := by
  cases r with
  | nil => exact .inl rfl
  | cons a b => exact .inr ⟨_, rfl⟩

theorem encI_ne {i : Bool × List Nat} (h : okI i) : encI i ≠ [] := by
  obtain ⟨b, wd⟩ := i
  cases b with
  | false => simpa [encI] using (h rfl).1
  | true => simp [encI]

theorem swap_order {α : Type} (a b : α) (l : List α) : ∀ p ∈ a :: (b :: l), p ∈ b :: (a :: l) := by
  intro p hp
  rcases List.mem_cons.mp hp with rfl | hp
  · exact .tail _ (.head _)
  · rcases List.mem_cons.mp hp with rfl | hp
    · exact .head _
    · exact .tail _ (.tail _ hp)

theorem word_spec {w : World} {loose : List Str} {mg mb : Str → Option Value} {d un : Nat} {fr : Option (List Env)} {gd : Option (List Code)} {s : Shared} {E : Value → Shared → Prop} {line : List Nat} {i : Bool × List Nat} {r : List (Bool × List Nat)} {at' : Nat} {t t2 : Tok}
  (X : (hd.heap_39 w.params).In s.heap) (T : TopRead hd.view_39 loose mg mb s.heap) (hr : d + 30 < recursionLimit) (hu : un + 300 < cLine)
  (hat : line.drop at' = joinE (i :: r)) (hi : okI i) (hl : line.length ≤ 1000000) :
  wpAny (model PySem.Challenge.rw_mj0042_01.row.prog w) ⟨none, d, fr, gd, un⟩ (call (.ref 99) [.str (S line) t, .int (at' : Int) t2]) (Done s (IsT3 i.1 (S i.2) (at' + (encI i).length))) E s := by
  rw [joinE_cons] at hat
  obtain ⟨b, wd⟩ := i
  cases b with
  | false => exact word_bare_spec X T hr hu hat (hi rfl).1 (hi rfl).2 (tailE_cases r) hl
  | true =>
    have e : at' + (encI (true, wd)).length = at' + 2 + (encQ wd).length := by simp [encI]; omega
    rw [e]
    exact word_quote_spec X T hr hu (by rw [hat]; simp [encI]) (tailE_cases r) hl

set_option maxRecDepth 100000 in
set_option maxHeartbeats 8000000 in
theorem read_spec {w : World} {loose : List Str} {mg mb : Str → Option Value} {d un : Nat} {fr : Option (List Env)} {gd : Option (List Code)} {s : Shared} {E : Value → Shared → Prop} {items : List (Bool × List Nat)} {t : Tok}
  (X : (hd.heap_39 w.params).In s.heap) (T : TopRead hd.view_39 loose mg mb s.heap) (hr : d + 50 < recursionLimit) (hu : un + 400 < cLine)
  (hi0 : items ≠ []) (hok : ∀ i ∈ items, okI i) (hl : (joinE items).length ≤ 1000000) (hn : items.length ≤ 1000) :
  wpAny (model PySem.Challenge.rw_mj0042_01.row.prog w) ⟨none, d, fr, gd, un⟩ (call (.ref 106) [.str (S (joinE items)) t]) (Done s (IsRows items)) E s := by
  generalize hline : joinE items = line
  rw [hline] at hl
  have hll : (S line).length ≤ 1000000 := by rw [S_length]; exact hl
  revert X; k_fill; intro X
  refine' enter (binds := [(Str.ofString "line", .str (S line) t)]) ?eX ?eT ?er ?eo ?ec ?eb ?el ?ece ?eco ?ege ?eki ?_
  (case eX => assumption); (case eT => assumption); (case er => (dsimp only; omega)); (case eo => k_is); (case ec => k_is); (case eb => exact BindsTo.of_eq rfl); (case el => exact locs rfl); (case ece => decide); (case eco => rfl); (case ege => rfl); (case eki => rfl)
  intro h₁ F N; dsimp only [List.length_cons, List.length_nil]
  walk_at "MY STEPS"
  rename Fr _ _ _ _ => F₁
  rename News _ _ _ _ => N₁
  refine While_inv2 (fun n m news => ∃ done todo at' D us tups ep, items = done ++ todo ∧ todo ≠ [] ∧ n = todo.length ∧ line.drop at' = joinE todo ∧ HasI m "at" ((at' : Nat) : Int) ∧ HasR m "words" D ∧ HasS m "line" (S line) ∧
    news = (D, W.listOf us.toArray ep) :: tups ∧ (∀ p ∈ tups, p.1 ≠ D) ∧ RowsIn tups us done) (n₀ := items.length) F₁ N₁ ?_ ?_
  · exact ⟨[], items, 0, _, [], [], 0, rfl, hi0, rfl, hline.symm, .of rfl rfl, .of rfl, .of rfl rfl, rfl, (fun p hp => nomatch hp), .nil⟩
  rintro n m₁ news₁ h2 tk2 F₂ N₂ ⟨done, todo, at', D, us, tups, ep, hit, ht0, rfl, hat, ha, hwo, hln, rfl, hap, hrows⟩
  obtain ⟨_, F₃⟩ := ha.pin F₂
  have F₄ := hwo.under.pin F₃
  obtain ⟨_, F₅⟩ := hln.under.under.pin F₄
  clear F₁ N₁ F₂ F₃ F₄
  obtain ⟨i, r, rfl⟩ := List.exists_cons_of_ne_nil ht0
  walk_at "MY STEPS"
  refine use_done (word_spec (X.keeps F₅.keep) (T.keeps F₅.keep) (by dsimp only; omega) (by dsimp only; omega) hat (hok i (by rw [hit]; simp)) hl) F₅ N₂ ?_
  rintro _ h3 tk3 ⟨a3, t3, t4, rfl, ht3⟩ F₆ N₆ k₆
  clear F₅ N₂ k₆
  walk_at "MY STEPS"
  refine unpack3 rfl ht3 F₆ N₆ rfl rfl rfl rfl (fun h7 tk7 F₇ N₇ => ?_)
  clear F₆ N₆
  walk_at "MY STEPS"
  refine tuple_made F₇ N₇ (fun h8 a8 F₈ N₈ hne => ?_) (by show 2 ≤ sizeLine; decide)
  clear F₇ N₇
  walk_at "MY STEPS"
  have N₉ : News s.heap s.heap.objs.size h8 ((D, W.listOf us.toArray ep) :: (a8, tupO i.1 (S i.2) t3) :: tups) := Mine.News.sub N₈ (swap_order _ _ _)
  clear N₈
  have hDa : D ≠ a8 := hne (D, _) (.head _)
  have hapD : ∀ o : Obj, ∀ p ∈ (a8, o) :: tups, p.1 ≠ D := fun o p hp => by
    rcases List.mem_cons.mp hp with rfl | hp
    · exact Ne.symm hDa
    · exact hap p hp
  have hdl : done.length ≤ 1000 := by rw [hit] at hn; simp at hn; omega
  refine append_any F₈ N₉ (hapD _) (fun h10 F₁₀ N₁₀ => ?_) (by rw [List.size_toArray, hrows.length, sizeLine_eq]; omega)
  clear F₈ N₉
  rw [List.push_toArray] at N₁₀
  have hde : line.drop (at' + (encI i).length) = tailE r := drop_add (hat.trans (joinE_cons i r)) rfl
  have hrows' : RowsIn ((a8, tupO i.1 (S i.2) t3) :: tups) (us ++ [Value.ref a8]) (done ++ [i]) := Paired.snoc (RowsIn.mono (fun p hp => .tail _ hp) hrows) ⟨a8, t3, rfl, .head _⟩
  have hlen := congrArg List.length hde
  rw [List.length_drop] at hlen
  cases r with
  | nil =>
    have hq : (Txt.slice (S line) (some ((at' + (encI i).length : Nat) : Int)) (some (((at' + (encI i).length : Nat) : Int) + 1)) != Str.ofString " ") = true := by
      rw [drop_take1 hde, show Str.ofString " " = S [32] from by decide +kernel, S_bne]; rfl
    have hend : ((at' + (encI i).length : Nat) : Int) = ((S line).length : Nat) := by
      rw [S_length]
      have h1 := congrArg List.length (hat.trans (joinE_cons i []))
      rw [List.length_drop, List.length_append] at h1
      simp [tailE] at h1 hlen
      have h2 : at' ≤ line.length := by
        apply Classical.byContradiction
        intro h3
        have : encI i = [] := List.length_eq_zero_iff.mp (by omega)
        exact encI_ne (hok i (by rw [hit]; simp)) this
      omega
    walk_at "MY STEPS"
    · rename Fr _ _ _ _ => F₁₁
      rename News _ _ _ _ => N₁₁
      show Done s (IsRows items) (.ref D) _
      exact Done.intro F₁₁ (rows_list N₁₁ (.head _) (hit ▸ RowsIn.mono (fun p hp => .tail _ hp) hrows'))
    · exact absurd hend (by assumption)
  | cons j q =>
    have hq : (Txt.slice (S line) (some ((at' + (encI i).length : Nat) : Int)) (some (((at' + (encI i).length : Nat) : Int) + 1)) != Str.ofString " ") = false := by
      rw [drop_take1 hde, show Str.ofString " " = S [32] from by decide +kernel, S_bne]; rfl
    walk_at "MY STEPS"
    exact WhileStep2.go (by assumption) (by assumption) (n' := (j :: q).length) (by simp) ⟨done ++ [i], j :: q, at' + (encI i).length + 1, D, us ++ [Value.ref a8], _, ep + 1, by rw [hit]; simp, by simp, rfl, drop_succ hde, .of rfl (by omega), .of rfl, .of rfl rfl, rfl, hapD _, hrows'⟩
end Mine

-- MRe
set_option maxRecDepth 100000
namespace Mine
def cdA : Array Nat := #[14, 17, 4, 1, 1, 21, 9, 0, 604043296, 1, 0, 0, 0, 0, 0, 8, 4, 0, 13, 14, 21, 9, 0, 604043296, 1, 0, 0, 0, 0, 0, 8, 4, 0, 1]
def setAns (i c : Nat) (b : Bool) (s : Sre.Seen) : Bool := match Sre.inSet cdA c 34 i true s with
  | .ok (r, _) => r == b
  | .error _ => false
theorem set5_all (s : Sre.Seen) : ((List.range 128).all fun c => setAns 5 c (!safeC c) s) = true := by kernel_rfl
theorem set20_all (s : Sre.Seen) : ((List.range 128).all fun c => setAns 20 c (!safeC c) s) = true := by kernel_rfl
theorem setAns_ok {i c : Nat} {b : Bool} {s : Sre.Seen} (h : setAns i c b s = true) : ∃ s', Sre.inSet cdA c 34 i true s = .ok (b, s') := by
  unfold setAns at h
  split at h
  · rename_i r s' e
    exact ⟨s', by rw [e, eq_of_beq h]⟩
  · cases h
theorem set5 {c : Nat} (hc : c < 128) (s : Sre.Seen) : ∃ s', Sre.inSet cdA c 34 5 true s = .ok (!safeC c, s') :=
  setAns_ok (List.all_eq_true.mp (set5_all s) c (List.mem_range.mpr hc))
theorem set20 {c : Nat} (hc : c < 128) (s : Sre.Seen) : ∃ s', Sre.inSet cdA c 34 20 true s = .ok (!safeC c, s') :=
  setAns_ok (List.all_eq_true.mp (set20_all s) c (List.mem_range.mpr hc))

/-- the machine ahead of its first look -/
def m0 (text : Array Nat) (n : Nat) : Sre.M :=
  { code := cdA, text, lim := n, start := 0, lastStart := n, pc := 18, pos := 0, handed := 0, marks := #[], seen := ({} : Sre.Seen).add 14 }
theorem forSearch_eq (text : Array Nat) (n : Nat) (h : 1 ≤ n) : Sre.forSearch cdA text 0 0 n false = (m0 text n).attemptFrom 0 true := by
  have e : Sre.forSearch cdA text 0 0 n false = if (decide (0 > n) || decide (n - 0 < 1)) = true then { m0 text n with lastStart := 0 }.say false else (m0 text n).attemptFrom 0 true := by
    kernel_rfl
  rw [e, if_neg (by simp; omega)]
/-- the machine at a place where the set says yes -/
def m1 (text : Array Nat) (n p : Nat) (s : Sre.Seen) : Sre.M :=
  { m0 text n with mustAdvance := false, seen := s, start := p, pos := p, handed := p, outermost := true, frames := [{ wait := .nextStart, pc := 18, pos := p, outermost := true }], weight := 1 }
theorem admitted_none (text : Array Nat) (n : Nat) (hx : ∀ (i c : Nat), text[i]? = some c → c < 128) (hn : n = text.size) (hs : text.toList.all safeC = true) : ∀ (fuel p : Nat) (s : Sre.Seen), ∃ s', (m0 text n).admitted fuel p s = .ok (none, s')
  | 0, _, s => ⟨s, rfl⟩
  | fuel + 1, p, s => by
    unfold Sre.M.admitted
    by_cases hp : p ≥ (m0 text n).lim
    · rw [if_pos hp]; exact ⟨s, rfl⟩
    · rw [if_neg hp]
      have hp' : p < text.size := by have : ¬ p ≥ n := hp; omega
      have hc := hx p text[p] (Array.getElem?_eq_getElem hp')
      have hsf : safeC text[p] = true := List.all_eq_true.mp hs _ (Array.getElem_mem_toList hp')
      have e : (m0 text n).text.getD p 0 = text[p] := by show text.getD p 0 = _; simp [Array.getD, hp']
      obtain ⟨s', e'⟩ := set5 hc s
      rw [e]
      have e2 : Sre.inSet (m0 text n).code text[p] (m0 text n).code.size 5 true s = .ok (!safeC text[p], s') := e'
      rw [e2, hsf]
      exact admitted_none text n hx hn hs fuel (p + 1) s'
theorem admitted_some (text : Array Nat) (n : Nat) (hx : ∀ (i c : Nat), text[i]? = some c → c < 128) (hn : n = text.size) : ∀ (fuel p : Nat) (s : Sre.Seen), n < p + fuel → (∃ c ∈ text.toList.drop p, safeC c = false) →
    ∃ q s', p ≤ q ∧ q < n ∧ (∃ c, text[q]? = some c ∧ safeC c = false) ∧ (m0 text n).admitted fuel p s = .ok (some q, s')
  | 0, p, s, hf, ⟨c, hc, _⟩ => by
    rw [List.drop_of_length_le (by simp; omega)] at hc
    cases hc
  | fuel + 1, p, s, hf, hex => by
    have hp' : p < text.size := by
      obtain ⟨c, hc, _⟩ := hex
      apply Classical.byContradiction
      intro h
      rw [List.drop_of_length_le (by simp; omega)] at hc
      cases hc
    unfold Sre.M.admitted
    have hp : ¬ p ≥ (m0 text n).lim := by show ¬ p ≥ n; omega
    rw [if_neg hp]
    have hc := hx p text[p] (Array.getElem?_eq_getElem hp')
    have e : (m0 text n).text.getD p 0 = text[p] := by show text.getD p 0 = _; simp [Array.getD, hp']
    obtain ⟨s', e'⟩ := set5 hc s
    rw [e]
    have e2 : Sre.inSet (m0 text n).code text[p] (m0 text n).code.size 5 true s = .ok (!safeC text[p], s') := e'
    rw [e2]
    cases hsf : safeC text[p] with
    | false => exact ⟨p, s', Nat.le_refl _, by omega, ⟨text[p], Array.getElem?_eq_getElem hp', hsf⟩, rfl⟩
    | true =>
      obtain ⟨q, s2, h1, h2, h3, h4⟩ := admitted_some text n hx hn fuel (p + 1) s' (by omega) (by
        obtain ⟨c, hc, hcs⟩ := hex
        rw [List.drop_eq_getElem_cons (by simpa using hp')] at hc
        rcases List.mem_cons.mp hc with rfl | hc
        · have : text.toList[p]'(by simpa using hp') = text[p] := by simp
          rw [this, hsf] at hcs; cases hcs
        · exact ⟨c, hc, hcs⟩)
      exact ⟨q, s2, by omega, h2, h3, h4⟩

theorem search_none (text : Array Nat) (hx : ∀ (i c : Nat), text[i]? = some c → c < 128) (h1 : 1 ≤ text.size) (hs : text.toList.all safeC = true) :
    ((Sre.forSearch cdA text 0 0 text.size false).runFor 4).outcome = some .failed := by
  rw [forSearch_eq _ _ h1]
  obtain ⟨s', e⟩ := admitted_none text text.size hx rfl hs (text.size + 1 - 0) 0 (({} : Sre.Seen).add 14)
  have e2 : (m0 text text.size).attemptFrom 0 true = { m0 text text.size with seen := s' }.say false := by
    show (match (m0 text text.size).admitted (text.size + 1 - 0) 0 (({} : Sre.Seen).add 14) with | .ok (some s, seen) => _ | .ok (none, seen) => _ | .error why => _) = _
    rw [e]
  rw [e2]
  rfl
theorem search_some (text : Array Nat) (hx : ∀ (i c : Nat), text[i]? = some c → c < 128) (h1 : 1 ≤ text.size) (hs : text.toList.all safeC = false) :
    ((Sre.forSearch cdA text 0 0 text.size false).runFor 4).outcome = some .matched := by
  rw [forSearch_eq _ _ h1]
  obtain ⟨q, s', _, hq, ⟨c, hc, hcs⟩, e⟩ := admitted_some text text.size hx rfl (text.size + 1 - 0) 0 (({} : Sre.Seen).add 14) (by omega) (by
    rw [List.drop_zero]
    have := List.all_eq_false.mp hs
    obtain ⟨c, hc, h⟩ := this
    exact ⟨c, hc, by simpa using h⟩)
  have e2 : (m0 text text.size).attemptFrom 0 true = m1 text text.size q s' := by
    show (match (m0 text text.size).admitted (text.size + 1 - 0) 0 (({} : Sre.Seen).add 14) with | .ok (some s, seen) => _ | .ok (none, seen) => _ | .error why => _) = _
    rw [e]
    rfl
  rw [e2]
  obtain ⟨s2, e3⟩ := set20 (hx q c hc) (s'.add 13)
  rw [hcs] at e3
  have e4 : (m1 text text.size q s').step = { m1 text text.size q s' with seen := s2, pc := 33, pos := q + 1 } := by
    show (if q ≥ text.size then _ else match Sre.inSet cdA (text.getD q 0) 34 20 true (s'.add 13) with | .error why => _ | .ok (false, seen) => _ | .ok (true, seen) => _) = _
    rw [if_neg (by omega), show text.getD q 0 = c from by simp [Array.getD, hq]; exact (Array.getElem?_eq_some_iff.mp hc).2, e3]
    rfl
  show ((m1 text text.size q s').step.runFor 3).outcome = _
  rw [e4]
  rfl
end Mine

-- MRe2
set_option maxRecDepth 100000
namespace Mine
theorem entry_search : entryFor table "re.Pattern.search" = some Builtin.«re.Pattern.search» := entryFor_of_tree (by kernel_rfl)
theorem quiet_search {as : Args} : (Code.builtin "re.Pattern.search" as).quiet = true := Code.quiet_builtin _ (by decide +kernel)
section
variable {w : World} {A : Around} {E : Value → Shared → Prop} {s : Shared}
theorem check_search {M : Model} {x : Str} {t : Tok} {h : Heap} (X : (hd.heap_39 w.params).In h) : Looks M h (checkBoundCall "re.Pattern.search" ⟨[.ref 44, .str x t], []⟩) () :=
  Looks.of_peek X (by kernel_rfl)
theorem target_search {M : Model} {x : Str} {t : Tok} {h : Heap} (X : (hd.heap_39 w.params).In h) : Looks M h (Builtin.Re.reTarget "re.Pattern.search" "search" ⟨[.ref 44, .str x t], []⟩)
    { pattern := .ref 44, string := .str x t, code := cdA, text := x.cps, kind := 0, groups := 0, pos := min 0 x.cps.size, lim := min (2 ^ 63 - 1) x.cps.size } :=
  Looks.of_peek X (by kernel_rfl)
theorem rules_pass {M : Model} {c : Nat → Bool} {tg : Nat → String} {Q : PUnit → Shared → Prop} : ∀ (l : List Nat), Q ⟨⟩ s →
    wpAny M A (forIn l PUnit.unit fun i _ => if c i = true then do rule (tg i); pure (ForInStep.yield PUnit.unit) else pure (ForInStep.yield PUnit.unit)) Q E s
  | [], h => wpAny_pure h
  | i :: r, h => by
    rw [List.forIn_cons]
    refine wpAny_bind ?_
    cases c i with
    | true => exact wpAny_bind (wpAny_rule (wpAny_pure (rules_pass r h)))
    | false => exact wpAny_pure (rules_pass r h)
theorem run_end {M : Model} {m : Sre.M} {b : Bool} {Q : Option Sre.M → Shared → Prop} (ho : (m.runFor 4).outcome = some (if b then .matched else .failed)) (h : Q (if b then some (m.runFor 4) else none) s) :
    wpAny M A (Builtin.Re.reRunToEnd m) Q E s := by
  have hd : Builtin.Re.reDrive (2 ^ 64) m = pure (m.runFor 4) := by
    show (if (m.runFor 4).outcome.isSome = true then pure (m.runFor 4) else _) = _
    rw [ho]
    cases b <;> rfl
  unfold Builtin.Re.reRunToEnd
  rw [hd]
  refine wpAny_bind (wpAny_pure ?_)
  refine wpAny_bind (rules_pass _ ?_)
  rw [ho]
  cases b <;> exact wpAny_pure h

/-- what the search answers -/
def SearchAns (x : Str) (_ : Heap) (v : Value) : Prop := (x.cps.toList.all safeC = true → v = .none) ∧ (x.cps.toList.all safeC = false → ∃ a, v = .ref a)
theorem search_spec {prog : Program} {x : Str} {t : Tok} (X : (hd.heap_39 w.params).In s.heap) (hx : ∀ c ∈ x.cps.toList, c < 128) (h0 : 1 ≤ x.length) (hl : x.length ≤ 1000000) :
    wpAny (model prog w) A (call (.ref 52) [.str x t]) (Done s (SearchAns x)) E s := by
  have hx' : ∀ (i c : Nat), x.cps[i]? = some c → c < 128 := fun i c h => hx c (by
    have : x.cps.toList[i]? = some c := by simpa using h
    exact List.mem_of_getElem? this)
  refine wpAny_call (codeAny_of_tree ?_)
  show wpAny _ A.in1 (callAny (.ref 52) ⟨[.str x t], []⟩) _ _ s
  simp only [callAny]
  refine wpAny_bind (wpAny_load (X 52 _ rfl) ?_)
  dsimp only
  refine KFB.if_so (by decide) ?_
  refine KFB.if_so (by decide) ?_
  refine wpAny_bind ((check_search X).here ?_)
  refine wpAny_bind (wpAny_pure (wpAny_pure ?_))
  refine ⟨quiet_search, codeAny_builtin entry_search ?_⟩
  unfold Builtin.«re.Pattern.search»
  refine wpAny_bind ((target_search X).here ?_)
  dsimp only
  have hp : min 0 x.cps.size = 0 := by omega
  have hlm : min (2 ^ 63 - 1) x.cps.size = x.cps.size := by
    have : x.cps.size = x.length := rfl
    omega
  rw [hp, hlm]
  unfold Builtin.Re.reAnswer
  cases hs : x.cps.toList.all safeC with
  | true =>
    refine wpAny_bind (run_end (b := false) (search_none x.cps hx' h0 hs) ?_)
    show wpAny _ _ (ret Value.none) _ _ s
    exact wpAny_pure ⟨⟨fun _ => rfl, fun h => by rw [hs] at h; cases h⟩, Keeps.refl s⟩
  | false =>
    refine wpAny_bind (run_end (b := true) (search_some x.cps hx' h0 hs) ?_)
    generalize Sre.M.runFor 4 _ = m
    show wpAny _ _ (do let v ← Builtin.Re.reNewMatch (.ref 44) (.str x t) 0 0 x.cps.size m; ret v) _ _ s
    unfold Builtin.Re.reNewMatch
    simp only [List.range_zero, List.flatMap_nil, List.any_nil, Bool.false_eq_true, if_false]
    refine wpAny_bind (wpAny_bind (wpAny_newObj_type (wpAny_newObj_type (wpAny_pure ?_) ?_) ?_))
    · exact ⟨⟨fun h => by rw [hs] at h; (try cases h), fun _ => ⟨_, rfl⟩⟩, _, _, rfl, fun b o e => Heap.get?_push_of_some _ (Heap.get?_push_of_some _ e)⟩
    · size_fits
    · size_fits
end
end Mine

-- M8
namespace Mine
local macro_rules | `(tactic| walk_at "MY STEPS") => `(tactic| repeat' (first
  | ((fail_if_success (with_reducible show wpAny _ _ (exec (Stmt.While _ _ _ _) _) _ _ _)); (fail_if_success (with_reducible show wpAny _ _ (exec (Stmt.For _ _ _ _ _) _) _ _ _)); (fail_if_success (with_reducible show Done _ _ _ _)); (fail_if_success (with_reducible show wpAny _ _ (call (Value.ref _) _) _ _ _)); (first | walk1 | (dsimp only; walk1)))))

structure Both (a b : Prop) : Prop where
  l : a
  r : b
theorem callWith_bf {M : Model} {A : Around} {E : Value → Shared → Prop} {s : Shared} {pos : Pos} {u : Addr} {first : List Value} {args : List (Bool × Sem Value)} {fs : Array Value} {Q : Value → Shared → Prop} (hplain : args.any (·.1) = false)
    (h : wpAny M A (evalArgs (.ref u) true args []) (fun x s₁ => Both (s₁.heap.get? u = some { cls := .type "builtin_function_or_method", data := .fields fs }) (wpAny M A (call (.ref u) (first ++ x.pos) x.kw) Q E s₁)) E s) : wpAny M A (callWith pos (.ref u) first args []) Q E s := by
  unfold callWith
  refine wpAny_bind (wpAny_holding (wpAny_mono h (fun x s₁ h₁ => wpAny_bind (wpAny_standAt ?_)) fun _ _ x => x))
  obtain ⟨ho, hcall⟩ := h₁
  simp only [hplain, List.any_nil, Bool.or_false]
  refine wpAny_bind (m := keeperOf (.ref u)) ?_
  unfold keeperOf
  refine wpAny_bind (wpAny_load ho ?_)
  simp only [show (Value.type "builtin_function_or_method" != Value.type "method") = true by decide, show (Value.type "builtin_function_or_method" == Value.type "builtin_function_or_method" || Value.type "builtin_function_or_method" == Value.type "method-wrapper") = true by decide, if_true]
  refine wpAny_pure ?_
  exact wpAny_bind (wpAny_mono hcall (fun r s₂ hr => wpAny_bind (wpAny_holding (wpAny_point (wpAny_pure hr)))) fun _ _ x => x)
theorem callWith_bfm {M : Model} {A : Around} {E : Value → Shared → Prop} {s : Shared} {pos : Pos} {u : Addr} {first : List Value} {env : Env} {e : Expr} {rest : List Expr} {fs : Array Value} {Q : Value → Shared → Prop}
    (h : wpAny M A (spliced (backTo pos (starEach (e :: rest) env))) (fun vs s₁ => Both (s₁.heap.get? u = some { cls := .type "builtin_function_or_method", data := .fields fs }) (wpAny M A (call (.ref u) (first ++ vs)) Q E s₁)) E s)
    (he : starEach (e :: rest) env = (false, eval e env) :: starEach rest env := by rfl) (hplain : (backTo pos (starEach rest env)).any (·.1) = false := by rfl) :
    wpAny M A (callWith pos (.ref u) first (backTo pos (starEach (e :: rest) env)) []) Q E s := by
  rw [he] at h ⊢
  refine callWith_bf (fs := fs) (by show (false || (backTo pos (starEach rest env)).any (·.1)) = false; rw [hplain]; rfl) ?_
  exact Calls.evalArgs_plain h

theorem encQ_le5 : ∀ l : List Nat, (encQ l).length ≤ 5 * l.length
  | [] => Nat.le_refl _
  | c :: r => by
    have := encQ_le5 r
    rw [encQ_cons, List.length_append, List.length_cons]
    split <;> simp <;> omega
theorem encQ_free : ∀ l : List Nat, 39 ∉ l → encQ l = l
  | [], _ => rfl
  | c :: r, h => by
    have h1 : ¬ c = 39 := fun e => h (e ▸ List.mem_cons_self ..)
    rw [encQ_cons, if_neg h1, encQ_free r fun m => h (.tail _ m)]; rfl
theorem encQ_join : ∀ parts : List Str, (∀ p ∈ parts, 39 ∉ p.cps.toList) → encQ (Str.join ⟨#[39]⟩ parts).cps.toList = (Str.join ⟨#[39, 34, 39, 34, 39]⟩ parts).cps.toList
  | [], _ => rfl
  | [p], h => encQ_free _ (h p (List.mem_singleton.mpr rfl))
  | p :: q :: r, h => by
    have ih := encQ_join (q :: r) fun a ha => h a (List.mem_cons_of_mem _ ha)
    show encQ (p ++ ⟨#[39]⟩ ++ Str.join ⟨#[39]⟩ (q :: r)).cps.toList = (p ++ ⟨#[39, 34, 39, 34, 39]⟩ ++ Str.join ⟨#[39, 34, 39, 34, 39]⟩ (q :: r)).cps.toList
    simp only [Str.cps_append, Array.toList_append]
    rw [encQ_append, encQ_append, ih, encQ_free _ (h p (List.mem_cons_self ..))]
    rfl
theorem replace_enc (l : List Nat) : Txt.replace (S l) (Str.ofString "'") (Str.ofString "'\"'\"'") = S (encQ l) := by
  rw [show Str.ofString "'" = ⟨#[39]⟩ from by decide +kernel, show Str.ofString "'\"'\"'" = ⟨#[39, 34, 39, 34, 39]⟩ from by decide +kernel]
  rw [StrLaws.replace_one]
  have h := encQ_join _ (StrLaws.split_free (S l) 39)
  rw [StrLaws.join_split] at h
  rw [← S_toList (Str.join _ _), ← h]

def quoteL (l : List Nat) : List Nat := if bareL l then l else 39 :: (encQ l ++ [39])

set_option maxRecDepth 100000 in
set_option maxHeartbeats 8000000 in
theorem quote_spec {w : World} {loose : List Str} {mg mb : Str → Option Value} {d un : Nat} {fr : Option (List Env)} {gd : Option (List Code)} {s : Shared} {E : Value → Shared → Prop} {l : List Nat} {t : Tok}
  (X : (hd.heap_39 w.params).In s.heap) (T : TopRead hd.view_39 loose mg mb s.heap) (hr : d + 10 < recursionLimit) (hu : un + 100 < cLine) (hc : ∀ c ∈ l, c < 128) (hl : l.length ≤ 1000000) :
  wpAny (model PySem.Challenge.rw_mj0042_01.row.prog w) ⟨none, d, fr, gd, un⟩ (call (.ref 59) [.str (S l) t]) (Done s (IsS (S (quoteL l)))) E s := by
  revert X; k_fill; intro X
  refine' enter (binds := [(Str.ofString "s", .str (S l) t)]) ?eX ?eT ?er ?eo ?ec ?eb ?el ?ece ?eco ?ege ?eki ?_
  (case eX => assumption); (case eT => assumption); (case er => (dsimp only; omega)); (case eo => k_is); (case ec => k_is); (case eb => exact BindsTo.of_eq rfl); (case el => exact locs rfl); (case ece => decide); (case eco => rfl); (case ege => rfl); (case eki => rfl)
  intro h₁ F N; dsimp only [List.length_cons, List.length_nil]
  have hll : (S l).length ≤ 1000000 := by rw [S_length]; exact hl
  walk_at "MY STEPS"
  · rename ((S l).length : Int) ≠ 0 => hne
    rw [S_length] at hne
    refine callWith_bfm (fs := #[.builtin "re.Pattern.search", .ref 44]) ?_
    walk_at "MY STEPS"
    refine ⟨(X.keeps F.keep) 52 _ rfl, ?_⟩
    refine use_done (search_spec (X.keeps F.keep) (by simpa using hc) (by rw [S_length]; omega) (by rw [S_length]; exact hl)) F N ?_
    rintro v h2 tk2 ⟨hs1, hs2⟩ F₂ N₂ _
    cases hs : l.all safeC with
    | true =>
      obtain rfl := hs1 hs
      clear F N
      walk_at "MY STEPS"
      refine Done.intro F₂ (isS_of ?_)
      rw [quoteL, if_pos (by simp [bareL, hs]; intro h; simp [h] at hne)]
    | false =>
      obtain ⟨a, rfl⟩ := hs2 hs
      clear F N
      have hz : (S (encQ l)).length + 2 ≤ sizeLine := by
        rw [S_length, sizeLine_eq]
        have := encQ_le5 l
        omega
      walk_at "MY STEPS"
      rw [replace_enc]
      walk_at "MY STEPS"
      refine Done.intro F₂ (isS_of ?_)
      rw [quoteL, if_neg (by simp [bareL, hs]), show Str.ofString "'" = S [39] from by decide +kernel, ← S_append, ← S_append]
      rfl
  · rename ((S l).length : Int) = 0 => hne
    rw [S_length] at hne
    refine Done.intro F (isS_of ?_)
    obtain rfl : l = [] := List.length_eq_zero_iff.mp (by omega)
    decide +kernel
end Mine

-- M9
namespace Mine
local macro_rules | `(tactic| walk_at "MY STEPS") => `(tactic| repeat' (first
  | ((fail_if_success (with_reducible show wpAny _ _ (exec (Stmt.While _ _ _ _) _) _ _ _)); (fail_if_success (with_reducible show wpAny _ _ (exec (Stmt.For _ _ _ _ _) _) _ _ _)); (fail_if_success (with_reducible show Done _ _ _ _)); (fail_if_success (with_reducible show wpAny _ _ (call (Value.ref _) _) _ _ _)); (fail_if_success (with_reducible show wpAny _ _ (eval (Expr.GeneratorExp _ _ _ _) _) _ _ _)); (first | walk1 | (dsimp only; walk1)))))

section
variable {prog : Program} {w : World} {A : Around} {E : Value → Shared → Prop} {s : Shared}
theorem enterQ {K : Frag} {p : Program} {loose : List Str} {mg mb : Str → Option Value} {Q : Value → Shared → Prop}
    {name qual : Str} {params : Arguments} {body : List Stmt} {scope : Scope} {dV kV doc pm cdv ct oc : Value} {an od : Option Addr} {osl : Array (Option Value)} {f : Addr} {vals : List Value} {binds : List (Str × Value)}
    (X : K.In s.heap) (T : TopRead p loose mg mb s.heap) (hroom : A.depth < recursionLimit)
    (ho : K.lookup f = some ⟨oc, od, .func (fnX name qual params body scope [] dV kV doc pm an cdv ct), osl⟩) (hcd : codeIn K cdv qual = true)
    (hbind : BindsTo s (fnX name qual params body scope [] dV kV doc pm an cdv ct) ⟨vals, []⟩ binds) (hloc : ∀ y ∈ binds, scope.names.lookup y.1 = some .local)
    (hcell : ∀ x ∈ scope.names, x.2 ≠ .cell) (hco : scope.isCoroutine = false) (hgen : scope.isGenerator = false) (hk : scope.kind = .function)
    (h : ∀ h₁, Fr s.heap s.heap.objs.size h₁ (fun y => binds.reverse.lookup y) → News s.heap s.heap.objs.size h₁ [] →
      wpAny (model prog w) (A.deeper (envX qual scope s.heap.objs.size f cdv [])) (execs body (envX qual scope s.heap.objs.size f cdv []))
        (fun fl s' => Q (match fl with | .ret v => v | _ => .none) s') (fun _ _ => False)
        { s with heap := h₁, toks := s.toks + binds.length }) :
    wpAny (model prog w) A (call (.ref f) vals) Q E s := by
  refine wpAny_call (codeAny_call_def (fd := fnX name qual params body scope [] dV kV doc pm an cdv ct) (body := body) (binds := binds) hroom (X _ _ ho) rfl T.nolimit (codeRec_of X hcd) rfl hbind hcell hloc (fun h₁ hns hk₁ => ?_) hco hgen hk)
  exact wpAny_mono (h h₁ ⟨hns, hk₁, Nat.le_refl _⟩ News.nil) (fun _ _ d => d) fun _ _ e => e.elim
end

/-- the end of a call that made a generator: the table of the def's code has grown -/
structure JoinDone (s : Shared) (x : Str) (v : Value) (s' : Shared) : Prop where
  val : ∃ t, v = .str x t
  os : s'.os = s.os
  bare : AllBare s'.gens
  grown : ∃ P ps', Based s.heap (regrown s.heap P ps') 50 P ps' ∧ ∀ b o, (regrown s.heap P ps').get? b = some o → s'.heap.get? b = some o

theorem fn_at {K : Frag} {h : Heap} {f : Addr} {oc : Value} {od : Option Addr} {fd : FuncData} {osl : Array (Option Value)} (X : K.In h) (e : K.lookup f = some ⟨oc, od, .func fd, osl⟩) : ∃ o fd, o.data = .func fd ∧ h.get? f = some o := ⟨_, fd, rfl, X _ _ e⟩

def itemOf (l : List Nat) : Bool × List Nat := (!bareL l, l)
theorem encI_itemOf (l : List Nat) : encI (itemOf l) = quoteL l := by
  unfold encI itemOf quoteL
  cases bareL l <;> simp

theorem range_map_getD (f : List Nat → Str) (ws : List (List Nat)) : (List.range ws.length).map (fun j => f (ws.getD j [])) = ws.map f := by
  apply List.ext_getElem?
  intro j
  by_cases h : j < ws.length
  · simp [h, List.getD_eq_getElem?_getD]
  · rw [List.getElem?_eq_none (by simpa using h), List.getElem?_eq_none (by simpa using h)]
theorem quoteL_le (l : List Nat) : (quoteL l).length ≤ 5 * l.length + 2 := by
  unfold quoteL
  have := encQ_le5 l
  split <;> simp <;> omega
theorem fold_le (k M : Nat) : ∀ (l : List Str) (a : Nat), (∀ x ∈ l, x.length ≤ M) → l.foldl (fun a x => a + x.length + k) a ≤ a + (M + k) * l.length
  | [], a, _ => by simp
  | x :: r, a, h => by
    have h1 := fold_le k M r (a + x.length + k) fun y hy => h y (.tail _ hy)
    have h2 := h x (.head _)
    rw [List.foldl_cons, List.length_cons, Nat.mul_add]
    omega
theorem join_ok {ws : List (List Nat)} (hn : ws.length ≤ 100) (h : ∀ x ∈ ws, (quoteL x).length ≤ 60000) : JoinOk (Str.ofString " ") (ws.map fun x => S (quoteL x)) = true := by
  have h1 := fold_le (Str.ofString " ").length 60000 (ws.map fun x => S (quoteL x)) 0 (fun y hy => by
    obtain ⟨x, hx, rfl⟩ := List.mem_map.mp hy
    rw [S_length]; exact h x hx)
  have h2 : (Str.ofString " ").length = 1 := by decide +kernel
  unfold JoinOk
  rw [List.foldl_toArray' (h := rfl), Bool.not_eq_true']
  rw [h2] at h1 ⊢
  rw [List.length_map] at h1
  show decide (_ > sizeLine) = false
  rw [decide_eq_false_iff_not, sizeLine_eq]
  omega
theorem join_line : ∀ ws : List (List Nat), Txt.join (Str.ofString " ") (ws.map fun x => S (quoteL x)) = S (joinE (ws.map itemOf)) := by
  intro ws
  unfold Txt.join
  rw [StrLaws.glued_eq_join, show Str.ofString " " = S [32] from by decide +kernel]
  induction ws with
  | nil => rfl
  | cons a r ih =>
    cases r with
    | nil => show S (quoteL a) = S (encI (itemOf a)); rw [encI_itemOf]
    | cons b q =>
      show S (quoteL a) ++ S [32] ++ Str.join (S [32]) (S (quoteL b) :: q.map fun x => S (quoteL x)) = S (encI (itemOf a) ++ 32 :: joinE (itemOf b :: q.map itemOf))
      rw [show Str.join (S [32]) (S (quoteL b) :: q.map fun x => S (quoteL x)) = S (joinE (itemOf b :: q.map itemOf)) from ih, encI_itemOf, ← S_append, ← S_append]
      simp

set_option maxRecDepth 100000 in
set_option maxHeartbeats 1000000 in
theorem join_spec {w : World} {loose : List Str} {mean : ExcName → Option Value} {mg mb : Str → Option Value} {d un : Nat} {fr : Option (List Env)} {gd : Option (List Code)} {s : Shared} {E : Value → Shared → Prop} {l : Addr} {vs : List Value} {ws : List (List Nat)}
  (X : (hd.heap_39 w.params).In s.heap) (T : Top hd.view_39 loose mean mg mb s.heap) (hr : d + 30 < recursionLimit) (hu : un + 300 < cLine) (hg : AllBare s.gens)
  (hl : s.heap.IsList l vs.toArray) (hs : StrsAre vs (ws.map S)) (hw : ∀ x ∈ ws, x.length ≤ 10000 ∧ ∀ c ∈ x, c < 128) (hn : ws.length ≤ 100) :
  wpAny (model PySem.Challenge.rw_mj0042_01.row.prog w) ⟨none, d, fr, gd, un⟩ (call (.ref 51) [.ref l]) (JoinDone s (S (joinE (ws.map itemOf)))) E s := by
  have hsz : vs.length = ws.length := by simpa using hs.length
  have TR := topRead_of T
  obtain ⟨bm, ob, M⟩ := bmod_of_top T
  revert X; k_fill; intro X
  have hmj : mg (Str.ofString "join") = some (.ref 51) := mg_of X T.g (by k_is)
  obtain ⟨c, P, hc, B⟩ := based_of_top T (name := Str.ofString "join") rfl hmj (X 51 _ (by k_is)) rfl
  obtain rfl : c = 50 := by cases hc; rfl
  refine' enterQ (binds := [(Str.ofString "split_command", .ref l)]) ?eX ?eT ?er ?eo ?ec ?eb ?el ?ece ?eco ?ege ?eki ?_
  (case eX => assumption); (case eT => assumption); (case er => (dsimp only; omega)); (case eo => k_is); (case ec => k_is); (case eb => exact BindsTo.of_eq rfl); (case el => exact locs rfl); (case ece => decide); (case eco => rfl); (case ege => rfl); (case eki => rfl)
  intro h₁ F N; dsimp only [List.length_cons, List.length_nil]
  clear hc
  walk_at "MY STEPS"
  refine GeneratorExp_rowsP (L := s.heap.objs.size) (m := fun y => List.lookup y [(Str.ofString "split_command", Value.ref l)].reverse) B M rfl rfl rfl rfl rfl (by decide) rfl rfl rfl (by show d + 1 < recursionLimit; omega) ?_ (by intro _; rfl)
  walk_at "MY STEPS"
  refine src_list (K := s.heap.objs.size) (pz := fun _ => true) (F := fun i y => ∃ t, y = .str (S (quoteL (ws.getD i []))) t) B (hl.at fun o e => F.keep l o e) F hg (TR.nolimit.keeps F.keep) (Nat.le_refl _) F.ns.lt ?_ ?_ ?_
  · intro c' C A' E' i v t m₂ hA hD hU hv F₂ hm hLC hk
    exact wpAny_tests_nil ⟨rfl, Keeps.refl _⟩
  · rintro c' C A' E' i v t m₂ hA hD hU hv - F₂ hm hLC hk
    have X₂ := LGeL.in_regrown F₂ X TR B (by rfl)
    have T₂ := LGe.top_regrown F₂ TR B
    generalize regrown s.heap P _ = hR at F₂ X₂ T₂
    have hi : i < ws.length := by
      have := (Array.getElem?_eq_some_iff.mp hv).1
      simpa [hsz] using this
    obtain ⟨tw, hvi⟩ := hs.get i (S ws[i]) (by simp [List.getElem?_eq_getElem hi])
    obtain rfl : v = .str (S ws[i]) tw := by
      have : vs[i]? = some v := by simpa using hv
      rw [hvi] at this; exact (Option.some.inj this).symm
    obtain ⟨hA1, d', fr', gd', un'⟩ := A'
    dsimp only at hA hD hU
    subst hA
    have N₂ : News hR C t.heap [] := News.nil
    refine Call_ ?_
    refine Calls.Name_function_global rfl rfl (Calls.loadGlobal_global (T₂.g.keeps F₂.keep) (mg_of X₂ T₂.g (by k_is)) ?_) (by decide)
    obtain ⟨o, fd, ho1, ho2⟩ := fn_at (X₂.keeps F₂.keep) (f := 59) (by k_is)
    have hD' : d' ≤ d + 1 + 1 := hD
    have hU' : un' ≤ un + 3 + 8 := hU
    refine callWith_def ho1 ?_
    refine spliced_more (wpAny_Name (wpAny_loadName_local rfl rfl F₂.ns hm ?_) (by decide))
    refine spliced_none ⟨ho2, ?_⟩
    have hwi := hw ws[i] (List.getElem_mem hi)
    refine wpAny_mono (quote_spec (X₂.keeps F₂.keep) (T₂.keeps F₂.keep) (by omega) (by omega) hwi.2 (by omega)) (fun y s₃ dn => ?_) fun _ _ e => e
    refine ⟨?_, dn.keeps⟩
    rw [List.getD_eq_getElem?_getD, List.getElem?_eq_getElem hi]
    exact dn.val
  · intro c' a s₅ B₅ F₅ G₅ hos hk Xg
    have hps : passing (fun _ => true) vs.toArray.size 0 = List.range ws.length := by
      simp [passing, hsz]
    rw [hps, List.length_range] at Xg
    refine spliced_none ?_
    show wpAny _ _ (call (.builtin "str.join") [.str (Str.ofString " ") _, .ref a]) _ _ _
    refine join_rowsK F₅ G₅ Xg (Nat.le_refl _) (fun j => S (quoteL (ws.getD j []))) ?_ ?_ ?_ ?_
    · rintro j v ⟨i, hi, t, rfl⟩
      have : i = j := by
        obtain ⟨h1, h2⟩ := List.getElem?_eq_some_iff.mp hi
        simpa using h2.symm
      subst this
      exact ⟨t, rfl⟩
    · rw [range_map_getD (fun x => S (quoteL x))]
      exact join_ok hn fun x hx => by
        have h1 := (hw x hx).1
        have h2 := quoteL_le x
        omega
    · intro s' t' F₆ G₆ hos' _
      rw [range_map_getD (fun x => S (quoteL x)), join_line]
      exact ⟨⟨t', rfl⟩, hos'.trans hos, G₆, P, _, B₅, F₆.keep⟩
    · rw [sizeLine_eq]; omega
end Mine

-- MMap
namespace Mine
set_option maxRecDepth 100000
section mapfacts
open PySem.F
theorem owner_map : Manifest.owners.lookup (String.ofList ['p', 'a', 'm'].reverse) = some Manifest.sig_map := by kernel_rfl
theorem slot_map_init : Slot "map" "__init__" "object.__init__" :=
  .of (owner := "object") (n := "__init__") (by rw [typeLookup_type, builtinLookup_eq_fast]; kernel_rfl) (by decide +kernel) (by decide +kernel) (by decide +kernel)
    (by first | exact .inl (by decide +kernel) | exact .inr (by decide +kernel)) (by rw [isSubtype_type]; kernel_rfl)
theorem slot_map_iter : Slot "map" "__iter__" "map.__iter__" :=
  .of (owner := "map") (n := "__iter__") (by rw [typeLookup_type, builtinLookup_eq_fast]; kernel_rfl) (by decide +kernel) (by decide +kernel) (by decide +kernel)
    (by first | exact .inl (by decide +kernel) | exact .inr (by decide +kernel)) (by rw [isSubtype_type]; kernel_rfl)
theorem args_map_iter_1 (a : Value) : argsOk "map.__iter__" ⟨[a], []⟩ := by
  unfold argsOk; rw [signature?_of (id := "map.__iter__") (n := ['_', '_', 'r', 'e', 't', 'i', '_', '_']) (o := ['p', 'a', 'm']) (by kernel_rfl) owner_map]; kernel_rfl
theorem slot_map_next : Slot "map" "__next__" "map.__next__" :=
  .of (owner := "map") (n := "__next__") (by rw [typeLookup_type, builtinLookup_eq_fast]; kernel_rfl) (by decide +kernel) (by decide +kernel) (by decide +kernel)
    (by first | exact .inl (by decide +kernel) | exact .inr (by decide +kernel)) (by rw [isSubtype_type]; kernel_rfl)
theorem entry_map_next : entryFor table "map.__next__" = some Builtin.«map.__next__» := entryFor_of_tree (by kernel_rfl)
theorem args_map_next_1 (a : Value) : argsOk "map.__next__" ⟨[a], []⟩ := by
  unfold argsOk; rw [signature?_of (id := "map.__next__") (n := ['_', '_', 't', 'x', 'e', 'n', '_', '_']) (o := ['p', 'a', 'm']) (by kernel_rfl) owner_map]; kernel_rfl
theorem entry_map_iter : entryFor table "map.__iter__" = some Builtin.«dict_keyiterator.__iter__» :=
  entryFor_alias (id' := "dict_keyiterator.__iter__") (by kernel_rfl) (by first | rfl | decide +kernel | (unfold String.splitOn; simp +decide [String.splitOnAux])) (by decide +kernel) (by kernel_rfl)
theorem mro_map : mroOf (.type "map") = pure [.type "map", .type "object"] := by rw [mroOf_type]; kernel_rfl
theorem lookup_map_new : typeLookup (.type "map") "__new__" = pure (some (.builtin "map.__new__")) := by rw [typeLookup_type, builtinLookup_eq_fast]; kernel_rfl
theorem called_map : TypeCalled "map" "map.__new__" "object.__init__" :=
  ⟨by decide +kernel, by decide +kernel, ⟨_, _, mro_map⟩, madeBy_type mro_map lookup_map_new (by decide +kernel), by decide +kernel, by rw [isSubtype_type]; kernel_rfl, slot_map_init⟩
theorem typeCall_map_2 (a b : Value) : checkTypeCall "map" ⟨[a, b], []⟩ = pure () := by kernel_rfl
theorem newCall_map_2 (a b : Value) : checkBuiltinCall "map.__new__" ⟨[.type "map", a, b], []⟩ = pure () := by kernel_rfl
theorem entry_map_new : entryFor table "map.__new__" = some Builtin.«map.__new__» := entryFor_of_tree (by kernel_rfl)
theorem sub_map : isSubtype (.type "map") (.type "map") = pure true := by rw [isSubtype_type]; kernel_rfl
theorem map_no_len : typeLookup (.type "map") "__len__" = pure none := by rw [typeLookup_type, builtinLookup_eq_fast]; kernel_rfl
theorem map_no_hint : typeLookup (.type "map") "__length_hint__" = pure none := by rw [typeLookup_type, builtinLookup_eq_fast]; kernel_rfl
end mapfacts

abbrev IsMap (h : Heap) (z TI : Addr) (f : Value) : Prop := h.get? z = some { cls := .type "map", dict := none, data := .fields #[.ref TI, f], slots := #[] }
abbrev IsOne (h : Heap) (T : Addr) (a : Value) : Prop := h.get? T = some { cls := .type "tuple", data := .seq #[a] }

section
variable {prog : Program} {w : World} {A : Around} {E : Value → Shared → Prop} {s : Shared}
structure MapApart (z TI i1 l1 : Addr) : Prop where
  i1z : i1 ≠ z
  TIi1 : TI ≠ i1
  l1i1 : l1 ≠ i1

theorem map_next_item {z TI i1 l1 : Addr} {k1 : Nat} {xs : Array Value} {x f : Value} {Q : Value → Shared → Prop} (D : MapApart z TI i1 l1)
    (hz : IsMap s.heap z TI f) (hTI : IsOne s.heap TI (.ref i1)) (h1 : s.heap.IsListIter i1 l1 k1) (hl1 : s.heap.IsList l1 xs) (hx : xs[k1]? = some x)
    (hQ : ∀ h', h'.IsListIter i1 l1 (k1 + 1) → Heap.SameBut i1 s.heap h' → wpAny (model prog w) A (call f [x]) Q E { s with heap := h' }) :
    wpAny (model prog w) A (Builtin.«map.__next__» ⟨[.ref z], []⟩) (fun fin s' => ∃ v, fin = .done (.ret v) ∧ Q v s') E s := by
  show wpAny _ _ (field (.ref z) 0 >>= _) _ _ _
  refine wpAny_bind (wpAny_field hz rfl (x := .ref TI) rfl ?_)
  refine wpAny_bind (wpAny_seqItems hTI rfl ?_)
  refine wpAny_bind ?_
  simp only [List.forIn_toArray, List.forIn_cons, List.forIn_nil]
  refine wpAny_bind (wpAny_bind (wpAny_holding ?_))
  refine wpAny_nextOf_list_item h1 hl1 hx fun h₂ h1₂ hs₂ => wpAny_pure ?_
  refine wpAny_pure ?_
  have hz₂ : IsMap h₂ z TI f := hs₂.extBut _ _ D.i1z.symm hz
  refine wpAny_bind (wpAny_field hz₂ rfl (x := f) rfl ?_)
  refine wpAny_bind (wpAny_holding (wpAny_mono (hQ h₂ h1₂ hs₂) (fun v s' hq => ?_) fun _ _ e => e))
  refine wpAny_bind (wpAny_letGo ?_)
  exact wpAny_pure ⟨_, rfl, hq⟩

theorem map_next_end {z TI i1 l1 : Addr} {k1 : Nat} {xs : Array Value} {f : Value} {Q : Fin → Shared → Prop} (hh : A.handled = none) (D : MapApart z TI i1 l1)
    (hz : IsMap s.heap z TI f) (hTI : IsOne s.heap TI (.ref i1)) (h1 : s.heap.IsListIter i1 l1 k1) (hl1 : s.heap.IsList l1 xs) (hx : xs[k1]? = none)
    (hE : ∀ h' e, (∀ c o, c ≠ i1 → s.heap.get? c = some o → h'.get? c = some o) → (∃ o, h'.get? e = some o ∧ o.cls = .type "StopIteration") → E (.ref e) { s with heap := h' }) :
    wpAny (model prog w) A (Builtin.«map.__next__» ⟨[.ref z], []⟩) Q E s := by
  show wpAny _ _ (field (.ref z) 0 >>= _) _ _ _
  refine wpAny_bind (wpAny_field hz rfl (x := .ref TI) rfl ?_)
  refine wpAny_bind (wpAny_seqItems hTI rfl ?_)
  refine wpAny_bind ?_
  simp only [List.forIn_toArray, List.forIn_cons, List.forIn_nil]
  refine wpAny_bind (wpAny_bind (wpAny_holding ?_))
  exact wpAny_nextOf_list_end hh h1 hl1 hx fun h₂ e hs₂ he => hE h₂ e hs₂ he

theorem wpAny_pyIter_map {z TI : Addr} {f : Value} {Q : Value → Shared → Prop} (hz : IsMap s.heap z TI f) (h : Q (.ref z) s) : wpAny (model prog w) A (pyIter (.ref z)) Q E s := by
  have hT : s.TypeIs (.ref z) "map" := ⟨_, hz, rfl⟩
  refine wpAny_pyIter_slot hT slot_map_iter (wpAny_call_entry slot_map_iter hT entry_map_iter ?_ (args_map_iter_1 _))
  show wpAny _ _ (ret (.ref z)) _ _ s
  exact wpAny_pure ⟨_, rfl, "map", _, hT, slot_map_next.lookup, h⟩

/-- a walk over a map object: every item goes through a call that keeps all that stands -/
theorem Walks_map (hh : A.handled = none) (z TI i1 l1 : Addr) (f : Value) (D : MapApart z TI i1 l1) (xs : Array Value) (P : Nat → Value → Prop)
    (hf : ∀ i x A' E' (Q : Value → Shared → Prop) (s : Shared), xs[i]? = some x → (∀ v tk, P i v → Q v { s with toks := tk }) → wpAny (model prog w) A' (call f [x]) Q E' s) :
    Walks prog w A z [z, TI, i1, l1] [i1] xs.size P (fun i h => IsMap h z TI f ∧ IsOne h TI (.ref i1) ∧ h.IsListIter i1 l1 i ∧ h.IsList l1 xs) where
  sub := fun c hc => by simp at hc ⊢; simp [hc]
  frame := fun i h h' hst hk => by
    obtain ⟨hz, hTI, h1, hl1⟩ := hst
    exact ⟨hk z (by simp) _ hz, hk TI (by simp) _ hTI, h1.at fun o e => hk i1 (by simp) o e, hl1.at fun o e => hk l1 (by simp) o e⟩
  item := fun i s Q E hi hst hQ => by
    obtain ⟨hz, hTI, h1, hl1⟩ := hst
    have hT : s.TypeIs (.ref z) "map" := ⟨_, hz, rfl⟩
    unfold pyNext
    refine wpAny_bind (wpAny_attempt (wpAny_callSpecial?_slot (name := Str.ofString "__next__") hT slot_map_next
      (wpAny_call_entry slot_map_next hT entry_map_next
        (map_next_item D hz hTI h1 hl1 (Array.getElem?_eq_getElem hi) fun h' a1 a2 => hf i _ _ _ _ _ (Array.getElem?_eq_getElem hi) fun v tk hv => wpAny_pure ?_) (args_map_next_1 _))))
    exact hQ v h' tk hv ⟨a2.extBut _ _ D.i1z.symm hz, a2.extBut _ _ D.TIi1 hTI, a1, hl1.extBut a2.extBut D.l1i1⟩ fun b o hb e => a2.extBut b o (fun h => hb (by simp [h])) e
  done := fun s Q E hst hQ => by
    obtain ⟨hz, hTI, h1, hl1⟩ := hst
    have hT : s.TypeIs (.ref z) "map" := ⟨_, hz, rfl⟩
    unfold pyNext
    refine wpAny_bind (wpAny_attempt (wpAny_callSpecial?_slot (name := Str.ofString "__next__") hT slot_map_next
      (wpAny_call_entry slot_map_next hT entry_map_next (map_next_end hh D hz hTI h1 hl1 (Array.getElem?_eq_none (Nat.le_refl _)) fun h' e hk he => ?_) (args_map_next_1 _))))
    obtain ⟨o, ho, hc⟩ := he
    refine wpAny_bind (wpAny_isInstance (T := "StopIteration") (b := true) ⟨o, ho, hc⟩ isSubtype_stop ?_)
    exact wpAny_pure (hQ _ _ fun b o hb e => hk b o (fun h => hb (by simp [h])) e)
  self := fun i s Q E hst hQ => wpAny_pyIter_map hst.1 hQ
end

abbrev mapH1 (h : Heap) (l1 : Addr) : Heap := h.push { cls := .type "list_iterator", data := .fields #[.ref l1, .int 0 0] }
abbrev mapH2 (h : Heap) (l1 : Addr) : Heap := (mapH1 h l1).push { cls := .type "tuple", data := .seq #[.ref h.objs.size] }
abbrev mapH3 (h : Heap) (l1 : Addr) (f : Value) : Heap := (mapH2 h l1).push { cls := .type "map", data := .fields #[.ref (mapH1 h l1).objs.size, f] }

theorem meets_map_new (l1 : Addr) (f : Value) (xs : Array Value) :
    Meets (Builtin.«map.__new__» ⟨[.type "map", f, .ref l1], []⟩) (fun _ R s => s.heap.IsList l1 xs ∧
      R (.ok (.ret (.ref (mapH2 s.heap l1).objs.size))) { s with heap := mapH3 s.heap l1 f }) :=
  .of_wp fun prog w A R s h => by
    obtain ⟨hp, g, d, tk, os⟩ := s; obtain ⟨hl1, h⟩ := h
    have hsub := sub_map
    have hL1 : Heap.IsList (Shared.heap ⟨hp, g, d, tk, os⟩) l1 xs := hl1
    wp_walk using wpAny_pyIter_list hL1
    exact ⟨_, rfl, h⟩

section
variable {prog : Program} {w : World} {A : Around} {E : Value → Shared → Prop} {s : Shared}
theorem call_map_2 {l1 : Addr} {f : Value} {xs : Array Value} {Q : Value → Shared → Prop} (hl1 : s.heap.IsList l1 xs)
    (h : ∀ h', IsMap h' (s.heap.objs.size + 2) (s.heap.objs.size + 1) f → IsOne h' (s.heap.objs.size + 1) (.ref s.heap.objs.size) →
      h'.IsListIter s.heap.objs.size l1 0 → h'.objs.size = s.heap.objs.size + 3 →
      (∀ c o, s.heap.get? c = some o → h'.get? c = some o) → Q (.ref (s.heap.objs.size + 2)) { s with heap := h' }) :
    wpAny (model prog w) A (call (.type "map") [f, .ref l1]) Q E s := by
  refine callType_new called_map (by decide) (typeCall_map_2 _ _) (newCall_map_2 _ _) (fun obj => F.args_object_init_3 obj _ _) entry_map_new
    (meets_map_new l1 f xs) ⟨hl1, ?_⟩
  have z1 : (mapH1 s.heap l1).objs.size = s.heap.objs.size + 1 := Heap.size_push ..
  have z2 : (mapH2 s.heap l1).objs.size = s.heap.objs.size + 2 := by rw [Heap.size_push, z1]
  have z3 : (mapH3 s.heap l1 f).objs.size = s.heap.objs.size + 3 := by rw [Heap.size_push, z2]
  have g3 : (mapH3 s.heap l1 f).get? (mapH2 s.heap l1).objs.size = some _ := Heap.get?_push_size _ rfl
  have g2 : (mapH3 s.heap l1 f).get? (mapH1 s.heap l1).objs.size = some _ := Heap.get?_push_of_some _ (Heap.get?_push_size _ rfl)
  have g1 : (mapH3 s.heap l1 f).get? s.heap.objs.size = some _ := Heap.get?_push_of_some _ (Heap.get?_push_of_some _ (Heap.get?_push_size _ rfl))
  show _ ∧ _
  rw [z1, z2] at g3
  rw [z1] at g2
  rw [z2]
  exact ⟨⟨_, g3, rfl⟩, h _ g3 g2 ⟨_, g1, rfl, rfl⟩ z3 fun c o x => Heap.get?_push_of_some _ (Heap.get?_push_of_some _ (Heap.get?_push_of_some _ x))⟩
end
end Mine

-- MMap2
namespace Mine
set_option maxRecDepth 100000
section
variable {prog : Program} {w : World} {A : Around} {E : Value → Shared → Prop} {s : Shared} {I : Addr}

/-- a map tells no length -/
theorem hint_map {Q : Bool → Shared → Prop} (hT : s.TypeIs (.ref I) "map") (h : Q true s) : wpAny (model prog w) A (Builtin.List.listLengthHint (.ref I)) Q E s :=
  wpAny_bind (wpAny_specialOf hT map_no_len (wpAny_bind (wpAny_specialOf (name := Str.ofString "__length_hint__") hT map_no_hint (wpAny_pure h))))

/-- a push and a pop: the list is as it was, but for its count of changes -/
theorem touch_own {D : Addr} {its : Array Value} {c : Nat} {Q : Unit → Shared → Prop} (hD : IsL s.heap D its c) (hz : its.size + 1 ≤ sizeLine)
    (h : ∀ h' c', IsL h' D its c' → Heap.SameBut D s.heap h' → Q () { s with heap := h' }) : wpAny (model prog w) A (Builtin.List.listTouch (.ref D)) Q E s := by
  have u1 := IsL.update hD (·.push Value.none)
  have u2 := IsL.update u1 (·.pop)
  rw [Array.pop_push] at u2
  have k : Heap.SameBut D s.heap ((s.heap.update D (Obj.mapSeq (·.push Value.none))).update D (Obj.mapSeq (·.pop))) :=
    ⟨(Heap.SameBut.update _ D _).1.trans (Heap.SameBut.update _ D _).1, fun b hb => ((Heap.SameBut.update _ D _).2 b hb).trans ((Heap.SameBut.update _ D _).2 b hb)⟩
  refine wpAny_bind (wpAny_updateSeq hD rfl ?_ (by omega) (by rw [Array.size_push]; omega))
  exact wpAny_updateSeq u1 rfl (h _ _ u2 k) (by rw [Array.size_push]; exact hz) (by rw [Array.pop_push]; omega)

/-- the items of a map, in a new list -/
theorem collect_map {fp wr : List Addr} {G : Array GenState → Array GenState → Prop} {n : Nat} {P : Nat → Value → Prop} {St : Nat → Shared → Prop} {Q : List Value → Shared → Prop}
    (V : WalksS prog w A.in1 I fp wr G n P St) (hT : ∀ i s, St i s → s.TypeIs (.ref I) "map") (st : St 0 s) (hin : ∀ b ∈ fp, b < s.heap.objs.size) (hI : I < s.heap.objs.size) (hn : n ≤ sizeLine)
    (hQ : ∀ s' acc, Moved wr G s s' → ItemsOf P acc n → Q acc.toList s') : wpAny (model prog w) A (collect (.ref I)) Q E s := by
  let D := s.heap.objs.size
  let s1 : Shared := { s with heap := s.heap.push { cls := .type "list", data := .seq #[] } }
  have off : D ∉ fp := fun h => Nat.lt_irrefl _ (hin _ h)
  have lD : IsL s1.heap D #[] 0 := IsL.new _ _
  have st1 : St 0 s1 := V.frame 0 s _ s.toks st (Nat.le_refl _) fun b _ o e => Heap.get?_push_of_some _ e
  have t1 := hT 0 s1 st1
  have ne : Builtin.List.listSameRef (.ref D) (.ref I) = false := by
    show (D == I) = false
    exact beq_false_of_ne (Nat.ne_of_gt hI)
  -- the extension itself, from the new list on
  have ext : ∀ R : Result → Shared → Prop, (∀ s' acc c, IsL s'.heap D acc c → Moved wr G s s' → ItemsOf P acc n → R (.ok (.ret (.ref D))) s') →
      codeAny (model prog w) A (.builtin "list.__iadd__" ⟨[.ref D, .ref I], []⟩) R s1 := by
    intro R hR
    refine codeAny_builtin F.entry_list_iadd ?_
    rw [Around.under_plainId F.plain_list_iadd _]
    show wpAny _ A.in1 (Builtin.List.listExtendWith (.ref D) (.ref I) (.ref D)) _ _ s1
    unfold Builtin.List.listExtendWith
    refine wpAny_bind (wpAny_typeOf t1 ?_)
    rw [if_neg (by rw [ne]; decide)]
    refine wpAny_bind (V.self 0 s1 _ _ st1 (wpAny_bind (wpAny_holding (hint_map t1 ?_))))
    rw [if_pos (by rfl)]
    refine wpAny_bind (wpAny_rule (wpAny_bind (touch_own lD (by rw [sizeLine_eq]; decide) fun h' c' l' k' => ?_)))
    have st2 : St 0 { s1 with heap := h' } := V.frame 0 s1 h' s.toks st1 (Nat.le_refl _) fun b hb o e => k'.extBut b o (fun q => off (q ▸ hb)) e
    refine wpAny_pure ⟨plainId_quiet F.plain_extend_loop _, codeAny_extend_loopS V hn D off (.ref D) n 0 _ #[] c' rfl (Nat.zero_le _) st2 l' (ItemsOf.nil P) fun s' acc c mv ld it => hR s' acc c ld ?_ it⟩
    exact ⟨fun b o hb e => mv.heap b o (fun q => (List.mem_cons.mp q).elim (fun q => Nat.ne_of_lt (Heap.lt_size e) q) hb) (k'.extBut b o (Nat.ne_of_lt (Heap.lt_size e)) (Heap.get?_push_of_some _ e)), mv.gens, mv.drawn, mv.os, mv.toks⟩
  refine wpAny_bind (wpAny_runValue (codeAny_builtin F.entry_proto_collect ?_))
  rw [Around.under_plainId F.plain_proto_collect _]
  refine wpAny_bind (wpAny_newObj_type (wpAny_pure ⟨plainId_quiet F.plain_list_iadd _, ext _ fun s' acc c ld mv it => ?_⟩))
  exact wpAny_bind (wpAny_load ld (wpAny_pure (hQ s' acc mv it)))

theorem map_ap (n l : Nat) (h : l < n) : MapApart (n + 2) (n + 1) n l :=
  ⟨(by omega : ¬ (n : Nat) = n + 2), (by omega : ¬ (n + 1 : Nat) = n), (by omega : ¬ (l : Nat) = n)⟩
theorem map_lt (n l m b : Nat) (h : l < n) (hm : n + 2 < m) (hb : b ∈ [n + 2, n + 1, n, l]) : b < m := by
  simp at hb
  rcases hb with rfl | rfl | rfl | rfl <;> omega

/-- what stands in a list whose j-th item is the j-th of these texts -/
theorem strs_of_items {ys : List Str} {acc : Array Value} (h : ItemsOf (fun i v => ∃ t, v = Value.str (Txt.capitalize (ys.getD i (Str.ofString ""))) t) acc ys.length) :
    ∃ l : List (Str × Tok), PySem.strValues l = acc.toList ∧ l.map (·.1) = ys.map Txt.capitalize := by
  obtain ⟨hz, hi⟩ := h
  have hz' : acc.toList.length = ys.length := by simpa using hz
  refine ⟨acc.toList.map (fun v => match v with | .str y t => (y, t) | _ => (Str.ofString "", 0)), ?_, ?_⟩
  all_goals
    apply List.ext_getElem (by simp [PySem.strValues, hz])
    intro j h1 h2
    have hj : j < ys.length := by simpa [PySem.strValues, hz] using h2
    have hja : j < acc.size := by rw [hz]; exact hj
    obtain ⟨t, ht⟩ := hi j acc[j] (Array.getElem?_eq_getElem hja)
    rw [List.getD_eq_getElem?_getD, List.getElem?_eq_getElem hj] at ht
    simp [PySem.strValues, ht]

/-- join over a map of str.capitalize over a list of texts -/
theorem join_map_cap {x : Str} {t : Tok} {Q : Value → Shared → Prop} {l1 : Addr} {vs : List Value} {ys : List Str} {h₁ : Heap} (hh : A.handled = none) (hl1 : s.heap.IsList l1 vs.toArray) (hs : StrsAre vs ys) (hle : ∀ y ∈ ys, y.length ≤ 5592405) (hn : ys.length ≤ sizeLine)
    (hm : IsMap s.heap I (h₁.objs.size + 1) (.builtin "str.capitalize")) (hI : I = h₁.objs.size + 2) (ht : IsOne s.heap (h₁.objs.size + 1) (.ref h₁.objs.size)) (hit : s.heap.IsListIter h₁.objs.size l1 0) (hlt : l1 < h₁.objs.size)
    (hok : JoinOk x (ys.map Txt.capitalize) = true)
    (hq : ∀ t' h' k, (∀ b o, b ≠ h₁.objs.size → s.heap.get? b = some o → h'.get? b = some o) → Q (.str (Txt.join x (ys.map Txt.capitalize)) t') { s with heap := h', toks := k }) :
    wpAny (model prog w) A (call (.builtin "str.join") [.str x t, .ref I]) Q E s := by
  subst hI
  have hlen : vs.length = ys.length := by simpa using hs.length
  have V := (Walks_map (prog := prog) (w := w) (A := A.in1.in1) (by simpa using hh) (h₁.objs.size + 2) (h₁.objs.size + 1) h₁.objs.size l1 (.builtin "str.capitalize") (map_ap _ _ hlt) vs.toArray
    (fun i v => ∃ t, v = .str (Txt.capitalize (ys.getD i (Str.ofString ""))) t) (fun i y A' E' Q' s' hy hQ' => by
      have hy' : vs[i]? = some y := by simpa using hy
      have hi : i < ys.length := by rw [← hlen]; exact (List.getElem?_eq_some_iff.mp hy').1
      obtain ⟨tw, hvi⟩ := hs.get i ys[i] (List.getElem?_eq_getElem hi)
      rw [hvi] at hy'
      obtain rfl := Option.some.inj hy'
      refine SCL.capitalize (hle _ (List.getElem_mem hi)) fun t' k _ => hQ' _ _ ⟨t', ?_⟩
      rw [List.getD_eq_getElem?_getD, List.getElem?_eq_getElem hi]; rfl)).toS
  have hvz : vs.toArray.size = ys.length := by simpa using hlen
  have hTm : s.TypeIs (.ref (h₁.objs.size + 2)) "map" := ⟨_, hm, rfl⟩
  -- the words that were gathered, joined
  have tail : ∀ s' acc, Moved [h₁.objs.size] (fun a b => b = a) s s' → ItemsOf (fun i v => ∃ t, v = Value.str (Txt.capitalize (ys.getD i (Str.ofString ""))) t) acc vs.toArray.size →
      wpAny (model prog w) A.in1 (PySem.joinTail x acc.toList) (fun fin s'' => match fin with | PySem.Fin.done f => wants Q E (.ok f) s'' | PySem.Fin.again c' => c'.quiet = true ∧ codeAny (model prog w) A c' (wants Q E) s'') (fun e s'' => wants Q E (.error e) s'') s' := by
    intro s' acc mv it
    rw [hvz] at it
    obtain ⟨l, e1, e2⟩ := strs_of_items it
    obtain ⟨hp, g, d, tk, os⟩ := s'
    obtain ⟨m1, m2, m3, m4, -⟩ := mv
    dsimp only at m1 m2 m3 m4
    subst m2 m3 m4
    have room : Builtin.Str.tooLong ((l.map (·.1)).toArray.foldl (· + ·.length + x.length) 0) = false := by
      rw [e2]; exact (Bool.not_eq_true' _).mp hok
    have made : Gives (PySem.joinTail x (PySem.strValues l)) (joinMade x l) := by
      clear e1 e2
      rcases l with _ | ⟨a, _ | ⟨b, r⟩⟩ <;> exact gives_joinTail x _ room
    rw [← e1]
    refine made _ _ _ (wants Q E) _ (post_join l ⟨joinFit_length room, fun t' k => ?_⟩)
    rw [e2]
    exact hq t' hp k fun b o hb e => m1 b o (fun q => hb (List.mem_singleton.mp q)) e
  refine wpAny_call (codeAny_call_builtin F.slot_str_join.plain F.entry_str_join (F.slot_str_join.check _ _ _ _ _ _ _ _ (typeIs_str _ _ _) (F.args_str_join_2 _ _) ?_))
  rw [join_tree_other]
  refine wpAny_bind (wpAny_typeOf hTm ?_)
  rw [if_neg (by decide)]
  refine wpAny_bind (wpAny_tryCatch (wpAny_pyIter_map hm ?_))
  exact wpAny_bind (collect_map V (fun _ _ q => ⟨_, q.1, rfl⟩) ⟨hm, ht, hit, hl1⟩ (fun b hb => map_lt _ _ _ _ hlt (Heap.lt_size hm) hb) (Heap.lt_size hm) (by rw [hvz]; exact hn) tail)
end
end Mine

-- MCap
namespace Mine
set_option maxRecDepth 100000
theorem low_all : (List.range 128).all (fun c => Unicode.lowerOf c == [letterC c false]) = true := by kernel_rfl
theorem title_all : (List.range 128).all (fun c => Unicode.titleOf c == [letterC c true]) = true := by kernel_rfl
theorem low_of {c : Nat} (h : c < 128) : Unicode.lowerOf c = [letterC c false] := eq_of_beq (List.all_eq_true.mp low_all c (List.mem_range.mpr h))
theorem title_of {c : Nat} (h : c < 128) : Unicode.titleOf c = [letterC c true] := eq_of_beq (List.all_eq_true.mp title_all c (List.mem_range.mpr h))

def capL : List Nat → List Nat
  | [] => []
  | c :: r => letterC c true :: r.map (letterC · false)
theorem flat_one (l : List Nat) (f : Nat → Nat → List Nat) (g : Nat → Nat → Nat) (h : ∀ i c, l[i]? = some c → f i c = [g i c]) : (l.mapIdx f).flatten = l.mapIdx g := by
  have e : l.mapIdx f = (l.mapIdx g).map fun x => [x] := by
    apply List.ext_getElem?
    intro i
    simp only [List.getElem?_mapIdx, List.getElem?_map]
    cases hc : l[i]? with
    | none => rfl
    | some c => simp [h i c hc]
  rw [e]
  generalize l.mapIdx g = r
  induction r with
  | nil => rfl
  | cons a r ih => rw [List.map_cons, List.flatten_cons, ih]; rfl
theorem capL_idx (l : List Nat) : l.mapIdx (fun i c => letterC c (i == 0)) = capL l := by
  cases l with
  | nil => rfl
  | cons c r =>
    rw [List.mapIdx_cons, capL]
    congr 1
    apply List.ext_getElem?
    intro i
    simp
theorem placed_toList (l : List Nat) (f : Nat → Nat → List Nat) : (placed (S l) f).toList = (l.mapIdx f).flatten := by
  unfold placed
  rw [Array.toList_flatten]
  congr 1
  apply List.ext_getElem?
  intro i
  simp
  cases l[i]? <;> rfl
theorem cap_ascii {l : List Nat} (h : ∀ c ∈ l, c < 128) : Txt.capitalize (S l) = S (capL l) := by
  unfold Txt.capitalize
  split
  · rename_i h0
    rw [S_length] at h0
    have : l = [] := List.length_eq_zero_iff.mp (eq_of_beq h0)
    subst this; rfl
  · unfold Txt.capitalized
    rw [← S_toList ⟨placed _ _⟩]
    congr 1
    show (placed (S l) _).toList = _
    rw [placed_toList, flat_one l _ (fun i c => letterC c (i == 0)), capL_idx]
    intro i c hc
    have hlt := h c (List.mem_of_getElem? hc)
    cases i with
    | zero => exact title_of hlt
    | succ i =>
      show Unicode.lowerAt l.toArray (i + 1) = _
      unfold Unicode.lowerAt
      have e : l.toArray[i + 1]? = some c := by simpa using hc
      rw [e]
      have h2 : (c == 0x3A3) = false := by simp; omega
      simp only [h2, Bool.false_and]
      exact low_of hlt

theorem capped_low (mk : Nat) : ∀ (p : List Nat) (c : Nat), c ≠ mk → mk ∉ p → cappedL mk (some c) p = p.map (letterC · false)
  | [], _, _, _ => rfl
  | a :: r, c, hc, hp => by
    have h1 : a ≠ mk := fun e => hp (e ▸ List.mem_cons_self ..)
    rw [cappedL, capped_low mk r a h1 fun m => hp (.tail _ m), if_neg h1, show (some c == some mk) = false from by simp [hc]]
    rfl
theorem capped_low_mk (mk : Nat) (q : List Nat) : ∀ (p : List Nat) (c : Nat), c ≠ mk → mk ∉ p → cappedL mk (some c) (p ++ mk :: q) = p.map (letterC · false) ++ mk :: cappedL mk (some mk) q
  | [], _, _, _ => by simp [cappedL]
  | a :: r, c, hc, hp => by
    have h1 : a ≠ mk := fun e => hp (e ▸ List.mem_cons_self ..)
    rw [List.cons_append, cappedL, capped_low_mk mk q r a h1 fun m => hp (.tail _ m), if_neg h1, show (some c == some mk) = false from by simp [hc]]
    rfl
theorem capped_cap {mk : Nat} {ah : Option Nat} (ha : (ah == some mk || ah.isNone) = true) {p : List Nat} (hp : mk ∉ p) : cappedL mk ah p = capL p := by
  cases p with
  | nil => rfl
  | cons a r =>
    have h1 : a ≠ mk := fun e => hp (e ▸ List.mem_cons_self ..)
    rw [cappedL, capped_low mk r a h1 fun m => hp (.tail _ m), if_neg h1, ha]; rfl
theorem capped_cap_mk {mk : Nat} {ah : Option Nat} (ha : (ah == some mk || ah.isNone) = true) {p : List Nat} (hp : mk ∉ p) (q : List Nat) : cappedL mk ah (p ++ mk :: q) = capL p ++ mk :: cappedL mk (some mk) q := by
  cases p with
  | nil => simp [cappedL, capL]
  | cons a r =>
    have h1 : a ≠ mk := fun e => hp (e ▸ List.mem_cons_self ..)
    rw [List.cons_append, cappedL, capped_low_mk mk q r a h1 fun m => hp (.tail _ m), if_neg h1, ha]; rfl

theorem capped_join (mk : Nat) : ∀ (parts : List Str) (ah : Option Nat), (ah == some mk || ah.isNone) = true → (∀ p ∈ parts, mk ∉ p.cps.toList) → (∀ p ∈ parts, ∀ c ∈ p.cps.toList, c < 128) →
    (Str.join (S [mk]) (parts.map Txt.capitalize)).cps.toList = cappedL mk ah (Str.join (S [mk]) parts).cps.toList
  | [], _, _, _, _ => rfl
  | [p], ah, ha, hf, hc => by
    show (Txt.capitalize p).cps.toList = cappedL mk ah p.cps.toList
    rw [capped_cap ha (hf p (.head _)), ← S_toList p, cap_ascii (by simpa using hc p (.head _))]
  | p :: q :: r, ah, ha, hf, hc => by
    have ih := capped_join mk (q :: r) (some mk) (by simp) (fun a m => hf a (.tail _ m)) fun a m => hc a (.tail _ m)
    show (Txt.capitalize p ++ S [mk] ++ Str.join (S [mk]) ((q :: r).map Txt.capitalize)).cps.toList = cappedL mk ah (p ++ S [mk] ++ Str.join (S [mk]) (q :: r)).cps.toList
    simp only [Str.cps_append, Array.toList_append]
    rw [ih, List.append_assoc, List.append_assoc]
    show (Txt.capitalize p).cps.toList ++ mk :: _ = cappedL mk ah (p.cps.toList ++ mk :: _)
    rw [capped_cap_mk ha (hf p (.head _)), ← S_toList p, cap_ascii (by simpa using hc p (.head _))]
    rfl
theorem mem_join_of {c : Nat} (sep : Str) : ∀ (parts : List Str) (p : Str), p ∈ parts → c ∈ p.cps.toList → c ∈ (Str.join sep parts).cps.toList
  | [], _, h, _ => nomatch h
  | [q], p, h, hc => by obtain rfl := List.mem_singleton.mp h; exact hc
  | q :: r :: t, p, h, hc => by
    show c ∈ (q ++ sep ++ Str.join sep (r :: t)).cps.toList
    simp only [Str.cps_append, Array.toList_append, List.mem_append]
    rcases List.mem_cons.mp h with rfl | h
    · exact .inl (.inl hc)
    · exact .inr (mem_join_of sep (r :: t) p h hc)
theorem split_ascii {l : List Nat} {mk : Nat} (h : ∀ c ∈ l, c < 128) : ∀ p ∈ Txt.split (S l) (S [mk]), ∀ c ∈ p.cps.toList, c < 128 := by
  intro p hp c hc
  have := mem_join_of (S [mk]) _ p hp hc
  rw [StrLaws.join_split] at this
  exact h c this
theorem cap_join {l : List Nat} {mk : Nat} (h : ∀ c ∈ l, c < 128) : Txt.join (S [mk]) ((Txt.split (S l) (S [mk])).map Txt.capitalize) = S (cappedL mk none l) := by
  unfold Txt.join
  rw [StrLaws.glued_eq_join, ← S_toList (Str.join _ _), capped_join mk _ none rfl (StrLaws.split_free (S l) mk) (split_ascii h), StrLaws.join_split]
theorem capL_length (l : List Nat) : (capL l).length = l.length := by cases l <;> simp [capL]
theorem cap_length {p : Str} (h : ∀ c ∈ p.cps.toList, c < 128) : (Txt.capitalize p).length = p.length := by
  rw [← S_toList p, cap_ascii h, S_length, capL_length, S_length]
theorem cap_ok {l : List Nat} {mk : Nat} (h : ∀ c ∈ l, c < 128) (hl : l.length ≤ 1000000) : JoinOk (S [mk]) ((Txt.split (S l) (S [mk])).map Txt.capitalize) = true := by
  refine joinOk_of_weight ?_ (by rw [S_length]; simp)
  have hw := split_weight (S l) (S [mk]) (by rw [S_length]; simp)
  rw [S_length] at hw
  rw [List.length_map, List.map_map]
  have e : (Txt.split (S l) (S [mk])).map ((fun x : Str => x.length) ∘ Txt.capitalize) = (Txt.split (S l) (S [mk])).map (·.length) :=
    List.map_congr_left fun p hp => cap_length (split_ascii h p hp)
  rw [e]
  omega
theorem split_short {l : List Nat} {mk : Nat} (hl : l.length ≤ 1000000) : ∀ y ∈ Txt.split (S l) (S [mk]), y.length ≤ 5592405 := fun y hy => by
  have := short_of_weight (split_weight (S l) (S [mk]) (by rw [S_length]; simp)) hy
  rw [S_length l] at this
  exact Nat.le_trans this (by omega)
end Mine

-- M10
namespace Mine
local macro_rules | `(tactic| walk_at "MY STEPS") => `(tactic| repeat' (first
  | ((fail_if_success (with_reducible show Done _ _ _ _)); (fail_if_success (with_reducible show wpAny _ _ (call (Value.ref _) _) _ _ _)); (fail_if_success (with_reducible show wpAny _ _ (call (Value.type "map") _) _ _ _)); (fail_if_success (with_reducible show wpAny _ _ (getAttr (Value.type "str") _ _) _ _ _)); (fail_if_success (with_reducible show wpAny _ _ (call (Value.builtin "str.join") _) _ _ _)); (first | walk1 | (dsimp only; walk1)))))

theorem getAttr_type {K : Frag} {prog : Program} {w : World} {A : Around} {E : Value → Shared → Prop} {s : Shared} {T : String} {name : Str} {v : Value} {b : Bool} {Q : Value → Shared → Prop} (X : K.In s.heap) (ht : typeOf (.type T) = pure (.type "type")) (hs : Manifest.isStub T = false)
    (e : findCls K (.type T) (.type "type") name = some (.val v)) (hh : handedIn v = true) (h : Q v { s with toks := s.toks + 1 }) : wpAny (model prog w) A (getAttr (.type T) name b) Q E s := by
  have hstub : opaqueClassAbove (.type T) = pure none := by unfold opaqueClassAbove; dsimp only; rw [hs]; rfl
  have L0 : Looks (model prog w) s.heap (typeOf (.type T)) (.type "type") := Looks.of_pure ht
  have hg : findIn K (.type "type") "__getattribute__" = some (some (.builtin "type.__getattribute__")) := type_tga
  have LO : Looks (model prog w) s.heap (opaqueClassAbove (.type T)) none := Looks.of_pure hstub
  refine cls_open X LO L0 hg (looks_hook X (r := none) (by rfl)) (by show subIn K _ _ = _; rfl) e
    (wpAny_pure (by show wpAny _ _ (handedOut v) _ _ _; rw [handedOut_of hh]; exact wpAny_pure h))
set_option maxRecDepth 100000 in
set_option maxHeartbeats 2000000 in
theorem capwords_spec {w : World} {loose : List Str} {mg mb : Str → Option Value} {d un : Nat} {fr : Option (List Env)} {gd : Option (List Code)} {s : Shared} {E : Value → Shared → Prop} {l : List Nat} {mk : Nat} {t t2 : Tok}
  (X : (hd.heap_39 w.params).In s.heap) (T : TopRead hd.view_39 loose mg mb s.heap) (hr : d + 10 < recursionLimit) (hu : un + 100 < cLine) (hl : l.length ≤ 1000000) (hc : ∀ c ∈ l, c < 128) :
  wpAny (model PySem.Challenge.rw_mj0042_01.row.prog w) ⟨none, d, fr, gd, un⟩ (call (.ref 39) [.str (S l) t, .str (S [mk]) t2]) (Done s (IsS (S (cappedL mk none l)))) E s := by
  revert X; k_fill; intro X
  have hll : (S l).length ≤ 1000000 := by rw [S_length]; exact hl
  refine' enter (binds := [(Str.ofString "s", .str (S l) t), (Str.ofString "sep", .str (S [mk]) t2)]) ?eX ?eT ?er ?eo ?ec ?eb ?el ?ece ?eco ?ege ?eki ?_
  (case eX => assumption); (case eT => assumption); (case er => (dsimp only; omega)); (case eo => k_is); (case ec => k_is); (case eb => exact BindsTo.of_defaults rfl (X 32 _ (by k_is)) rfl rfl rfl); (case el => exact locs rfl); (case ece => decide); (case eco => rfl); (case ege => rfl); (case eki => rfl)
  intro h₁ F N; dsimp only [List.length_cons, List.length_nil]
  walk_at "MY STEPS"
  refine PySem.P.truthy_str (by rw [S_length]; show ¬ ((1 : Nat) : Int) ≥ 2 ^ 63; decide) ?_
  rw [show ((((S [mk]).length : Nat) : Int) != 0) = true from (by rw [S_length]; rfl)]
  walk_at "MY STEPS"
  refine getAttr_type (v := .builtin "str.capitalize") (X.keeps F.keep) (by rfl) (by decide +kernel) (by k_is) (by rfl) ?_
  walk_at "MY STEPS"
  rename List.map _ _ = Txt.split _ _ => hsp
  rename StrsAre _ _ => hst
  rename List (Str × Tok) => ps
  rename Heap.IsList _ _ _ => hil
  rename Fr _ _ _ _ => F₂
  rename News _ _ _ _ => N₂
  rename Heap => h2
  rw [hsp] at hst
  refine call_map_2 hil fun h₃ m1 m2 m3 m4 m5 => ?_
  have F₃ := Fr.ext F₂ m5
  have N₃ := News.ext N₂ m5
  walk_at "MY STEPS"
  have hlt : h₁.objs.size < h2.objs.size := by obtain ⟨o, e, _⟩ := hil; exact Heap.lt_size e
  refine join_map_cap (h₁ := h2) rfl (hil.at fun o e => m5 _ o e) hst (split_short hl) ?_ m1 rfl m2 m3 hlt (cap_ok hc hl) fun t' h' k hk => ?_
  · have := split_weight (S l) (S [mk]) (by rw [S_length]; simp)
    rw [S_length l] at this
    rw [sizeLine_eq]; omega
  · rw [cap_join hc]
    exact ⟨⟨t', rfl⟩, h', k, rfl, fun b o e => hk b o (Nat.ne_of_lt (Nat.lt_trans (Heap.lt_size e) F₂.ns.lt)) (F₃.keep b o e)⟩
end Mine

-- MLoop3
namespace Mine
section
variable {prog : Program} {w : World} {A : Around} {E : Value → Shared → Prop} {s : Shared} {env : Env} {h₀ : Heap} {x : Str} {body : List Stmt} {Q : Flow → Shared → Prop}

theorem for_list {l : Addr} {vs : List Value} {m₀ : Str → Option Value} {news : List (Addr × Obj)} (J : Nat → (Str → Option Value) → List (Addr × Obj) → Prop) (hh : A.handled = none)
    (hl : h₀.IsList l vs.toArray) (F : Fr h₀ env.locals s.heap m₀) (N : News h₀ env.locals s.heap news) (hj : J 0 m₀ news)
    (turn : ∀ i v m₁ news₁ h tk own, vs[i]? = some v → J i m₁ news₁ → (∀ p ∈ news₁, ∀ q ∈ own, p.1 ≠ q.1) → Fr h₀ env.locals h (fun y => if y = x then some v else m₁ y) → News h₀ env.locals h (news₁ ++ own) →
      wpAny (model prog w) A (execs body env) (TurnEndN h₀ env.locals (J (i + 1)) own { s with heap := h, toks := tk } Q) E { s with heap := h, toks := tk })
    (done : ∀ m₁ news₁ h tk, J vs.length m₁ news₁ → Fr h₀ env.locals h m₁ → News h₀ env.locals h news₁ → Q .next { s with heap := h, toks := tk }) :
    wpAny (model prog w) A (pyIter (.ref l)) (fun it s₂ => LoopAtV prog w A h₀ env x body Q E it s₂) E s := by
  have hls : s.heap.IsList l vs.toArray := hl.at fun o e => F.keep l o e
  obtain ⟨ol, hol, _⟩ := id hl
  have hlt : l < h₀.objs.size := Heap.lt_size hol
  have hne : l ≠ s.heap.objs.size := Nat.ne_of_lt (Nat.lt_trans (Nat.lt_of_lt_of_le hlt F.above) F.ns.lt)
  refine wpAny_pyIter_list hls ?_
  have W := Walks.list (prog := prog) (w := w) hh s.heap.objs.size l hne vs.toArray
  refine ⟨_, _, _, _, _, _, m₀, news, J, rfl, W, ?_, ?_, ?_, ⟨⟨_, Heap.get?_push_size _ rfl, rfl, rfl⟩, hls.at fun o e => Heap.get?_push_of_some _ e⟩, F.push _, (fun p hp => ⟨Heap.get?_push_of_some _ (N p hp).1, (N p hp).2⟩), hj, ?_, ?_⟩
  · intro hm
    rcases List.mem_cons.mp hm with e | hm
    · exact absurd F.ns.lt (e ▸ Nat.lt_irrefl _)
    · exact absurd (Nat.lt_of_lt_of_le hlt F.above) ((List.mem_singleton.mp hm) ▸ Nat.lt_irrefl _)
  · intro b' hb
    rw [List.mem_singleton.mp hb]
    exact next_is_new F
  · intro p hp hI
    exact absurd (Heap.lt_size (N p hp).1) ((List.mem_singleton.mp hI) ▸ Nat.lt_irrefl _)
  · rintro i v m₁ news₁ s₁ own ⟨hh', tk', rfl⟩ hin hv hJ hoff hown hobj hall hst F₁ N₁
    obtain ⟨⟨oi, hoi, _⟩, _⟩ := id hst
    have hstI : (s.heap.objs.size, _) ∈ own := hall s.heap.objs.size (.head _) (next_is_new F) _ hoi
    have hsep : ∀ p ∈ news₁, ∀ q ∈ own, p.1 ≠ q.1 := fun p hp q hq e => by
      rcases List.mem_cons.mp (hown q hq) with e1 | e1
      · exact hoff p hp (by rw [e, e1]; exact .head _)
      · have hnone : h₀.get? p.1 = none := (N₁ p (List.mem_append_right _ hp)).2.2
        rw [e, List.mem_singleton.mp e1, hol] at hnone
        cases hnone
    have N₂ : News h₀ env.locals hh' (news₁ ++ own) := fun p hp => N₁ p ((List.mem_append.mp hp).elim (fun h => List.mem_append.mpr (.inr h)) fun h => List.mem_append.mpr (.inl h))
    refine wpAny_mono (turn i v m₁ news₁ hh' tk' own (by simpa using hv) hJ hsep F₁ N₂) (fun f s₂ q => ?_) fun _ _ e => e
    have fin : (∃ h' tk m' news', s₂ = { s with heap := h', toks := tk } ∧ Fr h₀ env.locals h' m' ∧ News h₀ env.locals h' (news' ++ own) ∧ (∀ p ∈ news', ∀ q ∈ own, p.1 ≠ q.1) ∧ J (i + 1) m' news') →
        LoopStepU h₀ env.locals [s.heap.objs.size] own (J (i + 1)) { s with heap := hh', toks := tk' } .next s₂ := by
      rintro ⟨h', tk, m', news', rfl, F', N', ha, hj'⟩
      refine ⟨rfl, h', tk, m', news', rfl, F', fun p hp => N' p ((List.mem_append.mp hp).elim (fun h => List.mem_append.mpr (.inr h)) fun h => List.mem_append.mpr (.inl h)), fun p hp hI => ?_, hj'⟩
      exact ha p hp _ hstI (List.mem_singleton.mp hI)
    cases f with
    | ret v => exact q
    | brk => exact q
    | next => exact fin q
    | cont => exact fin q
  · intro h' tk m' news' F' N' _ hJ
    exact done m' news' h' tk (by simpa using hJ) F' N'

/-- over a list of our own, with a ledger that stays -/
theorem for_own {l : Addr} {vs : List Value} {m₀ : Str → Option Value} {news : List (Addr × Obj)} (J : Nat → (Str → Option Value) → Prop) (hh : A.handled = none) (hls : s.heap.IsList l vs.toArray) (hlL : l ≠ env.locals) (F : Fr h₀ env.locals s.heap m₀) (N : News h₀ env.locals s.heap news) (hj : J 0 m₀)
    (turn : ∀ i v m₁ h tk own, vs[i]? = some v → J i m₁ → Fr h₀ env.locals h (fun y => if y = x then some v else m₁ y) → News h₀ env.locals h (own ++ news) →
      wpAny (model prog w) A (execs body env) (TurnEnd h₀ env.locals (J (i + 1)) (own ++ news) { s with heap := h, toks := tk } Q) E { s with heap := h, toks := tk })
    (done : ∀ m₁ h tk, J vs.length m₁ → Fr h₀ env.locals h m₁ → Q .next { s with heap := h, toks := tk }) :
    wpAny (model prog w) A (pyIter (.ref l)) (fun it s₂ => LoopAtV prog w A h₀ env x body Q E it s₂) E s := by
  obtain ⟨ol, hol, _⟩ := id hls
  have hne : l ≠ s.heap.objs.size := Nat.ne_of_lt (Heap.lt_size hol)
  refine wpAny_pyIter_list hls ?_
  have W := Walks.list (prog := prog) (w := w) hh s.heap.objs.size l hne vs.toArray
  refine ⟨_, _, _, _, _, _, m₀, news, (fun i m nx => J i m ∧ nx = news), rfl, W, ?_, ?_, ?_, ⟨⟨_, Heap.get?_push_size _ rfl, rfl, rfl⟩, hls.at fun o e => Heap.get?_push_of_some _ e⟩, F.push _, (fun p hp => ⟨Heap.get?_push_of_some _ (N p hp).1, (N p hp).2⟩), ⟨hj, rfl⟩, ?_, ?_⟩
  · intro hm
    rcases List.mem_cons.mp hm with e | hm
    · exact absurd F.ns.lt (e ▸ Nat.lt_irrefl _)
    · exact hlL (List.mem_singleton.mp hm).symm
  · intro b' hb
    rw [List.mem_singleton.mp hb]
    exact next_is_new F
  · intro p hp hI
    exact absurd (Heap.lt_size (N p hp).1) ((List.mem_singleton.mp hI) ▸ Nat.lt_irrefl _)
  · rintro i v m₁ news₁ s₁ own ⟨hh', tk', rfl⟩ hin hv ⟨hJ, rfl⟩ hoff hown hobj hall hst F₁ N₁
    refine wpAny_mono (turn i v m₁ hh' tk' own (by simpa using hv) hJ F₁ N₁) (fun f s₂ q => ?_) fun _ _ e => e
    have fin : (∃ h' tk m', s₂ = { s with heap := h', toks := tk } ∧ Fr h₀ env.locals h' m' ∧ News h₀ env.locals h' (own ++ news₁) ∧ J (i + 1) m') →
        LoopStepU h₀ env.locals [s.heap.objs.size] own (fun m nx => J (i + 1) m ∧ nx = news₁) { s with heap := hh', toks := tk' } .next s₂ := by
      rintro ⟨h', tk, m', rfl, F', N', hj'⟩
      exact ⟨rfl, h', tk, m', news₁, rfl, F', N', hoff, hj', rfl⟩
    cases f with
    | ret v => exact q
    | brk => exact q
    | next => exact fin q
    | cont => exact fin q
  · intro h' tk m' news' F' N' _ hJ
    exact done m' h' tk (by simpa using hJ.1) F'
end
end Mine

-- M11
namespace Mine
local macro_rules | `(tactic| walk_at "MY STEPS") => `(tactic| repeat' (first
  | ((fail_if_success (with_reducible show wpAny _ _ (exec (Stmt.For _ _ _ _ _) _) _ _ _)); (fail_if_success (with_reducible show Done _ _ _ _)); (fail_if_success (with_reducible show wpAny _ _ (call (Value.ref _) _) _ _ _)); (fail_if_success (with_reducible show TurnEndN _ _ _ _ _ _ _ _)); (fail_if_success (with_reducible show wpAny _ _ (call (Value.builtin "list.append") _) _ _ _)); (fail_if_success (with_reducible show wpAny _ _ (subscriptTail _ _ _ _) _ _ _)); (fail_if_success (with_reducible show wpAny _ _ (setItem _ _ _) _ _ _)); (fail_if_success (with_reducible show wpAny _ _ (binaryOp _ (Value.ref _) (Value.ref _)) _ _ _)); (fail_if_success (with_reducible show wpAny _ _ (pyIter _) _ _ _)); (first | walk1 | (dsimp only; walk1)))))
section
variable {prog : Program} {w : World} {A : Around} {E : Value → Shared → Prop} {s : Shared} {h₀ : Heap} {L D : Addr} {m : Str → Option Value} {news : List (Addr × Obj)}
theorem last_at (pv : List Value) (v : Value) : ((-1 : Int) + ((pv ++ [v]).toArray.size : Nat)).toNat = pv.length := by
  simp; omega
theorem item_last {value slice : Expr} {pv : List Value} {v : Value} {u : Tok} {Q : Value → Shared → Prop} (hl : s.heap.IsList D (pv ++ [v]).toArray) (h : Q v s)
    (hs : subscripted slice false (.ref D) (.int (-1) u) = operate [.ref D, .int (-1) u] (getItem (.ref D) (.int (-1) u)) := by with_unfolding_all rfl) :
    wpAny (model prog w) A (subscriptTail value slice (.ref D) (.int (-1) u)) Q E s :=
  subscriptTail_builtinR hl.typeIs slot_list_getitem.lookup (wpAny_getItem_list_neg (Q := fun r s' => r = v ∧ Q r s') hl (by decide) (by simp; omega) (by decide) (by rw [last_at]; simp) ⟨rfl, h⟩) hs
theorem set_last {pv : List Value} {v v' : Value} {n : Nat} {t : Tok} {Q : Unit → Shared → Prop} (F : Fr h₀ L s.heap m) (N : News h₀ L s.heap ((D, W.listOf (pv ++ [v]).toArray n) :: news)) (ha : ∀ p ∈ news, p.1 ≠ D)
    (h : ∀ h', Fr h₀ L h' m → News h₀ L h' ((D, W.listOf (pv ++ [v']).toArray n) :: news) → Q () { s with heap := h' }) : wpAny (model prog w) A (setItem (.ref D) (.int (-1) t) v') Q E s := by
  have z := N (D, W.listOf (pv ++ [v]).toArray n) (.head _)
  refine ki_setBack z.1 (by decide) (by simp; omega) (by decide) (h _ (F.change (Heap.SameBut.update ..) z.2.1 z.2.2) (ki_turn (pre := []) _ N (fun p hp => nomatch hp) ha ?_ ?_))
  · rw [last_at]; simp
  · rw [if_pos (by simp)]
theorem seven {c : Nat} (hc : c < 128) {k : Int} (h0 : 0 ≤ k) (h1 : k < 8) (hne : k ≠ 0) (t1 t2 t3 t4 t5 t6 t7 : Tok) :
    ∃ b t, (#[.str (Str.ofString "a") t1, .str (Str.ofString "B") t2, .str (Str.ofString "'") t3, .str (Str.ofString " ") t4, .str (Str.ofString "\"") t5, .str (Str.ofString "z") t6, .str ⟨#[c]⟩ t7] : Array Value)[(k - 1).toNat]? = some (.str (S [b]) t) ∧ b < 128 := by
  have hk : k = 1 ∨ k = 2 ∨ k = 3 ∨ k = 4 ∨ k = 5 ∨ k = 6 ∨ k = 7 := by omega
  rcases hk with rfl | rfl | rfl | rfl | rfl | rfl | rfl
  · exact ⟨97, t1, by rw [show Str.ofString "a" = S [97] from by decide +kernel]; rfl, by decide⟩
  · exact ⟨66, t2, by rw [show Str.ofString "B" = S [66] from by decide +kernel]; rfl, by decide⟩
  · exact ⟨39, t3, by rw [show Str.ofString "'" = S [39] from by decide +kernel]; rfl, by decide⟩
  · exact ⟨32, t4, by rw [show Str.ofString " " = S [32] from by decide +kernel]; rfl, by decide⟩
  · exact ⟨34, t5, by rw [show Str.ofString "\"" = S [34] from by decide +kernel]; rfl, by decide⟩
  · exact ⟨122, t6, by rw [show Str.ofString "z" = S [122] from by decide +kernel]; rfl, by decide⟩
  · exact ⟨c, t7, rfl, hc⟩
theorem item_seven {value slice : Expr} {c : Nat} (hc : c < 128) {k : Int} (h0 : 0 ≤ k) (h1 : k < 8) (hne : k ≠ 0) {t1 t2 t3 t4 t5 t6 t7 u : Tok} {Q : Value → Shared → Prop}
    (hl : s.heap.IsList D #[.str (Str.ofString "a") t1, .str (Str.ofString "B") t2, .str (Str.ofString "'") t3, .str (Str.ofString " ") t4, .str (Str.ofString "\"") t5, .str (Str.ofString "z") t6, .str ⟨#[c]⟩ t7])
    (h : ∀ b t, b < 128 → Q (.str (S [b]) t) s)
    (hs : subscripted slice false (.ref D) (.int (k - 1) u) = operate [.ref D, .int (k - 1) u] (getItem (.ref D) (.int (k - 1) u)) := by with_unfolding_all rfl) :
    wpAny (model prog w) A (subscriptTail value slice (.ref D) (.int (k - 1) u)) Q E s := by
  obtain ⟨b, t, hx, hb⟩ := seven hc h0 h1 hne t1 t2 t3 t4 t5 t6 t7
  exact item_listR hl (by omega) (by omega) hx (h b t hb) hs
end
theorem fm_lt (y : Int) : (y.fmod 128).toNat < 128 := by
  have h1 := Int.fmod_nonneg_of_pos y (by decide : (0 : Int) < 128)
  have h2 := Int.fmod_lt_of_pos y (by decide : (0 : Int) < 128)
  omega
def WordsOk (i : Nat) (ws : List (List Nat)) : Prop := ws ≠ [] ∧ ws.length ≤ i + 1 ∧ ∀ x ∈ ws, x.length ≤ i + 2 ∧ ∀ c ∈ x, c < 128
/-- a value that is a list of these texts -/
def IsWords (h0 : Heap) (i : Nat) (h : Heap) (v : Value) : Prop := ∃ r vs ws, v = .ref r ∧ h0.get? r = none ∧ h.IsList r (List.toArray vs) ∧ StrsAre vs (ws.map S) ∧ WordsOk i ws
theorem words_more {i : Nat} {ws : List (List Nat)} (h : WordsOk i ws) : WordsOk (i + 1) (ws ++ [[]]) := by
  refine ⟨by simp, by have := h.2.1; simp; omega, fun x hx => ?_⟩
  rcases List.mem_append.mp hx with hx | hx
  · exact ⟨by have := (h.2.2 x hx).1; omega, (h.2.2 x hx).2⟩
  · obtain rfl := List.mem_singleton.mp hx
    simp
theorem words_end {i : Nat} {ws : List (List Nat)} (hi : i ≤ 10) (h : WordsOk i ws) : WordsOk 20 (ws ++ [[73, 116, 39, 83, 32, 97], [67, 100]]) := by
  refine ⟨by simp, by have := h.2.1; simp; omega, fun x hx => ?_⟩
  rcases List.mem_append.mp hx with hx | hx
  · exact ⟨by have := (h.2.2 x hx).1; omega, (h.2.2 x hx).2⟩
  · have hx : x = [73, 116, 39, 83, 32, 97] ∨ x = [67, 100] := by simpa using hx
    rcases hx with rfl | rfl
    · exact ⟨by simp, by decide⟩
    · exact ⟨by simp, by decide⟩
theorem words_long {i b : Nat} {ws : List (List Nat)} {l : List Nat} (h : WordsOk i (ws ++ [l])) (hb : b < 128) : WordsOk (i + 1) (ws ++ [l ++ [b]]) := by
  have hl := h.2.2 l (by simp)
  refine ⟨by simp, by have := h.2.1; simp at this ⊢; omega, fun x hx => ?_⟩
  rcases List.mem_append.mp hx with hx | hx
  · have := h.2.2 x (List.mem_append_left _ hx)
    exact ⟨by omega, this.2⟩
  · obtain rfl := List.mem_singleton.mp hx
    refine ⟨by simp; omega, fun c hc => ?_⟩
    rcases List.mem_append.mp hc with hc | hc
    · exact hl.2 c hc
    · obtain rfl := List.mem_singleton.mp hc; exact hb
set_option maxRecDepth 100000 in
set_option maxHeartbeats 1000000 in
theorem words_spec {w : World} {loose : List Str} {mg mb : Str → Option Value} {d un : Nat} {fr : Option (List Env)} {gd : Option (List Code)} {s : Shared} {E : Value → Shared → Prop} {a : Addr} {vs : List Value} {ns : List Int}
  (X : (hd.heap_39 w.params).In s.heap) (T : TopRead hd.view_39 loose mg mb s.heap) (hr : d + 10 < recursionLimit) (hu : un + 100 < cLine)
  (hl : s.heap.IsList a vs.toArray) (hs : IntsAre vs ns) (hn : ns.length ≤ 10) :
  wpAny (model PySem.Challenge.rw_mj0042_01.row.prog w) ⟨none, d, fr, gd, un⟩ (call (.ref 66) [.ref a]) (Done s (IsWords s.heap 20)) E s := by
  have hlen : vs.length = ns.length := hs.length
  revert X; k_fill; intro X
  refine' enter (binds := [(Str.ofString "nums", .ref a)]) ?eX ?eT ?er ?eo ?ec ?eb ?el ?ece ?eco ?ege ?eki ?_
  (case eX => assumption); (case eT => assumption); (case er => (dsimp only; omega)); (case eo => k_is); (case ec => k_is); (case eb => exact BindsTo.of_eq rfl); (case el => exact locs rfl); (case ece => decide); (case eco => rfl); (case ege => rfl); (case eki => rfl)
  intro h₁ F N; dsimp only [List.length_cons, List.length_nil]
  walk_at "MY STEPS"
  rename Fr _ _ _ _ => F₁
  rename News _ _ _ _ => N₁
  refine For_invVF F₁ rfl rfl ?_
  walk_at "MY STEPS"
  refine for_list (fun i m news => ∃ D pv last t n pre, news = [(D, W.listOf (pv ++ [Value.str (S last) t]).toArray n)] ∧ StrsAre pv (pre.map S) ∧ HasR m "words" D ∧ WordsOk i (pre ++ [last])) rfl hl F₁ N₁ ?_ ?_ ?_
  · rw [show Str.ofString "aB" = S [97, 66] from by decide +kernel]
    refine ⟨_, [], [97, 66], _, 0, [], rfl, .nil, .of rfl, by simp, by simp, ?_⟩
    intro x hx
    obtain rfl := List.mem_singleton.mp hx
    exact ⟨by simp, by simp⟩
  · rintro i v m₁ news₁ h tk own hv ⟨D, pv, last, t, n, pre, rfl, hus, hD, hok⟩ hsep F₂ N₂
    obtain ⟨x, tx, rfl, hxi⟩ := hs.at i v hv
    replace F₂ := (hD.under).pin F₂
    clear F₁ N₁
    have hil : i < 10 := by
      have := (List.getElem?_eq_some_iff.mp hxi).1
      omega
    have hlast := hok.2.2 last (by simp)
    have hsz : (S last).length + 1 ≤ sizeLine := by rw [S_length, sizeLine_eq]; omega
    have hkn := Int.fmod_nonneg_of_pos x (by decide : (0 : Int) < 8)
    have hkl := Int.fmod_lt_of_pos x (by decide : (0 : Int) < 8)
    walk_at "MY STEPS"
    · rename Fr _ _ _ _ => F₃
      rename News _ _ _ _ => N₃
      rw [show Str.ofString "" = S [] from by decide +kernel]
      have hpl : pv.length = pre.length := by simpa using hus.length
      have hpn : pre.length + 1 ≤ i + 1 := by simpa using hok.2.1
      refine append_any F₃ N₃ (fun p hp => Ne.symm (hsep _ (.head _) p hp)) (fun h' F₄ N₄ => ?_) (by rw [sizeLine_eq]; simp; omega)
      clear F₃ N₃
      walk_at "MY STEPS"
      rw [List.push_toArray] at N₄
      refine TurnEndN.go (news' := [(D, _)]) F₄ N₄ (fun p hp q hq => by obtain rfl := List.mem_singleton.mp hp; exact hsep (D, _) (.head _) q hq) ⟨D, pv ++ [.str (S last) t], [], _, n + 1, pre ++ [last], rfl, ?_, .of rfl, ?_⟩
      · rw [List.map_append]
        exact hus.append' (.cons _ _ .nil)
      · exact words_more hok
    · rename Fr _ _ _ _ => F₃
      rename News _ _ _ _ => N₃
      refine item_last (pv := pv) (v := .str (S last) t) (PySem.IsL.isList (N₃ _ (.head _)).1) ?_
      walk_at "MY STEPS"
      rename Fr _ _ _ _ => F₄
      rename News _ _ _ _ => N₄
      refine item_seven (fm_lt _) hkn hkl (by assumption) (PySem.IsL.isList (N₄ _ (.head _)).1) (fun b tb hb => ?_)
      have hb1 : (S [b]).length = 1 := by rw [S_length]; rfl
      walk_at "MY STEPS"
      have N₅ : News s.heap s.heap.objs.size _ ((D, W.listOf (pv ++ [Value.str (S last) t]).toArray n) :: own) := Mine.News.sub N₄ (fun p hp => .tail _ hp)
      refine set_last F₄ N₅ (fun p hp => Ne.symm (hsep _ (.head _) p hp)) (fun h' F₆ N₆ => ?_)
      clear F₄ N₄ N₅
      rw [← S_append] at N₆
      walk_at "MY STEPS"
      refine TurnEndN.go (news' := [(D, _)]) F₆ N₆ (fun p hp q hq => by obtain rfl := List.mem_singleton.mp hp; exact hsep (D, _) (.head _) q hq) ⟨D, pv, last ++ [b], _, n, pre, rfl, hus, .of rfl, words_long hok hb⟩
  · rintro m₁ news₁ h tk ⟨D, pv, last, t, n, pre, rfl, hus, hD, hok⟩ F₂ N₂
    replace F₂ := hD.pin F₂
    clear F₁ N₁
    walk_at "MY STEPS"
    rename Fr _ _ _ _ => F₃
    rename News _ _ _ _ => N₃
    have hpl : pv.length = pre.length := by simpa using hus.length
    have hpn : pre.length + 1 ≤ vs.length + 1 := by simpa using hok.2.1
    refine add_lists F₃ N₃ (PySem.IsL.isList (N₃ _ (.tail _ (.head _))).1) (PySem.IsL.isList (N₃ _ (.head _)).1) (fun h' F₄ N₄ => ?_) ?_
    · rw [show Str.ofString "It'S a" = S [73, 116, 39, 83, 32, 97] from by decide +kernel, show Str.ofString "Cd" = S [67, 100] from by decide +kernel] at N₄
      refine Done.intro F₄ ⟨_, _, (pre ++ [last]) ++ [[73, 116, 39, 83, 32, 97], [67, 100]], rfl, (N₄ _ (.head _)).2.2, PySem.IsL.isList (n := 0) (N₄ _ (.head _)).1, ?_, ?_⟩
      · rw [List.map_append, List.map_append]
        exact (hus.append' (.cons _ _ .nil)).append' (.cons _ _ (.cons _ _ .nil))
      · exact words_end (by omega) hok
    · simp
      rw [sizeLine_eq]; omega
end Mine

-- MPlain
namespace Mine
set_option maxRecDepth 100000
theorem cappedL_append (mk : Nat) : ∀ (a b : List Nat) (ah : Option Nat), cappedL mk ah (a ++ b) = cappedL mk ah a ++ cappedL mk (lastOf ah a) b
  | [], b, ah => by simp [cappedL, lastOf]
  | c :: r, b, ah => by
    have h : lastOf ah (c :: r) = lastOf (some c) r := by
      unfold lastOf
      cases r with
      | nil => simp
      | cons b r => rw [List.getLast?_cons_cons]; simp [List.getLast?_cons]
    rw [List.cons_append, cappedL, cappedL_append mk r b (some c), cappedL, h]
    rfl
/-- no letter -/
def plainC (c : Nat) : Prop := ¬ ((65 ≤ c ∧ c ≤ 90) ∨ (97 ≤ c ∧ c ≤ 122))
theorem letterC_plain {c : Nat} (h : plainC c) (g : Bool) : letterC c g = c := if_neg h
theorem cappedL_plain {mk c : Nat} (h : plainC c) (ah : Option Nat) (r : List Nat) : cappedL mk ah (c :: r) = c :: cappedL mk (some c) r := by
  rw [cappedL]
  split
  · rfl
  · rw [letterC_plain h]
theorem pl39 : plainC 39 := by unfold plainC; omega
theorem pl34 : plainC 34 := by unfold plainC; omega
theorem pl32 : plainC 32 := by unfold plainC; omega
theorem letterC_39 {c : Nat} {g : Bool} (h : c ≠ 39) : letterC c g ≠ 39 := by
  unfold letterC
  split
  · cases g <;> simp <;> omega
  · exact h
theorem cappedL_encQ (mk : Nat) (rest : List Nat) : ∀ (l : List Nat) (a : Nat), cappedL mk (some a) (encQ l ++ 39 :: rest) = encQ (cappedL mk (some a) l) ++ 39 :: cappedL mk (some 39) rest
  | [], a => cappedL_plain pl39 _ _
  | c :: r, a => by
    rw [encQ_cons, List.append_assoc]
    by_cases hc : c = 39
    · subst hc
      rw [if_pos rfl, cappedL_plain pl39, encQ_cons, if_pos rfl]
      show cappedL mk (some a) (39 :: 34 :: 39 :: 34 :: 39 :: (encQ r ++ 39 :: rest)) = _
      rw [cappedL_plain pl39, cappedL_plain pl34, cappedL_plain pl39, cappedL_plain pl34, cappedL_plain pl39, cappedL_encQ mk rest r 39]
      rfl
    · rw [if_neg hc]
      show cappedL mk (some a) (c :: (encQ r ++ 39 :: rest)) = _
      rw [cappedL, cappedL_encQ mk rest r c, cappedL, encQ_cons]
      have hh : (if c = mk then c else letterC c (some a == some mk || (some a).isNone)) ≠ 39 := by
        split
        · exact hc
        · exact letterC_39 hc
      rw [if_neg hh]
      rfl

def dueW (mk : Nat) (ah : Option Nat) (w : List Nat) : Bool × List Nat := if bareL w then (false, cappedL mk ah w) else (true, cappedL mk (some 39) w)
def dueR (mk : Nat) : Option Nat → List (List Nat) → List (Bool × List Nat)
  | _, [] => []
  | ah, w :: r => dueW mk ah w :: dueR mk (some 32) r
theorem capped_enc (mk : Nat) (ah : Option Nat) (w : List Nat) : cappedL mk ah (encI (itemOf w)) = encI (dueW mk ah w) := by
  rw [encI_itemOf]
  unfold quoteL dueW encI
  cases bareL w with
  | true => simp
  | false =>
    simp only [Bool.false_eq_true, if_false, if_true]
    rw [cappedL_plain pl39, cappedL_encQ]
    rfl
theorem capped_line (mk : Nat) : ∀ (ws : List (List Nat)) (ah : Option Nat), cappedL mk ah (joinE (ws.map itemOf)) = joinE (dueR mk ah ws)
  | [], _ => rfl
  | [w], ah => capped_enc mk ah w
  | w :: v :: r, ah => by
    show cappedL mk ah (encI (itemOf w) ++ 32 :: joinE (itemOf v :: r.map itemOf)) = encI (dueW mk ah w) ++ 32 :: joinE (dueR mk (some 32) (v :: r))
    rw [cappedL_append, capped_enc, cappedL_plain pl32, show joinE (itemOf v :: r.map itemOf) = joinE ((v :: r).map itemOf) from rfl, capped_line mk (v :: r) (some 32)]
theorem dueR_get (mk : Nat) : ∀ (ws : List (List Nat)) (ah : Option Nat) (k : Nat), (dueR mk ah ws)[k]? = ws[k]?.map (dueW mk (if k = 0 then ah else some 32))
  | [], _, k => by simp [dueR]
  | w :: r, ah, 0 => by simp [dueR]
  | w :: r, ah, k + 1 => by
    rw [dueR, List.getElem?_cons_succ, dueR_get mk r (some 32) k, List.getElem?_cons_succ]
    simp
theorem dueN_eq (mk : Nat) (ws : List (List Nat)) : dueN mk ws ws.length = dueR mk none ws := by
  apply List.ext_getElem?
  intro k
  rw [dueR_get]
  unfold dueN
  by_cases h : k < ws.length
  · rw [List.getElem?_map, List.getElem?_range h, List.getElem?_eq_getElem h, Option.map_some, Option.map_some, List.getD_eq_getElem?_getD, List.getElem?_eq_getElem h]
    rfl
  · rw [List.getElem?_eq_none (by simpa using h), List.getElem?_eq_none (by simpa using h)]
    rfl
theorem safe_all : (List.range 128).all (fun c => !(safeC c) || (safeC (letterC c true) && safeC (letterC c false))) = true := by kernel_rfl
theorem safe_letter {c : Nat} (h : c < 128) (hs : safeC c = true) (g : Bool) : safeC (letterC c g) = true := by
  have := List.all_eq_true.mp safe_all c (List.mem_range.mpr h)
  rw [hs] at this
  cases g <;> simp at this
  · exact this.2
  · exact this.1
theorem capped_safe (mk : Nat) : ∀ (l : List Nat) (ah : Option Nat), (∀ c ∈ l, c < 128) → l.all safeC = true → (cappedL mk ah l).all safeC = true
  | [], _, _, _ => rfl
  | c :: r, ah, h, hs => by
    have h1 : safeC c = true := List.all_eq_true.mp hs c (.head _)
    have h2 : r.all safeC = true := List.all_eq_true.mpr fun x hx => List.all_eq_true.mp hs x (.tail _ hx)
    rw [cappedL, List.all_cons, capped_safe mk r (some c) (fun x hx => h x (.tail _ hx)) h2, Bool.and_true]
    split
    · exact h1
    · exact safe_letter (h c (.head _)) h1 _
theorem dueW_ok {mk : Nat} {ah : Option Nat} {w : List Nat} (h : ∀ c ∈ w, c < 128) : okI (dueW mk ah w) := by
  unfold dueW okI
  cases hb : bareL w with
  | false => intro e; simp at e
  | true =>
    intro _
    unfold bareL at hb
    rw [Bool.and_eq_true] at hb
    refine ⟨?_, capped_safe mk w ah h hb.2⟩
    show cappedL mk ah w ≠ []
    intro e
    have := congrArg List.length e
    rw [cappedL_length] at this
    have : w = [] := List.length_eq_zero_iff.mp this
    rw [this] at hb
    simp at hb
theorem dueR_ok (mk : Nat) : ∀ (ws : List (List Nat)) (ah : Option Nat), (∀ w ∈ ws, ∀ c ∈ w, c < 128) → ∀ i ∈ dueR mk ah ws, okI i
  | [], _, _, i, hi => nomatch hi
  | w :: r, ah, h, i, hi => by
    rcases List.mem_cons.mp hi with rfl | hi
    · exact dueW_ok (h w (.head _))
    · exact dueR_ok mk r (some 32) (fun x hx => h x (.tail _ hx)) i hi
theorem dueR_length (mk : Nat) : ∀ (ws : List (List Nat)) (ah : Option Nat), (dueR mk ah ws).length = ws.length
  | [], _ => rfl
  | w :: r, ah => by rw [dueR, List.length_cons, List.length_cons, dueR_length mk r]

theorem encQ_ascii {l : List Nat} (h : ∀ c ∈ l, c < 128) : ∀ c ∈ encQ l, c < 128 := by
  intro c hc
  obtain ⟨a, ha, hc⟩ := List.mem_flatMap.mp hc
  split at hc
  · simp at hc; omega
  · obtain rfl := List.mem_singleton.mp hc; exact h _ ha
theorem quoteL_ascii {l : List Nat} (h : ∀ c ∈ l, c < 128) : ∀ c ∈ quoteL l, c < 128 := by
  intro c hc
  unfold quoteL at hc
  split at hc
  · exact h c hc
  · rcases List.mem_cons.mp hc with rfl | hc
    · omega
    · rcases List.mem_append.mp hc with hc | hc
      · exact encQ_ascii h c hc
      · obtain rfl := List.mem_singleton.mp hc; omega
theorem line_ascii : ∀ (ws : List (List Nat)), (∀ w ∈ ws, ∀ c ∈ w, c < 128) → ∀ c ∈ joinE (ws.map itemOf), c < 128
  | [], _, c, hc => nomatch hc
  | [w], h, c, hc => by
    have hc : c ∈ encI (itemOf w) := hc
    rw [encI_itemOf] at hc
    exact quoteL_ascii (h w (.head _)) c hc
  | w :: v :: r, h, c, hc => by
    have hc : c ∈ encI (itemOf w) ++ 32 :: joinE ((v :: r).map itemOf) := hc
    rw [encI_itemOf] at hc
    rcases List.mem_append.mp hc with hc | hc
    · exact quoteL_ascii (h w (.head _)) c hc
    · rcases List.mem_cons.mp hc with rfl | hc
      · omega
      · exact line_ascii (v :: r) (fun x hx => h x (.tail _ hx)) c hc
theorem line_short : ∀ (ws : List (List Nat)), (∀ w ∈ ws, w.length ≤ 100) → (joinE (ws.map itemOf)).length ≤ 1000 * ws.length
  | [], _ => Nat.le_refl _
  | [w], h => by
    show (encI (itemOf w)).length ≤ _
    rw [encI_itemOf]
    have h1 := quoteL_le w
    have h2 := h w (.head _)
    simp; omega
  | w :: v :: r, h => by
    show (encI (itemOf w) ++ 32 :: joinE ((v :: r).map itemOf)).length ≤ _
    rw [encI_itemOf, List.length_append, List.length_cons, List.length_cons (as := v :: r)]
    have h1 := quoteL_le w
    have h2 := h w (.head _)
    have h3 := line_short (v :: r) fun x hx => h x (.tail _ hx)
    omega
end Mine

-- MRows
namespace Mine
def RowOk (r : Bool × List Nat) : Prop := ∀ c ∈ r.2, c < 128
theorem rowD_can {r : Bool × List Nat} (h : RowOk r) : PyData.canLay0 (rowD r) = true := by
  have : PyData.strOk (S r.2) = true := by
    unfold PyData.strOk
    rw [Array.all_eq_true']
    intro c hc
    have := h c (by simpa using hc)
    simp; omega
  simp [rowD, PyData.canLay0, PyData.canLayAll0, this]
theorem rows_can : ∀ rs : List (Bool × List Nat), (∀ r ∈ rs, RowOk r) → PyData.canLayAll0 (rs.map rowD) = true
  | [], _ => by simp [PyData.canLayAll0]
  | r :: rs, h => by
    rw [List.map_cons, PyData.canLayAll0, rowD_can (h r (.head _)), rows_can rs fun x hx => h x (.tail _ hx)]; rfl
theorem rowD_depth (r : Bool × List Nat) : PyData.depth (rowD r) = 1 := by simp [rowD, PyData.depth, PyData.depthAll]
theorem rows_depth : ∀ rs : List (Bool × List Nat), PyData.depthAll (rs.map rowD) ≤ 1
  | [] => by simp [PyData.depthAll]
  | r :: rs => by
    have := rows_depth rs
    rw [List.map_cons, PyData.depthAll, rowD_depth]
    omega
theorem rows_shaped {rs : List (Bool × List Nat)} (h : ∀ r ∈ rs, RowOk r) : SeqAt.shaped (rowsD rs) = true := by
  unfold SeqAt.shaped rowsD
  rw [PyData.canLay0, rows_can rs h, PyData.depth]
  have := rows_depth rs
  simp; omega
theorem rowD_eqv (r : Bool × List Nat) : PyData.eqv (rowD r) (rowD r) = true := by simp [rowD, PyData.eqv, PyData.eqvAll]
theorem rows_eqv : ∀ rs : List (Bool × List Nat), PyData.eqvAll (rs.map rowD) (rs.map rowD) = true
  | [] => by simp [PyData.eqvAll]
  | r :: rs => by rw [List.map_cons, PyData.eqvAll, rowD_eqv, rows_eqv rs]; rfl
theorem rowsD_eqv (rs : List (Bool × List Nat)) : PyData.eqv (rowsD rs) (rowsD rs) = true := by
  unfold rowsD; rw [PyData.eqv]; exact rows_eqv rs
theorem letter_lt {c : Nat} (h : c < 128) (g : Bool) : letterC c g < 128 := by
  unfold letterC
  split
  · cases g <;> simp <;> omega
  · exact h
theorem capped_lt (mk : Nat) : ∀ (l : List Nat) (ah : Option Nat), (∀ c ∈ l, c < 128) → ∀ c ∈ cappedL mk ah l, c < 128
  | [], _, _, c, hc => nomatch hc
  | a :: r, ah, h, c, hc => by
    rw [cappedL] at hc
    rcases List.mem_cons.mp hc with rfl | hc
    · split
      · exact h a (.head _)
      · exact letter_lt (h a (.head _)) _
    · exact capped_lt mk r (some a) (fun x hx => h x (.tail _ hx)) c hc
theorem dueR_rows (mk : Nat) : ∀ (ws : List (List Nat)) (ah : Option Nat), (∀ w ∈ ws, ∀ c ∈ w, c < 128) → ∀ i ∈ dueR mk ah ws, RowOk i
  | [], _, _, i, hi => nomatch hi
  | w :: r, ah, h, i, hi => by
    rcases List.mem_cons.mp hi with rfl | hi
    · unfold dueW
      split
      · exact capped_lt mk w ah (h w (.head _))
      · exact capped_lt mk w (some 39) (h w (.head _))
    · exact dueR_rows mk r (some 32) (fun x hx => h x (.tail _ hx)) i hi
theorem ne_rows {prog : Program} {w : World} {A : Around} {E : Value → Shared → Prop} {s : Shared} {a b : Value} {rs : List (Bool × List Nat)} {Q : Value → Shared → Prop}
    (ra : IsRows rs s.heap a) (rb : IsRows rs s.heap b) (h : ∀ r ∈ rs, RowOk r) (hu : A.units + 64 < cLine) (hQ : Q (.bool false) s) : wpAny (model prog w) A (compareOp .NotEq a b) Q E s := by
  obtain ⟨as, ra⟩ := ra
  obtain ⟨bs, rb⟩ := rb
  refine ne_dataH ra rb (rows_shaped h) (rows_shaped h) hu ?_
  rw [rowsD_eqv]; exact hQ
end Mine

-- M12
namespace Mine
local macro_rules | `(tactic| walk_at "MY STEPS") => `(tactic| repeat' (first
  | ((fail_if_success (with_reducible show wpAny _ _ (exec (Stmt.For _ _ _ _ _) _) _ _ _)); (fail_if_success (with_reducible show LawDone _ _ _)); (fail_if_success (with_reducible show wpAny _ _ (call (Value.ref _) _) _ _ _)); (fail_if_success (with_reducible show TurnEnd _ _ _ _ _ _ _ _)); (fail_if_success (with_reducible show wpAny _ _ (compareOp CmpOp.NotEq _ _) _ _ _)); (fail_if_success (with_reducible show wpAny _ _ (pyIter _) _ _ _)); (first | walk1 | (dsimp only; walk1)))))
/-- the end of a call of the law -/
structure LawDone (s : Shared) (v : Value) (s' : Shared) : Prop where
  val : v = .bool true
  old : OldK s.heap s'.heap
  os : s'.os = s.os
  bare : AllBare s'.gens
theorem new_old {h₀ h : Heap} {r : Addr} (k : ∀ b o, h₀.get? b = some o → h.get? b = some o) (e : h.get? r = none) : h₀.get? r = none := by
  cases e2 : h₀.get? r with
  | none => rfl
  | some o => rw [k _ _ e2] at e; cases e
theorem new_ne {h₀ h : Heap} {L r : Addr} {m : Str → Option Value} (F : Fr h₀ L h m) (e : h.get? r = none) : r ≠ L := by
  rintro rfl
  obtain ⟨o, _, _, x, _⟩ := F.ns
  rw [x] at e; cases e

theorem marks_at {c : Nat} {t1 t2 t3 t4 t5 : Tok} {i : Nat} {v : Value} (h : ([.str (Str.ofString "'") t1, .str (Str.ofString "\"") t2, .str (Str.ofString " ") t3, .str (Str.ofString "a") t4, .str ⟨#[c]⟩ t5] : List Value)[i]? = some v) :
    ∃ mk t, v = .str (S [mk]) t := by
  match i, h with
  | 0, h => cases h; exact ⟨39, t1, by rw [show Str.ofString "'" = S [39] from by decide +kernel]⟩
  | 1, h => cases h; exact ⟨34, t2, by rw [show Str.ofString "\"" = S [34] from by decide +kernel]⟩
  | 2, h => cases h; exact ⟨32, t3, by rw [show Str.ofString " " = S [32] from by decide +kernel]⟩
  | 3, h => cases h; exact ⟨97, t4, by rw [show Str.ofString "a" = S [97] from by decide +kernel]⟩
  | 4, h => cases h; exact ⟨c, t5, rfl⟩
  | i + 5, h => cases h

theorem rebase {K : Frag} {loose : List Str} {p : Program} {mg mb : Str → Option Value} {h₀ h h5 : Heap} {L P₀ P : Addr} {ps' : Array Value} {m : Str → Option Value} {news : List (Addr × Obj)} {c : Addr}
    (X : K.In h₀) (T : TopRead p loose mg mb h₀) (hK : kb_classed K = true) (B₀ : Based h₀ h₀ c P₀ #[]) (F : Fr h₀ L h m) (N : News h₀ L h news) (BJ : Based h (regrown h P ps') c P ps')
    (k : ∀ b o, (regrown h P ps').get? b = some o → h5.get? b = some o) :
    ∃ hB, OldK h₀ hB ∧ Fr hB L h5 m ∧ News hB L h5 news ∧ K.In hB ∧ TopRead p loose mg mb hB := by
  obtain rfl : P = P₀ := by
    obtain ⟨⟨o, vs, h1, _, h2, h3⟩, _⟩ := B₀.tab
    obtain ⟨ps₁, ⟨o', vs', h1', _, h2', h3'⟩, _⟩ := BJ.tab₁
    rw [F.keep _ _ h1] at h1'
    cases h1'
    rw [h2] at h2'
    cases h2'
    rw [h3] at h3'
    cases h3'
    rfl
  have hx : Heap.ExtBut P h h5 := fun b o hb e => k b o ((Heap.get?_update_other _ _ (Ne.symm hb)).trans e)
  have e0 : (#[] ++ ps' : Array Value) = ps' := by simp
  obtain ⟨B', F'⟩ := B₀.grow (more := ps') F hx (by rw [e0]; exact BJ.code.keeps k) (by rw [e0]; exact BJ.tab.keeps k)
  refine ⟨_, B'.old, F', fun q hq => ?_, kb_in_regrown B₀ X T.g hK, LGe.top_regrown F' T B₀⟩
  obtain ⟨n1, n2, n3⟩ := N q hq
  have hqP : q.1 ≠ P := fun e => by rw [e, B₀.tab.2] at n3; cases n3
  exact ⟨hx _ _ hqP n1, n2, B'.fresh n3⟩

set_option maxRecDepth 100000 in
set_option maxHeartbeats 1000000 in
theorem law_spec {w : World} {loose : List Str} {mean : ExcName → Option Value} {mg mb : Str → Option Value} {d un : Nat} {fr : Option (List Env)} {gd : Option (List Code)} {s : Shared} {E : Value → Shared → Prop} {l : Addr} {vs : List Value} {ns : List Int}
  (X : (hd.heap_39 w.params).In s.heap) (T0 : Top hd.view_39 loose mean mg mb s.heap) (hr : d + 100 < recursionLimit) (hu : un + 800 < cLine) (hg : AllBare s.gens)
  (hl : s.heap.IsList l vs.toArray) (hI : IntsAre vs ns) (hlay : (PyData.list (ns.map .int)).layable0 = true) (hn : ¬ ((63 : Nat) : Int) < ns.length) :
  wpAny (model PySem.Challenge.rw_mj0042_01.row.prog w) ⟨none, d, fr, gd, un⟩ (call (.ref 113) [.ref l]) (LawDone s) E s := by
  have T := topRead_of T0
  revert X; k_fill; intro X
  refine' enterQ (binds := [(Str.ofString "script", .ref l)]) ?eX ?eT ?er ?eo ?ec ?eb ?el ?ece ?eco ?ege ?eki ?_
  (case eX => assumption); (case eT => assumption); (case er => (dsimp only; omega)); (case eo => k_is); (case ec => k_is); (case eb => exact BindsTo.of_eq rfl); (case el => exact locs rfl); (case ece => decide); (case eco => rfl); (case ege => rfl); (case eki => rfl)
  intro h₁ F N; dsimp only [List.length_cons, List.length_nil]
  obtain ⟨B₀c, P₀, hBc, B₀⟩ := based_of_top T0 (name := Str.ofString "join") rfl (mg_of X T0.g (by k_is)) (X 51 _ (by k_is)) rfl
  obtain rfl : B₀c = 50 := by cases hBc; rfl
  clear hBc
  walk_at "MY STEPS"
  rename Fr _ _ _ _ => F₁
  rename News _ _ _ _ => N₁
  rename IntsAre _ (List.take 10 ns) => hI1
  rename List.length (List.take 10 ns) = _ => hI2
  rename List Value => us0
  refine use_done (words_spec (X.keeps F₁.keep) (T.keeps F₁.keep) (by dsimp only; omega) (by dsimp only; omega) (PySem.IsL.isList (N₁ _ (.head _)).1) hI1 (by rw [hI2]; omega)) F₁ N₁ ?_
  rintro _ h2 tk2 ⟨r, us, ws, rfl, hnew, hil, hst, hok⟩ F₂ N₂ k₂
  obtain ⟨o, ho, hoc, on, hod⟩ := id hil
  have N₃ := Mine.News.add N₂ ho (new_ne F₁ hnew) (new_old F₁.keep hnew)
  clear F₁ N₁ N₂ k₂ hnew hil
  walk_at "MY STEPS"
  rename Fr _ _ _ _ => F₄
  rename News _ _ _ _ => N₄
  have hww : ∀ x ∈ ws, x.length ≤ 22 ∧ ∀ c ∈ x, c < 128 := hok.2.2
  refine wpAny_mono (join_spec (X.keeps F₄.keep) (T0.keeps F₄.keep) (by dsimp only; omega) (by dsimp only; omega) hg ⟨o, (N₄ _ (.head _)).1, hoc, on, hod⟩ hst (fun x hx => ⟨by have := (hww x hx).1; omega, (hww x hx).2⟩) (by have := hok.2.1; omega)) (fun v s' jd => ?_) (fun _ _ e => e)
  obtain ⟨⟨t, rfl⟩, hos, hgb, P, ps', BJ, hkJ⟩ := jd
  obtain ⟨h5, g5, d5, tk5, os5⟩ := s'
  dsimp only at hos hgb hkJ BJ
  obtain ⟨hB, hold, F₅, N₅, X₅, T₅⟩ := rebase X T (by rfl) B₀ F₄ N₄ BJ hkJ
  clear X T T0 B₀ F₄ N₄ BJ hkJ
  walk_at "MY STEPS"
  rename Fr _ _ _ _ => F₆
  refine For_invVF F₆ rfl rfl ?_
  walk_at "MY STEPS"
  skip
  rename Fr _ _ _ _ => F₇
  rename News _ _ _ _ => N₇
  have hmarks := (N₇ _ (.head _))
  refine for_own (news := [(r, o)]) (fun i m => HasR m "words" r ∧ HasS m "line" (S (joinE (ws.map itemOf)))) rfl (PySem.IsL.isList (N₇ _ (.head _)).1) (N₇ _ (.head _)).2.1 F₇ (Mine.News.sub N₇ (fun p hp => by rw [List.mem_singleton.mp hp]; exact .tail _ (.head _))) ⟨.of rfl, .of rfl rfl⟩ ?_ ?_
  · rintro i v m₁ h8 tk8 own hv ⟨hw1, hw2⟩ F₈ N₈
    obtain ⟨mk, tm, rfl⟩ := marks_at hv
    replace F₈ := (hw1.under).pin F₈
    obtain ⟨_, F₉⟩ := ((hw2.under).under).pin F₈
    clear F₇ N₇ F₈ hmarks
    have hasc : ∀ x ∈ ws, ∀ c ∈ x, c < 128 := fun x hx => (hww x hx).2
    have hlen : (joinE (ws.map itemOf)).length ≤ 21000 := by
      have h1 := Mine.line_short ws (fun x hx => by have := (hww x hx).1; omega)
      have := hok.2.1; omega
    have hlen2 : (joinE (dueR mk none ws)).length ≤ 21000 := by
      rw [← capped_line, cappedL_length]; exact hlen
    walk_at "MY STEPS"
    refine use_done (capwords_spec (X₅.keeps F₉.keep) (T₅.keeps F₉.keep) (by dsimp only; omega) (by dsimp only; omega) (by omega) (line_ascii ws hasc)) F₉ N₈ ?_
    rintro _ h10 tk10 ⟨t10, rfl⟩ F₁₀ N₁₀ -
    rw [capped_line]
    clear F₉ N₈
    walk_at "MY STEPS"
    refine use_done (read_spec (items := dueR mk none ws) (X₅.keeps F₁₀.keep) (T₅.keeps F₁₀.keep) (by dsimp only; omega) (by dsimp only; omega) ?_ (dueR_ok mk ws none hasc) (by omega) (by rw [dueR_length]; have := hok.2.1; omega)) F₁₀ N₁₀ ?_
    · intro e
      have e2 := congrArg List.length e
      rw [dueR_length] at e2
      exact hok.1 (List.length_eq_zero_iff.mp e2)
    rintro v1 h11 tk11 hr1 F₁₁ N₁₁ -
    clear F₁₀ N₁₀
    walk_at "MY STEPS"
    refine use_done (due_spec (ws := ws) (X₅.keeps F₁₁.keep) (T₅.keeps F₁₁.keep) (by dsimp only; omega) (by dsimp only; omega) ⟨o, (N₁₁ (r, o) (List.mem_append.mpr (.inr (.head _)))).1, hoc, on, hod⟩ hst (fun x hx => ⟨by have := (hww x hx).1; omega, hasc x hx⟩) (by have := hok.2.1; omega)) F₁₁ N₁₁ ?_
    rintro v2 h12 tk12 hr2 F₁₂ N₁₂ k12
    rw [dueN_eq] at hr2
    obtain ⟨as1, hr1⟩ := hr1
    have hr1' : IsRows (dueR mk none ws) h12 v1 := ⟨as1, Reads.keeps k12 hr1⟩
    clear F₁₁ N₁₁ k12 hr1
    walk_at "MY STEPS"
    refine ne_rows hr1' hr2 (dueR_rows mk ws none hasc) (by first | (dsimp only; omega) | (show un + 3 + 64 < cLine; omega)) ?_
    walk_at "MY STEPS"
    exact TurnEnd.go F₁₂ N₁₂ ⟨.of rfl, .of rfl rfl⟩
  · rintro m₁ h8 tk8 - F₈
    clear F₇ N₇ hmarks
    walk_at "MY STEPS"
    exact ⟨rfl, hold.step_keeps F₈.keep, hos, hgb⟩
end Mine

-- MEnd
namespace Mine
set_option maxRecDepth 100000 in
set_option maxHeartbeats 2000000 in
theorem law_walks : PySem.Challenge.rw_mj0042_01.Holds := hd (by
  k_fill
  intro w s₀ s₁ mg mb G Y fa o pm cd doc dV kV ho hd' hcd hD hmg hg args vals as hpre hlay hrd hwl hlo
  have KX := kIn_of Y
  refine Ground.open G ?_
  intro T B D TE TW
  have hfa : mg (Str.ofString "law") = some (.ref 113) := mg_of KX T.g (by k_is)
  obtain rfl : fa = 113 := by
    have h := hmg.symm.trans hfa
    cases h; rfl
  wrow_args hpre hlay hrd hwl hlo
  rename Heap.IsList _ _ _ => hL
  rename IntsAre _ _ => hI
  rename (PyData.list _).layable0 = true => hly
  rename ¬ _ < _ => hn
  refine wpAny_mono (law_spec (E := fun _ _ => False) KX T (by decide +kernel) (by decide +kernel) (.of_eq hg) hL hI hly hn) (fun v s' dn => ?_) (fun _ _ e => e.elim)
  obtain ⟨rfl, h1, h2, h3⟩ := dn
  refine ⟨.inl ⟨.bool true, .bool true, [], rfl, (fun _ => rfl), .bool _, ?_, fun _ => ⟨.nil, fun a ha => nomatch ha⟩⟩, h1, h2, h3⟩
  first | rfl | kernel_rfl)
end Mine

theorem PySem.Challenge.cw_mj0042_01_holds : PySem.Challenge.rw_mj0042_01.Holds :=
  Mine.law_walks
