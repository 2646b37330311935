import PyProof.Rows.All
import Wide.All
import OpenK.AllK
import Wide.FinOn
import PyProof.AttrMissHeap
import Lean
import PySem.Challenge.RW_fe0036_01
open PySem PySem.W PyProof.Rows
set_option Elab.async false
set_option maxRecDepth 100000
namespace Mine

set_option maxHeartbeats 8000000 in
open_top hd for PySem.Challenge.rw_fe0036_01

def bodyAt (n : Nat) : List Stmt := match Challenge.pw_fe0036_01.main.body[n]? with
  | some (.FunctionDef _ _ b _ _ _ _ _ _ _) => b
  | _ => []
def scopeAt (n : Nat) : Scope := match Challenge.pw_fe0036_01.main.body[n]? with
  | some (.FunctionDef _ _ _ _ _ _ sc _ _ _) => sc
  | _ => default
def lawStmt (n : Nat) : Stmt := (bodyAt 6).getD n (.Pass default)
/-- the law's frame -/
abbrev LE (L fa : Addr) (cd : Value) : Env := envOfC (Str.ofString "law") (scopeAt 6) L fa cd
abbrev LA (L fa : Addr) (cd : Value) : Around := callerA.deeper (LE L fa cd)
theorem exec_as {M : Model} {A : Around} {st st' : Stmt} {env : Env} {Q : Flow → Shared → Prop} {E : Value → Shared → Prop} {s : Shared} (e : st = st') (h : wpAny M A (exec st' env) Q E s) : wpAny M A (exec st env) Q E s := by subst e; exact h
def forBody : Stmt → List Stmt
  | .For _ _ b _ _ => b
  | .While _ b _ _ => b
  | _ => []
theorem execs_as {M : Model} {A : Around} {st st' : List Stmt} {env : Env} {Q : Flow → Shared → Prop} {E : Value → Shared → Prop} {s : Shared} (e : st = st') (h : wpAny M A (execs st' env) Q E s) : wpAny M A (execs st env) Q E s := by subst e; exact h

/-- ways to choose -/
def C : Nat → Nat → Nat
  | _, 0 => 1
  | 0, _ + 1 => 0
  | n + 1, k + 1 => C n k + C n (k + 1)
theorem C_zero (n : Nat) : C n 0 = 1 := by cases n <;> rfl
theorem C_ss (n k : Nat) : C (n + 1) (k + 1) = C n k + C n (k + 1) := rfl
theorem C_over : ∀ {n k : Nat}, n < k → C n k = 0 := by
  intro n
  induction n with
  | zero => intro k h; cases k with
    | zero => omega
    | succ k => rfl
  | succ n ih => intro k h; cases k with
    | zero => omega
    | succ k => rw [C_ss, ih (by omega), ih (by omega)]
theorem C_absorb : ∀ n k : Nat, C (n + 1) (k + 1) * (k + 1) = C n k * (n + 1) := by
  intro n
  induction n with
  | zero => intro k; cases k with
    | zero => rfl
    | succ k => simp [C_ss, C_over (n := 0) (k := k + 1) (by omega), C_over (n := 0) (k := k + 2) (by omega)]
  | succ n ih =>
    intro k
    cases k with
    | zero =>
      have h := ih 0
      have e : C (n + 1 + 1) (0 + 1) = C (n + 1) 0 + C (n + 1) (0 + 1) := C_ss (n + 1) 0
      rw [e, C_zero]
      rw [C_zero] at h
      omega
    | succ k =>
      have h1 := ih k
      have h2 := ih (k + 1)
      rw [C_ss (n + 1) (k + 1)]
      have e : C (n + 1) (k + 1) = C n k + C n (k + 1) := C_ss n k
      have h3 : C (n + 1) (k + 1) * (k + 1 + 1) = C n k * (n + 1) + C (n + 1) (k + 1) := by rw [Nat.mul_succ, h1]
      rw [Nat.add_mul, h2, h3, e]
      grind
def fact : Nat → Nat
  | 0 => 1
  | n + 1 => (n + 1) * fact n
theorem fact_pos : ∀ n, 0 < fact n
  | 0 => Nat.one_pos
  | n + 1 => Nat.mul_pos (Nat.succ_pos n) (fact_pos n)
theorem C_fact : ∀ n k : Nat, C (n + k) k * fact k * fact n = fact (n + k) := by
  intro n k
  induction k with
  | zero => simp [C_zero, fact]
  | succ k ih =>
    have h := C_absorb (n + k) k
    show C (n + k + 1) (k + 1) * ((k + 1) * fact k) * fact n = (n + k + 1) * fact (n + k)
    rw [← ih]
    grind
theorem C_le_pow : ∀ n k : Nat, C n k ≤ (n + 1) ^ k := by
  intro n
  induction n with
  | zero => intro k; cases k with
    | zero => exact Nat.le_refl _
    | succ k => exact Nat.zero_le _
  | succ n ih => intro k; cases k with
    | zero => exact Nat.le_refl _
    | succ k =>
      rw [C_ss]
      have h1 := ih k
      have h2 := ih (k + 1)
      have h3 : (n + 1) ^ k ≤ (n + 1 + 1) ^ k := Nat.pow_le_pow_left (by omega) k
      rw [Nat.pow_succ] at h2 ⊢
      calc C n k + C n (k + 1) ≤ (n + 1) ^ k + (n + 1) ^ k * (n + 1) := Nat.add_le_add h1 h2
        _ = (n + 1) ^ k * (n + 1 + 1) := by grind
        _ ≤ (n + 1 + 1) ^ k * (n + 1 + 1) := Nat.mul_le_mul_right _ h3
/-- the digits, the last ones first -/
def digF (p : Nat) : Nat → Nat → List Nat
  | 0, _ => []
  | f + 1, n => if n = 0 then [] else n % p :: digF p f (n / p)
def dig (p n : Nat) : List Nat := digF p n n
theorem digF_fuel {p : Nat} (hp : 2 ≤ p) : ∀ {f g n : Nat}, n ≤ f → n ≤ g → digF p f n = digF p g n := by
  intro f
  induction f with
  | zero => intro g n h1 h2; cases g with
    | zero => rfl
    | succ g => simp [digF, show n = 0 by omega]
  | succ f ih => intro g n h1 h2; cases g with
    | zero => simp [digF, show n = 0 by omega]
    | succ g =>
      unfold digF
      by_cases h : n = 0
      · simp [h]
      · have hlt : n / p < n := Nat.div_lt_self (by omega) (by omega)
        simp only [h, if_false]
        rw [ih (g := g) (by omega) (by omega)]
theorem dig_zero (p : Nat) : dig p 0 = [] := rfl
theorem dig_pos {p n : Nat} (hp : 2 ≤ p) (hn : n ≠ 0) : dig p n = n % p :: dig p (n / p) := by
  have hlt : n / p < n := Nat.div_lt_self (by omega) (by omega)
  unfold dig
  cases n with
  | zero => exact absurd rfl hn
  | succ n =>
    show (if n + 1 = 0 then [] else (n + 1) % p :: digF p n ((n + 1) / p)) = _
    rw [if_neg hn, digF_fuel hp (f := n) (g := (n + 1) / p) (by omega) (by omega)]
theorem dig_lt {p : Nat} (hp : 2 ≤ p) : ∀ n, ∀ d ∈ dig p n, d < p := by
  intro n
  induction n using Nat.strongRecOn with
  | ind n ih =>
    intro d hd
    by_cases h : n = 0
    · rw [h, dig_zero] at hd; exact absurd hd (List.not_mem_nil)
    · rw [dig_pos hp h] at hd
      rcases List.mem_cons.mp hd with rfl | hd
      · exact Nat.mod_lt _ (by omega)
      · exact ih _ (Nat.div_lt_self (by omega) (by omega)) d hd
theorem dig_length {p : Nat} (hp : 2 ≤ p) : ∀ k n, n < 2 ^ k → (dig p n).length ≤ k := by
  intro k
  induction k with
  | zero => intro n h; rw [show n = 0 by omega]; exact Nat.le_refl _
  | succ k ih =>
    intro n h
    by_cases h0 : n = 0
    · rw [h0]; exact Nat.zero_le _
    · rw [dig_pos hp h0, List.length_cons]
      have h1 : n / p ≤ n / 2 := Nat.div_le_div_left hp (by omega)
      have := ih (n / p) (by rw [Nat.pow_succ] at h; omega)
      omega
theorem dig_getD {p : Nat} (hp : 2 ≤ p) : ∀ k n, (dig p n).getD k 0 = n / p ^ k % p := by
  intro k
  induction k with
  | zero => intro n; by_cases h : n = 0
            · rw [h, dig_zero]; simp
            · rw [dig_pos hp h]; simp
  | succ k ih => intro n; by_cases h : n = 0
                 · rw [h, dig_zero]; simp
                 · rw [dig_pos hp h, List.getD_cons_succ, ih, Nat.div_div_eq_div_mul, Nat.pow_succ, Nat.mul_comm]
theorem dig_over {p : Nat} (hp : 2 ≤ p) : ∀ k n, (dig p n).length ≤ k → n / p ^ k = 0 := by
  intro k
  induction k with
  | zero => intro n h; by_cases h0 : n = 0
            · simp [h0]
            · rw [dig_pos hp h0] at h; simp at h
  | succ k ih => intro n h; by_cases h0 : n = 0
                 · simp [h0]
                 · rw [dig_pos hp h0] at h
                   rw [Nat.pow_succ, Nat.mul_comm, ← Nat.div_div_eq_div_mul]
                   exact ih _ (by simpa using h)
/-- the sum of the digits -/
def ds (p n : Nat) : Nat := (dig p n).sum
theorem ds_zero (p : Nat) : ds p 0 = 0 := rfl
theorem ds_step {p n : Nat} (hp : 2 ≤ p) : ds p n = n % p + ds p (n / p) := by
  by_cases h : n = 0
  · rw [h, ds_zero]; simp [ds_zero]
  · unfold ds; rw [dig_pos hp h, List.sum_cons]
/-- the digits as ints -/
def digI (p n : Nat) : List Int := (dig p n).map fun d : Nat => (d : Int)
theorem digI_length (p n : Nat) : (digI p n).length = (dig p n).length := by simp [digI]
theorem digI_getD {p : Nat} (hp : 2 ≤ p) (k n : Nat) : (digI p n).getD k 0 = ((n / p ^ k % p : Nat) : Int) := by
  rw [← dig_getD hp]
  unfold digI
  rw [List.getD_eq_getElem?_getD, List.getD_eq_getElem?_getD, List.getElem?_map]
  cases (dig p n)[k]? <;> rfl
theorem digI_sum (p n : Nat) : (digI p n).sum = ((ds p n : Nat) : Int) := by
  unfold digI ds
  induction dig p n with
  | nil => rfl
  | cons a l ih => rw [List.map_cons, List.sum_cons, List.sum_cons, ih]; omega
theorem C_small {d x : Nat} (hd : d < 13) (hx : x < 13) : C d x < 2 ^ 64 := by
  have h1 := C_le_pow d x
  have h2 : (d + 1) ^ x ≤ 13 ^ x := Nat.pow_le_pow_left (by omega) x
  have h3 : 13 ^ x ≤ 13 ^ 12 := Nat.pow_le_pow_right (by decide) (by omega)
  have h4 : (13 : Nat) ^ 12 < 2 ^ 64 := by decide
  omega
theorem C_big {n k : Nat} (hn : n < 2 ^ 31) (hk : k ≤ 40) : C n k < 2 ^ 1300 := by
  have h1 := C_le_pow n k
  have h2 : (n + 1) ^ k ≤ (2 ^ 31) ^ k := Nat.pow_le_pow_left (by omega) k
  have h3 : (2 ^ 31) ^ k ≤ (2 ^ 31) ^ 40 := Nat.pow_le_pow_right (by decide) hk
  have h4 : ((2 : Nat) ^ 31) ^ 40 < 2 ^ 1300 := by rw [← Nat.pow_mul]; exact Nat.pow_lt_pow_right (by decide) (by decide)
  exact Nat.lt_of_le_of_lt (Nat.le_trans h1 (Nat.le_trans h2 h3)) h4

/-- what stands the whole call long -/
structure Cx (w : World) (base : Heap) (mg mb : Str → Option Value) (loose : List Str) (mean : ExcName → Option Value) : Prop where
  B : Below callerA base [] base
  X : (hd.heap_39 w.params).In base
  T : Top hd.view_39 loose mean mg mb base
theorem fmod_in {a n : Int} (hn : 0 < n) : 0 ≤ a.fmod n ∧ a.fmod n < n := ⟨Int.fmod_nonneg_of_pos a hn, Int.fmod_lt_of_pos a hn⟩
def primes : List Int := [2, 3, 5, 7, 11, 13]
theorem six_ints {ys : List Value} {ds : List Int} (h : IntsAre ys ds) (hl : ds.length = 6) (hb : ∀ d ∈ ds, 0 ≤ d ∧ d < 10007) :
    ∃ d0 d1 d2 d3 d4 d5, IntsAre ys [d0, d1, d2, d3, d4, d5] ∧ (∀ d ∈ [d0, d1, d2, d3, d4, d5], 0 ≤ d ∧ d < 10007) := by
  match ds, hl with
  | [d0, d1, d2, d3, d4, d5], _ => exact ⟨d0, d1, d2, d3, d4, d5, h, hb⟩

section
variable {prog : Program} {w : World} {A : Around} {h₀ : Heap} {L : Addr} {m : Str → Option Value} {env : Env} {elt : Expr} {x : Str} {scope : Scope} {cl : List (Str × Addr)} {s : Shared} {S : List (Addr × Obj) → Prop} {P : Nat → Value → Prop} {Fin : List Value → List (Addr × Obj) → Prop} {news : List (Addr × Obj)}
theorem rest_ind {n : Nat} (PL : Nat → List Value → List (Addr × Obj) → Prop) (h0 : PL 0 [] [])
    (turn : ∀ i v ys extra I oI C oC D m₂ h tk (E' : Value → Shared → Prop), i < n → P i v → PL i ys extra → ys.length = i → LCg.NsObj oC m₂ → m₂ x = some v → Fr h₀ L h m → News h₀ L h ((I, oI) :: (C, oC) :: (D, LCg.lst ys) :: (news ++ extra)) → LCg.Off3 I C D (news ++ extra) → ((@Ne Nat I C) ∧ (@Ne Nat I D) ∧ (@Ne Nat C D)) →
      wpAny (model prog w) A (eval elt (compEnvC scope cl C env)) (LCg.CompEnd h₀ L m { s with heap := h, toks := tk } I oI C oC D (LCg.lst ys) S (fun y news' => ∃ extra', news' = news ++ extra' ∧ PL (i + 1) (ys ++ [y]) extra')) E' { s with heap := h, toks := tk })
    (fin : ∀ ys extra, ys.length = n → PL n ys extra → Fin ys (news ++ extra)) : LCg.CompRest prog w A h₀ L m env elt x scope cl s S P Fin n 0 [] news := by
  have key : ∀ (j i : Nat) (ys : List Value) (extra : List (Addr × Obj)), i + j = n → ys.length = i → PL i ys extra → LCg.CompRest prog w A h₀ L m env elt x scope cl s S P Fin j i ys (news ++ extra) := by
    intro j
    induction j with
    | zero =>
      intro i ys extra hi hl hp
      have e : i = n := by omega
      subst e
      exact LCg.CompRest.zero (fin ys extra hl hp)
    | succ j ih =>
      intro i ys extra hi hl hp
      refine LCg.CompRest.succ ?_
      intro v I oI C oC D m₂ h tk E' hv hC hx F N off ne
      refine wpAny_mono (turn i v ys extra I oI C oC D m₂ h tk E' (by omega) hv hp hl hC hx F N off ne) (fun y s₂ hq => ?_) fun _ _ e => e
      obtain ⟨h', tk', nw, e, F', N', off', hS, extra', hn, hp'⟩ := hq
      subst hn
      exact ⟨h', tk', _, e, F', N', off', hS, ih (i + 1) _ extra' (by omega) (by rw [List.length_append, hl]; rfl) hp'⟩
  have := key n 0 [] [] (by omega) rfl h0
  rwa [List.append_nil] at this
def SrcD (prog : Program) (w : World) (A : Around) (h₀ : Heap) (L : Addr) (m : Str → Option Value) (env : Env) (elt : Expr) (x : Str) (scope : Scope) (cl : List (Str × Addr)) (Fin : Shared → List Value → List (Addr × Obj) → Prop) (xv : Value) (s₁ : Shared) : Prop :=
  ∃ r a b t u v n news, xv = .ref r ∧ A.handled = none ∧ Fr h₀ L s₁.heap m ∧ News h₀ L s₁.heap news ∧ IsRange s₁.heap r a b (-1) t u v ∧ Builtin.Range.small a b (-1) = true ∧ Builtin.Range.rangeSize a b (-1) = ((n : Nat) : Int) ∧ n ≤ sizeLine ∧
    ∀ s₂ : Shared, (∃ h, s₂ = { s₁ with heap := h }) → LCg.CompRest prog w A h₀ L m env elt x scope cl s₂ (fun _ => True) (fun i v => ∃ t, v = .int (a + (i : Nat) * (-1)) t) (Fin s₂) n 0 [] news
theorem SrcD.intro {Fin : Shared → List Value → List (Addr × Obj) → Prop} {r : Addr} {a b : Int} {t u v : Tok} {n : Nat} {s₁ : Shared}
    (hh : A.handled = none) (F : Fr h₀ L s₁.heap m) (N : News h₀ L s₁.heap news) (hr : IsRange s₁.heap r a b (-1) t u v) (hsm : Builtin.Range.small a b (-1) = true) (hn : Builtin.Range.rangeSize a b (-1) = ((n : Nat) : Int)) (hsz : n ≤ sizeLine)
    (h : ∀ g, LCg.CompRest prog w A h₀ L m env elt x scope cl { s₁ with heap := g } (fun _ => True) (fun i v => ∃ t, v = .int (a + (i : Nat) * (-1)) t) (Fin { s₁ with heap := g }) n 0 [] news) :
    SrcD prog w A h₀ L m env elt x scope cl Fin (.ref r) s₁ := ⟨r, a, b, t, u, v, n, news, rfl, hh, F, N, hr, hsm, hn, hsz, fun _ ⟨g, e⟩ => e ▸ h g⟩
theorem ListComp_D {E : Value → Shared → Prop} {iter : Expr} {px : Pos} {pos : Pos} {Q : Value → Shared → Prop} (F₀ : Fr h₀ L s.heap m)
    (hclos : closureFor scope env = pure cl) (hcell : ∀ y ∈ scope.names, y.2 ≠ .cell) (hkind : scope.kind = .function)
    (hnames : ∀ y ∈ scope.names, y.2 = .local → scope.names.lookup y.1 = some .local) (hx : scope.names.lookup x = some .local)
    (h : wpAny (model prog w) A (eval iter env) (SrcD prog w A h₀ L m env elt x scope cl (fun s₂ => LCg.FinE h₀ L m s₂ Q)) E s)
    (hs : ∀ x, foldedSetIterable iter env x = pure x := by intro _; rfl) :
    wpAny (model prog w) A (eval (.ListComp elt [⟨.Name x px, iter, [], 0⟩] scope pos) env) Q E s := by
  let _ := F₀
  rw [eval_ListComp]
  refine wpAny_comprehension_free (use := none) rfl hs hclos hkind hnames (wpAny_mono h (fun xv s₁ h₁ => ?_) fun _ _ e => e)
  rcases h₁ with ⟨r, a, b, t, u, v, n, news, rfl, hh, F, N, hr, hsm, hn, hsz, R⟩
  refine wpAny_pyIter_range hr hsm ?_
  refine LCg.block_U (Walks.range hh s₁.heap.objs.size a (-1) n) hsz (fun i h st => ⟨_, st⟩) (fun _ _ _ _ _ st e e' _ _ _ => e'.trans (e.symm.trans st)) hcell hkind hx (by show IsRangeIter _ _ _ _ _; rw [hn]; simpa using Heap.get?_push_size _ rfl) (fun b hb => ?_)
    (F.keeps fun _ _ e => Heap.get?_push_of_some _ e) (N.grown fun _ _ e => Heap.get?_push_of_some _ e) (Nat.ne_of_lt F.ns.lt) (next_is_new F) (fun p hp => Nat.ne_of_lt (Heap.lt_size (N p hp).1)) trivial (R _ ⟨_, rfl⟩) ?_
  · rw [List.mem_singleton.mp hb]
    show s₁.heap.objs.size < (s₁.heap.push _).objs.size
    rw [Heap.size_push]; exact Nat.lt_succ_self _
  · intro D C h tk m' ys news' F' N' o1 hn hC₀ hD₀ hCL hDL hCD offC fin
    refine ⟨m', hn, fun h'' hs'' => fin D h'' tk (F'.change hs'' hCL hC₀) (fun p hp => ?_) o1⟩
    refine ⟨hs''.extBut _ _ ?_ (N' p hp).1, (N' p hp).2⟩
    rcases List.mem_cons.mp hp with rfl | hp
    · exact Ne.symm hCD
    · exact offC p hp
theorem compEnd_one {I C D a : Nat} {oI oC oD o : Obj} {extra : List (Addr × Obj)} {PL : Value → List (Addr × Obj) → Prop} {y : Value} {h' : Heap} {tk : Nat} {s₁ : Shared}
    (F : Fr h₀ L h' m) (N : News h₀ L h' ((a, o) :: (I, oI) :: (C, oC) :: (D, oD) :: (news ++ extra))) (off : LCg.Off3 I C D (news ++ extra)) (hI : I < a) (hC : C < a) (hD : D < a) (hS : S (news ++ (extra ++ [(a, o)]))) (r : PL y (extra ++ [(a, o)])) :
    LCg.CompEnd h₀ L m s₁ I oI C oC D oD S (fun y news' => ∃ extra', news' = news ++ extra' ∧ PL y extra') y { s₁ with heap := h', toks := tk } := by
  refine LCg.CompEnd.intro (news' := news ++ (extra ++ [(a, o)])) F N (fun q hq => ?_) (LCg.Off3.of fun q hq => ?_) hS ⟨_, rfl, r⟩
  · rcases List.mem_cons.mp hq with rfl | hq
    · exact .tail _ (.head _)
    rcases List.mem_cons.mp hq with rfl | hq
    · exact .tail _ (.tail _ (.head _))
    rcases List.mem_cons.mp hq with rfl | hq
    · exact .tail _ (.tail _ (.tail _ (.head _)))
    rw [← List.append_assoc] at hq
    rcases List.mem_append.mp hq with hq | hq
    · exact .tail _ (.tail _ (.tail _ (.tail _ hq)))
    · rw [List.mem_singleton.mp hq]; exact .head _
  · rw [← List.append_assoc] at hq
    rcases List.mem_append.mp hq with hq | hq
    · exact off.mem q hq
    · rw [List.mem_singleton.mp hq]
      exact ⟨Nat.ne_of_gt hI, Nat.ne_of_gt hC, Nat.ne_of_gt hD⟩
theorem compEnd_none {I C D : Nat} {oI oC oD : Obj} {extra : List (Addr × Obj)} {PL : Value → List (Addr × Obj) → Prop} {y : Value} {h' : Heap} {tk : Nat} {s₁ : Shared}
    (F : Fr h₀ L h' m) (N : News h₀ L h' ((I, oI) :: (C, oC) :: (D, oD) :: (news ++ extra))) (off : LCg.Off3 I C D (news ++ extra)) (hS : S (news ++ extra)) (r : PL y extra) :
    LCg.CompEnd h₀ L m s₁ I oI C oC D oD S (fun y news' => ∃ extra', news' = news ++ extra' ∧ PL y extra') y { s₁ with heap := h', toks := tk } :=
  LCg.CompEnd.intro (news' := news ++ extra) F N (fun _ hq => hq) off hS ⟨_, rfl, r⟩
end

section
variable {prog : Program} {w : World} {A : Around} {s : Shared} {env : Env} {h₀ : Heap}
/-- a loop whose name is a cell -/
theorem forLoop_cell {R : Result → Shared → Prop} {x : Str} {px : Pos} {body : List Stmt} {I ck : Addr} {n : Nat} {P : Nat → Value → Prop} {St : Nat → Heap → Prop} {m : Str → Option Value} {nx : List (Addr × Obj)} {o : Obj} {v₀ : Option Value}
    (W : Walks prog w A I [I] [I] n P St) (hk : env.scope.kind = .function) (hx : env.kindOf x = some .cell) (hc : env.cells.lookup x = some ck) (hckI : ck ≠ I) (hLI : env.locals ≠ I) (hI₀ : h₀.get? I = none)
    (J : Nat → (Str → Option Value) → List (Addr × Obj) → Prop) (hst : St 0 s.heap) (hIo : ∀ i h, St i h → ∃ o, h.get? I = some o)
    (F : Fr h₀ env.locals s.heap m) (N : News h₀ env.locals s.heap ((ck, o) :: nx)) (hd : o.data = .cell v₀) (off : ∀ q ∈ nx, q.1 ≠ I ∧ q.1 ≠ ck) (hJ : J 0 m nx)
    (step : ∀ i v m₁ nx₁ h tk o₁ oI, i < n → P i v → J i m₁ nx₁ → o₁.data = .cell (some v) → (∀ q ∈ nx₁, q.1 ≠ I ∧ q.1 ≠ ck) → Fr h₀ env.locals h m₁ → News h₀ env.locals h ((ck, o₁) :: (I, oI) :: nx₁) →
      wpAny (model prog w) A (execs body env) (fun f s₂ => match f with
        | .next | .cont => ∃ h' tk' m' nx', s₂ = { s with heap := h', toks := tk' } ∧ Fr h₀ env.locals h' m' ∧ News h₀ env.locals h' ((ck, o₁) :: (I, oI) :: nx') ∧ (∀ q ∈ nx', q.1 ≠ I ∧ q.1 ≠ ck) ∧ J (i + 1) m' nx'
        | .brk => R (.ok .next) s₂
        | .ret v => R (.ok (.ret v)) s₂) (notedBy (model prog w) A env fun e s' => R (.error e) s') { s with heap := h, toks := tk })
    (done : ∀ h tk m₁ nx₁ o₁, J n m₁ nx₁ → Fr h₀ env.locals h m₁ → News h₀ env.locals h ((ck, o₁) :: nx₁) → R (.ok .next) { s with heap := h, toks := tk }) :
    codeAny (model prog w) A (.forLoop (.Name x px) (.ref I) body [] env) R s := by
  refine codeAny_forLoop
    (fun k s' => ∃ h' tk m' nx' o' v' i, s' = { s with heap := h', toks := tk } ∧ St i h' ∧ Fr h₀ env.locals h' m' ∧ News h₀ env.locals h' ((ck, o') :: nx') ∧ o'.data = .cell v' ∧ (∀ q ∈ nx', q.1 ≠ I ∧ q.1 ≠ ck) ∧ J i m' nx' ∧ i ≤ n ∧ k = n + 1 - i) ?_ (n + 1)
    ⟨s.heap, s.toks, m, nx, o, v₀, 0, rfl, hst, F, N, hd, off, hJ, Nat.zero_le _, rfl⟩
  rintro k s' ⟨h', tk, m', nx', o', v', i, rfl, hst', F', N', hd', off', hJ', hi, rfl⟩
  have next : ∀ h₁ : Heap, (∀ b o, b ∉ [I] → h'.get? b = some o → h₁.get? b = some o) → Fr h₀ env.locals h₁ m' ∧ News h₀ env.locals h₁ ((ck, o') :: nx') := fun h₁ hk₁ =>
    ⟨LCg.fr_but F' hk₁ hLI hI₀, LCg.news_but N' hk₁ fun q hq => by
      rcases List.mem_cons.mp hq with rfl | hq
      · exact hckI
      · exact (off' q hq).1⟩
  by_cases hlt : i < n
  · refine W.item i _ _ _ hlt hst' fun v h₁ tk₁ hP hst₁ hk₁ => ?_
    obtain ⟨F₁, N₁⟩ := next h₁ hk₁
    have zc := N₁ (ck, o') (.head _)
    refine wpAny_assign_Name (wpAny_storeName_cell hk hx hc ⟨o', zc.1, hd'⟩ fun h₂ hv hs => ?_)
    obtain ⟨o₁, ho₁, hd₁⟩ := hv
    have F₂ : Fr h₀ env.locals h₂ m' := F₁.change hs zc.2.1 zc.2.2
    have hst₂ : St (i + 1) h₂ := W.frame _ _ _ hst₁ fun b hb o e => (hs.2 b fun q => hckI (by rw [← q]; exact List.mem_singleton.mp hb)).trans e
    obtain ⟨oI, hoI⟩ := hIo _ _ hst₂
    have N₂ : News h₀ env.locals h₂ ((ck, o₁) :: (I, oI) :: nx') := fun q hq => by
      rcases List.mem_cons.mp hq with rfl | hq
      · exact ⟨ho₁, zc.2⟩
      rcases List.mem_cons.mp hq with rfl | hq
      · exact ⟨hoI, Ne.symm hLI, hI₀⟩
      · have z := N₁ q (List.mem_cons_of_mem _ hq)
        exact ⟨(hs.2 _ (off' q hq).2).trans z.1, z.2⟩
    refine wpAny_mono (step i v m' nx' h₂ _ o₁ oI hlt hP hJ' hd₁ off' F₂ N₂) (fun f s₃ h₃ => ?_) fun _ _ e => e
    have fin : (∃ h' tk' m' nx', s₃ = { s with heap := h', toks := tk' } ∧ Fr h₀ env.locals h' m' ∧ News h₀ env.locals h' ((ck, o₁) :: (I, oI) :: nx') ∧ (∀ q ∈ nx', q.1 ≠ I ∧ q.1 ≠ ck) ∧ J (i + 1) m' nx') →
        ∃ k', k' < n + 1 - i ∧ ∃ h' tk m' nx' o' v' j, s₃ = { s with heap := h', toks := tk } ∧ St j h' ∧ Fr h₀ env.locals h' m' ∧ News h₀ env.locals h' ((ck, o') :: nx') ∧ o'.data = .cell v' ∧ (∀ q ∈ nx', q.1 ≠ I ∧ q.1 ≠ ck) ∧ J j m' nx' ∧ j ≤ n ∧ k' = n + 1 - j := by
      rintro ⟨h₃', tk₃, m₃, nx₃, rfl, F₃, N₃, off₃, hJ₃⟩
      refine ⟨n + 1 - (i + 1), by omega, h₃', tk₃, m₃, nx₃, o₁, _, i + 1, rfl, ?_, F₃, fun q hq => N₃ q ?_, hd₁, off₃, hJ₃, hlt, rfl⟩
      · refine W.frame _ _ _ hst₂ fun b hb o e => ?_
        rw [List.mem_singleton.mp hb] at e ⊢
        rw [hoI] at e
        cases e
        exact (N₃ (I, oI) (.tail _ (.head _))).1
      · rcases List.mem_cons.mp hq with rfl | hq
        · exact .head _
        · exact .tail _ (.tail _ hq)
    cases f with
    | ret v => exact h₃
    | brk => exact h₃
    | next => exact fin h₃
    | cont => exact fin h₃
  · have hin : i = n := by omega
    subst hin
    refine W.done _ _ _ hst' fun h₁ tk₁ hk₁ => wpAny_execs_nil ?_
    obtain ⟨F₁, N₁⟩ := next h₁ hk₁
    exact done h₁ tk₁ m' nx' o' hJ' F₁ N₁
def CellSrc (prog : Program) (w : World) (A : Around) (h₀ : Heap) (env : Env) (body : List Stmt) (Q : Flow → Shared → Prop) (E : Value → Shared → Prop) (ck : Addr) (xv : Value) (s₁ : Shared) : Prop :=
  ∃ (r : Addr) (b : Int) (t u v : Tok) (n : Nat) (m : Str → Option Value) (nx : List (Addr × Obj)) (o : Obj) (v₀ : Option Value) (J : Nat → (Str → Option Value) → List (Addr × Obj) → Prop), xv = .ref r ∧ IsRange s₁.heap r 0 b 1 t u v ∧ Builtin.Range.small 0 b 1 = true ∧ Builtin.Range.rangeSize 0 b 1 = ((n : Nat) : Int) ∧ Fr h₀ env.locals s₁.heap m ∧ News h₀ env.locals s₁.heap ((ck, o) :: nx) ∧ o.data = .cell v₀ ∧ (∀ q ∈ nx, q.1 ≠ ck) ∧ J 0 m nx ∧
      (∀ (I : Addr) (i : Nat) (k : Int) (t : Tok) (m₁ : Str → Option Value) (nx₁ : List (Addr × Obj)) (h : Heap) (tk : Nat) (o₁ oI : Obj), i < n → k = ((i : Nat) : Int) → J i m₁ nx₁ → o₁.data = .cell (some (.int k t)) → (∀ q ∈ nx₁, q.1 ≠ I ∧ q.1 ≠ ck) → ck ≠ I → Fr h₀ env.locals h m₁ → News h₀ env.locals h ((ck, o₁) :: (I, oI) :: nx₁) →
        wpAny (model prog w) A (execs body env) (fun f s₂ => match f with
          | .next | .cont => ∃ h' tk' m' nx', s₂ = { s₁ with heap := h', toks := tk' } ∧ Fr h₀ env.locals h' m' ∧ News h₀ env.locals h' ((ck, o₁) :: (I, oI) :: nx') ∧ (∀ q ∈ nx', q.1 ≠ I ∧ q.1 ≠ ck) ∧ J (i + 1) m' nx'
          | .brk => Q .next s₂
          | .ret v => Q (.ret v) s₂) E { s₁ with heap := h, toks := tk }) ∧
      (∀ h tk m₁ nx₁ o₁, J n m₁ nx₁ → Fr h₀ env.locals h m₁ → News h₀ env.locals h ((ck, o₁) :: nx₁) → Q .next { s₁ with heap := h, toks := tk })
/-- over a range -/
theorem For_cell {E : Value → Shared → Prop} {Q : Flow → Shared → Prop} {x : Str} {px pos : Pos} {iter : Expr} {body : List Stmt} {ck : Addr} (hk : env.scope.kind = .function) (hx : env.kindOf x = some .cell) (hc : env.cells.lookup x = some ck)
    (hh : A.handled = none) (h : wpAny (model prog w) A (eval iter env) (CellSrc prog w A h₀ env body Q E ck) E s)
    (hs : ∀ x, foldedSetIterable iter env x = pure x := by intro _; rfl)
    (hE : PassesOwn (model prog w) A env E := by passes_own) :
    wpAny (model prog w) A (exec (.For (.Name x px) iter body [] pos) env) Q E s := by
  refine wpAny_For (wpAny_mono h (fun xv s₁ h₁ => ?_) fun _ _ e => e) hs
  obtain ⟨r, b, t, u, v, n, m, nx, o, v₀, J, rfl, hr, hsm, hn, F, N, hd, off, hJ, step, done⟩ := h₁
  refine wpAny_pyIter_range hr hsm ?_
  have hckI : ck ≠ s₁.heap.objs.size := Nat.ne_of_lt (Heap.lt_size (N _ (.head _)).1)
  refine forLoop_cell (R := fun r s' => match r with | .ok f => Q f s' | .error e => cameBackBy (model prog w) A env E e s') (h₀ := h₀) (m := m) (nx := nx) (o := o) (LCg.range_walks hh 0 n) hk hx hc hckI (Nat.ne_of_lt F.ns.lt) (next_is_new F) J
    (by show IsRangeIter _ _ _ _ _; rw [hn]; simpa using Heap.get?_push_size _ rfl) (fun i h st => ⟨_, st⟩) (F.push _) (fun q hq => ⟨Heap.get?_push_of_some _ (N q hq).1, (N q hq).2⟩) hd (fun q hq => ⟨Nat.ne_of_lt (Heap.lt_size (N q (List.mem_cons_of_mem _ hq)).1), off q hq⟩) hJ ?_ ?_
  · rintro i v m₁ nx₁ h tk o₁ oI hi ⟨t', rfl⟩ hJ₁ hd₁ off₁ F₁ N₁
    exact wpAny_passesOwn hE (step s₁.heap.objs.size i _ t' m₁ nx₁ h tk o₁ oI hi (Int.zero_add _) hJ₁ hd₁ off₁ hckI F₁ N₁)
  · intro h tk m₁ nx₁ o₁ hJ₁ F₁ N₁
    exact done h tk m₁ nx₁ o₁ hJ₁ F₁ N₁
end

/-- an alphabet of so many signs, all different -/
def Alph (al : Array UInt8) (p : Nat) : Prop := al.size = p ∧ ∀ i j, i < p → j < p → al.getD i 0 = al.getD j 0 → i = j
theorem bInts_at (al : Array UInt8) (i : Nat) : (KBw.bInts al).getD i 0 = (((al.getD i 0).toNat : Nat) : Int) := by
  have h := KBw.getD_ints al.toList i
  have e : al.toList.getD i 0 = al.getD i 0 := by
    rw [List.getD_eq_getElem?_getD, Array.getElem?_toList, Array.getD_eq_getD_getElem?]
  rw [e] at h
  exact h.symm
theorem no_meet : ∀ r, r < 23 → ∀ e, e < 12 → ((1 + r * 2) * (e + 1)) % 94 ≠ 0 := by decide +kernel
theorem signs_at {g : Int → Int} {p i : Nat} (h : i < p) : (byteArr ((rangeKs 0 p).map g)).getD i 0 = (g i).toNat.toUInt8 := by
  simp [byteArr, rangeKs, h]
theorem u8_inj {a b : Nat} (ha : a < 256) (hb : b < 256) (h : a.toUInt8 = b.toUInt8) : a = b := by
  have e := congrArg UInt8.toNat h
  simp only [Nat.toUInt8, UInt8.toNat_ofNat'] at e
  omega
theorem alph_of {d : Int} {p : Nat} (hp : (p : Int) ≤ 13) : Alph (byteArr ((rangeKs 0 p).map fun k => 33 + (d + (1 + d.fmod 23 * 2) * k).fmod 94)) p := by
  refine ⟨by simp [byteArr_size, rangeKs_length], ?_⟩
  have key : ∀ i j : Nat, i < j → j < p → (byteArr ((rangeKs 0 p).map fun k => 33 + (d + (1 + d.fmod 23 * 2) * k).fmod 94)).getD i 0 = (byteArr ((rangeKs 0 p).map fun k => 33 + (d + (1 + d.fmod 23 * 2) * k).fmod 94)).getD j 0 → False := by
    intro i j hij hj e
    rw [signs_at (by omega), signs_at hj] at e
    have h23 : 0 ≤ d.fmod 23 ∧ d.fmod 23 < 23 := fmod_in (by decide)
    generalize d.fmod 23 = r at *
    have hi94 := fmod_in (a := d + (1 + r * 2) * (i : Int)) (n := 94) (by decide)
    have hj94 := fmod_in (a := d + (1 + r * 2) * (j : Int)) (n := 94) (by decide)
    have e2 := u8_inj (by omega) (by omega) e
    have e3 : (d + (1 + r * 2) * (i : Int)).fmod 94 = (d + (1 + r * 2) * (j : Int)).fmod 94 := by omega
    rw [Int.fmod_eq_emod_of_nonneg _ (by decide), Int.fmod_eq_emod_of_nonneg _ (by decide)] at e3
    have e4 : ((1 + r * 2) * ((j : Int) - i)) % 94 = 0 := by
      have : (1 + r * 2) * ((j : Int) - i) = (d + (1 + r * 2) * j) - (d + (1 + r * 2) * i) := by rw [Int.mul_sub]; omega
      rw [this]; omega
    refine no_meet r.toNat (by omega) (j - i - 1) (by omega) ?_
    have e5 : ((((1 + r.toNat * 2) * (j - i - 1 + 1)) % 94 : Nat) : Int) = ((1 + r * 2) * ((j : Int) - i)) % 94 := by
      rw [Int.natCast_emod, Int.natCast_mul]
      have q1 : ((1 + r.toNat * 2 : Nat) : Int) = 1 + r * 2 := by omega
      have q2 : ((j - i - 1 + 1 : Nat) : Int) = (j : Int) - i := by omega
      rw [q1, q2]; rfl
    omega
  intro i j hi hj e
  rcases Nat.lt_trichotomy i j with h | h | h
  · exact (key i j h hj e).elim
  · exact h
  · exact (key j i h hi e.symm).elim
local macro_rules | `(tactic| walk_at "eval Name") => `(tactic| (k_here; k_dflt (refine' nameX_L ?k1 ?k2 ?_; (case k1 => k_asm); (case k2 => assumption); k_whole)))
local macro_rules | `(tactic| walk_at "binaryOp Mult int int") => `(tactic| (refine mul_int ?_ (IntMulOk.of_right (intBits_le_64 (by omega) (by omega)))))
local macro_rules | `(tactic| walk_at "subscriptTail") => `(tactic| (k_here; (with_reducible show wpAny _ _ (subscriptTail _ (Expr.Slice _ _ none _) (Value.bytes _ _) (Value.ref _)) _ _ _); (with_reducible rename Fr _ _ _ _ => F'); (with_reducible rename News _ _ _ _ => N'); (refine KBc.slice_K (s := ⟨_, _, _, _, _⟩) F' N' rfl (by constructor) (by constructor) (by rw [KBw.ints_length]; omega) ?_); intro _ _ _ F' N' _))
local macro_rules | `(tactic| walk_at "to a") => `(tactic| repeat' (first | ((fail_if_success (with_reducible show wpAny _ _ (exec (Stmt.While _ _ _ _) _) _ _ _)); (fail_if_success (with_reducible show wpAny _ _ (exec (Stmt.For _ _ _ _ _) _) _ _ _)); first | walk1 | (dsimp only; walk1))))
local macro_rules | `(tactic| walk_at "to b") => `(tactic| repeat' (first | ((fail_if_success (with_reducible show wpAny _ _ (exec (Stmt.While _ _ _ _) _) _ _ _)); (fail_if_success (with_reducible show wpAny _ _ (exec (Stmt.For _ _ _ _ _) _) _ _ _)); (fail_if_success (with_reducible show wpAny _ _ (subscriptTail (Expr.Tuple _ _ _) _ (Value.ref _) (Value.int _ _)) _ _ _)); first | walk1 | (dsimp only; walk1))))
local macro_rules | `(tactic| walk_at "to c") => `(tactic| repeat' (first | ((fail_if_success (with_reducible show wpAny _ _ (exec (Stmt.While _ _ _ _) _) _ _ _)); (fail_if_success (with_reducible show wpAny _ _ (exec (Stmt.For _ _ _ _ _) _) _ _ _)); (fail_if_success (with_reducible show wpAny _ _ (eval (Expr.ListComp (Expr.Tuple _ _ _) _ _ _) _) _ _ _)); (fail_if_success (with_reducible show PyProof.Rows.LCg.CompSrc _ _ _ _ _ _ _ (Expr.Tuple _ _ _) _ _ _ _ _ _)); (fail_if_success (with_reducible show PyProof.Rows.LCg.CompEnd _ _ _ _ _ _ _ _ _ _ _ _ _ _)); first | walk1 | (dsimp only; walk1))))
local macro_rules | `(tactic| walk_at "to d") => `(tactic| repeat' (first | ((fail_if_success (with_reducible show wpAny _ _ (exec (Stmt.While _ _ _ _) _) _ _ _)); (fail_if_success (with_reducible show wpAny _ _ (exec (Stmt.For _ _ _ _ _) _) _ _ _)); (fail_if_success (with_reducible show wpAny _ _ (pyIter _) _ _ _)); first | walk1 | (dsimp only; walk1))))
local macro_rules | `(tactic| walk_at "to e") => `(tactic| repeat' (first | ((fail_if_success (with_reducible show wpAny _ _ (exec (Stmt.While _ _ _ _) _) _ _ _)); (fail_if_success (with_reducible show wpAny _ _ (exec (Stmt.For _ _ _ _ _) _) _ _ _)); (fail_if_success (with_reducible show wpAny _ _ (eval (Expr.ListComp _ _ _ _) _) _ _ _)); (fail_if_success (with_reducible show PyProof.Rows.LCg.CompEnd _ _ _ _ _ _ _ _ _ _ _ _ _ _)); (fail_if_success (with_reducible show PyProof.Rows.LCg.CompSrc _ _ _ _ _ _ _ _ _ _ _ _ _ _)); (fail_if_success (with_reducible show Mine.SrcD _ _ _ _ _ _ _ _ _ _ _ _ _ _)); (fail_if_success (with_reducible show Mine.CellSrc _ _ _ _ _ _ _ _ _ _ _)); (fail_if_success (with_reducible show wpAny _ _ (call (Value.ref _) _) _ _ _)); first | walk1 | (dsimp only; walk1))))

theorem warmW : (Challenge.rw_fe0036_01.row.prog = Challenge.rw_fe0036_01.row.prog) ∧ (hd.heap_39 = hd.heap_39) := by w_top off; k_fill; exact ⟨rfl, rfl⟩

theorem rangeKs_get {a kk : Int} {n i : Nat} (h : (rangeKs a n)[i]? = some kk) : kk = a + (i : Int) ∧ i < n := by
  simp only [rangeKs, List.getElem?_map, Option.map_eq_some_iff] at h
  obtain ⟨j, hj, rfl⟩ := h
  rw [List.getElem?_eq_some_iff] at hj
  obtain ⟨hl, e⟩ := hj
  simp only [List.getElem_range] at e
  simp only [List.length_range] at hl
  subst e
  exact ⟨rfl, hl⟩
theorem ways_turn {n k : Int} {i : Nat} (hn : k ≤ n) : ((C ((n - k).toNat + i) i : Nat) * (n - k + (1 + (i : Int)))).fdiv (1 + (i : Int)) = (C ((n - k).toNat + (i + 1)) (i + 1) : Nat) := by
  have h := C_absorb ((n - k).toNat + i) i
  have e : (C ((n - k).toNat + i) i : Int) * (n - k + (1 + (i : Int))) = (C ((n - k).toNat + (i + 1)) (i + 1) : Nat) * (1 + (i : Int)) := by
    have h' : ((C ((n - k).toNat + i + 1) (i + 1) * (i + 1) : Nat) : Int) = ((C ((n - k).toNat + i) i * ((n - k).toNat + i + 1) : Nat) : Int) := congrArg _ h
    rw [Int.natCast_mul, Int.natCast_mul] at h'
    have e1 : (((n - k).toNat + i + 1 : Nat) : Int) = n - k + (1 + (i : Int)) := by omega
    have e2 : ((i + 1 : Nat) : Int) = 1 + (i : Int) := by omega
    rw [e1, e2] at h'
    exact h'.symm
  rw [e]
  exact Int.mul_fdiv_cancel _ (by omega)
set_option maxHeartbeats 4000000 in
theorem ways_call {w : World} {base h₀ : Heap} {env : Env} {L : Addr} {m mg mb : Str → Option Value} {news : List (Addr × Obj)} {loose : List Str} {mean : ExcName → Option Value} {s : Shared}
    {Q : Value → Shared → Prop} {E : Value → Shared → Prop} {n k : Int} {t1 t2 : Tok}
    (B : Below callerA base [] h₀) (F : Fr h₀ L s.heap m) (X₀ : (hd.heap_39 w.params).In h₀) (N : News h₀ L s.heap news) (T : Top hd.view_39 loose mean mg mb h₀)
    (hf : env.frame = some L) (hke : env.scope.kind = .function)
    (h0 : 0 ≤ k) (hk : k ≤ 40) (hn : k ≤ n) (hn2 : n ≤ 2 ^ 31)
    (h : ∀ h' t tk, Fr h₀ L h' m → News h₀ L h' news → Q (.int (C n.toNat k.toNat : Nat) t) { s with heap := h', toks := tk }) :
    wpAny (model Challenge.rw_fe0036_01.row.prog w) (callerA.deeper env) (call (.ref 30) [.int n t1, .int k t2]) Q E s := by
  refine wpAny_call ?_
  refine' code_def B F X₀ N T (by exact rfl) hf hke ?k6 ?k7 (by k_room) ?k9 ?kB ?_ ?c2 ?c3 ?c4 ?c5
  case k6 => k_is
  case k7 => k_is
  case k9 => exact BindsTo.of_eq rfl
  case kB => exact locs rfl
  case c2 => exact rfl
  case c3 => exact rfl
  case c4 => exact rfl
  case c5 => decide
  intro g' L' h' FG' F' N' B' X' T'
  dsimp only
  obtain ⟨m1, F1, hw1, hp1⟩ : ∃ m1, Fr g' L' h' m1 ∧ m1 (Str.ofString "whole") = some (.int n t1) ∧ m1 (Str.ofString "part") = some (.int k t2) := ⟨_, F', rfl, rfl⟩
  clear F'
  iterate 5 walk1
  dsimp only
  with_reducible refine wpAny_execs_cons ?_
  refine For_invV g' (by rfl) (by rfl) ?_
  iterate 12 walk1
  rename IsRange _ _ _ _ _ _ _ _ => hr
  rename Fr g' L' _ _ => F2
  rename News g' L' _ _ => N2
  refine kpr_invN (n := k.toNat) (fun i m nx => nx = news ∧ m (Str.ofString "whole") = some (.int n t1) ∧ m (Str.ofString "part") = some (.int k t2) ∧ ∃ t, m (Str.ofString "ways") = some (.int (C ((n - k).toNat + i) i : Nat) t)) rfl hr ?_ ?_ F2 N2 ?_ ?_ ?_
  · exact small_one (by omega) (by omega) (by omega) (by omega)
  · rw [rangeSize_nat]; omega
  · exact ⟨rfl, hw1, hp1, _, by rw [C_zero]; rfl⟩
  · rintro i kk t m3 nx h3 tk3 own hi ho ⟨rfl, hw3, hp3, tw, hy3⟩ F3 N3
    obtain ⟨rfl, hik⟩ := rangeKs_get hi
    iterate 17 walk1
    rename Fr g' L' _ _ => F4
    rename News g' L' _ _ => N4
    refine InvEndN.intro (nx := nx) F4 N4 ⟨rfl, hw3, hp3, ⟨_, congrArg some (congrArg (Value.int · _) (ways_turn hn))⟩⟩ rfl (fun p hp => List.mem_append_left _ hp) (fun p hp => List.mem_append_right _ hp)
  · rintro m3 nx h3 tk3 ⟨rfl, hw3, hp3, tw, hy3⟩ F3 N3
    dsimp only
    rw [rangeKs_length] at hy3
    iterate 4 walk1
    clear F N
    rename Fr h₀ L _ _ => kF
    rename News h₀ L _ _ => kN
    have e : (n - k).toNat + k.toNat = n.toNat := by omega
    rw [e]
    exact h _ _ _ kF kN

/-- the text of a number by an alphabet -/
def enc (al : Array UInt8) (n : Nat) : Array UInt8 := ((dig al.size n).reverse.map fun d => al.getD d 0).toArray
theorem enc_size {al : Array UInt8} (hp : 2 ≤ al.size) (k n : Nat) (h : n < 2 ^ k) : (enc al n).size ≤ k := by
  have := dig_length hp k n h
  simp only [enc, List.size_toArray, List.length_map, List.length_reverse]
  exact this
theorem picked_one {al : Array UInt8} {k : Nat} (hp : 2 ≤ al.size) : KBy.picked al (some ((k : Int).fmod al.size)) (some ((k : Int).fmod al.size + 1)) = #[al.getD (k % al.size) 0] := by
  have hlt : k % al.size < al.size := Nat.mod_lt _ (by omega)
  rw [KBc.picked_eq, ← Int.ofNat_fmod]
  have e : ((k % al.size : Nat) : Int) + 1 = ((k % al.size + 1 : Nat) : Int) := rfl
  rw [e]
  simp only [Option.elim, clipAt_nat]
  rw [Nat.min_eq_left (Nat.le_of_lt hlt), Nat.min_eq_left hlt, Nat.succ_eq_add_one, Nat.add_sub_cancel_left]
  have hlt' : k % al.size < al.toList.length := by simpa using hlt
  rw [List.drop_eq_getElem_cons hlt', List.take_succ_cons, List.take_zero]
  simp [Array.getD, hlt]
theorem enc_turn {al : Array UInt8} {n k : Nat} {S : Array UInt8} (hp : 2 ≤ al.size) (hk : k ≠ 0) (h : enc al n = enc al k ++ S) :
    enc al n = enc al (k / al.size) ++ (KBy.picked al (some ((k : Int).fmod al.size)) (some ((k : Int).fmod al.size + 1)) ++ S) := by
  rw [h, picked_one hp, ← Array.append_assoc]
  congr 1
  unfold enc
  rw [dig_pos hp hk]
  simp
set_option maxHeartbeats 4000000 in
theorem enc_call {w : World} {base h₀ : Heap} {env : Env} {L : Addr} {m mg mb : Str → Option Value} {news : List (Addr × Obj)} {loose : List Str} {mean : ExcName → Option Value} {s : Shared}
    {Q : Value → Shared → Prop} {E : Value → Shared → Prop} {n : Nat} {al : Array UInt8} {t1 t3 : Tok}
    (B : Below callerA base [] h₀) (F : Fr h₀ L s.heap m) (X₀ : (hd.heap_39 w.params).In h₀) (N : News h₀ L s.heap news) (T : Top hd.view_39 loose mean mg mb h₀)
    (hf : env.frame = some L) (hke : env.scope.kind = .function)
    (hp : 2 ≤ al.size) (hp2 : al.size ≤ 13) (hn2 : n < 2 ^ 31)
    (h : ∀ h' t tk, Fr h₀ L h' m → News h₀ L h' news → Q (.bytes (enc al n) t) { s with heap := h', toks := tk }) :
    wpAny (model Challenge.rw_fe0036_01.row.prog w) (callerA.deeper env) (call (.ref 22) [.int n t1, .bool false, .bytes al t3]) Q E s := by
  refine wpAny_call ?_
  refine' code_def B F X₀ N T (by exact rfl) hf hke ?k6 ?k7 (by k_room) ?k9 ?kB ?_ ?c2 ?c3 ?c4 ?c5
  case k6 => k_is
  case k7 => k_is
  case k9 => first | exact BindsTo.of_eq rfl | exact binds_K (by k_in) rfl (by k_is) rfl rfl rfl
  case kB => exact locs rfl
  case c2 => exact rfl
  case c3 => exact rfl
  case c4 => exact rfl
  case c5 => decide
  intro g' L' h' FG' F' N' B' X' T'
  dsimp only
  obtain ⟨m1, F1, hi1, hd1, ha1⟩ : ∃ m1, Fr g' L' h' m1 ∧ m1 (Str.ofString "i") = some (.int n t1) ∧ m1 (Str.ofString "default_one") = some (.bool false) ∧ m1 (Str.ofString "alphabet") = some (.bytes al t3) := ⟨_, F', rfl, rfl, rfl⟩
  clear F'
  walk_at "to a"
  all_goals (
    (try dsimp only)
    (rename Fr g' L' _ _ => F2)
    (rename News g' L' _ _ => N2)
    refine While_inv2 (fun k m nx => nx = news ∧ k ≤ n ∧ m (Str.ofString "alphabet") = some (.bytes al t3) ∧ (∃ t, m (Str.ofString "base") = some (.int al.size t)) ∧ (∃ t, m (Str.ofString "i") = some (.int k t)) ∧ ∃ S t, m (Str.ofString "string") = some (.bytes S t) ∧ enc al n = enc al k ++ S) F2 N2 ⟨rfl, Nat.le_refl _, ha1, ⟨_, rfl⟩, ⟨_, hi1⟩, _, _, rfl, (Array.append_empty).symm⟩ ?_)
  all_goals (
    rintro k m3 nx h3 tk3 F3 N3 ⟨rfl, hkn, ha3, ⟨tb, hb3⟩, ⟨ti, hi3⟩, S, tS, hS3, hE3⟩)
  all_goals (
    have hSz : S.size ≤ 31 := by
      have e := congrArg Array.size hE3
      rw [Array.size_append] at e
      have h2 := enc_size hp 31 n hn2
      omega
    have hz : ∀ lo hi, (KBy.picked al lo hi).size + S.size ≤ 16777216 := fun lo hi => by
      have := KBc.size_picked_le al lo hi
      omega
    clear N F
    walk_at "to a"
    · try (refine KBy.add_bytes (hz _ _) ?_; intro _ _; walk_at "to a")
      rename Fr g' L' _ _ => F4
      rename News g' L' _ _ => N4
      rename ((k : Int) ≠ 0) => hk0
      have hk0' : k ≠ 0 := by omega
      have hlt : k / al.size < k := Nat.div_lt_self (by omega) (by omega)
      exact ⟨_, _, _, _, k / al.size, rfl, F4, fun p hp => N4 p (List.mem_cons_of_mem _ hp), hlt, rfl, by omega, ha3, ⟨_, hb3⟩, ⟨_, congrArg (fun z => some (Value.int z _)) (Int.ofNat_fdiv k al.size).symm⟩, _, _, rfl, enc_turn hp hk0' hE3⟩
    · rename Fr h₀ L _ _ => kF
      rename News h₀ L _ _ => kN
      rename ((k : Int) = 0) => hk0
      have hk0' : k = 0 := by omega
      subst hk0'
      have e : enc al n = S := by rw [hE3]; exact Array.empty_append
      rw [← e]
      exact h _ _ _ kF kN)

theorem miss_keys : typeLookup (.type "list") "keys" = pure none := by rw [typeLookup_type, builtinLookup_eq_fast]; kernel_rfl
theorem getAttr?_miss_list {prog : Program} {w : World} {A : Around} {E : Value → Shared → Prop} {s : Shared} {a : Addr} {xs : Array Value} {k : Nat} {sl : Array (Option Value)} {Q : Option Value → Shared → Prop}
    (hx : s.heap.get? a = some { cls := .type "list", dict := none, data := .seq xs k, slots := sl }) (hA : A.handled = none)
    (h : ∀ h' tk, (∀ b ob, s.heap.get? b = some ob → h'.get? b = some ob) → Q none { s with heap := h', toks := tk }) :
    wpAny (model prog w) A (getAttr? (.ref a) "keys") Q E s := by
  obtain ⟨hp, g, d, tk, os⟩ := s
  have hT : ∀ tk', (⟨hp, g, d, tk', os⟩ : Shared).TypeIs (.ref a) "list" := fun _ => ⟨_, hx, rfl⟩
  have f1 := sub_AttributeError
  have f3 := F.slot_list_getattribute.lookup
  have f4 := F.slot_list_getattribute.bind (.ref a)
  have f5 := am_list_getattr_none
  unfold getAttr? getAttrBy? getAttrBy
  repeat (any_goals (first | assumption | exact hT _ | ((with_reducible show wpAny _ _ (call (Value.builtin "list.__getattribute__") _ _) _ _ _); refine call_meets F.slot_list_getattribute (hT _) am_entry_list_getattribute (F.args_list_getattribute_2 _ _) (meets_getattribute_miss_list a xs k sl _ _ miss_keys (by decide) (by decide +kernel)) ⟨hx, hA, fun h' tk' e hx' => ?_⟩) | wp_step))
  obtain ⟨t', u', he⟩ := hx'.there
  show wpAny _ _ (getattributeRaised _ _ _ _ _ _ _) _ _ _
  unfold getattributeRaised
  repeat (any_goals (first | assumption | wp_step))
  exact h _ _ hx'.keeps

theorem entry_dict_update_loop : entryFor table "dict.update.loop" = some Builtin.«dict.update.loop» := entryFor_of_tree (by kernel_rfl)
theorem plain_dict_update_loop : plainId "dict.update.loop" = true := by decide +kernel
/-- the first of the pairs, as a dict bears them -/
def kvsTo (ks : Nat → Int) (vs : Nat → Value) (i : Nat) : List (Int × Value) := (List.range i).map fun j => (ks j, vs j)
theorem kvsTo_succ {ks : Nat → Int} {vs : Nat → Value} {i : Nat} (hn : ∀ j, j < i → ks j ≠ ks i) : stored (kvsTo ks vs i) (ks i) (vs i) = kvsTo ks vs (i + 1) := by
  have h : ¬ ((kvsTo ks vs i).any fun x => decide (x.1 = ks i)) = true := by
    rw [List.any_eq_true]
    rintro ⟨x, hx, he⟩
    obtain ⟨j, hj, rfl⟩ := List.mem_map.mp hx
    exact hn j (List.mem_range.mp hj) (of_decide_eq_true he)
  rw [stored, if_neg h]
  simp [kvsTo, List.range_succ]
abbrev tupObj (l : List Value) : Obj := { cls := .type "tuple", data := .seq l.toArray }
def PairsAt (h : Heap) (items : Array Value) (ks : Nat → Int) (vs : Nat → Value) (off : List Addr) : Prop :=
  ∀ i, i < items.size → ∃ a t, items[i]? = some (.ref a) ∧ h.get? a = some (tupObj [.int (ks i) t, vs i]) ∧ a ∉ off
theorem PairsAt.keeps {h h' : Heap} {items : Array Value} {ks : Nat → Int} {vs : Nat → Value} {off : List Addr} (x : PairsAt h items ks vs off) (k : ∀ b o, b ∉ off → h.get? b = some o → h'.get? b = some o) : PairsAt h' items ks vs off :=
  fun i hi => let ⟨a, t, e, g, o⟩ := x i hi; ⟨a, t, e, k _ _ o g, o⟩
section
variable {prog : Program} {w : World} {A : Around}
theorem dict_loop {R : Result → Shared → Prop} {I D d : Addr} {items : Array Value} {ks : Nat → Int} {vs : Nat → Value} (hh : A.handled = none) (hDI : D ≠ I) (hdI : d ≠ I) (hdD : d ≠ D)
    (hn : ∀ i j, i < items.size → j < i → ks j ≠ ks i) (hsz : items.size ≤ sizeLine) :
    ∀ (k i : Nat) (s : Shared), items.size - i = k → i ≤ items.size → s.heap.IsListIter I D i → s.heap.IsList D items → PairsAt s.heap items ks vs [I, d] → s.heap.DictOf (PySem.intKind prog w) d (kvsTo ks vs i) →
      (∀ h' tk, h'.DictOf (PySem.intKind prog w) d (kvsTo ks vs items.size) → (∀ b o, b ∉ [I, d] → s.heap.get? b = some o → h'.get? b = some o) → R (.ok (.ret .none)) { s with heap := h', toks := tk }) →
      codeAny (model prog w) A (.builtin "dict.update.loop" ⟨[.ref d, .ref I, rawInt i, .none], []⟩) R s := by
  have W := Walks.list (prog := prog) (w := w) (A := A.in1) hh I D hDI items
  intro k
  induction k with
  | zero =>
    intro i s hk hi hit hl hp hd hR
    have hin : i = items.size := by omega
    subst hin
    refine codeAny_builtin entry_dict_update_loop ?_
    rw [Around.under_plainId plain_dict_update_loop _]
    show wpAny _ A.in1 (pyNext (.ref I) >>= _) _ _ s
    refine wpAny_bind (W.done s _ _ ⟨hit, hl⟩ fun h' tk' hm => ?_)
    show wpAny _ A.in1 (Builtin.Dict.addKeywords d [] >>= _) _ _ _
    refine wpAny_bind (wpAny_pure ?_)
    show wpAny _ A.in1 (ret Value.none) _ _ _
    refine wpAny_pure (hR h' tk' ?_ fun b o hb e => hm b o (fun q => hb (by rw [List.mem_singleton.mp q]; exact List.mem_cons_self)) e)
    obtain ⟨o, es, ep, ho, r⟩ := hd
    exact ⟨o, es, ep, hm d o (by simpa using hdI) ho, r⟩
  | succ k ih =>
    intro i s hk hi hit hl hp hd hR
    have hlt : i < items.size := by omega
    refine codeAny_builtin entry_dict_update_loop ?_
    rw [Around.under_plainId plain_dict_update_loop _]
    show wpAny _ A.in1 (pyNext (.ref I) >>= _) _ _ s
    refine wpAny_bind (W.item i s _ _ hlt ⟨hit, hl⟩ fun v h1 tk1 hP hst1 hm => ?_)
    obtain ⟨a, t, ea, ga, oa⟩ := hp i hlt
    have hv : v = .ref a := by rw [ea] at hP; exact (Option.some.inj hP).symm
    subst hv
    have ga1 : h1.get? a = some (tupObj [.int (ks i) t, vs i]) := hm a _ (fun q => oa (by rw [List.mem_singleton.mp q]; exact List.mem_cons_self)) ga
    have hT : Shared.TypeIs { s with heap := h1, toks := tk1 } (.ref a) "tuple" := ⟨_, ga1, rfl⟩
    have hd1 : h1.DictOf (PySem.intKind prog w) d (kvsTo ks vs i) := by
      obtain ⟨o, es, ep, ho, r⟩ := hd
      exact ⟨o, es, ep, hm d o (by simpa using hdI) ho, r⟩
    dsimp only
    refine wpAny_bind (wpAny_holding ?_)
    refine wpAny_bind (wpAny_tryCatch ?_)
    unfold Builtin.Dict.pairItems
    refine wpAny_bind (wpAny_typeOf hT ?_)
    refine wpAny_ite ?_
    rw [if_pos (by decide)]
    refine wpAny_bind (wpAny_seqItems ga1 rfl (wpAny_pure ?_))
    show wpAny _ A.in1 (holding [Value.int (ks i) t, vs i] (dictSet d (.int (ks i) t) (vs i))) _ _ _
    refine wpAny_holding ?_
    refine wpAny_dictSet_pairs (knd := PySem.intKind prog w) (k := ks i) (intKind_is _ _ _ _) hd1 (fun h2 hd2 hs2 => ?_) (by simp [kvsTo]; omega)
    rw [kvsTo_succ (fun j hj => hn i j hlt hj)] at hd2
    have keep2 : ∀ b o, b ∉ [I, d] → s.heap.get? b = some o → h2.get? b = some o := fun b o hb e => by
      have hbI : b ∉ [I] := fun q => hb (by rw [List.mem_singleton.mp q]; exact List.mem_cons_self)
      have hbd : b ≠ d := fun q => hb (by rw [q]; exact List.mem_cons_of_mem _ List.mem_cons_self)
      exact (hs2.2 b hbd).trans (hm b o hbI e)
    refine wpAny_pure ⟨plainId_quiet plain_dict_update_loop _, ih (i + 1) _ (by omega) hlt ?_ ?_ (hp.keeps keep2) hd2 ?_⟩
    · exact hst1.1.at fun o e => (hs2.2 I (Ne.symm hdI)).trans e
    · exact hst1.2.at fun o e => (hs2.2 D (Ne.symm hdD)).trans e
    · intro h' tk' hd' hk'
      exact hR h' tk' hd' fun b o hb e => hk' b o hb (keep2 b o hb e)
theorem dict_of_pairs {E : Value → Shared → Prop} {s : Shared} {Q : Value → Shared → Prop} {D : Addr} {items : Array Value} {kk : Nat} {ks : Nat → Int} {vs : Nat → Value} (hh : A.handled = none)
    (hl : s.heap.get? D = some { cls := .type "list", data := .seq items kk }) (hp : PairsAt s.heap items ks vs []) (hn : ∀ i j, i < items.size → j < i → ks j ≠ ks i) (hsz : items.size ≤ sizeLine)
    (h : ∀ h' tk, h'.DictOf (PySem.intKind prog w) s.heap.objs.size (kvsTo ks vs items.size) → (∀ b o, s.heap.get? b = some o → h'.get? b = some o) → Q (.ref s.heap.objs.size) { s with heap := h', toks := tk }) :
    wpAny (model prog w) A (call (.type "dict") [.ref D]) Q E s := by
  refine callType_codes (Q₁ := fun obj s₁ => obj = .ref s.heap.objs.size ∧ s₁ = { s with heap := s.heap.push { cls := .type "dict", data := .dict #[] } }) F.kt_called_dict (F.kt_typeCall_dict_1 _) F.entry_dict_init (kt_code_dict_new _ ⟨rfl, rfl⟩) ?_
  rintro obj s₁ ⟨rfl, rfl⟩
  have hnew : (s.heap.push { cls := .type "dict", data := .dict #[] }).DictOf (PySem.intKind prog w) s.heap.objs.size [] := Heap.DictOf.new s.heap
  have hl1 : (s.heap.push { cls := .type "dict", data := .dict #[] }).get? D = some { cls := .type "list", data := .seq items kk } := Heap.get?_push_of_some _ hl
  refine ⟨hnew.typeIs, F.args_dict_init_2 _ _, ?_⟩
  unfold Builtin.«dict.__init__»
  refine wpAny_bind ?_
  unfold Builtin.Dict.selfAndRest
  refine wpAny_bind (wpAny_notOrdered_dict hnew.typeIs ?_)
  show wpAny _ _ (pure (s.heap.objs.size, [Value.ref D])) _ _ _
  refine wpAny_pure ?_
  show wpAny _ _ (Builtin.Dict.updateFrom "dict.__init__" s.heap.objs.size (.ref D) [] .none) _ _ _
  unfold Builtin.Dict.updateFrom
  refine wpAny_bind (wpAny_typeOf (T := "list") ⟨_, hl1, rfl⟩ ?_)
  rw [if_pos (by decide)]
  refine wpAny_bind (getAttr?_miss_list hl1 hh fun h2 tk2 hk2 => ?_)
  rw [if_pos (by rfl)]
  refine wpAny_bind (wpAny_rule ?_)
  have hl2 : h2.get? D = some { cls := .type "list", data := .seq items kk } := hk2 _ _ hl1
  have hd2 : h2.DictOf (PySem.intKind prog w) s.heap.objs.size [] := by
    obtain ⟨o, es, ep, ho, r⟩ := hnew
    exact ⟨o, es, ep, hk2 _ _ ho, r⟩
  have hlt : s.heap.objs.size < h2.objs.size := by
    obtain ⟨o, es, ep, ho, r⟩ := hd2
    exact Heap.lt_size ho
  have hDlt : D < s.heap.objs.size := Heap.lt_size hl
  have keep0 : ∀ b o, s.heap.get? b = some o → (h2.push { cls := .type "list_iterator", data := .fields #[.ref D, .int 0 0] }).get? b = some o := fun b o e => Heap.get?_push_of_some _ (hk2 _ _ (Heap.get?_push_of_some _ e))
  refine wpAny_bind (wpAny_pyIter_list (items := items) ⟨_, hl2, rfl, _, rfl⟩ ?_)
  refine wpAny_pure ⟨plainId_quiet plain_dict_update_loop _, ?_⟩
  refine dict_loop (D := D) (items := items) (ks := ks) (vs := vs) (A := A.in1) hh (Nat.ne_of_lt (Nat.lt_trans hDlt hlt)) (Nat.ne_of_lt hlt) (Nat.ne_of_gt hDlt) hn hsz _ 0 _ rfl (Nat.zero_le _) ?_ ?_ ?_ ?_ ?_
  · exact ⟨_, Heap.get?_push_size _ rfl, rfl, rfl⟩
  · exact ⟨_, Heap.get?_push_of_some _ hl2, rfl, _, rfl⟩
  · intro i hi
    obtain ⟨a, t, e, g, _⟩ := hp i hi
    have ha : a < s.heap.objs.size := Heap.lt_size g
    refine ⟨a, t, e, keep0 _ _ g, fun q => ?_⟩
    rcases List.mem_cons.mp q with q | q
    · exact Nat.ne_of_lt (Nat.lt_trans ha hlt) q
    · exact Nat.ne_of_lt ha (List.mem_singleton.mp q)
  · obtain ⟨o, es, ep, ho, r⟩ := hd2
    exact ⟨o, es, ep, Heap.get?_push_of_some _ ho, r⟩
  · intro h' tk' hd' hk'
    refine ⟨rfl, h h' tk' hd' fun b o e => hk' b o (fun q => ?_) (keep0 b o e)⟩
    have hb : b < s.heap.objs.size := Heap.lt_size e
    rcases List.mem_cons.mp q with q | q
    · exact Nat.ne_of_lt (Nat.lt_trans hb hlt) q
    · exact Nat.ne_of_lt hb (List.mem_singleton.mp q)
end

theorem valueAt_kvs {ks : Nat → Int} {vs : Nat → Value} {p d : Nat} (hd : d < p) (hi : ∀ j, j < p → ks j = ks d → j = d) : valueAt (kvsTo ks vs p) (ks d) = some (vs d) := by
  unfold valueAt kvsTo
  rw [List.find?_map]
  have e : (List.range p).find? ((fun kv : Int × Value => decide (kv.1 = ks d)) ∘ fun j => (ks j, vs j)) = some d := by
    rw [List.find?_range_eq_some]
    refine ⟨by simp, List.mem_range.mpr hd, fun j hj => ?_⟩
    simp only [Function.comp_apply, Bool.not_eq_true', decide_eq_false_iff_not]
    intro q
    have := hi j (by omega) q
    omega
  rw [e]
  rfl
theorem worth_at {al : Array UInt8} {p d : Nat} {f : Nat → Tok} (hal : Alph al p) (hd : d < p) :
    valueAt (kvsTo (fun i => (((al.getD i 0).toNat : Nat) : Int)) (fun i => .int (i : Nat) (f i)) p) (((al.getD d 0).toNat : Nat) : Int) = some (.int (d : Nat) (f d)) :=
  valueAt_kvs (ks := fun i => (((al.getD i 0).toNat : Nat) : Int)) (vs := fun i => .int (i : Nat) (f i)) hd fun j hj e => by
    have e' : (al.getD j 0).toNat = (al.getD d 0).toNat := by exact_mod_cast e
    exact hal.2 j d hj hd (UInt8.toNat_inj.mp e')
theorem enc_at {al : Array UInt8} {n i : Nat} (hi : i < (enc al n).size) : (enc al n).getD ((enc al n).size - 1 - i) 0 = al.getD ((dig al.size n).getD i 0) 0 := by
  have hs : (enc al n).size = (dig al.size n).length := by simp [enc]
  rw [hs] at hi ⊢
  unfold enc
  rw [Array.getD_eq_getD_getElem?, List.getElem?_toArray, List.getElem?_map, List.getElem?_reverse (by omega)]
  have e : (dig al.size n).length - 1 - ((dig al.size n).length - 1 - i) = i := by omega
  rw [e, List.getD_eq_getElem?_getD, List.getElem?_eq_getElem hi]
  rfl

section
set_option maxHeartbeats 4000000 in
theorem seg0 {w : World} {base : Heap} {L fa ls : Nat} {cd : Value} {m mg mb : Str → Option Value} {loose : List Str} {mean : ExcName → Option Value} {s : Shared}
    {Q : Flow → Shared → Prop} {E : Value → Shared → Prop} {o1 o2 o3 o4 o5 o6 : Obj} {c2 c3 c4 c5 c6 : Option Value} {vs : List Value} {ns : List Int}
    (cx : Cx w base mg mb loose mean)
    (F : Fr base L s.heap m) (N : News base L s.heap [(L+1+1+1+1+1+1, o6), (L+1+1+1+1+1, o5), (L+1+1+1+1, o4), (L+1+1+1, o3), (L+1+1, o2), (L+1, o1)])
    (h1 : o1.data = .cell (some (.ref ls))) (h2 : o2.data = .cell c2) (h3 : o3.data = .cell c3) (h4 : o4.data = .cell c4) (h5 : o5.data = .cell c5) (h6 : o6.data = .cell c6)
    (hl : base.IsList ls vs.toArray) (hi : IntsAre vs ns) (hlen : ns.length ≤ 63) 
    (h : ∀ h' tk (aD : Nat) ys oD d0 d1 d2 d3 d4 d5, Fr base L h' m → News base L h' [(aD, LCg.lst ys), (L+1+1+1+1+1+1, o6), (L+1+1+1+1+1, o5), (L+1+1+1+1, o4), (L+1+1+1, oD), (L+1+1, o2), (L+1, o1)] →
      oD.data = .cell (some (.ref aD)) → IntsAre ys [d0, d1, d2, d3, d4, d5] → (∀ d ∈ [d0, d1, d2, d3, d4, d5], 0 ≤ d ∧ d < 10007) →
      (L+1+1+1+1+1+1 ≠ aD ∧ L+1+1+1+1+1 ≠ aD ∧ L+1+1+1+1 ≠ aD ∧ L+1+1+1 ≠ aD ∧ L+1+1 ≠ aD ∧ L+1 ≠ aD) → Q .next { s with heap := h', toks := tk }) :
    wpAny (model Challenge.rw_fe0036_01.row.prog w) (LA L fa cd) (exec (lawStmt 0) (LE L fa cd)) Q E s := by
  obtain ⟨B, X₀, T⟩ := cx
  refine exec_as (st' := .Assign _ _ _) rfl ?_
  walk_at "to a"
  rename Fr base L _ _ => F1
  rename News base L _ _ => N1
  rename IntsAre _ (List.map _ _) => I1
  rename (_ ≠ _ ∧ _) => ne1
  rename (_ = Data.cell (some (Value.ref _))) => d1
  obtain ⟨e0, e1, e2, e3, e4, e5, I2, b2⟩ := six_ints I1 (by rw [List.length_map, rangeKs_length]; rfl) (by
    intro d hd
    obtain ⟨k, _, rfl⟩ := List.mem_map.mp hd
    split <;> exact fmod_in (by decide))
  exact h _ _ _ _ _ _ _ _ _ _ _ F1 N1 d1 I2 b2 ne1
end

section
theorem prime_of {d : Int} (h : 0 ≤ d ∧ d < 6) : ∃ p : Nat, ([2, 3, 5, 7, 11, 13] : List Int).getD d.toNat 0 = (p : Int) ∧ p ∈ [2, 3, 5, 7, 11, 13] := by
  have h2 : d = 0 ∨ d = 1 ∨ d = 2 ∨ d = 3 ∨ d = 4 ∨ d = 5 := by omega
  rcases h2 with rfl | rfl | rfl | rfl | rfl | rfl
  · exact ⟨2, rfl, by decide⟩
  · exact ⟨3, rfl, by decide⟩
  · exact ⟨5, rfl, by decide⟩
  · exact ⟨7, rfl, by decide⟩
  · exact ⟨11, rfl, by decide⟩
  · exact ⟨13, rfl, by decide⟩
set_option maxHeartbeats 4000000 in
theorem seg1 {w : World} {base : Heap} {L fa aD : Nat} {cd : Value} {m mg mb : Str → Option Value} {loose : List Str} {mean : ExcName → Option Value} {s : Shared}
    {Q : Flow → Shared → Prop} {E : Value → Shared → Prop} {oD : Obj} {ys : List Value} {d0 d1 d2 d3 d4 d5 : Int} {rest : List (Addr × Obj)}
    (cx : Cx w base mg mb loose mean)
    (F : Fr base L s.heap m) (N : News base L s.heap ((aD, LCg.lst ys) :: (L+1+1+1, oD) :: rest))
    (hD : oD.data = .cell (some (.ref aD))) (hI : IntsAre ys [d0, d1, d2, d3, d4, d5]) (hb : 0 ≤ d0)
    (h : ∀ h' tk m' (p : Nat) t, Fr base L h' m' → News base L h' ((aD, LCg.lst ys) :: (L+1+1+1, oD) :: rest) → m' (Str.ofString "prime") = some (.int p t) → p ∈ [2, 3, 5, 7, 11, 13] →
      (∀ x, x ≠ Str.ofString "prime" → m' x = m x) → Q .next { s with heap := h', toks := tk }) :
    wpAny (model Challenge.rw_fe0036_01.row.prog w) (LA L fa cd) (exec (lawStmt 1) (LE L fa cd)) Q E s := by
  obtain ⟨B, X₀, T⟩ := cx
  refine exec_as (st' := .Assign _ _ _) rfl ?_
  walk_at "to b"
  dsimp only
  have h6 : 0 ≤ d0.fmod 6 ∧ d0.fmod 6 < 6 := fmod_in (by decide)
  obtain ⟨p, hp, hm⟩ := prime_of h6
  rename News base L _ _ => N1
  obtain ⟨t, ht⟩ := (by repeat constructor : IntsAre [Value.int 2 _, Value.int 3 _, Value.int 5 _, Value.int 7 _, Value.int 11 _, Value.int 13 _] [2, 3, 5, 7, 11, 13]).get (d0.fmod 6).toNat _ (ints_getD (k := d0.fmod 6) (by exact h6.1) (by exact h6.2))
  rw [hp] at ht
  refine item_tupleT (j := (d0.fmod 6).toNat) (News.isTup N1 (by k_mem)) (Int.le_trans (by decide) h6.1) (Int.lt_trans h6.2 (by decide)) (by exact seqIndex_of (n := 6) h6.1 h6.2) (by exact ht) ?_
  walk_at "to b"
  rename Fr base L _ _ => F2
  rename News base L _ _ => N2
  refine h _ _ _ p t F2 (fun q hq => N2 q (List.mem_cons_of_mem _ hq)) rfl hm (fun x hx => if_neg hx)
end

section
set_option maxHeartbeats 4000000 in
theorem seg2 {w : World} {base : Heap} {L fa aD : Nat} {cd : Value} {m mg mb : Str → Option Value} {loose : List Str} {mean : ExcName → Option Value} {s : Shared}
    {Q : Flow → Shared → Prop} {E : Value → Shared → Prop} {oD o6 o5 o4 o2 : Obj} {ys : List Value} {d0 d1 d2 d3 d4 d5 : Int} {p : Nat} {tp : Tok} {c4 : Option Value}
    (cx : Cx w base mg mb loose mean)
    (F : Fr base L s.heap m) (N : News base L s.heap [(aD, LCg.lst ys), (L+1+1+1+1+1+1, o6), (L+1+1+1+1+1, o5), (L+1+1+1+1, o4), (L+1+1+1, oD), (L+1+1, o2)])
    (hD : oD.data = .cell (some (.ref aD))) (h4 : o4.data = .cell c4) (hI : IntsAre ys [d0, d1, d2, d3, d4, d5]) (hb : 0 ≤ d1 ∧ d1 < 10007)
    (ne : L+1+1+1+1+1+1 ≠ aD ∧ L+1+1+1+1+1 ≠ aD ∧ L+1+1+1+1 ≠ aD ∧ L+1+1+1 ≠ aD ∧ L+1+1 ≠ aD ∧ L+1 ≠ aD)
    (hp : m (Str.ofString "prime") = some (.int p tp)) (hp1 : 2 ≤ (p : Int)) (hp2 : (p : Int) ≤ 13)
    (h : ∀ h' tk al oS t, Fr base L h' m → News base L h' [(aD, LCg.lst ys), (L+1+1+1+1+1+1, o6), (L+1+1+1+1+1, o5), (L+1+1+1+1, oS), (L+1+1+1, oD), (L+1+1, o2)] →
      oS.data = .cell (some (.bytes al t)) → Alph al p → Q .next { s with heap := h', toks := tk }) :
    wpAny (model Challenge.rw_fe0036_01.row.prog w) (LA L fa cd) (exec (lawStmt 2) (LE L fa cd)) Q E s := by
  obtain ⟨B, X₀, T⟩ := cx
  refine exec_as (st' := .Assign _ _ _) rfl ?_
  have hm23 : 0 ≤ d1.fmod 23 ∧ d1.fmod 23 < 23 := fmod_in (by decide)
  walk_at "to a"
  rename Fr base L _ _ => F1
  rename News base L _ _ => N1
  rename Obj.data _ = Data.cell (some (Value.bytes _ _)) => e1
  refine h _ _ _ _ _ F1 (fun q hq => N1 q (by revert q; kcf_all)) e1 ?_
  have e : ((p : Int) - 0).toNat = p := by omega
  rw [e]
  exact alph_of hp2
end

section
def PairsL (al : Array UInt8) (ys : List Value) (extra : List (Addr × Obj)) : Prop :=
  ∀ i, i < ys.length → ∃ a t1 t2, ys[i]? = some (.ref a) ∧ (a, tupObj [.int ((al.getD i 0).toNat : Nat) t1, .int (i : Nat) t2]) ∈ extra

theorem pairsL_snoc {al : Array UInt8} {ys : List Value} {extra : List (Addr × Obj)} {i : Nat} {a : Addr} {t1 t2 : Tok} {v1 v2 : Int} (hl : ys.length = i) (h : PairsL al ys extra) (e1 : v1 = ((al.getD i 0).toNat : Nat)) (e2 : v2 = (i : Nat)) :
    PairsL al (ys ++ [.ref a]) (extra ++ [(a, tupObj [.int v1 t1, .int v2 t2])]) := by
  intro j hj
  rw [List.length_append, List.length_singleton] at hj
  by_cases hji : j < ys.length
  · obtain ⟨b, u1, u2, e, hm⟩ := h j hji
    exact ⟨b, u1, u2, by rw [List.getElem?_append_left hji]; exact e, List.mem_append_left _ hm⟩
  · have hji' : j = ys.length := by omega
    subst hji'
    rw [hl]
    refine ⟨a, t1, t2, by rw [← hl]; simp, ?_⟩
    rw [e1, e2]
    exact List.mem_append_right _ (List.mem_singleton.mpr rfl)
theorem pairsL_pick {al : Array UInt8} {ys : List Value} {extra : List (Addr × Obj)} (h : PairsL al ys extra) :
    ∃ f : Nat → Tok, ∀ i, i < ys.length → ∃ a t1, ys[i]? = some (.ref a) ∧ (a, tupObj [.int ((al.getD i 0).toNat : Nat) t1, .int (i : Nat) (f i)]) ∈ extra := by
  have h' : ∀ i, ∃ t2 : Tok, i < ys.length → ∃ a t1, ys[i]? = some (.ref a) ∧ (a, tupObj [.int ((al.getD i 0).toNat : Nat) t1, .int (i : Nat) t2]) ∈ extra := by
    intro i
    by_cases hi : i < ys.length
    · obtain ⟨a, t1, t2, e⟩ := h i hi
      exact ⟨t2, fun _ => ⟨a, t1, e⟩⟩
    · exact ⟨0, fun q => absurd q hi⟩
  obtain ⟨f, hf⟩ := Classical.axiomOfChoice h'
  exact ⟨f, hf⟩
theorem pick9 {h₀ h : Heap} {L : Addr} {x1 x2 x3 x4 x5 x6 x7 x8 x9 : Addr × Obj} (N : News h₀ L h [x1, x2, x3, x4, x5, x6, x7, x8, x9]) : News h₀ L h [x2, x3, x5, x6, x7, x9] :=
  fun q hq => N q (by simp only [List.mem_cons, List.not_mem_nil, or_false] at hq ⊢; rcases hq with h | h | h | h | h | h <;> simp [h])
theorem two_pow_ne (k : Nat) : (2 : Int) ^ k ≠ 0 := Int.ne_of_gt (Int.pow_pos (by decide))
theorem third_in {a d : Int} (h : 0 ≤ d ∧ d < 30) : 0 ≤ a.fmod (2 ^ (1 + d).toNat) ∧ a.fmod (2 ^ (1 + d).toNat) < 2 ^ 30 := by
  have h1 : (0 : Int) < 2 ^ (1 + d).toNat := Int.pow_pos (by decide)
  have h2 : (2 : Nat) ^ (1 + d).toNat ≤ 2 ^ 30 := Nat.pow_le_pow_right (by decide) (by omega)
  have h3 : (2 : Int) ^ (1 + d).toNat ≤ 2 ^ 30 := by exact_mod_cast h2
  have := fmod_in (a := a) h1
  exact ⟨this.1, Int.lt_of_lt_of_le this.2 h3⟩
set_option maxHeartbeats 1000000 in
theorem seg3 {w : World} {base : Heap} {L fa aD : Nat} {cd : Value} {m mg mb : Str → Option Value} {loose : List Str} {mean : ExcName → Option Value} {s : Shared}
    {Q : Flow → Shared → Prop} {E : Value → Shared → Prop} {oD o6 o5 oS o2 : Obj} {ys : List Value} {d0 d1 d2 d3 d4 d5 : Int} {p : Nat} {tp ts : Tok} {c5 : Option Value} {al : Array UInt8}
    (cx : Cx w base mg mb loose mean)
    (F : Fr base L s.heap m) (N : News base L s.heap [(aD, LCg.lst ys), (L+1+1+1+1+1+1, o6), (L+1+1+1+1+1, o5), (L+1+1+1+1, oS), (L+1+1+1, oD), (L+1+1, o2)])
    (hD : oD.data = .cell (some (.ref aD))) (h5 : o5.data = .cell c5) (hS : oS.data = .cell (some (.bytes al ts))) (hal : Alph al p) (hI : IntsAre ys [d0, d1, d2, d3, d4, d5]) (hb : ∀ d ∈ [d0, d1, d2, d3, d4, d5], 0 ≤ d ∧ d < 10007)
    (ne : L+1+1+1+1+1+1 ≠ aD ∧ L+1+1+1+1+1 ≠ aD ∧ L+1+1+1+1 ≠ aD ∧ L+1+1+1 ≠ aD ∧ L+1+1 ≠ aD ∧ L+1 ≠ aD)
    (hp : m (Str.ofString "prime") = some (.int p tp)) (hp1 : 2 ≤ (p : Int)) (hp2 : (p : Int) ≤ 13)
    (h : ∀ h' tk m' (aW aN : Nat) oW o5' (f : Nat → Tok) (a b c : Nat) t0 t1 t2, Fr base L h' m' →
      News base L h' [(aN, W.listOf #[.int a t0, .int b t1, .int c t2] 0), (aW, oW), (L+1+1+1+1+1+1, o6), (L+1+1+1+1+1, o5'), (L+1+1+1+1, oS), (L+1+1, o2)] →
      o5'.data = .cell (some (.ref aW)) → oW.IsDictOf (PySem.intKind Challenge.rw_fe0036_01.row.prog w) (kvsTo (fun i => ((al.getD i 0).toNat : Nat)) (fun i => .int (i : Nat) (f i)) p) →
      (∀ x, x ≠ Str.ofString "numbers" → m' x = m x) → m' (Str.ofString "numbers") = some (.ref aN) → a ≤ 40 → b ≤ 40 → c < 2 ^ 30 → L+1+1+1+1+1+1 < aW → aW < aN → Q .next { s with heap := h', toks := tk }) :
    wpAny (model Challenge.rw_fe0036_01.row.prog w) (LA L fa cd) (exec (lawStmt 3) (LE L fa cd)) Q E s := by
  obtain ⟨B, X₀, T⟩ := cx
  refine exec_as (st' := .Assign _ _ _) rfl ?_
  walk_at "to c"
  refine LCg.ListComp_U F (by with_unfolding_all rfl) (by decide) (by rfl) (by decide) (by rfl) ?_
  walk_at "to c"
  rename IsRange _ _ _ _ _ _ _ _ => hr
  rename Fr base L _ _ => F1
  rename News base L _ _ => N1
  refine LCg.CompSrc.range rfl F1 N1 hr (small_one (by omega) (by omega) (by omega) (by omega)) (rangeSize_nat _ _) (by rw [sizeLine_eq]; omega) ?_
  intro g
  refine rest_ind (fun i ys' extra => PairsL al ys' extra) (fun i hi => absurd hi (Nat.not_lt_zero _)) ?_ ?_
  · intro i v ys' extra I oI C oC D m₂ h2 tk2 E' hi hv hpl hyl hC hx F2 N2 off ne2
    obtain ⟨t, rfl⟩ := hv
    simp only [List.cons_append, List.nil_append] at N2
    have hsz : al.size = p := hal.1
    walk_at "to c"
    refine KBw.item_K rfl (by rw [KBw.ints_length]; omega) (by omega) (by rw [KBw.ints_length]; omega) ?_
    intro tA kA _ _
    walk_at "to c"
    rename (_ < _ ∧ _) => l1
    rename Fr base L _ _ => F4
    rename News base L _ _ => N4
    refine compEnd_one (news := [(aD, LCg.lst ys), (L+1+1+1+1+1+1, o6), (L+1+1+1+1+1, o5), (L+1+1+1+1, oS), (L+1+1+1, oD), (L+1+1, o2)]) (PL := fun y ex => PairsL al (ys' ++ [y]) ex) F4 N4 off l1.1 l1.2.1 l1.2.2.1 trivial ?_
    refine pairsL_snoc hyl hpl ?_ (Int.zero_add _)
    rw [Int.zero_add, Int.toNat_natCast]
    exact bInts_at al i
  · intro ys' extra hyl hpl D h3 tk3 F3 N3 off3
    simp only [List.cons_append, List.nil_append] at N3
    walk_at "to c"
    obtain ⟨f, hf⟩ := pairsL_pick hpl
    have hpl' : ys'.length = p := by omega
    have lt3 : ∀ q ∈ (aD, LCg.lst ys) :: (L+1+1+1+1+1+1, o6) :: (L+1+1+1+1+1, o5) :: (L+1+1+1+1, oS) :: (L+1+1+1, oD) :: (L+1+1, o2) :: extra, q.1 < h3.objs.size := fun q hq => Heap.lt_size (N3 q (List.mem_cons_of_mem _ hq)).1
    refine dict_of_pairs (D := D) (items := ys'.toArray) (kk := ys'.length) (ks := fun i => ((al.getD i 0).toNat : Nat)) (vs := fun i => .int (i : Nat) (f i)) rfl (N3 _ List.mem_cons_self).1 ?_ ?_ (by rw [List.size_toArray, hpl', sizeLine_eq]; omega) ?_
    · intro i hi
      obtain ⟨a, t1, e, hm⟩ := hf i (by simpa using hi)
      exact ⟨a, t1, by simpa using e, (N3 _ (.tail _ (.tail _ (.tail _ (.tail _ (.tail _ (.tail _ (.tail _ hm)))))))).1, fun q => nomatch q⟩
    · intro i j hi hj e
      rw [List.size_toArray, hpl'] at hi
      have e' : (al.getD j 0).toNat = (al.getD i 0).toNat := by exact_mod_cast e
      exact absurd (hal.2 j i (by omega) hi (UInt8.toNat_inj.mp e')) (by omega)
    · intro h4 tk4 hd4 hk4
      have hsz2 : ys'.toArray.size = p := by rw [List.size_toArray]; exact hpl'
      rw [hsz2] at hd4
      obtain ⟨oW, hoW, hdW⟩ := Heap.dictOf_iff.mp hd4
      have F4 : Fr base L h4 m := F3.keeps hk4
      have N4 : News base L h4 [(h3.objs.size, oW), (aD, LCg.lst ys), (L+1+1+1+1+1+1, o6), (L+1+1+1+1+1, o5), (L+1+1+1+1, oS), (L+1+1+1, oD), (L+1+1, o2)] := by
        intro q hq
        rcases List.mem_cons.mp hq with rfl | hq
        · exact ⟨hoW, Nat.ne_of_gt F3.ns.lt, next_is_new F3⟩
        · have hq' : q ∈ (aD, LCg.lst ys) :: (L+1+1+1+1+1+1, o6) :: (L+1+1+1+1+1, o5) :: (L+1+1+1+1, oS) :: (L+1+1+1, oD) :: (L+1+1, o2) :: extra := by
            simp only [List.mem_cons, List.not_mem_nil, or_false] at hq ⊢
            rcases hq with h | h | h | h | h | h <;> simp [h]
          exact ⟨hk4 _ _ (N3 q (List.mem_cons_of_mem _ hq')).1, (N3 q (List.mem_cons_of_mem _ hq')).2⟩
      have l4 := allLt_of lt3
      simp only [AllLt] at l4
      clear N3 F3 lt3 hk4 hd4
      dsimp only
      generalize h3.objs.size = aW at *
      have hb4 : 0 ≤ d4 ∧ d4 < 10007 := hb d4 (by simp)
      have hb5 : 0 ≤ d5.fmod 30 ∧ d5.fmod 30 < 30 := fmod_in (by decide)
      walk_at "to c"
      refine mul_int ?_ (IntMulOk.of_left (intBits_le_64 (k := d4) (by omega) (by omega)))
      dsimp only
      iterate 12 walk1
      refine pow_int_small (a := 2) (n := 1 + d5.fmod 30) (by omega) (by omega) (by decide) ?_
      dsimp only
      refine mod_int' (two_pow_ne _) ?_
      have hc := third_in (a := [d0, d1, d2, d3, d4, d5].getD (Int.toNat 4) 0 * 71563446777022297856526126342750658392501306254664949883333486863006233104021) hb5
      have hc0 : 0 ≤ ([d0, d1, d2, d3, d4, d5].getD (Int.toNat 2) 0).fmod 41 ∧ ([d0, d1, d2, d3, d4, d5].getD (Int.toNat 2) 0).fmod 41 < 41 := fmod_in (by decide)
      have hc1 : 0 ≤ ([d0, d1, d2, d3, d4, d5].getD (Int.toNat 3) 0).fmod 41 ∧ ([d0, d1, d2, d3, d4, d5].getD (Int.toNat 3) 0).fmod 41 < 41 := fmod_in (by decide)
      generalize ([d0, d1, d2, d3, d4, d5].getD (Int.toNat 2) 0).fmod 41 = n0 at *
      generalize ([d0, d1, d2, d3, d4, d5].getD (Int.toNat 3) 0).fmod 41 = n1 at *
      generalize ([d0, d1, d2, d3, d4, d5].getD (Int.toNat 4) 0 * 71563446777022297856526126342750658392501306254664949883333486863006233104021).fmod (2 ^ (1 + d5.fmod 30).toNat) = n2 at *
      dsimp only
      walk_at "to c"
      rename Fr base L _ _ => F5
      rename News base L _ _ => N5
      rename (aW < _ ∧ _) => lN
      rename Obj.data _ = Data.cell (some (Value.ref aW)) => e5
      obtain ⟨a, rfl⟩ := Int.eq_ofNat_of_zero_le hc0.1
      obtain ⟨b, rfl⟩ := Int.eq_ofNat_of_zero_le hc1.1
      obtain ⟨c, rfl⟩ := Int.eq_ofNat_of_zero_le hc.1
      refine h _ _ _ aW _ oW _ f a b c _ _ _ F5 (pick9 N5) e5 hdW (fun x hx => if_neg hx) rfl (by omega) (by omega) (by omega) l4.2.1 lN.1
end

section
set_option maxHeartbeats 1000000 in
theorem seg4 {w : World} {base : Heap} {L fa aW aN : Nat} {cd : Value} {m mg mb : Str → Option Value} {loose : List Str} {mean : ExcName → Option Value} {s : Shared}
    {Q : Flow → Shared → Prop} {E : Value → Shared → Prop} {oW o6 o5 oS o2 : Obj} {a b c : Nat} {t0 t1 t2 : Tok}
    (cx : Cx w base mg mb loose mean)
    (F : Fr base L s.heap m) (N : News base L s.heap [(aN, W.listOf #[.int a t0, .int b t1, .int c t2] 0), (aW, oW), (L+1+1+1+1+1+1, o6), (L+1+1+1+1+1, o5), (L+1+1+1+1, oS), (L+1+1, o2)])
    (hn : m (Str.ofString "numbers") = some (.ref aN))
    (h : ∀ h' tk m' (aR : Nat) t, Fr base L h' m' → News base L h' [(aR, W.listOf #[] 0), (aN, W.listOf #[.int a t0, .int b t1, .int c t2] 0), (aW, oW), (L+1+1+1+1+1+1, o6), (L+1+1+1+1+1, o5), (L+1+1+1+1, oS), (L+1+1, o2)] →
      m' (Str.ofString "whole") = some (.int ((a + b + c : Nat)) t) → m' (Str.ofString "rows") = some (.ref aR) → (∀ x, x ≠ Str.ofString "whole" → x ≠ Str.ofString "rows" → m' x = m x) → aN < aR → Q .next { s with heap := h', toks := tk }) :
    wpAny (model Challenge.rw_fe0036_01.row.prog w) (LA L fa cd) (exec (lawStmt 4) (LE L fa cd)) Q E s := by
  obtain ⟨B, X₀, T⟩ := cx
  refine exec_as (st' := .Assign _ _ _) rfl ?_
  walk_at "to a"
  rename Fr base L _ _ => F5
  rename News base L _ _ => N5
  rename (aN < _ ∧ _) => lN
  have e : (a : Int) + (b + (c + 0)) = ((a + b + c : Nat) : Int) := by omega
  rw [e] at F5
  exact h _ _ _ _ _ F5 (fun q hq => N5 q (.tail _ hq)) rfl rfl (fun x h1 h2 => (if_neg h1).trans (if_neg h2)) lN.1
end

section
set_option maxHeartbeats 1000000 in
theorem row_turn {w : World} {base : Heap} {L fa aW aR : Nat} {cd : Value} {m mg mb : Str → Option Value} {loose : List Str} {mean : ExcName → Option Value} {s : Shared}
    {Q : Flow → Shared → Prop} {E : Value → Shared → Prop} {oW o6 o5 oS : Obj} {n p k : Nat} {t ts : Tok} {c6 : Option Value} {al : Array UInt8} {f : Nat → Tok} {rs : List Value} {X : List (Addr × Obj)}
    (cx : Cx w base mg mb loose mean)
    (F : Fr base L s.heap m) (N : News base L s.heap ((aR, W.listOf rs.toArray k) :: (aW, oW) :: (L+1+1+1+1+1+1, o6) :: (L+1+1+1+1+1, o5) :: (L+1+1+1+1, oS) :: X))
    (h6 : o6.data = .cell c6) (h5 : o5.data = .cell (some (.ref aW))) (hS : oS.data = .cell (some (.bytes al ts))) (hal : Alph al p)
    (hW : oW.IsDictOf (PySem.intKind Challenge.rw_fe0036_01.row.prog w) (kvsTo (fun i => ((al.getD i 0).toNat : Nat)) (fun i => .int (i : Nat) (f i)) p))
    (hX : OwnOff X [aR, aW, L+1+1+1+1+1+1, L+1+1+1+1+1, L+1+1+1+1]) (l1 : L+1+1+1+1+1+1 < aW) (l2 : aW < aR) (hk : rs.length ≤ 3)
    (hp1 : 2 ≤ p) (hp2 : p ≤ 13) (hn : n < 2 ^ 31)
    (ha : m (Str.ofString "amount") = some (.int n t)) (hr : m (Str.ofString "rows") = some (.ref aR))
    (h : ∀ h' tk o6' (aY : Nat) ys t6, Fr base L h' m → News base L h' ((aY, LCg.lst ys) :: (aR, W.listOf (rs ++ [Value.ref aY]).toArray (k + 1)) :: (aW, oW) :: (L+1+1+1+1+1+1, o6') :: (L+1+1+1+1+1, o5) :: (L+1+1+1+1, oS) :: X) →
      o6'.data = .cell (some (.bytes (enc al n) t6)) → IntsAre ys (digI p n) → (aR ≠ aY ∧ aW ≠ aY ∧ L+1+1+1+1+1+1 ≠ aY ∧ L+1+1+1+1+1 ≠ aY ∧ L+1+1+1+1 ≠ aY ∧ LCg.Off1 aY X) → Q .next { s with heap := h', toks := tk }) :
    wpAny (model Challenge.rw_fe0036_01.row.prog w) (LA L fa cd) (execs (forBody (lawStmt 5)) (LE L fa cd)) Q E s := by
  obtain ⟨B, X₀, T⟩ := cx
  refine execs_as (st' := _ :: _ :: []) rfl ?_
  have hsz : al.size = p := hal.1
  walk_at "to e"
  refine enc_call B (by assumption) X₀ (by assumption) T rfl rfl (by omega) (by omega) hn ?_
  intro h2 t2 tk2 F2 N2
  walk_at "to e"
  rename Fr base L _ _ => F3
  rename News base L _ _ => N3
  rename (Obj.data _ = Data.cell (some (Value.bytes (enc _ _) _))) => e6
  refine ListComp_D F3 (by with_unfolding_all rfl) (by decide) (by rfl) (by decide) (by rfl) ?_
  have hez : (enc al n).size ≤ 31 := enc_size (by omega) 31 n hn
  walk_at "to e"
  rename IsRange _ _ _ _ _ _ _ _ => hr5
  rename Fr base L _ _ => F4
  rename News base L _ _ => N4
  refine SrcD.intro (n := (enc al n).size) rfl F4 N4 hr5 (small_down (by omega) (by omega) (by omega) (by omega)) ((rangeSize_downNat _ _).trans (by omega)) (by rw [sizeLine_eq]; omega) ?_
  intro g
  refine rest_ind (fun i ys' extra => extra = [] ∧ IntsAre ys' ((digI p n).take i)) ⟨rfl, .nil⟩ ?_ ?_
  · rintro i v ys' extra I oI C oC D m₂ h3 tk3 E' hi hv ⟨rfl, hys⟩ hyl hC hx F5 N5 off ne2
    obtain ⟨t, hv⟩ := hv
    rw [show ((enc al n).size : Int) - 1 + (i : Nat) * (-1) = ((enc al n).size : Int) - 1 - (i : Int) by omega] at hv
    subst hv
    simp only [List.append_nil] at N5
    walk_at "to e"
    refine KBw.item_K rfl (by rw [KBw.ints_length]; omega) (by omega) (by rw [KBw.ints_length]; omega) ?_
    intro tA kA _ _
    have hid : (((enc al n).size : Int) - 1 - (i : Int)).toNat = (enc al n).size - 1 - i := by omega
    rw [hid, bInts_at, enc_at hi, hsz]
    have hdl : i < (dig p n).length := by rw [← hsz]; simpa [enc] using hi
    have hdp : (dig p n).getD i 0 < p := by rw [dig_getD hp1]; exact Nat.mod_lt _ (by omega)
    refine kda_item (knd := PySem.intKind _ _) N5 (by k_mem) hW (intKind_is _ _ _ _) (worth_at hal hdp) ?_
    refine compEnd_none (news := (aR, W.listOf rs.toArray k) :: (aW, oW) :: (L+1+1+1+1+1+1, _) :: (L+1+1+1+1+1, o5) :: (L+1+1+1+1, oS) :: X) (PL := fun y extra => extra = [] ∧ IntsAre (ys' ++ [y]) ((digI p n).take (i + 1))) F5 (by simp only [List.append_nil]; exact N5) off trivial ⟨rfl, ?_⟩
    rw [List.take_add_one]
    have e2 : (digI p n)[i]? = some (((dig p n).getD i 0 : Nat) : Int) := by simp [digI, hdl]
    rw [e2]
    exact IntsAre.append hys (.cons _ _ .nil)
  · rintro ys' extra hyl ⟨rfl, hys⟩ D h3 tk3 F5 N5 off
    simp only [List.append_nil] at N5 off
    simp only [LCg.Off1] at off
    walk_at "to e"
    rename Fr base L _ _ => F6
    rename News base L _ _ => N6
    rw [List.push_toArray] at N6
    have e7 : (digI p n).take (enc al n).size = digI p n := by
      refine List.take_of_length_le ?_
      rw [digI_length, ← hsz]
      simp [enc]
    rw [e7] at hys
    exact h _ _ _ D _ _ F6 N6 e6 hys ⟨off.1, off.2.1, off.2.2.1, off.2.2.2.1, off.2.2.2.2.1, off.2.2.2.2.2⟩
end

section
abbrev rowsOf (l : List (Nat × List Value)) : List (Addr × Obj) := l.map fun q => (q.1, LCg.lst q.2)
abbrev refsOf (l : List (Nat × List Value)) : List Value := l.map fun q => Value.ref q.1
def amt (a b c : Nat) (i : Nat) : Nat := [a, b, c, a + b + c].getD i 0
/-- the rows so far, and what they are off of -/
def RowsAt (p a b c : Nat) (offs : List Nat) (l : List (Nat × List Value)) : Prop := ∀ j q, l[j]? = some q → IntsAre q.2 (digI p (amt a b c j)) ∧ ∀ x ∈ offs, q.1 ≠ x
theorem RowsAt.snoc {p a b c : Nat} {offs : List Nat} {l : List (Nat × List Value)} {y : Nat} {ys : List Value} (h : RowsAt p a b c offs l) (hy : IntsAre ys (digI p (amt a b c l.length))) (ho : ∀ x ∈ offs, y ≠ x) : RowsAt p a b c offs (l ++ [(y, ys)]) := by
  intro j q hq
  by_cases hj : j < l.length
  · rw [List.getElem?_append_left hj] at hq
    exact h j q hq
  · rw [List.getElem?_append_right (by omega)] at hq
    have hj0 : j - l.length = 0 := by
      rcases Nat.eq_zero_or_pos (j - l.length) with e | e
      · exact e
      · rw [List.getElem?_eq_none (by simp; omega)] at hq; cases hq
    rw [hj0] at hq
    have e : j = l.length := by omega
    subst e
    cases hq
    exact ⟨hy, ho⟩
theorem RowsAt.mem {p a b c : Nat} {offs : List Nat} {l : List (Nat × List Value)} (h : RowsAt p a b c offs l) : ∀ q ∈ rowsOf l, ∀ x ∈ offs, q.1 ≠ x := by
  intro q hq x hx
  obtain ⟨r, hr, rfl⟩ := List.mem_map.mp hq
  obtain ⟨j, hj, e⟩ := List.mem_iff_getElem.mp hr
  exact (h j r (by rw [List.getElem?_eq_getElem hj, e])).2 x hx
theorem amt_item {a b c : Nat} {i : Nat} {v : Value} {t0 t1 t2 tw : Tok} (h : (#[Value.int a t0, Value.int b t1, Value.int c t2, Value.int ((a + b + c : Nat)) tw] : Array Value)[i]? = some v) : ∃ t, v = .int (amt a b c i) t := by
  match i, h with
  | 0, h => cases h; exact ⟨_, rfl⟩
  | 1, h => cases h; exact ⟨_, rfl⟩
  | 2, h => cases h; exact ⟨_, rfl⟩
  | 3, h => cases h; exact ⟨_, rfl⟩
  | _ + 4, h => simp at h
theorem amt_lt {a b c : Nat} (ha : a ≤ 40) (hb : b ≤ 40) (hc : c < 2 ^ 30) (i : Nat) : amt a b c i < 2 ^ 31 := by
  have h1 : amt a b c i ≤ a + b + c := by
    unfold amt
    match i with
    | 0 => show a ≤ a + b + c; omega
    | 1 => show b ≤ a + b + c; omega
    | 2 => show c ≤ a + b + c; omega
    | 3 => exact Nat.le_refl _
    | _ + 4 => exact Nat.zero_le _
  omega
theorem off1_mem {D : Addr} : ∀ {l : List (Addr × Obj)}, LCg.Off1 D l → ∀ q ∈ l, q.1 ≠ D
  | [], _, _, h => nomatch h
  | _ :: _, x, q, h => by
    rcases List.mem_cons.mp h with rfl | h
    · exact x.1
    · exact off1_mem x.2 q h
set_option maxHeartbeats 1000000 in
theorem rows_loop {w : World} {base : Heap} {L fa aW aN aR lx : Nat} {cd : Value} {m mg mb : Str → Option Value} {loose : List Str} {mean : ExcName → Option Value} {s : Shared}
    {Q : Flow → Shared → Prop} {E : Value → Shared → Prop} {oW o6 o5 oS o2 oN : Obj} {a b c p : Nat} {t0 t1 t2 tw ts : Tok} {c6 : Option Value} {al : Array UInt8} {f : Nat → Tok}
    (cx : Cx w base mg mb loose mean)
    (F : Fr base L s.heap m) (N : News base L s.heap [(lx, W.listOf #[.int a t0, .int b t1, .int c t2, .int ((a + b + c : Nat)) tw] 0), (aR, W.listOf #[] 0), (aN, oN), (aW, oW), (L+1+1+1+1+1+1, o6), (L+1+1+1+1+1, o5), (L+1+1+1+1, oS), (L+1+1, o2)])
    (h6 : o6.data = .cell c6) (h5 : o5.data = .cell (some (.ref aW))) (hS : oS.data = .cell (some (.bytes al ts))) (hal : Alph al p)
    (hW : oW.IsDictOf (PySem.intKind Challenge.rw_fe0036_01.row.prog w) (kvsTo (fun i => ((al.getD i 0).toNat : Nat)) (fun i => .int (i : Nat) (f i)) p))
    (l1 : L+1+1+1+1+1+1 < aW) (l2 : aW < aN) (l3 : aN < aR) (l4 : aR < lx) (hp1 : 2 ≤ p) (hp2 : p ≤ 13) (ha : a ≤ 40) (hb : b ≤ 40) (hc : c < 2 ^ 30)
    (hr : m (Str.ofString "rows") = some (.ref aR))
    (h : ∀ h' tk m' (q0 q1 q2 q3 : Nat × List Value), Fr base L h' m' → News base L h' [(aR, W.listOf #[.ref q0.1, .ref q1.1, .ref q2.1, .ref q3.1] 4), (q0.1, LCg.lst q0.2), (q1.1, LCg.lst q1.2), (q2.1, LCg.lst q2.2), (q3.1, LCg.lst q3.2), (aN, oN), (L+1+1, o2)] →
      IntsAre q0.2 (digI p a) → IntsAre q1.2 (digI p b) → IntsAre q2.2 (digI p c) → IntsAre q3.2 (digI p (a + b + c)) → (∀ x, x ≠ Str.ofString "amount" → m' x = m x) →
      (q0.1 ≠ L+1+1 ∧ q1.1 ≠ L+1+1 ∧ q2.1 ≠ L+1+1 ∧ q3.1 ≠ L+1+1) → Q .next { s with heap := h', toks := tk }) :
    wpAny (model Challenge.rw_fe0036_01.row.prog w) (LA L fa cd) (pyIter (.ref lx)) (fun it s₂ => LoopAtV Challenge.rw_fe0036_01.row.prog w (LA L fa cd) base (LE L fa cd) (Str.ofString "amount") (forBody (lawStmt 5)) Q E it s₂) E s := by
  have hl : s.heap.IsList lx #[.int a t0, .int b t1, .int c t2, .int ((a + b + c : Nat)) tw] := N.isList (.head _)
  have lts : ∀ q ∈ [(lx, W.listOf #[.int a t0, .int b t1, .int c t2, .int ((a + b + c : Nat)) tw] 0), (aR, W.listOf #[] 0), (aN, oN), (aW, oW), (L+1+1+1+1+1+1, o6), (L+1+1+1+1+1, o5), (L+1+1+1+1, oS), (L+1+1, o2)], q.1 < s.heap.objs.size := fun q hq => Heap.lt_size (N q hq).1
  have hlL : L < s.heap.objs.size := F.ns.lt
  have lx' := allLt_of lts
  simp only [AllLt] at lx'
  refine wpAny_pyIter_list hl ?_
  generalize hI : s.heap.objs.size = I at *
  have hbI : base.get? I = none := hI ▸ next_is_new F
  have hit : (s.heap.push { cls := .type "list_iterator", data := .fields #[.ref lx, .int 0 0] }).IsListIter I lx 0 := ⟨_, hI ▸ Heap.get?_push_size _ rfl, rfl, rfl⟩
  refine ⟨I, [I, lx], [I], 4, _, _, m, [(aR, W.listOf #[] 0), (aW, oW), (L+1+1+1+1+1+1, o6), (L+1+1+1+1+1, o5), (L+1+1+1+1, oS), (L+1+1, o2), (aN, oN)],
    fun i m₁ nx => ∃ o6' c6' l, nx = (aR, W.listOf (refsOf l).toArray i) :: (aW, oW) :: (L+1+1+1+1+1+1, o6') :: (L+1+1+1+1+1, o5) :: (L+1+1+1+1, oS) :: (L+1+1, o2) :: (aN, oN) :: rowsOf l ∧ o6'.data = .cell c6' ∧ l.length = i ∧
      RowsAt p a b c [aR, aW, L+1+1+1+1+1+1, L+1+1+1+1+1, L+1+1+1+1, L+1+1, I] l ∧ (∀ x, x ≠ Str.ofString "amount" → m₁ x = m x),
    rfl, Walks.list rfl I lx (Nat.ne_of_lt lx'.1) #[.int a t0, .int b t1, .int c t2, .int ((a + b + c : Nat)) tw], ?_, ?_, ?_, ⟨hit, hl.push _⟩, F.push _, ?_, ⟨o6, c6, [], rfl, h6, rfl, fun j q hq => (by simp at hq), fun _ _ => rfl⟩, ?_, ?_⟩
  · show L ∉ [I, lx]
    intro q
    simp only [List.mem_cons, List.not_mem_nil, or_false] at q
    omega
  · intro q hq
    rw [List.mem_singleton.mp hq]; exact hbI
  · intro q hq
    simp only [List.mem_cons, List.not_mem_nil, or_false] at hq
    rw [List.mem_singleton]
    rcases hq with rfl | rfl | rfl | rfl | rfl | rfl | rfl <;> (refine neN ?_; dsimp only; omega)
  · intro q hq
    have hm : q ∈ [(lx, W.listOf #[.int a t0, .int b t1, .int c t2, .int ((a + b + c : Nat)) tw] 0), (aR, W.listOf #[] 0), (aN, oN), (aW, oW), (L+1+1+1+1+1+1, o6), (L+1+1+1+1+1, o5), (L+1+1+1+1, oS), (L+1+1, o2)] := by
      simp only [List.mem_cons, List.not_mem_nil, or_false] at hq ⊢
      rcases hq with h | h | h | h | h | h | h <;> (repeat (first | exact h | exact Or.inl h | refine Or.inr ?_))
    exact ⟨Heap.get?_push_of_some _ (N q hm).1, (N q hm).2⟩
  · rintro i v m₁ nx s₁ own ⟨hh, tk', rfl⟩ hi hP ⟨o6', c6', l, rfl, e6, hll, hRows, hm₁⟩ hoff hown hget hall hst₁ F₁ N₁
    obtain ⟨oI, heI, _⟩ := hst₁.1
    have hIo : (I, oI) ∈ own := hall I (.head _) hbI oI heI
    obtain ⟨tv, rfl⟩ : ∃ t, v = .int (amt a b c i) t := amt_item hP
    have hX : OwnOff ((L+1+1, o2) :: (aN, oN) :: (rowsOf l ++ own)) [aR, aW, L+1+1+1+1+1+1, L+1+1+1+1+1, L+1+1+1+1] := by
      intro q hq x hx
      rcases List.mem_cons.mp hq with rfl | hq
      · simp only [List.mem_cons, List.not_mem_nil, or_false] at hx
        rcases hx with rfl | rfl | rfl | rfl | rfl <;> (refine neN ?_; dsimp only; omega)
      rcases List.mem_cons.mp hq with rfl | hq
      · simp only [List.mem_cons, List.not_mem_nil, or_false] at hx
        rcases hx with rfl | rfl | rfl | rfl | rfl <;> (refine neN ?_; dsimp only; omega)
      rcases List.mem_append.mp hq with hq | hq
      · refine hRows.mem q hq x ?_
        simp only [List.mem_cons, List.not_mem_nil, or_false] at hx ⊢
        rcases hx with h | h | h | h | h <;> (repeat (first | exact h | exact Or.inl h | refine Or.inr ?_))
      · have hf := hown q hq
        simp only [List.mem_cons, List.not_mem_nil, or_false] at hf hx
        have hlx : lx < I := lx'.1
        rcases hf with hf | hf <;> rw [hf] <;> rcases hx with rfl | rfl | rfl | rfl | rfl <;> (refine neN ?_; omega)
    have hamt : amt a b c i < 2 ^ 31 := amt_lt ha hb hc i
    have hA : (fun y => if y = Str.ofString "amount" then some (Value.int (amt a b c i) tv) else m₁ y) (Str.ofString "amount") = some (.int (amt a b c i) tv) := if_pos rfl
    have hR : (fun y => if y = Str.ofString "amount" then some (Value.int (amt a b c i) tv) else m₁ y) (Str.ofString "rows") = some (.ref aR) := (if_neg (by decide)).trans ((hm₁ _ (by decide)).trans hr)
    have N₂ : News base L hh ((aR, W.listOf (refsOf l).toArray i) :: (aW, oW) :: (L+1+1+1+1+1+1, o6') :: (L+1+1+1+1+1, o5) :: (L+1+1+1+1, oS) :: (L+1+1, o2) :: (aN, oN) :: (rowsOf l ++ own)) := by
      intro q hq
      refine N₁ q ?_
      simp only [List.mem_cons, List.mem_append] at hq ⊢
      rcases hq with h | h | h | h | h | h | h | h | h <;> (repeat (first | exact h | exact Or.inl h | refine Or.inr ?_))
    have hlen : (refsOf l).length ≤ 3 := by simp only [refsOf, List.length_map]; omega
    refine row_turn (rs := refsOf l) (k := i) (X := (L+1+1, o2) :: (aN, oN) :: (rowsOf l ++ own)) cx F₁ N₂ e6 h5 hS hal hW hX l1 (by omega) hlen hp1 hp2 hamt hA hR ?_
    · intro h' tk o6'' aY ys t6 F2 N2 e6'' hys off
      have hYI : aY ≠ I := by
        have := off1_mem off.2.2.2.2.2 (I, oI) (List.mem_cons_of_mem _ (List.mem_cons_of_mem _ (List.mem_append_right _ hIo)))
        exact fun q => this q.symm
      have hY2 : aY ≠ L+1+1 := by
        have := off1_mem off.2.2.2.2.2 (L+1+1, o2) (.head _)
        exact fun q => this q.symm
      have hRows' := hRows.snoc (y := aY) (ys := ys) (by rw [hll]; exact hys) (by
        intro x hx
        simp only [List.mem_cons, List.not_mem_nil, or_false] at hx
        rcases hx with rfl | rfl | rfl | rfl | rfl | rfl | rfl
        · exact off.1.symm
        · exact off.2.1.symm
        · exact off.2.2.1.symm
        · exact off.2.2.2.1.symm
        · exact off.2.2.2.2.1.symm
        · exact hY2
        · exact hYI)
      have eref : refsOf (l ++ [(aY, ys)]) = refsOf l ++ [Value.ref aY] := by simp [refsOf]
      have erow : rowsOf (l ++ [(aY, ys)]) = rowsOf l ++ [(aY, LCg.lst ys)] := by simp [rowsOf]
      refine LoopStepV.next (LoopStepU.intro (news₂ := (aR, W.listOf (refsOf (l ++ [(aY, ys)])).toArray (i + 1)) :: (aW, oW) :: (L+1+1+1+1+1+1, o6'') :: (L+1+1+1+1+1, o5) :: (L+1+1+1+1, oS) :: (L+1+1, o2) :: (aN, oN) :: rowsOf (l ++ [(aY, ys)])) F2 (fun q hq => N2 q ?_) (fun q hq => ?_) ⟨o6'', _, l ++ [(aY, ys)], rfl, e6'', by simp [hll], hRows', fun x hx => (if_neg hx).trans (hm₁ x hx)⟩)
      · rw [eref, erow] at hq
        simp only [List.mem_cons, List.mem_append, List.not_mem_nil, or_false] at hq ⊢
        rcases hq with h | h | h | h | h | h | h | h | h | h <;> (repeat (first | exact h | exact Or.inl h | refine Or.inr ?_))
      · rw [List.mem_singleton]
        rcases List.mem_cons.mp hq with rfl | hq
        · exact neN (by dsimp only; omega)
        rcases List.mem_cons.mp hq with rfl | hq
        · exact neN (by dsimp only; omega)
        rcases List.mem_cons.mp hq with rfl | hq
        · exact neN (by dsimp only; omega)
        rcases List.mem_cons.mp hq with rfl | hq
        · exact neN (by dsimp only; omega)
        rcases List.mem_cons.mp hq with rfl | hq
        · exact neN (by dsimp only; omega)
        rcases List.mem_cons.mp hq with rfl | hq
        · exact neN (by dsimp only; omega)
        rcases List.mem_cons.mp hq with rfl | hq
        · exact neN (by dsimp only; omega)
        exact hRows'.mem q hq I (by simp)
  · rintro h' tk m' nx F' N' _ ⟨o6', c6', l, rfl, e6, hll, hRows, hm'⟩
    match l, hll with
    | [q0, q1, q2, q3], _ =>
      have r0 := hRows 0 q0 rfl
      have r1 := hRows 1 q1 rfl
      have r2 := hRows 2 q2 rfl
      have r3 := hRows 3 q3 rfl
      refine h h' tk m' q0 q1 q2 q3 F' (fun q hq => N' q ?_) r0.1 r1.1 r2.1 r3.1 hm' ⟨r0.2 _ (by simp), r1.2 _ (by simp), r2.2 _ (by simp), r3.2 _ (by simp)⟩
      simp only [rowsOf, refsOf, List.map_cons, List.map_nil, List.mem_cons, List.not_mem_nil, or_false] at hq ⊢
      rcases hq with h | h | h | h | h | h | h <;> (repeat (first | exact h | exact Or.inl h | refine Or.inr ?_))
set_option maxHeartbeats 1000000 in
theorem seg5 {w : World} {base : Heap} {L fa aW aN aR : Nat} {cd : Value} {m mg mb : Str → Option Value} {loose : List Str} {mean : ExcName → Option Value} {s : Shared}
    {Q : Flow → Shared → Prop} {E : Value → Shared → Prop} {oW o6 o5 oS o2 : Obj} {a b c p : Nat} {t0 t1 t2 tw ts : Tok} {c6 : Option Value} {al : Array UInt8} {f : Nat → Tok}
    (cx : Cx w base mg mb loose mean) (hE : PassesOwn (model Challenge.rw_fe0036_01.row.prog w) (LA L fa cd) (LE L fa cd) E)
    (F : Fr base L s.heap m) (N : News base L s.heap [(aR, W.listOf #[] 0), (aN, W.listOf #[.int a t0, .int b t1, .int c t2] 0), (aW, oW), (L+1+1+1+1+1+1, o6), (L+1+1+1+1+1, o5), (L+1+1+1+1, oS), (L+1+1, o2)])
    (h6 : o6.data = .cell c6) (h5 : o5.data = .cell (some (.ref aW))) (hS : oS.data = .cell (some (.bytes al ts))) (hal : Alph al p)
    (hW : oW.IsDictOf (PySem.intKind Challenge.rw_fe0036_01.row.prog w) (kvsTo (fun i => ((al.getD i 0).toNat : Nat)) (fun i => .int (i : Nat) (f i)) p))
    (l1 : L+1+1+1+1+1+1 < aW) (l2 : aW < aN) (l3 : aN < aR) (hp1 : 2 ≤ p) (hp2 : p ≤ 13) (ha : a ≤ 40) (hb : b ≤ 40) (hc : c < 2 ^ 30)
    (hn : m (Str.ofString "numbers") = some (.ref aN)) (hw : m (Str.ofString "whole") = some (.int ((a + b + c : Nat)) tw)) (hr : m (Str.ofString "rows") = some (.ref aR))
    (h : ∀ h' tk m' (q0 q1 q2 q3 : Nat × List Value), Fr base L h' m' → News base L h' [(aR, W.listOf #[.ref q0.1, .ref q1.1, .ref q2.1, .ref q3.1] 4), (q0.1, LCg.lst q0.2), (q1.1, LCg.lst q1.2), (q2.1, LCg.lst q2.2), (q3.1, LCg.lst q3.2), (aN, W.listOf #[.int a t0, .int b t1, .int c t2] 0), (L+1+1, o2)] →
      IntsAre q0.2 (digI p a) → IntsAre q1.2 (digI p b) → IntsAre q2.2 (digI p c) → IntsAre q3.2 (digI p (a + b + c)) → (∀ x, x ≠ Str.ofString "amount" → m' x = m x) →
      (q0.1 ≠ L+1+1 ∧ q1.1 ≠ L+1+1 ∧ q2.1 ≠ L+1+1 ∧ q3.1 ≠ L+1+1) → Q .next { s with heap := h', toks := tk }) :
    wpAny (model Challenge.rw_fe0036_01.row.prog w) (LA L fa cd) (exec (lawStmt 5) (LE L fa cd)) Q E s := by
  have cx' := cx
  obtain ⟨B, X₀, T⟩ := cx
  refine exec_as (st' := .For (.Name (Str.ofString "amount") _) _ (forBody (lawStmt 5)) [] _) rfl ?_
  refine For_invV base (by rfl) (by rfl) ?_ (hE := hE)
  walk_at "to d"
  rename Fr base L _ _ => F1
  rename News base L _ _ => N1
  rename (_ < _ ∧ _) => lx
  refine rows_loop (oN := W.listOf #[.int a t0, .int b t1, .int c t2] 0) (o2 := o2) (t0 := t0) (t1 := t1) (t2 := t2) (tw := tw) cx' F1 (fun q hq => N1 q ?_) h6 h5 hS hal hW l1 l2 l3 lx.2.1 hp1 hp2 ha hb hc hr ?_
  · simp only [List.mem_cons, List.not_mem_nil, or_false] at hq ⊢
    rcases hq with h | h | h | h | h | h | h | h <;> (repeat (first | exact h | exact Or.inl h | refine Or.inr ?_))
  · intro h' tk m' q0 q1 q2 q3 F2 N2 r0 r1 r2 r3 hm' ne
    exact h h' tk m' q0 q1 q2 q3 F2 N2 r0 r1 r2 r3 hm' ne
end

section
theorem row_pick {q0 q1 q2 q3 : Nat × List Value} {n0 n1 n2 n3 p k x y z d i : Nat} {v : Value} (r0 : IntsAre q0.2 (digI p n0)) (r1 : IntsAre q1.2 (digI p n1)) (r2 : IntsAre q2.2 (digI p n2)) (r3 : IntsAre q3.2 (digI p n3))
    (hl : (dig p n0).length ≤ 100 ∧ (dig p n1).length ≤ 100 ∧ (dig p n2).length ≤ 100 ∧ (dig p n3).length ≤ 100)
    (ex : n0 / p ^ k % p = x) (ey : n1 / p ^ k % p = y) (ez : n2 / p ^ k % p = z) (ed : n3 / p ^ k % p = d) (hv : (#[Value.ref q0.1, .ref q1.1, .ref q2.1, .ref q3.1] : Array Value)[i]? = some v) :
    ∃ (q : Nat × List Value) (nn : Nat), v = .ref q.1 ∧ q ∈ [q0, q1, q2, q3] ∧ IntsAre q.2 (digI p nn) ∧ (dig p nn).length ≤ 100 ∧ ([x, y, z, d].map fun e : Nat => (e : Int))[i]? = some ((nn / p ^ k % p : Nat) : Int) := by
  match i, hv with
  | 0, hv => cases hv; exact ⟨q0, n0, rfl, by simp, r0, hl.1, by rw [ex]; rfl⟩
  | 1, hv => cases hv; exact ⟨q1, n1, rfl, by simp, r1, hl.2.1, by rw [ey]; rfl⟩
  | 2, hv => cases hv; exact ⟨q2, n2, rfl, by simp, r2, hl.2.2.1, by rw [ez]; rfl⟩
  | 3, hv => cases hv; exact ⟨q3, n3, rfl, by simp, r3, hl.2.2.2, by rw [ed]; rfl⟩
  | _ + 4, hv => simp at hv
theorem four_ints {ys : List Value} {x y z d : Int} (h : IntsAre ys [x, y, z, d]) : ∃ t0 t1 t2 t3, ys = [.int x t0, .int y t1, .int z t2, .int d t3] := by
  cases h with
  | cons _ t0 h => cases h with
    | cons _ t1 h => cases h with
      | cons _ t2 h => cases h with
        | cons _ t3 h => cases h; exact ⟨t0, t1, t2, t3, rfl⟩
theorem row_cell {p nn k : Nat} (hp : 2 ≤ p) (hk : k < (digI p nn).length) : (digI p nn).getD ((k : Nat) : Int).toNat 0 = ((nn / p ^ k % p : Nat) : Int) := by
  rw [Int.toNat_natCast]; exact digI_getD hp k nn
theorem row_over {p nn k : Nat} (hp : 2 ≤ p) (hk : ¬ k < (digI p nn).length) : (0 : Int) = ((nn / p ^ k % p : Nat) : Int) := by
  have h1 : (digI p nn).getD k 0 = 0 := by simp [List.getD_eq_getElem?_getD, List.getElem?_eq_none (Nat.not_lt.mp hk)]
  rw [← digI_getD hp k nn, h1]
set_option maxHeartbeats 1000000 in
theorem carry_turn {w : World} {base : Heap} {L fa aR : Nat} {cd : Value} {m mg mb : Str → Option Value} {loose : List Str} {mean : ExcName → Option Value} {s : Shared}
    {Q : Flow → Shared → Prop} {E : Value → Shared → Prop} {ok : Obj} {I : Nat} {oI : Obj} {p k x y z d cy cr pr : Nat} {tk tp ty tr tq : Tok} {q0 q1 q2 q3 : Nat × List Value} {n0 n1 n2 n3 : Nat} {rest : List (Addr × Obj)}
    (cx : Cx w base mg mb loose mean)
    (F : Fr base L s.heap m) (N : News base L s.heap ((L+1+1, ok) :: (I, oI) :: (aR, W.listOf #[.ref q0.1, .ref q1.1, .ref q2.1, .ref q3.1] 4) :: (q0.1, LCg.lst q0.2) :: (q1.1, LCg.lst q1.2) :: (q2.1, LCg.lst q2.2) :: (q3.1, LCg.lst q3.2) :: rest))
    (hk : ok.data = .cell (some (.int (k : Nat) tk))) (r0 : IntsAre q0.2 (digI p n0)) (r1 : IntsAre q1.2 (digI p n1)) (r2 : IntsAre q2.2 (digI p n2)) (r3 : IntsAre q3.2 (digI p n3))
    (hk2 : k ≤ 100) (hl : (dig p n0).length ≤ 100 ∧ (dig p n1).length ≤ 100 ∧ (dig p n2).length ≤ 100 ∧ (dig p n3).length ≤ 100)
    (ex : n0 / p ^ k % p = x) (ey : n1 / p ^ k % p = y) (ez : n2 / p ^ k % p = z) (ed : n3 / p ^ k % p = d) (hp1 : 2 ≤ p) (hp2 : p ≤ 13) (hpr : pr < p)
    (hR : m (Str.ofString "rows") = some (.ref aR)) (hP : m (Str.ofString "prime") = some (.int (p : Nat) tp)) (hY : m (Str.ofString "carry") = some (.int (cy : Nat) ty)) (hC : m (Str.ofString "carried") = some (.int (cr : Nat) tr)) (hQ : m (Str.ofString "product") = some (.int (pr : Nat) tq))
    (h : ∀ h' tk' m' t1 t2 t3, Fr base L h' m' → News base L h' ((L+1+1, ok) :: (I, oI) :: (aR, W.listOf #[.ref q0.1, .ref q1.1, .ref q2.1, .ref q3.1] 4) :: (q0.1, LCg.lst q0.2) :: (q1.1, LCg.lst q1.2) :: (q2.1, LCg.lst q2.2) :: (q3.1, LCg.lst q3.2) :: rest) →
      m' (Str.ofString "carry") = some (.int (((x + y + z + cy) / p : Nat)) t1) → m' (Str.ofString "carried") = some (.int ((cr + (x + y + z + cy) / p : Nat)) t2) → m' (Str.ofString "product") = some (.int (((pr * (if x + y + z = d then C d x * C (d - x) y else 0)) % p : Nat)) t3) →
      (∀ u, u ≠ Str.ofString "one" → u ≠ Str.ofString "two" → u ≠ Str.ofString "three" → u ≠ Str.ofString "due" → u ≠ Str.ofString "carry" → u ≠ Str.ofString "carried" → u ≠ Str.ofString "product" → m' u = m u) → Q .next { s with heap := h', toks := tk' }) :
    wpAny (model Challenge.rw_fe0036_01.row.prog w) (LA L fa cd) (execs (forBody (lawStmt 7)) (LE L fa cd)) Q E s := by
  obtain ⟨B, X₀, T⟩ := cx
  refine execs_as (st' := _ :: _ :: _ :: _ :: []) rfl ?_
  walk_at "to e"
  refine LCg.ListComp_U F (by with_unfolding_all rfl) (by decide) (by rfl) (by decide) (by rfl) ?_
  walk_at "to e"
  refine LCg.CompSrc.ledger rfl F N (.tail _ (.tail _ (.head _))) (by show 4 ≤ sizeLine; rw [sizeLine_eq]; decide) ?_
  intro g
  refine rest_ind (fun i ys extra => extra = [] ∧ IntsAre ys (([x, y, z, d].map fun e : Nat => (e : Int)).take i)) ⟨rfl, .nil⟩ ?_ ?_
  · rintro i v ys extra I' oI' C' oC' D' m₂ h3 tk3 E' hi hv ⟨rfl, hys⟩ hyl hC' hx F5 N5 off ne2
    obtain ⟨q, nn, rfl, hq, hI, hlen, hxi⟩ := row_pick r0 r1 r2 r3 hl ex ey ez ed hv
    have N6 : News base L h3 ((q.1, LCg.lst q.2) :: (C', oC') :: (L+1+1, ok) :: []) := by
      intro u hu
      refine N5 u ?_
      simp only [List.mem_cons, List.not_mem_nil, or_false, List.append_nil] at hu hq ⊢
      rcases hu with rfl | rfl | rfl
      · rcases hq with rfl | rfl | rfl | rfl <;> simp
      · simp
      · simp
    have hlen2 : q.2.length = (dig p nn).length := by rw [hI.length, digI_length]
    clear N
    walk_at "to e"
    refine kst_len N6 (.head _) rfl (by omega) ?_
    walk_at "to e"
    all_goals dsimp only
    · rename (((k : Nat) : Int) < _) => hlt
      rw [row_cell hp1 (by rw [digI_length, ← hlen2]; omega)]
      refine compEnd_none (news := (L+1+1, ok) :: (I, oI) :: (aR, W.listOf #[.ref q0.1, .ref q1.1, .ref q2.1, .ref q3.1] 4) :: (q0.1, LCg.lst q0.2) :: (q1.1, LCg.lst q1.2) :: (q2.1, LCg.lst q2.2) :: (q3.1, LCg.lst q3.2) :: rest) (PL := fun y1 extra => extra = [] ∧ IntsAre (ys ++ [y1]) (([x, y, z, d].map fun e : Nat => (e : Int)).take (i + 1))) F5 N5 off (.inr ⟨_, .tail _ (.tail _ (.head _)), rfl, _, rfl⟩) ⟨rfl, ?_⟩
      rw [List.take_add_one, hxi]
      exact IntsAre.append hys (.cons _ _ .nil)
    · rename (¬ ((k : Nat) : Int) < _) => hlt
      rw [row_over (p := p) (nn := nn) (k := k) hp1 (by rw [digI_length, ← hlen2]; omega)]
      refine compEnd_none (news := (L+1+1, ok) :: (I, oI) :: (aR, W.listOf #[.ref q0.1, .ref q1.1, .ref q2.1, .ref q3.1] 4) :: (q0.1, LCg.lst q0.2) :: (q1.1, LCg.lst q1.2) :: (q2.1, LCg.lst q2.2) :: (q3.1, LCg.lst q3.2) :: rest) (PL := fun y1 extra => extra = [] ∧ IntsAre (ys ++ [y1]) (([x, y, z, d].map fun e : Nat => (e : Int)).take (i + 1))) F5 N5 off (.inr ⟨_, .tail _ (.tail _ (.head _)), rfl, _, rfl⟩) ⟨rfl, ?_⟩
      rw [List.take_add_one, hxi]
      exact IntsAre.append hys (.cons _ _ .nil)
  · rintro ys extra hyl ⟨rfl, hys⟩ D3 h3 tk3 F5 N5 off
    simp only [List.append_nil] at N5
    clear N
    have hys' : IntsAre ys [((x : Nat) : Int), (y : Nat), (z : Nat), (d : Nat)] := hys
    clear hys
    obtain ⟨w0, w1, w2, w3, rfl⟩ := four_ints hys'
    clear hys'
    walk_at "to e"
    · rename (_ + _ + _ = _) => heq
      have heq' : x + y + z = d := by
        have q : ((x + y + z : Nat) : Int) = (d : Nat) := heq
        exact_mod_cast q
      have hx : x < p := ex ▸ Nat.mod_lt _ (by omega)
      have hy : y < p := ey ▸ Nat.mod_lt _ (by omega)
      have hd : d < p := ed ▸ Nat.mod_lt _ (by omega)
      have hC1 := C_small (d := d) (x := x) (by omega) (by omega)
      rename Fr base L _ _ => F7
      rename News base L _ _ => N7
      refine ways_call B F7 X₀ N7 T rfl rfl (n := ((d : Nat) : Int)) (k := ((x : Nat) : Int)) (by omega) (by omega) (by omega) (by omega) ?_
      intro h4 t4 tk4 F8 N8
      clear F7 N7
      walk_at "to e"
      rename Fr base L _ _ => F9
      rename News base L _ _ => N9
      refine ways_call B F9 X₀ N9 T rfl rfl (n := ((d : Nat) : Int) - (x : Nat)) (k := ((y : Nat) : Int)) (by omega) (by omega) (by omega) (by omega) ?_
      intro h5 t5 tk5 F10 N10
      clear F9 N9
      rw [Int.toNat_natCast, Int.toNat_natCast, show (((d : Nat) : Int) - (x : Nat)).toNat = d - x by omega, Int.toNat_natCast]
      refine mul_int ?_ (IntMulOk.of_left (intBits_le_64 (by omega) (by omega)))
      dsimp only
      refine mul_int ?_ (IntMulOk.of_left (intBits_le_64 (by omega) (by omega)))
      walk_at "to e"
      rename Fr base L _ _ => F11
      rename News base L _ _ => N11
      refine h _ _ _ _ _ _ F11 (fun q hq => N11 q (.tail _ hq)) (congrArg (fun z => some (Value.int z _)) (Int.ofNat_fdiv (x + y + z + cy) p).symm) (congrArg (fun z => some (Value.int z _)) (congrArg (fun z => ((cr : Nat) : Int) + z) (Int.ofNat_fdiv (x + y + z + cy) p).symm)) (congrArg (fun z => some (Value.int z _)) ?_) ?_
      · rw [if_pos heq']
        exact (Int.ofNat_fmod (pr * (C d x * C (d - x) y)) p).symm
      · intro u h1 h2 h3 h4 h5 h6 h7
        simp only [h1, h2, h3, h4, h5, h6, h7, if_false]
    · rename Fr base L _ _ => F8
      rename News base L _ _ => N8
      rename (¬ _ = _) => hne
      have hne' : ¬ (x + y + z = d) := fun q => hne (by rw [← q]; rfl)
      refine h _ _ _ _ _ _ F8 (fun q hq => N8 q (.tail _ hq)) (congrArg (fun z => some (Value.int z _)) (Int.ofNat_fdiv (x + y + z + cy) p).symm) (congrArg (fun z => some (Value.int z _)) (congrArg (fun z => ((cr : Nat) : Int) + z) (Int.ofNat_fdiv (x + y + z + cy) p).symm)) (congrArg (fun z => some (Value.int z _)) ?_) ?_
      · rw [if_neg hne']
        exact (Int.ofNat_fmod (pr * 0) p).symm
      · intro u h1 h2 h3 h4 h5 h6 h7
        simp only [h1, h2, h3, h4, h5, h6, h7, if_false]
end

section
theorem lens_pick {q0 q1 q2 q3 : Nat × List Value} {i : Nat} {v : Value} (hl : q0.2.length ≤ 31 ∧ q1.2.length ≤ 31 ∧ q2.2.length ≤ 31 ∧ q3.2.length ≤ 31) (hv : (#[Value.ref q0.1, .ref q1.1, .ref q2.1, .ref q3.1] : Array Value)[i]? = some v) :
    ∃ q : Nat × List Value, v = .ref q.1 ∧ q ∈ [q0, q1, q2, q3] ∧ q.2.length ≤ 31 ∧ ([q0.2.length, q1.2.length, q2.2.length, q3.2.length].map fun e : Nat => (e : Int))[i]? = some ((q.2.length : Nat) : Int) := by
  match i, hv with
  | 0, hv => cases hv; exact ⟨q0, rfl, by simp, hl.1, rfl⟩
  | 1, hv => cases hv; exact ⟨q1, rfl, by simp, hl.2.1, rfl⟩
  | 2, hv => cases hv; exact ⟨q2, rfl, by simp, hl.2.2.1, rfl⟩
  | 3, hv => cases hv; exact ⟨q3, rfl, by simp, hl.2.2.2, rfl⟩
  | _ + 4, hv => simp at hv
set_option maxHeartbeats 1000000 in
theorem seg7 {w : World} {base : Heap} {L fa aR : Nat} {cd : Value} {m mg mb : Str → Option Value} {loose : List Str} {mean : ExcName → Option Value} {s : Shared}
    {Q : Flow → Shared → Prop} {E : Value → Shared → Prop} {o2 oN : Obj} {c2 : Option Value} {aN p : Nat} {tp ty tr tq : Tok} {q0 q1 q2 q3 : Nat × List Value} {n0 n1 n2 n3 : Nat} {CI : Nat → Nat → Nat → Nat → Prop}
    (cx : Cx w base mg mb loose mean) (hE : PassesOwn (model Challenge.rw_fe0036_01.row.prog w) (LA L fa cd) (LE L fa cd) E)
    (F : Fr base L s.heap m) (N : News base L s.heap [(aR, W.listOf #[.ref q0.1, .ref q1.1, .ref q2.1, .ref q3.1] 4), (q0.1, LCg.lst q0.2), (q1.1, LCg.lst q1.2), (q2.1, LCg.lst q2.2), (q3.1, LCg.lst q3.2), (aN, oN), (L+1+1, o2)])
    (h2 : o2.data = .cell c2) (r0 : IntsAre q0.2 (digI p n0)) (r1 : IntsAre q1.2 (digI p n1)) (r2 : IntsAre q2.2 (digI p n2)) (r3 : IntsAre q3.2 (digI p n3))
    (hl : (dig p n0).length ≤ 31 ∧ (dig p n1).length ≤ 31 ∧ (dig p n2).length ≤ 31 ∧ (dig p n3).length ≤ 31) (hp1 : 2 ≤ p) (hp2 : p ≤ 13)
    (ne : q0.1 ≠ L+1+1 ∧ q1.1 ≠ L+1+1 ∧ q2.1 ≠ L+1+1 ∧ q3.1 ≠ L+1+1) (neR : aR ≠ L+1+1) (neN : aN ≠ L+1+1)
    (hR : m (Str.ofString "rows") = some (.ref aR)) (hP : m (Str.ofString "prime") = some (.int (p : Nat) tp)) (hY : m (Str.ofString "carry") = some (.int ((0 : Nat) : Int) ty)) (hC : m (Str.ofString "carried") = some (.int ((0 : Nat) : Int) tr)) (hQ : m (Str.ofString "product") = some (.int ((1 : Nat) : Int) tq))
    (ci0 : CI 0 0 0 1) (cip : ∀ i cy cr pr, CI i cy cr pr → pr < p)
    (cis : ∀ i cy cr pr, CI i cy cr pr → CI (i + 1) ((n0 / p ^ i % p + n1 / p ^ i % p + n2 / p ^ i % p + cy) / p) (cr + (n0 / p ^ i % p + n1 / p ^ i % p + n2 / p ^ i % p + cy) / p)
      ((pr * (if n0 / p ^ i % p + n1 / p ^ i % p + n2 / p ^ i % p = n3 / p ^ i % p then C (n3 / p ^ i % p) (n0 / p ^ i % p) * C (n3 / p ^ i % p - n0 / p ^ i % p) (n1 / p ^ i % p) else 0)) % p))
    (h : ∀ h' tk m' K cy cr pr t1 t2, Fr base L h' m' → News base L h' [(aR, W.listOf #[.ref q0.1, .ref q1.1, .ref q2.1, .ref q3.1] 4), (q0.1, LCg.lst q0.2), (q1.1, LCg.lst q1.2), (q2.1, LCg.lst q2.2), (q3.1, LCg.lst q3.2), (aN, oN)] →
      m' (Str.ofString "carried") = some (.int (cr : Nat) t1) → m' (Str.ofString "product") = some (.int (pr : Nat) t2) → CI K cy cr pr → (dig p n3).length ≤ K →
      (∀ u, u ≠ Str.ofString "one" → u ≠ Str.ofString "two" → u ≠ Str.ofString "three" → u ≠ Str.ofString "due" → u ≠ Str.ofString "carry" → u ≠ Str.ofString "carried" → u ≠ Str.ofString "product" → m' u = m u) → Q .next { s with heap := h', toks := tk }) :
    wpAny (model Challenge.rw_fe0036_01.row.prog w) (LA L fa cd) (exec (lawStmt 7) (LE L fa cd)) Q E s := by
  have cx' := cx
  obtain ⟨B, X₀, T⟩ := cx
  refine exec_as (st' := .For (.Name (Str.ofString "k") _) _ (forBody (lawStmt 7)) [] _) rfl ?_
  have hL : q0.2.length ≤ 31 ∧ q1.2.length ≤ 31 ∧ q2.2.length ≤ 31 ∧ q3.2.length ≤ 31 := by
    rw [r0.length, r1.length, r2.length, r3.length, digI_length, digI_length, digI_length, digI_length]; exact hl
  have hL3 : q3.2.length = (dig p n3).length := by rw [r3.length, digI_length]
  refine For_cell (h₀ := base) (ck := L+1+1) (by rfl) (by rfl) (by rfl) rfl ?_ (hE := hE)
  walk_at "to e"
  refine LCg.ListComp_U F (by with_unfolding_all rfl) (by decide) (by rfl) (by decide) (by rfl) ?_
  walk_at "to e"
  refine LCg.CompSrc.ledger rfl F N (.head _) (by show 4 ≤ sizeLine; rw [sizeLine_eq]; decide) ?_
  intro g
  refine rest_ind (fun i ys extra => extra = [] ∧ IntsAre ys (([q0.2.length, q1.2.length, q2.2.length, q3.2.length].map fun e : Nat => (e : Int)).take i)) ⟨rfl, .nil⟩ ?_ ?_
  · rintro i v ys extra I' oI' C' oC' D' m₂ h3 tk3 E' hi hv ⟨rfl, hys⟩ hyl hC' hx F5 N5 off ne2
    obtain ⟨q, rfl, hq, hlen, hxi⟩ := lens_pick hL hv
    have N6 : News base L h3 ((q.1, LCg.lst q.2) :: (C', oC') :: []) := by
      intro u hu
      refine N5 u ?_
      simp only [List.mem_cons, List.not_mem_nil, or_false, List.append_nil] at hu hq ⊢
      rcases hu with rfl | rfl
      · rcases hq with rfl | rfl | rfl | rfl <;> simp
      · simp
    clear N
    walk_at "to e"
    refine kst_len N6 (.head _) rfl (by omega) ?_
    dsimp only
    refine compEnd_none (news := [(aR, W.listOf #[.ref q0.1, .ref q1.1, .ref q2.1, .ref q3.1] 4), (q0.1, LCg.lst q0.2), (q1.1, LCg.lst q1.2), (q2.1, LCg.lst q2.2), (q3.1, LCg.lst q3.2), (aN, oN), (L+1+1, o2)]) (PL := fun y1 extra => extra = [] ∧ IntsAre (ys ++ [y1]) (([q0.2.length, q1.2.length, q2.2.length, q3.2.length].map fun e : Nat => (e : Int)).take (i + 1))) F5 N5 off (.inr ⟨_, .head _, rfl, _, rfl⟩) ⟨rfl, ?_⟩
    rw [List.take_add_one, hxi]
    exact IntsAre.append hys (.cons _ _ .nil)
  · rintro ys extra hyl ⟨rfl, hys⟩ D3 h3 tk3 F5 N5 off
    simp only [List.append_nil] at N5
    have hys' : IntsAre ys [((q0.2.length : Nat) : Int), (q1.2.length : Nat), (q2.2.length : Nat), (q3.2.length : Nat)] := hys
    clear hys N
    obtain ⟨w0, w1, w2, w3, rfl⟩ := four_ints hys'
    clear hys'
    walk_at "to e"
    rename IsRange _ _ _ _ _ _ _ _ => hr
    rename Fr base L _ _ => F6
    rename News base L _ _ => N6
    rename (_ ≤ _ ∧ _ ≤ _ ∧ _ ≤ _ ∧ _ ≤ _) => hM1
    rename (_ = _ ∨ _ = _ ∨ _ = _ ∨ _ = _) => hM2
    rename Int => M
    have hM : 0 ≤ M ∧ M ≤ 31 := by omega
    refine ⟨_, M, _, _, _, M.toNat, m, [(aR, W.listOf #[.ref q0.1, .ref q1.1, .ref q2.1, .ref q3.1] 4), (q0.1, LCg.lst q0.2), (q1.1, LCg.lst q1.2), (q2.1, LCg.lst q2.2), (q3.1, LCg.lst q3.2), (aN, oN)], o2, c2,
      fun i m₁ nx₁ => nx₁ = [(aR, W.listOf #[.ref q0.1, .ref q1.1, .ref q2.1, .ref q3.1] 4), (q0.1, LCg.lst q0.2), (q1.1, LCg.lst q1.2), (q2.1, LCg.lst q2.2), (q3.1, LCg.lst q3.2), (aN, oN)] ∧
        ∃ cy cr pr t1 t2 t3, m₁ (Str.ofString "carry") = some (.int (cy : Nat) t1) ∧ m₁ (Str.ofString "carried") = some (.int (cr : Nat) t2) ∧ m₁ (Str.ofString "product") = some (.int (pr : Nat) t3) ∧ CI i cy cr pr ∧
          (∀ u, u ≠ Str.ofString "one" → u ≠ Str.ofString "two" → u ≠ Str.ofString "three" → u ≠ Str.ofString "due" → u ≠ Str.ofString "carry" → u ≠ Str.ofString "carried" → u ≠ Str.ofString "product" → m₁ u = m u),
      rfl, hr, small_one (by omega) (by omega) (by omega) (by omega), (rangeSize_nat _ _).trans (by omega), F6, ?_, h2, ?_, ⟨rfl, 0, 0, 1, ty, tr, tq, hY, hC, hQ, ci0, fun _ _ _ _ _ _ _ _ => rfl⟩, ?_, ?_⟩
    · intro q hq
      refine N6 q ?_
      simp only [List.mem_cons, List.not_mem_nil, or_false] at hq ⊢
      rcases hq with h | h | h | h | h | h | h <;> (repeat (first | exact h | exact Or.inl h | refine Or.inr ?_))
    · intro q hq
      simp only [List.mem_cons, List.not_mem_nil, or_false] at hq
      rcases hq with rfl | rfl | rfl | rfl | rfl | rfl
      · exact neR
      · exact ne.1
      · exact ne.2.1
      · exact ne.2.2.1
      · exact ne.2.2.2
      · exact neN
    · rintro I i k t m₁ nx₁ h4 tk4 o₁ oI hi rfl ⟨rfl, cy, cr, pr, t1, t2, t3, hY1, hC1, hQ1, hci, hm1⟩ hd₁ off₁ hckI F₁ N₁
      refine carry_turn (rest := [(aN, oN)]) (n0 := n0) (n1 := n1) (n2 := n2) (n3 := n3) cx' F₁ N₁ hd₁ r0 r1 r2 r3 (by omega) ⟨by omega, by omega, by omega, by omega⟩ rfl rfl rfl rfl hp1 hp2 (cip _ _ _ _ hci)
        ((hm1 _ (by decide) (by decide) (by decide) (by decide) (by decide) (by decide) (by decide)).trans hR) ((hm1 _ (by decide) (by decide) (by decide) (by decide) (by decide) (by decide) (by decide)).trans hP) hY1 hC1 hQ1 ?_
      intro h5 tk5 m5 u1 u2 u3 F5 N5 hY5 hC5 hQ5 hm5
      exact ⟨h5, tk5, m5, _, rfl, F5, N5, off₁, rfl, _, _, _, u1, u2, u3, hY5, hC5, hQ5, cis _ _ _ _ hci, fun u a1 a2 a3 a4 a5 a6 a7 => (hm5 u a1 a2 a3 a4 a5 a6 a7).trans (hm1 u a1 a2 a3 a4 a5 a6 a7)⟩
    · rintro h4 tk4 m₁ nx₁ o₁ ⟨rfl, cy, cr, pr, t1, t2, t3, hY1, hC1, hQ1, hci, hm1⟩ F₁ N₁
      exact h h4 tk4 m₁ M.toNat cy cr pr t2 t3 F₁ (fun q hq => N₁ q (.tail _ hq)) hC1 hQ1 hci (by omega) hm1
end

section
set_option maxHeartbeats 1000000 in
theorem seg6 {w : World} {base : Heap} {L fa : Nat} {cd : Value} {m mg mb : Str → Option Value} {loose : List Str} {mean : ExcName → Option Value} {s : Shared} {news : List (Addr × Obj)}
    {Q : Flow → Shared → Prop} {E : Value → Shared → Prop} (cx : Cx w base mg mb loose mean) (F : Fr base L s.heap m) (N : News base L s.heap news)
    (h : ∀ h' tk m' t1 t2 t3, Fr base L h' m' → News base L h' news → m' (Str.ofString "carry") = some (.int ((0 : Nat) : Int) t1) → m' (Str.ofString "carried") = some (.int ((0 : Nat) : Int) t2) → m' (Str.ofString "product") = some (.int ((1 : Nat) : Int) t3) →
      (∀ u, u ≠ Str.ofString "carry" → u ≠ Str.ofString "carried" → u ≠ Str.ofString "product" → m' u = m u) → Q .next { s with heap := h', toks := tk }) :
    wpAny (model Challenge.rw_fe0036_01.row.prog w) (LA L fa cd) (exec (lawStmt 6) (LE L fa cd)) Q E s := by
  obtain ⟨B, X₀, T⟩ := cx
  refine exec_as (st' := .Assign _ _ _) rfl ?_
  walk_at "to e"
  rename Fr base L _ _ => F5
  rename News base L _ _ => N5
  refine h _ _ _ _ _ _ F5 (fun q hq => N5 q (by first | exact hq | exact .tail _ hq)) rfl rfl rfl (fun u h1 h2 h3 => ?_)
  simp only [h1, h2, h3, if_false]
theorem bits_le {x n : Nat} (h : x < 2 ^ n) : Builtin.Int.intBits ((x : Nat) : Int) ≤ n := by
  unfold Builtin.Int.intBits
  split
  · exact Nat.zero_le _
  · rw [Int.natAbs_natCast]
    rename ¬ _ => hx
    have hx0 : x ≠ 0 := fun q => hx (by rw [q]; rfl)
    exact (Nat.log2_lt hx0).mpr h
theorem mulOk {x y n : Nat} (hx : x < 2 ^ n) (hy : y < 2 ^ n) (hn : n ≤ 10000) : IntMulOk ((x : Nat) : Int) ((y : Nat) : Int) := by
  have h1 := bits_le hx
  have h2 := bits_le hy
  unfold IntMulOk Builtin.Int.intTooBig bitsLine
  have h3 : ¬ (((Builtin.Int.intBits ((x : Nat) : Int) + Builtin.Int.intBits ((y : Nat) : Int) : Nat) : Int) > ((2 ^ 27 : Nat) : Int)) := by
    have h4 : (2 : Nat) ^ 27 = 134217728 := by decide
    rw [h4]
    omega
  intro q
  rw [Bool.and_eq_true, decide_eq_true_eq] at q
  exact h3 q.2
set_option maxHeartbeats 1000000 in
theorem seg8 {w : World} {base : Heap} {L fa aN : Nat} {cd : Value} {m mg mb : Str → Option Value} {loose : List Str} {mean : ExcName → Option Value} {s : Shared} {rest : List (Addr × Obj)}
    {Q : Flow → Shared → Prop} {E : Value → Shared → Prop} {a b c : Nat} {t0 t1 t2 tw : Tok} (cx : Cx w base mg mb loose mean)
    (F : Fr base L s.heap m) (N : News base L s.heap ((aN, W.listOf #[.int a t0, .int b t1, .int c t2] 0) :: rest)) (ha : a ≤ 40) (hb : b ≤ 40) (hc : c < 2 ^ 30)
    (hn : m (Str.ofString "numbers") = some (.ref aN)) (hw : m (Str.ofString "whole") = some (.int ((a + b + c : Nat)) tw))
    (h : ∀ h' tk m' t3 t4, Fr base L h' m' → News base L h' ((aN, W.listOf #[.int a t0, .int b t1, .int c t2] 0) :: rest) → m' (Str.ofString "ways") = some (.int ((C (a + b + c) a * C (b + c) b : Nat)) t3) → m' (Str.ofString "times") = some (.int ((0 : Nat) : Int) t4) →
      (∀ u, u ≠ Str.ofString "ways" → u ≠ Str.ofString "times" → m' u = m u) → Q .next { s with heap := h', toks := tk }) :
    wpAny (model Challenge.rw_fe0036_01.row.prog w) (LA L fa cd) (exec (lawStmt 8) (LE L fa cd)) Q E s := by
  obtain ⟨B, X₀, T⟩ := cx
  refine exec_as (st' := .Assign _ _ _) rfl ?_
  walk_at "to e"
  rename Fr base L _ _ => F1
  rename News base L _ _ => N1
  refine ways_call B F1 X₀ N1 T rfl rfl (n := ((a + b + c : Nat) : Int)) (k := ((a : Nat) : Int)) (by omega) (by omega) (by omega) (by omega) ?_
  intro h4 t4 tk4 F2 N2
  clear F1 N1
  walk_at "to e"
  rename Fr base L _ _ => F1
  rename News base L _ _ => N1
  refine ways_call B F1 X₀ N1 T rfl rfl (n := ((a + b + c : Nat) : Int) - (a : Nat)) (k := ((b : Nat) : Int)) (by omega) (by omega) (by omega) (by omega) ?_
  intro h5 t5 tk5 F3 N3
  clear F1 N1
  rw [Int.toNat_natCast, Int.toNat_natCast, show (((a + b + c : Nat) : Int) - (a : Nat)).toNat = b + c by omega, Int.toNat_natCast]
  refine mul_int ?_ (mulOk (C_big (by omega) (by omega)) (C_big (by omega) (by omega)) (by decide))
  walk_at "to e"
  rename Fr base L _ _ => F5
  rename News base L _ _ => N5
  refine h _ _ _ _ _ F5 (fun q hq => N5 q (by first | exact hq | exact .tail _ hq)) rfl rfl (fun u h1 h2 => ?_)
  simp only [h1, h2, if_false]
end

section
set_option maxHeartbeats 1000000 in
theorem seg9 {w : World} {base : Heap} {L fa : Nat} {cd : Value} {m mg mb : Str → Option Value} {loose : List Str} {mean : ExcName → Option Value} {s : Shared} {news : List (Addr × Obj)}
    {Q : Flow → Shared → Prop} {E : Value → Shared → Prop} {W pr p : Nat} {t1 t2 t3 : Tok} (cx : Cx w base mg mb loose mean) (F : Fr base L s.heap m) (N : News base L s.heap news)
    (hp1 : 2 ≤ p) (hW : m (Str.ofString "ways") = some (.int (W : Nat) t1)) (hP : m (Str.ofString "prime") = some (.int (p : Nat) t2)) (hR : m (Str.ofString "product") = some (.int (pr : Nat) t3))
    (e : ((W : Nat) : Int).fmod (p : Nat) = ((pr : Nat) : Int).fmod (p : Nat))
    (h : ∀ h' tk, Fr base L h' m → News base L h' news → Q .next { s with heap := h', toks := tk }) :
    wpAny (model Challenge.rw_fe0036_01.row.prog w) (LA L fa cd) (exec (lawStmt 9) (LE L fa cd)) Q E s := by
  obtain ⟨B, X₀, T⟩ := cx
  refine exec_as (st' := .If _ _ _ _) rfl ?_
  walk_at "to e"
  · rename (_ ≠ _) => hne
    exact absurd e hne
  · exact h _ _ (by assumption) (by assumption)
theorem ways_step {p k V S : Nat} {wk : Int} (hp : 2 ≤ p) (hkS : k ≤ S) (hV : V % p ≠ 0) (hwk : ((p ^ k * V : Nat) : Int) = wk) (hz : wk.fmod (p : Nat) = 0) :
    ∃ j, k = j + 1 ∧ wk.fdiv (p : Nat) = ((p ^ j * V : Nat) : Int) ∧ ((S - k : Nat) : Int) + 1 = ((S - j : Nat) : Int) := by
  cases k with
  | zero =>
    rw [Nat.pow_zero, Nat.one_mul] at hwk
    rw [← hwk, ← Int.ofNat_fmod] at hz
    exact absurd (by exact_mod_cast hz) hV
  | succ j =>
    refine ⟨j, rfl, ?_, by omega⟩
    rw [← hwk, ← Int.ofNat_fdiv, Nat.pow_succ]
    have e : p ^ j * p * V / p = p ^ j * V := by
      rw [Nat.mul_assoc, Nat.mul_comm p V, ← Nat.mul_assoc]
      exact Nat.mul_div_cancel _ (by omega)
    rw [e]
theorem ways_stop {p k V : Nat} {wk : Int} (_hp : 2 ≤ p) (hwk : ((p ^ k * V : Nat) : Int) = wk) (hz : wk.fmod (p : Nat) ≠ 0) : k = 0 := by
  cases k with
  | zero => rfl
  | succ j =>
    refine absurd ?_ hz
    rw [← hwk, ← Int.ofNat_fmod, Nat.pow_succ]
    have e : p ^ j * p * V % p = 0 := by
      rw [Nat.mul_assoc, Nat.mul_comm p V, ← Nat.mul_assoc]
      exact Nat.mul_mod_left _ _
    rw [e]; rfl
set_option maxHeartbeats 1000000 in
theorem seg10 {w : World} {base : Heap} {L fa : Nat} {cd : Value} {m mg mb : Str → Option Value} {loose : List Str} {mean : ExcName → Option Value} {s : Shared} {news : List (Addr × Obj)}
    {Q : Flow → Shared → Prop} {E : Value → Shared → Prop} {V S p : Nat} {t1 t2 t3 : Tok} (cx : Cx w base mg mb loose mean) (hE : PassesOwn (model Challenge.rw_fe0036_01.row.prog w) (LA L fa cd) (LE L fa cd) E) (F : Fr base L s.heap m) (N : News base L s.heap news)
    (hp1 : 2 ≤ p) (hp2 : p ≤ 13) (hV : V % p ≠ 0) (hW : m (Str.ofString "ways") = some (.int ((p ^ S * V : Nat)) t1)) (hP : m (Str.ofString "prime") = some (.int (p : Nat) t2)) (hT : m (Str.ofString "times") = some (.int ((0 : Nat) : Int) t3))
    (h : ∀ h' tk m' t4, Fr base L h' m' → News base L h' news → m' (Str.ofString "times") = some (.int (S : Nat) t4) → (∀ u, u ≠ Str.ofString "ways" → u ≠ Str.ofString "times" → m' u = m u) → Q .next { s with heap := h', toks := tk }) :
    wpAny (model Challenge.rw_fe0036_01.row.prog w) (LA L fa cd) (exec (lawStmt 10) (LE L fa cd)) Q E s := by
  obtain ⟨B, X₀, T⟩ := cx
  refine exec_as (st' := .While _ _ _ _) rfl ?_
  refine While_inv2 (fun k m₁ nx => nx = news ∧ k ≤ S ∧ (∃ t, m₁ (Str.ofString "ways") = some (.int ((p ^ k * V : Nat)) t)) ∧ (∃ t, m₁ (Str.ofString "times") = some (.int ((S - k : Nat)) t)) ∧ (∀ u, u ≠ Str.ofString "ways" → u ≠ Str.ofString "times" → m₁ u = m u)) (n₀ := S) F N ⟨rfl, Nat.le_refl _, ⟨_, hW⟩, ⟨_, by rw [Nat.sub_self]; exact hT⟩, fun _ _ _ => rfl⟩ ?_ hE
  rintro k m3 nx h3 tk3 F3 N3 ⟨rfl, hkS, ⟨ti, hW3⟩, ⟨tt, hT3⟩, hm3⟩
  have hP3 : m3 (Str.ofString "prime") = some (.int (p : Nat) t2) := (hm3 _ (by decide) (by decide)).trans hP
  generalize hwk : ((p ^ k * V : Nat) : Int) = wk at hW3
  walk_at "to e"
  · rename Fr base L _ _ => F5
    rename News base L _ _ => N5
    rename (Int.fmod _ _ = 0) => hz
    obtain ⟨j, rfl, e1, e2⟩ := ways_step hp1 hkS hV hwk hz
    rw [e1] at F5
    exact ⟨_, _, _, _, j, rfl, F5, fun q hq => N5 q (by first | exact hq | exact .tail _ hq), Nat.lt_succ_self _, rfl, by omega, ⟨_, rfl⟩, ⟨_, congrArg (fun z => some (Value.int z _)) e2⟩, fun u h1 h2 => by simp only [h1, h2, if_false]; exact hm3 u h1 h2⟩
  · rename (Int.fmod _ _ ≠ 0) => hz
    have hk0 := ways_stop hp1 hwk hz
    subst hk0
    exact h _ _ _ _ (by assumption) (by assumption) hT3 hm3
end

section
theorem sums_pick {q0 q1 q2 q3 : Nat × List Value} {n0 n1 n2 n3 p i : Nat} {v : Value} (r0 : IntsAre q0.2 (digI p n0)) (r1 : IntsAre q1.2 (digI p n1)) (r2 : IntsAre q2.2 (digI p n2)) (r3 : IntsAre q3.2 (digI p n3))
    (hv : (#[Value.ref q0.1, .ref q1.1, .ref q2.1, .ref q3.1] : Array Value)[i]? = some v) :
    ∃ (q : Nat × List Value) (nn : Nat), v = .ref q.1 ∧ q ∈ [q0, q1, q2, q3] ∧ IntsAre q.2 (digI p nn) ∧ ([ds p n0, ds p n1, ds p n2, ds p n3].map fun e : Nat => (e : Int))[i]? = some ((ds p nn : Nat) : Int) := by
  match i, hv with
  | 0, hv => cases hv; exact ⟨q0, n0, rfl, by simp, r0, rfl⟩
  | 1, hv => cases hv; exact ⟨q1, n1, rfl, by simp, r1, rfl⟩
  | 2, hv => cases hv; exact ⟨q2, n2, rfl, by simp, r2, rfl⟩
  | 3, hv => cases hv; exact ⟨q3, n3, rfl, by simp, r3, rfl⟩
  | _ + 4, hv => simp at hv
set_option maxHeartbeats 1000000 in
theorem seg11 {w : World} {base : Heap} {L fa aR : Nat} {cd : Value} {m mg mb : Str → Option Value} {loose : List Str} {mean : ExcName → Option Value} {s : Shared}
    {Q : Flow → Shared → Prop} {E : Value → Shared → Prop} {p n : Nat} {tw : Tok} {q0 q1 q2 q3 : Nat × List Value} {n0 n1 n2 n3 : Nat}
    (cx : Cx w base mg mb loose mean)
    (F : Fr base L s.heap m) (N : News base L s.heap [(aR, W.listOf #[.ref q0.1, .ref q1.1, .ref q2.1, .ref q3.1] 4), (q0.1, LCg.lst q0.2), (q1.1, LCg.lst q1.2), (q2.1, LCg.lst q2.2), (q3.1, LCg.lst q3.2)])
    (r0 : IntsAre q0.2 (digI p n0)) (r1 : IntsAre q1.2 (digI p n1)) (r2 : IntsAre q2.2 (digI p n2)) (r3 : IntsAre q3.2 (digI p n3))
    (hR : m (Str.ofString "rows") = some (.ref aR)) (hW : m (Str.ofString "whole") = some (.int (n : Nat) tw))
    (h : ∀ h' tk m' (aS : Nat) w0 w1 w2 w3 t1 t2, Fr base L h' m' → News base L h' [(aS, LCg.lst [.int (ds p n0 : Nat) w0, .int (ds p n1 : Nat) w1, .int (ds p n2 : Nat) w2, .int (ds p n3 : Nat) w3])] →
      m' (Str.ofString "sums") = some (.ref aS) → m' (Str.ofString "left") = some (.int (n : Nat) t1) → m' (Str.ofString "shared") = some (.int ((0 : Nat) : Int) t2) →
      (∀ u, u ≠ Str.ofString "sums" → u ≠ Str.ofString "left" → u ≠ Str.ofString "shared" → m' u = m u) → Q .next { s with heap := h', toks := tk }) :
    wpAny (model Challenge.rw_fe0036_01.row.prog w) (LA L fa cd) (exec (lawStmt 11) (LE L fa cd)) Q E s := by
  obtain ⟨B, X₀, T⟩ := cx
  refine exec_as (st' := .Assign _ _ _) rfl ?_
  walk_at "to e"
  refine LCg.ListComp_U F (by with_unfolding_all rfl) (by decide) (by rfl) (by decide) (by rfl) ?_
  walk_at "to e"
  refine LCg.CompSrc.ledger rfl F N (.head _) (by show 4 ≤ sizeLine; rw [sizeLine_eq]; decide) ?_
  intro g
  refine rest_ind (fun i ys extra => extra = [] ∧ IntsAre ys (([ds p n0, ds p n1, ds p n2, ds p n3].map fun e : Nat => (e : Int)).take i)) ⟨rfl, .nil⟩ ?_ ?_
  · rintro i v ys extra I' oI' C' oC' D' m₂ h3 tk3 E' hi hv ⟨rfl, hys⟩ hyl hC' hx F5 N5 off ne2
    obtain ⟨q, nn, rfl, hq, hI, hxi⟩ := sums_pick r0 r1 r2 r3 hv
    have N6 : News base L h3 ((q.1, LCg.lst q.2) :: (I', oI') :: (C', oC') :: (D', LCg.lst ys) :: ([(aR, W.listOf #[.ref q0.1, .ref q1.1, .ref q2.1, .ref q3.1] 4), (q0.1, LCg.lst q0.2), (q1.1, LCg.lst q1.2), (q2.1, LCg.lst q2.2), (q3.1, LCg.lst q3.2)] ++ [])) := by
      intro u hu
      rcases List.mem_cons.mp hu with rfl | hu
      · refine N5 _ ?_
        simp only [List.mem_cons, List.not_mem_nil, or_false, List.append_nil] at hq ⊢
        rcases hq with rfl | rfl | rfl | rfl <;> simp
      · exact N5 u hu
    clear N N5 r0 r1 r2 r3
    simp only [List.append_nil] at N6
    walk_at "to e"
    rename Fr base L _ _ => F8
    rename News base L _ _ => N8
    rw [digI_sum]
    refine compEnd_none (news := [(aR, W.listOf #[.ref q0.1, .ref q1.1, .ref q2.1, .ref q3.1] 4), (q0.1, LCg.lst q0.2), (q1.1, LCg.lst q1.2), (q2.1, LCg.lst q2.2), (q3.1, LCg.lst q3.2)]) (PL := fun y1 extra => extra = [] ∧ IntsAre (ys ++ [y1]) (([ds p n0, ds p n1, ds p n2, ds p n3].map fun e : Nat => (e : Int)).take (i + 1))) F8 (fun u hu => N8 u (.tail _ hu)) off (.inr ⟨_, .head _, rfl, _, rfl⟩) ⟨rfl, ?_⟩
    rw [List.take_add_one, hxi]
    exact IntsAre.append hys (.cons _ _ .nil)
  · rintro ys extra hyl ⟨rfl, hys⟩ D3 h3 tk3 F5 N5 off
    simp only [List.append_nil] at N5
    have hys' : IntsAre ys [((ds p n0 : Nat) : Int), (ds p n1 : Nat), (ds p n2 : Nat), (ds p n3 : Nat)] := hys
    clear hys N
    obtain ⟨w0, w1, w2, w3, rfl⟩ := four_ints hys'
    clear hys'
    walk_at "to e"
    rename Fr base L _ _ => F8
    rename News base L _ _ => N8
    refine h _ _ _ _ _ _ _ _ _ _ F8 (fun q hq => N8 q (by rw [List.mem_singleton.mp hq]; first | exact .head _ | exact .tail _ (.head _))) rfl rfl rfl (fun u h1 h2 h3 => ?_)
    simp only [h1, h2, h3, if_false]
end

section
set_option maxHeartbeats 1000000 in
theorem seg12 {w : World} {base : Heap} {L fa : Nat} {cd : Value} {m mg mb : Str → Option Value} {loose : List Str} {mean : ExcName → Option Value} {s : Shared} {news : List (Addr × Obj)} {SI : Nat → Nat → Prop}
    {Q : Flow → Shared → Prop} {E : Value → Shared → Prop} {n p : Nat} {t1 t2 t3 : Tok} (cx : Cx w base mg mb loose mean) (hE : PassesOwn (model Challenge.rw_fe0036_01.row.prog w) (LA L fa cd) (LE L fa cd) E) (F : Fr base L s.heap m) (N : News base L s.heap news)
    (hp1 : 2 ≤ p) (hp2 : p ≤ 13) (hW : m (Str.ofString "left") = some (.int (n : Nat) t1)) (hP : m (Str.ofString "prime") = some (.int (p : Nat) t2)) (hT : m (Str.ofString "shared") = some (.int ((0 : Nat) : Int) t3))
    (si0 : SI n 0) (sis : ∀ k sh, SI k sh → SI (k / p) (sh + k / p))
    (h : ∀ h' tk m' sh t4, Fr base L h' m' → News base L h' news → m' (Str.ofString "shared") = some (.int (sh : Nat) t4) → SI 0 sh → (∀ u, u ≠ Str.ofString "left" → u ≠ Str.ofString "shared" → m' u = m u) → Q .next { s with heap := h', toks := tk }) :
    wpAny (model Challenge.rw_fe0036_01.row.prog w) (LA L fa cd) (exec (lawStmt 12) (LE L fa cd)) Q E s := by
  obtain ⟨B, X₀, T⟩ := cx
  refine exec_as (st' := .While _ _ _ _) rfl ?_
  refine While_inv2 (fun k m₁ nx => nx = news ∧ (∃ t, m₁ (Str.ofString "left") = some (.int (k : Nat) t)) ∧ (∃ sh t, m₁ (Str.ofString "shared") = some (.int (sh : Nat) t) ∧ SI k sh) ∧ (∀ u, u ≠ Str.ofString "left" → u ≠ Str.ofString "shared" → m₁ u = m u)) (n₀ := n) F N ⟨rfl, ⟨_, hW⟩, ⟨_, _, hT, si0⟩, fun _ _ _ => rfl⟩ ?_ hE
  rintro k m3 nx h3 tk3 F3 N3 ⟨rfl, ⟨ti, hW3⟩, ⟨sh, tt, hT3, hsi⟩, hm3⟩
  have hP3 : m3 (Str.ofString "prime") = some (.int (p : Nat) t2) := (hm3 _ (by decide) (by decide)).trans hP
  walk_at "to e"
  · rename Fr base L _ _ => F5
    rename News base L _ _ => N5
    rename (((k : Nat) : Int) ≠ 0) => hz
    have hk0 : k ≠ 0 := fun q => hz (by rw [q]; rfl)
    exact ⟨_, _, _, _, k / p, rfl, F5, N5, Nat.div_lt_self (by omega) (by omega), rfl, ⟨_, congrArg (fun z => some (Value.int z _)) (Int.ofNat_fdiv k p).symm⟩, ⟨sh + k / p, _, congrArg (fun z => some (Value.int z _)) (congrArg (fun z => ((sh : Nat) : Int) + z) (Int.ofNat_fdiv k p).symm), sis _ _ hsi⟩, fun u h1 h2 => by simp only [h1, h2, if_false]; exact hm3 u h1 h2⟩
  · rename (((k : Nat) : Int) = 0) => hz
    have hk0 : k = 0 := by omega
    subst hk0
    exact h _ _ _ _ _ (by assumption) (by assumption) hT3 hsi hm3
set_option maxHeartbeats 1000000 in
theorem seg13 {w : World} {base : Heap} {L fa aS : Nat} {cd : Value} {m mg mb : Str → Option Value} {loose : List Str} {mean : ExcName → Option Value} {s : Shared} {rest : List (Addr × Obj)}
    {Q : Flow → Shared → Prop} {E : Value → Shared → Prop} {S cr n p sh x y z d : Nat} {t1 t2 t3 t4 t5 w0 w1 w2 w3 : Tok} (cx : Cx w base mg mb loose mean) (F : Fr base L s.heap m) (N : News base L s.heap ((aS, LCg.lst [.int (x : Nat) w0, .int (y : Nat) w1, .int (z : Nat) w2, .int (d : Nat) w3]) :: rest))
    (hp1 : 2 ≤ p) (hp2 : p ≤ 13) (hT : m (Str.ofString "times") = some (.int (S : Nat) t1)) (hC : m (Str.ofString "carried") = some (.int (cr : Nat) t2)) (hW : m (Str.ofString "whole") = some (.int (n : Nat) t3)) (hP : m (Str.ofString "prime") = some (.int (p : Nat) t4)) (hH : m (Str.ofString "shared") = some (.int (sh : Nat) t5)) (hS : m (Str.ofString "sums") = some (.ref aS))
    (e1 : S = cr) (e2 : (n : Int) - (d : Nat) = ((p : Nat) - 1) * (sh : Nat)) (e3 : ((p : Nat) - 1 : Int) * (cr : Nat) = (x : Nat) + (y : Nat) + (z : Nat) - (d : Nat))
    (h : ∀ h' tk, Fr base L h' m → Q (.ret (.bool true)) { s with heap := h', toks := tk }) :
    wpAny (model Challenge.rw_fe0036_01.row.prog w) (LA L fa cd) (exec (lawStmt 13) (LE L fa cd)) Q E s := by
  obtain ⟨B, X₀, T⟩ := cx
  refine exec_as (st' := .Return _ _) rfl ?_
  walk_at "to e"
  · have key : ∀ bb : Bool, bb = true → ∀ s', s' = { s with heap := s'.heap, toks := s'.toks } → Fr base L s'.heap m → Q (.ret (.bool bb)) s' := by
      intro bb hbb s' hs' F'
      rw [hbb, hs']
      exact h _ _ F'
    exact key _ (beq_iff_eq.mpr e3) _ rfl (by assumption)
  · rename (_ ≠ _) => hne
    exact absurd e2 hne
  · rename (_ ≠ _) => hne
    exact absurd (congrArg Int.ofNat e1) hne
end

theorem mod_mul_congr {p a b c d : Nat} (h1 : a % p = b % p) (h2 : c % p = d % p) : (a * c) % p = (b * d) % p := by
  rw [Nat.mul_mod, h1, h2, ← Nat.mul_mod]
/-- what has an inverse by the prime -/
def Unt (p x : Nat) : Prop := ∃ e, x * e % p = 1 % p
/-- a prime of the law's -/
structure IsP (p : Nat) : Prop where
  two : 2 ≤ p
  inv : ∀ r, r < p → r ≠ 0 → ∃ e, e < p ∧ r * e % p = 1
theorem isP_of {p : Nat} (h : p ∈ [2, 3, 5, 7, 11, 13]) : IsP p ∧ p ≤ 13 := by
  simp only [List.mem_cons, List.not_mem_nil, or_false] at h
  rcases h with rfl | rfl | rfl | rfl | rfl | rfl <;> exact ⟨⟨by decide, by decide⟩, by decide⟩
theorem Unt.one {p : Nat} : Unt p 1 := ⟨1, rfl⟩
theorem Unt.mul {p a b : Nat} (ha : Unt p a) (hb : Unt p b) : Unt p (a * b) := by
  obtain ⟨e, he⟩ := ha
  obtain ⟨f, hf⟩ := hb
  refine ⟨e * f, ?_⟩
  have h := mod_mul_congr he hf
  rw [show a * b * (e * f) = a * e * (b * f) by grind, h]
theorem Unt.of_mod {p j : Nat} (P : IsP p) (h : j % p ≠ 0) : Unt p j := by
  obtain ⟨e, _, he⟩ := P.inv (j % p) (Nat.mod_lt _ (by have := P.two; omega)) h
  refine ⟨e, ?_⟩
  have h2 := P.two
  rw [Nat.mod_eq_of_lt (a := 1) (by omega), ← he]
  exact mod_mul_congr (Nat.mod_mod _ _).symm rfl
theorem Unt.cancel {p a b d : Nat} (hd : Unt p d) (h : (a * d) % p = (b * d) % p) : a % p = b % p := by
  obtain ⟨e, he⟩ := hd
  have h1 := mod_mul_congr h (rfl : e % p = e % p)
  have h2 : (a * d * e) % p = a % p := by
    rw [Nat.mul_assoc]
    have := mod_mul_congr (rfl : a % p = a % p) he
    rwa [Nat.mul_one] at this
  have h3 : (b * d * e) % p = b % p := by
    rw [Nat.mul_assoc]
    have := mod_mul_congr (rfl : b % p = b % p) he
    rwa [Nat.mul_one] at this
  rw [← h2, h1, h3]
theorem Unt.ne {p d : Nat} (hp : 2 ≤ p) (hd : Unt p d) : d % p ≠ 0 := by
  obtain ⟨e, he⟩ := hd
  intro q
  rw [Nat.mul_mod, q, Nat.zero_mul, Nat.zero_mod, Nat.mod_eq_of_lt (a := 1) (by omega)] at he
  omega
/-- the product of what the prime does not divide -/
def np (p : Nat) : Nat → Nat
  | 0 => 1
  | n + 1 => if (n + 1) % p = 0 then np p n else np p n * (n + 1)
theorem np_succ (p n : Nat) : np p (n + 1) = if (n + 1) % p = 0 then np p n else np p n * (n + 1) := rfl
theorem np_unit {p : Nat} (P : IsP p) : ∀ n, Unt p (np p n) := by
  intro n
  induction n with
  | zero => exact Unt.one
  | succ n ih =>
    rw [np_succ]
    by_cases h : (n + 1) % p = 0
    · rw [if_pos h]; exact ih
    · rw [if_neg h]
      exact ih.mul (Unt.of_mod P h)
theorem succ_div_of {p n : Nat} (_hp : 2 ≤ p) (h : (n + 1) % p = 0) : (n + 1) / p = n / p + 1 ∧ n + 1 = p * (n / p + 1) := by
  have e := Nat.div_add_mod (n + 1) p
  rw [h, Nat.add_zero] at e
  have h1 : (n + 1) / p = n / p + 1 := by
    rw [Nat.succ_div_of_dvd (Nat.dvd_of_mod_eq_zero h)]
  exact ⟨h1, by rw [← h1]; exact e.symm⟩
theorem fact_np {p : Nat} (hp : 2 ≤ p) : ∀ n, fact n = p ^ (n / p) * fact (n / p) * np p n := by
  intro n
  induction n with
  | zero => simp [fact, np]
  | succ n ih =>
    show (n + 1) * fact n = _
    rw [ih]
    rw [np_succ]
    by_cases h : (n + 1) % p = 0
    · rw [if_pos h]
      obtain ⟨h1, h2⟩ := succ_div_of hp h
      rw [h1]
      show _ = p ^ (n / p + 1) * ((n / p + 1) * fact (n / p)) * np p n
      rw [Nat.pow_succ]
      generalize hq : n / p = q at *
      rw [h2]
      grind
    · rw [if_neg h]
      have h1 : (n + 1) / p = n / p := Nat.succ_div_of_not_dvd fun hd => h (Nat.mod_eq_zero_of_dvd hd)
      rw [h1]
      grind
theorem np_mod {p : Nat} (hp : 2 ≤ p) : ∀ q r, r < p → np p (p * q + r) % p = (fact (p - 1) ^ q * fact r) % p := by
  intro q
  induction q with
  | zero =>
    intro r
    induction r with
    | zero => intro _; simp [np, fact]
    | succ r ih =>
      intro hr
      have h := ih (by omega)
      rw [Nat.mul_zero, Nat.zero_add] at h ⊢
      rw [np_succ, if_neg (by rw [Nat.mod_eq_of_lt hr]; omega), mod_mul_congr h rfl]
      show _ = (fact (p - 1) ^ 0 * ((r + 1) * fact r)) % p
      congr 1
      grind
  | succ q ihq =>
    intro r
    induction r with
    | zero =>
      intro _
      have h := ihq (p - 1) (by omega)
      have e : p * (q + 1) + 0 = p * q + (p - 1) + 1 := by rw [Nat.mul_succ]; omega
      rw [e]
      rw [np_succ, if_pos (by rw [← e, Nat.add_zero]; exact Nat.mul_mod_right _ _), h]
      show _ = (fact (p - 1) ^ (q + 1) * 1) % p
      rw [Nat.mul_one, Nat.pow_succ]
    | succ r ih =>
      intro hr
      have h := ih (by omega)
      rw [← Nat.add_assoc]
      have e : (p * (q + 1) + r + 1) % p = r + 1 := by
        rw [Nat.add_assoc, Nat.mul_add_mod, Nat.mod_eq_of_lt hr]
      rw [np_succ, if_neg (by rw [e]; omega)]
      have e2 : (p * (q + 1) + r + 1) % p = (r + 1) % p := by rw [e, Nat.mod_eq_of_lt hr]
      rw [mod_mul_congr h e2]
      show _ = (fact (p - 1) ^ (q + 1) * ((r + 1) * fact r)) % p
      congr 1
      grind
/-- the ways to deal out are a whole number, with more beside -/
theorem ways_exist (a b c k : Nat) : ∃ M, M * fact a * fact b * fact c = fact (a + b + c + k) := by
  have h1 := C_fact (b + c + k) a
  have h2 := C_fact (c + k) b
  have h3 := C_fact k c
  refine ⟨C (b + c + k + a) a * C (c + k + b) b * C (k + c) c * fact k, ?_⟩
  have e1 : b + c + k + a = a + b + c + k := by omega
  have e2 : c + k + b = b + c + k := by omega
  have e3 : k + c = c + k := by omega
  rw [e1] at h1
  rw [e2] at h2
  rw [e3] at h3
  rw [e1, e2, e3, ← h1, ← h2, ← h3]
  grind
theorem ways_fact (a b c : Nat) : C (a + b + c) a * C (b + c) b * fact a * fact b * fact c = fact (a + b + c) := by
  have h1 := C_fact (b + c) a
  have h2 := C_fact c b
  have e1 : b + c + a = a + b + c := by omega
  have e2 : c + b = b + c := by omega
  rw [e1] at h1
  rw [e2] at h2
  rw [← h1, ← h2]
  grind
/-- what holds between the places -/
structure CInv (p W sd dn : Nat) (A B G N κ S P : Nat) : Prop where
  sum : N = A + B + G + κ
  plt : P < p
  fac : ∃ Wi D U, Wi * fact A * fact B * fact G = fact N ∧ W * D = p ^ S * Wi * U ∧ Unt p D ∧ Unt p U ∧ (S = 0 → U % p = (P * D) % p)
  pz : S ≠ 0 → P = 0
  kz : S = 0 → κ = 0
  dig : sd + ds p N = (p - 1) * S + κ + ds p A + ds p B + ds p G + dn
theorem CInv.start {p a b c : Nat} (P : IsP p) : CInv p (C (a + b + c) a * C (b + c) b) (ds p a + ds p b + ds p c) (ds p (a + b + c)) a b c (a + b + c) 0 0 1 where
  sum := rfl
  plt := by have := P.two; omega
  fac := ⟨_, 1, 1, ways_fact a b c, by simp, Unt.one, Unt.one, fun _ => by simp⟩
  pz := fun h => absurd rfl h
  kz := fun _ => rfl
  dig := by simp
theorem split_digits {p A B G κ : Nat} (hp : 2 ≤ p) : (A + B + G + κ) / p = A / p + B / p + G / p + (A % p + B % p + G % p + κ) / p ∧ (A + B + G + κ) % p = (A % p + B % p + G % p + κ) % p ∧
    p * ((A % p + B % p + G % p + κ) / p) + (A + B + G + κ) % p = A % p + B % p + G % p + κ := by
  have ha := Nat.div_add_mod A p
  have hb := Nat.div_add_mod B p
  have hg := Nat.div_add_mod G p
  have e : A + B + G + κ = (A % p + B % p + G % p + κ) + p * (A / p + B / p + G / p) := by
    rw [Nat.mul_add, Nat.mul_add]; omega
  have h1 : (A + B + G + κ) / p = (A % p + B % p + G % p + κ) / p + (A / p + B / p + G / p) := by
    rw [e, Nat.add_mul_div_left _ _ (by omega)]
  have h2 : (A + B + G + κ) % p = (A % p + B % p + G % p + κ) % p := by
    rw [e, Nat.add_mul_mod_self_left]
  refine ⟨by omega, h2, ?_⟩
  rw [h2]
  exact Nat.div_add_mod _ _
/-- no carry: the product of the places' ways -/
theorem place_ways {p x y z d A B G N : Nat} (hp : 2 ≤ p) (hx : x < p) (hy : y < p) (hz : z < p) (hd : d < p) (h : x + y + z = d) (hN : N = A + B + G) :
    np p (p * N + d) % p = (C d x * C (d - x) y * (np p (p * A + x) * np p (p * B + y) * np p (p * G + z))) % p := by
  have h0 := np_mod hp N d hd
  have h1 := np_mod hp A x hx
  have h2 := np_mod hp B y hy
  have h3 := np_mod hp G z hz
  have hw := ways_fact x y z
  rw [h] at hw
  have e1 : y + z = d - x := by omega
  rw [e1] at hw
  have h4 := mod_mul_congr (mod_mul_congr h1 h2) h3
  have h5 := mod_mul_congr (rfl : (C d x * C (d - x) y) % p = (C d x * C (d - x) y) % p) h4
  rw [h0, h5, ← hw, hN, Nat.pow_add, Nat.pow_add]
  congr 1
  grind
theorem CInv.step {p W sd dn A B G N κ S P : Nat} (Pr : IsP p) (I : CInv p W sd dn A B G N κ S P) :
    CInv p W sd dn (A / p) (B / p) (G / p) (N / p) ((A % p + B % p + G % p + κ) / p) (S + (A % p + B % p + G % p + κ) / p)
      ((P * (if A % p + B % p + G % p = N % p then C (N % p) (A % p) * C (N % p - A % p) (B % p) else 0)) % p) := by
  have hp := Pr.two
  have hsum := I.sum
  have hs := split_digits (A := A) (B := B) (G := G) (κ := κ) hp
  rw [← hsum] at hs
  obtain ⟨hN', hd, hpd⟩ := hs
  have hx : A % p < p := Nat.mod_lt _ (by omega)
  have hy : B % p < p := Nat.mod_lt _ (by omega)
  have hz : G % p < p := Nat.mod_lt _ (by omega)
  have hdl : N % p < p := Nat.mod_lt _ (by omega)
  have eA := Nat.div_add_mod A p
  have eB := Nat.div_add_mod B p
  have eG := Nat.div_add_mod G p
  have eN := Nat.div_add_mod N p
  refine ⟨hN', Nat.mod_lt _ (by omega), ?_, ?_, ?_, ?_⟩
  · obtain ⟨Wi, D, U, hW, hWD, hD, hU, hcong⟩ := I.fac
    obtain ⟨M, hM⟩ := ways_exist (A / p) (B / p) (G / p) ((A % p + B % p + G % p + κ) / p)
    rw [← hN'] at hM
    refine ⟨M, D * (np p A * np p B * np p G), U * np p N, hM, ?_, hD.mul (((np_unit Pr A).mul (np_unit Pr B)).mul (np_unit Pr G)), hU.mul (np_unit Pr N), ?_⟩
    · have fA := fact_np hp A
      have fB := fact_np hp B
      have fG := fact_np hp G
      have fN := fact_np hp N
      rw [fA, fB, fG, fN, hN', Nat.pow_add, Nat.pow_add, Nat.pow_add] at hW
      rw [← hN', ← hM] at hW
      have key : Wi * (np p A * np p B * np p G) = p ^ ((A % p + B % p + G % p + κ) / p) * M * np p N := by
        have hpos : 0 < p ^ (A / p) * p ^ (B / p) * p ^ (G / p) * (fact (A / p) * fact (B / p) * fact (G / p)) := by
          have h1 : 0 < p ^ (A / p) := Nat.pow_pos (by omega)
          have h2 : 0 < p ^ (B / p) := Nat.pow_pos (by omega)
          have h3 : 0 < p ^ (G / p) := Nat.pow_pos (by omega)
          exact Nat.mul_pos (Nat.mul_pos (Nat.mul_pos h1 h2) h3) (Nat.mul_pos (Nat.mul_pos (fact_pos _) (fact_pos _)) (fact_pos _))
        refine Nat.eq_of_mul_eq_mul_left hpos ?_
        grind
      rw [Nat.pow_add]
      have e1 : W * (D * (np p A * np p B * np p G)) = p ^ S * U * (Wi * (np p A * np p B * np p G)) := by
        rw [← Nat.mul_assoc, hWD]; grind
      rw [e1, key]; grind
    · intro hS
      obtain ⟨hS0, hk0⟩ := Nat.add_eq_zero_iff.mp hS
      have hκ := I.kz hS0
      subst hκ
      rw [Nat.add_zero] at hk0 hd hpd hN' hsum
      rw [hk0, Nat.mul_zero, Nat.zero_add] at hpd
      rw [hk0, Nat.add_zero] at hN'
      rw [if_pos hpd.symm]
      have hpl := place_ways hp hx hy hz hdl hpd.symm hN'
      rw [eN, eA, eB, eG] at hpl
      have h1 := mod_mul_congr (hcong hS0) hpl
      rw [h1]
      have h2 : (P * (C (N % p) (A % p) * C (N % p - A % p) (B % p))) % p * (D * (np p A * np p B * np p G)) % p = (P * (C (N % p) (A % p) * C (N % p - A % p) (B % p))) * (D * (np p A * np p B * np p G)) % p := mod_mul_congr (Nat.mod_mod _ _) rfl
      rw [h2]
      congr 1
      grind
  · intro hS
    by_cases hS0 : S = 0
    · have hκ := I.kz hS0
      subst hκ
      rw [Nat.add_zero] at hd hpd hS
      have hk : (A % p + B % p + G % p) / p ≠ 0 := by omega
      have hne : ¬ (A % p + B % p + G % p = N % p) := by
        intro q
        rw [q] at hk
        exact hk (Nat.div_eq_of_lt hdl)
      rw [if_neg hne, Nat.mul_zero, Nat.zero_mod]
    · rw [I.pz hS0, Nat.zero_mul, Nat.zero_mod]
  · intro hS
    exact (Nat.add_eq_zero_iff.mp hS).2
  · have h1 := I.dig
    rw [ds_step (n := N) hp, ds_step (n := A) hp, ds_step (n := B) hp, ds_step (n := G) hp] at h1
    generalize hκ' : (A % p + B % p + G % p + κ) / p = κ' at *
    obtain ⟨q, rfl⟩ : ∃ q, p = q + 1 := ⟨p - 1, by omega⟩
    rw [Nat.add_sub_cancel] at h1 ⊢
    rw [Nat.add_mul, Nat.one_mul] at hpd
    rw [Nat.mul_add]
    omega
/-- behind the last place -/
theorem CInv.done {p W sd dn A B G κ S P : Nat} (Pr : IsP p) (I : CInv p W sd dn A B G 0 κ S P) :
    (∃ V, W = p ^ S * V ∧ V % p ≠ 0) ∧ W % p = P % p ∧ sd = (p - 1) * S + dn := by
  have hp := Pr.two
  have hsum := I.sum
  have hA : A = 0 := by omega
  have hB : B = 0 := by omega
  have hG : G = 0 := by omega
  have hκ : κ = 0 := by omega
  obtain ⟨Wi, D, U, hW, hWD, hD, hU, hcong⟩ := I.fac
  have hdig := I.dig
  subst hA hB hG hκ
  have hW1 : Wi = 1 := by simpa [fact] using hW
  subst hW1
  rw [Nat.mul_one] at hWD
  have hpow : ∀ S W, W * D = p ^ S * U → ∃ V, W = p ^ S * V ∧ V % p ≠ 0 := by
    intro S
    induction S with
    | zero =>
      intro W h
      rw [Nat.pow_zero, Nat.one_mul] at h
      refine ⟨W, by simp, fun q => ?_⟩
      refine hU.ne hp ?_
      rw [← h, Nat.mul_mod, q, Nat.zero_mul, Nat.zero_mod]
    | succ S ih =>
      intro W h
      have h0 : W % p = 0 % p := by
        refine hD.cancel ?_
        rw [h, Nat.pow_succ, Nat.zero_mul, Nat.mul_assoc, Nat.mul_comm p U, ← Nat.mul_assoc, Nat.mul_mod_left, Nat.zero_mod]
      have h1 := Nat.div_add_mod W p
      rw [h0, Nat.zero_mod, Nat.add_zero] at h1
      obtain ⟨V, hV, hVp⟩ := ih (W / p) (by
        refine Nat.eq_of_mul_eq_mul_left (show 0 < p by omega) ?_
        rw [← Nat.mul_assoc, h1, h, Nat.pow_succ]; grind)
      refine ⟨V, ?_, hVp⟩
      rw [← h1, hV, Nat.pow_succ]; grind
  obtain ⟨V, hV, hVp⟩ := hpow S W hWD
  refine ⟨⟨V, hV, hVp⟩, ?_, by simpa [ds_zero] using hdig⟩
  by_cases hS : S = 0
  · refine hD.cancel ?_
    rw [← hcong hS, hWD, hS]; simp
  · rw [I.pz hS, hV]
    obtain ⟨j, rfl⟩ : ∃ j, S = j + 1 := ⟨S - 1, by omega⟩
    rw [Nat.pow_succ, Nat.mul_assoc, Nat.mul_comm p V, ← Nat.mul_assoc, Nat.mul_mod_left, Nat.zero_mod]
/-- what is shared out -/
def SInv (p n : Nat) (k sh : Nat) : Prop := n + ds p k = (p - 1) * sh + k + ds p n
theorem SInv.start (p n : Nat) : SInv p n n 0 := by unfold SInv; omega
theorem SInv.step {p n k sh : Nat} (hp : 2 ≤ p) (h : SInv p n k sh) : SInv p n (k / p) (sh + k / p) := by
  unfold SInv at *
  rw [ds_step (n := k) hp] at h
  have e := Nat.div_add_mod k p
  obtain ⟨q, rfl⟩ : ∃ q, p = q + 1 := ⟨p - 1, by omega⟩
  rw [Nat.add_sub_cancel] at h ⊢
  generalize k / (q + 1) = k' at *
  rw [Nat.add_mul, Nat.one_mul] at e
  rw [Nat.mul_add]
  omega
theorem SInv.done {p n sh : Nat} (h : SInv p n 0 sh) : n = (p - 1) * sh + ds p n := by
  unfold SInv at h
  rw [ds_zero] at h
  omega

section
set_option maxHeartbeats 1000000 in
theorem law_walk {w : World} {base : Heap} {L fa ls : Nat} {cd : Value} {m mg mb : Str → Option Value} {loose : List Str} {mean : ExcName → Option Value} {s : Shared}
    {Q : Flow → Shared → Prop} {E : Value → Shared → Prop} {o1 o2 o3 o4 o5 o6 : Obj} {c2 c3 c4 c5 c6 : Option Value} {vs : List Value} {ns : List Int}
    (cx : Cx w base mg mb loose mean) (hE : PassesOwn (model Challenge.rw_fe0036_01.row.prog w) (LA L fa cd) (LE L fa cd) E)
    (F : Fr base L s.heap m) (N : News base L s.heap [(L+1+1+1+1+1+1, o6), (L+1+1+1+1+1, o5), (L+1+1+1+1, o4), (L+1+1+1, o3), (L+1+1, o2), (L+1, o1)])
    (h1 : o1.data = .cell (some (.ref ls))) (h2 : o2.data = .cell c2) (h3 : o3.data = .cell c3) (h4 : o4.data = .cell c4) (h5 : o5.data = .cell c5) (h6 : o6.data = .cell c6)
    (hl : base.IsList ls vs.toArray) (hi : IntsAre vs ns) (hlen : ns.length ≤ 63)
    (h : ∀ h' tk m', Fr base L h' m' → Q (.ret (.bool true)) { s with heap := h', toks := tk }) :
    wpAny (model Challenge.rw_fe0036_01.row.prog w) (LA L fa cd) (execs (bodyAt 6) (LE L fa cd)) Q E s := by
  refine execs_as (st' := [lawStmt 0, lawStmt 1, lawStmt 2, lawStmt 3, lawStmt 4, lawStmt 5, lawStmt 6, lawStmt 7, lawStmt 8, lawStmt 9, lawStmt 10, lawStmt 11, lawStmt 12, lawStmt 13]) rfl ?_
  refine wpAny_execs_cons (seg0 cx F N h1 h2 h3 h4 h5 h6 hl hi hlen ?_)
  intro g0 k0 aD ys oD d0 d1 d2 d3 d4 d5 F0 N0 hD hI hb ne
  dsimp only
  refine wpAny_execs_cons (seg1 (aD := aD) (oD := oD) (rest := [(L+1+1+1+1+1+1, o6), (L+1+1+1+1+1, o5), (L+1+1+1+1, o4), (L+1+1, o2)]) cx F0 (fun q hq => N0 q ?_) hD hI (hb d0 (by simp)).1 ?_)
  · simp only [List.mem_cons, List.not_mem_nil, or_false] at hq ⊢
    rcases hq with h | h | h | h | h | h <;> (repeat (first | exact h | exact Or.inl h | refine Or.inr ?_))
  intro g1 k1 m1 p tp F1 N1 hp hpm hm1
  obtain ⟨P, hp13⟩ := isP_of hpm
  have hp2 := P.two
  dsimp only
  refine wpAny_execs_cons (seg2 (o6 := o6) (o5 := o5) (o4 := o4) (o2 := o2) cx F1 (fun q hq => N1 q ?_) hD h4 hI (hb d1 (by simp)) ne hp (by omega) (by omega) ?_)
  · simp only [List.mem_cons, List.not_mem_nil, or_false] at hq ⊢
    rcases hq with h | h | h | h | h | h <;> (repeat (first | exact h | exact Or.inl h | refine Or.inr ?_))
  intro g2 k2 al oS ts F2 N2 hS hal
  dsimp only
  refine wpAny_execs_cons (seg3 cx F2 N2 hD h5 hS hal hI hb ne hp (by omega) (by omega) ?_)
  intro g3 k3 m3 aW aN oW o5' f a b c t0 t1 t2 F3 N3 e5 hW hm3 hN3 ha hb' hc l1 l2
  dsimp only
  refine wpAny_execs_cons (seg4 cx F3 N3 hN3 ?_)
  intro g4 k4 m4 aR tw F4 N4 hw4 hr4 hm4 l3
  have hN4 : m4 (Str.ofString "numbers") = some (.ref aN) := (hm4 _ (by decide) (by decide)).trans hN3
  have hP4 : m4 (Str.ofString "prime") = some (.int p tp) := (hm4 _ (by decide) (by decide)).trans ((hm3 _ (by decide)).trans hp)
  dsimp only
  refine wpAny_execs_cons (seg5 cx hE F4 N4 h6 e5 hS hal hW l1 l2 l3 hp2 hp13 ha hb' hc hN4 hw4 hr4 ?_)
  intro g5 k5 m5 q0 q1 q2 q3 F5 N5 r0 r1 r2 r3 hm5 ne5
  dsimp only
  refine wpAny_execs_cons (seg6 cx F5 N5 ?_)
  intro g6 k6 m6 u1 u2 u3 F6 N6 hY6 hC6 hQ6 hm6
  have up6 : ∀ u, u ≠ Str.ofString "carry" → u ≠ Str.ofString "carried" → u ≠ Str.ofString "product" → u ≠ Str.ofString "amount" → m6 u = m4 u := fun u a1 a2 a3 a4 => (hm6 u a1 a2 a3).trans (hm5 u a4)
  have hR6 : m6 (Str.ofString "rows") = some (.ref aR) := (up6 _ (by decide) (by decide) (by decide) (by decide)).trans hr4
  have hP6 : m6 (Str.ofString "prime") = some (.int (p : Nat) tp) := (up6 _ (by decide) (by decide) (by decide) (by decide)).trans hP4
  have hW6 : m6 (Str.ofString "whole") = some (.int ((a + b + c : Nat)) tw) := (up6 _ (by decide) (by decide) (by decide) (by decide)).trans hw4
  have hN6 : m6 (Str.ofString "numbers") = some (.ref aN) := (up6 _ (by decide) (by decide) (by decide) (by decide)).trans hN4
  have lens : (dig p a).length ≤ 31 ∧ (dig p b).length ≤ 31 ∧ (dig p c).length ≤ 31 ∧ (dig p (a + b + c)).length ≤ 31 := ⟨dig_length hp2 _ _ (by omega), dig_length hp2 _ _ (by omega), dig_length hp2 _ _ (by omega), dig_length hp2 _ _ (by omega)⟩
  dsimp only
  refine wpAny_execs_cons (seg7 (CI := fun i cy cr pr => CInv p (C (a + b + c) a * C (b + c) b) (ds p a + ds p b + ds p c) (ds p (a + b + c)) (a / p ^ i) (b / p ^ i) (c / p ^ i) ((a + b + c) / p ^ i) cy cr pr)
    cx hE F6 N6 h2 r0 r1 r2 r3 lens hp2 hp13 ne5 (by omega) (by omega) hR6 hP6 hY6 hC6 hQ6 ?_ (fun _ _ _ _ I => I.plt) ?_ ?_)
  · simpa using CInv.start (a := a) (b := b) (c := c) P
  · intro i cy cr pr I
    have I' := I.step P
    simp only [Nat.div_div_eq_div_mul, ← Nat.pow_succ] at I'
    exact I'
  intro g7 k7 m7 K cy cr pr v1 v2 F7 N7 hC7 hQ7 hci hK hm7
  have hzero : (a + b + c) / p ^ K = 0 := dig_over hp2 K _ hK
  rw [hzero] at hci
  obtain ⟨⟨V, hV, hVp⟩, hWP, hsd⟩ := hci.done P
  have hP7 : m7 (Str.ofString "prime") = some (.int (p : Nat) tp) := (hm7 _ (by decide) (by decide) (by decide) (by decide) (by decide) (by decide) (by decide)).trans hP6
  have hW7 : m7 (Str.ofString "whole") = some (.int ((a + b + c : Nat)) tw) := (hm7 _ (by decide) (by decide) (by decide) (by decide) (by decide) (by decide) (by decide)).trans hW6
  have hR7 : m7 (Str.ofString "rows") = some (.ref aR) := (hm7 _ (by decide) (by decide) (by decide) (by decide) (by decide) (by decide) (by decide)).trans hR6
  have hN7 : m7 (Str.ofString "numbers") = some (.ref aN) := (hm7 _ (by decide) (by decide) (by decide) (by decide) (by decide) (by decide) (by decide)).trans hN6
  dsimp only
  refine wpAny_execs_cons (seg8 (t0 := t0) (t1 := t1) (t2 := t2) (rest := [(aR, W.listOf #[.ref q0.1, .ref q1.1, .ref q2.1, .ref q3.1] 4), (q0.1, LCg.lst q0.2), (q1.1, LCg.lst q1.2), (q2.1, LCg.lst q2.2), (q3.1, LCg.lst q3.2)]) cx F7 (fun q hq => N7 q ?_) ha hb' hc hN7 hW7 ?_)
  · simp only [List.mem_cons, List.not_mem_nil, or_false] at hq ⊢
    rcases hq with h | h | h | h | h | h <;> (repeat (first | exact h | exact Or.inl h | refine Or.inr ?_))
  intro g8 k8 m8 z1 z2 F8 N8 hw8 ht8 hm8
  have hP8 : m8 (Str.ofString "prime") = some (.int (p : Nat) tp) := (hm8 _ (by decide) (by decide)).trans hP7
  have hQ8 : m8 (Str.ofString "product") = some (.int (pr : Nat) v2) := (hm8 _ (by decide) (by decide)).trans hQ7
  dsimp only
  refine wpAny_execs_cons (seg9 cx F8 N8 hp2 hw8 hP8 hQ8 (by rw [← Int.ofNat_fmod, ← Int.ofNat_fmod, hWP]) ?_)
  intro g9 k9 F9 N9
  dsimp only
  rw [hV] at hw8
  refine wpAny_execs_cons (seg10 cx hE F9 N9 hp2 hp13 hVp hw8 hP8 ht8 ?_)
  intro g10 k10 m10 z3 F10 N10 ht10 hm10
  have up10 : ∀ u, u ≠ Str.ofString "ways" → u ≠ Str.ofString "times" → m10 u = m7 u := fun u a1 a2 => (hm10 u a1 a2).trans (hm8 u a1 a2)
  dsimp only
  refine wpAny_execs_cons (seg11 cx F10 (fun q hq => N10 q (.tail _ hq)) r0 r1 r2 r3 ((up10 _ (by decide) (by decide)).trans hR7) ((up10 _ (by decide) (by decide)).trans hW7) ?_)
  intro g11 k11 m11 aS w0 w1 w2 w3 z4 z5 F11 N11 hS11 hl11 hh11 hm11
  have up11 : ∀ u, u ≠ Str.ofString "sums" → u ≠ Str.ofString "left" → u ≠ Str.ofString "shared" → u ≠ Str.ofString "ways" → u ≠ Str.ofString "times" → m11 u = m7 u := fun u a1 a2 a3 a4 a5 => (hm11 u a1 a2 a3).trans (up10 u a4 a5)
  dsimp only
  refine wpAny_execs_cons (seg12 (SI := SInv p (a + b + c)) cx hE F11 N11 hp2 hp13 hl11 ((up11 _ (by decide) (by decide) (by decide) (by decide) (by decide)).trans hP7) hh11 (SInv.start _ _) (fun _ _ i => i.step hp2) ?_)
  intro g12 k12 m12 sh z6 F12 N12 hh12 hsi hm12
  have hsh := hsi.done
  have up12 : ∀ u, u ≠ Str.ofString "left" → u ≠ Str.ofString "shared" → u ≠ Str.ofString "sums" → u ≠ Str.ofString "ways" → u ≠ Str.ofString "times" → m12 u = m7 u := fun u a1 a2 a3 a4 a5 => (hm12 u a1 a2).trans (up11 u a3 a1 a2 a4 a5)
  have hT12 : m12 (Str.ofString "times") = some (.int (cr : Nat) z3) := (hm12 _ (by decide) (by decide)).trans ((hm11 _ (by decide) (by decide) (by decide)).trans ht10)
  dsimp only
  refine wpAny_execs_cons (seg13 (rest := []) cx F12 N12 hp2 hp13 hT12 ((up12 _ (by decide) (by decide) (by decide) (by decide) (by decide)).trans hC7) ((up12 _ (by decide) (by decide) (by decide) (by decide) (by decide)).trans hW7) ((up12 _ (by decide) (by decide) (by decide) (by decide) (by decide)).trans hP7) hh12 ((hm12 _ (by decide) (by decide)).trans hS11) rfl ?_ ?_ ?_)
  · obtain ⟨q, rfl⟩ : ∃ q, p = q + 1 := ⟨p - 1, by omega⟩
    rw [Nat.add_sub_cancel] at hsh
    have e : (((a + b + c : Nat) : Nat) : Int) = ((q * sh + ds (q + 1) (a + b + c) : Nat) : Int) := congrArg _ hsh
    rw [e, Int.natCast_add, Int.natCast_mul]
    have e2 : (((q + 1 : Nat) : Int) - 1) = (q : Int) := by omega
    rw [e2]; omega
  · obtain ⟨q, rfl⟩ : ∃ q, p = q + 1 := ⟨p - 1, by omega⟩
    rw [Nat.add_sub_cancel] at hsd
    have e : ((ds (q + 1) a + ds (q + 1) b + ds (q + 1) c : Nat) : Int) = ((q * cr + ds (q + 1) (a + b + c) : Nat) : Int) := congrArg _ hsd
    rw [Int.natCast_add (q * cr) _, Int.natCast_mul] at e
    have e2 : (((q + 1 : Nat) : Int) - 1) = (q : Int) := by omega
    rw [e2]; omega
  · intro h' tk F13
    exact h h' tk _ F13
end
end Mine
set_option maxHeartbeats 4000000 in
theorem PySem.Challenge.cw_fe0036_01_holds : PySem.Challenge.rw_fe0036_01.Holds := by
  refine Mine.hd ?_
  w_strict k_go0
  rename Fr _ _ _ _ => F
  rename News _ _ _ _ => N
  rename Frag.In _ _ => KX
  rename Top _ _ _ _ _ _ => T
  rename Below _ _ _ _ => K0
  rename IntsAre _ _ => hI
  rename Heap.IsList _ _ _ => hL
  rename (¬ (63 : Int) < _) => hlen
  refine Mine.law_walk ⟨K0, KX, T⟩ (by passes_own) F N (by assumption) (by assumption) (by assumption) (by assumption) (by assumption) (by assumption) hL hI (by omega) ?_
  intro h' tk m' F'
  clear F N
  dsimp only
  wrow_close
