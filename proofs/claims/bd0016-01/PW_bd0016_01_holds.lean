import PyProof.Rows.All
import Wide.All
import OpenK.AllK
import Wide.FinOn
import PySem.Challenge.RW_bd0016_01
open PySem PySem.W PyProof.Rows PySem.Calls
set_option Elab.async false
set_option maxRecDepth 100000
set_option maxHeartbeats 8000000
namespace Mine
/-! ## The plain law: continuants, Bezout's coefficients, sizes -/
section PlainLaw
open PySem.Builtin.Int (intBits)

/-- the continuant of a row, and that of the row without its first item (0 of no row) -/
def KS : List Int → Int × Int
  | [] => (1, 0)
  | q :: r => (q * (KS r).1 + (KS r).2, (KS r).1)
def cK (qs : List Int) : Int := (KS qs).1
def cS (qs : List Int) : Int := (KS qs).2
/-- the coefficients -/
def XY : List Int → Int × Int
  | [] => (1, 0)
  | q :: r => ((XY r).2, (XY r).1 - q * (XY r).2)
def cX (qs : List Int) : Int := (XY qs).1
def cY (qs : List Int) : Int := (XY qs).2
theorem cK_nil : cK [] = 1 := rfl
theorem cS_nil : cS [] = 0 := rfl
theorem cX_nil : cX [] = 1 := rfl
theorem cY_nil : cY [] = 0 := rfl
theorem cK_cons (q : Int) (r : List Int) : cK (q :: r) = q * cK r + cS r := rfl
theorem cS_cons (q : Int) (r : List Int) : cS (q :: r) = cK r := rfl
theorem cX_cons (q : Int) (r : List Int) : cX (q :: r) = cY r := rfl
theorem cY_cons (q : Int) (r : List Int) : cY (q :: r) = cX r - q * cY r := rfl

/-- what the loop turns -/
def stepK (p : Int × Int) (q : Int) : Int × Int := (p.2, q * p.2 + p.1)
def foldK (qs : List Int) : Int × Int := qs.foldl stepK (0, 1)
theorem foldl_stepK (qs : List Int) : ∀ l n : Int, (qs.foldl stepK (l, n)).2 = n * cK qs + l * cS qs := by
  induction qs with
  | nil => intro l n; simp [cK_nil, cS_nil]
  | cons q r ih =>
    intro l n
    rw [List.foldl_cons]
    show (r.foldl stepK (n, q * n + l)).2 = _
    rw [ih, cK_cons, cS_cons]
    grind
theorem foldK_snd (qs : List Int) : (foldK qs).2 = cK qs := by
  unfold foldK; rw [foldl_stepK]; simp
theorem foldK_append (qs : List Int) (q : Int) : foldK (qs ++ [q]) = ((foldK qs).2, q * (foldK qs).2 + (foldK qs).1) := by
  unfold foldK; rw [List.foldl_append]; rfl
theorem foldK_reverse (qs : List Int) : foldK qs.reverse = (cS qs, cK qs) := by
  induction qs with
  | nil => rfl
  | cons q r ih => rw [List.reverse_cons, foldK_append, ih]; rfl
theorem cK_reverse (qs : List Int) : cK qs.reverse = cK qs := by
  rw [← foldK_snd, foldK_reverse]

/-- Bezout -/
theorem bezout (qs : List Int) : cK qs * cX qs + cS qs * cY qs = 1 := by
  induction qs with
  | nil => decide
  | cons q r ih => rw [cK_cons, cS_cons, cX_cons, cY_cons]; grind

/-- rows whose algorithm has just these quotients -/
def Good : List Int → Prop
  | [] => True
  | q :: r => 1 ≤ q ∧ (r = [] ∨ cS r < cK r) ∧ Good r
theorem Good.pos : ∀ {qs : List Int}, Good qs → 1 ≤ cK qs ∧ 0 ≤ cS qs
  | [], _ => by simp [cK_nil, cS_nil]
  | q :: r, h => by
    obtain ⟨h1, h2, h3⟩ := h
    have ⟨a, b⟩ := h3.pos
    rw [cK_cons, cS_cons]
    have : cK r ≤ q * cK r := by
      have := Int.mul_le_mul_of_nonneg_right h1 (show 0 ≤ cK r by omega)
      omega
    omega
theorem Good.lt : ∀ {qs : List Int}, Good qs → (∀ q, qs = [q] → 2 ≤ q) → cS qs < cK qs
  | [], _, _ => by decide
  | [q], h, h1 => by have := h1 q rfl; simp only [cK_cons, cS_cons, cK_nil, cS_nil]; omega
  | q :: p :: r, h, _ => by
    obtain ⟨h1, h2, h3⟩ := h
    have ⟨a, b⟩ := h3.pos
    have h4 : 0 < cS (p :: r) := by
      rw [cS_cons]; have := h3.2.2.pos; omega
    rw [cK_cons q, cS_cons q]
    have : cK (p :: r) ≤ q * cK (p :: r) := by
      have := Int.mul_le_mul_of_nonneg_right h1 (show 0 ≤ cK (p :: r) by omega)
      omega
    omega
/-- all from 1 on, the last of several at least 2 -/
theorem good_of : ∀ {qs : List Int}, (∀ q ∈ qs, 1 ≤ q) → (1 < qs.length → ∀ q, qs.getLast? = some q → 2 ≤ q) → Good qs
  | [], _, _ => trivial
  | [q], h, _ => ⟨h q (.head _), .inl rfl, trivial⟩
  | q :: p :: r, h, hl => by
    have hg : Good (p :: r) := good_of (fun x hx => h x (.tail _ hx)) fun _ x hx => hl (by simp) x (by simpa using hx)
    refine ⟨h q (.head _), .inr (hg.lt ?_), hg⟩
    intro x hx
    refine hl (by simp) x ?_
    rw [hx]; rfl

/-- one turn of the algorithm -/
theorem turn_mod {q : Int} {r : List Int} {d x y : Int} (hd : 1 ≤ d) (hg : Good (q :: r)) (hx : x = d * cK (q :: r)) (hy : y = d * cS (q :: r)) :
    0 < y ∧ x.fmod y = d * cS r ∧ x.fdiv y = q ∧ y = d * cK r := by
  obtain ⟨h1, h2, h3⟩ := hg
  have ⟨a, b⟩ := h3.pos
  have hy' : y = d * cK r := hy
  have hpos : 0 < y := by rw [hy']; exact Int.mul_pos (by omega) (by omega)
  have hlt : cS r < cK r := by
    rcases h2 with h2 | h2
    · subst h2; decide
    · exact h2
  have e : x = d * cS r + q * y := by rw [hx, hy', cK_cons]; grind
  have e0 : 0 ≤ d * cS r := Int.mul_nonneg (by omega) b
  have e1 : d * cS r < y := by rw [hy']; exact Int.mul_lt_mul_of_pos_left hlt (by omega)
  refine ⟨hpos, ?_, ?_, hy'⟩
  · rw [Int.fmod_eq_emod_of_nonneg _ (by omega), e, Int.add_mul_emod_self_right]
    exact Int.emod_eq_of_lt e0 e1
  · rw [e, Int.fdiv_eq_ediv_of_nonneg _ (by omega), Int.add_mul_ediv_right _ _ (by omega), Int.ediv_eq_zero_of_lt e0 e1]
    omega

/-- what the law reckons as the pair -/
def pairOf (qs : List Int) : Int × Int :=
  let first := if 1 < qs.length then cK ((qs.drop 1).dropLast) else 0
  let second := cK qs.dropLast
  if qs.length % 2 = 0 then (first, -second) else (-first, second)
theorem pair_eq : ∀ {qs : List Int}, qs ≠ [] → pairOf qs = (cX qs, cY qs)
  | [], h => absurd rfl h
  | [q], _ => by simp [pairOf, cX_cons, cY_cons, cX_nil, cY_nil, cK_nil]
  | q :: p :: r, _ => by
    have ih := pair_eq (qs := p :: r) (by simp)
    unfold pairOf at ih ⊢
    have e1 : cK ((q :: p :: r).dropLast) = q * cK ((p :: r).dropLast) + cS ((p :: r).dropLast) := by
      rw [List.dropLast_cons_of_ne_nil (by simp), cK_cons]
    have e2 : cS ((p :: r).dropLast) = if 1 < (p :: r).length then cK (((p :: r).drop 1).dropLast) else 0 := by
      cases r with
      | nil => rfl
      | cons s t => rw [List.dropLast_cons_of_ne_nil (by simp), cS_cons]; simp
    have e3 : ((q :: p :: r).drop 1).dropLast = (p :: r).dropLast := rfl
    have e4 : (if 1 < (q :: p :: r).length then cK (((q :: p :: r).drop 1).dropLast) else 0) = cK ((p :: r).dropLast) := by
      rw [if_pos (by simp), e3]
    rw [cX_cons q, cY_cons q]
    dsimp only at ih ⊢
    rw [e4, e1, e2]
    generalize (if 1 < (p :: r).length then cK (((p :: r).drop 1).dropLast) else 0) = f at ih ⊢
    generalize cK ((p :: r).dropLast) = g at ih ⊢
    have hl : (q :: p :: r).length = (p :: r).length + 1 := rfl
    rw [hl]
    generalize (p :: r).length = n at ih ⊢
    by_cases hn : n % 2 = 0
    · rw [if_pos hn] at ih
      rw [if_neg (by omega)]
      have i1 : f = cX (p :: r) := congrArg Prod.fst ih
      have i2 : -g = cY (p :: r) := congrArg Prod.snd ih
      rw [← i1, ← i2]
      refine Prod.ext rfl ?_
      show q * g + f = f - q * -g
      grind
    · rw [if_neg hn] at ih
      rw [if_pos (by omega)]
      have i1 : -f = cX (p :: r) := congrArg Prod.fst ih
      have i2 : g = cY (p :: r) := congrArg Prod.snd ih
      rw [← i1, ← i2]
      refine Prod.ext rfl ?_
      show -(q * g + f) = -f - q * g
      grind

/-- sizes -/
def Fits (B : Nat) (qs : List Int) : Prop := ∀ q ∈ qs, intBits q ≤ B
theorem Fits.tail {B : Nat} {q : Int} {r : List Int} (h : Fits B (q :: r)) : Fits B r := fun x hx => h x (.tail _ hx)
theorem bits_KS {B : Nat} : ∀ {qs : List Int}, Fits B qs → intBits (cK qs) ≤ qs.length * (B + 1) + 1 ∧ intBits (cS qs) ≤ qs.length * (B + 1) + 1
  | [], _ => by
    rw [List.length_nil, Nat.zero_mul]
    refine ⟨?_, ?_⟩ <;> decide
  | q :: r, h => by
    have ⟨a, b⟩ := bits_KS h.tail
    have hq := h q (.head _)
    have hl : (q :: r).length * (B + 1) = r.length * (B + 1) + (B + 1) := by rw [List.length_cons, Nat.add_mul, Nat.one_mul]
    refine ⟨?_, ?_⟩
    · rw [cK_cons]
      have h1 := bits_add (bits_mul hq a) b
      refine Nat.le_trans h1 ?_
      rw [hl]; omega
    · rw [cS_cons]; omega
theorem bits_XY {B : Nat} : ∀ {qs : List Int}, Fits B qs → intBits (cX qs) ≤ qs.length * (B + 1) + 1 ∧ intBits (cY qs) ≤ qs.length * (B + 1) + 1
  | [], _ => by
    rw [List.length_nil, Nat.zero_mul]
    refine ⟨?_, ?_⟩ <;> decide
  | q :: r, h => by
    have ⟨a, b⟩ := bits_XY h.tail
    have hq := h q (.head _)
    have hl : (q :: r).length * (B + 1) = r.length * (B + 1) + (B + 1) := by rw [List.length_cons, Nat.add_mul, Nat.one_mul]
    refine ⟨?_, ?_⟩
    · rw [cX_cons]; omega
    · rw [cY_cons]
      have h1 := bits_sub a (bits_mul hq b)
      refine Nat.le_trans h1 ?_
      rw [hl]; omega
end PlainLaw

/-! ## The head: the run of the top -/
open_top hd for PySem.Challenge.rw_bd0016_01

/-! ## What extended_euclid tells -/
section WalkEuclid
open PySem.Builtin.Int (intBits)

abbrev tup3 (x : Int) (t1 : Tok) (y : Int) (t2 : Tok) (d : Int) (t3 : Tok) (c : Nat) : Obj := { cls := .type "tuple", data := .seq #[.int x t1, .int y t2, .int d t3] c }
/-- what extended_euclid tells of the two numbers of a row -/
def EucT (w : World) (mean : ExcName → Option Value) (mg mb : Str → Option Value) (d : Int) (qs : List Int) : Prop :=
  ∀ (dp un : Nat) (gd : Option (List Code)) (cn : Str) (cs : Scope) (a : Addr) (ccd : Value) (cl : List (Str × Addr)) (outer : List Env) (A₀ : Around) (base h₀ : Heap) (L : Addr) (m : Str → Option Value) (news : List (Addr × Obj)) (s : Shared) (Q E : Value → Shared → Prop) (x y : Int) (tx ty : Tok),
    Below A₀ base outer h₀ → Fr h₀ L s.heap m → (hd.heap_39 w.params).In h₀ → News h₀ L s.heap news → Top hd.view_39 (looseW hd.view_39 []) mean mg mb h₀ → cs.kind = .function →
    x = d * cK qs → y = d * cS qs → dp + qs.length + 101 < recursionLimit → un + 8 * (qs.length + 1) < cLine →
    (∀ (D : Addr) (t1 t2 t3 : Tok) (c : Nat) (h' : Heap) (tk' : Nat), Fr h₀ L h' m → News h₀ L h' ((D, tup3 (cX qs) t1 (cY qs) t2 d t3 c) :: news) → (∀ p ∈ news, p.1 < D) → Q (.ref D) { s with heap := h', toks := tk' }) →
    wpAny (model PySem.Challenge.rw_bd0016_01.row.prog w) (ktrTop dp un gd cn cs L a ccd cl outer) (call (.ref 21) [.int x tx, .int y ty]) Q E s
section
variable {w : World} {mean : ExcName → Option Value} {mg mb : Str → Option Value} {d : Int} {qs : List Int} {dp un : Nat} {gd : Option (List Code)} {cn : Str} {cs : Scope} {a : Addr} {ccd : Value} {cl : List (Str × Addr)} {outer : List Env} {A₀ : Around} {base h₀ : Heap} {L : Addr} {m : Str → Option Value} {news : List (Addr × Obj)} {s : Shared} {Q E : Value → Shared → Prop} {x y : Int} {tx ty : Tok}
theorem euc_use (C : EucT w mean mg mb d qs) (B : Below A₀ base outer h₀) (F : Fr h₀ L s.heap m) (X : (hd.heap_39 w.params).In h₀) (N : News h₀ L s.heap news) (T : Top hd.view_39 (looseW hd.view_39 []) mean mg mb h₀) (hk : cs.kind = .function)
    (hx : x = d * cK qs) (hy : y = d * cS qs) (hd1 : dp + qs.length + 101 < recursionLimit) (hu : un + 8 * (qs.length + 1) < cLine)
    (ret : ∀ (D : Addr) (t1 t2 t3 : Tok) (c : Nat) (h' : Heap) (tk' : Nat), Fr h₀ L h' m → News h₀ L h' ((D, tup3 (cX qs) t1 (cY qs) t2 d t3 c) :: news) → (∀ p ∈ news, p.1 < D) → Q (.ref D) { s with heap := h', toks := tk' }) :
    wpAny (model PySem.Challenge.rw_bd0016_01.row.prog w) (ktrTop dp un gd cn cs L a ccd cl outer) (call (.ref 21) [.int x tx, .int y ty]) Q E s :=
  C _ _ _ _ _ _ _ _ _ _ _ _ _ _ _ _ _ _ _ _ _ _ B F X N T hk hx hy hd1 hu ret
end

theorem euc_nil (w : World) (mean : ExcName → Option Value) (mg mb : Str → Option Value) (d : Int) : EucT w mean mg mb d [] := by
  unfold EucT
  k_fill
  intro dp un gd cn cs a ccd cl outer A₀ base h₀ L m news s Q E x y tx ty B F X N T hk hx hy hdp hun hret
  rw [cK_nil, Int.mul_one] at hx
  rw [cS_nil, Int.mul_zero] at hy
  subst hx hy
  refine wpAny_call ?_
  k_dflt ktr_enter
  k_steps
  all_goals exact hret _ _ _ _ _ _ _ (by assumption) (by assumption) (by assumption)

local macro_rules | `(tactic| mul_fits) => `(tactic| assumption)
local macro_rules | `(tactic| walk_at "call ref") => `(tactic| (k_here; (rename EucT _ _ _ _ _ _ => ih9); k_dflt (refine' euc_use ih9 ?k1 ?k2 ?k3 ?k4 ?k5 ?kK ?kx ?ky ?kd ?ku ?_; (case k1 => k_asm); (case k2 => k_asm); (case k3 => k_asm); (case k4 => k_asm); (case k5 => k_asm); (case kK => first | exact rfl | assumption); (case kx => assumption); (case ky => assumption); (case kd => ktr_room); (case ku => ktr_units)); intro D9 t91 t92 t93 c9 h9 tk9 F9 N9 l1; (try k_lt l1); (try dsimp only); (try k_fold)))

local macro_rules | `(tactic| walk_at "binaryOp FloorDiv int int") => `(tactic| (k_here; k_dflt (refine' floordiv_int ?k1 ?_ (Or.inr (PySem.PylongRoom.of ?k2 ?k3)); (case k1 => omega); (case k2 => exact PySem.Heap.NoLimit.keeps (PyProof.Rows.Top.nolimit (by assumption)) (PyProof.Rows.Fr.keep (by assumption))); (case k3 => (simp only [Builtin.pylongFrames]; ktr_room)))))

theorem news_drop {h₀ h : Heap} {L : Addr} {p q : Addr × Obj} {l : List (Addr × Obj)} (N : News h₀ L h (p :: q :: l)) : News h₀ L h (p :: l) :=
  fun x hx => N x (by
    rcases List.mem_cons.mp hx with rfl | hx
    · exact .head _
    · exact .tail _ (.tail _ hx))
theorem euc_cons (w : World) (mean : ExcName → Option Value) (mg mb : Str → Option Value) (d q : Int) (r : List Int) (ih : EucT w mean mg mb d r) (hd1 : 1 ≤ d) (hg : Good (q :: r)) (hm : IntMulOk q (cY r)) : EucT w mean mg mb d (q :: r) := by
  unfold EucT
  k_fill
  intro dp un gd cn cs a ccd cl outer A₀ base h₀ L m news s Q E x y tx ty B F X N T hk hx hy hdp hun hret
  obtain ⟨h1, h2, h3, h4⟩ := turn_mod hd1 hg hx hy
  clear hx hy hg
  subst h3
  rw [List.length_cons] at hdp hun
  refine wpAny_call ?_
  k_dflt ktr_enter
  k_steps
  all_goals first
    | (exfalso; omega)
    | ((rename News _ _ _ _ => kN9); (rename (_ ∧ _ ∧ AllLt _ _) => l9); exact hret _ _ _ _ _ _ _ (by assumption) (news_drop (news_drop kN9)) (ktn_ltOf l9.2.2))

/-- what extended_euclid tells -/
theorem euc_all (w : World) (mean : ExcName → Option Value) (mg mb : Str → Option Value) (d : Int) (hd1 : 1 ≤ d) : ∀ qs : List Int, Good qs → Fits 1100000 qs → qs.length ≤ 8 → EucT w mean mg mb d qs
  | [], _, _, _ => euc_nil w mean mg mb d
  | q :: r, hg, hf, hl => by
    have hl' : r.length ≤ 8 := by rw [List.length_cons] at hl; omega
    refine euc_cons w mean mg mb d q r (euc_all w mean mg mb d hd1 r hg.2.2 hf.tail hl') hd1 hg ?_
    refine mulOk_of_bits (hf q (.head _)) (bits_XY hf.tail).2 ?_
    rw [List.length_cons] at hl
    have : r.length * (1100000 + 1) ≤ 7 * (1100000 + 1) := Nat.mul_le_mul_right _ (by omega)
    omega
end WalkEuclid

/-! ## What the continuant's def tells -/
section WalkContinuant
open PySem.Builtin.Int (intBits)

/-- what the continuant's def tells of a list of ints -/
def ContT (w : World) (mean : ExcName → Option Value) (mg mb : Str → Option Value) (qs : List Int) : Prop :=
  ∀ (dp un : Nat) (gd : Option (List Code)) (cn : Str) (cs : Scope) (a : Addr) (ccd : Value) (cl : List (Str × Addr)) (outer : List Env) (A₀ : Around) (base h₀ : Heap) (L : Addr) (m : Str → Option Value) (news : List (Addr × Obj)) (s : Shared) (Q E : Value → Shared → Prop) (l : Addr) (vs : List Value) (n : Nat),
    Below A₀ base outer h₀ → Fr h₀ L s.heap m → (hd.heap_39 w.params).In h₀ → News h₀ L s.heap news → Top hd.view_39 (looseW hd.view_39 []) mean mg mb h₀ → cs.kind = .function →
    (l, listOf vs.toArray n) ∈ news → IntsAre vs qs → dp + 1 < recursionLimit → un + 8 < cLine →
    (∀ (t : Tok) (h' : Heap) (tk' : Nat), Fr h₀ L h' m → News h₀ L h' news → Q (.int (cK qs) t) { s with heap := h', toks := tk' }) →
    wpAny (model PySem.Challenge.rw_bd0016_01.row.prog w) (ktrTop dp un gd cn cs L a ccd cl outer) (call (.ref 28) [.ref l]) Q E s


abbrev lastN : Str := Str.ofString "last"
abbrev nowN : Str := Str.ofString "now"
abbrev psK (c : (Int × Tok) × (Int × Tok)) : List (Str × Value) := [(lastN, .int c.1.1 c.1.2), (nowN, .int c.2.1 c.2.2)]
abbrev frK (x : Str) (q : Int) (tq : Tok) (a : Int) (ta : Tok) (b : Int) (tb : Tok) (u : Str → Option Value) : Str → Option Value :=
  fun y => if y = x then some (.int q tq) else if y = lastN then some (.int a ta) else if y = nowN then some (.int b tb) else u y
section
variable {prog : Program} {w : World} {A : Around} {E : Value → Shared → Prop} {s : Shared} {env : Env} {h₀ : Heap} {x : Str} {body : List Stmt} {Q : Flow → Shared → Prop}
/-- the loop «last, now = now, quotient * now + last» over a list of the ledger's -/
theorem cont_loop {l : Addr} {vs : List Value} {ns : List Int} {nn : Nat} {m₀ : Str → Option Value} {news : List (Addr × Obj)} {t1 t2 : Tok}
    (hh : A.handled = none) (hl : (l, listOf vs.toArray nn) ∈ news) (hi : IntsAre vs ns) (F : Fr h₀ env.locals s.heap m₀) (N : News h₀ env.locals s.heap news) (h1 : m₀ lastN = some (.int 0 t1)) (h2 : m₀ nowN = some (.int 1 t2))
    (turn : ∀ (a b : Int) (ta tb : Tok) pre post q tq (u : Str → Option Value) h tk own, ns = pre ++ q :: post → OwnOff own (news.map (·.1)) → a = (foldK pre).1 → b = (foldK pre).2 →
      Fr h₀ env.locals h (frK x q tq a ta b tb u) → News h₀ env.locals h (news ++ own) →
      wpAny (model prog w) A (execs body env) (InvPostN h₀ env.locals (fun m' nx => nx = news ∧ ∃ t3 t4, m' lastN = some (.int b t3) ∧ m' nowN = some (.int (q * b + a) t4)) own (news.map (·.1)) { s with heap := h, toks := tk } Q) E { s with heap := h, toks := tk })
    (done : ∀ (b : Int) (tb : Tok) (u : Str → Option Value) h tk, b = cK ns → Fr h₀ env.locals h (fun y => if y = nowN then some (.int b tb) else u y) → News h₀ env.locals h news → Q .next { s with heap := h, toks := tk }) :
    wpAny (model prog w) A (pyIter (.ref l)) (fun it s₂ => LoopAtV prog w A h₀ env x body Q E it s₂) E s := by
  refine iter_invNL (fun i m nx => nx = news ∧ ∃ t3 t4, m lastN = some (.int (foldK (ns.take i)).1 t3) ∧ m nowN = some (.int (foldK (ns.take i)).2 t4)) hh hl hi F N ⟨rfl, t1, t2, h1, h2⟩ ?_ ?_
  · rintro i q tq m₁ nx h tk own hn _ hoff _ ⟨rfl, t3, t4, hm1, hm2⟩ F₁ N₁
    have hs : ns.take (i + 1) = ns.take i ++ [q] := by simp [List.take_add_one, hn]
    have e : ns = ns.take i ++ q :: ns.drop (i + 1) := by
      have ht := List.take_append_drop (i + 1) ns
      rw [hs, List.append_assoc] at ht
      exact ht.symm
    have F₂ : Fr h₀ env.locals h (frK x q tq (foldK (ns.take i)).1 t3 (foldK (ns.take i)).2 t4 m₁) := by
      have em : (frK x q tq (foldK (ns.take i)).1 t3 (foldK (ns.take i)).2 t4 m₁) = fun y => if y = x then some (.int q tq) else m₁ y := by
        funext y
        unfold frK
        by_cases hy : y = x
        · rw [if_pos hy, if_pos hy]
        · rw [if_neg hy, if_neg hy]
          by_cases hz : y = lastN
          · rw [if_pos hz, hz, hm1]
          · rw [if_neg hz]
            by_cases hw : y = nowN
            · rw [if_pos hw, hw, hm2]
            · rw [if_neg hw]
      rw [em]; exact F₁
    have := turn _ _ t3 t4 _ _ q tq m₁ h tk own e hoff rfl rfl F₂ N₁
    refine wpAny_mono this (fun f s₂ p => ?_) fun _ _ x => x
    have up : InvEndN h₀ env.locals (fun m' nx' => nx' = nx ∧ ∃ t3 t4, m' lastN = some (.int (foldK (ns.take i)).2 t3) ∧ m' nowN = some (.int (q * (foldK (ns.take i)).2 + (foldK (ns.take i)).1) t4)) own (nx.map (·.1)) { s with heap := h, toks := tk } s₂ →
        InvEndN h₀ env.locals (fun m' nx' => (l, listOf vs.toArray nn) ∈ nx' ∧ nx' = nx ∧ ∃ t3 t4, m' lastN = some (.int (foldK (ns.take (i + 1))).1 t3) ∧ m' nowN = some (.int (foldK (ns.take (i + 1))).2 t4)) own (nx.map (·.1)) { s with heap := h, toks := tk } s₂ := by
      rintro ⟨h', tk', m', news', nx', e', F', N', hn', ho', ha, rfl, t5, t6, h5, h6⟩
      refine ⟨h', tk', m', news', nx', e', F', N', hn', ho', ha, hl, rfl, t5, t6, ?_, ?_⟩
      · rw [hs, foldK_append]; exact h5
      · rw [hs, foldK_append]; exact h6
    cases f with
    | ret v => exact p
    | brk => exact p
    | next => exact up p
    | cont => exact up p
  · rintro m₁ nx h tk _ ⟨rfl, t3, t4, hm1, hm2⟩ F₁ N₁
    rw [List.take_length] at hm2
    refine done _ t4 m₁ h tk (foldK_snd ns) ?_ N₁
    have em : (fun y => if y = nowN then some (.int (foldK ns).2 t4) else m₁ y) = m₁ := by
      funext y
      by_cases hw : y = nowN
      · rw [if_pos hw, hw, hm2]
      · rw [if_neg hw]
    rw [em]; exact F₁
end

theorem cont_fits {qs pre post : List Int} {q b : Int} (hf : Fits 1100000 qs) (hl : qs.length ≤ 8) (e : qs = pre ++ q :: post) (hb : b = (foldK pre).2) : IntMulOk q b := by
  have hp : Fits 1100000 pre := fun x hx => hf x (by rw [e]; exact List.mem_append.mpr (.inl hx))
  have hq := hf q (by rw [e]; exact List.mem_append.mpr (.inr (.head _)))
  have hlen : pre.length ≤ 8 := by rw [e, List.length_append] at hl; omega
  rw [hb, foldK_snd]
  refine mulOk_of_bits hq (bits_KS hp).1 ?_
  have : pre.length * (1100000 + 1) ≤ 8 * (1100000 + 1) := Nat.mul_le_mul_right _ hlen
  omega

local macro_rules | `(tactic| mul_fits) => `(tactic| assumption)
theorem cont_all (w : World) (mean : ExcName → Option Value) (mg mb : Str → Option Value) (qs : List Int) (hf : Fits 1100000 qs) (hl : qs.length ≤ 8) : ContT w mean mg mb qs := by
  unfold ContT
  k_fill
  intro dp un gd cn cs a ccd cl outer A₀ base h₀ L m news s Q E l vs n B F X N T hk hmem hI hdp hun hret
  refine wpAny_call ?_
  k_dflt ktr_enter
  k_steps
  (rename Fr _ _ _ _ => F8)
  with_unfolding_all refine' For_invVF F8 ?k1 ?k2 ?_
  case k1 => exact rfl
  case k2 => exact rfl
  k_steps
  (rename Fr _ _ _ _ => F9)
  (rename News _ _ _ _ => N9)
  with_unfolding_all refine' cont_loop ?hh ?hl ?hi ?F ?N ?h1 ?h2 ?turn ?done
  case F => exact F9
  case N => exact N9
  case hl => exact .tail _ hmem
  case hi => exact hI
  case hh => exact rfl
  case h1 => exact rfl
  case h2 => exact rfl
  case turn =>
    clear F9 N9
    intro a b ta tb pre post q tq u h tk own hs hoff hP1 hP2 F9 N9
    have hm := cont_fits hf hl hs hP2
    try k_fold
    k_steps
    all_goals ((rename News _ _ _ _ => kN9); (rename Fr _ _ _ _ => kF9); exact InvEndN.intro kF9 kN9 ⟨rfl, _, _, rfl, rfl⟩ rfl (fun p hp => .tail _ (List.mem_append.mpr (.inl hp))) (fun p hp => .tail _ (List.mem_append.mpr (.inr hp))))
  case done =>
    clear F9 N9
    intro b tb u h tk hP F9 N9
    dsimp only at F9 N9 ⊢
    try k_fold
    k_steps
    all_goals ((rename News _ _ _ _ => kN9); subst hP; exact hret _ _ _ (by assumption) (fun p hp => kN9 p (.tail _ hp)))
end WalkContinuant

/-! ## What the pair's def tells -/
section WalkPair
open PySem.Builtin.Int (intBits)
section
variable {w : World} {mean : ExcName → Option Value} {mg mb : Str → Option Value} {qs : List Int} {dp un : Nat} {gd : Option (List Code)} {cn : Str} {cs : Scope} {a : Addr} {ccd : Value} {cl : List (Str × Addr)} {outer : List Env} {A₀ : Around} {base h₀ : Heap} {L : Addr} {m : Str → Option Value} {news : List (Addr × Obj)} {s : Shared} {Q E : Value → Shared → Prop} {l : Addr} {vs : List Value} {n : Nat}
theorem cont_use (B : Below A₀ base outer h₀) (F : Fr h₀ L s.heap m) (X : (hd.heap_39 w.params).In h₀) (N : News h₀ L s.heap news) (T : Top hd.view_39 (looseW hd.view_39 []) mean mg mb h₀) (hk : cs.kind = .function)
    (hl : (l, listOf vs.toArray n) ∈ news) (hi : IntsAre vs qs) (hf : Fits 1100000 qs) (hq : qs.length ≤ 8) (hd1 : dp + 1 < recursionLimit) (hu : un + 8 < cLine)
    (ret : ∀ (t : Tok) (h' : Heap) (tk' : Nat), Fr h₀ L h' m → News h₀ L h' news → Q (.int (cK qs) t) { s with heap := h', toks := tk' }) :
    wpAny (model PySem.Challenge.rw_bd0016_01.row.prog w) (ktrTop dp un gd cn cs L a ccd cl outer) (call (.ref 28) [.ref l]) Q E s :=
  cont_all w mean mg mb qs hf hq _ _ _ _ _ _ _ _ _ _ _ _ _ _ _ _ _ _ _ _ _ B F X N T hk hl hi hd1 hu ret
end

abbrev tup2 (x : Int) (t1 : Tok) (y : Int) (t2 : Tok) (c : Nat) : Obj := { cls := .type "tuple", data := .seq #[.int x t1, .int y t2] c }
/-- what the pair's def tells of a list of ints -/
def PairT (w : World) (mean : ExcName → Option Value) (mg mb : Str → Option Value) (qs : List Int) : Prop :=
  ∀ (dp un : Nat) (gd : Option (List Code)) (cn : Str) (cs : Scope) (a : Addr) (ccd : Value) (cl : List (Str × Addr)) (outer : List Env) (A₀ : Around) (base h₀ : Heap) (L : Addr) (m : Str → Option Value) (news : List (Addr × Obj)) (s : Shared) (Q E : Value → Shared → Prop) (l : Addr) (vs : List Value) (n : Nat),
    Below A₀ base outer h₀ → Fr h₀ L s.heap m → (hd.heap_39 w.params).In h₀ → News h₀ L s.heap news → Top hd.view_39 (looseW hd.view_39 []) mean mg mb h₀ → cs.kind = .function →
    (l, listOf vs.toArray n) ∈ news → IntsAre vs qs → dp + 2 < recursionLimit → un + 16 < cLine →
    (∀ (D : Addr) (t1 t2 : Tok) (c : Nat) (h' : Heap) (tk' : Nat), Fr h₀ L h' m → News h₀ L h' ((D, tup2 (cX qs) t1 (cY qs) t2 c) :: news) → (∀ p ∈ news, p.1 < D) → Q (.ref D) { s with heap := h', toks := tk' }) →
    wpAny (model PySem.Challenge.rw_bd0016_01.row.prog w) (ktrTop dp un gd cn cs L a ccd cl outer) (call (.ref 35) [.ref l]) Q E s

theorem mine_list {h₀ h : Heap} {L l : Addr} {news : List (Addr × Obj)} {vs : List Value} {n : Nat} (N : News h₀ L h news) (hm : (l, listOf vs.toArray n) ∈ news) : h.IsList l vs.toArray := ⟨_, (N _ hm).1, rfl, n, rfl⟩
local macro_rules | `(tactic| k_mem) => `(tactic| k_dflt assumption)
local macro_rules | `(tactic| is_list) => `(tactic| (refine' mine_list (by assumption) ?mm; (case mm => first | assumption | k_mem)))
theorem Fits.take {B : Nat} {qs : List Int} (n : Nat) (h : Fits B qs) : Fits B (qs.take n) := fun x hx => h x (List.mem_of_mem_take hx)
theorem Fits.drop {B : Nat} {qs : List Int} (n : Nat) (h : Fits B qs) : Fits B (qs.drop n) := fun x hx => h x (List.mem_of_mem_drop hx)
local macro_rules | `(tactic| walk_at "call ref") => `(tactic| (k_here; k_dflt (refine' cont_use ?k1 ?k2 ?k3 ?k4 ?k5 ?kK ?kl ?ki ?kf ?kq ?kd ?ku ?_; (case k1 => k_asm); (case k2 => k_asm); (case k3 => k_asm); (case k4 => k_asm); (case k5 => k_asm); (case kK => first | exact rfl | assumption); (case kl => first | assumption | k_mem); (case ki => l_ints); (case kf => (repeat' (first | assumption | refine Fits.take _ ?_ | refine Fits.drop _ ?_))); (case kq => first | omega | (simp only [List.length_take, List.length_drop]; omega)); (case kd => ktr_room); (case ku => ktr_units)); intro t9 h9 tk9 F9 N9; (try k_sweep); (try dsimp only); (try k_fold)))
theorem pair_vals {qs : List Int} (hne : qs ≠ []) {f g : Int} (hf : f = if 1 < (qs.length : Int) then cK (List.take (min ((qs.length : Int) - 1).toNat qs.length - 1) (List.drop 1 qs)) else 0) (hg : g = cK (List.take ((qs.length : Int) - 1).toNat qs)) :
    ((qs.length : Int).fmod 2 = 0 → cX qs = f ∧ cY qs = -g) ∧ ((qs.length : Int).fmod 2 ≠ 0 → cX qs = -f ∧ cY qs = g) := by
  have hlen : 0 < qs.length := List.length_pos_iff.mpr hne
  have h := pair_eq hne
  unfold pairOf at h
  rw [List.dropLast_eq_take, List.dropLast_eq_take, List.length_drop] at h
  have e1 : ((qs.length : Int) - 1).toNat = qs.length - 1 := by omega
  have e2 : min (qs.length - 1) qs.length - 1 = qs.length - 1 - 1 := by omega
  rw [e1, e2] at hf
  rw [e1] at hg
  have hf' : f = if 1 < qs.length then cK (List.take (qs.length - 1 - 1) (List.drop 1 qs)) else 0 := by
    rw [hf]
    by_cases h1 : 1 < qs.length
    · rw [if_pos h1, if_pos (by omega)]
    · rw [if_neg h1, if_neg (by omega)]
  have e3 : (qs.length : Int).fmod 2 = ((qs.length % 2 : Nat) : Int) := by rw [Int.fmod_eq_emod_of_nonneg _ (by omega)]; omega
  rw [e3]
  dsimp only at h
  rw [← hf', ← hg] at h
  refine ⟨fun h2 => ?_, fun h2 => ?_⟩
  · rw [if_pos (by omega)] at h
    exact ⟨(congrArg Prod.fst h).symm, (congrArg Prod.snd h).symm⟩
  · rw [if_neg (by omega)] at h
    exact ⟨(congrArg Prod.fst h).symm, (congrArg Prod.snd h).symm⟩
theorem pv1 {qs : List Int} (hne : qs ≠ []) (h1 : 1 < (qs.length : Int)) (h2 : (qs.length : Int).fmod 2 = 0) : cX qs = cK (List.take (min ((qs.length : Int) - 1).toNat qs.length - 1) (List.drop 1 qs)) ∧ cY qs = -cK (List.take ((qs.length : Int) - 1).toNat qs) :=
  (pair_vals hne (if_pos h1).symm rfl).1 h2
theorem pv2 {qs : List Int} (hne : qs ≠ []) (h1 : 1 < (qs.length : Int)) (h2 : (qs.length : Int).fmod 2 ≠ 0) : cX qs = -cK (List.take (min ((qs.length : Int) - 1).toNat qs.length - 1) (List.drop 1 qs)) ∧ cY qs = cK (List.take ((qs.length : Int) - 1).toNat qs) :=
  (pair_vals hne (if_pos h1).symm rfl).2 h2
theorem pv3 {qs : List Int} (hne : qs ≠ []) (h1 : ¬ 1 < (qs.length : Int)) (h2 : (qs.length : Int).fmod 2 = 0) : cX qs = 0 ∧ cY qs = -cK (List.take ((qs.length : Int) - 1).toNat qs) :=
  (pair_vals hne (if_neg h1).symm rfl).1 h2
theorem pv4 {qs : List Int} (hne : qs ≠ []) (h1 : ¬ 1 < (qs.length : Int)) (h2 : (qs.length : Int).fmod 2 ≠ 0) : cX qs = -0 ∧ cY qs = cK (List.take ((qs.length : Int) - 1).toNat qs) :=
  (pair_vals hne (if_neg h1).symm rfl).2 h2
theorem pair_all (w : World) (mean : ExcName → Option Value) (mg mb : Str → Option Value) (qs : List Int) (hne : qs ≠ []) (hf : Fits 1100000 qs) (hl : qs.length ≤ 8) : PairT w mean mg mb qs := by
  unfold PairT
  k_fill
  intro dp un gd cn cs a ccd cl outer A₀ base h₀ L m news s Q E l vs n B F X N T hk hmem hI hdp hun hret
  have hlen : 0 < qs.length := List.length_pos_iff.mpr hne
  refine wpAny_call ?_
  k_dflt ktr_enter
  k_steps
  all_goals ((rename News _ _ _ _ => kN9); (rename Fr _ _ _ _ => kF9))
  all_goals (first
    | ((have e9 := pv1 hne (by assumption) (by assumption)); (rename (_ ∧ _ ∧ AllLt _ _) => l9); rw [e9.1, e9.2] at hret; exact hret _ _ _ _ _ _ kF9 (news_drop (news_drop kN9)) (ktn_ltOf l9.2.2))
    | ((have e9 := pv2 hne (by assumption) (by assumption)); (rename (_ ∧ _ ∧ AllLt _ _) => l9); rw [e9.1, e9.2] at hret; exact hret _ _ _ _ _ _ kF9 (news_drop (news_drop kN9)) (ktn_ltOf l9.2.2))
    | ((have e9 := pv3 hne (by assumption) (by assumption)); (rename (_ ∧ AllLt _ _) => l9); rw [e9.1, e9.2] at hret; exact hret _ _ _ _ _ _ kF9 (news_drop kN9) (ktn_ltOf l9.2))
    | ((have e9 := pv4 hne (by assumption) (by assumption)); (rename (_ ∧ AllLt _ _) => l9); rw [e9.1, e9.2] at hret; exact hret _ _ _ _ _ _ kF9 (news_drop kN9) (ktn_ltOf l9.2)))
end WalkPair

/-! ## The rows that the law builds -/
section LawRows
open PySem.Builtin.Int (intBits)

/-- a row of quotients with a divisor, as the law builds them -/
structure Rw (qs : List Int) (d : Int) : Prop where
  ne : qs ≠ []
  len : qs.length ≤ 8
  fits : Fits 1100000 qs
  good : Good qs
  pos : ∀ q ∈ qs, 1 ≤ q
  d1 : 1 ≤ d
  db : intBits d ≤ 1100000

theorem numbers_of {ns : List Int} (h : (PyData.list (ns.map .int)).layable0 = true) : ∀ x ∈ List.map (fun k' : Int => 1 + if k' < 0 then -k' else k') (List.take 8 ns), 1 ≤ x ∧ intBits x ≤ 1100000 := by
  intro x hx
  obtain ⟨k, hk, rfl⟩ := List.mem_map.mp hx
  have hb := PyData.bits_item_of_ints h (List.mem_of_mem_take hk)
  have h1 : intBits (1 : Int) ≤ 1 := by decide
  have hb2 : intBits (if k < 0 then -k else k) ≤ max (2 ^ 20) (2 ^ 20) := bits_ite (bits_neg hb) hb
  have hb3 := bits_add h1 hb2
  refine ⟨by split <;> omega, Nat.le_trans hb3 (by decide)⟩
theorem numbers_len (ns : List Int) : (List.map (fun k' : Int => 1 + if k' < 0 then -k' else k') (List.take 8 ns)).length ≤ 8 := by
  simp only [List.length_map, List.length_take]; omega
theorem numbers_len' {ns : List Int} (_h : (PyData.list (ns.map .int)).layable0 = true) : (List.map (fun k' : Int => 1 + if k' < 0 then -k' else k') (List.take 8 ns)).length ≤ 8 ∧ (List.drop 1 (List.map (fun k' : Int => 1 + if k' < 0 then -k' else k') (List.take 8 ns))).length ≤ 8 := by
  simp only [List.length_map, List.length_take, List.length_drop]; omega
section
variable {N : List Int} (hN : ∀ x ∈ N, 1 ≤ x ∧ intBits x ≤ 1100000) (hl : N.length ≤ 8)
include hN in
theorem div_of (h0 : 0 < N.length) : 1 ≤ N.getD (Int.toNat 0) 0 ∧ intBits (N.getD (Int.toNat 0) 0) ≤ 1100000 := by
  cases N with
  | nil => exact absurd h0 (by simp)
  | cons x r => exact hN x (.head _)
theorem last_getD {Q : List Int} (h : 1 < (Q.length : Int)) {q : Int} (hq : Q.getLast? = some q) : Q.getD ((Q.length : Int) - 1).toNat 0 = q := by
  have e : ((Q.length : Int) - 1).toNat = Q.length - 1 := by omega
  rw [e, List.getD_eq_getElem?_getD, ← List.getLast?_eq_getElem?, hq]; rfl
include hN hl
theorem row2 (h0 : 0 < N.length) (h1 : 1 < ((N.drop 1).length : Int)) (h2 : (N.drop 1).getD (((N.drop 1).length : Int) - 1).toNat 0 ≠ 1) : Rw (N.drop 1) (N.getD (Int.toNat 0) 0) := by
  have ⟨a, b⟩ := div_of hN h0
  have hp : ∀ q ∈ N.drop 1, 1 ≤ q := fun x hx => (hN x (List.mem_of_mem_drop hx)).1
  refine ⟨?_, ?_, fun x hx => (hN x (List.mem_of_mem_drop hx)).2, good_of hp ?_, hp, a, b⟩
  · intro e; rw [e] at h1; simp at h1
  · rw [List.length_drop]; omega
  · intro _ q hq
    rw [last_getD h1 hq] at h2
    have := hp q (List.mem_of_getLast? hq)
    omega
theorem row3 (h0 : 0 < N.length) (h1 : 0 < (N.drop 1).length) (h2 : ¬ 1 < ((N.drop 1).length : Int)) : Rw (N.drop 1) (N.getD (Int.toNat 0) 0) := by
  have ⟨a, b⟩ := div_of hN h0
  have hp : ∀ q ∈ N.drop 1, 1 ≤ q := fun x hx => (hN x (List.mem_of_mem_drop hx)).1
  refine ⟨?_, ?_, fun x hx => (hN x (List.mem_of_mem_drop hx)).2, good_of hp ?_, hp, a, b⟩
  · intro e; rw [e] at h1; simp at h1
  · rw [List.length_drop]; omega
  · intro h; omega
theorem row1 (h0 : 0 < N.length) (h1 : 1 < ((N.drop 1).length : Int)) : Rw (List.take (((N.drop 1).length : Int) - 1).toNat (N.drop 1) ++ [2]) (N.getD (Int.toNat 0) 0) := by
  have ⟨a, b⟩ := div_of hN h0
  have hm : ∀ q ∈ List.take (((N.drop 1).length : Int) - 1).toNat (N.drop 1) ++ [2], 1 ≤ q ∧ intBits q ≤ 1100000 := fun x hx => by
    rcases List.mem_append.mp hx with hx | hx
    · exact hN x (List.mem_of_mem_drop (List.mem_of_mem_take hx))
    · rw [List.mem_singleton.mp hx]; exact ⟨by decide, by decide⟩
  refine ⟨by simp, ?_, fun x hx => (hm x hx).2, good_of (fun x hx => (hm x hx).1) ?_, fun x hx => (hm x hx).1, a, b⟩
  · simp only [List.length_append, List.length_take, List.length_drop, List.length_cons, List.length_nil] at h1 ⊢; omega
  · intro _ q hq
    rw [List.getLast?_append] at hq
    simp at hq
    omega
omit hl
theorem row4 (h0 : 0 < N.length) : Rw [2, 3, 4] (N.getD (Int.toNat 0) 0) := by
  have ⟨a, b⟩ := div_of hN h0
  refine ⟨by simp, by decide, ?_, ⟨by decide, .inr (by decide), by decide, .inr (by decide), by decide, .inl rfl, trivial⟩, by decide, a, b⟩
  intro x hx
  simp at hx
  rcases hx with rfl | rfl | rfl <;> decide
end
theorem row5 : Rw [2, 3, 4] 1 := by
  refine ⟨by simp, by decide, ?_, ⟨by decide, .inr (by decide), by decide, .inr (by decide), by decide, .inl rfl, trivial⟩, by decide, by decide, by decide⟩
  intro x hx
  simp at hx
  rcases hx with rfl | rfl | rfl <;> decide
theorem turned_eq {qs : List Int} {n : Nat} (e : n = qs.length) : List.map (fun k' : Int => qs.getD ((n : Int) - 1 - k').toNat 0) (rangeKs 0 ((n : Int) - 0).toNat) = qs.reverse := by
  have e0 : ((n : Int) - 0).toNat = n := by omega
  rw [e0]
  apply List.ext_getElem?
  intro i
  rw [List.getElem?_map]
  by_cases hi : i < n
  · have h1 : (rangeKs 0 n)[i]? = some (0 + (i : Int)) := by simp [rangeKs, hi]
    rw [h1, List.getElem?_reverse (by omega), Option.map_some]
    have h2 : ((n : Int) - 1 - (0 + (i : Int))).toNat = qs.length - 1 - i := by omega
    rw [h2, List.getD_eq_getElem?_getD]
    have h3 : qs.length - 1 - i < qs.length := by omega
    rw [List.getElem?_eq_getElem h3]; rfl
  · have h1 : (rangeKs 0 n)[i]? = none := List.getElem?_eq_none (by rw [rangeKs_length]; omega)
    rw [h1, List.getElem?_eq_none (by rw [List.length_reverse]; omega)]; rfl
theorem turned_234 : List.map (fun k' : Int => ([2, 3, 4] : List Int).getD (3 - 1 - k').toNat 0) (rangeKs 0 ((3 : Int) - 0).toNat) = [2, 3, 4].reverse := by decide
theorem Rw.revK {qs : List Int} {d : Int} (_h : Rw qs d) : d * cK qs = d * cK qs.reverse := by rw [cK_reverse]
theorem ints_234 {ys : List Value} (h : IntsAre ys (List.map (fun k' : Int => [2, 3, 4].getD (3 - 1 - k').toNat 0) (rangeKs 0 ((3 : Int) - 0).toNat))) : IntsAre ys [2, 3, 4].reverse := by
  rw [turned_234] at h; exact h
theorem idx3 {n : Nat} {k : Int} (h : k < 0 + (n : Int)) : 0 ≤ (n : Int) - 1 - k := by omega
theorem idx4 {n m : Nat} {k : Int} (h : 0 ≤ k) (e : n = m) : (n : Int) - 1 - k < (m : Int) := by omega
theorem idx5 {n : Nat} {k : Int} (h : 0 ≤ k) (e : n ≤ 8) : (n : Int) - 1 - k < 2 ^ 63 := by omega
theorem row1_len {Q : List Int} (h : 1 < (Q.length : Int)) : Q.length = (List.take ((Q.length : Int) - 1).toNat Q ++ [2]).length := by
  simp only [List.length_append, List.length_take, List.length_cons, List.length_nil]; omega
section
variable {qs : List Int} {d : Int} (h : Rw qs d)
include h
theorem Rw.len0 : 0 < qs.length := List.length_pos_iff.mpr h.ne
theorem Rw.cS : d * cK (qs.drop 1) = d * Mine.cS qs := by
  cases qs with
  | nil => exact absurd rfl h.ne
  | cons q r => rfl
theorem Rw.bez : d * cK qs * cX qs + d * cK (qs.drop 1) * cY qs = d := by
  rw [h.cS]
  have := bezout qs
  grind
theorem Rw.bound : qs.length * (1100000 + 1) ≤ 8 * (1100000 + 1) := Nat.mul_le_mul_right _ h.len
theorem Rw.bK : intBits (cK qs) ≤ 9000000 := by
  have h1 := (bits_KS h.fits).1
  have h2 := h.bound
  omega
theorem Rw.bK1 : intBits (cK (qs.drop 1)) ≤ 9000000 := by
  have h1 := (bits_KS (Fits.drop 1 h.fits)).1
  have h2 : (qs.drop 1).length ≤ 8 := by rw [List.length_drop]; have := h.len; omega
  have : (qs.drop 1).length * (1100000 + 1) ≤ 8 * (1100000 + 1) := Nat.mul_le_mul_right _ h2
  omega
theorem Rw.bX : intBits (cX qs) ≤ 9000000 := by
  have h1 := (bits_XY h.fits).1
  have h2 := h.bound
  omega
theorem Rw.bY : intBits (cY qs) ≤ 9000000 := by
  have h1 := (bits_XY h.fits).2
  have h2 := h.bound
  omega
theorem Rw.m1 : IntMulOk d (cK qs) := mulOk_of_bits h.db h.bK (by omega)
theorem Rw.m2 : IntMulOk d (cK (qs.drop 1)) := mulOk_of_bits h.db h.bK1 (by omega)
theorem Rw.m3 : IntMulOk (d * cK qs) (cX qs) := mulOk_of_bits (bits_mul h.db h.bK) h.bX (by omega)
theorem Rw.m4 : IntMulOk (d * cK (qs.drop 1)) (cY qs) := mulOk_of_bits (bits_mul h.db h.bK1) h.bY (by omega)
/-- the turned row -/
theorem Rw.rev (h2 : qs.getD (Int.toNat 0) 0 ≠ 1) : Rw qs.reverse d := by
  replace h2 : qs.getD 0 0 ≠ 1 := h2
  have hp : ∀ q ∈ qs.reverse, 1 ≤ q := fun x hx => h.pos x (List.mem_reverse.mp hx)
  refine ⟨by simpa using h.ne, by simpa using h.len, fun x hx => h.fits x (List.mem_reverse.mp hx), good_of hp ?_, hp, h.d1, h.db⟩
  intro _ q hq
  rw [List.getLast?_reverse] at hq
  cases qs with
  | nil => simp at hq
  | cons x r =>
    simp at hq h2
    have := h.pos x (.head _)
    omega
end
theorem bez_234 {d : Int} (h : Rw [2, 3, 4] d) : d * cK [2, 3, 4] * cX [2, 3, 4] + d * (4 * (3 * 1 + 0) + 1) * cY [2, 3, 4] = d := h.bez
end LawRows

/-! ## The law's walk -/
section WalkLaw
local macro_rules | `(tactic| l_fit) => `(tactic| ((simp only [List.length_append, List.length_drop, List.length_map, List.length_take, List.length_cons, List.length_nil]); omega))
section
variable {w : World} {mean : ExcName → Option Value} {mg mb : Str → Option Value} {qs : List Int} {d : Int} {dp un : Nat} {gd : Option (List Code)} {cn : Str} {cs : Scope} {a : Addr} {ccd : Value} {cl : List (Str × Addr)} {outer : List Env} {A₀ : Around} {base h₀ : Heap} {L : Addr} {m : Str → Option Value} {news : List (Addr × Obj)} {s : Shared} {Q E : Value → Shared → Prop} {l : Addr} {vs : List Value} {n : Nat} {x y : Int} {tx ty : Tok}
theorem pair_use (B : Below A₀ base outer h₀) (F : Fr h₀ L s.heap m) (X : (hd.heap_39 w.params).In h₀) (N : News h₀ L s.heap news) (T : Top hd.view_39 (looseW hd.view_39 []) mean mg mb h₀) (hk : cs.kind = .function)
    (hl : (l, listOf vs.toArray n) ∈ news) (hi : IntsAre vs qs) (hR : Rw qs d) (hd1 : dp + 2 < recursionLimit) (hu : un + 16 < cLine)
    (ret : ∀ (D : Addr) (t1 t2 : Tok) (c : Nat) (h' : Heap) (tk' : Nat), Fr h₀ L h' m → News h₀ L h' ((D, tup2 (cX qs) t1 (cY qs) t2 c) :: news) → (∀ p ∈ news, p.1 < D) → Q (.ref D) { s with heap := h', toks := tk' }) :
    wpAny (model PySem.Challenge.rw_bd0016_01.row.prog w) (ktrTop dp un gd cn cs L a ccd cl outer) (call (.ref 35) [.ref l]) Q E s :=
  pair_all w mean mg mb qs hR.ne hR.fits hR.len _ _ _ _ _ _ _ _ _ _ _ _ _ _ _ _ _ _ _ _ _ B F X N T hk hl hi hd1 hu ret
theorem euc_law (B : Below A₀ base outer h₀) (F : Fr h₀ L s.heap m) (X : (hd.heap_39 w.params).In h₀) (N : News h₀ L s.heap news) (T : Top hd.view_39 (looseW hd.view_39 []) mean mg mb h₀) (hk : cs.kind = .function)
    (hR : Rw qs d) (hx : x = d * cK qs) (hy : y = d * cK (qs.drop 1)) (hd1 : dp + 110 < recursionLimit) (hu : un + 80 < cLine)
    (ret : ∀ (D : Addr) (t1 t2 t3 : Tok) (c : Nat) (h' : Heap) (tk' : Nat), Fr h₀ L h' m → News h₀ L h' ((D, tup3 (cX qs) t1 (cY qs) t2 d t3 c) :: news) → (∀ p ∈ news, p.1 < D) → Q (.ref D) { s with heap := h', toks := tk' }) :
    wpAny (model PySem.Challenge.rw_bd0016_01.row.prog w) (ktrTop dp un gd cn cs L a ccd cl outer) (call (.ref 21) [.int x tx, .int y ty]) Q E s :=
  euc_use (euc_all w mean mg mb d hR.d1 qs hR.good hR.fits hR.len) B F X N T hk hx (by rw [hy, hR.cS]) (by have := hR.len; omega) (by have := hR.len; omega) ret
end
local macro_rules | `(tactic| mul_fits) => `(tactic| ((rename Rw _ _ => hR9); first | exact hR9.m1 | exact hR9.m2 | exact hR9.m3 | exact hR9.m4))
local macro_rules | `(tactic| walk_at "call ref") => `(tactic| (k_here; (rename Rw _ _ => hR9); k_dflt (refine' cont_use ?k1 ?k2 ?k3 ?k4 ?k5 ?kK ?kl ?ki ?kf ?kq ?kd ?ku ?_; (case k1 => k_asm); (case k2 => k_asm); (case k3 => k_asm); (case k4 => k_asm); (case k5 => k_asm); (case kK => first | exact rfl | assumption); (case kl => k_mem); (case ki => l_ints); (case kf => first | exact hR9.fits | exact Fits.drop 1 hR9.fits); (case kq => first | exact hR9.len | (rw [List.length_drop]; exact Nat.le_trans (Nat.sub_le _ _) hR9.len)); (case kd => ktr_room); (case ku => ktr_units)); intro t9 h9 tk9 F9 N9; (try k_sweep); (try dsimp only); (try k_fold)))
local macro_rules | `(tactic| walk_at "call ref") => `(tactic| (k_here; (rename Rw _ _ => hR9); k_dflt (refine' euc_law ?k1 ?k2 ?k3 ?k4 ?k5 ?kK hR9 ?kx ?ky ?kd ?ku ?_; (case k1 => k_asm); (case k2 => k_asm); (case k3 => k_asm); (case k4 => k_asm); (case k5 => k_asm); (case kK => first | exact rfl | assumption); (case kx => first | exact rfl | assumption); (case ky => exact rfl); (case kd => ktr_room); (case ku => ktr_units)); intro D9 t91 t92 t93 c9 h9 tk9 F9 N9 l1; (try k_lt l1); (try k_sweep); (try dsimp only); (try k_fold)))
local macro_rules | `(tactic| walk_at "call ref") => `(tactic| (k_here; (rename Rw _ _ => hR9); k_dflt (refine' pair_use ?k1 ?k2 ?k3 ?k4 ?k5 ?kK ?kl ?ki hR9 ?kd ?ku ?_; (case k1 => k_asm); (case k2 => k_asm); (case k3 => k_asm); (case k4 => k_asm); (case k5 => k_asm); (case kK => first | exact rfl | assumption); (case kl => k_mem); (case ki => l_ints); (case kd => ktr_room); (case ku => ktr_units)); intro D9 t91 t92 c9 h9 tk9 F9 N9 l1; (try k_lt l1); (try k_sweep); (try dsimp only); (try k_fold)))
local macro_rules | `(tactic| walk_at "subscriptTail Name BinOp ref int") => `(tactic| (k_here; (with_reducible show wpAny _ _ (subscriptTail _ _ (Value.ref _) (Value.int (_ - 1 - _) _)) _ _ _); k_dflt (refine' item_list_ints ?k1 ?k2 ?k3 ?k4 ?k5 ?_; (case k1 => (refine' mine_list ?kN ?km; (case kN => k_asm); (case km => k_mem))); (case k2 => l_ints); (case k3 => exact idx3 (by assumption)); (case k4 => exact idx4 (by assumption) (by first | rfl | assumption)); (case k5 => exact idx5 (by assumption) (by assumption)); k_whole); intro _))
theorem all_holds : PySem.Challenge.rw_bd0016_01.Holds := Mine.hd (by
  k_go0
  (all_goals try k_fold)
  repeat' ((fail_if_success (with_reducible show wpAny _ _ (execs (Stmt.Assign [Expr.Tuple [Expr.Name (Str.ofString "great") _, _] _ _] _ _ :: _) _) _ _ _)); (first | (k_unfold; (try dsimp only)) | (k_end; wrow_close) | walk1 | (dsimp only; walk1) | (leave1; walk_say "STEP leave1"; try dsimp only) | fail "no step"))
  all_goals ((rename (PyData.layable0 (.list _) = true) => hLay9); have hN9 := numbers_of hLay9; have hl9 := numbers_len' hLay9; obtain ⟨hl9a, hl9b⟩ := hl9)
  all_goals first
    | (have hmn := row1_len (show 1 < ((_ : Nat) : Int) by assumption); have hR := row1 hN9 (numbers_len _) (by assumption) (by assumption); (have _ := (show List.getD _ _ _ = (1 : Int) by assumption)))
    | (have hR := row2 hN9 (numbers_len _) (by assumption) (by assumption) (by assumption))
    | (have hR := row3 hN9 (numbers_len _) (by assumption) (by assumption) (by assumption))
    | (have hR := row4 hN9 (by assumption))
    | (have hR := row5)
  all_goals (have hbez := Rw.bez (by assumption); have hlen0 := Rw.len0 (by assumption); have hlen8 := Rw.len (by assumption))
  all_goals (try have hbez' := bez_234 (by assumption))
  all_goals (repeat' ((fail_if_success (with_reducible show wpAny _ _ (execs (Stmt.Assign [Expr.Tuple [Expr.Name (Str.ofString "first") _, Expr.Name (Str.ofString "second") _] _ _] _ _ :: _) _) _ _ _)); (first
    | ((with_reducible show wpAny _ _ (execs [Stmt.Return (some (Expr.Constant (Const.bool false) _ _)) _] _) _ _ _); exfalso; omega)
    | (k_unfold; (try dsimp only))
    | (k_end; kc_bool; (refine goodW_bool (by with_reducible assumption) (by with_reducible assumption) (raisesW_false ?_) ?_); (· wrow_none_raised); (· (refine postW_of (by wrow_shape) (w_eq_bool (w_res rfl) w_lit) ?_; rfl)))
    | walk1 | (dsimp only; walk1) | (leave1; walk_say "STEP leave1"; try dsimp only) | fail "no step")))
  all_goals (rename IntsAre _ _ => hT9)
  all_goals first | rw [turned_eq (by first | rfl | assumption)] at hT9 | replace hT9 := ints_234 hT9
  all_goals (have hrev := Rw.revK (by assumption); have hR2 := Rw.rev (by assumption) (by first | assumption | decide))
  all_goals (repeat' (first
    | ((with_reducible show wpAny _ _ (execs [Stmt.Return (some (Expr.Constant (Const.bool false) _ _)) _] _) _ _ _); exfalso; omega)
    | (k_unfold; (try dsimp only))
    | (k_end; kc_bool; (refine goodW_bool (by with_reducible assumption) (by with_reducible assumption) (raisesW_false ?_) ?_); (· wrow_none_raised); (· (refine postW_of (by wrow_shape) (w_eq_bool (w_res rfl) w_lit) ?_; rfl)))
    | walk1 | (dsimp only; walk1) | (leave1; walk_say "STEP leave1"; try dsimp only) | fail "no step")))
end WalkLaw
end Mine

theorem PySem.Challenge.cw_bd0016_01_holds : PySem.Challenge.rw_bd0016_01.Holds := by
  exact Mine.all_holds
