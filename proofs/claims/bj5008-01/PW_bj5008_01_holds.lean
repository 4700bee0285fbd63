import PyProof.Rows.All
import Wide.All
import OpenK.AllK
import Wide.FinOn
import PySem.Challenge.RW_bj5008_01
open PySem PySem.W PyProof.Rows PySem.Calls
set_option Elab.async false
set_option maxRecDepth 100000
set_option maxHeartbeats 8000000
set_option linter.unusedSimpArgs false
namespace Mine
open_top hd for PySem.Challenge.rw_bj5008_01

def sgn (n : Int) : Int := if n < 0 then -1 else if 0 < n then 1 else 0

def ar (px py qx qy rx ry : Int) : Int := (qy - py) * (rx - qx) - (qx - px) * (ry - qy)
def crs (ax ay bx by_ cx cy : Int) : Int := (bx - ax) * (cy - ay) - (by_ - ay) * (cx - ax)
def onsegB (px py qx qy rx ry : Int) : Bool := decide ((min px rx ≤ qx ∧ qx ≤ max px rx) ∧ (min py ry ≤ qy ∧ qy ≤ max py ry))
def pitB (ax ay bx bY cx cy px py : Int) : Bool := decide ((ax - px) * (cy - py) ≤ (cx - px) * (ay - py) ∧ (bx - px) * (ay - py) ≤ (ax - px) * (bY - py) ∧ (cx - px) * (bY - py) ≤ (bx - px) * (cy - py))
def insB (ax ay bx bY cx cy px py : Int) : Bool := decide ((crs ax ay bx bY px py).natAbs + (crs bx bY cx cy px py).natAbs + (crs cx cy ax ay px py).natAbs = (crs ax ay bx bY cx cy).natAbs)
def liesB (px py ax ay bx bY : Int) : Bool :=
  if ax = bx ∧ ay = bY then decide (px = ax ∧ py = ay)
  else decide (crs ax ay bx bY px py = 0 ∧ 0 ≤ (px - ax) * (bx - ax) + (py - ay) * (bY - ay) ∧ (px - ax) * (bx - ax) + (py - ay) * (bY - ay) ≤ (bx - ax) * (bx - ax) + (bY - ay) * (bY - ay))
theorem lies_eq {px py ax ay bx bY : Int} (h : (ax == bx && ay == bY) = true) : (px == ax && py == ay) = liesB px py ax ay bx bY := by
  simp only [Bool.and_eq_true, beq_iff_eq] at h
  unfold liesB
  rw [if_pos h, Bool.eq_iff_iff]
  simp
theorem lies_nE {ax ay bx bY : Int} (h : (ax == bx && ay == bY) = false) : ¬ (ax = bx ∧ ay = bY) := by
  rintro ⟨rfl, rfl⟩
  simp at h
theorem lies_ne1 {px py ax ay bx bY : Int} (h : (ax == bx && ay == bY) = false) (hc : crs ax ay bx bY px py = 0) (h0 : 0 ≤ (px - ax) * (bx - ax) + (py - ay) * (bY - ay)) :
    decide ((px - ax) * (bx - ax) + (py - ay) * (bY - ay) ≤ (bx - ax) * (bx - ax) + (bY - ay) * (bY - ay)) = liesB px py ax ay bx bY := by
  unfold liesB
  rw [if_neg (lies_nE h), decide_eq_decide]
  simp only [hc, h0, true_and]
theorem lies_ne2 {px py ax ay bx bY : Int} (h : (ax == bx && ay == bY) = false) (h0 : ¬ 0 ≤ (px - ax) * (bx - ax) + (py - ay) * (bY - ay)) :
    decide (0 ≤ (px - ax) * (bx - ax) + (py - ay) * (bY - ay)) = liesB px py ax ay bx bY := by
  unfold liesB
  rw [if_neg (lies_nE h), decide_eq_decide]
  simp only [h0, false_and, and_false]
theorem lies_ne3 {px py ax ay bx bY : Int} (h : (ax == bx && ay == bY) = false) (hc : crs ax ay bx bY px py ≠ 0) :
    (crs ax ay bx bY px py == 0) = liesB px py ax ay bx bY := by
  unfold liesB
  rw [if_neg (lies_nE h), Bool.eq_iff_iff]
  simp [hc]
def meetB (ax ay bx bY cx cy dx dy : Int) : Bool :=
  if (bx - ax) * (dy - cy) - (bY - ay) * (dx - cx) = 0 then liesB ax ay cx cy dx dy || liesB bx bY cx cy dx dy || liesB cx cy ax ay bx bY || liesB dx dy ax ay bx bY
  else if (bx - ax) * (dy - cy) - (bY - ay) * (dx - cx) < 0 then
    decide (0 ≤ 0 - ((cx - ax) * (dy - cy) - (cy - ay) * (dx - cx)) ∧ 0 - ((cx - ax) * (dy - cy) - (cy - ay) * (dx - cx)) ≤ 0 - ((bx - ax) * (dy - cy) - (bY - ay) * (dx - cx)) ∧
      0 ≤ 0 - ((cx - ax) * (bY - ay) - (cy - ay) * (bx - ax)) ∧ 0 - ((cx - ax) * (bY - ay) - (cy - ay) * (bx - ax)) ≤ 0 - ((bx - ax) * (dy - cy) - (bY - ay) * (dx - cx)))
  else
    decide (0 ≤ ((cx - ax) * (dy - cy) - (cy - ay) * (dx - cx)) ∧ ((cx - ax) * (dy - cy) - (cy - ay) * (dx - cx)) ≤ ((bx - ax) * (dy - cy) - (bY - ay) * (dx - cx)) ∧
      0 ≤ ((cx - ax) * (bY - ay) - (cy - ay) * (bx - ax)) ∧ ((cx - ax) * (bY - ay) - (cy - ay) * (bx - ax)) ≤ ((bx - ax) * (dy - cy) - (bY - ay) * (dx - cx)))
def isectB (ax ay bx bY cx cy dx dy : Int) : Bool :=
  (sgn (ar ax ay bx bY cx cy) != sgn (ar ax ay bx bY dx dy) && sgn (ar cx cy dx dy ax ay) != sgn (ar cx cy dx dy bx bY)) ||
  (sgn (ar ax ay bx bY cx cy) == 0 && onsegB ax ay cx cy bx bY) || (sgn (ar ax ay bx bY dx dy) == 0 && onsegB ax ay dx dy bx bY) ||
  (sgn (ar cx cy dx dy ax ay) == 0 && onsegB cx cy ax ay dx dy) || (sgn (ar cx cy dx dy bx bY) == 0 && onsegB cx cy bx bY dx dy)
theorem ib_t1 {ax : Int} {ay : Int} {bx : Int} {bY : Int} {cx : Int} {cy : Int} {dx : Int} {dy : Int} (h1 : sgn (ar ax ay bx bY cx cy) ≠ sgn (ar ax ay bx bY dx dy)) (h2 : sgn (ar cx cy dx dy ax ay) ≠ sgn (ar cx cy dx dy bx bY)) : true = isectB ax ay bx bY cx cy dx dy := by
  unfold isectB
  rw [bne_iff_ne.mpr h1, bne_iff_ne.mpr h2]
  rfl
theorem ib_t2 {ax : Int} {ay : Int} {bx : Int} {bY : Int} {cx : Int} {cy : Int} {dx : Int} {dy : Int} (h1 : sgn (ar ax ay bx bY cx cy) = 0) (h2 : onsegB ax ay cx cy bx bY = true) : true = isectB ax ay bx bY cx cy dx dy := by
  unfold isectB
  rw [h2, h1]
  simp
theorem ib_t3 {ax : Int} {ay : Int} {bx : Int} {bY : Int} {cx : Int} {cy : Int} {dx : Int} {dy : Int} (h1 : sgn (ar ax ay bx bY dx dy) = 0) (h2 : onsegB ax ay dx dy bx bY = true) : true = isectB ax ay bx bY cx cy dx dy := by
  unfold isectB
  rw [h2, h1]
  simp
theorem ib_t4 {ax : Int} {ay : Int} {bx : Int} {bY : Int} {cx : Int} {cy : Int} {dx : Int} {dy : Int} (h1 : sgn (ar cx cy dx dy ax ay) = 0) (h2 : onsegB cx cy ax ay dx dy = true) : true = isectB ax ay bx bY cx cy dx dy := by
  unfold isectB
  rw [h2, h1]
  simp
theorem ib_t5 {ax : Int} {ay : Int} {bx : Int} {bY : Int} {cx : Int} {cy : Int} {dx : Int} {dy : Int} (h1 : sgn (ar cx cy dx dy bx bY) = 0) (h2 : onsegB cx cy bx bY dx dy = true) : true = isectB ax ay bx bY cx cy dx dy := by
  unfold isectB
  rw [h2, h1]
  simp
theorem ib_f {ax : Int} {ay : Int} {bx : Int} {bY : Int} {cx : Int} {cy : Int} {dx : Int} {dy : Int} (h : sgn (ar ax ay bx bY cx cy) = sgn (ar ax ay bx bY dx dy) ∨ sgn (ar cx cy dx dy ax ay) = sgn (ar cx cy dx dy bx bY))
    (h1 : sgn (ar ax ay bx bY cx cy) ≠ 0 ∨ onsegB ax ay cx cy bx bY = false) (h2 : sgn (ar ax ay bx bY dx dy) ≠ 0 ∨ onsegB ax ay dx dy bx bY = false)
    (h3 : sgn (ar cx cy dx dy ax ay) ≠ 0 ∨ onsegB cx cy ax ay dx dy = false) (h4 : sgn (ar cx cy dx dy bx bY) ≠ 0 ∨ onsegB cx cy bx bY dx dy = false) : false = isectB ax ay bx bY cx cy dx dy := by
  symm
  unfold isectB
  simp only [Bool.or_eq_false_iff, Bool.and_eq_false_iff, bne_eq_false_iff_eq, beq_eq_false_iff_ne]
  exact ⟨⟨⟨⟨h, h1⟩, h2⟩, h3⟩, h4⟩
theorem bi_beq_dec (a b : Int) : (a == b) = decide (a = b) := by
  by_cases h : a = b <;> simp [h]
theorem cmp0 (n : Int) : Float64.cmpInt 0 n = some (compare 0 n) := by
  have hd : Float64.decode 0 = .fin false 0 (-1074) := PySem.Flt.decode_zero
  unfold Float64.cmpInt
  rw [hd]
  have h1 : ¬ ((-1074 : Int) ≥ 0) := by decide
  have h0 : Float64.sgn false 0 = 0 := by decide
  simp only [if_neg h1, h0]
  have hp : (0 : Int) < 2 ^ ((- -1074 : Int)).toNat := Int.pow_pos (by decide)
  generalize (2 : Int) ^ ((- -1074 : Int)).toNat = p at hp
  congr 1
  have e1 : (0 : Int) < n * p ↔ 0 < n := by
    constructor
    · intro h
      rcases Int.lt_trichotomy n 0 with h' | h' | h'
      · have := Int.mul_neg_of_neg_of_pos h' hp; omega
      · subst h'; omega
      · exact h'
    · intro h
      exact Int.mul_pos h hp
  have e2 : n * p < 0 ↔ n < 0 := by
    constructor
    · intro h
      rcases Int.lt_trichotomy n 0 with h' | h' | h'
      · exact h'
      · subst h'; omega
      · have := Int.mul_pos h' hp; omega
    · intro h
      exact Int.mul_neg_of_neg_of_pos h hp
  simp only [compare, compareOfLessAndEq]
  rcases Int.lt_trichotomy n 0 with h' | h' | h'
  · have := e2.mpr h'; rw [if_neg (by omega), if_neg (by omega), if_neg (by omega), if_neg (by omega)]
  · subst h'; simp
  · have := e1.mpr h'; rw [if_pos this, if_pos h']
theorem cmp0_gt (n : Int) : (Float64.cmpInt 0 n == some Ordering.gt) = decide (n < 0) := by
  rw [cmp0]
  simp only [compare, compareOfLessAndEq]
  rcases Int.lt_trichotomy n 0 with h' | h' | h'
  · rw [if_neg (by omega), if_neg (by omega)]; simp [h']
  · subst h'; decide
  · rw [if_pos h']; have : ¬ n < 0 := by omega
    simp [this]
theorem cmp0_lt (n : Int) : (Float64.cmpInt 0 n == some Ordering.lt) = decide (0 < n) := by
  rw [cmp0]
  simp only [compare, compareOfLessAndEq]
  rcases Int.lt_trichotomy n 0 with h' | h' | h'
  · rw [if_neg (by omega), if_neg (by omega)]; have : ¬ 0 < n := by omega
    simp [this]
  · subst h'; decide
  · rw [if_pos h']; simp [h']

abbrev Ret (h₀ : Heap) (L : Addr) (m : Str → Option Value) (news : List (Addr × Obj)) (s : Shared) (Q : Value → Shared → Prop) (R : Tok → Value) : Prop :=
  ∀ (t : Tok) (h' : Heap) (tk' : Nat), Fr h₀ L h' m → News h₀ L h' news → Q (R t) { s with heap := h', toks := tk' }

abbrev RetNode (h₀ : Heap) (L : Addr) (m : Str → Option Value) (news : List (Addr × Obj)) (s : Shared) (Q : Value → Shared → Prop) (x y : Int) : Prop :=
  ∀ (nd d : Addr) (es : List DictEntry) (tx ty : Tok) (h' : Heap) (tk' : Nat), Fr h₀ L h' m → News h₀ L h' ((nd, instObj 59 d) :: (d, dictOf es 10) :: news) →
    getL (Str.ofString "x") es = some (some (Value.int x tx)) → getL (Str.ofString "y") es = some (some (Value.int y ty)) →
    Q (.ref nd) { s with heap := h', toks := tk' }

abbrev Led := List (Addr × Obj)
def CalleeG (prog : Program) (w : World) (K : Frag) (p : Program) (loose : List Str) (mean : ExcName → Option Value) (mg mb : Str → Option Value)
    (f : Addr) (k : Nat) (vs : List Value) (pre : Led → Prop) (post : Heap → Addr → (Str → Option Value) → Led → Shared → (Value → Shared → Prop) → Prop) : Prop :=
  ∀ (dp un : Nat) (gd : Option (List Code)) (cn : Str) (cs : Scope) (a : Addr) (ccd : Value) (cl : List (Str × Addr)) (outer : List Env) (A₀ : Around) (base h₀ : Heap) (L : Addr) (m : Str → Option Value) (news : List (Addr × Obj)) (s : Shared) (Q E : Value → Shared → Prop),
    Below A₀ base outer h₀ → Fr h₀ L s.heap m → K.In h₀ → News h₀ L s.heap news → Top p loose mean mg mb h₀ → cs.kind = .function → pre news →
    dp + k < recursionLimit → un + 8 * k < cLine → post h₀ L m news s Q →
      wpAny (model prog w) (ktrTop dp un gd cn cs L a ccd cl outer) (call (.ref f) vs) Q E s
abbrev Callee (prog : Program) (w : World) (K : Frag) (p : Program) (loose : List Str) (mean : ExcName → Option Value) (mg mb : Str → Option Value)
    (f : Addr) (k : Nat) (vs : List Value) (pre : Led → Prop) (R : Tok → Value) : Prop :=
  CalleeG prog w K p loose mean mg mb f k vs pre (fun h₀ L m news s Q => Ret h₀ L m news s Q R)

abbrev tup2 (x : Int) (tx : Tok) (y : Int) (ty : Tok) : Obj := { cls := .type "tuple", data := .seq [Value.int x tx, Value.int y ty].toArray }
abbrev Bt (x : Int) : Prop := Builtin.Int.intBits x ≤ 1050000
abbrev TupAt (news : Led) (a : Addr) (x y : Int) : Prop := Bt x ∧ Bt y ∧ ∃ tx ty, (a, tup2 x tx y ty) ∈ news
abbrev NodeAt (news : Led) (n : Addr) (x y : Int) : Prop :=
  Bt x ∧ Bt y ∧ ∃ d es tx ty, (n, instObj 59 d) ∈ news ∧ (d, dictOf es 10) ∈ news ∧ getL (Str.ofString "x") es = some (some (Value.int x tx)) ∧ getL (Str.ofString "y") es = some (some (Value.int y ty))

theorem news_sub {h₀ h : Heap} {L : Addr} {news : List (Addr × Obj)} (need : List (Addr × Obj)) (N : News h₀ L h news) (hs : ∀ p ∈ need, p ∈ news) : News h₀ L h (need ++ news) :=
  fun p hp => N p ((List.mem_append.mp hp).elim (hs p) id)
theorem news_drop {h₀ h : Heap} {L : Addr} {news news' : List (Addr × Obj)} (N : News h₀ L h news') (hs : ∀ p ∈ news, p ∈ news') : News h₀ L h news := fun p hp => N p (hs p hp)
theorem retI {h₀ : Heap} {h' : Heap} {L : Addr} {m : Str → Option Value} {news : List (Addr × Obj)} {s : Shared} {Q : Value → Shared → Prop} {t : Tok} {tk' : Nat} {x y : Int} (hret : Ret h₀ L m news s Q (fun t => .int x t)) (F : Fr h₀ L h' m) (N : News h₀ L h' news) (e : y = x) : Q (.int y t) { s with heap := h', toks := tk' } := by
  subst e
  exact hret t h' tk' F N
theorem retN {h₀ : Heap} {h' : Heap} {L : Addr} {m : Str → Option Value} {news : List (Addr × Obj)} {s : Shared} {Q : Value → Shared → Prop} {tk' : Nat} {x y : Int} {nd d : Addr} {es : List DictEntry} {tx ty : Tok} {rest : Led} (hret : RetNode h₀ L m news s Q x y) (F : Fr h₀ L h' m) (N : News h₀ L h' ((nd, instObj 59 d) :: (d, dictOf es 10) :: rest)) (hs : ∀ p ∈ news, p ∈ rest)
    (gx : getL (Str.ofString "x") es = some (some (Value.int x tx))) (gy : getL (Str.ofString "y") es = some (some (Value.int y ty))) : Q (.ref nd) { s with heap := h', toks := tk' } :=
  hret nd d es tx ty h' tk' F (news_drop N fun p hp => by
    rcases List.mem_cons.mp hp with rfl | hp
    · exact .head _
    · rcases List.mem_cons.mp hp with rfl | hp
      · exact .tail _ (.head _)
      · exact .tail _ (.tail _ (hs p hp))) gx gy
theorem retB {h₀ : Heap} {h' : Heap} {L : Addr} {m : Str → Option Value} {news : List (Addr × Obj)} {s : Shared} {Q : Value → Shared → Prop} {tk' : Nat} {x y : Bool} (hret : Ret h₀ L m news s Q (fun _ => .bool x)) (F : Fr h₀ L h' m) (N : News h₀ L h' news) (e : y = x) : Q (.bool y) { s with heap := h', toks := tk' } := by
  subst e
  exact hret 0 h' tk' F N


theorem crs_sum (ax ay bx bY cx cy px py : Int) : crs ax ay bx bY px py + crs bx bY cx cy px py + crs cx cy ax ay px py = crs ax ay bx bY cx cy := by
  unfold crs; grind
theorem pit_iff (ax ay bx bY cx cy px py : Int) : pitB ax ay bx bY cx cy px py = decide (0 ≤ crs ax ay bx bY px py ∧ 0 ≤ crs bx bY cx cy px py ∧ 0 ≤ crs cx cy ax ay px py) := by
  unfold pitB
  rw [decide_eq_decide]
  have e1 : crs cx cy ax ay px py = (cx - px) * (ay - py) - (ax - px) * (cy - py) := by unfold crs; grind
  have e2 : crs ax ay bx bY px py = (ax - px) * (bY - py) - (bx - px) * (ay - py) := by unfold crs; grind
  have e3 : crs bx bY cx cy px py = (bx - px) * (cy - py) - (cx - px) * (bY - py) := by unfold crs; grind
  rw [e1, e2, e3]
  omega
theorem look_pos {ax ay bx bY cx cy px py : Int} (h : 0 < crs ax ay bx bY cx cy) : (pitB ax ay bx bY cx cy px py != insB ax ay bx bY cx cy px py) = false := by
  rw [pit_iff]
  unfold insB
  have := crs_sum ax ay bx bY cx cy px py
  rw [bne_eq_false_iff_eq, decide_eq_decide]
  omega
theorem look_neg {ax ay bx bY cx cy px py : Int} (h0 : crs ax ay bx bY cx cy ≠ 0) (h : ¬ 0 < crs ax ay bx bY cx cy) : (pitB ax ay bx bY cx cy px py != decide (0 < crs ax ay bx bY cx cy)) = false := by
  rw [pit_iff]
  have := crs_sum ax ay bx bY cx cy px py
  rw [bne_eq_false_iff_eq, decide_eq_decide]
  omega
theorem ar_crs (ax ay bx bY cx cy : Int) : ar ax ay bx bY cx cy = 0 - crs ax ay bx bY cx cy := by
  unfold ar crs; grind

theorem btw_mul {B T p q : Int} (hB : 0 < B) (e : q * T = p * B) (hq : q ≠ 0) (hp : (0 ≤ p ∧ p ≤ q) ∨ (q ≤ p ∧ p ≤ 0)) : 0 ≤ T ∧ T ≤ B := by
  rcases hp with ⟨h1, h2⟩ | ⟨h1, h2⟩
  · have hq' : 0 < q := by omega
    have a1 : 0 ≤ p * B := Int.mul_nonneg h1 (by omega)
    have a2 : p * B ≤ q * B := Int.mul_le_mul_of_nonneg_right h2 (by omega)
    constructor
    · refine Int.le_of_mul_le_mul_left (a := q) ?_ hq'
      rw [e, Int.mul_zero]; exact a1
    · refine Int.le_of_mul_le_mul_left (a := q) ?_ hq'
      rw [e]; exact a2
  · have hq' : 0 < -q := by omega
    have a1 : 0 ≤ -p * B := Int.mul_nonneg (by omega) (by omega)
    have a2 : -p * B ≤ -q * B := Int.mul_le_mul_of_nonneg_right (by omega) (by omega)
    have e' : -q * T = -p * B := by rw [Int.neg_mul, Int.neg_mul, e]
    constructor
    · refine Int.le_of_mul_le_mul_left (a := -q) ?_ hq'
      rw [e', Int.mul_zero]; exact a1
    · refine Int.le_of_mul_le_mul_left (a := -q) ?_ hq'
      rw [e']; exact a2
theorem cross_btw {px py qx qy rx ry : Int} (hx : (0 ≤ px ∧ px ≤ qx) ∨ (qx ≤ px ∧ px ≤ 0)) (hy : (0 ≤ py ∧ py ≤ qy) ∨ (qy ≤ py ∧ py ≤ 0)) (hc : px * qy = py * qx) (hB : 0 < qx * ry - qy * rx) :
    0 ≤ px * ry - py * rx ∧ px * ry - py * rx ≤ qx * ry - qy * rx := by
  by_cases h : qx = 0
  · by_cases h' : qy = 0
    · subst h; subst h'; simp at hB
    · refine btw_mul (p := py) (q := qy) hB ?_ h' hy
      grind
  · refine btw_mul (p := px) (q := qx) hB ?_ h hx
    grind
theorem cross_btw' {px py qx qy rx ry : Int} (hx : (0 ≤ px ∧ px ≤ qx) ∨ (qx ≤ px ∧ px ≤ 0)) (hy : (0 ≤ py ∧ py ≤ qy) ∨ (qy ≤ py ∧ py ≤ 0)) (hc : px * qy = py * qx) (hB : qx * ry - qy * rx < 0) :
    px * ry - py * rx ≤ 0 ∧ qx * ry - qy * rx ≤ px * ry - py * rx := by
  have h := cross_btw (rx := -rx) (ry := -ry) hx hy hc (by simp only [Int.mul_neg]; omega)
  simp only [Int.mul_neg] at h
  omega
theorem onseg_btw {px py qx qy rx ry : Int} (h : onsegB px py qx qy rx ry = true) :
    ((0 ≤ qx - px ∧ qx - px ≤ rx - px) ∨ (rx - px ≤ qx - px ∧ qx - px ≤ 0)) ∧ ((0 ≤ qy - py ∧ qy - py ≤ ry - py) ∨ (ry - py ≤ qy - py ∧ qy - py ≤ 0)) := by
  unfold onsegB at h
  rw [decide_eq_true_eq] at h
  omega
theorem onseg_sym (px py qx qy rx ry : Int) : onsegB px py qx qy rx ry = onsegB rx ry qx qy px py := by
  unfold onsegB
  rw [decide_eq_decide]
  omega
theorem sq_btw {p q : Int} (h : (0 ≤ p ∧ p ≤ q) ∨ (q ≤ p ∧ p ≤ 0)) : 0 ≤ p * q ∧ p * q ≤ q * q := by
  rcases h with ⟨h1, h2⟩ | ⟨h1, h2⟩
  · exact ⟨Int.mul_nonneg h1 (by omega), Int.mul_le_mul_of_nonneg_right h2 (by omega)⟩
  · have a := Int.mul_nonneg (show 0 ≤ -p by omega) (show 0 ≤ -q by omega)
    have b := Int.mul_le_mul_of_nonneg_right (show -p ≤ -q by omega) (show 0 ≤ -q by omega)
    simp only [Int.neg_mul_neg] at a b
    exact ⟨a, b⟩
theorem btw_of_mul {W A p q : Int} (hW : 0 < W) (e : p * W = q * A) (h0 : 0 ≤ A) (h1 : A ≤ W) : (0 ≤ p ∧ p ≤ q) ∨ (q ≤ p ∧ p ≤ 0) := by
  rcases (show 0 ≤ q ∨ q ≤ 0 by omega) with h | h
  · left
    constructor
    · refine Int.le_of_mul_le_mul_right (a := W) ?_ hW
      rw [e, Int.zero_mul]; exact Int.mul_nonneg h h0
    · refine Int.le_of_mul_le_mul_right (a := W) ?_ hW
      rw [e]; exact Int.mul_le_mul_of_nonneg_left h1 h
  · right
    constructor
    · refine Int.le_of_mul_le_mul_right (a := W) ?_ hW
      rw [e]; exact Int.mul_le_mul_of_nonpos_left h h1
    · refine Int.le_of_mul_le_mul_right (a := W) ?_ hW
      rw [e, Int.zero_mul]
      have := Int.mul_le_mul_of_nonpos_left h h0
      rw [Int.mul_zero] at this
      exact this
theorem lies_onseg (px py ax ay bx bY : Int) : liesB px py ax ay bx bY = decide (crs ax ay bx bY px py = 0 ∧ onsegB ax ay px py bx bY = true) := by
  unfold liesB
  split
  · rename_i h
    obtain ⟨rfl, rfl⟩ := h
    rw [decide_eq_decide]
    have e : crs ax ay ax ay px py = 0 := by unfold crs; simp
    rw [e]
    unfold onsegB
    rw [decide_eq_true_eq]
    omega
  · rename_i h
    rw [decide_eq_decide]
    constructor
    · rintro ⟨hc, h0, h1⟩
      refine ⟨hc, ?_⟩
      have hW : 0 < (bx - ax) * (bx - ax) + (bY - ay) * (bY - ay) := by
        have s1 : 0 ≤ (bx - ax) * (bx - ax) := by
          rcases (show 0 ≤ bx - ax ∨ bx - ax ≤ 0 by omega) with h | h
          · exact Int.mul_nonneg h h
          · exact Int.mul_nonneg_of_nonpos_of_nonpos h h
        have s2 : 0 ≤ (bY - ay) * (bY - ay) := by
          rcases (show 0 ≤ bY - ay ∨ bY - ay ≤ 0 by omega) with h | h
          · exact Int.mul_nonneg h h
          · exact Int.mul_nonneg_of_nonpos_of_nonpos h h
        rcases (show bx - ax ≠ 0 ∨ bY - ay ≠ 0 by omega) with h | h
        · have : (bx - ax) * (bx - ax) ≠ 0 := Int.mul_ne_zero h h
          omega
        · have : (bY - ay) * (bY - ay) ≠ 0 := Int.mul_ne_zero h h
          omega
      have hx := btw_of_mul (p := px - ax) (q := bx - ax) hW (by unfold crs at hc; grind) h0 h1
      have hy := btw_of_mul (p := py - ay) (q := bY - ay) hW (by unfold crs at hc; grind) h0 h1
      unfold onsegB
      rw [decide_eq_true_eq]
      omega
    · rintro ⟨hc, ho⟩
      obtain ⟨hx, hy⟩ := onseg_btw ho
      have a := sq_btw hx
      have b := sq_btw hy
      exact ⟨hc, by omega, by omega⟩
theorem sgn_eq0 (n : Int) : sgn n = 0 ↔ n = 0 := by
  unfold sgn
  (repeat' split) <;> omega
theorem isect_sym (ax ay bx bY cx cy dx dy : Int) : isectB dx dy cx cy ax ay bx bY = isectB ax ay bx bY cx cy dx dy := by
  have sn (x : Int) : sgn (-x) = -sgn x := by unfold sgn; (repeat' split) <;> omega
  have e1 : ar dx dy cx cy ax ay = -ar cx cy dx dy ax ay := by unfold ar; grind
  have e2 : ar dx dy cx cy bx bY = -ar cx cy dx dy bx bY := by unfold ar; grind
  unfold isectB
  rw [e1, e2, sn, sn, onseg_sym dx dy ax ay cx cy, onseg_sym dx dy bx bY cx cy]
  generalize sgn (ar ax ay bx bY cx cy) = o1
  generalize sgn (ar ax ay bx bY dx dy) = o2
  generalize sgn (ar cx cy dx dy ax ay) = o3
  generalize sgn (ar cx cy dx dy bx bY) = o4
  generalize onsegB ax ay cx cy bx bY = b1
  generalize onsegB ax ay dx dy bx bY = b2
  generalize onsegB cx cy ax ay dx dy = b3
  generalize onsegB cx cy bx bY dx dy = b4
  rw [Bool.eq_iff_iff]
  simp only [Bool.or_eq_true, Bool.and_eq_true, bne_iff_ne, beq_iff_eq]
  constructor
  · rintro ((((⟨h1, h2⟩ | h) | h) | h) | h)
    · exact .inl (.inl (.inl (.inl ⟨by omega, by omega⟩)))
    · exact .inl (.inr ⟨by omega, h.2⟩)
    · exact .inr ⟨by omega, h.2⟩
    · exact .inl (.inl (.inr h))
    · exact .inl (.inl (.inl (.inr h)))
  · rintro ((((⟨h1, h2⟩ | h) | h) | h) | h)
    · exact .inl (.inl (.inl (.inl ⟨by omega, by omega⟩)))
    · exact .inr h
    · exact .inl (.inr h)
    · exact .inl (.inl (.inl (.inr ⟨by omega, h.2⟩)))
    · exact .inl (.inl (.inr ⟨by omega, h.2⟩))

theorem sgn_ne (a b : Int) : sgn a ≠ sgn b ↔ ((a < 0 ∧ 0 ≤ b) ∨ (a = 0 ∧ b ≠ 0) ∨ (0 < a ∧ b ≤ 0)) := by
  unfold sgn
  (repeat' split) <;> omega
theorem isect_meet (ax ay bx bY cx cy dx dy : Int) : isectB ax ay bx bY cx cy dx dy = meetB ax ay bx bY cx cy dx dy := by
  have e1 : ar ax ay bx bY cx cy = (cx - ax) * (bY - ay) - (cy - ay) * (bx - ax) := by unfold ar; grind
  have e2 : ar ax ay bx bY dx dy = (cx - ax) * (bY - ay) - (cy - ay) * (bx - ax) - ((bx - ax) * (dy - cy) - (bY - ay) * (dx - cx)) := by unfold ar; grind
  have e3 : ar cx cy dx dy ax ay = -((cx - ax) * (dy - cy) - (cy - ay) * (dx - cx)) := by unfold ar; grind
  have e4 : ar cx cy dx dy bx bY = (bx - ax) * (dy - cy) - (bY - ay) * (dx - cx) - ((cx - ax) * (dy - cy) - (cy - ay) * (dx - cx)) := by unfold ar; grind
  have c1 : crs ax ay bx bY cx cy = -ar ax ay bx bY cx cy := by rw [ar_crs]; omega
  have c2 : crs ax ay bx bY dx dy = -ar ax ay bx bY dx dy := by rw [ar_crs]; omega
  have c3 : crs cx cy dx dy ax ay = -ar cx cy dx dy ax ay := by rw [ar_crs]; omega
  have c4 : crs cx cy dx dy bx bY = -ar cx cy dx dy bx bY := by rw [ar_crs]; omega
  rw [Bool.eq_iff_iff]
  unfold isectB meetB
  simp only [lies_onseg, c1, c2, c3, c4]
  have f1 : ar ax ay bx bY cx cy = 0 → onsegB ax ay cx cy bx bY = true → (0 < (bx - ax) * (dy - cy) - (bY - ay) * (dx - cx) → 0 ≤ (cx - ax) * (dy - cy) - (cy - ay) * (dx - cx) ∧ (cx - ax) * (dy - cy) - (cy - ay) * (dx - cx) ≤ (bx - ax) * (dy - cy) - (bY - ay) * (dx - cx)) ∧
      ((bx - ax) * (dy - cy) - (bY - ay) * (dx - cx) < 0 → (cx - ax) * (dy - cy) - (cy - ay) * (dx - cx) ≤ 0 ∧ (bx - ax) * (dy - cy) - (bY - ay) * (dx - cx) ≤ (cx - ax) * (dy - cy) - (cy - ay) * (dx - cx)) := by
    intro h ho
    obtain ⟨hx, hy⟩ := onseg_btw ho
    have hc : (cx - ax) * (bY - ay) = (cy - ay) * (bx - ax) := by omega
    exact ⟨cross_btw hx hy hc, cross_btw' hx hy hc⟩
  have f2 : ar ax ay bx bY dx dy = 0 → onsegB ax ay dx dy bx bY = true → (0 < (bx - ax) * (dy - cy) - (bY - ay) * (dx - cx) → 0 ≤ (cx - ax) * (dy - cy) - (cy - ay) * (dx - cx) ∧ (cx - ax) * (dy - cy) - (cy - ay) * (dx - cx) ≤ (bx - ax) * (dy - cy) - (bY - ay) * (dx - cx)) ∧
      ((bx - ax) * (dy - cy) - (bY - ay) * (dx - cx) < 0 → (cx - ax) * (dy - cy) - (cy - ay) * (dx - cx) ≤ 0 ∧ (bx - ax) * (dy - cy) - (bY - ay) * (dx - cx) ≤ (cx - ax) * (dy - cy) - (cy - ay) * (dx - cx)) := by
    intro h ho
    obtain ⟨hx, hy⟩ := onseg_btw ho
    have hc : (dx - ax) * (bY - ay) = (dy - ay) * (bx - ax) := by unfold ar at h; grind
    have hT : (dx - ax) * (dy - cy) - (dy - ay) * (dx - cx) = (cx - ax) * (dy - cy) - (cy - ay) * (dx - cx) := by grind
    rw [← hT]
    exact ⟨cross_btw hx hy hc, cross_btw' hx hy hc⟩
  have eB : (dx - cx) * (bY - ay) - (dy - cy) * (bx - ax) = -((bx - ax) * (dy - cy) - (bY - ay) * (dx - cx)) := by grind
  have f3 : ar cx cy dx dy ax ay = 0 → onsegB cx cy ax ay dx dy = true → (0 < -((bx - ax) * (dy - cy) - (bY - ay) * (dx - cx)) → 0 ≤ -((cx - ax) * (bY - ay) - (cy - ay) * (bx - ax)) ∧ -((cx - ax) * (bY - ay) - (cy - ay) * (bx - ax)) ≤ -((bx - ax) * (dy - cy) - (bY - ay) * (dx - cx))) ∧
      (-((bx - ax) * (dy - cy) - (bY - ay) * (dx - cx)) < 0 → -((cx - ax) * (bY - ay) - (cy - ay) * (bx - ax)) ≤ 0 ∧ -((bx - ax) * (dy - cy) - (bY - ay) * (dx - cx)) ≤ -((cx - ax) * (bY - ay) - (cy - ay) * (bx - ax))) := by
    intro h ho
    obtain ⟨hx, hy⟩ := onseg_btw ho
    have hc : (ax - cx) * (dy - cy) = (ay - cy) * (dx - cx) := by unfold ar at h; grind
    have hS : (ax - cx) * (bY - ay) - (ay - cy) * (bx - ax) = -((cx - ax) * (bY - ay) - (cy - ay) * (bx - ax)) := by grind
    rw [← hS, ← eB]
    exact ⟨cross_btw hx hy hc, cross_btw' hx hy hc⟩
  have f4 : ar cx cy dx dy bx bY = 0 → onsegB cx cy bx bY dx dy = true → (0 < -((bx - ax) * (dy - cy) - (bY - ay) * (dx - cx)) → 0 ≤ -((cx - ax) * (bY - ay) - (cy - ay) * (bx - ax)) ∧ -((cx - ax) * (bY - ay) - (cy - ay) * (bx - ax)) ≤ -((bx - ax) * (dy - cy) - (bY - ay) * (dx - cx))) ∧
      (-((bx - ax) * (dy - cy) - (bY - ay) * (dx - cx)) < 0 → -((cx - ax) * (bY - ay) - (cy - ay) * (bx - ax)) ≤ 0 ∧ -((bx - ax) * (dy - cy) - (bY - ay) * (dx - cx)) ≤ -((cx - ax) * (bY - ay) - (cy - ay) * (bx - ax))) := by
    intro h ho
    obtain ⟨hx, hy⟩ := onseg_btw ho
    have hc : (bx - cx) * (dy - cy) = (bY - cy) * (dx - cx) := by unfold ar at h; grind
    have hS : (bx - cx) * (bY - ay) - (bY - cy) * (bx - ax) = -((cx - ax) * (bY - ay) - (cy - ay) * (bx - ax)) := by grind
    rw [← hS, ← eB]
    exact ⟨cross_btw hx hy hc, cross_btw' hx hy hc⟩
  rw [e1] at f1
  rw [e2] at f2
  rw [e3] at f3
  rw [e4] at f4
  rw [e1, e2, e3, e4]
  generalize (bx - ax) * (dy - cy) - (bY - ay) * (dx - cx) = B at *
  generalize (cx - ax) * (dy - cy) - (cy - ay) * (dx - cx) = T at *
  generalize (cx - ax) * (bY - ay) - (cy - ay) * (bx - ax) = S at *
  clear e1 e2 e3 e4 c1 c2 c3 c4 eB
  generalize onsegB ax ay cx cy bx bY = b1 at *
  generalize onsegB ax ay dx dy bx bY = b2 at *
  generalize onsegB cx cy ax ay dx dy = b3 at *
  generalize onsegB cx cy bx bY dx dy = b4 at *
  simp only [Bool.or_eq_true, Bool.and_eq_true, bne_iff_ne, beq_iff_eq, sgn_eq0, sgn_ne]
  cases b1 <;> cases b2 <;> cases b3 <;> cases b4 <;>
    (simp only [Bool.false_eq_true, false_implies, implies_true, true_implies, and_false, and_true, or_false, false_or, forall_const] at f1 f2 f3 f4 ⊢
     split
     · simp only [Bool.or_eq_true, decide_eq_true_eq, and_false, and_true, or_self, or_false, false_or, Bool.false_eq_true, iff_false]
       omega
     · split <;> (simp only [decide_eq_true_eq, or_self, or_false, false_or, iff_false, false_iff]; omega))

abbrev NumsOk (nums : List Int) : Prop := 14 ≤ nums.length ∧ nums.length ≤ 100 ∧ ∀ i, Builtin.Int.intBits (nums.getD i 0) ≤ 1048576
theorem nums_ok {ns ms : List Int} (hl : PyData.layable0 (.list (ns.map .int)) = true) (h63 : ns.length ≤ 63) (hm : ms.length = 14) (hb : ∀ n ∈ ms, Builtin.Int.intBits n ≤ 1048576) : NumsOk (ns ++ ms) := by
  refine ⟨by simp [hm], by simp [hm]; omega, fun i => ?_⟩
  rw [List.getD_eq_getElem?_getD]
  cases e : (ns ++ ms)[i]? with
  | none => show Builtin.Int.intBits 0 ≤ 1048576; decide
  | some n =>
    rcases List.mem_append.mp (List.mem_of_getElem? e) with h | h
    · exact PyData.bits_item_of_ints hl h
    · exact hb n h
theorem K_listAt {K : Frag} {h : Heap} {a : Addr} {o : Obj} {ws : List Value} {n : Nat} (X : K.In h) (e : K.lookup a = some o) (hc : o.cls = .type "list") (hd : o.data = .seq ws.toArray n) : h.IsList a ws.toArray := ⟨o, X _ _ e, hc, n, hd⟩
theorem num_add {prog : Program} {w : World} {A : Around} {E : Value → Shared → Prop} {s : Shared} {h₀ : Heap} {L : Addr} {a : Addr} {b : Addr} {m : Str → Option Value} {news : List (Addr × Obj)} {vs : List Value} {ws : List Value} {ns : List Int} {ms : List Int} {Q : Value → Shared → Prop} (F : Fr h₀ L s.heap m) (N : News h₀ L s.heap news) (ha : s.heap.IsList a vs.toArray) (hb : s.heap.IsList b ws.toArray) (hi : IntsAre vs ns) (hj : IntsAre ws ms)
    (hl : PyData.layable0 (.list (ns.map .int)) = true) (h63 : ns.length ≤ 63) (hm : ms.length = 14) (hbt : ∀ n ∈ ms, Builtin.Int.intBits n ≤ 1048576)
    (h : ∀ D us nums h', Fr h₀ L h' m → News h₀ L h' ((D, W.listOf (List.toArray us) 0) :: news) → IntsAre us nums → NumsOk nums → (0 < ns.length → 15 ≤ nums.length) → Q (.ref D) { s with heap := h' }) :
    wpAny (model prog w) A (binaryOp .Add (.ref a) (.ref b)) Q E s :=
  kmk_add_ints F N ha hb hi hj (fun D us h' F' N' _ hk => h D us (ns ++ ms) h' F' N' hk (nums_ok hl h63 hm hbt) (by simp [hm]; omega)) (by rw [hm]; exact Nat.le_trans (Nat.add_le_add_right h63 14) (by decide))
theorem num_at {prog : Program} {w : World} {A : Around} {E : Value → Shared → Prop} {s : Shared} {h₀ : Heap} {L : Addr} {a : Addr} {news : List (Addr × Obj)} {us : List Value} {nums : List Int} {Q : Value → Shared → Prop} {c : Nat} {value slice : Expr} {k : Int} {u : Tok} (N : News h₀ L s.heap news) (hm : (a, W.listOf us.toArray c) ∈ news) (hI : IntsAre us nums) (hk : NumsOk nums) (h0 : 0 ≤ k) (h1 : k < 14)
    (h : ∀ n t, n = nums.getD k.toNat 0 → Builtin.Int.intBits n ≤ 1048576 → Q (.int n t) s)
    (hs : subscripted slice false (.ref a) (.int k u) = operate [.ref a, .int k u] (getItem (.ref a) (.int k u)) := by with_unfolding_all rfl) (hg : ∀ r, letTemporaryGo value (.ref a) r = pure () := by intro _; with_unfolding_all rfl) :
    wpAny (model prog w) A (subscriptTail value slice (.ref a) (.int k u)) Q E s := by
  have hlt : k.toNat < nums.length := by have := hk.1; omega
  obtain ⟨t, ht⟩ := hI.get k.toNat nums[k.toNat] (by simp [hlt])
  have e : nums[k.toNat] = nums.getD k.toNat 0 := by simp [List.getD_eq_getElem?_getD, hlt]
  exact item_listL (News.isList N hm) h0 (by omega) ht (h _ t e (by rw [e]; exact hk.2.2 _)) hs hg
theorem num_back {prog : Program} {w : World} {A : Around} {E : Value → Shared → Prop} {s : Shared} {h₀ : Heap} {L : Addr} {a : Addr} {news : List (Addr × Obj)} {us : List Value} {nums : List Int} {Q : Value → Shared → Prop} {c : Nat} {value slice : Expr} {k : Int} {u : Tok} (N : News h₀ L s.heap news) (hm : (a, W.listOf us.toArray c) ∈ news) (hI : IntsAre us nums) (hk : NumsOk nums) (h15 : 15 ≤ nums.length) (hk15 : k = -15)
    (h : ∀ n t, Builtin.Int.intBits n ≤ 1048576 → Q (.int n t) s)
    (hs : subscripted slice false (.ref a) (.int k u) = operate [.ref a, .int k u] (getItem (.ref a) (.int k u)) := by with_unfolding_all rfl) (hg : ∀ r, letTemporaryGo value (.ref a) r = pure () := by intro _; with_unfolding_all rfl) :
    wpAny (model prog w) A (subscriptTail value slice (.ref a) (.int k u)) Q E s := by
  have hl := hI.length
  have hlt : (k + (us.length : Int)).toNat < nums.length := by rw [hl]; omega
  obtain ⟨t, ht⟩ := hI.get (k + (us.length : Int)).toNat nums[(k + (us.length : Int)).toNat] (by simp [hlt])
  have e : nums[(k + (us.length : Int)).toNat] = nums.getD (k + (us.length : Int)).toNat 0 := by simp [List.getD_eq_getElem?_getD, hlt]
  have hL : s.heap.IsList a us.toArray := News.isList N hm
  exact subscriptTail_builtin hL.typeIs slot_list_getitem.lookup (wpAny_getItem_list_neg hL (by omega) (by rw [List.size_toArray, hl]; omega) (by omega) (by rw [List.size_toArray]; simpa using ht) (h _ t (by rw [e]; exact hk.2.2 _))) hs hg
theorem tup_gen {prog : Program} {w : World} {A : Around} {E : Value → Shared → Prop} {s : Shared} {h₀ : Heap} {L : Addr} {m : Str → Option Value} {news : List (Addr × Obj)} {Q : Value → Shared → Prop} {x y : Int} {t1 t2 : Tok} (F : Fr h₀ L s.heap m) (N : News h₀ L s.heap news) (hx : Bt x) (hy : Bt y)
    (h : ∀ (X Y : Int) D h', Bt X → Bt Y → Fr h₀ L h' m → News h₀ L h' ((D, tup2 X t1 Y t2) :: news) → (∀ p ∈ news, p.1 < D) → Q (.ref D) { s with heap := h' }) :
    wpAny (model prog w) A (newTuple [.int x t1, .int y t2]) Q E s :=
  newTuple_N F N (fun h' F' N' => h x y _ h' hx hy F' N' fun p hp => Heap.lt_size (N p hp).1) (by show 2 ≤ sizeLine; decide)
def JoinPost (P : Int → Prop) (h₀ : Heap) (L : Addr) (m : Str → Option Value) (news : Led) (s : Shared) (v : Value) (s' : Shared) : Prop :=
  ∃ n tk h' tk', v = .int n tk ∧ s' = { s with heap := h', toks := tk' } ∧ P n ∧ Fr h₀ L h' m ∧ News h₀ L h' news
theorem join_end {s : Shared} {h₀ : Heap} {L : Addr} {m : Str → Option Value} {news : List (Addr × Obj)} {P : Int → Prop} {n : Int} {tk tk' : Nat} {h' : Heap} (p : P n) (F : Fr h₀ L h' m) (N : News h₀ L h' news) : JoinPost P h₀ L m news s (.int n tk) { s with heap := h', toks := tk' } :=
  ⟨n, tk, h', tk', rfl, rfl, p, F, N⟩
theorem join_int {prog : Program} {w : World} {A : Around} {E : Value → Shared → Prop} {s : Shared} {h₀ : Heap} {L : Addr} {m : Str → Option Value} {news : List (Addr × Obj)} {Q : Value → Shared → Prop} {t : Sem Value} (P : Int → Prop) (_F : Fr h₀ L s.heap m) (_N : News h₀ L s.heap news) (h2 : ∀ n tk h' tk', P n → Fr h₀ L h' m → News h₀ L h' news → Q (.int n tk) { s with heap := h', toks := tk' })
    (h1 : wpAny (model prog w) A t (JoinPost P h₀ L m news s) E s) : wpAny (model prog w) A t Q E s :=
  wpAny_mono h1 (fun v s' ⟨n, tk, h', tk', e1, e2, p, F', N'⟩ => by subst e1; subst e2; exact h2 n tk h' tk' p F' N') fun _ _ x => x
theorem allLt_ne {d : Addr} : ∀ {l : List (Addr × Obj)}, AllLt d l → ∀ p ∈ l, p.1 ≠ d
  | [], _, _, h => nomatch h
  | _ :: _, x, p, h => by
    rcases List.mem_cons.mp h with rfl | h
    · exact Nat.ne_of_lt x.1
    · exact allLt_ne x.2 p h
theorem unr_second {h₀ : Heap} {L I : Addr} {it : Obj} {rest : (Str → Option Value) → List (Addr × Obj) → Prop} {s₁ : Shared} {h' : Heap} {tk : Nat} {m' : Str → Option Value} {x : Addr × Obj} {tl : List (Addr × Obj)} (F : Fr h₀ L h' m') (N : News h₀ L h' (x :: (I, it) :: tl))
    (off : x.1 ≠ I) (off2 : ∀ p ∈ tl, p.1 ≠ I) (r : rest m' (x :: tl)) : UnrEnd h₀ L s₁ I it rest { s₁ with heap := h', toks := tk } :=
  UnrEnd.intro F N (x :: tl) (fun p hp => by
    rcases List.mem_cons.mp hp with rfl | hp
    · exact .tail _ (.head _)
    · rcases List.mem_cons.mp hp with rfl | hp
      · exact .head _
      · exact .tail _ (.tail _ hp)) (fun p hp => by
    rcases List.mem_cons.mp hp with rfl | hp
    · exact off
    · exact off2 p hp) r
theorem rf1 {ax : Int} {ay : Int} {bx : Int} {bY : Int} {cx : Int} {cy : Int} {dx : Int} {dy : Int} (h : (isectB ax ay bx bY cx cy dx dy != meetB ax ay bx bY cx cy dx dy) = true) : False := by
  rw [isect_meet] at h
  simp at h
theorem rf2 {ax : Int} {ay : Int} {bx : Int} {bY : Int} {cx : Int} {cy : Int} {dx : Int} {dy : Int} (h : (isectB dx dy cx cy ax ay bx bY != meetB ax ay bx bY cx cy dx dy) = true) : False := by
  rw [isect_sym, isect_meet] at h
  simp at h
theorem rf3 {b : Bool} (h : (b != b) = true) : False := by simp at h
theorem rf4 {ax : Int} {ay : Int} {bx : Int} {bY : Int} {cx : Int} {cy : Int} (h : ar ax ay bx bY cx cy ≠ 0 - crs ax ay bx bY cx cy) : False := h (ar_crs _ _ _ _ _ _)
theorem fdiv_sq {prog : Program} {w : World} {A : Around} {E : Value → Shared → Prop} {s : Shared} {a n : Int} {t u : Tok} {Q : Value → Shared → Prop} (hn : n = 3 ∨ n = 6)
    (h : Q (.int (a.fdiv (n * n)) s.toks) { s with toks := s.toks + 1 }) : wpAny (model prog w) A (binaryOp .FloorDiv (.int a t) (.int (n * n) u)) Q E s := by
  rcases hn with rfl | rfl
  · exact floordiv_int (by decide) h (Or.inl (PyProof.noPylong_of_log2 (by decide +kernel)))
  · exact floordiv_int (by decide) h (Or.inl (PyProof.noPylong_of_log2 (by decide +kernel)))
theorem goodW_true {c : ClaimW} {k : Str → Option Addr} {me : ExcName → Option Value} {args : List WData} {s₁ s' : Shared} {b : Bool} (hb : b = true) (h : GoodW c k me args s₁ (.ok (.ret (.bool true))) s') : GoodW c k me args s₁ (.ok (.ret (.bool b))) s' := hb ▸ h
end Mine
open Mine
local macro_rules | `(tactic| cell_enter) => `(tactic| (refine' code_def ?k1 ?k2 ?k3 ?k4 ?k5 ?kA ?kF ?kK ?k6 ?k7 ?k8 ?k9 ?kB ?_ ?c2 ?c3 ?c4 ?c5; (case kA => exact rfl); (case kF => exact rfl); (case kK => first | exact rfl | assumption); (case k1 => k_asm); (case k2 => k_asm); (case k3 => k_asm); (case k4 => k_asm); (case k5 => k_asm); (case k6 => k_is); (case k7 => k_is); (case k8 => ktr_room); (case k9 => exact BindsTo.of_eq rfl); (case c5 => decide); (case kB => exact locs rfl); (case c2 => exact rfl); (case c3 => exact rfl); (case c4 => exact rfl); k_whole; intro g' L' h' FG' F' N' B' X' T'; (try dsimp only); (try k_lift B'); (try k_fold)))
local macro_rules | `(tactic| walk_at "call ref") => `(tactic| (k_here; k_dflt (first
  | (refine' call_cls ?k1 ?k2 ?k3 ?k4 ?k5 ?k6 ?_; (case k1 => k_asm); (case k2 => k_asm); (case k3 => k_asm); (case k4 => k_is); (case k5 => k_is); (case k6 => k_is); k_whole; intro x' d' h' F' N' l1 l2; (try k_lt l1); (try k_lt2 l2); (try k_sweep); cell_enter)
  | (refine wpAny_call ?_; cell_enter))))
local macro_rules | `(tactic| k_get) => `(tactic| assumption)
local macro_rules | `(tactic| bits_by_make) => `(tactic| with_reducible assumption)
local macro_rules | `(tactic| walk_at "call ref") => `(tactic| (k_here; k_extra "my call"))
local macro_rules | `(tactic| walk_at "compareOp Eq ref ref") => `(tactic| (k_here; (with_reducible show wpAny _ _ (compareOp CmpOp.Eq (Value.ref _) (Value.ref _)) _ _ _); k_dflt (refine eq_dataH (by ke_read) (by ke_read) (by ke_shaped) (by ke_shaped) (by ktr_units) ?_); ke_norm))
local macro_rules | `(tactic| ktr_rel) => `(tactic| (refine' ⟨⟨?b0, ?c0, _, _, _, _, ?m0, ?n0, ?x0, ?y0⟩, ⟨?b1, ?c1, _, _, _, _, ?m1, ?n1, ?x1, ?y1⟩, ⟨?b2, ?c2, _, _, _, _, ?m2, ?n2, ?x2, ?y2⟩, ⟨?b3, ?c3, _, _, _, _, ?m3, ?n3, ?x3, ?y3⟩⟩; (case m0 => k_mem); (case n0 => k_mem); (case x0 => assumption); (case y0 => assumption); (case m1 => k_mem); (case n1 => k_mem); (case x1 => assumption); (case y1 => assumption); (case m2 => k_mem); (case n2 => k_mem); (case x2 => assumption); (case y2 => assumption); (case m3 => k_mem); (case n3 => k_mem); (case x3 => assumption); (case y3 => assumption); (case b0 => first | assumption | exact Nat.le_trans (by bits_by_make) (by decide)); (case c0 => first | assumption | exact Nat.le_trans (by bits_by_make) (by decide)); (case b1 => first | assumption | exact Nat.le_trans (by bits_by_make) (by decide)); (case c1 => first | assumption | exact Nat.le_trans (by bits_by_make) (by decide)); (case b2 => first | assumption | exact Nat.le_trans (by bits_by_make) (by decide)); (case c2 => first | assumption | exact Nat.le_trans (by bits_by_make) (by decide)); (case b3 => first | assumption | exact Nat.le_trans (by bits_by_make) (by decide)); (case c3 => first | assumption | exact Nat.le_trans (by bits_by_make) (by decide))))
local macro_rules | `(tactic| ktr_rel) => `(tactic| (refine' ⟨⟨?b0, ?c0, _, _, _, _, ?m0, ?n0, ?x0, ?y0⟩, ⟨?b1, ?c1, _, _, _, _, ?m1, ?n1, ?x1, ?y1⟩, ⟨?b2, ?c2, _, _, _, _, ?m2, ?n2, ?x2, ?y2⟩⟩; (case m0 => k_mem); (case n0 => k_mem); (case x0 => assumption); (case y0 => assumption); (case m1 => k_mem); (case n1 => k_mem); (case x1 => assumption); (case y1 => assumption); (case m2 => k_mem); (case n2 => k_mem); (case x2 => assumption); (case y2 => assumption); (case b0 => first | assumption | exact Nat.le_trans (by bits_by_make) (by decide)); (case c0 => first | assumption | exact Nat.le_trans (by bits_by_make) (by decide)); (case b1 => first | assumption | exact Nat.le_trans (by bits_by_make) (by decide)); (case c1 => first | assumption | exact Nat.le_trans (by bits_by_make) (by decide)); (case b2 => first | assumption | exact Nat.le_trans (by bits_by_make) (by decide)); (case c2 => first | assumption | exact Nat.le_trans (by bits_by_make) (by decide))))
local macro_rules | `(tactic| ktr_rel) => `(tactic| (refine' ⟨⟨?b0, ?c0, _, _, ?m0⟩, ⟨?b1, ?c1, _, _, ?m1⟩, ⟨?b2, ?c2, _, _, ?m2⟩, ⟨?b3, ?c3, _, _, ?m3⟩⟩; (case m0 => k_mem); (case m1 => k_mem); (case m2 => k_mem); (case m3 => k_mem); (case b0 => first | assumption | exact Nat.le_trans (by bits_by_make) (by decide)); (case c0 => first | assumption | exact Nat.le_trans (by bits_by_make) (by decide)); (case b1 => first | assumption | exact Nat.le_trans (by bits_by_make) (by decide)); (case c1 => first | assumption | exact Nat.le_trans (by bits_by_make) (by decide)); (case b2 => first | assumption | exact Nat.le_trans (by bits_by_make) (by decide)); (case c2 => first | assumption | exact Nat.le_trans (by bits_by_make) (by decide)); (case b3 => first | assumption | exact Nat.le_trans (by bits_by_make) (by decide)); (case c3 => first | assumption | exact Nat.le_trans (by bits_by_make) (by decide))))
local macro_rules | `(tactic| ktr_rel) => `(tactic| (refine' ⟨⟨?b0, ?c0, _, _, ?m0⟩, ⟨?b1, ?c1, _, _, ?m1⟩, ⟨?b2, ?c2, _, _, ?m2⟩⟩; (case m0 => k_mem); (case m1 => k_mem); (case m2 => k_mem); (case b0 => first | assumption | exact Nat.le_trans (by bits_by_make) (by decide)); (case c0 => first | assumption | exact Nat.le_trans (by bits_by_make) (by decide)); (case b1 => first | assumption | exact Nat.le_trans (by bits_by_make) (by decide)); (case c1 => first | assumption | exact Nat.le_trans (by bits_by_make) (by decide)); (case b2 => first | assumption | exact Nat.le_trans (by bits_by_make) (by decide)); (case c2 => first | assumption | exact Nat.le_trans (by bits_by_make) (by decide))))
local macro_rules | `(tactic| ktr_rel) => `(tactic| (refine' ⟨?b0, ?c0, _, _, ?m0⟩; (case m0 => k_mem); (case b0 => first | assumption | exact Nat.le_trans (by bits_by_make) (by decide)); (case c0 => first | assumption | exact Nat.le_trans (by bits_by_make) (by decide))))
local macro_rules | `(tactic| ktr_rel) => `(tactic| (refine' ⟨?b0, ?b1, ?b2, ?b3, ?b4, ?b5, ?b6, ?b7⟩; (case b0 => first | assumption | exact Nat.le_trans (by bits_by_make) (by decide)); (case b1 => first | assumption | exact Nat.le_trans (by bits_by_make) (by decide)); (case b2 => first | assumption | exact Nat.le_trans (by bits_by_make) (by decide)); (case b3 => first | assumption | exact Nat.le_trans (by bits_by_make) (by decide)); (case b4 => first | assumption | exact Nat.le_trans (by bits_by_make) (by decide)); (case b5 => first | assumption | exact Nat.le_trans (by bits_by_make) (by decide)); (case b6 => first | assumption | exact Nat.le_trans (by bits_by_make) (by decide)); (case b7 => first | assumption | exact Nat.le_trans (by bits_by_make) (by decide))))
local macro_rules | `(tactic| ktr_rel) => `(tactic| (refine' ⟨⟨?b0, ?c0, _, _, ?m0⟩, ⟨?b1, ?c1, _, _, ?m1⟩, ⟨?b2, ?c2, _, _, ?m2⟩, ?w1, ?w2, ?w3⟩; (case m0 => k_mem); (case m1 => k_mem); (case m2 => k_mem); (case b0 => first | assumption | exact Nat.le_trans (by bits_by_make) (by decide)); (case c0 => first | assumption | exact Nat.le_trans (by bits_by_make) (by decide)); (case b1 => first | assumption | exact Nat.le_trans (by bits_by_make) (by decide)); (case c1 => first | assumption | exact Nat.le_trans (by bits_by_make) (by decide)); (case b2 => first | assumption | exact Nat.le_trans (by bits_by_make) (by decide)); (case c2 => first | assumption | exact Nat.le_trans (by bits_by_make) (by decide)); (case w1 => exact Nat.le_trans (by bits_by_make) (by decide)); (case w2 => exact Nat.le_trans (by bits_by_make) (by decide)); (case w3 => first | assumption | omega)))
local macro_rules | `(tactic| ktr_call $x:term $_c:term) => `(tactic| (refine' $x _ _ _ _ _ _ _ _ _ _ _ _ _ _ _ _ _ _ ?k1 ?k2 ?k3 ?k4 ?k5 ?kK ?kp ?kd ?ku ?kR; (case k1 => k_asm); (case k2 => k_asm); (case k3 => k_asm); (case k4 => k_asm); (case k5 => k_asm); (case kK => first | exact rfl | assumption); (case kp => first | exact True.intro | ((try dsimp only); ktr_rel)); (case kd => ktr_room); (case ku => ktr_units); k_whole; (first | ((with_reducible show RetNode _ _ _ _ _ _ _ _); intro nd9 d9 es9 tx9 ty9 h9 tk9 F9 N9 gx9 gy9) | intro t9 h9 tk9 F9 N9); (try k_sweep); (try dsimp only); (try k_fold)))
local macro_rules | `(tactic| walk_at "eval Call") => `(tactic| (k_here; (with_reducible show wpAny _ _ (eval (PySem.Expr.Call (PySem.Expr.Name _ _) _ _ _) _) _ _ _); k_dflt (refine Call_ ?_)))
theorem Mine.ok_sign (w : World) (mean : ExcName → Option Value) (mg mb : Str → Option Value) :
   ∀ (n : Int) (tn : Tok), CalleeG PySem.Challenge.rw_bj5008_01.row.prog w (hd.heap_39 w.params) hd.view_39 (looseW hd.view_39 [Str.ofString "_law_more"]) mean mg mb 77 1 [.int n tn] (fun _ => True) (fun h₀ L m news s Q => Ret h₀ L m news s Q (fun t => .int (sgn n) t)) := by
  w_top off
  k_fill
  intro n tn
  k_with_none
  intro dp un gd cn cs a0 ccd cl outer A₀ base h₀ L m news s Q E B F X N T hk hpre hd hu hret
  (try dsimp only at hpre); (try dsimp only at hret)
  refine wpAny_call ?_
  k_dflt cell_enter
  k_steps
  all_goals (
    refine retI hret (by assumption) (by assumption) ?_
    simp only [cmp0_gt, cmp0_lt, decide_eq_true_eq, decide_eq_false_iff_not] at *
    unfold sgn
    (repeat' split) <;> omega)

theorem Mine.ok_area (w : World) (mean : ExcName → Option Value) (mg mb : Str → Option Value) :
   ∀ (p q r : Addr) (xp yp xq yq xr yr : Int), CalleeG PySem.Challenge.rw_bj5008_01.row.prog w (hd.heap_39 w.params) hd.view_39 (looseW hd.view_39 [Str.ofString "_law_more"]) mean mg mb 70 1 [.ref p, .ref q, .ref r] (fun news => NodeAt news p xp yp ∧ NodeAt news q xq yq ∧ NodeAt news r xr yr) (fun h₀ L m news s Q => Ret h₀ L m news s Q (fun t => .int (ar xp yp xq yq xr yr) t)) := by
  w_top off
  k_fill
  intro p q r xp yp xq yq xr yr
  k_with_none
  intro dp un gd cn cs a0 ccd cl outer A₀ base h₀ L m news s Q E B F X N T hk hpre hd hu hret
  (try dsimp only at hpre); (try dsimp only at hret)
  obtain ⟨⟨bx1, by1, d1, es1, tx1, ty1, h1, h10, h11, h12⟩, ⟨bx2, by2, d2, es2, tx2, ty2, h2, h20, h21, h22⟩, ⟨bx3, by3, d3, es3, tx3, ty3, h3, h30, h31, h32⟩⟩ := hpre
  replace N := news_sub [(p, instObj 59 d1), (d1, dictOf es1 10), (q, instObj 59 d2), (d2, dictOf es2 10), (r, instObj 59 d3), (d3, dictOf es3 10)] N (by simp [*])
  simp only [List.cons_append, List.nil_append] at N
  refine wpAny_call ?_
  k_dflt cell_enter
  k_steps
  all_goals (refine retI hret (by assumption) (news_drop (by assumption) (by intro p hp; k_ownIn)) ?_; (try rfl))

theorem Mine.ok_cross (w : World) (mean : ExcName → Option Value) (mg mb : Str → Option Value) :
   ∀ (a b c : Addr) (xa ya xb yb xc yc : Int), CalleeG PySem.Challenge.rw_bj5008_01.row.prog w (hd.heap_39 w.params) hd.view_39 (looseW hd.view_39 [Str.ofString "_law_more"]) mean mg mb 106 1 [.ref a, .ref b, .ref c] (fun news => TupAt news a xa ya ∧ TupAt news b xb yb ∧ TupAt news c xc yc) (fun h₀ L m news s Q => Ret h₀ L m news s Q (fun t => .int (crs xa ya xb yb xc yc) t)) := by
  w_top off
  k_fill
  intro a b c xa ya xb yb xc yc
  k_with_none
  intro dp un gd cn cs a0 ccd cl outer A₀ base h₀ L m news s Q E B F X N T hk hpre hd hu hret
  (try dsimp only at hpre); (try dsimp only at hret)
  obtain ⟨⟨bx1, by1, tx1, ty1, h1⟩, ⟨bx2, by2, tx2, ty2, h2⟩, ⟨bx3, by3, tx3, ty3, h3⟩⟩ := hpre
  replace N := news_sub [(a, tup2 xa tx1 ya ty1), (b, tup2 xb tx2 yb ty2), (c, tup2 xc tx3 yc ty3)] N (by simp [*])
  simp only [List.cons_append, List.nil_append] at N
  refine wpAny_call ?_
  k_dflt cell_enter
  k_steps
  all_goals (refine retI hret (by assumption) (news_drop (by assumption) (by intro p hp; k_ownIn)) ?_; (try rfl))

theorem Mine.ok_onseg (w : World) (mean : ExcName → Option Value) (mg mb : Str → Option Value) :
   ∀ (p q r : Addr) (xp yp xq yq xr yr : Int), CalleeG PySem.Challenge.rw_bj5008_01.row.prog w (hd.heap_39 w.params) hd.view_39 (looseW hd.view_39 [Str.ofString "_law_more"]) mean mg mb 84 1 [.ref p, .ref q, .ref r] (fun news => NodeAt news p xp yp ∧ NodeAt news q xq yq ∧ NodeAt news r xr yr) (fun h₀ L m news s Q => Ret h₀ L m news s Q (fun t => .bool (onsegB xp yp xq yq xr yr))) := by
  w_top off
  k_fill
  intro p q r xp yp xq yq xr yr
  k_with_none
  intro dp un gd cn cs a0 ccd cl outer A₀ base h₀ L m news s Q E B F X N T hk hpre hd hu hret
  (try dsimp only at hpre); (try dsimp only at hret)
  obtain ⟨⟨bx1, by1, d1, es1, tx1, ty1, h1, h10, h11, h12⟩, ⟨bx2, by2, d2, es2, tx2, ty2, h2, h20, h21, h22⟩, ⟨bx3, by3, d3, es3, tx3, ty3, h3, h30, h31, h32⟩⟩ := hpre
  replace N := news_sub [(p, instObj 59 d1), (d1, dictOf es1 10), (q, instObj 59 d2), (d2, dictOf es2 10), (r, instObj 59 d3), (d3, dictOf es3 10)] N (by simp [*])
  simp only [List.cons_append, List.nil_append] at N
  refine wpAny_call ?_
  k_dflt cell_enter
  k_steps
  all_goals ((refine retB hret (by assumption) (news_drop (by assumption) (by intro p hp; k_ownIn)) ?_); unfold onsegB; (rw [decide_eq_decide]); simp only [decide_eq_true_eq, decide_eq_false_iff_not] at *; omega)

theorem Mine.ok_between (w : World) (mean : ExcName → Option Value) (mg mb : Str → Option Value) :
   ∀ (p q r : Addr) (xp yp xq yq xr yr : Int), CalleeG PySem.Challenge.rw_bj5008_01.row.prog w (hd.heap_39 w.params) hd.view_39 (looseW hd.view_39 [Str.ofString "_law_more"]) mean mg mb 141 1 [.ref p, .ref q, .ref r] (fun news => TupAt news p xp yp ∧ TupAt news q xq yq ∧ TupAt news r xr yr) (fun h₀ L m news s Q => Ret h₀ L m news s Q (fun t => .bool (onsegB xp yp xq yq xr yr))) := by
  w_top off
  k_fill
  intro p q r xp yp xq yq xr yr
  k_with_none
  intro dp un gd cn cs a0 ccd cl outer A₀ base h₀ L m news s Q E B F X N T hk hpre hd hu hret
  (try dsimp only at hpre); (try dsimp only at hret)
  obtain ⟨⟨bx1, by1, tx1, ty1, h1⟩, ⟨bx2, by2, tx2, ty2, h2⟩, ⟨bx3, by3, tx3, ty3, h3⟩⟩ := hpre
  replace N := news_sub [(p, tup2 xp tx1 yp ty1), (q, tup2 xq tx2 yq ty2), (r, tup2 xr tx3 yr ty3)] N (by simp [*])
  simp only [List.cons_append, List.nil_append] at N
  refine wpAny_call ?_
  k_dflt cell_enter
  k_steps
  all_goals ((refine retB hret (by assumption) (news_drop (by assumption) (by intro p hp; k_ownIn)) ?_); unfold onsegB; (rw [bi_beq_dec, decide_eq_decide]); simp only [beq_iff_eq, bne_iff_ne, beq_eq_false_iff_ne] at *; omega)

theorem Mine.ok_pit (w : World) (mean : ExcName → Option Value) (mg mb : Str → Option Value) :
   ∀ (ax ay bx bY cx cy px py : Int) (t1 t2 t3 t4 t5 t6 t7 t8 : Tok), CalleeG PySem.Challenge.rw_bj5008_01.row.prog w (hd.heap_39 w.params) hd.view_39 (looseW hd.view_39 [Str.ofString "_law_more"]) mean mg mb 98 1 [.int ax t1, .int ay t2, .int bx t3, .int bY t4, .int cx t5, .int cy t6, .int px t7, .int py t8] (fun _ => Bt ax ∧ Bt ay ∧ Bt bx ∧ Bt bY ∧ Bt cx ∧ Bt cy ∧ Bt px ∧ Bt py) (fun h₀ L m news s Q => Ret h₀ L m news s Q (fun t => .bool (pitB ax ay bx bY cx cy px py))) := by
  w_top off
  k_fill
  intro ax ay bx bY cx cy px py t1 t2 t3 t4 t5 t6 t7 t8
  k_with_none
  intro dp un gd cn cs a0 ccd cl outer A₀ base h₀ L m news s Q E B F X N T hk hpre hd hu hret
  (try dsimp only at hpre); (try dsimp only at hret)
  obtain ⟨b1, b2, b3, b4, b5, b6, b7, b8⟩ := hpre
  refine wpAny_call ?_
  k_dflt cell_enter
  k_steps
  all_goals ((refine retB hret (by assumption) (news_drop (by assumption) (by intro p hp; k_ownIn)) ?_); unfold pitB; (rw [decide_eq_decide]); simp only [decide_eq_true_eq, decide_eq_false_iff_not] at *; simp only [*, true_and, false_and])

theorem Mine.ok_node (w : World) (mean : ExcName → Option Value) (mg mb : Str → Option Value) :
   ∀ (r : Addr) (xr yr : Int), CalleeG PySem.Challenge.rw_bj5008_01.row.prog w (hd.heap_39 w.params) hd.view_39 (looseW hd.view_39 [Str.ofString "_law_more"]) mean mg mb 127 3 [.ref r] (fun news => TupAt news r xr yr) (fun h₀ L m news s Q => RetNode h₀ L m news s Q xr yr) := by
  w_top off
  k_fill
  intro r xr yr
  k_with_none
  intro dp un gd cn cs a0 ccd cl outer A₀ base h₀ L m news s Q E B F X N T hk hpre hd hu hret
  (try dsimp only at hpre); (try dsimp only at hret)
  obtain ⟨bx1, by1, tx1, ty1, h1⟩ := hpre
  replace N := news_sub [(r, tup2 xr tx1 yr ty1)] N (by simp [*])
  simp only [List.cons_append, List.nil_append] at N
  refine wpAny_call ?_
  k_dflt cell_enter
  k_steps
  (rename News h₀ _ _ _ => kN)
  refine' retN (tx := tx1) (ty := ty1) hret (by assumption) kN ?g1 ?g2 ?g3
  (case g1 => intro p hp; exact .tail _ (.tail _ (.tail _ hp)))
  (case g2 => k_get)
  (case g3 => k_get)

theorem Mine.ok_inside (w : World) (mean : ExcName → Option Value) (mg mb : Str → Option Value) :
   ∀ (a b c p : Addr) (xa ya xb yb xc yc xp yp : Int), CalleeG PySem.Challenge.rw_bj5008_01.row.prog w (hd.heap_39 w.params) hd.view_39 (looseW hd.view_39 [Str.ofString "_law_more"]) mean mg mb 134 2 [.ref a, .ref b, .ref c, .ref p] (fun news => TupAt news a xa ya ∧ TupAt news b xb yb ∧ TupAt news c xc yc ∧ TupAt news p xp yp) (fun h₀ L m news s Q => Ret h₀ L m news s Q (fun t => .bool (insB xa ya xb yb xc yc xp yp))) := by
  w_top off
  k_fill
  have Hcross := ok_cross w mean mg mb
  intro a b c p xa ya xb yb xc yc xp yp
  k_with_none
  k_with "my call" => k_dflt (ktr_call (Hcross _ _ _ _ _ _ _ _ _) ())
  intro dp un gd cn cs a0 ccd cl outer A₀ base h₀ L m news s Q E B F X N T hk hpre hd hu hret
  (try dsimp only at hpre); (try dsimp only at hret)
  obtain ⟨⟨bx1, by1, tx1, ty1, h1⟩, ⟨bx2, by2, tx2, ty2, h2⟩, ⟨bx3, by3, tx3, ty3, h3⟩, ⟨bx4, by4, tx4, ty4, h4⟩⟩ := hpre
  replace N := news_sub [(a, tup2 xa tx1 ya ty1), (b, tup2 xb tx2 yb ty2), (c, tup2 xc tx3 yc ty3), (p, tup2 xp tx4 yp ty4)] N (by simp [*])
  simp only [List.cons_append, List.nil_append] at N
  refine wpAny_call ?_
  k_dflt cell_enter
  k_steps
  all_goals ((refine retB hret (by assumption) (news_drop (by assumption) (by intro p hp; k_ownIn)) ?_); unfold insB; (rw [bi_beq_dec, decide_eq_decide]); omega)

theorem Mine.ok_lies (w : World) (mean : ExcName → Option Value) (mg mb : Str → Option Value) :
   ∀ (p a b : Addr) (xp yp xa ya xb yb : Int), CalleeG PySem.Challenge.rw_bj5008_01.row.prog w (hd.heap_39 w.params) hd.view_39 (looseW hd.view_39 [Str.ofString "_law_more"]) mean mg mb 113 12 [.ref p, .ref a, .ref b] (fun news => TupAt news p xp yp ∧ TupAt news a xa ya ∧ TupAt news b xb yb) (fun h₀ L m news s Q => Ret h₀ L m news s Q (fun t => .bool (liesB xp yp xa ya xb yb))) := by
  w_top off
  k_fill
  have Hcross := ok_cross w mean mg mb
  intro p a b xp yp xa ya xb yb
  k_with_none
  k_with "my call" => k_dflt (ktr_call (Hcross _ _ _ _ _ _ _ _ _) ())
  intro dp un gd cn cs a0 ccd cl outer A₀ base h₀ L m news s Q E B F X N T hk hpre hd hu hret
  (try dsimp only at hpre); (try dsimp only at hret)
  obtain ⟨⟨bx1, by1, tx1, ty1, h1⟩, ⟨bx2, by2, tx2, ty2, h2⟩, ⟨bx3, by3, tx3, ty3, h3⟩⟩ := hpre
  replace N := news_sub [(p, tup2 xp tx1 yp ty1), (a, tup2 xa tx2 ya ty2), (b, tup2 xb tx3 yb ty3)] N (by simp [*])
  simp only [List.cons_append, List.nil_append] at N
  refine wpAny_call ?_
  k_dflt cell_enter
  k_steps
  all_goals ((refine retB hret (by assumption) (news_drop (by assumption) (by intro p hp; k_ownIn)) ?_); first | exact lies_eq (by assumption) | exact lies_ne1 (by assumption) (by assumption) (by assumption) | exact lies_ne2 (by assumption) (by assumption) | exact lies_ne3 (by assumption) (by assumption))

theorem Mine.ok_isect (w : World) (mean : ExcName → Option Value) (mg mb : Str → Option Value) :
   ∀ (p q r t : Addr) (xp yp xq yq xr yr xt yt : Int), CalleeG PySem.Challenge.rw_bj5008_01.row.prog w (hd.heap_39 w.params) hd.view_39 (looseW hd.view_39 [Str.ofString "_law_more"]) mean mg mb 91 2 [.ref p, .ref q, .ref r, .ref t] (fun news => NodeAt news p xp yp ∧ NodeAt news q xq yq ∧ NodeAt news r xr yr ∧ NodeAt news t xt yt) (fun h₀ L m news s Q => Ret h₀ L m news s Q (fun t => .bool (isectB xp yp xq yq xr yr xt yt))) := by
  w_top off
  k_fill
  have Hsign := ok_sign w mean mg mb
  have Harea := ok_area w mean mg mb
  have Honseg := ok_onseg w mean mg mb
  intro p q r t xp yp xq yq xr yr xt yt
  k_with_none
  k_with "my call" => k_dflt (ktr_call (Hsign _ _) ())
  k_with "my call" => k_dflt (ktr_call (Harea _ _ _ _ _ _ _ _ _) ())
  k_with "my call" => k_dflt (ktr_call (Honseg _ _ _ _ _ _ _ _ _) ())
  intro dp un gd cn cs a0 ccd cl outer A₀ base h₀ L m news s Q E B F X N T hk hpre hd hu hret
  (try dsimp only at hpre); (try dsimp only at hret)
  obtain ⟨⟨bx1, by1, d1, es1, tx1, ty1, h1, h10, h11, h12⟩, ⟨bx2, by2, d2, es2, tx2, ty2, h2, h20, h21, h22⟩, ⟨bx3, by3, d3, es3, tx3, ty3, h3, h30, h31, h32⟩, ⟨bx4, by4, d4, es4, tx4, ty4, h4, h40, h41, h42⟩⟩ := hpre
  replace N := news_sub [(p, instObj 59 d1), (d1, dictOf es1 10), (q, instObj 59 d2), (d2, dictOf es2 10), (r, instObj 59 d3), (d3, dictOf es3 10), (t, instObj 59 d4), (d4, dictOf es4 10)] N (by simp [*])
  simp only [List.cons_append, List.nil_append] at N
  refine wpAny_call ?_
  k_dflt cell_enter
  k_steps
  all_goals ((refine retB hret (by assumption) (news_drop (by assumption) (by intro p hp; k_ownIn)) ?_); first | exact ib_t1 (by with_reducible assumption) (by with_reducible assumption) | exact ib_t2 (by with_reducible assumption) (by with_reducible assumption) | exact ib_t3 (by with_reducible assumption) (by with_reducible assumption) | exact ib_t4 (by with_reducible assumption) (by with_reducible assumption) | exact ib_t5 (by with_reducible assumption) (by with_reducible assumption) | exact ib_f (by first | exact Or.inr (by with_reducible assumption) | exact Or.inl (by with_reducible assumption) | (refine Or.inl ?_; omega)) (by first | exact Or.inr (by with_reducible assumption) | exact Or.inl (by with_reducible assumption) | (refine Or.inl ?_; omega)) (by first | exact Or.inr (by with_reducible assumption) | exact Or.inl (by with_reducible assumption) | (refine Or.inl ?_; omega)) (by first | exact Or.inr (by with_reducible assumption) | exact Or.inl (by with_reducible assumption) | (refine Or.inl ?_; omega)) (by first | exact Or.inr (by with_reducible assumption) | exact Or.inl (by with_reducible assumption) | (refine Or.inl ?_; omega)) | exact ib_t2 (by omega) (by with_reducible assumption) | exact ib_t3 (by omega) (by with_reducible assumption) | exact ib_t4 (by omega) (by with_reducible assumption) | exact ib_t5 (by omega) (by with_reducible assumption) | exact ib_t1 (by omega) (by omega))

theorem Mine.ok_meet (w : World) (mean : ExcName → Option Value) (mg mb : Str → Option Value) :
   ∀ (a b c d : Addr) (xa ya xb yb xc yc xd yd : Int), CalleeG PySem.Challenge.rw_bj5008_01.row.prog w (hd.heap_39 w.params) hd.view_39 (looseW hd.view_39 [Str.ofString "_law_more"]) mean mg mb 120 14 [.ref a, .ref b, .ref c, .ref d] (fun news => TupAt news a xa ya ∧ TupAt news b xb yb ∧ TupAt news c xc yc ∧ TupAt news d xd yd) (fun h₀ L m news s Q => Ret h₀ L m news s Q (fun t => .bool (meetB xa ya xb yb xc yc xd yd))) := by
  w_top off
  k_fill
  have Hlies := ok_lies w mean mg mb
  intro a b c d xa ya xb yb xc yc xd yd
  k_with_none
  k_with "my call" => k_dflt (ktr_call (Hlies _ _ _ _ _ _ _ _ _) ())
  intro dp un gd cn cs a0 ccd cl outer A₀ base h₀ L m news s Q E B F X N T hk hpre hd hu hret
  (try dsimp only at hpre); (try dsimp only at hret)
  obtain ⟨⟨bx1, by1, tx1, ty1, h1⟩, ⟨bx2, by2, tx2, ty2, h2⟩, ⟨bx3, by3, tx3, ty3, h3⟩, ⟨bx4, by4, tx4, ty4, h4⟩⟩ := hpre
  replace N := news_sub [(a, tup2 xa tx1 ya ty1), (b, tup2 xb tx2 yb ty2), (c, tup2 xc tx3 yc ty3), (d, tup2 xd tx4 yd ty4)] N (by simp [*])
  simp only [List.cons_append, List.nil_append] at N
  refine wpAny_call ?_
  k_dflt cell_enter
  k_steps
  all_goals ((refine retB hret (by assumption) (news_drop (by assumption) (by intro p hp; k_ownIn)) ?_); unfold meetB; (repeat' split) <;> first | contradiction | (simp only [*, Bool.true_or, Bool.or_true, Bool.false_or, Bool.or_false]; done) | ((rw [decide_eq_decide]); simp only [*, true_and, and_true, false_and, and_false, and_self]; done))

theorem Mine.ok_looked (w : World) (mean : ExcName → Option Value) (mg mb : Str → Option Value) :
   ∀ (a b c : Addr) (xa ya xb yb xc yc wi mo si : Int) (t1 t2 t3 : Tok), CalleeG PySem.Challenge.rw_bj5008_01.row.prog w (hd.heap_39 w.params) hd.view_39 (looseW hd.view_39 [Str.ofString "_law_more"]) mean mg mb 148 6 [.ref a, .ref b, .ref c, .int wi t1, .int mo t2, .int si t3] (fun news => TupAt news a xa ya ∧ TupAt news b xb yb ∧ TupAt news c xc yc ∧ Builtin.Int.intBits wi ≤ 1048576 ∧ Builtin.Int.intBits mo ≤ 1048576 ∧ (si = 3 ∨ si = 6)) (fun h₀ L m news s Q => Ret h₀ L m news s Q (fun t => .bool true)) := by
  w_top off
  k_fill
  have Hcross := ok_cross w mean mg mb
  have Hinside := ok_inside w mean mg mb
  have Hpit := ok_pit w mean mg mb
  intro a b c xa ya xb yb xc yc wi mo si t1 t2 t3
  k_with_none
  k_with "my call" => k_dflt (ktr_call (Hcross _ _ _ _ _ _ _ _ _) ())
  k_with "my call" => k_dflt (ktr_call (Hinside _ _ _ _ _ _ _ _ _ _ _ _) ())
  k_with "my call" => k_dflt (ktr_call (Hpit _ _ _ _ _ _ _ _ _ _ _ _ _ _ _ _) ())
  intro dp un gd cn cs a0 ccd cl outer A₀ base h₀ L m news s Q E B F X N T hk hpre hd hu hret
  (try dsimp only at hpre); (try dsimp only at hret)
  obtain ⟨⟨bx1, by1, tx1, ty1, h1⟩, ⟨bx2, by2, tx2, ty2, h2⟩, ⟨bx3, by3, tx3, ty3, h3⟩, hwi, hmo, hsi⟩ := hpre
  have hs0 : 0 < si ∧ si ≤ 6 := by omega
  replace N := news_sub [(a, tup2 xa tx1 ya ty1), (b, tup2 xb tx2 yb ty2), (c, tup2 xc tx3 yc ty3)] N (by simp [*])
  simp only [List.cons_append, List.nil_append] at N
  k_with "pyIter ref" => k_search (fun _ => True)
  refine wpAny_call ?_
  k_dflt cell_enter
  k_steps
  all_goals first
    | ((refine retB hret (by assumption) (news_drop (by assumption) (by intro p hp; k_ownIn)) ?_); first | rfl | (rw [decide_eq_true_eq]; omega))
    | (exfalso; first | exact absurd (by assumption) (Bool.eq_false_iff.mp (look_pos (by assumption))) | exact absurd (by assumption) (Bool.eq_false_iff.mp (look_neg (by assumption) (by assumption))))

local macro_rules | `(tactic| walk_at "binaryOp Add ref ref") => `(tactic| (k_here; (with_reducible show wpAny _ _ (binaryOp _ (Value.ref _) (Value.ref _)) _ _ _); k_dflt (refine' num_add ?F ?N ?a ?b ?i ?j ?l ?s ?m ?t ?_; (case F => k_asm); (case N => k_asm); (case a => kmk_list); (case b => exact K_listAt (by k_in) (by k_is) rfl rfl); (case i => l_ints); (case j => (repeat' constructor)); (case l => assumption); (case s => omega); (case m => rfl); (case t => decide)); intro D' us' nums' h' F' N' hI' hk' hx'; (try k_sweep)))
local macro_rules | `(tactic| walk_at "subscriptTail") => `(tactic| (k_here; (with_reducible show wpAny _ _ (subscriptTail _ _ (Value.ref _) (Value.int _ _)) _ _ _); k_dflt (first
  | (refine' num_at ?N ?m ?I ?k ?h0 ?h1 ?_; (case N => k_asm); (case m => k_mem); (case I => assumption); (case k => assumption); (case h0 => omega); (case h1 => omega); intro n9 t9 e9 b9)
  | (refine' num_back ?N ?m ?I ?k ?h0 ?h1 ?_; (case N => k_asm); (case m => k_mem); (case I => assumption); (case k => assumption); (case h0 => omega); (case h1 => omega); intro n9 t9 b9))))
local macro_rules | `(tactic| walk_at "subscriptTail Name Constant ref int") => `(tactic| (k_here; (with_reducible show wpAny _ _ (subscriptTail _ _ (Value.ref _) (Value.int _ _)) _ _ _); k_dflt (first
  | (refine' num_at ?N ?m ?I ?k ?h0 ?h1 ?_; (case N => k_asm); (case m => k_mem); (case I => assumption); (case k => assumption); (case h0 => omega); (case h1 => omega); intro n9 t9 e9 b9)
  | (refine' num_back ?N ?m ?I ?k ?h0 ?h1 ?_; (case N => k_asm); (case m => k_mem); (case I => assumption); (case k => assumption); (case h0 => omega); (case h1 => omega); intro n9 t9 b9))))
local macro_rules | `(tactic| walk_at "subscriptTail Name Name ref int") => `(tactic| (k_here; (with_reducible show wpAny _ _ (subscriptTail _ _ (Value.ref _) (Value.int _ _)) _ _ _); k_dflt (first
  | (refine' num_at ?N ?m ?I ?k ?h0 ?h1 ?_; (case N => k_asm); (case m => k_mem); (case I => assumption); (case k => assumption); (case h0 => omega); (case h1 => omega); intro n9 t9 e9 b9)
  | (refine' num_back ?N ?m ?I ?k ?h0 ?h1 ?_; (case N => k_asm); (case m => k_mem); (case I => assumption); (case k => assumption); (case h0 => omega); (case h1 => omega); intro n9 t9 b9))))
local macro_rules | `(tactic| walk_at "subscriptTail Name BinOp ref int") => `(tactic| (k_here; (with_reducible show wpAny _ _ (subscriptTail _ _ (Value.ref _) (Value.int _ _)) _ _ _); k_dflt (first
  | (refine' num_at ?N ?m ?I ?k ?h0 ?h1 ?_; (case N => k_asm); (case m => k_mem); (case I => assumption); (case k => assumption); (case h0 => omega); (case h1 => omega); intro n9 t9 e9 b9)
  | (refine' num_back ?N ?m ?I ?k ?h0 ?h1 ?_; (case N => k_asm); (case m => k_mem); (case I => assumption); (case k => assumption); (case h0 => omega); (case h1 => omega); intro n9 t9 b9))))
local macro_rules | `(tactic| walk_at "newTuple") => `(tactic| (k_here; (with_reducible show wpAny _ _ (newTuple [Value.int _ _, Value.int _ _]) _ _ _); k_dflt (refine' tup_gen ?F ?N ?x ?y ?_; (case F => k_asm); (case N => k_asm); (case x => exact Nat.le_trans (by bits_by_make) (by decide)); (case y => exact Nat.le_trans (by bits_by_make) (by decide))); intro X9 Y9 D' h' bX9 bY9 F' N' l1; (try k_lt l1); (try k_sweep)))
local macro_rules | `(tactic| walk_at "eval IfExp") => `(tactic| (k_here; (fail_if_success (with_reducible show wpAny _ _ _ (JoinPost _ _ _ _ _ _) _ _)); (with_reducible show wpAny _ _ (eval (PySem.Expr.IfExp (PySem.Expr.Name _ _) _ _ _) _) _ _ _); k_dflt (refine' join_int (fun n => Builtin.Int.intBits n ≤ 1048576) ?F ?N ?_ ?_; (case F => k_asm); (case N => k_asm); (focus (intro n9 t9 h9 tk9 b9 F9 N9; (try k_sweep); (try dsimp only))))))
local macro_rules | `(tactic| walk_at "eval IfExp") => `(tactic| (k_here; (fail_if_success (with_reducible show wpAny _ _ _ (JoinPost _ _ _ _ _ _) _ _)); (with_reducible show wpAny _ _ (eval (PySem.Expr.IfExp (PySem.Expr.Compare (PySem.Expr.BinOp _ _ _ _) _ _ _) _ _ _) _) _ _ _); k_dflt (refine' join_int (fun n => (n = 3 ∨ n = 6) ∧ n ≠ 0 ∧ n * n ≠ 0) ?F ?N ?_ ?_; (case F => k_asm); (case N => k_asm); (focus (intro n9 t9 h9 tk9 b9 F9 N9; obtain ⟨b9a, b9b, b9c⟩ := b9; (try k_sweep); (try dsimp only))))))
local macro_rules | `(tactic| walk_at "JoinPost") => `(tactic| (k_dflt (refine' join_end ?p ?f ?n; (case f => k_asm); (case n => k_asm); (case p => first | assumption | decide))))
local macro_rules | `(tactic| k_sub) => `(tactic| ((repeat (refine List.forall_mem_cons.mpr ⟨by k_ne, ?_⟩)); first | exact allLt_ne (And.right (And.right (And.right (by assumption)))) | exact allLt_ne (by assumption) | exact allLt_ne (And.right (by assumption)) | exact allLt_ne (And.right (And.right (by assumption))) | exact allLt_ne (And.right (And.right (And.right (And.right (by assumption))))) | exact allLt_ne (And.right (And.right (And.right (And.right (And.right (by assumption)))))) | exact allLt_ne (And.right (And.right (And.right (And.right (And.right (And.right (by assumption))))))) | exact allLt_ne (And.right (And.right (And.right (And.right (And.right (And.right (And.right (by assumption))))))))))
local macro_rules | `(tactic| walk_at "UnrEnd") => `(tactic| (k_dflt (refine' unr_second ?F ?N ?o ?q ?_; (case F => k_asm); (case N => k_asm); (case o => k_ne); (case q => k_sub))))
local macro_rules | `(tactic| walk_at "binaryOp FloorDiv int int") => `(tactic| (k_here; (with_reducible show wpAny _ _ (binaryOp PySem.Operator.FloorDiv (Value.int _ _) (Value.int (_ * _) _)) _ _ _); k_dflt (refine' fdiv_sq ?n ?_; (case n => assumption))))
local macro_rules | `(tactic| walk_at "InvPostN") => `(tactic| ((with_reducible show InvPostN _ _ _ _ _ _ _ (Flow.ret (Value.bool false)) _); exfalso; first | exact rf1 (by with_reducible assumption) | exact rf2 (by with_reducible assumption) | exact rf3 (by with_reducible assumption) | exact rf4 (by with_reducible assumption) | omega))
theorem Mine.ok_sign2 (w : World) (mean : ExcName → Option Value) (mg mb : Str → Option Value) : ∀ (n : Int) (tn : Tok),
   Callee PySem.Challenge.rw_bj5008_01.row.prog w (hd.heap_39 w.params) hd.view_39 (looseW hd.view_39 [Str.ofString "_law_more"]) mean mg mb 77 1 [.int n tn] (fun _ => True) (fun t => .int (if n < 0 then -1 else if 0 < n then 1 else 0) t) := ok_sign w mean mg mb
theorem PySem.Challenge.cw_bj5008_01_holds : PySem.Challenge.rw_bj5008_01.Holds := by
  refine Mine.hd ?_
  k_with_none
  k_with "my call" => k_dflt (ktr_call (Mine.ok_sign2 _ _ _ _ _ _) ())
  k_with "my call" => k_dflt (ktr_call (Mine.ok_area _ _ _ _ _ _ _ _ _ _ _ _ _) ())
  k_with "my call" => k_dflt (ktr_call (Mine.ok_cross _ _ _ _ _ _ _ _ _ _ _ _ _) ())
  k_with "my call" => k_dflt (ktr_call (Mine.ok_onseg _ _ _ _ _ _ _ _ _ _ _ _ _) ())
  k_with "my call" => k_dflt (ktr_call (Mine.ok_between _ _ _ _ _ _ _ _ _ _ _ _ _) ())
  k_with "my call" => k_dflt (ktr_call (Mine.ok_meet _ _ _ _ _ _ _ _ _ _ _ _ _ _ _ _) ())
  k_with "my call" => k_dflt (ktr_call (Mine.ok_isect _ _ _ _ _ _ _ _ _ _ _ _ _ _ _ _) ())
  k_with "my call" => k_dflt (ktr_call (Mine.ok_node _ _ _ _ _ _ _) ())
  k_with "my call" => k_dflt (ktr_call (Mine.ok_looked _ _ _ _ _ _ _ _ _ _ _ _ _ _ _ _ _ _ _) ())
  k_with "pyIter ref" => k_search (fun _ => True)
  k_go0
  (all_goals try k_fold)
  repeat' ((fail_if_success (with_reducible show wpAny _ _ (pyIter _) _ _ _)); first | (k_unfold; (try dsimp only)) | walk1 | (dsimp only; walk1))
  walk1
  rotate_left
  · repeat' (first | (k_unfold; (try dsimp only)) | ((with_reducible show GoodW _ _ _ _ _ _ _); refine' goodW_true ?t1 ?t2; (case t1 => (rw [beq_iff_eq]; omega)); (case t2 => wrow_close)) | walk1 | (dsimp only; walk1) | (leave1; try dsimp only) | fail "no step")
  repeat' (first | (k_unfold; (try dsimp only)) | ((with_reducible show GoodW _ _ _ _ _ _ _); refine' goodW_true ?t1 ?t2; (case t1 => (rw [beq_iff_eq]; omega)); (case t2 => wrow_close)) | walk1 | (dsimp only; walk1) | (leave1; try dsimp only) | fail "no step")
