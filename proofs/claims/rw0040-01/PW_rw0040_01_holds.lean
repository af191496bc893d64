import PyProof.Rows.All
import KE.BitLaws
import Wide.All
import OpenK.AllK
import Wide.FinOn
import PySem.Challenge.RW_rw0040_01
set_option Elab.async false

section
open PySem PySem.W PyProof.Rows
namespace Mine
set_option maxRecDepth 100000 in
set_option maxHeartbeats 8000000 in
open_top hd for PySem.Challenge.rw_rw0040_01
end Mine
end

section
open PySem PySem.W PySem.Calls PySem.Spec PyProof.Rows
set_option maxRecDepth 100000
namespace Mine

section
variable {prog : Program} {w : World} {A : Around} {E : Value → Shared → Prop} {s : Shared} {K : Frag}

/-- entering a def of the top: the frame is fresh, nothing is raised -/
theorem enter {name qual : Str} {params : Arguments} {body : List Stmt} {scope : Scope} {dV kV doc pm cdv ct oc : Value} {an od : Option Addr} {osl : Array (Option Value)} {f : Addr} {pos : List Value} {kw : List (Str × Value)} {binds : List (Str × Value)}
    {p : Program} {loose : List Str} {mean : ExcName → Option Value} {mg mb : Str → Option Value} {Q : Value → Shared → Prop}
    (X : K.In s.heap) (T : Top p loose mean mg mb s.heap)
    (ho : K.lookup f = some ⟨oc, od, .func (fnOf name qual params body scope dV kV doc pm an cdv ct), osl⟩) (hcd : codeIn K cdv qual = true) (hroom : A.depth < recursionLimit)
    (hbind : BindsTo s (fnOf name qual params body scope dV kV doc pm an cdv ct) ⟨pos, kw⟩ binds) (hloc : ∀ y ∈ binds, scope.names.lookup y.1 = some .local)
    (h : ∀ h₁, Fr s.heap s.heap.objs.size h₁ (fun y => binds.reverse.lookup y) → News s.heap s.heap.objs.size h₁ [] →
      wpAny (model prog w) (A.deeper (envOf qual scope s.heap.objs.size f cdv)) (execs body (envOf qual scope s.heap.objs.size f cdv))
        (fun fl s' => Q (match fl with | .ret v => v | _ => .none) s') (fun _ _ => False)
        { s with heap := h₁, toks := s.toks + binds.length })
    (hco : scope.isCoroutine = false := by rfl) (hgen : scope.isGenerator = false := by rfl) (hk : scope.kind = .function := by rfl)
    (hcell : ∀ x ∈ scope.names, x.2 ≠ .cell := by decide) :
    wpAny (model prog w) A (call (.ref f) pos kw) Q E s := by
  refine wpAny_call (codeAny_call_def (fd := fnOf name qual params body scope dV kV doc pm an cdv ct) (body := body) (binds := binds) hroom (X _ _ ho) rfl T.nolimit (codeRec_of X hcd) rfl hbind hcell hloc (fun h₁ hns hk₁ => ?_) hco hgen hk)
  exact wpAny_mono (h h₁ ⟨hns, hk₁, Nat.le_refl _⟩ News.nil) (fun _ _ q => q) (fun _ _ q => q.elim)

theorem keeps_of_fr {L : Addr} {h : Heap} {m : Str → Option Value} {tk : Nat} (F : Fr s.heap L h m) : Keeps s { s with heap := h, toks := tk } := ⟨h, tk, rfl, F.keep⟩
end
end Mine
namespace Mine
section
variable {M : Model} {A : Around} {E : Value → Shared → Prop} {s : Shared} {env : Env}
/-- a row of statements by what holds between -/
theorem seq {st : Stmt} {rest : List Stmt} {Q : Flow → Shared → Prop} (J : Shared → Prop)
    (h1 : wpAny M A (exec st env) (fun f s' => match f with | .next => J s' | f => Q f s') E s)
    (h2 : ∀ s', J s' → wpAny M A (execs rest env) Q E s') : wpAny M A (execs (st :: rest) env) Q E s :=
  wpAny_execs_cons (wpAny_mono h1 (fun f s' h => by cases f <;> first | exact h2 s' h | exact h) fun _ _ h => h)
end
section
variable {prog : Program} {w : World} {A : Around} {E : Value → Shared → Prop} {s : Shared}
theorem gives_str_find_4 (x y : Str) (i j : Nat) (t u v z : Tok) : Gives (Builtin.«str.find» ⟨[.str x t, .str y u, .int i v, .int j z], []⟩) (.int (match Builtin.Str.occurrences x y i (min j x.length) 1 with | k :: _ => (k : Int) | [] => -1)) := by
  have e1 : (max 0 (if (i : Int) < 0 then (i : Int) + x.length else i)).toNat = i := by
    rw [if_neg (by omega)]; omega
  have e2 : (max 0 (if (j : Int) < 0 then (j : Int) + x.length else j)).toNat = j := by
    rw [if_neg (by omega)]; omega
  show Gives (match Builtin.Str.occurrences x y (max 0 (if (i : Int) < 0 then (i : Int) + x.length else i)).toNat (min (max 0 (if (j : Int) < 0 then (j : Int) + x.length else j)).toNat x.length) 1 with | k :: _ => retInt k | [] => (do rule "str.find.not-found"; retInt (-1))) _
  rw [e1, e2]
  cases Builtin.Str.occurrences x y i (min j x.length) 1 with
  | nil => exact .rule (.of_eq rfl)
  | cons k _ => exact .of_eq rfl
theorem find4 {x y : Str} {t u v z : Tok} {i j : Nat} {Q : Value → Shared → Prop}
    (hq : Q (.int (match Builtin.Str.occurrences x y i (min j x.length) 1 with | k :: _ => (k : Int) | [] => -1) s.toks) { s with toks := s.toks + 1 }) :
    wpAny (model prog w) A (call (.builtin "str.find") [.str x t, .str y u, .int i v, .int j z]) Q E s :=
  call_gives F.slot_str_find (typeIs_str _ _ _) F.entry_str_find (F.args_str_find_4 _ _ _ _) (gives_str_find_4 x y i j t u v z) hq
end
end Mine
namespace Mine
section
variable {prog : Program} {w : World} {A : Around} {E : Value → Shared → Prop} {s : Shared} {K : Frag}
/-- entering a def whose names stand in cells -/
theorem enterC {name qual : Str} {params : Arguments} {body : List Stmt} {scope : Scope} {dV kV doc pm cdv ct oc : Value} {an od : Option Addr} {osl : Array (Option Value)} {f : Addr} {pos : List Value} {kw : List (Str × Value)} {binds : List (Str × Value)}
    {p : Program} {loose : List Str} {mean : ExcName → Option Value} {mg mb : Str → Option Value} {Q : Value → Shared → Prop}
    (X : K.In s.heap) (T : Top p loose mean mg mb s.heap)
    (ho : K.lookup f = some ⟨oc, od, .func (fnOf name qual params body scope dV kV doc pm an cdv ct), osl⟩) (hcd : codeIn K cdv qual = true) (hroom : A.depth < recursionLimit)
    (hbind : BindsTo s (fnOf name qual params body scope dV kV doc pm an cdv ct) ⟨pos, kw⟩ binds) (hkind : (binds.all fun y => scope.names.lookup y.1 == some .local || scope.names.lookup y.1 == some .cell) = true)
    (hnd : ((cellsFrom 0 scope.names []).map (·.1)).Nodup)
    (h : ∀ h₁ tk cells, Fr s.heap s.heap.objs.size h₁ (bindL (envOfC qual scope s.heap.objs.size f cdv).kindOf binds fun _ => none) → News s.heap s.heap.objs.size h₁ cells →
      CellsAre (bindC (envOfC qual scope s.heap.objs.size f cdv).kindOf binds fun _ => none) (cellsFrom (s.heap.objs.size + 1) scope.names []) cells →
      wpAny (model prog w) (A.deeper (envOfC qual scope s.heap.objs.size f cdv)) (execs body (envOfC qual scope s.heap.objs.size f cdv))
        (fun fl s' => Q (match fl with | .ret v => v | _ => .none) s') (fun _ _ => False)
        { s with heap := h₁, toks := tk })
    (hco : scope.isCoroutine = false := by rfl) (hgen : scope.isGenerator = false := by rfl) (hk : scope.kind = .function := by rfl) :
    wpAny (model prog w) A (call (.ref f) pos kw) Q E s := by
  refine wpAny_call ?_
  refine codeAny_call_function hroom (X _ _ ho) rfl hco hgen rfl (codeRec_of X hcd) (hbind _ _ _ _ ?_)
  refine wpAny_newFunctionEnv_cells hk (kindsX hkind _) fun env' he s' x => ?_
  subst he
  refine ⟨(T.nolimit).keeps x.toInCall.keep, codeAny_func ?_⟩
  obtain ⟨h₁, tk, rfl, _⟩ := x.done
  have hk₁ := x.toInCall.keep
  obtain ⟨cells, NC, Y⟩ := Cl.news (h₀ := s.heap) (Nat.le_refl _) fun n c hm => ⟨x.cell n c (lookup_of_mem_nodup (cellsFrom_names scope.names 0 (s.heap.objs.size + 1) [] [] rfl ▸ hnd) hm), x.above n c hm⟩
  exact wpAny_mono (h h₁ tk cells ⟨x.toInCall.ns, hk₁, Nat.le_refl _⟩ NC Y) (fun _ _ q => q) fun _ _ q => q.elim
end
end Mine
end

section
open PySem
namespace Mine

theorem bitAnd_nat (a b : Nat) : Builtin.bitAnd (a : Int) (b : Int) = ((a &&& b : Nat) : Int) := by
  unfold Builtin.bitAnd
  simp

theorem bitOr_nat (a b : Nat) : Builtin.bitOr (a : Int) (b : Int) = ((a ||| b : Nat) : Int) := by
  have n1 : ∀ x : Nat, (Builtin.bitNot (x : Int)) = -(x : Int) - 1 := fun x => by unfold Builtin.bitNot; omega
  have n2 : Builtin.bitNot (-(a : Int) - 1) = (a : Int) := by unfold Builtin.bitNot; omega
  have n3 : Builtin.bitNot (-(b : Int) - 1) = (b : Int) := by unfold Builtin.bitNot; omega
  have h1 : decide ((0 : Int) ≤ -(a : Int) - 1) = false := by simp; omega
  have h2 : decide ((0 : Int) ≤ -(b : Int) - 1) = false := by simp; omega
  unfold Builtin.bitOr Builtin.bitAnd
  rw [n1 a, n1 b, h1, h2]
  simp only [n2, n3, Int.toNat_natCast]
  unfold Builtin.bitNot
  omega

/-- one turn of the spreading -/
def sp1 (g p : Nat) : Nat := p ||| (p &&& g) * 2
def spN (g : Nat) : Nat → Nat → Nat
  | 0, p => p
  | f + 1, p => spN g f (sp1 g p)
/-- the places reached from p by steps through g -/
def Cl (g p j : Nat) : Prop := ∃ i, i ≤ j ∧ p.testBit i = true ∧ ∀ k, i ≤ k → k < j → g.testBit k = true

theorem testBit_mul_two (x k : Nat) : (x * 2).testBit (k + 1) = x.testBit k := by
  rw [Nat.testBit_succ]
  congr 1
  omega
theorem testBit_mul_two_zero (x : Nat) : (x * 2).testBit 0 = false := by
  simp [Nat.testBit_zero]

theorem sp1_bit (g p j : Nat) : (sp1 g p).testBit j = true ↔ p.testBit j = true ∨ ∃ k, j = k + 1 ∧ p.testBit k = true ∧ g.testBit k = true := by
  unfold sp1
  rw [Nat.testBit_or, Bool.or_eq_true]
  cases j with
  | zero =>
    rw [testBit_mul_two_zero]
    constructor
    · rintro (h | h)
      · exact .inl h
      · cases h
    · rintro (h | ⟨k, h, _⟩)
      · exact .inl h
      · omega
  | succ j =>
    rw [testBit_mul_two, Nat.testBit_and, Bool.and_eq_true]
    constructor
    · rintro (h | h)
      · exact .inl h
      · exact .inr ⟨j, rfl, h⟩
    · rintro (h | ⟨k, h, q⟩)
      · exact .inl h
      · cases h; exact .inr q

theorem Cl.self {g p j : Nat} (h : p.testBit j = true) : Cl g p j := ⟨j, Nat.le_refl _, h, fun k a b => absurd b (Nat.not_lt.mpr a)⟩
theorem Cl.step {g p k : Nat} (h : Cl g p k) (hg : g.testBit k = true) : Cl g p (k + 1) := by
  obtain ⟨i, hi, hp, ha⟩ := h
  refine ⟨i, Nat.le_succ_of_le hi, hp, fun j a b => ?_⟩
  rcases Nat.lt_or_ge j k with h | h
  · exact ha j a h
  · have : j = k := by omega
    subst this; exact hg

/-- what stands while the loop goes: q lies between p and all that p reaches -/
structure Mid (g p q : Nat) : Prop where
  low : ∀ j, p.testBit j = true → q.testBit j = true
  high : ∀ j, q.testBit j = true → Cl g p j

theorem Mid.start (g p : Nat) : Mid g p p := ⟨fun _ h => h, fun _ h => .self h⟩
theorem Mid.step {g p q : Nat} (h : Mid g p q) : Mid g p (sp1 g q) := ⟨fun j x => (sp1_bit g q j).mpr (.inl (h.low j x)), fun j x => by
  rcases (sp1_bit g q j).mp x with y | ⟨k, rfl, y, z⟩
  · exact h.high j y
  · exact (h.high k y).step z⟩
theorem Mid.whole {g p q : Nat} (h : Mid g p q) (hc : sp1 g q = q) (j : Nat) : q.testBit j = true ↔ Cl g p j := by
  refine ⟨h.high j, ?_⟩
  rintro ⟨i, hi, hp, ha⟩
  have : ∀ n, i + n ≤ j → q.testBit (i + n) = true := by
    intro n
    induction n with
    | zero => intro _; exact h.low i hp
    | succ n ih =>
      intro hn
      have := ih (by omega)
      rw [← hc]
      exact (sp1_bit g q _).mpr (.inr ⟨i + n, rfl, this, ha (i + n) (by omega) (by omega)⟩)
  have := this (j - i) (by omega)
  rwa [show i + (j - i) = j by omega] at this

theorem sp1_le (g p : Nat) : p ≤ sp1 g p := Nat.left_le_or
theorem sp1_lt {g p k : Nat} (hp : p < 2 ^ k) (hg : g * 2 < 2 ^ k) : sp1 g p < 2 ^ k := by
  refine Nat.or_lt_two_pow hp (Nat.lt_of_le_of_lt ?_ hg)
  exact Nat.mul_le_mul_right 2 Nat.and_le_right

theorem spN_fix {g p : Nat} (h : sp1 g p = p) : ∀ f, spN g f p = p
  | 0 => rfl
  | f + 1 => by rw [spN, h]; exact spN_fix h f
theorem spN_closed {g k : Nat} (hg : g * 2 < 2 ^ k) : ∀ f p, p < 2 ^ k → 2 ^ k - p ≤ f → sp1 g (spN g f p) = spN g f p := by
  intro f
  induction f with
  | zero => intro p hp hf; omega
  | succ f ih =>
    intro p hp hf
    by_cases hc : sp1 g p = p
    · rw [spN_fix hc, hc]
    · have := sp1_le g p
      exact ih _ (sp1_lt hp hg) (by omega)
theorem spN_mid {g p : Nat} : ∀ f q, Mid g p q → Mid g p (spN g f q)
  | 0, _, h => h
  | f + 1, _, h => spN_mid f _ h.step

def spread (g p : Nat) : Nat := spN g (2 ^ (g + p + 2)) p
theorem spread_room (g p : Nat) : p < 2 ^ (g + p + 2) ∧ g * 2 < 2 ^ (g + p + 2) := by
  have h1 : g + p + 1 < 2 ^ (g + p + 1) := Nat.lt_two_pow_self
  have h2 : 2 ^ (g + p + 2) = 2 ^ (g + p + 1) * 2 := Nat.pow_succ ..
  omega
theorem spread_bit (g p j : Nat) : (spread g p).testBit j = true ↔ Cl g p j := by
  unfold spread
  have ⟨a, b⟩ := spread_room g p
  exact (spN_mid _ p (Mid.start g p)).whole (spN_closed b _ _ a (Nat.sub_le ..)) j
theorem spread_of {g p q : Nat} (h : Mid g p q) (hc : sp1 g q = q) : q = spread g p := by
  refine Nat.eq_of_testBit_eq fun j => ?_
  have h1 := h.whole hc j
  have h2 := spread_bit g p j
  cases e : q.testBit j <;> cases e' : (spread g p).testBit j <;> simp_all
end Mine
end

section
open PySem PyProof.Rows
namespace Mine

/-- the bits that a test picks -/
def maskN (q : Nat → Bool) : Nat → Nat
  | 0 => 0
  | n + 1 => if q n then maskN q n + 2 ^ n else maskN q n

theorem maskN_lt (q : Nat → Bool) : ∀ n, maskN q n < 2 ^ n
  | 0 => Nat.one_pos
  | n + 1 => by
    have := maskN_lt q n
    have e : 2 ^ (n + 1) = 2 ^ n * 2 := Nat.pow_succ ..
    rw [maskN]
    split <;> omega

theorem maskN_bit (q : Nat → Bool) (j : Nat) : ∀ n, (maskN q n).testBit j = (decide (j < n) && q j)
  | 0 => by simp [maskN]
  | n + 1 => by
    have ih := maskN_bit q j n
    have hlt := maskN_lt q n
    rw [maskN]
    cases hq : q n with
    | false =>
      simp only [Bool.false_eq_true, if_false]
      rw [ih]
      by_cases h : j = n
      · subst h; simp [hq]
      · have : decide (j < n + 1) = decide (j < n) := by
          by_cases h2 : j < n
          · simp [h2, Nat.lt_succ_of_lt h2]
          · have : ¬ j < n + 1 := by omega
            simp [h2, this]
        rw [this]
    | true =>
      simp only [if_true]
      have e : maskN q n + 2 ^ n = 2 ^ n ||| maskN q n := by
        have := Nat.two_pow_add_eq_or_of_lt hlt 1
        rw [Nat.mul_one] at this
        omega
      rw [e, Nat.testBit_or, Nat.testBit_two_pow, ih]
      by_cases h : n = j
      · subst h; simp [hq]
      · by_cases h2 : j < n
        · simp [h, h2, Nat.lt_succ_of_lt h2]
        · have : ¬ j < n + 1 := by omega
          simp [h, h2, this]

theorem mask_sum (q : Int → Bool) : ∀ n : Nat, (((rangeInts 0 1 n).filter q).map fun a => (2 : Int) ^ a.toNat).sum = ((maskN (fun k => q (k : Nat)) n : Nat) : Int)
  | 0 => rfl
  | n + 1 => by
    have ih := mask_sum q n
    have hr : rangeInts 0 1 (n + 1) = rangeInts 0 1 n ++ [(n : Int)] := by
      simp [rangeInts, List.range_succ]
    rw [hr, List.filter_append, List.map_append, List.sum_append, ih]
    rw [maskN]
    cases hq : q (n : Int) with
    | false => simp [hq]
    | true => simp [hq]
end Mine
namespace Mine
theorem mask_sum' (q : Nat → Bool) : ∀ n : Nat, (((List.range n).filter q).map fun i => ((2 ^ i : Nat) : Int)).sum = ((maskN q n : Nat) : Int)
  | 0 => rfl
  | n + 1 => by
    have ih := mask_sum' q n
    rw [List.range_succ, List.filter_append, List.map_append, List.sum_append, ih]
    rw [maskN]
    cases hq : q n with
    | false => simp [hq]
    | true => simp [hq]
end Mine
namespace Mine
/-- one letter read -/
def stp (G sp p : Nat) : Nat := spread G ((p &&& G) ||| ((p &&& sp) * 2))
/-- any text read -/
inductive Star (G : Nat) (spots : List Nat) : Nat → Nat → Prop
  | refl (p : Nat) : Star G spots p p
  | step {p q sp : Nat} : Star G spots p q → sp ∈ spots → Star G spots p (stp G sp q)
def gapsN (wide letters : List Int) : Nat := maskN (fun k => !(letters.any fun x => x == wide.getD k 0)) wide.length
def spotN (wide : List Int) (l : Int) : Nat := maskN (fun k => wide.getD k 0 == l) wide.length
def nxt (wide letters : List Int) (P : Nat → Prop) (symbol : Int) : Nat → Prop := fun q =>
  if (letters.any fun x => x == symbol) = true then ∃ p, P p ∧ q = stp (gapsN wide letters) (spotN wide symbol) p
  else ∃ p, P p ∧ Star (gapsN wide letters) ((letters ++ [0]).map (spotN wide)) p q
/-- the sets of places that the texts of a form come to -/
def Rch (wide letters : List Int) (form : List Int) : Nat → Prop := form.foldl (nxt wide letters) (fun p => p = spread (gapsN wide letters) 1)
theorem Rch_snoc (wide letters form : List Int) (x : Int) : Rch wide letters (form ++ [x]) = nxt wide letters (Rch wide letters form) x := by
  unfold Rch; rw [List.foldl_append]; rfl

theorem lt_of_bits {x n : Nat} (h : ∀ j, x.testBit j = true → j < n) : x < 2 ^ n := by
  refine Nat.lt_pow_two_of_testBit x fun i hi => ?_
  cases e : x.testBit i with
  | false => rfl
  | true => exact absurd (h i e) (Nat.not_lt.mpr hi)
theorem bit_lt {x n j : Nat} (h : x < 2 ^ n) (hb : x.testBit j = true) : j < n := by
  rcases Nat.lt_or_ge j n with q | q
  · exact q
  · rw [Nat.testBit_lt_two_pow (Nat.lt_of_lt_of_le h (Nat.pow_le_pow_right (by decide) q))] at hb
    cases hb
theorem spread_lt {g p n : Nat} (hg : g < 2 ^ n) (hp : p < 2 ^ (n + 1)) : spread g p < 2 ^ (n + 1) := by
  refine lt_of_bits fun j hj => ?_
  obtain ⟨i, hi, hb, ha⟩ := (spread_bit g p j).mp hj
  rcases Nat.lt_or_ge i j with q | q
  · have := bit_lt hg (ha (j - 1) (by omega) (by omega))
    omega
  · have : i = j := by omega
    subst this; exact bit_lt hp hb
theorem st_lt {g sp p n : Nat} (hg : g < 2 ^ n) (hs : sp < 2 ^ n) : stp g sp p < 2 ^ (n + 1) := by
  have e : 2 ^ (n + 1) = 2 ^ n * 2 := Nat.pow_succ ..
  refine spread_lt hg (Nat.or_lt_two_pow ?_ ?_)
  · have : p &&& g ≤ g := Nat.and_le_right
    omega
  · have : p &&& sp ≤ sp := Nat.and_le_right
    omega
theorem gapsN_lt (wide letters : List Int) : gapsN wide letters < 2 ^ wide.length := maskN_lt _ _
theorem spotN_lt (wide : List Int) (l : Int) : spotN wide l < 2 ^ wide.length := maskN_lt _ _

/-- how many numbers below B a row lacks -/
def fresh (B : Nat) (l : List Nat) : Nat := (List.range B).countP fun v => !l.contains v
theorem countP_one (l : List Nat) (v : Nat) (hv : v ∉ l) : ∀ L : List Nat, L.Nodup → v ∈ L → (L.countP fun u => !(l ++ [v]).contains u) + 1 = L.countP fun u => !l.contains u := by
  have hlv : l.contains v = false := by simpa using hv
  have same : ∀ u, u ≠ v → (l ++ [v]).contains u = l.contains u := fun u hu => by
    simp [hu]
  have self : (l ++ [v]).contains v = true := by simp
  intro L
  induction L with
  | nil => intro _ h; cases h
  | cons a r ih =>
    intro hn hm
    obtain ⟨ha, hr⟩ := List.nodup_cons.mp hn
    rw [List.countP_cons, List.countP_cons]
    by_cases hav : a = v
    · subst hav
      rw [self, hlv]
      have : (r.countP fun u => !(l ++ [a]).contains u) = r.countP fun u => !l.contains u := by
        refine List.countP_congr fun u hu => ?_
        rw [same u (fun q => ha (q ▸ hu))]
      rw [this]; simp
    · rw [same a hav]
      have := ih hr ((List.mem_cons.mp hm).resolve_left (fun q => hav q.symm))
      omega
theorem fresh_push {B v : Nat} {l : List Nat} (hv : v < B) (h : v ∉ l) : fresh B (l ++ [v]) + 1 = fresh B l := countP_one l v h _ List.nodup_range (List.mem_range.mpr hv)
theorem fresh_le (B : Nat) (l : List Nat) : fresh B l ≤ B := by
  have := List.countP_le_length (p := fun v => !l.contains v) (l := List.range B)
  simpa [fresh] using this

/-- the row while it grows -/
structure Grown (B C G : Nat) (spots reach₀ reach : List Nat) (seen : Nat) : Prop where
  all : ∀ p ∈ reach₀, p ∈ reach
  from_ : ∀ p ∈ reach, ∃ q ∈ reach₀, Star G spots q p
  done : ∀ i, i < seen → ∀ sp ∈ spots, stp G sp (reach.getD i 0) ∈ reach
  low : ∀ p ∈ reach, p < B
  size : reach.length + fresh B reach = C
  seen_le : seen ≤ reach.length
theorem Grown.closed {B C G : Nat} {spots reach₀ reach : List Nat} {seen : Nat} (g : Grown B C G spots reach₀ reach seen) (h : reach.length ≤ seen) (q : Nat) : q ∈ reach ↔ ∃ p ∈ reach₀, Star G spots p q := by
  refine ⟨g.from_ q, ?_⟩
  rintro ⟨p, hp, hs⟩
  induction hs with
  | refl => exact g.all _ hp
  | step _ hsp ih =>
    obtain ⟨i, hi, e⟩ := List.getElem_of_mem ih
    have := g.done i (by omega) _ hsp
    rw [List.getD_eq_getElem?_getD, List.getElem?_eq_getElem hi, Option.getD_some, e] at this
    exact this
end Mine
namespace Mine
theorem getD_push {l : List Nat} {v i : Nat} (h : i < l.length) : (l ++ [v]).getD i 0 = l.getD i 0 := by
  rw [List.getD_eq_getElem?_getD, List.getD_eq_getElem?_getD, List.getElem?_append_left h]
theorem Grown.push {B C G : Nat} {spots reach₀ reach : List Nat} {seen sp : Nat} (g : Grown B C G spots reach₀ reach seen) (hs : seen < reach.length) (hsp : sp ∈ spots)
    (hnew : stp G sp (reach.getD seen 0) ∉ reach) (hlt : stp G sp (reach.getD seen 0) < B) : Grown B C G spots reach₀ (reach ++ [stp G sp (reach.getD seen 0)]) seen where
  all := fun p hp => List.mem_append_left _ (g.all p hp)
  from_ := fun p hp => by
    rcases List.mem_append.mp hp with hp | hp
    · exact g.from_ p hp
    · rw [List.mem_singleton.mp hp]
      have hm : reach.getD seen 0 ∈ reach := by
        rw [List.getD_eq_getElem?_getD, List.getElem?_eq_getElem hs]; exact List.getElem_mem hs
      obtain ⟨q, hq, hst⟩ := g.from_ _ hm
      exact ⟨q, hq, hst.step hsp⟩
  done := fun i hi sp' hsp' => by
    rw [getD_push (by omega)]
    exact List.mem_append_left _ (g.done i hi sp' hsp')
  low := fun p hp => by
    rcases List.mem_append.mp hp with hp | hp
    · exact g.low p hp
    · rw [List.mem_singleton.mp hp]; exact hlt
  size := by
    have := fresh_push hlt hnew
    have := g.size
    rw [List.length_append, List.length_singleton]; omega
  seen_le := by rw [List.length_append]; have := g.seen_le; omega
theorem Grown.next {B C G : Nat} {spots reach₀ reach : List Nat} {seen : Nat} (g : Grown B C G spots reach₀ reach seen) (hs : seen < reach.length)
    (h : ∀ sp ∈ spots, stp G sp (reach.getD seen 0) ∈ reach) : Grown B C G spots reach₀ reach (seen + 1) where
  all := g.all
  from_ := g.from_
  done := fun i hi sp hsp => by
    rcases Nat.lt_or_ge i seen with q | q
    · exact g.done i q sp hsp
    · have : i = seen := by omega
      subst this; exact h sp hsp
  low := g.low
  size := g.size
  seen_le := hs
theorem Grown.start (B G : Nat) (spots reach₀ : List Nat) (h : ∀ p ∈ reach₀, p < B) : Grown B (reach₀.length + fresh B reach₀) G spots reach₀ reach₀ 0 where
  all := fun _ h => h
  from_ := fun p hp => ⟨p, hp, .refl p⟩
  done := fun _ hi => absurd hi (Nat.not_lt_zero _)
  low := h
  size := rfl
  seen_le := Nat.zero_le _
end Mine
end

section
open PySem PyProof.Rows
namespace Mine

/-- a pattern with gaps and a word -/
inductive Mch : List (Option Nat) → List Nat → Prop
  | nil : Mch [] []
  | lit {x : Nat} {e : List (Option Nat)} {w : List Nat} : Mch e w → Mch (some x :: e) (x :: w)
  | skip {e : List (Option Nat)} {w : List Nat} : Mch e w → Mch (none :: e) w
  | eat {y : Nat} {e : List (Option Nat)} {w : List Nat} : Mch (none :: e) w → Mch (none :: e) (y :: w)

theorem Mch.del {e : List (Option Nat)} {x : Nat} {w : List Nat} (h : Mch e (x :: w)) (hx : some x ∉ e) : Mch e w := by
  generalize hv : x :: w = v at h
  induction h with
  | nil => cases hv
  | lit h ih => cases hv; exact absurd (.head _) hx
  | skip h ih => exact .skip (ih (fun q => hx (.tail _ q)) hv)
  | eat h ih => cases hv; exact h
theorem Mch.ins {e : List (Option Nat)} {x : Nat} {w : List Nat} (y : Nat) (h : Mch e (x :: w)) (hx : some x ∉ e) : Mch e (y :: x :: w) := by
  generalize hv : x :: w = v at h
  induction h with
  | nil => cases hv
  | lit h ih => cases hv; exact absurd (.head _) hx
  | skip h ih => exact hv ▸ .skip (hv ▸ ih (fun q => hx (.tail _ q)) hv)
  | eat h ih => cases hv; exact .eat (.eat h)
theorem Mch.sub {e : List (Option Nat)} {x : Nat} {w : List Nat} (y : Nat) (h : Mch e (x :: w)) (hx : some x ∉ e) : Mch e (y :: w) := by
  generalize hv : x :: w = v at h
  induction h with
  | nil => cases hv
  | lit h ih => cases hv; exact absurd (.head _) hx
  | skip h ih => exact .skip (ih (fun q => hx (.tail _ q)) hv)
  | eat h ih => cases hv; exact .eat h

/-- pointwise at most -/
inductive Lep : List (Option Nat) → List (Option Nat) → Prop
  | nil : Lep [] []
  | same (a : Option Nat) {e e' : List (Option Nat)} : Lep e e' → Lep (a :: e) (a :: e')
  | gap (a : Option Nat) {e e' : List (Option Nat)} : Lep e e' → Lep (a :: e) (none :: e')
theorem Mch.mono {e : List (Option Nat)} {w : List Nat} (h : Mch e w) : ∀ {e' : List (Option Nat)}, Lep e e' → Mch e' w := by
  induction h with
  | nil => intro e' l; cases l; exact .nil
  | lit h ih =>
    intro e' l
    cases l with
    | same _ l => exact .lit (ih l)
    | gap _ l => exact .eat (.skip (ih l))
  | skip h ih =>
    intro e' l
    cases l with
    | same _ l => exact .skip (ih l)
    | gap _ l => exact .skip (ih l)
  | eat h ih =>
    intro e' l
    cases l with
    | same _ l => exact .eat (ih (.same _ l))
    | gap _ l => exact .eat (ih (.gap _ l))
theorem Mch.gaps_nil : ∀ n, Mch (List.replicate n none) []
  | 0 => .nil
  | n + 1 => .skip (Mch.gaps_nil n)
theorem Mch.gaps : ∀ (n : Nat) (w : List Nat), Mch (List.replicate (n + 1) none) w
  | n, [] => Mch.gaps_nil (n + 1)
  | n, _ :: w => .eat (Mch.gaps n w)
theorem Mch.own : ∀ w : List Nat, Mch (w.map some) w
  | [] => .nil
  | _ :: w => .lit (Mch.own w)
theorem Mch.empty_iff {e : List (Option Nat)} : Mch e [] ↔ ∀ a ∈ e, a = none := by
  constructor
  · intro h
    generalize hv : ([] : List Nat) = v at h
    induction h with
    | nil => intro a ha; cases ha
    | lit h ih => cases hv
    | skip h ih =>
      intro a ha
      rcases List.mem_cons.mp ha with rfl | ha
      · rfl
      · exact ih hv a ha
    | eat h ih => cases hv
  · intro h
    induction e with
    | nil => exact .nil
    | cons a r ih =>
      have := h a (.head _)
      subst this
      exact .skip (ih fun b hb => h b (.tail _ hb))
theorem Mch.length_le {e : List (Option Nat)} {w : List Nat} (h : Mch e w) : (e.filter Option.isSome).length ≤ w.length := by
  induction h with
  | nil => exact Nat.le_refl _
  | lit h ih => simpa using ih
  | skip h ih => simpa using ih
  | eat h ih => exact Nat.le_succ_of_le ih
end Mine
end

section
open PySem PyProof.Rows
namespace Mine

theorem Mch.app {a b : List (Option Nat)} {u v : List Nat} (h : Mch a u) (k : Mch b v) : Mch (a ++ b) (u ++ v) := by
  induction h with
  | nil => exact k
  | lit _ ih => exact .lit ih
  | skip _ ih => exact .skip ih
  | eat _ ih => exact .eat ih
theorem Mch.split : ∀ {a b : List (Option Nat)} {w : List Nat}, Mch (a ++ b) w → ∃ u v, w = u ++ v ∧ Mch a u ∧ Mch b v := by
  intro a b w h
  generalize hc : a ++ b = c at h
  induction h generalizing a b with
  | nil =>
    obtain ⟨rfl, rfl⟩ := List.append_eq_nil_iff.mp hc
    exact ⟨[], [], rfl, .nil, .nil⟩
  | @lit x e w h ih =>
    cases a with
    | nil => exact ⟨[], _, rfl, .nil, (show b = _ from hc) ▸ .lit h⟩
    | cons y a =>
      obtain ⟨e1, e2⟩ := List.cons.inj hc
      subst e1
      obtain ⟨u, v, rfl, h1, h2⟩ := ih e2
      exact ⟨x :: u, v, rfl, .lit h1, h2⟩
  | @skip e w h ih =>
    cases a with
    | nil => exact ⟨[], _, rfl, .nil, (show b = _ from hc) ▸ .skip h⟩
    | cons y a =>
      obtain ⟨e1, e2⟩ := List.cons.inj hc
      subst e1
      obtain ⟨u, v, rfl, h1, h2⟩ := ih e2
      exact ⟨u, v, rfl, .skip h1, h2⟩
  | @eat y e w h ih =>
    cases a with
    | nil => exact ⟨[], _, rfl, .nil, (show b = _ from hc) ▸ .eat h⟩
    | cons z a =>
      obtain ⟨rfl, hc'⟩ := List.cons.inj hc
      obtain ⟨u, v, rfl, h1, h2⟩ := ih (a := none :: a) (b := b) (by rw [← hc']; rfl)
      exact ⟨y :: u, v, rfl, .eat h1, h2⟩
theorem Mch.app_iff {a b : List (Option Nat)} {w : List Nat} : Mch (a ++ b) w ↔ ∃ u v, w = u ++ v ∧ Mch a u ∧ Mch b v :=
  ⟨Mch.split, fun ⟨_, _, e, h, k⟩ => e ▸ h.app k⟩
theorem Mch.lits {x w : List Nat} : Mch (x.map some) w ↔ w = x := by
  constructor
  · intro h
    induction x generalizing w with
    | nil => cases h; rfl
    | cons a x ih => cases h with
      | lit h => rw [ih h]
  · rintro rfl; exact Mch.own _
theorem Mch.lits_app {x w : List Nat} {b : List (Option Nat)} : Mch (x.map some ++ b) w ↔ ∃ v, w = x ++ v ∧ Mch b v := by
  rw [Mch.app_iff]
  constructor
  · rintro ⟨u, v, rfl, h, k⟩; exact ⟨v, by rw [Mch.lits.mp h], k⟩
  · rintro ⟨v, rfl, k⟩; exact ⟨x, v, rfl, Mch.own x, k⟩
theorem Mch.app_lits {x w : List Nat} {a : List (Option Nat)} : Mch (a ++ x.map some) w ↔ ∃ u, w = u ++ x ∧ Mch a u := by
  rw [Mch.app_iff]
  constructor
  · rintro ⟨u, v, rfl, h, k⟩; exact ⟨u, by rw [Mch.lits.mp k], h⟩
  · rintro ⟨u, rfl, k⟩; exact ⟨u, x, rfl, k, Mch.own x⟩
theorem Mch.gap_one (w : List Nat) : Mch [none] w := Mch.gaps 0 w
theorem Mch.gap_app {b : List (Option Nat)} {w : List Nat} : Mch (none :: b) w ↔ ∃ u v, w = u ++ v ∧ Mch b v := by
  constructor
  · intro h
    obtain ⟨u, v, e, _, k⟩ := Mch.split (a := [none]) (b := b) h
    exact ⟨u, v, e, k⟩
  · rintro ⟨u, v, rfl, k⟩
    exact Mch.app (Mch.gap_one u) k
theorem Mch.gap_drop {b : List (Option Nat)} {g : List Nat} {n : Nat} (hn : n ≤ g.length) : Mch (none :: b) (g.drop n) ↔ ∃ i, n ≤ i ∧ i ≤ g.length ∧ Mch b (g.drop i) := by
  rw [Mch.gap_app]
  constructor
  · rintro ⟨u, v, e, k⟩
    have hl := congrArg List.length e
    rw [List.length_drop, List.length_append] at hl
    refine ⟨n + u.length, by omega, by omega, ?_⟩
    rw [← List.drop_drop, e, List.drop_left]
    exact k
  · rintro ⟨i, h1, h2, k⟩
    refine ⟨(g.drop n).take (i - n), g.drop i, ?_, k⟩
    have : g.drop i = (g.drop n).drop (i - n) := by rw [List.drop_drop]; congr 1; omega
    rw [this, List.take_append_drop]
theorem Mch.eats {b : List (Option Nat)} {v : List Nat} (h : Mch (none :: b) v) : ∀ u : List Nat, Mch (none :: b) (u ++ v)
  | [] => h
  | _ :: u => .eat (Mch.eats h u)
theorem Mch.dup {b : List (Option Nat)} {w : List Nat} : Mch (none :: none :: b) w ↔ Mch (none :: b) w := by
  constructor
  · intro h
    obtain ⟨u, v, rfl, k⟩ := Mch.gap_app.mp h
    exact k.eats u
  · exact .skip
theorem Mch.dup_end {a : List (Option Nat)} {w : List Nat} : Mch (a ++ [none] ++ [none]) w ↔ Mch (a ++ [none]) w := by
  constructor
  · intro h
    obtain ⟨u, v, rfl, h1, _⟩ := Mch.split h
    obtain ⟨u1, v1, rfl, h3, _⟩ := Mch.split h1
    rw [List.append_assoc]
    exact h3.app (Mch.gap_one _)
  · intro h
    have := h.app (Mch.gap_one [])
    rwa [List.append_nil] at this
end Mine
end

section
open PySem PySem.Builtin.Str
namespace Mine
def dots : Str := Str.ofString "..."
def findIn (x y : Str) (lo hi : Nat) : Option Nat := (occurrences x y lo (min hi x.length) 1).head?
def emLoop (got : Str) (ep : Nat) : List Str → Nat → Bool
  | [], _ => true
  | w :: ws, sp => match findIn got w sp ep with
    | some i => emLoop got ep ws (i + w.length)
    | none => false
def em3 (got : Str) (ws : List Str) (sp ep : Nat) : Bool := if ep < sp then false else emLoop got ep ws sp
def em2 (got : Str) (ws : List Str) (sp : Nat) : Bool :=
  match ws.getLast? with
  | none => true
  | some w => if w.length = 0 then em3 got ws sp got.length else if Txt.endswith got w then em3 got ws.dropLast sp (got.length - w.length) else false
def em1 (got : Str) (ws : List Str) : Bool :=
  match ws with
  | [] => true
  | w :: r => if w.length = 0 then em2 got (w :: r) 0 else if Txt.startswith got w then em2 got r w.length else false
/-- what _ellipsis_match hands back -/
def ematch (want got : Str) : Bool := if (occurrences want dots 0 want.length 1).isEmpty then want == got else em1 got (Txt.split want dots)
end Mine
end

section
open PySem PySem.Builtin.Str PySem.StrLaws PyProof.Rows
namespace Mine

/-- a pattern's signs: three dots for a gap -/
def sgn : List (Option Nat) → List Nat
  | [] => []
  | some x :: e => x :: sgn e
  | none :: e => 46 :: 46 :: 46 :: sgn e
def strL (l : List Nat) : Str := ⟨l.toArray⟩
theorem strL_list (l : List Nat) : (strL l).cps.toList = l := rfl
theorem strL_len (l : List Nat) : (strL l).length = l.length := rfl
theorem str_len (X : Str) : X.cps.toList.length = X.length := by simp [Str.length]
theorem dots_list : dots.cps.toList = [46, 46, 46] := by decide +kernel
theorem dots_len : dots.length = 3 := by decide +kernel

theorem at_iff {X y : Str} {hi i : Nat} : StrLaws.At X y hi i ↔ i + y.length ≤ hi ∧ (X.cps.toList.drop i).take y.length = y.cps.toList := by
  unfold StrLaws.At
  rw [subAt_eq, beq_iff_eq]

theorem body_no {X y : Str} {hi lim i : Nat} {st : Array Nat × Nat} (h : st.2 ≤ i → ¬ StrLaws.At X y hi i) : occBody X y hi lim i st = pure (ForInStep.yield st) := by
  unfold occBody
  rw [if_neg]
  rintro ⟨⟨⟨_, h1⟩, h2⟩, h3⟩
  exact h h1 ⟨h2, h3⟩
theorem body_yes {X y : Str} {hi lim i : Nat} {st : Array Nat × Nat} (h0 : st.1.size < lim) (h1 : st.2 ≤ i) (h : StrLaws.At X y hi i) : occBody X y hi lim i st = pure (ForInStep.yield (st.1.push i, i + y.length)) := by
  unfold occBody
  rw [if_pos ⟨⟨⟨h0, h1⟩, h.1⟩, h.2⟩]

def cutsFrom : Nat → List (Option Nat) → List Nat
  | _, [] => []
  | a, some _ :: e => cutsFrom (a + 1) e
  | a, none :: e => a :: cutsFrom (a + 3) e

theorem occ_cuts (X : Str) (lim : Nat) : ∀ (e : List (Option Nat)) (pre : List Nat) (st : Array Nat × Nat), X.cps.toList = pre ++ sgn e → (∀ x, some x ∈ e → x ≠ 46) → st.2 ≤ pre.length → st.1.size + e.length ≤ lim →
    (forIn (List.range' pre.length ((sgn e).length + 1)) st (occBody X dots X.length lim)).run.fst.toList = st.1.toList ++ cutsFrom pre.length e
  | [], pre, st, hX, _, _, _ => by
    have hl := str_len X
    rw [hX] at hl
    simp only [sgn, List.append_nil] at hl
    simp only [sgn, List.length_nil, Nat.zero_add, List.range'_succ, List.range'_zero, List.forIn_cons, cutsFrom, List.append_nil]
    rw [body_no]
    · rfl
    · intro _ h
      have := h.1
      rw [dots_len] at this
      omega
  | some x :: e, pre, st, hX, hx, hs, hlim => by
    have ih := occ_cuts X lim e (pre ++ [x]) st (by rw [hX]; simp [sgn]) (fun y hy => hx y (.tail _ hy)) (by simp; omega) (by simp at hlim; omega)
    rw [List.length_append, List.length_singleton] at ih
    rw [show (sgn (some x :: e)).length + 1 = ((sgn e).length + 1) + 1 from rfl, List.range'_succ, List.forIn_cons, body_no]
    · exact ih
    · intro _ h
      have := (at_iff.mp h).2
      rw [hX, List.drop_left, dots_len, dots_list] at this
      simp only [sgn, List.take_succ_cons] at this
      exact hx x (.head _) (List.cons.inj this).1
  | none :: e, pre, st, hX, hx, hs, hlim => by
    have ih := occ_cuts X lim e (pre ++ [46, 46, 46]) (st.1.push pre.length, pre.length + 3) (by rw [hX]; simp [sgn]) (fun y hy => hx y (.tail _ hy)) (by simp) (by simp at hlim ⊢; omega)
    rw [List.length_append] at ih
    have hat : StrLaws.At X dots X.length pre.length := by
      refine at_iff.mpr ⟨?_, ?_⟩
      · have hl := str_len X
        rw [hX] at hl
        simp only [sgn, List.length_append, List.length_cons] at hl
        rw [dots_len]; omega
      · rw [hX, List.drop_left, dots_len, dots_list]
        rfl
    rw [show (sgn (none :: e)).length + 1 = ((sgn e).length + 1) + 1 + 1 + 1 from rfl, List.range'_succ, List.forIn_cons, body_yes (by simp at hlim; omega) hs hat, dots_len]
    rw [List.range'_succ, List.range'_succ]
    simp only [pure_bind]
    rw [List.forIn_cons, body_no]
    · simp only [pure_bind]
      rw [List.forIn_cons, body_no]
      · simp only [pure_bind]
        exact ih.trans (by simp [cutsFrom])
      · intro h; exact absurd h (by show ¬ (pre.length + 3 ≤ pre.length + 1 + 1); omega)
    · intro h; exact absurd h (by show ¬ (pre.length + 3 ≤ pre.length + 1); omega)

theorem sgn_len : ∀ e : List (Option Nat), e.length ≤ (sgn e).length
  | [] => Nat.le_refl _
  | some _ :: e => Nat.succ_le_succ (sgn_len e)
  | none :: e => by have := sgn_len e; simp only [sgn, List.length_cons]; omega
theorem occ_all {e : List (Option Nat)} (hx : ∀ x, some x ∈ e → x ≠ 46) : occurrences (strL (sgn e)) dots 0 (strL (sgn e)).length ((strL (sgn e)).length + 1) = cutsFrom 0 e := by
  rw [occ_eq]
  have := occ_cuts (strL (sgn e)) ((strL (sgn e)).length + 1) e [] (#[], 0) rfl hx (Nat.le_refl _) (by have := sgn_len e; rw [strL_len]; simp; omega)
  exact this

theorem cuts_nil {e : List (Option Nat)} : ∀ {a : Nat}, cutsFrom a e = [] ↔ none ∉ e := by
  induction e with
  | nil => intro a; simp [cutsFrom]
  | cons x e ih =>
    intro a
    cases x with
    | none => simp [cutsFrom]
    | some x => simp [cutsFrom, ih]
theorem occ_one {e : List (Option Nat)} (hx : ∀ x, some x ∈ e → x ≠ 46) : (occurrences (strL (sgn e)) dots 0 (strL (sgn e)).length 1).isEmpty = true ↔ none ∉ e := by
  constructor
  · intro h hn
    have h1 : ¬ ∃ i, i + dots.length ≤ (strL (sgn e)).length ∧ subAt (strL (sgn e)) dots i = true := by
      rw [← found_iff, h]; simp
    have hc : cutsFrom 0 e ≠ [] := fun q => cuts_nil.mp q hn
    obtain ⟨c, r, hcr⟩ := List.exists_cons_of_ne_nil hc
    have h2 := occ_spec (strL (sgn e)) dots 0 (strL (sgn e)).length ((strL (sgn e)).length + 1) c (by rw [occ_all hx, hcr]; exact .head _)
    exact h1 ⟨c, h2⟩
  · intro hn
    cases hq : (occurrences (strL (sgn e)) dots 0 (strL (sgn e)).length 1).isEmpty with
    | true => rfl
    | false =>
      obtain ⟨i, h1, h2⟩ := (found_iff (strL (sgn e)) dots).mp (by rw [hq]; rfl)
      have : sgn e = e.map fun a => a.getD 0 := by
        clear hq h1 h2 hx
        induction e with
        | nil => rfl
        | cons a e ih =>
          cases a with
          | none => exact absurd (.head _) hn
          | some x => simp [sgn, ih fun q => hn (.tail _ q)]
      have h3 := (at_iff.mp ⟨h1, h2⟩).2
      rw [strL_list, dots_list, dots_len] at h3
      have hm : 46 ∈ sgn e := by
        have : 46 ∈ List.take 3 (List.drop i (sgn e)) := by rw [h3]; exact .head _
        exact List.mem_of_mem_drop (List.mem_of_mem_take this)
      rw [this] at hm
      obtain ⟨a, ha, hb⟩ := List.mem_map.mp hm
      cases a with
      | none => exact absurd ha hn
      | some x => exact absurd hb (hx x ha)

/-- the pieces between the gaps -/
def pieces : List Nat → List (Option Nat) → List (List Nat)
  | acc, [] => [acc]
  | acc, some x :: e => pieces (acc ++ [x]) e
  | acc, none :: e => acc :: pieces [] e
theorem parts_pieces (X : Str) : ∀ (e : List (Option Nat)) (a : Nat) (pre acc : List Nat), X.cps.toList = pre ++ acc ++ sgn e → pre.length = a → partsFrom X 3 a (cutsFrom (a + acc.length) e) = (pieces acc e).map strL
  | [], a, pre, acc, hX, ha => by
    simp only [cutsFrom, partsFrom, pieces, List.map_cons, List.map_nil]
    congr 1
    apply Str.ext'
    apply Array.toList_inj.mp
    rw [strSub_toList, hX, ← str_len X, hX, ← ha]
    simp [sgn, strL]
  | some x :: e, a, pre, acc, hX, ha => by
    have ih := parts_pieces X e a pre (acc ++ [x]) (by rw [hX]; simp [sgn]) ha
    rw [List.length_append, List.length_singleton, ← Nat.add_assoc] at ih
    exact ih
  | none :: e, a, pre, acc, hX, ha => by
    have ih := parts_pieces X e (a + acc.length + 3) (pre ++ acc ++ [46, 46, 46]) [] (by rw [hX]; simp [sgn]) (by simp [ha]; omega)
    simp only [cutsFrom, partsFrom, pieces, List.map_cons]
    congr 1
    apply Str.ext'
    apply Array.toList_inj.mp
    rw [strSub_toList, hX, ← ha]
    simp [strL]

theorem split_pieces {e : List (Option Nat)} (hx : ∀ x, some x ∈ e → x ≠ 46) (hn : none ∈ e) : Txt.split (strL (sgn e)) dots = (pieces [] e).map strL := by
  unfold Txt.split
  have hl : 3 ≤ (strL (sgn e)).length := by
    rw [strL_len]
    clear hx
    induction e with
    | nil => cases hn
    | cons a e ih =>
      cases a with
      | none => simp [sgn]
      | some x =>
        have := ih (by simpa using hn)
        simp only [sgn, List.length_cons]; omega
  rw [if_neg, if_neg, occ_all hx, partsBetween_eq, dots_len]
  · exact parts_pieces _ e 0 [] [] rfl rfl
  · rw [occ_all hx]
    intro h
    exact cuts_nil.mp (List.isEmpty_iff.mp h) hn
  · have h1 : decide ((strL (sgn e)).length < dots.length) = false := by rw [dots_len]; simp; omega
    have h2 : decide (Builtin.Str.strKind (strL (sgn e)) < Builtin.Str.strKind dots) = false := by
      have : Builtin.Str.strKind dots = 1 := by decide +kernel
      rw [this]
      unfold Builtin.Str.strKind
      simp
      split
      · omega
      · split <;> omega
    rw [h1, h2]; simp

theorem split_two {want : Str} (h : (Builtin.Str.occurrences want dots 0 want.length 1).isEmpty = false) : 2 ≤ (Txt.split want dots).length := by
  obtain ⟨i, h1, h2⟩ := (found_iff want dots).mp (by rw [h]; rfl)
  have hne : occurrences want dots 0 want.length (want.length + 1) ≠ [] := by
    intro q
    rw [occ_eq] at q
    have key := occ_first want dots want.length (want.length + 1) (by omega) (List.range' 0 (want.length + 1 - 0)) 0 (fun _ _ => Nat.zero_le _)
    rcases key with ⟨_, hn⟩ | ⟨pre, a, post, _, h0, _⟩
    · exact hn i (by simp [List.mem_range']; omega) ⟨h1, h2⟩
    · have q2 := Array.toList_eq_nil_iff.mp q
      rw [q2] at h0
      cases h0
  unfold Txt.split
  rw [if_neg, if_neg, partsBetween_eq]
  · obtain ⟨c, r, hcr⟩ := List.exists_cons_of_ne_nil hne
    rw [hcr]
    obtain ⟨p, q, e⟩ := partsFrom_ne want dots.length (c + dots.length) r
    show 2 ≤ (strSub want 0 c :: partsFrom want dots.length (c + dots.length) r).length
    rw [e]; simp
  · intro q; exact hne (List.isEmpty_iff.mp q)
  · have e1 : decide (want.length < dots.length) = false := by simp; omega
    have e2 : decide (Builtin.Str.strKind want < Builtin.Str.strKind dots) = false := by
      have : Builtin.Str.strKind dots = 1 := by decide +kernel
      rw [this]
      unfold Builtin.Str.strKind
      simp
      split
      · omega
      · split <;> omega
    rw [e1, e2]; simp
end Mine
end

section
open PySem PySem.Builtin.Str PySem.StrLaws PyProof.Rows
namespace Mine

theorem at_app {X : Str} {y : List Nat} {hi i : Nat} : StrLaws.At X (strL y) hi i ↔ i + y.length ≤ hi ∧ ∃ v, X.cps.toList.drop i = y ++ v := by
  rw [at_iff, strL_len, strL_list]
  refine and_congr_right fun _ => ⟨fun h => ⟨(X.cps.toList.drop i).drop y.length, ?_⟩, ?_⟩
  · conv => lhs; rw [← List.take_append_drop y.length (X.cps.toList.drop i), h]
  · rintro ⟨v, h⟩
    rw [h, List.take_left]

theorem find_none {X y : Str} {lo hi : Nat} (h : findIn X y lo hi = none) : ∀ i, lo ≤ i → ¬ StrLaws.At X y (min hi X.length) i := by
  unfold findIn at h
  rw [occ_eq] at h
  intro i hlo hat
  have key := occ_first X y (min hi X.length) 1 (Nat.le_refl _) (List.range' lo (min hi X.length + 1 - lo)) lo (fun i hi => (List.mem_range'_1.mp hi).1)
  rcases key with ⟨_, hn⟩ | ⟨pre, a, post, _, h0, _⟩
  · refine hn i (List.mem_range'_1.mpr ⟨hlo, ?_⟩) hat
    have := hat.1
    omega
  · rw [List.head?_eq_getElem?, Array.getElem?_toList, h0] at h
    cases h
theorem find_some {X y : Str} {lo hi k : Nat} (h : findIn X y lo hi = some k) : lo ≤ k ∧ StrLaws.At X y (min hi X.length) k ∧ ∀ i, lo ≤ i → StrLaws.At X y (min hi X.length) i → k ≤ i := by
  unfold findIn at h
  rw [occ_eq] at h
  have key := occ_first X y (min hi X.length) 1 (Nat.le_refl _) (List.range' lo (min hi X.length + 1 - lo)) lo (fun i hi => (List.mem_range'_1.mp hi).1)
  rcases key with ⟨h0, _⟩ | ⟨pre, a, post, e, h0, hat, hn⟩
  · rw [h0] at h; cases h
  · rw [List.head?_eq_getElem?, Array.getElem?_toList, h0] at h
    cases h
    have ha : k ∈ List.range' lo (min hi X.length + 1 - lo) := by rw [e]; simp
    refine ⟨(List.mem_range'_1.mp ha).1, hat, fun i hlo hi' => ?_⟩
    have hm : i ∈ List.range' lo (min hi X.length + 1 - lo) := List.mem_range'_1.mpr ⟨hlo, by have := hi'.1; omega⟩
    have hs : List.Pairwise (· < ·) (List.range' lo (min hi X.length + 1 - lo)) := List.pairwise_lt_range'
    rw [e] at hm hs
    rcases List.mem_append.mp hm with hm | hm
    · exact absurd hi' (hn i hm)
    · rcases List.mem_cons.mp hm with rfl | hm
      · exact Nat.le_refl _
      · have := (List.pairwise_append.mp hs).2.1
        exact Nat.le_of_lt ((List.pairwise_cons.mp this).1 i hm)

/-- the pattern of a row of pieces, a gap ahead of each and one at the end -/
def fl : List (List Nat) → List (Option Nat)
  | [] => [none]
  | w :: ws => none :: (w.map some ++ fl ws)
theorem fl_head : ∀ ws : List (List Nat), ∃ b, fl ws = none :: b
  | [] => ⟨[], rfl⟩
  | _ :: _ => ⟨_, rfl⟩

theorem loop_iff {g : List Nat} {ep : Nat} (hep : ep ≤ g.length) : ∀ (ws : List (List Nat)) (sp : Nat), sp ≤ ep → (emLoop (strL g) ep (ws.map strL) sp = true ↔ Mch (fl ws) ((g.take ep).drop sp))
  | [], sp, _ => by
    simp only [List.map_nil, emLoop, fl, true_iff]
    exact Mch.gap_one _
  | w :: ws, sp, hsp => by
    have hlen : (g.take ep).length = ep := by rw [List.length_take]; omega
    have hmin : min ep (strL g).length = ep := by rw [strL_len]; omega
    have hat : ∀ i, StrLaws.At (strL g) (strL w) ep i ↔ i + w.length ≤ ep ∧ ∃ v, (g.take ep).drop i = w ++ v := by
      intro i
      rw [at_iff, strL_len, strL_list, strL_list]
      refine and_congr_right fun h => ?_
      rw [List.drop_take]
      constructor
      · intro q
        refine ⟨((g.drop i).take (ep - i)).drop w.length, ?_⟩
        have : w = ((g.drop i).take (ep - i)).take w.length := by
          rw [List.take_take, Nat.min_eq_left (by omega)]; exact q.symm
        conv => lhs; rw [← List.take_append_drop w.length ((g.drop i).take (ep - i)), ← this]
      · rintro ⟨v, q⟩
        have := congrArg (List.take w.length) q
        rw [List.take_take, List.take_left, Nat.min_eq_left (by omega)] at this
        exact this
    have hpat : Mch (fl (w :: ws)) ((g.take ep).drop sp) ↔ ∃ i, sp ≤ i ∧ i + w.length ≤ ep ∧ (∃ v, (g.take ep).drop i = w ++ v) ∧ Mch (fl ws) ((g.take ep).drop (i + w.length)) := by
      rw [fl, Mch.gap_drop (by omega)]
      constructor
      · rintro ⟨i, h1, h2, h⟩
        obtain ⟨v, h3, h4⟩ := Mch.lits_app.mp h
        have hl := congrArg List.length h3
        rw [List.length_drop, List.length_append] at hl
        refine ⟨i, h1, by omega, ⟨v, h3⟩, ?_⟩
        rw [← List.drop_drop, h3, List.drop_left]; exact h4
      · rintro ⟨i, h1, h2, ⟨v, h3⟩, h4⟩
        refine ⟨i, h1, by omega, Mch.lits_app.mpr ⟨v, h3, ?_⟩⟩
        rwa [← List.drop_drop, h3, List.drop_left] at h4
    rw [hpat, List.map_cons, emLoop]
    cases hf : findIn (strL g) (strL w) sp ep with
    | none =>
      have := find_none hf
      rw [hmin] at this
      simp only [Bool.false_eq_true, false_iff]
      rintro ⟨i, h1, h2, h3, _⟩
      exact this i h1 ((hat i).mpr ⟨h2, h3⟩)
    | some k =>
      obtain ⟨h1, h2, h3⟩ := find_some hf
      rw [hmin] at h2 h3
      obtain ⟨h4, h5⟩ := (hat k).mp h2
      simp only [strL_len]
      rw [loop_iff hep ws (k + w.length) h4]
      constructor
      · intro h; exact ⟨k, h1, h4, h5, h⟩
      · rintro ⟨i, a1, a2, a3, a4⟩
        have hki := h3 i a1 ((hat i).mpr ⟨a2, a3⟩)
        obtain ⟨b, hb⟩ := fl_head ws
        rw [hb] at a4 ⊢
        have e : (g.take ep).drop (i + w.length) = ((g.take ep).drop (k + w.length)).drop (i - k) := by rw [List.drop_drop]; congr 1; omega
        rw [e] at a4
        have := a4.eats (((g.take ep).drop (k + w.length)).take (i - k))
        rwa [List.take_append_drop] at this

theorem fl_snoc : ∀ (l : List (List Nat)) (w : List Nat), fl (l ++ [w]) = fl l ++ w.map some ++ [none]
  | [], w => by simp [fl]
  | x :: l, w => by simp [fl, fl_snoc l w]
theorem fl_last : ∀ l : List (List Nat), ∃ b, fl l = b ++ [none]
  | [] => ⟨[], rfl⟩
  | w :: l => by
    obtain ⟨b, hb⟩ := fl_last l
    exact ⟨none :: (w.map some ++ b), by simp [fl, hb]⟩

theorem em3_iff {g : List Nat} {ep sp : Nat} (hep : ep ≤ g.length) (ws : List (List Nat)) : em3 (strL g) (ws.map strL) sp ep = true ↔ sp ≤ ep ∧ Mch (fl ws) ((g.take ep).drop sp) := by
  unfold em3
  by_cases h : ep < sp
  · rw [if_pos h]; simp; omega
  · rw [if_neg h, loop_iff hep ws sp (by omega)]
    exact ⟨fun q => ⟨by omega, q⟩, fun q => q.2⟩

theorem ends_iff {g w : List Nat} : Txt.endswith (strL g) (strL w) = true ↔ w.length ≤ g.length ∧ g.drop (g.length - w.length) = w := by
  unfold Txt.endswith
  rw [Bool.and_eq_true, subAt_eq, beq_iff_eq]
  simp only [strL_len, strL_list, Nat.zero_add, decide_eq_true_eq]
  refine and_congr_right fun h => ?_
  rw [List.take_of_length_le (by simp; omega)]
theorem starts_iff {g w : List Nat} : Txt.startswith (strL g) (strL w) = true ↔ ∃ v, g = w ++ v := by
  unfold Txt.startswith
  rw [Bool.and_eq_true, subAt_eq, beq_iff_eq]
  simp only [strL_len, strL_list, Nat.zero_add, decide_eq_true_eq, List.drop_zero]
  constructor
  · rintro ⟨_, h⟩
    exact ⟨g.drop w.length, by conv => lhs; rw [← List.take_append_drop w.length g, h]⟩
  · rintro ⟨v, rfl⟩
    exact ⟨by simp, List.take_left⟩

theorem em2_iff {g : List Nat} {sp : Nat} (hsp : sp ≤ g.length) (l : List (List Nat)) (w : List Nat) : em2 (strL g) ((l ++ [w]).map strL) sp = true ↔ Mch (fl l ++ w.map some) (g.drop sp) := by
  unfold em2
  rw [List.getLast?_map, List.getLast?_concat]
  simp only [Option.map_some]
  by_cases hw : (strL w).length = 0
  · rw [if_pos hw]
    obtain rfl := List.length_eq_zero_iff.mp (show w.length = 0 from hw)
    rw [show (strL g).length = g.length from rfl, em3_iff (Nat.le_refl _), fl_snoc, List.take_length]
    obtain ⟨b, hb⟩ := fl_last l
    rw [hb]
    simp only [List.map_nil, List.append_nil]
    rw [Mch.dup_end]
    exact ⟨fun q => q.2, fun q => ⟨hsp, q⟩⟩
  · rw [if_neg hw, Mch.app_lits]
    by_cases he : Txt.endswith (strL g) (strL w) = true
    · rw [if_pos he]
      obtain ⟨h1, h2⟩ := ends_iff.mp he
      rw [show (strL g).length - (strL w).length = g.length - w.length from rfl, List.map_append, List.map_singleton, List.dropLast_concat, em3_iff (Nat.sub_le _ _)]
      have hg : g = g.take (g.length - w.length) ++ w := by
        conv => lhs; rw [← List.take_append_drop (g.length - w.length) g, h2]
      constructor
      · rintro ⟨q1, q2⟩
        refine ⟨_, ?_, q2⟩
        conv => lhs; rw [hg, List.drop_append_of_le_length (by rw [List.length_take]; omega)]
      · rintro ⟨u, q1, q2⟩
        have hl := congrArg List.length q1
        rw [List.length_drop, List.length_append] at hl
        have hs : sp ≤ g.length - w.length := by omega
        refine ⟨hs, ?_⟩
        conv at q1 => lhs; rw [hg, List.drop_append_of_le_length (by rw [List.length_take]; omega)]
        rw [List.append_cancel_right q1]; exact q2
    · rw [if_neg he]
      simp only [Bool.false_eq_true, false_iff]
      rintro ⟨u, q1, _⟩
      refine he (ends_iff.mpr ?_)
      have hl := congrArg List.length q1
      rw [List.length_drop, List.length_append] at hl
      refine ⟨by omega, ?_⟩
      have := congrArg (List.drop u.length) q1
      rw [List.drop_left, List.drop_drop] at this
      rw [show g.length - w.length = sp + u.length by omega]
      exact this

theorem em1_iff {g : List Nat} (s0 : List Nat) (l : List (List Nat)) (w : List Nat) : em1 (strL g) ((s0 :: (l ++ [w])).map strL) = true ↔ Mch (s0.map some ++ (fl l ++ w.map some)) g := by
  rw [List.map_cons, em1]
  by_cases hs : (strL s0).length = 0
  · rw [if_pos hs]
    obtain rfl := List.length_eq_zero_iff.mp (show s0.length = 0 from hs)
    rw [← List.map_cons, ← List.cons_append, em2_iff (Nat.zero_le _), List.drop_zero, fl]
    obtain ⟨b, hb⟩ := fl_head l
    rw [hb]
    simp only [List.map_nil, List.nil_append, List.cons_append]
    exact Mch.dup
  · rw [if_neg hs, Mch.lits_app]
    by_cases he : Txt.startswith (strL g) (strL s0) = true
    · rw [if_pos he]
      obtain ⟨v, rfl⟩ := starts_iff.mp he
      rw [show (strL s0).length = s0.length from rfl, em2_iff (by simp), List.drop_left]
      constructor
      · intro h; exact ⟨v, rfl, h⟩
      · rintro ⟨v', q, h⟩
        rw [List.append_cancel_left q]; exact h
    · rw [if_neg he]
      simp only [Bool.false_eq_true, false_iff]
      rintro ⟨v, rfl, _⟩
      exact he (starts_iff.mpr ⟨v, rfl⟩)

theorem pieces_pat : ∀ (e : List (Option Nat)) (acc : List Nat), none ∈ e → ∃ s0 l w, pieces acc e = s0 :: (l ++ [w]) ∧ acc.map some ++ e = s0.map some ++ (fl l ++ w.map some)
  | some x :: e, acc, h => by
    obtain ⟨s0, l, w, h1, h2⟩ := pieces_pat e (acc ++ [x]) (by simpa using h)
    exact ⟨s0, l, w, h1, by rw [← h2]; simp⟩
  | none :: e, acc, _ => by
    by_cases h : none ∈ e
    · obtain ⟨s0, l, w, h1, h2⟩ := pieces_pat e [] h
      refine ⟨acc, s0 :: l, w, by rw [pieces, h1]; rfl, ?_⟩
      rw [List.map_nil, List.nil_append] at h2
      rw [h2]; simp [fl]
    · have : ∀ (e : List (Option Nat)) (acc : List Nat), none ∉ e → ∃ w, pieces acc e = [w] ∧ acc.map some ++ e = w.map some := by
        intro e
        induction e with
        | nil => intro acc _; exact ⟨acc, rfl, by simp⟩
        | cons a e ih =>
          intro acc hn
          cases a with
          | none => exact absurd (.head _) hn
          | some x =>
            obtain ⟨w, h1, h2⟩ := ih (acc ++ [x]) fun q => hn (.tail _ q)
            exact ⟨w, h1, by rw [← h2]; simp⟩
      obtain ⟨w, h1, h2⟩ := this e [] h
      refine ⟨acc, [], w, by rw [pieces, h1]; rfl, ?_⟩
      rw [List.map_nil, List.nil_append] at h2
      rw [h2]; simp [fl]

/-- what _ellipsis_match tells, of a pattern's signs -/
theorem ematch_iff {e : List (Option Nat)} {g : List Nat} (hx : ∀ x, some x ∈ e → x ≠ 46) : ematch (strL (sgn e)) (strL g) = true ↔ Mch e g := by
  unfold ematch
  by_cases hn : none ∈ e
  · have h : ¬ (occurrences (strL (sgn e)) dots 0 (strL (sgn e)).length 1).isEmpty = true := fun q => (occ_one hx).mp q hn
    rw [if_neg h, split_pieces hx hn]
    obtain ⟨s0, l, w, h1, h2⟩ := pieces_pat e [] hn
    rw [h1, em1_iff, ← h2]
    simp
  · rw [if_pos ((occ_one hx).mpr hn)]
    have he : e = (sgn e).map some := by
      clear hx
      induction e with
      | nil => rfl
      | cons a e ih =>
        cases a with
        | none => exact absurd (.head _) hn
        | some x => simp only [sgn, List.map_cons]; rw [← ih fun q => hn (.tail _ q)]
    conv => rhs; rw [he]
    rw [Mch.lits, beq_iff_eq]
    constructor
    · intro h
      have := congrArg (fun x : Str => x.cps.toList) h
      exact this.symm
    · intro h; rw [h]
end Mine
end

section
open PySem PyProof.Rows
namespace Mine

/-- a text that a set of places can still end on -/
def acc (e : List (Option Nat)) (p : Nat) (ws : List Nat) : Prop := ∃ j, p.testBit j = true ∧ Mch (e.drop j) ws
def closedP (G p : Nat) : Prop := ∀ k, p.testBit k = true → G.testBit k = true → p.testBit (k + 1) = true
def IsG (e : List (Option Nat)) (G : Nat) : Prop := ∀ k, G.testBit k = true ↔ e[k]? = some none
def IsS (e : List (Option Nat)) (y sp : Nat) : Prop := ∀ k, sp.testBit k = true ↔ e[k]? = some (some y)

theorem drop_get {α : Type} {e : List α} {j : Nat} {a : α} (h : e[j]? = some a) : e.drop j = a :: e.drop (j + 1) := by
  obtain ⟨h1, rfl⟩ := List.getElem?_eq_some_iff.mp h
  exact List.drop_eq_getElem_cons h1
theorem get_drop {α : Type} {e r : List α} {j : Nat} {a : α} (h : e.drop j = a :: r) : e[j]? = some a ∧ r = e.drop (j + 1) := by
  have h1 : e[j]? = some a := by
    have := congrArg (fun l : List α => l[0]?) h
    simpa using this
  refine ⟨h1, ?_⟩
  rw [drop_get h1] at h
  exact (List.cons.inj h).2.symm

theorem spread_closed (G m : Nat) : closedP G (spread G m) := fun k h g =>
  (spread_bit G m (k + 1)).mpr (((spread_bit G m k).mp h).step g)
theorem acc_spread {e : List (Option Nat)} {G m : Nat} (hG : IsG e G) (ws : List Nat) : acc e (spread G m) ws ↔ acc e m ws := by
  constructor
  · rintro ⟨j, hj, hm⟩
    obtain ⟨i, hi, hb, ha⟩ := (spread_bit G m j).mp hj
    refine ⟨i, hb, ?_⟩
    have : ∀ n, i + n ≤ j → Mch (e.drop (j - n)) ws := by
      intro n
      induction n with
      | zero => intro _; exact hm
      | succ n ih =>
        intro hn
        have h1 := ih (by omega)
        have h2 := drop_get ((hG (j - (n + 1))).mp (ha _ (by omega) (by omega)))
        rw [h2, show j - (n + 1) + 1 = j - n by omega]
        exact .skip h1
    have := this (j - i) (by omega)
    rwa [show j - (j - i) = i by omega] at this
  · rintro ⟨j, hj, hm⟩
    exact ⟨j, (spread_bit G m j).mpr (.self hj), hm⟩
theorem st_closed (G sp p : Nat) : closedP G (stp G sp p) := spread_closed _ _
theorem acc_st {e : List (Option Nat)} {G sp y p : Nat} (hG : IsG e G) (hS : IsS e y sp) (hc : closedP G p) (ws : List Nat) : acc e (stp G sp p) ws ↔ acc e p (y :: ws) := by
  unfold stp
  rw [acc_spread hG]
  have bits : ∀ j, ((p &&& G) ||| ((p &&& sp) * 2)).testBit j = true ↔ (p.testBit j = true ∧ G.testBit j = true) ∨ ∃ k, j = k + 1 ∧ p.testBit k = true ∧ sp.testBit k = true := by
    intro j
    rw [Nat.testBit_or, Bool.or_eq_true, Nat.testBit_and, Bool.and_eq_true]
    refine or_congr_right ?_
    cases j with
    | zero =>
      rw [testBit_mul_two_zero]
      constructor
      · intro h; cases h
      · rintro ⟨k, h, _⟩; omega
    | succ j =>
      rw [testBit_mul_two, Nat.testBit_and, Bool.and_eq_true]
      constructor
      · intro h; exact ⟨j, rfl, h⟩
      · rintro ⟨k, h, q⟩; cases h; exact q
  constructor
  · rintro ⟨j, hj, hm⟩
    rcases (bits j).mp hj with ⟨h1, h2⟩ | ⟨k, rfl, h1, h2⟩
    · refine ⟨j, h1, ?_⟩
      have := drop_get ((hG j).mp h2)
      rw [this] at hm ⊢
      exact .eat hm
    · refine ⟨k, h1, ?_⟩
      rw [drop_get ((hS k).mp h2)]
      exact .lit hm
  · rintro ⟨j, hj, hm⟩
    generalize hce : e.drop j = c at hm
    generalize hv : y :: ws = v at hm
    induction hm generalizing j with
    | nil => cases hv
    | lit h ih =>
      cases hv
      obtain ⟨h1, h2⟩ := get_drop hce
      exact ⟨j + 1, (bits _).mpr (.inr ⟨j, rfl, hj, (hS j).mpr h1⟩), h2 ▸ h⟩
    | skip h ih =>
      obtain ⟨h1, h2⟩ := get_drop hce
      exact ih (j + 1) (hc j hj ((hG j).mpr h1)) h2.symm hv
    | eat h ih =>
      cases hv
      obtain ⟨h1, h2⟩ := get_drop hce
      exact ⟨j, (bits _).mpr (.inl ⟨hj, (hG j).mpr h1⟩), hce ▸ h⟩

/-- a row of symbols as a pattern -/
def patOf (d : List Int) : List (Option Nat) := d.map fun x => if x < 256 then some x.toNat else none
def wordOf (f : List Int) : List Nat := f.map Int.toNat
structure Alpha (lt d : List Int) : Prop where
  lpos : ∀ x ∈ lt, 0 < x ∧ x < 256
  mem : ∀ x ∈ d, x ∈ lt ∨ 256 ≤ x

theorem patOf_lit {lt d : List Int} (A : Alpha lt d) {x : Nat} (h : some x ∈ patOf d) : (x : Int) ∈ lt := by
  obtain ⟨a, ha, e⟩ := List.mem_map.mp h
  by_cases h2 : a < 256
  · rw [if_pos h2] at e
    have := Option.some.inj e
    rcases A.mem a ha with hm | hm
    · have := A.lpos a hm
      rwa [show (x : Int) = a by omega]
    · omega
  · rw [if_neg h2] at e; cases e
theorem patOf_get {d : List Int} (k : Nat) (a : Option Nat) : (patOf d)[k]? = some a ↔ ∃ h : k < d.length, (if d.getD k 0 < 256 then some (d.getD k 0).toNat else none) = a := by
  unfold patOf
  rw [List.getElem?_map]
  by_cases h : k < d.length
  · rw [List.getElem?_eq_getElem h, List.getD_eq_getElem?_getD, List.getElem?_eq_getElem h]
    simp [h]
  · rw [List.getElem?_eq_none (by omega)]
    simp [h]
theorem any_iff {lt : List Int} {x : Int} : (lt.any fun y => y == x) = true ↔ x ∈ lt := by simp
theorem getD_mem {d : List Int} {k : Nat} (h : k < d.length) : d.getD k 0 ∈ d := by
  rw [List.getD_eq_getElem?_getD, List.getElem?_eq_getElem h]
  exact List.getElem_mem h
theorem isG {lt d : List Int} (A : Alpha lt d) : IsG (patOf d) (gapsN d lt) := by
  intro k
  unfold gapsN
  rw [maskN_bit, patOf_get, Bool.and_eq_true, decide_eq_true_eq]
  constructor
  · rintro ⟨h1, h2⟩
    refine ⟨h1, ?_⟩
    rw [if_neg]
    intro h3
    rcases A.mem _ (getD_mem h1) with hm | hm
    · rw [any_iff.mpr hm] at h2; cases h2
    · omega
  · rintro ⟨h1, h2⟩
    refine ⟨h1, ?_⟩
    split at h2
    · cases h2
    · rename_i h3
      cases hq : (lt.any fun x => x == d.getD k 0) with
      | false => rfl
      | true => exact absurd (A.lpos _ (any_iff.mp hq)).2 h3
theorem isS {lt d : List Int} (A : Alpha lt d) {y : Int} (hy : y ∈ lt ++ [0]) : IsS (patOf d) y.toNat (spotN d y) := by
  have hy2 : 0 ≤ y ∧ y < 256 := by
    rcases List.mem_append.mp hy with h | h
    · have := A.lpos y h; omega
    · have := List.mem_singleton.mp h; omega
  intro k
  unfold spotN
  rw [maskN_bit, patOf_get, Bool.and_eq_true, decide_eq_true_eq, beq_iff_eq]
  constructor
  · rintro ⟨h1, h2⟩
    refine ⟨h1, ?_⟩
    rw [h2, if_pos hy2.2]
  · rintro ⟨h1, h2⟩
    refine ⟨h1, ?_⟩
    split at h2
    · have h3 := Option.some.inj h2
      rcases A.mem _ (getD_mem h1) with hm | hm
      · have := A.lpos _ hm; omega
      · omega
    · cases h2

section
variable {lt d : List Int}
abbrev nx (d lt : List Int) := nxt d lt

theorem all_acc (A : Alpha lt d) : ∀ (f : List Int) (P : Nat → Prop), (∀ x ∈ f, x ∈ lt ∨ 256 ≤ x) → (∀ p, P p → closedP (gapsN d lt) p ∧ acc (patOf d) p (wordOf f)) →
    ∀ p, f.foldl (nxt d lt) P p → closedP (gapsN d lt) p ∧ acc (patOf d) p []
  | [], P, _, h, p, hp => h p hp
  | x :: f, P, hf, h, p, hp => by
    refine all_acc A f (nxt d lt P x) (fun y hy => hf y (.tail _ hy)) ?_ p hp
    intro q hq
    unfold nxt at hq
    by_cases hx : (lt.any fun y => y == x) = true
    · rw [if_pos hx] at hq
      obtain ⟨p0, h0, rfl⟩ := hq
      obtain ⟨h1, h2⟩ := h p0 h0
      exact ⟨st_closed _ _ _, (acc_st (isG A) (isS A (List.mem_append_left _ (any_iff.mp hx))) h1 _).mpr h2⟩
    · rw [if_neg hx] at hq
      obtain ⟨p0, h0, hs⟩ := hq
      obtain ⟨h1, h2⟩ := h p0 h0
      have hx2 : 256 ≤ x := (hf x (.head _)).resolve_left fun hm => hx (any_iff.mpr hm)
      have hfree : ∀ j, some x.toNat ∉ (patOf d).drop j := fun j hm => by
        have := A.lpos _ (patOf_lit A (List.mem_of_mem_drop hm))
        omega
      have key : closedP (gapsN d lt) q ∧ acc (patOf d) q (x.toNat :: wordOf f) := by
        induction hs with
        | refl => exact ⟨h1, h2⟩
        | @step q sp _ hsp ih =>
          obtain ⟨c, j, hj, hm⟩ := ih
          obtain ⟨y, hy, rfl⟩ := List.mem_map.mp hsp
          refine ⟨st_closed _ _ _, (acc_st (isG A) (isS A hy) c _).mpr ⟨j, hj, ?_⟩⟩
          exact hm.ins _ (hfree j)
      obtain ⟨c, j, hj, hm⟩ := key
      exact ⟨c, j, hj, hm.del (hfree j)⟩

theorem some_acc (A : Alpha lt d) : ∀ (f : List Int) (P : Nat → Prop) (p : Nat), (∀ x ∈ f, x ∈ lt ∨ 256 ≤ x) → P p → closedP (gapsN d lt) p → ¬ acc (patOf d) p (wordOf f) →
    ∃ q, f.foldl (nxt d lt) P q ∧ ¬ acc (patOf d) q []
  | [], P, p, _, h, _, hn => ⟨p, h, hn⟩
  | x :: f, P, p, hf, h, hc, hn => by
    by_cases hx : (lt.any fun y => y == x) = true
    · refine some_acc A f (nxt d lt P x) (stp (gapsN d lt) (spotN d x) p) (fun y hy => hf y (.tail _ hy)) ?_ (st_closed _ _ _) ?_
      · unfold nxt
        rw [if_pos hx]
        exact ⟨p, h, rfl⟩
      · intro q
        exact hn ((acc_st (isG A) (isS A (List.mem_append_left _ (any_iff.mp hx))) hc _).mp q)
    · refine some_acc A f (nxt d lt P x) (stp (gapsN d lt) (spotN d 0) p) (fun y hy => hf y (.tail _ hy)) ?_ (st_closed _ _ _) ?_
      · unfold nxt
        rw [if_neg hx]
        exact ⟨p, h, .step (.refl p) (List.mem_map_of_mem (List.mem_append_right _ (.head _)))⟩
      · intro q
        obtain ⟨j, hj, hm⟩ := (acc_st (isG A) (isS A (List.mem_append_right _ (.head _))) hc _).mp q
        refine hn ⟨j, hj, hm.sub _ fun hz => ?_⟩
        have := A.lpos _ (patOf_lit A (List.mem_of_mem_drop hz))
        simp at this

theorem low_all (A : Alpha lt d) : ∀ (f : List Int) (P : Nat → Prop), (∀ p, P p → p < 2 ^ (d.length + 1)) → ∀ p, f.foldl (nxt d lt) P p → p < 2 ^ (d.length + 1)
  | [], P, h, p, hp => h p hp
  | x :: f, P, h, p, hp => by
    refine low_all A f (nxt d lt P x) ?_ p hp
    intro q hq
    unfold nxt at hq
    split at hq
    · obtain ⟨p0, h0, rfl⟩ := hq
      exact st_lt (gapsN_lt _ _) (spotN_lt _ _)
    · obtain ⟨p0, h0, hs⟩ := hq
      cases hs with
      | refl => exact h q h0
      | step _ hsp =>
        obtain ⟨y, hy, rfl⟩ := List.mem_map.mp hsp
        exact st_lt (gapsN_lt _ _) (spotN_lt _ _)

theorem top_iff (A : Alpha lt d) {p : Nat} (hp : p < 2 ^ (d.length + 1)) (hc : closedP (gapsN d lt) p) : 2 ^ d.length ≤ p ↔ acc (patOf d) p [] := by
  have hl : (patOf d).length = d.length := by simp [patOf]
  constructor
  · intro h
    refine ⟨d.length, ?_, ?_⟩
    · obtain ⟨i, h1, h2⟩ := Nat.exists_ge_and_testBit_of_ge_two_pow h
      have := bit_lt hp h2
      rwa [show d.length = i by omega]
    · rw [List.drop_eq_nil_of_le (by omega)]; exact .nil
  · rintro ⟨j, hj, hm⟩
    have hj2 := bit_lt hp hj
    have hg := Mch.empty_iff.mp hm
    have : ∀ n, j + n ≤ d.length → p.testBit (j + n) = true := by
      intro n
      induction n with
      | zero => intro _; exact hj
      | succ n ih =>
        intro hn
        refine hc _ (ih (by omega)) ((isG A _).mpr ?_)
        have h1 : j + n < (patOf d).length := by omega
        refine (List.getElem?_eq_getElem h1).trans (congrArg some ?_)
        refine hg _ ?_
        have : (patOf d)[j + n] = ((patOf d).drop j)[n]'(by simp; omega) := by simp
        rw [this]
        exact List.getElem_mem _
    have := this (d.length - j) (by omega)
    rw [show j + (d.length - j) = d.length by omega] at this
    exact Nat.ge_two_pow_of_testBit this

/-- the walk through all texts at once tells the plain match -/
theorem win_iff (A : Alpha lt d) {f : List Int} (hf : ∀ x ∈ f, x ∈ lt ∨ 256 ≤ x) : (∀ p, Rch d lt f p → 2 ^ d.length ≤ p) ↔ Mch (patOf d) (wordOf f) := by
  have h0 : ∀ w, acc (patOf d) (spread (gapsN d lt) 1) w ↔ Mch (patOf d) w := by
    intro w
    rw [acc_spread (isG A)]
    constructor
    · rintro ⟨j, hj, hm⟩
      have : j = 0 := by
        cases j with
        | zero => rfl
        | succ j => simp [Nat.testBit_succ] at hj
      subst this
      exact hm
    · intro h; exact ⟨0, rfl, h⟩
  have hlow : ∀ p, Rch d lt f p → p < 2 ^ (d.length + 1) := low_all A f _ fun p hp => by
    rw [hp]
    refine spread_lt (gapsN_lt _ _) ?_
    exact Nat.one_lt_two_pow (by omega)
  constructor
  · intro h
    refine Classical.byContradiction fun hn => ?_
    obtain ⟨q, hq, hq2⟩ := some_acc A f (fun p => p = spread (gapsN d lt) 1) _ hf rfl (spread_closed _ _) (fun q => hn ((h0 _).mp q))
    have h1 := h q hq
    obtain ⟨i, h2, h3⟩ := Nat.exists_ge_and_testBit_of_ge_two_pow h1
    have h4 := bit_lt (hlow q hq) h3
    have : d.length = i := by omega
    refine hq2 ⟨d.length, this ▸ h3, ?_⟩
    rw [List.drop_eq_nil_of_le (by simp [patOf])]; exact .nil
  · intro h p hp
    have := all_acc A f (fun p => p = spread (gapsN d lt) 1) hf (fun p e => by rw [e]; exact ⟨spread_closed _ _, (h0 _).mpr h⟩) p hp
    exact (top_iff A (hlow p hp) this.1).mpr this.2
end
end Mine
end

section
open PySem PySem.W PySem.Calls PySem.Spec PyProof.Rows
set_option maxRecDepth 100000
namespace Mine

def isIt (o : Obj) : Bool := match o.data with
  | PySem.Data.fields (vs : Array PySem.Value) => match vs[1]? with
    | some (PySem.Value.int _ _) => true
    | _ => false
  | _ => false
theorem isIt_cell {o : Obj} {v : Option Value} (h : o.data = .cell v) : isIt o = false := by rw [isIt, h]
theorem isIt_seq {o : Obj} {its : Array Value} {n : Nat} (h : o.data = .seq its n) : isIt o = false := by rw [isIt, h]
/-- no iterator stands in the ledger -/
def NoIt (news : List (Addr × Obj)) : Prop := ∀ p ∈ news, isIt p.2 = false
theorem NoIt.nil : NoIt [] := fun _ h => nomatch h
theorem NoIt.cons {p : Addr × Obj} {news : List (Addr × Obj)} (h : isIt p.2 = false) (r : NoIt news) : NoIt (p :: news) := fun q hq => by
  rcases List.mem_cons.mp hq with rfl | hq
  · exact h
  · exact r q hq

section
variable {prog : Program} {w : World} {A : Around} {s : Shared} {env : Env} {h₀ : Heap}

/-- what a turn hands on -/
def Turned (h₀ : Heap) (L : Addr) (own : List (Addr × Obj)) (J : (Str → Option Value) → List (Addr × Obj) → Prop) (s s₂ : Shared) : Prop :=
  ∃ h' tk m₂ news₂, s₂ = { s with heap := h', toks := tk } ∧ Fr h₀ L h' m₂ ∧ News h₀ L h' (own ++ news₂) ∧ NoIt news₂ ∧ J m₂ news₂

theorem for_walks {Q : Flow → Shared → Prop} {E : Value → Shared → Prop} {x : Str} {px : Pos} {body : List Stmt} {I : Addr} {fp : List Addr} {n : Nat} {P : Nat → Value → Prop} {St : Nat → Heap → Prop} {m : Str → Option Value}
    {news : List (Addr × Obj)} (W : Walks prog w A I fp [I] n P St) (hx : env.kindOf x = some .local)
    (hp : (env.scope.kind == .class || (env.scope.kind == .module && env.locals != env.globals)) = false)
    (hLf : env.locals ∉ fp) (hI : h₀.get? I = none) (hIt : ∀ i h, St i h → ∃ o, h.get? I = some o ∧ isIt o = true)
    (hst : St 0 s.heap) (F : Fr h₀ env.locals s.heap m) (N : News h₀ env.locals s.heap news) (hno : NoIt news)
    (J : Nat → (Str → Option Value) → List (Addr × Obj) → Prop) (h0 : J 0 m news)
    (step : ∀ i v m₁ news₁ h tk own, i < n → P i v → J i m₁ news₁ → NoIt news₁ → (∀ p ∈ own, p.1 ∈ fp) → (∀ p ∈ news₁, p.1 ≠ I) →
      Fr h₀ env.locals h (fun y => if y = x then some v else m₁ y) → News h₀ env.locals h (own ++ news₁) →
      wpAny (model prog w) A (execs body env) (fun f s₂ => match f with
        | .ret v => Q (.ret v) s₂
        | .brk => Q .next s₂
        | _ => Turned h₀ env.locals own (J (i + 1)) s s₂) (fun _ _ => False) { s with heap := h, toks := tk })
    (done : ∀ h' tk m' news', J n m' news' → NoIt news' → Fr h₀ env.locals h' m' → News h₀ env.locals h' news' → Q .next { s with heap := h', toks := tk }) :
    codeAny (model prog w) A (.forLoop (.Name x px) (.ref I) body [] env) (fun r s' => match r with | .ok f => Q f s' | .error e => cameBackBy (model prog w) A env E e s') s := by
  have hLI : env.locals ≠ I := fun h => hLf (W.sub _ (by simp [h]))
  have old : ∀ b o, h₀.get? b = some o → b ∉ [I] := fun b o e hb => by rw [List.mem_singleton.mp hb, hI] at e; cases e
  have apart : ∀ i h news', St i h → News h₀ env.locals h news' → NoIt news' → ∀ p ∈ news', p.1 ≠ I := fun i h news' hs hN hno' p hp e => by
    obtain ⟨o, ho, hi⟩ := hIt i h hs
    have := (hN p hp).1
    rw [e, ho] at this
    have hq := hno' p hp
    rw [← Option.some.inj this, hi] at hq
    cases hq
  refine codeAny_forLoop
    (fun k s' => ∃ h' tk m' news' i, s' = { s with heap := h', toks := tk } ∧ St i h' ∧ Fr h₀ env.locals h' m' ∧ News h₀ env.locals h' news' ∧ NoIt news' ∧ J i m' news' ∧ i ≤ n ∧ k = n + 1 - i) ?_ (n + 1)
    ⟨s.heap, s.toks, m, news, 0, rfl, hst, F, N, hno, h0, Nat.zero_le _, rfl⟩
  rintro k s' ⟨h', tk, m', news', i, rfl, hst', F', N', hno', hJ, hi, rfl⟩
  have hap := apart i h' news' hst' N' hno'
  have next : ∀ h₁ : Heap, (∀ b o, b ∉ [I] → h'.get? b = some o → h₁.get? b = some o) → Fr h₀ env.locals h₁ m' ∧ News h₀ env.locals h₁ news' := fun h₁ hk₁ =>
    ⟨⟨F'.ns.at' fun o e => hk₁ _ o (by simp [hLI]) e, fun b o e => hk₁ b o (old b o e) (F'.keep b o e), F'.above⟩, fun p hp => ⟨hk₁ _ _ (by simp [hap p hp]) (N' p hp).1, (N' p hp).2⟩⟩
  by_cases hlt : i < n
  · refine W.item i _ _ _ hlt hst' fun v h₁ tk₁ hP hst₁ hk₁ => ?_
    obtain ⟨F₁, N₁⟩ := next h₁ hk₁
    refine wpAny_assign_Name (wpAny_storeName_local hx F₁.ns (fun h₂ hn₂ hs₂ => ?_) hp)
    have F₂ := F₁.set hn₂ hs₂
    refine wpAny_mono (step i v m' news' h₂ (tk₁ + 1) (ownOf h₀ fp h₂) hlt hP hJ hno' ownOf_sub hap F₂ ((news_ownOf hLf).append (N₁.set hs₂))) (fun f s₃ h₃ => ?_) fun _ _ e => e.elim
    have fin : Turned h₀ env.locals (ownOf h₀ fp h₂) (J (i + 1)) s s₃ → ∃ m, m < n + 1 - i ∧ ∃ h' tk m' news' i, s₃ = { s with heap := h', toks := tk } ∧ St i h' ∧ Fr h₀ env.locals h' m' ∧ News h₀ env.locals h' news' ∧ NoIt news' ∧ J i m' news' ∧ i ≤ n ∧ m = n + 1 - i := by
      rintro ⟨h₃', tk₃, m₂, news₂, rfl, F₃, N₃, hno₃, hJ₃⟩
      refine ⟨n + 1 - (i + 1), by omega, h₃', tk₃, m₂, news₂, i + 1, rfl, ?_, F₃, N₃.right, hno₃, hJ₃, hlt, rfl⟩
      refine W.frame _ _ _ hst₁ fun b hb o e => ?_
      have e₂ : h₂.get? b = some o := (hs₂.2 b fun q => hLf (q ▸ hb)).trans e
      cases hn : h₀.get? b with
      | some o₀ =>
        have : o₀ = o := by have := F₂.keep b o₀ hn; rw [e₂] at this; exact (Option.some.inj this).symm
        exact this ▸ F₃.keep b o₀ hn
      | none => exact (N₃ _ (List.mem_append_left _ (mem_ownOf hb hn e₂))).1
    cases f with
    | next => exact fin h₃
    | cont => exact fin h₃
    | brk => exact h₃
    | ret v => exact h₃
  · have hin : i = n := by omega
    subst hin
    refine W.done _ _ _ hst' fun h₁ tk₁ hk₁ => wpAny_execs_nil ?_
    obtain ⟨F₁, N₁⟩ := next h₁ hk₁
    exact done h₁ tk₁ m' news' hJ hno' F₁ N₁

/-- what a turn hands on, told off from the walk's own object by its place -/
def TurnedA (h₀ : Heap) (L I : Addr) (own : List (Addr × Obj)) (J : (Str → Option Value) → List (Addr × Obj) → Prop) (s s₂ : Shared) : Prop :=
  ∃ h' tk m₂ news₂, s₂ = { s with heap := h', toks := tk } ∧ Fr h₀ L h' m₂ ∧ News h₀ L h' (own ++ news₂) ∧ (∀ p ∈ news₂, p.1 ≠ I) ∧ J m₂ news₂

theorem for_walksC {Q : Flow → Shared → Prop} {E : Value → Shared → Prop} {x : Str} {px : Pos} {body : List Stmt} {I : Addr} {fp : List Addr} {n : Nat} {P : Nat → Value → Prop} {St : Nat → Heap → Prop} {m : Str → Option Value}
    {news : List (Addr × Obj)} (W : Walks prog w A I fp [I] n P St)
    (hLf : env.locals ∉ fp) (hI : h₀.get? I = none)
    (hst : St 0 s.heap) (F : Fr h₀ env.locals s.heap m) (N : News h₀ env.locals s.heap news) (hno : ∀ p ∈ news, p.1 ≠ I)
    (J : Nat → (Str → Option Value) → List (Addr × Obj) → Prop) (h0 : J 0 m news)
    (step : ∀ i v m₁ news₁ h tk own, i < n → P i v → J i m₁ news₁ → (∀ p ∈ own, p.1 ∈ fp) → (∀ p ∈ news₁, p.1 ≠ I) →
      Fr h₀ env.locals h m₁ → News h₀ env.locals h (own ++ news₁) →
      wpAny (model prog w) A (storeName env x v) (fun _ s₁ => wpAny (model prog w) A (execs body env) (fun f s₂ => match f with
        | .ret v => Q (.ret v) s₂
        | .brk => Q .next s₂
        | _ => TurnedA h₀ env.locals I own (J (i + 1)) s s₂) (fun _ _ => False) s₁) (fun _ _ => False) { s with heap := h, toks := tk })
    (done : ∀ h' tk m' news', J n m' news' → (∀ p ∈ news', p.1 ≠ I) → Fr h₀ env.locals h' m' → News h₀ env.locals h' news' → Q .next { s with heap := h', toks := tk }) :
    codeAny (model prog w) A (.forLoop (.Name x px) (.ref I) body [] env) (fun r s' => match r with | .ok f => Q f s' | .error e => cameBackBy (model prog w) A env E e s') s := by
  have hLI : env.locals ≠ I := fun h => hLf (W.sub _ (by simp [h]))
  have old : ∀ b o, h₀.get? b = some o → b ∉ [I] := fun b o e hb => by rw [List.mem_singleton.mp hb, hI] at e; cases e
  refine codeAny_forLoop
    (fun k s' => ∃ h' tk m' news' i, s' = { s with heap := h', toks := tk } ∧ St i h' ∧ Fr h₀ env.locals h' m' ∧ News h₀ env.locals h' news' ∧ (∀ p ∈ news', p.1 ≠ I) ∧ J i m' news' ∧ i ≤ n ∧ k = n + 1 - i) ?_ (n + 1)
    ⟨s.heap, s.toks, m, news, 0, rfl, hst, F, N, hno, h0, Nat.zero_le _, rfl⟩
  rintro k s' ⟨h', tk, m', news', i, rfl, hst', F', N', hno', hJ, hi, rfl⟩
  have hap := hno'
  have next : ∀ h₁ : Heap, (∀ b o, b ∉ [I] → h'.get? b = some o → h₁.get? b = some o) → Fr h₀ env.locals h₁ m' ∧ News h₀ env.locals h₁ news' := fun h₁ hk₁ =>
    ⟨⟨F'.ns.at' fun o e => hk₁ _ o (by simp [hLI]) e, fun b o e => hk₁ b o (old b o e) (F'.keep b o e), F'.above⟩, fun p hp => ⟨hk₁ _ _ (by simp [hap p hp]) (N' p hp).1, (N' p hp).2⟩⟩
  by_cases hlt : i < n
  · refine W.item i _ _ _ hlt hst' fun v h₁ tk₁ hP hst₁ hk₁ => ?_
    obtain ⟨F₁, N₁⟩ := next h₁ hk₁
    refine wpAny_assign_Name (wpAny_mono (step i v m' news' h₁ tk₁ (ownOf h₀ fp h₁) hlt hP hJ ownOf_sub hap F₁ ((news_ownOf hLf).append N₁)) (fun _ s₁ h₁' => wpAny_mono h₁' (fun f s₃ h₃ => ?_) fun _ _ e => e.elim) fun _ _ e => e.elim)
    have F₂ := F₁
    have fin : TurnedA h₀ env.locals I (ownOf h₀ fp h₁) (J (i + 1)) s s₃ → ∃ m, m < n + 1 - i ∧ ∃ h' tk m' news' i, s₃ = { s with heap := h', toks := tk } ∧ St i h' ∧ Fr h₀ env.locals h' m' ∧ News h₀ env.locals h' news' ∧ (∀ p ∈ news', p.1 ≠ I) ∧ J i m' news' ∧ i ≤ n ∧ m = n + 1 - i := by
      rintro ⟨h₃', tk₃, m₂, news₂, rfl, F₃, N₃, hno₃, hJ₃⟩
      refine ⟨n + 1 - (i + 1), by omega, h₃', tk₃, m₂, news₂, i + 1, rfl, ?_, F₃, N₃.right, hno₃, hJ₃, hlt, rfl⟩
      refine W.frame _ _ _ hst₁ fun b hb o e => ?_
      have e₂ : h₁.get? b = some o := e
      cases hn : h₀.get? b with
      | some o₀ =>
        have : o₀ = o := by have := F₂.keep b o₀ hn; rw [e₂] at this; exact (Option.some.inj this).symm
        exact this ▸ F₃.keep b o₀ hn
      | none => exact (N₃ _ (List.mem_append_left _ (mem_ownOf hb hn e₂))).1
    cases f with
    | next => exact fin h₃
    | cont => exact fin h₃
    | brk => exact h₃
    | ret v => exact h₃
  · have hin : i = n := by omega
    subst hin
    refine W.done _ _ _ hst' fun h₁ tk₁ hk₁ => wpAny_execs_nil ?_
    obtain ⟨F₁, N₁⟩ := next h₁ hk₁
    exact done h₁ tk₁ m' news' hJ hno' F₁ N₁

/-- the walk over a list that stands in the heap (its own or the ledger's) -/
theorem for_list {Q : Flow → Shared → Prop} {E : Value → Shared → Prop} {x : Str} {px pos : Pos} {iter : Expr} {body : List Stmt} {a : Addr} {items : List Value} {m : Str → Option Value} {news : List (Addr × Obj)}
    (J : Nat → (Str → Option Value) → List (Addr × Obj) → Prop)
    (hiter : ∀ {Q' : Value → Shared → Prop} {E' : Value → Shared → Prop}, Q' (.ref a) s → wpAny (model prog w) A (eval iter env) Q' E' s)
    (hh : A.handled = none) (hl : s.heap.IsList a items.toArray) (haL : a ≠ env.locals)
    (F : Fr h₀ env.locals s.heap m) (N : News h₀ env.locals s.heap news) (hno : NoIt news) (h0 : J 0 m news)
    (step : ∀ i v m₁ news₁ h tk own, items[i]? = some v → J i m₁ news₁ → NoIt news₁ → (∀ p ∈ own, p.1 = a ∨ p.1 = s.heap.objs.size) → (∀ p ∈ news₁, p.1 ≠ s.heap.objs.size) →
      Fr h₀ env.locals h (fun y => if y = x then some v else m₁ y) → News h₀ env.locals h (own ++ news₁) →
      wpAny (model prog w) A (execs body env) (fun f s₂ => match f with
        | .ret v => Q (.ret v) s₂
        | .brk => Q .next s₂
        | _ => Turned h₀ env.locals own (J (i + 1)) s s₂) (fun _ _ => False) { s with heap := h, toks := tk })
    (done : ∀ h' tk m' news', J items.length m' news' → NoIt news' → Fr h₀ env.locals h' m' → News h₀ env.locals h' news' → Q .next { s with heap := h', toks := tk })
    (hx : env.kindOf x = some .local := by rfl)
    (hp : (env.scope.kind == .class || (env.scope.kind == .module && env.locals != env.globals)) = false := by rfl)
    (hs : ∀ x, foldedSetIterable iter env x = pure x := by intro _; rfl) :
    wpAny (model prog w) A (exec (.For (.Name x px) iter body [] pos) env) Q E s := by
  refine wpAny_For (hiter ?_) hs
  obtain ⟨ol, hol, _⟩ := id hl
  have hne : a ≠ s.heap.objs.size := Nat.ne_of_lt (Heap.lt_size hol)
  refine wpAny_pyIter_list hl ?_
  have W := Walks.list (prog := prog) (w := w) hh s.heap.objs.size a hne items.toArray
  have hI : h₀.get? s.heap.objs.size = none := by
    cases q : h₀.get? s.heap.objs.size with
    | none => rfl
    | some o => exact absurd (Heap.lt_size (F.keep _ _ q)) (Nat.lt_irrefl _)
  refine for_walks (s := { s with heap := s.heap.push { cls := .type "list_iterator", data := .fields #[.ref a, .int 0 0] } }) W hx hp ?_ hI ?_ ⟨⟨_, Heap.get?_push_size _ rfl, rfl, rfl⟩, hl.at fun o e => Heap.get?_push_of_some _ e⟩ (F.push _)
    (fun p hp => ⟨Heap.get?_push_of_some _ (N p hp).1, (N p hp).2⟩) hno J h0 ?_ ?_
  · intro hm
    rcases List.mem_cons.mp hm with e | hm
    · exact absurd F.ns.lt (e ▸ Nat.lt_irrefl _)
    · exact haL (List.mem_singleton.mp hm).symm
  · rintro i h ⟨⟨o, ho, _, hd⟩, _⟩
    refine ⟨o, ho, ?_⟩
    rw [isIt, hd]; rfl
  · intro i v m₁ news₁ h tk own hi hP hJ hn1 hown hap F1 N1
    refine step i v m₁ news₁ h tk own (by simpa using hP) hJ hn1 (fun p hp => ?_) hap F1 N1
    have := hown p hp
    simp at this
    exact this.symm
  · intro h' tk m' news' hJ hn1 F1 N1
    exact done h' tk m' news' (by simpa using hJ) hn1 F1 N1
/-- the walk over a list that stands in the heap (its own or the ledger's) -/
theorem for_listC {Q : Flow → Shared → Prop} {E : Value → Shared → Prop} {x : Str} {px pos : Pos} {iter : Expr} {body : List Stmt} {a : Addr} {items : List Value} {m : Str → Option Value} {news : List (Addr × Obj)}
    (J : Nat → (Str → Option Value) → List (Addr × Obj) → Prop)
    (hiter : ∀ {Q' : Value → Shared → Prop} {E' : Value → Shared → Prop}, Q' (.ref a) s → wpAny (model prog w) A (eval iter env) Q' E' s)
    (hh : A.handled = none) (hl : s.heap.IsList a items.toArray) (haL : a ≠ env.locals)
    (F : Fr h₀ env.locals s.heap m) (N : News h₀ env.locals s.heap news) (h0 : J 0 m news)
    (step : ∀ i v m₁ news₁ h tk own, items[i]? = some v → J i m₁ news₁ → (∀ p ∈ own, p.1 = a ∨ p.1 = s.heap.objs.size) → (∀ p ∈ news₁, p.1 ≠ s.heap.objs.size) →
      Fr h₀ env.locals h m₁ → News h₀ env.locals h (own ++ news₁) →
      wpAny (model prog w) A (storeName env x v) (fun _ s₁ => wpAny (model prog w) A (execs body env) (fun f s₂ => match f with
        | .ret v => Q (.ret v) s₂
        | .brk => Q .next s₂
        | _ => TurnedA h₀ env.locals s.heap.objs.size own (J (i + 1)) s s₂) (fun _ _ => False) s₁) (fun _ _ => False) { s with heap := h, toks := tk })
    (done : ∀ h' tk m' news', J items.length m' news' → Fr h₀ env.locals h' m' → News h₀ env.locals h' news' → Q .next { s with heap := h', toks := tk })
    (hs : ∀ x, foldedSetIterable iter env x = pure x := by intro _; rfl) :
    wpAny (model prog w) A (exec (.For (.Name x px) iter body [] pos) env) Q E s := by
  refine wpAny_For (hiter ?_) hs
  obtain ⟨ol, hol, _⟩ := id hl
  have hne : a ≠ s.heap.objs.size := Nat.ne_of_lt (Heap.lt_size hol)
  refine wpAny_pyIter_list hl ?_
  have W := Walks.list (prog := prog) (w := w) hh s.heap.objs.size a hne items.toArray
  have hI : h₀.get? s.heap.objs.size = none := by
    cases q : h₀.get? s.heap.objs.size with
    | none => rfl
    | some o => exact absurd (Heap.lt_size (F.keep _ _ q)) (Nat.lt_irrefl _)
  refine for_walksC (s := { s with heap := s.heap.push { cls := .type "list_iterator", data := .fields #[.ref a, .int 0 0] } }) W ?_ hI ⟨⟨_, Heap.get?_push_size _ rfl, rfl, rfl⟩, hl.at fun o e => Heap.get?_push_of_some _ e⟩ (F.push _)
    (fun p hp => ⟨Heap.get?_push_of_some _ (N p hp).1, (N p hp).2⟩) (fun p hp => Nat.ne_of_lt (Heap.lt_size (N p hp).1)) J h0 ?_ ?_
  · intro hm
    rcases List.mem_cons.mp hm with e | hm
    · exact absurd F.ns.lt (e ▸ Nat.lt_irrefl _)
    · exact haL (List.mem_singleton.mp hm).symm
  · intro i v m₁ news₁ h tk own hi hP hJ hown hap F1 N1
    refine step i v m₁ news₁ h tk own (by simpa using hP) hJ (fun p hp => ?_) hap F1 N1
    have := hown p hp
    simp at this
    exact this.symm
  · intro h' tk m' news' hJ hn1 F1 N1
    exact done h' tk m' news' (by simpa using hJ) F1 N1
theorem for_walksS {Q : Flow → Shared → Prop} {E : Value → Shared → Prop} {x : Str} {px : Pos} {body : List Stmt} {I : Addr} {fp : List Addr} {n : Nat} {P : Nat → Value → Prop} {St : Nat → Heap → Prop} {m : Str → Option Value}
    {news : List (Addr × Obj)} (W : Walks prog w A I fp [I] n P St) (hx : env.kindOf x = some .local)
    (hp : (env.scope.kind == .class || (env.scope.kind == .module && env.locals != env.globals)) = false)
    (hLf : env.locals ∉ fp) (hI : h₀.get? I = none) (hIt : ∀ i h, St i h → ∃ o, h.get? I = some o ∧ isIt o = true)
    (hst : St 0 s.heap) (F : Fr h₀ env.locals s.heap m) (N : News h₀ env.locals s.heap news) (hno : NoIt news)
    (J : Nat → (Str → Option Value) → List (Addr × Obj) → Prop) (h0 : J 0 m news)
    (step : ∀ i v m₁ news₁ h tk own, i < n → P i v → J i m₁ news₁ → NoIt news₁ → (∀ p ∈ own, p.1 ∈ fp) → (∀ p ∈ news₁, p.1 ≠ I) → St (i + 1) h →
      Fr h₀ env.locals h (fun y => if y = x then some v else m₁ y) → News h₀ env.locals h (own ++ news₁) →
      wpAny (model prog w) A (execs body env) (fun f s₂ => match f with
        | .ret v => Q (.ret v) s₂
        | .brk => Q .next s₂
        | _ => Turned h₀ env.locals own (J (i + 1)) s s₂) (fun _ _ => False) { s with heap := h, toks := tk })
    (done : ∀ h' tk m' news', J n m' news' → NoIt news' → Fr h₀ env.locals h' m' → News h₀ env.locals h' news' → Q .next { s with heap := h', toks := tk }) :
    codeAny (model prog w) A (.forLoop (.Name x px) (.ref I) body [] env) (fun r s' => match r with | .ok f => Q f s' | .error e => cameBackBy (model prog w) A env E e s') s := by
  have hLI : env.locals ≠ I := fun h => hLf (W.sub _ (by simp [h]))
  have old : ∀ b o, h₀.get? b = some o → b ∉ [I] := fun b o e hb => by rw [List.mem_singleton.mp hb, hI] at e; cases e
  have apart : ∀ i h news', St i h → News h₀ env.locals h news' → NoIt news' → ∀ p ∈ news', p.1 ≠ I := fun i h news' hs hN hno' p hp e => by
    obtain ⟨o, ho, hi⟩ := hIt i h hs
    have := (hN p hp).1
    rw [e, ho] at this
    have hq := hno' p hp
    rw [← Option.some.inj this, hi] at hq
    cases hq
  refine codeAny_forLoop
    (fun k s' => ∃ h' tk m' news' i, s' = { s with heap := h', toks := tk } ∧ St i h' ∧ Fr h₀ env.locals h' m' ∧ News h₀ env.locals h' news' ∧ NoIt news' ∧ J i m' news' ∧ i ≤ n ∧ k = n + 1 - i) ?_ (n + 1)
    ⟨s.heap, s.toks, m, news, 0, rfl, hst, F, N, hno, h0, Nat.zero_le _, rfl⟩
  rintro k s' ⟨h', tk, m', news', i, rfl, hst', F', N', hno', hJ, hi, rfl⟩
  have hap := apart i h' news' hst' N' hno'
  have next : ∀ h₁ : Heap, (∀ b o, b ∉ [I] → h'.get? b = some o → h₁.get? b = some o) → Fr h₀ env.locals h₁ m' ∧ News h₀ env.locals h₁ news' := fun h₁ hk₁ =>
    ⟨⟨F'.ns.at' fun o e => hk₁ _ o (by simp [hLI]) e, fun b o e => hk₁ b o (old b o e) (F'.keep b o e), F'.above⟩, fun p hp => ⟨hk₁ _ _ (by simp [hap p hp]) (N' p hp).1, (N' p hp).2⟩⟩
  by_cases hlt : i < n
  · refine W.item i _ _ _ hlt hst' fun v h₁ tk₁ hP hst₁ hk₁ => ?_
    obtain ⟨F₁, N₁⟩ := next h₁ hk₁
    refine wpAny_assign_Name (wpAny_storeName_local hx F₁.ns (fun h₂ hn₂ hs₂ => ?_) hp)
    have F₂ := F₁.set hn₂ hs₂
    refine wpAny_mono (step i v m' news' h₂ (tk₁ + 1) (ownOf h₀ fp h₂) hlt hP hJ hno' ownOf_sub hap (W.frame _ _ _ hst₁ fun b hb o e => (hs₂.2 b fun q => hLf (q ▸ hb)).trans e) F₂ ((news_ownOf hLf).append (N₁.set hs₂))) (fun f s₃ h₃ => ?_) fun _ _ e => e.elim
    have fin : Turned h₀ env.locals (ownOf h₀ fp h₂) (J (i + 1)) s s₃ → ∃ m, m < n + 1 - i ∧ ∃ h' tk m' news' i, s₃ = { s with heap := h', toks := tk } ∧ St i h' ∧ Fr h₀ env.locals h' m' ∧ News h₀ env.locals h' news' ∧ NoIt news' ∧ J i m' news' ∧ i ≤ n ∧ m = n + 1 - i := by
      rintro ⟨h₃', tk₃, m₂, news₂, rfl, F₃, N₃, hno₃, hJ₃⟩
      refine ⟨n + 1 - (i + 1), by omega, h₃', tk₃, m₂, news₂, i + 1, rfl, ?_, F₃, N₃.right, hno₃, hJ₃, hlt, rfl⟩
      refine W.frame _ _ _ hst₁ fun b hb o e => ?_
      have e₂ : h₂.get? b = some o := (hs₂.2 b fun q => hLf (q ▸ hb)).trans e
      cases hn : h₀.get? b with
      | some o₀ =>
        have : o₀ = o := by have := F₂.keep b o₀ hn; rw [e₂] at this; exact (Option.some.inj this).symm
        exact this ▸ F₃.keep b o₀ hn
      | none => exact (N₃ _ (List.mem_append_left _ (mem_ownOf hb hn e₂))).1
    cases f with
    | next => exact fin h₃
    | cont => exact fin h₃
    | brk => exact h₃
    | ret v => exact h₃
  · have hin : i = n := by omega
    subst hin
    refine W.done _ _ _ hst' fun h₁ tk₁ hk₁ => wpAny_execs_nil ?_
    obtain ⟨F₁, N₁⟩ := next h₁ hk₁
    exact done h₁ tk₁ m' news' hJ hno' F₁ N₁

/-- the walk over a list, which is told to stand in each turn -/
theorem for_listS {Q : Flow → Shared → Prop} {E : Value → Shared → Prop} {x : Str} {px pos : Pos} {iter : Expr} {body : List Stmt} {a : Addr} {items : List Value} {m : Str → Option Value} {news : List (Addr × Obj)}
    (J : Nat → (Str → Option Value) → List (Addr × Obj) → Prop)
    (hiter : ∀ {Q' : Value → Shared → Prop} {E' : Value → Shared → Prop}, Q' (.ref a) s → wpAny (model prog w) A (eval iter env) Q' E' s)
    (hh : A.handled = none) (hl : s.heap.IsList a items.toArray) (haL : a ≠ env.locals)
    (F : Fr h₀ env.locals s.heap m) (N : News h₀ env.locals s.heap news) (hno : NoIt news) (h0 : J 0 m news)
    (step : ∀ i v m₁ news₁ h tk own, items[i]? = some v → J i m₁ news₁ → NoIt news₁ → (∀ p ∈ own, p.1 = a ∨ p.1 = s.heap.objs.size) → (∀ p ∈ news₁, p.1 ≠ s.heap.objs.size) → h.IsList a items.toArray →
      Fr h₀ env.locals h (fun y => if y = x then some v else m₁ y) → News h₀ env.locals h (own ++ news₁) →
      wpAny (model prog w) A (execs body env) (fun f s₂ => match f with
        | .ret v => Q (.ret v) s₂
        | .brk => Q .next s₂
        | _ => Turned h₀ env.locals own (J (i + 1)) s s₂) (fun _ _ => False) { s with heap := h, toks := tk })
    (done : ∀ h' tk m' news', J items.length m' news' → NoIt news' → Fr h₀ env.locals h' m' → News h₀ env.locals h' news' → Q .next { s with heap := h', toks := tk })
    (hx : env.kindOf x = some .local := by rfl)
    (hp : (env.scope.kind == .class || (env.scope.kind == .module && env.locals != env.globals)) = false := by rfl)
    (hs : ∀ x, foldedSetIterable iter env x = pure x := by intro _; rfl) :
    wpAny (model prog w) A (exec (.For (.Name x px) iter body [] pos) env) Q E s := by
  refine wpAny_For (hiter ?_) hs
  obtain ⟨ol, hol, _⟩ := id hl
  have hne : a ≠ s.heap.objs.size := Nat.ne_of_lt (Heap.lt_size hol)
  refine wpAny_pyIter_list hl ?_
  have W := Walks.list (prog := prog) (w := w) hh s.heap.objs.size a hne items.toArray
  have hI : h₀.get? s.heap.objs.size = none := by
    cases q : h₀.get? s.heap.objs.size with
    | none => rfl
    | some o => exact absurd (Heap.lt_size (F.keep _ _ q)) (Nat.lt_irrefl _)
  refine for_walksS (s := { s with heap := s.heap.push { cls := .type "list_iterator", data := .fields #[.ref a, .int 0 0] } }) W hx hp ?_ hI ?_ ⟨⟨_, Heap.get?_push_size _ rfl, rfl, rfl⟩, hl.at fun o e => Heap.get?_push_of_some _ e⟩ (F.push _)
    (fun p hp => ⟨Heap.get?_push_of_some _ (N p hp).1, (N p hp).2⟩) hno J h0 ?_ ?_
  · intro hm
    rcases List.mem_cons.mp hm with e | hm
    · exact absurd F.ns.lt (e ▸ Nat.lt_irrefl _)
    · exact haL (List.mem_singleton.mp hm).symm
  · rintro i h ⟨⟨o, ho, _, hd⟩, _⟩
    refine ⟨o, ho, ?_⟩
    rw [isIt, hd]; rfl
  · intro i v m₁ news₁ h tk own hi hP hJ hn1 hown hap hst1 F1 N1
    refine step i v m₁ news₁ h tk own (by simpa using hP) hJ hn1 (fun p hp => ?_) hap hst1.2 F1 N1
    have := hown p hp
    simp at this
    exact this.symm
  · intro h' tk m' news' hJ hn1 F1 N1
    exact done h' tk m' news' (by simpa using hJ) hn1 F1 N1
/-- the same behind the head's reckoning -/
theorem for_listE {Q : Flow → Shared → Prop} {E : Value → Shared → Prop} {x : Str} {px : Pos} {body : List Stmt} {a : Addr} {items : List Value} {m : Str → Option Value} {news : List (Addr × Obj)}
    (J : Nat → (Str → Option Value) → List (Addr × Obj) → Prop)
    (hh : A.handled = none) (hl : s.heap.IsList a items.toArray) (haL : a ≠ env.locals)
    (F : Fr h₀ env.locals s.heap m) (N : News h₀ env.locals s.heap news) (hno : NoIt news) (h0 : J 0 m news)
    (step : ∀ i v m₁ news₁ h tk own, items[i]? = some v → J i m₁ news₁ → NoIt news₁ → (∀ p ∈ own, p.1 = a ∨ p.1 = s.heap.objs.size) → (∀ p ∈ news₁, p.1 ≠ s.heap.objs.size) → h.IsList a items.toArray →
      Fr h₀ env.locals h (fun y => if y = x then some v else m₁ y) → News h₀ env.locals h (own ++ news₁) →
      wpAny (model prog w) A (execs body env) (fun f s₂ => match f with
        | .ret v => Q (.ret v) s₂
        | .brk => Q .next s₂
        | _ => Turned h₀ env.locals own (J (i + 1)) s s₂) (fun _ _ => False) { s with heap := h, toks := tk })
    (done : ∀ h' tk m' news', J items.length m' news' → NoIt news' → Fr h₀ env.locals h' m' → News h₀ env.locals h' news' → Q .next { s with heap := h', toks := tk })
    (hx : env.kindOf x = some .local := by rfl)
    (hp : (env.scope.kind == .class || (env.scope.kind == .module && env.locals != env.globals)) = false := by rfl) :
    wpAny (model prog w) A (pyIter (.ref a)) (fun it s₂ => codeAny (model prog w) A (.forLoop (.Name x px) it body [] env) (fun r s' => match r with | .ok f => Q f s' | .error e => cameBackBy (model prog w) A env E e s') s₂) E s := by
  obtain ⟨ol, hol, _⟩ := id hl
  have hne : a ≠ s.heap.objs.size := Nat.ne_of_lt (Heap.lt_size hol)
  refine wpAny_pyIter_list hl ?_
  have W := Walks.list (prog := prog) (w := w) hh s.heap.objs.size a hne items.toArray
  have hI : h₀.get? s.heap.objs.size = none := by
    cases q : h₀.get? s.heap.objs.size with
    | none => rfl
    | some o => exact absurd (Heap.lt_size (F.keep _ _ q)) (Nat.lt_irrefl _)
  refine for_walksS (s := { s with heap := s.heap.push { cls := .type "list_iterator", data := .fields #[.ref a, .int 0 0] } }) W hx hp ?_ hI ?_ ⟨⟨_, Heap.get?_push_size _ rfl, rfl, rfl⟩, hl.at fun o e => Heap.get?_push_of_some _ e⟩ (F.push _)
    (fun p hp => ⟨Heap.get?_push_of_some _ (N p hp).1, (N p hp).2⟩) hno J h0 ?_ ?_
  · intro hm
    rcases List.mem_cons.mp hm with e | hm
    · exact absurd F.ns.lt (e ▸ Nat.lt_irrefl _)
    · exact haL (List.mem_singleton.mp hm).symm
  · rintro i h ⟨⟨o, ho, _, hd⟩, _⟩
    refine ⟨o, ho, ?_⟩
    rw [isIt, hd]; rfl
  · intro i v m₁ news₁ h tk own hi hP hJ hn1 hown hap hst1 F1 N1
    refine step i v m₁ news₁ h tk own (by simpa using hP) hJ hn1 (fun p hp => ?_) hap hst1.2 F1 N1
    have := hown p hp
    simp at this
    exact this.symm
  · intro h' tk m' news' hJ hn1 F1 N1
    exact done h' tk m' news' (by simpa using hJ) hn1 F1 N1
end
end Mine
end

section
open PySem PySem.W PySem.Calls PySem.Spec PyProof.Rows
set_option maxRecDepth 100000
namespace Mine

/-- a comprehension's own room, its letter in a cell -/
def compEnvK (scope : Scope) (x : Str) (c : Addr) (cl : List (Str × Addr)) (C : Addr) (env : Env) : Env :=
  { scope := relabel scope env, locals := C, globals := env.globals, cells := (x, c) :: cl, qual := env.qual, func := none, code := env.code, frame := env.frame, builtins := env.builtins }

section
variable {prog : Program} {w : World} {A : Around} {E : Value → Shared → Prop} {s : Shared} {env : Env}

theorem comp_block_cell {elt iter : Expr} {x : Str} {px : Pos} {scope : Scope} {cl : List (Str × Addr)} {pos : Pos} (F : Nat → Value → Prop) {RR : Value → Addr → Result → Shared → Prop} {s₁ : Shared} {ax : Addr} {items : List Value}
    (hh : A.handled = none) (hkind : scope.kind = .function)
    (hcells : ∀ n, cellsFrom n scope.names cl = (x, n) :: cl) (hpush : ∀ h, pushCells h scope.names = h.push { cls := .type "cell", data := .cell none })
    (hx : (relabel scope env).names.lookup x = some .cell)
    (hl : s₁.heap.IsList ax items.toArray) (hsz : items.length ≤ sizeLine)
    (helt : ∀ C c i v s₃ E', items[i]? = some v → s₃.heap.IsCell c (some v) → (∀ b o, s₁.heap.get? b = some o → s₃.heap.get? b = some o) →
        wpAny (model prog w) A (eval elt (compEnvK scope x c cl C env)) (fun y s₄ => F i y ∧ Keeps s₃ s₄) E' s₃)
    (hRR : ∀ D C h' tk (ys : List Value), ys.length = items.length → (∀ i y, ys[i]? = some y → F i y) → h'.PlainList D ys.toArray → h'.Ns C (fun _ => none) → D ≠ C → s₁.heap.get? D = none → s₁.heap.get? C = none → (∀ b o, s₁.heap.get? b = some o → h'.get? b = some o) →
      RR (.ref D) C (.ok .next) { s₁ with heap := h', toks := tk }) :
    wpAny (model prog w) A (pyIter (.ref ax)) (fun it s₂ => wpAny (model prog w) A (newList []) (fun acc s₃ => wpAny (model prog w) A (newFunctionEnv scope env.globals cl [] env.qual none .none (some env)) (fun cenv s₄ =>
      codeAny (model prog w) A (.compStart (.ListComp elt [⟨.Name x px, iter, [], 0⟩] scope pos) 0 it acc { cenv with scope := relabel scope env }) (RR acc cenv.locals) s₄) E s₃) E s₂) E s₁ := by
  obtain ⟨ol, hol, _⟩ := id hl
  have hlt : ax < s₁.heap.objs.size := Heap.lt_size hol
  refine wpAny_pyIter_list hl ?_
  refine wpAny_newObj_type ?_
  simp only [newFunctionEnv, Option.isSome_some, if_true]
  refine wpAny_bind (wpAny_alloc ?_)
  refine wpAny_bind (wpAny_layCells _ (fun name kind cells => by cases hkc : kind == NameKind.cell <;> simp [hkc]) _ _ _ _ ?_)
  rw [hcells, hpush]
  refine wpAny_bind ?_
  rw [List.forIn_nil]
  refine wpAny_pure (wpAny_pure ?_)
  generalize hH1 : s₁.heap.push { cls := .type "list_iterator", data := .fields #[.ref ax, .int 0 0] } = H1
  generalize hH2 : H1.push { cls := .type "list", dict := none, data := .seq ([] : List Value).toArray } = H2
  generalize hH3 : H2.push { cls := .type "dict", data := .dict #[] } = H3
  have z1 : H1.objs.size = s₁.heap.objs.size + 1 := by rw [← hH1, Heap.size_push]
  have z2 : H2.objs.size = s₁.heap.objs.size + 2 := by rw [← hH2, Heap.size_push, z1]
  have z3 : H3.objs.size = s₁.heap.objs.size + 3 := by rw [← hH3, Heap.size_push, z2]
  dsimp only
  rw [z1, z2, z3]
  generalize hI : s₁.heap.objs.size = I at *
  have gI : H1.get? I = some { cls := .type "list_iterator", data := .fields #[.ref ax, .int 0 0] } := by rw [← hH1, ← hI]; exact Heap.get?_push_size _ rfl
  have gD : H2.get? (I + 1) = some { cls := .type "list", dict := none, data := .seq ([] : List Value).toArray } := by rw [← hH2, ← z1]; exact Heap.get?_push_size _ rfl
  have gC : H3.get? (I + 2) = some { cls := .type "dict", data := .dict #[] } := by rw [← hH3, ← z2]; exact Heap.get?_push_size _ rfl
  have up1 : ∀ b o, s₁.heap.get? b = some o → H1.get? b = some o := fun b o e => by rw [← hH1]; exact Heap.get?_push_of_some _ e
  have up2 : ∀ b o, H1.get? b = some o → H2.get? b = some o := fun b o e => by rw [← hH2]; exact Heap.get?_push_of_some _ e
  have up3 : ∀ b o, H2.get? b = some o → H3.get? b = some o := fun b o e => by rw [← hH3]; exact Heap.get?_push_of_some _ e
  have up4 : ∀ b o, H3.get? b = some o → (H3.push { cls := .type "cell", data := .cell none }).get? b = some o := fun b o e => Heap.get?_push_of_some _ e
  have old : ∀ b o, s₁.heap.get? b = some o → @LT.lt Nat _ b I := fun b o e => hI ▸ Heap.lt_size e
  have nC : (H3.push { cls := .type "cell", data := .cell none }).Ns (I + 2) (fun _ => none) := ⟨_, _, _, up4 _ _ gC, rfl, by intro e he; simp at he, fun _ => rfl⟩
  have loop : codeAny (model prog w) A (.compLoop (.ListComp elt [⟨.Name x px, iter, [], 0⟩] scope pos) 0 (.ref I) (.ref (I + 1)) (compEnvK scope x (I + 3) cl (I + 2) env))
      (RR (.ref (I + 1)) (I + 2)) { s₁ with heap := H3.push { cls := .type "cell", data := .cell none } } := by
    refine codeAny_compLoop_list (fun k s' => ∃ h tk i ys ov, s' = { s₁ with heap := h, toks := tk } ∧ h.IsListIter I ax i ∧ h.IsList ax items.toArray ∧ h.PlainList (I + 1) (List.toArray ys) ∧ h.IsCell (I + 3) ov ∧ h.Ns (I + 2) (fun _ => none) ∧
      ys.length = i ∧ (∀ j y, ys[j]? = some y → F j y) ∧ i ≤ items.length ∧ k = items.length + 1 - i ∧ ∀ b o, s₁.heap.get? b = some o → h.get? b = some o) ?_ (items.length + 1) ?_
    · rintro k _ ⟨h, tk, i, ys, ov, rfl, hit, hla, hpl, hce, hns, hlen, hF, hi, rfl, hk⟩
      by_cases hlt' : i < items.length
      · refine wpAny_pyNext_list_item hit hla (x := items[i]) (by simp [hlt']) fun h1 hit1 hs1 => ?_
        refine wpAny_assign_Name (wpAny_storeName_cell (env := compEnvK scope x (I + 3) cl (I + 2) env) (c := I + 3) hkind hx (by simp [compEnvK]) (v₀ := ov) ?_ fun h2 hc2 hs2 => ?_)
        · obtain ⟨o, ho, hd⟩ := hce
          exact ⟨o, hs1.extBut _ _ (by k_ne) ho, hd⟩
        have keep2 : ∀ b o, b ≠ I → b ≠ I + 3 → h.get? b = some o → h2.get? b = some o := fun b o a1 a2 e => hs2.extBut b o a2 (hs1.extBut b o a1 e)
        refine wpAny_mono (helt (I + 2) (I + 3) i items[i] _ _ (by simp [hlt']) hc2 fun b o e => keep2 b o (Nat.ne_of_lt (old b o e)) (by have := old b o e; k_ne) (hk b o e)) (fun y s4 h4 => ?_) fun _ _ e => e
        obtain ⟨hFy, h3, tk3, rfl, hk3⟩ := h4
        have hpl3 : h3.PlainList (I + 1) (List.toArray ys) := hpl.at fun o e => hk3 _ o (keep2 _ o (by k_ne) (by k_ne) e)
        refine wpAny_list_append_plain (hsz := by rw [List.size_toArray]; omega) hpl3 fun h5 hl5 hs5 => ?_
        refine ⟨items.length + 1 - (i + 1), by omega, h5, tk3, i + 1, ys ++ [y], some items[i], rfl, ?_, ?_, ?_, ?_, ?_, by simp [hlen], ?_, hlt', rfl, ?_⟩
        · exact hit1.at fun o e => hs5.extBut _ _ (by k_ne) (hk3 _ o (hs2.extBut _ _ (by k_ne) e))
        · exact hl.at fun o e => hs5.extBut _ _ (by have := old ax o e; k_ne) (hk3 _ o (keep2 _ o (by have := old ax o e; k_ne) (by have := old ax o e; k_ne) (hk _ o e)))
        · simpa using hl5
        · obtain ⟨oc, hoc, hdc⟩ := hc2
          exact ⟨oc, hs5.extBut _ _ (by k_ne) (hk3 _ _ hoc), hdc⟩
        · exact hns.at' fun o e => hs5.extBut _ _ (by k_ne) (hk3 _ o (keep2 _ o (by k_ne) (by k_ne) e))
        · intro j y' hj
          rcases Nat.lt_trichotomy j ys.length with q | q | q
          · exact hF j y' (by rwa [List.getElem?_append_left q] at hj)
          · subst q
            rw [List.getElem?_append_right (Nat.le_refl _)] at hj
            simp at hj; subst hj; exact hlen ▸ hFy
          · rw [List.getElem?_eq_none (by rw [List.length_append, List.length_singleton]; omega)] at hj; cases hj
        · exact fun b o e => hs5.extBut b o (by have := old b o e; k_ne) (hk3 _ o (keep2 b o (by have := old b o e; k_ne) (by have := old b o e; k_ne) (hk b o e)))
      · have hin : i = items.length := by omega
        subst hin
        refine wpAny_pyNext_list_end hh hit hla (by simp) fun h1 hk1 => ?_
        refine hRR (I + 1) (I + 2) h1 tk ys hlen hF (hpl.at fun o e => hk1 _ o (by k_ne) e) (hns.at' fun o e => hk1 _ o (by k_ne) e) (by k_ne) ?_ ?_ fun b o e => hk1 b o (by have := old b o e; k_ne) (hk b o e)
        · cases q : s₁.heap.get? (I + 1) with
          | none => rfl
          | some o => exact absurd (old _ o q) (by show ¬ @LT.lt Nat _ (I+1) I; omega)
        · cases q : s₁.heap.get? (I + 2) with
          | none => rfl
          | some o => exact absurd (old _ o q) (by show ¬ @LT.lt Nat _ (I+2) I; omega)
    · refine ⟨_, _, 0, [], none, rfl, ⟨_, up4 _ _ (up3 _ _ (up2 _ _ gI)), rfl, rfl⟩, hl.at fun o e => up4 _ _ (up3 _ _ (up2 _ _ (up1 _ _ e))), ⟨0, up4 _ _ (up3 _ _ gD)⟩, ?_, nC, rfl, by simp, Nat.zero_le _, rfl, fun b o e => up4 _ _ (up3 _ _ (up2 _ _ (up1 _ _ e)))⟩
      exact ⟨_, by rw [← z3]; exact Heap.get?_push_size _ rfl, rfl⟩
  exact codeAny_compStart_list loop (wpAny_pyIter_listiter (i := 0) ⟨_, up4 _ _ (up3 _ _ (up2 _ _ gI)), rfl, rfl⟩ loop)

theorem ListComp_cell {elt iter : Expr} {x : Str} {px : Pos} {scope : Scope} {cl : List (Str × Addr)} {pos : Pos} {Q : Value → Shared → Prop} (F : Nat → Value → Prop)
    (hh : A.handled = none) (hclos : closureFor scope env = pure cl) (hkind : scope.kind = .function)
    (hcells : ∀ n, cellsFrom n scope.names cl = (x, n) :: cl) (hpush : ∀ h, pushCells h scope.names = h.push { cls := .type "cell", data := .cell none })
    (hnames : ∀ y ∈ scope.names, y.2 = .local → scope.names.lookup y.1 = some .local) (hx : (relabel scope env).names.lookup x = some .cell)
    (h : wpAny (model prog w) A (eval iter env) (fun xv s₁ => ∃ (ax : Addr) (items : List Value), xv = .ref ax ∧ s₁.heap.IsList ax items.toArray ∧ items.length ≤ sizeLine ∧
      (∀ C c i v s₃ E', items[i]? = some v → s₃.heap.IsCell c (some v) → (∀ b o, s₁.heap.get? b = some o → s₃.heap.get? b = some o) →
        wpAny (model prog w) A (eval elt (compEnvK scope x c cl C env)) (fun y s₄ => F i y ∧ Keeps s₃ s₄) E' s₃) ∧
      (∀ D (ys : List Value) h' tk, ys.length = items.length → (∀ i y, ys[i]? = some y → F i y) → h'.PlainList D ys.toArray → s₁.heap.get? D = none → (∀ b o, s₁.heap.get? b = some o → h'.get? b = some o) → Q (.ref D) { s₁ with heap := h', toks := tk })) E s)
    (hs : ∀ x, foldedSetIterable iter env x = pure x := by intro _; rfl) :
    wpAny (model prog w) A (eval (.ListComp elt [⟨.Name x px, iter, [], 0⟩] scope pos) env) Q E s := by
  rw [eval_ListComp]
  refine wpAny_comprehension_free (use := none) rfl hs hclos hkind hnames (wpAny_mono h (fun xv s₁ h₁ => ?_) fun _ _ e => e)
  obtain ⟨ax, items, rfl, hl, hsz, helt, hQ⟩ := h₁
  refine comp_block_cell (RR := fun acc C => compPost (model prog w) A E none Q acc C) F hh hkind hcells hpush hx hl hsz helt ?_
  intro D C h' tk ys hlen hF hpl hn hDC hD hC hk
  exact ⟨_, hn, fun h'' hs'' => hQ D ys h'' tk hlen hF (hpl.extBut hs''.extBut hDC) hD fun b o e => hs''.extBut b o (by rintro rfl; rw [hC] at e; cases e) (hk b o e)⟩

theorem Assign_ListComp_cell {elt iter : Expr} {x y : Str} {px py : Pos} {scope : Scope} {cl : List (Str × Addr)} {pos spos : Pos} {Q : Flow → Shared → Prop} (F : Nat → Value → Prop)
    (hsw : swapsWith (.ListComp elt [⟨.Name x px, iter, [], 0⟩] scope pos) (some (.Name y py)) spos.line env = pure true)
    (hh : A.handled = none) (hclos : closureFor scope env = pure cl) (hkind : scope.kind = .function)
    (hcells : ∀ n, cellsFrom n scope.names cl = (x, n) :: cl) (hpush : ∀ h, pushCells h scope.names = h.push { cls := .type "cell", data := .cell none })
    (hnames : ∀ y ∈ scope.names, y.2 = .local → scope.names.lookup y.1 = some .local) (hx : (relabel scope env).names.lookup x = some .cell)
    (hy : env.kindOf y = some .local) (hp : (env.scope.kind == .class || (env.scope.kind == .module && env.locals != env.globals)) = false)
    (h : wpAny (model prog w) A (eval iter env) (fun xv s₁ => ∃ (ax : Addr) (items : List Value) (m : Str → Option Value), xv = .ref ax ∧ s₁.heap.IsList ax items.toArray ∧ items.length ≤ sizeLine ∧ s₁.heap.Ns env.locals m ∧
      (∀ C c i v s₃ E', items[i]? = some v → s₃.heap.IsCell c (some v) → (∀ b o, s₁.heap.get? b = some o → s₃.heap.get? b = some o) →
        wpAny (model prog w) A (eval elt (compEnvK scope x c cl C env)) (fun y s₄ => F i y ∧ Keeps s₃ s₄) E' s₃) ∧
      (∀ D (ys : List Value) h' tk, ys.length = items.length → (∀ i y, ys[i]? = some y → F i y) → h'.PlainList D ys.toArray → s₁.heap.get? D = none → h'.Ns env.locals (fun z => if z = y then some (.ref D) else m z) →
        (∀ b o, b ≠ env.locals → s₁.heap.get? b = some o → h'.get? b = some o) → Q .next { s₁ with heap := h', toks := tk })) E s)
    (hs : ∀ x, foldedSetIterable iter env x = pure x := by intro _; rfl) :
    wpAny (model prog w) A (exec (.Assign [.Name y py] (.ListComp elt [⟨.Name x px, iter, [], 0⟩] scope pos) spos) env) Q E s := by
  rw [exec_Assign_Name_used _ _ _ _ hsw]
  refine wpAny_bind (wpAny_standAt (wpAny_bind ?_))
  show wpAny _ A (do let _ ← comprehension (.ListComp elt [⟨.Name x px, iter, [], 0⟩] scope pos) scope env _ (newList []) false (eval iter env) (some (assign (.Name y py) env))) _ _ s
  refine wpAny_bind (wpAny_mono (wpAny_comprehension_free (use := some (assign (.Name y py) env)) (Q := fun _ s' => Q .next s') rfl hs hclos hkind hnames
    (wpAny_mono h (fun xv s₁ h₁ => ?_) fun _ _ e => e)) (fun _ s' hq => wpAny_pure (wpAny_pure hq)) fun _ _ e => e)
  obtain ⟨ax, items, m, rfl, hl, hsz, hnL, helt, hQ⟩ := h₁
  refine comp_block_cell (RR := fun acc C => compPost (model prog w) A E (some (assign (.Name y py) env)) (fun _ s' => Q .next s') acc C) F hh hkind hcells hpush hx hl hsz helt ?_
  intro D C h' tk ys hlen hF hpl hn hDC hD hC hk
  have hLC : env.locals ≠ C := by rintro rfl; obtain ⟨o, _, _, ho, _⟩ := hnL; rw [hC] at ho; cases ho
  have hLD : env.locals ≠ D := by rintro rfl; obtain ⟨o, _, _, ho, _⟩ := hnL; rw [hD] at ho; cases ho
  show wpAny _ A (assign (.Name y py) env (.ref D)) _ _ _
  refine wpAny_assign_Name (wpAny_storeName_local hy (hnL.at' fun o e => hk _ o e) (fun h₂ hn₂ hs₂ => ?_) hp)
  refine ⟨_, hn.sameBut hs₂ (Ne.symm hLC), fun h₃ hs₃ => ?_⟩
  exact hQ D ys h₃ _ hlen hF ((hpl.extBut hs₂.extBut (Ne.symm hLD)).extBut hs₃.extBut hDC) hD (hn₂.sameBut hs₃ hLC) fun b o hbL e =>
    hs₃.extBut b o (by rintro rfl; rw [hC] at e; cases e) (hs₂.extBut b o hbL (hk b o e))
end
end Mine
end

section
open PySem PySem.W PySem.Calls PySem.Spec PyProof.Rows
set_option maxRecDepth 100000
namespace Mine

theorem range_size (n : Nat) : Builtin.Range.rangeSize 0 (n : Int) 1 = (n : Int) := by
  unfold Builtin.Range.rangeSize
  simp
  try omega
theorem range_small (n : Nat) (h : n ≤ 1000) : Builtin.Range.small 0 (n : Int) 1 = true := by
  unfold Builtin.Range.small
  rw [range_size]
  simp [Builtin.Range.rangeFitsLong]
  omega
theorem not_here {h : Heap} {a : Addr} (e : h.objs.size ≤ a) : h.get? a = none := Heap.get?_none_of_le e

section
variable {prog : Program} {w : World} {A : Around} {E : Value → Shared → Prop} {s : Shared} {env : Env}

/-- a comprehension over range(n): nothing that stood is touched -/
theorem ListComp_rK {elt iter : Expr} {x : Str} {px : Pos} {ifs : List Expr} {scope : Scope} {cl : List (Str × Addr)} {pos : Pos} {Q : Value → Shared → Prop} (pz : Nat → Bool) (F : Nat → Value → Prop)
    (hh : A.handled = none) (hclos : closureFor scope env = pure cl) (hcell : ∀ y ∈ scope.names, y.2 ≠ .cell) (hkind : scope.kind = .function)
    (hnames : ∀ y ∈ scope.names, y.2 = .local → scope.names.lookup y.1 = some .local) (hx : scope.names.lookup x = some .local)
    (h : wpAny (model prog w) A (eval iter env) (fun xv s₁ => ∃ (r : Addr) (n : Nat) (t u v : Tok), xv = .ref r ∧ IsRange s₁.heap r 0 n 1 t u v ∧ n ≤ 1000 ∧
      (∀ C i t s₂ m₂ E', i < n → s₂.heap.Ns C m₂ → m₂ x = some (.int (i : Nat) t) → (∀ b o, s₁.heap.get? b = some o → s₂.heap.get? b = some o) →
        wpAny (model prog w) A (forIn ifs true fun c r => if r = true then do let ok ← isTrue c (compEnvC scope cl C env) (eval c (compEnvC scope cl C env)); pure (ForInStep.yield ok) else pure (ForInStep.yield r))
          (fun ok s₃ => ok = pz i ∧ Keeps s₂ s₃) E' s₂) ∧
      (∀ C i t s₂ m₂ E', i < n → pz i = true → s₂.heap.Ns C m₂ → m₂ x = some (.int (i : Nat) t) → (∀ b o, s₁.heap.get? b = some o → s₂.heap.get? b = some o) →
        wpAny (model prog w) A (eval elt (compEnvC scope cl C env)) (fun y s₃ => F i y ∧ Keeps s₂ s₃) E' s₂) ∧
      (∀ D (ys : List Value) h' tk, Paired F ((List.range n).filter pz) ys → h'.PlainList D ys.toArray → s₁.heap.get? D = none → (∀ b o, s₁.heap.get? b = some o → h'.get? b = some o) → Q (.ref D) { s₁ with heap := h', toks := tk })) E s)
    (hs : ∀ x, foldedSetIterable iter env x = pure x := by intro _; rfl) :
    wpAny (model prog w) A (eval (.ListComp elt [⟨.Name x px, iter, ifs, 0⟩] scope pos) env) Q E s := by
  refine wpAny_ListComp_free (fun v => match v with | .int i _ => pz i.toNat | _ => false) (fun v y => ∃ (i : Nat) (t : Tok), v = .int i t ∧ F i y) hclos hcell hkind hnames hx (wpAny_mono h (fun xv s₁ h₁ => ?_) fun _ _ e => e) hs
  obtain ⟨r, n, t, u, v, rfl, hr, hn, htests, helt, hQ⟩ := h₁
  have up : ∀ (h' : Heap), (∀ b o, b ∉ [s₁.heap.objs.size] → (s₁.heap.push { cls := .type "range_iterator", data := .fields #[rawInt 0, rawInt (Builtin.Range.rangeSize 0 (n : Int) 1), rawInt 1] }).get? b = some o → h'.get? b = some o) → ∀ b o, s₁.heap.get? b = some o → h'.get? b = some o :=
    fun h' hk b o e => hk b o (fun hm => by rcases List.mem_cons.mp hm with rfl | hm; exact Nat.lt_irrefl _ (Heap.lt_size e); cases hm) (Heap.get?_push_of_some _ e)
  have pat : ∀ (i : Nat) v, (i < n ∧ ∃ t, v = Value.int (0 + (i : Int) * 1) t) → i < n ∧ ∃ t, v = .int (i : Nat) t := by
    rintro i v ⟨h1, t, rfl⟩
    exact ⟨h1, t, by congr 1; omega⟩
  refine wpAny_pyIter_range hr (range_small n hn) ⟨s₁.heap.objs.size, [s₁.heap.objs.size], [s₁.heap.objs.size], n, _, _, rfl, (Walks.range hh _ 0 1 n).bound, by rw [sizeLine_eq]; omega, (by show IsRangeIter _ _ _ _ _; rw [range_size]; simpa using Heap.get?_push_size _ rfl), ?_, ⟨?_, ?_⟩, ?_⟩
  · intro b hb
    show b < (s₁.heap.push _).objs.size
    rw [Heap.size_push]
    rcases List.mem_cons.mp hb with rfl | hb
    · exact Nat.lt_succ_self _
    · cases hb
  · intro C i v s₃ m₃ E' _ hP hn' hm hk _
    obtain ⟨hi, t, rfl⟩ := pat i v hP
    simpa using htests C i t s₃ m₃ E' hi hn' hm (up s₃.heap hk)
  · intro C i v s₃ m₃ E' _ hP hp hn' hm hk _
    obtain ⟨hi, t, rfl⟩ := pat i v hP
    exact wpAny_mono (helt C i t s₃ m₃ E' hi (by simpa using hp) hn' hm (up s₃.heap hk)) (fun y s₄ h₄ => ⟨⟨i, t, rfl, h₄.1⟩, h₄.2⟩) fun _ _ e => e
  · intro D h' tk ys vs' hnew hlD hplD hlen hP hF hk
    refine hQ D ys.toList h' tk ?_ (by rw [Array.toArray_toList]; exact hplD) ?_ (up h' hk)
    · have hvs : ∃ ts : List Tok, ts.length = n ∧ vs' = (List.range n).zipWith (fun (i : Nat) t => Value.int (i : Int) t) ts := by
        refine ⟨vs'.map fun v => match v with | .int _ t => t | _ => 0, by simp [hlen], ?_⟩
        refine List.ext_getElem (by simp [hlen]) fun j h1 h2 => ?_
        obtain ⟨hj, t, e⟩ := pat j vs'[j] (hP j vs'[j] (by simp [h1]))
        simp [e]
      obtain ⟨ts, htl, rfl⟩ := hvs
      clear hP hlen
      -- through the pairing
      have gen : ∀ (is : List Nat) (ts : List Tok) (ys : List Value), ts.length = is.length → Paired (fun v y => ∃ (i : Nat) (t : Tok), v = Value.int i t ∧ F i y) ((is.zipWith (fun (i : Nat) t => Value.int (i : Int) t) ts).filter fun v => match v with | .int i _ => pz i.toNat | _ => false) ys → Paired F (is.filter pz) ys := by
        intro is
        induction is with
        | nil => intro ts ys _ hp; cases ts <;> (simp at hp; cases hp; exact .nil)
        | cons i r ih =>
          intro ts ys hl hp
          cases ts with
          | nil => simp at hl
          | cons t tr =>
            rw [List.zipWith_cons_cons, List.filter_cons] at hp
            rw [List.filter_cons]
            simp only [Int.toNat_natCast] at hp
            cases hz : pz i with
            | false =>
              simp only [hz, Bool.false_eq_true, if_false] at hp ⊢
              exact ih tr ys (by simpa using hl) hp
            | true =>
              simp only [hz, if_true] at hp ⊢
              cases hp with
              | cons a b =>
                obtain ⟨i', t', e, hF'⟩ := a
                cases e
                exact .cons hF' (ih tr _ (by simpa using hl) b)
      exact gen _ ts _ (by simp [htl]) hF
    · cases e : s₁.heap.get? D with
      | none => rfl
      | some o => rw [Heap.get?_push_of_some _ e] at hnew; cases hnew

/-- a comprehension over a list -/
theorem ListComp_lK {elt iter : Expr} {x : Str} {px : Pos} {ifs : List Expr} {scope : Scope} {cl : List (Str × Addr)} {pos : Pos} {Q : Value → Shared → Prop} (p : Value → Bool) (F : Value → Value → Prop)
    (hh : A.handled = none) (hclos : closureFor scope env = pure cl) (hcell : ∀ y ∈ scope.names, y.2 ≠ .cell) (hkind : scope.kind = .function)
    (hnames : ∀ y ∈ scope.names, y.2 = .local → scope.names.lookup y.1 = some .local) (hx : scope.names.lookup x = some .local)
    (h : wpAny (model prog w) A (eval iter env) (fun xv s₁ => ∃ (ax : Addr) (items : List Value), xv = .ref ax ∧ s₁.heap.IsList ax items.toArray ∧ items.length ≤ sizeLine ∧
      (∀ C (i : Nat) v s₂ m₂ E', items[i]? = some v → s₂.heap.Ns C m₂ → m₂ x = some v → (∀ b o, s₁.heap.get? b = some o → s₂.heap.get? b = some o) →
        wpAny (model prog w) A (forIn ifs true fun c r => if r = true then do let ok ← isTrue c (compEnvC scope cl C env) (eval c (compEnvC scope cl C env)); pure (ForInStep.yield ok) else pure (ForInStep.yield r))
          (fun ok s₃ => ok = p v ∧ Keeps s₂ s₃) E' s₂) ∧
      (∀ C (i : Nat) v s₂ m₂ E', items[i]? = some v → p v = true → s₂.heap.Ns C m₂ → m₂ x = some v → (∀ b o, s₁.heap.get? b = some o → s₂.heap.get? b = some o) →
        wpAny (model prog w) A (eval elt (compEnvC scope cl C env)) (fun y s₃ => F v y ∧ Keeps s₂ s₃) E' s₂) ∧
      (∀ D (ys : List Value) h' tk, Paired F (items.filter p) ys → h'.PlainList D ys.toArray → s₁.heap.get? D = none → (∀ b o, s₁.heap.get? b = some o → h'.get? b = some o) → Q (.ref D) { s₁ with heap := h', toks := tk })) E s)
    (hs : ∀ x, foldedSetIterable iter env x = pure x := by intro _; rfl) :
    wpAny (model prog w) A (eval (.ListComp elt [⟨.Name x px, iter, ifs, 0⟩] scope pos) env) Q E s := by
  refine wpAny_ListComp_free p F hclos hcell hkind hnames hx (wpAny_mono h (fun xv s₁ h₁ => ?_) fun _ _ e => e) hs
  obtain ⟨ax, items, rfl, hl, hsz, htests, helt, hQ⟩ := h₁
  have hlt : ax < s₁.heap.objs.size := by obtain ⟨_, e, _⟩ := hl; exact Heap.lt_size e
  have up : ∀ (h' : Heap), (∀ b o, b ∉ [s₁.heap.objs.size] → (s₁.heap.push { cls := .type "list_iterator", data := .fields #[.ref ax, .int 0 0] }).get? b = some o → h'.get? b = some o) → ∀ b o, s₁.heap.get? b = some o → h'.get? b = some o :=
    fun h' hk b o e => hk b o (fun hm => by rcases List.mem_cons.mp hm with rfl | hm; exact Nat.lt_irrefl _ (Heap.lt_size e); cases hm) (Heap.get?_push_of_some _ e)
  refine wpAny_pyIter_list hl ⟨s₁.heap.objs.size, [s₁.heap.objs.size, ax], [s₁.heap.objs.size], items.toArray.size, _, _, rfl, Walks.list hh _ _ (Nat.ne_of_lt hlt) items.toArray, (by rw [List.size_toArray]; exact hsz), ⟨⟨_, Heap.get?_push_size _ rfl, rfl, rfl⟩, hl.push _⟩, ?_, ⟨?_, ?_⟩, ?_⟩
  · intro b hb
    show b < (s₁.heap.push _).objs.size
    rw [Heap.size_push]
    rcases List.mem_cons.mp hb with rfl | hb
    · exact Nat.lt_succ_self _
    · rw [List.mem_singleton.mp hb]; exact Nat.lt_succ_of_lt hlt
  · intro C i v s₃ m₃ E' _ hP hn' hm hk _
    exact htests C i v s₃ m₃ E' (by simpa using hP) hn' hm (up s₃.heap hk)
  · intro C i v s₃ m₃ E' _ hP hp hn' hm hk _
    exact helt C i v s₃ m₃ E' (by simpa using hP) hp hn' hm (up s₃.heap hk)
  · intro D h' tk ys vs' hnew hlD hplD hlen hP hF hk
    have hvs : vs' = items := by
      refine List.ext_getElem (by simpa using hlen) fun j h1 h2 => ?_
      have := hP j vs'[j] (by simp [h1])
      simp [h2] at this
      exact this.symm
    subst hvs
    refine hQ D ys.toList h' tk hF (by rw [Array.toArray_toList]; exact hplD) ?_ (up h' hk)
    cases e : s₁.heap.get? D with
    | none => rfl
    | some o => rw [Heap.get?_push_of_some _ e] at hnew; cases hnew
end
end Mine
namespace Mine
section
variable {prog : Program} {w : World} {A : Around} {E : Value → Shared → Prop} {s : Shared}
theorem sumG {l : Addr} {vs : List Value} {ns : List Int} {Q : Value → Shared → Prop} (hh : A.handled = none) (hl : s.heap.IsList l vs.toArray) (hi : IntsAre vs ns)
    (h : ∀ h' tk t', (∀ b o, s.heap.get? b = some o → h'.get? b = some o) → Q (.int ns.sum t') { s with heap := h', toks := tk }) :
    wpAny (model prog w) A (call (.builtin "sum") [.ref l]) Q E s := by
  obtain ⟨xs, hx⟩ := hi.allInts.items
  have hn : numsOf vs.toArray.toList = ns := by rw [show vs.toArray.toList = vs from rfl, hi.numsOf]
  rw [hx] at hl hn
  rw [nums_intItems] at hn
  refine sum_intListG hh hl fun h' tk t' hk => ?_
  have := h h' tk t' hk
  rwa [preSum_eq, List.take_of_length_le (by simp), hn]
end
/-- pairs of places and powers: their ints -/
theorem paired_pow {is : List Nat} {ys : List Value} (h : Paired (fun (i : Nat) y => ∃ t, y = Value.int ((2 ^ i : Nat) : Int) t) is ys) : IntsAre ys (is.map fun i => ((2 ^ i : Nat) : Int)) := by
  induction h with
  | nil => exact .nil
  | cons a _ ih => obtain ⟨t, rfl⟩ := a; exact .cons _ _ ih
end Mine
namespace Mine
section
variable {prog : Program} {w : World} {A : Around} {E : Value → Shared → Prop} {s : Shared} {env : Env}
/-- a comprehension over a list, bound to a name of the frame on its own row -/
theorem Assign_ListComp_lK {elt iter : Expr} {x y : Str} {px py : Pos} {ifs : List Expr} {scope : Scope} {cl : List (Str × Addr)} {pos spos : Pos} {Q : Flow → Shared → Prop} (p : Value → Bool) (F : Value → Value → Prop)
    (hsw : swapsWith (.ListComp elt [⟨.Name x px, iter, ifs, 0⟩] scope pos) (some (.Name y py)) spos.line env = pure true)
    (hh : A.handled = none) (hclos : closureFor scope env = pure cl) (hcell : ∀ y ∈ scope.names, y.2 ≠ .cell) (hkind : scope.kind = .function)
    (hnames : ∀ y ∈ scope.names, y.2 = .local → scope.names.lookup y.1 = some .local) (hx : scope.names.lookup x = some .local)
    (hy : env.kindOf y = some .local) (hp : (env.scope.kind == .class || (env.scope.kind == .module && env.locals != env.globals)) = false)
    (h : wpAny (model prog w) A (eval iter env) (fun xv s₁ => ∃ (ax : Addr) (items : List Value) (m : Str → Option Value), xv = .ref ax ∧ s₁.heap.IsList ax items.toArray ∧ items.length ≤ sizeLine ∧ s₁.heap.Ns env.locals m ∧
      (∀ C (i : Nat) v s₂ m₂ E', items[i]? = some v → s₂.heap.Ns C m₂ → m₂ x = some v → (∀ b o, s₁.heap.get? b = some o → s₂.heap.get? b = some o) →
        wpAny (model prog w) A (forIn ifs true fun c r => if r = true then do let ok ← isTrue c (compEnvC scope cl C env) (eval c (compEnvC scope cl C env)); pure (ForInStep.yield ok) else pure (ForInStep.yield r))
          (fun ok s₃ => ok = p v ∧ Keeps s₂ s₃) E' s₂) ∧
      (∀ C (i : Nat) v s₂ m₂ E', items[i]? = some v → p v = true → s₂.heap.Ns C m₂ → m₂ x = some v → (∀ b o, s₁.heap.get? b = some o → s₂.heap.get? b = some o) →
        wpAny (model prog w) A (eval elt (compEnvC scope cl C env)) (fun y s₃ => F v y ∧ Keeps s₂ s₃) E' s₂) ∧
      (∀ D (ys : List Value) h' tk, Paired F (items.filter p) ys → h'.PlainList D ys.toArray → s₁.heap.get? D = none → h'.Ns env.locals (fun z => if z = y then some (.ref D) else m z) →
        (∀ b o, b ≠ env.locals → s₁.heap.get? b = some o → h'.get? b = some o) → Q .next { s₁ with heap := h', toks := tk })) E s)
    (hs : ∀ x, foldedSetIterable iter env x = pure x := by intro _; rfl) :
    wpAny (model prog w) A (exec (.Assign [.Name y py] (.ListComp elt [⟨.Name x px, iter, ifs, 0⟩] scope pos) spos) env) Q E s := by
  refine wpAny_Assign_ListComp_free p F hsw hclos hcell hkind hnames hx hy hp (wpAny_mono h (fun xv s₁ h₁ => ?_) fun _ _ e => e) hs
  obtain ⟨ax, items, m, rfl, hl, hsz, hnL, htests, helt, hQ⟩ := h₁
  have hlt : ax < s₁.heap.objs.size := by obtain ⟨_, e, _⟩ := hl; exact Heap.lt_size e
  have hLt : env.locals < s₁.heap.objs.size := hnL.lt
  have up : ∀ (h' : Heap), (∀ b o, b ∉ [s₁.heap.objs.size] → (s₁.heap.push { cls := .type "list_iterator", data := .fields #[.ref ax, .int 0 0] }).get? b = some o → h'.get? b = some o) → ∀ b o, s₁.heap.get? b = some o → h'.get? b = some o :=
    fun h' hk b o e => hk b o (fun hm => by rcases List.mem_cons.mp hm with rfl | hm; exact Nat.lt_irrefl _ (Heap.lt_size e); cases hm) (Heap.get?_push_of_some _ e)
  refine wpAny_pyIter_list hl ⟨s₁.heap.objs.size, [s₁.heap.objs.size, ax], [s₁.heap.objs.size], items.toArray.size, _, _, m, rfl, Walks.list hh _ _ (Nat.ne_of_lt hlt) items.toArray, (by rw [List.size_toArray]; exact hsz), ⟨⟨_, Heap.get?_push_size _ rfl, rfl, rfl⟩, hl.push _⟩, ?_,
    (fun hm => by rw [List.mem_singleton.mp hm] at hLt; exact Nat.lt_irrefl _ hLt), hnL.at' fun o e => Heap.get?_push_of_some _ e, ⟨?_, ?_⟩, ?_⟩
  · intro b hb
    show b < (s₁.heap.push _).objs.size
    rw [Heap.size_push]
    rcases List.mem_cons.mp hb with rfl | hb
    · exact Nat.lt_succ_self _
    · rw [List.mem_singleton.mp hb]; exact Nat.lt_succ_of_lt hlt
  · intro C i v s₃ m₃ E' _ hP hn' hm hk _
    exact htests C i v s₃ m₃ E' (by simpa using hP) hn' hm (up s₃.heap hk)
  · intro C i v s₃ m₃ E' _ hP hp hn' hm hk _
    exact helt C i v s₃ m₃ E' (by simpa using hP) hp hn' hm (up s₃.heap hk)
  · intro D h' tk ys vs' hnew hlD hplD hlen hP hF hn' hk
    have hvs : vs' = items := by
      refine List.ext_getElem (by simpa using hlen) fun j h1 h2 => ?_
      have := hP j vs'[j] (by simp [h1])
      simp [h2] at this
      exact this.symm
    subst hvs
    refine hQ D ys.toList h' tk hF (by rw [Array.toArray_toList]; exact hplD) ?_ hn' ?_
    · cases e : s₁.heap.get? D with
      | none => rfl
      | some o => rw [Heap.get?_push_of_some _ e] at hnew; cases hnew
    · exact fun b o hbL e => hk b o hbL (fun hm => by rcases List.mem_cons.mp hm with rfl | hm; exact Nat.lt_irrefl _ (Heap.lt_size e); cases hm) (Heap.get?_push_of_some _ e)
end
end Mine
namespace Mine
section
variable {prog : Program} {w : World} {A : Around} {E : Value → Shared → Prop} {s : Shared} {env : Env}
/-- a comprehension over range(n), bound to a name of the frame on its own row, no test -/
theorem Assign_ListComp_rK {elt iter : Expr} {x y : Str} {px py : Pos} {scope : Scope} {cl : List (Str × Addr)} {pos spos : Pos} {Q : Flow → Shared → Prop} (F : Nat → Value → Prop)
    (hsw : swapsWith (.ListComp elt [⟨.Name x px, iter, [], 0⟩] scope pos) (some (.Name y py)) spos.line env = pure true)
    (hh : A.handled = none) (hclos : closureFor scope env = pure cl) (hcell : ∀ y ∈ scope.names, y.2 ≠ .cell) (hkind : scope.kind = .function)
    (hnames : ∀ y ∈ scope.names, y.2 = .local → scope.names.lookup y.1 = some .local) (hx : scope.names.lookup x = some .local)
    (hy : env.kindOf y = some .local) (hp : (env.scope.kind == .class || (env.scope.kind == .module && env.locals != env.globals)) = false)
    (h : wpAny (model prog w) A (eval iter env) (fun xv s₁ => ∃ (r : Addr) (n : Nat) (t u v : Tok) (m : Str → Option Value), xv = .ref r ∧ IsRange s₁.heap r 0 n 1 t u v ∧ n ≤ 1000 ∧ s₁.heap.Ns env.locals m ∧
      (∀ C i t s₂ m₂ E', i < n → s₂.heap.Ns C m₂ → m₂ x = some (.int (i : Nat) t) → (∀ b o, s₁.heap.get? b = some o → s₂.heap.get? b = some o) →
        wpAny (model prog w) A (eval elt (compEnvC scope cl C env)) (fun y s₃ => F i y ∧ Keeps s₂ s₃) E' s₂) ∧
      (∀ D (ys : List Value) h' tk, ys.length = n → (∀ i y, ys[i]? = some y → F i y) → h'.PlainList D ys.toArray → s₁.heap.get? D = none → h'.Ns env.locals (fun z => if z = y then some (.ref D) else m z) →
        (∀ b o, b ≠ env.locals → s₁.heap.get? b = some o → h'.get? b = some o) → Q .next { s₁ with heap := h', toks := tk })) E s)
    (hs : ∀ x, foldedSetIterable iter env x = pure x := by intro _; rfl) :
    wpAny (model prog w) A (exec (.Assign [.Name y py] (.ListComp elt [⟨.Name x px, iter, [], 0⟩] scope pos) spos) env) Q E s := by
  refine wpAny_Assign_ListComp_free (fun _ => true) (fun v y => ∃ (i : Nat) (t : Tok), v = .int i t ∧ F i y) hsw hclos hcell hkind hnames hx hy hp (wpAny_mono h (fun xv s₁ h₁ => ?_) fun _ _ e => e) hs
  obtain ⟨r, n, t, u, v, m, rfl, hr, hn, hnL, helt, hQ⟩ := h₁
  have hLt : env.locals < s₁.heap.objs.size := hnL.lt
  have up : ∀ (h' : Heap), (∀ b o, b ∉ [s₁.heap.objs.size] → (s₁.heap.push { cls := .type "range_iterator", data := .fields #[rawInt 0, rawInt (Builtin.Range.rangeSize 0 (n : Int) 1), rawInt 1] }).get? b = some o → h'.get? b = some o) → ∀ b o, s₁.heap.get? b = some o → h'.get? b = some o :=
    fun h' hk b o e => hk b o (fun hm => by rcases List.mem_cons.mp hm with rfl | hm; exact Nat.lt_irrefl _ (Heap.lt_size e); cases hm) (Heap.get?_push_of_some _ e)
  have pat : ∀ (i : Nat) v, (i < n ∧ ∃ t, v = Value.int (0 + (i : Int) * 1) t) → i < n ∧ ∃ t, v = .int (i : Nat) t := by
    rintro i v ⟨h1, t, rfl⟩
    exact ⟨h1, t, by congr 1; omega⟩
  refine wpAny_pyIter_range hr (range_small n hn) ⟨s₁.heap.objs.size, [s₁.heap.objs.size], [s₁.heap.objs.size], n, _, _, m, rfl, (Walks.range hh _ 0 1 n).bound, by rw [sizeLine_eq]; omega, (by show IsRangeIter _ _ _ _ _; rw [range_size]; simpa using Heap.get?_push_size _ rfl), ?_,
    (fun hm => by rw [List.mem_singleton.mp hm] at hLt; exact Nat.lt_irrefl _ hLt), hnL.at' fun o e => Heap.get?_push_of_some _ e, ⟨?_, ?_⟩, ?_⟩
  · intro b hb
    show b < (s₁.heap.push _).objs.size
    rw [Heap.size_push]
    rcases List.mem_cons.mp hb with rfl | hb
    · exact Nat.lt_succ_self _
    · cases hb
  · intro C i v s₃ m₃ E' _ hP hn' hm hk _
    exact wpAny_pure ⟨rfl, s₃.heap, s₃.toks, rfl, fun _ _ e => e⟩
  · intro C i v s₃ m₃ E' _ hP _ hn' hm hk _
    obtain ⟨hi, t, rfl⟩ := pat i v hP
    exact wpAny_mono (helt C i t s₃ m₃ E' hi hn' hm (up s₃.heap hk)) (fun y s₄ h₄ => ⟨⟨i, t, rfl, h₄.1⟩, h₄.2⟩) fun _ _ e => e
  · intro D h' tk ys vs' hnew hlD hplD hlen hP hF hn' hk
    rw [List.filter_eq_self.mpr (fun _ _ => rfl)] at hF
    have hyl : ys.toList.length = n := hF.length.symm.trans hlen
    refine hQ D ys.toList h' tk hyl ?_ (by rw [Array.toArray_toList]; exact hplD) ?_ hn' ?_
    · have gen : ∀ {as bs : List Value}, Paired (fun v y => ∃ (i : Nat) (t : Tok), v = Value.int i t ∧ F i y) as bs → ∀ (j : Nat) (y : Value), bs[j]? = some y → ∃ v, as[j]? = some v ∧ ∃ (i : Nat) (t : Tok), v = Value.int i t ∧ F i y := by
        intro as bs h
        induction h with
        | nil => intro j y e; simp at e
        | cons a _ ih =>
          intro j y e
          cases j with
          | zero => simp at e; subst e; exact ⟨_, rfl, a⟩
          | succ j => simpa using ih j y (by simpa using e)
      intro j y hj
      obtain ⟨v, hv, i, t, rfl, hFi⟩ := gen hF j y hj
      obtain ⟨_, t', e⟩ := pat j _ (hP j _ hv)
      obtain ⟨e, _⟩ := Value.int.inj e
      have : i = j := by omega
      exact this ▸ hFi
    · cases e : s₁.heap.get? D with
      | none => rfl
      | some o => rw [Heap.get?_push_of_some _ e] at hnew; cases hnew
    · exact fun b o hbL e => hk b o hbL (fun hm => by rcases List.mem_cons.mp hm with rfl | hm; exact Nat.lt_irrefl _ (Heap.lt_size e); cases hm) (Heap.get?_push_of_some _ e)
end
end Mine
end

section
open PySem PySem.W PySem.Calls PySem.Spec PyProof.Rows
set_option maxRecDepth 100000
namespace Mine
theorem upd_app {d : Addr} {o o' : Obj} {r r' : List (Addr × Obj)} : ∀ {own : List (Addr × Obj)}, (∀ p ∈ own, p.1 ≠ d) → Upd d o o' r r' → Upd d o o' (own ++ r) (own ++ r')
  | [], _, h => h
  | p :: own, ho, h => .tail (ho p (.head _)) (upd_app (fun q hq => ho q (.tail _ hq)) h)
theorem updF_app {d : Addr} {o : Obj} {r : List (Addr × Obj)} {g : Obj → List (Addr × Obj)} : ∀ {own : List (Addr × Obj)}, (∀ p ∈ own, p.1 ≠ d) → UpdF d o r g → UpdF d o (own ++ r) (fun o' => own ++ g o')
  | [], _, h => h
  | p :: own, ho, h => .tail (ho p (.head _)) (updF_app (fun q hq => ho q (.tail _ hq)) h)

theorem kf_ints_of {vs : List Value} {ns : List Int} (h : IntsAre vs ns) : kf_ints vs = true := by
  induction h with
  | nil => rfl
  | cons _ _ _ ih => exact ih
theorem kf_at_of {k : Int} {vs : List Value} {ns : List Int} (h : IntsAre vs ns) (hk : k ∈ ns) : kf_at k vs = some (ns.idxOf k) := by
  induction h with
  | nil => cases hk
  | cons n t _ ih =>
    rw [kf_at]
    by_cases e : n = k
    · subst e
      simp [isInt, List.idxOf_cons]
    · have e' : (n == k) = false := by simpa using e
      have := ih ((List.mem_cons.mp hk).resolve_left (fun q => e q.symm))
      simp [isInt, List.idxOf_cons, e', this]

section
variable {prog : Program} {w : World} {A : Around} {E : Value → Shared → Prop} {s : Shared}
theorem here (D : Addr) {o : Obj} (ho : s.heap.get? D = some o) : News {} (D + 1) s.heap [(D, o)] := fun p hp => by
  rw [List.mem_singleton.mp hp]
  exact ⟨ho, Nat.ne_of_lt (Nat.lt_succ_self _), rfl⟩
theorem index_l {D : Addr} {vs : List Value} {n : Nat} {ns : List Int} {k : Int} {t : Tok} {Q : Value → Shared → Prop} (ho : s.heap.get? D = some { cls := .type "list", data := .seq vs.toArray n }) (hi : IntsAre vs ns) (hk : k ∈ ns) (hz : vs.length ≤ sizeLine)
    (h : Q (.int ((ns.idxOf k : Nat) : Int) s.toks) { s with toks := s.toks + 1 }) : wpAny (model prog w) A (call (.builtin "list.index") [.ref D, .int k t]) Q E s :=
  kf_index (its := vs.toArray) (n := n) (here D ho) (.head _) (kf_ints_of hi) (kf_at_of hi hk) rfl (by simpa using hz) h
theorem method_l {D : Addr} {its : Array Value} {n : Nat} {name : Str} {id : String} {pl : Sem Bool} {Q : Value × List Value → Shared → Prop} (slot : Slot "list" name id) (hty : typeOf (.builtin id) = pure (.type "method_descriptor"))
    (ho : s.heap.get? D = some { cls := .type "list", data := .seq its n }) (h : Q (.builtin id, [.ref D]) s) : wpAny (model prog w) A (getMethod (.ref D) name pl) Q E s :=
  kf_method (its := its) (n := n) (here D ho) (.head _) slot hty h
end
end Mine
namespace Mine
section
variable {prog : Program} {w : World} {A : Around} {E : Value → Shared → Prop} {s : Shared}
theorem addG {l b : Addr} {vs ws : List Value} {Q : Value → Shared → Prop} (hl : s.heap.IsList l vs.toArray) (hb : s.heap.IsList b ws.toArray)
    (h : Q (.ref s.heap.objs.size) { s with heap := s.heap.push { cls := .type "list", data := .seq (vs ++ ws).toArray } }) (hsz : vs.length + ws.length ≤ sizeLine) :
    wpAny (model prog w) A (binaryOp .Add (.ref l) (.ref b)) Q E s := by
  obtain ⟨⟨cls, dd, data, sl⟩, ho, hc, n, hd⟩ := id hl
  obtain ⟨⟨cls2, dd2, data2, sl2⟩, ho2, hc2, n2, hd2⟩ := id hb
  simp only at hc hd hc2 hd2
  subst hc hd hc2 hd2
  have e : vs.toArray ++ ws.toArray = (vs ++ ws).toArray := by simp
  refine concat_meets ⟨_, ho, rfl⟩ ⟨_, ho2, rfl⟩ noFill_list_add seq_list_add PySem.F.slot_list_add PySem.F.entry_list_add (PySem.F.args_list_add_2 _ _) (list_addW l b vs.toArray ws.toArray n n2 dd dd2 sl sl2 (by simpa using hsz)) ⟨ho, ho2, ?_⟩
  rw [e]
  exact h
theorem newListG {vs : List Value} {Q : Value → Shared → Prop} (h : Q (.ref s.heap.objs.size) { s with heap := s.heap.push { cls := .type "list", data := .seq vs.toArray } }) (hsz : vs.length ≤ sizeLine) :
    wpAny (model prog w) A (newList vs) Q E s := wpAny_newObj_type h (by show vs.toArray.size ≤ sizeLine; rw [List.size_toArray]; exact hsz)
theorem sliceG {value slice : Expr} {l : Addr} {items : List Value} {vl vu : Value} {lo hi : Option Int} {Q : Value → Shared → Prop} (hl : s.heap.IsList l items.toArray) (pl : IsPart vl lo) (pu : IsPart vu hi)
    (h : Q (.ref (s.heap.objs.size + 1)) { s with heap := (s.heap.push { cls := .type "slice", data := .fields #[vl, vu, .none] }).push { cls := .type "list", data := .seq (slicePick items.toArray lo hi none) } })
    (hsz : items.length ≤ sizeLine)
    (hs : subscripted slice false (.ref l) (.ref s.heap.objs.size) = operate [.ref s.heap.objs.size, .ref l] (getItem (.ref l) (.ref s.heap.objs.size)) := by with_unfolding_all rfl) :
    wpAny (model prog w) A (subscriptTail value slice (.ref l) (.ref s.heap.objs.size)) Q E { s with heap := s.heap.push { cls := .type "slice", data := .fields #[vl, vu, .none] } } := by
  refine kba_turn (value' := PySem.Expr.Name (PySem.Str.ofString "_") ⟨0, 0, 0, 0⟩) (fun _ => rfl) ?_
  refine subscriptTail_ops (Heap.IsList.typeIs (s := { s with heap := s.heap.push { cls := .type "slice", data := .fields #[vl, vu, .none] } }) (hl.push _)) list_getitem_lookup
    (wpAny_getItem_list_slice (hl.push _) (Heap.IsSliceOf.new ..) pl pu .none (by simp) ?_ (by rw [List.size_toArray]; exact hsz)) hs (by intro _; rfl)
  show Q (.ref (s.heap.push _).objs.size) _
  rw [Heap.size_push]
  exact h
/-- an item of a list, whatever names it -/
theorem itemG {value slice : Expr} {l : Addr} {vs : List Value} {k : Int} {u : Tok} {x : Value} {Q : Value → Shared → Prop} (hl : s.heap.IsList l vs.toArray) (h0 : 0 ≤ k) (hfit : k < 2 ^ 63) (hx : vs[k.toNat]? = some x) (h : Q x s)
    (hs : subscripted slice false (.ref l) (.int k u) = operate [.ref l, .int k u] (getItem (.ref l) (.int k u)) := by with_unfolding_all rfl) :
    wpAny (model prog w) A (subscriptTail value slice (.ref l) (.int k u)) Q E s :=
  kba_turn (value' := PySem.Expr.Name (PySem.Str.ofString "_") ⟨0, 0, 0, 0⟩) (fun _ => rfl) (item_listL hl h0 hfit hx h hs (by intro _; rfl))
theorem itemBackG {value slice : Expr} {l : Addr} {vs : List Value} {k : Int} {u : Tok} {x : Value} {j : Nat} {Q : Value → Shared → Prop} (hl : s.heap.IsList l vs.toArray) (h0 : k < 0) (hlo : -(2 ^ 63) ≤ k) (hj : seqIndex? k vs.length = some j) (hx : vs[j]? = some x) (h : Q x s)
    (hs : subscripted slice false (.ref l) (.int k u) = operate [.ref l, .int k u] (getItem (.ref l) (.int k u)) := by with_unfolding_all rfl) :
    wpAny (model prog w) A (subscriptTail value slice (.ref l) (.int k u)) Q E s :=
  kde_neg hl h0 hlo hj hx h hs
end
end Mine
namespace Mine
section
variable {prog : Program} {w : World} {A : Around} {E : Value → Shared → Prop} {s : Shared}
theorem lenG {l : Addr} {vs : List Value} {Q : Value → Shared → Prop} (hl : s.heap.IsList l vs.toArray) (hfit : vs.length ≤ 16777216)
    (h : Q (.int ((vs.length : Nat) : Int) (s.toks + 1)) { s with toks := s.toks + 1 + 1 }) : wpAny (model prog w) A (call (.builtin "len") [.ref l]) Q E s := by
  refine len_list hl (by rw [List.size_toArray]; omega) ?_
  rw [List.size_toArray]
  exact h
end
end Mine
namespace Mine
/-- a row of written ints -/
inductive LitInts : List PySem.Expr → List Int → Prop
  | nil : LitInts [] []
  | cons {n : Int} {k : Nat} {p : Pos} {es : List PySem.Expr} {ns : List Int} : LitInts es ns → LitInts (.Constant (.int n) k p :: es) (n :: ns)
theorem lit_ints {M : Model} {A : Around} {E : Value → Shared → Prop} {env : Env} {pos : Pos} {es : List PySem.Expr} {ns : List Int} (h : LitInts es ns) : ∀ {s : Shared} {Q : List Value → Shared → Prop}, (∀ vs tk, IntsAre vs ns → Q vs { s with toks := tk }) → wpAny M A (spliced (backTo pos (starEach es env))) Q E s := by
  induction h with
  | nil => intro s Q hQ; exact args_nil (hQ [] s.toks .nil)
  | cons _ ih =>
    intro s Q hQ
    exact args_cons (wpAny_Constant_int (ih fun vs tk hv => hQ _ tk (.cons _ _ hv)))
end Mine
namespace Mine
section
variable {prog : Program} {w : World} {A : Around} {E : Value → Shared → Prop} {s : Shared} {h₀ : Heap} {L : Addr} {m : Str → Option Value} {news : List (Addr × Obj)}
/-- append to a list of the ledger: what is elsewhere stays -/
theorem append_R {D : Addr} {its : List Value} {n : Nat} {x : Value} {Q : Value → Shared → Prop} (F : Fr h₀ L s.heap m) (N : News h₀ L s.heap news) (hm : (D, ({ cls := .type "list", data := .seq its.toArray n } : Obj)) ∈ news) (hsz : its.length ≤ 16777216)
    (h : ∀ h', Fr h₀ L h' m → (∀ p ∈ news, p.1 ≠ D → h'.get? p.1 = some p.2 ∧ p.1 ≠ L ∧ h₀.get? p.1 = none) → (h'.get? D = some { cls := .type "list", data := .seq (its ++ [x]).toArray (n + 1) } ∧ D ≠ L ∧ h₀.get? D = none) → Q .none { s with heap := h' }) :
    wpAny (model prog w) A (call (.builtin "list.append") [.ref D, x]) Q E s := by
  have hD := N _ hm
  have N1 : News h₀ L s.heap [(D, ({ cls := .type "list", data := .seq its.toArray n } : Obj))] := fun p hp => by rw [List.mem_singleton.mp hp]; exact hD
  have gen : ∀ (P : Prop), P → P := fun _ h => h
  -- one entry at a time: any other place keeps what it has
  refine append_K (its := its.toArray) (n := n) (news := (D, { cls := .type "list", data := .seq its.toArray n }) :: news.filter fun p => p.1 != D) (news' := (D, { cls := .type "list", data := .seq (its.toArray.push x) (n + 1) }) :: news.filter fun p => p.1 != D) F ?_ (.head fun p hp => by simpa using (List.mem_filter.mp hp).2) (fun h' F' N' => ?_) (by rw [sizeLine_eq, List.size_toArray]; exact hsz)
  · intro p hp
    rcases List.mem_cons.mp hp with rfl | hp
    · exact hD
    · exact N p (List.mem_filter.mp hp).1
  · refine h h' F' (fun p hp hne => N' p (.tail _ (List.mem_filter.mpr ⟨hp, by simpa using hne⟩))) ?_
    have := N' _ (.head _)
    simpa using this
end
end Mine
end

section
open PySem PySem.W PySem.Calls PySem.Spec PyProof.Rows
set_option maxRecDepth 100000
namespace Mine

noncomputable abbrev PG : Program := PySem.Challenge.rw_rw0040_01.row.prog

set_option maxHeartbeats 4000000 in
theorem spread_call {w : World} {A : Around} {E : Value → Shared → Prop} {s : Shared} {loose : List Str} {mean : ExcName → Option Value} {mg mb : Str → Option Value}
    (X : Frag.In (hd.heap_39 w.params) s.heap) {pv : Program} (T : Top pv loose mean mg mb s.heap) (hroom : A.depth < recursionLimit) (p g : Nat) (tp tg : Tok) :
    wpAny (model PySem.Challenge.rw_rw0040_01.row.prog w) A (call (.ref 60) [.int p tp, .int g tg]) (fun v s' => (∃ t, v = .int (spread g p) t) ∧ Keeps s s') E s := by
  revert X
  k_fill
  intro X
  refine' enter (binds := [(Str.ofString "places", .int p tp), (Str.ofString "gaps", .int g tg)]) X T ?ho ?hcd hroom ?hb ?hl ?_ ?c2 ?c3 ?c4 ?c5
  case ho => k_is
  case hcd => k_is
  case hb => exact BindsTo.of_eq rfl
  case hl => exact locs rfl
  case c2 => rfl
  case c3 => rfl
  case c4 => rfl
  case c5 => decide
  intro h₁ F N
  refine wpAny_execs_cons ?_
  refine wpAny_While (codeAny_whileLoop (fun n s' => ∃ h' m q tq tk, s' = { s with heap := h', toks := tk } ∧ Fr s.heap s.heap.objs.size h' m ∧ m (Str.ofString "places") = some (.int (q : Nat) tq) ∧ m (Str.ofString "gaps") = some (.int g tg) ∧
    Mid g p q ∧ q < 2 ^ (g + p + 2) ∧ n = 2 ^ (g + p + 2) - q) ?_ (2 ^ (g + p + 2) - p) ?_)
  case refine_2 => exact ⟨h₁, _, p, tp, _, rfl, F, rfl, rfl, Mid.start g p, (spread_room g p).1, rfl⟩
  rintro n _ ⟨h', m, q, tq, tk, rfl, F', mp, mq, hmid, hlt, rfl⟩
  have e1 : Builtin.bitOr (q : Int) (((q &&& g : Nat) : Int) * 2) = ((sp1 g q : Nat) : Int) := by
    rw [show (((q &&& g : Nat) : Int) * 2) = (((q &&& g) * 2 : Nat) : Int) from by omega, bitOr_nat]; rfl
  refine wpAny_isTrue_Compare1 (wpAny_BinOp (ld F' mp (wpAny_BinOp (wpAny_BinOp (ld F' mp (ld F' mq (and_int (wpAny_Constant_int ?_))))))))
  rw [bitAnd_nat]
  refine mul_int (or_int ?_)
  rw [e1]
  refine ld F' mp (ne_int (wpAny_truthy_bool ?_))
  by_cases hc : sp1 g q = q
  · rw [hc]
    have : ((q : Int) != (q : Int)) = false := by simp
    rw [this]
    refine wpAny_execs_nil ?_
    refine wpAny_execs_cons (wpAny_Return_some (ld F' mp ?_))
    rw [spread_of hmid hc]
    exact ⟨⟨_, rfl⟩, keeps_of_fr F'⟩
  · have : (((sp1 g q : Nat) : Int) != (q : Int)) = true := by simp; omega
    rw [this]
    refine wpAny_execs_cons (wpAny_Assign_Name (wpAny_BinOp (ld F' mp (wpAny_BinOp (wpAny_BinOp (ld F' mp (ld F' mq (and_int (wpAny_Constant_int ?_)))))))))
    rw [bitAnd_nat]
    refine mul_int (or_int ?_)
    rw [e1]
    refine st F' ?_
    intro h2 F2
    refine wpAny_execs_nil ?_
    have hlt2 := sp1_lt (g := g) hlt (spread_room g p).2
    have hle := sp1_le g q
    exact ⟨_, by omega, h2, _, sp1 g q, _, _, rfl, F2, rfl, mq, hmid.step, hlt2, rfl⟩
end Mine
end

section
open PySem PySem.W PySem.Calls PySem.Spec PyProof.Rows
set_option maxRecDepth 100000
namespace Mine

set_option maxHeartbeats 4000000 in
theorem ist_call {w : World} {dp un : Nat} {fr : Option (List Env)} {gd : Option (List Code)} {E : Value → Shared → Prop} {s : Shared} {loose : List Str} {mean : ExcName → Option Value} {mg mb : Str → Option Value}
    (X : Frag.In (hd.heap_39 w.params) s.heap) {pv : Program} (T : Top pv loose mean mg mb s.heap) (hroom : dp < recursionLimit) (x : Int) (tx : Tok) :
    wpAny (model PySem.Challenge.rw_rw0040_01.row.prog w) { handled := none, depth := dp, frames := fr, guards := gd, units := un } (call (.ref 46) [.int x tx]) (fun v s' => v = .bool (decide (x < 256)) ∧ Keeps s s') E s := by
  revert X
  k_fill
  intro X
  refine' enter (binds := [(Str.ofString "x", .int x tx)]) X T ?ho ?hcd hroom ?hb ?hl ?_ ?c2 ?c3 ?c4 ?c5
  case ho => k_is
  case hcd => k_is
  case hb => exact BindsTo.of_eq rfl
  case hl => exact locs rfl
  case c2 => rfl
  case c3 => rfl
  case c4 => rfl
  case c5 => decide
  intro h₁ F N
  have TR := topRead_of T
  have gN : nsIn (hd.heap_39 w.params) mainGlobals (Str.ofString "NT_OFFSET") = some (some (.int 256 237)) := by k_is
  refine wpAny_execs_cons ?_
  refine wpAny_Return_some ?_
  refine wpAny_Compare1 ?_
  refine ld F rfl ?_
  refine name_K F X TR gN ?_
  refine lt_int ?_
  exact ⟨rfl, keeps_of_fr F⟩

set_option maxHeartbeats 4000000 in
theorem ise_call {w : World} {dp un : Nat} {fr : Option (List Env)} {gd : Option (List Code)} {E : Value → Shared → Prop} {s : Shared} {loose : List Str} {mean : ExcName → Option Value} {mg mb : Str → Option Value}
    (X : Frag.In (hd.heap_39 w.params) s.heap) {pv : Program} (T : Top pv loose mean mg mb s.heap) (hroom : dp < recursionLimit) (x : Int) (tx : Tok) :
    wpAny (model PySem.Challenge.rw_rw0040_01.row.prog w) { handled := none, depth := dp, frames := fr, guards := gd, units := un } (call (.ref 53) [.int x tx]) (fun v s' => v = .bool (x == 0) ∧ Keeps s s') E s := by
  revert X
  k_fill
  intro X
  refine' enter (binds := [(Str.ofString "x", .int x tx)]) X T ?ho ?hcd hroom ?hb ?hl ?_ ?c2 ?c3 ?c4 ?c5
  case ho => k_is
  case hcd => k_is
  case hb => exact BindsTo.of_eq rfl
  case hl => exact locs rfl
  case c2 => rfl
  case c3 => rfl
  case c4 => rfl
  case c5 => decide
  intro h₁ F N
  have TR := topRead_of T
  have gN : nsIn (hd.heap_39 w.params) mainGlobals (Str.ofString "ENDMARKER") = some (some (.int 0 235)) := by k_is
  refine wpAny_execs_cons ?_
  refine wpAny_Return_some ?_
  refine wpAny_Compare1 ?_
  refine ld F rfl ?_
  refine name_K F X TR gN ?_
  refine IsLeap.wpAny_eq_int' ?_
  exact ⟨rfl, keeps_of_fr F⟩
end Mine
end

section
open PySem PySem.W PySem.Calls PySem.Spec PyProof.Rows
set_option maxRecDepth 100000
namespace Mine

/-- between the statements: the row of parts, the two ends -/
def ES (s : Shared) (L : Addr) (got : Str) (tg : Tok) (l : List (Str × Tok)) (sp ep : Nat) (s' : Shared) : Prop :=
  ∃ h tk a n m, s' = { s with heap := h, toks := tk } ∧ Fr s.heap L h m ∧ News s.heap L h [(a, { cls := .type "list", data := .seq (strValues l).toArray n })] ∧
    m (Str.ofString "ws") = some (.ref a) ∧ m (Str.ofString "got") = some (.str got tg) ∧ (∃ t, m (Str.ofString "startpos") = some (.int (sp : Nat) t)) ∧ ∃ t, m (Str.ofString "endpos") = some (.int (ep : Nat) t)

theorem sv_tail (l : List (Str × Tok)) : ((strValues l).toArray.toList.eraseIdx 0).toArray = (strValues l.tail).toArray := by
  cases l with
  | nil => rfl
  | cons p r => rfl
theorem sv_last (l : List (Str × Tok)) : ((strValues l).toArray.toList.eraseIdx (l.length - 1)).toArray = (strValues l.dropLast).toArray := by
  congr 1
  show (strValues l).eraseIdx (l.length - 1) = strValues l.dropLast
  unfold strValues
  rw [List.map_dropLast]
  have := List.dropLast_eq_take (l := l.map fun p => Value.str p.1 p.2)
  rw [this, List.eraseIdx_eq_take_drop_succ, List.drop_eq_nil_of_le (by rw [List.length_map]; omega), List.append_nil, List.length_map]
  
set_option maxHeartbeats 4000000 in
theorem ell_call {w : World} {dp un : Nat} {fr : Option (List Env)} {gd : Option (List Code)} {E : Value → Shared → Prop} {s : Shared} {loose : List Str} {mean : ExcName → Option Value} {mg mb : Str → Option Value}
    (X : Frag.In (hd.heap_39 w.params) s.heap) {pv : Program} (T : Top pv loose mean mg mb s.heap) (hroom : dp < recursionLimit) (want got : Str) (tp tg : Tok) (hw : want.length ≤ 1000) (hg : got.length ≤ 1000) :
    wpAny (model PySem.Challenge.rw_rw0040_01.row.prog w) { handled := none, depth := dp, frames := fr, guards := gd, units := un } (call (.ref 21) [.str want tp, .str got tg]) (fun v s' => v = .bool (ematch want got) ∧ Keeps s s') E s := by
  revert X
  k_fill
  intro X
  refine' enter (binds := [(Str.ofString "want", .str want tp), (Str.ofString "got", .str got tg)]) X T ?ho ?hcd hroom ?hb ?hl ?_ ?c2 ?c3 ?c4 ?c5
  case ho => k_is
  case hcd => k_is
  case hb => exact BindsTo.of_eq rfl
  case hl => exact locs rfl
  case c2 => rfl
  case c3 => rfl
  case c4 => rfl
  case c5 => decide
  intro h₁ F N
  have TR := topRead_of T
  have gM : nsIn (hd.heap_39 w.params) mainGlobals (Str.ofString "ELLIPSIS_MARKER") = some (some (.str (Str.ofString "...") 189)) := by k_is
  have gL : nsIn (hd.heap_39 w.params) mainGlobals (Str.ofString "len") = some none := by k_is
  have bL : bootBuiltins (Str.ofString "len") = some (.builtin "len") := by boot_fast
  have hgs : ¬((got.length : Int) ≥ 2 ^ 63) := by omega
  -- no dots
  refine seq (fun s' => ∃ tk, s' = { s with heap := h₁, toks := tk } ∧ (Builtin.Str.occurrences want dots 0 want.length 1).isEmpty = false) ?_ ?_
  · refine wpAny_If (wpAny_isTrue_Compare1 (name_K F X TR gM (ld F rfl (notIn_str (wpAny_truthy_bool ?_)))))
    cases hd : (Builtin.Str.occurrences want dots 0 want.length 1).isEmpty with
    | true =>
      have hd' : (Builtin.Str.occurrences want (Str.ofString "...") 0 want.length 1).isEmpty = true := hd
      simp only [hd', Bool.not_true, Bool.not_false, if_true]
      refine wpAny_execs_cons (wpAny_Return_some (wpAny_Compare1 (ld F rfl (ld F rfl (eq_str ?_)))))
      refine ⟨?_, keeps_of_fr F⟩
      rw [ematch, if_pos hd]
    | false =>
      have hd' : (Builtin.Str.occurrences want (Str.ofString "...") 0 want.length 1).isEmpty = false := hd
      simp only [hd', Bool.not_true, Bool.not_false, Bool.false_eq_true, if_false]
      exact wpAny_execs_nil ⟨_, rfl, trivial⟩
  rintro _ ⟨tk0, rfl, hd⟩
  -- ws = want.split
  refine wpAny_execs_cons (wpAny_Assign_Name (MethodCall_ (ld F rfl (GM.split (callWith_method1 (args_cons (name_K F X TR gM (args_nil ?_))))))))
  refine splitN1A F N (by decide) (fun l h2 k hl hSA hlen hIL F2 N2 => ?_) (by rw [sizeLine_eq]; omega)
  have hl2 : 2 ≤ l.length := by
    have := split_two hd
    rw [show dots = Str.ofString "..." from rfl, ← hl, List.length_map] at this
    exact this
  have hlmax : l.length ≤ want.length + 2 := len_le_of_split hl
  refine stN F2 N2 fun h3 F3 N3 => ?_
  -- assert len(ws) >= 2
  refine wpAny_execs_cons ?_
  refine wpAny_Assert_new rfl ?_
  refine wpAny_isTrue_Compare1 ?_
  refine Call_ ?_
  refine name_B F3 X TR gL bL (by decide) ?_
  refine PyProof.Rows.callWith_builtin1 ?_
  refine args_cons ?_
  refine ld F3 rfl ?_
  refine args_nil ?_
  refine len_strs (l := l) (N3.isList (.head _)) (by omega) ?_
  refine wpAny_Constant_int ?_
  refine ge_int ?_
  refine wpAny_truthy_bool ?_
  rw [if_pos (decide_eq_true (by omega))]
  -- startpos, endpos
  refine seq (ES s s.heap.objs.size got tg l 0 got.length) ?_ ?_
  · refine Assign_Tuple_swapped (names := [Str.ofString "startpos", Str.ofString "endpos"]) ?_
    refine Tuple_ ?_
    refine args_cons ?_
    refine wpAny_Constant_int ?_
    refine args_cons ?_
    refine Call_ ?_
    refine name_B F3 X TR gL bL (by decide) ?_
    refine PyProof.Rows.callWith_builtin1 ?_
    refine args_cons ?_
    refine ld F3 rfl ?_
    refine args_nil ?_
    refine P.len_str hgs ?_
    refine args_nil ?_
    refine newTuple_N F3 N3 (fun h4 F4 N4 => ?_) (by show 2 ≤ sizeLine; rw [sizeLine_eq]; decide)
    refine unpackItemsN_ F4 N4 (N4.isTup (.head _)) rfl rfl fun h5 F5 N5 => ?_
    refine assignInOrder_cons ?_
    refine bindName_ ?_
    refine stN F5 N5 fun h6 F6 N6 => ?_
    refine assignInOrder_cons ?_
    refine bindName_ ?_
    refine stN F6 N6 fun h7 F7 N7 => ?_
    refine assignInOrder_nil ?_
    exact ⟨h7, _, _, 0, _, rfl, F7, fun p hp => N7 p (.tail _ hp), rfl, rfl, ⟨_, rfl⟩, ⟨_, rfl⟩⟩
  rintro _ ⟨h4, tk4, a, n, m, rfl, F4, N4, mws, mgot, ⟨t1, msp⟩, t2, mep⟩
  have hem : ematch want got = em1 got (l.map (·.1)) := by
    rw [ematch, if_neg (by rw [hd]; exact Bool.false_ne_true), hl]; rfl
  obtain ⟨w0, t0, l1, rfl⟩ : ∃ w0 t0 l1, l = (w0, t0) :: l1 := by
    cases l with
    | nil => simp at hl2
    | cons p r => exact ⟨p.1, p.2, r, rfl⟩
  have hw0 : w0.length ≤ want.length := hlen w0 (by simp)
  rw [List.length_cons] at hl2 hlmax
  -- w = ws[0]
  refine wpAny_execs_cons ?_
  refine wpAny_Assign_Name ?_
  refine Subscript_ ?_
  refine ld F4 mws ?_
  refine wpAny_Constant_int ?_
  refine item_listL (x := .str w0 t0) (N4.isList (.head _)) (by decide) (by decide) rfl ?_
  refine stN F4 N4 fun h5 F5 N5 => ?_
  refine seq (fun s' => ∃ l' sp, ES s s.heap.objs.size got tg l' sp got.length s' ∧ l' ≠ [] ∧ l'.length ≤ 1002 ∧ (∀ p ∈ l', p.1.length ≤ 1000) ∧ sp ≤ 1000 ∧ ematch want got = em2 got (l'.map (·.1)) sp) ?_ ?_
  · refine wpAny_If ?_
    refine isTrue_plain ?_
    refine ld F5 rfl ?_
    refine SBL.truthy (by omega) ?_
    by_cases hz : w0.length = 0
    · rw [if_neg (by simp [hz])]
      refine wpAny_execs_nil ⟨(w0, t0) :: l1, 0, ⟨h5, _, a, n, _, rfl, F5, N5, mws, mgot, ⟨_, msp⟩, _, mep⟩, by simp, by simp; omega, fun p hp => Nat.le_trans (hlen p.1 (List.mem_map_of_mem hp)) hw, by omega, ?_⟩
      rw [hem]; simp [em1, hz]
    · rw [if_pos (by simp [hz])]
      refine wpAny_execs_cons ?_
      refine wpAny_If ?_
      refine isTrue_plain ?_
      refine MethodCall_ ?_
      refine ld F5 mgot ?_
      refine GM.startswith ?_
      refine callWith_method1 ?_
      refine args_cons ?_
      refine ld F5 rfl ?_
      refine args_nil ?_
      refine SC.startswith ?_
      refine wpAny_truthy_bool ?_
      cases hsw : Txt.startswith got w0 with
      | false =>
        simp only [Bool.false_eq_true, if_false]
        refine wpAny_execs_cons ?_
        refine wpAny_Return_some ?_
        refine wpAny_Constant_bool ?_
        refine ⟨?_, keeps_of_fr F5⟩
        rw [hem]; simp [em1, hz, hsw]
      | true =>
        simp only [if_true]
        refine wpAny_execs_cons ?_
        refine wpAny_Assign_Name ?_
        refine Call_ ?_
        refine name_B F5 X TR gL bL (by decide) ?_
        refine PyProof.Rows.callWith_builtin1 ?_
        refine args_cons ?_
        refine ld F5 rfl ?_
        refine args_nil ?_
        refine P.len_str (by omega) ?_
        refine stN F5 N5 fun h6 F6 N6 => ?_
        refine wpAny_execs_cons ?_
        refine wpAny_Delete ?_
        refine wpAny_deleteEach_cons ?_
        refine wpAny_delete_Subscript ?_
        refine ld F6 mws ?_
        refine wpAny_Constant_int ?_
        refine delItem_head (k := 0) F6 N6 (by intro p hp; cases hp) (by decide) (seqIndex_at (by decide) (by simp [strValues])) (fun h7 F7 N7 => ?_) (by rw [sizeLine_eq]; simp [strValues]; omega)
        rw [sv_tail] at N7
        refine wpAny_deleteEach_nil ?_
        refine wpAny_execs_nil ?_
        refine wpAny_execs_nil ?_
        refine ⟨l1, w0.length, ⟨h7, _, a, _, _, rfl, F7, N7, mws, mgot, ⟨_, rfl⟩, _, mep⟩, ?_, by omega, fun p hp => Nat.le_trans (hlen p.1 (List.mem_map_of_mem (List.mem_cons_of_mem _ hp))) hw, by omega, ?_⟩
        · rintro rfl; simp at hl2
        · rw [hem]; simp [em1, hz, hsw]
  clear F N N4 F4 mws mgot msp mep F5 N5 N3 F3 N2 F2 hl hem hSA hlen hIL
  rintro _ ⟨l', sp, ⟨h5, tk5, a, n, m, rfl, F5, N5, mws, mgot, ⟨t3, msp⟩, t4, mep⟩, hne, hle, hlen, hsp, hem⟩
  -- w = ws[-1]
  obtain ⟨l2, w1, t5, rfl⟩ : ∃ l2 w1 t5, l' = l2 ++ [(w1, t5)] := ⟨l'.dropLast, (l'.getLast hne).1, (l'.getLast hne).2, (List.dropLast_concat_getLast hne).symm⟩
  have hw1 : w1.length ≤ 1000 := hlen (w1, t5) (by simp)
  rw [List.length_append, List.length_singleton] at hle
  have hvs : strValues (l2 ++ [(w1, t5)]) = strValues l2 ++ [.str w1 t5] := by simp [strValues]
  have hvl : (strValues l2).length = l2.length := by simp [strValues]
  have hix : seqIndex? (-1) (strValues (l2 ++ [(w1, t5)])).length = some l2.length := by
    rw [seqIndex_back (by decide) (by rw [hvs, List.length_append, hvl, List.length_singleton]; omega)]
    rw [hvs, List.length_append, hvl, List.length_singleton]; congr 1; omega
  refine wpAny_execs_cons ?_
  refine wpAny_Assign_Name ?_
  refine Subscript_ ?_
  refine ld F5 mws ?_
  refine UnaryOp_ ?_
  refine wpAny_Constant_int ?_
  refine neg_int ?_
  refine kde_neg (v := .str w1 t5) (N5.isList (.head _)) (by decide) (by decide) hix (by rw [hvs]; simp [hvl]) ?_
  refine stN F5 N5 fun h6 F6 N6 => ?_
  refine seq (fun s' => ∃ l' ep, ES s s.heap.objs.size got tg l' sp ep s' ∧ l'.length ≤ 1002 ∧ (∀ p ∈ l', p.1.length ≤ 1000) ∧ ep ≤ got.length ∧ ematch want got = em3 got (l'.map (·.1)) sp ep) ?_ ?_
  · refine wpAny_If ?_
    refine isTrue_plain ?_
    refine ld F6 rfl ?_
    refine SBL.truthy (by omega) ?_
    by_cases hz : w1.length = 0
    · rw [if_neg (by simp [hz])]
      refine wpAny_execs_nil ⟨l2 ++ [(w1, t5)], got.length, ⟨h6, _, a, n, _, rfl, F6, N6, mws, mgot, ⟨_, msp⟩, _, mep⟩, by simp; omega, hlen, Nat.le_refl _, ?_⟩
      rw [hem]; simp [em2, hz]
    · rw [if_pos (by simp [hz])]
      refine wpAny_execs_cons ?_
      refine wpAny_If ?_
      refine isTrue_plain ?_
      refine MethodCall_ ?_
      refine ld F6 mgot ?_
      refine GM.endswith ?_
      refine callWith_method1 ?_
      refine args_cons ?_
      refine ld F6 rfl ?_
      refine args_nil ?_
      refine SC.endswith ?_
      refine wpAny_truthy_bool ?_
      cases hsw : Txt.endswith got w1 with
      | false =>
        simp only [Bool.false_eq_true, if_false]
        refine wpAny_execs_cons ?_
        refine wpAny_Return_some ?_
        refine wpAny_Constant_bool ?_
        refine ⟨?_, keeps_of_fr F6⟩
        rw [hem]; simp [em2, hz, hsw]
      | true =>
        simp only [if_true]
        have hwg : w1.length ≤ got.length := by
          unfold Txt.endswith at hsw
          simp at hsw; omega
        refine wpAny_execs_cons ?_
        refine wpAny_AugAssign_Name ?_
        refine ldn F6 mep ?_
        refine Call_ ?_
        refine name_B F6 X TR gL bL (by decide) ?_
        refine PyProof.Rows.callWith_builtin1 ?_
        refine args_cons ?_
        refine ld F6 rfl ?_
        refine args_nil ?_
        refine P.len_str (by omega) ?_
        refine isub_int ?_
        refine stN F6 N6 fun h7 F7 N7 => ?_
        rw [show ((got.length : Int) - (w1.length : Int)) = ((got.length - w1.length : Nat) : Int) by omega] at F7
        refine wpAny_execs_cons ?_
        refine wpAny_Delete ?_
        refine wpAny_deleteEach_cons ?_
        refine wpAny_delete_Subscript ?_
        refine ld F7 mws ?_
        refine UnaryOp_ ?_
        refine wpAny_Constant_int ?_
        refine neg_int ?_
        refine delItem_head (k := l2.length) F7 N7 (by intro p hp; cases hp) (by decide) hix (fun h8 F8 N8 => ?_) (by rw [sizeLine_eq]; simp [strValues]; omega)
        have hsl := sv_last (l2 ++ [(w1, t5)])
        rw [List.length_append, List.length_singleton, Nat.add_sub_cancel, List.dropLast_concat] at hsl
        rw [hsl] at N8
        refine wpAny_deleteEach_nil ?_
        refine wpAny_execs_nil ?_
        refine wpAny_execs_nil ?_
        refine ⟨l2, got.length - w1.length, ⟨h8, _, a, _, _, rfl, F8, N8, mws, mgot, ⟨_, msp⟩, _, rfl⟩, by omega, fun p hp => hlen p (List.mem_append_left _ hp), by omega, ?_⟩
        rw [hem]; simp [em2, hz, hsw]
  clear F5 N5 mws mgot msp mep F6 N6 hix hvs hvl hw1 hle hlen hne
  rintro _ ⟨l', ep, ⟨h5, tk5, a, n, m, rfl, F5, N5, mws, mgot, ⟨t3, msp⟩, t4, mep⟩, hle, hlen, hep, hem⟩
  -- if startpos > endpos
  refine seq (fun s' => ES s s.heap.objs.size got tg l' sp ep s' ∧ sp ≤ ep) ?_ ?_
  · refine wpAny_If ?_
    refine wpAny_isTrue_Compare1 ?_
    refine ld F5 msp ?_
    refine ld F5 mep ?_
    refine gt_int ?_
    refine wpAny_truthy_bool ?_
    by_cases hz : ep < sp
    · rw [if_pos (decide_eq_true (by omega))]
      refine wpAny_execs_cons ?_
      refine wpAny_Return_some ?_
      refine wpAny_Constant_bool ?_
      refine ⟨?_, keeps_of_fr F5⟩
      rw [hem]; simp [em3, hz]
    · rw [if_neg (by simp; omega)]
      exact wpAny_execs_nil ⟨⟨h5, _, a, n, _, rfl, F5, N5, mws, mgot, ⟨_, msp⟩, _, mep⟩, by omega⟩
  clear F5 N5 mws mgot msp mep
  rintro _ ⟨⟨h5, tk5, a, n, m, rfl, F5, N5, mws, mgot, ⟨t3, msp⟩, t4, mep⟩, hse⟩
  -- the loop
  have hres : ematch want got = emLoop got ep (l'.map (·.1)) sp := by rw [hem, em3, if_neg (by omega)]
  have haL : a ≠ s.heap.objs.size := (N5 _ (.head _)).2.1
  refine wpAny_execs_cons ?_
  refine for_list (a := a) (items := strValues l') (fun i m' news' => m' (Str.ofString "got") = some (.str got tg) ∧ (∃ t, m' (Str.ofString "endpos") = some (.int (ep : Nat) t)) ∧
    ∃ sp' t, m' (Str.ofString "startpos") = some (.int (sp' : Nat) t) ∧ ematch want got = emLoop got ep ((l'.drop i).map (·.1)) sp') (fun h => ld F5 mws h) rfl (N5.isList (.head _)) haL F5 (News.nil) NoIt.nil ⟨mgot, ⟨_, mep⟩, sp, _, msp, hres⟩ ?_ ?_
  · rintro i v m₁ news₁ h tk own hv ⟨mg1, ⟨t6, me1⟩, sp', t7, ms1, hE⟩ hno hown hap F6 N6
    obtain ⟨p, hp, rfl⟩ : ∃ p, l'[i]? = some p ∧ v = .str p.1 p.2 := by
      simp only [strValues, List.getElem?_map] at hv
      cases q : l'[i]? with
      | none => rw [q] at hv; cases hv
      | some p => rw [q] at hv; exact ⟨p, rfl, (Option.some.inj hv).symm⟩
    have hpl : p.1.length ≤ 1000 := hlen p (List.mem_of_getElem? hp)
    have hdrop : l'.drop i = p :: l'.drop (i + 1) := by
      obtain ⟨hi, rfl⟩ := List.getElem?_eq_some_iff.mp hp
      exact List.drop_eq_getElem_cons hi
    rw [hdrop, List.map_cons, emLoop] at hE
    refine wpAny_execs_cons ?_
    refine wpAny_Assign_Name ?_
    refine MethodCall_ ?_
    refine ld F6 mg1 ?_
    refine GM.find ?_
    refine callWith_method1 ?_
    refine args_cons ?_
    refine ld F6 rfl ?_
    refine args_cons ?_
    refine ld F6 ms1 ?_
    refine args_cons ?_
    refine ld F6 me1 ?_
    refine args_nil ?_
    refine find4 ?_
    refine stN F6 N6 fun h7 F7 N7 => ?_
    refine wpAny_execs_cons ?_
    refine wpAny_If ?_
    refine wpAny_isTrue_Compare1 ?_
    refine ld F7 rfl ?_
    refine wpAny_Constant_int ?_
    refine lt_int ?_
    refine wpAny_truthy_bool ?_
    cases hf : Builtin.Str.occurrences got p.1 sp' (min ep got.length) 1 with
    | nil =>
      rw [hf] at F7
      rw [if_pos (by decide)]
      refine wpAny_execs_cons ?_
      refine wpAny_Return_some ?_
      refine wpAny_Constant_bool ?_
      refine ⟨?_, keeps_of_fr F7⟩
      rw [hE, findIn, hf]; rfl
    | cons k r =>
      rw [hf] at F7
      rw [if_neg (by simp)]
      refine wpAny_execs_nil ?_
      refine wpAny_execs_cons ?_
      refine wpAny_AugAssign_Name ?_
      refine ldn F7 rfl ?_
      refine Call_ ?_
      refine name_B F7 X TR gL bL (by decide) ?_
      refine PyProof.Rows.callWith_builtin1 ?_
      refine args_cons ?_
      refine ld F7 rfl ?_
      refine args_nil ?_
      refine P.len_str (by omega) ?_
      refine iadd_int ?_
      refine stN F7 N7 fun h8 F8 N8 => ?_
      refine wpAny_execs_nil ?_
      refine ⟨h8, _, _, news₁, rfl, F8, N8, hno, mg1, ⟨_, me1⟩, k + p.1.length, _, rfl, ?_⟩
      rw [hE, findIn, hf]; rfl
  · rintro h tk m' news' ⟨mg1, ⟨t6, me1⟩, sp', t7, ms1, hE⟩ hno F6 N6
    refine wpAny_execs_cons ?_
    refine wpAny_Return_some ?_
    refine wpAny_Constant_bool ?_
    refine ⟨?_, keeps_of_fr F6⟩
    rw [hE, show (strValues l').length = l'.length by simp [strValues], List.drop_length]; rfl
end Mine
end

section
open PySem PySem.W PySem.Calls PySem.Spec PyProof.Rows
set_option maxRecDepth 100000
namespace Mine

section
variable {prog : Program} {w : World} {A : Around} {E : Value → Shared → Prop} {s : Shared} {env : Env}
/-- a call of a def that stands in the heap -/
theorem callWith_fn {pos : Pos} {f : Addr} {oc : Value} {od : Option Addr} {fd : FuncData} {osl : Array (Option Value)} {e : Expr} {rest : List Expr} {Q : Value → Shared → Prop}
    (h : wpAny (model prog w) A (spliced (backTo pos (starEach (e :: rest) env))) (fun vs s₁ => s₁.heap.get? f = some ⟨oc, od, .func fd, osl⟩ ∧ wpAny (model prog w) A (call (.ref f) vs) Q E s₁) E s)
    (he : starEach (e :: rest) env = (false, eval e env) :: starEach rest env := by rfl) (hplain : (backTo pos (starEach rest env)).any (·.1) = false := by rfl) :
    wpAny (model prog w) A (callWith pos (.ref f) [] (backTo pos (starEach (e :: rest) env)) []) Q E s := by
  rw [he] at h ⊢
  exact callWith_of (P := fun h => h.get? f = some ⟨oc, od, .func fd, osl⟩) (by show ((false || (backTo pos (starEach rest env)).any (·.1)) || false) = false; rw [hplain]; rfl)
    (fun h hf => ⟨.frame, .inl rfl, (Looks.ld (part := none) hf).andThen .now⟩) (evalArgs_plain h)
end

/-- a key that a bisection asks -/
def KeyOk (w : World) (dp : Nat) (s : Shared) (f : Addr) (items : List Value) (lo hi : Nat) (κ : Nat → Int) : Prop :=
  ∀ i v s' un fr gd, lo ≤ i → i < hi → items[i]? = some v → Keeps s s' →
    wpAny (model PySem.Challenge.rw_rw0040_01.row.prog w) { handled := none, depth := dp + 1, frames := fr, guards := gd, units := un } (call (.ref f) [v]) (fun r s'' => (∃ t, r = .int (κ i) t) ∧ Keeps s' s'') (fun _ _ => False) s'

theorem mid_fdiv (a b : Nat) : ((a : Int) + (b : Int)).fdiv 2 = (((a + b) / 2 : Nat) : Int) := by
  rw [Int.fdiv_eq_ediv_of_nonneg _ (by decide)]; omega

set_option maxHeartbeats 4000000 in
theorem bl_call {w : World} {dp un : Nat} {fr : Option (List Env)} {gd : Option (List Code)} {E : Value → Shared → Prop} {s : Shared} {loose : List Str} {mean : ExcName → Option Value} {mg mb : Str → Option Value}
    (X : Frag.In (hd.heap_39 w.params) s.heap) {pv : Program} (T : Top pv loose mean mg mb s.heap) (hroom : dp < recursionLimit)
    {a f : Addr} {oc : Value} {od : Option Addr} {fd : FuncData} {osl : Array (Option Value)} {items : List Value} {lo hi q : Nat} {x : Int} {κ : Nat → Int} {tx tl th : Tok} (hl : s.heap.IsList a items.toArray) (hf : s.heap.get? f = some ⟨oc, od, .func fd, osl⟩)
    (hn : items.length ≤ 1000) (hhi : hi ≤ items.length) (hlq : lo ≤ q) (hqh : q ≤ hi) (hb : ∀ i, lo ≤ i → i < q → κ i < x) (ha : ∀ i, q ≤ i → i < hi → ¬ κ i < x) (hk : KeyOk w dp s f items lo hi κ) :
    wpAny (model PySem.Challenge.rw_rw0040_01.row.prog w) { handled := none, depth := dp, frames := fr, guards := gd, units := un } (call (.ref 39) [.ref a, .int x tx, .int (lo : Nat) tl, .int (hi : Nat) th] [(Str.ofString "key", .ref f)]) (fun v s' => (∃ t, v = .int (q : Nat) t) ∧ Keeps s s') E s := by
  revert X
  k_fill
  intro X
  refine' enter (binds := [(Str.ofString "a", .ref a), (Str.ofString "x", .int x tx), (Str.ofString "lo", .int lo tl), (Str.ofString "hi", .int hi th), (Str.ofString "key", .ref f)]) X T ?ho ?hcd hroom ?hb ?hl ?_ ?c2 ?c3 ?c4 ?c5
  case ho => k_is
  case hcd => k_is
  case hb => exact binds_K X rfl (by k_is) rfl rfl rfl
  case hl => exact locs rfl
  case c2 => rfl
  case c3 => rfl
  case c4 => rfl
  case c5 => decide
  intro h₁ F N
  have e0 : decide (((lo : Nat) : Int) < 0) = false := decide_eq_false (by omega)
  refine wpAny_execs_cons ?_
  refine wpAny_If ?_
  refine wpAny_isTrue_Compare1 ?_
  refine ld F rfl ?_
  refine wpAny_Constant_int ?_
  refine lt_int ?_
  refine wpAny_truthy_bool ?_
  rw [e0, if_neg Bool.false_ne_true]
  refine wpAny_execs_nil ?_
  refine wpAny_execs_cons ?_
  refine wpAny_If ?_
  refine wpAny_isTrue_Compare1 ?_
  refine ld F rfl ?_
  refine wpAny_Constant_none ?_
  refine is_int_none ?_
  refine wpAny_truthy_bool ?_
  rw [if_neg Bool.false_ne_true]
  refine wpAny_execs_nil ?_
  refine wpAny_execs_cons ?_
  refine wpAny_If ?_
  refine wpAny_isTrue_Compare1 ?_
  refine ld F rfl ?_
  refine wpAny_Constant_none ?_
  refine is_ref_none ?_
  refine wpAny_truthy_bool ?_
  rw [if_neg Bool.false_ne_true]
  refine wpAny_execs_cons ?_
  refine wpAny_While (codeAny_whileLoop (fun n s' => ∃ h' m l u t1 t2 tk, s' = { s with heap := h', toks := tk } ∧ Fr s.heap s.heap.objs.size h' m ∧ m (Str.ofString "a") = some (.ref a) ∧ m (Str.ofString "x") = some (.int x tx) ∧
    m (Str.ofString "key") = some (.ref f) ∧ m (Str.ofString "lo") = some (.int (l : Nat) t1) ∧ m (Str.ofString "hi") = some (.int (u : Nat) t2) ∧ lo ≤ l ∧ l ≤ q ∧ q ≤ u ∧ u ≤ hi ∧ n = u - l) ?_ (hi - lo) ?_)
  case refine_2 => exact ⟨h₁, _, lo, hi, tl, th, _, rfl, F, rfl, rfl, rfl, rfl, rfl, Nat.le_refl _, hlq, hqh, Nat.le_refl _, rfl⟩
  rintro n _ ⟨h', m, l, u, t1, t2, tk, rfl, F', ma, mx, mk, ml, mu, hl1, hlq1, hqu, huh, rfl⟩
  refine wpAny_isTrue_Compare1 ?_
  refine ld F' ml ?_
  refine ld F' mu ?_
  refine lt_int ?_
  refine wpAny_truthy_bool ?_
  by_cases hc : l < u
  · rw [if_pos (decide_eq_true (by omega))]
    refine wpAny_execs_cons ?_
    refine wpAny_Assign_Name ?_
    refine wpAny_BinOp ?_
    refine wpAny_BinOp ?_
    refine ld F' ml ?_
    refine ld F' mu ?_
    refine add_int ?_
    refine wpAny_Constant_int ?_
    refine floordiv_int (by decide) ?_
    rw [mid_fdiv]
    generalize hmid : (l + u) / 2 = mid
    have hm1 : l ≤ mid := by omega
    have hm2 : mid < u := by omega
    refine st F' fun h2 F2 => ?_
    obtain ⟨v, hv⟩ : ∃ v, items[mid]? = some v := ⟨items[mid]'(by omega), by simp [show mid < items.length by omega]⟩
    have hil : h2.IsList a items.toArray := hl.at fun o e => F2.keep a o e
    have hff : h2.get? f = some ⟨oc, od, .func fd, osl⟩ := F2.keep f _ hf
    refine wpAny_execs_cons ?_
    refine wpAny_If ?_
    refine wpAny_isTrue_Compare1 ?_
    refine Call_ ?_
    refine ld F2 mk ?_
    refine callWith_fn (oc := oc) (od := od) (fd := fd) (osl := osl) ?_
    refine args_cons ?_
    refine Subscript_ ?_
    refine ld F2 ma ?_
    refine ld F2 rfl ?_
    refine item_listL (l := items) hil (by omega) (by omega) (by rw [Int.toNat_natCast]; exact hv) ?_
    refine args_nil ⟨hff, ?_⟩
    refine wpAny_mono (hk mid v { s with heap := h2, toks := tk + 1 + 1 + 1 + 1 } _ _ _ (by omega) (by omega) hv (keeps_of_fr F2)) (fun r s'' hr => ?_) (fun _ _ h => h.elim)
    obtain ⟨⟨t9, rfl⟩, h9, tk9, rfl, hk9⟩ := hr
    have F9 := F2.keeps hk9
    refine ld F9 mx ?_
    refine lt_int ?_
    refine wpAny_truthy_bool ?_
    by_cases hx : κ mid < x
    · rw [if_pos (decide_eq_true hx)]
      refine wpAny_execs_cons ?_
      refine wpAny_Assign_Name ?_
      refine wpAny_BinOp ?_
      refine ld F9 rfl ?_
      refine wpAny_Constant_int ?_
      refine add_int ?_
      rw [show ((mid : Nat) : Int) + 1 = ((mid + 1 : Nat) : Int) by omega]
      refine st F9 fun h3 F3 => ?_
      refine wpAny_execs_nil ?_
      refine wpAny_execs_nil ?_
      have hmq : mid < q := by
        rcases Nat.lt_or_ge mid q with h | h
        · exact h
        · exact absurd hx (ha mid h (by omega))
      exact ⟨u - (mid + 1), by omega, h3, _, mid + 1, u, _, t2, _, rfl, F3, ma, mx, mk, rfl, mu, by omega, by omega, hqu, huh, rfl⟩
    · rw [if_neg (by simp; omega)]
      refine wpAny_execs_cons ?_
      refine wpAny_Assign_Name ?_
      refine ld F9 rfl ?_
      refine st F9 fun h3 F3 => ?_
      refine wpAny_execs_nil ?_
      refine wpAny_execs_nil ?_
      have hmq : q ≤ mid := by
        rcases Nat.lt_or_ge mid q with h | h
        · exact absurd (hb mid (by omega) h) hx
        · exact h
      exact ⟨mid - l, by omega, h3, _, l, mid, t1, _, _, rfl, F3, ma, mx, mk, ml, rfl, hl1, hlq1, hmq, by omega, rfl⟩
  · rw [if_neg (by simp; omega)]
    refine wpAny_execs_nil ?_
    refine wpAny_execs_nil ?_
    refine wpAny_execs_cons ?_
    refine wpAny_Return_some ?_
    refine ld F' ml ?_
    have : l = q := by omega
    rw [this]
    exact ⟨⟨_, rfl⟩, keeps_of_fr F'⟩
set_option maxHeartbeats 4000000 in
theorem br_call {w : World} {dp un : Nat} {fr : Option (List Env)} {gd : Option (List Code)} {E : Value → Shared → Prop} {s : Shared} {loose : List Str} {mean : ExcName → Option Value} {mg mb : Str → Option Value}
    (X : Frag.In (hd.heap_39 w.params) s.heap) {pv : Program} (T : Top pv loose mean mg mb s.heap) (hroom : dp < recursionLimit)
    {a f : Addr} {oc : Value} {od : Option Addr} {fd : FuncData} {osl : Array (Option Value)} {items : List Value} {lo hi q : Nat} {x : Int} {κ : Nat → Int} {tx tl th : Tok} (hl : s.heap.IsList a items.toArray) (hf : s.heap.get? f = some ⟨oc, od, .func fd, osl⟩)
    (hn : items.length ≤ 1000) (hhi : hi ≤ items.length) (hlq : lo ≤ q) (hqh : q ≤ hi) (hb : ∀ i, lo ≤ i → i < q → ¬ x < κ i) (ha : ∀ i, q ≤ i → i < hi → x < κ i) (hk : KeyOk w dp s f items lo hi κ) :
    wpAny (model PySem.Challenge.rw_rw0040_01.row.prog w) { handled := none, depth := dp, frames := fr, guards := gd, units := un } (call (.ref 30) [.ref a, .int x tx, .int (lo : Nat) tl, .int (hi : Nat) th] [(Str.ofString "key", .ref f)]) (fun v s' => (∃ t, v = .int (q : Nat) t) ∧ Keeps s s') E s := by
  revert X
  k_fill
  intro X
  refine' enter (binds := [(Str.ofString "a", .ref a), (Str.ofString "x", .int x tx), (Str.ofString "lo", .int lo tl), (Str.ofString "hi", .int hi th), (Str.ofString "key", .ref f)]) X T ?ho ?hcd hroom ?hb ?hl ?_ ?c2 ?c3 ?c4 ?c5
  case ho => k_is
  case hcd => k_is
  case hb => exact binds_K X rfl (by k_is) rfl rfl rfl
  case hl => exact locs rfl
  case c2 => rfl
  case c3 => rfl
  case c4 => rfl
  case c5 => decide
  intro h₁ F N
  have e0 : decide (((lo : Nat) : Int) < 0) = false := decide_eq_false (by omega)
  refine wpAny_execs_cons ?_
  refine wpAny_If ?_
  refine wpAny_isTrue_Compare1 ?_
  refine ld F rfl ?_
  refine wpAny_Constant_int ?_
  refine lt_int ?_
  refine wpAny_truthy_bool ?_
  rw [e0, if_neg Bool.false_ne_true]
  refine wpAny_execs_nil ?_
  refine wpAny_execs_cons ?_
  refine wpAny_If ?_
  refine wpAny_isTrue_Compare1 ?_
  refine ld F rfl ?_
  refine wpAny_Constant_none ?_
  refine is_int_none ?_
  refine wpAny_truthy_bool ?_
  rw [if_neg Bool.false_ne_true]
  refine wpAny_execs_nil ?_
  refine wpAny_execs_cons ?_
  refine wpAny_If ?_
  refine wpAny_isTrue_Compare1 ?_
  refine ld F rfl ?_
  refine wpAny_Constant_none ?_
  refine is_ref_none ?_
  refine wpAny_truthy_bool ?_
  rw [if_neg Bool.false_ne_true]
  refine wpAny_execs_cons ?_
  refine wpAny_While (codeAny_whileLoop (fun n s' => ∃ h' m l u t1 t2 tk, s' = { s with heap := h', toks := tk } ∧ Fr s.heap s.heap.objs.size h' m ∧ m (Str.ofString "a") = some (.ref a) ∧ m (Str.ofString "x") = some (.int x tx) ∧
    m (Str.ofString "key") = some (.ref f) ∧ m (Str.ofString "lo") = some (.int (l : Nat) t1) ∧ m (Str.ofString "hi") = some (.int (u : Nat) t2) ∧ lo ≤ l ∧ l ≤ q ∧ q ≤ u ∧ u ≤ hi ∧ n = u - l) ?_ (hi - lo) ?_)
  case refine_2 => exact ⟨h₁, _, lo, hi, tl, th, _, rfl, F, rfl, rfl, rfl, rfl, rfl, Nat.le_refl _, hlq, hqh, Nat.le_refl _, rfl⟩
  rintro n _ ⟨h', m, l, u, t1, t2, tk, rfl, F', ma, mx, mk, ml, mu, hl1, hlq1, hqu, huh, rfl⟩
  refine wpAny_isTrue_Compare1 ?_
  refine ld F' ml ?_
  refine ld F' mu ?_
  refine lt_int ?_
  refine wpAny_truthy_bool ?_
  by_cases hc : l < u
  · rw [if_pos (decide_eq_true (by omega))]
    refine wpAny_execs_cons ?_
    refine wpAny_Assign_Name ?_
    refine wpAny_BinOp ?_
    refine wpAny_BinOp ?_
    refine ld F' ml ?_
    refine ld F' mu ?_
    refine add_int ?_
    refine wpAny_Constant_int ?_
    refine floordiv_int (by decide) ?_
    rw [mid_fdiv]
    generalize hmid : (l + u) / 2 = mid
    have hm1 : l ≤ mid := by omega
    have hm2 : mid < u := by omega
    refine st F' fun h2 F2 => ?_
    obtain ⟨v, hv⟩ : ∃ v, items[mid]? = some v := ⟨items[mid]'(by omega), by simp [show mid < items.length by omega]⟩
    have hil : h2.IsList a items.toArray := hl.at fun o e => F2.keep a o e
    have hff : h2.get? f = some ⟨oc, od, .func fd, osl⟩ := F2.keep f _ hf
    refine wpAny_execs_cons ?_
    refine wpAny_If ?_
    refine wpAny_isTrue_Compare1 ?_
    refine ld F2 mx ?_
    refine Call_ ?_
    refine ld F2 mk ?_
    refine callWith_fn (oc := oc) (od := od) (fd := fd) (osl := osl) ?_
    refine args_cons ?_
    refine Subscript_ ?_
    refine ld F2 ma ?_
    refine ld F2 rfl ?_
    refine item_listL (l := items) hil (by omega) (by omega) (by rw [Int.toNat_natCast]; exact hv) ?_
    refine args_nil ⟨hff, ?_⟩
    refine wpAny_mono (hk mid v { s with heap := h2, toks := tk + 1 + 1 + 1 + 1 } _ _ _ (by omega) (by omega) hv (keeps_of_fr F2)) (fun r s'' hr => ?_) (fun _ _ h => h.elim)
    obtain ⟨⟨t9, rfl⟩, h9, tk9, rfl, hk9⟩ := hr
    have F9 := F2.keeps hk9
    refine lt_int ?_
    refine wpAny_truthy_bool ?_
    by_cases hx : ¬ x < κ mid
    · rw [if_neg (by simp; omega)]
      refine wpAny_execs_cons ?_
      refine wpAny_Assign_Name ?_
      refine wpAny_BinOp ?_
      refine ld F9 rfl ?_
      refine wpAny_Constant_int ?_
      refine add_int ?_
      rw [show ((mid : Nat) : Int) + 1 = ((mid + 1 : Nat) : Int) by omega]
      refine st F9 fun h3 F3 => ?_
      refine wpAny_execs_nil ?_
      refine wpAny_execs_nil ?_
      have hmq : mid < q := by
        rcases Nat.lt_or_ge mid q with h | h
        · exact h
        · exact absurd (ha mid h (by omega)) hx
      exact ⟨u - (mid + 1), by omega, h3, _, mid + 1, u, _, t2, _, rfl, F3, ma, mx, mk, rfl, mu, by omega, by omega, hqu, huh, rfl⟩
    · rw [if_pos (decide_eq_true (by omega))]
      refine wpAny_execs_cons ?_
      refine wpAny_Assign_Name ?_
      refine ld F9 rfl ?_
      refine st F9 fun h3 F3 => ?_
      refine wpAny_execs_nil ?_
      refine wpAny_execs_nil ?_
      have hmq : q ≤ mid := by
        rcases Nat.lt_or_ge mid q with h | h
        · exact absurd (hb mid (by omega) h) hx
        · exact h
      exact ⟨mid - l, by omega, h3, _, l, mid, t1, _, _, rfl, F3, ma, mx, mk, ml, rfl, hl1, hlq1, hmq, by omega, rfl⟩
  · rw [if_neg (by simp; omega)]
    refine wpAny_execs_nil ?_
    refine wpAny_execs_nil ?_
    refine wpAny_execs_cons ?_
    refine wpAny_Return_some ?_
    refine ld F' ml ?_
    have : l = q := by omega
    rw [this]
    exact ⟨⟨_, rfl⟩, keeps_of_fr F'⟩
end Mine
end

section
open PySem PySem.W PySem.Calls PySem.Spec PyProof.Rows
set_option maxRecDepth 100000
namespace Mine

section
variable {prog : Program} {w : World} {A : Around} {E : Value → Shared → Prop} {s : Shared} {env : Env} {scope : Scope} {cl : List (Str × Addr)} {C : Addr}
theorem kldL {x : Str} {pos : Pos} {m : Str → Option Value} {v : Value} {Q : Value → Shared → Prop} (hn : s.heap.Ns C m) (hm : m x = some v) (h : Q v s) (hk : scope.kind = .function := by rfl) (hx : (compEnvC scope cl C env).kindOf x = some .local := by rfl)
    (hd : (x == ("__debug__" : Str)) = false := by decide) : wpAny (model prog w) A (eval (.Name x pos) (compEnvC scope cl C env)) Q E s := wpAny_Name (wpAny_loadName_local (env := compEnvC scope cl C env) hk hx hn hm h) hd
theorem kldC {x : Str} {pos : Pos} {c : Addr} {o : Obj} {v : Value} {Q : Value → Shared → Prop} (ho : s.heap.get? c = some o) (hd : o.data = .cell (some v)) (hc : cl.lookup x = some c) (h : Q v s) (hk : scope.kind = .function := by rfl) (hx : (compEnvC scope cl C env).kindOf x = some .cell := by rfl)
    (hb : (x == ("__debug__" : Str)) = false := by decide) : wpAny (model prog w) A (eval (.Name x pos) (compEnvC scope cl C env)) Q E s := wpAny_Name (wpAny_loadName_cell (env := compEnvC scope cl C env) hk hx hc ⟨o, ho, hd⟩ h) hb
end

theorem gnB {M : Model} {A : Around} {E : Value → Shared → Prop} {s : Shared} {env : Env} {K : Frag} {h₀ : Heap} {mg mb : Str → Option Value} {p : Program} {loose : List Str} {x : Str} {pos : Pos} {v : Value} {Q : Value → Shared → Prop}
    (keep : ∀ b o, h₀.get? b = some o → s.heap.get? b = some o) (X : K.In h₀) (T : TopRead p loose mg mb h₀) (e : nsIn K mainGlobals x = some none) (hv : bootBuiltins x = some v) (hn : x ≠ "__name__") (h : Q v s)
    (hk : env.scope.kind = .function := by rfl) (hx : env.kindOf x = some .globalImplicit := by rfl) (hg : env.globals = mainGlobals := by rfl) (hb : env.builtins = builtinsNs := by rfl) (hd : (x == ("__debug__" : Str)) = false := by decide) :
    wpAny M A (eval (.Name x pos) env) Q E s :=
  Name_function_global hk hx (loadGlobal_builtin (env := env) (by rw [hg]; exact T.g.keeps keep) (mg_none_of X T.g e) (by rw [hb]; exact T.b.keeps keep) ((T.builtins x hn).trans hv) h) hd
theorem gnK {M : Model} {A : Around} {E : Value → Shared → Prop} {s : Shared} {env : Env} {K : Frag} {h₀ : Heap} {mg mb : Str → Option Value} {p : Program} {loose : List Str} {x : Str} {pos : Pos} {v : Value} {Q : Value → Shared → Prop}
    (keep : ∀ b o, h₀.get? b = some o → s.heap.get? b = some o) (X : K.In h₀) (T : TopRead p loose mg mb h₀) (e : nsIn K mainGlobals x = some (some v)) (h : Q v s)
    (hk : env.scope.kind = .function := by rfl) (hx : env.kindOf x = some .globalImplicit := by rfl) (hg : env.globals = mainGlobals := by rfl) (hd : (x == ("__debug__" : Str)) = false := by decide) :
    wpAny M A (eval (.Name x pos) env) Q E s :=
  Name_function_global hk hx (loadGlobal_global (env := env) (by rw [hg]; exact T.g.keeps keep) (mg_of X T.g e) h) hd
theorem kldK {M : Model} {A : Around} {E : Value → Shared → Prop} {s : Shared} {env : Env} {x : Str} {pos : Pos} {c : Addr} {o : Obj} {v : Value} {Q : Value → Shared → Prop} (ho : s.heap.get? c = some o) (hd : o.data = .cell (some v)) (hc : env.cells.lookup x = some c) (h : Q v s) (hk : env.scope.kind = .function := by rfl) (hx : env.kindOf x = some .cell := by rfl)
    (hb : (x == ("__debug__" : Str)) = false := by decide) : wpAny M A (eval (.Name x pos) env) Q E s := wpAny_Name (wpAny_loadName_cell hk hx hc ⟨o, ho, hd⟩ h) hb

theorem ldnX_L {M : Model} {A : Around} {E : Value → Shared → Prop} {s : Shared} {h₀ : Heap} {L a : Addr} {m : Str → Option Value} {cn : Str} {cs : Scope} {ccd : Value} {cl : List (Str × Addr)} {x : Str} {v : Value} {Q : Value → Shared → Prop} (F : Fr h₀ L s.heap m) (hv : m x = some v) (h : Q v s)
    (hk : cs.kind = .function := by rfl) (hx : (envX cn cs L a ccd cl).kindOf x = some .local := by rfl) : wpAny M A (loadName (envX cn cs L a ccd cl) x) Q E s := wpAny_loadName_local hk hx F.ns hv h

theorem apart_map {A B : List (Addr × Obj)} {I : Addr} (h : ∀ p ∈ A, p.1 ≠ I) (e : B.map (·.1) = A.map (·.1)) : ∀ p ∈ B, p.1 ≠ I := fun p hp => by
  have : p.1 ∈ A.map (·.1) := e ▸ List.mem_map_of_mem hp
  obtain ⟨q, hq, e⟩ := List.mem_map.mp this
  exact e ▸ h q hq

theorem upd4 {L D Dr : Addr} {a b o4 o3 o2 o1 : Obj} (h1 : @Ne Nat Dr (L + 1 + 1 + 1 + 1)) (h2 : @Ne Nat D (L + 1 + 1 + 1 + 1)) :
    UpdF (L + 1 + 1 + 1 + 1) o4 [(Dr, a), (D, b), (L + 1 + 1 + 1 + 1, o4), (L + 1 + 1 + 1, o3), (L + 1 + 1, o2), (L + 1, o1)] (fun o' => [(Dr, a), (D, b), (L + 1 + 1 + 1 + 1, o'), (L + 1 + 1 + 1, o3), (L + 1 + 1, o2), (L + 1, o1)]) := by
  have n3 : @Ne Nat (L + 1 + 1 + 1) (L + 1 + 1 + 1 + 1) := by refine neN ?_; omega
  have n2 : @Ne Nat (L + 1 + 1) (L + 1 + 1 + 1 + 1) := by refine neN ?_; omega
  have n1 : @Ne Nat (L + 1) (L + 1 + 1 + 1 + 1) := by refine neN ?_; omega
  exact .tail h1 (.tail h2 (.head (List.forall_mem_cons.mpr ⟨n3, List.forall_mem_cons.mpr ⟨n2, List.forall_mem_cons.mpr ⟨n1, fun _ h => nomatch h⟩⟩⟩)))
theorem updR {L D Dr : Addr} {a a' b o4 o3 o2 o1 : Obj} (h0 : @Ne Nat Dr D) (h4 : @Ne Nat Dr (L + 1 + 1 + 1 + 1)) (h3 : @Ne Nat Dr (L + 1 + 1 + 1)) (h2 : @Ne Nat Dr (L + 1 + 1)) (h1 : @Ne Nat Dr (L + 1)) :
    Upd Dr a a' [(Dr, a), (D, b), (L + 1 + 1 + 1 + 1, o4), (L + 1 + 1 + 1, o3), (L + 1 + 1, o2), (L + 1, o1)] [(Dr, a'), (D, b), (L + 1 + 1 + 1 + 1, o4), (L + 1 + 1 + 1, o3), (L + 1 + 1, o2), (L + 1, o1)] :=
  .head (List.forall_mem_cons.mpr ⟨Ne.symm h0, List.forall_mem_cons.mpr ⟨Ne.symm h4, List.forall_mem_cons.mpr ⟨Ne.symm h3, List.forall_mem_cons.mpr ⟨Ne.symm h2, List.forall_mem_cons.mpr ⟨Ne.symm h1, fun _ h => nomatch h⟩⟩⟩⟩⟩)

theorem fr_after {h₀ h h' : Heap} {L : Addr} {m m' : Str → Option Value} {news : List (Addr × Obj)} (F : Fr h₀ L h m) (N : News h₀ L h news) (hn : h'.Ns L m') (hk : ∀ b o, b ≠ L → h.get? b = some o → h'.get? b = some o) : Fr h₀ L h' m' ∧ News h₀ L h' news :=
  ⟨⟨hn, fun b o e => hk b o (Nat.ne_of_lt (Nat.lt_of_lt_of_le (Heap.lt_size e) F.above)) (F.keep b o e), F.above⟩, fun p hp => ⟨hk _ _ (N p hp).2.1 (N p hp).1, (N p hp).2⟩⟩

theorem ints_getD {vs : List Value} {ns : List Int} (h : IntsAre vs ns) {k : Nat} (hk : k < ns.length) : ∃ t, vs[k]? = some (.int (ns.getD k 0) t) := by
  have := h.get k ns[k] (by simp [hk])
  rw [List.getD_eq_getElem?_getD, List.getElem?_eq_getElem hk]
  exact this

theorem ints_of_get : ∀ {vs : List Value} {ns : List Int}, vs.length = ns.length → (∀ i (hi : i < ns.length), ∃ t, vs[i]? = some (.int ns[i] t)) → IntsAre vs ns
  | [], [], _, _ => .nil
  | [], _ :: _, h, _ => nomatch h
  | _ :: _, [], h, _ => nomatch h
  | v :: vs, n :: ns, h, g => by
    obtain ⟨t, e⟩ := g 0 (Nat.zero_lt_succ _)
    cases e
    exact .cons n t (ints_of_get (Nat.succ.inj h) fun i hi => g (i + 1) (Nat.succ_lt_succ hi))
theorem keeps_refl (s : Shared) : Keeps s s := ⟨s.heap, s.toks, rfl, fun _ _ e => e⟩
theorem keeps_tok (s : Shared) (t : Nat) : Keeps s { s with toks := t } := ⟨s.heap, t, rfl, fun _ _ e => e⟩

/-- what stands between the symbols of the form -/
def WJ (L D : Addr) (wide letters form : List Int) (spo o5 o2 o1 : Obj) (i : Nat) (m' : Str → Option Value) (news' : List (Addr × Obj)) : Prop :=
  ∃ (Dr : Addr) (vs : List Value) (nr : Nat) (o4 : Obj) (v4 : Option Value) (reach : List Nat),
    news' = [(Dr, { cls := .type "list", data := .seq vs.toArray nr }), (D, spo), (L + 1 + 1 + 1 + 1, o4), (L + 1 + 1 + 1, o5), (L + 1 + 1, o2), (L + 1, o1)] ∧
    m' (Str.ofString "reach") = some (.ref Dr) ∧ m' (Str.ofString "spots") = some (.ref D) ∧ IntsAre vs (reach.map fun p => ((p : Nat) : Int)) ∧ o4.data = .cell v4 ∧
    (∀ p, p ∈ reach ↔ Rch wide letters (form.take i) p) ∧ reach.length ≤ 1 + i * 2 ^ (wide.length + 1) ∧ (∀ p ∈ reach, p < 2 ^ (wide.length + 1)) ∧
    (∀ c ∈ [D, L + 1 + 1 + 1 + 1, L + 1 + 1 + 1, L + 1 + 1, L + 1], @Ne Nat Dr c)

theorem paired_nat {f : Nat → Nat} {vs ys : List Value} {ns : List Nat} (hi : IntsAre vs (ns.map fun p => ((p : Nat) : Int))) (h : Paired (fun v y => ∀ (p : Nat) t, v = Value.int (p : Int) t → ∃ t', y = Value.int ((f p : Nat) : Int) t') vs ys) : IntsAre ys ((ns.map f).map fun p => ((p : Nat) : Int)) := by
  induction ns generalizing vs ys with
  | nil => cases hi; cases h; exact .nil
  | cons n r ih =>
    cases hi with
    | cons _ t hi' =>
      cases h with
      | cons a b =>
        obtain ⟨t', rfl⟩ := a n t rfl
        exact .cons _ _ (ih hi' b)
theorem filter_true {α : Type} (l : List α) : l.filter (fun _ => true) = l := List.filter_eq_self.mpr fun _ _ => rfl

theorem mask_comp {prog : Program} {w : World} {A : Around} {E : Value → Shared → Prop} {s : Shared} {env : Env} {iter c : PySem.Expr} {scope : Scope} {cl : List (Str × Addr)} {p1 p2 p3 p4 pos : Pos} {Q : Value → Shared → Prop} {n : Nat} (pz : Nat → Bool)
    (hh : A.handled = none) (hclos : closureFor scope env = pure cl) (hcell : ∀ y ∈ scope.names, y.2 ≠ .cell) (hkind : scope.kind = .function)
    (hnames : ∀ y ∈ scope.names, y.2 = .local → scope.names.lookup y.1 = some .local) (hx : scope.names.lookup (Str.ofString "k") = some .local) (hn : n ≤ 1000)
    (hiter : ∀ {Q' : Value → Shared → Prop}, (∀ r h' tk t u v, IsRange h' r 0 n 1 t u v → (∀ b o, s.heap.get? b = some o → h'.get? b = some o) → Q' (.ref r) { s with heap := h', toks := tk }) → wpAny (model prog w) A (eval iter env) Q' E s)
    (htest : ∀ C i t s₂ m₂ E', i < n → s₂.heap.Ns C m₂ → m₂ (Str.ofString "k") = some (.int (i : Nat) t) → (∀ b o, s.heap.get? b = some o → s₂.heap.get? b = some o) →
      wpAny (model prog w) A (PySem.isTrue c (compEnvC scope cl C env) (eval c (compEnvC scope cl C env))) (fun ok s₃ => ok = pz i ∧ Keeps s₂ s₃) E' s₂)
    (hQ : ∀ D (ys : List Value) h' tk, h'.PlainList D ys.toArray → IntsAre ys (((List.range n).filter pz).map fun i => ((2 ^ i : Nat) : Int)) → s.heap.get? D = none → (∀ b o, s.heap.get? b = some o → h'.get? b = some o) → Q (.ref D) { s with heap := h', toks := tk })
    (hs : ∀ x, foldedSetIterable iter env x = pure x := by intro _; rfl) :
    wpAny (model prog w) A (eval (.ListComp (.BinOp (.Constant (.int 2) 0 p1) .Pow (.Name (Str.ofString "k") p2) p3) [⟨.Name (Str.ofString "k") p4, iter, [c], 0⟩] scope pos) env) Q E s := by
  refine ListComp_rK pz (fun i y => ∃ t, y = Value.int ((2 ^ i : Nat) : Int) t) hh hclos hcell hkind hnames hx (hiter ?_) hs
  intro r h1 tk1 t u v hr hk1
  refine ⟨r, n, t, u, v, rfl, hr, hn, ?_, ?_, ?_⟩
  · intro C i t s2 m2 E' hi hns hm hk
    exact wpAny_tests_one (htest C i t s2 m2 E' hi hns hm fun b o e => hk b o (hk1 b o e))
  · intro C i t s2 m2 E' hi _ hns hm hk
    refine wpAny_BinOp (wpAny_Constant_int (wpAny_Name (wpAny_loadName_local (env := compEnvC scope cl C env) (by simp [compEnvC, relabel, hkind]) (lookup_relabel_local hx) hns hm (pow_int_small (by omega) (by omega) (by decide) ?_)) (by decide)))
    rw [Int.toNat_natCast, show ((2 : Int) ^ i) = ((2 ^ i : Nat) : Int) by rw [Int.natCast_pow]; rfl]
    exact ⟨⟨_, rfl⟩, s2.heap, _, rfl, fun _ _ e => e⟩
  · intro D ys h' tk hp hpl hD hk
    exact hQ D ys h' tk hpl (paired_pow hp) (by
      cases q : s.heap.get? D with
      | none => rfl
      | some o => rw [hk1 _ _ q] at hD; cases hD) fun b o e => hk b o (hk1 b o e)

set_option maxHeartbeats 8000000 in
theorem within_call {w : World} {dp un : Nat} {fr : Option (List Env)} {gd : Option (List Code)} {E : Value → Shared → Prop} {s : Shared} {loose : List Str} {mean : ExcName → Option Value} {mg mb : Str → Option Value}
    (X : Frag.In (hd.heap_39 w.params) s.heap) {pv : Program} (T : Top pv loose mean mg mb s.heap) (hroom : dp + 1 < recursionLimit) (hun : un + 200 < cLine)
    {af aw al : Addr} {fv wv lv : List Value} {form wide letters : List Int} (hf : s.heap.IsList af fv.toArray) (hfi : IntsAre fv form) (hw : s.heap.IsList aw wv.toArray) (hwi : IntsAre wv wide) (hl : s.heap.PlainList al lv.toArray) (hli : IntsAre lv letters)
    (hfn : form.length ≤ 8) (hwn : wide.length ≤ 8) (hln : letters.length ≤ 8) :
    wpAny (model PySem.Challenge.rw_rw0040_01.row.prog w) { handled := none, depth := dp, frames := fr, guards := gd, units := un } (call (.ref 65) [.ref af, .ref aw, .ref al]) (fun v s' => (∃ b, v = .bool b ∧ (b = true ↔ ∀ p, Rch wide letters form p → 2 ^ wide.length ≤ p)) ∧ Keeps s s') E s := by
  revert X
  k_fill
  intro X
  refine' enterC (binds := [(Str.ofString "form", .ref af), (Str.ofString "wide", .ref aw), (Str.ofString "letters", .ref al)]) X T ?ho ?hcd ?hr ?hb ?hkd ?hnd ?_ ?c2 ?c3 ?c4
  case ho => k_is
  case hcd => k_is
  case hr => show dp < _; omega
  case hb => exact BindsTo.of_eq rfl
  case hkd => rfl
  case hnd => decide +kernel
  case c2 => rfl
  case c3 => rfl
  case c4 => rfl
  intro h₁ tk₁ cells F N Y
  obtain ⟨o4, o3, o2, o1, rfl, d4, d3, d2, d1⟩ := Y.four
  have TR := topRead_of T
  have hws : wv.toArray.size = wide.length := by rw [List.size_toArray, hwi.length]
  have gS : nsIn (hd.heap_39 w.params) mainGlobals (Str.ofString "sum") = some none := by k_is
  have bS : bootBuiltins (Str.ofString "sum") = some (.builtin "sum") := by boot_fast
  have gR : nsIn (hd.heap_39 w.params) mainGlobals (Str.ofString "range") = some none := by k_is
  have bR : bootBuiltins (Str.ofString "range") = some (.type "range") := by boot_fast
  have gL : nsIn (hd.heap_39 w.params) mainGlobals (Str.ofString "len") = some none := by k_is
  have bL : bootBuiltins (Str.ofString "len") = some (.builtin "len") := by boot_fast
  have gP : nsIn (hd.heap_39 w.params) mainGlobals (Str.ofString "_law_spread") = some (some (.ref 60)) := by k_is
  -- gaps
  have d1 : o1.data = .cell (some (.ref aw)) := d1
  have d2 : o2.data = .cell (some (.ref al)) := d2
  have d3 : o3.data = .cell none := d3
  have d4 : o4.data = .cell none := d4
  clear Y
  obtain ⟨m, F, mf⟩ : ∃ m, Fr s.heap s.heap.objs.size h₁ m ∧ m (Str.ofString "form") = some (.ref af) := ⟨_, F, rfl⟩
  refine wpAny_execs_cons ?_
  refine wpAny_Assign_Name ?_
  refine Call_ ?_
  refine nameX_B F X TR gS bS (by decide) ?_
  refine PyProof.Rows.callWith_builtin1 ?_
  refine args_cons ?_
  refine mask_comp (n := wide.length) (fun k => !(letters.any fun x => x == wide.getD k 0)) rfl (cl := [(Str.ofString "wide", s.heap.objs.size + 1), (Str.ofString "letters", s.heap.objs.size + 1 + 1)]) rfl (by decide) rfl (by decide) rfl (by omega) ?_ ?_ ?_
  · intro Q' hQ'
    refine Call_ ?_
    refine nameX_B F X TR gR bR (by decide) ?_
    refine Pv.callWith_type1 ?_
    refine args_cons ?_
    refine Call_ ?_
    refine nameX_B F X TR gL bL (by decide) ?_
    refine PyProof.Rows.callWith_builtin1 ?_
    refine args_cons ?_
    refine nameX_C N (c := s.heap.objs.size + 1) rfl (.tail _ (.tail _ (.tail _ (.head _)))) d1 ?_
    refine args_nil ?_
    refine len_list (hw.at fun o e => F.keep _ o e) (by rw [hws]; omega) ?_
    rw [hws]
    refine args_nil ?_
    exact range1_rows F N fun h2 tk2 t1 u1 v1 hrg F2 N2 hk2 => hQ' _ h2 tk2 t1 u1 v1 hrg hk2
  · intro C i ta s2 m2 E2 hi hn hm up
    obtain ⟨t9, hx⟩ := ints_getD hwi hi
    refine wpAny_isTrue_Compare1 ?_
    refine Subscript_ ?_
    refine kldC (up _ _ (N.get (.tail _ (.tail _ (.tail _ (.head _)))))) d1 rfl ?_
    refine kldL hn hm ?_
    refine item_listL (l := wv) (hw.at fun o e => up _ _ (F.keep _ o e)) (by omega) (by omega) (by rw [Int.toNat_natCast]; exact hx) ?_
    refine kldC (up _ _ (N.get (.tail _ (.tail _ (.head _))))) d2 rfl ?_
    refine notin_list_ints (vs := lv) (hl.isList.at fun o e => up _ _ (F.keep _ o e)) hli ?_
    exact wpAny_truthy_bool ⟨rfl, keeps_refl _⟩
  intro D ys h3 tk3 hpD hi3 hD hk3
  refine args_nil ?_
  refine sumG rfl hpD.isList hi3 fun h4 tk4 t4 hk4 => ?_
  rw [mask_sum']
  have F4 := (F.keeps hk3).keeps hk4
  have N4 := (N.grown hk3).grown hk4
  have hG : maskN (fun k => !(letters.any fun x => x == wide.getD k 0)) wide.length = gapsN wide letters := rfl
  rw [hG]
  clear hG
  refine' storeX_C F4 N4 ?sc ?sU ?sd ?_ ?sa ?sb
  case sc => rfl
  case sU => k_updF
  case sd => exact d3
  case sa => rfl
  case sb => rfl
  intro h5 o5 F5 N5 d5
  show wpAny _ _ _ _ _ ({ s with heap := h5, toks := _ } : Shared)
  -- spots
  refine wpAny_execs_cons ?_
  refine Assign_ListComp_cell (F := fun i y => ∃ t, y = .int ((maskN (fun k => wide.getD k 0 == (letters ++ [0]).getD i 0) wide.length : Nat) : Int) t) rfl rfl (cl := [(Str.ofString "wide", s.heap.objs.size + 1)]) rfl rfl (fun _ => rfl) (fun _ => rfl) (by decide) rfl rfl rfl ?_
  refine wpAny_BinOp ?_
  refine nameX_C N5 (c := s.heap.objs.size + 1 + 1) rfl (.tail _ (.tail _ (.head _))) d2 ?_
  refine List_ ?_
  refine args_cons ?_
  refine wpAny_Constant_int ?_
  refine args_nil ?_
  refine newList_N F5 N5 (fun h6 F6 N6 => ?_) (by show 1 ≤ sizeLine; rw [sizeLine_eq]; decide)
  refine add_lists_ints (ns := letters) (ms := [0]) F6 N6 (hl.isList.at fun o e => F6.keep _ o e) (N6.isList (.head _)) hli (.cons 0 _ .nil) (fun h7 F7 N7 hi7 => ?_) (by rw [sizeLine_eq]; simp; omega)
  refine ⟨_, _, m, rfl, N7.isList (.head _), by rw [sizeLine_eq, hi7.length]; simp; omega, F7.ns, ?_, ?_⟩
  · intro C c i v s3 E' hv hc hk3
    obtain ⟨oc, hoc, hdc⟩ := hc
    have up0 : ∀ b o, s.heap.get? b = some o → s3.heap.get? b = some o := fun b o e => hk3 b o (F7.keep b o e)
    have hi0 : i < (letters ++ [0]).length := by
      have := (List.getElem?_eq_some_iff.mp hv).1
      rw [hi7.length] at this; exact this
    obtain ⟨tv, hvv⟩ := ints_getD hi7 hi0
    rw [hvv] at hv
    cases hv
    refine Call_ ?_
    refine gnB up0 X TR gS bS (by decide) ?_
    refine PyProof.Rows.callWith_builtin1 ?_
    refine args_cons ?_
    have g1 : s3.heap.get? (s.heap.objs.size + 1) = some o1 := hk3 _ _ (N7.get (.tail _ (.tail _ (.tail _ (.tail _ (.tail _ (.head _)))))))
    refine mask_comp (n := wide.length) (fun k => wide.getD k 0 == (letters ++ [0]).getD i 0) rfl (cl := [(Str.ofString "wide", s.heap.objs.size + 1), (Str.ofString "letter", c)]) rfl (by decide) rfl (by decide) rfl (by omega) ?_ ?_ ?_
    · intro Q' hQ'
      refine Call_ ?_
      refine gnB up0 X TR gR bR (by decide) ?_
      refine Pv.callWith_type1 ?_
      refine args_cons ?_
      refine Call_ ?_
      refine gnB up0 X TR gL bL (by decide) ?_
      refine PyProof.Rows.callWith_builtin1 ?_
      refine args_cons ?_
      refine kldK g1 d1 rfl ?_
      refine args_nil ?_
      refine len_list (hw.at fun o e => up0 _ o e) (by rw [hws]; omega) ?_
      rw [hws]
      refine args_nil ?_
      exact range1_rows (F7.keeps hk3) News.nil fun h2 tk2 t1 u1 v1 hrg F2 N2 hk2 => hQ' _ h2 tk2 t1 u1 v1 hrg hk2
    · intro C j ta s2 m2 E2 hj hn hm up
      obtain ⟨t9, hx⟩ := ints_getD hwi hj
      refine wpAny_isTrue_Compare1 ?_
      refine Subscript_ ?_
      refine kldC (up _ _ g1) d1 rfl ?_
      refine kldL hn hm ?_
      refine item_listL (l := wv) (hw.at fun o e => up _ _ (up0 _ o e)) (by omega) (by omega) (by rw [Int.toNat_natCast]; exact hx) ?_
      refine kldC (up _ _ hoc) hdc rfl ?_
      refine IsLeap.wpAny_eq_int' ?_
      exact wpAny_truthy_bool ⟨rfl, keeps_refl _⟩
    intro D ys h3 tk3 hpD hi3 hD hk3'
    refine args_nil ?_
    refine sumG rfl hpD.isList hi3 fun h4 tk4 t4 hk4 => ?_
    rw [mask_sum']
    exact ⟨⟨_, rfl⟩, h4, tk4, rfl, fun b o e => hk4 b o (hk3' b o e)⟩
  intro D ys h8 tk8 hys hFs hpD hD8 hn8 hk8
  obtain ⟨F8, N8⟩ := fr_after F7 N7 hn8 hk8
  clear hn8
  obtain ⟨nsp, hsp8⟩ := hpD
  have hDL : D ≠ s.heap.objs.size := fun q => by
    obtain ⟨oL, _, _, hoL, _⟩ := F7.ns
    rw [q] at hD8; rw [hD8] at hoL; cases hoL
  have hDh : s.heap.get? D = none := by
    cases q : s.heap.get? D with
    | none => rfl
    | some o => have := F7.keep _ _ q; rw [hD8] at this; cases this
  have hDne : ∀ c o, h7.get? c = some o → @Ne Nat D c := fun c o e q => by rw [q] at hD8; rw [hD8] at e; cases e
  have ne4 := hDne _ _ (N7.get (.tail _ (.tail _ (.head _))))
  have ne3 := hDne _ _ (N7.get (.tail _ (.tail _ (.tail _ (.head _)))))
  have ne2 := hDne _ _ (N7.get (.tail _ (.tail _ (.tail _ (.tail _ (.head _))))))
  have ne1 := hDne _ _ (N7.get (.tail _ (.tail _ (.tail _ (.tail _ (.tail _ (.head _)))))))
  have N8' : News s.heap s.heap.objs.size h8 [(D, { cls := .type "list", data := .seq ys.toArray nsp }), (s.heap.objs.size + 1 + 1 + 1 + 1, o4), (s.heap.objs.size + 1 + 1 + 1, o5), (s.heap.objs.size + 1 + 1, o2), (s.heap.objs.size + 1, o1)] := by
    intro p hp
    rcases List.mem_cons.mp hp with rfl | hp
    · exact ⟨hsp8, hDL, hDh⟩
    · exact N8 p (.tail _ (.tail _ hp))
  have hspi : IntsAre ys ((letters ++ [0]).map fun l => ((spotN wide l : Nat) : Int)) := by
    refine ints_of_get (by rw [hys, hi7.length, List.length_map]) fun i hi => ?_
    rw [List.length_map] at hi
    obtain ⟨t, e⟩ := hFs i (ys[i]'(by rw [hys, hi7.length]; exact hi)) (by simp)
    refine ⟨t, ?_⟩
    rw [List.getElem?_eq_getElem (by rw [hys, hi7.length]; exact hi), e]
    congr 2
    rw [List.getElem_map, List.getD_eq_getElem?_getD, List.getElem?_eq_getElem hi]
    rfl
  clear N8 N7 F7 N6 F6 hk8 hFs hi7 hys hD8
  obtain ⟨m2, F8, mf2, ms2⟩ : ∃ m2, Fr s.heap s.heap.objs.size h8 m2 ∧ m2 (Str.ofString "form") = some (.ref af) ∧ m2 (Str.ofString "spots") = some (.ref D) := ⟨_, F8, mf, rfl⟩
  -- reach
  show wpAny _ _ _ _ _ ({ s with heap := h8, toks := tk8 } : Shared)
  refine wpAny_execs_cons ?_
  refine wpAny_Assign_Name ?_
  refine List_ ?_
  refine args_cons ?_
  refine Call_ ?_
  refine nameX_K F8 X TR gP ?_
  refine callWith_K X (by k_is) ?_
  refine args_cons ?_
  refine wpAny_Constant_int ?_
  refine args_cons ?_
  refine nameX_C N8' (c := s.heap.objs.size + 1 + 1 + 1) rfl (.tail _ (.tail _ (.head _))) d5 ?_
  refine args_nil ?_
  refine ⟨X.keeps F8.keep, ?_⟩
  refine wpAny_mono (spread_call (X.keeps F8.keep) (T.keeps F8.keep) hroom 1 (gapsN wide letters) _ _) (fun v s9 h9 => ?_) fun _ _ e => e
  obtain ⟨⟨t9, rfl⟩, h9, tk9, rfl, hk9⟩ := h9
  have F9 := F8.keeps hk9
  have N9 := N8'.grown hk9
  refine args_nil ?_
  refine newList_N F9 N9 (fun h10 F10 N10 => ?_) (by show 1 ≤ sizeLine; rw [sizeLine_eq]; decide)
  have hlt10 : ∀ p ∈ [(D, ({ cls := .type "list", data := .seq ys.toArray nsp } : Obj)), (s.heap.objs.size + 1 + 1 + 1 + 1, o4), (s.heap.objs.size + 1 + 1 + 1, o5), (s.heap.objs.size + 1 + 1, o2), (s.heap.objs.size + 1, o1)], @LT.lt Nat _ p.1 h9.objs.size := fun p hp => Heap.lt_size (N9 p hp).1
  refine storeX_L F10 N10 fun h11 F11 N11 => ?_
  show wpAny _ _ _ _ _ ({ s with heap := h11, toks := _ } : Shared)
  have hL0 : ∀ p ∈ [(D, ({ cls := .type "list", data := .seq ys.toArray nsp } : Obj)), (s.heap.objs.size + 1 + 1 + 1 + 1, o4), (s.heap.objs.size + 1 + 1 + 1, o5), (s.heap.objs.size + 1 + 1, o2), (s.heap.objs.size + 1, o1)], @Ne Nat h9.objs.size p.1 := fun p hp => Nat.ne_of_gt (hlt10 p hp)
  obtain ⟨nl, hal⟩ := id hl
  have hafL : af ≠ s.heap.objs.size := by
    obtain ⟨o, ho, _⟩ := hf
    exact Nat.ne_of_lt (Heap.lt_size ho)
  have hafn : s.heap.get? af ≠ none := by
    obtain ⟨o, ho, _⟩ := hf
    rw [ho]; exact fun q => by cases q
  refine wpAny_execs_cons ?_
  refine for_list (a := af) (items := fv) (WJ s.heap.objs.size D wide letters form { cls := .type "list", data := .seq ys.toArray nsp } o5 o2 o1) (fun h => nameX_L F11 mf2 h) rfl (hf.at fun o e => F11.keep _ o e) hafL F11 N11 ?_ ?_ ?_ ?_
  · exact .cons rfl (.cons rfl (.cons (isIt_cell d4) (.cons (isIt_cell d5) (.cons (isIt_cell d2) (.cons (isIt_cell d1) .nil)))))
  · refine ⟨h9.objs.size, _, 0, o4, none, [spread (gapsN wide letters) 1], rfl, rfl, ms2, .cons _ _ .nil, d4, ?_, by simp, ?_, ?_⟩
    · intro p; simp [Rch]
    · intro p hp
      rw [List.mem_singleton.mp hp]
      exact spread_lt (gapsN_lt _ _) (by have : 1 ≤ 2 ^ wide.length := Nat.one_le_two_pow; have e : 2 ^ (wide.length + 1) = 2 ^ wide.length * 2 := Nat.pow_succ ..; omega)
    · intro c hc
      simp only [List.mem_cons, List.not_mem_nil, or_false] at hc
      rcases hc with rfl | rfl | rfl | rfl | rfl
      · exact hL0 _ (.head _)
      · exact hL0 _ (.tail _ (.head _))
      · exact hL0 _ (.tail _ (.tail _ (.head _)))
      · exact hL0 _ (.tail _ (.tail _ (.tail _ (.head _))))
      · exact hL0 _ (.tail _ (.tail _ (.tail _ (.tail _ (.head _)))))
  · rintro i v m₁ news₁ h tk own hv ⟨Dr, vs, nr, o4', v4, reach, rfl, mr, msp, hri, d4', hreach, hlen, hlow, hDr⟩ hno hown hap F1 N1
    have hi0 : i < form.length := by
      have := (List.getElem?_eq_some_iff.mp hv).1
      rw [hfi.length] at this; exact this
    obtain ⟨tv, hvv⟩ := ints_getD hfi hi0
    rw [hvv] at hv
    cases hv
    obtain ⟨sym, hsym⟩ : ∃ sym, form.getD i 0 = sym := ⟨_, rfl⟩
    rw [hsym] at F1
    have htake : form.take (i + 1) = form.take i ++ [sym] := by
      rw [List.take_add_one, List.getElem?_eq_getElem hi0, ← hsym, List.getD_eq_getElem?_getD, List.getElem?_eq_getElem hi0]; rfl
    have nin : ∀ {p : Addr × Obj} {r : List (Addr × Obj)}, p ∈ r → p ∈ own ++ r := fun hp => List.mem_append_right _ hp
    have hownne : ∀ (c : Addr) o, (c, o) ∈ [(Dr, ({ cls := .type "list", data := .seq vs.toArray nr } : Obj)), (D, { cls := .type "list", data := .seq ys.toArray nsp }), (s.heap.objs.size + 1 + 1 + 1 + 1, o4'), (s.heap.objs.size + 1 + 1 + 1, o5), (s.heap.objs.size + 1 + 1, o2), (s.heap.objs.size + 1, o1)] → ∀ p ∈ own, p.1 ≠ c := by
      intro c o hc p hp e
      rcases hown p hp with q | q
      · exact hafn (by rw [← q, e]; exact (N1 _ (nin hc)).2.2)
      · exact hap _ hc (e ▸ q)
    have hDr0 := hDr D (.head _)
    have hDr4 := hDr _ (.tail _ (.head _))
    have hDr3 := hDr _ (.tail _ (.tail _ (.head _)))
    have hDr2 := hDr _ (.tail _ (.tail _ (.tail _ (.head _))))
    have hDr1 := hDr _ (.tail _ (.tail _ (.tail _ (.tail _ (.head _)))))
    refine wpAny_execs_cons ?_
    refine wpAny_If ?_
    refine wpAny_isTrue_Compare1 ?_
    refine nameX_L F1 rfl ?_
    refine nameX_C N1 (c := s.heap.objs.size + 1 + 1) rfl (nin (.tail _ (.tail _ (.tail _ (.tail _ (.head _)))))) d2 ?_
    refine in_list_ints (vs := lv) (hl.isList.at fun o e => F1.keep _ o e) hli ?_
    refine wpAny_truthy_bool ?_
    by_cases hin : (letters.any fun x => x == sym) = true
    · rw [if_pos hin]
      have hmem : sym ∈ letters := by simpa using hin
      have hidx : letters.idxOf sym < letters.length := List.idxOf_lt_length_of_mem hmem
      -- spot
      refine wpAny_execs_cons ?_
      refine wpAny_Assign_Name ?_
      refine Subscript_ ?_
      refine nameX_L F1 msp ?_
      refine MethodCall_ ?_
      refine nameX_C N1 (c := s.heap.objs.size + 1 + 1) rfl (nin (.tail _ (.tail _ (.tail _ (.tail _ (.head _)))))) d2 ?_
      refine method_l PySem.F.slot_list_index PySem.F.type_list_index (F1.keep _ _ hal) ?_
      refine callWith_method1 ?_
      refine args_cons ?_
      refine nameX_L F1 rfl ?_
      refine args_nil ?_
      refine index_l (vs := lv) (F1.keep _ _ hal) hli hmem (by rw [sizeLine_eq, hli.length]; omega) ?_
      have hspv : ∃ t, ys[letters.idxOf sym]? = some (.int ((spotN wide sym : Nat) : Int) t) := by
        obtain ⟨t, e⟩ := ints_getD hspi (k := letters.idxOf sym) (by simp; omega)
        refine ⟨t, e.trans ?_⟩
        congr 2
        rw [List.getD_eq_getElem?_getD, List.getElem?_map, List.getElem?_append_left hidx, List.getElem?_eq_getElem hidx, List.getElem_idxOf]
        rfl
      obtain ⟨tsp, hspv⟩ := hspv
      refine item_listL (l := ys) (N1.isList (nin (.tail _ (.head _)))) (by omega) (by omega) (by rw [Int.toNat_natCast]; exact hspv) ?_
      refine' storeX_C F1 N1 ?sc ?sU ?sd ?_ ?sa ?sb
      case sc => rfl
      case sU => exact updF_app (hownne _ o4' (.tail _ (.tail _ (.head _)))) (upd4 hDr4 ne4)
      case sd => exact d4'
      case sa => rfl
      case sb => rfl
      intro h2 o42 F2 N2 d42
      -- reach
      have d42' : o42.data = .cell (some (.int ((spotN wide sym : Nat) : Int) tsp)) := d42
      refine wpAny_execs_cons ?_
      refine Assign_ListComp_lK (fun _ => true) (fun v y => ∀ (p : Nat) t, v = Value.int (p : Int) t → ∃ t', y = Value.int ((stp (gapsN wide letters) (spotN wide sym) p : Nat) : Int) t') rfl rfl (cl := [(Str.ofString "spot", s.heap.objs.size + 1 + 1 + 1 + 1), (Str.ofString "gaps", s.heap.objs.size + 1 + 1 + 1)]) rfl (by decide) rfl (by decide) rfl rfl rfl ?_
      refine nameX_L F2 mr ?_
      have hvl : vs.length = reach.length := by rw [hri.length, List.length_map]
      have hrl : reach.length ≤ 1 + 8 * 512 := by
        have : 2 ^ (wide.length + 1) ≤ 2 ^ 9 := Nat.pow_le_pow_right (by decide) (by omega)
        have : i * 2 ^ (wide.length + 1) ≤ 8 * 512 := Nat.mul_le_mul (by omega) this
        omega
      refine ⟨Dr, vs, _, rfl, N2.isList (nin (.head _)), by rw [sizeLine_eq, hvl]; omega, F2.ns, ?_, ?_, ?_⟩
      · intro C j v s2 m2' E' hv hn hm hk
        exact wpAny_pure ⟨rfl, keeps_refl _⟩
      · intro C j v s2 m2' E' hv _ hn hm hk
        have up0 : ∀ b o, s.heap.get? b = some o → s2.heap.get? b = some o := fun b o e => hk b o (F2.keep b o e)
        have hj : j < reach.length := by rw [← hvl]; exact (List.getElem?_eq_some_iff.mp hv).1
        obtain ⟨tj, hvj⟩ := ints_getD hri (k := j) (by rw [List.length_map]; exact hj)
        rw [hvj] at hv
        cases hv
        have hgp : (reach.map fun p => ((p : Nat) : Int)).getD j 0 = ((reach.getD j 0 : Nat) : Int) := by
          rw [List.getD_eq_getElem?_getD, List.getD_eq_getElem?_getD, List.getElem?_map, List.getElem?_eq_getElem hj]; rfl
        rw [hgp] at hm ⊢
        generalize reach.getD j 0 = p at hm ⊢
        refine Call_ ?_
        refine gnK up0 X TR gP ?_
        refine callWith_K X (by k_is) ?_
        refine args_cons ?_
        refine wpAny_BinOp ?_
        refine wpAny_BinOp ?_
        refine kldL hn hm ?_
        refine kldC (hk _ _ (N2.get (nin (.tail _ (.tail _ (.tail _ (.head _))))))) d5 rfl ?_
        refine and_int ?_
        refine wpAny_BinOp ?_
        refine wpAny_BinOp ?_
        refine kldL hn hm ?_
        refine kldC (hk _ _ (N2.get (nin (.tail _ (.tail _ (.head _)))))) d42' rfl ?_
        refine and_int ?_
        refine wpAny_Constant_int ?_
        rw [bitAnd_nat, bitAnd_nat]
        refine mul_int ?_
        refine or_int ?_
        rw [show (((p &&& spotN wide sym : Nat) : Int) * 2) = (((p &&& spotN wide sym) * 2 : Nat) : Int) by omega, bitOr_nat]
        refine args_cons ?_
        refine kldC (hk _ _ (N2.get (nin (.tail _ (.tail _ (.tail _ (.head _))))))) d5 rfl ?_
        refine args_nil ?_
        refine ⟨X.keeps up0, ?_⟩
        refine wpAny_mono (spread_call (by exact X.keeps up0) (by exact T.keeps up0) hroom ((p &&& gapsN wide letters) ||| (p &&& spotN wide sym) * 2) (gapsN wide letters) _ _) (fun v s9 h9 => ?_) fun _ _ e => e
        obtain ⟨⟨t9, rfl⟩, h9, tk9, rfl, hk9⟩ := h9
        refine ⟨?_, h9, tk9, rfl, hk9⟩
        intro p' t' e
        obtain ⟨e1, _⟩ := Value.int.inj e
        have : p = p' := by omega
        subst this
        exact ⟨_, rfl⟩
      · intro Dn zs h3 tk3 hpz hpl hDn hn3 hk3
        rw [filter_true] at hpz
        obtain ⟨nz, hnz⟩ := hpl
        obtain ⟨F3, N3⟩ := fr_after F2 N2 hn3 hk3
        have hri' := paired_nat hri hpz
        have hne3 : ∀ c o, h2.get? c = some o → @Ne Nat Dn c := fun c o e q => by rw [q] at hDn; rw [hDn] at e; cases e
        refine wpAny_execs_nil ?_
        refine wpAny_execs_nil ?_
        have hDnL : Dn ≠ s.heap.objs.size := fun q => by
          obtain ⟨oL, _, _, hoL, _⟩ := F2.ns
          rw [q] at hDn; rw [hDn] at hoL; cases hoL
        have hDnh : s.heap.get? Dn = none := by
          cases q : s.heap.get? Dn with
          | none => rfl
          | some o => have := F2.keep _ _ q; rw [hDn] at this; cases this
        refine ⟨h3, tk3, _, [(Dn, { cls := .type "list", data := .seq zs.toArray nz }), (D, { cls := .type "list", data := .seq ys.toArray nsp }), (s.heap.objs.size + 1 + 1 + 1 + 1, o42), (s.heap.objs.size + 1 + 1 + 1, o5), (s.heap.objs.size + 1 + 1, o2), (s.heap.objs.size + 1, o1)], rfl, F3, ?_, ?_, Dn, zs, nz, o42, _, reach.map (stp (gapsN wide letters) (spotN wide sym)), rfl, rfl, msp, hri', d42', ?_, ?_, ?_, ?_⟩
        · intro p hp
          rcases List.mem_append.mp hp with hp | hp
          · exact N3 p (List.mem_append_left _ hp)
          · rcases List.mem_cons.mp hp with rfl | hp
            · exact ⟨hnz, hDnL, hDnh⟩
            · exact N3 p (nin (.tail _ hp))
        · exact .cons rfl (.cons rfl (.cons (isIt_cell d42') (.cons (isIt_cell d5) (.cons (isIt_cell d2) (.cons (isIt_cell d1) .nil)))))
        · intro q
          rw [htake, Rch_snoc, nxt, if_pos hin, List.mem_map]
          exact ⟨fun ⟨p, hp, e⟩ => ⟨p, (hreach p).mp hp, e.symm⟩, fun ⟨p, hp, e⟩ => ⟨p, (hreach p).mpr hp, e.symm⟩⟩
        · rw [List.length_map]
          exact Nat.le_trans hlen (Nat.add_le_add_left (Nat.mul_le_mul_right _ (Nat.le_succ i)) 1)
        · intro q hq
          obtain ⟨p, _, rfl⟩ := List.mem_map.mp hq
          exact st_lt (gapsN_lt _ _) (spotN_lt _ _)
        · intro c hc
          simp only [List.mem_cons, List.not_mem_nil, or_false] at hc
          rcases hc with rfl | rfl | rfl | rfl | rfl
          · exact hne3 _ _ (N2.get (nin (.tail _ (.head _))))
          · exact hne3 _ _ (N2.get (nin (.tail _ (.tail _ (.head _)))))
          · exact hne3 _ _ (N2.get (nin (.tail _ (.tail _ (.tail _ (.head _))))))
          · exact hne3 _ _ (N2.get (nin (.tail _ (.tail _ (.tail _ (.tail _ (.head _)))))))
          · exact hne3 _ _ (N2.get (nin (.tail _ (.tail _ (.tail _ (.tail _ (.tail _ (.head _))))))))
    · rw [if_neg hin]
      show wpAny _ _ _ _ _ ({ s with heap := h, toks := _ } : Shared)
      refine wpAny_execs_cons ?_
      refine wpAny_Assign_Name ?_
      refine wpAny_Constant_int ?_
      refine storeX_L F1 N1 fun h2 F2 N2 => ?_
      show wpAny _ _ _ _ _ ({ s with heap := h2, toks := _ } : Shared)
      obtain ⟨m2', F2, mr, msp, mse⟩ : ∃ m2', Fr s.heap s.heap.objs.size h2 m2' ∧ m2' (Str.ofString "reach") = some (.ref Dr) ∧ m2' (Str.ofString "spots") = some (.ref D) ∧ ∃ t, m2' (Str.ofString "seen") = some (.int 0 t) := ⟨_, F2, mr, msp, _, rfl⟩
      clear F1 N1
      have hB : 2 ^ (wide.length + 1) ≤ 2 ^ 9 := Nat.pow_le_pow_right (by decide) (by omega)
      have hC0 : reach.length + fresh (2 ^ (wide.length + 1)) reach ≤ 1 + (i + 1) * 2 ^ (wide.length + 1) := by
        have := fresh_le (2 ^ (wide.length + 1)) reach
        rw [Nat.add_mul, Nat.one_mul]; omega
      have hC1 : 1 + (i + 1) * 2 ^ (wide.length + 1) ≤ 1 + 8 * 512 := Nat.add_le_add_left (Nat.mul_le_mul (by omega) hB) 1
      have hrl : vs.length = reach.length := by rw [hri.length, List.length_map]
      refine wpAny_execs_cons ?_
      refine wpAny_While (codeAny_whileLoop (fun k s' => ∃ h tk m' vs nr o4 v4 reach' seen ts, s' = { s with heap := h, toks := tk } ∧ Fr s.heap s.heap.objs.size h m' ∧
        News s.heap s.heap.objs.size h (own ++ [(Dr, { cls := .type "list", data := .seq (List.toArray vs) nr }), (D, { cls := .type "list", data := .seq ys.toArray nsp }), (s.heap.objs.size + 1 + 1 + 1 + 1, o4), (s.heap.objs.size + 1 + 1 + 1, o5), (s.heap.objs.size + 1 + 1, o2), (s.heap.objs.size + 1, o1)]) ∧
        m' (Str.ofString "reach") = some (.ref Dr) ∧ m' (Str.ofString "spots") = some (.ref D) ∧ m' (Str.ofString "seen") = some (.int (seen : Nat) ts) ∧ IntsAre vs (reach'.map fun p => ((p : Nat) : Int)) ∧ o4.data = .cell v4 ∧
        Grown (2 ^ (wide.length + 1)) (reach.length + fresh (2 ^ (wide.length + 1)) reach) (gapsN wide letters) ((letters ++ [0]).map (spotN wide)) reach reach' seen ∧ k = reach.length + fresh (2 ^ (wide.length + 1)) reach - seen) ?_ (reach.length + fresh (2 ^ (wide.length + 1)) reach - 0) ?_)
      case refine_2 =>
        obtain ⟨tse, mse⟩ := mse
        exact ⟨h2, _, m2', vs, nr, o4', v4, reach, 0, tse, rfl, F2, N2, mr, msp, mse, hri, d4', Grown.start _ _ _ _ hlow, rfl⟩
      clear F2 N2 mr msp mse hri d4'
      rintro k _ ⟨h, tk, m', vs, nr, o4, v4, reach', seen, ts, rfl, F1, N1, mr, msp, mse, hri, d4', hg, rfl⟩
      have hsz := hg.size
      have hvl : vs.length = reach'.length := by rw [hri.length, List.length_map]
      refine wpAny_isTrue_Compare1 ?_
      refine nameX_L F1 mse ?_
      refine Call_ ?_
      refine nameX_B F1 X TR gL bL (by decide) ?_
      refine PyProof.Rows.callWith_builtin1 ?_
      refine args_cons ?_
      refine nameX_L F1 mr ?_
      refine args_nil ?_
      have hvz : (List.toArray vs).size = reach'.length := by rw [List.size_toArray, hvl]
      refine len_list (N1.isList (nin (.head _))) (by rw [hvz]; omega) ?_
      rw [hvz]
      refine lt_int ?_
      refine wpAny_truthy_bool ?_
      by_cases hc : seen < reach'.length
      · rw [if_pos (decide_eq_true (by omega))]
        show wpAny _ _ _ _ _ ({ s with heap := h, toks := _ } : Shared)
        refine seq (fun s' => ∃ h tk m' vs nr o4 v4 reach'' ts, s' = { s with heap := h, toks := tk } ∧ Fr s.heap s.heap.objs.size h m' ∧
          News s.heap s.heap.objs.size h (own ++ [(Dr, { cls := .type "list", data := .seq (List.toArray vs) nr }), (D, { cls := .type "list", data := .seq ys.toArray nsp }), (s.heap.objs.size + 1 + 1 + 1 + 1, o4), (s.heap.objs.size + 1 + 1 + 1, o5), (s.heap.objs.size + 1 + 1, o2), (s.heap.objs.size + 1, o1)]) ∧
          m' (Str.ofString "reach") = some (.ref Dr) ∧ m' (Str.ofString "spots") = some (.ref D) ∧ m' (Str.ofString "seen") = some (.int (seen : Nat) ts) ∧ IntsAre vs (reach''.map fun p => ((p : Nat) : Int)) ∧ o4.data = .cell v4 ∧
          Grown (2 ^ (wide.length + 1)) (reach.length + fresh (2 ^ (wide.length + 1)) reach) (gapsN wide letters) ((letters ++ [0]).map (spotN wide)) reach reach'' (seen + 1)) ?_ ?_
        · refine for_listC (a := D) (items := ys) (fun j m'' news'' => ∃ vs nr o4 v4 reach'', news'' = own ++ [(Dr, { cls := .type "list", data := .seq (List.toArray vs) nr }), (D, { cls := .type "list", data := .seq ys.toArray nsp }), (s.heap.objs.size + 1 + 1 + 1 + 1, o4), (s.heap.objs.size + 1 + 1 + 1, o5), (s.heap.objs.size + 1 + 1, o2), (s.heap.objs.size + 1, o1)] ∧
            m'' (Str.ofString "reach") = some (.ref Dr) ∧ m'' (Str.ofString "spots") = some (.ref D) ∧ m'' (Str.ofString "seen") = some (.int (seen : Nat) ts) ∧ IntsAre vs (reach''.map fun p => ((p : Nat) : Int)) ∧ o4.data = .cell v4 ∧
            Grown (2 ^ (wide.length + 1)) (reach.length + fresh (2 ^ (wide.length + 1)) reach) (gapsN wide letters) ((letters ++ [0]).map (spotN wide)) reach reach'' seen ∧ seen < reach''.length ∧
            ∀ k, k < j → stp (gapsN wide letters) (((letters ++ [0]).map (spotN wide)).getD k 0) (reach''.getD seen 0) ∈ reach'') (fun q => nameX_L F1 msp q) rfl (N1.isList (nin (.tail _ (.head _)))) hDL F1 N1
            ⟨vs, nr, o4, v4, reach', rfl, mr, msp, mse, hri, d4', hg, hc, fun _ h => absurd h (Nat.not_lt_zero _)⟩ ?_ ?_
          · rintro j v m1 news1 h3 tk3 own2 hv ⟨vs, nr, o4, v4, reach'', rfl, mr, msp, mse, hri, d4', hg, hc, hdone⟩ hown2 hap2 F3 N3
            have hj0 : j < ((letters ++ [0]).map fun l => ((spotN wide l : Nat) : Int)).length := by
              have := (List.getElem?_eq_some_iff.mp hv).1
              rw [hspi.length] at this; exact this
            obtain ⟨tv, hvv⟩ := ints_getD hspi hj0
            rw [hvv] at hv
            cases hv
            have hj1 : j < (letters ++ [0]).length := by simpa using hj0
            have hgp : ((letters ++ [0]).map fun l => ((spotN wide l : Nat) : Int)).getD j 0 = ((((letters ++ [0]).map (spotN wide)).getD j 0 : Nat) : Int) := by
              rw [List.getD_eq_getElem?_getD, List.getD_eq_getElem?_getD, List.getElem?_map, List.getElem?_map, List.getElem?_eq_getElem hj1]; rfl
            rw [hgp]
            have hspm : ((letters ++ [0]).map (spotN wide)).getD j 0 ∈ (letters ++ [0]).map (spotN wide) := by
              rw [List.getD_eq_getElem?_getD, List.getElem?_eq_getElem (by simpa using hj1)]
              exact List.getElem_mem _
            have hsplt : ((letters ++ [0]).map (spotN wide)).getD j 0 < 2 ^ wide.length := by
              obtain ⟨l, _, e⟩ := List.mem_map.mp hspm
              rw [← e]; exact spotN_lt _ _
            obtain ⟨sp, hspe⟩ : ∃ sp, ((letters ++ [0]).map (spotN wide)).getD j 0 = sp := ⟨_, rfl⟩
            rw [hspe] at hspm hsplt ⊢
            have nin2 : ∀ {p : Addr × Obj} {r : List (Addr × Obj)}, p ∈ r → p ∈ own2 ++ (own ++ r) := fun hp => List.mem_append_right _ (List.mem_append_right _ hp)
            have hown2ne : ∀ (c : Addr) o, @Ne Nat D c → (c, o) ∈ [(Dr, ({ cls := .type "list", data := .seq (List.toArray vs) nr } : Obj)), (D, { cls := .type "list", data := .seq ys.toArray nsp }), (s.heap.objs.size + 1 + 1 + 1 + 1, o4), (s.heap.objs.size + 1 + 1 + 1, o5), (s.heap.objs.size + 1 + 1, o2), (s.heap.objs.size + 1, o1)] → ∀ p ∈ own2, p.1 ≠ c := by
              intro c o hc hm p hp e
              rcases hown2 p hp with q | q
              · exact hc (q.symm.trans e)
              · exact hap2 _ (List.mem_append_right _ hm) (e ▸ q)
            have hownne' : ∀ (c : Addr) o, (c, o) ∈ [(Dr, ({ cls := .type "list", data := .seq (List.toArray vs) nr } : Obj)), (D, { cls := .type "list", data := .seq ys.toArray nsp }), (s.heap.objs.size + 1 + 1 + 1 + 1, o4), (s.heap.objs.size + 1 + 1 + 1, o5), (s.heap.objs.size + 1 + 1, o2), (s.heap.objs.size + 1, o1)] → ∀ p ∈ own, p.1 ≠ c := by
              intro c o hc p hp e
              rcases hown p hp with q | q
              · exact hafn (by rw [← q, e]; exact (N3 _ (nin2 hc)).2.2)
              · have e2 := (N3 _ (nin2 hc)).2.2
                rcases List.mem_cons.mp hc with e3 | hc
                · exact hap _ (.head _) (by rw [← q, e]; exact (Prod.mk.inj e3).1.symm)
                · rcases List.mem_cons.mp hc with e3 | hc
                  · exact hap _ (.tail _ (.head _)) (by rw [← q, e]; exact (Prod.mk.inj e3).1.symm)
                  · rcases List.mem_cons.mp hc with e3 | hc
                    · exact hap _ (.tail _ (.tail _ (.head _))) (by rw [← q, e]; exact (Prod.mk.inj e3).1.symm)
                    · exact hap _ (.tail _ (.tail _ (.tail _ hc))) (e ▸ q)
            -- spot
            refine' storeX_C F3 N3 ?sc ?sU ?sd ?_ ?sa ?sb
            case sc => rfl
            case sU => exact updF_app (hown2ne _ o4 ne4 (.tail _ (.tail _ (.head _)))) (updF_app (hownne' _ o4 (.tail _ (.tail _ (.head _)))) (upd4 hDr4 ne4))
            case sd => exact d4'
            case sa => rfl
            case sb => rfl
            intro h4 o42 F4 N4 d42
            have d42' : o42.data = .cell (some (.int ((sp : Nat) : Int) tv)) := d42
            show wpAny _ _ _ _ _ ({ s with heap := h4, toks := _ } : Shared)
            obtain ⟨p, hpe⟩ : ∃ p, reach''.getD seen 0 = p := ⟨_, rfl⟩
            obtain ⟨tp, hvp⟩ := ints_getD hri (k := seen) (by rw [List.length_map]; exact hc)
            have hgp2 : (reach''.map fun p => ((p : Nat) : Int)).getD seen 0 = ((p : Nat) : Int) := by
              rw [← hpe, List.getD_eq_getElem?_getD, List.getD_eq_getElem?_getD, List.getElem?_map, List.getElem?_eq_getElem hc]; rfl
            rw [hgp2] at hvp
            have hsz := hg.size
            have hvl : vs.length = reach''.length := by rw [hri.length, List.length_map]
            -- places
            refine wpAny_execs_cons ?_
            refine wpAny_Assign_Name ?_
            refine Call_ ?_
            refine nameX_K F4 X TR gP ?_
            refine callWith_K X (by k_is) ?_
            refine args_cons ?_
            refine wpAny_BinOp ?_
            refine wpAny_BinOp ?_
            refine Subscript_ ?_
            refine nameX_L F4 mr ?_
            refine nameX_L F4 mse ?_
            refine item_listL (l := vs) (N4.isList (nin2 (.head _))) (by omega) (by omega) (by rw [Int.toNat_natCast]; exact hvp) ?_
            refine nameX_C N4 (c := s.heap.objs.size + 1 + 1 + 1) rfl (nin2 (.tail _ (.tail _ (.tail _ (.head _))))) d5 ?_
            refine and_int ?_
            refine wpAny_BinOp ?_
            refine wpAny_BinOp ?_
            refine Subscript_ ?_
            refine nameX_L F4 mr ?_
            refine nameX_L F4 mse ?_
            refine item_listL (l := vs) (N4.isList (nin2 (.head _))) (by omega) (by omega) (by rw [Int.toNat_natCast]; exact hvp) ?_
            refine nameX_C N4 (c := s.heap.objs.size + 1 + 1 + 1 + 1) rfl (nin2 (.tail _ (.tail _ (.head _)))) d42' ?_
            refine and_int ?_
            refine wpAny_Constant_int ?_
            rw [bitAnd_nat, bitAnd_nat]
            refine mul_int ?_
            refine or_int ?_
            rw [show (((p &&& sp : Nat) : Int) * 2) = (((p &&& sp) * 2 : Nat) : Int) by omega, bitOr_nat]
            refine args_cons ?_
            refine nameX_C N4 (c := s.heap.objs.size + 1 + 1 + 1) rfl (nin2 (.tail _ (.tail _ (.tail _ (.head _))))) d5 ?_
            refine args_nil ?_
            refine ⟨X.keeps F4.keep, ?_⟩
            refine wpAny_mono (spread_call (by exact X.keeps F4.keep) (by exact T.keeps F4.keep) hroom ((p &&& gapsN wide letters) ||| (p &&& sp) * 2) (gapsN wide letters) _ _) (fun v s9 h9 => ?_) fun _ _ e => e
            obtain ⟨⟨t9, rfl⟩, h5, tk5, rfl, hk5⟩ := h9
            have hste : spread (gapsN wide letters) ((p &&& gapsN wide letters) ||| (p &&& sp) * 2) = stp (gapsN wide letters) sp p := rfl
            rw [hste]
            have F5 := F4.keeps hk5
            have N5 := N4.grown hk5
            refine storeX_L F5 N5 fun h6 F6 N6 => ?_
            show wpAny _ _ _ _ _ ({ s with heap := h6, toks := _ } : Shared)
            refine wpAny_execs_cons ?_
            refine wpAny_If ?_
            refine wpAny_isTrue_Compare1 ?_
            refine nameX_L F6 rfl ?_
            refine nameX_L F6 mr ?_
            refine notin_list_ints (vs := vs) (N6.isList (nin2 (.head _))) hri ?_
            refine wpAny_truthy_bool ?_
            have hany : ((reach''.map fun p => ((p : Nat) : Int)).any fun x => x == ((stp (gapsN wide letters) sp p : Nat) : Int)) = reach''.contains (stp (gapsN wide letters) sp p) := by
              rw [List.any_map, List.contains_eq_any_beq]
              congr 1
              funext u
              simp [Bool.beq_eq_decide_eq, eq_comm]
              exact ⟨fun h => by rw [h], fun h => by omega⟩
            rw [hany]
            cases hct : reach''.contains (stp (gapsN wide letters) sp p) with
            | true =>
              rw [Bool.not_true, if_neg Bool.false_ne_true]
              refine wpAny_execs_nil ?_
              refine wpAny_execs_nil ?_
              refine ⟨h6, _, _, _, rfl, F6, N6, ?_, vs, nr, o42, _, reach'', rfl, mr, msp, mse, hri, d42', hg, hc, ?_⟩
              · exact apart_map hap2 (by simp)
              · intro k hk
                rcases Nat.lt_or_ge k j with q | q
                · exact hdone k q
                · have : k = j := by omega
                  subst this
                  rw [hspe, hpe]
                  simpa using hct
            | false =>
              rw [Bool.not_false, if_pos rfl]
              have hnew : stp (gapsN wide letters) sp (reach''.getD seen 0) ∉ reach'' := by rw [hpe]; simpa using hct
              have hlt : stp (gapsN wide letters) sp (reach''.getD seen 0) < 2 ^ (wide.length + 1) := st_lt (gapsN_lt _ _) hsplt
              have hg2 := hg.push hc hspm hnew hlt
              rw [hpe] at hg2
              refine wpAny_execs_cons ?_
              refine wpAny_Expr ?_
              refine MethodCall_ ?_
              refine nameX_L F6 mr ?_
              refine method_l PySem.F.slot_list_append PySem.F.type_list_append (N6.get (nin2 (.head _))) ?_
              refine callWith_method1 ?_
              refine args_cons ?_
              refine nameX_L F6 rfl ?_
              refine args_nil ?_
              refine append_K F6 N6 (upd_app (hown2ne _ _ (Ne.symm hDr0) (.head _)) (upd_app (hownne' _ _ (.head _)) (updR hDr0 hDr4 hDr3 hDr2 hDr1))) (fun h7 F7 N7 => ?_) (by rw [sizeLine_eq, List.size_toArray]; omega)
              refine wpAny_execs_nil ?_
              refine wpAny_execs_nil ?_
              refine ⟨h7, _, _, own ++ [(Dr, { cls := .type "list", data := .seq (List.toArray (vs ++ [.int ((stp (gapsN wide letters) sp p : Nat) : Int) t9])) (nr + 1) }), (D, { cls := .type "list", data := .seq ys.toArray nsp }), (s.heap.objs.size + 1 + 1 + 1 + 1, o42), (s.heap.objs.size + 1 + 1 + 1, o5), (s.heap.objs.size + 1 + 1, o2), (s.heap.objs.size + 1, o1)], rfl, F7, ?_, ?_, vs ++ [.int ((stp (gapsN wide letters) sp p : Nat) : Int) t9], nr + 1, o42, _, reach'' ++ [stp (gapsN wide letters) sp p], rfl, mr, msp, mse, ?_, d42', hg2, ?_, ?_⟩
              · rw [show (List.toArray vs).push (Value.int ((stp (gapsN wide letters) sp p : Nat) : Int) t9) = (vs ++ [Value.int ((stp (gapsN wide letters) sp p : Nat) : Int) t9]).toArray by simp] at N7
                exact N7
              · exact apart_map hap2 (by simp)
              · rw [List.map_append]; exact hri.append (.cons _ _ .nil)
              · rw [List.length_append]; omega
              · intro k hk
                rw [getD_push hc]
                rcases Nat.lt_or_ge k j with q | q
                · exact List.mem_append_left _ (hdone k q)
                · have : k = j := by omega
                  subst this
                  rw [hspe, hpe]
                  exact List.mem_append_right _ (.head _)
          · rintro h3 tk3 m1 news1 ⟨vs, nr, o4, v4, reach'', rfl, mr, msp, mse, hri, d4', hg, hc, hdone⟩ F3 N3
            refine ⟨h3, tk3, m1, vs, nr, o4, v4, reach'', ts, rfl, F3, N3, mr, msp, mse, hri, d4', hg.next hc fun sp hsp => ?_⟩
            obtain ⟨k, hk, e⟩ := List.getElem_of_mem hsp
            have := hdone k (by rw [hspi.length]; simpa using hk)
            rwa [List.getD_eq_getElem?_getD, List.getElem?_eq_getElem hk, Option.getD_some, e] at this
        · rintro _ ⟨h3, tk3, m1, vs, nr, o4, v4, reach'', ts, rfl, F3, N3, mr, msp, mse, hri, d4', hg⟩
          have hsz := hg.size
          have hsl := hg.seen_le
          refine wpAny_execs_cons ?_
          refine wpAny_AugAssign_Name ?_
          refine ldnX_L F3 mse ?_
          refine wpAny_Constant_int ?_
          refine iadd_int ?_
          rw [show ((seen : Nat) : Int) + 1 = ((seen + 1 : Nat) : Int) by omega]
          refine storeX_L F3 N3 fun h4 F4 N4 => ?_
          refine wpAny_execs_nil ?_
          exact ⟨_, by omega, h4, _, _, vs, nr, o4, v4, reach'', seen + 1, _, rfl, F4, N4, mr, msp, rfl, hri, d4', hg, rfl⟩
      · rw [if_neg (by simp; omega)]
        have hcl := hg.closed (Nat.le_of_not_lt hc)
        refine wpAny_execs_nil ?_
        refine wpAny_execs_nil ?_
        refine wpAny_execs_nil ?_
        refine ⟨h, _, m', _, rfl, F1, N1, ?_, Dr, vs, nr, o4, v4, reach', rfl, mr, msp, hri, d4', ?_, ?_, hg.low, hDr⟩
        · exact .cons rfl (.cons rfl (.cons (isIt_cell d4') (.cons (isIt_cell d5) (.cons (isIt_cell d2) (.cons (isIt_cell d1) .nil)))))
        · intro q
          rw [htake, Rch_snoc, nxt, if_neg hin, hcl]
          exact ⟨fun ⟨p, hp, e⟩ => ⟨p, (hreach p).mp hp, e⟩, fun ⟨p, hp, e⟩ => ⟨p, (hreach p).mpr hp, e⟩⟩
        · omega
  · rintro h tk m' news' ⟨Dr, vs, nr, o4', v4, reach, rfl, mr, msp, hri, d4', hreach, hlen, hlow, hDr⟩ hno F1 N1
    have hB : 2 ^ (wide.length + 1) ≤ 2 ^ 9 := Nat.pow_le_pow_right (by decide) (by omega)
    have hfl : fv.length ≤ 8 := by rw [hfi.length]; exact hfn
    have hC1 : 1 + fv.length * 2 ^ (wide.length + 1) ≤ 1 + 8 * 512 := Nat.add_le_add_left (Nat.mul_le_mul hfl hB) 1
    have hvl : vs.length = reach.length := by rw [hri.length, List.length_map]
    show wpAny _ _ _ _ _ ({ s with heap := h, toks := tk } : Shared)
    refine wpAny_execs_cons ?_
    refine wpAny_Return_some ?_
    refine wpAny_Compare1 ?_
    refine ListComp_lK (fun v => match v with | .int q _ => decide (q < ((2 ^ wide.length : Nat) : Int)) | _ => false) (fun v y => y = v) rfl (cl := [(Str.ofString "wide", s.heap.objs.size + 1)]) rfl (by decide) rfl (by decide) rfl ?_
    refine nameX_L F1 mr ?_
    refine ⟨Dr, vs, rfl, N1.isList (.head _), by rw [sizeLine_eq]; omega, ?_, ?_, ?_⟩
    · intro C j v s2 m2' E' hv hn hm hk
      have up0 : ∀ b o, s.heap.get? b = some o → s2.heap.get? b = some o := fun b o e => hk b o (F1.keep b o e)
      have hj : j < reach.length := by rw [← hvl]; exact (List.getElem?_eq_some_iff.mp hv).1
      obtain ⟨tj, hvj⟩ := ints_getD hri (k := j) (by rw [List.length_map]; exact hj)
      rw [hvj] at hv
      cases hv
      refine wpAny_tests_one ?_
      refine wpAny_isTrue_Compare1 ?_
      refine kldL hn hm ?_
      refine wpAny_BinOp ?_
      refine wpAny_Constant_int ?_
      refine Call_ ?_
      refine gnB up0 X TR gL bL (by decide) ?_
      refine PyProof.Rows.callWith_builtin1 ?_
      refine args_cons ?_
      refine kldC (hk _ _ (N1.get (.tail _ (.tail _ (.tail _ (.tail _ (.tail _ (.head _)))))))) d1 rfl ?_
      refine args_nil ?_
      refine len_list (hw.at fun o e => up0 _ o e) (by rw [hws]; omega) ?_
      rw [hws]
      refine pow_int_small (by omega) (by omega) (by decide) ?_
      rw [Int.toNat_natCast, show ((2 : Int) ^ wide.length) = ((2 ^ wide.length : Nat) : Int) by rw [Int.natCast_pow]; rfl]
      refine lt_int ?_
      exact wpAny_truthy_bool ⟨rfl, s2.heap, _, rfl, fun _ _ e => e⟩
    · intro C j v s2 m2' E' hv _ hn hm hk
      exact kldL hn hm ⟨rfl, keeps_refl _⟩
    · intro Dn zs h3 tk3 hpz hpl hDn hk3
      have hzs : zs = vs.filter (fun v => match v with | .int q _ => decide (q < ((2 ^ wide.length : Nat) : Int)) | _ => false) := by
        have gen : ∀ {as bs : List Value}, Paired (fun v y => y = v) as bs → bs = as := by
          intro as bs h
          induction h with
          | nil => rfl
          | cons a _ ih => rw [a, ih]
        exact gen hpz
      have hzi : IntsAre zs ((reach.filter fun q => decide (q < 2 ^ wide.length)).map fun q => ((q : Nat) : Int)) := by
        rw [hzs]
        clear hpz hpl hzs hreach hlen hlow hvl N1
        have gen : ∀ {us : List Value} {ns : List Nat}, IntsAre us (ns.map fun p => ((p : Nat) : Int)) → IntsAre (us.filter (fun v => match v with | .int q _ => decide (q < ((2 ^ wide.length : Nat) : Int)) | _ => false)) ((ns.filter fun q => decide (q < 2 ^ wide.length)).map fun q => ((q : Nat) : Int)) := by
          intro us ns
          induction ns generalizing us with
          | nil => intro h; cases h; exact .nil
          | cons n r ih =>
            intro h
            cases h with
            | cons _ t h' =>
              rw [List.filter_cons, List.filter_cons]
              by_cases hq : n < 2 ^ wide.length
              · rw [if_pos (decide_eq_true (Int.ofNat_lt.mpr hq)), if_pos (decide_eq_true hq)]
                exact .cons _ _ (ih h')
              · rw [if_neg (fun h => hq (Int.ofNat_lt.mp (of_decide_eq_true h))), if_neg (fun h => hq (of_decide_eq_true h))]
                exact ih h'
        exact gen hri
      obtain ⟨nz, hnz⟩ := hpl
      have N3 : News s.heap s.heap.objs.size h3 [(Dn, { cls := .type "list", data := .seq zs.toArray nz })] := by
        intro p hp
        rw [List.mem_singleton.mp hp]
        refine ⟨hnz, fun (q : Dn = s.heap.objs.size) => ?_, ?_⟩
        · obtain ⟨oL, _, _, hoL, _⟩ := F1.ns
          have hoL' : h.get? s.heap.objs.size = some oL := hoL
          have hDn' : h.get? Dn = none := hDn
          rw [q, hoL'] at hDn'; cases hDn'
        · show s.heap.get? Dn = none
          cases q : s.heap.get? Dn with
          | none => rfl
          | some o => have := F1.keep _ _ q; rw [hDn] at this; cases this
      refine List_ ?_
      refine args_nil ?_
      refine newList_N (F1.keeps hk3) N3 (fun h4 F4 N4 => ?_) (Nat.zero_le _)
      refine eq_intsK (N4.isList (.tail _ (.head _))) hzi (N4.isList (.head _)) .nil (by show un + 3 + 64 < cLine; omega) ?_
      refine ⟨⟨_, rfl, ?_⟩, keeps_of_fr F4⟩
      rw [decide_eq_true_eq, List.map_eq_nil_iff, List.filter_eq_nil_iff]
      rw [hfi.length, List.take_length] at hreach
      constructor
      · intro h p hp
        have := h p ((hreach p).mpr hp)
        simpa using this
      · intro h p hp
        have := h p ((hreach p).mp hp)
        simpa using this
end Mine
end

section
open PySem PySem.W PySem.Calls PySem.Spec PyProof.Rows
set_option maxRecDepth 100000
namespace Mine
def fnBody (st : Stmt) : List Stmt := match st with
  | .FunctionDef _ _ b _ _ _ _ _ _ _ => b
  | _ => []
def fnScope (st : Stmt) : Scope := match st with
  | .FunctionDef _ _ _ _ _ _ sc _ _ _ => sc
  | _ => default
noncomputable def lawB : { b : List Stmt // fnBody (PySem.Challenge.pw_rw0040_01.main.body.getD 14 default) = b } := by
  refine ⟨?b, ?h⟩
  case h => conv => lhs; whnf

noncomputable def lawSc : { b : Scope // fnScope (PySem.Challenge.pw_rw0040_01.main.body.getD 14 default) = b } := by
  refine ⟨?b, ?h⟩
  case h => conv => lhs; whnf

end Mine
namespace Mine
noncomputable abbrev lawBody : List Stmt := lawB.1
noncomputable abbrev lawScope : Scope := lawSc.1
noncomputable def lawRest (k : Nat) : List Stmt := lawBody.drop k
noncomputable abbrev lawEnv (L fa : Addr) : Env := envX (Str.ofString "law") lawScope L fa (.ref 69) (cellsFrom (L + 1) lawScope.names [])
end Mine
end

section
open PySem PySem.W PySem.Calls PySem.Spec PyProof.Rows
set_option maxRecDepth 100000
namespace Mine
/-- the cells of law and its table of codes -/
abbrev lawCells (L : Addr) (c5 c4 c3 c2 c1 : Obj) (ps : Array Value) : List (Addr × Obj) := [(L + 1 + 1 + 1 + 1 + 1, c5), (L + 1 + 1 + 1 + 1, c4), (L + 1 + 1 + 1, c3), (L + 1 + 1, c2), (L + 1, c1), (67, tabObj ps)]

theorem new_ne {h₀ h : Heap} {L D : Addr} {m : Str → Option Value} (F : Fr h₀ L h m) (hD : h.get? D = none) : D ≠ L ∧ h₀.get? D = none := by
  refine ⟨fun q => ?_, ?_⟩
  · obtain ⟨oL, _, _, hoL, _⟩ := F.ns
    rw [q, hoL] at hD; cases hD
  · cases q : h₀.get? D with
    | none => rfl
    | some o => have := F.keep _ _ q; rw [hD] at this; cases this
theorem news_add {h₀ h : Heap} {L D : Addr} {o : Obj} {news : List (Addr × Obj)} (N : News h₀ L h news) (ho : h.get? D = some o) (h1 : D ≠ L) (h2 : h₀.get? D = none) : News h₀ L h ((D, o) :: news) := fun p hp => by
  rcases List.mem_cons.mp hp with rfl | hp
  · exact ⟨ho, h1, h2⟩
  · exact N p hp


def isSeqB (o : Obj) : Bool := match o.data with
  | PySem.Data.seq (_ : Array PySem.Value) (_ : Nat) => true
  | _ => false
theorem off_cell {h₀ h : Heap} {L c : Addr} {o : Obj} {v : Option Value} {P cells : List (Addr × Obj)} (N : News h₀ L h (P ++ cells)) (hm : (c, o) ∈ cells) (hd : o.data = .cell v) (hP : ∀ p ∈ P, isSeqB p.2 = true) : ∀ p ∈ P, p.1 ≠ c := by
  intro p hp e
  have h1 := (N p (List.mem_append_left _ hp)).1
  have h2 := (N _ (List.mem_append_right _ hm)).1
  rw [e, h2] at h1
  have := hP p hp
  rw [← Option.some.inj h1, isSeqB, hd] at this
  cases this
theorem memP {P cells : List (Addr × Obj)} {p : Addr × Obj} (h : p ∈ cells) : p ∈ P ++ cells := List.mem_append_right _ h
theorem all_cons {α : Type} {P : α → Prop} {a : α} {l : List α} (h : P a) (r : ∀ x ∈ l, P x) : ∀ x ∈ a :: l, P x := List.forall_mem_cons.mpr ⟨h, r⟩
theorem all_nil {α : Type} {P : α → Prop} : ∀ x ∈ ([] : List α), P x := fun _ h => nomatch h
theorem cellUpd5 {h₀ h : Heap} {L : Addr} {c5 c4 c3 c2 c1 : Obj} {ps : Array Value} {v : Option Value} {P : List (Addr × Obj)} (N : News h₀ L h (P ++ lawCells L c5 c4 c3 c2 c1 ps)) (hP : ∀ p ∈ P, isSeqB p.2 = true) (hd : c5.data = .cell v) (h67 : @LT.lt Nat _ 67 L) :
    UpdF (L + 1 + 1 + 1 + 1 + 1) c5 (P ++ lawCells L c5 c4 c3 c2 c1 ps) (fun o => P ++ lawCells L o c4 c3 c2 c1 ps) := by
  have n1 : @Ne Nat (L + 1 + 1 + 1 + 1) (L + 1 + 1 + 1 + 1 + 1) := by refine neN ?_; omega
  have n2 : @Ne Nat (L + 1 + 1 + 1) (L + 1 + 1 + 1 + 1 + 1) := by refine neN ?_; omega
  have n3 : @Ne Nat (L + 1 + 1) (L + 1 + 1 + 1 + 1 + 1) := by refine neN ?_; omega
  have n4 : @Ne Nat (L + 1) (L + 1 + 1 + 1 + 1 + 1) := by refine neN ?_; omega
  have n67 : @Ne Nat 67 (L + 1 + 1 + 1 + 1 + 1) := by have := h67; refine neN ?_; omega
  exact updF_app (off_cell N (by simp) hd hP) (.head (all_cons n1 (all_cons n2 (all_cons n3 (all_cons n4 (all_cons n67 all_nil))))))
theorem cellUpd4 {h₀ h : Heap} {L : Addr} {c5 c4 c3 c2 c1 : Obj} {ps : Array Value} {v : Option Value} {P : List (Addr × Obj)} (N : News h₀ L h (P ++ lawCells L c5 c4 c3 c2 c1 ps)) (hP : ∀ p ∈ P, isSeqB p.2 = true) (hd : c4.data = .cell v) (h67 : @LT.lt Nat _ 67 L) :
    UpdF (L + 1 + 1 + 1 + 1) c4 (P ++ lawCells L c5 c4 c3 c2 c1 ps) (fun o => P ++ lawCells L c5 o c3 c2 c1 ps) := by
  have n0 : @Ne Nat (L + 1 + 1 + 1 + 1 + 1) (L + 1 + 1 + 1 + 1) := by refine neN ?_; omega
  have n2 : @Ne Nat (L + 1 + 1 + 1) (L + 1 + 1 + 1 + 1) := by refine neN ?_; omega
  have n3 : @Ne Nat (L + 1 + 1) (L + 1 + 1 + 1 + 1) := by refine neN ?_; omega
  have n4 : @Ne Nat (L + 1) (L + 1 + 1 + 1 + 1) := by refine neN ?_; omega
  have n67 : @Ne Nat 67 (L + 1 + 1 + 1 + 1) := by have := h67; refine neN ?_; omega
  exact updF_app (off_cell N (by simp) hd hP) (.tail n0 (.head (all_cons n2 (all_cons n3 (all_cons n4 (all_cons n67 all_nil))))))
theorem cellUpd3 {h₀ h : Heap} {L : Addr} {c5 c4 c3 c2 c1 : Obj} {ps : Array Value} {v : Option Value} {P : List (Addr × Obj)} (N : News h₀ L h (P ++ lawCells L c5 c4 c3 c2 c1 ps)) (hP : ∀ p ∈ P, isSeqB p.2 = true) (hd : c3.data = .cell v) (h67 : @LT.lt Nat _ 67 L) :
    UpdF (L + 1 + 1 + 1) c3 (P ++ lawCells L c5 c4 c3 c2 c1 ps) (fun o => P ++ lawCells L c5 c4 o c2 c1 ps) := by
  have n0 : @Ne Nat (L + 1 + 1 + 1 + 1 + 1) (L + 1 + 1 + 1) := by refine neN ?_; omega
  have n1 : @Ne Nat (L + 1 + 1 + 1 + 1) (L + 1 + 1 + 1) := by refine neN ?_; omega
  have n3 : @Ne Nat (L + 1 + 1) (L + 1 + 1 + 1) := by refine neN ?_; omega
  have n4 : @Ne Nat (L + 1) (L + 1 + 1 + 1) := by refine neN ?_; omega
  have n67 : @Ne Nat 67 (L + 1 + 1 + 1) := by have := h67; refine neN ?_; omega
  exact updF_app (off_cell N (by simp) hd hP) (.tail n0 (.tail n1 (.head (all_cons n3 (all_cons n4 (all_cons n67 all_nil))))))
theorem cellUpd2 {h₀ h : Heap} {L : Addr} {c5 c4 c3 c2 c1 : Obj} {ps : Array Value} {v : Option Value} {P : List (Addr × Obj)} (N : News h₀ L h (P ++ lawCells L c5 c4 c3 c2 c1 ps)) (hP : ∀ p ∈ P, isSeqB p.2 = true) (hd : c2.data = .cell v) (h67 : @LT.lt Nat _ 67 L) :
    UpdF (L + 1 + 1) c2 (P ++ lawCells L c5 c4 c3 c2 c1 ps) (fun o => P ++ lawCells L c5 c4 c3 o c1 ps) := by
  have n0 : @Ne Nat (L + 1 + 1 + 1 + 1 + 1) (L + 1 + 1) := by refine neN ?_; omega
  have n1 : @Ne Nat (L + 1 + 1 + 1 + 1) (L + 1 + 1) := by refine neN ?_; omega
  have n2 : @Ne Nat (L + 1 + 1 + 1) (L + 1 + 1) := by refine neN ?_; omega
  have n4 : @Ne Nat (L + 1) (L + 1 + 1) := by refine neN ?_; omega
  have n67 : @Ne Nat 67 (L + 1 + 1) := by have := h67; refine neN ?_; omega
  exact updF_app (off_cell N (by simp) hd hP) (.tail n0 (.tail n1 (.tail n2 (.head (all_cons n4 (all_cons n67 all_nil))))))
theorem cellUpd1 {h₀ h : Heap} {L : Addr} {c5 c4 c3 c2 c1 : Obj} {ps : Array Value} {v : Option Value} {P : List (Addr × Obj)} (N : News h₀ L h (P ++ lawCells L c5 c4 c3 c2 c1 ps)) (hP : ∀ p ∈ P, isSeqB p.2 = true) (hd : c1.data = .cell v) (h67 : @LT.lt Nat _ 67 L) :
    UpdF (L + 1) c1 (P ++ lawCells L c5 c4 c3 c2 c1 ps) (fun o => P ++ lawCells L c5 c4 c3 c2 o ps) := by
  have n0 : @Ne Nat (L + 1 + 1 + 1 + 1 + 1) (L + 1) := by refine neN ?_; omega
  have n1 : @Ne Nat (L + 1 + 1 + 1 + 1) (L + 1) := by refine neN ?_; omega
  have n2 : @Ne Nat (L + 1 + 1 + 1) (L + 1) := by refine neN ?_; omega
  have n3 : @Ne Nat (L + 1 + 1) (L + 1) := by refine neN ?_; omega
  have n67 : @Ne Nat 67 (L + 1) := by have := h67; refine neN ?_; omega
  exact updF_app (off_cell N (by simp) hd hP) (.tail n0 (.tail n1 (.tail n2 (.tail n3 (.head (all_cons n67 all_nil))))))
end Mine
end

section
open PySem PySem.W PySem.Calls PySem.Spec PyProof.Rows
set_option maxRecDepth 100000
namespace Mine

/-- the law's numbers: fillers for what the script lacks -/
def fillers : List Int := [0, 1, 2, 1, 0, 0, 1, 0]

set_option maxHeartbeats 2000000 in
theorem law1a {w : World} {dp un : Nat} {fr : Option (List Env)} {gd : Option (List Code)} {s : Shared} {h₀ h : Heap} {L fa : Addr} {m : Str → Option Value} {tk : Nat} {c5 c4 c3 c2 c1 : Obj} {ps : Array Value} {loose : List Str} {mean : ExcName → Option Value} {mg mb : Str → Option Value} {Q : Flow → Shared → Prop}
    (X : Frag.In (hd.heap_39 w.params) h₀) {pv : Program} (T : Top pv loose mean mg mb h₀) (h67 : @LT.lt Nat _ 67 L)
    (F : Fr h₀ L h m) (N : News h₀ L h (lawCells L c5 c4 c3 c2 c1 ps)) (d1 : c1.data = .cell none)
    {ls : Addr} {vs : List Value} {ns : List Int} (ms : m (Str.ofString "script") = some (.ref ls)) (hl : h₀.IsList ls vs.toArray) (hi : IntsAre vs ns) (hn : ns.length ≤ 63)
    (K : ∀ h' tk' m' (tot : Int) (c1' : Obj) (al ma : Addr) (lv my : List Value) (mn : List Int) (nm : Nat), 0 ≤ tot → Fr h₀ L h' m' → News h₀ L h' ((al, { cls := .type "list", data := .seq (List.toArray lv) }) :: (ma, { cls := .type "list", data := .seq (List.toArray my) nm }) :: lawCells L c5 c4 c3 c2 c1' ps) → c1'.data = .cell (some (.ref al)) →
      m' (Str.ofString "marks") = some (.ref ma) → (∃ t, m' (Str.ofString "total") = some (.int tot t)) → IntsAre lv [1 + tot % 45, 255] → IntsAre my mn → mn.length ≤ 63 →
      wpAny (model PySem.Challenge.rw_rw0040_01.row.prog w) { handled := none, depth := dp, frames := fr, guards := gd, units := un } (execs (lawRest 3) (lawEnv L fa)) Q (fun _ _ => False) { s with heap := h', toks := tk' }) :
    wpAny (model PySem.Challenge.rw_rw0040_01.row.prog w) { handled := none, depth := dp, frames := fr, guards := gd, units := un } (execs (lawRest 0) (lawEnv L fa)) Q (fun _ _ => False) { s with heap := h, toks := tk } := by
  revert X
  k_fill
  intro X
  have TR := topRead_of T
  have gS : nsIn (hd.heap_39 w.params) mainGlobals (Str.ofString "sum") = some none := by k_is
  have bS : bootBuiltins (Str.ofString "sum") = some (.builtin "sum") := by boot_fast
  have gR : nsIn (hd.heap_39 w.params) mainGlobals (Str.ofString "range") = some none := by k_is
  have bR : bootBuiltins (Str.ofString "range") = some (.type "range") := by boot_fast
  have gL : nsIn (hd.heap_39 w.params) mainGlobals (Str.ofString "len") = some none := by k_is
  have bL : bootBuiltins (Str.ofString "len") = some (.builtin "len") := by boot_fast
  have hvl : vs.length = ns.length := hi.length
  -- marks
  refine seq (fun s' => ∃ h' tk' m' ma my nm, ∃ mn : List Int, s' = { s with heap := h', toks := tk' } ∧ Fr h₀ L h' m' ∧ News h₀ L h' ((ma, { cls := .type "list", data := .seq (List.toArray my) nm }) :: lawCells L c5 c4 c3 c2 c1 ps) ∧
    m' (Str.ofString "marks") = some (.ref ma) ∧ IntsAre my mn ∧ mn.length ≤ 63 ∧ ∀ x ∈ mn, 0 ≤ x) ?_ ?_
  · refine Assign_ListComp_lK (fun _ => true) (fun v y => ∀ x t, v = Value.int x t → ∃ t', y = Value.int (x.fmod 1000000) t') rfl rfl (cl := []) rfl (by decide) rfl (by decide) rfl rfl rfl ?_
    refine Subscript_ ?_
    refine nameX_L F ms ?_
    refine wpAny_Slice ?_
    refine evalPart_none_step ?_
    refine evalPart_some_step ?_
    refine wpAny_Constant_int ?_
    refine evalPart_none_step ?_
    refine sliceG (s := { s with heap := h, toks := _ }) (items := vs) (hl.at fun o e => F.keep _ o e) .none (.int 63 _) ?_ (by rw [sizeLine_eq]; omega)
    have e1 : slicePick vs.toArray none (some ((63 : Nat) : Int)) none = (List.toArray vs) := by
      rw [slicePick_upto' vs.toArray 63]
      rw [List.take_of_length_le (by simpa using (by omega : vs.length ≤ 63))]
    have e1 : slicePick vs.toArray none (some 63) none = (List.toArray vs) := e1
    rw [e1]
    have F1 := (F.push { cls := .type "slice", data := .fields #[.none, .int 63 tk, .none] }).push { cls := .type "list", data := .seq (List.toArray vs) }
    have N1 := (N.grown fun b o e => Heap.get?_push_of_some { cls := .type "slice", data := .fields #[.none, .int 63 tk, .none] } e).grown fun b o e => Heap.get?_push_of_some { cls := .type "list", data := .seq (List.toArray vs) } e
    have g1 : ((h.push { cls := .type "slice", data := .fields #[.none, .int 63 tk, .none] }).push { cls := .type "list", data := .seq (List.toArray vs) }).get? (h.objs.size + 1) = some { cls := .type "list", data := .seq (List.toArray vs) } := by
      rw [← Heap.size_push]; exact Heap.get?_push_size _ rfl
    refine ⟨_, vs, m, rfl, ⟨_, g1, rfl, 0, rfl⟩, by rw [sizeLine_eq]; omega, F1.ns, ?_, ?_, ?_⟩
    · intro C j v s2 m2 E' hv hn' hm hk
      exact wpAny_pure ⟨rfl, keeps_refl _⟩
    · intro C j v s2 m2 E' hv _ hn' hm hk
      have hj : j < ns.length := by rw [← hvl]; exact (List.getElem?_eq_some_iff.mp hv).1
      obtain ⟨tj, hvj⟩ := ints_getD hi hj
      rw [hvj] at hv
      cases hv
      refine wpAny_BinOp ?_
      refine kldL hn' hm ?_
      refine wpAny_BinOp ?_
      refine wpAny_Constant_int ?_
      refine wpAny_Constant_int ?_
      refine pow_int_small (by decide) (by decide) (by decide) ?_
      refine PyProof.Rows.mod_int (by decide) ?_
      refine ⟨fun x t e => ?_, s2.heap, _, rfl, fun _ _ e => e⟩
      obtain ⟨e1, _⟩ := Value.int.inj e
      rw [← e1]
      exact ⟨_, rfl⟩
    · intro D ys h2 tk2 hp hpl hD hn2 hk2
      rw [filter_true] at hp
      obtain ⟨F2, N2⟩ := fr_after F1 N1 hn2 hk2
      obtain ⟨nm, hnm⟩ := hpl
      obtain ⟨q1, q2⟩ := new_ne F1 hD
      have gen : ∀ {us ys : List Value} {ns : List Int}, IntsAre us ns → Paired (fun v y => ∀ x t, v = Value.int x t → ∃ t', y = Value.int (x.fmod 1000000) t') us ys → IntsAre ys (ns.map fun x => x.fmod 1000000) := by
        intro us ys ns hi hp
        induction hi generalizing ys with
        | nil => cases hp; exact .nil
        | cons n t _ ih =>
          cases hp with
          | cons a b =>
            obtain ⟨t', rfl⟩ := a n t rfl
            exact .cons _ _ (ih b)
      refine ⟨h2, tk2, _, D, ys, nm, ns.map fun x => x.fmod 1000000, rfl, F2, news_add N2 hnm q1 q2, rfl, gen hi hp, by rw [List.length_map]; exact hn, ?_⟩
      intro x hx
      obtain ⟨y, _, rfl⟩ := List.mem_map.mp hx
      rw [Int.fmod_eq_emod_of_nonneg _ (by decide)]
      exact Int.emod_nonneg _ (by decide)
  clear F N ms hl hi hn hvl
  rintro _ ⟨h1, tk1, m1, ma, my, nm, mn, rfl, F, N, mm, hi, hn, hpos⟩
  have hml : my.length = mn.length := hi.length
  -- total
  refine wpAny_execs_cons ?_
  refine wpAny_Assign_Name ?_
  refine Call_ ?_
  refine nameX_B F X TR gS bS (by decide) ?_
  refine PyProof.Rows.callWith_builtin1 ?_
  refine args_cons ?_
  refine nameX_L F mm ?_
  refine args_nil ?_
  refine sumG rfl (N.isList (.head _)) hi fun h2 tk2 t2 hk2 => ?_
  refine storeX_L (F.keeps hk2) (N.grown hk2) fun h3 F3 N3 => ?_
  show wpAny _ _ _ _ _ ({ s with heap := h3, toks := _ } : Shared)
  have hsum : 0 ≤ mn.sum := by
    clear mm hi hn hml N F N3 F3
    induction mn with
    | nil => exact Int.le_refl _
    | cons a r ih =>
      rw [List.sum_cons]
      have := hpos a (.head _)
      have := ih fun x hx => hpos x (.tail _ hx)
      omega
  generalize mn.sum = tot at hsum F3
  -- letters
  have htn : (tot.fmod 45) = tot % 45 := Int.fmod_eq_emod_of_nonneg _ (by decide)
  refine wpAny_execs_cons ?_
  refine wpAny_Assign_Name ?_
  refine List_ ?_
  refine args_cons ?_
  refine wpAny_BinOp ?_
  refine wpAny_Constant_int ?_
  refine wpAny_BinOp ?_
  refine nameX_L F3 rfl ?_
  refine wpAny_Constant_int ?_
  refine PyProof.Rows.mod_int (by decide) ?_
  rw [htn]
  refine PyProof.Rows.add_int ?_
  refine args_cons ?_
  refine wpAny_Constant_int ?_
  refine args_nil ?_
  refine newList_N F3 N3 (fun h4 F4 N4 => ?_) (by show 2 ≤ sizeLine; rw [sizeLine_eq]; decide)
  refine storeX_C F4 N4 (c := L + 1) rfl (cellUpd1 (P := [_, _]) N4 (all_cons rfl (all_cons rfl all_nil)) d1 h67) d1 fun h5 c1' F5 N5 d1' => ?_
  show wpAny _ _ _ _ _ ({ s with heap := h5, toks := _ } : Shared)
  obtain ⟨al, hal⟩ : ∃ al, h3.objs.size = al := ⟨_, rfl⟩
  have d1' : c1'.data = .cell (some (.ref al)) := hal ▸ d1'
  obtain ⟨m5, F5, mm5, mt5⟩ : ∃ m5, Fr h₀ L h5 m5 ∧ m5 (Str.ofString "marks") = some (.ref ma) ∧ ∃ t, m5 (Str.ofString "total") = some (.int tot t) := ⟨_, F5, mm, _, rfl⟩
  obtain ⟨lv, hlv, N5⟩ : ∃ lv, IntsAre lv [1 + tot % 45, 255] ∧ News h₀ L h5 ((al, { cls := .type "list", data := .seq (List.toArray lv) }) :: (ma, { cls := .type "list", data := .seq (List.toArray my) nm }) :: lawCells L c5 c4 c3 c2 c1' ps) := ⟨_, .cons _ _ (.cons _ _ .nil), hal ▸ N5⟩
  clear N4 F4 N3 F3 N F hal
  show wpAny _ _ _ _ _ ({ s with heap := h5, toks := _ } : Shared)
  exact K _ _ _ tot c1' al ma lv my mn nm hsum F5 N5 d1' mm5 mt5 hlv hi hn

end Mine
end

section
open PySem PySem.W PySem.Calls PySem.Spec PyProof.Rows
set_option maxRecDepth 100000
namespace Mine

set_option maxHeartbeats 2000000 in
theorem law1b {w : World} {dp un : Nat} {fr : Option (List Env)} {gd : Option (List Code)} {s : Shared} {h₀ h : Heap} {L fa : Addr} {m : Str → Option Value} {tk : Nat} {c5 c4 c3 c2 c1 : Obj} {ps : Array Value} {loose : List Str} {mean : ExcName → Option Value} {mg mb : Str → Option Value} {Q : Flow → Shared → Prop}
    (X : Frag.In (hd.heap_39 w.params) h₀) {pv : Program} (T : Top pv loose mean mg mb h₀) (h67 : @LT.lt Nat _ 67 L)
    {al ma : Addr} {lv my : List Value} {mn : List Int} {nm : Nat} {tot : Int} (F5 : Fr h₀ L h m) (N5 : News h₀ L h ((al, { cls := .type "list", data := .seq (List.toArray lv) }) :: (ma, { cls := .type "list", data := .seq (List.toArray my) nm }) :: lawCells L c5 c4 c3 c2 c1 ps)) (d2 : c2.data = .cell none)
    (mm5 : m (Str.ofString "marks") = some (.ref ma)) (mt5 : ∃ t, m (Str.ofString "total") = some (.int tot t)) (hi : IntsAre my mn) (hn : mn.length ≤ 63)
    (K : ∀ h' tk' m' (c2' : Obj) (ad : Addr) (dv : List Value) (dn : List Int), Fr h₀ L h' m' → News h₀ L h' ((ad, { cls := .type "list", data := .seq (List.toArray dv) }) :: (al, { cls := .type "list", data := .seq (List.toArray lv) }) :: lawCells L c5 c4 c3 c2' c1 ps) → c2'.data = .cell (some (.ref ad)) →
      (∃ t, m' (Str.ofString "total") = some (.int tot t)) → IntsAre dv dn → dn.length = 8 →
      wpAny (model PySem.Challenge.rw_rw0040_01.row.prog w) { handled := none, depth := dp, frames := fr, guards := gd, units := un } (execs (lawRest 4) (lawEnv L fa)) Q (fun _ _ => False) { s with heap := h', toks := tk' }) :
    wpAny (model PySem.Challenge.rw_rw0040_01.row.prog w) { handled := none, depth := dp, frames := fr, guards := gd, units := un } (execs (lawRest 3) (lawEnv L fa)) Q (fun _ _ => False) { s with heap := h, toks := tk } := by
  revert X
  k_fill
  intro X
  have TR := topRead_of T
  have gS : nsIn (hd.heap_39 w.params) mainGlobals (Str.ofString "sum") = some none := by k_is
  have bS : bootBuiltins (Str.ofString "sum") = some (.builtin "sum") := by boot_fast
  have gR : nsIn (hd.heap_39 w.params) mainGlobals (Str.ofString "range") = some none := by k_is
  have bR : bootBuiltins (Str.ofString "range") = some (.type "range") := by boot_fast
  have gL : nsIn (hd.heap_39 w.params) mainGlobals (Str.ofString "len") = some none := by k_is
  have bL : bootBuiltins (Str.ofString "len") = some (.builtin "len") := by boot_fast
  have hml : my.length = mn.length := hi.length
  -- draws
  refine wpAny_execs_cons ?_
  refine wpAny_Assign_Name ?_
  refine wpAny_BinOp ?_
  refine Subscript_ ?_
  refine nameX_L F5 mm5 ?_
  refine wpAny_Slice ?_
  refine evalPart_none_step ?_
  refine evalPart_some_step ?_
  refine wpAny_Constant_int ?_
  refine evalPart_none_step ?_
  have pick8 : slicePick (List.toArray my) none (some 8) none = List.toArray (my.take 8) := slicePick_upto' (List.toArray my) 8
  refine slice_list (items := List.toArray my) F5 N5 (N5.isList (.tail _ (.head _))) .none (.int 8 _) (fun h6 F6 N6 => ?_) (hsz := by rw [sizeLine_eq, List.size_toArray]; omega)
  rw [pick8] at N6
  show wpAny _ _ _ _ _ ({ s with heap := h6, toks := _ } : Shared)
  refine Subscript_ ?_
  refine List_ ?_
  refine lit_ints (ns := fillers) (.cons (.cons (.cons (.cons (.cons (.cons (.cons (.cons .nil)))))))) (fun fl tk7 hfl => ?_)
  have hfll : fl.length = 8 := hfl.length
  refine newList_N F6 N6 (fun h7 F7 N7 => ?_) (by rw [sizeLine_eq, hfll]; decide)
  show wpAny _ _ _ _ _ ({ s with heap := h7, toks := _ } : Shared)
  refine wpAny_Slice ?_
  refine evalPart_some_step ?_
  refine Call_ ?_
  refine nameX_B F7 X TR gL bL (by decide) ?_
  refine PyProof.Rows.callWith_builtin1 ?_
  refine args_cons ?_
  refine Subscript_ ?_
  refine nameX_L F7 mm5 ?_
  refine wpAny_Slice ?_
  refine evalPart_none_step ?_
  refine evalPart_some_step ?_
  refine wpAny_Constant_int ?_
  refine evalPart_none_step ?_
  refine slice_list (items := List.toArray my) F7 N7 (N7.isList (.tail _ (.tail _ (.tail _ (.head _))))) .none (.int 8 _) (fun h8 F8 N8 => ?_) (hsz := by rw [sizeLine_eq, List.size_toArray]; omega)
  rw [pick8] at N8
  refine args_nil ?_
  have ht8 : (my.take 8).length ≤ 8 := by rw [List.length_take]; omega
  show wpAny _ _ _ _ _ ({ s with heap := h8, toks := _ } : Shared)
  refine lenG (N8.isList (.head _)) (by omega) ?_
  refine evalPart_none_step ?_
  refine evalPart_none_step ?_
  have pickF : slicePick (List.toArray fl) (some (((my.take 8).length : Nat) : Int)) none none = List.toArray (fl.drop (my.take 8).length) := slicePick_from' (List.toArray fl) (my.take 8).length
  refine kba_turn (value' := PySem.Expr.Name (PySem.Str.ofString "_") ⟨0, 0, 0, 0⟩) (fun _ => rfl) ?_
  refine slice_list (s := { s with heap := h8, toks := _ }) (items := List.toArray fl) F8 N8 (N8.isList (.tail _ (.head _))) (.int _ _) .none (fun h9 F9 N9 => ?_) (ht := fun _ => rfl) (hsz := by rw [sizeLine_eq, List.size_toArray]; omega)
  rw [pickF] at N9
  show wpAny _ _ _ _ _ ({ s with heap := h9, toks := _ } : Shared)
  refine add_lists_ints F9 N9 (N9.isList (.tail _ (.tail _ (.tail _ (.head _))))) (N9.isList (.head _)) (hi.take 8) (hfl.drop _) (fun h10 F10 N10 hi10 => ?_) (by rw [sizeLine_eq, List.length_take, List.length_drop, show fillers.length = 8 from rfl]; omega)
  obtain ⟨dv, hdv, N10⟩ : ∃ dv, IntsAre dv (mn.take 8 ++ fillers.drop (my.take 8).length) ∧ News h₀ L h10 ((h9.objs.size, { cls := .type "list", data := .seq (List.toArray dv) }) :: (al, { cls := .type "list", data := .seq (List.toArray lv) }) :: lawCells L c5 c4 c3 c2 c1 ps) := by
    refine ⟨_, hi10, fun p hp => ?_⟩
    rcases List.mem_cons.mp hp with rfl | hp
    · exact N10 _ (.head _)
    · rcases List.mem_cons.mp hp with rfl | hp
      · exact N10 _ (.tail _ (.tail _ (.tail _ (.tail _ (.tail _ (.head _))))))
      · exact N10 _ (.tail _ (.tail _ (.tail _ (.tail _ (.tail _ (.tail _ (.tail _ hp)))))))
  have hdl : (mn.take 8 ++ fillers.drop (my.take 8).length).length = 8 := by
    rw [List.length_append, List.length_take, List.length_drop, List.length_take, hml, show fillers.length = 8 from rfl]; omega
  generalize mn.take 8 ++ fillers.drop (my.take 8).length = dn at hdv hdl
  refine storeX_C F10 N10 (c := L + 1 + 1) rfl (cellUpd2 (P := [_, _]) N10 (all_cons rfl (all_cons rfl all_nil)) d2 h67) d2 fun h11 c2' F11 N11 d2' => ?_
  obtain ⟨ad, had⟩ : ∃ ad, h9.objs.size = ad := ⟨_, rfl⟩
  rw [had] at N11
  have d2' : c2'.data = .cell (some (.ref ad)) := had ▸ d2'
  show wpAny _ _ _ _ _ ({ s with heap := h11, toks := _ } : Shared)
  exact K _ _ _ c2' ad dv dn F11 N11 d2' mt5 hdv hdl

end Mine
end

section
open PySem PySem.W PySem.Calls PySem.Spec PyProof.Rows
set_option maxRecDepth 100000
namespace Mine

set_option maxHeartbeats 2000000 in
theorem law1c {w : World} {dp un : Nat} {fr : Option (List Env)} {gd : Option (List Code)} {s : Shared} {h₀ h : Heap} {L fa : Addr} {m : Str → Option Value} {tk : Nat} {c5 c4 c3 c2 c1 : Obj} {ps : Array Value} {loose : List Str} {mean : ExcName → Option Value} {mg mb : Str → Option Value} {Q : Flow → Shared → Prop}
    (X : Frag.In (hd.heap_39 w.params) h₀) {pv : Program} (T : Top pv loose mean mg mb h₀) (h67 : @LT.lt Nat _ 67 L)
    {al ad : Addr} {lv dv : List Value} {dn : List Int} {tot : Int} (F11 : Fr h₀ L h m) (N11 : News h₀ L h ((ad, { cls := .type "list", data := .seq (List.toArray dv) }) :: (al, { cls := .type "list", data := .seq (List.toArray lv) }) :: lawCells L c5 c4 c3 c2 c1 ps))
    (d1' : c1.data = .cell (some (.ref al))) (d2' : c2.data = .cell (some (.ref ad))) (mt5 : ∃ t, m (Str.ofString "total") = some (.int tot t)) (hlv : IntsAre lv [1 + tot % 45, 255]) (hdv : IntsAre dv dn) (hdl : dn.length = 8)
    (K : ∀ h' tk' m' (at' : Addr) (tv : List Value) (T8 : List Int) (nt : Nat), Fr h₀ L h' m' → News h₀ L h' ((at', { cls := .type "list", data := .seq (List.toArray tv) nt }) :: (al, { cls := .type "list", data := .seq (List.toArray lv) }) :: lawCells L c5 c4 c3 c2 c1 ps) →
      (∃ t, m' (Str.ofString "total") = some (.int tot t)) → m' (Str.ofString "tape") = some (.ref at') → IntsAre tv T8 → T8.length = 8 →
      (∀ k, k < 8 → T8.getD k 0 = 1 + tot % 45 ∨ T8.getD k 0 = 255 ∨ T8.getD k 0 = 256 + (k : Int)) →
      wpAny (model PySem.Challenge.rw_rw0040_01.row.prog w) { handled := none, depth := dp, frames := fr, guards := gd, units := un } (execs (lawRest 5) (lawEnv L fa)) Q (fun _ _ => False) { s with heap := h', toks := tk' }) :
    wpAny (model PySem.Challenge.rw_rw0040_01.row.prog w) { handled := none, depth := dp, frames := fr, guards := gd, units := un } (execs (lawRest 4) (lawEnv L fa)) Q (fun _ _ => False) { s with heap := h, toks := tk } := by
  revert X
  k_fill
  intro X
  have TR := topRead_of T
  have gS : nsIn (hd.heap_39 w.params) mainGlobals (Str.ofString "sum") = some none := by k_is
  have bS : bootBuiltins (Str.ofString "sum") = some (.builtin "sum") := by boot_fast
  have gR : nsIn (hd.heap_39 w.params) mainGlobals (Str.ofString "range") = some none := by k_is
  have bR : bootBuiltins (Str.ofString "range") = some (.type "range") := by boot_fast
  have gL : nsIn (hd.heap_39 w.params) mainGlobals (Str.ofString "len") = some none := by k_is
  have bL : bootBuiltins (Str.ofString "len") = some (.builtin "len") := by boot_fast
  -- tape
  have hdvl : dv.length = 8 := hdv.length.trans hdl
  have hll : lv.length = 2 := hlv.length
  refine wpAny_execs_cons ?_
  refine Assign_ListComp_rK (fun i y => ∃ t, y = Value.int (([1 + tot % 45, 255] ++ [256 + ((i : Nat) : Int)]).getD (dn.getD i 0 % 3).toNat 0) t) rfl rfl (cl := [(Str.ofString "letters", L + 1), (Str.ofString "draws", L + 1 + 1)]) rfl (by decide) rfl (by decide) rfl rfl rfl ?_
  refine Call_ ?_
  refine nameX_B F11 X TR gR bR (by decide) ?_
  refine Pv.callWith_type1 ?_
  refine args_cons ?_
  refine wpAny_Constant_int ?_
  refine args_nil ?_
  refine range1_rows F11 N11 fun h12 tk12 t1 u1 v1 hrg F12 N12 hk12 => ?_
  refine ⟨_, 8, t1, u1, v1, m, rfl, hrg, by decide, F12.ns, ?_, ?_⟩
  · intro C i t s2 m2 E' hi8 hns hm hk
    have up : ∀ b o, h.get? b = some o → s2.heap.get? b = some o := fun b o e => hk b o (hk12 b o e)
    obtain ⟨td, hdx⟩ := ints_getD hdv (k := i) (by omega)
    generalize hdi : dn.getD i 0 = di at hdx
    have hm3 : di.fmod 3 = di % 3 := Int.fmod_eq_emod_of_nonneg _ (by decide)
    have hr0 : 0 ≤ di % 3 := Int.emod_nonneg _ (by decide)
    have hr1 : di % 3 < 3 := Int.emod_lt_of_pos _ (by decide)
    refine Subscript_ ?_
    refine wpAny_BinOp ?_
    refine kldC (up _ _ (N11.get (memP (P := [_, _]) (.tail _ (.tail _ (.tail _ (.tail _ (.head _)))))))) d1' rfl ?_
    refine List_ ?_
    refine args_cons ?_
    refine wpAny_BinOp ?_
    refine wpAny_Constant_int ?_
    refine kldL hns hm ?_
    refine PyProof.Rows.add_int ?_
    refine args_nil ?_
    refine newListG ?_ (by show 1 ≤ sizeLine; rw [sizeLine_eq]; decide)
    refine addG (vs := lv) (Heap.IsList.at (h := h) (N11.isList (.tail _ (.head _))) fun o e => Heap.get?_push_of_some _ (up _ o e)) ⟨_, Heap.get?_push_size _ rfl, rfl, 0, rfl⟩ ?_ (by rw [hll, sizeLine_eq]; exact Nat.le_of_ble_eq_true rfl)
    have g2 : s2.heap.get? (L + 1 + 1) = some c2 := up _ _ (N11.get (memP (P := [_, _]) (.tail _ (.tail _ (.tail _ (.head _))))))
    refine wpAny_BinOp ?_
    refine Subscript_ ?_
    refine kldC (o := c2) (c := L + 1 + 1) ?_ d2' rfl ?_
    · exact Heap.get?_push_of_some _ (Heap.get?_push_of_some _ g2)
    refine kldL ((hns.push _).push _) hm ?_
    refine itemG (vs := dv) (Heap.IsList.at (h := h) (N11.isList (.head _)) fun o e => Heap.get?_push_of_some _ (Heap.get?_push_of_some _ (up _ o e))) (by omega) (by omega) (by rw [Int.toNat_natCast]; exact hdx) ?_
    refine wpAny_Constant_int ?_
    refine PyProof.Rows.mod_int (by decide) ?_
    obtain ⟨t7, hx7⟩ := ints_getD (hlv.append (.cons (256 + ((i : Nat) : Int)) _ .nil)) (k := (di % 3).toNat) (by show _ < 3; omega)
    refine itemG ⟨_, Heap.get?_push_size _ rfl, rfl, 0, rfl⟩ (by rw [hm3]; exact hr0) (by rw [hm3]; omega) (by rw [hm3]; exact hx7) ?_
    exact ⟨⟨t7, rfl⟩, _, _, rfl, fun b o e => Heap.get?_push_of_some _ (Heap.get?_push_of_some _ e)⟩
  · intro D ys h13 tk13 hyl hF hpl hD hn13 hk13
    obtain ⟨F13, N13⟩ := fr_after F12 N12 hn13 hk13
    obtain ⟨nt, hnt⟩ := hpl
    obtain ⟨q1, q2⟩ := new_ne F12 hD
    refine K h13 tk13 _ D ys ((List.range 8).map fun i => ([1 + tot % 45, 255] ++ [256 + ((i : Nat) : Int)]).getD (dn.getD i 0 % 3).toNat 0) nt F13 (fun p hp => ?_) mt5 rfl ?_ (by simp) ?_
    · rcases List.mem_cons.mp hp with rfl | hp
      · exact ⟨hnt, q1, q2⟩
      · exact N13 p (.tail _ hp)
    · refine ints_of_get (by rw [hyl]; simp) fun i hi => ?_
      have hi' : i < 8 := by simpa using hi
      obtain ⟨t, e⟩ := hF i (ys[i]'(by omega)) (by simp)
      refine ⟨t, ?_⟩
      rw [List.getElem?_eq_getElem (by omega), e]
      simp
    · intro k hk
      have hr0 : 0 ≤ dn.getD k 0 % 3 := Int.emod_nonneg _ (by decide)
      have hr1 : dn.getD k 0 % 3 < 3 := Int.emod_lt_of_pos _ (by decide)
      have e : ((List.range 8).map fun i => ([1 + tot % 45, 255] ++ [256 + ((i : Nat) : Int)]).getD (dn.getD i 0 % 3).toNat 0).getD k 0 = ([1 + tot % 45, 255] ++ [256 + ((k : Nat) : Int)]).getD (dn.getD k 0 % 3).toNat 0 := by
        rw [List.getD_eq_getElem?_getD, List.getElem?_map, List.getElem?_range hk]; rfl
      rw [e]
      generalize dn.getD k 0 % 3 = q at hr0 hr1
      have : q = 0 ∨ q = 1 ∨ q = 2 := by omega
      rcases this with rfl | rfl | rfl
      · exact .inl rfl
      · exact .inr (.inl rfl)
      · exact .inr (.inr rfl)
end Mine
end

section
open PySem PySem.W PySem.Calls PySem.Spec PyProof.Rows
set_option maxRecDepth 100000
namespace Mine

section
variable {prog : Program} {w : World} {A : Around} {s : Shared} {env : Env} {h₀ : Heap}
theorem for_walksX {Q : Flow → Shared → Prop} {E : Value → Shared → Prop} {x : Str} {px : Pos} {body : List Stmt} {I : Addr} {fp : List Addr} {n : Nat} {P : Nat → Value → Prop} {St : Nat → Heap → Prop} {m : Str → Option Value}
    {news : List (Addr × Obj)} (W : Walks prog w A I fp [I] n P St)
    (hLf : env.locals ∉ fp) (hI : h₀.get? I = none)
    (hst : St 0 s.heap) (F : Fr h₀ env.locals s.heap m) (N : News h₀ env.locals s.heap news) (hno : ∀ p ∈ news, p.1 ≠ I)
    (J : Nat → (Str → Option Value) → List (Addr × Obj) → Prop) (h0 : J 0 m news)
    (step : ∀ i v m₁ news₁ h tk own, i < n → P i v → J i m₁ news₁ → (∀ p ∈ own, p.1 ∈ fp) → (∀ b ∈ fp, ∀ o, h₀.get? b = none → h.get? b = some o → (b, o) ∈ own) → (∀ p ∈ news₁, p.1 ≠ I) → St (i + 1) h →
      Fr h₀ env.locals h m₁ → News h₀ env.locals h (own ++ news₁) →
      wpAny (model prog w) A (storeName env x v) (fun _ s₁ => wpAny (model prog w) A (execs body env) (fun f s₂ => match f with
        | .ret v => Q (.ret v) s₂
        | .brk => Q .next s₂
        | _ => TurnedA h₀ env.locals I own (J (i + 1)) s s₂) (fun _ _ => False) s₁) (fun _ _ => False) { s with heap := h, toks := tk })
    (done : ∀ h' tk m' news', J n m' news' → (∀ p ∈ news', p.1 ≠ I) → Fr h₀ env.locals h' m' → News h₀ env.locals h' news' → Q .next { s with heap := h', toks := tk }) :
    codeAny (model prog w) A (.forLoop (.Name x px) (.ref I) body [] env) (fun r s' => match r with | .ok f => Q f s' | .error e => cameBackBy (model prog w) A env E e s') s := by
  have hLI : env.locals ≠ I := fun h => hLf (W.sub _ (by simp [h]))
  have old : ∀ b o, h₀.get? b = some o → b ∉ [I] := fun b o e hb => by rw [List.mem_singleton.mp hb, hI] at e; cases e
  refine codeAny_forLoop
    (fun k s' => ∃ h' tk m' news' i, s' = { s with heap := h', toks := tk } ∧ St i h' ∧ Fr h₀ env.locals h' m' ∧ News h₀ env.locals h' news' ∧ (∀ p ∈ news', p.1 ≠ I) ∧ J i m' news' ∧ i ≤ n ∧ k = n + 1 - i) ?_ (n + 1)
    ⟨s.heap, s.toks, m, news, 0, rfl, hst, F, N, hno, h0, Nat.zero_le _, rfl⟩
  rintro k s' ⟨h', tk, m', news', i, rfl, hst', F', N', hno', hJ, hi, rfl⟩
  have hap := hno'
  have next : ∀ h₁ : Heap, (∀ b o, b ∉ [I] → h'.get? b = some o → h₁.get? b = some o) → Fr h₀ env.locals h₁ m' ∧ News h₀ env.locals h₁ news' := fun h₁ hk₁ =>
    ⟨⟨F'.ns.at' fun o e => hk₁ _ o (by simp [hLI]) e, fun b o e => hk₁ b o (old b o e) (F'.keep b o e), F'.above⟩, fun p hp => ⟨hk₁ _ _ (by simp [hap p hp]) (N' p hp).1, (N' p hp).2⟩⟩
  by_cases hlt : i < n
  · refine W.item i _ _ _ hlt hst' fun v h₁ tk₁ hP hst₁ hk₁ => ?_
    obtain ⟨F₁, N₁⟩ := next h₁ hk₁
    refine wpAny_assign_Name (wpAny_mono (step i v m' news' h₁ tk₁ (ownOf h₀ fp h₁) hlt hP hJ ownOf_sub (fun b hb o e1 e2 => mem_ownOf hb e1 e2) hap hst₁ F₁ ((news_ownOf hLf).append N₁)) (fun _ s₁ h₁' => wpAny_mono h₁' (fun f s₃ h₃ => ?_) fun _ _ e => e.elim) fun _ _ e => e.elim)
    have F₂ := F₁
    have fin : TurnedA h₀ env.locals I (ownOf h₀ fp h₁) (J (i + 1)) s s₃ → ∃ m, m < n + 1 - i ∧ ∃ h' tk m' news' i, s₃ = { s with heap := h', toks := tk } ∧ St i h' ∧ Fr h₀ env.locals h' m' ∧ News h₀ env.locals h' news' ∧ (∀ p ∈ news', p.1 ≠ I) ∧ J i m' news' ∧ i ≤ n ∧ m = n + 1 - i := by
      rintro ⟨h₃', tk₃, m₂, news₂, rfl, F₃, N₃, hno₃, hJ₃⟩
      refine ⟨n + 1 - (i + 1), by omega, h₃', tk₃, m₂, news₂, i + 1, rfl, ?_, F₃, N₃.right, hno₃, hJ₃, hlt, rfl⟩
      refine W.frame _ _ _ hst₁ fun b hb o e => ?_
      have e₂ : h₁.get? b = some o := e
      cases hn : h₀.get? b with
      | some o₀ =>
        have : o₀ = o := by have := F₂.keep b o₀ hn; rw [e₂] at this; exact (Option.some.inj this).symm
        exact this ▸ F₃.keep b o₀ hn
      | none => exact (N₃ _ (List.mem_append_left _ (mem_ownOf hb hn e₂))).1
    cases f with
    | next => exact fin h₃
    | cont => exact fin h₃
    | brk => exact h₃
    | ret v => exact h₃
  · have hin : i = n := by omega
    subst hin
    refine W.done _ _ _ hst' fun h₁ tk₁ hk₁ => wpAny_execs_nil ?_
    obtain ⟨F₁, N₁⟩ := next h₁ hk₁
    exact done h₁ tk₁ m' news' hJ hno' F₁ N₁


/-- the walk over a list behind the head's reckoning: told apart by the place, the list stands in each turn, a local name -/
theorem for_listX {Q : Flow → Shared → Prop} {E : Value → Shared → Prop} {x : Str} {px : Pos} {body : List Stmt} {a : Addr} {items : List Value} {m : Str → Option Value} {news : List (Addr × Obj)}
    (J : Nat → (Str → Option Value) → List (Addr × Obj) → Prop)
    (hh : A.handled = none) (hl : s.heap.IsList a items.toArray) (haL : a ≠ env.locals)
    (F : Fr h₀ env.locals s.heap m) (N : News h₀ env.locals s.heap news) (h0 : J 0 m news)
    (step : ∀ i v m₁ news₁ h tk own, items[i]? = some v → J i m₁ news₁ → (∀ p ∈ own, p.1 = a ∨ p.1 = s.heap.objs.size) → (∀ p ∈ news₁, p.1 ≠ s.heap.objs.size) → h.IsList a items.toArray → (∃ o, (s.heap.objs.size, o) ∈ own) →
      Fr h₀ env.locals h (fun y => if y = x then some v else m₁ y) → News h₀ env.locals h (own ++ news₁) →
      wpAny (model prog w) A (execs body env) (fun f s₂ => match f with
        | .ret v => Q (.ret v) s₂
        | .brk => Q .next s₂
        | _ => TurnedA h₀ env.locals s.heap.objs.size own (J (i + 1)) s s₂) (fun _ _ => False) { s with heap := h, toks := tk })
    (done : ∀ h' tk m' news', J items.length m' news' → Fr h₀ env.locals h' m' → News h₀ env.locals h' news' → Q .next { s with heap := h', toks := tk })
    (hx : env.kindOf x = some .local := by rfl)
    (hp : (env.scope.kind == .class || (env.scope.kind == .module && env.locals != env.globals)) = false := by rfl) :
    wpAny (model prog w) A (pyIter (.ref a)) (fun it s₂ => codeAny (model prog w) A (.forLoop (.Name x px) it body [] env) (fun r s' => match r with | .ok f => Q f s' | .error e => cameBackBy (model prog w) A env E e s') s₂) E s := by
  obtain ⟨ol, hol, _⟩ := id hl
  have hne : a ≠ s.heap.objs.size := Nat.ne_of_lt (Heap.lt_size hol)
  refine wpAny_pyIter_list hl ?_
  have W := Walks.list (prog := prog) (w := w) hh s.heap.objs.size a hne items.toArray
  have hI : h₀.get? s.heap.objs.size = none := by
    cases q : h₀.get? s.heap.objs.size with
    | none => rfl
    | some o => exact absurd (Heap.lt_size (F.keep _ _ q)) (Nat.lt_irrefl _)
  have hLne : env.locals ≠ s.heap.objs.size := fun e => absurd F.ns.lt (e ▸ Nat.lt_irrefl _)
  refine for_walksX (s := { s with heap := s.heap.push { cls := .type "list_iterator", data := .fields #[.ref a, .int 0 0] } }) W ?_ hI ⟨⟨_, Heap.get?_push_size _ rfl, rfl, rfl⟩, hl.at fun o e => Heap.get?_push_of_some _ e⟩ (F.push _)
    (fun p hp => ⟨Heap.get?_push_of_some _ (N p hp).1, (N p hp).2⟩) (fun p hp => Nat.ne_of_lt (Heap.lt_size (N p hp).1)) J h0 ?_ ?_
  · intro hm
    rcases List.mem_cons.mp hm with e | hm
    · exact hLne e
    · exact haL (List.mem_singleton.mp hm).symm
  · intro i v m₁ news₁ h tk own hi hP hJ hown hfull hap hst1 F1 N1
    refine wpAny_storeName_local hx F1.ns (fun h₂ hn₂ hs₂ => ?_) hp
    refine step i v m₁ news₁ h₂ (tk + 1) own (by simpa using hP) hJ (fun p hp => ?_) hap (hst1.2.at fun o e => (hs₂.2 a haL).trans e) (let ⟨o, ho, _⟩ := hst1.1; ⟨o, hfull _ (.head _) o hI ho⟩) (F1.set hn₂ hs₂) (N1.set hs₂)
    have := hown p hp
    simp at this
    exact this.symm
  · intro h' tk m' news' hJ hn1 F1 N1
    exact done h' tk m' news' (by simpa using hJ) F1 N1

/-- the walk over a range behind the head's reckoning: told apart by the place, a local name -/
theorem for_rangeX {Q : Flow → Shared → Prop} {E : Value → Shared → Prop} {x : Str} {px : Pos} {body : List Stmt} {r : Addr} {a b : Int} {t u v : Tok} {n : Nat} {m : Str → Option Value} {news : List (Addr × Obj)}
    (J : Nat → (Str → Option Value) → List (Addr × Obj) → Prop)
    (hh : A.handled = none) (hr : IsRange s.heap r a b 1 t u v) (hsmall : Builtin.Range.small a b 1 = true) (hn : Builtin.Range.rangeSize a b 1 = (n : Int))
    (F : Fr h₀ env.locals s.heap m) (N : News h₀ env.locals s.heap news) (h0 : J 0 m news)
    (step : ∀ i t m₁ news₁ h tk own, i < n → J i m₁ news₁ → (∀ p ∈ own, p.1 = s.heap.objs.size) → (∀ p ∈ news₁, p.1 ≠ s.heap.objs.size) → (∃ o, (s.heap.objs.size, o) ∈ own) →
      Fr h₀ env.locals h (fun y => if y = x then some (.int (a + (i : Nat)) t) else m₁ y) → News h₀ env.locals h (own ++ news₁) →
      wpAny (model prog w) A (execs body env) (fun f s₂ => match f with
        | .ret v => Q (.ret v) s₂
        | .brk => Q .next s₂
        | _ => TurnedA h₀ env.locals s.heap.objs.size own (J (i + 1)) s s₂) (fun _ _ => False) { s with heap := h, toks := tk })
    (done : ∀ h' tk m' news', J n m' news' → Fr h₀ env.locals h' m' → News h₀ env.locals h' news' → Q .next { s with heap := h', toks := tk })
    (hx : env.kindOf x = some .local := by rfl)
    (hp : (env.scope.kind == .class || (env.scope.kind == .module && env.locals != env.globals)) = false := by rfl) :
    wpAny (model prog w) A (pyIter (.ref r)) (fun it s₂ => codeAny (model prog w) A (.forLoop (.Name x px) it body [] env) (fun r s' => match r with | .ok f => Q f s' | .error e => cameBackBy (model prog w) A env E e s') s₂) E s := by
  refine wpAny_pyIter_range hr hsmall ?_
  have W : Walks prog w A s.heap.objs.size [s.heap.objs.size] [s.heap.objs.size] n (fun i v => i < n ∧ ∃ t, v = .int (a + i * 1) t)
      (fun i h => IsRangeIter h s.heap.objs.size (a + (i : Nat) * 1) ((n : Int) - (i : Nat)) 1) := (Walks.range hh _ a 1 n).bound
  have hI : h₀.get? s.heap.objs.size = none := by
    cases q : h₀.get? s.heap.objs.size with
    | none => rfl
    | some o => exact absurd (Heap.lt_size (F.keep _ _ q)) (Nat.lt_irrefl _)
  have hLne : env.locals ≠ s.heap.objs.size := fun e => absurd F.ns.lt (e ▸ Nat.lt_irrefl _)
  refine for_walksX (s := { s with heap := s.heap.push { cls := .type "range_iterator", data := .fields #[rawInt a, rawInt (Builtin.Range.rangeSize a b 1), rawInt 1] } }) W ?_ hI (by show IsRangeIter _ _ _ _ _; rw [hn]; simpa using Heap.get?_push_size _ rfl) (F.push _)
    (fun p hp => ⟨Heap.get?_push_of_some _ (N p hp).1, (N p hp).2⟩) (fun p hp => Nat.ne_of_lt (Heap.lt_size (N p hp).1)) J h0 ?_ ?_
  · intro hm
    exact hLne (List.mem_singleton.mp hm)
  · rintro i v m₁ news₁ h tk own hi ⟨_, t9, rfl⟩ hJ hown hfull hap hst1 F1 N1
    refine wpAny_storeName_local hx F1.ns (fun h₂ hn₂ hs₂ => ?_) hp
    rw [Int.mul_one] at hn₂
    refine step i t9 m₁ news₁ h₂ (tk + 1) own hi hJ (fun p hp => List.mem_singleton.mp (hown p hp)) hap ⟨_, hfull _ (.head _) _ hI hst1⟩ (F1.set hn₂ hs₂) (N1.set hs₂)
  · intro h' tk m' news' hJ hn1 F1 N1
    exact done h' tk m' news' hJ F1 N1
end
/-- the clock's stand is forgotten -/
theorem gtok {α : Type} {M : Model} {A : Around} {c : Sem α} {Q : α → Shared → Prop} {E : Value → Shared → Prop} {s : Shared} {h : Heap} {t : Nat} (H : ∀ tk, wpAny M A c Q E { s with heap := h, toks := tk }) : wpAny M A c Q E { s with heap := h, toks := t } := H t
end Mine
end

section
open PySem PySem.W PySem.Calls PySem.Spec PyProof.Rows
set_option maxRecDepth 100000
namespace Mine

def splitZ (l : List Int) : List (List Int) := l.foldl (fun ls x => if x = 0 then ls ++ [[]] else ls.dropLast ++ [(ls.getLastD []) ++ [x]]) [[]]
theorem splitZ_snoc (l : List Int) (x : Int) : splitZ (l ++ [x]) = if x = 0 then splitZ l ++ [[]] else (splitZ l).dropLast ++ [((splitZ l).getLastD []) ++ [x]] := by
  unfold splitZ; rw [List.foldl_append]; rfl
/-- the lists of the row of forms -/
def formsAt (fs : List (Addr × List Value × Nat)) : List (Addr × Obj) := fs.map fun f => (f.1, { cls := .type "list", data := .seq (List.toArray f.2.1) f.2.2 })
def formRefs (fs : List (Addr × List Value × Nat)) : List Value := fs.map fun f => Value.ref f.1
/-- what stands between the signs of the tape -/
def FJ (R : List (Addr × Obj)) (af ait : Addr) (tot : Int) (T : List Int) (i : Nat) (m' : Str → Option Value) (news' : List (Addr × Obj)) : Prop :=
  ∃ (nf : Nat) (fs : List (Addr × List Value × Nat)), news' = (af, { cls := .type "list", data := .seq (List.toArray (formRefs fs)) nf }) :: (formsAt fs ++ R) ∧
    (∃ t, m' (Str.ofString "total") = some (.int tot t)) ∧ Paired (fun f l => IntsAre f.2.1 l) fs (splitZ (T.take i)) ∧ fs.length ≤ i + 1 ∧ (∀ f ∈ fs, f.2.1.length ≤ i) ∧ af ≠ ait ∧ (∀ f ∈ fs, f.1 ≠ ait ∧ f.1 ≠ af) ∧ (fs.map (·.1)).Nodup ∧ fs ≠ [] ∧ (∀ q ∈ R, q.1 ≠ af ∧ ∀ f ∈ fs, q.1 ≠ f.1)

noncomputable def lawFor (k : Nat) : List Stmt := match lawBody.getD k default with
  | .For _ _ b _ _ => b
  | _ => []

theorem formsAt_split {fs : List (Addr × List Value × Nat)} (h : fs ≠ []) : ∃ init f u n, fs = init ++ [(f, u, n)] := by
  obtain ⟨init, x, rfl⟩ : ∃ init x, fs = init ++ [x] := ⟨fs.dropLast, fs.getLast h, (List.dropLast_concat_getLast h).symm⟩
  exact ⟨init, x.1, x.2.1, x.2.2, rfl⟩
theorem paired_append {α β : Type} {R : α → β → Prop} {a c : List α} {b d : List β} (h : Paired R a b) (k : Paired R c d) : Paired R (a ++ c) (b ++ d) := by
  induction h with
  | nil => exact k
  | cons x _ ih => exact .cons x ih
theorem paired_snoc_inv {α β : Type} {R : α → β → Prop} {a : List α} {x : α} {b : List β} (h : Paired R (a ++ [x]) b) : ∃ c y, b = c ++ [y] ∧ Paired R a c ∧ R x y := by
  induction a generalizing b with
  | nil =>
    cases h with
    | cons p q => cases q; exact ⟨[], _, rfl, .nil, p⟩
  | cons z r ih =>
    cases h with
    | cons p q =>
      obtain ⟨c, y, rfl, hc, hy⟩ := ih q
      exact ⟨_ :: c, y, rfl, .cons p hc, hy⟩
theorem paired_len {α β : Type} {R : α → β → Prop} {a : List α} {b : List β} (h : Paired R a b) : a.length = b.length := by
  induction h with
  | nil => rfl
  | cons _ _ ih => simp [ih]
/-- the rest of the ledger stays apart when the store is one of its own addresses -/
theorem mem_forms {fs : List (Addr × List Value × Nat)} {f : Addr} {u : List Value} {n : Nat} (h : (f, u, n) ∈ fs) : (f, ({ cls := .type "list", data := .seq (List.toArray u) n } : Obj)) ∈ formsAt fs := List.mem_map.mpr ⟨_, h, rfl⟩

theorem back1 (n : Nat) : seqIndex? (-1) (n + 1) = some n := by
  unfold seqIndex?
  simp
  try omega

set_option maxHeartbeats 2000000 in
theorem law2s {w : World} {dp un : Nat} {fr : Option (List Env)} {gd : Option (List Code)} {s : Shared} {h₀ h : Heap} {L fa : Addr} {m1 : Str → Option Value} {tk : Nat} {c3 : Obj} {loose : List Str} {mean : ExcName → Option Value} {mg mb : Str → Option Value} {Q : Flow → Shared → Prop}
    (X : Frag.In (hd.heap_39 w.params) h₀) {pv : Program} (T : Top pv loose mean mg mb h₀) (hroom : dp < recursionLimit)
    {af ait I : Addr} {R : List (Addr × Obj)} {tot : Int} {TT : List Int} {news1 own : List (Addr × Obj)} {i : Nat} {x : Int} {t : Tok}
    (hc3 : (L + 1 + 1 + 1, c3) ∈ R) (d3 : c3.data = .cell (some (.ref af))) {itv : List Value} (hil : h.IsList ait itv.toArray) (hI : ∃ o, (I, o) ∈ own)
    (hi : i < TT.length) (ht10 : TT.length ≤ 10) (hx : TT.getD i 0 = x) (hJ : FJ R af ait tot TT i m1 news1) (hown : ∀ p ∈ own, p.1 = ait ∨ p.1 = I) (hap : ∀ p ∈ news1, p.1 ≠ I)
    (F1 : Fr h₀ L h (fun y => if y = Str.ofString "symbol" then some (.int x t) else m1 y)) (N1 : News h₀ L h (own ++ news1)) :
    wpAny (model PySem.Challenge.rw_rw0040_01.row.prog w) { handled := none, depth := dp, frames := fr, guards := gd, units := un } (execs (lawFor 6) (lawEnv L fa)) (fun f s₂ => match f with
        | .ret v => Q (.ret v) s₂
        | .brk => Q .next s₂
        | _ => TurnedA h₀ L I own (FJ R af ait tot TT (i + 1)) s s₂) (fun _ _ => False) { s with heap := h, toks := tk } := by
  revert X
  k_fill
  intro X
  have TR := topRead_of T
  have gE : nsIn (hd.heap_39 w.params) mainGlobals (Str.ofString "ISEOF") = some (some (.ref 53)) := by k_is
  obtain ⟨nf, fs, rfl, mt, hP, hlen, hlen2, hafi, hne, hnd, hnn, hR⟩ := hJ
  have htake : TT.take (i + 1) = TT.take i ++ [x] := by
    rw [List.take_add_one, List.getElem?_eq_getElem hi, ← hx, List.getD_eq_getElem?_getD, List.getElem?_eq_getElem hi]; rfl
  have nin : ∀ {p : Addr × Obj} {r : List (Addr × Obj)}, p ∈ r → p ∈ own ++ r := fun hp => List.mem_append_right _ hp
  refine wpAny_execs_cons ?_
  refine wpAny_If ?_
  refine isTrue_plain ?_
  refine Call_ ?_
  refine nameX_K F1 X TR gE ?_
  refine callWith_K X (by k_is) ?_
  refine args_cons ?_
  refine nameX_L F1 rfl ?_
  refine args_nil ?_
  refine ⟨X.keeps F1.keep, ?_⟩
  refine wpAny_mono (ise_call (by exact X.keeps F1.keep) (by exact T.keeps F1.keep) hroom x t) (fun v s9 h9 => ?_) fun _ _ e => e
  obtain ⟨rfl, h9, tk9, rfl, hk9⟩ := h9
  have F2 := F1.keeps hk9
  have N2 := N1.grown hk9
  obtain ⟨oI, hoI⟩ := hI
  have hoI := hk9 _ _ (N1 _ (List.mem_append_left _ hoI)).1
  obtain ⟨oa, hoa, _⟩ := hil
  have hoa := hk9 _ _ hoa
  clear F1 N1 hk9
  show wpAny _ _ _ _ _ ({ s with heap := h9, toks := _ } : Shared)
  have c3m : (L + 1 + 1 + 1, c3) ∈ own ++ (af, ({ cls := .type "list", data := .seq (List.toArray (formRefs fs)) nf } : Obj)) :: (formsAt fs ++ R) := nin (.tail _ (List.mem_append_right _ hc3))
  have afm : (af, ({ cls := .type "list", data := .seq (List.toArray (formRefs fs)) nf } : Obj)) ∈ own ++ (af, ({ cls := .type "list", data := .seq (List.toArray (formRefs fs)) nf } : Obj)) :: (formsAt fs ++ R) := nin (.head _)
  have hofs : ∀ p ∈ own, ∀ q ∈ ((af, ({ cls := .type "list", data := .seq (List.toArray (formRefs fs)) nf } : Obj)) :: (formsAt fs ++ R)), q.1 ≠ ait → p.1 ≠ q.1 := fun p hp q hq hn e => by
    rcases hown p hp with r | r
    · exact hn (e ▸ r)
    · exact hap q hq (e ▸ r)
  have hafI : af ≠ I := hap _ (.head _)
  have hrl : (formRefs fs).length = fs.length := by simp [formRefs]
  refine wpAny_truthy_bool ?_
  by_cases hz : x = 0
  · rw [if_pos (by simpa using hz)]
    refine wpAny_execs_cons ?_
    refine wpAny_Expr ?_
    refine MethodCall_ ?_
    refine nameX_C N2 (c := L + 1 + 1 + 1) rfl c3m d3 ?_
    refine method_l PySem.F.slot_list_append PySem.F.type_list_append (N2.get afm) ?_
    refine callWith_method1 ?_
    refine args_cons ?_
    refine List_ ?_
    refine args_nil ?_
    refine newList_N F2 N2 (fun h3 F3 N3 => ?_) (Nat.zero_le _)
    refine args_nil ?_
    obtain ⟨f, hf⟩ : ∃ f, h9.objs.size = f := ⟨_, rfl⟩
    have fne : ∀ q ∈ own ++ (af, ({ cls := .type "list", data := .seq (List.toArray (formRefs fs)) nf } : Obj)) :: (formsAt fs ++ R), q.1 ≠ f := fun q hq e => absurd (Heap.lt_size (N2 q hq).1) (by rw [hf, e]; exact Nat.lt_irrefl _)
    rw [hf] at N3 ⊢
    show wpAny _ _ _ _ _ ({ s with heap := h3, toks := _ } : Shared)
    refine append_R F3 N3 (.tail _ afm) (by rw [hrl]; omega) (fun h4 F4 N4 D4 => ?_)
    refine wpAny_execs_nil ?_
    refine wpAny_execs_nil ?_
    have hfI : f ≠ I := fun e => absurd (Heap.lt_size hoI) (by rw [hf, e]; exact Nat.lt_irrefl _)
    have hfa : f ≠ ait := fun e => absurd (Heap.lt_size hoa) (by rw [hf, e]; exact Nat.lt_irrefl _)
    have hfaf : f ≠ af := Ne.symm (fne _ afm)
    refine ⟨h4, _, _, (af, { cls := .type "list", data := .seq (List.toArray (formRefs (fs ++ [(f, [], 0)]))) (nf + 1) }) :: (formsAt (fs ++ [(f, [], 0)]) ++ R), rfl, F4, ?_, ?_, nf + 1, fs ++ [(f, [], 0)], rfl, mt, ?_, ?_, ?_, hafi, ?_, ?_, by simp, ?_⟩
    · intro p hp
      rcases List.mem_append.mp hp with hp | hp
      · exact N4 p (.tail _ (List.mem_append_left _ hp)) (hofs p hp _ (.head _) hafi)
      · rcases List.mem_cons.mp hp with rfl | hp
        · rw [show formRefs (fs ++ [(f, [], 0)]) = formRefs fs ++ [Value.ref f] by simp [formRefs]]
          exact D4
        · rcases List.mem_append.mp hp with hp | hp
          · obtain ⟨g, hg, rfl⟩ := List.mem_map.mp hp
            rcases List.mem_append.mp hg with hg | hg
            · exact N4 (g.1, _) (.tail _ (nin (.tail _ (List.mem_append_left _ (List.mem_map_of_mem hg))))) (hne g hg).2
            · rw [List.mem_singleton.mp hg]
              exact N4 (f, _) (.head _) hfaf
          · exact N4 p (.tail _ (nin (.tail _ (List.mem_append_right _ hp)))) (hR p hp).1
    · intro p hp
      rcases List.mem_cons.mp hp with rfl | hp
      · exact hafI
      · rcases List.mem_append.mp hp with hp | hp
        · obtain ⟨g, hg, rfl⟩ := List.mem_map.mp hp
          rcases List.mem_append.mp hg with hg | hg
          · exact hap (g.1, _) (.tail _ (List.mem_append_left _ (List.mem_map_of_mem hg)))
          · rw [List.mem_singleton.mp hg]; exact hfI
        · exact hap p (.tail _ (List.mem_append_right _ hp))
    · rw [htake, splitZ_snoc, if_pos hz]
      exact paired_append hP (.cons .nil .nil)
    · rw [List.length_append]; exact Nat.succ_le_succ hlen
    · intro g hg
      rcases List.mem_append.mp hg with hg | hg
      · exact Nat.le_succ_of_le (hlen2 g hg)
      · rw [List.mem_singleton.mp hg]; exact Nat.zero_le _
    · intro g hg
      rcases List.mem_append.mp hg with hg | hg
      · exact hne g hg
      · rw [List.mem_singleton.mp hg]; exact ⟨hfa, hfaf⟩
    · rw [List.map_append]
      refine List.nodup_append.mpr ⟨hnd, by simp, fun a ha b hb e => ?_⟩
      obtain ⟨g, hg, rfl⟩ := List.mem_map.mp ha
      rw [List.mem_singleton.mp hb] at e
      exact fne (g.1, _) (nin (.tail _ (List.mem_append_left _ (List.mem_map_of_mem hg)))) e
    · intro q hq
      refine ⟨(hR q hq).1, fun g hg => ?_⟩
      rcases List.mem_append.mp hg with hg | hg
      · exact (hR q hq).2 g hg
      · rw [List.mem_singleton.mp hg]
        exact fne q (nin (.tail _ (List.mem_append_right _ hq)))
  · rw [if_neg (by simpa using hz)]
    obtain ⟨init, f, u, n, rfl⟩ := formsAt_split hnn
    obtain ⟨ls0, l0, hls, hP0, hP1⟩ := paired_snoc_inv hP
    have hfm : (f, u, n) ∈ init ++ [(f, u, n)] := List.mem_append_right _ (.head _)
    have hfo : (f, ({ cls := .type "list", data := .seq (List.toArray u) n } : Obj)) ∈ own ++ (af, ({ cls := .type "list", data := .seq (List.toArray (formRefs (init ++ [(f, u, n)]))) nf } : Obj)) :: (formsAt (init ++ [(f, u, n)]) ++ R) := nin (.tail _ (List.mem_append_left _ (mem_forms hfm)))
    have hul := hlen2 _ hfm
    refine wpAny_execs_cons ?_
    refine wpAny_Expr ?_
    refine MethodCall_ ?_
    refine Subscript_ ?_
    refine nameX_C N2 (c := L + 1 + 1 + 1) rfl c3m d3 ?_
    refine UnaryOp_ ?_
    refine wpAny_Constant_int ?_
    refine neg_int ?_
    refine itemBackG (vs := formRefs (init ++ [(f, u, n)])) (j := init.length) (x := .ref f) ⟨_, N2.get afm, rfl, nf, rfl⟩ (by decide) (by decide) (by rw [show (formRefs (init ++ [(f, u, n)])).length = init.length + 1 by simp [formRefs]]; exact back1 _) (by simp [formRefs]) ?_
    refine method_l PySem.F.slot_list_append PySem.F.type_list_append (N2.get hfo) ?_
    refine callWith_method1 ?_
    refine args_cons ?_
    refine nameX_L F2 rfl ?_
    refine args_nil ?_
    refine append_R F2 N2 hfo (by have : u.length ≤ i := hul; omega) (fun h4 F4 N4 D4 => ?_)
    refine wpAny_execs_nil ?_
    refine wpAny_execs_nil ?_
    have hfaf : f ≠ af := (hne _ hfm).2
    have hndf : ∀ g ∈ init, g.1 ≠ f := fun g hg e => by
      rw [List.map_append] at hnd
      exact (List.nodup_append.mp hnd).2.2 _ (List.mem_map_of_mem hg) _ (by simp) e
    have hrs : formRefs (init ++ [(f, u ++ [Value.int x t], n + 1)]) = formRefs (init ++ [(f, u, n)]) := by simp [formRefs]
    refine ⟨h4, _, _, (af, { cls := .type "list", data := .seq (List.toArray (formRefs (init ++ [(f, u ++ [Value.int x t], n + 1)]))) nf }) :: (formsAt (init ++ [(f, u ++ [Value.int x t], n + 1)]) ++ R), rfl, F4, ?_, ?_, nf, init ++ [(f, u ++ [Value.int x t], n + 1)], rfl, mt, ?_, ?_, ?_, hafi, ?_, ?_, by simp, ?_⟩
    · intro p hp
      rcases List.mem_append.mp hp with hp | hp
      · exact N4 p (List.mem_append_left _ hp) (hofs p hp _ (.tail _ (List.mem_append_left _ (mem_forms hfm))) (hne _ hfm).1)
      · rcases List.mem_cons.mp hp with rfl | hp
        · rw [hrs]
          exact N4 (af, _) afm (Ne.symm hfaf)
        · rcases List.mem_append.mp hp with hp | hp
          · obtain ⟨g, hg, rfl⟩ := List.mem_map.mp hp
            rcases List.mem_append.mp hg with hg | hg
            · exact N4 (g.1, _) (nin (.tail _ (List.mem_append_left _ (List.mem_map_of_mem (List.mem_append_left _ hg))))) (hndf g hg)
            · rw [List.mem_singleton.mp hg]
              exact D4
          · exact N4 p (nin (.tail _ (List.mem_append_right _ hp))) ((hR p hp).2 _ hfm)
    · intro p hp
      rcases List.mem_cons.mp hp with rfl | hp
      · exact hafI
      · rcases List.mem_append.mp hp with hp | hp
        · obtain ⟨g, hg, rfl⟩ := List.mem_map.mp hp
          rcases List.mem_append.mp hg with hg | hg
          · exact hap (g.1, _) (.tail _ (List.mem_append_left _ (List.mem_map_of_mem (List.mem_append_left _ hg))))
          · rw [List.mem_singleton.mp hg]
            exact hap (f, ({ cls := .type "list", data := .seq (List.toArray u) n } : Obj)) (.tail _ (List.mem_append_left _ (mem_forms hfm)))
        · exact hap p (.tail _ (List.mem_append_right _ hp))
    · rw [htake, splitZ_snoc, if_neg hz, hls]
      rw [List.dropLast_concat, List.getLastD_concat]
      exact paired_append hP0 (.cons (hP1.append (.cons x t .nil)) .nil)
    · simpa using Nat.le_succ_of_le (by simpa using hlen)
    · intro g hg
      rcases List.mem_append.mp hg with hg | hg
      · exact Nat.le_succ_of_le (hlen2 g (List.mem_append_left _ hg))
      · rw [List.mem_singleton.mp hg]
        show (u ++ [Value.int x t]).length ≤ i + 1
        rw [List.length_append]; exact Nat.succ_le_succ hul
    · intro g hg
      rcases List.mem_append.mp hg with hg | hg
      · exact hne g (List.mem_append_left _ hg)
      · rw [List.mem_singleton.mp hg]; exact (hne (f, u, n) hfm : _)
    · simpa using hnd
    · intro q hq
      refine ⟨(hR q hq).1, fun g hg => ?_⟩
      rcases List.mem_append.mp hg with hg | hg
      · exact (hR q hq).2 g (List.mem_append_left _ hg)
      · rw [List.mem_singleton.mp hg]
        exact ((hR q hq).2 (f, u, n) hfm : _)
end Mine
end

section
open PySem PySem.W PySem.Calls PySem.Spec PyProof.Rows
set_option maxRecDepth 100000
namespace Mine

theorem paired3 {α β : Type} {P : α → β → Prop} {l : List α} {a b c : β} (h : Paired P l [a, b, c]) : ∃ x y z, l = [x, y, z] ∧ P x a ∧ P y b ∧ P z c := by
  cases h with
  | cons p q => cases q with
    | cons r s => cases s with
      | cons t u => cases u; exact ⟨_, _, _, rfl, p, r, t⟩
set_option maxHeartbeats 2000000 in
theorem law2 {w : World} {dp un : Nat} {fr : Option (List Env)} {gd : Option (List Code)} {s : Shared} {h₀ h : Heap} {L fa : Addr} {m : Str → Option Value} {tk : Nat} {c5 c4 c3 c2 c1 : Obj} {ps : Array Value} {loose : List Str} {mean : ExcName → Option Value} {mg mb : Str → Option Value} {Q : Flow → Shared → Prop}
    (X : Frag.In (hd.heap_39 w.params) h₀) {pv : Program} (T : Top pv loose mean mg mb h₀) (h67 : @LT.lt Nat _ 67 L) (hroom : dp < recursionLimit)
    {al at' : Addr} {lv tv : List Value} {T8 : List Int} {tot : Int} {nt : Nat} (F : Fr h₀ L h m) (N : News h₀ L h ((at', { cls := .type "list", data := .seq (List.toArray tv) nt }) :: (al, { cls := .type "list", data := .seq (List.toArray lv) }) :: lawCells L c5 c4 c3 c2 c1 ps))
    (d3 : c3.data = .cell none) (mt : ∃ t, m (Str.ofString "total") = some (.int tot t)) (mtp : m (Str.ofString "tape") = some (.ref at')) (hti : IntsAre tv T8) (ht8 : T8.length = 8) (hpos : ∀ k, k < 8 → T8.getD k 0 ≠ 0)
    (K : ∀ h' tk' m' (c3' : Obj) (af f0 f1 f2 : Addr) (u0 u1 u2 : List Value) (n0 n1 n2 nf : Nat), Fr h₀ L h' m' → News h₀ L h' ((af, { cls := .type "list", data := .seq (List.toArray [Value.ref f0, Value.ref f1, Value.ref f2]) nf }) :: (f0, { cls := .type "list", data := .seq (List.toArray u0) n0 }) :: (f1, { cls := .type "list", data := .seq (List.toArray u1) n1 }) :: (f2, { cls := .type "list", data := .seq (List.toArray u2) n2 }) :: (al, { cls := .type "list", data := .seq (List.toArray lv) }) :: lawCells L c5 c4 c3' c2 c1 ps) →
      c3'.data = .cell (some (.ref af)) → (∃ t, m' (Str.ofString "total") = some (.int tot t)) → IntsAre u0 (T8.take 5) → IntsAre u1 (T8.drop 5) →
      wpAny (model PySem.Challenge.rw_rw0040_01.row.prog w) { handled := none, depth := dp, frames := fr, guards := gd, units := un } (execs (lawRest 7) (lawEnv L fa)) Q (fun _ _ => False) { s with heap := h', toks := tk' }) :
    wpAny (model PySem.Challenge.rw_rw0040_01.row.prog w) { handled := none, depth := dp, frames := fr, guards := gd, units := un } (execs (lawRest 5) (lawEnv L fa)) Q (fun _ _ => False) { s with heap := h, toks := tk } := by
  revert X
  k_fill
  intro X
  have TR := topRead_of T
  have gE : nsIn (hd.heap_39 w.params) mainGlobals (Str.ofString "ISEOF") = some (some (.ref 53)) := by k_is
  have htl : tv.length = 8 := hti.length.trans ht8
  -- forms = [[]]
  refine wpAny_execs_cons ?_
  refine wpAny_Assign_Name ?_
  refine List_ ?_
  refine args_cons ?_
  refine List_ ?_
  refine args_nil ?_
  refine newList_N F N (fun h1 F1 N1 => ?_) (Nat.zero_le _)
  refine args_nil ?_
  refine newList_N F1 N1 (fun h2 F2 N2 => ?_) (by show 1 ≤ sizeLine; rw [sizeLine_eq]; decide)
  refine storeX_C F2 N2 (c := L + 1 + 1 + 1) rfl (cellUpd3 (P := [_, _, _, _]) N2 (all_cons rfl (all_cons rfl (all_cons rfl (all_cons rfl all_nil)))) d3 h67) d3 fun h3 c3' F3 N3 d3' => ?_
  show wpAny _ _ _ _ _ ({ s with heap := h3, toks := _ } : Shared)
  obtain ⟨f0, hf0⟩ : ∃ f0, h.objs.size = f0 := ⟨_, rfl⟩
  obtain ⟨af, haf⟩ : ∃ af, h1.objs.size = af := ⟨_, rfl⟩
  have q1 : f0 ≠ af := by rw [← haf]; exact hf0 ▸ Nat.ne_of_lt (Heap.lt_size (N1 _ (.head _)).1)
  have hR0 : ∀ q ∈ (al, ({ cls := .type "list", data := .seq (List.toArray lv) } : Obj)) :: lawCells L c5 c4 c3 c2 c1 ps, q.1 ≠ af ∧ q.1 ≠ f0 := fun q hq => by
    have l0 : q.1 < f0 := hf0 ▸ Heap.lt_size (N q (.tail _ hq)).1
    have l1 : f0 < af := haf ▸ (hf0 ▸ Heap.lt_size (N1 _ (.head _)).1)
    exact ⟨Nat.ne_of_lt (Nat.lt_trans l0 l1), Nat.ne_of_lt l0⟩
  have N3 : News h₀ L h3 ((af, { cls := .type "list", data := .seq (List.toArray [Value.ref f0]) }) :: (f0, { cls := .type "list", data := .seq (List.toArray []) }) :: (at', { cls := .type "list", data := .seq (List.toArray tv) nt }) :: (al, { cls := .type "list", data := .seq (List.toArray lv) }) :: lawCells L c5 c4 c3' c2 c1 ps) := by rw [← haf, ← hf0]; exact N3
  have d3' : c3'.data = .cell (some (.ref af)) := by rw [← haf]; exact d3'
  clear N2 F2 N1 F1 N F haf hf0
  obtain ⟨m3, F3, mt, mtp⟩ : ∃ m3, Fr h₀ L h3 m3 ∧ (∃ t, m3 (Str.ofString "total") = some (.int tot t)) ∧ m3 (Str.ofString "tape") = some (.ref at') := ⟨_, F3, mt, mtp⟩
  refine wpAny_execs_cons (wpAny_For ?_ (by intro _; rfl))
  refine wpAny_BinOp ?_
  refine wpAny_BinOp ?_
  refine wpAny_BinOp ?_
  refine Subscript_ ?_
  refine nameX_L F3 mtp ?_
  refine wpAny_Slice ?_
  refine evalPart_none_step ?_
  refine evalPart_some_step ?_
  refine wpAny_Constant_int ?_
  refine evalPart_none_step ?_
  have pick5 : slicePick (List.toArray tv) none (some 5) none = List.toArray (tv.take 5) := slicePick_upto' (List.toArray tv) 5
  have pickF : slicePick (List.toArray tv) (some 5) none none = List.toArray (tv.drop 5) := slicePick_from' (List.toArray tv) 5
  refine slice_list (items := List.toArray tv) F3 N3 (N3.isList (.tail _ (.tail _ (.head _)))) .none (.int 5 _) (fun h4 F4 N4 => ?_) (hsz := by rw [sizeLine_eq, List.size_toArray]; omega)
  rw [pick5] at N4
  show wpAny _ _ _ _ _ ({ s with heap := h4, toks := _ } : Shared)
  refine List_ ?_
  refine args_cons ?_
  refine wpAny_Constant_int ?_
  refine args_nil ?_
  refine newList_N F4 N4 (fun h5 F5 N5 => ?_) (by show 1 ≤ sizeLine; rw [sizeLine_eq]; decide)
  show wpAny _ _ _ _ _ ({ s with heap := h5, toks := _ } : Shared)
  refine add_lists_ints F5 N5 (N5.isList (.tail _ (.head _))) (N5.isList (.head _)) (hti.take 5) (.cons 0 _ .nil) (fun h6 F6 N6 hi6 => ?_) (by rw [sizeLine_eq, List.length_take]; show _ + 1 ≤ _; omega)
  show wpAny _ _ _ _ _ ({ s with heap := h6, toks := _ } : Shared)
  refine Subscript_ ?_
  refine nameX_L F6 mtp ?_
  refine wpAny_Slice ?_
  refine evalPart_some_step ?_
  refine wpAny_Constant_int ?_
  refine evalPart_none_step ?_
  refine evalPart_none_step ?_
  refine slice_list (items := List.toArray tv) F6 N6 (N6.isList (.tail _ (.tail _ (.tail _ (.tail _ (.tail _ (.head _))))))) (.int 5 _) .none (fun h7 F7 N7 => ?_) (hsz := by rw [sizeLine_eq, List.size_toArray]; omega)
  rw [pickF] at N7
  show wpAny _ _ _ _ _ ({ s with heap := h7, toks := _ } : Shared)
  refine add_lists_ints F7 N7 (N7.isList (.tail _ (.head _))) (N7.isList (.head _)) hi6 (hti.drop 5) (fun h8 F8 N8 hi8 => ?_) (by rw [sizeLine_eq]; simp; omega)
  show wpAny _ _ _ _ _ ({ s with heap := h8, toks := _ } : Shared)
  refine List_ ?_
  refine args_cons ?_
  refine wpAny_Constant_int ?_
  refine args_nil ?_
  refine newList_N F8 N8 (fun h9 F9 N9 => ?_) (by show 1 ≤ sizeLine; rw [sizeLine_eq]; decide)
  show wpAny _ _ _ _ _ ({ s with heap := h9, toks := _ } : Shared)
  refine add_lists_ints F9 N9 (N9.isList (.tail _ (.head _))) (N9.isList (.head _)) hi8 (.cons 0 _ .nil) (fun h10 F10 N10 hi10 => ?_) (by rw [sizeLine_eq]; simp; omega)
  show wpAny _ _ _ _ _ ({ s with heap := h10, toks := _ } : Shared)
  obtain ⟨ait, hait⟩ : ∃ ait, h9.objs.size = ait := ⟨_, rfl⟩
  obtain ⟨TT, hTT⟩ : ∃ TT, T8.take 5 ++ [0] ++ T8.drop 5 ++ [0] = TT := ⟨_, rfl⟩
  have haf' : af ≠ ait := by rw [← hait]; exact Nat.ne_of_lt (Heap.lt_size (N9 _ (.tail _ (.tail _ (.tail _ (.tail _ (.tail _ (.tail _ (.head _)))))))).1)
  have hf0' : f0 ≠ ait := by rw [← hait]; exact Nat.ne_of_lt (Heap.lt_size (N9 _ (.tail _ (.tail _ (.tail _ (.tail _ (.tail _ (.tail _ (.tail _ (.head _))))))))).1)
  have haL : ait ≠ L := by rw [← hait]; exact (N10 _ (.head _)).2.1
  have lit := N10.isList (.head _)
  have N11 : News h₀ L h10 ((af, { cls := .type "list", data := .seq (List.toArray (formRefs [(f0, [], 0)])) }) :: (formsAt [(f0, [], 0)] ++ (al, { cls := .type "list", data := .seq (List.toArray lv) }) :: lawCells L c5 c4 c3' c2 c1 ps)) := fun p hp => by
    rcases List.mem_cons.mp hp with rfl | hp
    · exact N10 (af, _) (.tail _ (.tail _ (.tail _ (.tail _ (.tail _ (.tail _ (.tail _ (.head _))))))))
    · rcases List.mem_cons.mp hp with rfl | hp
      · exact N10 (f0, _) (.tail _ (.tail _ (.tail _ (.tail _ (.tail _ (.tail _ (.tail _ (.tail _ (.head _)))))))))
      · exact N10 p (.tail _ (.tail _ (.tail _ (.tail _ (.tail _ (.tail _ (.tail _ (.tail _ (.tail _ (.tail _ hp))))))))))
  rw [hTT] at hi10
  rw [hait] at lit ⊢
  have hTl : TT.length = 10 := by rw [← hTT]; simp; omega
  generalize tv.take 5 ++ [Value.int 0 _] ++ tv.drop 5 ++ [Value.int 0 _] = itv at lit hi10
  have hitl : itv.length = 10 := hi10.length.trans hTl
  clear N10 N9 N8 N7 N6 N5 N4 N3 F9 F8 F7 F6 F5 F4 F3 hi8 hi6
  refine for_listX (FJ ((al, { cls := .type "list", data := .seq (List.toArray lv) }) :: lawCells L c5 c4 c3' c2 c1 ps) af ait tot TT) rfl lit haL F10 N11 ?_ ?_ ?_
  · refine ⟨0, [(f0, [], 0)], rfl, mt, .cons .nil .nil, Nat.le_refl _, by simp, haf', ?_, by simp, by simp, ?_⟩
    · intro f hf
      rw [List.mem_singleton.mp hf]
      exact ⟨hf0', q1⟩
    · intro q hq
      have a1 := apart_map (B := (al, ({ cls := .type "list", data := .seq (List.toArray lv) } : Obj)) :: lawCells L c5 c4 c3' c2 c1 ps) (fun q hq => (hR0 q hq).1) rfl q hq
      have a2 := apart_map (B := (al, ({ cls := .type "list", data := .seq (List.toArray lv) } : Obj)) :: lawCells L c5 c4 c3' c2 c1 ps) (fun q hq => (hR0 q hq).2) rfl q hq
      exact ⟨a1, fun f hf => by rw [List.mem_singleton.mp hf]; exact a2⟩
  · intro i v m₁ news₁ h' tk' own hv hJ hown hap hil hI F' N'
    have hi' : i < TT.length := by rw [hTl, ← hitl]; exact (List.getElem?_eq_some_iff.mp hv).1
    obtain ⟨tx, hx⟩ := ints_getD hi10 hi'
    rw [hx] at hv
    cases hv
    refine wpAny_mono (law2s (Q := fun _ _ => False) (I := h10.objs.size) X T hroom (.tail _ (.tail _ (.tail _ (.head _)))) d3' hil hI hi' (by omega) rfl hJ hown hap F' N') (fun f s₂ q => by cases f <;> first | exact q | exact q.elim) fun _ _ e => e
  · intro h' tk' m' news' hJ F' N'
    obtain ⟨nf, fs, rfl, mt, hP, _⟩ := hJ
    rw [hitl, ← hTl, List.take_length] at hP
    have hsp : splitZ TT = [T8.take 5, T8.drop 5, []] := by
      rw [← hTT]
      clear hP hTT hTl hi10 hti lit
      match T8, ht8 with
      | [a, b, c, d, e, f, g, h], _ =>
        have p0 : a ≠ 0 := hpos 0 (by decide)
        have p1 : b ≠ 0 := hpos 1 (by decide)
        have p2 : c ≠ 0 := hpos 2 (by decide)
        have p3 : d ≠ 0 := hpos 3 (by decide)
        have p4 : e ≠ 0 := hpos 4 (by decide)
        have p5 : f ≠ 0 := hpos 5 (by decide)
        have p6 : g ≠ 0 := hpos 6 (by decide)
        have p7 : h ≠ 0 := hpos 7 (by decide)
        simp [splitZ, p0, p1, p2, p3, p4, p5, p6, p7]
    rw [hsp] at hP
    obtain ⟨f0, f1, f2, rfl, a, b, c⟩ := paired3 hP
    exact K h' tk' m' c3' af f0.1 f1.1 f2.1 f0.2.1 f1.2.1 f2.2.1 f0.2.2 f1.2.2 f2.2.2 nf F' N' d3' mt a b
end Mine
end

section
open PySem PySem.W PySem.Calls PySem.Spec PyProof.Rows
set_option maxRecDepth 100000
namespace Mine

def forB (st : Stmt) : List Stmt := match st with
  | .For _ _ b _ _ => b
  | _ => []
/-- the inner walk of the wides -/
noncomputable def lawIn8 : List Stmt := forB ((lawFor 8).getD 2 default)
def placeOf (tot : Int) (size k : Nat) : Nat := ((tot.fdiv 45 + (k : Int) * (1 + (tot.fdiv 225).fmod ((size : Int) - 1))).fmod (size : Int)).toNat
def wstep (tot : Int) (size : Nat) (d : List Int) (k : Nat) : List Int := d.take (placeOf tot size k) ++ [256] ++ d.drop (placeOf tot size k + 1)
def wideAt (tot : Int) (d0 : List Int) : Nat → List Int
  | 0 => d0
  | k + 1 => wstep tot d0.length (wideAt tot d0 k) k
def widesOf (tot : Int) (d0 : List Int) : List (List Int) := (List.range (d0.length + 1)).map (wideAt tot d0)
theorem placeOf_eq {tot : Int} {size k : Nat} (h : 0 < size) : (tot.fdiv 45 + (k : Int) * (1 + (tot.fdiv 225).fmod ((size : Int) - 1))).fmod (size : Int) = ((placeOf tot size k : Nat) : Int) := by
  unfold placeOf
  rw [Int.toNat_of_nonneg]
  rw [Int.fmod_eq_emod_of_nonneg _ (by omega)]
  exact Int.emod_nonneg _ (by omega)
theorem placeOf_lt {tot : Int} {size k : Nat} (h : 0 < size) : placeOf tot size k < size := by
  have := placeOf_eq (tot := tot) (k := k) h
  rw [Int.fmod_eq_emod_of_nonneg _ (by omega)] at this
  have := Int.emod_lt_of_pos (tot.fdiv 45 + (k : Int) * (1 + (tot.fdiv 225).fmod ((size : Int) - 1))) (b := size) (by omega)
  omega
theorem wideAt_length {tot : Int} {d0 : List Int} (h : 0 < d0.length) : ∀ k, (wideAt tot d0 k).length = d0.length
  | 0 => rfl
  | k + 1 => by
    have := placeOf_lt (tot := tot) (k := k) h
    have ih := wideAt_length (tot := tot) h k
    simp [wideAt, wstep, ih]
    omega
/-- a row of lists in the ledger -/
def isW (S : List (Addr × Obj)) (r : Value) (d : List Int) : Prop := ∃ a vs n, r = Value.ref a ∧ (a, ({ cls := .type "list", data := .seq (List.toArray vs) n } : Obj)) ∈ S ∧ IntsAre vs d
theorem isW_mono {S S' : List (Addr × Obj)} (h : ∀ p ∈ S, p ∈ S') {rs : List Value} {ds : List (List Int)} (hp : Paired (isW S) rs ds) : Paired (isW S') rs ds := by
  induction hp with
  | nil => exact .nil
  | cons a _ ih =>
    obtain ⟨a, vs, n, e, hm, hi⟩ := a
    exact .cons ⟨a, vs, n, e, h _ hm, hi⟩ ih
/-- what stands between the turns of the inner walk -/
def WJ2 (I0 : Addr) (own R : List (Addr × Obj)) (wa : Addr) (tot : Int) (sz : Nat) (WD0 : List (List Int)) (d0 : List Int) (i : Nat) (m' : Str → Option Value) (news' : List (Addr × Obj)) : Prop :=
  ∃ (nw : Nat) (rs : List Value) (ext : List (Addr × Obj)) (a : Addr) (vs : List Value) (n : Nat), news' = own ++ (wa, { cls := .type "list", data := .seq (List.toArray rs) nw }) :: (ext ++ R) ∧
    (∃ t, m' (Str.ofString "total") = some (.int tot t)) ∧ m' (Str.ofString "wides") = some (.ref wa) ∧ (∃ t, m' (Str.ofString "size") = some (.int (sz : Nat) t)) ∧ m' (Str.ofString "wide") = some (.ref a) ∧
    (a, ({ cls := .type "list", data := .seq (List.toArray vs) n } : Obj)) ∈ ext ++ R ∧ IntsAre vs (wideAt tot d0 i) ∧ Paired (isW (ext ++ R)) rs (WD0 ++ (List.range (i + 1)).map (wideAt tot d0)) ∧ (∀ q ∈ ext ++ R, q.1 ≠ wa) ∧ (∀ q ∈ ext, isSeqB q.2 = true) ∧ (∀ q ∈ ext, q.1 ≠ I0)

theorem small_mul {i : Nat} (hi : i < 8) (b : Int) : IntMulOk (i : Int) b := by
  refine IntMulOk.of_left ?_
  have : i = 0 ∨ i = 1 ∨ i = 2 ∨ i = 3 ∨ i = 4 ∨ i = 5 ∨ i = 6 ∨ i = 7 := by omega
  rcases this with rfl | rfl | rfl | rfl | rfl | rfl | rfl | rfl <;> decide +kernel

set_option maxHeartbeats 2000000 in
theorem law3s {w : World} {dp un : Nat} {fr : Option (List Env)} {gd : Option (List Code)} {s : Shared} {h₀ h : Heap} {L fa : Addr} {m1 : Str → Option Value} {tk : Nat} {Q : Flow → Shared → Prop}
    {wa I I0 : Addr} {own R ownI news1 : List (Addr × Obj)} {tot : Int} {sz i : Nat} {t : Tok} {WD0 : List (List Int)} {d0 : List Int}
    (hown : ∀ p ∈ own, p.1 ≠ wa) (hownI : ∀ p ∈ ownI, p.1 = I) (hap : ∀ p ∈ news1, p.1 ≠ I) (hI : ∃ o, (I, o) ∈ ownI) (hi : i < sz) (hs2 : 2 ≤ sz) (hs8 : sz ≤ 8) (hd0 : d0.length = sz) (hW0 : WD0.length ≤ 8)
    (hI0 : ∃ o, (I0, o) ∈ own) (hJ : WJ2 I0 own R wa tot sz WD0 d0 i m1 news1)
    (F1 : Fr h₀ L h (fun y => if y = Str.ofString "k" then some (.int (i : Nat) t) else m1 y)) (N1 : News h₀ L h (ownI ++ news1)) :
    wpAny (model PySem.Challenge.rw_rw0040_01.row.prog w) { handled := none, depth := dp, frames := fr, guards := gd, units := un } (execs lawIn8 (lawEnv L fa)) (fun f s₂ => match f with
        | .ret v => Q (.ret v) s₂
        | .brk => Q .next s₂
        | _ => TurnedA h₀ L I ownI (WJ2 I0 own R wa tot sz WD0 d0 (i + 1)) s s₂) (fun _ _ => False) { s with heap := h, toks := tk } := by
  obtain ⟨nw, rs, ext, a, vs, n, rfl, ⟨tt, mt⟩, mws, ⟨tsz, msz⟩, mw, ham, hvs, hP, hne, hsq, hoe⟩ := hJ
  have hvl : vs.length = sz := by rw [hvs.length, wideAt_length (by omega), hd0]
  have hpl := placeOf_lt (tot := tot) (size := sz) (k := i) (by omega)
  have nin : ∀ {p : Addr × Obj}, p ∈ (wa, ({ cls := .type "list", data := .seq (List.toArray rs) nw } : Obj)) :: (ext ++ R) → p ∈ ownI ++ (own ++ (wa, { cls := .type "list", data := .seq (List.toArray rs) nw }) :: (ext ++ R)) := fun hp => List.mem_append_right _ (List.mem_append_right _ hp)
  refine wpAny_execs_cons ?_
  refine wpAny_Assign_Name ?_
  refine wpAny_BinOp ?_
  refine wpAny_BinOp ?_
  refine wpAny_BinOp ?_
  refine nameX_L F1 mt ?_
  refine wpAny_Constant_int ?_
  refine floordiv_int (by decide) ?_
  refine gtok (s := s) (h := h) fun ta => ?_
  refine wpAny_BinOp ?_
  refine nameX_L F1 rfl ?_
  refine wpAny_BinOp ?_
  refine wpAny_Constant_int ?_
  refine wpAny_BinOp ?_
  refine wpAny_BinOp ?_
  refine nameX_L F1 mt ?_
  refine wpAny_Constant_int ?_
  refine floordiv_int (by decide) ?_
  refine gtok (s := s) (h := h) fun tb => ?_
  refine wpAny_BinOp ?_
  refine nameX_L F1 msz ?_
  refine wpAny_Constant_int ?_
  refine PyProof.Rows.sub_int ?_
  refine gtok (s := s) (h := h) fun tc => ?_
  refine PyProof.Rows.mod_int (by omega) ?_
  refine PyProof.Rows.add_int ?_
  refine gtok (s := s) (h := h) fun te => ?_
  refine mul_int ?_ (small_mul (by omega) _)
  refine PyProof.Rows.add_int ?_
  refine nameX_L F1 msz ?_
  refine PyProof.Rows.mod_int (by omega) ?_
  refine gtok (s := s) (h := h) fun td => ?_
  refine storeX_L F1 N1 fun h2 F2 N2 => ?_
  have hpe := placeOf_eq (tot := tot) (size := sz) (k := i) (by omega)
  obtain ⟨m2, F2, mp, mt2, mws2, msz2, mw2, mk2⟩ : ∃ m2, Fr h₀ L h2 m2 ∧ (∃ t, m2 (Str.ofString "place") = some (.int ((placeOf tot sz i : Nat) : Int) t)) ∧ m2 (Str.ofString "total") = some (.int tot tt) ∧ m2 (Str.ofString "wides") = some (.ref wa) ∧ m2 (Str.ofString "size") = some (.int (sz : Nat) tsz) ∧ m2 (Str.ofString "wide") = some (.ref a) ∧ m2 (Str.ofString "k") = some (.int (i : Nat) t) :=
    ⟨_, F2, ⟨_, by rw [← hpe]; rfl⟩, mt, mws, msz, mw, rfl⟩
  refine gtok (s := s) (h := h2) fun tf => ?_
  clear F1 mt msz mw mws
  obtain ⟨tp, mp⟩ := mp
  obtain ⟨pl, hpl'⟩ : ∃ pl, placeOf tot sz i = pl := ⟨_, rfl⟩
  rw [hpl'] at mp hpl
  have pickA : slicePick (List.toArray vs) none (some (pl : Int)) none = List.toArray (vs.take pl) := slicePick_upto' (List.toArray vs) pl
  have pickB : slicePick (List.toArray vs) (some ((pl + 1 : Nat) : Int)) none none = List.toArray (vs.drop (pl + 1)) := slicePick_from' (List.toArray vs) (pl + 1)
  have ham2 : (a, ({ cls := .type "list", data := .seq (List.toArray vs) n } : Obj)) ∈ ownI ++ (own ++ (wa, { cls := .type "list", data := .seq (List.toArray rs) nw }) :: (ext ++ R)) := nin (.tail _ ham)
  refine wpAny_execs_cons ?_
  refine wpAny_Assign_Name ?_
  refine wpAny_BinOp ?_
  refine wpAny_BinOp ?_
  refine Subscript_ ?_
  refine nameX_L F2 mw2 ?_
  refine wpAny_Slice ?_
  refine evalPart_none_step ?_
  refine evalPart_some_step ?_
  refine nameX_L F2 mp ?_
  refine evalPart_none_step ?_
  refine slice_list (items := List.toArray vs) F2 N2 (N2.isList ham2) .none (.int _ _) (fun h3 F3 N3 => ?_) (hsz := by rw [sizeLine_eq, List.size_toArray]; omega)
  rw [pickA] at N3
  refine gtok (s := s) (h := h3) fun tg => ?_
  refine List_ ?_
  refine args_cons ?_
  refine wpAny_Constant_int ?_
  refine args_nil ?_
  refine newList_N F3 N3 (fun h4 F4 N4 => ?_) (by show 1 ≤ sizeLine; rw [sizeLine_eq]; decide)
  refine gtok (s := s) (h := h4) fun th => ?_
  refine add_lists_ints F4 N4 (N4.isList (.tail _ (.head _))) (N4.isList (.head _)) (hvs.take pl) (.cons 256 _ .nil) (fun h5 F5 N5 hi5 => ?_) (by rw [sizeLine_eq, List.length_take]; show _ + 1 ≤ _; omega)
  refine gtok (s := s) (h := h5) fun ti => ?_
  refine Subscript_ ?_
  refine nameX_L F5 mw2 ?_
  refine wpAny_Slice ?_
  refine evalPart_some_step ?_
  refine wpAny_BinOp ?_
  refine nameX_L F5 mp ?_
  refine wpAny_Constant_int ?_
  refine PyProof.Rows.add_int ?_
  refine evalPart_none_step ?_
  refine evalPart_none_step ?_
  rw [show ((pl : Nat) : Int) + 1 = ((pl + 1 : Nat) : Int) by omega]
  refine slice_list (items := List.toArray vs) F5 N5 (N5.isList (.tail _ (.tail _ (.tail _ ham2)))) (.int _ _) .none (fun h6 F6 N6 => ?_) (hsz := by rw [sizeLine_eq, List.size_toArray]; omega)
  rw [pickB] at N6
  refine gtok (s := s) (h := h6) fun tj => ?_
  refine add_lists_ints F6 N6 (N6.isList (.tail _ (.head _))) (N6.isList (.head _)) hi5 (hvs.drop (pl + 1)) (fun h7 F7 N7 hi7 => ?_) (by rw [sizeLine_eq]; simp [wideAt_length (show 0 < d0.length by omega)]; omega)
  refine gtok (s := s) (h := h7) fun tl => ?_
  obtain ⟨an, han⟩ : ∃ an, h6.objs.size = an := ⟨_, rfl⟩
  have old : ∀ q ∈ ownI ++ (own ++ (wa, ({ cls := .type "list", data := .seq (List.toArray rs) nw } : Obj)) :: (ext ++ R)), q.1 ≠ an := fun q hq e => absurd (Heap.lt_size (N6 q (.tail _ (.tail _ (.tail _ (.tail _ hq))))).1) (by rw [e, han]; exact Nat.lt_irrefl _)
  have haI : an ≠ I := fun e => by
    obtain ⟨o, ho⟩ := hI
    exact old _ (List.mem_append_left _ ho) e.symm
  have hawa : wa ≠ an := old _ (nin (.head _))
  have hwaI : wa ≠ I := hap _ (List.mem_append_right _ (.head _))
  rw [han] at N7 ⊢
  have hwe : wideAt tot d0 (i + 1) = (wideAt tot d0 i).take pl ++ [256] ++ (wideAt tot d0 i).drop (pl + 1) := by rw [wideAt, wstep, hd0, hpl']
  rw [← hwe] at hi7
  obtain ⟨nv, hnv, N7⟩ : ∃ nv, IntsAre nv (wideAt tot d0 (i + 1)) ∧ News h₀ L h7 ((an, { cls := .type "list", data := .seq (List.toArray nv) }) :: (ownI ++ (own ++ (wa, { cls := .type "list", data := .seq (List.toArray rs) nw }) :: (ext ++ R)))) :=
    ⟨_, hi7, fun p hp => by
      rcases List.mem_cons.mp hp with rfl | hp
      · exact N7 _ (.head _)
      · exact N7 p (.tail _ (.tail _ (.tail _ (.tail _ (.tail _ hp)))))⟩
  refine storeX_L F7 N7 fun h8 F8 N8 => ?_
  refine gtok (s := s) (h := h8) fun tm => ?_
  have hrl : rs.length ≤ 20 := by
    have := paired_len hP
    rw [List.length_append, List.length_map, List.length_range] at this
    omega
  refine wpAny_execs_cons ?_
  refine wpAny_Expr ?_
  refine MethodCall_ ?_
  refine nameX_L F8 mws2 ?_
  refine method_l PySem.F.slot_list_append PySem.F.type_list_append (N8.get (.tail _ (nin (.head _)))) ?_
  refine callWith_method1 ?_
  refine args_cons ?_
  refine nameX_L F8 rfl ?_
  refine args_nil ?_
  refine append_R F8 N8 (.tail _ (nin (.head _))) (by omega) (fun h9 F9 N9 D9 => ?_)
  refine gtok (s := s) (h := h9) fun tn => ?_
  refine wpAny_execs_nil ?_
  refine ⟨h9, _, _, own ++ (wa, { cls := .type "list", data := .seq (List.toArray (rs ++ [Value.ref an])) (nw + 1) }) :: (((an, { cls := .type "list", data := .seq (List.toArray nv) }) :: ext) ++ R), rfl, F9, ?_, ?_, nw + 1, rs ++ [Value.ref an], (an, { cls := .type "list", data := .seq (List.toArray nv) }) :: ext, an, nv, 0, rfl, ⟨_, mt2⟩, mws2, ⟨_, msz2⟩, rfl, .head _, hnv, ?_, ?_, ?_, ?_⟩
  · intro p hp
    rcases List.mem_append.mp hp with hp | hp
    · exact N9 p (.tail _ (List.mem_append_left _ hp)) (by rw [hownI p hp]; exact Ne.symm hwaI)
    · rcases List.mem_append.mp hp with hp | hp
      · exact N9 p (.tail _ (List.mem_append_right _ (List.mem_append_left _ hp))) (hown p hp)
      · rcases List.mem_cons.mp hp with rfl | hp
        · exact D9
        · rcases List.mem_cons.mp hp with rfl | hp
          · exact N9 (an, _) (.head _) (Ne.symm hawa)
          · exact N9 p (.tail _ (nin (.tail _ hp))) (hne p hp)
  · intro p hp
    rcases List.mem_append.mp hp with hp | hp
    · exact hap p (List.mem_append_left _ hp)
    · rcases List.mem_cons.mp hp with rfl | hp
      · exact hwaI
      · rcases List.mem_cons.mp hp with rfl | hp
        · exact haI
        · exact hap p (List.mem_append_right _ (.tail _ hp))
  · rw [List.range_succ, List.map_append, ← List.append_assoc]
    exact paired_append (isW_mono (fun p hp => .tail _ hp) hP) (.cons ⟨an, nv, 0, rfl, .head _, hnv⟩ .nil)
  · intro q hq
    rcases List.mem_cons.mp hq with rfl | hq
    · exact Ne.symm hawa
    · exact hne q hq
  · intro q hq
    rcases List.mem_cons.mp hq with rfl | hq
    · rfl
    · exact hsq q hq
  · intro q hq
    rcases List.mem_cons.mp hq with rfl | hq
    · obtain ⟨o, ho⟩ := hI0
      exact Ne.symm (old _ (List.mem_append_right _ (List.mem_append_left _ ho)))
    · exact hoe q hq
end Mine
end

section
open PySem PySem.W PySem.Calls PySem.Spec PyProof.Rows
set_option maxRecDepth 100000
namespace Mine

/-- what stands between the forms -/
def WJ1 (R : List (Addr × Obj)) (wa : Addr) (tot : Int) (WD : List (List Int)) (m' : Str → Option Value) (news' : List (Addr × Obj)) : Prop :=
  ∃ (nw : Nat) (rs : List Value) (ext : List (Addr × Obj)), news' = (wa, { cls := .type "list", data := .seq (List.toArray rs) nw }) :: (ext ++ R) ∧
    (∃ t, m' (Str.ofString "total") = some (.int tot t)) ∧ m' (Str.ofString "wides") = some (.ref wa) ∧ Paired (isW (ext ++ R)) rs WD ∧ (∀ q ∈ ext ++ R, q.1 ≠ wa) ∧ (∀ q ∈ ext, isSeqB q.2 = true)

set_option maxHeartbeats 2000000 in
theorem law3o {w : World} {dp un : Nat} {fr : Option (List Env)} {gd : Option (List Code)} {s : Shared} {h₀ h : Heap} {L fa : Addr} {m1 : Str → Option Value} {tk : Nat} {Q : Flow → Shared → Prop} {loose : List Str} {mean : ExcName → Option Value} {mg mb : Str → Option Value}
    (X : Frag.In (hd.heap_39 w.params) h₀) {pv : Program} (T : Top pv loose mean mg mb h₀)
    {wa I f : Addr} {own R news1 : List (Addr × Obj)} {tot : Int} {u : List Value} {nu : Nat} {WD0 : List (List Int)} {d0 : List Int}
    (hown : ∀ p ∈ own, p.1 ≠ wa) (hownI : ∃ o, (I, o) ∈ own) (hap : ∀ p ∈ news1, p.1 ≠ I) (hd2 : 2 ≤ d0.length) (hd8 : d0.length ≤ 8) (hW0 : WD0.length ≤ 7)
    (hf : (f, ({ cls := .type "list", data := .seq (List.toArray u) nu } : Obj)) ∈ R) (hu : IntsAre u d0)
    (hJ : WJ1 R wa tot WD0 m1 news1)
    (F1 : Fr h₀ L h (fun y => if y = Str.ofString "form" then some (.ref f) else m1 y)) (N1 : News h₀ L h (own ++ news1)) :
    wpAny (model PySem.Challenge.rw_rw0040_01.row.prog w) { handled := none, depth := dp, frames := fr, guards := gd, units := un } (execs (lawFor 8) (lawEnv L fa)) (fun f s₂ => match f with
        | .ret v => Q (.ret v) s₂
        | .brk => Q .next s₂
        | _ => TurnedA h₀ L I own (WJ1 R wa tot (WD0 ++ widesOf tot d0)) s s₂) (fun _ _ => False) { s with heap := h, toks := tk } := by
  revert X
  k_fill
  intro X
  have TR := topRead_of T
  have gR : nsIn (hd.heap_39 w.params) mainGlobals (Str.ofString "range") = some none := by k_is
  have bR : bootBuiltins (Str.ofString "range") = some (.type "range") := by boot_fast
  have gL : nsIn (hd.heap_39 w.params) mainGlobals (Str.ofString "len") = some none := by k_is
  have bL : bootBuiltins (Str.ofString "len") = some (.builtin "len") := by boot_fast
  obtain ⟨nw, rs, ext, rfl, ⟨tt, mt⟩, mws, hP, hne, hsq⟩ := hJ
  have hul : u.length = d0.length := hu.length
  have fm : (f, ({ cls := .type "list", data := .seq (List.toArray u) nu } : Obj)) ∈ own ++ (wa, ({ cls := .type "list", data := .seq (List.toArray rs) nw } : Obj)) :: (ext ++ R) := List.mem_append_right _ (.tail _ (List.mem_append_right _ hf))
  refine wpAny_execs_cons ?_
  refine Assign_Tuple_swapped (names := [Str.ofString "wide", Str.ofString "size"]) ?_
  refine Tuple_ ?_
  refine args_cons ?_
  refine nameX_L F1 rfl ?_
  refine args_cons ?_
  refine Call_ ?_
  refine nameX_B F1 X TR gL bL (by decide) ?_
  refine PyProof.Rows.callWith_builtin1 ?_
  refine args_cons ?_
  refine nameX_L F1 rfl ?_
  refine args_nil ?_
  refine lenG (N1.isList fm) (by omega) ?_
  refine args_nil ?_
  rw [hul]
  refine newTuple_N F1 N1 (fun h2 F2 N2 => ?_) (by show 2 ≤ sizeLine; rw [sizeLine_eq]; decide)
  refine unpackItemsN_ F2 N2 (N2.isTup (.head _)) rfl rfl fun h3 F3 N3 => ?_
  refine gtok (s := s) (h := h3) fun ta => ?_
  refine assignInOrder_cons ?_
  refine bindName_ ?_
  refine storeX_L F3 N3 fun h4 F4 N4 => ?_
  refine assignInOrder_cons ?_
  refine bindName_ ?_
  refine storeX_L F4 N4 fun h5 F5 N5 => ?_
  refine assignInOrder_nil ?_
  refine gtok (s := s) (h := h5) fun tb => ?_
  have hrl : rs.length ≤ 7 := by rw [paired_len hP]; exact hW0
  have wam : (wa, ({ cls := .type "list", data := .seq (List.toArray rs) nw } : Obj)) ∈ own ++ (wa, ({ cls := .type "list", data := .seq (List.toArray rs) nw } : Obj)) :: (ext ++ R) := List.mem_append_right _ (.head _)
  obtain ⟨m5, F5, mt5, mws5, msz5, mw5⟩ : ∃ m5, Fr h₀ L h5 m5 ∧ (∃ t, m5 (Str.ofString "total") = some (.int tot t)) ∧ m5 (Str.ofString "wides") = some (.ref wa) ∧ (∃ t, m5 (Str.ofString "size") = some (.int (d0.length : Nat) t)) ∧ m5 (Str.ofString "wide") = some (.ref f) := ⟨_, F5, ⟨_, mt⟩, mws, ⟨_, rfl⟩, rfl⟩
  have N5 : News h₀ L h5 (own ++ (wa, { cls := .type "list", data := .seq (List.toArray rs) nw }) :: (ext ++ R)) := fun p hp => N5 p (.tail _ hp)
  clear F1 F2 F3 F4 N1 N2 N3 N4
  refine wpAny_execs_cons ?_
  refine wpAny_Expr ?_
  refine MethodCall_ ?_
  refine nameX_L F5 mws5 ?_
  refine method_l PySem.F.slot_list_append PySem.F.type_list_append (N5.get wam) ?_
  refine callWith_method1 ?_
  refine args_cons ?_
  refine nameX_L F5 mw5 ?_
  refine args_nil ?_
  refine append_R F5 N5 wam (by omega) (fun h6 F6 N6 D6 => ?_)
  refine gtok (s := s) (h := h6) fun tc => ?_
  have N6 : News h₀ L h6 (own ++ (wa, { cls := .type "list", data := .seq (List.toArray (rs ++ [Value.ref f])) (nw + 1) }) :: (ext ++ R)) := fun p hp => by
    rcases List.mem_append.mp hp with hp | hp
    · exact N6 p (List.mem_append_left _ hp) (hown p hp)
    · rcases List.mem_cons.mp hp with rfl | hp
      · exact D6
      · exact N6 p (List.mem_append_right _ (.tail _ hp)) (hne p hp)
  have hwaI : wa ≠ I := hap (wa, _) (.head _)
  obtain ⟨tsz, msz5⟩ := msz5
  refine wpAny_execs_cons (wpAny_For ?_ (by intro _; rfl))
  refine Call_ ?_
  refine nameX_B F6 X TR gR bR (by decide) ?_
  refine Pv.callWith_type1 ?_
  refine args_cons ?_
  refine nameX_L F6 msz5 ?_
  refine args_nil ?_
  refine range1_rows F6 N6 fun h7 tk7 t1 u1 v1 hrg F7 N7 hk7 => ?_
  refine gtok (s := s) (h := h7) fun td => ?_
  obtain ⟨m7, F7, mt7, mws7, msz7, mw7⟩ : ∃ m7, Fr h₀ L h7 m7 ∧ (∃ t, m7 (Str.ofString "total") = some (.int tot t)) ∧ m7 (Str.ofString "wides") = some (.ref wa) ∧ (∃ t, m7 (Str.ofString "size") = some (.int (d0.length : Nat) t)) ∧ m7 (Str.ofString "wide") = some (.ref f) := ⟨_, F7, mt5, mws5, ⟨_, msz5⟩, mw5⟩
  refine for_rangeX (n := d0.length) (WJ2 I own R wa tot d0.length WD0 d0) rfl hrg (range_small _ (by omega)) (range_size _) F7 N7 ?_ ?_ ?_
  · refine ⟨nw + 1, rs ++ [Value.ref f], ext, f, u, nu, rfl, mt7, mws7, msz7, mw7, List.mem_append_right _ hf, hu, ?_, hne, hsq, fun q hq => hap q (.tail _ (List.mem_append_left _ hq))⟩
    exact paired_append hP (.cons ⟨f, u, nu, rfl, List.mem_append_right _ hf, hu⟩ .nil)
  · intro i t m₁ news₁ h' tk' ownI hi hJ hoI hap' hI' F' N'
    refine wpAny_mono (law3s (Q := fun _ _ => False) (I := h7.objs.size) hown hoI hap' hI' hi hd2 hd8 rfl (by omega) hownI hJ (t := t) (by rw [← Int.zero_add ((i : Nat) : Int)]; exact F') N') (fun f s₂ q => by cases f <;> first | exact q | exact q.elim) fun _ _ e => e
  · rintro h' tk' m' news' ⟨nw', rs', ext', a, vs, n, rfl, mt', mws', msz', mw', ham, hvs, hP', hne', hsq', hoe⟩ F' N'
    refine wpAny_execs_nil ⟨h', _, m', (wa, { cls := .type "list", data := .seq (List.toArray rs') nw' }) :: (ext' ++ R), rfl, F', N', fun p hp => ?_, nw', rs', ext', rfl, mt', mws', hP', hne', hsq'⟩
    rcases List.mem_cons.mp hp with rfl | hp
    · exact hwaI
    · rcases List.mem_append.mp hp with hp | hp
      · exact hoe p hp
      · exact hap p (.tail _ (List.mem_append_right _ hp))

set_option maxHeartbeats 2000000 in
theorem law3 {w : World} {dp un : Nat} {fr : Option (List Env)} {gd : Option (List Code)} {s : Shared} {h₀ h : Heap} {L fa : Addr} {m : Str → Option Value} {tk : Nat} {c5 c4 c3 c2 c1 : Obj} {ps : Array Value} {loose : List Str} {mean : ExcName → Option Value} {mg mb : Str → Option Value} {Q : Flow → Shared → Prop}
    (X : Frag.In (hd.heap_39 w.params) h₀) {pv : Program} (T : Top pv loose mean mg mb h₀)
    {af f0 f1 f2 al : Addr} {u0 u1 u2 lv : List Value} {n0 n1 n2 nf : Nat} {d0 d1 : List Int} {tot : Int} (F : Fr h₀ L h m)
    (N : News h₀ L h ((af, { cls := .type "list", data := .seq (List.toArray [Value.ref f0, Value.ref f1, Value.ref f2]) nf }) :: (f0, { cls := .type "list", data := .seq (List.toArray u0) n0 }) :: (f1, { cls := .type "list", data := .seq (List.toArray u1) n1 }) :: (f2, { cls := .type "list", data := .seq (List.toArray u2) n2 }) :: (al, { cls := .type "list", data := .seq (List.toArray lv) }) :: lawCells L c5 c4 c3 c2 c1 ps))
    (d3 : c3.data = .cell (some (.ref af))) (mt : ∃ t, m (Str.ofString "total") = some (.int tot t)) (hu0 : IntsAre u0 d0) (hu1 : IntsAre u1 d1) (hl0 : d0.length = 5) (hl1 : d1.length = 3)
    (K : ∀ h' tk' m' (wa : Addr) (rs : List Value) (nw : Nat) (ext : List (Addr × Obj)), Fr h₀ L h' m' →
      News h₀ L h' ((wa, { cls := .type "list", data := .seq (List.toArray rs) nw }) :: (ext ++ (af, { cls := .type "list", data := .seq (List.toArray [Value.ref f0, Value.ref f1, Value.ref f2]) nf }) :: (f0, { cls := .type "list", data := .seq (List.toArray u0) n0 }) :: (f1, { cls := .type "list", data := .seq (List.toArray u1) n1 }) :: (f2, { cls := .type "list", data := .seq (List.toArray u2) n2 }) :: (al, { cls := .type "list", data := .seq (List.toArray lv) }) :: lawCells L c5 c4 c3 c2 c1 ps)) →
      m' (Str.ofString "wides") = some (.ref wa) → Paired (isW (ext ++ (af, { cls := .type "list", data := .seq (List.toArray [Value.ref f0, Value.ref f1, Value.ref f2]) nf }) :: (f0, { cls := .type "list", data := .seq (List.toArray u0) n0 }) :: (f1, { cls := .type "list", data := .seq (List.toArray u1) n1 }) :: (f2, { cls := .type "list", data := .seq (List.toArray u2) n2 }) :: (al, { cls := .type "list", data := .seq (List.toArray lv) }) :: lawCells L c5 c4 c3 c2 c1 ps)) rs (widesOf tot d0 ++ widesOf tot d1) →
      (∀ q ∈ ext, isSeqB q.2 = true) →
      wpAny (model PySem.Challenge.rw_rw0040_01.row.prog w) { handled := none, depth := dp, frames := fr, guards := gd, units := un } (execs (lawRest 9) (lawEnv L fa)) Q (fun _ _ => False) { s with heap := h', toks := tk' }) :
    wpAny (model PySem.Challenge.rw_rw0040_01.row.prog w) { handled := none, depth := dp, frames := fr, guards := gd, units := un } (execs (lawRest 7) (lawEnv L fa)) Q (fun _ _ => False) { s with heap := h, toks := tk } := by
  obtain ⟨R, hR⟩ : ∃ R, (af, ({ cls := .type "list", data := .seq (List.toArray [Value.ref f0, Value.ref f1, Value.ref f2]) nf } : Obj)) :: (f0, { cls := .type "list", data := .seq (List.toArray u0) n0 }) :: (f1, { cls := .type "list", data := .seq (List.toArray u1) n1 }) :: (f2, { cls := .type "list", data := .seq (List.toArray u2) n2 }) :: (al, { cls := .type "list", data := .seq (List.toArray lv) }) :: lawCells L c5 c4 c3 c2 c1 ps = R := ⟨_, rfl⟩
  have ma : (af, ({ cls := .type "list", data := .seq (List.toArray [Value.ref f0, Value.ref f1, Value.ref f2]) nf } : Obj)) ∈ R := by rw [← hR]; exact .head _
  have m0 : (f0, ({ cls := .type "list", data := .seq (List.toArray u0) n0 } : Obj)) ∈ R := by rw [← hR]; exact .tail _ (.head _)
  have m1 : (f1, ({ cls := .type "list", data := .seq (List.toArray u1) n1 } : Obj)) ∈ R := by rw [← hR]; exact .tail _ (.tail _ (.head _))
  have m3 : (L + 1 + 1 + 1, c3) ∈ R := by rw [← hR]; exact .tail _ (.tail _ (.tail _ (.tail _ (.tail _ (.tail _ (.tail _ (.head _)))))))
  rw [hR] at N
  simp only [hR] at K
  clear hR
  refine wpAny_execs_cons ?_
  refine wpAny_Assign_Name ?_
  refine List_ ?_
  refine args_nil ?_
  refine newList_N F N (fun h2 F2 N2 => ?_) (Nat.zero_le _)
  obtain ⟨wa, hwa⟩ : ∃ wa, h.objs.size = wa := ⟨_, rfl⟩
  have hRw : ∀ q ∈ R, q.1 ≠ wa := fun q hq => hwa ▸ Nat.ne_of_lt (Heap.lt_size (N q hq).1)
  rw [hwa] at N2 ⊢
  refine storeX_L F2 N2 fun h3 F3 N3 => ?_
  refine gtok (s := s) (h := h3) fun ta => ?_
  obtain ⟨m3', F3, mt3, mws3⟩ : ∃ m3, Fr h₀ L h3 m3 ∧ (∃ t, m3 (Str.ofString "total") = some (.int tot t)) ∧ m3 (Str.ofString "wides") = some (.ref wa) := ⟨_, F3, mt, rfl⟩
  refine wpAny_execs_cons (wpAny_For ?_ (by intro _; rfl))
  refine Subscript_ ?_
  refine nameX_C N3 (c := L + 1 + 1 + 1) rfl (.tail _ m3) d3 ?_
  refine wpAny_Slice ?_
  refine evalPart_none_step ?_
  refine evalPart_some_step ?_
  refine wpAny_Constant_int ?_
  refine evalPart_none_step ?_
  refine slice_list (items := List.toArray [Value.ref f0, Value.ref f1, Value.ref f2]) F3 N3 (N3.isList (.tail _ ma)) .none (.int 2 _) (fun h4 F4 N4 => ?_) (hsz := by rw [sizeLine_eq, List.size_toArray]; show 3 ≤ _; decide)
  have pick2 : slicePick (List.toArray [Value.ref f0, Value.ref f1, Value.ref f2]) none (some 2) none = List.toArray [Value.ref f0, Value.ref f1] := slicePick_upto' (List.toArray [Value.ref f0, Value.ref f1, Value.ref f2]) 2
  rw [pick2] at N4
  refine gtok (s := s) (h := h4) fun tb => ?_
  obtain ⟨ai, hai⟩ : ∃ ai, h3.objs.size + 1 = ai := ⟨_, rfl⟩
  have hwai : wa ≠ ai := by
    have : wa < h3.objs.size := Heap.lt_size (N3 _ (.head _)).1
    rw [← hai]
    exact Nat.ne_of_lt (Nat.lt_succ_of_lt this)
  rw [show ({ s with heap := h3, toks := _ } : Shared).heap.objs.size + 1 = ai from hai] at N4 ⊢
  have haiL : ai ≠ L := (N4 _ (.head _)).2.1
  refine for_listX (fun i => WJ1 R wa tot (if i = 0 then [] else if i = 1 then widesOf tot d0 else widesOf tot d0 ++ widesOf tot d1)) rfl (N4.isList (.head _)) haiL F4 (fun p hp => N4 p (.tail _ hp)) ?_ ?_ ?_
  · exact ⟨0, [], [], rfl, mt3, mws3, .nil, hRw, fun _ h => nomatch h⟩
  · intro i v m₁ news₁ h' tk' own hv hJ hown hap hil hI F' N'
    have hown' : news₁ = news₁ → ∀ p ∈ own, p.1 ≠ wa := fun _ p hp e => by
      obtain ⟨nw, rs, ext, rfl, _⟩ := hJ
      rcases hown p hp with q | q
      · exact hwai (e.symm.trans q)
      · exact hap (wa, _) (.head _) (e.symm.trans q)
    have hown' := hown' rfl
    have hwl : (widesOf tot d0).length ≤ 7 := by simp [widesOf, hl0]
    match i, hv with
    | 0, hv =>
      cases hv
      exact wpAny_mono (law3o (Q := fun _ _ => False) (I := h4.objs.size) (WD0 := []) X T hown' hI hap (by omega) (by omega) (Nat.zero_le 7) m0 hu0 hJ F' N') (fun f s₂ q => by cases f <;> first | exact q | exact q.elim) fun _ _ e => e
    | 1, hv =>
      cases hv
      exact wpAny_mono (law3o (Q := fun _ _ => False) (I := h4.objs.size) (WD0 := widesOf tot d0) X T hown' hI hap (by omega) (by omega) hwl m1 hu1 hJ F' N') (fun f s₂ q => by cases f <;> first | exact q | exact q.elim) fun _ _ e => e
  · rintro h' tk' m' news' ⟨nw, rs, ext, rfl, mt', mws', hP', hne', hsq'⟩ F' N'
    exact K h' tk' m' wa rs nw ext F' N' mws' hP' hsq'
end Mine
end

section
open PySem PySem.W PySem.Calls PySem.Spec PyProof.Rows
set_option maxRecDepth 100000
namespace Mine

def wsym (x : Int) : Str := if x < 256 then ⟨#[x.toNat]⟩ else Str.ofString "..."
def wantOf (d : List Int) : Str := Txt.join (Str.ofString "") (d.map wsym)
def gsym (x : Int) : Str := ⟨#[x.toNat]⟩
def gotOf (d : List Int) : Str := Txt.join (Str.ofString "") (d.map gsym)
theorem paired_get {α β : Type} {R : α → β → Prop} {a : List α} {b : List β} (h : Paired R a b) : ∀ {i : Nat} {x : α}, a[i]? = some x → ∃ y, b[i]? = some y ∧ R x y := by
  induction h with
  | nil => intro i x e; cases e
  | cons p _ ih =>
    intro i x e
    match i, e with
    | 0, e => cases e; exact ⟨_, rfl, p⟩
    | i + 1, e => exact ih (i := i) e
theorem paired_strs {f : Int → Str} {vs ys : List Value} {ns : List Int} (hi : IntsAre vs ns) (h : Paired (fun v y => ∀ x t, v = Value.int x t → ∃ t', y = Value.str (f x) t') vs ys) : StrsAre ys (ns.map f) := by
  induction hi generalizing ys with
  | nil => cases h; exact .nil
  | cons n t _ ih =>
    cases h with
    | cons a b =>
      obtain ⟨t', rfl⟩ := a n t rfl
      exact .cons _ _ (ih b)
theorem ints_uniq {vs : List Value} {a b : List Int} (h : IntsAre vs a) (k : IntsAre vs b) : a = b := by
  induction h generalizing b with
  | nil => cases k; rfl
  | cons n t _ ih => cases k with
    | cons _ _ k => rw [ih k]
theorem isW_uniq {h₀ h : Heap} {L : Addr} {S : List (Addr × Obj)} (N : News h₀ L h S) {v : Value} {d d' : List Int} (h1 : isW S v d) (h2 : isW S v d') : d = d' := by
  obtain ⟨a, vs, n, rfl, hm, hi⟩ := h1
  obtain ⟨a', vs', n', e, hm', hi'⟩ := h2
  cases e
  have := (N _ hm).1.symm.trans (N _ hm').1
  cases this
  exact ints_uniq hi hi'
theorem wants_strs {h₀ h : Heap} {L : Addr} {S : List (Addr × Obj)} (N : News h₀ L h S) {f : List Int → Str} {rs ys : List Value} {WD : List (List Int)} (h1 : Paired (isW S) rs WD) (h2 : Paired (fun v y => ∃ d t, isW S v d ∧ y = Value.str (f d) t) rs ys) : StrsAre ys (WD.map f) := by
  induction h1 generalizing ys with
  | nil => cases h2; exact .nil
  | cons a _ ih => cases h2 with
    | cons b r =>
      obtain ⟨d, t, hw, rfl⟩ := b
      rw [List.map_cons, isW_uniq N a hw]
      exact .cons _ _ (ih r)
theorem wsym_len (x : Int) : (wsym x).length ≤ 3 := by
  unfold wsym
  split
  · exact Nat.le_of_ble_eq_true rfl
  · decide
theorem sum_le {f : Int → Str} {k : Nat} (h : ∀ x, (f x).length ≤ k) : ∀ d : List Int, ((d.map f).map (·.length)).sum ≤ k * d.length
  | [] => Nat.le_refl _
  | x :: r => by
    have := sum_le h r
    have := h x
    simp only [List.map_cons, List.sum_cons, List.length_cons, Nat.mul_add]
    omega

set_option maxHeartbeats 2000000 in
theorem law4w {w : World} {dp un : Nat} {fr : Option (List Env)} {gd : Option (List Code)} {s : Shared} {h₀ h : Heap} {L fa : Addr} {m : Str → Option Value} {tk : Nat} {loose : List Str} {mean : ExcName → Option Value} {mg mb : Str → Option Value} {Q : Flow → Shared → Prop}
    (X : Frag.In (hd.heap_39 w.params) h₀) {pv : Program} (T : Top pv loose mean mg mb h₀) (hroom : dp < recursionLimit)
    {wa : Addr} {rs : List Value} {nw : Nat} {S : List (Addr × Obj)} {WD : List (List Int)} (F : Fr h₀ L h m) (N : News h₀ L h ((wa, { cls := .type "list", data := .seq (List.toArray rs) nw }) :: S))
    (mw : m (Str.ofString "wides") = some (.ref wa)) (hP : Paired (isW S) rs WD) (hW : ∀ d ∈ WD, d.length ≤ 8 ∧ ∀ x ∈ d, 0 ≤ x ∧ x ≤ 1000) (hWl : WD.length ≤ 20)
    (K : ∀ h' tk' m' (wn : Addr) (ys : List Value) (nn : Nat), Fr h₀ L h' m' → News h₀ L h' ((wn, { cls := .type "list", data := .seq (List.toArray ys) nn }) :: (wa, { cls := .type "list", data := .seq (List.toArray rs) nw }) :: S) →
      m' (Str.ofString "wides") = some (.ref wa) → m' (Str.ofString "wants") = some (.ref wn) → StrsAre ys (WD.map wantOf) →
      wpAny (model PySem.Challenge.rw_rw0040_01.row.prog w) { handled := none, depth := dp, frames := fr, guards := gd, units := un } (execs (lawRest 10) (lawEnv L fa)) Q (fun _ _ => False) { s with heap := h', toks := tk' }) :
    wpAny (model PySem.Challenge.rw_rw0040_01.row.prog w) { handled := none, depth := dp, frames := fr, guards := gd, units := un } (execs (lawRest 9) (lawEnv L fa)) Q (fun _ _ => False) { s with heap := h, toks := tk } := by
  revert X
  k_fill
  intro X
  have TR := topRead_of T
  have gI : nsIn (hd.heap_39 w.params) mainGlobals (Str.ofString "ISTERMINAL") = some (some (.ref 46)) := by k_is
  have gC : nsIn (hd.heap_39 w.params) mainGlobals (Str.ofString "chr") = some none := by k_is
  have bC : bootBuiltins (Str.ofString "chr") = some (.builtin "chr") := by boot_fast
  have hrl : rs.length ≤ 20 := by rw [paired_len hP]; exact hWl
  refine wpAny_execs_cons ?_
  refine Assign_ListComp_lK (fun _ => true) (fun v y => ∃ d t, isW S v d ∧ y = Value.str (wantOf d) t) rfl rfl (cl := []) rfl (by decide) rfl (by decide) rfl rfl rfl ?_
  refine nameX_L F mw ?_
  refine ⟨wa, rs, m, rfl, N.isList (.head _), by rw [sizeLine_eq]; omega, F.ns, ?_, ?_, ?_⟩
  · intro C j v s2 m2 E' hv hn hm hk
    exact wpAny_pure ⟨rfl, keeps_refl _⟩
  · intro C j v s2 m2 E' hv _ hn hm hk
    obtain ⟨d, hd, a, vs, n, rfl, ham, hi⟩ := paired_get hP hv
    obtain ⟨hdl, hdx⟩ := hW d (List.mem_of_getElem? hd)
    have hvl : vs.length = d.length := hi.length
    have upS : ∀ b o, h₀.get? b = some o → s2.heap.get? b = some o := fun b o e => hk b o (F.keep b o e)
    refine MethodCall_ ?_
    refine wpAny_Constant_str ?_
    refine GM.join ?_
    refine callWith_method1 ?_
    refine args_cons ?_
    refine ListComp_lK (fun _ => true) (fun v y => ∀ x t, v = Value.int x t → ∃ t', y = Value.str (wsym x) t') rfl (cl := []) rfl (by decide) rfl (by decide) rfl ?_
    refine kldL hn hm ?_
    refine ⟨a, vs, rfl, (N.isList (.tail _ ham)).at fun o e => hk _ _ e, by rw [sizeLine_eq]; omega, ?_, ?_, ?_⟩
    · intro C3 j3 v3 s3 m3 E3 hv3 hn3 hm3 hk3
      exact wpAny_pure ⟨rfl, keeps_refl _⟩
    · intro C3 j3 v3 s3 m3 E3 hv3 _ hn3 hm3 hk3
      have up3 : ∀ b o, h₀.get? b = some o → s3.heap.get? b = some o := fun b o e => hk3 b o (upS b o e)
      have hj : j3 < d.length := by rw [← hvl]; exact (List.getElem?_eq_some_iff.mp hv3).1
      obtain ⟨tj, hvj⟩ := ints_getD hi hj
      have hx := hdx (d.getD j3 0) (by rw [List.getD_eq_getElem?_getD, List.getElem?_eq_getElem hj]; exact List.getElem_mem hj)
      rw [hvj] at hv3
      cases hv3
      generalize d.getD j3 0 = x at hm3 hx
      refine IfExp_ ?_
      refine isTrue_plain ?_
      refine Call_ ?_
      refine gnK up3 X TR gI ?_
      refine callWith_K X (by k_is) ?_
      refine args_cons ?_
      refine kldL hn3 hm3 ?_
      refine args_nil ?_
      refine ⟨X.keeps up3, ?_⟩
      refine wpAny_mono (ist_call (by exact X.keeps up3) (by exact T.keeps up3) hroom x tj) (fun v s9 h9 => ?_) fun _ _ e => e
      obtain ⟨rfl, h9, tk9, rfl, hk9⟩ := h9
      refine wpAny_truthy_bool ?_
      by_cases hc : x < 256
      · rw [decide_eq_true hc, if_pos rfl]
        refine Call_ ?_
        refine gnB (fun b o e => hk9 b o (up3 b o e)) X TR gC bC (by decide) ?_
        refine PyProof.Rows.callWith_builtin1 ?_
        refine args_cons ?_
        refine kldL (hn3.at' fun o e => hk9 _ o e) hm3 ?_
        refine args_nil ?_
        refine chr_of_range hx.1 (by omega) ?_
        refine ⟨?_, h9, _, rfl, hk9⟩
        intro x' t' e
        obtain ⟨rfl, _⟩ := Value.int.inj e
        exact ⟨_, by rw [wsym, if_pos hc]⟩
      · rw [decide_eq_false hc, if_neg (by decide)]
        refine wpAny_Constant_str ?_
        refine ⟨?_, h9, _, rfl, hk9⟩
        intro x' t' e
        obtain ⟨rfl, _⟩ := Value.int.inj e
        exact ⟨_, by rw [wsym, if_neg hc]⟩
    · intro D ys h3 tk3 hp hpl hD hk3
      rw [filter_true] at hp
      have hsa := paired_strs hi hp
      refine args_nil ?_
      refine join_listW (ys := d.map wsym) hpl.isList hsa (by decide) (by have := sum_le wsym_len d; rw [List.length_map]; omega) fun t' k => ?_
      exact ⟨⟨d, t', ⟨a, vs, n, rfl, ham, hi⟩, rfl⟩, h3, k, rfl, hk3⟩
  · intro D ys h3 tk3 hp hpl hD hn3 hk3
    rw [filter_true] at hp
    obtain ⟨nn, hnn⟩ := hpl
    obtain ⟨F3, N3⟩ := fr_after F N hn3 hk3
    obtain ⟨q1, q2⟩ := new_ne F hD
    refine K h3 _ _ D ys nn F3 (news_add N3 hnn q1 q2) mw rfl (wants_strs (fun p hp => N3 p (.tail _ hp)) hP hp)
end Mine
end

section
open PySem PySem.W PySem.Calls PySem.Spec PyProof.Rows
set_option maxRecDepth 100000
namespace Mine
section
variable {prog : Program} {w : World} {A : Around} {s : Shared} {env : Env} {h₀ : Heap}
/-- the walk over a tuple behind the head's reckoning: any target -/
theorem for_tupleX {Q : Flow → Shared → Prop} {E : Value → Shared → Prop} {tg : Expr} {body : List Stmt} {a : Addr} {items : List Value} {m : Str → Option Value} {news : List (Addr × Obj)}
    (J : Nat → (Str → Option Value) → List (Addr × Obj) → Prop)
    (hh : A.handled = none) (hl : s.heap.IsTuple a items.toArray) (haL : a ≠ env.locals)
    (F : Fr h₀ env.locals s.heap m) (N : News h₀ env.locals s.heap news) (h0 : J 0 m news)
    (step : ∀ i v m₁ news₁ h tk own, items[i]? = some v → J i m₁ news₁ → (∀ p ∈ own, p.1 = a ∨ p.1 = s.heap.objs.size) → (∀ p ∈ news₁, p.1 ≠ s.heap.objs.size) → (∃ o, (s.heap.objs.size, o) ∈ own) →
      Fr h₀ env.locals h m₁ → News h₀ env.locals h (own ++ news₁) →
      wpAny (model prog w) A (assign tg env v) (fun _ s₁ => wpAny (model prog w) A (execs body env) (fun f s₂ => match f with
        | .ret v => Q (.ret v) s₂
        | .brk => Q .next s₂
        | _ => TurnedA h₀ env.locals s.heap.objs.size own (J (i + 1)) s s₂) (fun _ _ => False) s₁) (fun _ _ => False) { s with heap := h, toks := tk })
    (done : ∀ h' tk m' news', J items.length m' news' → Fr h₀ env.locals h' m' → News h₀ env.locals h' news' → Q .next { s with heap := h', toks := tk }) :
    wpAny (model prog w) A (pyIter (.ref a)) (fun it s₂ => codeAny (model prog w) A (.forLoop tg it body [] env) (fun r s' => match r with | .ok f => Q f s' | .error e => cameBackBy (model prog w) A env E e s') s₂) E s := by
  obtain ⟨ol, hol, _⟩ := id hl
  have hne : a ≠ s.heap.objs.size := Nat.ne_of_lt (Heap.lt_size hol)
  refine wpAny_pyIter_tuple hl ?_
  have W := Walks.tuple (prog := prog) (w := w) hh s.heap.objs.size a hne items.toArray
  have hI : h₀.get? s.heap.objs.size = none := by
    cases q : h₀.get? s.heap.objs.size with
    | none => rfl
    | some o => exact absurd (Heap.lt_size (F.keep _ _ q)) (Nat.lt_irrefl _)
  have hLne : env.locals ≠ s.heap.objs.size := fun e => absurd F.ns.lt (e ▸ Nat.lt_irrefl _)
  have WK := KTurns.ofWalks (target := tg) W (fun i v s' Q' E' st hQ' => letGo_tupleiter st.1 hQ')
  refine ktu_loop (s := { s with heap := s.heap.push { cls := .type "tuple_iterator", data := .fields #[.ref a, .int 0 0] } }) (R := fun r s' => match r with | .ok f => Q f s' | .error e => cameBackBy (model prog w) A env E e s') WK ?_ ?_ ?_
    ⟨⟨_, Heap.get?_push_size _ rfl, rfl, rfl⟩, hl.at fun o e => Heap.get?_push_of_some _ e⟩ (F.push _) (fun p hp => ⟨Heap.get?_push_of_some _ (N p hp).1, (N p hp).2⟩) J h0 ?_ ?_
  · intro hm
    rcases List.mem_cons.mp hm with e | hm
    · exact hLne e
    · exact haL (List.mem_singleton.mp hm).symm
  · intro b hb
    rw [List.mem_singleton.mp hb]; exact hI
  · intro p hp hm
    exact absurd (Heap.lt_size (N p hp).1) ((List.mem_singleton.mp hm) ▸ Nat.lt_irrefl _)
  · intro i v m₁ news₁ h₁ tk₁ own hi hP hJ hap hown hget hfull hst F1 N1
    have hin : ∃ o, (s.heap.objs.size, o) ∈ own := by
      obtain ⟨⟨o, ho, _⟩, _⟩ := hst
      exact ⟨o, hfull _ (.head _) hI o ho⟩
    refine wpAny_mono (step i v m₁ news₁ h₁ tk₁ own (by simpa using hP) hJ (fun p hp => ?_) (fun p hp e => hap p hp (List.mem_singleton.mpr e)) hin F1 N1) (fun _ s₂ h₂ => wpAny_mono h₂ (fun f s₃ h₃ => ?_) fun _ _ e => e.elim) fun _ _ e => e.elim
    · have := hown p hp
      simp at this
      exact this.symm
    · have fin : TurnedA h₀ env.locals s.heap.objs.size own (J (i + 1)) s s₃ → LoopStepU h₀ env.locals [s.heap.objs.size] own (J (i + 1)) { s with heap := h₁, toks := tk₁ } .next s₃ := by
        rintro ⟨h', tk, m₂, news₂, rfl, F₂, N₂, ha, hJ₂⟩
        exact ⟨rfl, h', tk, m₂, news₂, rfl, F₂, N₂, fun p hp hm => ha p hp (List.mem_singleton.mp hm), hJ₂⟩
      cases f with
      | ret v => exact h₃
      | brk => exact h₃
      | cont => exact fin h₃
      | next => exact fin h₃
  · intro h' tk m' news' F1 N1 _ hJ
    exact done h' tk m' news' (by simpa using hJ) F1 N1
end
end Mine
end

section
open PySem PySem.W PySem.Calls PySem.Spec PyProof.Rows
set_option maxRecDepth 100000
namespace Mine

theorem gsym_len (x : Int) : (gsym x).length ≤ 3 := by
  unfold gsym
  exact Nat.le_of_ble_eq_true rfl

set_option maxHeartbeats 2000000 in
theorem law4g {w : World} {dp un : Nat} {fr : Option (List Env)} {gd : Option (List Code)} {s : Shared} {h₀ h : Heap} {L fa : Addr} {m : Str → Option Value} {tk : Nat} {loose : List Str} {mean : ExcName → Option Value} {mg mb : Str → Option Value} {Q : Flow → Shared → Prop} {c5 c4 c3 c2 c1 : Obj} {ps : Array Value}
    (X : Frag.In (hd.heap_39 w.params) h₀) {pv : Program} (T : Top pv loose mean mg mb h₀) (h67 : @LT.lt Nat _ 67 L)
    {af : Addr} {fs : List Value} {nf : Nat} {FD : List (List Int)} {P : List (Addr × Obj)} (F : Fr h₀ L h m) (N : News h₀ L h (P ++ lawCells L c5 c4 c3 c2 c1 ps)) (hPs : ∀ p ∈ P, isSeqB p.2 = true)
    (d4 : c4.data = .cell none) (d3 : c3.data = .cell (some (.ref af))) (hm : (af, ({ cls := .type "list", data := .seq (List.toArray fs) nf } : Obj)) ∈ P) (hfl : fs.length = 3) (hP : Paired (isW P) (fs.take 2) FD) (hW : ∀ d ∈ FD, d.length ≤ 8 ∧ ∀ x ∈ d, 0 ≤ x ∧ x ≤ 1000)
    (K : ∀ h' tk' (gn : Addr) (ys : List Value) (nn : Nat) (c4' : Obj), Fr h₀ L h' m → News h₀ L h' (((gn, { cls := .type "list", data := .seq (List.toArray ys) nn }) :: P) ++ lawCells L c5 c4' c3 c2 c1 ps) →
      c4'.data = .cell (some (.ref gn)) → StrsAre ys (FD.map gotOf) →
      wpAny (model PySem.Challenge.rw_rw0040_01.row.prog w) { handled := none, depth := dp, frames := fr, guards := gd, units := un } (execs (lawRest 11) (lawEnv L fa)) Q (fun _ _ => False) { s with heap := h', toks := tk' }) :
    wpAny (model PySem.Challenge.rw_rw0040_01.row.prog w) { handled := none, depth := dp, frames := fr, guards := gd, units := un } (execs (lawRest 10) (lawEnv L fa)) Q (fun _ _ => False) { s with heap := h, toks := tk } := by
  revert X
  k_fill
  intro X
  have TR := topRead_of T
  have gC : nsIn (hd.heap_39 w.params) mainGlobals (Str.ofString "chr") = some none := by k_is
  have bC : bootBuiltins (Str.ofString "chr") = some (.builtin "chr") := by boot_fast
  refine wpAny_execs_cons ?_
  refine wpAny_Assign_Name ?_
  refine ListComp_lK (fun _ => true) (fun v y => ∃ d t, isW P v d ∧ y = Value.str (gotOf d) t) rfl (cl := []) rfl (by decide) rfl (by decide) rfl ?_
  refine Subscript_ ?_
  refine nameX_C N (c := L + 1 + 1 + 1) rfl (List.mem_append_right _ (.tail _ (.tail _ (.head _)))) d3 ?_
  refine wpAny_Slice ?_
  refine evalPart_none_step ?_
  refine evalPart_some_step ?_
  refine wpAny_Constant_int ?_
  refine evalPart_none_step ?_
  refine slice_list (items := List.toArray fs) F N (N.isList (List.mem_append_left _ hm)) .none (.int 2 _) (fun h1 F1 N1 => ?_) (hsz := by rw [sizeLine_eq, List.size_toArray, hfl]; decide)
  have pick2 : slicePick (List.toArray fs) none (some 2) none = List.toArray (fs.take 2) := slicePick_upto' (List.toArray fs) 2
  rw [pick2] at N1
  refine ⟨_, fs.take 2, rfl, N1.isList (.head _), by rw [sizeLine_eq, List.length_take]; omega, ?_, ?_, ?_⟩
  · intro C j v s2 m2 E' hv hn hm hk
    exact wpAny_pure ⟨rfl, keeps_refl _⟩
  · intro C j v s2 m2 E' hv _ hn hm hk
    obtain ⟨d, hd, a, vs, n, rfl, ham, hi⟩ := paired_get hP hv
    obtain ⟨hdl, hdx⟩ := hW d (List.mem_of_getElem? hd)
    have hvl : vs.length = d.length := hi.length
    have upS : ∀ b o, h₀.get? b = some o → s2.heap.get? b = some o := fun b o e => hk b o (F1.keep b o e)
    refine MethodCall_ ?_
    refine wpAny_Constant_str ?_
    refine GM.join ?_
    refine callWith_method1 ?_
    refine args_cons ?_
    refine ListComp_lK (fun _ => true) (fun v y => ∀ x t, v = Value.int x t → ∃ t', y = Value.str (gsym x) t') rfl (cl := []) rfl (by decide) rfl (by decide) rfl ?_
    refine kldL hn hm ?_
    refine ⟨a, vs, rfl, (N1.isList (.tail _ (List.mem_append_left _ ham))).at fun o e => hk _ _ e, by rw [sizeLine_eq]; omega, ?_, ?_, ?_⟩
    · intro C3 j3 v3 s3 m3 E3 hv3 hn3 hm3 hk3
      exact wpAny_pure ⟨rfl, keeps_refl _⟩
    · intro C3 j3 v3 s3 m3 E3 hv3 _ hn3 hm3 hk3
      have up3 : ∀ b o, h₀.get? b = some o → s3.heap.get? b = some o := fun b o e => hk3 b o (upS b o e)
      have hj : j3 < d.length := by rw [← hvl]; exact (List.getElem?_eq_some_iff.mp hv3).1
      obtain ⟨tj, hvj⟩ := ints_getD hi hj
      have hx := hdx (d.getD j3 0) (by rw [List.getD_eq_getElem?_getD, List.getElem?_eq_getElem hj]; exact List.getElem_mem hj)
      rw [hvj] at hv3
      cases hv3
      generalize d.getD j3 0 = x at hm3 hx
      refine Call_ ?_
      refine gnB up3 X TR gC bC (by decide) ?_
      refine PyProof.Rows.callWith_builtin1 ?_
      refine args_cons ?_
      refine kldL hn3 hm3 ?_
      refine args_nil ?_
      refine chr_of_range hx.1 (by omega) ?_
      refine ⟨?_, s3.heap, _, rfl, fun _ _ e => e⟩
      intro x' t' e
      obtain ⟨rfl, _⟩ := Value.int.inj e
      exact ⟨_, rfl⟩
    · intro D ys h3 tk3 hp hpl hD hk3
      rw [filter_true] at hp
      have hsa := paired_strs hi hp
      refine args_nil ?_
      refine join_listW (ys := d.map gsym) hpl.isList hsa (by decide) (by have := sum_le gsym_len d; rw [List.length_map]; omega) fun t' k => ?_
      exact ⟨⟨d, t', ⟨a, vs, n, rfl, ham, hi⟩, rfl⟩, h3, k, rfl, hk3⟩
  · intro D ys h3 tk3 hp hpl hD hk3
    rw [filter_true] at hp
    obtain ⟨nn, hnn⟩ := hpl
    obtain ⟨q1, q2⟩ := new_ne F1 hD
    have F3 := F1.keeps hk3
    have N3 : News h₀ L h3 (((D, { cls := .type "list", data := .seq (List.toArray ys) nn }) :: P) ++ lawCells L c5 c4 c3 c2 c1 ps) := news_add (fun p hp => (N1.grown hk3) p (.tail _ hp)) hnn q1 q2
    refine storeX_C (s := { s with heap := h3, toks := tk3 }) F3 N3 (c := L + 1 + 1 + 1 + 1) rfl (cellUpd4 N3 (fun p hp => ?_) d4 h67) d4 fun h4 c4' F4 N4 d4' => ?_
    · rcases List.mem_cons.mp hp with rfl | hp
      · rfl
      · exact hPs p hp
    refine gtok (s := s) (h := h4) fun ta => ?_
    exact K h4 _ D ys nn c4' F4 N4 d4' (wants_strs (fun p hp => N3 p (.tail _ (List.mem_append_left _ hp))) hP hp)
end Mine
end

section
open PySem PySem.W PySem.Calls PySem.Spec PyProof.Rows
set_option maxRecDepth 100000
namespace Mine

noncomputable def lawB11 (k : Nat) : List Stmt := (lawFor 11).drop k
/-- apart from the cell of other and from the table of codes -/
def Off (L : Addr) (P : List (Addr × Obj)) : Prop := ∀ p ∈ P, p.1 ≠ L + 1 + 1 + 1 + 1 + 1 ∧ @Ne Nat p.1 67
theorem Off.cons {L D : Addr} {o : Obj} {P : List (Addr × Obj)} (h : Off L P) (h1 : D ≠ L + 1 + 1 + 1 + 1 + 1) (h2 : @Ne Nat D 67) : Off L ((D, o) :: P) := fun p hp => by
  rcases List.mem_cons.mp hp with rfl | hp
  · exact ⟨h1, h2⟩
  · exact h p hp
theorem offUpd5 {L : Addr} {c5 c4 c3 c2 c1 : Obj} {ps : Array Value} {P : List (Addr × Obj)} (hP : Off L P) (h67 : @LT.lt Nat _ 67 L) :
    UpdF (L + 1 + 1 + 1 + 1 + 1) c5 (P ++ lawCells L c5 c4 c3 c2 c1 ps) (fun o => P ++ lawCells L o c4 c3 c2 c1 ps) := by
  have n1 : @Ne Nat (L + 1 + 1 + 1 + 1) (L + 1 + 1 + 1 + 1 + 1) := by refine neN ?_; omega
  have n2 : @Ne Nat (L + 1 + 1 + 1) (L + 1 + 1 + 1 + 1 + 1) := by refine neN ?_; omega
  have n3 : @Ne Nat (L + 1 + 1) (L + 1 + 1 + 1 + 1 + 1) := by refine neN ?_; omega
  have n4 : @Ne Nat (L + 1) (L + 1 + 1 + 1 + 1 + 1) := by refine neN ?_; omega
  have n67 : @Ne Nat 67 (L + 1 + 1 + 1 + 1 + 1) := by have := h67; refine neN ?_; omega
  exact updF_app (fun p hp => (hP p hp).1) (.head (all_cons n1 (all_cons n2 (all_cons n3 (all_cons n4 (all_cons n67 all_nil))))))
/-- what a list of due holds -/
def isDue (lt fo : List Int) (d : List Int) (y : Value) : Prop := ∃ b, y = Value.bool b ∧ (b = true ↔ ∀ p, Rch d lt fo p → 2 ^ d.length ≤ p)

theorem paired_drop {α β : Type} {R : α → β → Prop} {a : List α} {b : List β} (h : Paired R a b) (n : Nat) : Paired R (a.drop n) (b.drop n) := by
  induction h generalizing n with
  | nil => simp; exact .nil
  | cons x r ih =>
    cases n with
    | zero => exact .cons x r
    | succ n => exact ih n
theorem paired_take {α β : Type} {R : α → β → Prop} {a : List α} {b : List β} (h : Paired R a b) (n : Nat) : Paired R (a.take n) (b.take n) := by
  induction h generalizing n with
  | nil => simp; exact .nil
  | cons x r ih =>
    cases n with
    | zero => exact .nil
    | succ n => exact .cons x (ih n)
theorem due_of {h₀ h : Heap} {L : Addr} {P S : List (Addr × Obj)} (N : News h₀ L h (P ++ S)) {lt fo : List Int} {rs ys : List Value} {WD : List (List Int)} (h1 : Paired (isW P) rs WD) (h2 : Paired (fun v y => ∃ d, isW P v d ∧ isDue lt fo d y) rs ys) : Paired (isDue lt fo) WD ys := by
  induction h1 generalizing ys with
  | nil => cases h2; exact .nil
  | cons a _ ih => cases h2 with
    | cons b r =>
      obtain ⟨d, hw, hd⟩ := b
      rw [isW_uniq (fun p hp => N p (List.mem_append_left _ hp)) a hw]
      exact .cons hd (ih r)

set_option maxHeartbeats 2000000 in
theorem law5a {w : World} {dp un : Nat} {fr : Option (List Env)} {gd : Option (List Code)} {s : Shared} {h₀ h : Heap} {L fa : Addr} {m : Str → Option Value} {tk : Nat} {loose : List Str} {mean : ExcName → Option Value} {mg mb : Str → Option Value} {Q : Flow → Shared → Prop} {c5 c4 c3 c2 c1 : Obj} {ps : Array Value}
    (X : Frag.In (hd.heap_39 w.params) h₀) {pv : Program} (T : Top pv loose mean mg mb h₀) (hroom : dp + 1 < recursionLimit) (hun : un + 200 < cLine)
    {al af wa fo : Addr} {lv fs ws uo : List Value} {nf nw no : Nat} {lt d0 : List Int} {WD : List (List Int)} {P : List (Addr × Obj)} {b e o : Nat} {tb te to : Tok} (F : Fr h₀ L h m) (N : News h₀ L h (P ++ lawCells L c5 c4 c3 c2 c1 ps)) (hoff : Off L P)
    (d5 : c5.data = .cell (some (.int (o : Nat) to))) (d3 : c3.data = .cell (some (.ref af))) (d1 : c1.data = .cell (some (.ref al)))
    (hal : (al, ({ cls := .type "list", data := .seq (List.toArray lv) } : Obj)) ∈ P) (haf : (af, ({ cls := .type "list", data := .seq (List.toArray fs) nf } : Obj)) ∈ P) (hwa : (wa, ({ cls := .type "list", data := .seq (List.toArray ws) nw } : Obj)) ∈ P)
    (hfo : (fo, ({ cls := .type "list", data := .seq (List.toArray uo) no } : Obj)) ∈ P) (hfs : fs[o]? = some (.ref fo)) (ho2 : o < 2)
    (hlv : IntsAre lv lt) (hlt : lt.length = 2) (huo : IntsAre uo d0) (hd0 : d0.length ≤ 8) (hP : Paired (isW P) ws WD) (hW : ∀ d ∈ WD, d.length ≤ 8) (hWl : WD.length ≤ 20)
    (mb' : m (Str.ofString "begin") = some (.int (b : Nat) tb)) (me : m (Str.ofString "end") = some (.int (e : Nat) te)) (mw : m (Str.ofString "wides") = some (.ref wa))
    (hbe : b ≤ e) (hel : e ≤ WD.length)
    (K : ∀ h' tk' m' (D : Addr) (dv : List Value) (nd : Nat), Fr h₀ L h' m' → News h₀ L h' (((D, { cls := .type "list", data := .seq (List.toArray dv) nd }) :: P) ++ lawCells L c5 c4 c3 c2 c1 ps) → Off L ((D, ({ cls := .type "list", data := .seq (List.toArray dv) nd } : Obj)) :: P) →
      (m' = fun y => if y = Str.ofString "due" then some (.ref D) else m y) → Paired (isDue lt d0) ((WD.drop b).take (e - b)) dv →
      wpAny (model PySem.Challenge.rw_rw0040_01.row.prog w) { handled := none, depth := dp, frames := fr, guards := gd, units := un } (execs (lawB11 1) (lawEnv L fa)) Q (fun _ _ => False) { s with heap := h', toks := tk' }) :
    wpAny (model PySem.Challenge.rw_rw0040_01.row.prog w) { handled := none, depth := dp, frames := fr, guards := gd, units := un } (execs (lawB11 0) (lawEnv L fa)) Q (fun _ _ => False) { s with heap := h, toks := tk } := by
  revert X
  k_fill
  intro X
  have TR := topRead_of T
  have gW : nsIn (hd.heap_39 w.params) mainGlobals (Str.ofString "_law_within") = some (some (.ref 65)) := by k_is
  have hwsl : ws.length ≤ 20 := by rw [paired_len hP]; exact hWl
  refine wpAny_execs_cons ?_
  refine Assign_ListComp_lK (fun _ => true) (fun v y => ∃ d, isW P v d ∧ isDue lt d0 d y) rfl rfl (cl := [(Str.ofString "other", L + 1 + 1 + 1 + 1 + 1), (Str.ofString "letters", L + 1), (Str.ofString "forms", L + 1 + 1 + 1)]) rfl (by decide) rfl (by decide) rfl rfl rfl ?_
  refine Subscript_ ?_
  refine nameX_L F mw ?_
  refine wpAny_Slice ?_
  refine evalPart_some_step ?_
  refine nameX_L F mb' ?_
  refine evalPart_some_step ?_
  refine nameX_L F me ?_
  refine evalPart_none_step ?_
  have hwsl' : ws.length = WD.length := paired_len hP
  have pick : slicePick (List.toArray ws) (some ((b : Nat) : Int)) (some ((e : Nat) : Int)) none = List.toArray ((ws.drop b).take (e - b)) := slicePick_run (List.toArray ws) b e (by rw [List.size_toArray]; omega) hbe
  refine slice_list (items := List.toArray ws) F N (N.isList (List.mem_append_left _ hwa)) (.int _ _) (.int _ _) (fun h1 F1 N1 => ?_) (hsz := by rw [sizeLine_eq, List.size_toArray]; omega)
  rw [pick] at N1
  have hP1 : Paired (isW P) ((ws.drop b).take (e - b)) ((WD.drop b).take (e - b)) := paired_take (paired_drop hP b) (e - b)
  refine ⟨_, (ws.drop b).take (e - b), m, rfl, N1.isList (.head _), by rw [sizeLine_eq, List.length_take]; omega, F1.ns, ?_, ?_, ?_⟩
  · intro C j v s2 m2 E' hv hn hm hk
    exact wpAny_pure ⟨rfl, keeps_refl _⟩
  · intro C j v s2 m2 E' hv _ hn hm hk
    obtain ⟨d, hd, a, vs, n, rfl, ham, hi⟩ := paired_get hP1 hv
    have hdW : d ∈ WD := List.mem_of_mem_drop (List.mem_of_mem_take (List.mem_of_getElem? hd))
    have upS : ∀ b o, h₀.get? b = some o → s2.heap.get? b = some o := fun b o e => hk b o (F1.keep b o e)
    have N2 : News h₀ L h1 (P ++ lawCells L c5 c4 c3 c2 c1 ps) := fun p hp => N1 p (.tail _ hp)
    have g5 : s2.heap.get? (L + 1 + 1 + 1 + 1 + 1) = some c5 := hk _ _ (N2.get (List.mem_append_right _ (.head _)))
    have g3 : s2.heap.get? (L + 1 + 1 + 1) = some c3 := hk _ _ (N2.get (List.mem_append_right _ (.tail _ (.tail _ (.head _)))))
    have g1 : s2.heap.get? (L + 1) = some c1 := hk _ _ (N2.get (List.mem_append_right _ (.tail _ (.tail _ (.tail _ (.tail _ (.head _)))))))
    refine Call_ ?_
    refine gnK upS X TR gW ?_
    refine callWith_K X (by k_is) ?_
    refine args_cons ?_
    refine Subscript_ ?_
    refine kldC g3 d3 rfl ?_
    refine kldC g5 d5 rfl ?_
    refine itemG (vs := fs) ((N2.isList (List.mem_append_left _ haf)).at fun o e => hk _ _ e) (by omega) (by omega) (by rw [Int.toNat_natCast]; exact hfs) ?_
    refine args_cons ?_
    refine kldL hn hm ?_
    refine args_cons ?_
    refine kldC g1 d1 rfl ?_
    refine args_nil ?_
    refine ⟨X.keeps upS, ?_⟩
    refine wpAny_mono (within_call (by exact X.keeps upS) (by exact T.keeps upS) hroom hun (fv := uo) (wv := vs) (lv := lv) (form := d0) (wide := d) (letters := lt) ((N2.isList (List.mem_append_left _ hfo)).at fun o e => hk _ _ e) huo ((N2.isList (List.mem_append_left _ ham)).at fun o e => hk _ _ e) hi ⟨_, hk _ _ (N2.get (List.mem_append_left _ hal))⟩ hlv hd0 (hW d hdW) (by omega)) (fun v s9 h9 => ?_) fun _ _ e => e
    obtain ⟨⟨bb, rfl, hbb⟩, hk9⟩ := h9
    exact ⟨⟨d, ⟨a, vs, n, rfl, ham, hi⟩, bb, rfl, hbb⟩, hk9⟩
  · intro D ys h3 tk3 hp hpl hD hn3 hk3
    rw [filter_true] at hp
    obtain ⟨nn, hnn⟩ := hpl
    obtain ⟨F3, N3⟩ := fr_after F1 N1 hn3 hk3
    obtain ⟨q1, q2⟩ := new_ne F1 hD
    have hne : ∀ q ∈ P ++ lawCells L c5 c4 c3 c2 c1 ps, D ≠ q.1 := fun q hq e => by
      have := (N1 q (.tail _ hq)).1
      rw [← e, hD] at this
      cases this
    refine K h3 _ _ D ys nn F3 (news_add (fun p hp => N3 p (.tail _ hp)) hnn q1 q2) (hoff.cons (hne _ (List.mem_append_right _ (.head _))) (hne _ (List.mem_append_right _ (.tail _ (.tail _ (.tail _ (.tail _ (.tail _ (.head _)))))))))  rfl (due_of N hP1 hp)
end Mine
end

section
open PySem PySem.W PySem.Calls PySem.Spec PyProof.Rows
set_option maxRecDepth 100000
namespace Mine

/-- the inner walk of the matches -/
noncomputable def lawIn11 : List Stmt := forB ((lawFor 11).getD 1 default)
/-- what the walk of the matches leaves alone -/
def Names (wa wn D : Addr) (b e : Nat) (m : Str → Option Value) : Prop :=
  m (Str.ofString "wides") = some (.ref wa) ∧ m (Str.ofString "wants") = some (.ref wn) ∧ m (Str.ofString "due") = some (.ref D) ∧ (∃ t, m (Str.ofString "begin") = some (.int (b : Nat) t)) ∧ ∃ t, m (Str.ofString "end") = some (.int (e : Nat) t)

set_option maxHeartbeats 2000000 in
theorem law5s {w : World} {dp un : Nat} {fr : Option (List Env)} {gd : Option (List Code)} {s : Shared} {h₀ h : Heap} {L fa : Addr} {m : Str → Option Value} {tk : Nat} {loose : List Str} {mean : ExcName → Option Value} {mg mb : Str → Option Value} {Q : Shared → Prop} {c5 c4 c3 c2 c1 : Obj} {ps : Array Value}
    (X : Frag.In (hd.heap_39 w.params) h₀) {pv : Program} (T : Top pv loose mean mg mb h₀) (hroom : dp < recursionLimit)
    {wa wn gn D wd : Addr} {ws wv gv dv dd : List Value} {nw nn ng nd ndd : Nat} {d : List Int} {P : List (Addr × Obj)} {b e o k : Nat} {tk' to : Tok} {W Go Gm : Str} {bk : Bool}
    (F : Fr h₀ L h m) (N : News h₀ L h (P ++ lawCells L c5 c4 c3 c2 c1 ps))
    (d5 : c5.data = .cell (some (.int (o : Nat) to))) (d4 : c4.data = .cell (some (.ref gn)))
    (hwa : (wa, ({ cls := .type "list", data := .seq (List.toArray ws) nw } : Obj)) ∈ P) (hwn : (wn, ({ cls := .type "list", data := .seq (List.toArray wv) nn } : Obj)) ∈ P) (hgn : (gn, ({ cls := .type "list", data := .seq (List.toArray gv) ng } : Obj)) ∈ P)
    (hD : (D, ({ cls := .type "list", data := .seq (List.toArray dv) nd } : Obj)) ∈ P) (hwd : (wd, ({ cls := .type "list", data := .seq (List.toArray dd) ndd } : Obj)) ∈ P)
    (hws : ws[k]? = some (.ref wd)) (hdd : IntsAre dd d) (hd0 : 0 < d.length) (hwv : ∃ t, wv[k]? = some (.str W t)) (hgo : ∃ t, gv[o]? = some (.str Go t)) (hgm : ∃ t, gv[1 - o]? = some (.str Gm t)) (ho2 : o < 2) (hk : k < 100) (hbk : b ≤ k) (hdv : dv[k - b]? = some (.bool bk))
    (hWl : W.length ≤ 1000) (hGo : Go.length ≤ 1000) (hGm : Gm.length ≤ 1000) (e1 : ematch W Go = bk) (e2 : ematch W Gm = true) (e3 : ∀ M ∈ d, (∀ a ∈ d, M ≤ a) → ematch W (Str.ofString "") = decide (255 < M))
    (mk : m (Str.ofString "k") = some (.int (k : Nat) tk')) (hm : Names wa wn D b e m)
    (K : ∀ h' tk', Fr h₀ L h' m → News h₀ L h' (P ++ lawCells L c5 c4 c3 c2 c1 ps) → Q { s with heap := h', toks := tk' }) :
    wpAny (model PySem.Challenge.rw_rw0040_01.row.prog w) { handled := none, depth := dp, frames := fr, guards := gd, units := un } (execs lawIn11 (lawEnv L fa)) (fun f s₂ => f = .next ∧ Q s₂) (fun _ _ => False) { s with heap := h, toks := tk } := by
  revert X
  k_fill
  intro X
  have TR := topRead_of T
  have gE : nsIn (hd.heap_39 w.params) mainGlobals (Str.ofString "_ellipsis_match") = some (some (.ref 21)) := by k_is
  have gM : nsIn (hd.heap_39 w.params) mainGlobals (Str.ofString "min") = some none := by k_is
  have bM : bootBuiltins (Str.ofString "min") = some (.builtin "min") := by boot_fast
  obtain ⟨mws, mwn, mD, ⟨tb, mb'⟩, ⟨te, me⟩⟩ := hm
  obtain ⟨tW, hwv⟩ := hwv
  obtain ⟨tgo, hgo⟩ := hgo
  obtain ⟨tgm, hgm⟩ := hgm
  have i5 : (L + 1 + 1 + 1 + 1 + 1, c5) ∈ P ++ lawCells L c5 c4 c3 c2 c1 ps := List.mem_append_right _ (.head _)
  have i4 : (L + 1 + 1 + 1 + 1, c4) ∈ P ++ lawCells L c5 c4 c3 c2 c1 ps := List.mem_append_right _ (.tail _ (.head _))
  have iP : ∀ {p : Addr × Obj}, p ∈ P → p ∈ P ++ lawCells L c5 c4 c3 c2 c1 ps := fun hp => List.mem_append_left _ hp
  -- the first
  refine wpAny_execs_cons ?_
  refine wpAny_If ?_
  refine wpAny_isTrue_Compare1 ?_
  refine Call_ ?_
  refine nameX_K F X TR gE ?_
  refine callWith_K X (by k_is) ?_
  refine args_cons ?_
  refine Subscript_ ?_
  refine nameX_L F mwn ?_
  refine nameX_L F mk ?_
  refine itemG (vs := wv) (N.isList (iP hwn)) (by omega) (by omega) (by rw [Int.toNat_natCast]; exact hwv) ?_
  refine args_cons ?_
  refine Subscript_ ?_
  refine nameX_C N (c := L + 1 + 1 + 1 + 1) rfl i4 d4 ?_
  refine nameX_C N (c := L + 1 + 1 + 1 + 1 + 1) rfl i5 d5 ?_
  refine itemG (vs := gv) (N.isList (iP hgn)) (by omega) (by omega) (by rw [Int.toNat_natCast]; exact hgo) ?_
  refine args_nil ⟨X.keeps F.keep, ?_⟩
  refine wpAny_mono (ell_call (by exact X.keeps F.keep) (by exact T.keeps F.keep) hroom W Go _ _ hWl hGo) (fun v s9 h9 => ?_) fun _ _ e => e
  obtain ⟨rfl, h1, tk1, rfl, hk1⟩ := h9
  have F1 := F.keeps hk1
  have N1 := N.grown hk1
  refine gtok (s := s) (h := h1) fun ta => ?_
  refine Subscript_ ?_
  refine nameX_L F1 mD ?_
  refine wpAny_BinOp ?_
  refine nameX_L F1 mk ?_
  refine nameX_L F1 mb' ?_
  refine PyProof.Rows.sub_int ?_
  refine itemG (vs := dv) (N1.isList (iP hD)) (by omega) (by omega) (by rw [show ((k : Int) - (b : Int)).toNat = k - b by omega]; exact hdv) ?_
  refine isnot_bool ?_
  refine wpAny_truthy_bool ?_
  rw [e1, if_neg (by simp)]
  refine wpAny_execs_nil ?_
  refine gtok (s := s) (h := h1) fun tb => ?_
  clear F N hk1
  -- the second
  refine wpAny_execs_cons ?_
  refine wpAny_If ?_
  refine wpAny_isTrue_Compare1 ?_
  refine Call_ ?_
  refine nameX_K F1 X TR gE ?_
  refine callWith_K X (by k_is) ?_
  refine args_cons ?_
  refine Subscript_ ?_
  refine nameX_L F1 mwn ?_
  refine nameX_L F1 mk ?_
  refine itemG (vs := wv) (N1.isList (iP hwn)) (by omega) (by omega) (by rw [Int.toNat_natCast]; exact hwv) ?_
  refine args_cons ?_
  refine Subscript_ ?_
  refine nameX_C N1 (c := L + 1 + 1 + 1 + 1) rfl i4 d4 ?_
  refine wpAny_BinOp ?_
  refine wpAny_Constant_int ?_
  refine nameX_C N1 (c := L + 1 + 1 + 1 + 1 + 1) rfl i5 d5 ?_
  refine PyProof.Rows.sub_int ?_
  refine itemG (vs := gv) (N1.isList (iP hgn)) (by omega) (by omega) (by rw [show (1 - (o : Int)).toNat = 1 - o by omega]; exact hgm) ?_
  refine args_nil ⟨X.keeps F1.keep, ?_⟩
  refine wpAny_mono (ell_call (by exact X.keeps F1.keep) (by exact T.keeps F1.keep) hroom W Gm _ _ hWl hGm) (fun v s9 h9 => ?_) fun _ _ e => e
  obtain ⟨rfl, h2, tk2, rfl, hk2⟩ := h9
  have F2 := F1.keeps hk2
  have N2 := N1.grown hk2
  refine gtok (s := s) (h := h2) fun tc => ?_
  refine wpAny_Constant_bool ?_
  refine isnot_bool ?_
  refine wpAny_truthy_bool ?_
  rw [e2, if_neg (by simp)]
  refine wpAny_execs_nil ?_
  refine gtok (s := s) (h := h2) fun td => ?_
  clear F1 N1 hk2
  -- the third
  refine wpAny_execs_cons ?_
  refine wpAny_If ?_
  refine wpAny_isTrue_Compare1 ?_
  refine Call_ ?_
  refine nameX_K F2 X TR gE ?_
  refine callWith_K X (by k_is) ?_
  refine args_cons ?_
  refine Subscript_ ?_
  refine nameX_L F2 mwn ?_
  refine nameX_L F2 mk ?_
  refine itemG (vs := wv) (N2.isList (iP hwn)) (by omega) (by omega) (by rw [Int.toNat_natCast]; exact hwv) ?_
  refine args_cons ?_
  refine wpAny_Constant_str ?_
  refine args_nil ⟨X.keeps F2.keep, ?_⟩
  refine wpAny_mono (ell_call (by exact X.keeps F2.keep) (by exact T.keeps F2.keep) hroom W (Str.ofString "") _ _ hWl (by decide)) (fun v s9 h9 => ?_) fun _ _ e => e
  obtain ⟨rfl, h3, tk3, rfl, hk3⟩ := h9
  have F3 := F2.keeps hk3
  have N3 := N2.grown hk3
  refine gtok (s := s) (h := h3) fun tf => ?_
  refine wpAny_Compare1 ?_
  refine Call_ ?_
  refine nameX_B F3 X TR gM bM (by decide) ?_
  refine PyProof.Rows.callWith_builtin1 ?_
  refine args_cons ?_
  refine Subscript_ ?_
  refine nameX_L F3 mws ?_
  refine nameX_L F3 mk ?_
  refine itemG (vs := ws) (N3.isList (iP hwa)) (by omega) (by omega) (by rw [Int.toNat_natCast]; exact hws) ?_
  refine args_nil ?_
  refine min_list_N rfl F3 N3 (N3.isList (iP hwd)) hdd hd0 fun h4 M t4 tk4 F4 N4 hM hle => ?_
  refine gtok (s := s) (h := h4) fun tg => ?_
  refine wpAny_Constant_int ?_
  refine PyProof.Rows.gt_int ?_
  refine isnot_bool ?_
  refine wpAny_truthy_bool ?_
  rw [e3 M hM hle, if_neg (by simp)]
  refine wpAny_execs_nil ?_
  refine gtok (s := s) (h := h4) fun th => ?_
  exact wpAny_execs_nil ⟨rfl, K h4 th F4 N4⟩

theorem rangeSize_2 {b e : Nat} (h : b ≤ e) : Builtin.Range.rangeSize (b : Int) (e : Int) 1 = ((e - b : Nat) : Int) := by
  unfold Builtin.Range.rangeSize
  simp
  omega
theorem rangeSmall_2 {b e : Nat} (h : b ≤ e) (h1 : e ≤ 1000) : Builtin.Range.small (b : Int) (e : Int) 1 = true := by
  unfold Builtin.Range.small
  rw [rangeSize_2 h]
  simp [Builtin.Range.rangeFitsLong]
  omega

/-- what one turn needs to know of the wide k -/
def Turn (P : List (Addr × Obj)) (ws wv dv : List Value) (b k : Nat) (Go Gm : Str) : Prop :=
  ∃ (wd : Addr) (dd : List Value) (ndd : Nat) (d : List Int) (W : Str) (bk : Bool), ws[k]? = some (.ref wd) ∧ (wd, ({ cls := .type "list", data := .seq (List.toArray dd) ndd } : Obj)) ∈ P ∧ IntsAre dd d ∧ 0 < d.length ∧ (∃ t, wv[k]? = some (.str W t)) ∧ dv[k - b]? = some (.bool bk) ∧ W.length ≤ 1000 ∧
    ematch W Go = bk ∧ ematch W Gm = true ∧ ∀ M ∈ d, (∀ a ∈ d, M ≤ a) → ematch W (Str.ofString "") = decide (255 < M)

set_option maxHeartbeats 2000000 in
theorem law5b {w : World} {dp un : Nat} {fr : Option (List Env)} {gd : Option (List Code)} {s : Shared} {h₀ h : Heap} {L fa : Addr} {m : Str → Option Value} {tk : Nat} {loose : List Str} {mean : ExcName → Option Value} {mg mb : Str → Option Value} {Q : Flow → Shared → Prop} {c5 c4 c3 c2 c1 : Obj} {ps : Array Value}
    (X : Frag.In (hd.heap_39 w.params) h₀) {pv : Program} (T : Top pv loose mean mg mb h₀) (hroom : dp < recursionLimit)
    {wa wn gn D : Addr} {ws wv gv dv : List Value} {nw nn ng nd : Nat} {P : List (Addr × Obj)} {b e o : Nat} {to : Tok} {Go Gm : Str}
    (F : Fr h₀ L h m) (N : News h₀ L h (P ++ lawCells L c5 c4 c3 c2 c1 ps))
    (d5 : c5.data = .cell (some (.int (o : Nat) to))) (d4 : c4.data = .cell (some (.ref gn)))
    (hwa : (wa, ({ cls := .type "list", data := .seq (List.toArray ws) nw } : Obj)) ∈ P) (hwn : (wn, ({ cls := .type "list", data := .seq (List.toArray wv) nn } : Obj)) ∈ P) (hgn : (gn, ({ cls := .type "list", data := .seq (List.toArray gv) ng } : Obj)) ∈ P)
    (hD : (D, ({ cls := .type "list", data := .seq (List.toArray dv) nd } : Obj)) ∈ P)
    (hgo : ∃ t, gv[o]? = some (.str Go t)) (hgm : ∃ t, gv[1 - o]? = some (.str Gm t)) (ho2 : o < 2) (hbe : b ≤ e) (he : e ≤ 100)
    (hGo : Go.length ≤ 1000) (hGm : Gm.length ≤ 1000) (hk : ∀ k, b ≤ k → k < e → Turn P ws wv dv b k Go Gm) (hm : Names wa wn D b e m)
    (K : ∀ h' tk' m', Fr h₀ L h' m' → News h₀ L h' (P ++ lawCells L c5 c4 c3 c2 c1 ps) → Names wa wn D b e m' →
      wpAny (model PySem.Challenge.rw_rw0040_01.row.prog w) { handled := none, depth := dp, frames := fr, guards := gd, units := un } (execs (lawB11 2) (lawEnv L fa)) Q (fun _ _ => False) { s with heap := h', toks := tk' }) :
    wpAny (model PySem.Challenge.rw_rw0040_01.row.prog w) { handled := none, depth := dp, frames := fr, guards := gd, units := un } (execs (lawB11 1) (lawEnv L fa)) Q (fun _ _ => False) { s with heap := h, toks := tk } := by
  revert X
  k_fill
  intro X
  have TR := topRead_of T
  have gR : nsIn (hd.heap_39 w.params) mainGlobals (Str.ofString "range") = some none := by k_is
  have bR : bootBuiltins (Str.ofString "range") = some (.type "range") := by boot_fast
  obtain ⟨mws, mwn, mD, ⟨tb, mb'⟩, ⟨te, me⟩⟩ := id hm
  refine wpAny_execs_cons (wpAny_For ?_ (by intro _; rfl))
  refine Call_ ?_
  refine nameX_B F X TR gR bR (by decide) ?_
  refine Pv.callWith_type1 ?_
  refine args_cons ?_
  refine nameX_L F mb' ?_
  refine args_cons ?_
  refine nameX_L F me ?_
  refine args_nil ?_
  refine range2_rows F N fun h1 tk1 t1 u1 v1 hrg F1 N1 hk1 => ?_
  refine gtok (s := s) (h := h1) fun ta => ?_
  refine for_rangeX (n := e - b) (fun _ m' news' => news' = P ++ lawCells L c5 c4 c3 c2 c1 ps ∧ Names wa wn D b e m') rfl hrg (rangeSmall_2 hbe (by omega)) (rangeSize_2 hbe) F1 N1 ⟨rfl, hm⟩ ?_ ?_
  · rintro i t m₁ news₁ h' tk' own hi ⟨rfl, hm1⟩ hown hap hI F' N'
    obtain ⟨wd, dd, ndd, d, W, bk, a1, a2, a3, a4, a5, a6, a7, a8, a9, a10⟩ := hk (b + i) (by omega) (by omega)
    have N' : News h₀ L h' ((own ++ P) ++ lawCells L c5 c4 c3 c2 c1 ps) := by rw [List.append_assoc]; exact N'
    have iP : ∀ {p : Addr × Obj}, p ∈ P → p ∈ own ++ P := fun hp => List.mem_append_right _ hp
    refine wpAny_mono (law5s (Q := TurnedA h₀ L h1.objs.size own (fun m' news' => news' = P ++ lawCells L c5 c4 c3 c2 c1 ps ∧ Names wa wn D b e m') { s with heap := h1, toks := ta }) X T hroom (k := b + i) (b := b) (e := e) F' N' d5 d4 (iP hwa) (iP hwn) (iP hgn) (iP hD) (iP a2) a1 a3 a4 a5 hgo hgm ho2 (by omega) (by omega) a6 a7 hGo hGm a8 a9 a10 (tk' := t) ?_ ?_ ?_) (fun f s₂ q => by obtain ⟨rfl, q⟩ := q; exact q) fun _ _ e => e
    · show some _ = some _
      rw [show ((b : Int) + (i : Int)) = ((b + i : Nat) : Int) by omega]
    · exact hm1
    · intro h'' tk'' F'' N''
      refine ⟨h'', tk'', _, P ++ lawCells L c5 c4 c3 c2 c1 ps, rfl, F'', by rw [← List.append_assoc]; exact N'', hap, rfl, hm1⟩
  · rintro h' tk' m' news' ⟨rfl, hm'⟩ F' N'
    exact K h' tk' m' F' N' hm'
end Mine
end

section
open PySem PySem.W PySem.Calls PySem.Spec PyProof.Rows
set_option maxRecDepth 100000
namespace Mine

def want4 (g : Str) : Str := Str.ofString "..." ++ g ++ Str.ofString "..." ++ Txt.slice g (some 1) none ++ Str.ofString "..."

set_option maxHeartbeats 2000000 in
theorem law5c {w : World} {dp un : Nat} {fr : Option (List Env)} {gd : Option (List Code)} {s : Shared} {h₀ h : Heap} {L fa : Addr} {m : Str → Option Value} {tk : Nat} {loose : List Str} {mean : ExcName → Option Value} {mg mb : Str → Option Value} {Q : Flow → Shared → Prop} {c5 c4 c3 c2 c1 : Obj} {ps : Array Value}
    (X : Frag.In (hd.heap_39 w.params) h₀) {pv : Program} (T : Top pv loose mean mg mb h₀) (hroom : dp < recursionLimit)
    {gn : Addr} {gv : List Value} {ng : Nat} {P : List (Addr × Obj)} {o : Nat} {to : Tok} {Go : Str}
    (F : Fr h₀ L h m) (N : News h₀ L h (P ++ lawCells L c5 c4 c3 c2 c1 ps))
    (d5 : c5.data = .cell (some (.int (o : Nat) to))) (d4 : c4.data = .cell (some (.ref gn)))
    (hgn : (gn, ({ cls := .type "list", data := .seq (List.toArray gv) ng } : Obj)) ∈ P)
    (hgo : ∃ t, gv[o]? = some (.str Go t)) (ho2 : o < 2) (hGo : Go.length ≤ 100) (e4 : ematch (want4 Go) Go = false)
    (K : ∀ h' tk', Fr h₀ L h' m → News h₀ L h' (P ++ lawCells L c5 c4 c3 c2 c1 ps) →
      wpAny (model PySem.Challenge.rw_rw0040_01.row.prog w) { handled := none, depth := dp, frames := fr, guards := gd, units := un } (execs (lawB11 3) (lawEnv L fa)) Q (fun _ _ => False) { s with heap := h', toks := tk' }) :
    wpAny (model PySem.Challenge.rw_rw0040_01.row.prog w) { handled := none, depth := dp, frames := fr, guards := gd, units := un } (execs (lawB11 2) (lawEnv L fa)) Q (fun _ _ => False) { s with heap := h, toks := tk } := by
  revert X
  k_fill
  intro X
  have TR := topRead_of T
  have gE : nsIn (hd.heap_39 w.params) mainGlobals (Str.ofString "_ellipsis_match") = some (some (.ref 21)) := by k_is
  obtain ⟨tgo, hgo⟩ := hgo
  have i5 : (L + 1 + 1 + 1 + 1 + 1, c5) ∈ P ++ lawCells L c5 c4 c3 c2 c1 ps := List.mem_append_right _ (.head _)
  have i4 : (L + 1 + 1 + 1 + 1, c4) ∈ P ++ lawCells L c5 c4 c3 c2 c1 ps := List.mem_append_right _ (.tail _ (.head _))
  have iP : ∀ {p : Addr × Obj}, p ∈ P → p ∈ P ++ lawCells L c5 c4 c3 c2 c1 ps := fun hp => List.mem_append_left _ hp
  have l3 : (Str.ofString "...").length = 3 := rfl
  refine wpAny_execs_cons ?_
  refine wpAny_If ?_
  refine wpAny_isTrue_Compare1 ?_
  refine Call_ ?_
  refine nameX_K F X TR gE ?_
  refine callWith_K X (by k_is) ?_
  refine args_cons ?_
  refine wpAny_BinOp ?_
  refine wpAny_BinOp ?_
  refine wpAny_BinOp ?_
  refine wpAny_BinOp ?_
  refine wpAny_Constant_str ?_
  refine Subscript_ ?_
  refine nameX_C N (c := L + 1 + 1 + 1 + 1) rfl i4 d4 ?_
  refine nameX_C N (c := L + 1 + 1 + 1 + 1 + 1) rfl i5 d5 ?_
  refine itemG (vs := gv) (N.isList (iP hgn)) (by omega) (by omega) (by rw [Int.toNat_natCast]; exact hgo) ?_
  refine PyProof.Rows.add_str (fun t1 k1 => ?_) (by rw [sizeLine_eq]; show 3 + _ ≤ _; omega)
  refine wpAny_Constant_str ?_
  refine PyProof.Rows.add_str (fun t2 k2 => ?_) (by rw [sizeLine_eq]; simp only [Str.length_append, l3]; omega)
  refine gtok (s := s) (h := h) fun ta => ?_
  refine Subscript_ ?_
  refine Subscript_ ?_
  refine nameX_C N (c := L + 1 + 1 + 1 + 1) rfl i4 d4 ?_
  refine nameX_C N (c := L + 1 + 1 + 1 + 1 + 1) rfl i5 d5 ?_
  refine itemG (vs := gv) (N.isList (iP hgn)) (by omega) (by omega) (by rw [Int.toNat_natCast]; exact hgo) ?_
  refine wpAny_Slice ?_
  refine evalPart_some_step ?_
  refine wpAny_Constant_int ?_
  refine evalPart_none_step ?_
  refine evalPart_none_step ?_
  refine slice_strN_sn_len F N (fun h1 t3 k3 F1 N1 hsl => ?_) (hsz := by rw [sizeLine_eq]; omega)
  refine gtok (s := s) (h := h1) fun tb => ?_
  refine PyProof.Rows.add_str (fun t4 k4 => ?_) (by rw [sizeLine_eq]; simp only [Str.length_append, l3]; omega)
  refine wpAny_Constant_str ?_
  refine PyProof.Rows.add_str (fun t5 k5 => ?_) (by rw [sizeLine_eq]; simp only [Str.length_append, l3]; omega)
  refine gtok (s := s) (h := h1) fun tc => ?_
  refine args_cons ?_
  refine Subscript_ ?_
  refine nameX_C N1 (c := L + 1 + 1 + 1 + 1) rfl i4 d4 ?_
  refine nameX_C N1 (c := L + 1 + 1 + 1 + 1 + 1) rfl i5 d5 ?_
  refine itemG (vs := gv) (N1.isList (iP hgn)) (by omega) (by omega) (by rw [Int.toNat_natCast]; exact hgo) ?_
  refine args_nil ⟨X.keeps F1.keep, ?_⟩
  refine wpAny_mono (ell_call (by exact X.keeps F1.keep) (by exact T.keeps F1.keep) hroom (want4 Go) Go _ _ (by unfold want4; simp only [Str.length_append, l3]; omega) (by omega)) (fun v s9 h9 => ?_) fun _ _ e => e
  obtain ⟨rfl, h2, tk2, rfl, hk2⟩ := h9
  have F2 := F1.keeps hk2
  have N2 := N1.grown hk2
  refine gtok (s := s) (h := h2) fun td => ?_
  refine wpAny_Constant_bool ?_
  refine isnot_bool ?_
  refine wpAny_truthy_bool ?_
  rw [e4, if_neg (by simp)]
  refine wpAny_execs_nil ?_
  refine gtok (s := s) (h := h2) fun te => ?_
  exact K h2 te F2 N2
end Mine
end

section
open PySem PySem.W PySem.Calls PySem.Spec PyProof.Rows
set_option maxRecDepth 100000
namespace Mine

section
variable {prog : Program} {w : World} {A : Around} {E : Value → Shared → Prop} {s : Shared}
/-- entering a lambda: the frame is fresh, nothing is raised -/
theorem enterL {name qual : Str} {params : Arguments} {body : Expr} {scope : Scope} {cl : List (Str × Addr)} {pm ctv : Value} {c' f : Addr} {pos : List Value} {binds : List (Str × Value)} {Q : Value → Shared → Prop}
    (ho : s.heap.get? f = some (kla_obj name qual params body scope cl pm c' ctv)) (hcd : s.heap.CodeRec (.ref c') qual) (hroom : A.depth < recursionLimit) (hnl : s.heap.NoLimit)
    (hbind : bindArgs (kla_fn name qual params body scope cl pm (.ref c') ctv) ⟨pos, []⟩ = pure binds) (hloc : ∀ y ∈ binds, scope.names.lookup y.1 = some .local)
    (h : ∀ h₁, Fr s.heap s.heap.objs.size h₁ (fun y => binds.reverse.lookup y) →
      wpAny (model prog w) (A.deeper (envX qual scope s.heap.objs.size f (.ref c') cl)) (eval body (envX qual scope s.heap.objs.size f (.ref c') cl)) Q (fun _ _ => False) { s with heap := h₁, toks := s.toks + binds.length })
    (hco : scope.isCoroutine = false := by rfl) (hgen : scope.isGenerator = false := by rfl) (hk : scope.kind = .function := by rfl)
    (hcell : ∀ x ∈ scope.names, x.2 ≠ .cell := by decide) :
    wpAny (model prog w) A (call (.ref f) pos) Q E s := by
  refine wpAny_call (kla_callFunE hroom ho rfl hco hgen rfl hcd ?_)
  rw [hbind]
  refine wpAny_pure (wpAny_newFunctionEnv hcell hloc (fun h₁ hns hsb => ⟨hnl.fresh _ hsb, ?_⟩) hk)
  have hk₁ : ∀ b o, s.heap.get? b = some o → h₁.get? b = some o := fun b o e => hsb.extBut b o (Nat.ne_of_lt (Heap.lt_size e)) (Heap.get?_push_of_some _ e)
  exact kla_codeExpr (wpAny_mono (h h₁ ⟨hns, hk₁, Nat.le_refl _⟩) (fun v s' q => q) fun _ _ q => q.elim)
end

theorem kldF {M : Model} {A : Around} {E : Value → Shared → Prop} {s : Shared} {env : Env} {x : Str} {pos : Pos} {c : Addr} {o : Obj} {v : Value} {Q : Value → Shared → Prop} (ho : s.heap.get? c = some o) (hd : o.data = .cell (some v)) (hc : env.cells.lookup x = some c) (h : Q v s) (hk : env.scope.kind = .function := by rfl) (hx : env.kindOf x = some .free := by rfl)
    (hb : (x == ("__debug__" : Str)) = false := by decide) (hn : (x == ("__classdict__" : Str)) = false := by decide) : wpAny M A (eval (.Name x pos) env) Q E s := wpAny_Name (wpAny_loadName_free hk hx hc ⟨o, ho, hd⟩ h hn) hb

noncomputable def lamSt : Stmt := (lawFor 11).getD 3 default
noncomputable def lamArgs : Arguments := match lamSt with | .Assign _ (.Lambda p _ _ _) _ => p | _ => default
noncomputable def lamBody : PySem.Expr := match lamSt with | .Assign _ (.Lambda _ b _ _) _ => b | _ => default
noncomputable def lamScope : Scope := match lamSt with | .Assign _ (.Lambda _ _ s _) _ => s | _ => default
noncomputable def lamPos : Pos := match lamSt with | .Assign _ (.Lambda _ _ _ p) _ => p | _ => default
def lamQual : Str := Str.ofString "law.<locals>.<lambda>"
abbrev lamClos (L : Addr) : List (Str × Addr) := [(Str.ofString "other", L + 1 + 1 + 1 + 1 + 1), (Str.ofString "gots", L + 1 + 1 + 1 + 1)]
noncomputable abbrev lamObj (L : Addr) (pm : Value) (c' : Addr) (ctv : Value) : Obj := kla_obj (Str.ofString "<lambda>") lamQual lamArgs lamBody lamScope (lamClos L) pm c' ctv

set_option maxHeartbeats 2000000 in
theorem lam_call {w : World} {dp un : Nat} {fr : Option (List Env)} {gd : Option (List Code)} {s : Shared} {L : Addr} {loose : List Str} {mean : ExcName → Option Value} {mg mb : Str → Option Value} {c5 c4 : Obj}
    (X : Frag.In (hd.heap_39 w.params) s.heap) {pv : Program} (T : Top pv loose mean mg mb s.heap) (hroom : dp + 1 < recursionLimit)
    {f c' gn : Addr} {pm ctv : Value} {gv : List Value} {o : Nat} {to tg tw : Tok} {W Go : Str} (ho : s.heap.get? f = some (lamObj L pm c' ctv)) (hcd : s.heap.CodeRec (.ref c') lamQual)
    (g5 : s.heap.get? (L + 1 + 1 + 1 + 1 + 1) = some c5) (g4 : s.heap.get? (L + 1 + 1 + 1 + 1) = some c4) (d5 : c5.data = .cell (some (.int (o : Nat) to))) (d4 : c4.data = .cell (some (.ref gn)))
    (hgn : s.heap.IsList gn gv.toArray) (hgo : gv[o]? = some (.str Go tg)) (ho2 : o < 2) (hWl : W.length ≤ 1000) (hGo : Go.length ≤ 1000) :
    wpAny (model PySem.Challenge.rw_rw0040_01.row.prog w) { handled := none, depth := dp, frames := fr, guards := gd, units := un } (call (.ref f) [.str W tw]) (fun v s' => (∃ t, v = .int (if ematch W Go then 1 else 0) t) ∧ Keeps s s') (fun _ _ => False) s := by
  revert X
  k_fill
  intro X
  have TR := topRead_of T
  have gE : nsIn (hd.heap_39 w.params) mainGlobals (Str.ofString "_ellipsis_match") = some (some (.ref 21)) := by k_is
  refine enterL (binds := [(Str.ofString "want", .str W tw)]) ho hcd (by show dp < _; omega) T.nolimit rfl (fun y hy => by rw [List.mem_singleton.mp hy]; rfl) fun h1 F1 => ?_
  have up : ∀ b o, s.heap.get? b = some o → h1.get? b = some o := F1.keep
  refine IfExp_ ?_
  refine isTrue_plain ?_
  refine Call_ ?_
  refine gnK up X TR gE ?_
  refine callWith_K X (by k_is) ?_
  refine args_cons ?_
  refine nameX_L F1 rfl ?_
  refine args_cons ?_
  refine Subscript_ ?_
  refine kldF (up _ _ g4) d4 rfl ?_
  refine kldF (up _ _ g5) d5 rfl ?_
  refine itemG (vs := gv) (hgn.at fun o e => up _ _ e) (by omega) (by omega) (by rw [Int.toNat_natCast]; exact hgo) ?_
  refine args_nil ⟨X.keeps up, ?_⟩
  refine wpAny_mono (ell_call (by exact X.keeps up) (by exact T.keeps up) hroom W Go _ _ hWl hGo) (fun v s9 h9 => ?_) fun _ _ e => e
  obtain ⟨rfl, h2, tk2, rfl, hk2⟩ := h9
  refine wpAny_truthy_bool ?_
  cases hem : ematch W Go with
  | true =>
    rw [if_pos rfl]
    refine wpAny_Constant_int ?_
    exact ⟨⟨_, rfl⟩, h2, _, rfl, fun b o e => hk2 b o (up b o e)⟩
  | false =>
    rw [if_neg (by decide)]
    refine wpAny_Constant_int ?_
    exact ⟨⟨_, rfl⟩, h2, _, rfl, fun b o e => hk2 b o (up b o e)⟩

/-- the table of codes: empty, or with the code of taken -/
def LamOk (P : List (Addr × Obj)) (ps : Array Value) : Prop :=
  ps = #[] ∨ ∃ (c' : Addr) (oc : Obj) (vs : Array Value) (t : Tok), ps = #[rawInt lamPos.line, rawInt lamPos.col, .ref c'] ∧ (c', oc) ∈ P ∧ oc.data = .fields vs ∧ vs[1]? = some (.str lamQual t)

theorem offUpd67 {L : Addr} {c5 c4 c3 c2 c1 : Obj} {ps : Array Value} {P : List (Addr × Obj)} (hP : Off L P) (h67 : @LT.lt Nat _ 67 L) :
    UpdF (67 : Nat) (tabObj ps) (P ++ lawCells L c5 c4 c3 c2 c1 ps) (fun o => P ++ [(L + 1 + 1 + 1 + 1 + 1, c5), (L + 1 + 1 + 1 + 1, c4), (L + 1 + 1 + 1, c3), (L + 1 + 1, c2), (L + 1, c1), (67, o)]) := by
  have n5 : @Ne Nat (L + 1 + 1 + 1 + 1 + 1) 67 := by have := h67; refine neN ?_; omega
  have n4 : @Ne Nat (L + 1 + 1 + 1 + 1) 67 := by have := h67; refine neN ?_; omega
  have n3 : @Ne Nat (L + 1 + 1 + 1) 67 := by have := h67; refine neN ?_; omega
  have n2 : @Ne Nat (L + 1 + 1) 67 := by have := h67; refine neN ?_; omega
  have n1 : @Ne Nat (L + 1) 67 := by have := h67; refine neN ?_; omega
  exact updF_app (fun p hp => (hP p hp).2) (.tail n5 (.tail n4 (.tail n3 (.tail n2 (.tail n1 (.head all_nil))))))

set_option maxHeartbeats 2000000 in
theorem law5d {w : World} {dp un : Nat} {fr : Option (List Env)} {gd : Option (List Code)} {s : Shared} {h₀ h : Heap} {L fa : Addr} {m : Str → Option Value} {tk : Nat} {loose : List Str} {mean : ExcName → Option Value} {mg mb : Str → Option Value} {Q : Flow → Shared → Prop} {c5 c4 c3 c2 c1 : Obj} {ps : Array Value} {P : List (Addr × Obj)}
    {pv : Program} (T : Top pv loose mean mg mb h₀) (C : CodeHd h₀ 69 67) (h67 : @LT.lt Nat _ 67 L)
    (F : Fr h₀ L h m) (N : News h₀ L h (P ++ lawCells L c5 c4 c3 c2 c1 ps)) (hoff : Off L P) (hlam : LamOk P ps)
    (K : ∀ h' tk' (f c' : Addr) (oc : Obj) (vs : Array Value) (t : Tok) (ctv : Value) (P' : List (Addr × Obj)) (ps' : Array Value), Fr h₀ L h' (fun y => if y = Str.ofString "taken" then some (.ref f) else m y) →
      News h₀ L h' (((f, lamObj L ((mg "__name__").getD .none) c' ctv) :: P') ++ lawCells L c5 c4 c3 c2 c1 ps') → Off L ((f, lamObj L ((mg "__name__").getD .none) c' ctv) :: P') → ((P' = P ∧ ps' = ps) ∨ (P' = (c', oc) :: P ∧ ps' = #[rawInt lamPos.line, rawInt lamPos.col, .ref c'] ∧ ∀ q ∈ P, q.1 ≠ c')) → LamOk P' ps' → (c', oc) ∈ P' → oc.data = .fields vs → vs[1]? = some (.str lamQual t) →
      wpAny (model PySem.Challenge.rw_rw0040_01.row.prog w) { handled := none, depth := dp, frames := fr, guards := gd, units := un } (execs (lawB11 4) (lawEnv L fa)) Q (fun _ _ => False) { s with heap := h', toks := tk' }) :
    wpAny (model PySem.Challenge.rw_rw0040_01.row.prog w) { handled := none, depth := dp, frames := fr, guards := gd, units := un } (execs (lawB11 3) (lawEnv L fa)) Q (fun _ _ => False) { s with heap := h, toks := tk } := by
  refine wpAny_execs_cons ?_
  refine wpAny_Assign_Name ?_
  refine kla_eval (by rfl) ?_
  have hoffN : ∀ {f : Addr} {o : Obj} {S : List (Addr × Obj)} {ps' : Array Value}, (∀ q ∈ S ++ lawCells L c5 c4 c3 c2 c1 ps', q.1 < f) → Off L S → Off L ((f, o) :: S) := fun hlt hS =>
    hS.cons (Nat.ne_of_gt (hlt _ (List.mem_append_right _ (.head _)))) (Nat.ne_of_gt (hlt _ (List.mem_append_right _ (.tail _ (.tail _ (.tail _ (.tail _ (.tail _ (.head _)))))))))
  rcases hlam with rfl | ⟨c', oc, vs, t, rfl, hmc, hod, hov⟩
  · refine kla_nest F N T C rfl (offUpd67 hoff h67) (by kn_triples) (by kn_among) (clos := lamClos L) rfl ?_
    intro f c' oc vs t ctv h' tk' F' N' d1 d2 l1 l2
    refine storeX_L F' N' fun h2 F2 N2 => ?_
    refine gtok (s := s) (h := h2) fun ta => ?_
    have o1 : Off L ((c', oc) :: P) := hoffN l1 hoff
    refine K h2 _ f c' oc vs t ctv ((c', oc) :: P) _ F2 N2 (o1.cons ?_ ?_) (.inr ⟨rfl, rfl, fun q hq => Nat.ne_of_lt (l1 q (List.mem_append_left _ hq))⟩) (.inr ⟨c', oc, vs, t, rfl, .head _, d1, d2⟩) (.head _) d1 d2
    · exact Nat.ne_of_gt (Nat.lt_trans (l1 _ (List.mem_append_right _ (.head _))) l2)
    · exact Nat.ne_of_gt (Nat.lt_trans (l1 _ (List.mem_append_right _ (.tail _ (.tail _ (.tail _ (.tail _ (.tail _ (.head _)))))))) l2)
  · refine kla_hit F N T C rfl (List.mem_append_right _ (.tail _ (.tail _ (.tail _ (.tail _ (.tail _ (.head _))))))) (by kn_triples) (by kn_hit) (clos := lamClos L) rfl ?_
    intro f ctv h' tk' F' N' l1
    refine storeX_L F' N' fun h2 F2 N2 => ?_
    refine gtok (s := s) (h := h2) fun ta => ?_
    exact K h2 _ f c' oc vs t ctv P _ F2 N2 (hoffN l1 hoff) (.inl ⟨rfl, rfl⟩) (.inr ⟨c', oc, vs, t, rfl, hmc, hod, hov⟩) hmc hod hov
end Mine
end

section
open PySem PySem.W PySem.Calls PySem.Spec PyProof.Rows
set_option maxRecDepth 100000
namespace Mine

section
variable {prog : Program} {w : World} {A : Around} {E : Value → Shared → Prop} {s : Shared}
theorem eqGives_bool (a b : Bool) : MeetsSeq.EqGives (.bool a) (.bool b) (a == b) := fun prog w A E s Q h => by
  unfold eqBool
  show wpAny _ _ (if (Value.bool a == Value.bool b) = true then _ else _) Q E s
  by_cases hab : (Value.bool a == Value.bool b) = true
  · rw [if_pos hab]
    have e : a = b := by have := eq_of_beq hab; injection this
    subst e
    exact wpAny_bind (wpAny_rule (wpAny_pure (by simpa using h)))
  · rw [if_neg hab]
    exact wpAny_bind (PyProof.Rows.eq_bool (wpAny_truthy_bool h))
theorem index_b {D : Addr} {bs : List Bool} {n j : Nat} {Q : Value → Shared → Prop} (ho : s.heap.get? D = some { cls := .type "list", data := .seq (List.toArray (bs.map Value.bool)) n }) (hj : bs[j]? = some true) (hno : ∀ i, i < j → bs[i]? = some false) (hz : bs.length ≤ 1000)
    (h : Q (.int ((j : Nat) : Int) s.toks) { s with toks := s.toks + 1 }) : wpAny (model prog w) A (call (.builtin "list.index") [.ref D, .bool true]) Q E s := by
  have hjl : j < bs.length := (List.getElem?_eq_some_iff.mp hj).1
  refine call_meets PySem.F.slot_list_index ⟨_, ho, rfl⟩ PySem.F.entry_list_index (PySem.F.args_list_index_2 _ _)
    (MeetsSeq.list_index D (List.toArray (bs.map Value.bool)) n (.bool true) (fun v => match v with | .bool b => b == true | _ => false) (fun y hy => ?_) j (by simpa using hjl) (by omega) ?_ ?_) ⟨ho, h⟩
  · have hy' : y ∈ bs.map Value.bool := by simpa using hy
    obtain ⟨b, _, rfl⟩ := List.mem_map.mp hy'
    exact eqGives_bool b true
  · obtain ⟨_, e⟩ := List.getElem?_eq_some_iff.mp hj
    simp [e]
  · intro i hi hlt
    obtain ⟨_, e⟩ := List.getElem?_eq_some_iff.mp (hno i hlt)
    simp [e]
end

/-- the inner walk of the bisections -/
noncomputable def lawInB : List Stmt := forB ((lawFor 11).getD 4 default)

set_option maxHeartbeats 2000000 in
theorem law5t {w : World} {dp un : Nat} {fr : Option (List Env)} {gd : Option (List Code)} {s : Shared} {h₀ h : Heap} {L fa : Addr} {m : Str → Option Value} {tk : Nat} {loose : List Str} {mean : ExcName → Option Value} {mg mb : Str → Option Value} {Q : Shared → Prop} {c5 c4 c3 c2 c1 : Obj} {ps : Array Value}
    (X : Frag.In (hd.heap_39 w.params) h₀) {pv : Program} (T : Top pv loose mean mg mb h₀) (hroom : dp + 2 < recursionLimit)
    {wn gn f c' : Addr} {wv gv : List Value} {nn ng : Nat} {P : List (Addr × Obj)} {b e o q : Nat} {to tg tb te tx tq : Tok} {Go : Str} {x : Int} {pm ctv : Value} {oc : Obj} {vs : Array Value} {tv : Tok} {κ : Nat → Int}
    (F : Fr h₀ L h m) (N : News h₀ L h (P ++ lawCells L c5 c4 c3 c2 c1 ps))
    (d5 : c5.data = .cell (some (.int (o : Nat) to))) (d4 : c4.data = .cell (some (.ref gn)))
    (hwn : (wn, ({ cls := .type "list", data := .seq (List.toArray wv) nn } : Obj)) ∈ P) (hgn : (gn, ({ cls := .type "list", data := .seq (List.toArray gv) ng } : Obj)) ∈ P)
    (hf : (f, lamObj L pm c' ctv) ∈ P) (hc' : (c', oc) ∈ P) (hod : oc.data = .fields vs) (hov : vs[1]? = some (.str lamQual tv))
    (hgo : gv[o]? = some (.str Go tg)) (ho2 : o < 2) (hGo : Go.length ≤ 1000) (hbq : b ≤ q) (hqe : q ≤ e) (hel : e ≤ wv.length) (hwl : wv.length ≤ 1000)
    (hk : ∀ i, b ≤ i → i < e → ∃ W t, wv[i]? = some (.str W t) ∧ W.length ≤ 1000 ∧ κ i = if ematch W Go then 1 else 0)
    (h1 : ∀ i, b ≤ i → i < q → κ i < x) (h2 : ∀ i, q ≤ i → i < e → x ≤ κ i)
    (mwn : m (Str.ofString "wants") = some (.ref wn)) (mb' : m (Str.ofString "begin") = some (.int (b : Nat) tb)) (me : m (Str.ofString "end") = some (.int (e : Nat) te)) (mt : m (Str.ofString "taken") = some (.ref f)) (mx : m (Str.ofString "sought") = some (.int x tx)) (mq : m (Str.ofString "spot") = some (.int (q : Nat) tq))
    (K : ∀ h' tk', Fr h₀ L h' m → News h₀ L h' (P ++ lawCells L c5 c4 c3 c2 c1 ps) → Q { s with heap := h', toks := tk' }) :
    wpAny (model PySem.Challenge.rw_rw0040_01.row.prog w) { handled := none, depth := dp, frames := fr, guards := gd, units := un } (execs lawInB (lawEnv L fa)) (fun f s₂ => f = .next ∧ Q s₂) (fun _ _ => False) { s with heap := h, toks := tk } := by
  revert X
  k_fill
  intro X
  have TR := topRead_of T
  have gB : nsIn (hd.heap_39 w.params) mainGlobals (Str.ofString "bisect_left") = some (some (.ref 39)) := by k_is
  have gR : nsIn (hd.heap_39 w.params) mainGlobals (Str.ofString "bisect_right") = some (some (.ref 30)) := by k_is
  have iP : ∀ {p : Addr × Obj}, p ∈ P → p ∈ P ++ lawCells L c5 c4 c3 c2 c1 ps := fun hp => List.mem_append_left _ hp
  have key : ∀ {h : Heap} {tk : Nat}, Fr h₀ L h m → News h₀ L h (P ++ lawCells L c5 c4 c3 c2 c1 ps) → KeyOk w dp { s with heap := h, toks := tk } f wv b e κ := by
    intro h tk F N i v s' un fr gd hbi hie hv hks
    obtain ⟨W, tw, hw, hWl, hκ⟩ := hk i hbi hie
    rw [hv] at hw
    cases hw
    obtain ⟨h9, tk9, rfl, hk9⟩ := hks
    have up : ∀ b o, h₀.get? b = some o → h9.get? b = some o := fun b o e => hk9 b o (F.keep b o e)
    rw [hκ]
    exact lam_call (by exact X.keeps up) (by exact T.keeps up) (by omega) (hk9 _ _ (N.get (iP hf))) ⟨c', oc, vs, tv, rfl, hk9 _ _ (N.get (iP hc')), hod, hov⟩ (hk9 _ _ (N.get (List.mem_append_right _ (.head _)))) (hk9 _ _ (N.get (List.mem_append_right _ (.tail _ (.head _))))) d5 d4 ((N.isList (iP hgn)).at fun o e => hk9 _ _ e) hgo ho2 hWl hGo
  refine wpAny_execs_cons ?_
  refine wpAny_If ?_
  refine wpAny_isTrue_Compare1 ?_
  refine wpAny_Call_Name_kw ?_
  refine nameX_K F X TR gB ?_
  refine callWith_KW X (by k_is) (by rfl) ?_
  refine args_cons ?_
  refine nameX_L F mwn ?_
  refine args_cons ?_
  refine nameX_L F mx ?_
  refine args_cons ?_
  refine nameX_L F mb' ?_
  refine args_cons ?_
  refine nameX_L F me ?_
  refine args_nil ?_
  refine kws_cons ?_
  refine nameX_L F mt ?_
  refine kws_nil ?_
  refine ⟨X.keeps F.keep, ?_⟩
  refine wpAny_mono (bl_call (by exact X.keeps F.keep) (by exact T.keeps F.keep) (by omega) (q := q) (N.isList (iP hwn)) (N.get (iP hf)) hwl hel hbq hqe h1 (fun i a b => Int.not_lt.mpr (h2 i a b)) (key F N)) (fun v s9 h9 => ?_) fun _ _ e => e
  obtain ⟨⟨t9, rfl⟩, h3, tk3, rfl, hk3⟩ := h9
  have F3 := F.keeps hk3
  have N3 := N.grown hk3
  refine gtok (s := s) (h := h3) fun ta => ?_
  refine nameX_L F3 mq ?_
  refine PyProof.Rows.ne_int ?_
  refine wpAny_truthy_bool ?_
  rw [if_neg (by simp)]
  refine wpAny_execs_nil ?_
  refine gtok (s := s) (h := h3) fun tc => ?_
  clear F N hk3
  refine wpAny_execs_cons ?_
  refine wpAny_If ?_
  refine wpAny_isTrue_Compare1 ?_
  refine wpAny_Call_Name_kw ?_
  refine nameX_K F3 X TR gR ?_
  refine callWith_KW X (by k_is) (by rfl) ?_
  refine args_cons ?_
  refine nameX_L F3 mwn ?_
  refine args_cons ?_
  refine wpAny_BinOp ?_
  refine nameX_L F3 mx ?_
  refine wpAny_Constant_int ?_
  refine PyProof.Rows.sub_int ?_
  refine args_cons ?_
  refine nameX_L F3 mb' ?_
  refine args_cons ?_
  refine nameX_L F3 me ?_
  refine args_nil ?_
  refine kws_cons ?_
  refine nameX_L F3 mt ?_
  refine kws_nil ?_
  refine ⟨X.keeps F3.keep, ?_⟩
  refine wpAny_mono (br_call (by exact X.keeps F3.keep) (by exact T.keeps F3.keep) (by omega) (q := q) (N3.isList (iP hwn)) (N3.get (iP hf)) hwl hel hbq hqe (fun i a b => by have := h1 i a b; omega) (fun i a b => by have := h2 i a b; omega) (key F3 N3)) (fun v s9 h9 => ?_) fun _ _ e => e
  obtain ⟨⟨t8, rfl⟩, h4, tk4, rfl, hk4⟩ := h9
  have F4 := F3.keeps hk4
  have N4 := N3.grown hk4
  refine gtok (s := s) (h := h4) fun td => ?_
  refine nameX_L F4 mq ?_
  refine PyProof.Rows.ne_int ?_
  refine wpAny_truthy_bool ?_
  rw [if_neg (by simp)]
  refine wpAny_execs_nil ?_
  refine gtok (s := s) (h := h4) fun te' => ?_
  exact wpAny_execs_nil ⟨rfl, K h4 te' F4 N4⟩
end Mine
end

section
open PySem PySem.W PySem.Calls PySem.Spec PyProof.Rows
set_option maxRecDepth 100000
namespace Mine

def forTg (st : Stmt) : PySem.Expr := match st with
  | .For t _ _ _ _ => t
  | _ => default
noncomputable def lawTgB : PySem.Expr := forTg ((lawFor 11).getD 4 default)

set_option maxHeartbeats 2000000 in
theorem law5p {w : World} {dp un : Nat} {fr : Option (List Env)} {gd : Option (List Code)} {s : Shared} {h₀ h : Heap} {L fa : Addr} {m : Str → Option Value} {tk : Nat} {loose : List Str} {mean : ExcName → Option Value} {mg mb : Str → Option Value} {Q : Shared → Prop} {c5 c4 c3 c2 c1 : Obj} {ps : Array Value}
    (X : Frag.In (hd.heap_39 w.params) h₀) {pv : Program} (T : Top pv loose mean mg mb h₀) (hroom : dp + 2 < recursionLimit)
    {wa wn gn D f c' tx : Addr} {wv gv : List Value} {nn ng ntx : Nat} {P : List (Addr × Obj)} {b e o q : Nat} {to tg ka kb : Tok} {Go : Str} {x : Int} {pm ctv : Value} {oc : Obj} {vs : Array Value} {tv : Tok} {κ : Nat → Int}
    (F : Fr h₀ L h m) (N : News h₀ L h (P ++ lawCells L c5 c4 c3 c2 c1 ps))
    (d5 : c5.data = .cell (some (.int (o : Nat) to))) (d4 : c4.data = .cell (some (.ref gn)))
    (htx : (tx, ({ cls := .type "tuple", data := .seq (List.toArray [Value.int x ka, Value.int (q : Nat) kb]) ntx } : Obj)) ∈ P)
    (hwn : (wn, ({ cls := .type "list", data := .seq (List.toArray wv) nn } : Obj)) ∈ P) (hgn : (gn, ({ cls := .type "list", data := .seq (List.toArray gv) ng } : Obj)) ∈ P)
    (hf : (f, lamObj L pm c' ctv) ∈ P) (hc' : (c', oc) ∈ P) (hod : oc.data = .fields vs) (hov : vs[1]? = some (.str lamQual tv))
    (hgo : gv[o]? = some (.str Go tg)) (ho2 : o < 2) (hGo : Go.length ≤ 1000) (hbq : b ≤ q) (hqe : q ≤ e) (hel : e ≤ wv.length) (hwl : wv.length ≤ 1000)
    (hk : ∀ i, b ≤ i → i < e → ∃ W t, wv[i]? = some (.str W t) ∧ W.length ≤ 1000 ∧ κ i = if ematch W Go then 1 else 0)
    (h1 : ∀ i, b ≤ i → i < q → κ i < x) (h2 : ∀ i, q ≤ i → i < e → x ≤ κ i)
    (hm : Names wa wn D b e m) (mt : m (Str.ofString "taken") = some (.ref f))
    (K : ∀ h' tk' m', Fr h₀ L h' m' → News h₀ L h' (P ++ lawCells L c5 c4 c3 c2 c1 ps) → Names wa wn D b e m' → m' (Str.ofString "taken") = some (.ref f) → Q { s with heap := h', toks := tk' }) :
    wpAny (model PySem.Challenge.rw_rw0040_01.row.prog w) { handled := none, depth := dp, frames := fr, guards := gd, units := un } (assign lawTgB (lawEnv L fa) (.ref tx)) (fun _ s₁ => wpAny (model PySem.Challenge.rw_rw0040_01.row.prog w) { handled := none, depth := dp, frames := fr, guards := gd, units := un } (execs lawInB (lawEnv L fa)) (fun f s₂ => f = .next ∧ Q s₂) (fun _ _ => False) s₁) (fun _ _ => False) { s with heap := h, toks := tk } := by
  have iP : ∀ {p : Addr × Obj}, p ∈ P → p ∈ P ++ lawCells L c5 c4 c3 c2 c1 ps := fun hp => List.mem_append_left _ hp
  obtain ⟨mws, mwn, mD, ⟨tb, mb'⟩, ⟨te, me⟩⟩ := id hm
  refine assign_Tuple_tuple (items := List.toArray [Value.int x ka, Value.int (q : Nat) kb]) rfl (N.isTup (iP htx)) rfl rfl fun h1' he => ?_
  have F1 := F.extBut he (Nat.le_refl _)
  have N1 : News h₀ L h1' (P ++ lawCells L c5 c4 c3 c2 c1 ps) := fun p hp => ⟨he _ _ (Nat.ne_of_lt (Heap.lt_size (N p hp).1)) (N p hp).1, (N p hp).2⟩
  refine gtok (s := s) (h := h1') fun ta => ?_
  refine assignInOrder_cons ?_
  refine wpAny_assign_Name ?_
  refine storeX_L F1 N1 fun h2' F2 N2 => ?_
  refine gtok (s := s) (h := h2') fun tc => ?_
  refine assignInOrder_cons ?_
  refine wpAny_assign_Name ?_
  refine storeX_L F2 N2 fun h3' F3 N3 => ?_
  refine gtok (s := s) (h := h3') fun td => ?_
  refine assignInOrder_nil ?_
  exact law5t X T hroom F3 N3 d5 d4 hwn hgn hf hc' hod hov hgo ho2 hGo hbq hqe hel hwl hk h1 h2 mwn mb' me mt rfl rfl fun h' tk' F' N' => K h' tk' _ F' N' hm mt

set_option maxHeartbeats 2000000 in
theorem law5e {w : World} {dp un : Nat} {fr : Option (List Env)} {gd : Option (List Code)} {s : Shared} {h₀ h : Heap} {L fa : Addr} {m : Str → Option Value} {tk : Nat} {loose : List Str} {mean : ExcName → Option Value} {mg mb : Str → Option Value} {Q : Flow → Shared → Prop} {c5 c4 c3 c2 c1 : Obj} {ps : Array Value}
    (X : Frag.In (hd.heap_39 w.params) h₀) {pv : Program} (T : Top pv loose mean mg mb h₀) (hroom : dp + 2 < recursionLimit)
    {wa wn gn D f c' : Addr} {wv gv : List Value} {nn ng nd : Nat} {P : List (Addr × Obj)} {b e o q : Nat} {to tg : Tok} {Go : Str} {pm ctv : Value} {oc : Obj} {vs : Array Value} {tv : Tok} {bs : List Bool}
    (F : Fr h₀ L h m) (N : News h₀ L h (P ++ lawCells L c5 c4 c3 c2 c1 ps))
    (d5 : c5.data = .cell (some (.int (o : Nat) to))) (d4 : c4.data = .cell (some (.ref gn)))
    (hwn : (wn, ({ cls := .type "list", data := .seq (List.toArray wv) nn } : Obj)) ∈ P) (hgn : (gn, ({ cls := .type "list", data := .seq (List.toArray gv) ng } : Obj)) ∈ P)
    (hD : (D, ({ cls := .type "list", data := .seq (List.toArray (bs.map Value.bool)) nd } : Obj)) ∈ P)
    (hf : (f, lamObj L pm c' ctv) ∈ P) (hc' : (c', oc) ∈ P) (hod : oc.data = .fields vs) (hov : vs[1]? = some (.str lamQual tv))
    (hgo : gv[o]? = some (.str Go tg)) (ho2 : o < 2) (hGo : Go.length ≤ 1000) (hbq : b ≤ q) (hqe : q < e) (hel : e ≤ wv.length) (hwl : wv.length ≤ 1000) (hbl : bs.length ≤ 1000)
    (hq : bs[q - b]? = some true) (hqn : ∀ i, i < q - b → bs[i]? = some false)
    (hk : ∀ i, b ≤ i → i < e → ∃ W t, wv[i]? = some (.str W t) ∧ W.length ≤ 1000 ∧ ematch W Go = decide (q ≤ i))
    (hm : Names wa wn D b e m) (mt : m (Str.ofString "taken") = some (.ref f))
    (K : ∀ h' tk' m', Fr h₀ L h' m' → News h₀ L h' (P ++ lawCells L c5 c4 c3 c2 c1 ps) → Names wa wn D b e m' → Q .next { s with heap := h', toks := tk' }) :
    wpAny (model PySem.Challenge.rw_rw0040_01.row.prog w) { handled := none, depth := dp, frames := fr, guards := gd, units := un } (execs (lawB11 4) (lawEnv L fa)) Q (fun _ _ => False) { s with heap := h, toks := tk } := by
  have iP : ∀ {p : Addr × Obj}, p ∈ P → p ∈ P ++ lawCells L c5 c4 c3 c2 c1 ps := fun hp => List.mem_append_left _ hp
  obtain ⟨mws, mwn, mD, ⟨tb, mb'⟩, ⟨te, me⟩⟩ := id hm
  refine wpAny_execs_cons (wpAny_For ?_ (by intro _; rfl))
  refine Tuple_ ?_
  refine args_cons ?_
  refine Tuple_ ?_
  refine args_cons ?_
  refine wpAny_Constant_int ?_
  refine args_cons ?_
  refine wpAny_BinOp ?_
  refine nameX_L F mb' ?_
  refine MethodCall_ ?_
  refine nameX_L F mD ?_
  refine method_l PySem.F.slot_list_index PySem.F.type_list_index (N.get (iP hD)) ?_
  refine callWith_method1 ?_
  refine args_cons ?_
  refine wpAny_Constant_bool ?_
  refine args_nil ?_
  refine index_b (N.get (iP hD)) hq hqn hbl ?_
  refine PyProof.Rows.add_int ?_
  rw [show ((b : Nat) : Int) + ((q - b : Nat) : Int) = ((q : Nat) : Int) by omega]
  refine args_nil ?_
  refine newTuple_N F N (fun h1 F1 N1 => ?_) (by show 2 ≤ sizeLine; rw [sizeLine_eq]; decide)
  refine gtok (s := s) (h := h1) fun ta => ?_
  refine args_cons ?_
  refine Tuple_ ?_
  refine args_cons ?_
  refine wpAny_Constant_int ?_
  refine args_cons ?_
  refine nameX_L F1 me ?_
  refine args_nil ?_
  refine newTuple_N F1 N1 (fun h2 F2 N2 => ?_) (by show 2 ≤ sizeLine; rw [sizeLine_eq]; decide)
  refine gtok (s := s) (h := h2) fun tc => ?_
  refine args_nil ?_
  refine newTuple_N F2 N2 (fun h3 F3 N3 => ?_) (by show 2 ≤ sizeLine; rw [sizeLine_eq]; decide)
  refine gtok (s := s) (h := h3) fun td => ?_
  obtain ⟨t1, t2, k1, k2, k3, k4, N3⟩ : ∃ (t1 t2 : Addr) (k1 k2 k3 k4 : Tok), News h₀ L h3 ((h2.objs.size, { cls := .type "tuple", data := .seq (List.toArray [Value.ref t1, Value.ref t2]) }) :: (t2, { cls := .type "tuple", data := .seq (List.toArray [Value.int 2 k3, Value.int (e : Nat) k4]) }) :: (t1, { cls := .type "tuple", data := .seq (List.toArray [Value.int 1 k1, Value.int (q : Nat) k2]) }) :: (P ++ lawCells L c5 c4 c3 c2 c1 ps)) := ⟨_, _, _, _, _, _, N3⟩
  clear N2 N1 N F2 F1 F
  obtain ⟨P2, hP2⟩ : ∃ P2, (t2, ({ cls := .type "tuple", data := .seq (List.toArray [Value.int 2 k3, Value.int (e : Nat) k4]) } : Obj)) :: (t1, { cls := .type "tuple", data := .seq (List.toArray [Value.int 1 k1, Value.int (q : Nat) k2]) }) :: P = P2 := ⟨_, rfl⟩
  have htt := N3.isTup (.head _)
  have N4 : News h₀ L h3 (P2 ++ lawCells L c5 c4 c3 c2 c1 ps) := by rw [← hP2]; exact fun p hp => N3 p (.tail _ hp)
  have hPP : ∀ {p : Addr × Obj}, p ∈ P → p ∈ P2 := fun hp => by rw [← hP2]; exact .tail _ (.tail _ hp)
  have hi2 : (t2, ({ cls := .type "tuple", data := .seq (List.toArray [Value.int 2 k3, Value.int (e : Nat) k4]) } : Obj)) ∈ P2 := by rw [← hP2]; exact .head _
  have hi1 : (t1, ({ cls := .type "tuple", data := .seq (List.toArray [Value.int 1 k1, Value.int (q : Nat) k2]) } : Obj)) ∈ P2 := by rw [← hP2]; exact .tail _ (.head _)
  refine for_tupleX (items := [Value.ref t1, Value.ref t2]) (fun _ m' news' => news' = P2 ++ lawCells L c5 c4 c3 c2 c1 ps ∧ Names wa wn D b e m' ∧ m' (Str.ofString "taken") = some (.ref f)) rfl htt (N3 _ (.head _)).2.1 F3 N4 ⟨rfl, hm, mt⟩ ?_ ?_
  · rintro i v m₁ news₁ h' tk' own hv ⟨rfl, hm1, mt1⟩ hown hap hI F' N'
    have N' : News h₀ L h' ((own ++ P2) ++ lawCells L c5 c4 c3 c2 c1 ps) := by rw [List.append_assoc]; exact N'
    have iQ : ∀ {p : Addr × Obj}, p ∈ P2 → p ∈ own ++ P2 := fun hp => List.mem_append_right _ hp
    have fin : ∀ h'' tk'' m'', Fr h₀ L h'' m'' → News h₀ L h'' ((own ++ P2) ++ lawCells L c5 c4 c3 c2 c1 ps) → Names wa wn D b e m'' → m'' (Str.ofString "taken") = some (.ref f) →
        TurnedA h₀ L h3.objs.size own (fun m' news' => news' = P2 ++ lawCells L c5 c4 c3 c2 c1 ps ∧ Names wa wn D b e m' ∧ m' (Str.ofString "taken") = some (.ref f)) { s with heap := h3, toks := td } { s with heap := h'', toks := tk'' } :=
      fun h'' tk'' m'' F'' N'' hn ht => ⟨h'', tk'', m'', P2 ++ lawCells L c5 c4 c3 c2 c1 ps, rfl, F'', by rw [← List.append_assoc]; exact N'', hap, rfl, hn, ht⟩
    have hk' : ∀ i, b ≤ i → i < e → ∃ W t, wv[i]? = some (.str W t) ∧ W.length ≤ 1000 ∧ (fun i => if q ≤ i then (1 : Int) else 0) i = if ematch W Go then 1 else 0 := fun i h1 h2 => by
      obtain ⟨W, t, a1, a2, a3⟩ := hk i h1 h2
      exact ⟨W, t, a1, a2, by rw [a3]; by_cases hc : q ≤ i <;> simp [hc]⟩
    match i, hv with
    | 0, hv =>
      cases hv
      exact wpAny_mono (law5p (κ := fun i => if q ≤ i then (1 : Int) else 0) (q := q) (x := 1) X T hroom F' N' d5 d4 (iQ hi1) (iQ (hPP hwn)) (iQ (hPP hgn)) (iQ (hPP hf)) (iQ (hPP hc')) hod hov hgo ho2 hGo hbq (Nat.le_of_lt hqe) hel hwl hk' (fun i a b => by show (if q ≤ i then (1 : Int) else 0) < 1; rw [if_neg (by omega)]; decide) (fun i a b => by show (1 : Int) ≤ (if q ≤ i then (1 : Int) else 0); rw [if_pos a]; decide) hm1 mt1 fin)
        (fun _ s₂ h₂ => wpAny_mono h₂ (fun f' s₃ h₃ => by obtain ⟨rfl, h₃⟩ := h₃; exact h₃) fun _ _ e => e) fun _ _ e => e
    | 1, hv =>
      cases hv
      exact wpAny_mono (law5p (κ := fun i => if q ≤ i then (1 : Int) else 0) (q := e) (x := 2) X T hroom F' N' d5 d4 (iQ hi2) (iQ (hPP hwn)) (iQ (hPP hgn)) (iQ (hPP hf)) (iQ (hPP hc')) hod hov hgo ho2 hGo (by omega) (Nat.le_refl _) hel hwl hk' (fun i a b => by show (if q ≤ i then (1 : Int) else 0) < 2; split <;> decide) (fun i a b => by omega) hm1 mt1 fin)
        (fun _ s₂ h₂ => wpAny_mono h₂ (fun f' s₃ h₃ => by obtain ⟨rfl, h₃⟩ := h₃; exact h₃) fun _ _ e => e) fun _ _ e => e
  · rintro h' tk' m' news' ⟨rfl, hm', _⟩ F' N'
    refine wpAny_execs_nil (K h' tk' m' F' (fun p hp => ?_) hm')
    rcases List.mem_append.mp hp with hp | hp
    · exact N' p (List.mem_append_left _ (hPP hp))
    · exact N' p (List.mem_append_right _ hp)
end Mine
end

section
open PySem PySem.W PySem.Calls PySem.Spec PyProof.Rows
set_option maxRecDepth 100000
namespace Mine

theorem strs_get {vs : List Value} {xs : List Str} (h : StrsAre vs xs) {i : Nat} {x : Str} (e : xs[i]? = some x) : ∃ t, vs[i]? = some (.str x t) := by
  induction h generalizing i with
  | nil => cases e
  | cons y t _ ih =>
    cases i with
    | zero => cases e; exact ⟨t, rfl⟩
    | succ i => exact ih e
theorem paired_get' {α β : Type} {R : α → β → Prop} {a : List α} {b : List β} (h : Paired R a b) : ∀ {i : Nat} {y : β}, b[i]? = some y → ∃ x, a[i]? = some x ∧ R x y := by
  induction h with
  | nil => intro i x e; cases e
  | cons p _ ih =>
    intro i x e
    match i, e with
    | 0, e => cases e; exact ⟨_, rfl, p⟩
    | i + 1, e => exact ih (i := i) e
theorem due_bs {lt fo : List Int} {l : List (List Int)} {dv : List Value} (f : Nat → Bool) (h : Paired (isDue lt fo) l dv) (hl : ∀ j d, l[j]? = some d → ((∀ p, Rch d lt fo p → 2 ^ d.length ≤ p) ↔ f j = true)) : dv = ((List.range l.length).map f).map Value.bool := by
  have hlen := paired_len h
  refine List.ext_getElem (by simp [hlen]) fun j h1 h2 => ?_
  have hj : j < l.length := by rw [hlen]; exact h1
  obtain ⟨d, hd, b, e, hb⟩ := paired_get' h (List.getElem?_eq_getElem h1)
  rw [e]
  have := hl j d hd
  have hb' : b = f j := by
    rw [this] at hb
    cases b <;> cases hf : f j <;> simp_all
  simp [hb']

/-- what the plain law says of one turn of the main walk -/
structure Seg (WD : List (List Int)) (lt fo me : List Int) (b e q : Nat) : Prop where
  bq : b ≤ q
  qe : q < e
  el : e ≤ WD.length
  hit : ∀ k d, b ≤ k → k < e → WD[k]? = some d → ematch (wantOf d) (gotOf fo) = decide (q ≤ k)
  win : ∀ k d, b ≤ k → k < e → WD[k]? = some d → ((∀ p, Rch d lt fo p → 2 ^ d.length ≤ p) ↔ q ≤ k)
  own : ∀ k d, b ≤ k → k < e → WD[k]? = some d → ematch (wantOf d) (gotOf me) = true
  emp : ∀ k d, b ≤ k → k < e → WD[k]? = some d → ∀ M ∈ d, (∀ a ∈ d, M ≤ a) → ematch (wantOf d) (Str.ofString "") = decide (255 < M)
  pos : ∀ d ∈ WD, 0 < d.length
  len : ∀ d ∈ WD, d.length ≤ 8
  wln : ∀ d ∈ WD, (wantOf d).length ≤ 1000
  four : ematch (want4 (gotOf fo)) (gotOf fo) = false
  fl : (gotOf fo).length ≤ 100
  ml : (gotOf me).length ≤ 1000
  fo8 : fo.length ≤ 8

noncomputable def lawTg : PySem.Expr := forTg (lawBody.getD 11 default)
theorem lawB11_0 : lawB11 0 = lawFor 11 := rfl

set_option maxHeartbeats 2000000 in
theorem law5g {w : World} {dp un : Nat} {fr : Option (List Env)} {gd : Option (List Code)} {s : Shared} {h₀ h : Heap} {L fa : Addr} {m : Str → Option Value} {tk : Nat} {loose : List Str} {mean : ExcName → Option Value} {mg mb : Str → Option Value} {Q : Shared → Prop} {c5 c4 c3 c2 c1 : Obj} {ps : Array Value}
    (X : Frag.In (hd.heap_39 w.params) h₀) {pv : Program} (T : Top pv loose mean mg mb h₀) (C : CodeHd h₀ 69 67) (h67 : @LT.lt Nat _ 67 L) (hroom : dp + 2 < recursionLimit) (hun : un + 200 < cLine)
    {al af wa wn gn fo tx : Addr} {lv fs ws wv gv uo : List Value} {nf nw nn ng no ntx : Nat} {lt dfo dme : List Int} {WD : List (List Int)} {P : List (Addr × Obj)} {b e o q : Nat} {kb ke ko : Tok} {v5 : Option Value}
    (F : Fr h₀ L h m) (N : News h₀ L h (P ++ lawCells L c5 c4 c3 c2 c1 ps)) (hoff : Off L P) (hlam : LamOk P ps)
    (d5 : c5.data = .cell v5) (d4 : c4.data = .cell (some (.ref gn))) (d3 : c3.data = .cell (some (.ref af))) (d1 : c1.data = .cell (some (.ref al)))
    (htx : (tx, ({ cls := .type "tuple", data := .seq (List.toArray [Value.int (b : Nat) kb, Value.int (e : Nat) ke, Value.int (o : Nat) ko]) ntx } : Obj)) ∈ P)
    (hal : (al, ({ cls := .type "list", data := .seq (List.toArray lv) } : Obj)) ∈ P) (haf : (af, ({ cls := .type "list", data := .seq (List.toArray fs) nf } : Obj)) ∈ P) (hwa : (wa, ({ cls := .type "list", data := .seq (List.toArray ws) nw } : Obj)) ∈ P)
    (hwn : (wn, ({ cls := .type "list", data := .seq (List.toArray wv) nn } : Obj)) ∈ P) (hgn : (gn, ({ cls := .type "list", data := .seq (List.toArray gv) ng } : Obj)) ∈ P)
    (hfo : (fo, ({ cls := .type "list", data := .seq (List.toArray uo) no } : Obj)) ∈ P) (hfs : fs[o]? = some (.ref fo)) (ho2 : o < 2)
    (hlv : IntsAre lv lt) (hlt : lt.length = 2) (huo : IntsAre uo dfo) (hP : Paired (isW P) ws WD) (hWl : WD.length ≤ 20) (hwv : StrsAre wv (WD.map wantOf)) (hgo : ∃ t, gv[o]? = some (.str (gotOf dfo) t)) (hgm : ∃ t, gv[1 - o]? = some (.str (gotOf dme) t))
    (mw : m (Str.ofString "wides") = some (.ref wa)) (mwn : m (Str.ofString "wants") = some (.ref wn)) (S : Seg WD lt dfo dme b e q)
    (K : ∀ h' tk' m' P' (c5' : Obj) (v5' : Option Value) (ps' : Array Value), Fr h₀ L h' m' → News h₀ L h' (P' ++ lawCells L c5' c4 c3 c2 c1 ps') → Off L P' → LamOk P' ps' → c5'.data = .cell v5' → ((P' = P ∧ ps' = ps) ∨ ∃ c' oc vs t, P' = (c', oc) :: P ∧ ps' = #[rawInt lamPos.line, rawInt lamPos.col, .ref c'] ∧ oc.data = .fields vs ∧ vs[1]? = some (.str lamQual t) ∧ ∀ q ∈ P, q.1 ≠ c') →
      m' (Str.ofString "wides") = some (.ref wa) → m' (Str.ofString "wants") = some (.ref wn) → Q { s with heap := h', toks := tk' }) :
    wpAny (model PySem.Challenge.rw_rw0040_01.row.prog w) { handled := none, depth := dp, frames := fr, guards := gd, units := un } (assign lawTg (lawEnv L fa) (.ref tx)) (fun _ s₁ => wpAny (model PySem.Challenge.rw_rw0040_01.row.prog w) { handled := none, depth := dp, frames := fr, guards := gd, units := un } (execs (lawFor 11) (lawEnv L fa)) (fun f s₂ => f = .next ∧ Q s₂) (fun _ _ => False) s₁) (fun _ _ => False) { s with heap := h, toks := tk } := by
  have iP : ∀ {p : Addr × Obj}, p ∈ P → p ∈ P ++ lawCells L c5 c4 c3 c2 c1 ps := fun hp => List.mem_append_left _ hp
  refine assign_Tuple_tuple (items := List.toArray [Value.int (b : Nat) kb, Value.int (e : Nat) ke, Value.int (o : Nat) ko]) rfl (N.isTup (iP htx)) rfl rfl fun h1' he => ?_
  have F1 := F.extBut he (Nat.le_refl _)
  have N1 : News h₀ L h1' (P ++ lawCells L c5 c4 c3 c2 c1 ps) := fun p hp => ⟨he _ _ (Nat.ne_of_lt (Heap.lt_size (N p hp).1)) (N p hp).1, (N p hp).2⟩
  refine gtok (s := s) (h := h1') fun ta => ?_
  refine assignInOrder_cons ?_
  refine wpAny_assign_Name ?_
  refine storeX_L F1 N1 fun h2' F2 N2 => ?_
  refine gtok (s := s) (h := h2') fun tc => ?_
  refine assignInOrder_cons ?_
  refine wpAny_assign_Name ?_
  refine storeX_L F2 N2 fun h3' F3 N3 => ?_
  refine gtok (s := s) (h := h3') fun td => ?_
  refine assignInOrder_cons ?_
  refine wpAny_assign_Name ?_
  refine storeX_C F3 N3 (c := L + 1 + 1 + 1 + 1 + 1) rfl (offUpd5 hoff h67) d5 fun h4 c5' F4 N4 d5' => ?_
  refine gtok (s := s) (h := h4) fun te => ?_
  refine assignInOrder_nil ?_
  clear N3 N2 N1 N F3 F2 F1 F
  have hbe : b ≤ e := Nat.le_trans S.bq (Nat.le_of_lt S.qe)
  have hel := S.el
  refine law5a X T (by omega) hun F4 N4 hoff d5' d3 d1 hal haf hwa hfo hfs ho2 hlv hlt huo S.fo8 hP S.len hWl rfl rfl mw hbe S.el ?_
  intro h5 tk5 m5 D dv nd F5 N5 o5 hm5 hdue
  subst hm5
  have hsegl : ((WD.drop b).take (e - b)).length = e - b := by rw [List.length_take, List.length_drop]; omega
  have hseg : ∀ j d, ((WD.drop b).take (e - b))[j]? = some d → j < e - b ∧ WD[b + j]? = some d := fun j d hd => by
    have hj : j < e - b := by have := (List.getElem?_eq_some_iff.mp hd).1; omega
    rw [List.getElem?_take_of_lt hj, List.getElem?_drop] at hd
    exact ⟨hj, hd⟩
  have hdv := due_bs (fun j => decide (q ≤ b + j)) hdue (fun j d hd => by
    obtain ⟨hj, hd⟩ := hseg j d hd
    rw [S.win (b + j) d (by omega) (by omega) hd]; simp)
  rw [hsegl] at hdv
  subst hdv
  have hwsl : ws.length = WD.length := paired_len hP
  have hwvl : wv.length = WD.length := by rw [hwv.length, List.length_map]
  have turn : ∀ k, b ≤ k → k < e → Turn ((D, ({ cls := .type "list", data := .seq (List.toArray (((List.range (e - b)).map fun j => decide (q ≤ b + j)).map Value.bool)) nd } : Obj)) :: P) ws wv (((List.range (e - b)).map fun j => decide (q ≤ b + j)).map Value.bool) b k (gotOf dfo) (gotOf dme) := fun k h1 h2 => by
    have hk : k < WD.length := by omega
    have hd := List.getElem?_eq_getElem hk
    obtain ⟨v, hv, wd, dd, ndd, rfl, hm, hi⟩ := paired_get' hP hd
    have hmem : WD[k] ∈ WD := List.getElem_mem hk
    refine ⟨wd, dd, ndd, WD[k], wantOf WD[k], decide (q ≤ k), hv, .tail _ hm, hi, S.pos _ hmem, strs_get hwv (by rw [List.getElem?_map, hd]; rfl), ?_, S.wln _ hmem, S.hit k _ h1 h2 hd, S.own k _ h1 h2 hd, S.emp k _ h1 h2 hd⟩
    rw [List.getElem?_map, List.getElem?_map, List.getElem?_range (by omega)]
    simp [show b + (k - b) = k by omega]
  refine law5b X T (by omega) F5 N5 d5' d4 (.tail _ hwa) (.tail _ hwn) (.tail _ hgn) (.head _) hgo hgm ho2 hbe (by omega) (by have := S.fl; omega) S.ml turn ⟨mw, mwn, rfl, ⟨_, rfl⟩, ⟨_, rfl⟩⟩ ?_
  intro h6 tk6 m6 F6 N6 hm6
  refine law5c X T (by omega) F6 N6 d5' d4 (.tail _ hgn) hgo ho2 S.fl S.four ?_
  intro h7 tk7 F7 N7
  have hlam1 : LamOk ((D, ({ cls := .type "list", data := .seq (List.toArray (((List.range (e - b)).map fun j => decide (q ≤ b + j)).map Value.bool)) nd } : Obj)) :: P) ps := by
    rcases hlam with h | ⟨c', oc, vs, t, a1, a2, a3, a4⟩
    · exact .inl h
    · exact .inr ⟨c', oc, vs, t, a1, .tail _ a2, a3, a4⟩
  refine law5d T C h67 F7 N7 o5 hlam1 ?_
  intro h8 tk8 f c' oc vs t ctv P' ps' F8 N8 o8 hP' hlam' hc' hod hov
  have sub : ∀ {p : Addr × Obj}, p ∈ (D, ({ cls := .type "list", data := .seq (List.toArray (((List.range (e - b)).map fun j => decide (q ≤ b + j)).map Value.bool)) nd } : Obj)) :: P → p ∈ (f, lamObj L ((mg "__name__").getD .none) c' ctv) :: P' := fun hp => by
    rcases hP' with ⟨rfl, hps⟩ | ⟨rfl, hps, hcn⟩
    · exact .tail _ hp
    · exact .tail _ (.tail _ hp)
  obtain ⟨tgo, hgo'⟩ := hgo
  refine law5e X T hroom (q := q) F8 N8 d5' d4 (sub (.tail _ hwn)) (sub (.tail _ hgn)) (sub (.head _)) (.head _) (.tail _ hc') hod hov hgo' ho2 (by have := S.fl; omega) S.bq S.qe (by omega) (by omega) (by simp; omega) ?_ ?_ ?_ ⟨hm6.1, hm6.2.1, hm6.2.2.1, hm6.2.2.2.1, hm6.2.2.2.2⟩ rfl ?_
  · have := S.bq
    have := S.qe
    rw [List.getElem?_map, List.getElem?_range (by omega)]
    simp; omega
  · intro i hi
    have := S.qe
    rw [List.getElem?_map, List.getElem?_range (by omega)]
    simp; omega
  · intro i h1 h2
    have hk : i < WD.length := by omega
    have hd := List.getElem?_eq_getElem hk
    obtain ⟨t, ht⟩ := strs_get hwv (i := i) (x := wantOf WD[i]) (by rw [List.getElem?_map, hd]; rfl)
    exact ⟨_, t, ht, S.wln _ (List.getElem_mem hk), S.hit i _ h1 h2 hd⟩
  · intro h9 tk9 m9 F9 N9 hm9
    refine ⟨rfl, ?_⟩
    have stay : ∀ {p : Addr × Obj} {vs : Array Value}, p ∈ (D, ({ cls := .type "list", data := .seq (List.toArray (((List.range (e - b)).map fun j => decide (q ≤ b + j)).map Value.bool)) nd } : Obj)) :: P → p.2.data = .fields vs → p ∈ P := fun hp hf => by
      rcases List.mem_cons.mp hp with rfl | hp
      · cases hf
      · exact hp
    rcases hP' with ⟨rfl, hps⟩ | ⟨rfl, hps, hcn⟩
    · refine K h9 tk9 m9 P c5' _ ps' F9 (fun p hp => ?_) hoff ?_ d5' (.inl ⟨rfl, hps⟩) hm9.1 hm9.2.1
      · rcases List.mem_append.mp hp with hp | hp
        · exact N9 p (.tail _ (.tail _ (List.mem_append_left _ hp)))
        · exact N9 p (.tail _ (.tail _ (List.mem_append_right _ hp)))
      · rcases hlam' with h | ⟨c2, oc2, vs2, t2, a1, a2, a3, a4⟩
        · exact .inl h
        · exact .inr ⟨c2, oc2, vs2, t2, a1, stay a2 a3, a3, a4⟩
    · refine K h9 tk9 m9 ((c', oc) :: P) c5' _ ps' F9 (fun p hp => ?_) (fun p hp => ?_) ?_ d5' (.inr ⟨c', oc, vs, t, rfl, hps, hod, hov, fun q hq => hcn q (.tail _ hq)⟩) hm9.1 hm9.2.1
      · rcases List.mem_cons.mp hp with rfl | hp
        · exact N9 _ (.tail _ (.head _))
        · rcases List.mem_append.mp hp with hp | hp
          · exact N9 p (.tail _ (.tail _ (.tail _ (List.mem_append_left _ hp))))
          · exact N9 p (.tail _ (.tail _ (.tail _ (List.mem_append_right _ hp))))
      · rcases List.mem_cons.mp hp with rfl | hp
        · exact o8 _ (.tail _ (.head _))
        · exact hoff p hp
      · rcases hlam' with h | ⟨c2, oc2, vs2, t2, a1, a2, a3, a4⟩
        · exact .inl h
        · refine .inr ⟨c2, oc2, vs2, t2, a1, ?_, a3, a4⟩
          rcases List.mem_cons.mp a2 with e | a2
          · rw [e]; exact .head _
          · exact .tail _ (stay a2 a3)
end Mine
end

section
open PySem PySem.W PySem.Calls PySem.Spec PyProof.Rows
set_option maxRecDepth 100000
namespace Mine

set_option maxHeartbeats 2000000 in
theorem law5 {w : World} {dp un : Nat} {fr : Option (List Env)} {gd : Option (List Code)} {s : Shared} {h₀ h : Heap} {L fa : Addr} {m : Str → Option Value} {tk : Nat} {loose : List Str} {mean : ExcName → Option Value} {mg mb : Str → Option Value} {Q : Flow → Shared → Prop} {c5 c4 c3 c2 c1 : Obj}
    (X : Frag.In (hd.heap_39 w.params) h₀) {pv : Program} (T : Top pv loose mean mg mb h₀) (C : CodeHd h₀ 69 67) (h67 : @LT.lt Nat _ 67 L) (hroom : dp + 2 < recursionLimit) (hun : un + 200 < cLine)
    {al af wa wn gn f0 f1 : Addr} {lv ws wv gv u0 u1 : List Value} {fs : List Value} {nf nw nn ng n0 n1 : Nat} {lt d0 d1 : List Int} {WD : List (List Int)} {P : List (Addr × Obj)} {q0 q1 : Nat} {v5 : Option Value}
    (F : Fr h₀ L h m) (N : News h₀ L h (P ++ lawCells L c5 c4 c3 c2 c1 #[])) (hoff : Off L P)
    (d5 : c5.data = .cell v5) (d4 : c4.data = .cell (some (.ref gn))) (d3 : c3.data = .cell (some (.ref af))) (d1' : c1.data = .cell (some (.ref al)))
    (hal : (al, ({ cls := .type "list", data := .seq (List.toArray lv) } : Obj)) ∈ P) (haf : (af, ({ cls := .type "list", data := .seq (List.toArray fs) nf } : Obj)) ∈ P) (hwa : (wa, ({ cls := .type "list", data := .seq (List.toArray ws) nw } : Obj)) ∈ P)
    (hwn : (wn, ({ cls := .type "list", data := .seq (List.toArray wv) nn } : Obj)) ∈ P) (hgn : (gn, ({ cls := .type "list", data := .seq (List.toArray gv) ng } : Obj)) ∈ P)
    (hf0 : (f0, ({ cls := .type "list", data := .seq (List.toArray u0) n0 } : Obj)) ∈ P) (hf1 : (f1, ({ cls := .type "list", data := .seq (List.toArray u1) n1 } : Obj)) ∈ P) (hfs0 : fs[0]? = some (.ref f0)) (hfs1 : fs[1]? = some (.ref f1))
    (hlv : IntsAre lv lt) (hlt : lt.length = 2) (hu0 : IntsAre u0 d0) (hu1 : IntsAre u1 d1) (hP : Paired (isW P) ws WD) (hWl : WD.length ≤ 20) (hwv : StrsAre wv (WD.map wantOf)) (hgv : StrsAre gv [gotOf d0, gotOf d1])
    (mw : m (Str.ofString "wides") = some (.ref wa)) (mwn : m (Str.ofString "wants") = some (.ref wn)) (S0 : Seg WD lt d1 d0 0 6 q0) (S1 : Seg WD lt d0 d1 6 10 q1)
    (K : ∀ h' tk' m' P' (c5' : Obj) (ps' : Array Value), Fr h₀ L h' m' → News h₀ L h' (P' ++ lawCells L c5' c4 c3 c2 c1 ps') → Q (.ret (.bool true)) { s with heap := h', toks := tk' }) :
    wpAny (model PySem.Challenge.rw_rw0040_01.row.prog w) { handled := none, depth := dp, frames := fr, guards := gd, units := un } (execs (lawRest 11) (lawEnv L fa)) Q (fun _ _ => False) { s with heap := h, toks := tk } := by
  obtain ⟨tg0, hg0⟩ := strs_get hgv (i := 0) rfl
  obtain ⟨tg1, hg1⟩ := strs_get hgv (i := 1) rfl
  refine wpAny_execs_cons (wpAny_For ?_ (by intro _; rfl))
  refine Tuple_ ?_
  refine args_cons ?_
  refine Tuple_ ?_
  refine args_cons ?_
  refine wpAny_Constant_int ?_
  refine args_cons ?_
  refine wpAny_Constant_int ?_
  refine args_cons ?_
  refine wpAny_Constant_int ?_
  refine args_nil ?_
  refine newTuple_N F N (fun h1 F1 N1 => ?_) (by show 3 ≤ sizeLine; rw [sizeLine_eq]; decide)
  refine gtok (s := s) (h := h1) fun ta => ?_
  refine args_cons ?_
  refine Tuple_ ?_
  refine args_cons ?_
  refine wpAny_Constant_int ?_
  refine args_cons ?_
  refine wpAny_Constant_int ?_
  refine args_cons ?_
  refine wpAny_Constant_int ?_
  refine args_nil ?_
  refine newTuple_N F1 N1 (fun h2 F2 N2 => ?_) (by show 3 ≤ sizeLine; rw [sizeLine_eq]; decide)
  refine gtok (s := s) (h := h2) fun tb => ?_
  refine args_nil ?_
  refine newTuple_N F2 N2 (fun h3 F3 N3 => ?_) (by show 2 ≤ sizeLine; rw [sizeLine_eq]; decide)
  refine gtok (s := s) (h := h3) fun td => ?_
  have hne : ∀ q ∈ P ++ lawCells L c5 c4 c3 c2 c1 #[], q.1 ≠ h.objs.size ∧ q.1 ≠ h1.objs.size ∧ q.1 ≠ h2.objs.size := fun q hq =>
    ⟨Nat.ne_of_lt (Heap.lt_size (N q hq).1), Nat.ne_of_lt (Heap.lt_size (N1 q (.tail _ hq)).1), Nat.ne_of_lt (Heap.lt_size (N2 q (.tail _ (.tail _ hq))).1)⟩
  obtain ⟨t1, t2, k1, k2, k3, k4, k5, k6, N3, hn1, hn2⟩ : ∃ (t1 t2 : Addr) (k1 k2 k3 k4 k5 k6 : Tok), News h₀ L h3 ((h2.objs.size, { cls := .type "tuple", data := .seq (List.toArray [Value.ref t1, Value.ref t2]) }) :: (t2, { cls := .type "tuple", data := .seq (List.toArray [Value.int 6 k4, Value.int 10 k5, Value.int 0 k6]) }) :: (t1, { cls := .type "tuple", data := .seq (List.toArray [Value.int 0 k1, Value.int 6 k2, Value.int 1 k3]) }) :: (P ++ lawCells L c5 c4 c3 c2 c1 #[])) ∧
      (∀ q ∈ P ++ lawCells L c5 c4 c3 c2 c1 #[], q.1 ≠ t1) ∧ (∀ q ∈ P ++ lawCells L c5 c4 c3 c2 c1 #[], q.1 ≠ t2) := ⟨_, _, _, _, _, _, _, _, N3, fun q hq => (hne q hq).1, fun q hq => (hne q hq).2.1⟩
  have hnt : ∀ q ∈ P ++ lawCells L c5 c4 c3 c2 c1 #[], q.1 ≠ h2.objs.size := fun q hq => (hne q hq).2.2
  clear N2 N1 N F2 F1 F hne
  have a5 : (L + 1 + 1 + 1 + 1 + 1, c5) ∈ P ++ lawCells L c5 c4 c3 c2 c1 #[] := List.mem_append_right _ (.head _)
  have a67 : ((67 : Nat), tabObj #[]) ∈ P ++ lawCells L c5 c4 c3 c2 c1 #[] := List.mem_append_right _ (.tail _ (.tail _ (.tail _ (.tail _ (.tail _ (.head _))))))
  obtain ⟨P2, hP2⟩ : ∃ P2, (t2, ({ cls := .type "tuple", data := .seq (List.toArray [Value.int 6 k4, Value.int 10 k5, Value.int 0 k6]) } : Obj)) :: (t1, { cls := .type "tuple", data := .seq (List.toArray [Value.int 0 k1, Value.int 6 k2, Value.int 1 k3]) }) :: P = P2 := ⟨_, rfl⟩
  have htt := N3.isTup (.head _)
  have N4 : News h₀ L h3 (([] ++ P2) ++ lawCells L c5 c4 c3 c2 c1 #[]) := by rw [← hP2]; exact fun p hp => N3 p (.tail _ hp)
  have off2 : Off L ([] ++ P2) := by rw [← hP2]; exact (hoff.cons (Ne.symm (hn1 _ a5)) (Ne.symm (hn1 _ a67))).cons (Ne.symm (hn2 _ a5)) (Ne.symm (hn2 _ a67))
  have hPP : ∀ {p : Addr × Obj}, p ∈ P → p ∈ P2 := fun hp => by rw [← hP2]; exact .tail _ (.tail _ hp)
  have hi2 : (t2, ({ cls := .type "tuple", data := .seq (List.toArray [Value.int 6 k4, Value.int 10 k5, Value.int 0 k6]) } : Obj)) ∈ P2 := by rw [← hP2]; exact .head _
  have hi1 : (t1, ({ cls := .type "tuple", data := .seq (List.toArray [Value.int 0 k1, Value.int 6 k2, Value.int 1 k3]) } : Obj)) ∈ P2 := by rw [← hP2]; exact .tail _ (.head _)
  refine for_tupleX (items := [Value.ref t1, Value.ref t2]) (fun _ m' news' => ∃ (Y : List (Addr × Obj)) (c5' : Obj) (v5' : Option Value) (ps' : Array Value), news' = (Y ++ P2) ++ lawCells L c5' c4 c3 c2 c1 ps' ∧ Off L (Y ++ P2) ∧ LamOk (Y ++ P2) ps' ∧ c5'.data = .cell v5' ∧ m' (Str.ofString "wides") = some (.ref wa) ∧ m' (Str.ofString "wants") = some (.ref wn)) rfl htt (N3 _ (.head _)).2.1 F3 N4 ⟨[], c5, v5, #[], rfl, off2, .inl rfl, d5, mw, mwn⟩ ?_ ?_
  · rintro i v m₁ news₁ h' tk' own hv ⟨Y, c5', v5', ps', rfl, hoffY, hlamY, d5', mw', mwn'⟩ hown hap hI F' N'
    have N' : News h₀ L h' ((own ++ (Y ++ P2)) ++ lawCells L c5' c4 c3 c2 c1 ps') := by rw [List.append_assoc]; exact N'
    have iQ : ∀ {p : Addr × Obj}, p ∈ P2 → p ∈ own ++ (Y ++ P2) := fun hp => List.mem_append_right _ (List.mem_append_right _ hp)
    have hoffO : Off L (own ++ (Y ++ P2)) := fun p hp => by
      rcases List.mem_append.mp hp with hp | hp
      · rcases hown p hp with e | e
        · exact ⟨e ▸ Ne.symm (hnt _ a5), e ▸ Ne.symm (hnt _ a67)⟩
        · refine ⟨e ▸ Ne.symm (hap (L + 1 + 1 + 1 + 1 + 1, c5') (List.mem_append_right _ (.head _))), e ▸ Ne.symm (hap ((67 : Nat), tabObj ps') (List.mem_append_right _ (.tail _ (.tail _ (.tail _ (.tail _ (.tail _ (.head _))))))))⟩
      · exact hoffY p hp
    have hlamO : LamOk (own ++ (Y ++ P2)) ps' := by
      rcases hlamY with h | ⟨c', oc, vs, t, b1, b2, b3, b4⟩
      · exact .inl h
      · exact .inr ⟨c', oc, vs, t, b1, List.mem_append_right _ b2, b3, b4⟩
    have hPO : Paired (isW (own ++ (Y ++ P2))) ws WD := isW_mono (fun p hp => iQ (hPP hp)) hP
    obtain ⟨oI, hoI⟩ := hI
    have fin : ∀ h'' tk'' m'' P' (c5'' : Obj) (v5'' : Option Value) (ps'' : Array Value), Fr h₀ L h'' m'' → News h₀ L h'' (P' ++ lawCells L c5'' c4 c3 c2 c1 ps'') → Off L P' → LamOk P' ps'' → c5''.data = .cell v5'' →
        ((P' = own ++ (Y ++ P2) ∧ ps'' = ps') ∨ ∃ c' oc vs t, P' = (c', oc) :: (own ++ (Y ++ P2)) ∧ ps'' = #[rawInt lamPos.line, rawInt lamPos.col, .ref c'] ∧ oc.data = .fields vs ∧ vs[1]? = some (.str lamQual t) ∧ ∀ q ∈ own ++ (Y ++ P2), q.1 ≠ c') →
        m'' (Str.ofString "wides") = some (.ref wa) → m'' (Str.ofString "wants") = some (.ref wn) →
        TurnedA h₀ L h3.objs.size own (fun m' news' => ∃ (Y : List (Addr × Obj)) (c5' : Obj) (v5' : Option Value) (ps' : Array Value), news' = (Y ++ P2) ++ lawCells L c5' c4 c3 c2 c1 ps' ∧ Off L (Y ++ P2) ∧ LamOk (Y ++ P2) ps' ∧ c5'.data = .cell v5' ∧ m' (Str.ofString "wides") = some (.ref wa) ∧ m' (Str.ofString "wants") = some (.ref wn)) { s with heap := h3, toks := td } { s with heap := h'', toks := tk'' } := by
      intro h'' tk'' m'' P' c5'' v5'' ps'' F'' N'' o'' l'' d'' hcase hw hn
      rcases hcase with ⟨rfl, rfl⟩ | ⟨c', oc, vs, t, rfl, rfl, hod, hov, hcn⟩
      · refine ⟨h'', tk'', m'', (Y ++ P2) ++ lawCells L c5'' c4 c3 c2 c1 ps'', rfl, F'', by rw [← List.append_assoc]; exact N'', ?_, Y, c5'', v5'', ps'', rfl, hoffY, hlamY, d'', hw, hn⟩
        exact apart_map hap (by simp)
      · refine ⟨h'', tk'', m'', (((c', oc) :: Y) ++ P2) ++ lawCells L c5'' c4 c3 c2 c1 _, rfl, F'', ?_, ?_, (c', oc) :: Y, c5'', v5'', _, rfl, ?_, .inr ⟨c', oc, vs, t, rfl, .head _, hod, hov⟩, d'', hw, hn⟩
        · intro p hp
          rcases List.mem_append.mp hp with hp | hp
          · exact N'' p (.tail _ (List.mem_append_left _ (List.mem_append_left _ hp)))
          · rcases List.mem_cons.mp hp with rfl | hp
            · exact N'' _ (.head _)
            · rcases List.mem_append.mp hp with hp | hp
              · exact N'' p (.tail _ (List.mem_append_left _ (List.mem_append_right _ hp)))
              · exact N'' p (.tail _ (List.mem_append_right _ hp))
        · intro p hp
          rcases List.mem_cons.mp hp with rfl | hp
          · exact Ne.symm (hcn _ (List.mem_append_left _ hoI))
          · exact apart_map hap (B := (Y ++ P2) ++ lawCells L c5'' c4 c3 c2 c1 #[rawInt lamPos.line, rawInt lamPos.col, .ref c']) (by simp) p hp
        · intro p hp
          rcases List.mem_cons.mp hp with rfl | hp
          · exact o'' _ (.head _)
          · exact hoffY p hp
    match i, hv with
    | 0, hv =>
      cases hv
      exact wpAny_mono (law5g (b := 0) (e := 6) (o := 1) X T C h67 hroom hun F' N' hoffO hlamO d5' d4 d3 d1' (iQ hi1) (iQ (hPP hal)) (iQ (hPP haf)) (iQ (hPP hwa)) (iQ (hPP hwn)) (iQ (hPP hgn)) (iQ (hPP hf1)) hfs1 (by decide) hlv hlt hu1 hPO hWl hwv ⟨_, hg1⟩ ⟨_, hg0⟩ mw' mwn' S0 fin)
        (fun _ s₂ h₂ => wpAny_mono h₂ (fun f' s₃ h₃ => by obtain ⟨rfl, h₃⟩ := h₃; exact h₃) fun _ _ e => e) fun _ _ e => e
    | 1, hv =>
      cases hv
      exact wpAny_mono (law5g (b := 6) (e := 10) (o := 0) X T C h67 hroom hun F' N' hoffO hlamO d5' d4 d3 d1' (iQ hi2) (iQ (hPP hal)) (iQ (hPP haf)) (iQ (hPP hwa)) (iQ (hPP hwn)) (iQ (hPP hgn)) (iQ (hPP hf0)) hfs0 (by decide) hlv hlt hu0 hPO hWl hwv ⟨_, hg0⟩ ⟨_, hg1⟩ mw' mwn' S1 fin)
        (fun _ s₂ h₂ => wpAny_mono h₂ (fun f' s₃ h₃ => by obtain ⟨rfl, h₃⟩ := h₃; exact h₃) fun _ _ e => e) fun _ _ e => e
  · rintro h' tk' m' news' ⟨Y, c5', v5', ps', rfl, _⟩ F' N'
    refine wpAny_execs_cons ?_
    refine wpAny_Return_some ?_
    refine wpAny_Constant_bool ?_
    exact K h' _ m' _ c5' ps' F' N'
end Mine
end

section
open PySem PySem.Builtin.Str PyProof.Rows
namespace Mine

theorem nil_str : Str.ofString "" = strL [] := by decide +kernel
theorem dots_str : Str.ofString "..." = strL [46, 46, 46] := by decide +kernel
theorem strL_app (a b : List Nat) : strL a ++ strL b = strL (a ++ b) := by
  apply Str.ext'
  apply Array.toList_inj.mp
  rw [Str.cps_append, Array.toList_append]; rfl
theorem join_list : ∀ l : List (List Nat), Str.join (strL []) (l.map strL) = strL l.flatten
  | [] => rfl
  | [a] => by simp [Str.join]
  | a :: b :: l => by
    have ih := join_list (b :: l)
    show strL a ++ strL [] ++ Str.join (strL []) ((b :: l).map strL) = _
    rw [ih, strL_app, strL_app, List.append_nil]; rfl
theorem txt_join (l : List (List Nat)) : Txt.join (Str.ofString "") (l.map strL) = strL l.flatten := by
  rw [Txt.join, nil_str, StrLaws.glued_eq_join, join_list]
theorem wantOf_eq (d : List Int) : wantOf d = strL (sgn (patOf d)) := by
  have : d.map wsym = (d.map fun x => if x < 256 then [x.toNat] else [46, 46, 46]).map strL := by
    rw [List.map_map]
    refine List.map_congr_left fun x _ => ?_
    show wsym x = strL (if x < 256 then [x.toNat] else [46, 46, 46])
    unfold wsym
    split
    · rfl
    · exact dots_str
  rw [wantOf, this, txt_join]
  congr 1
  clear this
  induction d with
  | nil => rfl
  | cons x d ih =>
    rw [List.map_cons, List.flatten_cons, ih]
    unfold patOf
    rw [List.map_cons]
    split <;> rfl
theorem gotOf_eq (f : List Int) : gotOf f = strL (wordOf f) := by
  have : f.map gsym = (f.map fun x => [x.toNat]).map strL := by
    rw [List.map_map]; rfl
  rw [gotOf, this, txt_join]
  congr 1
  clear this
  induction f with
  | nil => rfl
  | cons x d ih => rw [List.map_cons, List.flatten_cons, ih]; rfl
theorem sgn_len3 : ∀ e : List (Option Nat), (sgn e).length ≤ 3 * e.length
  | [] => Nat.le_refl _
  | some _ :: e => by have := sgn_len3 e; simp only [sgn, List.length_cons]; omega
  | none :: e => by have := sgn_len3 e; simp only [sgn, List.length_cons]; omega
theorem wantOf_len (d : List Int) : (wantOf d).length ≤ 3 * d.length := by
  rw [wantOf_eq]
  have := sgn_len3 (patOf d)
  rw [show (patOf d).length = d.length by simp [patOf]] at this
  exact this
theorem gotOf_len (f : List Int) : (gotOf f).length = f.length := by
  rw [gotOf_eq, strL_len]; simp [wordOf]

theorem Lep.refl : ∀ e : List (Option Nat), Lep e e
  | [] => .nil
  | a :: e => .same a (Lep.refl e)
theorem Lep.put : ∀ (p : Nat) (e : List (Option Nat)), p < e.length → Lep e (e.take p ++ [none] ++ e.drop (p + 1))
  | 0, a :: e, _ => .gap a (Lep.refl e)
  | p + 1, a :: e, h => .same a (Lep.put p e (by simpa using h))
theorem Lep.own : ∀ d : List Int, Lep ((wordOf d).map some) (patOf d)
  | [] => .nil
  | x :: d => by
    have ih := Lep.own d
    show Lep (some x.toNat :: (wordOf d).map some) ((if x < 256 then some x.toNat else none) :: patOf d)
    split
    · exact .same _ ih
    · exact .gap _ ih
theorem Lep.trans {a b c : List (Option Nat)} (h : Lep a b) : Lep b c → Lep a c := by
  induction h generalizing c with
  | nil => intro k; exact k
  | same x _ ih =>
    intro k
    cases k with
    | same _ k => exact .same _ (ih k)
    | gap _ k => exact .gap _ (ih k)
  | gap x _ ih =>
    intro k
    cases k with
    | same _ k => exact .gap _ (ih k)
    | gap _ k => exact .gap _ (ih k)

theorem wstep_le {tot : Int} {size k : Nat} {d : List Int} (hd : d.length = size) (h : 0 < size) : Lep (patOf d) (patOf (wstep tot size d k)) := by
  have hp : placeOf tot size k < size := placeOf_lt h
  have := Lep.put (placeOf tot size k) (patOf d) (by simp [patOf, hd]; exact hp)
  unfold wstep
  unfold patOf at this ⊢
  rw [List.map_append, List.map_append, List.map_take, List.map_drop]
  exact this
theorem wide_le {tot : Int} {d0 : List Int} (h : 0 < d0.length) (j : Nat) : Lep (patOf (wideAt tot d0 j)) (patOf (wideAt tot d0 (j + 1))) := wstep_le (wideAt_length h j) h
theorem wide_mem {tot : Int} {d0 : List Int} : ∀ (j : Nat), ∀ x ∈ wideAt tot d0 j, x ∈ d0 ∨ x = 256
  | 0, x, h => .inl h
  | j + 1, x, h => by
    unfold wideAt wstep at h
    rcases List.mem_append.mp h with h | h
    · rcases List.mem_append.mp h with h | h
      · exact wide_mem j x (List.mem_of_mem_take h)
      · exact .inr (List.mem_singleton.mp h)
    · exact wide_mem j x (List.mem_of_mem_drop h)
theorem wide_put {tot : Int} {d0 : List Int} (h : 0 < d0.length) : ∀ (n i : Nat) (x : Int), (wideAt tot d0 n)[i]? = some x → (∃ k, k < n ∧ placeOf tot d0.length k = i) → x = 256
  | 0, _, _, _, ⟨_, hk, _⟩ => absurd hk (Nat.not_lt_zero _)
  | n + 1, i, x, hx, ⟨k, hk, hp⟩ => by
    have hl := wideAt_length (tot := tot) h n
    have hpl := placeOf_lt (tot := tot) (k := n) h
    unfold wideAt wstep at hx
    rw [List.append_assoc] at hx
    have htl : (List.take (placeOf tot d0.length n) (wideAt tot d0 n)).length = placeOf tot d0.length n := by rw [List.length_take]; omega
    by_cases h1 : i = placeOf tot d0.length n
    · rw [List.getElem?_append_right (by omega), htl, h1, Nat.sub_self] at hx
      exact (Option.some.inj hx).symm
    · refine wide_put h n i x ?_ ⟨k, ?_, hp⟩
      · rcases Nat.lt_or_ge i (placeOf tot d0.length n) with h2 | h2
        · rw [List.getElem?_append_left (by omega), List.getElem?_take_of_lt h2] at hx
          exact hx
        · rw [List.getElem?_append_right (by omega), htl] at hx
          rw [show i - placeOf tot d0.length n = (i - placeOf tot d0.length n - 1) + 1 by omega] at hx
          rw [List.singleton_append, List.getElem?_cons_succ, List.getElem?_drop] at hx
          rw [show placeOf tot d0.length n + 1 + (i - placeOf tot d0.length n - 1) = i by omega] at hx
          exact hx
      · rcases Nat.lt_or_ge k n with h2 | h2
        · exact h2
        · have : k = n := by omega
          exact absurd (this ▸ hp.symm) h1
theorem all_put {tot : Int} {d0 : List Int} (h : 0 < d0.length) (hs : ∀ i, i < d0.length → ∃ k, k < d0.length ∧ placeOf tot d0.length k = i) : ∀ x ∈ wideAt tot d0 d0.length, x = 256 := by
  intro x hx
  obtain ⟨i, hi, e⟩ := List.getElem_of_mem hx
  rw [wideAt_length h] at hi
  exact wide_put h d0.length i x (by rw [← e]; exact List.getElem?_eq_getElem _) (hs i hi)

theorem places5 (tot : Int) : ∀ i, i < 5 → ∃ k, k < 5 ∧ placeOf tot 5 k = i := by
  have fin : ∀ a < 5, ∀ s < 4, ∀ i < 5, ∃ k < 5, (a + k * (1 + s)) % 5 = i := by decide
  intro i hi
  have a0 := Int.emod_nonneg (tot.fdiv 45) (b := 5) (by decide)
  have a1 := Int.emod_lt_of_pos (tot.fdiv 45) (b := 5) (by decide)
  have s0 := Int.emod_nonneg (tot.fdiv 225) (b := 4) (by decide)
  have s1 := Int.emod_lt_of_pos (tot.fdiv 225) (b := 4) (by decide)
  obtain ⟨k, hk, e⟩ := fin (tot.fdiv 45 % 5).toNat (by omega) (tot.fdiv 225 % 4).toNat (by omega) i hi
  refine ⟨k, hk, ?_⟩
  unfold placeOf
  rw [show ((5 : Nat) : Int) - 1 = 4 from rfl, Int.fmod_eq_emod_of_nonneg _ (by decide), Int.fmod_eq_emod_of_nonneg _ (by decide)]
  have e2 : (tot.fdiv 45 + (k : Int) * (1 + tot.fdiv 225 % 4)) % ((5 : Nat) : Int) = ((i : Nat) : Int) := by
    rw [← e]
    rw [show ((5 : Nat) : Int) = 5 from rfl, ← Int.emod_add_emod]
    push_cast
    rw [Int.toNat_of_nonneg a0, Int.toNat_of_nonneg s0]
  rw [e2]; rfl
theorem places3 (tot : Int) : ∀ i, i < 3 → ∃ k, k < 3 ∧ placeOf tot 3 k = i := by
  have fin : ∀ a < 3, ∀ s < 2, ∀ i < 3, ∃ k < 3, (a + k * (1 + s)) % 3 = i := by decide
  intro i hi
  have a0 := Int.emod_nonneg (tot.fdiv 45) (b := 3) (by decide)
  have a1 := Int.emod_lt_of_pos (tot.fdiv 45) (b := 3) (by decide)
  have s0 := Int.emod_nonneg (tot.fdiv 225) (b := 2) (by decide)
  have s1 := Int.emod_lt_of_pos (tot.fdiv 225) (b := 2) (by decide)
  obtain ⟨k, hk, e⟩ := fin (tot.fdiv 45 % 3).toNat (by omega) (tot.fdiv 225 % 2).toNat (by omega) i hi
  refine ⟨k, hk, ?_⟩
  unfold placeOf
  rw [show ((3 : Nat) : Int) - 1 = 2 from rfl, Int.fmod_eq_emod_of_nonneg _ (by decide), Int.fmod_eq_emod_of_nonneg _ (by decide)]
  have e2 : (tot.fdiv 45 + (k : Int) * (1 + tot.fdiv 225 % 2)) % ((3 : Nat) : Int) = ((i : Nat) : Int) := by
    rw [← e]
    rw [show ((3 : Nat) : Int) = 3 from rfl, ← Int.emod_add_emod]
    push_cast
    rw [Int.toNat_of_nonneg a0, Int.toNat_of_nonneg s0]
  rw [e2]; rfl

theorem four_false {w : List Nat} (hw : 2 ≤ w.length) (h46 : ∀ x ∈ w, x ≠ 46) : ematch (want4 (strL w)) (strL w) = false := by
  have hs : Txt.slice (strL w) (some 1) none = strL (w.drop 1) := by
    rw [slice_from_eq (b := (w.length : Nat)) (by decide) (by show (1 : Int) ≤ ((strL w).length : Nat); rw [strL_len]; omega) rfl, strL_list]
    rw [List.take_of_length_le (by simp)]
    rfl
  have sm : ∀ (v : List Nat) (e : List (Option Nat)), sgn (v.map some ++ e) = v ++ sgn e := by
    intro v e
    induction v with
    | nil => rfl
    | cons a v ih => simp [sgn, ih]
  have hq : want4 (strL w) = strL (sgn (none :: (w.map some ++ none :: ((w.drop 1).map some ++ [none])))) := by
    unfold want4
    rw [hs, dots_str, strL_app, strL_app, strL_app, strL_app]
    simp only [sgn, sm, List.append_assoc, List.cons_append, List.nil_append]
  rw [hq]
  cases hb : ematch (strL (sgn (none :: (w.map some ++ none :: ((w.drop 1).map some ++ [none]))))) (strL w) with
  | false => rfl
  | true =>
    have := (ematch_iff (e := none :: (w.map some ++ none :: ((w.drop 1).map some ++ [none]))) (g := w) ?_).mp hb
    · have hl := this.length_le
      have fs : ∀ v : List Nat, ((v.map some).filter Option.isSome).length = v.length := by
        intro v
        induction v with
        | nil => rfl
        | cons a v ih => simpa using ih
      rw [List.filter_cons_of_neg (by simp), List.filter_append, List.length_append, fs, List.filter_cons_of_neg (by simp), List.filter_append, List.length_append, fs, List.length_drop] at hl
      omega
    · intro x hx
      simp only [List.mem_cons, List.mem_append, List.mem_map, Option.some.injEq, reduceCtorEq, exists_eq_right, false_or, or_false, List.not_mem_nil] at hx
      rcases hx with hx | hx
      · exact h46 x hx
      · exact h46 x (List.mem_of_mem_drop hx)

theorem least {P : Nat → Prop} : ∀ n, P n → ∃ q, q ≤ n ∧ P q ∧ ∀ j, j < q → ¬ P j
  | 0, h => ⟨0, Nat.le_refl _, h, fun _ q => absurd q (Nat.not_lt_zero _)⟩
  | n + 1, h => by
    by_cases hn : ∃ j, j ≤ n ∧ P j
    · obtain ⟨j, hj, hp⟩ := hn
      have ⟨q, h1, h2, h3⟩ := least j hp
      exact ⟨q, by omega, h2, h3⟩
    · exact ⟨n + 1, Nat.le_refl _, h, fun j hj hp => hn ⟨j, by omega, hp⟩⟩
termination_by n => n
decreasing_by omega

/-- the letters and symbols of both forms -/
structure Forms (lt f : List Int) : Prop where
  lt1 : ∀ x ∈ lt, 0 < x ∧ x < 256 ∧ x ≠ 46
  mem : ∀ x ∈ f, x ∈ lt ∨ 256 ≤ x
  low : 2 ≤ f.length
  high : f.length ≤ 8

theorem wide_alpha {lt f : List Int} (H : Forms lt f) (tot : Int) (j : Nat) : Alpha lt (wideAt tot f j) where
  lpos := fun x hx => ⟨(H.lt1 x hx).1, (H.lt1 x hx).2.1⟩
  mem := fun x hx => by
    rcases wide_mem j x hx with h | h
    · exact H.mem x h
    · right; omega
theorem ematch_wide {lt f : List Int} (H : Forms lt f) (tot : Int) (j : Nat) (w : List Nat) : ematch (wantOf (wideAt tot f j)) (strL w) = true ↔ Mch (patOf (wideAt tot f j)) w := by
  rw [wantOf_eq]
  refine ematch_iff fun x hx e => ?_
  have := (H.lt1 _ (patOf_lit (wide_alpha H tot j) hx)).2.2
  omega

theorem seg_of {WD : List (List Int)} {lt fo me : List Int} {tot : Int} {b e : Nat} (Hf : Forms lt fo) (Hm : Forms lt me) (he : e = b + me.length + 1) (hel : e ≤ WD.length)
    (hW : ∀ j, j ≤ me.length → WD[b + j]? = some (wideAt tot me j)) (hlen : ∀ d ∈ WD, 0 < d.length ∧ d.length ≤ 8) (hall : ∀ x ∈ wideAt tot me me.length, x = 256) :
    ∃ q, Seg WD lt fo me b e q := by
  have hm0 : 0 < me.length := by have := Hm.low; omega
  have lep : ∀ j n, Lep (patOf (wideAt tot me j)) (patOf (wideAt tot me (j + n))) := by
    intro j n
    induction n with
    | zero => exact .refl _
    | succ n ih => exact ih.trans (wide_le hm0 _)
  have hlast : ∀ w, Mch (patOf (wideAt tot me me.length)) w := by
    intro w
    have : patOf (wideAt tot me me.length) = List.replicate (me.length - 1 + 1) none := by
      refine List.eq_replicate_iff.mpr ⟨by rw [patOf, List.length_map, wideAt_length hm0]; omega, ?_⟩
      intro a ha
      obtain ⟨x, hx, rfl⟩ := List.mem_map.mp ha
      rw [hall x hx]; rfl
    rw [this]
    exact Mch.gaps _ w
  obtain ⟨q, q1, q2, q3⟩ := least (P := fun j => Mch (patOf (wideAt tot me j)) (wordOf fo)) me.length (hlast _)
  have tell : ∀ j, Mch (patOf (wideAt tot me j)) (wordOf fo) ↔ q ≤ j := by
    intro j
    constructor
    · intro h
      rcases Nat.lt_or_ge j q with hj | hj
      · exact absurd h (q3 j hj)
      · exact hj
    · intro h
      have := q2.mono (lep q (j - q))
      rwa [show q + (j - q) = j by omega] at this
  have at_ : ∀ k d, b ≤ k → k < e → WD[k]? = some d → d = wideAt tot me (k - b) := by
    intro k d h1 h2 hd
    have := hW (k - b) (by omega)
    rw [show b + (k - b) = k by omega, hd] at this
    exact Option.some.inj this
  have w46 : ∀ x ∈ wordOf fo, x ≠ 46 := by
    intro x hx e
    obtain ⟨a, ha, rfl⟩ := List.mem_map.mp hx
    rcases Hf.mem a ha with h | h
    · have := Hf.lt1 a h; omega
    · omega
  refine ⟨b + q, ⟨by omega, by omega, hel, ?_, ?_, ?_, ?_, fun d hd => (hlen d hd).1, fun d hd => (hlen d hd).2, ?_, ?_, ?_, ?_, Hf.high⟩⟩
  · intro k d h1 h2 hd
    rw [at_ k d h1 h2 hd, gotOf_eq]
    rw [Bool.eq_iff_iff, ematch_wide Hm, tell, decide_eq_true_eq]
    omega
  · intro k d h1 h2 hd
    rw [at_ k d h1 h2 hd, win_iff (wide_alpha Hm tot _) Hf.mem, tell]
    omega
  · intro k d h1 h2 hd
    rw [at_ k d h1 h2 hd, gotOf_eq, ematch_wide Hm]
    have := (Mch.own (wordOf me)).mono (Lep.own me)
    have := this.mono (lep 0 (k - b))
    rwa [Nat.zero_add] at this
  · intro k d h1 h2 hd M hM hmin
    rw [at_ k d h1 h2 hd, nil_str]
    rw [Bool.eq_iff_iff, ematch_wide Hm, decide_eq_true_eq, Mch.empty_iff]
    rw [at_ k d h1 h2 hd] at hM hmin
    constructor
    · intro h
      have := h _ (List.mem_map_of_mem hM)
      split at this
      · cases this
      · omega
    · intro h a ha
      obtain ⟨x, hx, rfl⟩ := List.mem_map.mp ha
      have := hmin x hx
      rw [if_neg (by omega)]
  · intro d hd
    have := wantOf_len d
    have := (hlen d hd).2
    omega
  · rw [gotOf_eq]
    exact four_false (by have := Hf.low; simp [wordOf]; exact this) w46
  · rw [gotOf_len]; have := Hf.high; omega
  · rw [gotOf_len]; have := Hm.high; omega

/-- the row of wides of both forms -/
theorem segs {lt d0 d1 : List Int} {tot : Int} (H0 : Forms lt d0) (H1 : Forms lt d1) (h5 : d0.length = 5) (h3 : d1.length = 3) :
    ∃ q0 q1, Seg (widesOf tot d0 ++ widesOf tot d1) lt d1 d0 0 6 q0 ∧ Seg (widesOf tot d0 ++ widesOf tot d1) lt d0 d1 6 10 q1 := by
  have hl0 : (widesOf tot d0).length = 6 := by simp [widesOf, h5]
  have hl1 : (widesOf tot d1).length = 4 := by simp [widesOf, h3]
  have hlen : ∀ d ∈ widesOf tot d0 ++ widesOf tot d1, 0 < d.length ∧ d.length ≤ 8 := by
    intro d hd
    rcases List.mem_append.mp hd with h | h
    · obtain ⟨k, _, rfl⟩ := List.mem_map.mp h
      rw [wideAt_length (by omega), h5]; omega
    · obtain ⟨k, _, rfl⟩ := List.mem_map.mp h
      rw [wideAt_length (by omega), h3]; omega
  obtain ⟨q0, S0⟩ := seg_of (WD := widesOf tot d0 ++ widesOf tot d1) (tot := tot) (b := 0) (e := 6) H1 H0 (by omega) (by simp [hl0, hl1]) (fun j hj => by
    rw [Nat.zero_add, List.getElem?_append_left (by omega), widesOf, List.getElem?_map, List.getElem?_range (by omega)]; rfl) hlen (all_put (by omega) (by rw [h5]; exact places5 tot))
  obtain ⟨q1, S1⟩ := seg_of (WD := widesOf tot d0 ++ widesOf tot d1) (tot := tot) (b := 6) (e := 10) H0 H1 (by omega) (by simp [hl0, hl1]) (fun j hj => by
    rw [List.getElem?_append_right (by omega), hl0, Nat.add_sub_cancel_left, widesOf, List.getElem?_map, List.getElem?_range (by omega)]; rfl) hlen (all_put (by omega) (by rw [h3]; exact places3 tot))
  exact ⟨q0, q1, S0, S1⟩

/-- the tape's two forms -/
theorem tape_forms {T8 : List Int} {tot : Int} (h8 : T8.length = 8) (hT : ∀ k, k < 8 → T8.getD k 0 = 1 + tot % 45 ∨ T8.getD k 0 = 255 ∨ T8.getD k 0 = 256 + (k : Int)) :
    Forms [1 + tot % 45, 255] (T8.take 5) ∧ Forms [1 + tot % 45, 255] (T8.drop 5) ∧ (T8.take 5).length = 5 ∧ (T8.drop 5).length = 3 ∧ ∀ x ∈ T8, 0 < x ∧ x ≤ 1000 := by
  have m0 := Int.emod_nonneg tot (b := 45) (by decide)
  have m1 := Int.emod_lt_of_pos tot (b := 45) (by decide)
  have hmem : ∀ x ∈ T8, (x ∈ [1 + tot % 45, 255] ∨ 256 ≤ x) ∧ 0 < x ∧ x ≤ 1000 := by
    intro x hx
    obtain ⟨k, hk, rfl⟩ := List.getElem_of_mem hx
    have := hT k (by omega)
    rw [List.getD_eq_getElem?_getD, List.getElem?_eq_getElem hk, Option.getD_some] at this
    rcases this with h | h | h
    · rw [h]; exact ⟨.inl (.head _), by omega, by omega⟩
    · rw [h]; exact ⟨.inl (.tail _ (.head _)), by omega, by omega⟩
    · rw [h]; exact ⟨.inr (by omega), by omega, by omega⟩
  have hlt : ∀ x ∈ [1 + tot % 45, 255], 0 < x ∧ x < 256 ∧ x ≠ 46 := by
    intro x hx
    rcases List.mem_cons.mp hx with h | h
    · omega
    · have := List.mem_singleton.mp h; omega
  have l5 : (T8.take 5).length = 5 := by rw [List.length_take]; omega
  have l3 : (T8.drop 5).length = 3 := by rw [List.length_drop]; omega
  exact ⟨⟨hlt, fun x hx => (hmem x (List.mem_of_mem_take hx)).1, by omega, by omega⟩, ⟨hlt, fun x hx => (hmem x (List.mem_of_mem_drop hx)).1, by omega, by omega⟩, l5, l3, fun x hx => (hmem x hx).2⟩
end Mine
end

section
open PySem PySem.W PySem.Calls PySem.Spec PyProof.Rows
set_option maxRecDepth 100000
namespace Mine

theorem isW_left {P C : List (Addr × Obj)} (hC : ∀ p ∈ C, isSeqB p.2 = false) {rs : List Value} {ds : List (List Int)} (hp : Paired (isW (P ++ C)) rs ds) : Paired (isW P) rs ds := by
  induction hp with
  | nil => exact .nil
  | cons a _ ih =>
    obtain ⟨a, vs, n, e, hm, hi⟩ := a
    refine .cons ⟨a, vs, n, e, ?_, hi⟩ ih
    rcases List.mem_append.mp hm with hm | hm
    · exact hm
    · have := hC _ hm
      cases this
theorem off_other {h₀ h : Heap} {L c : Addr} {o : Obj} {P cells : List (Addr × Obj)} (N : News h₀ L h (P ++ cells)) (hm : (c, o) ∈ cells) (hd : isSeqB o = false) (hP : ∀ p ∈ P, isSeqB p.2 = true) : ∀ p ∈ P, p.1 ≠ c := by
  intro p hp e
  have h1 := (N p (List.mem_append_left _ hp)).1
  have h2 := (N _ (List.mem_append_right _ hm)).1
  rw [e, h2] at h1
  have := hP p hp
  rw [← Option.some.inj h1, hd] at this
  cases this
theorem cell_notSeq {o : Obj} {v : Option Value} (h : o.data = .cell v) : isSeqB o = false := by
  unfold isSeqB; rw [h]

set_option maxHeartbeats 4000000 in
theorem law_all {w : World} {dp un : Nat} {fr : Option (List Env)} {gd : Option (List Code)} {s : Shared} {h₀ h : Heap} {L fa : Addr} {m : Str → Option Value} {tk : Nat} {c5 c4 c3 c2 c1 : Obj} {loose : List Str} {mean : ExcName → Option Value} {mg mb : Str → Option Value} {Q : Flow → Shared → Prop}
    (X : Frag.In (hd.heap_39 w.params) h₀) {pv : Program} (T : Top pv loose mean mg mb h₀) (C : CodeHd h₀ 69 67) (h67 : @LT.lt Nat _ 67 L) (hroom : dp + 2 < recursionLimit) (hun : un + 200 < cLine)
    (F : Fr h₀ L h m) (N : News h₀ L h (lawCells L c5 c4 c3 c2 c1 #[])) (d5 : c5.data = .cell none) (d4 : c4.data = .cell none) (d3 : c3.data = .cell none) (d2 : c2.data = .cell none) (d1 : c1.data = .cell none)
    {ls : Addr} {vs : List Value} {ns : List Int} (ms : m (Str.ofString "script") = some (.ref ls)) (hl : h₀.IsList ls vs.toArray) (hi : IntsAre vs ns) (hn : ns.length ≤ 63)
    (K : ∀ h' tk' m', Fr h₀ L h' m' → GrownAt 67 h' → Q (.ret (.bool true)) { s with heap := h', toks := tk' }) :
    wpAny (model PySem.Challenge.rw_rw0040_01.row.prog w) { handled := none, depth := dp, frames := fr, guards := gd, units := un } (execs (lawRest 0) (lawEnv L fa)) Q (fun _ _ => False) { s with heap := h, toks := tk } := by
  refine law1a X T h67 F N d1 ms hl hi hn ?_
  intro h1 tk1 m1 tot c1' al ma lv my mn nm ht F1 N1 d1' mm mt hlv hmy hml
  refine law1b X T h67 F1 N1 d2 mm mt hmy hml ?_
  intro h2 tk2 m2 c2' ad dv dn F2 N2 d2' mt2 hdv hdl
  refine law1c X T h67 F2 N2 d1' d2' mt2 hlv hdv hdl ?_
  intro h3 tk3 m3 at' tv T8 nt F3 N3 mt3 mtp htv h8 hT
  obtain ⟨H0, H1, l5, l3, hpos⟩ := tape_forms h8 hT
  refine law2 X T h67 (by omega) F3 N3 d3 mt3 mtp htv h8 (fun k hk => ?_) ?_
  · have := hpos (T8.getD k 0) (getD_mem (by omega)); omega
  intro h4 tk4 m4 c3' af f0 f1 f2 u0 u1 u2 n0 n1 n2 nf F4 N4 d3' mt4 hu0 hu1
  refine law3 X T F4 N4 d3' mt4 hu0 hu1 l5 l3 ?_
  intro h5 tk5 m5 wa rs nw ext F5 N5 mw hP hsq
  obtain ⟨q0, q1, S0, S1⟩ := segs (tot := tot) H0 H1 l5 l3
  have hlow : ∀ (d0 : List Int), (∀ x ∈ d0, 0 < x ∧ x ≤ 1000) → ∀ d ∈ widesOf tot d0, ∀ x ∈ d, 0 ≤ x ∧ x ≤ 1000 := by
    intro d0 h0 d hd x hx
    obtain ⟨k, _, rfl⟩ := List.mem_map.mp hd
    rcases wide_mem k x hx with h | h
    · have := h0 x h; omega
    · omega
  have hp5 : ∀ x ∈ T8.take 5, 0 < x ∧ x ≤ 1000 := fun x hx => hpos x (List.mem_of_mem_take hx)
  have hp3 : ∀ x ∈ T8.drop 5, 0 < x ∧ x ≤ 1000 := fun x hx => hpos x (List.mem_of_mem_drop hx)
  have hWl : (widesOf tot (T8.take 5) ++ widesOf tot (T8.drop 5)).length ≤ 20 := by
    rw [List.length_append, widesOf, widesOf, List.length_map, List.length_map, List.length_range, List.length_range, l5, l3]; decide
  refine law4w X T (by omega) F5 N5 mw hP (fun d hd => ⟨S0.len d hd, ?_⟩) hWl ?_
  · rcases List.mem_append.mp hd with hd | hd
    · exact hlow _ hp5 d hd
    · exact hlow _ hp3 d hd
  intro h6 tk6 m6 wn ys nn F6 N6 mw6 mwn hys
  have hcells : ∀ (c4 : Obj) {v4 : Option Value} (ps : Array Value), c4.data = .cell v4 → ∀ p ∈ lawCells L c5 c4 c3' c2' c1' ps, isSeqB p.2 = false := by
    intro c4 v4 ps d4 p hp
    simp only [List.mem_cons, List.not_mem_nil, or_false] at hp
    rcases hp with rfl | rfl | rfl | rfl | rfl | rfl
    · exact cell_notSeq d5
    · exact cell_notSeq d4
    · exact cell_notSeq d3'
    · exact cell_notSeq d2'
    · exact cell_notSeq d1'
    · rfl
  obtain ⟨P0, hP0⟩ : ∃ P0, ext ++ [(af, ({ cls := .type "list", data := .seq (List.toArray [Value.ref f0, Value.ref f1, Value.ref f2]) nf } : Obj)), (f0, { cls := .type "list", data := .seq (List.toArray u0) n0 }), (f1, { cls := .type "list", data := .seq (List.toArray u1) n1 }), (f2, { cls := .type "list", data := .seq (List.toArray u2) n2 }), (al, { cls := .type "list", data := .seq (List.toArray lv) })] = P0 := ⟨_, rfl⟩
  have hall : ext ++ (af, ({ cls := .type "list", data := .seq (List.toArray [Value.ref f0, Value.ref f1, Value.ref f2]) nf } : Obj)) :: (f0, { cls := .type "list", data := .seq (List.toArray u0) n0 }) :: (f1, { cls := .type "list", data := .seq (List.toArray u1) n1 }) :: (f2, { cls := .type "list", data := .seq (List.toArray u2) n2 }) :: (al, { cls := .type "list", data := .seq (List.toArray lv) }) :: lawCells L c5 c4 c3' c2' c1' #[] = P0 ++ lawCells L c5 c4 c3' c2' c1' #[] := by rw [← hP0, List.append_assoc]; rfl
  rw [hall] at N6 hP
  have iaf : (af, ({ cls := .type "list", data := .seq (List.toArray [Value.ref f0, Value.ref f1, Value.ref f2]) nf } : Obj)) ∈ P0 := by rw [← hP0]; exact List.mem_append_right _ (.head _)
  have if0 : (f0, ({ cls := .type "list", data := .seq (List.toArray u0) n0 } : Obj)) ∈ P0 := by rw [← hP0]; exact List.mem_append_right _ (.tail _ (.head _))
  have if1 : (f1, ({ cls := .type "list", data := .seq (List.toArray u1) n1 } : Obj)) ∈ P0 := by rw [← hP0]; exact List.mem_append_right _ (.tail _ (.tail _ (.head _)))
  have ial : (al, ({ cls := .type "list", data := .seq (List.toArray lv) } : Obj)) ∈ P0 := by rw [← hP0]; exact List.mem_append_right _ (.tail _ (.tail _ (.tail _ (.tail _ (.head _)))))
  have sq0 : ∀ p ∈ P0, isSeqB p.2 = true := by
    rw [← hP0]
    intro p hp
    rcases List.mem_append.mp hp with hp | hp
    · exact hsq p hp
    · simp only [List.mem_cons, List.not_mem_nil, or_false] at hp
      rcases hp with rfl | rfl | rfl | rfl | rfl <;> rfl
  have hPl : Paired (isW P0) rs (widesOf tot (T8.take 5) ++ widesOf tot (T8.drop 5)) := isW_left (hcells c4 #[] d4) hP
  clear hall hP hP0
  have sq1 : ∀ p ∈ (wn, ({ cls := .type "list", data := .seq (List.toArray ys) nn } : Obj)) :: (wa, { cls := .type "list", data := .seq (List.toArray rs) nw }) :: P0, isSeqB p.2 = true := by
    intro p hp
    rcases List.mem_cons.mp hp with rfl | hp
    · rfl
    · rcases List.mem_cons.mp hp with rfl | hp
      · rfl
      · exact sq0 p hp
  refine law4g (P := (wn, ({ cls := .type "list", data := .seq (List.toArray ys) nn } : Obj)) :: (wa, { cls := .type "list", data := .seq (List.toArray rs) nw }) :: P0) (FD := [T8.take 5, T8.drop 5]) X T h67 F6 N6 sq1 d4 d3' (.tail _ (.tail _ iaf)) rfl ?_ ?_ ?_
  · exact .cons ⟨f0, u0, n0, rfl, .tail _ (.tail _ if0), hu0⟩ (.cons ⟨f1, u1, n1, rfl, .tail _ (.tail _ if1), hu1⟩ .nil)
  · intro d hd
    simp only [List.mem_cons, List.not_mem_nil, or_false] at hd
    rcases hd with rfl | rfl
    · exact ⟨by omega, fun x hx => by have := hp5 x hx; omega⟩
    · exact ⟨by omega, fun x hx => by have := hp3 x hx; omega⟩
  intro h7 tk7 gn gv ng c4' F7 N7 d4' hgv
  have sq2 : ∀ p ∈ (gn, ({ cls := .type "list", data := .seq (List.toArray gv) ng } : Obj)) :: (wn, ({ cls := .type "list", data := .seq (List.toArray ys) nn } : Obj)) :: (wa, { cls := .type "list", data := .seq (List.toArray rs) nw }) :: P0, isSeqB p.2 = true := by
    intro p hp
    rcases List.mem_cons.mp hp with rfl | hp
    · rfl
    · exact sq1 p hp
  have hoff : Off L ((gn, ({ cls := .type "list", data := .seq (List.toArray gv) ng } : Obj)) :: (wn, ({ cls := .type "list", data := .seq (List.toArray ys) nn } : Obj)) :: (wa, { cls := .type "list", data := .seq (List.toArray rs) nw }) :: P0) := fun p hp =>
    ⟨off_other N7 (.head _) (cell_notSeq d5) sq2 p hp, off_other N7 (.tail _ (.tail _ (.tail _ (.tail _ (.tail _ (.head _)))))) rfl sq2 p hp⟩
  refine law5 X T C h67 hroom hun F7 N7 hoff d5 d4' d3' d1' (.tail _ (.tail _ (.tail _ ial))) (.tail _ (.tail _ (.tail _ iaf))) (.tail _ (.tail _ (.head _))) (.tail _ (.head _)) (.head _) (.tail _ (.tail _ (.tail _ if0))) (.tail _ (.tail _ (.tail _ if1))) rfl rfl hlv rfl hu0 hu1 (isW_mono (fun p hp => .tail _ (.tail _ (.tail _ hp))) hPl) hWl hys hgv mw6 mwn S0 S1 ?_
  intro h8 tk8 m8 P' c5' ps' F8 N8
  exact K h8 tk8 m8 F8 (GrownAt.of N8 (List.mem_append_right _ (.tail _ (.tail _ (.tail _ (.tail _ (.tail _ (.head _))))))))
end Mine
end

section
open PySem PySem.W PyProof.Rows
set_option maxRecDepth 100000 in
set_option maxHeartbeats 8000000 in
theorem PySem.Challenge.cw_rw0040_01_holds : PySem.Challenge.rw_rw0040_01.Holds := by
  refine Mine.hd ?_
  k_go0
  rename CodeHd _ _ _ => C'
  rename News _ _ _ _ => N'
  rename Fr _ _ _ _ => F'
  rename Frag.In _ (ghostOf _ _) => X'
  rename Top _ _ _ _ _ (ghostOf _ _) => T'
  rename PySem.Heap.IsList (ghostOf _ _) _ _ => L'
  rename IntsAre _ _ => I'
  rename (¬ _) => hn'
  rename_i l0'
  refine wpAny_mono (Mine.law_all X' T' C' l0' (by decide +kernel) (by decide +kernel) F' N' (by assumption) (by assumption) (by assumption) (by assumption) (by assumption) rfl L' I' (by omega) ?_) (fun _ _ q => q) (fun _ _ e => e.elim)
  intro h' tk' m' Fz Gz
  refine ⟨?_, ⟨Gz, trivial⟩⟩
  wrow_close
end
