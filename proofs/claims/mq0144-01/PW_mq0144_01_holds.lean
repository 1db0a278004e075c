import PyProof.Rows.All
import Wide.All
import OpenK.AllK
import Wide.FinOn
import PySem.Challenge.RW_mq0144_01
set_option Elab.async false
section
open PySem PySem.Float64
namespace Mine

/-- the magnitude of n in parts of 2 ^ 21 -/
def mag (n : Nat) : Nat := if n = 0 then 0 else (n.log2 + 1001) * 2 ^ 52 + n * 2 ^ (52 - n.log2)
/-- the double n in parts of 2 ^ 21, exact below 2 ^ 53 -/
def fl (n : Nat) : UInt64 := pack false (mag n)

theorem log_le {n : Nat} (h0 : n ≠ 0) (h : n < 2 ^ 53) : n.log2 ≤ 52 := by
  have := (Nat.log2_lt h0).mpr h
  omega
theorem q_between {n : Nat} (h0 : n ≠ 0) (h : n < 2 ^ 53) : 2 ^ 52 ≤ n * 2 ^ (52 - n.log2) ∧ n * 2 ^ (52 - n.log2) < 2 ^ 53 := by
  have hl := log_le h0 h
  have h1 := Nat.log2_self_le h0
  have h2 := @Nat.lt_log2_self n
  have e1 : 2 ^ n.log2 * 2 ^ (52 - n.log2) = 2 ^ 52 := by rw [← Nat.pow_add]; congr 1; omega
  have e2 : 2 ^ (n.log2 + 1) * 2 ^ (52 - n.log2) = 2 ^ 53 := by rw [← Nat.pow_add]; congr 1; omega
  constructor
  · rw [← e1]; exact Nat.mul_le_mul_right _ h1
  · rw [← e2]; exact Nat.mul_lt_mul_of_pos_right h2 (Nat.two_pow_pos _)
theorem mag_lt {n : Nat} (h : n < 2 ^ 53) : mag n < infMag := by
  unfold mag infMag
  split
  · decide
  · rename_i h0
    have hl := log_le h0 h
    have hq := (q_between h0 h).2
    generalize n * 2 ^ (52 - n.log2) = q at *
    have : (n.log2 + 1001) * 2 ^ 52 ≤ 1053 * 2 ^ 52 := Nat.mul_le_mul_right _ (by omega)
    omega
theorem mag_V {n : Nat} (h : n < 2 ^ 53) : V (mag n) = n * 2 ^ 1053 := by
  unfold mag
  split
  · rename_i h0
    subst h0
    rw [V_zero, Nat.zero_mul]
  · rename_i h0
    have hl := log_le h0 h
    have hq := q_between h0 h
    rw [V_at (Nat.le_of_lt hq.2) (.inl hq.1), Nat.mul_assoc, ← Nat.pow_add]
    have e : 52 - n.log2 + (n.log2 + 1001) = 1053 := by omega
    rw [e]
theorem V_inj {t t' : Nat} (h : V t = V t') : t = t' := by
  rcases Nat.lt_trichotomy t t' with h1 | h1 | h1
  · have := V_lt h1; omega
  · exact h1
  · have := V_lt h1; omega
theorem V_top {t : Nat} (h : t < infMag) : V t ≤ (2 ^ 53 - 1) * 2 ^ 2045 := by
  have hA : V (infMag - 1) = (2 ^ 53 - 1) * 2 ^ 2045 := by
    have e : infMag - 1 = 2045 * 2 ^ 52 + (2 ^ 53 - 1) := by unfold infMag; omega
    rw [e]
    exact V_at (by omega) (by omega)
  rw [← hA]
  exact V_mono (by omega)
theorem right_exact {r : UInt64} {neg : Bool} {W D t : Nat} (hR : Right r neg W D) (hD : 0 < D) (ht : t < infMag) (hW : W = D * V t) : r = pack neg t := by
  obtain ⟨t', rfl, hle, hover, hmin⟩ := hR
  have hlt : t' < infMag := by
    rcases Nat.lt_or_ge t' infMag with h | h
    · exact h
    · exfalso
      have he : t' = infMag := by omega
      have h1 := hover.mp he
      rw [hW, show 2 * (D * V t) = D * (2 * V t) from by ac_rfl] at h1
      have h2 := Nat.le_of_mul_le_mul_left h1 hD
      have h3 := V_top ht
      have h4 : 0 < 2 ^ 2045 := Nat.two_pow_pos _
      generalize (2 : Nat) ^ 2045 = K at *
      omega
  have h1 := (hmin hlt t).1
  rw [hW, dist_mul, dist_mul] at h1
  have h2 := Nat.le_of_mul_le_mul_left h1 hD
  unfold dist at h2
  rw [V_inj (t := t') (t' := t) (by omega)]

theorem dec_fl {n : Nat} (h : n < 2 ^ 53) : ∃ m e, decode (fl n) = .fin false m e ∧ m * 2 ^ (e + 1074).toNat = n * 2 ^ 1053 := by
  obtain ⟨m, e, h1, h2⟩ := decode_pack false (mag_lt h)
  exact ⟨m, e, h1, h2.trans (mag_V h)⟩
theorem val_fl {n : Nat} (h : n < 2 ^ 53) : val (fl n) = ((n * 2 ^ 1053 : Nat) : Int) := by
  obtain ⟨m, e, h1, h2⟩ := dec_fl h
  rw [val_eq h1, h2]; rfl
theorem U_pos : 0 < 2 ^ 1053 := Nat.two_pow_pos _
theorem add_fl {a b : Nat} (h : a + b < 2 ^ 53) : add (fl a) (fl b) = fl (a + b) := by
  obtain ⟨m, e, h1, _⟩ := dec_fl (n := a) (by omega)
  obtain ⟨k, f, h2, _⟩ := dec_fl (n := b) (by omega)
  have R := add_right h1 h2
  have ev : val (fl a) + val (fl b) = (((a + b) * 2 ^ 1053 : Nat) : Int) := by rw [val_fl (by omega), val_fl (by omega), Nat.add_mul]; rfl
  rw [ev] at R
  by_cases hz : a + b = 0
  · rw [R.1 (by rw [hz]; simp), hz]; rfl
  · have hne : (((a + b) * 2 ^ 1053 : Nat) : Int) ≠ 0 := by
      have := Nat.mul_pos (show 0 < a + b by omega) U_pos
      omega
    have R2 := R.2 hne
    have hn : decide ((((a + b) * 2 ^ 1053 : Nat) : Int) < 0) = false := decide_eq_false (Int.not_lt.mpr (Int.natCast_nonneg _))
    rw [hn, Int.natAbs_natCast] at R2
    exact right_exact R2 (by decide) (mag_lt h) (by rw [mag_V h, Nat.one_mul])
theorem sub_fl {a b : Nat} (h : a < 2 ^ 53) (hb : b ≤ a) : sub (fl a) (fl b) = fl (a - b) := by
  obtain ⟨m, e, h1, _⟩ := dec_fl (n := a) (by omega)
  obtain ⟨k, f, h2, _⟩ := dec_fl (n := b) (by omega)
  have R := sub_right h1 h2
  have ev : val (fl a) - val (fl b) = (((a - b) * 2 ^ 1053 : Nat) : Int) := by
    rw [val_fl (by omega), val_fl (by omega), Nat.sub_mul, Int.ofNat_sub (Nat.mul_le_mul_right _ hb)]
  rw [ev] at R
  by_cases hz : a - b = 0
  · rw [R.1 (by rw [hz]; simp), hz]; rfl
  · have hne : (((a - b) * 2 ^ 1053 : Nat) : Int) ≠ 0 := by
      have := Nat.mul_pos (show 0 < a - b by omega) U_pos
      omega
    have R2 := R.2 hne
    have hn : decide ((((a - b) * 2 ^ 1053 : Nat) : Int) < 0) = false := decide_eq_false (Int.not_lt.mpr (Int.natCast_nonneg _))
    rw [hn, Int.natAbs_natCast] at R2
    exact right_exact R2 (by decide) (mag_lt (by omega)) (by rw [mag_V (by omega), Nat.one_mul])
theorem m_zero {n m : Nat} {e : Int} (h : m * 2 ^ (e + 1074).toNat = n * 2 ^ 1053) : m = 0 ↔ n = 0 := by
  constructor
  · intro h0
    rw [h0, Nat.zero_mul] at h
    rcases Nat.mul_eq_zero.mp h.symm with h1 | h1
    · exact h1
    · have := U_pos; omega
  · intro h0
    rw [h0, Nat.zero_mul] at h
    rcases Nat.mul_eq_zero.mp h with h1 | h1
    · exact h1
    · have := Nat.two_pow_pos (e + 1074).toNat; omega
theorem div_fl {a b c : Nat} (ha : a < 2 ^ 53) (hb : b < 2 ^ 53) (hc : c < 2 ^ 53) (h0 : b ≠ 0) (h : a * 2 ^ 21 = b * c) : div (fl a) (fl b) = fl c := by
  obtain ⟨m, e, h1, _⟩ := dec_fl ha
  obtain ⟨k, f, h2, h3⟩ := dec_fl hb
  have R := div_right h1 h2 (fun hk => h0 ((m_zero h3).mp hk))
  rw [val_fl ha, val_fl hb, Int.natAbs_natCast, Int.natAbs_natCast] at R
  refine right_exact R (Nat.mul_pos (by omega) U_pos) (mag_lt hc) ?_
  rw [mag_V hc]
  have e1 : (2 : Nat) ^ 1074 = 2 ^ 21 * 2 ^ 1053 := by rw [← Nat.pow_add]
  rw [e1]
  generalize (2 : Nat) ^ 1053 = K
  calc a * K * (2 ^ 21 * K) = a * 2 ^ 21 * (K * K) := by ac_rfl
    _ = b * c * (K * K) := by rw [h]
    _ = b * K * (c * K) := by ac_rfl
theorem mul_fl {a b c : Nat} (ha : a < 2 ^ 53) (hb : b < 2 ^ 53) (hc : c < 2 ^ 53) (h : a * b = 2 ^ 21 * c) : mul (fl a) (fl b) = fl c := by
  obtain ⟨m, e, h1, _⟩ := dec_fl ha
  obtain ⟨k, f, h2, h3⟩ := dec_fl hb
  have R := mul_right h1 h2
  rw [val_fl ha, val_fl hb, Int.natAbs_natCast, Int.natAbs_natCast] at R
  refine right_exact R (Nat.two_pow_pos _) (mag_lt hc) ?_
  rw [mag_V hc]
  have e1 : (2 : Nat) ^ 1074 = 2 ^ 21 * 2 ^ 1053 := by rw [← Nat.pow_add]
  rw [e1]
  generalize (2 : Nat) ^ 1053 = K
  calc a * K * (b * K) = a * b * (K * K) := by ac_rfl
    _ = 2 ^ 21 * c * (K * K) := by rw [h]
    _ = 2 ^ 21 * K * (c * K) := by ac_rfl
theorem cmp_fl {a b : Nat} (ha : a < 2 ^ 53) (hb : b < 2 ^ 53) : cmp (fl a) (fl b) = some (compare a b) := by
  obtain ⟨m, e, h1, _⟩ := dec_fl ha
  obtain ⟨k, f, h2, h3⟩ := dec_fl hb
  rw [cmp_right h1 h2, val_fl ha, val_fl hb]
  have hU := U_pos
  generalize (2 : Nat) ^ 1053 = K at *
  congr 1
  rcases Nat.lt_trichotomy a b with h | h | h
  · rw [Nat.compare_eq_lt.mpr h, Int.compare_eq_lt.mpr (Int.ofNat_lt.mpr (Nat.mul_lt_mul_of_pos_right h hU))]
  · subst h; simp
  · rw [Nat.compare_eq_gt.mpr h, Int.compare_eq_gt.mpr (Int.ofNat_lt.mpr (Nat.mul_lt_mul_of_pos_right h hU))]
theorem isZero_fl {a : Nat} (ha : a < 2 ^ 53) : isZero (fl a) = decide (a = 0) := by
  obtain ⟨m, e, h1, h2⟩ := dec_fl ha
  unfold isZero
  rw [h1]
  by_cases h : a = 0
  · have := (m_zero h2).mpr h
    subst this
    simp [h]
  · have : m ≠ 0 := fun h' => h ((m_zero h2).mp h')
    rw [decide_eq_false h]
    cases m with
    | zero => exact absurd rfl this
    | succ m => rfl
theorem lt_fl {a b : Nat} (ha : a < 2 ^ 53) (hb : b < 2 ^ 53) : (cmp (fl a) (fl b) == some .lt) = decide (a < b) := by
  rw [cmp_fl ha hb]
  rcases Nat.lt_trichotomy a b with h | h | h
  · rw [Nat.compare_eq_lt.mpr h]; simp [h]
  · subst h; simp
  · rw [Nat.compare_eq_gt.mpr h]; simp; omega
theorem gt_fl {a b : Nat} (ha : a < 2 ^ 53) (hb : b < 2 ^ 53) : (cmp (fl a) (fl b) == some .gt) = decide (b < a) := by
  rw [cmp_fl ha hb]
  rcases Nat.lt_trichotomy a b with h | h | h
  · rw [Nat.compare_eq_lt.mpr h]; simp; omega
  · subst h; simp
  · rw [Nat.compare_eq_gt.mpr h]; simp [h]
theorem eq_fl {a b : Nat} (ha : a < 2 ^ 53) (hb : b < 2 ^ 53) : (cmp (fl a) (fl b) == some .eq) = decide (a = b) := by
  rw [cmp_fl ha hb]
  rcases Nat.lt_trichotomy a b with h | h | h
  · rw [Nat.compare_eq_lt.mpr h]; simp; omega
  · subst h; simp
  · rw [Nat.compare_eq_gt.mpr h]; simp; omega
theorem fl_0 : (0x0000000000000000 : UInt64) = fl 0 := by decide +kernel
theorem fl_1 : (0x3ff0000000000000 : UInt64) = fl (2 ^ 21) := by decide +kernel
theorem fl_2 : (0x4000000000000000 : UInt64) = fl (2 ^ 22) := by decide +kernel
/-- a fraction of two numbers that is so many parts -/
theorem frac_fl {n d c : Nat} (hd : 0 < d) (hc : c < 2 ^ 53) (h : n * 2 ^ 21 = d * c) : ofFrac false n d = fl c := by
  have R : Right (ofFrac false n d) false (n * 2 ^ 1074) d := ofFrac_right hd rfl hd
  refine right_exact R hd (mag_lt hc) ?_
  rw [mag_V hc]
  have e1 : (2 : Nat) ^ 1074 = 2 ^ 21 * 2 ^ 1053 := by rw [← Nat.pow_add]
  rw [e1]
  generalize (2 : Nat) ^ 1053 = K
  rw [← Nat.mul_assoc, h, Nat.mul_assoc]
end Mine
end
open PySem PySem.W PyProof.Rows PySem.Calls
set_option maxRecDepth 100000
namespace Mine

/-! the text's defs, by their place in the top -/
def defAt (i : Nat) : Str × Arguments × List Stmt × Scope :=
  match PySem.Challenge.pw_mq0144_01.main.body[i]? with
  | some (.FunctionDef n a b _ _ _ sc _ _ _) => (n, a, b, sc)
  | _ => ("", { posonlyargs := [], args := [], vararg := none, kwonlyargs := [], kw_defaults := [], kwarg := none, defaults := [] }, [], { kind := .function, names := [], isGenerator := false, isCoroutine := false })
abbrev nm (i : Nat) : Str := (defAt i).1
abbrev pr (i : Nat) : Arguments := (defAt i).2.1
abbrev bd (i : Nat) : List Stmt := (defAt i).2.2.1
abbrev sc (i : Nat) : Scope := (defAt i).2.2.2

abbrev Gr (h h' : Heap) : Prop := ∀ b o, h.get? b = some o → h'.get? b = some o

def FnOk (mg : Str → Option Value) (h : Heap) (i : Nat) (f : Addr) : Prop :=
  mg (nm i) = some (.ref f) ∧ ∃ o pm c doc, h.get? f = some o ∧ o.data = .func (docDef (nm i) (pr i) (bd i) (sc i) pm (.ref c) doc) ∧ h.CodeRec (.ref c) (nm i)
theorem FnOk.keeps {mg : Str → Option Value} {h h' : Heap} {i : Nat} {f : Addr} (x : FnOk mg h i f) (k : Gr h h') : FnOk mg h' i f :=
  let ⟨e, o, pm, c, doc, h1, h2, h3⟩ := x; ⟨e, o, pm, c, doc, k _ _ h1, h2, h3.keeps k⟩

structure Base (mg mb : Str → Option Value) (h : Heap) : Prop where
  g : h.Ns mainGlobals mg
  b : h.Ns builtinsNs mb
  nolimit : h.NoLimit
  fn : ∀ i ∈ [1, 2, 5, 6, 8, 9, 10, 11, 12, 13, 14, 15], ∃ f, FnOk mg h i f
  bl : ∀ x ∈ (["max", "min", "sorted", "len", "range", "sum"] : List Str), mg x = none ∧ mb x = bootBuiltins x
  nb : NoneBooked h
theorem Base.keeps {mg mb : Str → Option Value} {h h' : Heap} (B : Base mg mb h) (k : Gr h h') : Base mg mb h' :=
  ⟨B.g.keeps k, B.b.keeps k, B.nolimit.keeps k, fun i hi => let ⟨f, x⟩ := B.fn i hi; ⟨f, x.keeps k⟩, B.bl, let ⟨mc, h1, h2⟩ := B.nb; ⟨mc, h1.keeps k, h2⟩⟩


/-- a sequence object that is known: its address, whether it is a tuple, its items -/
structure Fact where
  a : Addr
  tup : Bool
  vs : List Value
def Fact.At (f : Fact) (h : Heap) : Prop := ∃ o, h.get? f.a = some o ∧ o.cls = .type (if f.tup then "tuple" else "list") ∧ ∃ n, o.data = .seq f.vs.toArray n
theorem Fact.At.keeps {f : Fact} {h h' : Heap} (x : f.At h) (k : Gr h h') : f.At h' := let ⟨o, h1, h2, h3⟩ := x; ⟨o, k _ _ h1, h2, h3⟩
theorem Fact.At.list {a : Addr} {vs : List Value} {h : Heap} (x : Fact.At ⟨a, false, vs⟩ h) : h.IsList a vs.toArray := let ⟨o, h1, h2, h3⟩ := x; ⟨o, h1, h2, h3⟩
theorem Fact.At.tuple {a : Addr} {vs : List Value} {h : Heap} (x : Fact.At ⟨a, true, vs⟩ h) : h.IsTuple a vs.toArray := let ⟨o, h1, h2, h3⟩ := x; ⟨o, h1, h2, h3⟩
theorem Fact.of_list {a : Addr} {vs : List Value} {h : Heap} (x : h.IsList a vs.toArray) : Fact.At ⟨a, false, vs⟩ h := let ⟨o, h1, h2, h3⟩ := x; ⟨o, h1, h2, h3⟩
theorem Fact.of_tuple {a : Addr} {vs : List Value} {h : Heap} (x : h.IsTuple a vs.toArray) : Fact.At ⟨a, true, vs⟩ h := let ⟨o, h1, h2, h3⟩ := x; ⟨o, h1, h2, h3⟩
theorem Fact.At.ne_ns {f : Fact} {h : Heap} {L : Addr} {m : Str → Option Value} (x : f.At h) (n : h.Ns L m) : f.a ≠ L := by
  intro e
  obtain ⟨o, h1, _, k, h3⟩ := x
  obtain ⟨o', es, ep, h1', h2', _⟩ := n
  rw [e, h1'] at h1
  cases h1
  rw [h2'] at h3
  cases h3
theorem Fact.At.ne_cell {f : Fact} {h : Heap} {c : Addr} {v : Option Value} (x : f.At h) (n : h.IsCell c v) : f.a ≠ c := by
  intro e
  obtain ⟨o, h1, _, k, h3⟩ := x
  obtain ⟨o', h1', h2'⟩ := n
  rw [e, h1'] at h1
  cases h1
  rw [h2'] at h3
  cases h3
theorem Fact.At.sameBut {f : Fact} {h h' : Heap} {c : Addr} (x : f.At h) (hs : Heap.SameBut c h h') (hne : f.a ≠ c) : f.At h' :=
  let ⟨o, h1, h2, h3⟩ := x; ⟨o, (hs.2 _ hne).trans h1, h2, h3⟩

/-- what a step may do: the heap grows, the tokens grow -/
def Kp (s s' : Shared) : Prop := Keeps s s' ∧ s.toks ≤ s'.toks
theorem Kp.refl (s : Shared) : Kp s s := ⟨⟨s.heap, s.toks, rfl, fun _ _ e => e⟩, Nat.le_refl _⟩
theorem Kp.trans {s s' s'' : Shared} (h : Kp s s') (k : Kp s' s'') : Kp s s'' := by
  obtain ⟨⟨h1, t1, rfl, g1⟩, l1⟩ := h
  obtain ⟨⟨h2, t2, rfl, g2⟩, l2⟩ := k
  exact ⟨⟨h2, t2, rfl, fun b o e => g2 b o (g1 b o e)⟩, Nat.le_trans l1 l2⟩
theorem Kp.gr {s s' : Shared} (h : Kp s s') : Gr s.heap s'.heap := by
  obtain ⟨⟨h1, t1, rfl, g1⟩, l1⟩ := h
  exact g1
theorem kp_heap {s : Shared} {h' : Heap} (k : Gr s.heap h') : Kp s { s with heap := h' } := ⟨⟨h', s.toks, rfl, k⟩, Nat.le_refl _⟩
theorem kp_tok {s : Shared} {tk : Nat} (h : s.toks ≤ tk) : Kp s { s with toks := tk } := ⟨⟨s.heap, tk, rfl, fun _ _ e => e⟩, h⟩
theorem with_kp {α : Type} {M : Model} {A : Around} {E : Value → Shared → Prop} {s : Shared} {t : Sem α} {Q : α → Shared → Prop}
    (h : wpAny M A t (fun a s' => s.toks ≤ s'.toks → Q a s') E s) : wpAny M A t Q E s :=
  wpAny_mono (wpAny_toks h) (fun _ _ x => x.2 x.1) fun _ _ x => x.2

/-- a frame's own place: its names and cells are none of what stood before -/
structure Own (s₀ : Shared) (env : Env) : Prop where
  fresh : s₀.heap.get? env.locals = none
  apart : env.cells.Pairwise fun x y => x.2 ≠ y.2
  above : ∀ n c, env.cells.lookup n = some c → env.locals ≠ c ∧ s₀.heap.get? c = none

/-- a frame at hand: its names, its cells, what stood before, the sequences that are known -/
structure Sit (mg mb : Str → Option Value) (sp : Scope) (s₀ : Shared) (env : Env) (m cm : Str → Option Value) (fs : List Fact) (s : Shared) : Prop where
  same : ∃ h tk, s = { s₀ with heap := h, toks := tk }
  tk : s₀.toks ≤ s.toks
  keep : Gr s₀.heap s.heap
  ns : s.heap.Ns env.locals m
  cell : ∀ n c, env.cells.lookup n = some c → s.heap.IsCell c (cm n)
  base : Base mg mb s₀.heap
  facts : ∀ f ∈ fs, f.At s.heap
  glob : env.globals = mainGlobals
  blt : env.builtins = builtinsNs
  kind : env.scope.kind = .function
  scp : env.scope = sp

section
variable {M : Model} {prog : Program} {w : World} {A : Around} {E : Value → Shared → Prop} {mg mb : Str → Option Value} {sp : Scope} {s₀ s : Shared} {env : Env} {m cm : Str → Option Value} {fs : List Fact}
theorem Sit.kept (S : Sit mg mb sp s₀ env m cm fs s) {s' : Shared} (k : Kp s s') : Sit mg mb sp s₀ env m cm fs s' := by
  obtain ⟨⟨h', tk, rfl, k⟩, l⟩ := k
  exact ⟨let ⟨h, _, e⟩ := S.same; ⟨h', tk, by rw [e]⟩, Nat.le_trans S.tk l, fun b o e => k b o (S.keep b o e), S.ns.keeps k, fun n c hc => (S.cell n c hc).keeps k, S.base, fun f hf => (S.facts f hf).keeps k, S.glob, S.blt, S.kind, S.scp⟩
theorem Sit.more (S : Sit mg mb sp s₀ env m cm fs s) {f : Fact} (x : f.At s.heap) : Sit mg mb sp s₀ env m cm (f :: fs) s :=
  ⟨S.same, S.tk, S.keep, S.ns, S.cell, S.base, fun g hg => (List.mem_cons.mp hg).elim (fun e => e ▸ x) (S.facts g), S.glob, S.blt, S.kind, S.scp⟩
theorem Sit.less (S : Sit mg mb sp s₀ env m cm fs s) {gs : List Fact} (k : ∀ g ∈ gs, g ∈ fs) : Sit mg mb sp s₀ env m cm gs s :=
  ⟨S.same, S.tk, S.keep, S.ns, S.cell, S.base, fun g hg => S.facts g (k g hg), S.glob, S.blt, S.kind, S.scp⟩
theorem Sit.here (S : Sit mg mb sp s₀ env m cm fs s) : Base mg mb s.heap := S.base.keeps S.keep
theorem Sit.done (S : Sit mg mb sp s₀ env m cm fs s) : Kp s₀ s := ⟨let ⟨h, tk, e⟩ := S.same; ⟨h, tk, e, by have := S.keep; rw [e] at this; exact this⟩, S.tk⟩
theorem Sit.kindOf (S : Sit mg mb sp s₀ env m cm fs s) {x : Str} {k : NameKind} (hl : sp.names.lookup x = some k) : env.kindOf x = some k := by
  unfold Env.kindOf; rw [S.scp]; exact hl

theorem Sit.ld (S : Sit mg mb sp s₀ env m cm fs s) {x : Str} {pos : Pos} {v : Value} {Q : Value → Shared → Prop} (hl : sp.names.lookup x = some .local) (hv : m x = some v) (h : Q v s)
    (hd : (x == ("__debug__" : Str)) = false := by decide) : wpAny M A (eval (.Name x pos) env) Q E s := wpAny_Name (wpAny_loadName_local S.kind (S.kindOf hl) S.ns hv h) hd
theorem Sit.ldc (S : Sit mg mb sp s₀ env m cm fs s) {x : Str} {pos : Pos} {c : Addr} {v : Value} {Q : Value → Shared → Prop} (hl : sp.names.lookup x = some .cell) (hc : env.cells.lookup x = some c) (hv : cm x = some v) (h : Q v s)
    (hd : (x == ("__debug__" : Str)) = false := by decide) : wpAny M A (eval (.Name x pos) env) Q E s := wpAny_Name (wpAny_loadName_cell S.kind (S.kindOf hl) hc (hv ▸ S.cell x c hc) h) hd
theorem Sit.st (S : Sit mg mb sp s₀ env m cm fs s) (O : Own s₀ env) {x : Str} {v : Value} {Q : Unit → Shared → Prop} (hl : sp.names.lookup x = some .local)
    (h : ∀ s', s.toks < s'.toks → Sit mg mb sp s₀ env (fun y => if y = x then some v else m y) cm fs s' → Q () s') : wpAny M A (storeName env x v) Q E s := by
  refine wpAny_storeName_local (S.kindOf hl) S.ns (fun h' hn' hs' => h _ (Nat.lt_succ_self _) ⟨?_, Nat.le_succ_of_le S.tk, fun b o e => ?_, hn', fun k c hc => ?_, S.base, fun f hf => ?_, S.glob, S.blt, S.kind, S.scp⟩) (by rw [S.kind]; rfl)
  · obtain ⟨h₁, tk, rfl⟩ := S.same
    exact ⟨h', _, rfl⟩
  · exact hs'.extBut b o (fun q => by rw [q, O.fresh] at e; cases e) (S.keep b o e)
  · exact (S.cell k c hc).sameBut hs' (Ne.symm (O.above k c hc).1)
  · exact (S.facts f hf).sameBut hs' ((S.facts f hf).ne_ns S.ns)
theorem Sit.stc (S : Sit mg mb sp s₀ env m cm fs s) (O : Own s₀ env) {x : Str} {c : Addr} {v : Value} {Q : Unit → Shared → Prop} (hl : sp.names.lookup x = some .cell) (hc : env.cells.lookup x = some c)
    (h : ∀ s', s'.toks = s.toks → Sit mg mb sp s₀ env m (fun y => if y = x then some v else cm y) fs s' → Q () s') : wpAny M A (storeName env x v) Q E s := by
  have hLc := O.above x c hc
  refine wpAny_storeName_cell S.kind (S.kindOf hl) hc (S.cell x c hc) fun h' hc' hs' => h _ rfl ⟨?_, S.tk, fun b o e => ?_, S.ns.sameBut hs' hLc.1, fun k c' hk' => ?_, S.base, fun f hf => ?_, S.glob, S.blt, S.kind, S.scp⟩
  · obtain ⟨h₁, tk, rfl⟩ := S.same
    exact ⟨h', _, rfl⟩
  · exact hs'.extBut b o (fun q => by rw [q, hLc.2] at e; cases e) (S.keep b o e)
  · by_cases hkn : k = x
    · subst hkn
      rw [hc] at hk'; cases hk'
      simpa using hc'
    · rw [if_neg hkn]
      exact (S.cell k c' hk').sameBut hs' fun e => hkn (name_of_addr O.apart (PySem.mem_of_lookup hk') (e ▸ PySem.mem_of_lookup hc))
  · exact (S.facts f hf).sameBut hs' ((S.facts f hf).ne_cell (S.cell x c hc))

/-- a name of the text's own defs -/
theorem Sit.fn (S : Sit mg mb sp s₀ env m cm fs s) (i : Nat) {x : Str} {pos : Pos} {Q : Value → Shared → Prop} (hi : i ∈ [1, 2, 5, 6, 8, 9, 10, 11, 12, 13, 14, 15]) (hn : nm i = x) (hx : sp.names.lookup x = some .globalImplicit)
    (h : ∀ f, FnOk mg s₀.heap i f → Q (.ref f) s) (hd : (x == ("__debug__" : Str)) = false := by decide) : wpAny M A (eval (.Name x pos) env) Q E s := by
  obtain ⟨f, F⟩ := S.base.fn i hi
  exact Name_function_global S.kind (S.kindOf hx) (loadGlobal_global (env := env) (S.glob ▸ S.here.g) (hn ▸ F.1) (h f F)) hd
theorem Sit.bl (S : Sit mg mb sp s₀ env m cm fs s) {x : Str} {pos : Pos} {v : Value} {Q : Value → Shared → Prop} (hi : x ∈ (["max", "min", "sorted", "len", "range", "sum"] : List Str)) (hx : sp.names.lookup x = some .globalImplicit)
    (hv : bootBuiltins x = some v) (h : Q v s) (hd : (x == ("__debug__" : Str)) = false := by decide) : wpAny M A (eval (.Name x pos) env) Q E s :=
  Name_function_global S.kind (S.kindOf hx) (loadGlobal_builtin (env := env) (S.glob ▸ S.here.g) (S.base.bl x hi).1 (S.blt ▸ S.here.b) ((S.base.bl x hi).2.trans hv) h) hd

theorem Sit.newTuple (S : Sit mg mb sp s₀ env m cm fs s) {vs : List Value} {Q : Value → Shared → Prop}
    (h : ∀ a s', s'.toks = s.toks → Sit mg mb sp s₀ env m cm (⟨a, true, vs⟩ :: fs) s' → Q (.ref a) s') (hsz : vs.length ≤ sizeLine) : wpAny M A (PySem.newTuple vs) Q E s :=
  wpAny_newObj_type (h _ _ rfl ((S.kept (kp_heap fun _ _ e => Heap.get?_push_of_some _ e)).more ⟨_, Heap.get?_push_size _ rfl, rfl, 0, rfl⟩)) (by show vs.toArray.size ≤ sizeLine; rw [List.size_toArray]; exact hsz)
theorem Sit.newList (S : Sit mg mb sp s₀ env m cm fs s) {vs : List Value} {Q : Value → Shared → Prop}
    (h : ∀ a s', s.heap.get? a = none → Sit mg mb sp s₀ env m cm (⟨a, false, vs⟩ :: fs) s' → Q (.ref a) s') (hsz : vs.length ≤ sizeLine) : wpAny M A (PySem.newList vs) Q E s :=
  wpAny_newObj_type (h _ _ (by
    cases e : s.heap.get? s.heap.objs.size with
    | none => rfl
    | some o' => exact absurd (Heap.lt_size e) (Nat.lt_irrefl _)) ((S.kept (kp_heap fun _ _ e => Heap.get?_push_of_some _ e)).more ⟨_, Heap.get?_push_size _ rfl, rfl, 0, rfl⟩)) (by show vs.toArray.size ≤ sizeLine; rw [List.size_toArray]; exact hsz)

/-- the call of a def of the text -/
theorem enter (i : Nat) (ps : List Str) {f : Addr} {vals : List Value} {binds : List (Str × Value)} {Q : Value → Shared → Prop} {fs : List Fact} (B : Base mg mb s.heap) (F : FnOk mg s.heap i f) (hroom : A.depth < recursionLimit)
    (hb : ps.zip vals = binds) (hbind : ∀ pm c doc, bindArgs (docDef (nm i) (pr i) (bd i) (sc i) pm (.ref c) doc) ⟨vals, []⟩ = pure binds)
    (hps : (ps.all fun x => (sc i).names.lookup x == some .local || (sc i).names.lookup x == some .cell) = true)
    (hpl : (!(sc i).isCoroutine && !(sc i).isGenerator && (sc i).kind == .function) = true) (hfs : ∀ g ∈ fs, g.At s.heap)
    (h : ∀ env s₁, env.cells = cellsFrom (env.locals + 1) (sc i).names [] → Own s env → Sit mg mb (sc i) s env (bindL (fun x => (sc i).names.lookup x) binds fun _ => none) (bindC (fun x => (sc i).names.lookup x) binds fun _ => none) fs s₁ →
      wpAny (model prog w) (A.deeper env) (execs (bd i) env) (fun fl s' => Q (match fl with | .ret v => v | _ => .none) s') (fun _ _ => False) s₁) :
    wpAny (model prog w) A (call (.ref f) vals) Q E s := by
  obtain ⟨_, o, pm, c, doc, ho, hd, hcd⟩ := F
  simp only [Bool.and_eq_true, Bool.not_eq_true', beq_iff_eq] at hpl
  obtain ⟨⟨hco, hgen⟩, hk⟩ := hpl
  have hkind : ∀ k, ∀ x ∈ binds, (sc i).names.lookup x.1 = some .local ∨ ((sc i).names.lookup x.1 = some .cell ∧ ((cellsFrom k (sc i).names []).lookup x.1).isSome = true) := fun k x hx => by
    subst hb
    have h1 := List.all_eq_true.mp hps x.1 (List.of_mem_zip hx).1
    simp only [Bool.or_eq_true, beq_iff_eq] at h1
    exact h1.imp id fun e => ⟨e, cellsFrom_some _ _ _ (.inl e)⟩
  refine wpAny_call (codeAny_call_function hroom ho hd hco hgen rfl hcd ?_)
  rw [hbind pm c doc]
  refine wpAny_pure (with_kp (wpAny_newFunctionEnv_cells hk (hkind _) fun env he s' x htk => ?_))
  subst he
  have none_of : ∀ a, s.heap.objs.size ≤ a → s.heap.get? a = none := fun a ha => by
    cases e : s.heap.get? a with
    | none => rfl
    | some o' => exact absurd (Heap.lt_size e) (Nat.not_lt.mpr ha)
  refine ⟨B.nolimit.keeps x.toInCall.keep, codeAny_func ?_⟩
  refine wpAny_mono (h _ s' rfl ⟨none_of _ x.toInCall.fresh, x.apart, fun n c hm => ⟨Nat.ne_of_lt (x.above n c (PySem.mem_of_lookup hm)), none_of _ (Nat.le_of_lt (Nat.lt_of_le_of_lt x.toInCall.fresh (x.above n c (PySem.mem_of_lookup hm))))⟩⟩
    ⟨x.toInCall.same, htk, x.toInCall.keep, x.toInCall.ns, x.cell, B, fun g hg => (hfs g hg).keeps x.toInCall.keep, rfl, rfl, hk, rfl⟩) (fun _ _ q => q) fun _ _ e => e.elim
theorem callWith_fn {i : Nat} {f : Addr} {h₀ : Heap} {pos : Pos} {e : Expr} {rest : List Expr} {Q : Value → Shared → Prop} (F : FnOk mg h₀ i f)
    (h : wpAny M A (spliced (backTo pos (starEach (e :: rest) env))) (fun vs s₁ => Gr h₀ s₁.heap ∧ wpAny M A (call (.ref f) vs) Q E s₁) E s)
    (he : starEach (e :: rest) env = (false, eval e env) :: starEach rest env := by rfl) :
    wpAny M A (callWith pos (.ref f) [] (backTo pos (starEach (e :: rest) env)) []) Q E s := by
  obtain ⟨_, o, pm, c, doc, ho, hd, hcd⟩ := F
  exact callWith_def hd (wpAny_mono h (fun vs s₁ x => ⟨x.1 _ _ ho, x.2⟩) fun _ _ x => x) he
end

inductive Fls : List Value → List Nat → Prop
  | nil : Fls [] []
  | cons (n : Nat) (t : Tok) {vs : List Value} {ns : List Nat} : n < 2 ^ 53 → Fls vs ns → Fls (.float (fl n) t :: vs) (n :: ns)
theorem Fls.length : ∀ {vs ns}, Fls vs ns → vs.length = ns.length
  | _, _, .nil => rfl
  | _, _, .cons _ _ _ h => congrArg (· + 1) h.length
theorem Fls.append : ∀ {vs ns us ms}, Fls vs ns → Fls us ms → Fls (vs ++ us) (ns ++ ms)
  | _, _, _, _, .nil, k => k
  | _, _, _, _, .cons n t h r, k => .cons n t h (r.append k)
theorem Fls.drop : ∀ {vs ns}, Fls vs ns → ∀ k : Nat, Fls (vs.drop k) (ns.drop k)
  | _, _, h, 0 => h
  | _, _, .nil, _ + 1 => .nil
  | _, _, .cons _ _ _ r, k + 1 => r.drop k
theorem Fls.take : ∀ {vs ns}, Fls vs ns → ∀ k : Nat, Fls (vs.take k) (ns.take k)
  | _, _, _, 0 => .nil
  | _, _, .nil, _ + 1 => .nil
  | _, _, .cons n t h r, k + 1 => .cons n t h (r.take k)
theorem Fls.at : ∀ {vs ns}, Fls vs ns → ∀ (i : Nat) (v : Value), vs[i]? = some v → ∃ n t, v = .float (fl n) t ∧ ns[i]? = some n ∧ n < 2 ^ 53
  | _, _, .nil, i, v, h => by simp at h
  | _, _, .cons n t hn _, 0, v, h => ⟨n, t, (Option.some.inj h).symm, rfl, hn⟩
  | _, _, .cons _ _ _ k, i + 1, v, h => k.at i v h
theorem Fls.at' : ∀ {vs ns}, Fls vs ns → ∀ (i : Nat) (n : Nat), ns[i]? = some n → n < 2 ^ 53 ∧ ∃ t, vs[i]? = some (.float (fl n) t)
  | _, _, .nil, i, v, h => by simp at h
  | _, _, .cons n t hn _, 0, v, h => ⟨by cases h; exact hn, t, by cases h; rfl⟩
  | _, _, .cons _ _ _ k, i + 1, v, h => k.at' i v h
theorem Fls.mem : ∀ {vs ns}, Fls vs ns → ∀ v ∈ vs, ∃ n t, n < 2 ^ 53 ∧ v = .float (fl n) t
  | _, _, .nil, v, h => nomatch h
  | _, _, .cons n t hn k, v, h => by
    rcases List.mem_cons.mp h with rfl | h
    · exact ⟨n, t, hn, rfl⟩
    · exact k.mem v h

/-- the number of parts that a double stands for -/
def nOf : Value → Nat
  | .float b _ => (Float64.val b).toNat / 2 ^ 1053
  | _ => 0
theorem nOf_fl {n : Nat} {t : Tok} (h : n < 2 ^ 53) : nOf (.float (fl n) t) = n := by
  show (Float64.val (fl n)).toNat / 2 ^ 1053 = n
  rw [val_fl h, Int.toNat_natCast]
  exact Nat.mul_div_cancel _ U_pos
theorem Fls.nums : ∀ {vs ns}, Fls vs ns → vs.map nOf = ns
  | _, _, .nil => rfl
  | _, _, .cons n t hn k => by rw [List.map_cons, k.nums, nOf_fl hn]
theorem fls_map : ∀ (vs : List Value), (∀ v ∈ vs, ∃ n t, n < 2 ^ 53 ∧ v = .float (fl n) t) → Fls vs (vs.map nOf)
  | [], _ => .nil
  | v :: vs, h => by
    obtain ⟨n, t, hn, rfl⟩ := h v (List.mem_cons_self ..)
    rw [List.map_cons, nOf_fl hn]
    exact .cons n t hn (fls_map vs fun u hu => h u (List.mem_cons_of_mem _ hu))

/-! sorted -/
@[reducible] def fltKind : KeyKind where
  α := Int
  blt a b := decide (a < b)
  irrefl a := by simp
  trans a b c h1 h2 := by simp only [decide_eq_true_eq] at *; omega
  negTrans a b c h := by simp only [decide_eq_true_eq] at *; omega
  total a b h1 h2 := by simp only [decide_eq_false_iff_not] at *; omega
  keyOf v := match v with
    | .float b _ => (match Float64.decode b with | .fin .. => some (Float64.val b) | _ => none)
    | _ => none
  dflt := 0
section
variable {prog : Program} {w : World} {A : Around} {E : Value → Shared → Prop} {s : Shared}
theorem oneLt_flt {a b : UInt64} {t u : Tok} {Q : Bool → Shared → Prop} (h : Q (Float64.cmp a b == some .lt) s) : wpAny (model prog w) A (oneLt' true (.float a t) (.float b u)) Q E s := by
  rw [oneLt'_eq]
  simp only [if_true]
  refine wpAny_bind (wpAny_cRoomFor_byValue rfl ?_)
  refine wpAny_bind (wpAny_callSpecialIfBound?_slot (AutoFloatOps.typeIs_float s a t) F.slot_float_lt
    (call_gives F.slot_float_lt (AutoFloatOps.typeIs_float s a t) F.entry_float_lt (F.args_float_lt_2 _ _) (AutoFloatG5.float___lt___float_float_0 a t b u) ?_))
  exact wpAny_truthy_bool h
end
theorem fltKind_oneLt : fltKind.OneLt := by
  intro prog w A E s x y a b Q ha hb h
  cases x <;> simp only [fltKind, reduceCtorEq] at ha
  cases y <;> simp only [fltKind, reduceCtorEq] at hb
  rename_i p t q u
  split at ha
  · rename_i _ a1 m1 e1 d1
    split at hb
    · rename_i _ a2 m2 e2 d2
      cases ha; cases hb
      refine oneLt_flt ?_
      rw [Float64.cmp_right d1 d2]
      have e : (some (compare (Float64.val p) (Float64.val q)) == some Ordering.lt) = decide (Float64.val p < Float64.val q) := by
        rcases Int.lt_trichotomy (Float64.val p) (Float64.val q) with h1 | h1 | h1
        · rw [Int.compare_eq_lt.mpr h1]; simp [h1]
        · rw [h1]; simp
        · rw [Int.compare_eq_gt.mpr h1]; simp; omega
      rw [e]; exact h
    · cases hb
  · cases ha
theorem keyOf_fl {n : Nat} {t : Tok} (h : n < 2 ^ 53) : fltKind.keyOf (.float (fl n) t) = some ((n * 2 ^ 1053 : Nat) : Int) := by
  obtain ⟨m, e, h1, _⟩ := dec_fl h
  show (match Float64.decode (fl n) with | .fin .. => some (Float64.val (fl n)) | _ => none) = _
  rw [h1]
  exact congrArg some (val_fl h)
theorem Fls.keysOf {vs : List Value} {ns : List Nat} (hS : Fls vs ns) : KeysOf fltKind (pairsOf vs) := by
  intro p hp
  rw [pairsOf_toList] at hp
  obtain ⟨n, t, hn, e⟩ := hS.mem _ (mem_zip_self hp).2
  exact ⟨_, by rw [e]; exact keyOf_fl hn⟩
theorem firstOfTuple'_flt (b : UInt64) (t : Tok) : firstOfTuple' (.float b t) = pure none := rfl
theorem mapM_first_fls : ∀ {vs ns}, Fls vs ns → vs.mapM firstOfTuple' = pure (vs.map fun _ => none)
  | _, _, .nil => by simp
  | _, _, .cons n t _ h => by rw [List.mapM_cons, firstOfTuple'_flt, mapM_first_fls h]; simp
theorem mapM_typeOf_fls : ∀ {vs ns}, Fls vs ns → vs.mapM typeOf = pure (vs.map fun _ => Value.type "float")
  | _, _, .nil => by simp
  | _, _, .cons n t _ h => by
    rw [List.mapM_cons, mapM_typeOf_fls h]
    show (pure (Value.type "float") >>= fun b => pure _ >>= fun bs => pure (b :: bs)) = _
    simp
theorem keyKind_fls {v₁ v₂ : Value} {vs : List Value} {ns : List Nat} (hS : Fls (v₁ :: v₂ :: vs) ns) : keyKind' (v₁ :: v₂ :: vs).toArray = pure oneType' := by
  rw [keyKind'_eq, List.mapM_toArray, mapM_first_fls hS]
  simp only [map_pure, pure_bind]
  rw [if_neg (by simp), if_neg (by simp)]
  rw [oneTypeOnly'_eq, List.mapM_toArray, mapM_typeOf_fls hS]
  simp only [map_pure, pure_bind]
  have hall : ((List.map (fun _ => Value.type "float") (v₁ :: v₂ :: vs)).toArray.all fun x => x == Value.type "float") = true := by
    simp only [List.all_toArray, List.all_map, List.all_eq_true]
    intro _ _
    rfl
  have h0 : (List.map (fun _ => Value.type "float") (v₁ :: v₂ :: vs)).toArray[0]? = some (Value.type "float") := by simp
  rw [h0]
  simp only [hall, if_true, pure_bind, Option.isSome_some]
theorem KK_fl {xs : Array Keyed} {i : Nat} (hi : i < xs.size) {n : Nat} {t : Tok} {q : Value} (hn : n < 2 ^ 53) (hx : xs[i] = (.float (fl n) t, q)) : KK fltKind xs i = ((n * 2 ^ 1053 : Nat) : Int) := by
  unfold KK; rw [getElem?_pos xs i hi, hx]
  show (fltKind.keyOf (.float (fl n) t)).getD _ = _
  rw [keyOf_fl hn]; rfl
theorem sorted_out_fls {vs : List Value} {ns : List Nat} (hS : Fls vs ns) {xs : Array Keyed} (hp : xs.Perm (pairsOf vs)) (hs : SortedToK fltKind xs (pairsOf vs).size) :
    ∃ ns', Fls (xs.map (·.2)).toList ns' ∧ ns'.Perm ns ∧ ns'.Pairwise (· ≤ ·) ∧ ∀ v ∈ (xs.map (·.2)).toList, v ∈ vs := by
  have hl : xs.toList.Perm (vs.zip vs) := by rw [← pairsOf_toList]; exact Array.perm_iff_toList_perm.mp hp
  have hmem : ∀ p, p ∈ xs.toList → p.1 = p.2 ∧ p.1 ∈ vs := fun p hp' => mem_zip_self (hl.mem_iff.mp hp')
  refine ⟨xs.toList.map (fun p => nOf p.1), ?_, ?_, ?_, ?_⟩
  · have e : (xs.map (·.2)).toList = xs.toList.map (·.1) := by
      rw [Array.toList_map]; exact List.map_congr_left fun p hp' => (hmem p hp').1.symm
    rw [e]
    have h1 := fls_map (xs.toList.map (·.1)) (by
      intro v hv
      obtain ⟨p, hp', rfl⟩ := List.mem_map.mp hv
      exact hS.mem _ (hmem p hp').2)
    rwa [List.map_map] at h1
  · have h1 := hl.map (fun p => nOf p.1)
    have e2 : (vs.zip vs).map (fun p => nOf p.1) = ns := by
      have : (vs.zip vs).map (fun p => nOf p.1) = ((vs.zip vs).map Prod.fst).map nOf := by rw [List.map_map]; rfl
      rw [this, List.map_fst_zip (Nat.le_refl _), hS.nums]
    rwa [e2] at h1
  · rw [List.pairwise_iff_getElem]
    intro i j hi hj hij
    have hi' : i < xs.size := by simpa using hi
    have hj' : j < xs.size := by simpa using hj
    have h1 := hs i j (Nat.le_of_lt hij) (by rw [← hp.size_eq]; exact hj')
    obtain ⟨x, t, hx, ex⟩ := hS.mem _ (hmem xs[i] (by simp)).2
    obtain ⟨y, u, hy, ey⟩ := hS.mem _ (hmem xs[j] (by simp)).2
    rw [KK_fl hi' hx (t := t) (q := xs[i].2) (Prod.ext ex rfl), KK_fl hj' hy (t := u) (q := xs[j].2) (Prod.ext ey rfl)] at h1
    change decide (((y * 2 ^ 1053 : Nat) : Int) < ((x * 2 ^ 1053 : Nat) : Int)) = false at h1
    simp only [List.getElem_map, Array.getElem_toList]
    rw [ex, ey, nOf_fl hx, nOf_fl hy]
    have h2 : ¬ (((y * 2 ^ 1053 : Nat) : Int) < ((x * 2 ^ 1053 : Nat) : Int)) := of_decide_eq_false h1
    have hU := U_pos
    generalize (2 : Nat) ^ 1053 = K at *
    have h3 : x * K ≤ y * K := by omega
    exact Nat.le_of_mul_le_mul_right h3 hU
  · intro v hv
    rw [Array.toList_map] at hv
    obtain ⟨p, hp', rfl⟩ := List.mem_map.mp hv
    rw [← (hmem p hp').1]
    exact (hmem p hp').2

section
variable {prog : Program} {w : World} {A : Around} {E : Value → Shared → Prop} {s : Shared} {Q : Value → Shared → Prop}
theorem sortedF {l : Addr} {vs : List Value} {ns : List Nat} (hl : s.heap.IsList l vs.toArray) (hS : Fls vs ns) (h64 : vs.length < 64)
    (h : ∀ a s' vs' ns', Kp s s' → Fact.At ⟨a, false, vs'⟩ s'.heap → Fls vs' ns' → ns'.Perm ns → ns'.Pairwise (· ≤ ·) → (∀ v ∈ vs', v ∈ vs) → Q (.ref a) s') :
    wpAny (model prog w) A (call (.builtin "sorted") [.ref l]) Q E s := by
  refine sortedK fltKind_oneLt hl hS.keysOf (fun v₁ v₂ rest e => keyKind_fls (by rw [← e]; exact hS)) h64 fun st' hp hs => ?_
  obtain ⟨ns', h1, h2, h3, h4⟩ := sorted_out_fls hS hp hs
  obtain ⟨e, he⟩ := sortedAll_at s.heap vs ((arrOf st').map (·.2))
  exact h _ _ ((arrOf st').map (·.2)).toList ns' (kp_heap fun _ _ => sortedAll_old) ⟨_, he, rfl, e, rfl⟩ h1 h2 h3 h4

/-! max and min of three -/
theorem at3 {a b c : Nat} {t u x : Tok} (ha : a < 2 ^ 53) (hb : b < 2 ^ 53) (hc : c < 2 ^ 53) : Fls [.float (fl a) t, .float (fl b) u, .float (fl c) x] [a, b, c] := .cons a t ha (.cons b u hb (.cons c x hc .nil))
theorem cmpOf_gt {vs : List Value} {ns : List Nat} (hf : Fls vs ns) : CmpOf prog w A .Gt (fun i v => vs.toArray[i]? = some v) fun i j => decide (ns.getD j 0 < ns.getD i 0) := by
  intro i j vi vj s Q E hi hj h
  obtain ⟨n, t, rfl, e1, hn⟩ := hf.at i vi (by simpa using hi)
  obtain ⟨m, u, rfl, e2, hm⟩ := hf.at j vj (by simpa using hj)
  simp only [List.getD_eq_getElem?_getD, e1, e2, Option.getD_some] at h
  exact AutoFloatOps.gt_0 (by rw [gt_fl hn hm]; exact h)
theorem cmpOf_lt {vs : List Value} {ns : List Nat} (hf : Fls vs ns) : CmpOf prog w A .Lt (fun i v => vs.toArray[i]? = some v) fun i j => decide (ns.getD i 0 < ns.getD j 0) := by
  intro i j vi vj s Q E hi hj h
  obtain ⟨n, t, rfl, e1, hn⟩ := hf.at i vi (by simpa using hi)
  obtain ⟨m, u, rfl, e2, hm⟩ := hf.at j vj (by simpa using hj)
  simp only [List.getD_eq_getElem?_getD, e1, e2, Option.getD_some] at h
  exact AutoFloatOps.lt_0 (by rw [lt_fl hn hm]; exact h)
theorem best_gt (ns : List Nat) : ∀ k, k < ns.length → ns.getD (argBest (fun i j => decide (ns.getD j 0 < ns.getD i 0)) k) 0 = (ns.take (k + 1)).foldl max 0
  | 0, h => by
    cases ns with
    | nil => simp at h
    | cons a r => simp [argBest]
  | k + 1, h => by
    have ih := best_gt ns k (by omega)
    have e : ns.take (k + 1 + 1) = ns.take (k + 1) ++ [ns.getD (k + 1) 0] := by
      rw [List.take_succ_eq_append_getElem h]; simp [List.getD_eq_getElem?_getD, h]
    rw [e, List.foldl_append, ← ih]
    show ns.getD (if decide (ns.getD (argBest (fun i j => decide (ns.getD j 0 < ns.getD i 0)) k) 0 < ns.getD (k + 1) 0) = true then k + 1 else argBest (fun i j => decide (ns.getD j 0 < ns.getD i 0)) k) 0 = max _ _
    by_cases hc : ns.getD (argBest (fun i j => decide (ns.getD j 0 < ns.getD i 0)) k) 0 < ns.getD (k + 1) 0
    · rw [if_pos (decide_eq_true hc)]; omega
    · rw [if_neg (by simpa using hc)]; omega
theorem best_lt (ns : List Nat) : ∀ k, k < ns.length → ns.getD (argBest (fun i j => decide (ns.getD i 0 < ns.getD j 0)) k) 0 = ((ns.take (k + 1)).tail).foldl min (ns.getD 0 0)
  | 0, h => by
    cases ns with
    | nil => simp at h
    | cons a r => simp [argBest]
  | k + 1, h => by
    have ih := best_lt ns k (by omega)
    have e : (ns.take (k + 1 + 1)).tail = (ns.take (k + 1)).tail ++ [ns.getD (k + 1) 0] := by
      rw [List.take_succ_eq_append_getElem h, List.tail_append_of_ne_nil (by cases ns <;> simp at h ⊢)]; simp [List.getD_eq_getElem?_getD, h]
    rw [e, List.foldl_append, ← ih]
    show ns.getD (if decide (ns.getD (k + 1) 0 < ns.getD (argBest (fun i j => decide (ns.getD i 0 < ns.getD j 0)) k) 0) = true then k + 1 else argBest (fun i j => decide (ns.getD i 0 < ns.getD j 0)) k) 0 = min _ _
    by_cases hc : ns.getD (k + 1) 0 < ns.getD (argBest (fun i j => decide (ns.getD i 0 < ns.getD j 0)) k) 0
    · rw [if_pos (decide_eq_true hc)]; omega
    · rw [if_neg (by simpa using hc)]; omega
end
section
variable {prog : Program} {w : World} {A : Around} {E : Value → Shared → Prop} {s : Shared} {Q : Value → Shared → Prop}

/-- where the iterator over a written triple lies, and that what stood before it stays -/
theorem below_two {h : Heap} {o o' : Obj} {d : Addr} (hd : d ∈ [(h.push o).objs.size, h.objs.size]) : d < ((h.push o).push o').objs.size := by
  have e1 : (h.push o).objs.size = h.objs.size + 1 := Heap.size_push ..
  have e2 : ((h.push o).push o').objs.size = (h.push o).objs.size + 1 := Heap.size_push ..
  rw [e2]
  exact Nat.lt_succ_of_le ((List.mem_cons.mp hd).elim Nat.le_of_eq fun m => Nat.le_trans (Nat.le_of_eq (List.mem_singleton.mp m)) (e1 ▸ Nat.le_succ _))
theorem kept_two {h h' : Heap} {o o' : Obj} (k : ∀ b x, b ∉ [(h.push o).objs.size] → ((h.push o).push o').get? b = some x → h'.get? b = some x) : Gr h h' := fun b x e =>
  k b x (fun m => Nat.not_succ_le_self _ (Nat.le_trans (Nat.le_of_eq ((Heap.size_push (h := h) o).symm.trans (List.mem_singleton.mp m).symm)) (Nat.le_of_lt (Heap.lt_size e)))) (Heap.get?_push_of_some _ (Heap.get?_push_of_some _ e))
theorem max3 {a b c : Nat} {t u x : Tok} (hh : A.handled = none) (ha : a < 2 ^ 53) (hb : b < 2 ^ 53) (hc : c < 2 ^ 53)
    (h : ∀ t' s', Kp s s' → Value.float (fl (max (max a b) c)) t' ∈ [Value.float (fl a) t, .float (fl b) u, .float (fl c) x] → Q (.float (fl (max (max a b) c)) t') s') : wpAny (model prog w) A (call (.builtin "max") [.float (fl a) t, .float (fl b) u, .float (fl c) x]) Q E s := by
  have hf := at3 (t := t) (u := u) (x := x) ha hb hc
  have hT : (s.heap.push { cls := .type "tuple", data := .seq #[.float (fl a) t, .float (fl b) u, .float (fl c) x] }).IsTuple s.heap.objs.size [Value.float (fl a) t, .float (fl b) u, .float (fl c) x].toArray := ⟨_, Heap.get?_push_size _ rfl, rfl, 0, rfl⟩
  refine with_kp (call_max_three (wpAny_pyIter_tuple hT ?_))
  refine ⟨_, [_, s.heap.objs.size], [_], _, _, _, _, rfl, Walks.tuple (A := A.in1) hh _ s.heap.objs.size (fun e => absurd (e.trans (Heap.size_push ..)) (Nat.ne_of_lt (Nat.lt_succ_self _))) [Value.float (fl a) t, .float (fl b) u, .float (fl c) x].toArray,
    ⟨⟨_, Heap.get?_push_size _ rfl, rfl, rfl⟩, hT.push _⟩, fun d hd => below_two hd, by simp, cmpOf_gt hf, fun v h' tk hP hk htk => ?_⟩
  · have hold : Gr s.heap h' := kept_two hk
    have hmem : v ∈ [Value.float (fl a) t, .float (fl b) u, .float (fl c) x] := List.mem_of_getElem? (by simpa using hP)
    obtain ⟨n, t', rfl, e1, _⟩ := hf.at _ v (by simpa using hP)
    have e2 := best_gt [a, b, c] 2 (by simp)
    have e3 : ([a, b, c].take 3).foldl max 0 = max (max a b) c := by simp
    rw [List.getD_eq_getElem?_getD] at e2
    change [a, b, c][argBest (fun i j => decide ([a, b, c].getD j 0 < [a, b, c].getD i 0)) 2]? = some n at e1
    rw [e1, Option.getD_some] at e2
    rw [e2.trans e3] at hmem ⊢
    exact h t' _ ⟨⟨h', tk, rfl, hold⟩, htk⟩ hmem
theorem min3 {a b c : Nat} {t u x : Tok} (hh : A.handled = none) (ha : a < 2 ^ 53) (hb : b < 2 ^ 53) (hc : c < 2 ^ 53)
    (h : ∀ t' s', Kp s s' → Value.float (fl (min (min a b) c)) t' ∈ [Value.float (fl a) t, .float (fl b) u, .float (fl c) x] → Q (.float (fl (min (min a b) c)) t') s') : wpAny (model prog w) A (call (.builtin "min") [.float (fl a) t, .float (fl b) u, .float (fl c) x]) Q E s := by
  have hf := at3 (t := t) (u := u) (x := x) ha hb hc
  have hT : (s.heap.push { cls := .type "tuple", data := .seq #[.float (fl a) t, .float (fl b) u, .float (fl c) x] }).IsTuple s.heap.objs.size [Value.float (fl a) t, .float (fl b) u, .float (fl c) x].toArray := ⟨_, Heap.get?_push_size _ rfl, rfl, 0, rfl⟩
  refine with_kp (call_min_three (wpAny_pyIter_tuple hT ?_))
  refine ⟨_, [_, s.heap.objs.size], [_], _, _, _, _, rfl, Walks.tuple (A := A.in1) hh _ s.heap.objs.size (fun e => absurd (e.trans (Heap.size_push ..)) (Nat.ne_of_lt (Nat.lt_succ_self _))) [Value.float (fl a) t, .float (fl b) u, .float (fl c) x].toArray,
    ⟨⟨_, Heap.get?_push_size _ rfl, rfl, rfl⟩, hT.push _⟩, fun d hd => below_two hd, by simp, cmpOf_lt hf, fun v h' tk hP hk htk => ?_⟩
  · have hold : Gr s.heap h' := kept_two hk
    have hmem : v ∈ [Value.float (fl a) t, .float (fl b) u, .float (fl c) x] := List.mem_of_getElem? (by simpa using hP)
    obtain ⟨n, t', rfl, e1, _⟩ := hf.at _ v (by simpa using hP)
    have e2 := best_lt [a, b, c] 2 (by simp)
    have e3 : (([a, b, c].take 3).tail).foldl min ([a, b, c].getD 0 0) = min (min a b) c := by simp
    rw [List.getD_eq_getElem?_getD] at e2
    change [a, b, c][argBest (fun i j => decide ([a, b, c].getD i 0 < [a, b, c].getD j 0)) 2]? = some n at e1
    rw [e1, Option.getD_some] at e2
    rw [e2.trans e3] at hmem ⊢
    exact h t' _ ⟨⟨h', tk, rfl, hold⟩, htk⟩ hmem

/-! max and min of a list -/
def maxN (ns : List Nat) : Nat := ns.foldl max 0
def minN (ns : List Nat) : Nat := ns.tail.foldl min (ns.getD 0 0)
theorem maxL {l : Addr} {vs : List Value} {ns : List Nat} (hh : A.handled = none) (hl : s.heap.IsList l vs.toArray) (hf : Fls vs ns) (hne : 0 < ns.length)
    (h : ∀ t s', Kp s s' → Q (.float (fl (maxN ns)) t) s') : wpAny (model prog w) A (call (.builtin "max") [.ref l]) Q E s := by
  refine with_kp (call_max_walk (Flt.iter_list_ hl fun s₂ e st hfp hlI => ?_))
  subst e
  have W := Walks.list (prog := prog) (w := w) (A := A.in1) hh _ l hlI vs.toArray
  have hsz : vs.toArray.size = ns.length := by simpa using hf.length
  refine ⟨_, _, _, _, _, _, _, rfl, W, st, hfp, by rw [hsz]; exact hne, cmpOf_gt hf, fun v h' tk hP hk htk => ?_⟩
  rw [hsz] at hP
  obtain ⟨n, t, rfl, e1, _⟩ := hf.at _ v ((List.getElem?_toArray).symm.trans hP)
  have e2 := best_gt ns (ns.length - 1) (by omega)
  rw [List.take_of_length_le (by omega)] at e2
  rw [List.getD_eq_getElem?_getD, e1, Option.getD_some] at e2
  rw [e2]
  exact h t _ ⟨⟨h', tk, rfl, Flt.kept_iter hk⟩, htk⟩
theorem minL {l : Addr} {vs : List Value} {ns : List Nat} (hh : A.handled = none) (hl : s.heap.IsList l vs.toArray) (hf : Fls vs ns) (hne : 0 < ns.length)
    (h : ∀ t s', Kp s s' → Q (.float (fl (minN ns)) t) s') : wpAny (model prog w) A (call (.builtin "min") [.ref l]) Q E s := by
  refine with_kp (call_min_walk (Flt.iter_list_ hl fun s₂ e st hfp hlI => ?_))
  subst e
  have W := Walks.list (prog := prog) (w := w) (A := A.in1) hh _ l hlI vs.toArray
  have hsz : vs.toArray.size = ns.length := by simpa using hf.length
  refine ⟨_, _, _, _, _, _, _, rfl, W, st, hfp, by rw [hsz]; exact hne, cmpOf_lt hf, fun v h' tk hP hk htk => ?_⟩
  rw [hsz] at hP
  obtain ⟨n, t, rfl, e1, _⟩ := hf.at _ v ((List.getElem?_toArray).symm.trans hP)
  have e2 := best_lt ns (ns.length - 1) (by omega)
  rw [List.take_of_length_le (by omega)] at e2
  rw [List.getD_eq_getElem?_getD, e1, Option.getD_some] at e2
  rw [e2]
  exact h t _ ⟨⟨h', tk, rfl, Flt.kept_iter hk⟩, htk⟩

/-! sum of three -/
theorem zero_fl : Float64.zero false = fl 0 := rfl
theorem ev_fl {a b : Nat} (h : a + b < 2 ^ 53) : Float64.val (fl b) - Float64.val (fl (a + b)) = -((a * 2 ^ 1053 : Nat) : Int) := by
  rw [val_fl (by omega), val_fl (by omega), Nat.add_mul]
  generalize a * 2 ^ 1053 = x
  generalize b * 2 ^ 1053 = y
  omega
theorem neg_fl {a b : Nat} (ha : a ≠ 0) (h : a + b < 2 ^ 53) : Float64.sub (fl b) (fl (a + b)) = Float64.pack true (mag a) := by
  obtain ⟨m, e, h1, _⟩ := dec_fl (n := b) (by omega)
  obtain ⟨k, f, h2, _⟩ := dec_fl (n := a + b) (by omega)
  have R := Float64.sub_right h1 h2
  rw [ev_fl h] at R
  have hp : 0 < a * 2 ^ 1053 := Nat.mul_pos (by omega) U_pos
  have hV := mag_V (n := a) (by omega)
  have hm := mag_lt (n := a) (by omega)
  generalize a * 2 ^ 1053 = X at *
  have R2 := R.2 (by omega)
  rw [decide_eq_true (by omega), Int.natAbs_neg, Int.natAbs_natCast] at R2
  exact right_exact R2 (by decide) hm (by rw [hV, Nat.one_mul])
theorem sgn_back (X : Nat) : Float64.sgn true X + (X : Int) = 0 := by show -(X : Int) + X = 0; omega
theorem back_fl {a : Nat} (h : a < 2 ^ 53) : Float64.add (Float64.pack true (mag a)) (fl a) = Float64.zero (true && false) := by
  obtain ⟨m2, e2, h5, _⟩ := dec_fl h
  have hm := mag_lt h
  obtain ⟨m', e', h3, _⟩ := Float64.decode_pack true hm
  refine (Float64.add_right h3 h5).1 ?_
  rw [Float64.val_pack true hm, mag_V h, val_fl h]
  exact sgn_back _
theorem zero_tf : Float64.zero (true && false) = fl 0 := rfl
theorem comp_fl {a b : Nat} (h : a + b < 2 ^ 53) : Float64.add (Float64.sub (fl b) (fl (a + b))) (fl a) = fl 0 := by
  by_cases hz : a = 0
  · subst hz
    rw [Nat.zero_add, sub_fl (by omega) (Nat.le_refl _), Nat.sub_self, add_fl (by decide)]
  · rw [neg_fl hz h, back_fl (by omega), zero_tf]
theorem comp2_fl {a b : Nat} (h : a + b < 2 ^ 53) : Float64.add (Float64.sub (fl a) (fl (a + b))) (fl b) = fl 0 := by
  have := comp_fl (a := b) (b := a) (by omega)
  rwa [Nat.add_comm b a] at this
theorem ofInt_0 : Float64.ofInt 0 = fl 0 := by decide +kernel
theorem settled_fl (t : Nat) : Num.settled (fl t) (fl 0) = fl t := by
  unfold Num.settled
  rw [isZero_fl (by decide)]
  simp
theorem sumBits_fl : ∀ (ns : List Nat) (t : Nat), t + ns.sum < 2 ^ 53 → Flt.sumBits (ns.map fl) (fl t) (fl 0) = fl (t + ns.sum)
  | [], t, _ => settled_fl t
  | n :: r, t, h => by
    rw [List.sum_cons] at h
    have h1 : t + n < 2 ^ 53 := by omega
    have ih := sumBits_fl r (t + n) (by omega)
    rw [List.map_cons, Flt.sumBits, add_fl h1, List.sum_cons, ← Nat.add_assoc]
    split
    · rw [comp_fl h1, add_fl (a := 0) (b := 0) (by decide)]; exact ih
    · rw [comp2_fl h1, add_fl (a := 0) (b := 0) (by decide)]; exact ih
theorem sumOf_fl {ns : List Nat} (hne : ns ≠ []) (h : ns.sum < 2 ^ 53) : Flt.sumOf (ns.map fl) = fl ns.sum := by
  cases ns with
  | nil => exact absurd rfl hne
  | cons n r =>
    rw [List.sum_cons] at h
    show Flt.sumBits (r.map fl) (Float64.add (Float64.ofInt 0) (fl n)) 0 = _
    rw [ofInt_0, add_fl (by omega), Nat.zero_add, List.sum_cons]
    exact sumBits_fl r n h
theorem Fls.floats : ∀ {vs ns}, Fls vs ns → Flt.FloatsAre vs (ns.map fl)
  | _, _, .nil => .nil
  | _, _, .cons n t _ h => .cons (fl n) t h.floats
theorem sumL {l : Addr} {vs : List Value} {ns : List Nat} (hh : A.handled = none) (hl : s.heap.IsList l vs.toArray) (hf : Fls vs ns) (hne : ns ≠ []) (hs : ns.sum < 2 ^ 53)
    (h : ∀ t s', Kp s s' → Q (.float (fl ns.sum) t) s') : wpAny (model prog w) A (call (.builtin "sum") [.ref l]) Q E s := by
  have hr : Num.sumInts 0 ((ns.map fl).map .float) = some (.float (fl ns.sum)) := by
    rw [← sumOf_fl hne hs]
    exact Flt.sumInts_map (by simpa using hne)
  have hff := hf.floats
  refine with_kp (Flt.call_sum_walkF hr (Flt.iter_list_ hl fun s₂ e st hfp hlI => ?_))
  subst e
  have W := (Walks.list (prog := prog) (w := w) (A := A.in1) hh _ l hlI vs.toArray).toS
  have hlen : vs.toArray.size = ((ns.map fl).map WData.float).length := by simpa using hff.length
  rw [hlen] at W
  refine ⟨_, _, _, _, _, _, rfl, W, st, hfp, fun i v hP => ?_, fun s' v hv hm htk => ?_⟩
  · obtain ⟨b, t, rfl, e⟩ := hff.at i v (by simpa using hP)
    exact ⟨.float b, by rw [List.getElem?_map, e]; rfl, .float b t⟩
  · cases hv with
    | float b t =>
      obtain ⟨hp, g, d, tk, os⟩ := s'
      have kp : Gr s.heap hp := Flt.kept_iter fun b o hb e => hm.heap b o hb e
      have e1 : g = s.gens := hm.gens
      have e2 : d = s.drawn := hm.drawn
      have e3 : os = s.os := hm.os
      subst e1 e2 e3
      exact h t _ ⟨⟨hp, tk, rfl, kp⟩, htk⟩

/-! lists: +, *, slices, items -/
theorem whole {h : Heap} {l : Addr} {xs : Array Value} (x : h.IsList l xs) : ∃ d n sl, h.get? l = some { cls := .type "list", dict := d, data := .seq xs n, slots := sl } := by
  obtain ⟨⟨_, d, _, sl⟩, e, rfl, n, rfl⟩ := x
  exact ⟨d, n, sl, e⟩
theorem addL {l b : Addr} {vs ws : List Value} (hl : s.heap.IsList l vs.toArray) (hb : s.heap.IsList b ws.toArray) (hsz : vs.length + ws.length ≤ sizeLine)
    (h : ∀ a s', Kp s s' → Fact.At ⟨a, false, vs ++ ws⟩ s'.heap → Q (.ref a) s') : wpAny (model prog w) A (binaryOp .Add (.ref l) (.ref b)) Q E s := by
  obtain ⟨dd, n, sl, ho⟩ := whole hl
  obtain ⟨dd2, n2, sl2, ho2⟩ := whole hb
  have e : vs.toArray ++ ws.toArray = (vs ++ ws).toArray := List.append_toArray ..
  refine concat_meets ⟨_, ho, rfl⟩ ⟨_, ho2, rfl⟩ noFill_list_add seq_list_add PySem.F.slot_list_add PySem.F.entry_list_add (PySem.F.args_list_add_2 _ _) (list_addW l b vs.toArray ws.toArray n n2 dd dd2 sl sl2 (by simpa using hsz)) ⟨ho, ho2, ?_⟩
  rw [e]
  exact h _ _ (kp_heap fun _ _ e => Heap.get?_push_of_some _ e) ⟨_, Heap.get?_push_size _ rfl, rfl, 0, rfl⟩
theorem sliceL {env : Env} {value : Expr} {lower upper : Option Expr} {p pos : Pos}
    (h : wpAny (model prog w) A (eval value env) (fun o s₁ => wpAny (model prog w) A (evalPart lower env) (fun vl s₂ => wpAny (model prog w) A (evalPart upper env) (fun vu s₃ =>
      ∃ (l : Addr) (vs : List Value) (lo hi : Option Int), o = .ref l ∧ s₃.heap.IsList l vs.toArray ∧ vs.length ≤ sizeLine ∧ IsPart vl lo ∧ IsPart vu hi ∧
        (∀ a s', Kp s₃ s' → Fact.At ⟨a, false, (slicePick vs.toArray lo hi none).toList⟩ s'.heap → Q (.ref a) s')) E s₂) E s₁) E s)
    (ht : ∀ o r, letTemporaryGo value o r = pure () := by intro _ _; rfl) :
    wpAny (model prog w) A (eval (.Subscript value (.Slice lower upper none p) pos) env) Q E s := by
  refine wpAny_Subscript_list_slice (wpAny_mono h (fun o s₁ h₁ => wpAny_mono h₁ (fun vl s₂ h₂ => wpAny_mono h₂ (fun vu s₃ h₃ => ?_) fun _ _ e => e) fun _ _ e => e) fun _ _ e => e) ht
  obtain ⟨l, vs, lo, hi, rfl, hl, hsz, pl, pu, hQ⟩ := h₃
  refine ⟨l, vs.toArray, lo, hi, rfl, hl, by simpa using hsz, pl, pu, hQ _ _ (kp_heap fun _ _ e => Heap.get?_push_of_some _ (Heap.get?_push_of_some _ e)) ?_⟩
  refine ⟨{ cls := .type "list", data := .seq (slicePick vs.toArray lo hi none) }, ?_, rfl, 0, by simp⟩
  have e : s₃.heap.objs.size + 1 = (s₃.heap.push { cls := .type "slice", data := .fields #[vl, vu, .none] }).objs.size := (Heap.size_push ..).symm
  show ((s₃.heap.push _).push _).get? (s₃.heap.objs.size + 1) = _
  rw [e, Heap.get?_push_size _ rfl]
/-- a slice from a place, so many long -/
theorem pick_run' (vs : List Value) (a b : Nat) (hb : b ≤ vs.length) (hab : a ≤ b) : (slicePick vs.toArray (some (a : Int)) (some (b : Int)) none).toList = (vs.drop a).take (b - a) := by
  rw [slicePick_run vs.toArray a b (by simpa using hb) hab]
/-- list * int -/
theorem mulL {l : Addr} {vs : List Value} {x : Int} {u : Tok} (hl : s.heap.IsList l vs.toArray)
    (hlo : -(2 ^ 63 : Int) ≤ x) (hhi : x < 2 ^ 63) (hsz : vs.length * x.toNat ≤ 2 ^ 24)
    (h : ∀ a s', Kp s s' → Fact.At ⟨a, false, (List.replicate x.toNat vs).flatten⟩ s'.heap → Q (.ref a) s') : wpAny (model prog w) A (binaryOp .Mult (.ref l) (.int x u)) Q E s := by
  obtain ⟨d, k, sl, ho⟩ := whole hl
  have hsz' : vs.toArray.size * x.toNat ≤ 2 ^ 24 := by rw [List.size_toArray]; exact hsz
  refine wpAny_binaryOp_repeat_ref (T := "list") (U := "int") (by decide) ⟨_, ho, rfl⟩ (fun s' => typeIs_int s' x u) noFill_list_mul F.fills_int_mul F.slot_int_rmul repeat_list F.slot_int_index.lookup
    (call_meets F.slot_int_rmul (typeIs_int s x u) F.entry_int_rmul (F.args_int_rmul_2 _ _) (lm_int_rmul_list_any x u l vs.toArray k d sl)
      ⟨ho, rfl, ⟨_, ho, rfl⟩, call_meets F.slot_list_mul ⟨_, ho, rfl⟩ F.entry_list_mul (F.args_list_mul_2 _ _)
        (lm_list_mul_any l vs.toArray k d sl x u (by simp [Builtin.List.listFitsIndex]; omega) (by omega) (by simp [Builtin.List.listTooLong, sizeLine]; omega))
        ⟨ho, ?_⟩⟩)
  exact h _ _ (kp_heap fun _ _ e => Heap.get?_push_of_some _ e) ⟨_, Heap.get?_push_size _ rfl, rfl, 0, by rw [listMul_foldl_if]⟩
/-- an item of a list or tuple -/
theorem itemL {value slice : Expr} {l : Addr} {vs : List Value} {k : Int} {u : Tok} {x : Value} (hl : s.heap.IsList l vs.toArray) (h0 : 0 ≤ k) (hfit : k < 2 ^ 63) (hx : vs[k.toNat]? = some x) (h : Q x s)
    (hs : subscripted slice false (.ref l) (.int k u) = operate [.ref l, .int k u] (getItem (.ref l) (.int k u)) := by with_unfolding_all rfl) (hg : ∀ r, letTemporaryGo value (.ref l) r = pure () := by intro _; with_unfolding_all rfl) :
    wpAny (model prog w) A (subscriptTail value slice (.ref l) (.int k u)) Q E s := item_list hl h0 hfit (by simpa using hx) h hs hg
theorem itemNeg {value slice : Expr} {l : Addr} {vs : List Value} {k : Int} {u : Tok} {x : Value} (hl : s.heap.IsList l vs.toArray) (h0 : k < 0) (h1 : -(vs.length : Int) ≤ k) (hfit : -(2 ^ 63) ≤ k) (hx : vs[(k + vs.length).toNat]? = some x) (h : Q x s)
    (hs : subscripted slice false (.ref l) (.int k u) = operate [.ref l, .int k u] (getItem (.ref l) (.int k u)) := by with_unfolding_all rfl) (hg : ∀ r, letTemporaryGo value (.ref l) r = pure () := by intro _; with_unfolding_all rfl) :
    wpAny (model prog w) A (subscriptTail value slice (.ref l) (.int k u)) Q E s :=
  subscriptTail_builtin hl.typeIs slot_list_getitem.lookup (wpAny_getItem_list_neg hl h0 (by simpa using h1) hfit (by simpa using hx) h) hs hg
theorem itemT {value slice : Expr} {l : Addr} {vs : List Value} {k : Int} {u : Tok} {j : Nat} {x : Value} (ht : s.heap.IsTuple l vs.toArray) (hlo : -(2 ^ 63) ≤ k) (hhi : k < 2 ^ 63) (hj : seqIndex? k vs.length = some j) (hx : vs[j]? = some x) (h : Q x s)
    (hs : subscripted slice false (.ref l) (.int k u) = operate [.ref l, .int k u] (getItem (.ref l) (.int k u)) := by with_unfolding_all rfl) :
    wpAny (model prog w) A (subscriptTail value slice (.ref l) (.int k u)) Q E s := item_tupleT ht hlo hhi hj hx h hs

/-! == of two rows: doubles of one token are one -/
def Tk (g : Tok → Nat) (k : Nat) (v : Value) : Prop := ∃ n t, v = .float (fl n) t ∧ n < 2 ^ 53 ∧ g t = n ∧ 1 ≤ t ∧ t < k
theorem Tk.mono {g : Tok → Nat} {k k' : Nat} {v : Value} (h : Tk g k v) (hk : k ≤ k') : Tk g k' v := let ⟨n, t, e, h0, h1, h2, h3⟩ := h; ⟨n, t, e, h0, h1, h2, Nat.lt_of_lt_of_le h3 hk⟩
theorem Tk.ext {g g' : Tok → Nat} {k k' : Nat} {v : Value} (h : Tk g k v) (hk : k ≤ k') (e : ∀ t, t < k → g' t = g t) : Tk g' k' v :=
  let ⟨n, t, e1, h0, h1, h2, h3⟩ := h; ⟨n, t, e1, h0, (e t h3).trans h1, h2, Nat.lt_of_lt_of_le h3 hk⟩
theorem fl_inj {a b : Nat} (ha : a < 2 ^ 53) (hb : b < 2 ^ 53) (h : fl a = fl b) : a = b := by
  have h1 := nOf_fl (t := 0) ha
  have h2 := nOf_fl (t := 0) hb
  rw [h] at h1
  omega
theorem isSame_fl {M : Model} {p q : UInt64} {t u : Tok} {Q : Bool → Shared → Prop} (h0 : (t == 0 || u == 0) = false) (nb : NoneBooked s.heap) (htu : t = u → p = q)
    (hq : ∀ b, (b = true → p = q) → Q b s) : wpAny M A (isSame (.float p t) (.float q u)) Q E s := by
  show wpAny M A (isSame.created (p == q && !Float64.isNaN p) t u) Q E s
  unfold isSame.created
  refine wpAny_ite ?_
  split
  · rename_i h; rw [h0] at h; exact absurd h Bool.false_ne_true
  refine wpAny_ite ?_
  split
  · rename_i h; exact wpAny_pure (hq _ fun _ => htu (eq_of_beq h))
  refine wpAny_ite ?_
  split
  · exact wpAny_pure (hq _ fun h => by cases h)
  rename_i hc
  have hpq : p = q := by
    simp only [Bool.not_eq_true', Bool.not_eq_false, Bool.and_eq_true] at hc
    exact eq_of_beq hc.1
  refine wpAny_bind (wpAny_sharingNotTold_none nb ?_)
  first | rw [if_neg Bool.false_ne_true] | simp only [Bool.false_eq_true, if_false]
  refine wpAny_bind (wpAny_sharingNotTold_none nb ?_)
  first | rw [if_neg Bool.false_ne_true] | simp only [Bool.false_eq_true, if_false]
  exact wpAny_bind (wpAny_rule (wpAny_bind (wpAny_askSetting (wpAny_pure (hq _ fun _ => hpq)))))
theorem eqBool_fl (p q : UInt64) (t u : Tok) : eqBool (.float p t) (.float q u) = (do
    if (Value.float p t == Value.float q u) = true then (do rule "eq-bool.same-object"; return true)
    else (do
      let b ← isSame (.float p t) (.float q u)
      if b = true then return true
      else truthOfDropped (← richCompare .Eq (.float p t) (.float q u)))) := rfl
theorem eqAt_fl {g : Tok → Nat} {k a b : Nat} {t u : Tok} (nb : NoneBooked s.heap) (h1 : Tk g k (.float (fl a) t)) (h2 : Tk g k (.float (fl b) u)) (ha : a < 2 ^ 53) (hb : b < 2 ^ 53) :
    SeqAt.EqAt A s (.float (fl a) t) (.float (fl b) u) (decide (a = b)) := by
  intro prog w E Q hq
  obtain ⟨n1, t1, e1, b1, g1, l1, _⟩ := h1
  obtain ⟨n2, t2, e2, b2, g2, l2, _⟩ := h2
  injection e1 with f1 r1
  injection e2 with f2 r2
  have i1 := fl_inj ha b1 f1
  have i2 := fl_inj hb b2 f2
  subst r1 r2 i1 i2
  have tu : t = u → a = b := fun e => by rw [← g1, ← g2, e]
  rw [eqBool_fl]
  refine wpAny_ite_split (fun hab => ?_) (fun hab => ?_)
  · have e := eq_of_beq hab
    injection e with e3 e4
    rw [decide_eq_true (tu e4)] at hq
    exact wpAny_bind (wpAny_rule (wpAny_pure hq))
  · refine wpAny_bind (isSame_fl (by rw [beq_eq_false_iff_ne.mpr (Nat.ne_of_gt l1), beq_eq_false_iff_ne.mpr (Nat.ne_of_gt l2)]; rfl) nb (fun e => by rw [tu e]) fun b hb' => ?_)
    refine wpAny_ite_split (fun hc => ?_) (fun hc => ?_)
    · rw [decide_eq_true (fl_inj ha hb (hb' hc))] at hq
      exact wpAny_pure hq
    · exact wpAny_bind (AutoFloatOps.eq_0 (wpAny_truthy_bool (by rw [eq_fl ha hb]; exact hq)))
end
section
variable {prog : Program} {w : World} {A : Around} {E : Value → Shared → Prop} {mg mb : Str → Option Value} {sp : Scope} {s₀ s : Shared} {env : Env} {m cm : Str → Option Value} {fs : List Fact} {Q : Value → Shared → Prop}
theorem Sit.tok (S : Sit mg mb sp s₀ env m cm fs s) {t : Nat} (h : s.toks ≤ t) : Sit mg mb sp s₀ env m cm fs { s with toks := t } := S.kept (kp_tok h)
theorem Sit.cF (S : Sit mg mb sp s₀ env m cm fs s) {x : UInt64} {k pos} (h : ∀ t s', s.toks < s'.toks → Sit mg mb sp s₀ env m cm fs s' → Q (.float x t) s') : wpAny (model prog w) A (eval (.Constant (.float x) k pos) env) Q E s :=
  PySem.wpAny_Constant_float (h _ _ (Nat.lt_succ_self _) (S.tok (Nat.le_succ _)))
theorem Sit.cI (S : Sit mg mb sp s₀ env m cm fs s) {x : Int} {k pos} (h : ∀ t s', s.toks < s'.toks → Sit mg mb sp s₀ env m cm fs s' → Q (.int x t) s') : wpAny (model prog w) A (eval (.Constant (.int x) k pos) env) Q E s :=
  wpAny_Constant_int (h _ _ (Nat.lt_succ_self _) (S.tok (Nat.le_succ _)))
theorem Sit.cN (S : Sit mg mb sp s₀ env m cm fs s) {x : UInt64} {n : Nat} {k pos} (e : x = fl n) (h : ∀ t s', s.toks < s'.toks → Sit mg mb sp s₀ env m cm fs s' → Q (.float (fl n) t) s') : wpAny (model prog w) A (eval (.Constant (.float x) k pos) env) Q E s :=
  e ▸ S.cF fun t s' h1 h2 => e ▸ h t s' h1 h2
theorem cB {M : Model} {x : Bool} {k pos} (h : Q (.bool x) s) : wpAny M A (eval (.Constant (.bool x) k pos) env) Q E s := fun _ _ _ => h
theorem Sit.addF (S : Sit mg mb sp s₀ env m cm fs s) {a b : UInt64} {t u : Tok} (h : ∀ t' s', s.toks ≤ t' → t' < s'.toks → Sit mg mb sp s₀ env m cm fs s' → Q (.float (Float64.add a b) t') s') : wpAny (model prog w) A (binaryOp .Add (.float a t) (.float b u)) Q E s :=
  AutoFloatOps.add_0 (h _ _ (Nat.le_refl _) (Nat.lt_succ_self _) (S.tok (Nat.le_succ _)))
theorem Sit.subF (S : Sit mg mb sp s₀ env m cm fs s) {a b : UInt64} {t u : Tok} (h : ∀ t' s', s.toks ≤ t' → t' < s'.toks → Sit mg mb sp s₀ env m cm fs s' → Q (.float (Float64.sub a b) t') s') : wpAny (model prog w) A (binaryOp .Sub (.float a t) (.float b u)) Q E s :=
  AutoFloatOps.sub_0 (h _ _ (Nat.le_refl _) (Nat.lt_succ_self _) (S.tok (Nat.le_succ _)))
theorem Sit.mulF (S : Sit mg mb sp s₀ env m cm fs s) {a b : UInt64} {t u : Tok} (h : ∀ t' s', s.toks ≤ t' → t' < s'.toks → Sit mg mb sp s₀ env m cm fs s' → Q (.float (Float64.mul a b) t') s') : wpAny (model prog w) A (binaryOp .Mult (.float a t) (.float b u)) Q E s :=
  AutoFloatOps.mul_0 (h _ _ (Nat.le_refl _) (Nat.lt_succ_self _) (S.tok (Nat.le_succ _)))
theorem Sit.divF (S : Sit mg mb sp s₀ env m cm fs s) {a b : UInt64} {t u : Tok} (hb : Float64.isZero b = false) (h : ∀ t' s', s.toks ≤ t' → t' < s'.toks → Sit mg mb sp s₀ env m cm fs s' → Q (.float (Float64.div a b) t') s') : wpAny (model prog w) A (binaryOp .Div (.float a t) (.float b u)) Q E s :=
  AutoFloatOps.truediv_1 (by rw [hb]; exact Bool.false_ne_true) (h _ _ (Nat.le_refl _) (Nat.lt_succ_self _) (S.tok (Nat.le_succ _)))
theorem Sit.modF (S : Sit mg mb sp s₀ env m cm fs s) {a b : UInt64} {t u : Tok} (hb : Float64.isZero b = false) (h : ∀ r t' s', s.toks ≤ t' → t' < s'.toks → Sit mg mb sp s₀ env m cm fs s' → Q (.float r t') s') : wpAny (model prog w) A (binaryOp .Mod (.float a t) (.float b u)) Q E s :=
  AutoFloatOps.mod_1 (by rw [hb]; exact Bool.false_ne_true) (h _ _ _ (Nat.le_refl _) (Nat.lt_succ_self _) (S.tok (Nat.le_succ _)))
end

theorem isZero_not {n : Nat} (h : n < 2 ^ 53) (h0 : n ≠ 0) : Float64.isZero (fl n) = false := by rw [isZero_fl h]; exact decide_eq_false h0
/-- room for calls -/
def Rm (A : Around) (d : Nat) : Prop := A.handled = none ∧ A.depth + d < recursionLimit ∧ A.units + 4 * d + 100 < cLine
theorem Rm.deeper {A : Around} {d : Nat} {env : Env} (h : Rm A (d + 1)) : Rm (A.deeper env) d := by
  obtain ⟨h1, h2, h3⟩ := h
  refine ⟨h1, ?_, ?_⟩
  · show A.depth + 1 + d < _; omega
  · show A.units + 3 + 4 * d + 100 < _; omega
theorem Rm.le {A : Around} {d d' : Nat} (h : Rm A d) (hd : d' ≤ d) : Rm A d' := by
  obtain ⟨h1, h2, h3⟩ := h
  exact ⟨h1, by omega, by omega⟩
theorem Rm.depth {A : Around} {d : Nat} (h : Rm A d) : A.depth < recursionLimit := by have := h.2.1; omega

section
variable {prog : Program} {w : World} {A : Around} {E : Value → Shared → Prop} {mg mb : Str → Option Value} {sp : Scope} {s₀ s : Shared} {env : Env} {m cm : Str → Option Value} {fs : List Fact} {Q : Value → Shared → Prop}
theorem Sit.addN (S : Sit mg mb sp s₀ env m cm fs s) {a b : Nat} {t u : Tok} (hab : a + b < 2 ^ 53) (h : ∀ t' s', s.toks ≤ t' → t' < s'.toks → Sit mg mb sp s₀ env m cm fs s' → Q (.float (fl (a + b)) t') s') : wpAny (model prog w) A (binaryOp .Add (.float (fl a) t) (.float (fl b) u)) Q E s :=
  S.addF fun t' s' h1 h2 h3 => by rw [add_fl hab]; exact h t' s' h1 h2 h3
theorem Sit.subN (S : Sit mg mb sp s₀ env m cm fs s) {a b : Nat} {t u : Tok} (ha : a < 2 ^ 53) (hb : b ≤ a) (h : ∀ t' s', s.toks ≤ t' → t' < s'.toks → Sit mg mb sp s₀ env m cm fs s' → Q (.float (fl (a - b)) t') s') : wpAny (model prog w) A (binaryOp .Sub (.float (fl a) t) (.float (fl b) u)) Q E s :=
  S.subF fun t' s' h1 h2 h3 => by rw [sub_fl ha hb]; exact h t' s' h1 h2 h3
theorem Sit.half (S : Sit mg mb sp s₀ env m cm fs s) {a : Nat} {t u : Tok} (ha : a < 2 ^ 53) (he : a % 2 = 0) (h : ∀ t' s', s.toks ≤ t' → t' < s'.toks → Sit mg mb sp s₀ env m cm fs s' → Q (.float (fl (a / 2)) t') s') : wpAny (model prog w) A (binaryOp .Div (.float (fl a) t) (.float (fl (2 ^ 22)) u)) Q E s :=
  S.divF (isZero_not (by decide) (by decide)) fun t' s' h1 h2 h3 => by rw [div_fl (c := a / 2) ha (by decide) (by omega) (by decide) (by omega)]; exact h t' s' h1 h2 h3
theorem Sit.twice (S : Sit mg mb sp s₀ env m cm fs s) {a : Nat} {t u : Tok} (ha : 2 * a < 2 ^ 53) (h : ∀ t' s', s.toks ≤ t' → t' < s'.toks → Sit mg mb sp s₀ env m cm fs s' → Q (.float (fl (2 * a)) t') s') : wpAny (model prog w) A (binaryOp .Mult (.float (fl (2 ^ 22)) t) (.float (fl a) u)) Q E s :=
  S.mulF fun t' s' h1 h2 h3 => by rw [mul_fl (c := 2 * a) (by decide) (by omega) ha (by omega)]; exact h t' s' h1 h2 h3
theorem Sit.max3 (S : Sit mg mb sp s₀ env m cm fs s) {a b c : Nat} {t u x : Tok} (hh : A.handled = none) (ha : a < 2 ^ 53) (hb : b < 2 ^ 53) (hc : c < 2 ^ 53)
    (h : ∀ t' s', s.toks ≤ s'.toks → Value.float (fl (max (max a b) c)) t' ∈ [Value.float (fl a) t, .float (fl b) u, .float (fl c) x] → Sit mg mb sp s₀ env m cm fs s' → Q (.float (fl (max (max a b) c)) t') s') :
    wpAny (model prog w) A (call (.builtin "max") [.float (fl a) t, .float (fl b) u, .float (fl c) x]) Q E s := Mine.max3 hh ha hb hc fun t' s' k hm => h t' s' k.2 hm (S.kept k)
theorem Sit.min3 (S : Sit mg mb sp s₀ env m cm fs s) {a b c : Nat} {t u x : Tok} (hh : A.handled = none) (ha : a < 2 ^ 53) (hb : b < 2 ^ 53) (hc : c < 2 ^ 53)
    (h : ∀ t' s', s.toks ≤ s'.toks → Sit mg mb sp s₀ env m cm fs s' → Q (.float (fl (min (min a b) c)) t') s') :
    wpAny (model prog w) A (call (.builtin "min") [.float (fl a) t, .float (fl b) u, .float (fl c) x]) Q E s := Mine.min3 hh ha hb hc fun t' s' k hm => h t' s' k.2 (S.kept k)
/-- == of two doubles -/
theorem eqN {a b : Nat} {t u : Tok} (ha : a < 2 ^ 53) (hb : b < 2 ^ 53) (h : Q (.bool (decide (a = b))) s) : wpAny (model prog w) A (compareOp .Eq (.float (fl a) t) (.float (fl b) u)) Q E s :=
  AutoFloatOps.eq_0 (by rw [eq_fl ha hb]; exact h)
theorem neN {a b : Nat} {t u : Tok} (ha : a < 2 ^ 53) (hb : b < 2 ^ 53) (h : Q (.bool (!decide (a = b))) s) : wpAny (model prog w) A (compareOp .NotEq (.float (fl a) t) (.float (fl b) u)) Q E s := by
  refine AutoFloatOps.ne_0 ?_
  have e : (Float64.cmp (fl a) (fl b) != some Ordering.eq) = !decide (a = b) := by rw [← eq_fl ha hb]; rfl
  rw [e]; exact h
end
theorem bb_max : bootBuiltins "max" = some (.builtin "max") := by decide +kernel
theorem bb_min : bootBuiltins "min" = some (.builtin "min") := by decide +kernel
theorem bb_len : bootBuiltins "len" = some (.builtin "len") := by decide +kernel
theorem bb_sum : bootBuiltins "sum" = some (.builtin "sum") := by decide +kernel
theorem bb_sorted : bootBuiltins "sorted" = some (.builtin "sorted") := by decide +kernel
theorem bb_range : bootBuiltins "range" = some (.type "range") := by decide +kernel
theorem ite_ne {α : Type} {x : α} [Decidable (x = x)] {p q : Prop} (h : q) : if (!decide (x = x)) = true then p else q := by simp [h]
theorem ite_eq {α : Type} {x : α} [Decidable (x = x)] {p q : Prop} (h : p) : if decide (x = x) = true then p else q := by simp [h]
theorem ite_t {p q : Prop} (h : p) : if true = true then p else q := by simp [h]
theorem ite_f {p q : Prop} (h : q) : if false = true then p else q := by simp [h]
theorem ite_dec {c : Prop} [Decidable c] {p q : Prop} (h1 : c → p) (h2 : ¬ c → q) : if decide c = true then p else q := by by_cases h : c <;> simp_all
theorem ite_of {c : Bool} {p q : Prop} (h1 : c = true → p) (h2 : c = false → q) : if c = true then p else q := by cases c <;> simp_all

theorem star_plain {e : Expr} {rest : List Expr} {env : Env} (h : isStarred e = false) : starEach (e :: rest) env = (false, eval e env) :: starEach rest env := by
  cases e <;> first | rfl | (simp [isStarred] at h)
theorem any_plain {env : Env} {pos : Pos} : ∀ {es : List Expr}, (es.all fun e => !isStarred e) = true → (backTo pos (starEach es env)).any (·.1) = false
  | [], _ => rfl
  | e :: r, h => by
    simp only [List.all_cons, Bool.and_eq_true, Bool.not_eq_true'] at h
    rw [star_plain h.1]
    have ih := any_plain (env := env) (pos := pos) h.2
    show (false || (backTo pos (starEach r env)).any (·.1)) = false
    rw [ih]; rfl
theorem callB {M : Model} {A : Around} {E : Value → Shared → Prop} {s : Shared} {env : Env} {pos : Pos} {id : String} {e : Expr} {rest : List Expr} {Q : Value → Shared → Prop} (hp : ((e :: rest).all fun e => !isStarred e) = true)
    (h : wpAny M A (spliced (backTo pos (starEach (e :: rest) env))) (fun vs s₁ => wpAny M A (call (.builtin id) vs) Q E s₁) E s) :
    wpAny M A (callWith pos (.builtin id) [] (backTo pos (starEach (e :: rest) env)) []) Q E s := by
  simp only [List.all_cons, Bool.and_eq_true, Bool.not_eq_true'] at hp
  exact callWith_builtin1 h (star_plain hp.1) (any_plain hp.2)
theorem callT {M : Model} {A : Around} {E : Value → Shared → Prop} {s : Shared} {env : Env} {pos : Pos} {id : String} {e : Expr} {rest : List Expr} {Q : Value → Shared → Prop} (hp : ((e :: rest).all fun e => !isStarred e) = true)
    (h : wpAny M A (spliced (backTo pos (starEach (e :: rest) env))) (fun vs s₁ => wpAny M A (call (.type id) vs) Q E s₁) E s) :
    wpAny M A (callWith pos (.type id) [] (backTo pos (starEach (e :: rest) env)) []) Q E s := by
  simp only [List.all_cons, Bool.and_eq_true, Bool.not_eq_true'] at hp
  exact Pv.callWith_type1 h (star_plain hp.1) (any_plain hp.2)
theorem callF {M : Model} {A : Around} {E : Value → Shared → Prop} {s : Shared} {env : Env} {mg : Str → Option Value} {i : Nat} {f : Addr} {h₀ : Heap} {pos : Pos} {e : Expr} {rest : List Expr} {Q : Value → Shared → Prop} (F : FnOk mg h₀ i f) (hp : isStarred e = false)
    (h : wpAny M A (spliced (backTo pos (starEach (e :: rest) env))) (fun vs s₁ => Gr h₀ s₁.heap ∧ wpAny M A (call (.ref f) vs) Q E s₁) E s) :
    wpAny M A (callWith pos (.ref f) [] (backTo pos (starEach (e :: rest) env)) []) Q E s := callWith_fn F h (star_plain hp)
theorem args1 {M : Model} {A : Around} {E : Value → Shared → Prop} {s : Shared} {env : Env} {e : Expr} {rest : List Expr} {pos : Pos} {Q : List Value → Shared → Prop} (hp : isStarred e = false)
    (h : wpAny M A (eval e env) (fun v s₁ => wpAny M A (spliced (backTo pos (starEach rest env))) (fun vs s₂ => Q (v :: vs) s₂) E s₁) E s) : wpAny M A (spliced (backTo pos (starEach (e :: rest) env))) Q E s := args_cons h (star_plain hp)

section
variable {prog : Program} {w : World} {A : Around} {E : Value → Shared → Prop} {mg mb : Str → Option Value} {sp : Scope} {s₀ s : Shared} {env : Env} {m cm : Str → Option Value} {fs : List Fact} {Q : Value → Shared → Prop}
theorem Sit.addI (S : Sit mg mb sp s₀ env m cm fs s) {a b : Int} {t u : Tok} (h : ∀ t' s', s.toks ≤ s'.toks → Sit mg mb sp s₀ env m cm fs s' → Q (.int (a + b) t') s') : wpAny (model prog w) A (binaryOp .Add (.int a t) (.int b u)) Q E s :=
  wpAny_add_int (h _ _ (Nat.le_succ _) (S.tok (Nat.le_succ _)))
theorem Sit.subI (S : Sit mg mb sp s₀ env m cm fs s) {a b : Int} {t u : Tok} (h : ∀ t' s', s.toks ≤ s'.toks → Sit mg mb sp s₀ env m cm fs s' → Q (.int (a - b) t') s') : wpAny (model prog w) A (binaryOp .Sub (.int a t) (.int b u)) Q E s :=
  PyProof.Rows.sub_int (h _ _ (Nat.le_succ _) (S.tok (Nat.le_succ _)))
theorem Sit.negI (S : Sit mg mb sp s₀ env m cm fs s) {a : Int} {t : Tok} (h : ∀ t' s', s.toks ≤ s'.toks → Sit mg mb sp s₀ env m cm fs s' → Q (.int (-a) t') s') : wpAny (model prog w) A (unaryOp .USub (.int a t)) Q E s :=
  PyProof.Rows.neg_int (h _ _ (Nat.le_succ _) (S.tok (Nat.le_succ _)))
theorem Sit.modI (S : Sit mg mb sp s₀ env m cm fs s) {a b : Int} {t u : Tok} (hb : 0 < b) (h : ∀ t' s', s.toks ≤ s'.toks → Sit mg mb sp s₀ env m cm fs s' → Q (.int (a % b) t') s') : wpAny (model prog w) A (binaryOp .Mod (.int a t) (.int b u)) Q E s :=
  PyProof.Rows.mod_int' (by omega) (by rw [Int.fmod_eq_emod_of_nonneg _ (Int.le_of_lt hb)]; exact h _ _ (Nat.le_succ _) (S.tok (Nat.le_succ _)))
theorem Sit.divI (S : Sit mg mb sp s₀ env m cm fs s) {a b : Int} {t u : Tok} (hb : 0 < b) (ha : b < 2 ^ 20) (h : ∀ t' s', s.toks ≤ s'.toks → Sit mg mb sp s₀ env m cm fs s' → Q (.int (a / b) t') s') : wpAny (model prog w) A (binaryOp .FloorDiv (.int a t) (.int b u)) Q E s :=
  PyProof.Rows.floordiv_int (by omega) (by rw [Int.fdiv_eq_ediv_of_nonneg _ (Int.le_of_lt hb)]; exact h _ _ (Nat.le_succ _) (S.tok (Nat.le_succ _))) (.inl (PyProof.noPylong_small (by omega)))
theorem eqI {a b : Int} {t u : Tok} (h : Q (.bool (decide (a = b))) s) : wpAny (model prog w) A (compareOp .Eq (.int a t) (.int b u)) Q E s :=
  PyProof.Rows.eq_int (by have e : (a == b) = decide (a = b) := by by_cases h : a = b <;> simp [h]
                          rw [e]; exact h)
theorem truthyI {a : Int} {t : Tok} {Q : Bool → Shared → Prop} (h : Q (decide (a ≠ 0)) s) : wpAny (model prog w) A (truthy (.int a t)) Q E s :=
  PyProof.Rows.truthy_int (by have e : (a != 0) = decide (a ≠ 0) := by by_cases h : a = 0 <;> simp [h]
                              rw [e]; exact h)
theorem Sit.len (S : Sit mg mb sp s₀ env m cm fs s) {l : Addr} {vs : List Value} (hl : s.heap.IsList l vs.toArray) (hfit : vs.length < 2 ^ 62) (h : ∀ t' s', s.toks ≤ s'.toks → Sit mg mb sp s₀ env m cm fs s' → Q (.int vs.length t') s') : wpAny (model prog w) A (call (.builtin "len") [.ref l]) Q E s :=
  len_list hl (by rw [List.size_toArray]; omega) (by rw [List.size_toArray]; exact h _ _ (by show s.toks ≤ s.toks + 1 + 1; omega) (S.tok (by omega)))
theorem Sit.sorted (S : Sit mg mb sp s₀ env m cm fs s) {l : Addr} {vs : List Value} {ns : List Nat} (hl : s.heap.IsList l vs.toArray) (hS : Fls vs ns) (h64 : vs.length < 64)
    (h : ∀ a s' vs' ns', s.toks ≤ s'.toks → Fls vs' ns' → ns'.Perm ns → ns'.Pairwise (· ≤ ·) → (∀ v ∈ vs', v ∈ vs) → Sit mg mb sp s₀ env m cm (⟨a, false, vs'⟩ :: fs) s' → Q (.ref a) s') :
    wpAny (model prog w) A (call (.builtin "sorted") [.ref l]) Q E s := sortedF hl hS h64 fun a s' vs' ns' k f h1 h2 h3 h4 => h a s' vs' ns' k.2 h1 h2 h3 h4 ((S.kept k).more f)
theorem Sit.addL (S : Sit mg mb sp s₀ env m cm fs s) {l b : Addr} {vs ws : List Value} (hl : s.heap.IsList l vs.toArray) (hb : s.heap.IsList b ws.toArray) (hsz : vs.length + ws.length ≤ sizeLine)
    (h : ∀ a s', s.toks ≤ s'.toks → Sit mg mb sp s₀ env m cm (⟨a, false, vs ++ ws⟩ :: fs) s' → Q (.ref a) s') : wpAny (model prog w) A (binaryOp .Add (.ref l) (.ref b)) Q E s :=
  Mine.addL hl hb hsz fun a s' k f => h a s' k.2 ((S.kept k).more f)
theorem Sit.mulL (S : Sit mg mb sp s₀ env m cm fs s) {l : Addr} {vs : List Value} {x : Int} {u : Tok} (hl : s.heap.IsList l vs.toArray) (hlo : -(2 ^ 63 : Int) ≤ x) (hhi : x < 2 ^ 63) (hsz : vs.length * x.toNat ≤ 2 ^ 24)
    (h : ∀ a s', s.toks ≤ s'.toks → Sit mg mb sp s₀ env m cm (⟨a, false, (List.replicate x.toNat vs).flatten⟩ :: fs) s' → Q (.ref a) s') : wpAny (model prog w) A (binaryOp .Mult (.ref l) (.int x u)) Q E s :=
  Mine.mulL hl hlo hhi hsz fun a s' k f => h a s' k.2 ((S.kept k).more f)
theorem Sit.list (S : Sit mg mb sp s₀ env m cm fs s) {l : Addr} {vs : List Value} (h : ⟨l, false, vs⟩ ∈ fs) : s.heap.IsList l vs.toArray := (S.facts _ h).list
theorem Sit.tup (S : Sit mg mb sp s₀ env m cm fs s) {l : Addr} {vs : List Value} (h : ⟨l, true, vs⟩ ∈ fs) : s.heap.IsTuple l vs.toArray := (S.facts _ h).tuple
end
/-! the steps -/
local macro_rules | `(tactic| walk_at "m go") => `(tactic| first
  | ((with_reducible show wpAny _ _ (execs (_ :: _) _) _ _ _); refine wpAny_execs_cons ?_)
  | ((with_reducible show wpAny _ _ (execs [] _) _ _ _); refine wpAny_execs_nil ?_)
  | ((with_reducible show wpAny _ _ (exec (Stmt.Assign [Expr.Name _ _] _ _) _) _ _ _); refine wpAny_Assign_Name ?_)
  | ((with_reducible show wpAny _ _ (exec (Stmt.Return (some _) _) _) _ _ _); refine wpAny_Return_some ?_)
  | ((with_reducible show wpAny _ _ (exec (Stmt.If _ _ _ _) _) _ _ _); refine wpAny_If ?_)
  | ((with_reducible show wpAny _ _ (isTrue (Expr.Compare _ [_] [_] _) _ _) _ _ _); refine wpAny_isTrue_Compare1 ?_)
  | ((with_reducible show wpAny _ _ (eval (Expr.Compare _ [_] [_] _) _) _ _ _); refine wpAny_Compare1 ?_)
  | ((with_reducible show wpAny _ _ (eval (Expr.BinOp _ _ _ _) _) _ _ _); refine wpAny_BinOp ?_)
  | ((with_reducible show wpAny _ _ (eval (Expr.Call _ _ [] _) _) _ _ _); refine Call_ ?_)
  | ((with_reducible show wpAny _ _ (eval (Expr.Tuple _ _ _) _) _ _ _); refine Tuple_ ?_)
  | ((with_reducible show wpAny _ _ (eval (Expr.List _ _) _) _ _ _); refine List_ ?_)
  | ((with_reducible show wpAny _ _ (eval (Expr.Constant (Const.float _) _ _) _) _ _ _); first
      | refine Sit.cN (by assumption) (by with_reducible first | exact fl_0 | exact fl_1 | exact fl_2) (fun _ _ _ _ => ?_)
      | refine Sit.cF (by assumption) (fun _ _ _ _ => ?_))
  | ((with_reducible show wpAny _ _ (eval (Expr.Constant (Const.int _) _ _) _) _ _ _); refine Sit.cI (by assumption) (fun _ _ _ _ => ?_))
  | ((with_reducible show wpAny _ _ (eval (Expr.Constant (Const.bool _) _ _) _) _ _ _); refine cB ?_)
  | ((with_reducible show wpAny _ _ (eval (Expr.Name _ _) _) _ _ _); first
      | (refine' Sit.ld ?S9 ?hl9 ?hv9 ?_ ?hd9; (case S9 => assumption); (case hl9 => decide +kernel); (case hv9 => first | with_reducible assumption | exact rfl); (case hd9 => decide))
      | (refine' Sit.ldc ?S9 ?hl9 ?hc9 ?hv9 ?_ ?hd9; (case S9 => assumption); (case hl9 => decide +kernel); (case hc9 => exact rfl); (case hv9 => first | with_reducible assumption | exact rfl); (case hd9 => decide))
      | refine Sit.bl (by assumption) (by decide +kernel) (by decide +kernel) (by with_reducible first | exact bb_max | exact bb_min | exact bb_len | exact bb_sum | exact bb_sorted | exact bb_range) ?_)
  | ((with_reducible show wpAny _ _ (callWith _ (Value.builtin _) [] _ []) _ _ _); refine callB rfl ?_)
  | ((with_reducible show wpAny _ _ (spliced (backTo _ (starEach (_ :: _) _))) _ _ _); refine args1 rfl ?_)
  | ((with_reducible show wpAny _ _ (spliced (backTo _ (starEach [] _))) _ _ _); refine args_nil ?_)
  | ((with_reducible show wpAny _ _ (storeName _ _ _) _ _ _); first | refine Sit.st (by assumption) (by assumption) (by decide +kernel) (fun _ _ _ => ?_) | refine Sit.stc (by assumption) (by assumption) (by decide +kernel) rfl (fun _ _ _ => ?_))
  | ((with_reducible show wpAny _ _ (call (Value.builtin "max") [Value.float (fl _) _, Value.float (fl _) _, Value.float (fl _) _]) _ _ _); refine Sit.max3 (by assumption) (by assumption) (by omega) (by omega) (by omega) (fun _ _ _ _ _ => ?_))
  | ((with_reducible show wpAny _ _ (call (Value.builtin "min") [Value.float (fl _) _, Value.float (fl _) _, Value.float (fl _) _]) _ _ _); refine Sit.min3 (by assumption) (by assumption) (by omega) (by omega) (by omega) (fun _ _ _ _ => ?_))
  | ((with_reducible show wpAny _ _ (binaryOp Operator.Add (Value.float _ _) (Value.float _ _)) _ _ _); first | ((with_reducible show wpAny _ _ (binaryOp _ (Value.float (fl _) _) (Value.float (fl _) _)) _ _ _); refine Sit.addN (by assumption) (by omega) (fun _ _ _ _ _ => ?_)) | refine Sit.addF (by assumption) (fun _ _ _ _ _ => ?_))
  | ((with_reducible show wpAny _ _ (binaryOp Operator.Sub (Value.float _ _) (Value.float _ _)) _ _ _); first | ((with_reducible show wpAny _ _ (binaryOp _ (Value.float (fl _) _) (Value.float (fl _) _)) _ _ _); refine Sit.subN (by assumption) (by omega) (by omega) (fun _ _ _ _ _ => ?_)) | refine Sit.subF (by assumption) (fun _ _ _ _ _ => ?_))
  | ((with_reducible show wpAny _ _ (binaryOp Operator.Div (Value.float (fl _) _) (Value.float (fl (2 ^ 22)) _)) _ _ _); refine Sit.half (by assumption) (by omega) (by omega) (fun _ _ _ _ _ => ?_))
  | ((with_reducible show wpAny _ _ (binaryOp Operator.Mult (Value.float (fl (2 ^ 22)) _) (Value.float (fl _) _)) _ _ _); refine Sit.twice (by assumption) (by omega) (fun _ _ _ _ _ => ?_))
  | ((with_reducible show wpAny _ _ (binaryOp Operator.Div (Value.float _ _) (Value.float _ _)) _ _ _); refine Sit.divF (by assumption) (by first | ((with_reducible show Float64.isZero (fl _) = false); exact isZero_not (by omega) (by omega)) | decide +kernel) (fun _ _ _ _ _ => ?_))
  | ((with_reducible show wpAny _ _ (binaryOp Operator.Mod (Value.float _ _) (Value.float _ _)) _ _ _); refine Sit.modF (by assumption) (by first | ((with_reducible show Float64.isZero (fl _) = false); exact isZero_not (by omega) (by omega)) | decide +kernel) (fun _ _ _ _ _ _ => ?_))
  | ((with_reducible show wpAny _ _ (compareOp CmpOp.Eq (Value.float (fl _) _) (Value.float (fl _) _)) _ _ _); refine eqN (by omega) (by omega) ?_)
  | ((with_reducible show wpAny _ _ (compareOp CmpOp.NotEq (Value.float (fl _) _) (Value.float (fl _) _)) _ _ _); refine neN (by omega) (by omega) ?_)
  | ((with_reducible show wpAny _ _ (compareOp CmpOp.LtE (Value.float _ _) (Value.float _ _)) _ _ _); refine AutoFloatOps.le_0 ?_)
  | ((with_reducible show wpAny _ _ (truthy (Value.bool _)) _ _ _); refine wpAny_truthy_bool ?_)
  | ((with_reducible show wpAny _ _ (PySem.newTuple _) _ _ _); refine Sit.newTuple (by assumption) (fun _ _ _ _ => ?_) (Nat.le_of_ble_eq_true rfl))
  | ((with_reducible show if _ = true then _ else _); first | with_reducible refine ite_ne ?_ | with_reducible refine ite_eq ?_ | with_reducible refine ite_t ?_ | with_reducible refine ite_f ?_ | refine ite_dec (fun hc9 => ?_) (fun hc9 => ?_) | refine ite_of (fun hc9 => ?_) (fun hc9 => ?_))
  | ((with_reducible show wpAny _ _ (eval (Expr.IfExp _ _ _ _) _) _ _ _); refine IfExp_ ?_)
  | ((with_reducible show wpAny _ _ (eval (Expr.Subscript _ (Expr.Constant _ _ _) _) _) _ _ _); refine Subscript_ ?_)
  | ((with_reducible show wpAny _ _ (eval (Expr.Subscript _ (Expr.Name _ _) _) _) _ _ _); refine Subscript_ ?_)
  | ((with_reducible show wpAny _ _ (eval (Expr.Subscript _ (Expr.BinOp _ _ _ _) _) _) _ _ _); refine Subscript_ ?_)
  | ((with_reducible show wpAny _ _ (isTrue (Expr.Name _ _) _ _) _ _ _); refine isTrue_plain ?_)
  | ((with_reducible show wpAny _ _ (isTrue (Expr.Call _ _ _ _) _ _) _ _ _); refine isTrue_plain ?_)
  | ((with_reducible show wpAny _ _ (truthy (Value.int _ _)) _ _ _); refine truthyI ?_)
  | ((with_reducible show wpAny _ _ (eval (Expr.Name _ _) _) _ _ _); (refine' Sit.fn ?S9 _ ?hi9 ?hn9 ?hx9 ?_ ?hd9; (case S9 => assumption); (case hx9 => decide +kernel); (case hn9 => first | (show nm 8 = _; decide +kernel) | (show nm 2 = _; decide +kernel) | (show nm 1 = _; decide +kernel) | (show nm 9 = _; decide +kernel) | (show nm 5 = _; decide +kernel) | (show nm 6 = _; decide +kernel) | (show nm 10 = _; decide +kernel) | (show nm 11 = _; decide +kernel) | (show nm 12 = _; decide +kernel) | (show nm 13 = _; decide +kernel) | (show nm 14 = _; decide +kernel) | (show nm 15 = _; decide +kernel)); (case hi9 => decide); (case hd9 => decide); intro f9 F9))
  | ((with_reducible show wpAny _ _ (callWith _ (Value.ref _) [] _ []) _ _ _); refine callF (by assumption) rfl ?_)
  | ((with_reducible show wpAny _ _ (callWith _ (Value.type _) [] _ []) _ _ _); refine callT rfl ?_)
  | ((with_reducible show Gr _ _ ∧ _); refine ⟨Sit.keep (by assumption), ?_⟩)
  | ((with_reducible show wpAny _ _ (binaryOp Operator.Add (Value.int _ _) (Value.int _ _)) _ _ _); refine Sit.addI (by assumption) (fun _ _ _ _ => ?_))
  | ((with_reducible show wpAny _ _ (binaryOp Operator.Sub (Value.int _ _) (Value.int _ _)) _ _ _); refine Sit.subI (by assumption) (fun _ _ _ _ => ?_))
  | ((with_reducible show wpAny _ _ (binaryOp Operator.Mod (Value.int _ _) (Value.int _ _)) _ _ _); refine Sit.modI (by assumption) (by omega) (fun _ _ _ _ => ?_))
  | ((with_reducible show wpAny _ _ (binaryOp Operator.FloorDiv (Value.int _ _) (Value.int _ _)) _ _ _); refine Sit.divI (by assumption) (by omega) (by omega) (fun _ _ _ _ => ?_))
  | ((with_reducible show wpAny _ _ (compareOp CmpOp.Eq (Value.int _ _) (Value.int _ _)) _ _ _); refine eqI ?_)
  | ((with_reducible show wpAny _ _ (subscriptTail _ _ (Value.ref _) (Value.int _ _)) _ _ _); (refine' itemT ?T9 ?a9 ?b9 ?c9 ?d9 ?_ ?e9; (case T9 => exact Sit.tup (by assumption) (by first | exact .head _ | exact .tail _ (.head _) | exact .tail _ (.tail _ (.head _)))); (case a9 => decide); (case b9 => decide); (case c9 => rfl); (case d9 => rfl); (case e9 => with_unfolding_all rfl)))
  | ((with_reducible show wpAny _ _ (eval (Expr.Subscript _ (Expr.UnaryOp _ _ _) _) _) _ _ _); refine Subscript_ ?_)
  | ((with_reducible show wpAny _ _ (eval (Expr.UnaryOp _ _ _) _) _ _ _); refine UnaryOp_ ?_)
  | ((with_reducible show wpAny _ _ (unaryOp UnaryOp.USub (Value.int _ _)) _ _ _); refine Sit.negI (by assumption) (fun _ _ _ _ => ?_))
  | ((with_reducible show wpAny _ _ (PySem.newList _) _ _ _); refine Sit.newList (by assumption) (fun _ _ _ _ => ?_) (Nat.le_of_ble_eq_true rfl))
  | ((with_reducible show wpAny _ _ (call (Value.builtin "len") [Value.ref _]) _ _ _); (refine' Sit.len ?S9 ?L9 ?z9 ?_; (case S9 => assumption); (case L9 => exact Sit.list (by assumption) (by first | exact .head _ | exact .tail _ (.head _) | exact .tail _ (.tail _ (.head _)) | exact .tail _ (.tail _ (.tail _ (.head _))))); (case z9 => omega); intro _ _ _ _))
  | ((with_reducible show wpAny _ _ (evalPart (some _) _) _ _ _); rw [evalPart_some])
  | ((with_reducible show wpAny _ _ (eval (Expr.BoolOp BoolOp.And (_ :: _ :: _) _) _) _ _ _); refine BoolOp_and ?_)
  | ((with_reducible show wpAny _ _ (eval (Expr.BoolOp _ [_] _) _) _ _ _); refine BoolOp_one ?_)
  | ((with_reducible show wpAny _ _ (isTrue (Expr.BoolOp BoolOp.And (_ :: _) _) _ _) _ _ _); refine isTrue_and ?_)
  | ((with_reducible show wpAny _ _ (isTrue (Expr.BoolOp BoolOp.And [] _) _ _) _ _ _); refine isTrue_and_nil ?_)
  | ((with_reducible show wpAny _ _ (isTrue (Expr.BoolOp BoolOp.Or (_ :: _) _) _ _) _ _ _); refine isTrue_or ?_)
  | ((with_reducible show wpAny _ _ (isTrue (Expr.BoolOp BoolOp.Or [] _) _ _) _ _ _); refine isTrue_or_nil ?_)
  | ((with_reducible show wpAny _ _ (isTrue (Expr.UnaryOp UnaryOp.Not _ _) _ _) _ _ _); refine isTrue_not ?_)
  | ((with_reducible show wpAny _ _ (compareOp CmpOp.Eq (Value.bool _) (Value.bool _)) _ _ _); refine eq_bool ?_)
  | ((with_reducible show wpAny _ _ (exec (Stmt.Assign [Expr.Tuple _ _ _] _ _) _) _ _ _); refine Assign_Tuple ?_)
  | ((with_reducible show wpAny _ _ (eval (Expr.Compare _ (_ :: _ :: _) _ _) _) _ _ _); refine Compare_chain ?_)
  | ((with_reducible show wpAny _ _ (compareChain _ _ (_ :: _ :: _) _) _ _ _); refine chain_link ?_)
  | ((with_reducible show wpAny _ _ (compareChain _ _ [_] _) _ _ _); refine chain_last ?_)
  | fail "no step")
/-! rgb_to_hsv -/
section
variable {prog : Program} {w : World} {A : Around} {E : Value → Shared → Prop} {mg mb : Str → Option Value} {s : Shared} {Q : Value → Shared → Prop} {f : Addr}
/-- behind an if that stores a float under one name on both sides: one way on -/
theorem Sit.ifStore {m cm : Str → Option Value} {fs : List Fact} {sp : Scope} {s₀ s : Shared} {env : Env} {x : Str} {p1 p2 pos : Pos} {e test : Expr} {orelse rest : List Stmt} {Q : Flow → Shared → Prop} {M : Model} (_S : Sit mg mb sp s₀ env m cm fs s)
    (h : wpAny M A (exec (.If test [.Assign [.Name x p1] e p2] orelse pos) env) (fun fl s' => fl = .next ∧ ∃ X tX, Sit mg mb sp s₀ env (fun y => if y = x then some (.float X tX) else m y) cm fs s') E s)
    (k : ∀ s' X tX, Sit mg mb sp s₀ env (fun y => if y = x then some (.float X tX) else m y) cm fs s' → wpAny M A (execs rest env) Q E s') :
    wpAny M A (execs (.If test [.Assign [.Name x p1] e p2] orelse pos :: rest) env) Q E s :=
  wpAny_execs_cons (wpAny_mono h (fun fl s' q => by obtain ⟨rfl, X, tX, S'⟩ := q; exact k s' X tX S') fun _ _ q => q)
set_option maxHeartbeats 4000000 in
theorem hsv_spec {a b c : Nat} {t u x : Tok} (B : Base mg mb s.heap) (F : FnOk mg s.heap 2 f) (R : Rm A 1) (ha : a ≤ 2 ^ 21) (hb : b ≤ 2 ^ 21) (hc : c ≤ 2 ^ 21)
    (h : ∀ r s' h' s'' t', Kp s s' → Fact.At ⟨r, true, [h', s'', .float (fl (max (max a b) c)) t']⟩ s'.heap → Value.float (fl (max (max a b) c)) t' ∈ [Value.float (fl a) t, .float (fl b) u, .float (fl c) x] → Q (.ref r) s') :
    wpAny (model prog w) A (call (.ref f) [.float (fl a) t, .float (fl b) u, .float (fl c) x]) Q E s := by
  refine enter 2 ["r", "g", "b"] (fs := []) B F R.depth rfl (fun _ _ _ => rfl) (by decide +kernel) (by decide +kernel) (fun _ hg => nomatch hg) ?_
  intro env s₁ hcl O S
  have hh : (A.deeper env).handled = none := R.1
  refine wpAny_execs_cons ?_
  repeat' first
    | ((with_reducible show wpAny _ _ (execs (Stmt.If _ [Stmt.Assign [Expr.Name _ _] _ _] _ _ :: _ :: _) _) _ _ _); refine Sit.ifStore (by assumption) ?_ (fun _ _ _ _ => ?_))
    | ((with_reducible show _ = Flow.next ∧ _); exact ⟨rfl, _, _, by assumption⟩)
    | (walk_at "m go" <;> ((repeat (rename Shared.toks _ ≤ _ => h0; clear h0)); (repeat (rename _ < Shared.toks _ => h0; clear h0))))
  all_goals exact h _ _ _ _ _ (Sit.done (by assumption)) (Sit.facts (by assumption) _ (.head _)) (by assumption)
/-! rgb_to_hls -/
set_option maxHeartbeats 4000000 in
theorem hls_spec {a b c : Nat} {t u x : Tok} (B : Base mg mb s.heap) (F : FnOk mg s.heap 1 f) (R : Rm A 1) (ha : a ≤ 2 ^ 21) (hb : b ≤ 2 ^ 21) (hc : c ≤ 2 ^ 21)
    (he : (max (max a b) c + min (min a b) c) % 2 = 0)
    (h : ∀ r s' h' s'' t', Kp s s' → Fact.At ⟨r, true, [h', .float (fl ((max (max a b) c + min (min a b) c) / 2)) t', s'']⟩ s'.heap → Q (.ref r) s') :
    wpAny (model prog w) A (call (.ref f) [.float (fl a) t, .float (fl b) u, .float (fl c) x]) Q E s := by
  refine enter 1 ["r", "g", "b"] (fs := []) B F R.depth rfl (fun _ _ _ => rfl) (by decide +kernel) (by decide +kernel) (fun _ hg => nomatch hg) ?_
  intro env s₁ hcl O S
  have hh : (A.deeper env).handled = none := R.1
  refine wpAny_execs_cons ?_
  repeat' first
    | ((with_reducible show wpAny _ _ (execs (Stmt.If _ [Stmt.Assign [Expr.Name _ _] _ _] _ _ :: _ :: _) _) _ _ _); refine Sit.ifStore (by assumption) ?_ (fun _ _ _ _ => ?_))
    | ((with_reducible show _ = Flow.next ∧ _); exact ⟨rfl, _, _, by assumption⟩)
    | (walk_at "m go" <;> ((repeat (rename Shared.toks _ ≤ _ => h0; clear h0)); (repeat (rename _ < Shared.toks _ => h0; clear h0))))
  all_goals exact h _ _ _ _ _ (Sit.done (by assumption)) (Sit.facts (by assumption) _ (.head _))
end
section
variable {prog : Program} {w : World} {A : Around} {E : Value → Shared → Prop} {mg mb : Str → Option Value} {s : Shared} {Q : Value → Shared → Prop} {f : Addr}
/-! _law_ends -/
theorem twice_half {x y : Nat} (h : (x + y) % 2 = 0) : 2 * ((x + y) / 2) - x = y := by omega
set_option maxHeartbeats 4000000 in
theorem ends_spec {a b c : Nat} {t u x : Tok} (B : Base mg mb s.heap) (F : FnOk mg s.heap 8 f) (R : Rm A 2) (ha : a ≤ 2 ^ 21) (hb : b ≤ 2 ^ 21) (hc : c ≤ 2 ^ 21) (ea : a % 2 = 0) (eb : b % 2 = 0) (ec : c % 2 = 0)
    (h : ∀ r s' t1 t2, Kp s s' → s.toks ≤ t1 → t1 < s'.toks → Fact.At ⟨r, true, [.float (fl (min (min a b) c)) t1, .float (fl (max (max a b) c)) t2]⟩ s'.heap →
      Value.float (fl (max (max a b) c)) t2 ∈ [Value.float (fl a) t, .float (fl b) u, .float (fl c) x] → Q (.ref r) s') :
    wpAny (model prog w) A (call (.ref f) [.float (fl a) t, .float (fl b) u, .float (fl c) x]) Q E s := by
  refine enter 8 ["red", "green", "blue"] (fs := []) B F R.depth rfl (fun _ _ _ => rfl) (by decide +kernel) (by decide +kernel) (fun _ hg => nomatch hg) ?_
  intro env s₁ hcl O S
  have hh : (A.deeper env).handled = none := R.1
  have R1 : Rm (A.deeper env) 1 := R.deeper
  refine wpAny_execs_cons ?_
  repeat walk_at "m go"
  refine hsv_spec (Sit.here (by assumption)) (FnOk.keeps (by assumption) (Sit.keep (by assumption))) R1 ha hb hc (fun r s2 h' s'' t' k ft mem => ?_)
  have S2 := (Sit.kept (by assumption) k).more ft
  clear k ft
  repeat walk_at "m go"
  refine hls_spec (Sit.here (by assumption)) (FnOk.keeps (by assumption) (Sit.keep (by assumption))) R1 ha hb hc (by omega) (fun r s2 h' s'' t' k ft => ?_)
  have S3 := (Sit.kept (by assumption) k).more ft
  clear ft
  repeat walk_at "m go"
  have e := twice_half (x := max (max a b) c) (y := min (min a b) c) (by omega)
  rename_i S9
  rw [e] at S9
  have t3 := S3.tk
  exact h _ _ _ _ S9.done (by omega) (by omega) (S9.facts _ (.head _)) mem
/-! _law_end -/
set_option maxHeartbeats 4000000 in
theorem end_spec {a b c : Nat} {t u x z : Tok} {d : Int} (B : Base mg mb s.heap) (F : FnOk mg s.heap 9 f) (R : Rm A 3) (ha : a ≤ 2 ^ 21) (hb : b ≤ 2 ^ 21) (hc : c ≤ 2 ^ 21) (ea : a % 2 = 0) (eb : b % 2 = 0) (ec : c % 2 = 0)
    (h : ∀ (s' : Shared) (t' : Nat), Kp s s' → (Value.float (fl (if d = 0 then min (min a b) c else max (max a b) c)) t' ∈ [Value.float (fl a) t, .float (fl b) u, .float (fl c) x] ∨ (s.toks ≤ t' ∧ t' < s'.toks)) →
      Q (.float (fl (if d = 0 then min (min a b) c else max (max a b) c)) t') s') :
    wpAny (model prog w) A (call (.ref f) [.float (fl a) t, .float (fl b) u, .float (fl c) x, .int d z]) Q E s := by
  refine enter 9 ["red", "green", "blue", "side"] (fs := []) B F R.depth rfl (fun _ _ _ => rfl) (by decide +kernel) (by decide +kernel) (fun _ hg => nomatch hg) ?_
  intro env s₁ hcl O S
  have hh : (A.deeper env).handled = none := R.1
  have R1 : Rm (A.deeper env) 2 := R.deeper
  refine wpAny_execs_cons ?_
  repeat' walk_at "m go"
  · refine hsv_spec (Sit.here (by assumption)) (FnOk.keeps (by assumption) (Sit.keep (by assumption))) (R1.le (by omega)) ha hb hc (fun r s2 h' s'' t' k ft mem => ?_)
    have S2 := (Sit.kept (by assumption) k).more ft
    clear k ft
    repeat walk_at "m go"
    rename_i S9
    have hd : ¬ d = 0 := by assumption
    have := h _ t' S9.done
    rw [if_neg hd] at this
    exact this (.inl mem)
  · refine ends_spec (Sit.here (by assumption)) (FnOk.keeps (by assumption) (Sit.keep (by assumption))) R1 ha hb hc ea eb ec (fun r s2 t1 t2 k h1 h2 ft mem => ?_)
    have S2 := (Sit.kept (by assumption) k).more ft
    clear k ft
    repeat walk_at "m go"
    rename_i S9
    have hd : d = 0 := by omega
    have t0 := S.tk
    have := h _ t1 S9.done
    rw [if_pos hd] at this
    exact this (.inr ⟨by omega, by omega⟩)
/-! median_low, median_high -/
theorem fls_item {vs : List Value} {ns : List Nat} (hf : Fls vs ns) {k : Nat} (hk : k < ns.length) : ∃ n t, vs[k]? = some (.float (fl n) t) ∧ ns[k]? = some n ∧ n < 2 ^ 53 ∧ Value.float (fl n) t ∈ vs := by
  obtain ⟨h1, t, h2⟩ := hf.at' k ns[k] (List.getElem?_eq_getElem hk)
  exact ⟨ns[k], t, h2, List.getElem?_eq_getElem hk, h1, List.mem_of_getElem? h2⟩
set_option maxHeartbeats 4000000 in
theorem low_spec {l : Addr} {vs : List Value} {ns : List Nat} (B : Base mg mb s.heap) (F : FnOk mg s.heap 5 f) (R : Rm A 1) (hl : Fact.At ⟨l, false, vs⟩ s.heap) (hf : Fls vs ns) (h0 : 0 < ns.length) (h64 : ns.length < 64)
    (h : ∀ (s' : Shared) (n : Nat) (t : Nat) (ns' : List Nat), Kp s s' → ns'.Perm ns → ns'.Pairwise (· ≤ ·) → ns'[(ns.length - 1) / 2]? = some n → n < 2 ^ 53 → Value.float (fl n) t ∈ vs → Q (.float (fl n) t) s') :
    wpAny (model prog w) A (call (.ref f) [.ref l]) Q E s := by
  refine enter 5 ["data"] (fs := [⟨l, false, vs⟩]) B F R.depth rfl (fun _ _ _ => rfl) (by decide +kernel) (by decide +kernel) (fun g hg => by rw [List.mem_singleton.mp hg]; exact hl) ?_
  intro env s₁ hcl O S
  have hh : (A.deeper env).handled = none := R.1
  have hlen := hf.length
  refine wpAny_execs_cons ?_
  repeat walk_at "m go"
  refine Sit.sorted (by assumption) (Sit.list (by assumption) (.head _)) hf (by omega) (fun l2 s2 vs' ns' ht hf' hp hw hm S2 => ?_)
  have hlen' := hf'.length
  have hlp := hp.length_eq
  repeat' walk_at "m go"
  · exfalso; omega
  · obtain ⟨n, t, h1, h2, h3, h4⟩ := fls_item hf' (k := (ns.length - 1) / 2) (by omega)
    refine itemL (Sit.list (by assumption) (.head _)) (by omega) (by omega) (by rw [show ((vs'.length : Int) / 2).toNat = (ns.length - 1) / 2 by omega]; exact h1) ?_
    exact h _ n t ns' (Sit.done (by assumption)) hp hw h2 h3 (hm _ h4)
  · obtain ⟨n, t, h1, h2, h3, h4⟩ := fls_item hf' (k := (ns.length - 1) / 2) (by omega)
    refine itemL (Sit.list (by assumption) (.head _)) (by omega) (by omega) (by rw [show ((vs'.length : Int) / 2 - 1).toNat = (ns.length - 1) / 2 by omega]; exact h1) ?_
    exact h _ n t ns' (Sit.done (by assumption)) hp hw h2 h3 (hm _ h4)
set_option maxHeartbeats 4000000 in
theorem high_spec {l : Addr} {vs : List Value} {ns : List Nat} (B : Base mg mb s.heap) (F : FnOk mg s.heap 6 f) (R : Rm A 1) (hl : Fact.At ⟨l, false, vs⟩ s.heap) (hf : Fls vs ns) (h0 : 0 < ns.length) (h64 : ns.length < 64)
    (h : ∀ (s' : Shared) (n : Nat) (t : Nat) (ns' : List Nat), Kp s s' → ns'.Perm ns → ns'.Pairwise (· ≤ ·) → ns'[ns.length / 2]? = some n → n < 2 ^ 53 → Value.float (fl n) t ∈ vs → Q (.float (fl n) t) s') :
    wpAny (model prog w) A (call (.ref f) [.ref l]) Q E s := by
  refine enter 6 ["data"] (fs := [⟨l, false, vs⟩]) B F R.depth rfl (fun _ _ _ => rfl) (by decide +kernel) (by decide +kernel) (fun g hg => by rw [List.mem_singleton.mp hg]; exact hl) ?_
  intro env s₁ hcl O S
  have hh : (A.deeper env).handled = none := R.1
  have hlen := hf.length
  refine wpAny_execs_cons ?_
  repeat walk_at "m go"
  refine Sit.sorted (by assumption) (Sit.list (by assumption) (.head _)) hf (by omega) (fun l2 s2 vs' ns' ht hf' hp hw hm S2 => ?_)
  have hlen' := hf'.length
  have hlp := hp.length_eq
  repeat' walk_at "m go"
  · exfalso; omega
  · obtain ⟨n, t, h1, h2, h3, h4⟩ := fls_item hf' (k := ns.length / 2) (by omega)
    refine itemL (Sit.list (by assumption) (.head _)) (by omega) (by omega) (by rw [show ((vs'.length : Int) / 2).toNat = ns.length / 2 by omega]; exact h1) ?_
    exact h _ n t ns' (Sit.done (by assumption)) hp hw h2 h3 (hm _ h4)
/-! _law_wide -/
def widen (ns : List Nat) : List Nat := [ns.headD 0, ns.headD 0] ++ ns ++ [ns.getLastD 0, ns.getLastD 0]
theorem wide_fls {vs : List Value} {ns : List Nat} {n0 n1 : Nat} {t0 t1 : Tok} (hf : Fls vs ns) (h0 : n0 < 2 ^ 53) (h1 : n1 < 2 ^ 53) (a2 : ns[0]? = some n0) (b2 : ns[ns.length - 1]? = some n1) :
    Fls ((List.replicate (2 : Int).toNat [Value.float (fl n0) t0]).flatten ++ vs ++ (List.replicate (2 : Int).toNat [Value.float (fl n1) t1]).flatten) (widen ns) := by
  have e0 : ns.headD 0 = n0 := by
    cases ns with
    | nil => simp at a2
    | cons a r => simpa using a2
  have e1 : ns.getLastD 0 = n1 := by
    rw [List.getLastD_eq_getLast?, List.getLast?_eq_getElem?, b2]; rfl
  unfold widen
  rw [e0, e1]
  exact ((Fls.cons n0 t0 h0 (.cons n0 t0 h0 .nil)).append hf).append (.cons n1 t1 h1 (.cons n1 t1 h1 .nil))
set_option maxHeartbeats 4000000 in
theorem wide_spec {l : Addr} {vs : List Value} {ns : List Nat} (B : Base mg mb s.heap) (F : FnOk mg s.heap 10 f) (R : Rm A 1) (hl : Fact.At ⟨l, false, vs⟩ s.heap) (hf : Fls vs ns) (h0 : 0 < ns.length) (h64 : ns.length < 64)
    (h : ∀ (s' : Shared) (a : Addr) (vs' : List Value), Kp s s' → Fls vs' (widen ns) → (∀ v ∈ vs', v ∈ vs) → Fact.At ⟨a, false, vs'⟩ s'.heap → Q (.ref a) s') :
    wpAny (model prog w) A (call (.ref f) [.ref l]) Q E s := by
  refine enter 10 ["row"] (fs := [⟨l, false, vs⟩]) B F R.depth rfl (fun _ _ _ => rfl) (by decide +kernel) (by decide +kernel) (fun g hg => by rw [List.mem_singleton.mp hg]; exact hl) ?_
  intro env s₁ hcl O S
  have hh : (A.deeper env).handled = none := R.1
  have hlen := hf.length
  refine wpAny_execs_cons ?_
  obtain ⟨n0, t0, a1, a2, a3, a4⟩ := fls_item hf (k := 0) h0
  obtain ⟨n1, t1, b1, b2, b3, b4⟩ := fls_item hf (k := ns.length - 1) (by omega)
  repeat walk_at "m go"
  refine itemL (Sit.list (by assumption) (.head _)) (by decide) (by decide) a1 ?_
  repeat walk_at "m go"
  refine Sit.mulL (by assumption) (Sit.list (by assumption) (.head _)) (by decide) (by decide) (by simp) (fun _ _ _ _ => ?_)
  repeat walk_at "m go"
  refine Sit.addL (by assumption) (Sit.list (by assumption) (.head _)) (Sit.list (by assumption) (.tail _ (.tail _ (.head _)))) (by simp; rw [sizeLine_eq]; omega) (fun _ _ _ _ => ?_)
  repeat walk_at "m go"
  refine itemNeg (Sit.list (by assumption) (.tail _ (.tail _ (.tail _ (.head _))))) (by decide) (by omega) (by decide) (by rw [show (-1 + (vs.length : Int)).toNat = ns.length - 1 by omega]; exact b1) ?_
  repeat walk_at "m go"
  refine Sit.mulL (by assumption) (Sit.list (by assumption) (.head _)) (by decide) (by decide) (by simp) (fun _ _ _ _ => ?_)
  repeat walk_at "m go"
  refine Sit.addL (by assumption) (Sit.list (by assumption) (.tail _ (.tail _ (.head _)))) (Sit.list (by assumption) (.head _)) (by simp; rw [sizeLine_eq]; omega) (fun _ _ _ _ => ?_)
  refine h _ _ _ (Sit.done (by assumption)) (wide_fls hf a3 b3 a2 b2) (fun v hv => ?_) (Sit.facts (by assumption) _ (.head _))
  rcases List.mem_append.mp hv with hv | hv
  · rcases List.mem_append.mp hv with hv | hv
    · have : v = Value.float (fl n0) t0 := by simpa using hv
      rw [this]; exact a4
    · exact hv
  · have : v = Value.float (fl n1) t1 := by simpa using hv
    rw [this]; exact b4
end

/-! comprehensions by what holds of the items so far -/
section
variable {prog : Program} {w : World} {A : Around} {E : Value → Shared → Prop} {mg mb : Str → Option Value} {sp : Scope} {s₀ s : Shared} {env : Env} {m cm : Str → Option Value} {fs : List Fact} {Q : Value → Shared → Prop}
/-- an iterator at hand, new at s₁ -/
def Iter (prog : Program) (w : World) (A : Around) (n : Nat) (P : Nat → Value → Prop) (s₁ : Shared) (it : Value) (s₂ : Shared) : Prop :=
  ∃ I fp St, it = .ref I ∧ Walks prog w A I fp [I] n P St ∧ St 0 s₂.heap ∧ (∀ b ∈ fp, b < s₂.heap.objs.size) ∧ s₁.heap.get? I = none ∧ Kp s₁ s₂
theorem iter_listF {l : Addr} {vs : List Value} (hh : A.handled = none) (hl : s.heap.IsList l vs.toArray) : wpAny (model prog w) A (pyIter (.ref l)) (Iter prog w A vs.length (fun i v => vs[i]? = some v) s) E s := by
  refine Flt.iter_list_ hl fun s₂ e st hfp hlI => ?_
  subst e
  have W := Walks.list (prog := prog) (w := w) (A := A) hh _ l hlI vs.toArray
  have e1 : vs.toArray.size = vs.length := by simp
  have e2 : (fun i v => vs.toArray[i]? = some v) = (fun (i : Nat) (v : Value) => vs[i]? = some v) := by funext i v; simp
  rw [e1, e2] at W
  refine ⟨_, _, _, rfl, W, st, hfp, ?_, kp_heap fun _ _ e => Heap.get?_push_of_some _ e⟩
  cases e : s.heap.get? s.heap.objs.size with
  | none => rfl
  | some o' => exact absurd (Heap.lt_size e) (Nat.lt_irrefl _)

variable {elt iter : Expr} {x : Str} {px pos : Pos} {scope : Scope} {cl : List (Str × Addr)} {n : Nat} {P : Nat → Value → Prop} {J : Nat → List Value → Nat → Prop}
theorem comp_loop {I D C : Addr} {fp : List Addr} {St : Nat → Heap → Prop} {R : Result → Shared → Prop} {mC : Str → Option Value} (W : Walks prog w A I fp [I] n P St) (hsz : n ≤ sizeLine)
    (hkind : scope.kind = .function) (hx : scope.names.lookup x = some .local) (hDC : D ≠ C) (hDf : D ∉ fp) (hCf : C ∉ fp)
    (hst : St 0 s.heap) (hacc : s.heap.PlainList D #[]) (hn : s.heap.Ns C mC) (hJ0 : J 0 [] s.toks) (hmono : ∀ i ys k k', J i ys k → k ≤ k' → J i ys k')
    (helt : ∀ i v s₃ m₃ ys, i < n → P i v → s₃.heap.Ns C m₃ → m₃ x = some v → (∃ h tk, s₃ = { s with heap := h, toks := tk }) → s.toks ≤ s₃.toks → (∀ b o, b ≠ C → b ≠ I → b ≠ D → s.heap.get? b = some o → s₃.heap.get? b = some o) → J i ys s₃.toks →
      wpAny (model prog w) A (eval elt (compEnvC scope cl C env)) (fun y s₄ => Kp s₃ s₄ ∧ J (i + 1) (ys ++ [y]) s₄.toks) (fun _ _ => False) s₃)
    (hR : ∀ h' tk m' ys, h'.Ns C m' → h'.IsList D (List.toArray ys) → ys.length = n → J n ys tk → s.toks ≤ tk → (∀ b o, b ≠ C → b ≠ I → b ≠ D → s.heap.get? b = some o → h'.get? b = some o) → R (.ok .next) { s with heap := h', toks := tk }) :
    codeAny (model prog w) A (.compLoop (.ListComp elt [⟨.Name x px, iter, [], 0⟩] scope pos) 0 (.ref I) (.ref D) (compEnvC scope cl C env)) R s := by
  have hIC : C ≠ I := fun h => hCf (W.sub _ (by simp [h]))
  have hID : D ≠ I := fun h => hDf (W.sub _ (by simp [h]))
  have hxl : (compEnvC scope cl C env).kindOf x = some .local := lookup_relabel_local hx
  refine codeAny_compLoop_list
    (fun k s' => ∃ h' tk m' ys, s' = { s with heap := h', toks := tk } ∧ St ys.length h' ∧ h'.PlainList D (List.toArray ys) ∧ h'.Ns C m' ∧ ys.length ≤ n ∧ k = n + 1 - ys.length ∧ J ys.length ys tk ∧ s.toks ≤ tk ∧
      (∀ b o, b ≠ C → b ≠ I → b ≠ D → s.heap.get? b = some o → h'.get? b = some o)) ?_ (n + 1)
    ⟨s.heap, s.toks, mC, [], rfl, hst, hacc, hn, Nat.zero_le _, rfl, hJ0, Nat.le_refl _, fun _ _ _ _ _ e => e⟩
  rintro k s' ⟨H, tk, m', ys, rfl, hst', hacc', hn', hi, rfl, hJ, htk, hk⟩
  by_cases hlt : ys.length < n
  · refine wpAny_mono (wpAny_toks_of (n := tk) (Nat.le_refl _) (W.item ys.length _ (fun r s₁ => match r with
        | none => False
        | some v => ∃ h₁ tk₁, s₁ = { s with heap := h₁, toks := tk₁ } ∧ P ys.length v ∧ St (ys.length + 1) h₁ ∧ ∀ b o, b ∉ [I] → H.get? b = some o → h₁.get? b = some o) (fun _ _ => False) hlt hst' fun v h₁ tk₁ hPv hst₁ hk₁ => ⟨h₁, tk₁, rfl, hPv, hst₁, hk₁⟩)) (fun r s₁ q => ?_) fun _ _ q => q.2.elim
    obtain ⟨hle, q⟩ := q
    cases r with
    | none => exact q.elim
    | some v =>
    obtain ⟨h₁, tk₁, rfl, hPv, hst₁, hk₁⟩ := q
    have keep₁ : ∀ b o, b ≠ I → H.get? b = some o → h₁.get? b = some o := fun b o hb => hk₁ b o (by simpa using hb)
    refine wpAny_assign_Name (wpAny_storeName_local hxl (hn'.at' fun o e => keep₁ _ o hIC e) (fun h₂ hn₂ hs₂ => ?_) (by simp [compEnvC, relabel, hkind]))
    have up₂ : ∀ b o, b ≠ C → b ≠ I → H.get? b = some o → h₂.get? b = some o := fun b o hbC hbI e => hs₂.extBut b o hbC (keep₁ b o hbI e)
    have hle' : tk ≤ tk₁ + 1 := Nat.le_succ_of_le hle
    refine wpAny_mono (helt ys.length v _ _ ys hlt hPv hn₂ (by simp) ⟨_, _, rfl⟩ (Nat.le_trans htk hle') (fun b o hbC hbI hbD e => up₂ b o hbC hbI (hk b o hbC hbI hbD e)) (hmono _ _ _ _ hJ hle')) (fun y s₄ h₄ => ?_) fun _ _ q => q.elim
    obtain ⟨⟨⟨h₄, tk₄, rfl, hk₄⟩, hl₄⟩, hJ₄⟩ := h₄
    have hst₂ : St (ys.length + 1) h₂ := W.frame _ _ _ hst₁ fun b hb o e => hs₂.extBut b o (fun h => hCf ((show b = C from h) ▸ hb)) e
    have hacc₄ : h₄.PlainList D (List.toArray ys) := hacc'.at fun o e => hk₄ _ o (up₂ D o hDC hID e)
    refine wpAny_list_append_plain (hsz := by rw [List.size_toArray]; omega) hacc₄ fun h₅ hl₅ hs₅ => ?_
    refine ⟨n + 1 - (ys.length + 1), by omega, h₅, tk₄, _, ys ++ [y], rfl, ?_, by simpa using hl₅, (hn₂.keeps hk₄).sameBut hs₅ (Ne.symm hDC), by rw [List.length_append, List.length_singleton]; exact hlt, by rw [List.length_append, List.length_singleton], by rw [List.length_append, List.length_singleton]; exact hJ₄,
      Nat.le_trans htk (Nat.le_trans hle' hl₄), fun b o hbC hbI hbD e => hs₅.extBut b o hbD (hk₄ b o (up₂ b o hbC hbI (hk b o hbC hbI hbD e)))⟩
    have := W.frame _ _ h₅ hst₂ fun b hb o e => hs₅.extBut b o (fun h => hDf (h ▸ hb)) (hk₄ b o e)
    simpa using this
  · have hin : ys.length = n := by omega
    refine wpAny_mono (wpAny_toks_of (n := tk) (Nat.le_refl _) (W.done _ (fun r s₁ => r = none ∧ ∃ h₁ tk₁, s₁ = { s with heap := h₁, toks := tk₁ } ∧ ∀ b o, b ∉ [I] → H.get? b = some o → h₁.get? b = some o) (fun _ _ => False) (hin ▸ hst') fun h₁ tk₁ hk₁ => ⟨rfl, h₁, tk₁, rfl, hk₁⟩)) (fun r s₁ q => ?_) fun _ _ q => q.2.elim
    obtain ⟨hle, rfl, h₁, tk₁, rfl, hk₁⟩ := q
    have keep₁ : ∀ b o, b ≠ I → H.get? b = some o → h₁.get? b = some o := fun b o hb => hk₁ b o (by simpa using hb)
    exact hR h₁ tk₁ m' ys (hn'.at' fun o e => keep₁ _ o hIC e) (hacc'.at fun o e => keep₁ _ o hID e).isList hin (hmono _ _ _ _ (hin ▸ hJ) hle) (Nat.le_trans htk hle) fun b o hbC hbI hbD e => keep₁ b o hbI (hk b o hbC hbI hbD e)

/-- a comprehension's names as its block reads them -/
def relab (scope sp : Scope) : Scope := { scope with names := scope.names.map fun (n, k) => if (k == .free && sp.kind == .function && sp.names.lookup n == some .cell) then (n, .cell) else (n, k) }
theorem relab_eq {scope sp : Scope} {env : Env} (h : env.scope = sp) : relabel scope env = relab scope sp := by subst h; rfl
/-- the cells that a comprehension reads -/
def closOf (cells : List (Str × Addr)) : List (Str × NameKind) → List (Str × Addr) → List (Str × Addr)
  | [], acc => acc
  | (n, k) :: r, acc => closOf cells r (if k == .free then (n, (cells.lookup n).getD 0) :: acc else acc)
theorem closureFor_go {cells : List (Str × Addr)} (f : Str × NameKind → List (Str × Addr) → Sem (ForInStep (List (Str × Addr))))
    (hf : ∀ n k acc, f (n, k) acc = if k == .free then (match cells.lookup n with | some a => pure (.yield ((n, a) :: acc)) | none => unsupported "internal:no-cell-for-name") else pure (.yield acc)) :
    ∀ (names : List (Str × NameKind)) (acc : List (Str × Addr)), (∀ p ∈ names, p.2 = .free → (cells.lookup p.1).isSome = true) → forIn names acc f = pure (closOf cells names acc)
  | [], acc, _ => by rw [List.forIn_nil]; rfl
  | (n, k) :: r, acc, h => by
    rw [List.forIn_cons, hf]
    unfold closOf
    by_cases hk : (k == NameKind.free) = true
    · obtain ⟨a, ha⟩ := Option.isSome_iff_exists.mp (h (n, k) (.head _) (eq_of_beq hk))
      rw [if_pos hk, if_pos hk, ha]
      simp only [pure_bind, Option.getD_some]
      exact closureFor_go f hf r _ fun p hp => h p (.tail _ hp)
    · rw [if_neg hk, if_neg hk]
      simp only [pure_bind]
      exact closureFor_go f hf r _ fun p hp => h p (.tail _ hp)
theorem closureFor_eq {scope : Scope} {env : Env} (h : ∀ p ∈ scope.names, p.2 = .free → (env.cells.lookup p.1).isSome = true) : closureFor scope env = pure (closOf env.cells scope.names []) := by
  unfold closureFor
  simp only []
  rw [closureFor_go (cells := env.cells) _ (fun n k acc => ?_) scope.names [] h]
  · rfl
  · by_cases hk : (k == NameKind.free) = true
    · simp only [hk, if_true, cellOf]
      cases env.cells.lookup n <;> rfl
    · simp only [hk]
      rfl
theorem closOf_sub {cells : List (Str × Addr)} : ∀ (names : List (Str × NameKind)) (acc : List (Str × Addr)), (∀ p ∈ names, p.2 = .free → (cells.lookup p.1).isSome = true) → (∀ n c, acc.lookup n = some c → cells.lookup n = some c) →
    ∀ n c, (closOf cells names acc).lookup n = some c → cells.lookup n = some c
  | [], _, _, ha, n, c, h => ha n c h
  | (x, k) :: r, acc, hf, ha, n, c, h => by
    unfold closOf at h
    refine closOf_sub r _ (fun p hp => hf p (.tail _ hp)) (fun n c hc => ?_) n c h
    by_cases hk : (k == NameKind.free) = true
    · rw [if_pos hk, List.lookup_cons] at hc
      obtain ⟨a, hx⟩ := Option.isSome_iff_exists.mp (hf (x, k) (.head _) (eq_of_beq hk))
      cases hb : n == x with
      | true => rw [hb] at hc; rw [eq_of_beq hb, hx]; rw [hx] at hc; exact hc
      | false => rw [hb] at hc; exact ha n c hc
    · rw [if_neg hk] at hc; exact ha n c hc
/-- what a comprehension's frame is at an item -/
abbrev CSit (mg mb : Str → Option Value) (sp : Scope) (scope : Scope) (env : Env) (C : Addr) (m cm : Str → Option Value) (fs : List Fact) (s : Shared) : Prop := Sit mg mb (relab scope sp) s (compEnvC scope (closOf env.cells scope.names []) C env) m cm fs s
theorem comp_core {use : Option (Value → Sem Unit)} {s₁ s₂ : Shared} {it : Value} {RR : Value → Addr → Result → Shared → Prop} (S : Sit mg mb sp s₀ env m cm fs s₁) (hI : Iter prog w A n P s₁ it s₂) (hsz : n ≤ sizeLine)
    (hcell : ∀ y ∈ scope.names, y.2 ≠ .cell) (hkind : scope.kind = .function) (hx : scope.names.lookup x = some .local) (hfr : ∀ p ∈ scope.names, p.2 = .free → (env.cells.lookup p.1).isSome = true)
    (hJ0 : J 0 [] s₁.toks) (hmono : ∀ i ys k k', J i ys k → k ≤ k' → J i ys k')
    (helt : ∀ C i v s₃ m₃ ys, i < n → P i v → m₃ x = some v → CSit mg mb sp scope env C m₃ cm fs s₃ → Gr s₁.heap s₃.heap → J i ys s₃.toks →
      wpAny (model prog w) A (eval elt (compEnvC scope (closOf env.cells scope.names []) C env)) (fun y s₄ => Kp s₃ s₄ ∧ J (i + 1) (ys ++ [y]) s₄.toks) (fun _ _ => False) s₃)
    (hRR : ∀ D C h' tk m' ys, s₁.heap.get? C = none → D ≠ C → h'.Ns C m' → Fact.At ⟨D, false, ys⟩ h' → ys.length = n → J n ys tk → s₁.toks ≤ tk → Gr s₁.heap h' → RR (.ref D) C (.ok .next) { s₁ with heap := h', toks := tk }) :
    wpAny (model prog w) A (newList []) (fun acc s₃ => wpAny (model prog w) A (newFunctionEnv scope env.globals (closOf env.cells scope.names []) [] env.qual none .none (some env)) (fun cenv s₄ =>
      codeAny (model prog w) A (.compStart (.ListComp elt [⟨.Name x px, iter, [], 0⟩] scope pos) 0 it acc { cenv with scope := relabel scope env }) (RR acc cenv.locals) s₄) E s₃) E s₂ := by
  obtain ⟨I, fp, St, rfl, W, hst, hfp, hIn, ⟨h2, tk2, rfl, hg2⟩, htk2⟩ := hI
  refine wpAny_newObj_type (wpAny_newFunctionEnv hcell (by intro y hy; simp at hy) (fun h₁ hns₁ hsb₁ => ?_) hkind)
  dsimp only at hns₁ hsb₁ hst hfp htk2 ⊢
  generalize hH2 : h2.push { cls := .type "list", dict := none, data := .seq ([] : List Value).toArray } = H2 at hns₁ hsb₁ ⊢
  have hC : H2.objs.size = h2.objs.size + 1 := by rw [← hH2, Heap.size_push]
  have hDC : h2.objs.size ≠ H2.objs.size := by rw [hC]; exact Nat.ne_of_lt (Nat.lt_succ_self _)
  have below : ∀ b, b < h2.objs.size → b ≠ H2.objs.size ∧ b ≠ h2.objs.size := fun b hb => ⟨by rw [hC]; exact Nat.ne_of_lt (Nat.lt_succ_of_lt hb), Nat.ne_of_lt hb⟩
  have hDf : h2.objs.size ∉ fp := fun hm => Nat.lt_irrefl _ (hfp _ hm)
  have hCf : H2.objs.size ∉ fp := fun hm => by have := hfp _ hm; rw [hC] at this; exact Nat.lt_irrefl _ (Nat.lt_of_succ_lt this)
  have old : ∀ b o, h2.get? b = some o → h₁.get? b = some o := fun b o e => hsb₁.extBut b o (below b (Heap.lt_size e)).1 (Heap.get?_push_of_some _ (hH2 ▸ Heap.get?_push_of_some _ e))
  have hacc : h₁.PlainList h2.objs.size #[] := ⟨_, hsb₁.extBut _ _ hDC (Heap.get?_push_of_some _ (hH2 ▸ Heap.get?_push_size _ rfl))⟩
  have hst₁ : St 0 h₁ := W.frame _ _ _ hst fun b _ o e => old b o e
  have up : ∀ h', (∀ b o, b ≠ H2.objs.size → b ≠ I → b ≠ h2.objs.size → h₁.get? b = some o → h'.get? b = some o) → Gr s₁.heap h' := fun h' hk b o e =>
    hk b o (below b (Heap.lt_size (hg2 b o e))).1 (fun q => by rw [q, hIn] at e; cases e) (below b (Heap.lt_size (hg2 b o e))).2 (old b o (hg2 b o e))
  have hCn : s₁.heap.get? H2.objs.size = none := by
    cases e : s₁.heap.get? H2.objs.size with
    | none => rfl
    | some o' => have := Heap.lt_size (hg2 _ _ e); rw [hC] at this; exact absurd this (Nat.not_lt.mpr (Nat.le_succ _))
  have loop : ∀ s₃ : Shared, s₃ = { s₁ with heap := h₁, toks := tk2 + ([] : List (Str × Value)).length } →
      codeAny (model prog w) A (.compLoop (.ListComp elt [⟨.Name x px, iter, [], 0⟩] scope pos) 0 (.ref I) (.ref h2.objs.size) (compEnvC scope (closOf env.cells scope.names []) H2.objs.size env))
        (RR (.ref h2.objs.size) H2.objs.size) s₃ := by
    rintro s₃ rfl
    refine comp_loop W hsz hkind hx hDC hDf hCf hst₁ hacc hns₁ (hmono _ _ _ _ hJ0 htk2) hmono (fun i v s₃ m₃ ys hi hP hn₃ hm₃ hsame htk₃ hk₃ hJ => ?_) fun h' tk m' ys hn' hl' hlen hJ htk hk => ?_
    · have g : Gr s₁.heap s₃.heap := up _ hk₃
      refine helt _ i v s₃ m₃ ys hi hP hm₃ ?_ g hJ
      exact ⟨⟨_, _, rfl⟩, Nat.le_refl _, fun _ _ e => e, hn₃, fun n c hc => (S.cell n c (closOf_sub scope.names [] hfr (fun _ _ q => by simp at q) n c hc)).keeps g, S.here.keeps g, fun f hf => (S.facts f hf).keeps g, S.glob, S.blt, hkind, relab_eq S.scp⟩
    · exact hRR _ _ h' tk m' ys hCn hDC hn' (Fact.of_list hl') hlen hJ (Nat.le_trans htk2 htk) (up _ hk)
  exact codeAny_compStart_list (loop _ rfl) (W.self 0 _ _ _ hst₁ (loop _ rfl))
theorem Sit.comp (S0 : Sit mg mb sp s₀ env m cm fs s) (fs₁ : List Fact) (hfr : ∀ p ∈ scope.names, p.2 = .free → (env.cells.lookup p.1).isSome = true) (hsz : n ≤ sizeLine)
    (hcell : ∀ y ∈ scope.names, y.2 ≠ .cell) (hkind : scope.kind = .function) (hnames : ∀ y ∈ scope.names, y.2 = .local → scope.names.lookup y.1 = some .local) (hx : scope.names.lookup x = some .local)
    (hmono : ∀ i ys k k', J i ys k → k ≤ k' → J i ys k')
    (hit : wpAny (model prog w) A (eval iter env) (fun xv s₁ => Sit mg mb sp s₀ env m cm fs₁ s₁ ∧ wpAny (model prog w) A (pyIter xv) (Iter prog w A n P s₁) (fun _ _ => False) s₁ ∧ J 0 [] s₁.toks) (fun _ _ => False) s)
    (helt : ∀ C i v s₃ m₃ ys, i < n → P i v → m₃ x = some v → CSit mg mb sp scope env C m₃ cm fs₁ s₃ → J i ys s₃.toks →
      wpAny (model prog w) A (eval elt (compEnvC scope (closOf env.cells scope.names []) C env)) (fun y s₄ => Kp s₃ s₄ ∧ J (i + 1) (ys ++ [y]) s₄.toks) (fun _ _ => False) s₃)
    (h : ∀ D s' ys, Sit mg mb sp s₀ env m cm (⟨D, false, ys⟩ :: fs₁) s' → ys.length = n → J n ys s'.toks → s.toks ≤ s'.toks → Q (.ref D) s')
    (hs : ∀ x, foldedSetIterable iter env x = pure x := by intro _; rfl) :
    wpAny (model prog w) A (eval (.ListComp elt [⟨.Name x px, iter, [], 0⟩] scope pos) env) Q E s := by
  rw [eval_ListComp]
  refine wpAny_comprehension_free (use := none) rfl hs (closureFor_eq hfr) hkind hnames (wpAny_mono (wpAny_toks hit) (fun xv s₁ h₁ => ?_) fun _ _ e => e.2.elim)
  obtain ⟨ht1, S₁, h₁, hJ0⟩ := h₁
  refine wpAny_mono h₁ (fun it s₂ h₂ => ?_) fun _ _ e => e.elim
  refine comp_core (use := none) (RR := fun acc C => compPost (model prog w) A E none Q acc C) S₁ h₂ hsz hcell hkind hx hfr hJ0 hmono (fun C i v s₃ m₃ ys hi hP hm hC _ hJ => helt C i v s₃ m₃ ys hi hP hm hC hJ) ?_
  intro D C h' tk m' ys hC hDC hn' hl' hlen hJ htk hg
  refine ⟨m', hn', fun h'' hs'' => h D _ ys ?_ hlen hJ (Nat.le_trans ht1 htk)⟩
  exact (S₁.kept ⟨⟨h'', tk, rfl, fun b o e => hs''.extBut b o (fun q => by rw [q, hC] at e; cases e) (hg b o e)⟩, htk⟩).more (hl'.sameBut hs'' hDC)
/-- a local name bound to a comprehension's list -/
theorem Sit.compSt {y : Str} {py spos : Pos} {Q : Flow → Shared → Prop} (S0 : Sit mg mb sp s₀ env m cm fs s) (O : Own s₀ env) (fs₁ : List Fact) (hsw : swapsWith (.ListComp elt [⟨.Name x px, iter, [], 0⟩] scope pos) (some (.Name y py)) spos.line env = pure true)
    (hfr : ∀ p ∈ scope.names, p.2 = .free → (env.cells.lookup p.1).isSome = true) (hsz : n ≤ sizeLine)
    (hcell : ∀ y ∈ scope.names, y.2 ≠ .cell) (hkind : scope.kind = .function) (hnames : ∀ y ∈ scope.names, y.2 = .local → scope.names.lookup y.1 = some .local) (hx : scope.names.lookup x = some .local) (hy : sp.names.lookup y = some .local)
    (hmono : ∀ i ys k k', J i ys k → k ≤ k' → J i ys k')
    (hit : wpAny (model prog w) A (eval iter env) (fun xv s₁ => Sit mg mb sp s₀ env m cm fs₁ s₁ ∧ wpAny (model prog w) A (pyIter xv) (Iter prog w A n P s₁) (fun _ _ => False) s₁ ∧ J 0 [] s₁.toks) (fun _ _ => False) s)
    (helt : ∀ C i v s₃ m₃ ys, i < n → P i v → m₃ x = some v → CSit mg mb sp scope env C m₃ cm fs₁ s₃ → J i ys s₃.toks →
      wpAny (model prog w) A (eval elt (compEnvC scope (closOf env.cells scope.names []) C env)) (fun y s₄ => Kp s₃ s₄ ∧ J (i + 1) (ys ++ [y]) s₄.toks) (fun _ _ => False) s₃)
    (h : ∀ D s' ys, Sit mg mb sp s₀ env (fun z => if z = y then some (.ref D) else m z) cm (⟨D, false, ys⟩ :: fs₁) s' → ys.length = n → J n ys s'.toks → s.toks ≤ s'.toks → Q .next s')
    (hs : ∀ x, foldedSetIterable iter env x = pure x := by intro _; rfl) :
    wpAny (model prog w) A (exec (.Assign [.Name y py] (.ListComp elt [⟨.Name x px, iter, [], 0⟩] scope pos) spos) env) Q E s := by
  rw [exec_Assign_Name_used _ _ _ _ hsw]
  refine wpAny_bind (wpAny_standAt (wpAny_bind ?_))
  show wpAny _ A (do let _ ← comprehension (.ListComp elt [⟨.Name x px, iter, [], 0⟩] scope pos) scope env _ (PySem.newList []) false (eval iter env) (some (assign (.Name y py) env))) _ _ s
  refine wpAny_bind (wpAny_mono (wpAny_comprehension_free (use := some (assign (.Name y py) env)) (Q := fun _ s' => Q .next s') rfl hs (closureFor_eq hfr) hkind hnames
    (wpAny_mono (wpAny_toks hit) (fun xv s₁ h₁ => ?_) fun _ _ e => e.2.elim)) (fun _ s' hq => wpAny_pure (wpAny_pure hq)) fun _ _ e => e)
  obtain ⟨ht1, S₁, h₁, hJ0⟩ := h₁
  refine wpAny_mono h₁ (fun it s₂ h₂ => ?_) fun _ _ e => e.elim
  refine comp_core (use := some (assign (.Name y py) env)) (RR := fun acc C => compPost (model prog w) A E (some (assign (.Name y py) env)) (fun _ s' => Q .next s') acc C) S₁ h₂ hsz hcell hkind hx hfr hJ0 hmono (fun C i v s₃ m₃ ys hi hP hm hC _ hJ => helt C i v s₃ m₃ ys hi hP hm hC hJ) ?_
  intro D C h' tk m' ys hC hDC hn' hl' hlen hJ htk hg
  have S₂ : Sit mg mb sp s₀ env m cm (⟨D, false, ys⟩ :: fs₁) { s₁ with heap := h', toks := tk } := (S₁.kept ⟨⟨h', tk, rfl, hg⟩, htk⟩).more hl'
  have hLC : env.locals ≠ C := by rintro rfl; obtain ⟨o, _, _, ho, _⟩ := S₁.ns; rw [hC] at ho; cases ho
  show wpAny _ A (assign (.Name y py) env (.ref D)) _ _ _
  refine wpAny_assign_Name (wpAny_storeName_local (S₂.kindOf hy) S₂.ns (fun h₂ hn₂ hs₂ => ?_) (by rw [S₂.kind]; rfl))
  refine ⟨m', hn'.sameBut hs₂ (Ne.symm hLC), fun h₃ hs₃ => h D _ ys ?_ hlen (hmono _ _ _ _ hJ (Nat.le_succ _)) (Nat.le_succ_of_le (Nat.le_trans ht1 htk))⟩
  have S₃ : Sit mg mb sp s₀ env (fun z => if z = y then some (.ref D) else m z) cm (⟨D, false, ys⟩ :: fs₁) { s₁ with heap := h₂, toks := tk + 1 } := by
    refine ⟨?_, Nat.le_succ_of_le S₂.tk, fun b o e => ?_, hn₂, fun k c hc => ?_, S₂.base, fun f hf => ?_, S₂.glob, S₂.blt, S₂.kind, S₂.scp⟩
    · obtain ⟨h₁, tk, e⟩ := S₁.same
      exact ⟨h₂, _, by rw [e]⟩
    · exact hs₂.extBut b o (fun q => by rw [q, O.fresh] at e; cases e) (S₂.keep b o e)
    · exact (S₂.cell k c hc).sameBut hs₂ (Ne.symm (O.above k c hc).1)
    · exact (S₂.facts f hf).sameBut hs₂ ((S₂.facts f hf).ne_ns S₂.ns)
  have nC : ∀ b o, s₁.heap.get? b = some o → b ≠ C := fun b o e q => by rw [q, hC] at e; cases e
  refine ⟨?_, S₃.tk, fun b o e => hs₃.extBut b o (nC b o (S₁.keep b o e)) (S₃.keep b o e), S₃.ns.sameBut hs₃ hLC, fun k c hc => ?_, S₃.base, fun f hf => ?_, S₃.glob, S₃.blt, S₃.kind, S₃.scp⟩
  · obtain ⟨h₁, tk, e⟩ := S₁.same
    exact ⟨h₃, _, by rw [e]⟩
  · obtain ⟨o, ho, _⟩ := S₁.cell k c hc
    exact (S₃.cell k c hc).sameBut hs₃ (nC c o ho)
  · refine (S₃.facts f hf).sameBut hs₃ ?_
    rcases List.mem_cons.mp hf with rfl | hf
    · exact hDC
    · obtain ⟨o, ho, _⟩ := S₁.facts f hf
      exact nC _ o ho

/-! a tuple unpacked -/
theorem Sit.unpack2 {Q : Unit → Shared → Prop} (S : Sit mg mb sp s₀ env m cm fs s) {t : Addr} {v1 v2 : Value} {x1 x2 : Str} {p1 p2 : Pos} {k : Nat} (hh : A.handled = none) (ht : s.heap.IsTuple t [v1, v2].toArray)
    (h : ∀ s', s.toks ≤ s'.toks → Sit mg mb sp s₀ env m cm fs s' → wpAny (model prog w) A (storeName env x1 v1) (fun _ s2 => wpAny (model prog w) A (storeName env x2 v2) Q E s2) E s') :
    wpAny (model prog w) A (assign (.Tuple [.Name x1 p1, .Name x2 p2] k pos) env (.ref t)) Q E s := by
  refine assign_Tuple_tuple hh ht rfl rfl fun h' he => ?_
  have S' : Sit mg mb sp s₀ env m cm fs { s with heap := h' } := S.kept (kp_heap fun b o e => he b o (Nat.ne_of_lt (Heap.lt_size e)) e)
  show wpAny _ _ (do holding [v2] (assign (.Name x1 p1) env v1); assignInOrder [assign (.Name x2 p2) env] [v2]) Q E _
  refine wpAny_bind (wpAny_holding (wpAny_assign_Name (wpAny_mono (h _ (Nat.le_refl _) S') (fun _ s2 q => ?_) fun _ _ e => e)))
  show wpAny _ _ (do holding [] (assign (.Name x2 p2) env v2); assignInOrder [] []) Q E _
  exact wpAny_bind (wpAny_holding (wpAny_assign_Name (wpAny_mono q (fun _ _ r => wpAny_pure r) fun _ _ e => e)))
theorem Sit.unpack3 {Q : Unit → Shared → Prop} (S : Sit mg mb sp s₀ env m cm fs s) {t : Addr} {v1 v2 v3 : Value} {x1 x2 x3 : Str} {p1 p2 p3 : Pos} {k : Nat} (hh : A.handled = none) (ht : s.heap.IsTuple t [v1, v2, v3].toArray)
    (h : ∀ s', s.toks ≤ s'.toks → Sit mg mb sp s₀ env m cm fs s' → wpAny (model prog w) A (storeName env x1 v1) (fun _ s2 => wpAny (model prog w) A (storeName env x2 v2) (fun _ s3 => wpAny (model prog w) A (storeName env x3 v3) Q E s3) E s2) E s') :
    wpAny (model prog w) A (assign (.Tuple [.Name x1 p1, .Name x2 p2, .Name x3 p3] k pos) env (.ref t)) Q E s := by
  refine assign_Tuple_tuple hh ht rfl rfl fun h' he => ?_
  have S' : Sit mg mb sp s₀ env m cm fs { s with heap := h' } := S.kept (kp_heap fun b o e => he b o (Nat.ne_of_lt (Heap.lt_size e)) e)
  show wpAny _ _ (do holding [v2, v3] (assign (.Name x1 p1) env v1); assignInOrder [assign (.Name x2 p2) env, assign (.Name x3 p3) env] [v2, v3]) Q E _
  refine wpAny_bind (wpAny_holding (wpAny_assign_Name (wpAny_mono (h _ (Nat.le_refl _) S') (fun _ s2 q => ?_) fun _ _ e => e)))
  show wpAny _ _ (do holding [v3] (assign (.Name x2 p2) env v2); assignInOrder [assign (.Name x3 p3) env] [v3]) Q E _
  refine wpAny_bind (wpAny_holding (wpAny_assign_Name (wpAny_mono q (fun _ s3 r => ?_) fun _ _ e => e)))
  show wpAny _ _ (do holding [] (assign (.Name x3 p3) env v3); assignInOrder [] []) Q E _
  exact wpAny_bind (wpAny_holding (wpAny_assign_Name (wpAny_mono r (fun _ _ r => wpAny_pure r) fun _ _ e => e)))
/-! ranges -/
def Rng (h : Heap) (r : Addr) (n : Int) : Prop := ∃ t u v, IsRange h r 0 n 1 t u v
theorem Rng.keeps {h h' : Heap} {r : Addr} {n : Int} (x : Rng h r n) (k : Gr h h') : Rng h' r n := let ⟨t, u, v, e⟩ := x; ⟨t, u, v, k _ _ e⟩
theorem Sit.range (S : Sit mg mb sp s₀ env m cm fs s) {n : Int} {t : Tok} (h : ∀ a s', s.toks ≤ s'.toks → Rng s'.heap a n → Sit mg mb sp s₀ env m cm fs s' → Q (.ref a) s') : wpAny (model prog w) A (call (.type "range") [.int n t]) Q E s :=
  call_range_1 (h _ _ (by show s.toks ≤ s.toks + 1 + 1; omega) ⟨_, _, _, IsRange.new ..⟩ (S.kept ⟨⟨_, _, rfl, fun _ _ e => Heap.get?_push_of_some _ e⟩, by show s.toks ≤ s.toks + 1 + 1; omega⟩))
theorem size_rng {n : Nat} : Builtin.Range.rangeSize 0 (n : Int) 1 = (n : Int) := by
  rw [rangeSize_one]; split <;> omega
theorem iter_rng {r : Addr} {n : Nat} {Q : Value → Shared → Prop} (hn : n < 2 ^ 60) (hr : Rng s.heap r (n : Int))
    (h : ∀ s₂ : Shared, s₂ = { s with heap := s.heap.push { cls := .type "range_iterator", data := .fields #[rawInt 0, rawInt (n : Int), rawInt 1] } } → IsRangeIter s₂.heap s.heap.objs.size (0 + (0 : Nat) * 1) ((n : Int) - (0 : Nat)) 1 → Q (.ref s.heap.objs.size) s₂) :
    wpAny (model prog w) A (pyIter (.ref r)) Q E s := by
  obtain ⟨t, u, v, e⟩ := hr
  refine wpAny_pyIter_range e (small_one (by omega) (by omega) (by omega) (by omega)) ?_
  rw [size_rng]
  refine h _ rfl ?_
  have e2 : (s.heap.push { cls := .type "range_iterator", data := .fields #[rawInt 0, rawInt (n : Int), rawInt 1] }).get? s.heap.objs.size = some { cls := .type "range_iterator", data := .fields #[rawInt 0, rawInt (n : Int), rawInt 1] } := Heap.get?_push_size _ rfl
  show IsRangeIter _ _ (0 + ((0 : Nat) : Int) * 1) ((n : Int) - ((0 : Nat) : Int)) 1
  rw [show (0 : Int) + ((0 : Nat) : Int) * 1 = 0 by omega, show (n : Int) - ((0 : Nat) : Int) = n by omega]
  exact e2
theorem fresh_size (s : Shared) : s.heap.get? s.heap.objs.size = none := by
  cases e : s.heap.get? s.heap.objs.size with
  | none => rfl
  | some o' => exact absurd (Heap.lt_size e) (Nat.lt_irrefl _)
theorem iter_rangeF {r : Addr} {n : Nat} (hh : A.handled = none) (hn : n < 2 ^ 60) (hr : Rng s.heap r (n : Int)) : wpAny (model prog w) A (pyIter (.ref r)) (Iter prog w A n (fun i v => ∃ t, v = .int (i : Int) t) s) E s := by
  refine iter_rng hn hr fun s₂ e st => ?_
  subst e
  have W := Walks.range (prog := prog) (w := w) (A := A) hh s.heap.objs.size 0 1 n
  have e2 : (fun (i : Nat) (v : Value) => ∃ t, v = .int (0 + (i : Int) * 1) t) = (fun (i : Nat) (v : Value) => ∃ t, v = .int (i : Int) t) := by funext i v; rw [Int.zero_add, Int.mul_one]
  rw [e2] at W
  exact ⟨_, _, _, rfl, W, st, fun b hb => by rw [List.mem_singleton.mp hb]; show _ < (s.heap.push _).objs.size; rw [Heap.size_push]; exact Nat.lt_succ_self _, fresh_size s, kp_heap fun _ _ e => Heap.get?_push_of_some _ e⟩

theorem frees_ok {scope sp : Scope} {k : Nat} (h : (scope.names.all fun p => p.2 != .free || sp.names.lookup p.1 == some .cell) = true) : ∀ p ∈ scope.names, p.2 = .free → ((cellsFrom k sp.names []).lookup p.1).isSome = true := fun p hp hf => by
  have h1 := List.all_eq_true.mp h p hp
  rw [hf] at h1
  simp only [bne_self_eq_false, Bool.false_or, beq_iff_eq] at h1
  exact cellsFrom_some _ _ _ (.inl h1)
/-! loops -/
theorem Fact.At.ne_iter {f : Fact} {h : Heap} {I : Addr} {a b c : Int} (x : f.At h) (n : IsRangeIter h I a b c) : f.a ≠ I := by
  intro e
  obtain ⟨o, h1, _, k, h3⟩ := x
  rw [e, n] at h1
  cases h1
  cases h3
theorem Sit.but (S : Sit mg mb sp s₀ env m cm fs s) {I : Addr} {h' : Heap} {tk : Nat} (hl : env.locals ≠ I) (hc : ∀ n c, env.cells.lookup n = some c → c ≠ I) (h0 : s₀.heap.get? I = none) (hf : ∀ f ∈ fs, f.a ≠ I)
    (hk : ∀ b o, b ≠ I → s.heap.get? b = some o → h'.get? b = some o) (ht : s.toks ≤ tk) : Sit mg mb sp s₀ env m cm fs { s with heap := h', toks := tk } := by
  refine ⟨let ⟨h, _, e⟩ := S.same; ⟨h', tk, by rw [e]⟩, Nat.le_trans S.tk ht, fun b o e => hk b o (fun q => by rw [q, h0] at e; cases e) (S.keep b o e), S.ns.at' fun o e => hk _ o hl e, fun n c hcl => ?_, S.base, fun f hm => ?_, S.glob, S.blt, S.kind, S.scp⟩
  · obtain ⟨o, ho, hd⟩ := S.cell n c hcl
    exact ⟨o, hk _ o (hc n c hcl) ho, hd⟩
  · obtain ⟨o, ho, hd⟩ := S.facts f hm
    exact ⟨o, hk _ o (hf f hm) ho, hd⟩
theorem Sit.stK (S : Sit mg mb sp s₀ env m cm fs s) (O : Own s₀ env) {x : Str} {v : Value} {Q : Unit → Shared → Prop} (hl : sp.names.lookup x = some .local)
    (h : ∀ s', s.toks < s'.toks → (∀ b o, b ≠ env.locals → s.heap.get? b = some o → s'.heap.get? b = some o) → Sit mg mb sp s₀ env (fun y => if y = x then some v else m y) cm fs s' → Q () s') : wpAny (model prog w) A (storeName env x v) Q E s := by
  refine wpAny_storeName_local (S.kindOf hl) S.ns (fun h' hn' hs' => h _ (Nat.lt_succ_self _) (fun b o hb e => hs'.extBut b o hb e) ⟨?_, Nat.le_succ_of_le S.tk, fun b o e => ?_, hn', fun k c hc => ?_, S.base, fun f hf => ?_, S.glob, S.blt, S.kind, S.scp⟩) (by rw [S.kind]; rfl)
  · obtain ⟨h₁, tk, rfl⟩ := S.same
    exact ⟨h', _, rfl⟩
  · exact hs'.extBut b o (fun q => by rw [q, O.fresh] at e; cases e) (S.keep b o e)
  · exact (S.cell k c hc).sameBut hs' (Ne.symm (O.above k c hc).1)
  · exact (S.facts f hf).sameBut hs' ((S.facts f hf).ne_ns S.ns)
/-- what stands, but for the frame's own places and some more -/
def ownAt (env : Env) : List Addr := env.locals :: (env.cells.filter fun p => env.cells.lookup p.1 == some p.2).map (·.2)
theorem ownAt_cell {env : Env} {n : Str} {c : Addr} (h : env.cells.lookup n = some c) : c ∈ ownAt env :=
  List.mem_cons_of_mem _ (List.mem_map.mpr ⟨(n, c), List.mem_filter.mpr ⟨PySem.mem_of_lookup h, by simp [h]⟩, rfl⟩)
theorem of_ownAt {env : Env} {b : Addr} (h : b ∈ ownAt env) : b = env.locals ∨ ∃ n, env.cells.lookup n = some b := by
  rcases List.mem_cons.mp h with h | h
  · exact .inl h
  · obtain ⟨⟨n, c⟩, hm, rfl⟩ := List.mem_map.mp h
    exact .inr ⟨n, by simpa using (List.mem_filter.mp hm).2⟩
def base' (env : Env) (hid : List Addr) (s : Shared) : Shared := { s with heap := hideAll s.heap (ownAt env ++ hid) }
theorem Sit.rebase (S : Sit mg mb sp s₀ env m cm fs s) (O : Own s₀ env) {hid : List Addr} (hh : ∀ a ∈ hid, s₀.heap.get? a = none) :
    Own (base' env hid s) env ∧ Gr s₀.heap (base' env hid s).heap ∧ Sit mg mb sp (base' env hid s) env m cm fs s := by
  have notin : ∀ b o, s₀.heap.get? b = some o → b ∉ ownAt env ++ hid := fun b o e hm => by
    rcases List.mem_append.mp hm with hm | hm
    · rcases of_ownAt hm with rfl | ⟨n, hn⟩
      · rw [O.fresh] at e; cases e
      · rw [(O.above n b hn).2] at e; cases e
    · rw [hh b hm] at e; cases e
  have g : Gr s₀.heap (base' env hid s).heap := fun b o e => hideAll_get _ (S.keep b o e) (notin b o e)
  exact ⟨⟨hideAll_none _ (List.mem_append_left _ (.head _)), O.apart, fun n c hm => ⟨(O.above n c hm).1, hideAll_none _ (List.mem_append_left _ (ownAt_cell hm))⟩⟩, g,
    ⟨⟨s.heap, s.toks, rfl⟩, Nat.le_refl _, fun b o e => of_hideAll _ e, S.ns, S.cell, S.base.keeps g, S.facts, S.glob, S.blt, S.kind, S.scp⟩⟩
theorem Sit.debase {sb : Shared} (S : Sit mg mb sp s₀ env m cm fs s) (g : Gr s₀.heap sb.heap) (e : ∃ h tk, sb = { s₀ with heap := h, toks := tk }) (ht : s₀.toks ≤ sb.toks) {m' cm' : Str → Option Value} {fs' : List Fact} {s' : Shared} (S' : Sit mg mb sp sb env m' cm' fs' s') : Sit mg mb sp s₀ env m' cm' fs' s' := by
  obtain ⟨h, tk, rfl⟩ := e
  obtain ⟨h2, tk2, e2⟩ := S'.same
  exact ⟨⟨h2, tk2, e2⟩, Nat.le_trans ht S'.tk, fun b o e => S'.keep b o (g b o e), S'.ns, S'.cell, S.base, S'.facts, S.glob, S.blt, S.kind, S.scp⟩
/-- an iterator for a loop: new, apart from what the body may change -/
def IterL (prog : Program) (w : World) (A : Around) (env : Env) (hidden : List Addr) (target : Expr) (n : Nat) (P : Nat → Value → Prop) (s₁ : Shared) (it : Value) (s₂ : Shared) : Prop :=
  ∃ I fp St, it = .ref I ∧ Walks prog w A I fp [I] n P St ∧ St 0 s₂.heap ∧ s₁.heap.get? I = none ∧ Kp s₁ s₂ ∧ (∀ b ∈ fp, b ≠ I → b ∉ ownAt env ++ hidden) ∧ (∀ i h (f : Fact), St i h → f.At h → f.a ≠ I) ∧
    ∀ i (s : Shared) v (Q : Unit → Shared → Prop) (E : Value → Shared → Prop), St i s.heap → Q () s → wpAny (model prog w) A (letOwnedTupleGo target (.ref I) v) Q E s
theorem Sit.forT {K : Nat → (Str → Option Value) → (Str → Option Value) → List Fact → Shared → Prop} {target : Expr} {body : List Stmt} {Q : Flow → Shared → Prop} {xv : Value} {s₁ : Shared} {m₁ cm₁ : Str → Option Value} {fs₁ : List Fact} (O : Own s₀ env) (hidden : List Addr) (hid0 : ∀ a ∈ hidden, s₀.heap.get? a = none)
    (hmono : ∀ i m cm fs s s', K i m cm fs s → s.toks ≤ s'.toks → (∀ a ∈ hidden, ∀ o, s.heap.get? a = some o → s'.heap.get? a = some o) → K i m cm fs s')
    (S₁ : Sit mg mb sp s₀ env m₁ cm₁ fs₁ s₁) (hex : ∀ a ∈ hidden, ∃ o, s₁.heap.get? a = some o) (hK0 : K 0 m₁ cm₁ fs₁ s₁)
    (hpi : wpAny (model prog w) A (pyIter xv) (IterL prog w A env hidden target n P s₁) (fun _ _ => False) s₁)
    (hbody : ∀ sb i v s₂ m' cm' fs', i < n → P i v → K i m' cm' fs' s₂ → Own sb env → (∀ a ∈ hidden, sb.heap.get? a = none) → Sit mg mb sp sb env m' cm' fs' s₂ →
      wpAny (model prog w) A (assign target env v) (fun _ s₃ => wpAny (model prog w) A (execs body env) (fun f s₃ => f = .next ∧ ∃ m'' cm'' fs'', Sit mg mb sp sb env m'' cm'' fs'' s₃ ∧ K (i + 1) m'' cm'' fs'' s₃) (fun _ _ => False) s₃) (fun _ _ => False) s₂)
    (h : ∀ s' m' cm' fs', Sit mg mb sp s₀ env m' cm' fs' s' → K n m' cm' fs' s' → Q .next s') :
    wpAny (model prog w) A (pyIter xv) (fun it s₂ => codeAny (model prog w) A (.forLoop target it body [] env) (fun r s' => match r with | .ok f => Q f s' | .error e => cameBackBy (model prog w) A env E e s') s₂) E s₁ := by
  refine wpAny_mono hpi (fun it s₂ h₂ => ?_) fun _ _ e => e.elim
  obtain ⟨I, fp, St, rfl, W, st, hI0', k₂, hfp, hne, hgo⟩ := h₂
  have S₂ : Sit mg mb sp s₀ env m₁ cm₁ fs₁ s₂ := S₁.kept k₂
  have nI : ∀ b o, s₁.heap.get? b = some o → b ≠ I := fun b o e q => by rw [q, hI0'] at e; cases e
  have hIl : env.locals ≠ I := by obtain ⟨o, _, _, ho, _⟩ := S₁.ns; exact nI _ o ho
  have hIc : ∀ n c, env.cells.lookup n = some c → c ≠ I := fun n c hc => by obtain ⟨o, ho, _⟩ := S₁.cell n c hc; exact nI _ o ho
  have hIh : ∀ a ∈ hidden, a ≠ I := fun a ha => by obtain ⟨o, ho⟩ := hex a ha; exact nI _ o ho
  have hI0 : s₀.heap.get? I = none := by
    cases q : s₀.heap.get? I with
    | none => rfl
    | some o => exact absurd rfl (nI _ o (S₁.keep _ _ q))
  have hInot : ∀ b ∈ fp, b ∉ ownAt env ++ hidden := fun b hb => by
    by_cases hbI : b = I
    · subst hbI
      intro hm
      rcases List.mem_append.mp hm with hm | hm
      · rcases of_ownAt hm with h1 | ⟨n, hn⟩
        · exact hIl h1.symm
        · exact hIc n _ hn rfl
      · exact hIh _ hm rfl
    · exact hfp b hb hbI
  have hgr2 := k₂.gr
  refine codeAny_forLoop_any (fun k s' => ∃ i m' cm' fs', i ≤ n ∧ k = n + 1 - i ∧ St i s'.heap ∧ Sit mg mb sp s₀ env m' cm' fs' s' ∧ K i m' cm' fs' s') ?_ (n + 1)
    ⟨0, m₁, cm₁, fs₁, Nat.zero_le _, rfl, st, S₂, hmono _ _ _ _ _ _ hK0 k₂.2 fun a _ o e => hgr2 a o e⟩
  rintro k s' ⟨i, m', cm', fs', hi, rfl, hst, S', hK⟩
  have hfI : ∀ f ∈ fs', f.a ≠ I := fun f hf => hne i _ f hst (S'.facts f hf)
  by_cases hlt : i < n
  · refine wpAny_mono (wpAny_toks (W.item i s' (fun r s₁ => match r with
        | none => False
        | some v => ∃ h₁ tk₁, s₁ = { s' with heap := h₁, toks := tk₁ } ∧ P i v ∧ St (i + 1) h₁ ∧ ∀ b o, b ∉ [I] → s'.heap.get? b = some o → h₁.get? b = some o) (fun _ _ => False) hlt hst
        fun v h₁ tk₁ hPv hst₁ hk₁ => ⟨h₁, tk₁, rfl, hPv, hst₁, hk₁⟩)) (fun r s₁ q => ?_) fun _ _ q => q.2.elim
    obtain ⟨hle, q⟩ := q
    cases r with
    | none => exact q.elim
    | some v =>
    obtain ⟨h₁, tk₁, rfl, hPv, hst₁, hk₁⟩ := q
    have Sa : Sit mg mb sp s₀ env m' cm' fs' { s' with heap := h₁, toks := tk₁ } := S'.but hIl hIc hI0 hfI (fun b o hb => hk₁ b o (by simpa using hb)) hle
    refine hgo (i + 1) _ v _ _ hst₁ ?_
    obtain ⟨Ob, gb, Sb⟩ := Sa.rebase O hid0 (hid := hidden)
    have hstb : St (i + 1) (base' env hidden { s' with heap := h₁, toks := tk₁ }).heap := W.frame _ _ _ hst₁ fun b hb o e => hideAll_get _ e (hInot b hb)
    refine wpAny_mono (hbody _ i v _ m' cm' fs' hlt hPv (hmono _ _ _ _ _ _ hK hle fun a ha o e => hk₁ a o (by simpa using hIh a ha) e) Ob (fun a ha => hideAll_none _ (List.mem_append_right _ ha)) Sb) (fun _ s₃ q => wpAny_mono q (fun f s₄ q => ?_) fun _ _ q => q.elim) fun _ _ q => q.elim
    obtain ⟨rfl, m3, cm3, fs3, S₃, hK₃⟩ := q
    exact ⟨n + 1 - (i + 1), by omega, i + 1, m3, cm3, fs3, hlt, rfl, W.frame _ _ _ hstb fun b _ o e => S₃.keep b o e, Sa.debase gb (let ⟨h, tk, e⟩ := Sa.same; ⟨_, _, by unfold base'; rw [e]⟩) Sa.tk S₃, hK₃⟩
  · have hin : i = n := by omega
    subst hin
    refine wpAny_mono (wpAny_toks (W.done s' (fun r s₁ => r = none ∧ ∃ h₁ tk₁, s₁ = { s' with heap := h₁, toks := tk₁ } ∧ ∀ b o, b ∉ [I] → s'.heap.get? b = some o → h₁.get? b = some o) (fun _ _ => False) hst fun h₁ tk₁ hk₁ => ⟨rfl, h₁, tk₁, rfl, hk₁⟩)) (fun r s₁ q => ?_) fun _ _ q => q.2.elim
    obtain ⟨hle, rfl, h₁, tk₁, rfl, hk₁⟩ := q
    exact wpAny_execs_nil (h _ m' cm' fs' (S'.but hIl hIc hI0 hfI (fun b o hb => hk₁ b o (by simpa using hb)) hle) (hmono _ _ _ _ _ _ hK hle fun a ha o e => hk₁ a o (by simpa using hIh a ha) e))
theorem Sit.forG {K : Nat → (Str → Option Value) → (Str → Option Value) → List Fact → Shared → Prop} {target : Expr} {body : List Stmt} {Q : Flow → Shared → Prop} (O : Own s₀ env) (hidden : List Addr) (hid0 : ∀ a ∈ hidden, s₀.heap.get? a = none)
    (hmono : ∀ i m cm fs s s', K i m cm fs s → s.toks ≤ s'.toks → (∀ a ∈ hidden, ∀ o, s.heap.get? a = some o → s'.heap.get? a = some o) → K i m cm fs s')
    (hit : wpAny (model prog w) A (eval iter env) (fun xv s₁ => ∃ m₁ cm₁ fs₁, Sit mg mb sp s₀ env m₁ cm₁ fs₁ s₁ ∧ (∀ a ∈ hidden, ∃ o, s₁.heap.get? a = some o) ∧ K 0 m₁ cm₁ fs₁ s₁ ∧
      wpAny (model prog w) A (pyIter xv) (IterL prog w A env hidden target n P s₁) (fun _ _ => False) s₁) (fun _ _ => False) s)
    (hbody : ∀ sb i v s₂ m' cm' fs', i < n → P i v → K i m' cm' fs' s₂ → Own sb env → (∀ a ∈ hidden, sb.heap.get? a = none) → Sit mg mb sp sb env m' cm' fs' s₂ →
      wpAny (model prog w) A (assign target env v) (fun _ s₃ => wpAny (model prog w) A (execs body env) (fun f s₃ => f = .next ∧ ∃ m'' cm'' fs'', Sit mg mb sp sb env m'' cm'' fs'' s₃ ∧ K (i + 1) m'' cm'' fs'' s₃) (fun _ _ => False) s₃) (fun _ _ => False) s₂)
    (h : ∀ s' m' cm' fs', Sit mg mb sp s₀ env m' cm' fs' s' → K n m' cm' fs' s' → Q .next s')
    (hs : ∀ x, foldedSetIterable iter env x = pure x := by intro _; rfl) :
    wpAny (model prog w) A (exec (.For target iter body [] pos) env) Q E s := by
  refine wpAny_For (wpAny_mono hit (fun xv s₁ h₁ => ?_) fun _ _ e => e.elim) hs
  obtain ⟨m₁, cm₁, fs₁, S₁, hex, hK0, hpi⟩ := h₁
  exact Sit.forT O hidden hid0 hmono S₁ hex hK0 hpi hbody h
theorem iterL_range {r : Addr} {n : Nat} {hidden : List Addr} {x : Str} {px : Pos} (hh : A.handled = none) (hn : n < 2 ^ 60) (hr : Rng s.heap r (n : Int)) : wpAny (model prog w) A (pyIter (.ref r)) (IterL prog w A env hidden (.Name x px) n (fun i v => ∃ t, v = .int (i : Int) t) s) E s := by
  refine iter_rng hn hr fun s₂ e st => ?_
  subst e
  have W := Walks.range (prog := prog) (w := w) (A := A) hh s.heap.objs.size 0 1 n
  have e2 : (fun (i : Nat) (v : Value) => ∃ t, v = .int (0 + (i : Int) * 1) t) = (fun (i : Nat) (v : Value) => ∃ t, v = .int (i : Int) t) := by funext i v; rw [Int.zero_add, Int.mul_one]
  rw [e2] at W
  exact ⟨_, _, _, rfl, W, st, fresh_size s, kp_heap fun _ _ e => Heap.get?_push_of_some _ e, fun b hb hn => absurd (List.mem_singleton.mp hb) hn, fun i h f q y => y.ne_iter q, fun i s v Q E _ q => wpAny_of_eq (a := ()) rfl q⟩
/-- for x in range(n) -/
theorem Sit.forR {K : Nat → (Str → Option Value) → (Str → Option Value) → List Fact → Shared → Prop} {body : List Stmt} {Q : Flow → Shared → Prop} (O : Own s₀ env) (hidden : List Addr) (hid0 : ∀ a ∈ hidden, s₀.heap.get? a = none)
    (hA : A.handled = none) (hx : sp.names.lookup x = some .local) (hn : n < 2 ^ 60) (hmono : ∀ i m cm fs s s', K i m cm fs s → s.toks ≤ s'.toks → (∀ a ∈ hidden, ∀ o, s.heap.get? a = some o → s'.heap.get? a = some o) → K i m cm fs s')
    (hit : wpAny (model prog w) A (eval iter env) (fun xv s₁ => ∃ r m₁ cm₁ fs₁, xv = .ref r ∧ Sit mg mb sp s₀ env m₁ cm₁ fs₁ s₁ ∧ Rng s₁.heap r (n : Int) ∧ (∀ a ∈ hidden, ∃ o, s₁.heap.get? a = some o) ∧ K 0 m₁ cm₁ fs₁ s₁) (fun _ _ => False) s)
    (hbody : ∀ sb i t s₂ m' cm' fs', i < n → Own sb env → (∀ a ∈ hidden, sb.heap.get? a = none) → (∃ s₁, K i m' cm' fs' s₁ ∧ s₁.toks ≤ s₂.toks ∧ (∀ b o, b ≠ env.locals → s₁.heap.get? b = some o → s₂.heap.get? b = some o)) → Sit mg mb sp sb env (fun y => if y = x then some (.int (i : Int) t) else m' y) cm' fs' s₂ →
      wpAny (model prog w) A (execs body env) (fun f s₃ => f = .next ∧ ∃ m'' cm'' fs'', Sit mg mb sp sb env m'' cm'' fs'' s₃ ∧ K (i + 1) m'' cm'' fs'' s₃) (fun _ _ => False) s₂)
    (h : ∀ s' m' cm' fs', Sit mg mb sp s₀ env m' cm' fs' s' → K n m' cm' fs' s' → Q .next s')
    (hs : ∀ x, foldedSetIterable iter env x = pure x := by intro _; rfl) :
    wpAny (model prog w) A (exec (.For (.Name x px) iter body [] pos) env) Q E s := by
  refine Sit.forG (n := n) (P := fun i v => ∃ t, v = .int (i : Int) t) (K := K) O hidden hid0 hmono ?_ ?_ h hs
  · refine wpAny_mono hit (fun xv s₁ q => ?_) fun _ _ e => e
    obtain ⟨r, m₁, cm₁, fs₁, rfl, S₁, hr, hex, hK⟩ := q
    exact ⟨m₁, cm₁, fs₁, S₁, hex, hK, iterL_range hA hn hr⟩
  · rintro sb i v s₂ m' cm' fs' hi ⟨t, rfl⟩ hK Ob hid Sb
    exact wpAny_assign_Name (Sb.stK Ob hx fun s₃ ht hk S₃ => hbody sb i t s₃ m' cm' fs' hi Ob hid ⟨s₂, hK, Nat.le_of_lt ht, hk⟩ S₃)
end

/-! medians as numbers -/
def srt (xs : List Nat) : List Nat := xs.mergeSort fun a b => decide (a ≤ b)
def lowM (xs : List Nat) : Nat := (srt xs).getD ((xs.length - 1) / 2) 0
def highM (xs : List Nat) : Nat := (srt xs).getD (xs.length / 2) 0
theorem srt_perm (xs : List Nat) : (srt xs).Perm xs := List.mergeSort_perm ..
theorem srt_pair (xs : List Nat) : (srt xs).Pairwise (· ≤ ·) := by
  have := List.pairwise_mergeSort (le := fun a b : Nat => decide (a ≤ b)) (by intro a b c h1 h2; simp at *; omega) (by intro a b; simp; omega) xs
  exact this.imp fun h => of_decide_eq_true h
theorem eq_srt {ns ns' : List Nat} (hp : ns'.Perm ns) (hw : ns'.Pairwise (· ≤ ·)) : ns' = srt ns :=
  List.Perm.eq_of_pairwise (fun _ _ _ _ => Nat.le_antisymm) hw (srt_pair ns) (hp.trans (srt_perm ns).symm)
theorem low_of {ns ns' : List Nat} {n : Nat} (hp : ns'.Perm ns) (hw : ns'.Pairwise (· ≤ ·)) (h : ns'[(ns.length - 1) / 2]? = some n) : n = lowM ns := by
  rw [eq_srt hp hw] at h
  unfold lowM
  rw [List.getD_eq_getElem?_getD, h]; rfl
theorem high_of {ns ns' : List Nat} {n : Nat} (hp : ns'.Perm ns) (hw : ns'.Pairwise (· ≤ ·)) (h : ns'[ns.length / 2]? = some n) : n = highM ns := by
  rw [eq_srt hp hw] at h
  unfold highM
  rw [List.getD_eq_getElem?_getD, h]; rfl
theorem widen_length (ns : List Nat) : (widen ns).length = ns.length + 4 := by simp [widen]
/-- running medians -/
def win (ns : List Nat) (k j : Nat) : List Nat := ((widen ns).drop j).take k
def medsN (ns : List Nat) : List Nat := (List.range ns.length).map fun j => lowM (win ns 5 j)
theorem range_map_succ {α : Type} (f : Nat → α) (i : Nat) : (List.range (i + 1)).map f = (List.range i).map f ++ [f i] := by rw [List.range_succ, List.map_append]; rfl
theorem Fls.snoc {vs : List Value} {ns : List Nat} {n : Nat} {t : Tok} (h : Fls vs ns) (hn : n < 2 ^ 53) : Fls (vs ++ [.float (fl n) t]) (ns ++ [n]) := h.append (.cons n t hn .nil)
section
variable {prog : Program} {w : World} {A : Around} {E : Value → Shared → Prop} {mg mb : Str → Option Value} {s : Shared} {Q : Value → Shared → Prop} {f : Addr}
set_option maxHeartbeats 4000000 in
theorem medians_spec {l : Addr} {vs : List Value} {ns : List Nat} (B : Base mg mb s.heap) (F : FnOk mg s.heap 14 f) (R : Rm A 2) (hl : Fact.At ⟨l, false, vs⟩ s.heap) (hf : Fls vs ns) (h0 : 0 < ns.length) (h64 : ns.length < 64)
    (h : ∀ (s' : Shared) (a : Addr) (vs' : List Value), Kp s s' → Fls vs' (medsN ns) → (∀ v ∈ vs', v ∈ vs) → Fact.At ⟨a, false, vs'⟩ s'.heap → Q (.ref a) s') :
    wpAny (model prog w) A (call (.ref f) [.ref l]) Q E s := by
  refine enter 14 ["row"] (fs := [⟨l, false, vs⟩]) B F R.depth rfl (fun _ _ _ => rfl) (by decide +kernel) (by decide +kernel) (fun g hg => by rw [List.mem_singleton.mp hg]; exact hl) ?_
  intro env s₁ hcl O S
  obtain ⟨esc, L, eg, ec, eq, ef, eco, efr, eb⟩ := env
  obtain rfl : ec = cellsFrom (L + 1) (sc 14).names [] := hcl
  obtain rfl : esc = sc 14 := S.scp
  have hh : (A.deeper ⟨sc 14, L, eg, cellsFrom (L + 1) (sc 14).names [], eq, ef, eco, efr, eb⟩).handled = none := R.1
  have R1 : Rm (A.deeper ⟨sc 14, L, eg, cellsFrom (L + 1) (sc 14).names [], eq, ef, eco, efr, eb⟩) 1 := R.deeper
  have hlen := hf.length
  refine wpAny_execs_cons ?_
  repeat walk_at "m go"
  refine wide_spec (Sit.here (by assumption)) (FnOk.keeps (by assumption) (Sit.keep (by assumption))) R1 (Sit.facts (by assumption) _ (.head _)) hf h0 h64 (fun s2 aw vw k hfw hmw ftw => ?_)
  have S2 := (Sit.kept (by assumption) k).more ftw
  clear k
  repeat walk_at "m go"
  have hlw : vw.length = ns.length + 4 := hfw.length.trans (widen_length ns)
  refine Sit.comp (by assumption) [⟨aw, false, vw⟩, ⟨l, false, vs⟩] (n := ns.length) (P := fun i v => ∃ t, v = .int (i : Int) t) (J := fun i ys _ => Fls ys ((List.range i).map fun j => lowM (win ns 5 j)) ∧ ∀ y ∈ ys, y ∈ vs)
    (frees_ok (by decide +kernel)) (by rw [sizeLine_eq]; omega) (by decide +kernel) rfl (by decide +kernel) (by decide +kernel) (fun _ _ _ _ q _ => q) ?hit ?helt ?hfin
  case hit =>
    repeat walk_at "m go"
    rw [hlen]
    refine Sit.range (by assumption) (fun a9 s9 _ hr9 S9 => ?_)
    exact ⟨S9, iter_rangeF hh (by omega) hr9, .nil, fun _ q => nomatch q⟩
  case hfin =>
    intro D s' ys SD _ hJ _
    exact h _ _ ys SD.done hJ.1 hJ.2 (SD.facts _ (.head _))
  case helt =>
    intro C i v s₃ m₃ ys hi hv hm SC hJ
    obtain ⟨t, rfl⟩ := hv
    repeat walk_at "m go"
    refine sliceL ?_
    repeat walk_at "m go"
    refine ⟨aw, vw, some (i : Int), some ((i : Int) + 5), rfl, Sit.list (by assumption) (.head _), by rw [sizeLine_eq]; omega, .int _ _, .int _ _, fun a s4 k ft => ?_⟩
    rw [show ((i : Int) + 5) = ((i + 5 : Nat) : Int) by omega, pick_run' vw i (i + 5) (by omega) (by omega), show i + 5 - i = 5 by omega] at ft
    have S4 := (Sit.kept (by assumption) k).more ft
    repeat walk_at "m go"
    have hw5 : Fls ((vw.drop i).take 5) (win ns 5 i) := (hfw.drop i).take 5
    have hlen5 : (win ns 5 i).length = 5 := by rw [← hw5.length, List.length_take, List.length_drop]; omega
    refine low_spec (Sit.here (by assumption)) (FnOk.keeps (by assumption) (Sit.keep (by assumption))) R1 (Sit.facts (by assumption) _ (.head _)) hw5 (by omega) (by omega) (fun s5 n t5 ns' k5 hp hw hat hn53 hmem => ?_)
    refine ⟨(Sit.kept (by assumption) k5).done, ?_, ?_⟩
    · rw [range_map_succ, ← low_of hp hw hat]
      exact hJ.1.snoc hn53
    · intro y hy
      rcases List.mem_append.mp hy with hy | hy
      · exact hJ.2 y hy
      · rw [List.mem_singleton.mp hy]
        exact hmw _ (List.mem_of_mem_drop (List.mem_of_mem_take hmem))
end

/-! tokens, as a row is made -/
def TkE (g : Tok → Nat) (k k' : Nat) (ys : List Value) : Prop := ∃ g' : Tok → Nat, (∀ t, t < k → g' t = g t) ∧ ∀ v ∈ ys, Tk g' k' v
theorem TkE.nil {g : Tok → Nat} {k k' : Nat} : TkE g k k' [] := ⟨g, fun _ _ => rfl, fun _ q => nomatch q⟩
theorem TkE.mono {g : Tok → Nat} {k k' k'' : Nat} {ys : List Value} (h : TkE g k k' ys) (hk : k' ≤ k'') : TkE g k k'' ys := let ⟨g', e, q⟩ := h; ⟨g', e, fun v hv => (q v hv).mono hk⟩
theorem TkE.old {g : Tok → Nat} {k k' k'' : Nat} {ys : List Value} {y : Value} (h : TkE g k k' ys) (hy : Tk g k y) (h1 : k ≤ k') (h2 : k' ≤ k'') : TkE g k k'' (ys ++ [y]) := by
  obtain ⟨g', e, q⟩ := h
  refine ⟨g', e, fun v hv => ?_⟩
  rcases List.mem_append.mp hv with hv | hv
  · exact (q v hv).mono h2
  · rw [List.mem_singleton.mp hv]; exact hy.ext (Nat.le_trans h1 h2) e
theorem TkE.new {g : Tok → Nat} {k k' k'' n t : Nat} {ys : List Value} (h : TkE g k k' ys) (hn : n < 2 ^ 53) (h0 : 1 ≤ k') (h1 : k ≤ k') (ht : k' ≤ t) (h2 : t < k'') : TkE g k k'' (ys ++ [.float (fl n) t]) := by
  obtain ⟨g', e, q⟩ := h
  refine ⟨fun u => if u = t then n else g' u, fun u hu => ?_, fun v hv => ?_⟩
  · show (if u = t then n else g' u) = g u
    rw [if_neg (by omega)]; exact e u hu
  · rcases List.mem_append.mp hv with hv | hv
    · refine (q v hv).ext (by omega) fun u hu => ?_
      show (if u = t then n else g' u) = g' u
      rw [if_neg (by omega)]
    · rw [List.mem_singleton.mp hv]
      exact ⟨n, t, rfl, hn, by show (if t = t then n else g' t) = n; rw [if_pos rfl], Nat.le_trans h0 ht, h2⟩
/-! a pass -/
def Ev (n : Nat) : Prop := n ≤ 2 ^ 21 ∧ n % 2 = 0
def e3 (d : Int) (a b c : Nat) : Nat := if d = 0 then min (min a b) c else max (max a b) c
theorem e3_ev {d : Int} {a b c : Nat} (ha : Ev a) (hb : Ev b) (hc : Ev c) : Ev (e3 d a b c) := by
  obtain ⟨a1, a2⟩ := ha
  obtain ⟨b1, b2⟩ := hb
  obtain ⟨c1, c2⟩ := hc
  unfold e3 Ev
  split <;> omega
def slide (d : Int) (ns : List Nat) (n : Nat) : List Nat := (List.range n).map fun j => e3 d (ns.getD j 0) (ns.getD (j + 1) 0) (ns.getD (j + 2) 0)
def passN (ns : List Nat) (d : Int) : List Nat := slide (1 - d) (slide d (widen ns) (ns.length + 2)) ns.length
theorem slide_length (d : Int) (ns : List Nat) (n : Nat) : (slide d ns n).length = n := by simp [slide]
theorem passN_length (ns : List Nat) (d : Int) : (passN ns d).length = ns.length := slide_length ..
theorem getD_ev {ns : List Nat} (h : ∀ n ∈ ns, Ev n) (j : Nat) : Ev (ns.getD j 0) := by
  rw [List.getD_eq_getElem?_getD]
  cases e : ns[j]? with
  | none => exact ⟨by decide, rfl⟩
  | some n => exact h n (List.mem_of_getElem? e)
theorem slide_ev {d : Int} {ns : List Nat} {n : Nat} (h : ∀ n ∈ ns, Ev n) : ∀ m ∈ slide d ns n, Ev m := fun m hm => by
  obtain ⟨j, _, rfl⟩ := List.mem_map.mp hm
  exact e3_ev (getD_ev h _) (getD_ev h _) (getD_ev h _)
theorem widen_ev {ns : List Nat} (h : ∀ n ∈ ns, Ev n) : ∀ m ∈ widen ns, Ev m := by
  have h0 : Ev (ns.headD 0) := by
    cases ns with
    | nil => exact ⟨by decide, rfl⟩
    | cons a r => exact h a (.head _)
  have h1 : Ev (ns.getLastD 0) := by
    rw [List.getLastD_eq_getLast?]
    cases e : ns.getLast? with
    | none => exact ⟨by decide, rfl⟩
    | some a => exact h a (List.mem_of_getLast? e)
  intro m hm
  unfold widen at hm
  simp only [List.mem_append, List.mem_cons, List.not_mem_nil, or_false] at hm
  rcases hm with ((rfl | rfl) | hm) | (rfl | rfl)
  · exact h0
  · exact h0
  · exact h m hm
  · exact h1
  · exact h1
theorem passN_ev {ns : List Nat} {d : Int} (h : ∀ n ∈ ns, Ev n) : ∀ m ∈ passN ns d, Ev m := slide_ev (slide_ev (widen_ev h))
theorem slide_succ (d : Int) (ns : List Nat) (n : Nat) : slide d ns (n + 1) = slide d ns n ++ [e3 d (ns.getD n 0) (ns.getD (n + 1) 0) (ns.getD (n + 2) 0)] := range_map_succ _ n
theorem getD_of {ns : List Nat} {j n : Nat} (h : ns[j]? = some n) : ns.getD j 0 = n := by rw [List.getD_eq_getElem?_getD, h]; rfl
theorem Ev.lt {n : Nat} (h : Ev n) : n < 2 ^ 53 := by have := h.1; omega
section
variable {prog : Program} {w : World} {A : Around} {E : Value → Shared → Prop} {mg mb : Str → Option Value} {s : Shared} {Q : Value → Shared → Prop} {f : Addr}
set_option maxHeartbeats 4000000 in
theorem pass_spec {l : Addr} {vs : List Value} {ns : List Nat} {d : Int} {z : Tok} {g : Tok → Nat} {k : Nat} (B : Base mg mb s.heap) (F : FnOk mg s.heap 13 f) (R : Rm A 4) (hl : Fact.At ⟨l, false, vs⟩ s.heap) (hf : Fls vs ns) (h0 : 0 < ns.length) (h64 : ns.length < 60)
    (hev : ∀ n ∈ ns, Ev n) (htk : ∀ v ∈ vs, Tk g k v) (hk : k ≤ s.toks) (hk1 : 1 ≤ k)
    (h : ∀ (s' : Shared) (a : Addr) (vs' : List Value), Kp s s' → Fls vs' (passN ns d) → TkE g k s'.toks vs' → Fact.At ⟨a, false, vs'⟩ s'.heap → Q (.ref a) s') :
    wpAny (model prog w) A (call (.ref f) [.ref l, .int d z]) Q E s := by
  refine enter 13 ["row", "side"] (fs := [⟨l, false, vs⟩]) B F R.depth rfl (fun _ _ _ => rfl) (by decide +kernel) (by decide +kernel) (fun g hg => by rw [List.mem_singleton.mp hg]; exact hl) ?_
  intro env s₁ hcl O S
  obtain ⟨esc, L, eg, ec, eq, ef, eco, efr, eb⟩ := env
  obtain rfl : ec = cellsFrom (L + 1) (sc 13).names [] := hcl
  obtain rfl : esc = sc 13 := S.scp
  have hh : (A.deeper ⟨sc 13, L, eg, cellsFrom (L + 1) (sc 13).names [], eq, ef, eco, efr, eb⟩).handled = none := R.1
  have R1 : Rm (A.deeper ⟨sc 13, L, eg, cellsFrom (L + 1) (sc 13).names [], eq, ef, eco, efr, eb⟩) 3 := R.deeper
  have hlen := hf.length
  refine wpAny_execs_cons ?_
  repeat walk_at "m go"
  refine wide_spec (Sit.here (by assumption)) (FnOk.keeps (by assumption) (Sit.keep (by assumption))) (R1.le (by omega)) (Sit.facts (by assumption) _ (.head _)) hf h0 (by omega) (fun s2 aw vw k2 hfw hmw ftw => ?_)
  have S2 := (Sit.kept (by assumption) k2).more ftw
  clear k2
  have hlw : vw.length = ns.length + 4 := hfw.length.trans (widen_length ns)
  have hevw := widen_ev hev
  repeat walk_at "m go"
  refine Sit.comp (by assumption) [⟨aw, false, vw⟩, ⟨l, false, vs⟩] (n := ns.length + 2) (P := fun i v => ∃ t, v = .int (i : Int) t) (J := fun i ys k' => Fls ys (slide (d) (widen ns) i) ∧ TkE g (k) k' ys ∧ k ≤ k')
    (frees_ok (by decide +kernel)) (by rw [sizeLine_eq]; omega) (by decide +kernel) rfl (by decide +kernel) (by decide +kernel) (fun _ _ _ _ q hle => ⟨q.1, q.2.1.mono hle, Nat.le_trans q.2.2 hle⟩) ?hit ?helt ?hfin
  case hit =>
    repeat walk_at "m go"
    rw [show ((vs.length : Int) + 2) = ((ns.length + 2 : Nat) : Int) by omega]
    refine Sit.range (by assumption) (fun a9 s9 ht9 hr9 S9 => ?_)
    exact ⟨S9, iter_rangeF hh (by omega) hr9, .nil, .nil, by have := S9.tk; omega⟩
  case helt =>
    intro C i v s₃ m₃ ys hi hv hm SC hJ
    obtain ⟨t, rfl⟩ := hv
    obtain ⟨n0, t0, a1, a2, a3, a4⟩ := fls_item hfw (k := i) (by rw [← hfw.length]; omega)
    obtain ⟨n1, t1, b1, b2, b3, b4⟩ := fls_item hfw (k := i + 1) (by rw [← hfw.length]; omega)
    obtain ⟨n2, t2, c1, c2, c3, c4⟩ := fls_item hfw (k := i + 2) (by rw [← hfw.length]; omega)
    have e0 := hevw n0 (List.mem_of_getElem? a2)
    have e1 := hevw n1 (List.mem_of_getElem? b2)
    have e2 := hevw n2 (List.mem_of_getElem? c2)
    repeat walk_at "m go"
    refine itemL (Sit.list (by assumption) (.head _)) (by omega) (by omega) (by rw [Int.toNat_natCast]; exact a1) ?_
    repeat walk_at "m go"
    refine itemL (Sit.list (by assumption) (.head _)) (by omega) (by omega) (by rw [show ((i : Int) + 1).toNat = i + 1 by omega]; exact b1) ?_
    repeat walk_at "m go"
    refine itemL (Sit.list (by assumption) (.head _)) (by omega) (by omega) (by rw [show ((i : Int) + 2).toNat = i + 2 by omega]; exact c1) ?_
    repeat walk_at "m go"
    refine end_spec (Sit.here (by assumption)) (FnOk.keeps (by assumption) (Sit.keep (by assumption))) R1 e0.1 e1.1 e2.1 e0.2 e1.2 e2.2 (fun s5 t5 k5 hor => ?_)
    rename_i S9
    have e9 : (if d = 0 then min (min n0 n1) n2 else max (max n0 n1) n2) = e3 (d) n0 n1 n2 := rfl
    rw [e9] at hor ⊢
    have ev9 : Ev (e3 (d) n0 n1 n2) := e3_ev e0 e1 e2
    have t9 := S9.tk
    have t5' := k5.2
    refine ⟨(S9.kept k5).done, ?_, ?_, by have := hJ.2.2; omega⟩
    · rw [slide_succ, getD_of a2, getD_of b2, getD_of c2]
      exact hJ.1.snoc ev9.lt
    · rcases hor with hm5 | ⟨h5, h6⟩
      · refine hJ.2.1.old (y := .float (fl (e3 (d) n0 n1 n2)) t5) ?_ hJ.2.2 (by omega)
        simp only [List.mem_cons, List.not_mem_nil, or_false] at hm5
        rcases hm5 with q | q | q
        · rw [q]; exact (fun v hv => htk v (hmw v hv)) _ a4
        · rw [q]; exact (fun v hv => htk v (hmw v hv)) _ b4
        · rw [q]; exact (fun v hv => htk v (hmw v hv)) _ c4
      · exact (hJ.2.1.mono t9).new ev9.lt (by have := hJ.2.2; omega) (by have := hJ.2.2; omega) h5 h6
  case hfin =>
  intro ai s3 vi SI hli hJI hti
  obtain ⟨hfi, ⟨g1, hg1, htk1⟩, hk3⟩ := hJI
  have hevi := slide_ev (d := d) (n := ns.length + 2) hevw
  have hlvi : vi.length = ns.length + 2 := hli
  generalize hk1e : s3.toks = k1 at *
  repeat walk_at "m go"
  refine Sit.comp (by assumption) [⟨ai, false, vi⟩, ⟨aw, false, vw⟩, ⟨l, false, vs⟩] (n := ns.length) (P := fun i v => ∃ t, v = .int (i : Int) t) (J := fun i ys k' => Fls ys (slide (1 - d) (slide d (widen ns) (ns.length + 2)) i) ∧ TkE g1 (k1) k' ys ∧ k1 ≤ k')
    (frees_ok (by decide +kernel)) (by rw [sizeLine_eq]; omega) (by decide +kernel) rfl (by decide +kernel) (by decide +kernel) (fun _ _ _ _ q hle => ⟨q.1, q.2.1.mono hle, Nat.le_trans q.2.2 hle⟩) ?hit ?helt ?hfin
  case hit =>
    repeat walk_at "m go"
    rw [hlen]
    refine Sit.range (by assumption) (fun a9 s9 ht9 hr9 S9 => ?_)
    exact ⟨S9, iter_rangeF hh (by omega) hr9, .nil, .nil, by omega⟩
  case helt =>
    intro C i v s₃ m₃ ys hi hv hm SC hJ
    obtain ⟨t, rfl⟩ := hv
    obtain ⟨n0, t0, a1, a2, a3, a4⟩ := fls_item hfi (k := i) (by rw [← hfi.length]; omega)
    obtain ⟨n1, t1, b1, b2, b3, b4⟩ := fls_item hfi (k := i + 1) (by rw [← hfi.length]; omega)
    obtain ⟨n2, t2, c1, c2, c3, c4⟩ := fls_item hfi (k := i + 2) (by rw [← hfi.length]; omega)
    have e0 := hevi n0 (List.mem_of_getElem? a2)
    have e1 := hevi n1 (List.mem_of_getElem? b2)
    have e2 := hevi n2 (List.mem_of_getElem? c2)
    repeat walk_at "m go"
    refine itemL (Sit.list (by assumption) (.head _)) (by omega) (by omega) (by rw [Int.toNat_natCast]; exact a1) ?_
    repeat walk_at "m go"
    refine itemL (Sit.list (by assumption) (.head _)) (by omega) (by omega) (by rw [show ((i : Int) + 1).toNat = i + 1 by omega]; exact b1) ?_
    repeat walk_at "m go"
    refine itemL (Sit.list (by assumption) (.head _)) (by omega) (by omega) (by rw [show ((i : Int) + 2).toNat = i + 2 by omega]; exact c1) ?_
    repeat walk_at "m go"
    refine end_spec (Sit.here (by assumption)) (FnOk.keeps (by assumption) (Sit.keep (by assumption))) R1 e0.1 e1.1 e2.1 e0.2 e1.2 e2.2 (fun s5 t5 k5 hor => ?_)
    rename_i S9
    have e9 : (if 1 - d = 0 then min (min n0 n1) n2 else max (max n0 n1) n2) = e3 (1 - d) n0 n1 n2 := rfl
    rw [e9] at hor ⊢
    have ev9 : Ev (e3 (1 - d) n0 n1 n2) := e3_ev e0 e1 e2
    have t9 := S9.tk
    have t5' := k5.2
    refine ⟨(S9.kept k5).done, ?_, ?_, by have := hJ.2.2; omega⟩
    · rw [slide_succ, getD_of a2, getD_of b2, getD_of c2]
      exact hJ.1.snoc ev9.lt
    · rcases hor with hm5 | ⟨h5, h6⟩
      · refine hJ.2.1.old (y := .float (fl (e3 (1 - d) n0 n1 n2)) t5) ?_ hJ.2.2 (by omega)
        simp only [List.mem_cons, List.not_mem_nil, or_false] at hm5
        rcases hm5 with q | q | q
        · rw [q]; exact htk1 _ a4
        · rw [q]; exact htk1 _ b4
        · rw [q]; exact htk1 _ c4
      · exact (hJ.2.1.mono t9).new ev9.lt (by have := hJ.2.2; omega) (by have := hJ.2.2; omega) h5 h6
  case hfin =>
    intro D s' ys SD _ hJ _
    refine h _ _ ys SD.done hJ.1 ?_ (SD.facts _ (.head _))
    obtain ⟨g2, hg2, htk2⟩ := hJ.2.1
    exact ⟨g2, fun t ht => (hg2 t (by omega)).trans (hg1 t ht), htk2⟩
end

/-! two rows compared -/
section
variable {prog : Program} {w : World} {A : Around} {E : Value → Shared → Prop} {s : Shared} {Q : Value → Shared → Prop}
theorem all_eq {ns ms : List Nat} (h : ns.length = ms.length) : ((List.range ns.length).all fun j => decide (ns.getD j 0 = ms.getD j 0)) = decide (ns = ms) := by
  by_cases e : ns = ms
  · subst e; simp
  · rw [decide_eq_false e]
    rw [Bool.eq_false_iff]
    intro q
    apply e
    apply List.ext_getElem h
    intro j h1 h2
    have := List.all_eq_true.mp q j (List.mem_range.mpr h1)
    simpa [List.getD_eq_getElem?_getD, h1, h2] using this
theorem rowRc {a b : Addr} {vs us : List Value} {ns ms : List Nat} {g : Tok → Nat} {k : Nat} (hl : s.heap.IsList a vs.toArray) (hb : s.heap.IsList b us.toArray) (hf : Fls vs ns) (hg : Fls us ms) (hlen : ns.length = ms.length)
    (h1 : ∀ v ∈ vs, Tk g k v) (h2 : ∀ v ∈ us, Tk g k v) (nb : NoneBooked s.heap) (hu : A.units < cLine) : SeqAt.RcAt A s (.ref a) (.ref b) (decide (ns = ms)) := by
  have e1 : vs.toArray.size = ns.length := by simpa using hf.length
  have e2 : us.toArray.size = ms.length := by simpa using hg.length
  have := SeqAt.RcAt.lists (A := A) (e := fun j => decide (ns.getD j 0 = ms.getD j 0)) hl hb (by omega) hu (fun j q1 q2 => by
    obtain ⟨n, t, ev, en, hn⟩ := hf.at j vs.toArray[j] (by simp at q1 ⊢)
    obtain ⟨m, u, ew, em, hm⟩ := hg.at j us.toArray[j] (by simp at q2 ⊢)
    have m1 : Tk g k (.float (fl n) t) := ev ▸ h1 _ (by simp)
    have m2 : Tk g k (.float (fl m) u) := ew ▸ h2 _ (by simp)
    have := eqAt_fl (A := A.in1) nb m1 m2 hn hm
    rw [← ev, ← ew] at this
    have r1 : ns.getD j 0 = n := getD_of en
    have r2 : ms.getD j 0 = m := getD_of em
    show SeqAt.EqAt A.in1 s _ _ (decide (ns.getD j 0 = ms.getD j 0))
    rw [r1, r2]
    exact this)
  rw [e1, all_eq hlen] at this
  exact this
theorem rowEq {a b : Addr} {vs us : List Value} {ns ms : List Nat} {g : Tok → Nat} {k : Nat} (hl : s.heap.IsList a vs.toArray) (hb : s.heap.IsList b us.toArray) (hf : Fls vs ns) (hg : Fls us ms) (hlen : ns.length = ms.length)
    (h1 : ∀ v ∈ vs, Tk g k v) (h2 : ∀ v ∈ us, Tk g k v) (nb : NoneBooked s.heap) (hu : A.units < cLine) (h : Q (.bool (decide (ns = ms))) s) : wpAny (model prog w) A (compareOp .Eq (.ref a) (.ref b)) Q E s :=
  rowRc hl hb hf hg hlen h1 h2 nb hu prog w E Q h
end
def openN (ns : List Nat) : List Nat := passN (passN ns 0) 1
def closeN (ns : List Nat) : List Nat := passN (passN ns 1) 0
def calmN (ns : List Nat) : Bool := decide (medsN ns = ns)
def soundN (ns : List Nat) : Bool := (decide (openN ns = ns) == calmN ns) && (decide (closeN ns = ns) == calmN ns)
theorem medsN_length (ns : List Nat) : (medsN ns).length = ns.length := by simp [medsN]
theorem openN_length (ns : List Nat) : (openN ns).length = ns.length := by simp [openN, passN_length]
theorem closeN_length (ns : List Nat) : (closeN ns).length = ns.length := by simp [closeN, passN_length]
section
variable {prog : Program} {w : World} {A : Around} {E : Value → Shared → Prop} {mg mb : Str → Option Value} {s : Shared} {Q : Value → Shared → Prop} {f : Addr}
set_option maxHeartbeats 4000000 in
theorem rest_spec {l : Addr} {vs : List Value} {ns : List Nat} {g : Tok → Nat} {k : Nat} (B : Base mg mb s.heap) (F : FnOk mg s.heap 15 f) (R : Rm A 5) (hl : Fact.At ⟨l, false, vs⟩ s.heap) (hf : Fls vs ns) (h0 : 0 < ns.length) (h64 : ns.length < 60)
    (hev : ∀ n ∈ ns, Ev n) (htk : ∀ v ∈ vs, Tk g k v) (hk : k ≤ s.toks) (hk1 : 1 ≤ k)
    (h : ∀ (s' : Shared) (r ao ac : Addr) (vo vc : List Value), Kp s s' → Fact.At ⟨r, true, [.ref ao, .ref ac, .bool (soundN ns)]⟩ s'.heap → Fact.At ⟨ao, false, vo⟩ s'.heap → Fact.At ⟨ac, false, vc⟩ s'.heap → Fls vo (openN ns) → Fls vc (closeN ns) →
      TkE g k s'.toks (vo ++ vc) → Q (.ref r) s') :
    wpAny (model prog w) A (call (.ref f) [.ref l]) Q E s := by
  refine enter 15 ["row"] (fs := [⟨l, false, vs⟩]) B F R.depth rfl (fun _ _ _ => rfl) (by decide +kernel) (by decide +kernel) (fun g hg => by rw [List.mem_singleton.mp hg]; exact hl) ?_
  intro env s₁ hcl O S
  have hh : (A.deeper env).handled = none := R.1
  have R1 : Rm (A.deeper env) 4 := R.deeper
  have hlen := hf.length
  have t0 := S.tk
  refine wpAny_execs_cons ?_
  repeat walk_at "m go"
  refine pass_spec (Sit.here (by assumption)) (FnOk.keeps (by assumption) (Sit.keep (by assumption))) R1 (Sit.facts (by assumption) _ (.head _)) hf h0 h64 hev htk (by omega) hk1 (fun s2 a1 v1 k2 hf1 ⟨g1, hg1, ht1⟩ ft1 => ?_)
  have S2 := (Sit.kept (by assumption) k2).more ft1
  have t2 := k2.2
  clear k2
  repeat walk_at "m go"
  refine pass_spec (Sit.here (by assumption)) (FnOk.keeps (by assumption) (Sit.keep (by assumption))) R1 (Sit.facts (by assumption) _ (.head _)) hf1 (by rw [passN_length]; exact h0) (by rw [passN_length]; exact h64) (passN_ev hev) ht1 (by omega) (by omega) (fun s3 ao vo k3 hfo ⟨g2, hg2, ht2⟩ fto => ?_)
  have S3 := (Sit.kept (by assumption) k3).more fto
  have t3 := k3.2
  clear k3
  repeat walk_at "m go"
  have htk3 : ∀ v ∈ vs, Tk g2 s3.toks v := fun v hv => (htk v hv).ext (by omega) fun t ht => (hg2 t (by omega)).trans (hg1 t ht)
  refine pass_spec (Sit.here (by assumption)) (FnOk.keeps (by assumption) (Sit.keep (by assumption))) R1 (Sit.facts (by assumption) _ (.tail _ (.tail _ (.head _)))) hf h0 h64 hev htk3 (by omega) (by omega) (fun s4 a4 v4 k4 hf4 ⟨g3, hg3, ht3⟩ ft4 => ?_)
  have S4 := (Sit.kept (by assumption) k4).more ft4
  have t4 := k4.2
  clear k4
  repeat walk_at "m go"
  refine pass_spec (Sit.here (by assumption)) (FnOk.keeps (by assumption) (Sit.keep (by assumption))) R1 (Sit.facts (by assumption) _ (.head _)) hf4 (by rw [passN_length]; exact h0) (by rw [passN_length]; exact h64) (passN_ev hev) ht3 (by omega) (by omega) (fun s5 ac vc k5 hfc ⟨g4, hg4, ht4⟩ ftc => ?_)
  have S5 := (Sit.kept (by assumption) k5).more ftc
  have t5 := k5.2
  clear k5
  have hrow : ∀ v ∈ vs, Tk g4 s5.toks v := fun v hv => (htk3 v hv).ext (by omega) fun t ht => (hg4 t (by omega)).trans (hg3 t (by omega))
  have hgg : ∀ t, t < k → g4 t = g t := fun t ht => (hg4 t (by omega)).trans ((hg3 t (by omega)).trans ((hg2 t (by omega)).trans (hg1 t ht)))
  have hopn : ∀ v ∈ vo, Tk g4 s5.toks v := fun v hv => (ht2 v hv).ext (by omega) fun t ht => (hg4 t (by omega)).trans (hg3 t (by omega))
  repeat walk_at "m go"
  refine medians_spec (Sit.here (by assumption)) (FnOk.keeps (by assumption) (Sit.keep (by assumption))) (R1.le (by omega)) (Sit.facts (by assumption) _ (.tail _ (.tail _ (.tail _ (.tail _ (.head _)))))) hf h0 (by omega) (fun s6 am vm k6 hfm hmm ftm => ?_)
  have S6 := (Sit.kept (by assumption) k6).more ftm
  have t6 := k6.2
  clear k6
  repeat walk_at "m go"
  refine rowEq (S6.list (.head _)) (S6.list (.tail _ (.tail _ (.tail _ (.tail _ (.tail _ (.head _))))))) hfm hf (medsN_length ns) (fun v hv => hrow v (hmm v hv)) hrow S6.here.nb (by have := R1.2.2; omega) ?_
  repeat walk_at "m go"
  refine rowEq (Sit.list (by assumption) (.tail _ (.tail _ (.tail _ (.head _))))) (Sit.list (by assumption) (.tail _ (.tail _ (.tail _ (.tail _ (.tail _ (.head _))))))) hfo hf (openN_length ns) hopn hrow (Sit.here (by assumption)).nb (by have := R1.2.2; omega) ?_
  repeat' walk_at "m go"
  · refine rowEq (Sit.list (by assumption) (.tail _ (.head _))) (Sit.list (by assumption) (.tail _ (.tail _ (.tail _ (.tail _ (.tail _ (.head _))))))) hfc hf (closeN_length ns) ht4 hrow (Sit.here (by assumption)).nb (by have := R1.2.2; omega) ?_
    repeat walk_at "m go"
    rename_i hc9 _ s9 _ S9
    have e : soundN ns = (decide (closeN ns = ns) == decide (medsN ns = ns)) := by unfold soundN calmN; rw [show (decide (openN ns = ns) == decide (medsN ns = ns)) = true from beq_iff_eq.mpr hc9]; rfl
    refine h _ _ _ _ vo vc S9.done (by rw [e]; exact S9.facts _ (.head _)) (S9.facts _ (.tail _ (.tail _ (.tail _ (.tail _ (.head _)))))) (S9.facts _ (.tail _ (.tail _ (.head _)))) hfo hfc ?_
    exact ⟨g4, hgg, fun v hv => ((List.mem_append.mp hv).elim (hopn v) (ht4 v)).mono (by omega)⟩
  · rename_i hc9 _ s9 _ S9
    have e : soundN ns = (decide (openN ns = ns) == decide (medsN ns = ns)) := by
      have q : (decide (openN ns = ns) == decide (medsN ns = ns)) = false := by
        rw [Bool.eq_false_iff]; exact fun q => hc9 (beq_iff_eq.mp q)
      unfold soundN calmN; rw [q]; rfl
    refine h _ _ _ _ vo vc S9.done (by rw [e]; exact S9.facts _ (.head _)) (S9.facts _ (.tail _ (.tail _ (.tail _ (.tail _ (.head _)))))) (S9.facts _ (.tail _ (.tail _ (.head _)))) hfo hfc ?_
    exact ⟨g4, hgg, fun v hv => ((List.mem_append.mp hv).elim (hopn v) (ht4 v)).mono (by omega)⟩
end

/-! three neighbours, as numbers -/
theorem perm3 (a b c : Nat) : [min (min a b) c, a + b + c - min (min a b) c - max (max a b) c, max (max a b) c].Perm [a, b, c] := by
  have h2 : ∀ x y z : Nat, [x, z, y].Perm [x, y, z] := fun x y z => .cons _ (.swap ..)
  have h3 : ∀ x y z : Nat, [y, x, z].Perm [x, y, z] := fun x y z => .swap ..
  have h4 : ∀ x y z : Nat, [y, z, x].Perm [x, y, z] := fun x y z => (List.Perm.cons _ (.swap ..)).trans (.swap ..)
  have h5 : ∀ x y z : Nat, [z, x, y].Perm [x, y, z] := fun x y z => (List.Perm.swap ..).trans (.cons _ (.swap ..))
  have h6 : ∀ x y z : Nat, [z, y, x].Perm [x, y, z] := fun x y z => (h3 y z x).trans (h4 x y z)
  rcases Nat.le_total a b with ab | ab <;> rcases Nat.le_total b c with bc | bc <;> rcases Nat.le_total a c with ac | ac
  · rw [show min (min a b) c = a by omega, show max (max a b) c = c by omega, show a + b + c - a - c = b by omega]
  · have : a = b ∧ b = c := by omega
    obtain ⟨rfl, rfl⟩ := this
    rw [show min (min a a) a = a by omega, show max (max a a) a = a by omega, show a + a + a - a - a = a by omega]
  · rw [show min (min a b) c = a by omega, show max (max a b) c = b by omega, show a + b + c - a - b = c by omega]; exact h2 ..
  · rw [show min (min a b) c = c by omega, show max (max a b) c = b by omega, show a + b + c - c - b = a by omega]; exact h5 ..
  · rw [show min (min a b) c = b by omega, show max (max a b) c = c by omega, show a + b + c - b - c = a by omega]; exact h3 ..
  · rw [show min (min a b) c = b by omega, show max (max a b) c = a by omega, show a + b + c - b - a = c by omega]; exact h4 ..
  · have : a = b ∧ b = c := by omega
    obtain ⟨rfl, rfl⟩ := this
    rw [show min (min a a) a = a by omega, show max (max a a) a = a by omega, show a + a + a - a - a = a by omega]
  · rw [show min (min a b) c = c by omega, show max (max a b) c = a by omega, show a + b + c - c - a = b by omega]; exact h6 ..
theorem low3 (a b c : Nat) : lowM [a, b, c] = a + b + c - min (min a b) c - max (max a b) c :=
  (low_of (perm3 a b c) (by simp; omega) (by simp)).symm
theorem high3 (a b c : Nat) : highM [a, b, c] = a + b + c - min (min a b) c - max (max a b) c :=
  (high_of (perm3 a b c) (by simp; omega) (by simp)).symm
theorem low3w {a b c M : Nat} (ha : a ≤ M) (hb : b ≤ M) (hc : c ≤ M) : lowM ([a, b, c] ++ [M, M]) = max (max a b) c :=
  (low_of ((perm3 a b c).append_right [M, M]) (by simp; omega) (by simp)).symm
theorem high3w (a b c : Nat) : highM ([a, b, c] ++ [0, 0]) = min (min a b) c :=
  (high_of (ns' := [0, 0] ++ [min (min a b) c, a + b + c - min (min a b) c - max (max a b) c, max (max a b) c]) (((perm3 a b c).append_left [0, 0]).trans List.perm_append_comm) (by simp; omega) (by simp)).symm
section
variable {prog : Program} {w : World} {A : Around} {E : Value → Shared → Prop} {mg mb : Str → Option Value} {s : Shared} {Q : Value → Shared → Prop} {f : Addr}
set_option maxHeartbeats 4000000 in
theorem threes_spec {l : Addr} {a b c : Nat} {ta tb tc : Tok} (B : Base mg mb s.heap) (F : FnOk mg s.heap 11 f) (R : Rm A 3) (hl : Fact.At ⟨l, false, [.float (fl a) ta, .float (fl b) tb, .float (fl c) tc]⟩ s.heap)
    (ha : a ≤ 2 ^ 21) (hb : b ≤ 2 ^ 21) (hc : c ≤ 2 ^ 21) (ea : a % 2 = 0) (eb : b % 2 = 0) (ec : c % 2 = 0)
    (h : ∀ (s' : Shared), Kp s s' → Q (.bool true) s') :
    wpAny (model prog w) A (call (.ref f) [.ref l]) Q E s := by
  refine enter 11 ["three"] (fs := [⟨l, false, [.float (fl a) ta, .float (fl b) tb, .float (fl c) tc]⟩]) B F R.depth rfl (fun _ _ _ => rfl) (by decide +kernel) (by decide +kernel) (fun g hg => by rw [List.mem_singleton.mp hg]; exact hl) ?_
  intro env s₁ hcl O S
  have hh : (A.deeper env).handled = none := R.1
  have R1 : Rm (A.deeper env) 2 := R.deeper
  have hf : Fls [.float (fl a) ta, .float (fl b) tb, .float (fl c) tc] [a, b, c] := at3 (by omega) (by omega) (by omega)
  refine wpAny_execs_cons ?_
  repeat walk_at "m go"
  refine itemL (Sit.list (by assumption) (.head _)) (by decide) (by decide) rfl ?_
  repeat walk_at "m go"
  refine itemL (Sit.list (by assumption) (.head _)) (by decide) (by decide) rfl ?_
  repeat walk_at "m go"
  refine itemL (Sit.list (by assumption) (.head _)) (by decide) (by decide) rfl ?_
  repeat walk_at "m go"
  refine ends_spec (Sit.here (by assumption)) (FnOk.keeps (by assumption) (Sit.keep (by assumption))) R1 ha hb hc ea eb ec (fun r s2 t1 t2 k _ _ ft mem => ?_)
  have S2 := (Sit.kept (by assumption) k).more ft
  clear k ft
  repeat walk_at "m go"
  refine Sit.unpack2 (by assumption) hh (Sit.tup (by assumption) (.head _)) (fun _ _ _ => ?_)
  repeat walk_at "m go"
  refine Sit.addL (by assumption) (Sit.list (by assumption) (.tail _ (.tail _ (.head _)))) (Sit.list (by assumption) (.head _)) (Nat.le_of_ble_eq_true rfl) (fun _ _ _ _ => ?_)
  repeat walk_at "m go"
  have hf1 : ∀ t u : Tok, Fls ([.float (fl a) ta, .float (fl b) tb, .float (fl c) tc] ++ [.float (fl (2 ^ 21)) t, .float (fl (2 ^ 21)) u]) ([a, b, c] ++ [2 ^ 21, 2 ^ 21]) := fun t u => hf.append (.cons _ _ (by decide) (.cons _ _ (by decide) .nil))
  have hf0 : ∀ t u : Tok, Fls ([.float (fl a) ta, .float (fl b) tb, .float (fl c) tc] ++ [.float (fl 0) t, .float (fl 0) u]) ([a, b, c] ++ [0, 0]) := fun t u => hf.append (.cons _ _ (by decide) (.cons _ _ (by decide) .nil))
  refine low_spec (Sit.here (by assumption)) (FnOk.keeps (by assumption) (Sit.keep (by assumption))) (R1.le (by omega)) (Sit.facts (by assumption) _ (.head _)) (hf1 _ _) (by simp) (by simp) (fun s5 n5 t5 ns' k5 hp hw hat hn53 hmem => ?_)
  have e5 := low_of hp hw hat
  rw [low3w ha hb hc] at e5
  subst e5
  have S5 := Sit.kept (by assumption) k5
  clear hp hw hat hmem k5
  repeat walk_at "m go"
  refine Sit.addL (by assumption) (Sit.list (by assumption) (.tail _ (.tail _ (.tail _ (.tail _ (.head _)))))) (Sit.list (by assumption) (.head _)) (Nat.le_of_ble_eq_true rfl) (fun _ _ _ _ => ?_)
  repeat walk_at "m go"
  refine high_spec (Sit.here (by assumption)) (FnOk.keeps (by assumption) (Sit.keep (by assumption))) (R1.le (by omega)) (Sit.facts (by assumption) _ (.head _)) (hf0 _ _) (by simp) (by simp) (fun s6 n6 t6 ns' k6 hp hw hat hn53 hmem => ?_)
  have e6 := high_of hp hw hat
  rw [high3w a b c] at e6
  subst e6
  have S6 := Sit.kept (by assumption) k6
  clear hp hw hat hmem k6
  repeat walk_at "m go"
  refine low_spec (Sit.here (by assumption)) (FnOk.keeps (by assumption) (Sit.keep (by assumption))) (R1.le (by omega)) (Sit.facts (by assumption) _ (.tail _ (.tail _ (.tail _ (.tail _ (.tail _ (.head _))))))) hf (by simp) (by simp) (fun s7 n7 t7 ns' k7 hp hw hat hn53 hmem => ?_)
  have e7 := low_of hp hw hat
  rw [low3 a b c] at e7
  subst e7
  have S7 := Sit.kept (by assumption) k7
  clear hp hw hat hmem k7
  repeat walk_at "m go"
  refine sumL hh (Sit.list (by assumption) (.tail _ (.tail _ (.tail _ (.tail _ (.tail _ (.head _))))))) hf (by simp) (by simp; omega) (fun t8 s8 k8 => ?_)
  have S8 := Sit.kept (by assumption) k8
  clear k8
  have es : [a, b, c].sum = a + b + c := by simp; omega
  rw [es]
  repeat walk_at "m go"
  refine high_spec (Sit.here (by assumption)) (FnOk.keeps (by assumption) (Sit.keep (by assumption))) (R1.le (by omega)) (Sit.facts (by assumption) _ (.tail _ (.tail _ (.tail _ (.tail _ (.tail _ (.head _))))))) hf (by simp) (by simp) (fun s9 n9 t9 ns' k9 hp hw hat hn53 hmem => ?_)
  have e9 := high_of hp hw hat
  rw [high3 a b c] at e9
  subst e9
  have S9 := Sit.kept (by assumption) k9
  clear hp hw hat hmem k9
  repeat walk_at "m go"
  simp only [decide_true]
  exact h _ S9.done
end
/-! thresholds -/
theorem le_sorted (t : Nat) : ∀ (ys : List Nat) (k : Nat), ys.Pairwise (· ≤ ·) → k < ys.length → (t ≤ ys.getD k 0 ↔ ys.length - k ≤ ys.countP fun y => decide (t ≤ y))
  | [], k, _, h => absurd h (Nat.not_lt_zero _)
  | y :: r, k, hp, hk => by
    have hp' := List.pairwise_cons.mp hp
    have hc : r.countP (fun y => decide (t ≤ y)) ≤ r.length := List.countP_le_length
    by_cases hy : t ≤ y
    · have hall : r.countP (fun y => decide (t ≤ y)) = r.length := List.countP_eq_length.mpr fun z hz => by have := hp'.1 z hz; simp; omega
      rw [List.countP_cons_of_pos (by simpa using hy), hall]
      refine ⟨fun _ => by simp, fun _ => ?_⟩
      cases k with
      | zero => exact hy
      | succ k =>
        have hk' : k < r.length := by simpa using hk
        have := hp'.1 r[k] (List.getElem_mem hk')
        simp [List.getElem?_eq_getElem hk']; omega
    · rw [List.countP_cons_of_neg (by simpa using hy)]
      cases k with
      | zero => simp; omega
      | succ k =>
        have hk' : k < r.length := by simpa using hk
        have := le_sorted t r k hp'.2 hk'
        simp only [List.getD_cons_succ, List.length_cons]
        rw [this]
        omega
theorem le_srt {xs : List Nat} {k : Nat} (hk : k < xs.length) (t : Nat) : t ≤ (srt xs).getD k 0 ↔ xs.length - k ≤ xs.countP fun y => decide (t ≤ y) := by
  have h := le_sorted t (srt xs) k (srt_pair xs) (by rw [(srt_perm xs).length_eq]; exact hk)
  rw [(srt_perm xs).length_eq, (srt_perm xs).countP_eq] at h
  exact h
theorem le_low {xs : List Nat} (h : 0 < xs.length) (t : Nat) : t ≤ lowM xs ↔ xs.length - (xs.length - 1) / 2 ≤ xs.countP fun y => decide (t ≤ y) := le_srt (by omega) t
theorem le_high {xs : List Nat} (h : 0 < xs.length) (t : Nat) : t ≤ highM xs ↔ xs.length - xs.length / 2 ≤ xs.countP fun y => decide (t ≤ y) := le_srt (by omega) t
theorem eq_of_le {a b : Nat} (h : ∀ t, t ≤ a ↔ t ≤ b) : a = b := Nat.le_antisymm ((h a).mp (Nat.le_refl _)) ((h b).mpr (Nat.le_refl _))
/-- a bit is a threshold's answer -/
def bit (t n : Nat) : Bool := decide (t ≤ n)
theorem countP_bits (t : Nat) : ∀ xs : List Nat, xs.countP (fun y => decide (t ≤ y)) = (xs.map (bit t)).countP id
  | xs => by rw [List.countP_map]; rfl
theorem bit_min (t a b : Nat) : bit t (min a b) = (bit t a && bit t b) := by unfold bit; rw [← Bool.decide_and]; exact decide_eq_decide.mpr Nat.le_min
theorem bit_max (t a b : Nat) : bit t (max a b) = (bit t a || bit t b) := by unfold bit; rw [← Bool.decide_or]; exact decide_eq_decide.mpr (by omega)
theorem eq_of_bit {a b : Nat} (h : ∀ t, bit t a = bit t b) : a = b := eq_of_le fun t => by have := h t; unfold bit at this; exact decide_eq_decide.mp this
theorem bit_low {xs : List Nat} (h : 0 < xs.length) (t : Nat) : bit t (lowM xs) = decide (xs.length - (xs.length - 1) / 2 ≤ (xs.map (bit t)).countP id) := by
  rw [← countP_bits]; exact decide_eq_decide.mpr (le_low h t)
theorem bit_high {xs : List Nat} (h : 0 < xs.length) (t : Nat) : bit t (highM xs) = decide (xs.length - xs.length / 2 ≤ (xs.map (bit t)).countP id) := by
  rw [← countP_bits]; exact decide_eq_decide.mpr (le_high h t)
theorem eq_of_bit1 {a b : Nat} (h : ∀ t, 0 < t → bit t a = bit t b) : a = b := eq_of_bit fun t => by
  cases t with
  | zero => simp [bit]
  | succ t => exact h _ (Nat.succ_pos _)
theorem bit_0 {t : Nat} (h : 0 < t) : bit t 0 = false := by unfold bit; exact decide_eq_false (by omega)
section
variable {prog : Program} {w : World} {A : Around} {E : Value → Shared → Prop} {mg mb : Str → Option Value} {sp : Scope} {s₀ s : Shared} {env : Env} {m cm : Str → Option Value} {fs : List Fact}
theorem iterL_tuple {t : Addr} {vs : List Value} {hidden : List Addr} {target : Expr} (hh : A.handled = none) (ht : s.heap.IsTuple t vs.toArray) (hot : t ∉ ownAt env ++ hidden) :
    wpAny (model prog w) A (pyIter (.ref t)) (IterL prog w A env hidden target vs.length (fun i v => vs[i]? = some v) s) E s := by
  refine wpAny_pyIter_tuple ht ?_
  have hne : t ≠ s.heap.objs.size := by obtain ⟨o, ho, _⟩ := ht; exact Nat.ne_of_lt (Heap.lt_size ho)
  have W := Walks.tuple (prog := prog) (w := w) (A := A) hh s.heap.objs.size t hne vs.toArray
  have e1 : vs.toArray.size = vs.length := by simp
  have e2 : (fun i v => vs.toArray[i]? = some v) = (fun (i : Nat) (v : Value) => vs[i]? = some v) := by funext i v; simp
  rw [e1, e2] at W
  refine ⟨_, _, _, rfl, W, ⟨⟨_, Heap.get?_push_size _ rfl, rfl, rfl⟩, ((Fact.of_tuple ht).keeps fun _ _ e => Heap.get?_push_of_some _ e).tuple⟩, fresh_size s, kp_heap fun _ _ e => Heap.get?_push_of_some _ e, ?_, ?_, ?_⟩
  · intro b hb hn
    rcases List.mem_cons.mp hb with rfl | hb
    · exact absurd rfl hn
    · rw [List.mem_singleton.mp hb]; exact hot
  · rintro i h f ⟨⟨o, ho, _, hd⟩, _⟩ ⟨o', ho', _, k, hd'⟩ e
    rw [e, ho] at ho'
    cases ho'
    rw [hd] at hd'
    cases hd'
  · exact fun i s v Q E st q => letGo_tupleiter st.1 q
theorem Sit.newPlain (S : Sit mg mb sp s₀ env m cm fs s) {vs : List Value} {Q : Value → Shared → Prop}
    (h : ∀ a s', s.toks ≤ s'.toks → s.heap.get? a = none → PlainL s'.heap a vs.toArray → Sit mg mb sp s₀ env m cm fs s' → Q (.ref a) s') (hsz : vs.length ≤ sizeLine) : wpAny (model prog w) A (PySem.newList vs) Q E s :=
  wpAny_newObj_type (h _ _ (Nat.le_refl _) (fresh_size s) ⟨_, 0, Heap.get?_push_size _ rfl, rfl, rfl, rfl⟩ (S.kept (kp_heap fun _ _ e => Heap.get?_push_of_some _ e))) (by show vs.toArray.size ≤ sizeLine; rw [List.size_toArray]; exact hsz)
theorem plain_ne_ns {h : Heap} {D L : Addr} {its : Array Value} (x : PlainL h D its) (n : h.Ns L m) : L ≠ D := by
  rintro rfl
  obtain ⟨o, k, h1, _, _, h3⟩ := x
  obtain ⟨o', es, ep, h1', h2', _⟩ := n
  rw [h1'] at h1; cases h1
  rw [h2'] at h3; cases h3
theorem plain_ne_cell {h : Heap} {D c : Addr} {v : Option Value} {its : Array Value} (x : PlainL h D its) (n : h.IsCell c v) : c ≠ D := by
  rintro rfl
  obtain ⟨o, k, h1, _, _, h3⟩ := x
  obtain ⟨o', h1', h2'⟩ := n
  rw [h1'] at h1; cases h1
  rw [h2'] at h3; cases h3
theorem Sit.append (S : Sit mg mb sp s₀ env m cm fs s) {D : Addr} {vs : List Value} {x : Value} {Q : Value → Shared → Prop} (h0 : s₀.heap.get? D = none) (hl : PlainL s.heap D vs.toArray) (hf : ∀ f ∈ fs, f.a ≠ D) (hsz : vs.length ≤ sizeLine)
    (h : ∀ s', s.toks ≤ s'.toks → PlainL s'.heap D (vs ++ [x]).toArray → Sit mg mb sp s₀ env m cm fs s' → Q .none s') : wpAny (model prog w) A (call (.builtin "list.append") [.ref D, x]) Q E s := by
  refine list_append_plainL (hsz := by simpa using hsz) hl fun h' hl' hs => h { s with heap := h' } (Nat.le_refl _) (by simpa using hl') ?_
  exact S.but (tk := s.toks) (plain_ne_ns hl S.ns) (fun n c hc => plain_ne_cell hl (S.cell n c hc)) h0 hf (fun b o hb e => hs.extBut b o hb e) (Nat.le_refl _)
/-- to keep sight of one more object over some steps -/
theorem Sit.across (S : Sit mg mb sp s₀ env m cm fs s) (O : Own s₀ env) {D : Addr} {its : Array Value} (hl : PlainL s.heap D its) :
    ∃ sb, Own sb env ∧ Sit mg mb sp sb env m cm fs s ∧ ∀ m' cm' fs' s', Sit mg mb sp sb env m' cm' fs' s' → Sit mg mb sp s₀ env m' cm' fs' s' ∧ PlainL s'.heap D its ∧ s.toks ≤ s'.toks := by
  obtain ⟨Ob, gb, Sb⟩ := S.rebase O (hid := []) (fun _ h => nomatch h)
  refine ⟨_, Ob, Sb, fun m' cm' fs' s' S' => ⟨S.debase gb (let ⟨h, tk, e⟩ := S.same; ⟨_, _, by unfold base'; rw [e]⟩) S.tk S', ?_, S'.tk⟩⟩
  have hD : D ∉ ownAt env ++ [] := fun hm => by
    rw [List.append_nil] at hm
    rcases of_ownAt hm with h1 | ⟨n, hn⟩
    · exact plain_ne_ns hl S.ns h1.symm
    · exact plain_ne_cell hl (S.cell n D hn) rfl
  obtain ⟨o, n, e, r⟩ := hl
  exact ⟨o, n, S'.keep _ _ (hideAll_get _ e hD), r⟩
end
/-! the ends of all threes -/
abbrev EndAt := Addr × (Nat × Nat) × Tok × Tok
def EndAt.fact (p : EndAt) : Fact := ⟨p.1, true, [.float (fl p.2.1.1) p.2.2.1, .float (fl p.2.1.2) p.2.2.2]⟩
def EndAt.val (p : EndAt) : Value := .ref p.1
def end3 (ns : List Nat) (i j k : Nat) : Nat × Nat :=
  (min (min (ns.getD i 0) (ns.getD j 0)) (ns.getD k 0), max (max (ns.getD i 0) (ns.getD j 0)) (ns.getD k 0))
def endsI (ns : List Nat) (i j k : Nat) : List (Nat × Nat) := (List.range i).map fun i => end3 ns i j k
def endsJ (ns : List Nat) (j k : Nat) : List (Nat × Nat) := (List.range j).flatMap fun j => endsI ns j j k
def endsK (ns : List Nat) (k : Nat) : List (Nat × Nat) := (List.range k).flatMap fun k => endsJ ns k k
theorem endsI_succ (ns : List Nat) (i j k : Nat) : endsI ns (i + 1) j k = endsI ns i j k ++ [end3 ns i j k] := by unfold endsI; rw [List.range_succ, List.map_append]; rfl
theorem endsJ_succ (ns : List Nat) (j k : Nat) : endsJ ns (j + 1) k = endsJ ns j k ++ endsI ns j j k := by unfold endsJ; rw [List.range_succ, List.flatMap_append]; simp
theorem endsK_succ (ns : List Nat) (k : Nat) : endsK ns (k + 1) = endsK ns k ++ endsJ ns k k := by unfold endsK; rw [List.range_succ, List.flatMap_append]; simp
theorem endsI_len (ns : List Nat) (i j k : Nat) : (endsI ns i j k).length = i := by simp [endsI]
theorem endsJ_len (ns : List Nat) (k : Nat) : ∀ j, j ≤ 5 → (endsJ ns j k).length ≤ 4 * j
  | 0, _ => by simp [endsJ]
  | j + 1, h => by
    have := endsJ_len ns k j (by omega)
    rw [endsJ_succ, List.length_append, endsI_len]; omega
theorem endsK_len (ns : List Nat) : ∀ k, k ≤ 5 → (endsK ns k).length ≤ 16 * k
  | 0, _ => by simp [endsK]
  | k + 1, h => by
    have := endsK_len ns k (by omega)
    have := endsJ_len ns k k (by omega)
    rw [endsK_succ, List.length_append]; omega
theorem tup_ne_plain {h : Heap} {f : Fact} {D : Addr} {its : Array Value} (x : f.At h) (ht : f.tup = true) (y : PlainL h D its) : f.a ≠ D := by
  rintro rfl
  obtain ⟨o, e, c, _⟩ := x
  obtain ⟨o', n, e', c', _⟩ := y
  rw [e] at e'; cases e'
  rw [ht, c'] at c
  exact absurd c (by decide)
/-- what stands while the ends are gathered -/
def Gath (l D : Addr) (vs : List Value) (T : List (Nat × Nat)) (m : Str → Option Value) (fs : List Fact) (s : Shared) : Prop :=
  m "five" = some (.ref l) ∧ m "ends" = some (.ref D) ∧ ∃ ps : List EndAt, ps.map (·.2.1) = T ∧ fs = ⟨l, false, vs⟩ :: ps.map EndAt.fact ∧ PlainL s.heap D (ps.map EndAt.val).toArray
theorem Gath.mono {l D : Addr} {vs : List Value} {T : List (Nat × Nat)} {m : Str → Option Value} {fs : List Fact} {s s' : Shared} (h : Gath l D vs T m fs s) (hk : ∀ o, s.heap.get? D = some o → s'.heap.get? D = some o) : Gath l D vs T m fs s' := by
  obtain ⟨h1, h2, ps, h3, h4, o, n, e, r⟩ := h
  exact ⟨h1, h2, ps, h3, h4, o, n, hk o e, r⟩
theorem Gath.store {l D L : Addr} {vs : List Value} {T : List (Nat × Nat)} {m : Str → Option Value} {fs : List Fact} {s s' : Shared} {x : Str} {v : Value} (h : Gath l D vs T m fs s) (h1 : "five" ≠ x) (h2 : "ends" ≠ x) (hL : L ≠ D)
    (hk : ∀ b o, b ≠ L → s.heap.get? b = some o → s'.heap.get? b = some o) : Gath l D vs T (fun y => if y = x then some v else m y) fs s' := by
  obtain ⟨e1, e2, ps, h3, h4, o, n, e, r⟩ := h
  exact ⟨by simp only [if_neg h1]; exact e1, by simp only [if_neg h2]; exact e2, ps, h3, h4, o, n, hk D o (Ne.symm hL) e, r⟩
theorem ends10_len (ns : List Nat) : (endsK ns 5).length = 10 := by simp [endsK, endsJ, endsI, List.range, List.range.loop]
theorem ends_lt {ns : List Nat} (hb : ∀ n ∈ ns, n < 2 ^ 53) {p : Nat × Nat} (h : p ∈ endsK ns 5) : p.1 < 2 ^ 53 ∧ p.2 < 2 ^ 53 := by
  have hd : ∀ i, ns.getD i 0 < 2 ^ 53 := fun i => by
    rw [List.getD_eq_getElem?_getD]
    cases e : ns[i]? with
    | none => decide
    | some n => exact hb n (List.mem_of_getElem? e)
  simp only [endsK, endsJ, endsI, List.mem_flatMap, List.mem_map] at h
  obtain ⟨k, _, j, _, i, _, rfl⟩ := h
  have h1 := hd i
  have h2 := hd j
  have h3 := hd k
  unfold end3
  dsimp only
  omega
theorem ch_low4 {ns : List Nat} (h : ns.length = 5) : lowM (ns.take 4) = maxN (((endsK ns 5).take 4).map (·.1)) := by
  match ns, h with
  | [a, b, c, d, e], _ =>
  refine eq_of_bit1 fun t ht => ?_
  rw [bit_low (by simp), show (List.take 4 [a, b, c, d, e]).length = 4 from rfl]
  show decide (4 - (4 - 1) / 2 ≤ List.countP id [bit t a, bit t b, bit t c, bit t d]) = bit t (max (max (max (max (0) (min (min a b) c)) (min (min a b) d)) (min (min a c) d)) (min (min b c) d))
  simp only [bit_min, bit_max, bit_0 ht]
  generalize bit t a = p, bit t b = q, bit t c = r, bit t d = u, bit t e = v
  revert p q r u v
  decide +kernel
theorem ch_high4 {ns : List Nat} (h : ns.length = 5) : highM (ns.take 4) = minN (((endsK ns 5).take 4).map (·.2)) := by
  match ns, h with
  | [a, b, c, d, e], _ =>
  refine eq_of_bit1 fun t ht => ?_
  rw [bit_high (by simp), show (List.take 4 [a, b, c, d, e]).length = 4 from rfl]
  show decide (4 - 4 / 2 ≤ List.countP id [bit t a, bit t b, bit t c, bit t d]) = bit t (min (min (min (max (max a b) c) (max (max a b) d)) (max (max a c) d)) (max (max b c) d))
  simp only [bit_min, bit_max, bit_0 ht]
  generalize bit t a = p, bit t b = q, bit t c = r, bit t d = u, bit t e = v
  revert p q r u v
  decide +kernel
theorem ch_low5 {ns : List Nat} (h : ns.length = 5) : lowM (ns.take 5) = maxN (((endsK ns 5).take 10).map (·.1)) := by
  match ns, h with
  | [a, b, c, d, e], _ =>
  refine eq_of_bit1 fun t ht => ?_
  rw [bit_low (by simp), show (List.take 5 [a, b, c, d, e]).length = 5 from rfl]
  show decide (5 - (5 - 1) / 2 ≤ List.countP id [bit t a, bit t b, bit t c, bit t d, bit t e]) = bit t (max (max (max (max (max (max (max (max (max (max (0) (min (min a b) c)) (min (min a b) d)) (min (min a c) d)) (min (min b c) d)) (min (min a b) e)) (min (min a c) e)) (min (min b c) e)) (min (min a d) e)) (min (min b d) e)) (min (min c d) e))
  simp only [bit_min, bit_max, bit_0 ht]
  generalize bit t a = p, bit t b = q, bit t c = r, bit t d = u, bit t e = v
  revert p q r u v
  decide +kernel
theorem ch_high5 {ns : List Nat} (h : ns.length = 5) : highM (ns.take 5) = minN (((endsK ns 5).take 10).map (·.2)) := by
  match ns, h with
  | [a, b, c, d, e], _ =>
  refine eq_of_bit1 fun t ht => ?_
  rw [bit_high (by simp), show (List.take 5 [a, b, c, d, e]).length = 5 from rfl]
  show decide (5 - 5 / 2 ≤ List.countP id [bit t a, bit t b, bit t c, bit t d, bit t e]) = bit t (min (min (min (min (min (min (min (min (min (max (max a b) c) (max (max a b) d)) (max (max a c) d)) (max (max b c) d)) (max (max a b) e)) (max (max a c) e)) (max (max b c) e)) (max (max a d) e)) (max (max b d) e)) (max (max c d) e))
  simp only [bit_min, bit_max, bit_0 ht]
  generalize bit t a = p, bit t b = q, bit t c = r, bit t d = u, bit t e = v
  revert p q r u v
  decide +kernel
section
variable {prog : Program} {w : World} {A : Around} {E : Value → Shared → Prop} {mg mb : Str → Option Value} {s : Shared} {Q : Value → Shared → Prop} {f : Addr}
set_option maxHeartbeats 4000000 in
theorem chosen_spec {l : Addr} {vs : List Value} {ns : List Nat} (B : Base mg mb s.heap) (F : FnOk mg s.heap 12 f) (R : Rm A 3) (hl : Fact.At ⟨l, false, vs⟩ s.heap) (hf : Fls vs ns) (h5 : ns.length = 5)
    (hb : ∀ n ∈ ns, n ≤ 2 ^ 21 ∧ n % 2 = 0)
    (h : ∀ (s' : Shared), Kp s s' → Q (.bool true) s') :
    wpAny (model prog w) A (call (.ref f) [.ref l]) Q E s := by
  refine enter 12 ["five"] (fs := [⟨l, false, vs⟩]) B F R.depth rfl (fun _ _ _ => rfl) (by decide +kernel) (by decide +kernel) (fun g hg => by rw [List.mem_singleton.mp hg]; exact hl) ?_
  intro env s₁ hcl O S
  obtain ⟨esc, L, eg, ec, eq, ef, eco, efr, eb⟩ := env
  obtain rfl : ec = cellsFrom (L + 1) (sc 12).names [] := hcl
  obtain rfl : esc = sc 12 := S.scp
  have hh : (A.deeper ⟨sc 12, L, eg, cellsFrom (L + 1) (sc 12).names [], eq, ef, eco, efr, eb⟩).handled = none := R.1
  have R1 : Rm (A.deeper ⟨sc 12, L, eg, cellsFrom (L + 1) (sc 12).names [], eq, ef, eco, efr, eb⟩) 2 := R.deeper
  have hlen := hf.length
  refine wpAny_execs_cons (wpAny_Assign_Name (List_ (args_nil (S.newPlain (vs := []) (fun D s2 _ hDn hD S2 => ?_) (Nat.zero_le _)))))
  have hD0 : s.heap.get? D = none := by
    cases q : s.heap.get? D with
    | none => rfl
    | some o => have := S.keep _ _ q; rw [hDn] at this; cases this
  have hlD : l ≠ D := by
    rintro rfl
    obtain ⟨o, ho, _⟩ := S.facts _ (.head _)
    rw [hDn] at ho; cases ho
  refine S2.stK O (by decide +kernel) (fun s3 _ hk3 S3 => ?_)
  have hD3 : PlainL s3.heap D #[] := by
    obtain ⟨o, n, e, r⟩ := id hD
    exact ⟨o, n, hk3 _ _ (Ne.symm (plain_ne_ns hD S2.ns)) e, r⟩
  have hDL : L ≠ D := plain_ne_ns hD S2.ns
  clear S S2 hk3 hD hDn
  show wpAny _ _ (execs (_ :: _) _) _ _ _
  refine wpAny_execs_cons ?_
  have hGm : ∀ T m fs (s s' : Shared), Gath l D vs T m fs s → (∀ a ∈ [D], ∀ o, s.heap.get? a = some o → s'.heap.get? a = some o) → Gath l D vs T m fs s' := fun T m fs s s' hg hk => hg.mono (hk D (.head _))
  refine Sit.forR (mg := mg) (mb := mb) (sp := sc 12) (K := fun k m cm fs s => Gath l D vs (endsK ns k) m fs s) (n := 5) O [D] (fun a ha => by rw [List.mem_singleton.mp ha]; exact hD0) hh (by decide +kernel) (by decide) (fun _ _ _ _ _ _ hg _ hk => hGm _ _ _ _ _ hg hk) ?hit1 ?body1 ?fin1
  case hit1 =>
    obtain ⟨sb, Ob, Sb, back⟩ := S3.across O hD3
    clear S3
    repeat walk_at "m go"
    refine Sit.range (by assumption) (fun a9 s9 _ hr9 S9 => ?_)
    obtain ⟨S9, hD9, _⟩ := back _ _ _ _ S9
    exact ⟨a9, _, _, _, rfl, S9, hr9, fun a ha => by rw [List.mem_singleton.mp ha]; obtain ⟨o, n, e, _⟩ := hD9; exact ⟨o, e⟩, rfl, rfl, [], rfl, rfl, hD9⟩
  case body1 =>
    intro sb k tk s4 m' cm' fs' hk Ob hid hK S4
    obtain ⟨s4', hK, _, hk4⟩ := hK
    have hK4 := hK.store (x := Str.ofString "k") (v := .int (k : Int) tk) (by decide) (by decide) hDL hk4
    generalize hm4 : (fun y => if y = Str.ofString "k" then some (.int (k : Int) tk) else m' y) = m4 at S4 hK4
    have hmk : m4 "k" = some (.int (k : Int) tk) := by rw [← hm4]; rfl
    clear hm4 hK hk4
    refine wpAny_execs_cons ?_
    refine Sit.forR (mg := mg) (mb := mb) (sp := sc 12) (K := fun j m cm fs s => m "k" = some (.int (k : Int) tk) ∧ Gath l D vs (endsK ns k ++ endsJ ns j k) m fs s) (n := k) Ob [D] hid hh (by decide +kernel) (by omega) (fun _ _ _ _ _ _ hg _ hk => ⟨hg.1, hGm _ _ _ _ _ hg.2 hk⟩) ?hit2 ?body2 ?fin2
    case hit2 =>
      obtain ⟨e1, e2, ps, h3, h4, hP⟩ := hK4
      obtain ⟨sc, Oc, Sc, back⟩ := S4.across Ob hP
      clear S4
      repeat walk_at "m go"
      refine Sit.range (by assumption) (fun a9 s9 _ hr9 S9 => ?_)
      obtain ⟨S9, hD9, _⟩ := back _ _ _ _ S9
      exact ⟨a9, _, _, _, rfl, S9, hr9, fun a ha => by rw [List.mem_singleton.mp ha]; obtain ⟨o, n, e, _⟩ := hD9; exact ⟨o, e⟩, hmk, e1, e2, ps, by rw [h3]; simp [endsJ], h4, hD9⟩
    case fin2 =>
      intro s' m' cm' fs' S' hK
      refine wpAny_execs_nil ⟨rfl, _, _, _, S', ?_⟩
      rw [endsK_succ]; exact hK.2
    case body2 =>
      intro sb j tj s5 m' cm' fs' hj Oc hid hK S5
      obtain ⟨s5', ⟨hmk', hK⟩, _, hk5⟩ := hK
      have hK5 := hK.store (x := Str.ofString "j") (v := .int (j : Int) tj) (by decide) (by decide) hDL hk5
      generalize hm5 : (fun y => if y = Str.ofString "j" then some (.int (j : Int) tj) else m' y) = m5 at S5 hK5
      have hmj : m5 "j" = some (.int (j : Int) tj) := by rw [← hm5]; rfl
      have hmk5 : m5 "k" = some (.int (k : Int) tk) := by rw [← hm5]; exact hmk'
      clear hm5 hK hk5
      refine wpAny_execs_cons ?_
      refine Sit.forR (mg := mg) (mb := mb) (sp := sc 12) (K := fun i m cm fs s => m "k" = some (.int (k : Int) tk) ∧ m "j" = some (.int (j : Int) tj) ∧ Gath l D vs (endsK ns k ++ endsJ ns j k ++ endsI ns i j k) m fs s) (n := j) Oc [D] hid hh (by decide +kernel) (by omega) (fun _ _ _ _ _ _ hg _ hk => ⟨hg.1, hg.2.1, hGm _ _ _ _ _ hg.2.2 hk⟩) ?hit3 ?body3 ?fin3
      case hit3 =>
        obtain ⟨e1, e2, ps, h3, h4, hP⟩ := hK5
        obtain ⟨sc, Oc, Sc, back⟩ := S5.across Oc hP
        clear S4 S5
        repeat walk_at "m go"
        refine Sit.range (by assumption) (fun a9 s9 _ hr9 S9 => ?_)
        obtain ⟨S9, hD9, _⟩ := back _ _ _ _ S9
        exact ⟨a9, _, _, _, rfl, S9, hr9, fun a ha => by rw [List.mem_singleton.mp ha]; obtain ⟨o, n, e, _⟩ := hD9; exact ⟨o, e⟩, hmk5, hmj, e1, e2, ps, by rw [h3]; simp [endsI], h4, hD9⟩
      case fin3 =>
        intro s' m' cm' fs' S' hK
        refine wpAny_execs_nil ⟨rfl, _, _, _, S', hK.1, ?_⟩
        rw [endsJ_succ, ← List.append_assoc]; exact hK.2.2
      case body3 =>
        intro sb i ti s6 m' cm' fs' hi Od hid hK S6
        obtain ⟨s6', ⟨hmk', hmj', hK⟩, _, hk6⟩ := hK
        obtain ⟨e1, e2, ps, h3, h4, hP⟩ := hK.store (x := Str.ofString "i") (v := .int (i : Int) ti) (by decide) (by decide) hDL hk6
        generalize hm6 : (fun y => if y = Str.ofString "i" then some (.int (i : Int) ti) else m' y) = m6 at S6 e1 e2
        have hmi : m6 "i" = some (.int (i : Int) ti) := by rw [← hm6]; rfl
        have hmk6 : m6 "k" = some (.int (k : Int) tk) := by rw [← hm6]; exact hmk'
        have hmj6 : m6 "j" = some (.int (j : Int) tj) := by rw [← hm6]; exact hmj'
        clear hm6 hK hk6 S4 S5 hK4 hK5
        subst h4
        obtain ⟨sc, Oe, Se, back⟩ := S6.across Od hP
        clear S6
        obtain ⟨ni, ui, ai1, ai2, ai3, ai4⟩ := fls_item hf (k := i) (by omega)
        obtain ⟨nj, uj, aj1, aj2, aj3, aj4⟩ := fls_item hf (k := j) (by omega)
        obtain ⟨nk, uk, ak1, ak2, ak3, ak4⟩ := fls_item hf (k := k) (by omega)
        refine wpAny_execs_cons (wpAny_Expr (wpAny_Call_append rfl rfl rfl rfl ?_) (hi := rfl) (hs := rfl))
        repeat walk_at "m go"
        refine ⟨D, _, rfl, hP, ?_⟩
        repeat walk_at "m go"
        refine itemL (Sit.list (by assumption) (.head _)) (by omega) (by omega) (by rw [Int.toNat_natCast]; exact ai1) ?_
        repeat walk_at "m go"
        refine itemL (Sit.list (by assumption) (.head _)) (by omega) (by omega) (by rw [Int.toNat_natCast]; exact aj1) ?_
        repeat walk_at "m go"
        refine itemL (Sit.list (by assumption) (.head _)) (by omega) (by omega) (by rw [Int.toNat_natCast]; exact ak1) ?_
        repeat walk_at "m go"
        have bi := hb ni (List.mem_of_getElem? ai2)
        have bj := hb nj (List.mem_of_getElem? aj2)
        have bk := hb nk (List.mem_of_getElem? ak2)
        refine ends_spec (Sit.here (by assumption)) (FnOk.keeps (by assumption) (Sit.keep (by assumption))) R1 bi.1 bj.1 bk.1 bi.2 bj.2 bk.2 (fun r s7 t1 t2 k7 _ _ ft mem => ?_)
        have S7 := (Sit.kept (by assumption) k7).more ft
        obtain ⟨S8, hP8, _⟩ := back _ _ _ _ S7
        refine Sit.append S8 (hid D (.head _)) hP8 ?_ ?_ (fun s9 _ hP9 S9 => ?_)
        · intro f hf
          rcases List.mem_cons.mp hf with rfl | hf
          · exact tup_ne_plain (S8.facts _ (.head _)) rfl hP8
          · rcases List.mem_cons.mp hf with rfl | hf
            · exact hlD
            · have hat := S8.facts f (.tail _ (.tail _ hf))
              obtain ⟨p, _, rfl⟩ := List.mem_map.mp hf
              exact tup_ne_plain hat rfl hP8
        · have e3 := congrArg List.length h3
          have e4 := endsK_len ns k (by omega)
          have e5 := endsJ_len ns k j (by omega)
          have e6 := endsI_len ns i j k
          simp only [List.length_append, List.length_map] at e3
          rw [sizeLine_eq, List.length_map]; omega
        have S10 := S9.less (gs := ⟨l, false, vs⟩ :: (ps ++ [(r, (min (min ni nj) nk, max (max ni nj) nk), t1, t2)]).map EndAt.fact) (fun g hg => by
          rcases List.mem_cons.mp hg with rfl | hg
          · exact .tail _ (.head _)
          · rw [List.map_append] at hg
            rcases List.mem_append.mp hg with hg | hg
            · exact .tail _ (.tail _ hg)
            · rw [List.mem_singleton.mp hg]; exact .head _)
        refine wpAny_execs_nil ⟨rfl, _, _, _, S10, hmk6, hmj6, e1, e2, _, ?_, rfl, ?_⟩
        · rw [List.map_append, h3, endsI_succ, ← List.append_assoc]
          have : end3 ns i j k = (min (min ni nj) nk, max (max ni nj) nk) := by
            unfold end3
            rw [List.getD_eq_getElem?_getD, List.getD_eq_getElem?_getD, List.getD_eq_getElem?_getD, ai2, aj2, ak2]; rfl
          rw [this]; rfl
        · rw [List.map_append]; exact hP9
  case fin1 =>
    intro s' m' cm' fs' S' hK
    obtain ⟨e1, e2, ps, h3, rfl, hP⟩ := hK
    replace S' := S'.more (Fact.of_list hP.isList)
    clear S3 hD3 hP hGm
    refine wpAny_execs_cons ?_
    refine wpAny_For ?_
    repeat walk_at "m go"
    rename_i t44 _ _ _ t4 _ _ _ a4 _ _ _ t5 _ _ _ t10 _ _ _ a5 _ _ _ ao so _ S7
    generalize hFS : (_ :: _ : List Fact) = FS at S7
    have mO : ⟨ao, true, [.ref a4, .ref a5]⟩ ∈ FS := by rw [← hFS]; exact .head _
    have m5 : ⟨a5, true, [.int (5 : Nat) t5, .int (10 : Nat) t10]⟩ ∈ FS := by rw [← hFS]; exact .tail _ (.head _)
    have m4 : ⟨a4, true, [.int (4 : Nat) t44, .int (4 : Nat) t4]⟩ ∈ FS := by rw [← hFS]; exact .tail _ (.tail _ (.head _))
    have mD : ⟨D, false, ps.map EndAt.val⟩ ∈ FS := by rw [← hFS]; exact .tail _ (.tail _ (.tail _ (.head _)))
    have ml : ⟨l, false, vs⟩ ∈ FS := by rw [← hFS]; exact .tail _ (.tail _ (.tail _ (.tail _ (.head _))))
    have mP : ∀ p ∈ ps, p.fact ∈ FS := fun p hp => by rw [← hFS]; exact .tail _ (.tail _ (.tail _ (.tail _ (.tail _ (List.mem_map_of_mem hp)))))
    clear hFS
    have hps : ps.length = 10 := by rw [← List.length_map (f := (·.2.1)), h3, ends10_len]
    have hoo : ao ∉ ownAt ⟨sc 12, L, eg, cellsFrom (L + 1) (sc 12).names [], eq, ef, eco, efr, eb⟩ ++ [] := fun hm => by
      rw [List.append_nil] at hm
      rcases of_ownAt hm with h1 | ⟨n, hn⟩
      · exact (S7.facts _ mO).ne_ns S7.ns h1
      · exact (S7.facts _ mO).ne_cell (S7.cell n _ hn) rfl
    have hE5 : ∀ p ∈ ps, p.2.1.1 < 2 ^ 53 ∧ p.2.1.2 < 2 ^ 53 := fun p hp => by
      have := List.mem_map_of_mem (f := fun p : EndAt => p.2.1) hp
      rw [h3] at this
      exact ends_lt (fun n hn => by have := hb n hn; omega) this
    refine Sit.forT (mg := mg) (mb := mb) (sp := sc 12) (K := fun i m cm fs s => m "five" = some (.ref l) ∧ m "ends" = some (.ref D) ∧ fs = FS) O [] (fun _ h => nomatch h) (fun _ _ _ _ _ _ hg _ _ => hg) S7 (fun _ h => nomatch h) ⟨e1, e2, rfl⟩ (iterL_tuple hh (S7.tup mO) hoo) ?body4 ?fin4
    case fin4 =>
      intro s' m' cm' fs' S' hK
      clear S7
      repeat walk_at "m go"
      exact h _ S'.done
    case body4 =>
      intro sb i v s8 m' cm' fs' hi hPv hK Ob _ S8
      obtain ⟨e1', e2', rfl⟩ := hK
      clear S7
      obtain ⟨a, M, N, tM, tN, rfl, hmem, hM1, hM5, hN1, hN10, hlo, hhi⟩ : ∃ a M N tM tN, v = .ref a ∧ ⟨a, true, [.int (M : Nat) tM, .int (N : Nat) tN]⟩ ∈ fs' ∧ 1 ≤ M ∧ M ≤ 5 ∧ 1 ≤ N ∧ N ≤ 10 ∧
          lowM (ns.take M) = maxN (((endsK ns 5).take N).map (·.1)) ∧ highM (ns.take M) = minN (((endsK ns 5).take N).map (·.2)) := by
        match i, hi, hPv with
        | 0, _, hPv => cases hPv; exact ⟨a4, 4, 4, _, _, rfl, m4, by decide, by decide, by decide, by decide, ch_low4 h5, ch_high4 h5⟩
        | 1, _, hPv => cases hPv; exact ⟨a5, 5, 10, _, _, rfl, m5, by decide, by decide, by decide, by decide, ch_low5 h5, ch_high5 h5⟩
      refine Sit.unpack2 S8 hh (Sit.tup S8 hmem) (fun _ _ _ => ?_)
      clear S8
      repeat walk_at "m go"
      rename_i s9 _ S9 f9 F9
      obtain ⟨m9, S9, g1, g2, g3, g4⟩ : ∃ m9 : Str → Option Value, Sit mg mb (sc 12) sb ⟨sc 12, L, eg, cellsFrom (L + 1) (sc 12).names [], eq, ef, eco, efr, eb⟩ m9 cm' fs' s9 ∧ m9 "five" = some (.ref l) ∧ m9 "ends" = some (.ref D) ∧ m9 "many" = some (.int (M : Nat) tM) ∧ m9 "threes" = some (.int (N : Nat) tN) := by
        refine ⟨_, S9, ?_⟩
        exact ⟨e1', e2', rfl, rfl⟩
      have hfM : Fls (vs.take M) (ns.take M) := hf.take M
      have hlM : (ns.take M).length = M := by rw [List.length_take]; omega
      refine sliceL ?_
      repeat walk_at "m go"
      refine wpAny_of_eq (a := Value.none) rfl ?_
      repeat walk_at "m go"
      refine ⟨l, vs, none, some (M : Int), rfl, S9.list ml, by rw [sizeLine_eq]; omega, .none, .int _ _, fun al s10 k ft => ?_⟩
      rw [slicePick_upto vs.toArray M (by simp; omega)] at ft
      have S10 := (S9.kept k).more ft
      clear k
      repeat walk_at "m go"
      refine low_spec (Sit.here (by assumption)) (FnOk.keeps (by assumption) (Sit.keep (by assumption))) (R1.le (by omega)) (Sit.facts (by assumption) _ (.head _)) hfM (by omega) (by omega) (fun s5 n5 t5 ns' k5 hp hw hat hn53 hmem => ?_)
      have e5 := low_of hp hw hat
      have S11 := S10.kept k5
      clear hp hw hat hmem k5
      repeat walk_at "m go"
      refine Sit.comp S11 fs' (n := N) (P := fun i v => ((ps.map EndAt.val).take N)[i]? = some v) (J := fun i ys _ => Fls ys ((((endsK ns 5).take N).map (fun p : Nat × Nat => p.1)).take i))
        (frees_ok (by decide +kernel)) (by rw [sizeLine_eq]; omega) (by decide +kernel) rfl (by decide +kernel) (by decide +kernel) (fun _ _ _ _ q _ => q) ?hit5 ?helt5 ?hfin5
      case hit5 =>
        refine sliceL ?_
        repeat walk_at "m go"
        refine wpAny_of_eq (a := Value.none) rfl ?_
        repeat walk_at "m go"
        refine ⟨D, ps.map EndAt.val, none, some (N : Int), rfl, Sit.list S11 (.tail _ mD), by rw [sizeLine_eq, List.length_map]; omega, .none, .int _ _, fun al s10 k ft => ?_⟩
        rw [slicePick_upto _ N (by simp; omega)] at ft
        refine ⟨(S11.kept k).less (fun g hg => .tail _ hg), ?_, ?_⟩
        · have e : N = ((ps.map EndAt.val).take N).length := by simp; omega
          have := iter_listF (prog := prog) (w := w) (E := fun _ _ => False) hh ft.list
          simp only [List.toList_toArray] at this
          rw [← e] at this
          exact this
        · rw [List.take_zero]; exact .nil
      case helt5 =>
        intro C i v s₃ m₃ ys hi hv hm SC hJ
        rw [List.getElem?_take_of_lt hi, List.getElem?_map, Option.map_eq_some_iff] at hv
        obtain ⟨p, hp, rfl⟩ := hv
        have hpf : (((endsK ns 5).take N).map (fun p : Nat × Nat => p.1))[i]? = some p.2.1.1 := by
          rw [← h3, List.getElem?_map, List.getElem?_take_of_lt hi, List.getElem?_map, hp]; rfl
        have hp53 : p.2.1.1 < 2 ^ 53 := hE5 p (List.mem_of_getElem? hp) |>.1
        change m₃ _ = some (.ref p.1) at hm
        repeat walk_at "m go"
        refine itemT (j := 0) (Sit.tup (by assumption) (mP p (List.mem_of_getElem? hp))) (by decide) (by decide) rfl rfl ?_
        refine ⟨Sit.done (by assumption), ?_⟩
        rw [List.take_add_one, hpf]
        exact hJ.snoc hp53
      case hfin5 =>
        intro DD s' ys SD _ hJ _
        rw [List.take_of_length_le (by simp; omega)] at hJ
        have hne : 0 < (((endsK ns 5).take N).map (fun p : Nat × Nat => p.1)).length := by rw [List.length_map, List.length_take, ends10_len]; omega
        repeat walk_at "m go"
        refine maxL hh (Sit.list SD (.head _)) hJ hne (fun t6 s6 k6 => ?_)
        have S12 := (SD.kept k6).less (gs := fs') (fun g hg => .tail _ hg)
        rw [← hlo, ← e5]
        clear SD S11 S10 S9 k6 hJ
        repeat walk_at "m go"
        refine sliceL ?_
        repeat walk_at "m go"
        refine wpAny_of_eq (a := Value.none) rfl ?_
        repeat walk_at "m go"
        refine ⟨l, vs, none, some (M : Int), rfl, S12.list ml, by rw [sizeLine_eq]; omega, .none, .int _ _, fun al s10 k ft => ?_⟩
        rw [slicePick_upto vs.toArray M (by simp; omega)] at ft
        have S13 := (S12.kept k).more ft
        clear k
        repeat walk_at "m go"
        refine high_spec (Sit.here (by assumption)) (FnOk.keeps (by assumption) (Sit.keep (by assumption))) (R1.le (by omega)) (Sit.facts (by assumption) _ (.head _)) hfM (by omega) (by omega) (fun s5 n6 t5 ns' k5 hp hw hat hn53 hmem => ?_)
        have e6 := high_of hp hw hat
        have S14 := S13.kept k5
        clear hp hw hat hmem k5
        repeat walk_at "m go"
        refine Sit.comp S14 fs' (n := N) (P := fun i v => ((ps.map EndAt.val).take N)[i]? = some v) (J := fun i ys _ => Fls ys ((((endsK ns 5).take N).map (fun p : Nat × Nat => p.2)).take i))
          (frees_ok (by decide +kernel)) (by rw [sizeLine_eq]; omega) (by decide +kernel) rfl (by decide +kernel) (by decide +kernel) (fun _ _ _ _ q _ => q) ?hit6 ?helt6 ?hfin6
        case hit6 =>
          refine sliceL ?_
          repeat walk_at "m go"
          refine wpAny_of_eq (a := Value.none) rfl ?_
          repeat walk_at "m go"
          refine ⟨D, ps.map EndAt.val, none, some (N : Int), rfl, Sit.list S14 (.tail _ mD), by rw [sizeLine_eq, List.length_map]; omega, .none, .int _ _, fun al s10 k ft => ?_⟩
          rw [slicePick_upto _ N (by simp; omega)] at ft
          refine ⟨(S14.kept k).less (fun g hg => .tail _ hg), ?_, ?_⟩
          · have e : N = ((ps.map EndAt.val).take N).length := by simp; omega
            have := iter_listF (prog := prog) (w := w) (E := fun _ _ => False) hh ft.list
            simp only [List.toList_toArray] at this
            rw [← e] at this
            exact this
          · rw [List.take_zero]; exact .nil
        case helt6 =>
          intro C i v s₃ m₃ ys hi hv hm SC hJ
          rw [List.getElem?_take_of_lt hi, List.getElem?_map, Option.map_eq_some_iff] at hv
          obtain ⟨p, hp, rfl⟩ := hv
          have hpf : (((endsK ns 5).take N).map (fun p : Nat × Nat => p.2))[i]? = some p.2.1.2 := by
            rw [← h3, List.getElem?_map, List.getElem?_take_of_lt hi, List.getElem?_map, hp]; rfl
          have hp53 : p.2.1.2 < 2 ^ 53 := hE5 p (List.mem_of_getElem? hp) |>.2
          change m₃ _ = some (.ref p.1) at hm
          repeat walk_at "m go"
          refine itemT (j := 1) (Sit.tup (by assumption) (mP p (List.mem_of_getElem? hp))) (by decide) (by decide) rfl rfl ?_
          refine ⟨Sit.done (by assumption), ?_⟩
          rw [List.take_add_one, hpf]
          exact hJ.snoc hp53
        case hfin6 =>
          intro DD s' ys SD _ hJ _
          rw [List.take_of_length_le (by simp; omega)] at hJ
          have hne : 0 < (((endsK ns 5).take N).map (fun p : Nat × Nat => p.2)).length := by rw [List.length_map, List.length_take, ends10_len]; omega
          repeat walk_at "m go"
          refine minL hh (Sit.list SD (.head _)) hJ hne (fun t6 s6 k6 => ?_)
          have S15 := (SD.kept k6).less (gs := fs') (fun g hg => .tail _ hg)
          rw [← hhi, ← e6]
          clear SD S14 S13 S12 k6 hJ
          repeat walk_at "m go"
          exact ⟨rfl, _, _, _, S15, g1, g2, rfl⟩
end
/-! the plain law, by thresholds -/
def bits (t : Nat) (ns : List Nat) : List Bool := ns.map (bit t)
def widenB (bs : List Bool) : List Bool := [bs.headD false, bs.headD false] ++ bs ++ [bs.getLastD false, bs.getLastD false]
def e3B (d : Bool) (a b c : Bool) : Bool := if d then (a || b || c) else (a && b && c)
def slideB (d : Bool) (bs : List Bool) (n : Nat) : List Bool := (List.range n).map fun j => e3B d (bs.getD j false) (bs.getD (j + 1) false) (bs.getD (j + 2) false)
def passB (bs : List Bool) (d : Bool) : List Bool := slideB (!d) (slideB d (widenB bs) (bs.length + 2)) bs.length
def medsB (bs : List Bool) : List Bool := (List.range bs.length).map fun j => decide (3 ≤ (((widenB bs).drop j).take 5).countP id)
def openB (bs : List Bool) : List Bool := passB (passB bs false) true
def closeB (bs : List Bool) : List Bool := passB (passB bs true) false
theorem bits_getD {t : Nat} (ht : 0 < t) (ns : List Nat) (j : Nat) : bit t (ns.getD j 0) = (bits t ns).getD j false := by
  unfold bits
  rw [List.getD_eq_getElem?_getD, List.getD_eq_getElem?_getD, List.getElem?_map]
  cases ns[j]? with
  | none => exact bit_0 ht
  | some n => rfl
theorem bits_length (t : Nat) (ns : List Nat) : (bits t ns).length = ns.length := List.length_map ..
theorem bits_widen {t : Nat} (ht : 0 < t) (ns : List Nat) : bits t (widen ns) = widenB (bits t ns) := by
  have h0 : bit t (ns.headD 0) = (bits t ns).headD false := by
    cases ns with
    | nil => exact bit_0 ht
    | cons a r => rfl
  have h1 : bit t (ns.getLastD 0) = (bits t ns).getLastD false := by
    rw [List.getLastD_eq_getLast?, List.getLastD_eq_getLast?]
    unfold bits
    rw [List.getLast?_map]
    cases ns.getLast? with
    | none => exact bit_0 ht
    | some n => rfl
  unfold widen widenB
  rw [← h0, ← h1]
  simp [bits]
theorem bit_e3 (t : Nat) (d : Int) (a b c : Nat) : bit t (e3 d a b c) = e3B (!decide (d = 0)) (bit t a) (bit t b) (bit t c) := by
  unfold e3 e3B
  by_cases h : d = 0
  · simp [h, bit_min, Bool.and_assoc]
  · simp [h, bit_max, Bool.or_assoc]
theorem bits_slide {t : Nat} (ht : 0 < t) (d : Int) (ns : List Nat) (n : Nat) : bits t (slide d ns n) = slideB (!decide (d = 0)) (bits t ns) n := by
  unfold slide slideB
  show List.map (bit t) _ = _
  rw [List.map_map]
  refine List.map_congr_left fun j _ => ?_
  show bit t (e3 _ _ _ _) = _
  rw [bit_e3, bits_getD ht, bits_getD ht, bits_getD ht]
theorem bits_pass0 {t : Nat} (ht : 0 < t) (ns : List Nat) : bits t (passN ns 0) = passB (bits t ns) false := by
  unfold passN passB
  rw [bits_slide ht, bits_slide ht, bits_widen ht, bits_length]; rfl
theorem bits_pass1 {t : Nat} (ht : 0 < t) (ns : List Nat) : bits t (passN ns 1) = passB (bits t ns) true := by
  unfold passN passB
  rw [bits_slide ht, bits_slide ht, bits_widen ht, bits_length]; rfl
theorem bits_open {t : Nat} (ht : 0 < t) (ns : List Nat) : bits t (openN ns) = openB (bits t ns) := by unfold openN openB; rw [bits_pass1 ht, bits_pass0 ht]
theorem bits_close {t : Nat} (ht : 0 < t) (ns : List Nat) : bits t (closeN ns) = closeB (bits t ns) := by unfold closeN closeB; rw [bits_pass0 ht, bits_pass1 ht]
theorem bits_meds {t : Nat} (ht : 0 < t) (ns : List Nat) : bits t (medsN ns) = medsB (bits t ns) := by
  unfold medsN medsB
  show List.map (bit t) _ = _
  rw [List.map_map, bits_length]
  refine List.map_congr_left fun j hj => ?_
  show bit t (lowM (win ns 5 j)) = _
  have hlen : (win ns 5 j).length = 5 := by
    have := List.mem_range.mp hj
    unfold win; rw [List.length_take, List.length_drop, widen_length]; omega
  rw [bit_low (by omega), hlen]
  have e : (win ns 5 j).map (bit t) = ((widenB (bits t ns)).drop j).take 5 := by
    unfold win
    rw [List.map_take, List.map_drop]
    exact congrArg (fun x => (List.drop j x).take 5) (bits_widen ht ns)
  rw [e]
theorem eq_of_bits {ns ms : List Nat} (hl : ns.length = ms.length) (h : ∀ t, 0 < t → bits t ns = bits t ms) : ns = ms := by
  refine List.ext_getElem hl fun j h1 h2 => eq_of_bit1 fun t ht => ?_
  have := congrArg (fun x : List Bool => x[j]?) (h t ht)
  simpa [bits, h1, h2] using this
theorem le_of_bits {a b : Nat} (h : ∀ t, 0 < t → bit t a = true → bit t b = true) : a ≤ b := by
  cases a with
  | zero => exact Nat.zero_le _
  | succ a => exact of_decide_eq_true (h (a + 1) (Nat.succ_pos _) (decide_eq_true (Nat.le_refl _)))
/-- passes by medians -/
def iterN : Nat → List Nat → List Nat
  | 0, ns => ns
  | k + 1, ns => medsN (iterN k ns)
def iterB : Nat → List Bool → List Bool
  | 0, ns => ns
  | k + 1, ns => medsB (iterB k ns)
theorem bits_iter {t : Nat} (ht : 0 < t) (ns : List Nat) : ∀ k, bits t (iterN k ns) = iterB k (bits t ns)
  | 0 => rfl
  | k + 1 => by show bits t (medsN _) = medsB _; rw [bits_meds ht, bits_iter ht ns k]
theorem iterN_length (ns : List Nat) : ∀ k, (iterN k ns).length = ns.length
  | 0 => rfl
  | k + 1 => (medsN_length _).trans (iterN_length ns k)
def leB : List Bool → List Bool → Bool
  | a :: r, b :: q => (!a || b) && leB r q
  | _, _ => true
theorem leB_at : ∀ {xs ys : List Bool} {j : Nat}, leB xs ys = true → xs.length = ys.length → xs.getD j false = true → ys.getD j false = true
  | [], _, _, _, _, h => by simp at h
  | _ :: _, [], _, _, h, _ => by simp at h
  | a :: r, b :: q, 0, h, _, hj => by
    simp only [leB, Bool.and_eq_true, Bool.or_eq_true] at h
    simp at hj ⊢
    simpa [hj] using h.1
  | a :: r, b :: q, j + 1, h, hl, hj => by
    simp only [leB, Bool.and_eq_true] at h
    simp only [List.getD_cons_succ] at hj ⊢
    exact leB_at h.2 (by simpa using hl) hj
/-- all that is asked of a row of bits -/
def askB (b : List Bool) : Bool :=
  (decide (openB b = b) == decide (medsB b = b)) && (decide (closeB b = b) == decide (medsB b = b)) && decide (medsB (openB b) = openB b) && decide (medsB (closeB b) = closeB b)
  && (List.range b.length).all (fun k => leB (openB b) (iterB (k + 1) b) && leB (iterB (k + 1) b) (closeB b))
  && (let r := iterB b.length b; decide (medsB r = r) && decide (openB r = r) && decide (closeB r = r))
def rowsB : Nat → List (List Bool)
  | 0 => [[]]
  | n + 1 => (rowsB n).map (false :: ·) ++ (rowsB n).map (true :: ·)
theorem mem_rowsB : ∀ (b : List Bool), b ∈ rowsB b.length
  | [] => .head _
  | false :: r => List.mem_append_left _ (List.mem_map_of_mem (mem_rowsB r))
  | true :: r => List.mem_append_right _ (List.mem_map_of_mem (mem_rowsB r))
theorem ask_all : ((List.range 5).all fun n => (rowsB n).all fun r => askB ([false, true, false, true] ++ r)) = true := by decide +kernel
theorem ask_none : ((List.range 5).all fun n => askB ([false, false, false, false] ++ List.replicate n false)) = true := by decide +kernel
theorem ask_row {xs : List Nat} (hx : xs.length ≤ 4) (hb : ∀ x ∈ xs, x ≤ 2 ^ 21) {t : Nat} (ht : 0 < t) : askB (bits t ([0, 2 ^ 21, 0, 2 ^ 21] ++ xs)) = true := by
  by_cases h : t ≤ 2 ^ 21
  · have e : bits t ([0, 2 ^ 21, 0, 2 ^ 21] ++ xs) = [false, true, false, true] ++ bits t xs := by
      unfold bits
      rw [List.map_append]
      show [bit t 0, bit t (2 ^ 21), bit t 0, bit t (2 ^ 21)] ++ _ = _
      rw [bit_0 ht, show bit t (2 ^ 21) = true from decide_eq_true h]
    rw [e]
    have h1 := List.all_eq_true.mp ask_all xs.length (List.mem_range.mpr (by omega))
    exact List.all_eq_true.mp h1 (bits t xs) (by have := mem_rowsB (bits t xs); rw [bits_length] at this; exact this)
  · have e : bits t ([0, 2 ^ 21, 0, 2 ^ 21] ++ xs) = [false, false, false, false] ++ List.replicate xs.length false := by
      unfold bits
      rw [List.map_append]
      show [bit t 0, bit t (2 ^ 21), bit t 0, bit t (2 ^ 21)] ++ _ = _
      rw [bit_0 ht, show bit t (2 ^ 21) = false from decide_eq_false h]
      congr 1
      rw [List.eq_replicate_iff]
      refine ⟨by simp, fun b hm => ?_⟩
      obtain ⟨x, hx', rfl⟩ := List.mem_map.mp hm
      exact decide_eq_false (by have := hb x hx'; omega)
    rw [e]
    exact List.all_eq_true.mp ask_none xs.length (List.mem_range.mpr (by omega))
structure Good (ns : List Nat) : Prop where
  sound : soundN ns = true
  mo : medsN (openN ns) = openN ns
  mc : medsN (closeN ns) = closeN ns
  between : ∀ k, k < ns.length → ∀ j, (openN ns).getD j 0 ≤ (iterN (k + 1) ns).getD j 0 ∧ (iterN (k + 1) ns).getD j 0 ≤ (closeN ns).getD j 0
  rm : medsN (iterN ns.length ns) = iterN ns.length ns
  ro : openN (iterN ns.length ns) = iterN ns.length ns
  rc : closeN (iterN ns.length ns) = iterN ns.length ns
theorem good_row {xs : List Nat} (hx : xs.length ≤ 4) (hb : ∀ x ∈ xs, x ≤ 2 ^ 21) : Good ([0, 2 ^ 21, 0, 2 ^ 21] ++ xs) := by
  have ha : ∀ t, 0 < t → askB (bits t ([0, 2 ^ 21, 0, 2 ^ 21] ++ xs)) = true := fun t ht => ask_row hx hb ht
  generalize [0, 2 ^ 21, 0, 2 ^ 21] ++ xs = ns at ha
  clear hx hb
  simp only [askB, Bool.and_eq_true, decide_eq_true_eq, beq_iff_eq, decide_eq_decide] at ha
  have ib : ∀ {f : List Nat → List Nat} {F : List Bool → List Bool}, (∀ xs, (f xs).length = xs.length) → (∀ t, 0 < t → ∀ xs, bits t (f xs) = F (bits t xs)) → ∀ xs, (f xs = xs ↔ ∀ t, 0 < t → F (bits t xs) = bits t xs) := by
    intro f F hl hF xs
    refine ⟨fun e t ht => by rw [← hF t ht, e], fun h => eq_of_bits (hl xs) fun t ht => by rw [hF t ht]; exact h t ht⟩
  have iM := ib (f := medsN) (F := medsB) medsN_length (fun t ht xs => bits_meds ht xs)
  have iO := ib (f := openN) (F := openB) openN_length (fun t ht xs => bits_open ht xs)
  have iC := ib (f := closeN) (F := closeB) closeN_length (fun t ht xs => bits_close ht xs)
  refine ⟨?_, ?_, ?_, ?_, ?_, ?_, ?_⟩
  · unfold soundN calmN
    rw [Bool.and_eq_true, beq_iff_eq, beq_iff_eq, decide_eq_decide, decide_eq_decide, iO, iC, iM]
    exact ⟨⟨fun h t ht => ((ha t ht).1.1.1.1.1).mp (h t ht), fun h t ht => ((ha t ht).1.1.1.1.1).mpr (h t ht)⟩, ⟨fun h t ht => ((ha t ht).1.1.1.1.2).mp (h t ht), fun h t ht => ((ha t ht).1.1.1.1.2).mpr (h t ht)⟩⟩
  · rw [iM]; intro t ht; rw [bits_open ht]; exact (ha t ht).1.1.1.2
  · rw [iM]; intro t ht; rw [bits_close ht]; exact (ha t ht).1.1.2
  · intro k hk j
    have hq : ∀ t, 0 < t → leB (openB (bits t ns)) (iterB (k + 1) (bits t ns)) = true ∧ leB (iterB (k + 1) (bits t ns)) (closeB (bits t ns)) = true := fun t ht => by
      have := List.all_eq_true.mp (ha t ht).1.2 k (by rw [bits_length]; exact List.mem_range.mpr hk)
      simpa only [Bool.and_eq_true] using this
    refine ⟨le_of_bits fun t ht h => ?_, le_of_bits fun t ht h => ?_⟩
    · rw [bits_getD ht, bits_open ht] at h
      rw [bits_getD ht, bits_iter ht]
      refine leB_at (hq t ht).1 ?_ h
      rw [← bits_open ht, ← bits_iter ht, bits_length, bits_length, openN_length, iterN_length]
    · rw [bits_getD ht, bits_iter ht] at h
      rw [bits_getD ht, bits_close ht]
      refine leB_at (hq t ht).2 ?_ h
      rw [← bits_close ht, ← bits_iter ht, bits_length, bits_length, closeN_length, iterN_length]
  · rw [iM]; intro t ht; have := (ha t ht).2.1.1; rw [bits_length] at this; rw [bits_iter ht]; exact this
  · rw [iO]; intro t ht; have := (ha t ht).2.1.2; rw [bits_length] at this; rw [bits_iter ht]; exact this
  · rw [iC]; intro t ht; have := (ha t ht).2.2; rw [bits_length] at this; rw [bits_iter ht]; exact this
/-! a comprehension whose test is never true: the list stays empty -/
section
variable {prog : Program} {w : World} {A : Around} {E : Value → Shared → Prop} {mg mb : Str → Option Value} {sp : Scope} {s₀ s : Shared} {env : Env} {m cm : Str → Option Value} {fs : List Fact} {Q : Value → Shared → Prop}
variable {elt iter tst : Expr} {x : Str} {px pos : Pos} {scope : Scope} {cl : List (Str × Addr)} {n : Nat} {P : Nat → Value → Prop}
theorem none_loop {I D C : Addr} {fp : List Addr} {St : Nat → Heap → Prop} {R : Result → Shared → Prop} {mC : Str → Option Value} (W : Walks prog w A I fp [I] n P St)
    (hkind : scope.kind = .function) (hx : scope.names.lookup x = some .local) (hDC : D ≠ C) (hDf : D ∉ fp) (hCf : C ∉ fp)
    (hst : St 0 s.heap) (hacc : s.heap.PlainList D #[]) (hn : s.heap.Ns C mC)
    (htst : ∀ i v s₃ m₃, i < n → P i v → s₃.heap.Ns C m₃ → m₃ x = some v → (∃ h tk, s₃ = { s with heap := h, toks := tk }) → s.toks ≤ s₃.toks → (∀ b o, b ≠ C → b ≠ I → b ≠ D → s.heap.get? b = some o → s₃.heap.get? b = some o) →
      wpAny (model prog w) A (isTrue tst (compEnvC scope cl C env) (eval tst (compEnvC scope cl C env))) (fun y s₄ => y = false ∧ Kp s₃ s₄) (fun _ _ => False) s₃)
    (hR : ∀ h' tk m', h'.Ns C m' → h'.IsList D (List.toArray []) → s.toks ≤ tk → (∀ b o, b ≠ C → b ≠ I → b ≠ D → s.heap.get? b = some o → h'.get? b = some o) → R (.ok .next) { s with heap := h', toks := tk }) :
    codeAny (model prog w) A (.compLoop (.ListComp elt [⟨.Name x px, iter, [tst], 0⟩] scope pos) 0 (.ref I) (.ref D) (compEnvC scope cl C env)) R s := by
  have hIC : C ≠ I := fun h => hCf (W.sub _ (by simp [h]))
  have hID : D ≠ I := fun h => hDf (W.sub _ (by simp [h]))
  have hxl : (compEnvC scope cl C env).kindOf x = some .local := lookup_relabel_local hx
  refine codeAny_compLoop_tests
    (fun k s' => ∃ i h' tk m', s' = { s with heap := h', toks := tk } ∧ St i h' ∧ h'.PlainList D (List.toArray []) ∧ h'.Ns C m' ∧ i ≤ n ∧ k = n + 1 - i ∧ s.toks ≤ tk ∧
      (∀ b o, b ≠ C → b ≠ I → b ≠ D → s.heap.get? b = some o → h'.get? b = some o)) ?_ (n + 1)
    ⟨0, s.heap, s.toks, mC, rfl, hst, hacc, hn, Nat.zero_le _, rfl, Nat.le_refl _, fun _ _ _ _ _ e => e⟩
  rintro k s' ⟨i, H, tk, m', rfl, hst', hacc', hn', hi, rfl, htk, hk⟩
  by_cases hlt : i < n
  · refine wpAny_mono (wpAny_toks_of (n := tk) (Nat.le_refl _) (W.item i _ (fun r s₁ => match r with
        | none => False
        | some v => ∃ h₁ tk₁, s₁ = { s with heap := h₁, toks := tk₁ } ∧ P i v ∧ St (i + 1) h₁ ∧ ∀ b o, b ∉ [I] → H.get? b = some o → h₁.get? b = some o) (fun _ _ => False) hlt hst' fun v h₁ tk₁ hPv hst₁ hk₁ => ⟨h₁, tk₁, rfl, hPv, hst₁, hk₁⟩)) (fun r s₁ q => ?_) fun _ _ q => q.2.elim
    obtain ⟨hle, q⟩ := q
    cases r with
    | none => exact q.elim
    | some v =>
    obtain ⟨h₁, tk₁, rfl, hPv, hst₁, hk₁⟩ := q
    have keep₁ : ∀ b o, b ≠ I → H.get? b = some o → h₁.get? b = some o := fun b o hb => hk₁ b o (by simpa using hb)
    refine wpAny_assign_Name (wpAny_storeName_local hxl (hn'.at' fun o e => keep₁ _ o hIC e) (fun h₂ hn₂ hs₂ => ?_) (by simp [compEnvC, relabel, hkind]))
    have up₂ : ∀ b o, b ≠ C → b ≠ I → H.get? b = some o → h₂.get? b = some o := fun b o hbC hbI e => hs₂.extBut b o hbC (keep₁ b o hbI e)
    have hle' : tk ≤ tk₁ + 1 := Nat.le_succ_of_le hle
    refine wpAny_tests_one (wpAny_mono (htst i v _ _ hlt hPv hn₂ (by simp) ⟨_, _, rfl⟩ (Nat.le_trans htk hle') (fun b o hbC hbI hbD e => up₂ b o hbC hbI (hk b o hbC hbI hbD e))) (fun y s₄ h₄ => ?_) fun _ _ q => q.elim)
    obtain ⟨rfl, ⟨h₄, tk₄, rfl, hk₄⟩, hl₄⟩ := h₄
    show ∃ _, _
    have hst₂ : St (i + 1) h₂ := W.frame _ _ _ hst₁ fun b hb o e => hs₂.extBut b o (fun h => hCf ((show b = C from h) ▸ hb)) e
    have hacc₄ : h₄.PlainList D (List.toArray []) := hacc'.at fun o e => hk₄ _ o (up₂ D o hDC hID e)
    exact ⟨n + 1 - (i + 1), by omega, i + 1, h₄, tk₄, _, rfl, W.frame _ _ h₄ hst₂ fun b hb o e => hk₄ b o e, hacc₄, hn₂.keeps hk₄, hlt, rfl, Nat.le_trans htk (Nat.le_trans hle' hl₄), fun b o hbC hbI hbD e => hk₄ b o (up₂ b o hbC hbI (hk b o hbC hbI hbD e))⟩
  · have hin : i = n := by omega
    refine wpAny_mono (wpAny_toks_of (n := tk) (Nat.le_refl _) (W.done _ (fun r s₁ => r = none ∧ ∃ h₁ tk₁, s₁ = { s with heap := h₁, toks := tk₁ } ∧ ∀ b o, b ∉ [I] → H.get? b = some o → h₁.get? b = some o) (fun _ _ => False) (hin ▸ hst') fun h₁ tk₁ hk₁ => ⟨rfl, h₁, tk₁, rfl, hk₁⟩)) (fun r s₁ q => ?_) fun _ _ q => q.2.elim
    obtain ⟨hle, rfl, h₁, tk₁, rfl, hk₁⟩ := q
    have keep₁ : ∀ b o, b ≠ I → H.get? b = some o → h₁.get? b = some o := fun b o hb => hk₁ b o (by simpa using hb)
    exact hR h₁ tk₁ m' (hn'.at' fun o e => keep₁ _ o hIC e) (hacc'.at fun o e => keep₁ _ o hID e).isList (Nat.le_trans htk hle) fun b o hbC hbI hbD e => keep₁ b o hbI (hk b o hbC hbI hbD e)
theorem none_core {use : Option (Value → Sem Unit)} {s₁ s₂ : Shared} {it : Value} {RR : Value → Addr → Result → Shared → Prop} (S : Sit mg mb sp s₀ env m cm fs s₁) (hI : Iter prog w A n P s₁ it s₂)
    (hcell : ∀ y ∈ scope.names, y.2 ≠ .cell) (hkind : scope.kind = .function) (hx : scope.names.lookup x = some .local) (hfr : ∀ p ∈ scope.names, p.2 = .free → (env.cells.lookup p.1).isSome = true)
    (htst : ∀ C i v s₃ m₃, i < n → P i v → m₃ x = some v → CSit mg mb sp scope env C m₃ cm fs s₃ → Gr s₁.heap s₃.heap →
      wpAny (model prog w) A (isTrue tst (compEnvC scope (closOf env.cells scope.names []) C env) (eval tst (compEnvC scope (closOf env.cells scope.names []) C env))) (fun y s₄ => y = false ∧ Kp s₃ s₄) (fun _ _ => False) s₃)
    (hRR : ∀ D C h' tk m', s₁.heap.get? C = none → D ≠ C → h'.Ns C m' → Fact.At ⟨D, false, []⟩ h' → s₁.toks ≤ tk → Gr s₁.heap h' → RR (.ref D) C (.ok .next) { s₁ with heap := h', toks := tk }) :
    wpAny (model prog w) A (newList []) (fun acc s₃ => wpAny (model prog w) A (newFunctionEnv scope env.globals (closOf env.cells scope.names []) [] env.qual none .none (some env)) (fun cenv s₄ =>
      codeAny (model prog w) A (.compStart (.ListComp elt [⟨.Name x px, iter, [tst], 0⟩] scope pos) 0 it acc { cenv with scope := relabel scope env }) (RR acc cenv.locals) s₄) E s₃) E s₂ := by
  obtain ⟨I, fp, St, rfl, W, hst, hfp, hIn, ⟨h2, tk2, rfl, hg2⟩, htk2⟩ := hI
  refine wpAny_newObj_type (wpAny_newFunctionEnv hcell (by intro y hy; simp at hy) (fun h₁ hns₁ hsb₁ => ?_) hkind)
  dsimp only at hns₁ hsb₁ hst hfp htk2 ⊢
  generalize hH2 : h2.push { cls := .type "list", dict := none, data := .seq ([] : List Value).toArray } = H2 at hns₁ hsb₁ ⊢
  have hC : H2.objs.size = h2.objs.size + 1 := by rw [← hH2, Heap.size_push]
  have hDC : h2.objs.size ≠ H2.objs.size := by rw [hC]; exact Nat.ne_of_lt (Nat.lt_succ_self _)
  have below : ∀ b, b < h2.objs.size → b ≠ H2.objs.size ∧ b ≠ h2.objs.size := fun b hb => ⟨by rw [hC]; exact Nat.ne_of_lt (Nat.lt_succ_of_lt hb), Nat.ne_of_lt hb⟩
  have hDf : h2.objs.size ∉ fp := fun hm => Nat.lt_irrefl _ (hfp _ hm)
  have hCf : H2.objs.size ∉ fp := fun hm => by have := hfp _ hm; rw [hC] at this; exact Nat.lt_irrefl _ (Nat.lt_of_succ_lt this)
  have old : ∀ b o, h2.get? b = some o → h₁.get? b = some o := fun b o e => hsb₁.extBut b o (below b (Heap.lt_size e)).1 (Heap.get?_push_of_some _ (hH2 ▸ Heap.get?_push_of_some _ e))
  have hacc : h₁.PlainList h2.objs.size #[] := ⟨_, hsb₁.extBut _ _ hDC (Heap.get?_push_of_some _ (hH2 ▸ Heap.get?_push_size _ rfl))⟩
  have hst₁ : St 0 h₁ := W.frame _ _ _ hst fun b _ o e => old b o e
  have up : ∀ h', (∀ b o, b ≠ H2.objs.size → b ≠ I → b ≠ h2.objs.size → h₁.get? b = some o → h'.get? b = some o) → Gr s₁.heap h' := fun h' hk b o e =>
    hk b o (below b (Heap.lt_size (hg2 b o e))).1 (fun q => by rw [q, hIn] at e; cases e) (below b (Heap.lt_size (hg2 b o e))).2 (old b o (hg2 b o e))
  have hCn : s₁.heap.get? H2.objs.size = none := by
    cases e : s₁.heap.get? H2.objs.size with
    | none => rfl
    | some o' => have := Heap.lt_size (hg2 _ _ e); rw [hC] at this; exact absurd this (Nat.not_lt.mpr (Nat.le_succ _))
  have loop : ∀ s₃ : Shared, s₃ = { s₁ with heap := h₁, toks := tk2 + ([] : List (Str × Value)).length } →
      codeAny (model prog w) A (.compLoop (.ListComp elt [⟨.Name x px, iter, [tst], 0⟩] scope pos) 0 (.ref I) (.ref h2.objs.size) (compEnvC scope (closOf env.cells scope.names []) H2.objs.size env))
        (RR (.ref h2.objs.size) H2.objs.size) s₃ := by
    rintro s₃ rfl
    refine none_loop W hkind hx hDC hDf hCf hst₁ hacc hns₁ (fun i v s₃ m₃ hi hP hn₃ hm₃ hsame htk₃ hk₃ => ?_) fun h' tk m' hn' hl' htk hk => ?_
    · have g : Gr s₁.heap s₃.heap := up _ hk₃
      refine htst _ i v s₃ m₃ hi hP hm₃ ?_ g
      exact ⟨⟨_, _, rfl⟩, Nat.le_refl _, fun _ _ e => e, hn₃, fun n c hc => (S.cell n c (closOf_sub scope.names [] hfr (fun _ _ q => by simp at q) n c hc)).keeps g, S.here.keeps g, fun f hf => (S.facts f hf).keeps g, S.glob, S.blt, hkind, relab_eq S.scp⟩
    · exact hRR _ _ h' tk m' hCn hDC hn' (Fact.of_list hl') (Nat.le_trans htk2 htk) (up _ hk)
  exact codeAny_compStart_list (loop _ rfl) (W.self 0 _ _ _ hst₁ (loop _ rfl))
theorem Sit.compNone (S0 : Sit mg mb sp s₀ env m cm fs s) (fs₁ : List Fact) (hfr : ∀ p ∈ scope.names, p.2 = .free → (env.cells.lookup p.1).isSome = true)
    (hcell : ∀ y ∈ scope.names, y.2 ≠ .cell) (hkind : scope.kind = .function) (hnames : ∀ y ∈ scope.names, y.2 = .local → scope.names.lookup y.1 = some .local) (hx : scope.names.lookup x = some .local)
    (hit : wpAny (model prog w) A (eval iter env) (fun xv s₁ => Sit mg mb sp s₀ env m cm fs₁ s₁ ∧ wpAny (model prog w) A (pyIter xv) (Iter prog w A n P s₁) (fun _ _ => False) s₁) (fun _ _ => False) s)
    (htst : ∀ C i v s₃ m₃, i < n → P i v → m₃ x = some v → CSit mg mb sp scope env C m₃ cm fs₁ s₃ →
      wpAny (model prog w) A (isTrue tst (compEnvC scope (closOf env.cells scope.names []) C env) (eval tst (compEnvC scope (closOf env.cells scope.names []) C env))) (fun y s₄ => y = false ∧ Kp s₃ s₄) (fun _ _ => False) s₃)
    (h : ∀ D s', Sit mg mb sp s₀ env m cm (⟨D, false, []⟩ :: fs₁) s' → s.toks ≤ s'.toks → Q (.ref D) s')
    (hs : ∀ x, foldedSetIterable iter env x = pure x := by intro _; rfl) :
    wpAny (model prog w) A (eval (.ListComp elt [⟨.Name x px, iter, [tst], 0⟩] scope pos) env) Q E s := by
  rw [eval_ListComp]
  refine wpAny_comprehension_free (use := none) rfl hs (closureFor_eq hfr) hkind hnames (wpAny_mono (wpAny_toks hit) (fun xv s₁ h₁ => ?_) fun _ _ e => e.2.elim)
  obtain ⟨ht1, S₁, h₁⟩ := h₁
  refine wpAny_mono h₁ (fun it s₂ h₂ => ?_) fun _ _ e => e.elim
  refine none_core (use := none) (RR := fun acc C => compPost (model prog w) A E none Q acc C) S₁ h₂ hcell hkind hx hfr (fun C i v s₃ m₃ hi hP hm hC _ => htst C i v s₃ m₃ hi hP hm hC) ?_
  intro D C h' tk m' hC hDC hn' hl' htk hg
  refine ⟨m', hn', fun h'' hs'' => h D _ ?_ (Nat.le_trans ht1 htk)⟩
  exact (S₁.kept ⟨⟨h'', tk, rfl, fun b o e => hs''.extBut b o (fun q => by rw [q, hC] at e; cases e) (hg b o e)⟩, htk⟩).more (hl'.sameBut hs'' hDC)
theorem Iter.mono {P' : Nat → Value → Prop} {s₁ s₂ : Shared} {it : Value} (h : Iter prog w A n P s₁ it s₂) (hP : ∀ i v, P i v → P' i v) : Iter prog w A n P' s₁ it s₂ := by
  obtain ⟨I, fp, St, e, W, r⟩ := h
  exact ⟨I, fp, St, e, ⟨W.sub, W.frame, fun i s Q E hi st hQ => W.item i s Q E hi st fun v h' tk p => hQ v h' tk (hP i v p), W.done, W.self⟩, r⟩
end
section
variable {prog : Program} {w : World} {A : Around} {E : Value → Shared → Prop} {mg mb : Str → Option Value} {sp : Scope} {s₀ s : Shared} {env : Env} {m cm : Str → Option Value} {fs : List Fact} {Q : Value → Shared → Prop}
theorem Sit.truthyL (S : Sit mg mb sp s₀ env m cm fs s) {l : Addr} {vs : List Value} {Q : Bool → Shared → Prop} (hl : ⟨l, false, vs⟩ ∈ fs) (hfit : vs.length < 2 ^ 62)
    (h : ∀ s', s.toks ≤ s'.toks → Sit mg mb sp s₀ env m cm fs s' → Q (decide (vs ≠ [])) s') : wpAny (model prog w) A (truthy (.ref l)) Q E s := by
  refine wpAny_truthy_list (S.list hl) (by rw [List.size_toArray]; omega) ?_
  have e : (!vs.toArray.isEmpty) = decide (vs ≠ []) := by cases vs <;> simp
  rw [e]
  exact h _ (by show s.toks ≤ s.toks + 1 + 1; omega) (S.tok (by omega))
theorem Sit.pow2 (S : Sit mg mb sp s₀ env m cm fs s) {n : Int} {t u : Tok} (h0 : 0 ≤ n) (h1 : n ≤ 64) (h : ∀ t' s', s.toks ≤ s'.toks → Sit mg mb sp s₀ env m cm fs s' → Q (.int ((2 ^ n.toNat : Nat) : Int) t') s') : wpAny (model prog w) A (binaryOp .Pow (.int 2 t) (.int n u)) Q E s := by
  refine pow_int_small h0 (by omega) (by decide) ?_
  have e : (2 : Int) ^ n.toNat = ((2 ^ n.toNat : Nat) : Int) := by push_cast; rfl
  rw [e]
  exact h _ _ (Nat.le_succ _) (S.tok (Nat.le_succ _))
theorem isInf_fl {c : Nat} (h : c < 2 ^ 53) : Float64.isInf (fl c) = false := by
  obtain ⟨m, e, hd, _⟩ := dec_fl h
  unfold Float64.isInf
  rw [hd]
theorem Sit.part (S : Sit mg mb sp s₀ env m cm fs s) {p d c : Nat} {t u : Tok} (hd : 0 < d) (hc : c < 2 ^ 53) (he : p * 2 ^ 21 = d * c)
    (h : ∀ t' s', s.toks ≤ t' → t' < s'.toks → Sit mg mb sp s₀ env m cm fs s' → Q (.float (fl c) t') s') : wpAny (model prog w) A (binaryOp .Div (.int (p : Int) t) (.int (d : Int) u)) Q E s := by
  have e1 : (decide ((p : Int) < 0) != decide ((d : Int) < 0)) = false := by
    rw [decide_eq_false (by omega), decide_eq_false (by omega)]; rfl
  have e2 : Float64.ofFrac (decide ((p : Int) < 0) != decide ((d : Int) < 0)) (p : Int).natAbs (d : Int).natAbs = fl c := by
    rw [e1, Int.natAbs_natCast, Int.natAbs_natCast]; exact frac_fl hd hc he
  refine AutoIntOps.truediv_2 (by simp; omega) (by rw [e2, isInf_fl hc]; exact Bool.false_ne_true) ?_
  rw [e2]
  exact h _ _ (Nat.le_refl _) (Nat.lt_succ_self _) (S.tok (Nat.le_succ _))
theorem rowNe {a b : Addr} {vs us : List Value} {ns ms : List Nat} {g : Tok → Nat} {k : Nat} (hl : s.heap.IsList a vs.toArray) (hb : s.heap.IsList b us.toArray) (hf : Fls vs ns) (hg : Fls us ms) (hlen : ns.length = ms.length)
    (h1 : ∀ v ∈ vs, Tk g k v) (h2 : ∀ v ∈ us, Tk g k v) (nb : NoneBooked s.heap) (hu : A.units < cLine) (h : Q (.bool (!decide (ns = ms))) s) : wpAny (model prog w) A (compareOp .NotEq (.ref a) (.ref b)) Q E s := by
  have e1 : vs.toArray.size = ns.length := by simpa using hf.length
  have e2 : us.toArray.size = ms.length := by simpa using hg.length
  have := SeqAt.RcNeAt.lists (A := A) (e := fun j => decide (ns.getD j 0 = ms.getD j 0)) hl hb (by omega) hu (fun j q1 q2 => by
    obtain ⟨n, t, ev, en, hn⟩ := hf.at j vs.toArray[j] (by simp at q1 ⊢)
    obtain ⟨m, u, ew, em, hm⟩ := hg.at j us.toArray[j] (by simp at q2 ⊢)
    have m1 : Tk g k (.float (fl n) t) := ev ▸ h1 _ (by simp)
    have m2 : Tk g k (.float (fl m) u) := ew ▸ h2 _ (by simp)
    have := eqAt_fl (A := A.in1) nb m1 m2 hn hm
    rw [← ev, ← ew] at this
    have r1 : ns.getD j 0 = n := getD_of en
    have r2 : ms.getD j 0 = m := getD_of em
    show SeqAt.EqAt A.in1 s _ _ (decide (ns.getD j 0 = ms.getD j 0))
    rw [r1, r2]
    exact this)
  rw [e1, all_eq hlen] at this
  exact this prog w E Q h
theorem noneNe {a b : Addr} (hl : s.heap.IsList a ([] : List Value).toArray) (hb : s.heap.IsList b ([] : List Value).toArray) (hu : A.units < cLine) (h : Q (.bool false) s) : wpAny (model prog w) A (compareOp .NotEq (.ref a) (.ref b)) Q E s :=
  SeqAt.RcNeAt.lists (A := A) (e := fun _ => true) hl hb rfl hu (fun j q1 _ => absurd q1 (Nat.not_lt_zero _)) prog w E Q h
theorem leN {a b : Nat} {t u : Tok} (ha : a < 2 ^ 53) (hb : b < 2 ^ 53) (hab : a ≤ b) (h : Q (.bool true) s) : wpAny (model prog w) A (compareOp .LtE (.float (fl a) t) (.float (fl b) u)) Q E s := by
  refine AutoFloatOps.le_0 ?_
  rw [cmp_fl ha hb]
  have : compare a b = .lt ∨ compare a b = .eq := by
    rcases Nat.lt_or_eq_of_le hab with h | h
    · exact .inl (Nat.compare_eq_lt.mpr h)
    · exact .inr (Nat.compare_eq_eq.mpr h)
  rcases this with e | e <;> rw [e] <;> exact h
end
section
variable {prog : Program} {w : World} {A : Around} {E : Value → Shared → Prop} {mg mb : Str → Option Value} {s : Shared} {Q : Value → Shared → Prop} {f : Addr}
/-- the law behind its first row: top is known -/
def LawTail (prog : Program) (w : World) (A : Around) (mg mb : Str → Option Value) (s : Shared) (Q : Value → Shared → Prop) (l : Addr) (vs : List Value) (env : Env) : Prop :=
  ∀ (s' : Shared) (e : Nat) (t : Tok) (m cm : Str → Option Value), 1 ≤ e → e ≤ 20 → m "script" = some (.ref l) → cm "top" = some (.int ((2 ^ e : Nat) : Int) t) → 1 ≤ s'.toks → Sit mg mb (sc 16) s env m cm [⟨l, false, vs⟩] s' →
    wpAny (model prog w) (A.deeper env) (execs ((bd 16).drop 1) env) (fun fl s' => Q (match fl with | .ret v => v | _ => .none) s') (fun _ _ => False) s'
set_option maxHeartbeats 4000000 in
theorem law_head {l : Addr} {vs : List Value} (B : Base mg mb s.heap) (F : FnOk mg s.heap 16 f) (R : Rm A 6) (hl : Fact.At ⟨l, false, vs⟩ s.heap) (hi : ∀ v ∈ vs, ∃ n t, v = .int n t) (h63 : vs.length ≤ 63)
    (h : ∀ env, env.cells = cellsFrom (env.locals + 1) (sc 16).names [] → env.scope = sc 16 → Own s env → LawTail prog w A mg mb s Q l vs env) :
    wpAny (model prog w) A (call (.ref f) [.ref l]) Q E s := by
  refine enter 16 ["script"] (fs := [⟨l, false, vs⟩]) B F R.depth rfl (fun _ _ _ => rfl) (by decide +kernel) (by decide +kernel) (fun g hg => by rw [List.mem_singleton.mp hg]; exact hl) ?_
  intro env s₁ hcl O S
  obtain ⟨esc, L, eg, ec, eq, ef, eco, efr, eb⟩ := env
  obtain rfl : ec = cellsFrom (L + 1) (sc 16).names [] := hcl
  obtain rfl : esc = sc 16 := S.scp
  have hh : (A.deeper ⟨sc 16, L, eg, cellsFrom (L + 1) (sc 16).names [], eq, ef, eco, efr, eb⟩).handled = none := R.1
  have H := h _ rfl rfl O
  refine wpAny_execs_cons (wpAny_mono (Q := fun fl s' => fl = .next ∧ ∃ (e : Nat) (t : Tok) (m cm : Str → Option Value), 1 ≤ e ∧ e ≤ 20 ∧ m "script" = some (.ref l) ∧ cm "top" = some (.int ((2 ^ e : Nat) : Int) t) ∧ 1 ≤ s'.toks ∧ Sit mg mb (sc 16) s ⟨sc 16, L, eg, cellsFrom (L + 1) (sc 16).names [], eq, ef, eco, efr, eb⟩ m cm [⟨l, false, vs⟩] s') ?_
    (fun fl s' q => by obtain ⟨rfl, e, t, m, cm, h1, h2, h3, h4, h5, S'⟩ := q; exact H s' e t m cm h1 h2 h3 h4 h5 S') fun _ _ e => e)
  repeat walk_at "m go"
  refine Sit.truthyL (by assumption) (.head _) (by omega) (fun _ _ _ => ?_)
  repeat' walk_at "m go"
  · have hc9 : vs ≠ [] := by assumption
    obtain ⟨v, r, rfl⟩ : ∃ v r, vs = v :: r := by
      cases vs with
      | nil => exact absurd rfl hc9
      | cons v r => exact ⟨v, r, rfl⟩
    obtain ⟨n, t, rfl⟩ := hi v (.head _)
    refine itemL (Sit.list (by assumption) (.head _)) (by decide) (by decide) rfl ?_
    repeat walk_at "m go"
    refine Sit.pow2 (by assumption) (by omega) (by omega) (fun t9 s9 _ S9 => ?_)
    repeat walk_at "m go"
    rename_i S10
    exact ⟨rfl, (n % 20 + 1).toNat, _, _, _, by omega, by omega, rfl, rfl, by omega, S10⟩
  · rename_i S10
    exact ⟨rfl, 1, _, _, _, by omega, by omega, rfl, rfl, by omega, S10⟩
end
/-! the greys -/
inductive Ivs : List Value → List Nat → Prop
  | nil : Ivs [] []
  | cons (n : Nat) (t : Tok) {vs ns} : Ivs vs ns → Ivs (.int (n : Int) t :: vs) (n :: ns)
theorem Ivs.append : ∀ {vs ns us ms}, Ivs vs ns → Ivs us ms → Ivs (vs ++ us) (ns ++ ms)
  | _, _, _, _, .nil, h => h
  | _, _, _, _, .cons n t g, h => .cons n t (g.append h)
theorem Ivs.length : ∀ {vs ns}, Ivs vs ns → vs.length = ns.length
  | _, _, .nil => rfl
  | _, _, .cons _ _ g => by simp [g.length]
theorem Ivs.at : ∀ {vs : List Value} {ns : List Nat}, Ivs vs ns → ∀ (i : Nat) (v : Value), vs[i]? = some v → ∃ (p : Nat) (t : Tok), v = .int (p : Int) t ∧ ns[i]? = some p
  | _, _, .nil, i, v, h => by simp at h
  | _, _, .cons n t g, 0, v, h => by simp at h; exact ⟨n, t, h.symm, rfl⟩
  | _, _, .cons n t g, i + 1, v, h => by simp at h; obtain ⟨p, t, e, q⟩ := g.at i v h; exact ⟨p, t, e, by simpa using q⟩
def iv (v : Value) : Int := match v with | .int n _ => n | _ => 0
theorem pick15 (vs : List Value) : ∃ qs, (slicePick vs.toArray (some 1) (some 5) none).toList = qs ∧ qs.length ≤ 4 ∧ ∀ v ∈ qs, v ∈ vs := by
  refine ⟨_, rfl, ?_, ?_⟩
  · rw [slicePick_plain]
    have h5 := clipAt_nat vs.toArray.size 5
    have h1 := clipAt_nat vs.toArray.size 1
    simp only [Option.elim, List.length_take, List.length_drop]
    show min (clipAt vs.toArray.size ((5 : Nat) : Int) - clipAt vs.toArray.size ((1 : Nat) : Int)) _ ≤ 4
    rw [h5, h1]
    have : vs.toArray.toList.length = vs.toArray.size := by simp
    omega
  · intro v hv
    rw [slicePick_plain] at hv
    exact by simpa using List.mem_of_mem_drop (List.mem_of_mem_take hv)
def restN (e : Nat) (qs : List Value) : List Nat := qs.map fun v => (iv v % ((2 ^ e : Nat) + 1 : Int)).toNat
def greyN (e p : Nat) : Nat := p * 2 ^ (21 - e)
theorem pow_split {e : Nat} (h : e ≤ 20) : 2 ^ 21 = 2 ^ e * 2 ^ (21 - e) := by rw [← Nat.pow_add]; congr 1; omega
theorem grey_ok {e p : Nat} (h1 : e ≤ 20) (hp : p ≤ 2 ^ e) : Ev (greyN e p) ∧ p * 2 ^ 21 = 2 ^ e * greyN e p := by
  unfold greyN
  have hs := pow_split h1
  refine ⟨⟨?_, ?_⟩, ?_⟩
  · rw [hs]; exact Nat.mul_le_mul_right _ hp
  · rw [show 21 - e = (20 - e) + 1 by omega, Nat.pow_succ, ← Nat.mul_assoc]; omega
  · rw [hs]; rw [Nat.mul_left_comm]
theorem restN_le {e : Nat} {qs : List Value} : ∀ p ∈ restN e qs, p ≤ 2 ^ e := fun p hp => by
  obtain ⟨v, _, rfl⟩ := List.mem_map.mp hp
  generalize 2 ^ e = d
  show (iv v % ((d : Int) + 1)).toNat ≤ d
  have h0 : (0 : Int) < (d : Int) + 1 := by omega
  have := Int.emod_lt_of_pos (iv v) h0
  have := Int.emod_nonneg (iv v) (Int.ne_of_gt h0)
  omega
theorem row_grey {e : Nat} (h : e ≤ 20) (xs : List Nat) : ([0, 2 ^ e, 0, 2 ^ e] ++ xs).map (greyN e) = [0, 2 ^ 21, 0, 2 ^ 21] ++ xs.map (greyN e) := by
  have : greyN e (2 ^ e) = 2 ^ 21 := (pow_split h).symm
  have h0 : greyN e 0 = 0 := Nat.zero_mul _
  simp [this, h0]
def partsN (e : Nat) (qs : List Value) : List Nat := [0, 2 ^ e, 0, 2 ^ e] ++ restN e qs
section
variable {prog : Program} {w : World} {A : Around} {E : Value → Shared → Prop} {mg mb : Str → Option Value} {s : Shared} {Q : Value → Shared → Prop} {f : Addr}
/-- the law behind its second row: the greys are known -/
def LawTail2 (prog : Program) (w : World) (A : Around) (mg mb : Str → Option Value) (s : Shared) (Q : Value → Shared → Prop) (env : Env) : Prop :=
  ∀ (s' : Shared) (a : Addr) (vg : List Value) (xs : List Nat) (g : Tok → Nat) (m cm : Str → Option Value), xs.length ≤ 4 → (∀ x ∈ xs, Ev x) → Fls vg ([0, 2 ^ 21, 0, 2 ^ 21] ++ xs) → 1 ≤ s'.toks → (∀ v ∈ vg, Tk g s'.toks v) → m "greys" = some (.ref a) → Sit mg mb (sc 16) s env m cm [⟨a, false, vg⟩] s' →
    wpAny (model prog w) (A.deeper env) (execs ((bd 16).drop 2) env) (fun fl s' => Q (match fl with | .ret v => v | _ => .none) s') (fun _ _ => False) s'
set_option maxHeartbeats 4000000 in
theorem law_greys {l : Addr} {vs : List Value} {env : Env} (R : Rm A 6) (hi : ∀ v ∈ vs, ∃ n t, v = .int n t) (h63 : vs.length ≤ 63) (hcl : env.cells = cellsFrom (env.locals + 1) (sc 16).names []) (hsc : env.scope = sc 16) (O : Own s env)
    (H : LawTail2 prog w A mg mb s Q env) : LawTail prog w A mg mb s Q l vs env := by
  intro s1 e t m cm he1 he2 hms hct ht1 S
  obtain ⟨esc, L, eg, ec, eq, ef, eco, efr, eb⟩ := env
  obtain rfl : ec = cellsFrom (L + 1) (sc 16).names [] := hcl
  obtain rfl : esc = sc 16 := S.scp
  have hh : (A.deeper ⟨sc 16, L, eg, cellsFrom (L + 1) (sc 16).names [], eq, ef, eco, efr, eb⟩).handled = none := R.1
  obtain ⟨qs, hq, hq4, hqv⟩ := pick15 vs
  show wpAny _ _ (execs (_ :: _) _) _ _ _
  refine wpAny_execs_cons ?_
  refine Sit.compSt S O [⟨l, false, vs⟩] (n := 4 + qs.length) (P := fun i v => ∃ (p : Nat) (t : Tok), v = .int (p : Int) t ∧ (partsN e qs)[i]? = some p)
    (J := fun i ys k => Fls ys (((partsN e qs).map (greyN e)).take i) ∧ TkE (fun _ => 0) 1 k ys ∧ 1 ≤ k) rfl
    (frees_ok (by decide +kernel)) (by rw [sizeLine_eq]; omega) (by decide +kernel) rfl (by decide +kernel) (by decide +kernel) (by decide +kernel) (fun _ _ _ _ q hk => ⟨q.1, q.2.1.mono hk, Nat.le_trans q.2.2 hk⟩) ?hit ?helt ?hfin
  case hit =>
    repeat walk_at "m go"
    rename_i t0 _ _ _ t1 _ _ _ a9 s9 _ S9
    refine Sit.comp S9 [⟨a9, false, [.int 0 t0, .int ((2 ^ e : Nat) : Int) t, .int 0 t1, .int ((2 ^ e : Nat) : Int) t]⟩, ⟨l, false, vs⟩] (n := qs.length) (P := fun i v => qs[i]? = some v) (J := fun i ys k => Ivs ys ((restN e qs).take i) ∧ 1 ≤ k)
      (frees_ok (by decide +kernel)) (by rw [sizeLine_eq]; omega) (by decide +kernel) rfl (by decide +kernel) (by decide +kernel) (fun _ _ _ _ q hk => ⟨q.1, Nat.le_trans q.2 hk⟩) ?hit2 ?helt2 ?hfin2
    case hit2 =>
      refine sliceL ?_
      repeat walk_at "m go"
      refine ⟨l, vs, some 1, some 5, rfl, Sit.list (by assumption) (.tail _ (.head _)), by rw [sizeLine_eq]; omega, .int _ _, .int _ _, fun al s10 k ft => ?_⟩
      rw [hq] at ft
      refine ⟨Sit.kept (by assumption) k, iter_listF hh ft.list, by rw [List.take_zero]; exact .nil, ?_⟩
      have := k.2
      omega
    case helt2 =>
      intro C i v s₃ m₃ ys hi' hv hm SC hJ
      obtain ⟨nv, tv, rfl⟩ := hi v (hqv v (List.mem_of_getElem? hv))
      repeat walk_at "m go"
      refine Sit.modI (by assumption) (Int.lt_add_one_of_le (Int.natCast_nonneg _)) (fun t9 s9 h9 S9 => ?_)
      refine ⟨S9.done, ?_, by omega⟩
      have hr : (restN e qs)[i]? = some (nv % ((2 ^ e : Nat) + 1 : Int)).toNat := by unfold restN; rw [List.getElem?_map, hv]; rfl
      rw [List.take_add_one, hr]
      have hnn : ((nv % ((2 ^ e : Nat) + 1 : Int)).toNat : Int) = nv % ((2 ^ e : Nat) + 1 : Int) := Int.toNat_of_nonneg (Int.emod_nonneg _ (Int.ne_of_gt (Int.lt_add_one_of_le (Int.natCast_nonneg _))))
      refine hJ.1.append ?_
      have := Ivs.cons (nv % ((2 ^ e : Nat) + 1 : Int)).toNat t9 .nil
      rw [hnn] at this
      exact this
    case hfin2 =>
      intro D s' ys SD hyl hJ _
      have hrl : (restN e qs).length = qs.length := by simp [restN]
      rw [List.take_of_length_le (by rw [hrl]; exact Nat.le_refl _)] at hJ
      repeat walk_at "m go"
      refine Sit.addL SD (Sit.list SD (.tail _ (.head _))) (Sit.list SD (.head _)) (by rw [sizeLine_eq]; simp; omega) (fun b s10 ht S10 => ?_)
      have hIv : Ivs ([.int 0 t0, .int ((2 ^ e : Nat) : Int) t, .int 0 t1, .int ((2 ^ e : Nat) : Int) t] ++ ys) (partsN e qs) := Ivs.append (.cons 0 t0 (.cons (2 ^ e) t (.cons 0 t1 (.cons (2 ^ e) t .nil)))) hJ.1
      refine ⟨S10.less fun g hg => by rw [List.mem_singleton.mp hg]; exact .tail _ (.tail _ (.tail _ (.head _))), ?_, by rw [List.take_zero]; exact .nil, .nil, by have := hJ.2; omega⟩
      have hb := iter_listF (prog := prog) (w := w) (E := fun _ _ => False) hh (S10.list (.head _))
      have el : ([Value.int 0 t0, .int ((2 ^ e : Nat) : Int) t, .int 0 t1, .int ((2 ^ e : Nat) : Int) t] ++ ys).length = 4 + qs.length := by simp [hyl]; omega
      rw [el] at hb
      exact wpAny_mono hb (fun it s11 q => q.mono fun i v hv => hIv.at i v hv) fun _ _ q => q
  case helt =>
    intro C i v s₃ m₃ ys hi' hv hm SC hJ
    obtain ⟨p, tp, rfl, hp⟩ := hv
    repeat walk_at "m go"
    have hpm := List.mem_of_getElem? hp
    have hpl : p ≤ 2 ^ e := by
      unfold partsN at hpm
      rcases List.mem_append.mp hpm with hm | hm
      · have := Nat.two_pow_pos e
        simp only [List.mem_cons, List.not_mem_nil, or_false] at hm
        rcases hm with rfl | rfl | rfl | rfl <;> omega
      · exact restN_le p hm
    obtain ⟨hev, heq⟩ := grey_ok he2 hpl
    refine Sit.part (by assumption) (c := greyN e p) (Nat.two_pow_pos e) hev.lt heq (fun t9 s9 h1 h2 S9 => ?_)
    refine ⟨S9.done, ?_, hJ.2.1.new hev.lt hJ.2.2 hJ.2.2 h1 h2, by omega⟩
    rw [List.take_add_one, List.getElem?_map, hp]
    exact hJ.1.snoc hev.lt
  case hfin =>
    intro D s' ys SD hlen hJ _
    obtain ⟨hf, ⟨g, _, htk⟩, h1⟩ := hJ
    have hpl : (partsN e qs).length = 4 + qs.length := by simp [partsN, restN]; omega
    rw [List.take_of_length_le (by rw [List.length_map, hpl]; exact Nat.le_refl _)] at hf
    unfold partsN at hf
    rw [row_grey he2] at hf
    refine H s' D ys _ g _ cm ?_ ?_ hf h1 htk rfl (SD.less fun g hg => by rw [List.mem_singleton.mp hg]; exact .head _)
    · simp [restN]; exact hq4
    · intro x hx
      obtain ⟨p, hp, rfl⟩ := List.mem_map.mp hx
      exact (grey_ok he2 (restN_le p hp)).1
end
theorem fls3 {vs : List Value} {ns : List Nat} (h : Fls vs ns) (hl : ns.length = 3) : ∃ a b c ta tb tc, vs = [.float (fl a) ta, .float (fl b) tb, .float (fl c) tc] ∧ ns = [a, b, c] := by
  cases h with
  | nil => simp at hl
  | cons a ta _ h =>
  cases h with
  | nil => simp at hl
  | cons b tb _ h =>
  cases h with
  | nil => simp at hl
  | cons c tc _ h =>
  cases h with
  | nil => exact ⟨a, b, c, ta, tb, tc, rfl, rfl⟩
  | cons d td _ h => simp at hl
section
variable {prog : Program} {w : World} {A : Around} {E : Value → Shared → Prop} {mg mb : Str → Option Value} {s : Shared} {Q : Value → Shared → Prop} {f : Addr}
/-- the law behind its first loop -/
def LawTail3 (prog : Program) (w : World) (A : Around) (mg mb : Str → Option Value) (s : Shared) (Q : Value → Shared → Prop) (env : Env) : Prop :=
  ∀ (s' : Shared) (a : Addr) (vg : List Value) (xs : List Nat) (g : Tok → Nat) (m cm : Str → Option Value), xs.length ≤ 4 → (∀ x ∈ xs, Ev x) → Fls vg ([0, 2 ^ 21, 0, 2 ^ 21] ++ xs) → 1 ≤ s'.toks → (∀ v ∈ vg, Tk g s'.toks v) → m "greys" = some (.ref a) → Sit mg mb (sc 16) s env m cm [⟨a, false, vg⟩] s' →
    wpAny (model prog w) (A.deeper env) (execs ((bd 16).drop 4) env) (fun fl s' => Q (match fl with | .ret v => v | _ => .none) s') (fun _ _ => False) s'
set_option maxHeartbeats 4000000 in
theorem law_loop1 {env : Env} (R : Rm A 6) (hcl : env.cells = cellsFrom (env.locals + 1) (sc 16).names []) (O : Own s env)
    (H : LawTail3 prog w A mg mb s Q env) : LawTail2 prog w A mg mb s Q env := by
  intro s1 ag vg xs g m cm hx4 hxe hf ht1 htk hmg S
  obtain ⟨esc, L, eg, ec, eq, ef, eco, efr, eb⟩ := env
  obtain rfl : ec = cellsFrom (L + 1) (sc 16).names [] := hcl
  obtain rfl : esc = sc 16 := S.scp
  have hh : (A.deeper ⟨sc 16, L, eg, cellsFrom (L + 1) (sc 16).names [], eq, ef, eco, efr, eb⟩).handled = none := R.1
  have R1 : Rm (A.deeper ⟨sc 16, L, eg, cellsFrom (L + 1) (sc 16).names [], eq, ef, eco, efr, eb⟩) 5 := R.deeper
  have hev : ∀ n ∈ [0, 2 ^ 21, 0, 2 ^ 21] ++ xs, Ev n := fun n hn => by
    rcases List.mem_append.mp hn with hn | hn
    · simp only [List.mem_cons, List.not_mem_nil, or_false] at hn
      rcases hn with rfl | rfl | rfl | rfl <;> exact ⟨by decide, by decide⟩
    · exact hxe n hn
  have hnl : ([0, 2 ^ 21, 0, 2 ^ 21] ++ xs).length = 4 + xs.length := by simp; omega
  generalize hns : [0, 2 ^ 21, 0, 2 ^ 21] ++ xs = ns at hf hev hnl
  show wpAny _ _ (execs (_ :: _) _) _ _ _
  refine wpAny_execs_cons ?_
  repeat walk_at "m go"
  refine wide_spec (Sit.here (by assumption)) (FnOk.keeps (by assumption) (Sit.keep (by assumption))) (R1.le (by omega)) (Sit.facts (by assumption) _ (.head _)) hf (by omega) (by omega) (fun s2 aw vw k hfw hmw ftw => ?_)
  have S2 := (Sit.kept (by assumption) k).more ftw
  have t2 := k.2
  clear k
  repeat walk_at "m go"
  have hlw : vw.length = ns.length + 4 := hfw.length.trans (widen_length ns)
  rename_i s3 t3 S3
  obtain ⟨m3, S3, g1, g2⟩ : ∃ m3 : Str → Option Value, Sit mg mb (sc 16) s ⟨sc 16, L, eg, cellsFrom (L + 1) (sc 16).names [], eq, ef, eco, efr, eb⟩ m3 cm [⟨aw, false, vw⟩, ⟨ag, false, vg⟩] s3 ∧ m3 "wide" = some (.ref aw) ∧ m3 "greys" = some (.ref ag) := by
    refine ⟨_, S3, ?_⟩
    exact ⟨rfl, hmg⟩
  clear S S2
  refine Sit.forR (mg := mg) (mb := mb) (sp := sc 16) (K := fun i m cm fs s => m "wide" = some (.ref aw) ∧ m "greys" = some (.ref ag) ∧ fs = [⟨aw, false, vw⟩, ⟨ag, false, vg⟩] ∧ s1.toks ≤ s.toks) (n := ns.length) O [] (fun _ h => nomatch h) hh (by decide +kernel) (by omega)
    (fun _ _ _ _ _ _ hg ht _ => ⟨hg.1, hg.2.1, hg.2.2.1, Nat.le_trans hg.2.2.2 ht⟩) ?hit ?body ?fin
  case hit =>
    repeat walk_at "m go"
    rw [show ((vw.length : Nat) : Int) - 4 = ((ns.length : Nat) : Int) by omega]
    refine Sit.range (by assumption) (fun a9 s9 _ hr9 S9 => ?_)
    exact ⟨a9, _, _, _, rfl, S9, hr9, (fun _ h => nomatch h), g1, g2, rfl, by omega⟩
  case fin =>
    intro s' m' cm' fs' S' hK
    obtain ⟨k1, k2, rfl, k4⟩ := hK
    refine H s' ag vg xs g m' cm' hx4 hxe (by rw [hns]; exact hf) (by omega) (fun v hv => (htk v hv).mono k4) k2 (S'.less fun g hg => by rw [List.mem_singleton.mp hg]; exact .tail _ (.head _))
  case body =>
    intro sb i ti s4 m' cm' fs' hi Ob _ hK S4
    obtain ⟨s4', ⟨k1, k2, rfl, k4⟩, tt, _⟩ := hK
    obtain ⟨m4, S4, g1, g2, g3⟩ : ∃ m4 : Str → Option Value, Sit mg mb (sc 16) sb ⟨sc 16, L, eg, cellsFrom (L + 1) (sc 16).names [], eq, ef, eco, efr, eb⟩ m4 cm' [⟨aw, false, vw⟩, ⟨ag, false, vg⟩] s4 ∧ m4 "wide" = some (.ref aw) ∧ m4 "greys" = some (.ref ag) ∧ m4 "k" = some (.int (i : Int) ti) := by
      refine ⟨_, S4, ?_⟩
      exact ⟨k1, k2, rfl⟩
    clear S3
    repeat walk_at "m go"
    refine sliceL ?_
    repeat walk_at "m go"
    refine ⟨aw, vw, some (i : Int), some ((i : Int) + 3), rfl, Sit.list (by assumption) (.head _), by rw [sizeLine_eq]; omega, .int _ _, .int _ _, fun a s5 k ft => ?_⟩
    rw [show ((i : Int) + 3) = ((i + 3 : Nat) : Int) by omega, pick_run' vw i (i + 3) (by omega) (by omega), show i + 3 - i = 3 by omega] at ft
    have hw3 : Fls ((vw.drop i).take 3) (((widen ns).drop i).take 3) := (hfw.drop i).take 3
    have hev3 : ∀ n ∈ ((widen ns).drop i).take 3, Ev n := fun n hn => widen_ev hev n (List.mem_of_mem_drop (List.mem_of_mem_take hn))
    obtain ⟨a3, b3, c3, ta, tb, tc, e3, e4⟩ := fls3 hw3 (by rw [← hw3.length, List.length_take, List.length_drop]; omega)
    rw [e4] at hev3
    rw [e3] at ft
    have va := hev3 a3 (.head _)
    have vb := hev3 b3 (.tail _ (.head _))
    have vc := hev3 c3 (.tail _ (.tail _ (.head _)))
    have S5 := (Sit.kept (by assumption) k).more ft
    have tkk := k.2
    clear k
    repeat walk_at "m go"
    refine threes_spec (Sit.here (by assumption)) (FnOk.keeps (by assumption) (Sit.keep (by assumption))) (R1.le (by omega)) (Sit.facts (by assumption) _ (.head _)) va.1 vb.1 vc.1 va.2 vb.2 vc.2 (fun s6 k6 => ?_)
    have S6 := Sit.kept (by assumption) k6
    have t6 := k6.2
    clear k6
    repeat walk_at "m go"
    refine sliceL ?_
    repeat walk_at "m go"
    refine ⟨aw, vw, some (i : Int), some ((i : Int) + 5), rfl, Sit.list (by assumption) (.tail _ (.head _)), by rw [sizeLine_eq]; omega, .int _ _, .int _ _, fun a s5 k ft => ?_⟩
    rw [show ((i : Int) + 5) = ((i + 5 : Nat) : Int) by omega, pick_run' vw i (i + 5) (by omega) (by omega), show i + 5 - i = 5 by omega] at ft
    have hw5 : Fls ((vw.drop i).take 5) (((widen ns).drop i).take 5) := (hfw.drop i).take 5
    have hev5 : ∀ n ∈ ((widen ns).drop i).take 5, n ≤ 2 ^ 21 ∧ n % 2 = 0 := fun n hn => widen_ev hev n (List.mem_of_mem_drop (List.mem_of_mem_take hn))
    have S7 := (Sit.kept (by assumption) k).more ft
    have tkk := k.2
    clear k
    repeat walk_at "m go"
    refine chosen_spec (Sit.here (by assumption)) (FnOk.keeps (by assumption) (Sit.keep (by assumption))) (R1.le (by omega)) (Sit.facts (by assumption) _ (.head _)) hw5 (by rw [← hw5.length, List.length_take, List.length_drop]; omega) hev5 (fun s8 k8 => ?_)
    have S8 := Sit.kept (by assumption) k8
    have t8 := k8.2
    clear k8
    repeat' walk_at "m go"
    · exact absurd (by assumption : (!true) = true) (by decide)
    refine ⟨rfl, _, _, _, S8.less (gs := [⟨aw, false, vw⟩, ⟨ag, false, vg⟩]) (fun g hg => .tail _ (.tail _ hg)), g1, g2, rfl, by omega⟩
end
section
variable {prog : Program} {w : World} {A : Around} {E : Value → Shared → Prop} {mg mb : Str → Option Value} {s : Shared} {Q : Value → Shared → Prop} {f : Addr}
/-- the law before its second loop -/
def LawTail4 (prog : Program) (w : World) (A : Around) (mg mb : Str → Option Value) (s : Shared) (Q : Value → Shared → Prop) (env : Env) : Prop :=
  ∀ (s' : Shared) (a al ah : Addr) (vg vl vh : List Value) (ns : List Nat) (g : Tok → Nat) (m cm : Str → Option Value), Good ns → 0 < ns.length → ns.length ≤ 8 → (∀ n ∈ ns, Ev n) → Fls vg ns → Fls vl (openN ns) → Fls vh (closeN ns) → 1 ≤ s'.toks → (∀ v ∈ vg, Tk g s'.toks v) →
    m "greys" = some (.ref a) → cm "low" = some (.ref al) → cm "high" = some (.ref ah) → Sit mg mb (sc 16) s env m cm [⟨a, false, vg⟩, ⟨al, false, vl⟩, ⟨ah, false, vh⟩] s' →
    wpAny (model prog w) (A.deeper env) (execs ((bd 16).drop 6) env) (fun fl s' => Q (match fl with | .ret v => v | _ => .none) s') (fun _ _ => False) s'
set_option maxHeartbeats 4000000 in
theorem law_rest {env : Env} (R : Rm A 6) (hcl : env.cells = cellsFrom (env.locals + 1) (sc 16).names []) (O : Own s env)
    (H : LawTail4 prog w A mg mb s Q env) : LawTail3 prog w A mg mb s Q env := by
  intro s1 ag vg xs g m cm hx4 hxe hf ht1 htk hmg S
  obtain ⟨esc, L, eg, ec, eq, ef, eco, efr, eb⟩ := env
  obtain rfl : ec = cellsFrom (L + 1) (sc 16).names [] := hcl
  obtain rfl : esc = sc 16 := S.scp
  have hh : (A.deeper ⟨sc 16, L, eg, cellsFrom (L + 1) (sc 16).names [], eq, ef, eco, efr, eb⟩).handled = none := R.1
  have R1 : Rm (A.deeper ⟨sc 16, L, eg, cellsFrom (L + 1) (sc 16).names [], eq, ef, eco, efr, eb⟩) 5 := R.deeper
  have hev : ∀ n ∈ [0, 2 ^ 21, 0, 2 ^ 21] ++ xs, Ev n := fun n hn => by
    rcases List.mem_append.mp hn with hn | hn
    · simp only [List.mem_cons, List.not_mem_nil, or_false] at hn
      rcases hn with rfl | rfl | rfl | rfl <;> exact ⟨by decide, by decide⟩
    · exact hxe n hn
  have hnl : ([0, 2 ^ 21, 0, 2 ^ 21] ++ xs).length = 4 + xs.length := by simp; omega
  have hG : Good ([0, 2 ^ 21, 0, 2 ^ 21] ++ xs) := good_row hx4 fun x hx => (hxe x hx).1
  generalize hns : [0, 2 ^ 21, 0, 2 ^ 21] ++ xs = ns at hf hev hnl hG
  show wpAny _ _ (execs (_ :: _) _) _ _ _
  refine wpAny_execs_cons (wpAny_mono (Q := fun fl s' => fl = .next ∧ ∃ (ao ac : Addr) (vo vc : List Value) (g2 : Tok → Nat) (m' cm' : Str → Option Value), Fls vo (openN ns) ∧ Fls vc (closeN ns) ∧ (∀ t, t < s1.toks → g2 t = g t) ∧ (∀ v ∈ vo ++ vc, Tk g2 s'.toks v) ∧ s1.toks ≤ s'.toks ∧
      m' "greys" = some (.ref ag) ∧ m' "sound" = some (.bool true) ∧ cm' "low" = some (.ref ao) ∧ cm' "high" = some (.ref ac) ∧ Sit mg mb (sc 16) s ⟨sc 16, L, eg, cellsFrom (L + 1) (sc 16).names [], eq, ef, eco, efr, eb⟩ m' cm' [⟨ag, false, vg⟩, ⟨ao, false, vo⟩, ⟨ac, false, vc⟩] s') ?first (fun fl s' q => ?second) fun _ _ e => e)
  case first =>
    repeat walk_at "m go"
    refine rest_spec (Sit.here (by assumption)) (FnOk.keeps (by assumption) (Sit.keep (by assumption))) R1 (Sit.facts (by assumption) _ (.head _)) hf (by omega) (by omega) hev htk (by omega) ht1 (fun s2 r ao ac vo vc k ftr fto ftc hfo hfc hT => ?_)
    rw [hG.sound] at ftr
    have S2 := ((((Sit.kept (by assumption) k).more ftc).more fto).more ftr)
    have t2 := k.2
    clear k
    obtain ⟨g2, hg2, ht2⟩ := hT
    repeat walk_at "m go"
    refine Sit.unpack3 (by assumption) hh (Sit.tup (by assumption) (.head _)) (fun _ _ _ => ?_)
    repeat walk_at "m go"
    rename_i S9
    refine ⟨rfl, ao, ac, vo, vc, g2, _, _, hfo, hfc, hg2, fun v hv => (ht2 v hv).mono (by omega), by omega, ?_, ?_, ?_, ?_, S9.less fun g hg => ?_⟩
    · exact hmg
    · exact rfl
    · exact rfl
    · exact rfl
    simp only [List.mem_cons, List.not_mem_nil, or_false] at hg
    rcases hg with rfl | rfl | rfl
    · exact .tail _ (.tail _ (.tail _ (.head _)))
    · exact .tail _ (.head _)
    · exact .tail _ (.tail _ (.head _))
  case second =>
    obtain ⟨rfl, ao, ac, vo, vc, g2, m', cm', hfo, hfc, hg2, ht2, tt, k1, k2, k3, k4, S'⟩ := q
    show wpAny _ _ (execs (_ :: _) _) _ _ _
    refine wpAny_execs_cons (wpAny_mono (Q := fun fl s'' => fl = .next ∧ s'.toks ≤ s''.toks ∧ Sit mg mb (sc 16) s ⟨sc 16, L, eg, cellsFrom (L + 1) (sc 16).names [], eq, ef, eco, efr, eb⟩ m' cm' [⟨ag, false, vg⟩, ⟨ao, false, vo⟩, ⟨ac, false, vc⟩] s'') ?_ (fun fl s'' q => ?_) fun _ _ e => e)
    · clear S
      repeat' walk_at "m go"
      · exact absurd (by assumption : (!true) = true) (by decide)
      refine medians_spec (Sit.here (by assumption)) (FnOk.keeps (by assumption) (Sit.keep (by assumption))) (R1.le (by omega)) (Sit.facts (by assumption) _ (.tail _ (.head _))) hfo (by rw [openN_length]; omega) (by rw [openN_length]; omega) (fun s6 am vm k6 hfm hmm ftm => ?_)
      have S6 := (Sit.kept (by assumption) k6).more ftm
      have t6 := k6.2
      clear k6
      rw [hG.mo] at hfm
      have hto : ∀ v ∈ vo, Tk g2 s'.toks v := fun v hv => ht2 v (List.mem_append_left _ hv)
      have htc : ∀ v ∈ vc, Tk g2 s'.toks v := fun v hv => ht2 v (List.mem_append_right _ hv)
      repeat walk_at "m go"
      refine rowNe (Sit.list (by assumption) (.head _)) (Sit.list (by assumption) (.tail _ (.tail _ (.head _)))) hfm hfo rfl (fun v hv => hto v (hmm v hv)) hto (Sit.here (by assumption)).nb (by have := R1.2.2; omega) ?_
      repeat walk_at "m go"
      refine medians_spec (Sit.here (by assumption)) (FnOk.keeps (by assumption) (Sit.keep (by assumption))) (R1.le (by omega)) (Sit.facts (by assumption) _ (.tail _ (.tail _ (.tail _ (.head _))))) hfc (by rw [closeN_length]; omega) (by rw [closeN_length]; omega) (fun s7 am2 vm2 k7 hfm2 hmm2 ftm2 => ?_)
      rw [hG.mc] at hfm2
      have S7 := (Sit.kept (by assumption) k7).more ftm2
      have t7 := k7.2
      clear k7
      repeat walk_at "m go"
      refine rowNe (Sit.list (by assumption) (.head _)) (Sit.list (by assumption) (.tail _ (.tail _ (.tail _ (.tail _ (.head _)))))) hfm2 hfc rfl (fun v hv => htc v (hmm2 v hv)) htc (Sit.here (by assumption)).nb (by have := R1.2.2; omega) ?_
      repeat walk_at "m go"
      refine ⟨rfl, by omega, S7.less fun g hg => .tail _ (.tail _ hg)⟩
    · obtain ⟨rfl, t9, S9⟩ := q
      exact H _ ag ao ac vg vo vc ns g m' cm' hG (by omega) (by omega) hev hf hfo hfc (by omega) (fun v hv => (htk v hv).mono (by omega)) k1 k3 k4 S9
end
theorem medsN_ev {ns : List Nat} (h : ∀ n ∈ ns, Ev n) : ∀ m ∈ medsN ns, Ev m := fun m hm => by
  obtain ⟨j, _, rfl⟩ := List.mem_map.mp hm
  show Ev ((srt (win ns 5 j)).getD _ 0)
  exact getD_ev (fun n hn => widen_ev h n (List.mem_of_mem_drop (List.mem_of_mem_take ((srt_perm _).mem_iff.mp hn)))) _
theorem iterN_ev {ns : List Nat} (h : ∀ n ∈ ns, Ev n) : ∀ k, ∀ n ∈ iterN k ns, Ev n
  | 0 => h
  | k + 1 => medsN_ev (iterN_ev h k)
section
variable {prog : Program} {w : World} {A : Around} {E : Value → Shared → Prop} {s : Shared} {Q : Value → Shared → Prop}
theorem refSame {a b : Addr} {vs us : List Value} {ns : List Nat} {g : Tok → Nat} {k : Nat} (hl : s.heap.IsList a vs.toArray) (hb : s.heap.IsList b us.toArray) (hf : Fls vs ns) (hg : Fls us ns)
    (h1 : ∀ v ∈ vs, Tk g k v) (h2 : ∀ v ∈ us, Tk g k v) (nb : NoneBooked s.heap) (hu : A.units < cLine) : SeqAt.EqAt A s (.ref a) (.ref b) true := by
  by_cases e : a = b
  · subst e; exact SeqAt.EqAt.same _
  · have := SeqAt.EqAt.of_refs e (rowRc hl hb hf hg rfl h1 h2 nb hu)
    rwa [decide_eq_true rfl] at this
theorem threeEq {l b ao ac r : Addr} (hl : s.heap.IsTuple l [Value.ref ao, .ref ac, .bool true].toArray) (hb : s.heap.IsTuple b [Value.ref r, .ref r, .bool true].toArray)
    (h1 : SeqAt.EqAt A.in1 s (.ref ao) (.ref r) true) (h2 : SeqAt.EqAt A.in1 s (.ref ac) (.ref r) true) (hu : A.units < cLine) (h : Q (.bool true) s) : wpAny (model prog w) A (compareOp .Eq (.ref l) (.ref b)) Q E s := by
  refine SeqAt.RcAt.tuples (e := fun _ => true) hl hb hu (fun j q1 q2 => ?_) prog w E Q h
  match j, q1, q2 with
  | 0, _, _ => exact h1
  | 1, _, _ => exact h2
  | 2, _, _ => exact SeqAt.EqAt.same _
  | j + 3, q1, _ => exact absurd q1 (by simp)
end
section
variable {prog : Program} {w : World} {A : Around} {E : Value → Shared → Prop} {mg mb : Str → Option Value} {s : Shared} {Q : Value → Shared → Prop} {f : Addr}
/-- the law's last row -/
def LawTail5 (prog : Program) (w : World) (A : Around) (mg mb : Str → Option Value) (s : Shared) (Q : Value → Shared → Prop) (env : Env) : Prop :=
  ∀ (s' : Shared) (r : Addr) (vr : List Value) (ns : List Nat) (g : Tok → Nat) (m cm : Str → Option Value), Good ns → 0 < ns.length → ns.length ≤ 8 → (∀ n ∈ ns, Ev n) → Fls vr (iterN ns.length ns) → 1 ≤ s'.toks → (∀ v ∈ vr, Tk g s'.toks v) →
    cm "row" = some (.ref r) → Sit mg mb (sc 16) s env m cm [⟨r, false, vr⟩] s' →
    wpAny (model prog w) (A.deeper env) (execs ((bd 16).drop 8) env) (fun fl s' => Q (match fl with | .ret v => v | _ => .none) s') (fun _ _ => False) s'
set_option maxHeartbeats 4000000 in
theorem law_last {env : Env} (R : Rm A 6) (hcl : env.cells = cellsFrom (env.locals + 1) (sc 16).names [])
    (H : ∀ s', Kp s s' → Q (.bool true) s') : LawTail5 prog w A mg mb s Q env := by
  intro s1 r vr ns g m cm hG h0 h8 hev hf ht1 htk hmr S
  obtain ⟨esc, L, eg, ec, eq, ef, eco, efr, eb⟩ := env
  obtain rfl : ec = cellsFrom (L + 1) (sc 16).names [] := hcl
  obtain rfl : esc = sc 16 := S.scp
  have hh : (A.deeper ⟨sc 16, L, eg, cellsFrom (L + 1) (sc 16).names [], eq, ef, eco, efr, eb⟩).handled = none := R.1
  have R1 : Rm (A.deeper ⟨sc 16, L, eg, cellsFrom (L + 1) (sc 16).names [], eq, ef, eco, efr, eb⟩) 5 := R.deeper
  have hu : (A.deeper ⟨sc 16, L, eg, cellsFrom (L + 1) (sc 16).names [], eq, ef, eco, efr, eb⟩).units + 1 < cLine := by have := R1.2.2; omega
  have hrl := iterN_length ns ns.length
  have hre := iterN_ev hev ns.length
  have hso : soundN (iterN ns.length ns) = true := by
    unfold soundN calmN
    rw [hG.rm, hG.ro, hG.rc, decide_eq_true rfl]; rfl
  have hrm := hG.rm
  have hro := hG.ro
  have hrc := hG.rc
  generalize iterN ns.length ns = rs at hf hrl hre hso hrm hro hrc
  show wpAny _ _ (execs (_ :: _) _) _ _ _
  refine wpAny_execs_cons ?_
  repeat walk_at "m go"
  refine medians_spec (Sit.here (by assumption)) (FnOk.keeps (by assumption) (Sit.keep (by assumption))) (R1.le (by omega)) (Sit.facts (by assumption) _ (.head _)) hf (by omega) (by omega) (fun s6 am vm k6 hfm hmm ftm => ?_)
  rw [hrm] at hfm
  have S6 := (Sit.kept (by assumption) k6).more ftm
  have t6 := k6.2
  clear k6
  repeat walk_at "m go"
  refine rowEq (Sit.list (by assumption) (.head _)) (Sit.list (by assumption) (.tail _ (.head _))) hfm hf rfl (fun v hv => htk v (hmm v hv)) htk (Sit.here (by assumption)).nb (by omega) ?_
  repeat walk_at "m go"
  refine rest_spec (Sit.here (by assumption)) (FnOk.keeps (by assumption) (Sit.keep (by assumption))) R1 (Sit.facts (by assumption) _ (.tail _ (.head _))) hf (by omega) (by omega) hre htk (by omega) ht1 (fun s7 r7 ao ac vo vc k7 ftr fto ftc hfo hfc hT => ?_)
  rw [hso] at ftr
  rw [hro] at hfo
  rw [hrc] at hfc
  have S7 := ((((Sit.kept (by assumption) k7).more ftc).more fto).more ftr)
  have t7 := k7.2
  clear k7
  obtain ⟨g2, hg2, ht2⟩ := hT
  have hto : ∀ v ∈ vo, Tk g2 s7.toks v := fun v hv => ht2 v (List.mem_append_left _ hv)
  have htc : ∀ v ∈ vc, Tk g2 s7.toks v := fun v hv => ht2 v (List.mem_append_right _ hv)
  have htr : ∀ v ∈ vr, Tk g2 s7.toks v := fun v hv => (htk v hv).ext (by omega) hg2
  repeat walk_at "m go"
  rename_i S9
  refine threeEq (S9.tup (.tail _ (.head _))) (S9.tup (.head _)) (refSame (S9.list (.tail _ (.tail _ (.head _)))) (S9.list (.tail _ (.tail _ (.tail _ (.tail _ (.tail _ (.head _))))))) hfo hf hto htr S9.here.nb hu) (refSame (S9.list (.tail _ (.tail _ (.tail _ (.head _))))) (S9.list (.tail _ (.tail _ (.tail _ (.tail _ (.tail _ (.head _))))))) hfc hf htc htr S9.here.nb hu) (by omega) ?_
  repeat walk_at "m go"
  exact H _ S9.done
set_option maxHeartbeats 4000000 in
theorem law_loop2 {env : Env} (R : Rm A 6) (hcl : env.cells = cellsFrom (env.locals + 1) (sc 16).names []) (O : Own s env)
    (H : LawTail5 prog w A mg mb s Q env) : LawTail4 prog w A mg mb s Q env := by
  intro s1 ag al ah vg vl vh ns g m cm hG h0 h8 hev hf hfl hfh ht1 htk hmg hml hmh S
  obtain ⟨esc, L, eg, ec, eq, ef, eco, efr, eb⟩ := env
  obtain rfl : ec = cellsFrom (L + 1) (sc 16).names [] := hcl
  obtain rfl : esc = sc 16 := S.scp
  have hh : (A.deeper ⟨sc 16, L, eg, cellsFrom (L + 1) (sc 16).names [], eq, ef, eco, efr, eb⟩).handled = none := R.1
  have R1 : Rm (A.deeper ⟨sc 16, L, eg, cellsFrom (L + 1) (sc 16).names [], eq, ef, eco, efr, eb⟩) 5 := R.deeper
  have hlg := hf.length
  show wpAny _ _ (execs (_ :: _) _) _ _ _
  refine wpAny_execs_cons ?_
  repeat walk_at "m go"
  rename_i s3 t3 S3
  obtain ⟨m3, cm3, S3, g1, g2, g3, g4⟩ : ∃ m3 cm3 : Str → Option Value, Sit mg mb (sc 16) s ⟨sc 16, L, eg, cellsFrom (L + 1) (sc 16).names [], eq, ef, eco, efr, eb⟩ m3 cm3 [⟨ag, false, vg⟩, ⟨al, false, vl⟩, ⟨ah, false, vh⟩] s3 ∧ m3 "greys" = some (.ref ag) ∧ cm3 "low" = some (.ref al) ∧ cm3 "high" = some (.ref ah) ∧ cm3 "row" = some (.ref ag) := by
    refine ⟨_, _, S3, ?_⟩
    exact ⟨hmg, hml, hmh, rfl⟩
  clear S
  refine Sit.forR (mg := mg) (mb := mb) (sp := sc 16) (K := fun i m cm fs s => ∃ (r : Addr) (vr : List Value), m "greys" = some (.ref ag) ∧ cm "low" = some (.ref al) ∧ cm "high" = some (.ref ah) ∧ cm "row" = some (.ref r) ∧ Fls vr (iterN i ns) ∧ (∀ v ∈ vr, v ∈ vg) ∧ fs = [⟨r, false, vr⟩, ⟨ag, false, vg⟩, ⟨al, false, vl⟩, ⟨ah, false, vh⟩] ∧ s1.toks ≤ s.toks) (n := ns.length) O [] (fun _ h => nomatch h) hh (by decide +kernel) (by omega)
    (fun _ _ _ _ _ _ hg ht _ => by obtain ⟨r, vr, q1, q2, q3, q4, q5, q6, q7, q8⟩ := hg; exact ⟨r, vr, q1, q2, q3, q4, q5, q6, q7, Nat.le_trans q8 ht⟩) ?hit ?body ?fin
  case hit =>
    repeat walk_at "m go"
    rw [show ((vg.length : Nat) : Int) = ((ns.length : Nat) : Int) by omega]
    refine Sit.range (by assumption) (fun a9 s9 _ hr9 S9 => ?_)
    have S10 := S9.more (S9.facts _ (.head _))
    exact ⟨a9, _, _, _, rfl, S10, hr9, (fun _ h => nomatch h), ag, vg, g1, g2, g3, g4, hf, (fun _ q => q), rfl, by omega⟩
  case fin =>
    intro s' m' cm' fs' S' hK
    obtain ⟨r, vr, q1, q2, q3, q4, q5, q6, rfl, q8⟩ := hK
    exact H s' r vr ns g m' cm' hG h0 h8 hev q5 (by omega) (fun v hv => (htk v (q6 v hv)).mono q8) q4 (S'.less fun g hg => by rw [List.mem_singleton.mp hg]; exact .head _)
  case body =>
    intro sb i ti s4 m' cm' fs' hi Ob _ hK S4
    obtain ⟨s4', ⟨r, vr, q1, q2, q3, q4, q5, q6, rfl, q8⟩, tt, _⟩ := hK
    obtain ⟨m4, S4, p1⟩ : ∃ m4 : Str → Option Value, Sit mg mb (sc 16) sb ⟨sc 16, L, eg, cellsFrom (L + 1) (sc 16).names [], eq, ef, eco, efr, eb⟩ m4 cm' [⟨r, false, vr⟩, ⟨ag, false, vg⟩, ⟨al, false, vl⟩, ⟨ah, false, vh⟩] s4 ∧ m4 "greys" = some (.ref ag) := by
      refine ⟨_, S4, ?_⟩
      exact q1
    clear S3
    repeat walk_at "m go"
    refine medians_spec (Sit.here (by assumption)) (FnOk.keeps (by assumption) (Sit.keep (by assumption))) (R1.le (by omega)) (Sit.facts (by assumption) _ (.head _)) q5 (by rw [iterN_length]; omega) (by rw [iterN_length]; omega) (fun s6 am vm k6 hfm hmm ftm => ?_)
    have S6 := (Sit.kept (by assumption) k6).more ftm
    have t6 := k6.2
    clear k6
    have hlm : vm.length = ns.length := hfm.length.trans ((medsN_length _).trans (iterN_length ns i))
    repeat walk_at "m go"
    rename_i s7 t7 S7
    obtain ⟨cm7, S7, c1, c2, c3⟩ : ∃ cm7 : Str → Option Value, Sit mg mb (sc 16) sb ⟨sc 16, L, eg, cellsFrom (L + 1) (sc 16).names [], eq, ef, eco, efr, eb⟩ m4 cm7 [⟨am, false, vm⟩, ⟨ag, false, vg⟩, ⟨al, false, vl⟩, ⟨ah, false, vh⟩] s7 ∧ cm7 "low" = some (.ref al) ∧ cm7 "high" = some (.ref ah) ∧ cm7 "row" = some (.ref am) := by
      refine ⟨_, S7.less ?_, ?_⟩
      · intro f hf
        rcases List.mem_cons.mp hf with rfl | hf
        · exact .head _
        · exact .tail _ (.tail _ hf)
      · exact ⟨q2, q3, rfl⟩
    clear S6 S4
    refine Sit.compNone (by assumption) [⟨am, false, vm⟩, ⟨ag, false, vg⟩, ⟨al, false, vl⟩, ⟨ah, false, vh⟩] (n := ns.length) (P := fun i v => ∃ t, v = .int (i : Int) t)
      (frees_ok (by decide +kernel)) (by decide +kernel) rfl (by decide +kernel) (by decide +kernel) ?hit ?htst ?hfin
    case hit =>
      repeat walk_at "m go"
      rw [hlm]
      refine Sit.range (by assumption) (fun a9 s9 _ hr9 S9 => ?_)
      exact ⟨S9, iter_rangeF hh (by omega) hr9⟩
    case htst =>
      intro C j v s₃ m₃ hj hv hm SC
      obtain ⟨t, rfl⟩ := hv
      obtain ⟨n0, t0, a1, a2, a3, a4⟩ := fls_item hfl (k := j) (by rw [openN_length]; exact hj)
      obtain ⟨n1, t1, b1, b2, b3, b4⟩ := fls_item hfm (k := j) (by rw [medsN_length, iterN_length]; exact hj)
      obtain ⟨n2, t2, d1, d2, d3, d4⟩ := fls_item hfh (k := j) (by rw [closeN_length]; exact hj)
      have hbt := hG.between i hi j
      rw [getD_of a2, show (iterN (i + 1) ns).getD j 0 = n1 from getD_of b2, getD_of d2] at hbt
      clear S7
      repeat walk_at "m go"
      refine isTrue_chain ?_
      repeat walk_at "m go"
      refine itemL (Sit.list (by assumption) (.tail _ (.tail _ (.head _)))) (by omega) (by omega) (by rw [Int.toNat_natCast]; exact a1) ?_
      refine test_link ?_
      repeat walk_at "m go"
      refine itemL (Sit.list (by assumption) (.head _)) (by omega) (by omega) (by rw [Int.toNat_natCast]; exact b1) ?_
      refine leN a3 b3 hbt.1 ?_
      repeat walk_at "m go"
      refine test_last ?_
      repeat walk_at "m go"
      refine itemL (Sit.list (by assumption) (.tail _ (.tail _ (.tail _ (.head _))))) (by omega) (by omega) (by rw [Int.toNat_natCast]; exact d1) ?_
      refine leN b3 d3 hbt.2 ?_
      repeat walk_at "m go"
      exact ⟨rfl, SC.done⟩
    case hfin =>
      intro D s8 S8 t8
      clear S7
      refine with_kp ?_
      repeat walk_at "m go"
      rename_i S9
      intro t9
      refine noneNe (Sit.list S9 (.tail _ (.head _))) (Sit.list S9 (.head _)) (by have := R1.2.2; omega) ?_
      repeat walk_at "m go"
      refine ⟨rfl, _, _, _, S9.less (gs := [⟨am, false, vm⟩, ⟨ag, false, vg⟩, ⟨al, false, vl⟩, ⟨ah, false, vh⟩]) (fun g hg => .tail _ (.tail _ hg)), am, vm, p1, c1, c2, c3, hfm, fun v hv => q6 v (hmm v hv), rfl, by omega⟩
end
/-! the head: what stands when law is called -/
def booked? (K : Frag) : Bool := match K.lookup cStatics with
  | some o => (match o.data with | .dict es _ => (nsFind es sharingNotToldKey).isNone | _ => false)
  | none => false
theorem booked_of {K : Frag} {h : Heap} (X : K.In h) (nd : ∃ mc, h.Ns cStatics mc ∧ mc "sys.int_max_str_digits" = none) (e : booked? K = true) : NoneBooked h := by
  obtain ⟨mc, ⟨o', es, ep, h1, h2, h3, h4⟩, _⟩ := nd
  refine ⟨mc, ⟨o', es, ep, h1, h2, h3, h4⟩, ?_⟩
  unfold booked? at e
  cases hl : K.lookup cStatics with
  | none => rw [hl] at e; cases e
  | some o =>
    rw [hl] at e
    have := X _ _ hl
    rw [h1] at this
    cases this
    simp only [h2] at e
    rw [← h4]
    exact Option.isNone_iff_eq_none.mp e
theorem ints_mem : ∀ {vs : List Value} {ns : List Int}, IntsAre vs ns → ∀ v ∈ vs, ∃ n t, v = .int n t
  | _, _, .nil, _, h => nomatch h
  | _, _, .cons n t r, v, h => by
    rcases List.mem_cons.mp h with rfl | h
    · exact ⟨n, t, rfl⟩
    · exact ints_mem r v h
def four (d : DefRec) : Str × Arguments × List Stmt × Scope := (d.name, d.params, d.body, d.scope)
theorem fnOk_of {q : Program} {loose : List Str} {mean : ExcName → Option Value} {mg mb : Str → Option Value} {h : Heap} (T : Top q loose mean mg mb h) (i : Nat)
    (e : ((recsOf q).find? fun d => d.name == nm i).map four = some (defAt i)) : ∃ f, FnOk mg h i f := by
  obtain ⟨d, hf, hd⟩ := Option.map_eq_some_iff.mp e
  obtain ⟨a, o, pm, code, doc, h1, h2, h3, h4⟩ := T.fn d (List.mem_of_find?_eq_some hf)
  obtain ⟨c, o', vs, t, rfl, hc⟩ := h4
  have e1 : d.name = nm i := congrArg (·.1) hd
  have e2 : d.params = pr i := congrArg (·.2.1) hd
  have e3 : d.body = bd i := congrArg (·.2.2.1) hd
  have e4 : d.scope = sc i := congrArg (·.2.2.2) hd
  rw [e1, e2, e3, e4] at h3
  rw [e1] at h1 hc
  exact ⟨a, h1, o, pm, c, doc, h2, h3, c, o', vs, t, rfl, hc⟩
section
variable {prog : Program} {w : World} {A : Around} {E : Value → Shared → Prop} {mg mb : Str → Option Value} {s : Shared} {Q : Value → Shared → Prop} {f : Addr}
theorem law_ok {l : Addr} {vs : List Value} (B : Base mg mb s.heap) (F : FnOk mg s.heap 16 f) (R : Rm A 6) (hl : s.heap.IsList l vs.toArray) (hi : ∀ v ∈ vs, ∃ n t, v = .int n t) (h63 : vs.length ≤ 63)
    (H : ∀ s', Kp s s' → Q (.bool true) s') : wpAny (model prog w) A (call (.ref f) [.ref l]) Q E s :=
  law_head B F R (Fact.of_list hl) hi h63 fun _ hcl hsp O => law_greys R hi h63 hcl hsp O (law_loop1 R hcl O (law_rest R hcl O (law_loop2 R hcl O (law_last R hcl H))))
end
end Mine
set_option maxRecDepth 100000 in
set_option maxHeartbeats 8000000 in
theorem PySem.Challenge.cw_mq0144_01_holds : PySem.Challenge.rw_mq0144_01.Holds := by
  w_on
  o_law
  k_head
  case hw => w_witness2
  intro w s₀ s₁ mg mb G Y fa o pm cd doc dV kV ho hdd hcd hD hmg hg args vals as hpre hlay hrd hwl hlo
  have KX := kIn_of Y
  have nb : NoneBooked s₁.heap := Mine.booked_of KX G.T.nodigits (by kernel_rfl)
  have B : Mine.Base mg mb s₁.heap := by
    refine ⟨G.T.g, G.T.b, G.T.nolimit, ?_, ?_, nb⟩
    · intro i hi
      simp only [List.mem_cons, List.not_mem_nil, or_false] at hi
      rcases hi with rfl | rfl | rfl | rfl | rfl | rfl | rfl | rfl | rfl | rfl | rfl | rfl <;> exact Mine.fnOk_of G.T _ (by kernel_rfl)
    · intro x hx
      refine ⟨?_, G.T.builtins x ?_⟩
      · simp only [List.mem_cons, List.not_mem_nil, or_false] at hx
        rcases hx with rfl | rfl | rfl | rfl | rfl | rfl <;> exact G.T.free _ (by decide +kernel) (by decide +kernel) (by decide +kernel) (by decide +kernel) (by decide +kernel)
      · simp only [List.mem_cons, List.not_mem_nil, or_false] at hx
        rcases hx with rfl | rfl | rfl | rfl | rfl | rfl <;> decide +kernel
  have F : Mine.FnOk mg s₁.heap 16 fa := by
    obtain ⟨f, F⟩ := Mine.fnOk_of (mg := mg) (h := s₁.heap) G.T 16 (by kernel_rfl)
    have e : mg (Mine.nm 16) = some (.ref fa) := hmg
    rw [F.1] at e
    cases e
    exact F
  clear KX Y hD hdd hcd ho hmg
  wrow_args hpre hlay hrd hwl hlo
  rename_i ns _ _ _ _ _ _ _ l vs _ hL _ _ _ hI _ hc _
  have R : Mine.Rm callerA 6 := ⟨rfl, by decide +kernel, by decide +kernel⟩
  refine Mine.law_ok B F R hL (Mine.ints_mem hI) (by have := IntsAre.length hI; omega) ?_
  rintro s' ⟨⟨h', tk, rfl, k⟩, _⟩
  refine GoodW.toG ⟨.inl ⟨.bool true, .bool true, [], rfl, raisesW_false ?_, .bool true, ?_, fun _ => ⟨.nil, fun _ q => nomatch q⟩⟩, k, rfl, hg⟩
  · wrow_none_raised
  · wrow_post
