import JvmDerived
import JvmDerived.Pilot.@@N@@Statement
import JvmDerived.Pilot.@@N@@Code
set_option linter.unusedVariables false
set_option linter.unusedSimpArgs false
namespace Jvm.OwnX
open Sem ClassFile Op Lib Jvm.Stand Jvm.Free Jvm.LawKit Jvm.RoadKit
/-! ### 1. Symbolic values -/
abbrev En := Nat → Int32 × Int64
def op2v (o : Binary) (x y : Int32 × Int64) : Int32 × Int64 := match o with
  | .iand => (x.1 &&& y.1, 0)
  | .ior => (x.1 ||| y.1, 0)
  | .ixor => (x.1 ^^^ y.1, 0)
  | .ishl => (x.1 <<< (y.1 &&& 31), 0)
  | .ishr => (x.1 >>> (y.1 &&& 31), 0)
  | .iushr => ((x.1.toUInt32 >>> (y.1 &&& 31).toUInt32).toInt32, 0)
  | .ladd => (0, x.2 + y.2)
  | .lsub => (0, x.2 - y.2)
  | .lmul => (0, x.2 * y.2)
  | .land => (0, x.2 &&& y.2)
  | .lor => (0, x.2 ||| y.2)
  | .lxor => (0, x.2 ^^^ y.2)
  | .lshl => (0, x.2 <<< (y.1 &&& 0x3f).toInt64)
  | .lshr => (0, x.2 >>> (y.1 &&& 0x3f).toInt64)
  | .lushr => (0, (x.2.toUInt64 >>> (y.1 &&& 0x3f).toInt64.toUInt64).toInt64)
  | .lcmp => (lcmpW x.2 y.2, 0)
  | _ => (0, 0)
def op1v (o : Unary) (x : Int32 × Int64) : Int32 × Int64 := match o with
  | .ineg => (-x.1, 0)
  | .lneg => (0, -x.2)
  | .i2l => (0, x.1.toInt64)
  | .l2i => (x.2.toInt32, 0)
  | .i2b => (x.1.toInt8.toInt32, 0)
  | .i2c => (x.1.toUInt32.toUInt16.toUInt32.toInt32, 0)
  | .i2s => (x.1.toInt16.toInt32, 0)
  | _ => (0, 0)
def te (A : En) : Term → Int32 × Int64
  | .arg i => A i
  | .int v => (v, 0)
  | .long v => (0, v)
  | .add a b => ((te A a).1 + (te A b).1, 0)
  | .sub a b => ((te A a).1 - (te A b).1, 0)
  | .mul a b => ((te A a).1 * (te A b).1, 0)
  | .div a b => ((te A a).1 / (te A b).1, 0)
  | .rem a b => ((te A a).1 % (te A b).1, 0)
  | .op2 o a b => op2v o (te A a) (te A b)
  | .op1 o a => op1v o (te A a)
  | _ => (0, 0)
def isLit : Term → Bool
  | .int _ => true
  | .long _ => true
  | _ => false
def kids : Term → Bool
  | .add a b => isLit a && isLit b
  | .sub a b => isLit a && isLit b
  | .mul a b => isLit a && isLit b
  | .div a b => isLit a && isLit b
  | .rem a b => isLit a && isLit b
  | .op2 _ a b => isLit a && isLit b
  | .op1 _ a => isLit a
  | _ => false
def e0 : En := fun _ => (0, 0)
def smI (t : Term) : Term := bif kids t then .int (te e0 t).1 else t
def smL (t : Term) : Term := bif kids t then .long (te e0 t).2 else t
theorem te_lit {t : Term} (h : isLit t = true) (A B : En) : te A t = te B t := by
  cases t <;> simp [isLit] at h <;> rfl
theorem te_kids {t : Term} (h : kids t = true) (A B : En) : te A t = te B t := by
  cases t <;> simp [kids] at h
  all_goals first
    | (rename_i a b; simp only [te, te_lit h.1 A B, te_lit h.2 A B])
    | (rename_i o a; simp only [te, te_lit h A B])
theorem te_smI (A : En) (t : Term) : (te A (smI t)).1 = (te A t).1 := by
  unfold smI
  cases h : kids t
  · rfl
  · simp only [cond_true, te, te_kids h A e0]
theorem te_smL (A : En) (t : Term) : (te A (smL t)).2 = (te A t).2 := by
  unfold smL
  cases h : kids t
  · rfl
  · simp only [cond_true, te, te_kids h A e0]
/-- a symbolic value: its kind (0 int, 1 long, 2 reference, 3 double) and its term -/
abbrev SV := Nat × Term
abbrev SL := Option (Option SV)
abbrev Ob := Nat × List SV
abbrev Cf := List SL × List SV × List Ob × Nat
abbrev Nx := List Cond × Nat × Cf
abbrev Stp := List Cond → Cf → Option (List Nx)
/-- a shape: an array's element type, or a class with its number of slots and its fields (declaring class, name, descriptor, type) -/
abbrev Fi := String × String × String × FieldType
abbrev Sh := Option FieldType × String × Nat × List Fi
def rf (O : Nat → Addr) (n0 : Nat) : Term → Value
  | .index k => .ref (n0 + k)
  | .arg i => .ref (O i)
  | _ => .null
def vv (A : En) (O : Nat → Addr) (n0 : Nat) (x : SV) : Value := match x.1 with
  | 0 => .int (te A x.2).1
  | 1 => .long (te A x.2).2
  | 2 => rf O n0 x.2
  | _ => .double (te A x.2).2.toUInt64
def sl1 (A : En) (O : Nat → Addr) (n0 : Nat) : SL → Slot
  | none => .unset
  | some none => .second
  | some (some x) => .val (vv A O n0 x)
def cat (x : SV) : Nat := match x.1 with
  | 1 => 2
  | 3 => 2
  | 0 => 1
  | 2 => 1
  | _ => 2
theorem rf_isRef (O : Nat → Addr) (n0 : Nat) (t : Term) : (rf O n0 t).isRef = true := by cases t <;> rfl
theorem vv_cat (A : En) (O : Nat → Addr) (n0 : Nat) (x : SV) : (vv A O n0 x).category = cat x := by
  obtain ⟨k, t⟩ := x
  match k with
  | 0 => rfl
  | 1 => rfl
  | 2 => show (rf O n0 t).category = 1; cases t <;> rfl
  | 3 => rfl
  | n + 4 => rfl
/-! ### 2. Facts -/
def hold (A : En) : Cond → Prop
  | .eq a b => (te A a).1 = (te A b).1
  | .lt a b => (te A a).1 < (te A b).1
  | .not c => ¬ hold A c
  | _ => True
def holds (A : En) (F : List Cond) : Prop := ∀ c ∈ F, hold A c
theorem holds_cons {A : En} {c : Cond} {F : List Cond} (h : hold A c) (H : holds A F) : holds A (c :: F) := by
  intro d hd
  rcases List.mem_cons.mp hd with rfl | hd
  · exact h
  · exact H d hd
/-- the same term -/
def tq : Term → Term → Bool
  | .arg i, .arg j => i == j
  | .int x, .int y => x == y
  | .long x, .long y => x == y
  | .null, .null => true
  | .index i, .index j => i == j
  | .add a b, .add c d => tq a c && tq b d
  | .sub a b, .sub c d => tq a c && tq b d
  | .mul a b, .mul c d => tq a c && tq b d
  | .div a b, .div c d => tq a c && tq b d
  | .rem a b, .rem c d => tq a c && tq b d
  | .op2 o a b, .op2 p c d => (o == p) && (tq a c && tq b d)
  | .op1 o a, .op1 p b => (o == p) && tq a b
  | _, _ => false
theorem tq_eq : ∀ {a b : Term}, tq a b = true → a = b := by
  intro a
  induction a <;> intro b h <;> cases b <;> simp [tq] at h
  all_goals first
    | rfl
    | (subst h; rfl)
    | (rename_i i1 i2 _ _; rw [i1 h.1, i2 h.2])
    | (rename_i i1 i2 _ _ _; rw [h.1, i1 h.2.1, i2 h.2.2])
    | (rename_i i1 _ _; rw [h.1, i1 h.2])
def cut (lo hi : Int) : Int × Int := bif (decide (-2147483648 ≤ lo)) && (decide (hi ≤ 2147483647)) then (lo, hi) else (-2147483648, 2147483647)
def lcr (p q : Int × Int) : Int × Int :=
  bif decide (p.2 < q.1) then (-1, -1) else bif decide (q.2 < p.1) then (1, 1) else
  bif decide (p.1 = p.2) && (decide (q.1 = q.2) && decide (p.1 = q.1)) then (0, 0) else
  bif decide (p.2 ≤ q.1) then (-1, 0) else bif decide (q.2 ≤ p.1) then (0, 1) else (-1, 1)
def fI : Int × Int := (-2147483648, 2147483647)
def fL : Int × Int := (-9223372036854775808, 9223372036854775807)
/-- bounds of a term's two views -/
def rg0 : Term → (Int × Int) × (Int × Int)
  | .int v => ((v.toInt, v.toInt), fL)
  | .long v => (fI, (v.toInt, v.toInt))
  | .add a b => (cut ((rg0 a).1.1 + (rg0 b).1.1) ((rg0 a).1.2 + (rg0 b).1.2), fL)
  | .sub a b => (cut ((rg0 a).1.1 - (rg0 b).1.2) ((rg0 a).1.2 - (rg0 b).1.1), fL)
  | .rem a b => (bif decide (0 < (rg0 b).1.1) then (bif decide (0 ≤ (rg0 a).1.1) then (0, (rg0 b).1.2 - 1) else (1 - (rg0 b).1.2, (rg0 b).1.2 - 1)) else fI, fL)
  | .op2 .iand a b => (bif decide (0 ≤ (rg0 b).1.1) then (0, (rg0 b).1.2) else bif decide (0 ≤ (rg0 a).1.1) then (0, (rg0 a).1.2) else fI, fL)
  | .op2 .lcmp a b => (bif tq a b then (0, 0) else lcr (rg0 a).2 (rg0 b).2, fL)
  | .op2 .land a b => (fI, bif decide (0 ≤ (rg0 b).2.1) || decide (0 ≤ (rg0 a).2.1) then (0, 9223372036854775807) else fL)
  | .op1 .i2c a => (bif decide (0 ≤ (rg0 a).1.1) && decide ((rg0 a).1.2 ≤ 65535) then (rg0 a).1 else (0, 65535), fL)
  | .op1 .i2b _ => ((-128, 127), fL)
  | .op1 .i2l a => (fI, (rg0 a).1)
  | _ => (fI, fL)
def bI (p : Int × Int) (x : Int32) : Prop := p.1 ≤ x.toInt ∧ x.toInt ≤ p.2
def bL (p : Int × Int) (x : Int64) : Prop := p.1 ≤ x.toInt ∧ x.toInt ≤ p.2
theorem bI_full (x : Int32) : bI fI x := by have := rng32 x; simp only [bI, fI]; omega
theorem bL_full (x : Int64) : bL fL x := by have := rng64 x; simp only [bL, fL]; omega
theorem cut_ok {lo hi : Int} {x : Int32} {v : Int} (h1 : lo ≤ v) (h2 : v ≤ hi) (h3 : (x.toInt - v) % 4294967296 = 0) : bI (cut lo hi) x := by
  have := rng32 x
  unfold cut
  cases h : (decide (-2147483648 ≤ lo) && decide (hi ≤ 2147483647))
  · exact bI_full x
  · simp only [Bool.and_eq_true, decide_eq_true_eq] at h
    simp only [cond_true, bI]; omega
theorem lcr_ok {p q : Int × Int} {x y : Int64} (hx : bL p x) (hy : bL q y) : bI (lcr p q) (lcmpW x y) := by
  have h := c_lcmp x y
  obtain ⟨h1, h2⟩ := hx
  obtain ⟨h3, h4⟩ := hy
  obtain ⟨c1, c2, c3⟩ := h
  unfold lcr
  have hc : (lcmpW x y).toInt = -1 ∨ (lcmpW x y).toInt = 0 ∨ (lcmpW x y).toInt = 1 := by
    rcases Int.lt_trichotomy x.toInt y.toInt with h | h | h
    · exact Or.inl (c1 h)
    · exact Or.inr (Or.inl (c2 h))
    · exact Or.inr (Or.inr (c3 h))
  cases q1 : decide (p.2 < q.1)
  · cases q2 : decide (q.2 < p.1)
    · cases q3 : (decide (p.1 = p.2) && (decide (q.1 = q.2) && decide (p.1 = q.1)))
      · cases q4 : decide (p.2 ≤ q.1)
        · cases q5 : decide (q.2 ≤ p.1)
          · simp only [cond_false, cond_true, bI]; omega
          · simp only [cond_false, cond_true, bI]; simp only [decide_eq_true_eq] at q5
            rcases Int.lt_trichotomy x.toInt y.toInt with h | h | h
            · omega
            · have := c2 h; omega
            · have := c3 h; omega
        · simp only [cond_false, cond_true, bI]; simp only [decide_eq_true_eq] at q4
          rcases Int.lt_trichotomy x.toInt y.toInt with h | h | h
          · have := c1 h; omega
          · have := c2 h; omega
          · omega
      · simp only [Bool.and_eq_true, decide_eq_true_eq] at q3
        have := c2 (by omega)
        simp only [cond_false, cond_true, bI]; omega
    · simp only [decide_eq_true_eq] at q2
      have := c3 (by omega)
      simp only [cond_false, cond_true, bI]; omega
  · simp only [decide_eq_true_eq] at q1
    have := c1 (by omega)
    simp only [cond_true, bI]; omega
theorem rg0_ok (A : En) : ∀ t : Term, bI (rg0 t).1 (te A t).1 ∧ bL (rg0 t).2 (te A t).2 := by
  intro t
  induction t with
  | int v => exact ⟨⟨Int.le_refl _, Int.le_refl _⟩, bL_full _⟩
  | long v => exact ⟨bI_full _, ⟨Int.le_refl _, Int.le_refl _⟩⟩
  | add a b ia ib =>
    refine ⟨?_, bL_full _⟩
    exact cut_ok (v := (te A a).1.toInt + (te A b).1.toInt) (by have := ia.1.1; have := ib.1.1; omega) (by have := ia.1.2; have := ib.1.2; omega) (c_iadd _ _)
  | sub a b ia ib =>
    refine ⟨?_, bL_full _⟩
    exact cut_ok (v := (te A a).1.toInt - (te A b).1.toInt) (by have := ia.1.1; have := ib.1.2; omega) (by have := ia.1.2; have := ib.1.1; omega) (c_isub _ _)
  | rem a b ia ib =>
    refine ⟨?_, bL_full _⟩
    have ia := ia.1
    have ib := ib.1
    show bI (bif decide (0 < (rg0 b).1.1) then (bif decide (0 ≤ (rg0 a).1.1) then (0, (rg0 b).1.2 - 1) else (1 - (rg0 b).1.2, (rg0 b).1.2 - 1)) else fI) ((te A a).1 % (te A b).1)
    have h := c_iremV (te A a).1 (te A b).1
    cases q1 : decide (0 < (rg0 b).1.1)
    · exact bI_full _
    · simp only [decide_eq_true_eq] at q1
      have hb : 0 < (te A b).1.toInt := by have := ib.1; omega
      have hb2 := ib.2
      have ha1 := ia.1
      cases q2 : decide (0 ≤ (rg0 a).1.1)
      · simp only [cond_true, cond_false, bI]
        by_cases q : 0 ≤ (te A a).1.toInt
        · have := h.1 q hb; omega
        · have := h.2 (by omega) hb; omega
      · simp only [decide_eq_true_eq] at q2
        have := h.1 (by omega) hb
        simp only [cond_true, bI]; omega
  | op2 o a b ia ib =>
    cases o with
    | iand =>
      refine ⟨?_, bL_full _⟩
      have ia := ia.1
      have ib := ib.1
      show bI (bif decide (0 ≤ (rg0 b).1.1) then (0, (rg0 b).1.2) else bif decide (0 ≤ (rg0 a).1.1) then (0, (rg0 a).1.2) else fI) ((te A a).1 &&& (te A b).1)
      have ha1 := ia.1
      have ha2 := ia.2
      have hb1 := ib.1
      have hb2 := ib.2
      cases q1 : decide (0 ≤ (rg0 b).1.1)
      · cases q2 : decide (0 ≤ (rg0 a).1.1)
        · exact bI_full _
        · simp only [decide_eq_true_eq] at q2
          have := c_and' (te A a).1 (te A b).1 (by omega)
          simp only [cond_true, cond_false, bI]; omega
      · simp only [decide_eq_true_eq] at q1
        have := c_and (te A a).1 (te A b).1 (by omega)
        simp only [cond_true, bI]; omega
    | lcmp =>
      refine ⟨?_, bL_full _⟩
      show bI (bif tq a b then (0, 0) else lcr (rg0 a).2 (rg0 b).2) (lcmpW (te A a).2 (te A b).2)
      cases q : tq a b
      · exact lcr_ok ia.2 ib.2
      · obtain rfl := tq_eq q
        have e : lcmpW (te A a).2 (te A a).2 = 0 := by simp [lcmpW, Int64.lt_irrefl]
        rw [e]; show bI (0, 0) 0; exact ⟨by decide, by decide⟩
    | land =>
      refine ⟨bI_full _, ?_⟩
      have h1 := ia.2.1
      have h2 := ib.2.1
      have h3 := c_andSL (te A a).2 (te A b).2
      have h4 := rng64 ((te A a).2 &&& (te A b).2)
      show bL (bif decide (0 ≤ (rg0 b).2.1) || decide (0 ≤ (rg0 a).2.1) then (0, 9223372036854775807) else fL) ((te A a).2 &&& (te A b).2)
      cases q : (decide (0 ≤ (rg0 b).2.1) || decide (0 ≤ (rg0 a).2.1))
      · exact bL_full _
      · simp only [Bool.or_eq_true, decide_eq_true_eq] at q
        simp only [cond_true, bL]
        rcases q with q | q
        · have := h3.2.2 (by omega); omega
        · have := h3.2.1 (by omega); omega
    | _ => exact ⟨bI_full _, bL_full _⟩
  | op1 o a ia =>
    cases o with
    | i2c =>
      refine ⟨?_, bL_full _⟩
      have := c_i2c (te A a).1
      have ia := ia.1
      have h1 := ia.1
      have h2 := ia.2
      show bI (bif decide (0 ≤ (rg0 a).1.1) && decide ((rg0 a).1.2 ≤ 65535) then (rg0 a).1 else (0, 65535)) _
      cases q : (decide (0 ≤ (rg0 a).1.1) && decide ((rg0 a).1.2 ≤ 65535))
      · simp only [cond_false, bI, te, op1v]; omega
      · simp only [Bool.and_eq_true, decide_eq_true_eq] at q
        simp only [cond_true, bI, te, op1v]; omega
    | i2b => refine ⟨?_, bL_full _⟩; have := c_i2b (te A a).1; show bI (-128, 127) _; simp only [bI, te, op1v]; omega
    | i2l => refine ⟨bI_full _, ?_⟩; have := c_i2l (te A a).1; have h1 := ia.1.1; have h2 := ia.1.2; show bL (rg0 a).1 (te A a).1.toInt64; simp only [bL]; omega
    | _ => exact ⟨bI_full _, bL_full _⟩
  | _ => exact ⟨bI_full _, bL_full _⟩
/-- what one fact says of a term -/
def nr1 (t : Term) (c : Cond) (p : Int × Int) : Int × Int := match c with
  | .eq a (.int v) => bif tq a t then (v.toInt, v.toInt) else p
  | .lt a (.int v) => bif tq a t then (p.1, bif decide (v.toInt - 1 < p.2) then v.toInt - 1 else p.2) else p
  | .lt (.int v) a => bif tq a t then (bif decide (p.1 < v.toInt + 1) then v.toInt + 1 else p.1, p.2) else p
  | .not (.lt a (.int v)) => bif tq a t then (bif decide (p.1 < v.toInt) then v.toInt else p.1, p.2) else p
  | .not (.lt (.int v) a) => bif tq a t then (p.1, bif decide (v.toInt < p.2) then v.toInt else p.2) else p
  | .not (.eq a (.int v)) => bif tq a t then (bif decide (p.1 = v.toInt) then p.1 + 1 else p.1, bif decide (p.2 = v.toInt) then p.2 - 1 else p.2) else p
  | _ => p
def nr (t : Term) : List Cond → Int × Int → Int × Int
  | [], p => p
  | c :: F, p => nr1 t c (nr t F p)
/-- the facts on a comparison of longs are read both ways -/
def rg (F : List Cond) (t : Term) : Int × Int := match t with
  | .op2 .lcmp a b => nr t F (-(nr (.op2 .lcmp b a) F (rg0 (.op2 .lcmp b a)).1).2, -(nr (.op2 .lcmp b a) F (rg0 (.op2 .lcmp b a)).1).1)
  | t => nr t F (nr t F (rg0 t).1)
theorem nr1_ok {A : En} {t : Term} {c : Cond} {p : Int × Int} (hc : hold A c) (h : bI p (te A t).1) : bI (nr1 t c p) (te A t).1 := by
  obtain ⟨h1, h2⟩ := h
  unfold nr1
  split
  all_goals first
    | exact ⟨h1, h2⟩
    | (rename_i a v
       cases q : tq a t
       · exact ⟨h1, h2⟩
       · obtain rfl := tq_eq q
         simp only [hold, te, Int32.lt_iff_toInt_lt, ← Int32.toInt_inj] at hc
         simp only [cond_true, bI]
         try simp only [Bool.cond_decide]
         refine ⟨?_, ?_⟩ <;> first | omega | (split <;> omega))
    | (rename_i v a _
       cases q : tq a t
       · exact ⟨h1, h2⟩
       · obtain rfl := tq_eq q
         simp only [hold, te, Int32.lt_iff_toInt_lt, ← Int32.toInt_inj] at hc
         simp only [cond_true, bI]
         try simp only [Bool.cond_decide]
         refine ⟨?_, ?_⟩ <;> first | omega | (split <;> omega))
theorem nr_ok {A : En} {t : Term} : ∀ {F : List Cond} {p : Int × Int}, holds A F → bI p (te A t).1 → bI (nr t F p) (te A t).1
  | [], p, _, h => h
  | c :: F, p, hF, h => nr1_ok (hF c (List.mem_cons_self ..)) (nr_ok (fun d hd => hF d (List.mem_cons_of_mem _ hd)) h)
theorem cmp_flip (x y : Int64) : (lcmpW x y).toInt = -(lcmpW y x).toInt := by
  have h1 := c_lcmp x y
  have h2 := c_lcmp y x
  rcases Int.lt_trichotomy x.toInt y.toInt with h | h | h
  · have a := h1.1 h; have b := h2.2.2 h; omega
  · have a := h1.2.1 h; have b := h2.2.1 h.symm; omega
  · have a := h1.2.2 h; have b := h2.1 h; omega
theorem rg_ok {A : En} {F : List Cond} (hF : holds A F) (t : Term) : bI (rg F t) (te A t).1 := by
  unfold rg
  split
  · rename_i a b
    refine nr_ok hF ?_
    obtain ⟨h1, h2⟩ := nr_ok hF (rg0_ok A (.op2 .lcmp b a)).1
    have h3 : (te A (.op2 .lcmp a b)).1.toInt = -(te A (.op2 .lcmp b a)).1.toInt := cmp_flip _ _
    constructor <;> simp only <;> omega
  · exact nr_ok hF (nr_ok hF (rg0_ok A t).1)
def cq : Cond → Cond → Bool
  | .eq a b, .eq c d => tq a c && tq b d
  | .lt a b, .lt c d => tq a c && tq b d
  | _, _ => false
theorem cq_eq {c d : Cond} (h : cq c d = true) : c = d := by
  unfold cq at h
  split at h
  · simp only [Bool.and_eq_true] at h; rw [tq_eq h.1, tq_eq h.2]
  · simp only [Bool.and_eq_true] at h; rw [tq_eq h.1, tq_eq h.2]
  · cases h
def lk (c : Cond) : List Cond → Option Bool
  | [] => none
  | .not d :: F => bif cq c d then some false else lk c F
  | d :: F => bif cq c d then some true else lk c F
theorem lk_ok {A : En} {c : Cond} : ∀ {F : List Cond} {b : Bool}, holds A F → lk c F = some b → (hold A c ↔ b = true)
  | [], b, _, h => by cases h
  | d :: F, b, hF, h => by
    have hd := hF d (List.mem_cons_self ..)
    have ih := fun b h => lk_ok (A := A) (c := c) (F := F) (b := b) (fun d hd => hF d (List.mem_cons_of_mem _ hd)) h
    unfold lk at h
    split at h
    · cases h
    · rename_i d' F' q
      cases q
      cases q : cq c d'
      · rw [q] at h; exact ih b h
      · rw [q] at h; cases h; obtain rfl := cq_eq q
        exact ⟨fun x => absurd x hd, fun x => by cases x⟩
    · rename_i d' F' _ q
      cases q
      cases q : cq c d
      · rw [q] at h; exact ih b h
      · rw [q] at h; cases h; obtain rfl := cq_eq q
        exact ⟨fun _ => rfl, fun _ => hd⟩
/-- is the atom decided by the facts? -/
def dec (F : List Cond) (c : Cond) : Option Bool := match c with
  | .eq (.int x) (.int y) => some (x == y)
  | .lt (.int x) (.int y) => some (decide (x < y))
  | .eq a b => bif decide ((rg F a).2 < (rg F b).1) || decide ((rg F b).2 < (rg F a).1) then some false else
      bif decide ((rg F a).1 = (rg F a).2) && (decide ((rg F b).1 = (rg F b).2) && decide ((rg F a).1 = (rg F b).1)) then some true else lk c F
  | .lt a b => bif decide ((rg F a).2 < (rg F b).1) then some true else bif decide ((rg F b).2 ≤ (rg F a).1) then some false else lk c F
  | _ => none
theorem dec_ok {A : En} {F : List Cond} {c : Cond} {b : Bool} (hF : holds A F) (h : dec F c = some b) : hold A c ↔ b = true := by
  unfold dec at h
  split at h
  · cases h; simp [hold, te]
  · cases h; simp [hold, te]
  · rename_i a b' _
    have ha := rg_ok hF a
    have hb := rg_ok hF b'
    obtain ⟨a1, a2⟩ := ha
    obtain ⟨b1, b2⟩ := hb
    simp only [hold, ← Int32.toInt_inj]
    cases q1 : (decide ((rg F a).2 < (rg F b').1) || decide ((rg F b').2 < (rg F a).1))
    · cases q2 : (decide ((rg F a).1 = (rg F a).2) && (decide ((rg F b').1 = (rg F b').2) && decide ((rg F a).1 = (rg F b').1)))
      · rw [q1, q2] at h; have := lk_ok hF h; simpa only [hold, ← Int32.toInt_inj] using this
      · rw [q1, q2] at h; cases h
        simp only [Bool.and_eq_true, decide_eq_true_eq] at q2
        simp only [iff_true]; omega
    · rw [q1] at h; cases h
      simp only [Bool.or_eq_true, decide_eq_true_eq] at q1
      simp only [Bool.false_eq_true, iff_false]; omega
  · rename_i a b' _
    have ha := rg_ok hF a
    have hb := rg_ok hF b'
    obtain ⟨a1, a2⟩ := ha
    obtain ⟨b1, b2⟩ := hb
    cases q1 : decide ((rg F a).2 < (rg F b').1)
    · cases q2 : decide ((rg F b').2 ≤ (rg F a).1)
      · rw [q1, q2] at h; exact lk_ok hF h
      · rw [q1, q2] at h; cases h
        simp only [decide_eq_true_eq] at q2
        simp only [hold, Int32.lt_iff_toInt_lt, Bool.false_eq_true, iff_false]; omega
    · rw [q1] at h; cases h
      simp only [decide_eq_true_eq] at q1
      simp only [hold, Int32.lt_iff_toInt_lt, iff_true]; omega
  · cases h
/-- a branch: decided, or both ways with the fact noted -/
def fork (F : List Cond) (c : Cond) (yes no : List Cond → Nx) : List Nx := match dec F c with
  | some true => [yes F]
  | some false => [no F]
  | none => [yes (c :: F), no (.not c :: F)]
theorem fork_ok {A : En} {F : List Cond} {c : Cond} {yes no : List Cond → Nx} (hF : holds A F) (hy : ∀ G, (yes G).1 = G) (hn : ∀ G, (no G).1 = G) :
    ∃ G, holds A G ∧ ((hold A c ∧ yes G ∈ fork F c yes no) ∨ (¬ hold A c ∧ no G ∈ fork F c yes no)) := by
  unfold fork
  cases h : dec F c with
  | none =>
    by_cases q : hold A c
    · exact ⟨c :: F, holds_cons q hF, Or.inl ⟨q, List.mem_cons_self ..⟩⟩
    · exact ⟨.not c :: F, holds_cons (c := .not c) q hF, Or.inr ⟨q, List.mem_cons_of_mem _ (List.mem_cons_self ..)⟩⟩
  | some b =>
    have q := dec_ok hF h
    cases b with
    | true => exact ⟨F, hF, Or.inl ⟨q.mpr rfl, List.mem_cons_self ..⟩⟩
    | false => exact ⟨F, hF, Or.inr ⟨fun x => (by cases q.mp x), List.mem_cons_self ..⟩⟩
/-- a term's value, where the facts fix it -/
def cv (F : List Cond) (t : Term) : Option Int32 := match t with
  | .int v => some v
  | _ => bif decide ((rg F t).1 = (rg F t).2) then some (Int32.ofInt (rg F t).1) else none
theorem cv_ok {A : En} {F : List Cond} {t : Term} {v : Int32} (hF : holds A F) (h : cv F t = some v) : (te A t).1 = v := by
  unfold cv at h
  split at h
  · cases h; rfl
  · cases q : decide ((rg F t).1 = (rg F t).2)
    · rw [q] at h; cases h
    · rw [q] at h; cases h
      simp only [decide_eq_true_eq] at q
      obtain ⟨h1, h2⟩ := rg_ok hF t
      have : (rg F t).1 = (te A t).1.toInt := by omega
      rw [this, Int32.ofInt_toInt]
/-! ### 3. The heap of what the run has made -/
section Heap
variable (Z : State) (hz : Heap) (sh : List Sh) (A : En) (O : Nat → Addr)
def ArOk (h : Heap) (a : Addr) (ty : FieldType) (xs : List SV) : Prop := ∃ cl : Cell, Arr Z h a cl ty ∧ cl.slots = (xs.map (vv A O hz.size)).toArray ∧ xs.length < 2 ^ 31 ∧ ∀ C, ty = .object C → Ovr Z cl.cls C
def ClOk (h : Heap) (a : Addr) (C : String) (fs : List Fi) (xs : List SV) : Prop := Exa Z h a C ∧ xs.length = fs.length ∧ ∀ (i : Nat) (f : Fi) (x : SV), fs[i]? = some f → xs[i]? = some x → Fld Z h a f.1 f.2.1 f.2.2.1 (vv A O hz.size x)
/-- a map: an int array of which some components are named by their index terms, the others hold one default -/
def prs : List SV → List (Term × Term)
  | (_, k) :: (_, v) :: r => (k, v) :: prs r
  | _ => []
def MpSl (n : Nat) (d : Term) (ps : List (Term × Term)) (sl : Array Value) : Prop :=
  sl.size = n ∧ n < 2 ^ 31 ∧ (∀ q ∈ ps, ¬ (te A q.1).1 < 0 ∧ (te A q.1).1.toNatClampNeg < n ∧ sl[(te A q.1).1.toNatClampNeg]? = some (.int (te A q.2).1)) ∧
    (∀ i, i < n → (∀ q ∈ ps, (te A q.1).1.toNatClampNeg ≠ i) → sl[i]? = some (.int (te A d).1)) ∧ ps.Pairwise (fun q r => (te A q.1).1 ≠ (te A r.1).1)
def MpOk (h : Heap) (a : Addr) (xs : List SV) : Prop := match xs with
  | (_, .index n) :: (_, d) :: ps => ∃ cl : Cell, Arr Z h a cl .int ∧ MpSl A n d (prs ps) cl.slots
  | _ => True
/-- an object by its shape; an id without a shape is a map, or nothing is said of the object -/
def ObAt (h : Heap) (a : Addr) (o : Ob) : Prop := match sh[o.1]? with
  | some (some ty, _) => ArOk Z hz A O h a ty o.2
  | some (none, C, _, fs) => ClOk Z hz A O h a C fs o.2
  | none => o.1 = 99 → MpOk Z A h a o.2
def HD (h : Heap) (D : List Ob) : Prop := h.size = hz.size + D.length ∧ (∀ a, a < hz.size → h[a]? = hz[a]?) ∧ ∀ (k : Nat) (o : Ob), D[k]? = some o → ObAt Z hz sh A O h (hz.size + k) o
/-- the words on a shape that the sheet bears -/
def ShOk (a0 : Array Value) (s : Sh) : Prop := s.1 = none → (Cond.instantiable s.2.1 s.2.2.1).before a0 Z = true ∧ (∀ f ∈ s.2.2.2, Laid Z a0 s.2.1 f.1 f.2.1 f.2.2.1 ∧ parseFieldDescriptor f.2.2.1 = some f.2.2.2) ∧ (s.2.2.2.map (·.2.1)).Nodup
end Heap
section HeapLaws
variable {Z : State} {hz : Heap} {sh : List Sh} {A : En} {O : Nat → Addr} {h h' : Heap} {D : List Ob} {a0 : Array Value}
theorem HD.ext (H : HD Z hz sh A O h D) : Ext hz h := by
  refine ⟨by rw [H.1]; omega, fun a c hc => ?_⟩
  rw [H.2.1 a (Array.getElem?_eq_some_iff.mp hc).1]; exact hc
theorem ArOk.ext {a : Addr} {ty : FieldType} {xs : List SV} (E : Ext h h') (X : ArOk Z hz A O h a ty xs) : ArOk Z hz A O h' a ty xs := by
  obtain ⟨cl, h1, h2⟩ := X; exact ⟨cl, h1.ext E, h2⟩
theorem ClOk.ext {a : Addr} {C : String} {fs : List Fi} {xs : List SV} (E : Ext h h') (X : ClOk Z hz A O h a C fs xs) : ClOk Z hz A O h' a C fs xs :=
  ⟨X.1.ext E, X.2.1, fun i f x hf hx => (X.2.2 i f x hf hx).ext E⟩
theorem MpOk.ext {a : Addr} {xs : List SV} (E : Ext h h') (X : MpOk Z A h a xs) : MpOk Z A h' a xs := by
  unfold MpOk at X ⊢
  split
  · obtain ⟨cl, h1, h2⟩ := X; exact ⟨cl, h1.ext E, h2⟩
  · trivial
theorem MpOk.other {a b : Addr} {xs : List SV} {sl : Nat} {v : Value} (W : Wr h h' a sl v) (ne : b ≠ a) (X : MpOk Z A h b xs) : MpOk Z A h' b xs := by
  unfold MpOk at X ⊢
  split
  · obtain ⟨cl, h1, h2⟩ := X; exact ⟨cl, h1.other W ne, h2⟩
  · trivial
theorem ObAt.ext {a : Addr} {o : Ob} (E : Ext h h') (X : ObAt Z hz sh A O h a o) : ObAt Z hz sh A O h' a o := by
  unfold ObAt at X ⊢
  split
  · rename_i q; rw [q] at X; exact ArOk.ext E X
  · rename_i q; rw [q] at X; exact ClOk.ext E X
  · rename_i q; rw [q] at X; exact fun e => MpOk.ext E (X e)
theorem ObAt.other {a b : Addr} {o : Ob} {sl : Nat} {v : Value} (W : Wr h h' a sl v) (ne : b ≠ a) (X : ObAt Z hz sh A O h b o) : ObAt Z hz sh A O h' b o := by
  unfold ObAt at X ⊢
  split
  · rename_i q; rw [q] at X; obtain ⟨cl, h1, h2⟩ := X; exact ⟨cl, h1.other W ne, h2⟩
  · rename_i q; rw [q] at X; exact ⟨X.1.wr W, X.2.1, fun i f x hf hx => (X.2.2 i f x hf hx).other W (Or.inl ne)⟩
  · rename_i q; rw [q] at X; exact fun e => MpOk.other W ne (X e)
/-- a new object behind the last -/
theorem HD.push (H : HD Z hz sh A O h D) {o : Ob} (E : Ext h h') (hs : h'.size = h.size + 1) (ho : ObAt Z hz sh A O h' h.size o) : HD Z hz sh A O h' (D ++ [o]) := by
  refine ⟨by rw [hs, H.1, List.length_append]; rfl, fun a ha => ?_, fun k o' hk => ?_⟩
  · rw [← H.2.1 a ha]
    have hlt : a < h.size := by rw [H.1]; omega
    rw [E.2 a _ (Array.getElem?_eq_getElem hlt), Array.getElem?_eq_getElem hlt]
  · rcases Nat.lt_trichotomy k D.length with q | q | q
    · rw [List.getElem?_append_left q] at hk; exact (H.2.2 k o' hk).ext E
    · subst q
      rw [List.getElem?_append_right (Nat.le_refl _), Nat.sub_self] at hk
      cases hk; rw [← H.1]; exact ho
    · rw [List.getElem?_append_right (by omega)] at hk
      have : k - D.length ≠ 0 := by omega
      cases hq : k - D.length with
      | zero => exact absurd hq this
      | succ n => rw [hq] at hk; cases hk
/-- one object is written -/
theorem HD.set (H : HD Z hz sh A O h D) {k : Nat} {o o' : Ob} {sl : Nat} {v : Value} (hk : D[k]? = some o) (W : Wr h h' (hz.size + k) sl v) (ho : ObAt Z hz sh A O h' (hz.size + k) o') : HD Z hz sh A O h' (D.set k o') := by
  refine ⟨by rw [W.size, H.1, List.length_set], fun a ha => ?_, fun j o2 hj => ?_⟩
  · rw [← H.2.1 a ha]
    have hlt : a < h.size := by rw [H.1]; omega
    obtain ⟨cb, e1, -, -, -, e5, -⟩ := wr_at W (Array.getElem?_eq_getElem hlt)
    rw [e1, e5 (Nat.ne_of_lt (Nat.lt_of_lt_of_le ha (Nat.le_add_right _ _))), Array.getElem?_eq_getElem hlt]
  · by_cases q : j = k
    · subst q
      rw [List.getElem?_set_self (List.getElem?_eq_some_iff.mp hk).1] at hj
      cases hj; exact ho
    · rw [List.getElem?_set_ne (Ne.symm q)] at hj
      exact (H.2.2 j o2 hj).other W (fun e => q (Nat.add_left_cancel e))
theorem ObAt.arr {a : Addr} {o : Ob} {ty : FieldType} {r} (q : sh[o.1]? = some (some ty, r)) : ObAt Z hz sh A O h a o = ArOk Z hz A O h a ty o.2 := by unfold ObAt; rw [q]
theorem ObAt.cls {a : Addr} {o : Ob} {C : String} {n : Nat} {fs : List Fi} (q : sh[o.1]? = some (none, C, n, fs)) : ObAt Z hz sh A O h a o = ClOk Z hz A O h a C fs o.2 := by unfold ObAt; rw [q]
theorem ObAt.mp {a : Addr} {o : Ob} (q : sh[o.1]? = none) : ObAt Z hz sh A O h a o = (o.1 = 99 → MpOk Z A h a o.2) := by unfold ObAt; rw [q]
theorem ArOk.set {a : Addr} {ty : FieldType} {xs : List SV} (X : ArOk Z hz A O h a ty xs) {j : Nat} {x : SV} (W : Wr h h' a j (vv A O hz.size x)) : ArOk Z hz A O h' a ty (xs.set j x) := by
  obtain ⟨cl, h1, h2, h3, h4⟩ := X
  refine ⟨_, h1.same W, ?_, by rw [List.length_set]; exact h3, h4⟩
  show cl.slots.setIfInBounds j _ = _
  rw [h2, List.map_set]; simp
theorem ClOk.set {a : Addr} {C : String} {n : Nat} {fs : List Fi} {xs : List SV} (hs : ShOk Z a0 (none, C, n, fs)) (X : ClOk Z hz A O h a C fs xs) {i : Nat} {f : Fi} (hf : fs[i]? = some f) {x : SV} (W : Wr h h' a (RoadKit.slotOf Z f.1 f.2.1 f.2.2.1) (vv A O hz.size x)) : ClOk Z hz A O h' a C fs (xs.set i x) := by
  obtain ⟨h1, h2, h3⟩ := X
  obtain ⟨-, s2, s3⟩ := hs rfl
  refine ⟨h1.wr W, by rw [List.length_set]; exact h2, fun j g y hg hy => ?_⟩
  by_cases q : j = i
  · subst q
    cases hf.symm.trans hg
    have hlt : j < xs.length := by rw [h2]; exact (List.getElem?_eq_some_iff.mp hf).1
    rw [List.getElem?_set_self hlt] at hy
    cases hy
    exact Fld.same W (h3 j f xs[j] hf (List.getElem?_eq_getElem hlt))
  · rw [List.getElem?_set_ne (Ne.symm q)] at hy
    obtain ⟨l1, p1⟩ := s2 g (List.mem_of_getElem? hg)
    obtain ⟨l2, p2⟩ := s2 f (List.mem_of_getElem? hf)
    refine Fld.other W (h3 j g y hg hy) (Or.inr (slot_ne l1 l2 ?_ p1 p2))
    intro e
    have hj : (fs.map (·.2.1))[j]? = some g.2.1 := by simp [hg]
    have hi : (fs.map (·.2.1))[i]? = some f.2.1 := by simp [hf]
    have hjl : j < (fs.map (·.2.1)).length := (List.getElem?_eq_some_iff.mp hj).1
    exact q ((List.getElem?_inj hjl s3).mp (by rw [hj, hi, e]))
end HeapLaws
/-! ### 4. What a step says -/
section Sim
variable (l : Launch) (Z : State) (hz : Heap) (sh : List Sh) (A : En) (O : Nat → Addr) (y : MethodName) (bytes : ByteArray) (maxL : Nat) (ret : Option FieldType)
def Act (p : Program) (s : State) (m : MethodId) (meth : Method) (c : Code) : Prop := p.tables.exec = Jvm.exec ∧ Z.Warmed39 s.vm ∧ c.code = bytes ∧ c.maxLocals = maxL ∧ s.vm.findClass y.cls = some m.cls ∧ meth.name = y.name ∧ meth.sig.returnType = ret ∧ meth.locks = false ∧ Z.Warmed39 s.vm ∧ s.methodNamed? y = some m
def frm (m : MethodId) (pc : Nat) (cf : Cf) : JFrame := mkF m pc (cf.1.map (sl1 A O hz.size)).toArray (cf.2.1.map (vv A O hz.size))
def Sim (fr lo pc : Nat) (cf : Cf) (pc' : Nat) (cf' : Cf) : Prop :=
  cf.2.2.1.length ≤ cf'.2.2.1.length ∧ cf.2.2.2 ≤ cf'.2.2.2 ∧
  ∀ (d0 s0 : Nat) (p : Program) (e : Env) (R : Room) (s : State) (m : MethodId) (args : Array Value) (below : List Frame) (meth : Method) (c : Code) (T : State) (locs : List Loc),
    d0 ≤ cf.2.2.1.length → s0 ≤ cf.2.2.2 → s.heap.size = hz.size + d0 → Act Z y bytes maxL ret p s m meth c →
    Stand p l e R s m args below meth c T locs (cf.2.2.1.length - d0) (cf.2.2.2 - s0) → HD Z hz sh A O T.heap cf.2.2.1 → Fr hz.size locs →
    cf'.2.2.1.length - d0 ≤ R.cells → cf'.2.2.2 - s0 ≤ R.slots → fr ≤ R.frames → lo ≤ R.locals →
    ∃ T' locs', Stand p l e R s m args below meth c T' locs' (cf'.2.2.1.length - d0) (cf'.2.2.2 - s0) ∧ HD Z hz sh A O T'.heap cf'.2.2.1 ∧ Fr hz.size locs' ∧
      ∀ target, Steps p.tables e below (T'.setTop (frm hz A O m pc' cf')) target → Steps p.tables e below (T.setTop (frm hz A O m pc cf)) target
def Good (pc : Nat) (f : Stp) : Prop := ∀ F cf ns, f F cf = some ns → holds A F → ∃ n ∈ ns, holds A n.1 ∧ Sim l Z hz sh A O y bytes maxL ret 0 0 pc cf n.2.1 n.2.2
/-- the run from here to the method's return -/
def Ret (fr lo pc : Nat) (cf : Cf) (v : Option SV) (D' : List Ob) (sl' : Nat) : Prop :=
  cf.2.2.1.length ≤ D'.length ∧ cf.2.2.2 ≤ sl' ∧
  ∀ (d0 s0 : Nat) (p : Program) (e : Env) (R : Room) (s : State) (m : MethodId) (args : Array Value) (below : List Frame) (meth : Method) (c : Code) (T : State) (locs : List Loc),
    d0 ≤ cf.2.2.1.length → s0 ≤ cf.2.2.2 → s.heap.size = hz.size + d0 → Act Z y bytes maxL ret p s m meth c →
    Stand p l e R s m args below meth c T locs (cf.2.2.1.length - d0) (cf.2.2.2 - s0) → HD Z hz sh A O T.heap cf.2.2.1 → Fr hz.size locs →
    D'.length - d0 ≤ R.cells → sl' - s0 ≤ R.slots → fr ≤ R.frames → lo ≤ R.locals →
    ∃ s₂ locs', Steps p.tables e below (T.setTop (frm hz A O m pc cf)) s₂ ∧ s₂.status = .running ∧ Ended s₂ below (.returned (v.map (vv A O hz.size))) ∧ HD Z hz sh A O s₂.heap D' ∧ Fr hz.size locs' ∧
      s.WarmedH s₂.vm ∧ s.sameButNew ({ s₂ with vm := s.vm } : State) locs' (D'.length - d0) (sl' - s0)
end Sim
section SimLaws
variable {l : Launch} {Z : State} {hz : Heap} {sh : List Sh} {A : En} {O : Nat → Addr} {y : MethodName} {bytes : ByteArray} {maxL : Nat} {ret : Option FieldType}
theorem Sim.thenRet {fr lo pc pc' : Nat} {cf cf' : Cf} {v : Option SV} {D' : List Ob} {sl' : Nat} (S : Sim l Z hz sh A O y bytes maxL ret fr lo pc cf pc' cf') (R : Ret l Z hz sh A O y bytes maxL ret fr lo pc' cf' v D' sl') :
    Ret l Z hz sh A O y bytes maxL ret fr lo pc cf v D' sl' := by
  obtain ⟨s1, s2, s3⟩ := S
  obtain ⟨r1, r2, r3⟩ := R
  refine ⟨Nat.le_trans s1 r1, Nat.le_trans s2 r2, ?_⟩
  intro d0 s0 p e R s m args below meth c T locs hd hs hh hA X H N hc hl hf hlo
  obtain ⟨T', locs', X', H', N', st⟩ := s3 d0 s0 p e R s m args below meth c T locs hd hs hh hA X H N (by omega) (by omega) hf hlo
  obtain ⟨s₂, L2, k1, k2⟩ := r3 d0 s0 p e R s m args below meth c T' locs' (by omega) (by omega) hh hA X' H' N' hc hl hf hlo
  exact ⟨s₂, L2, st _ k1, k2⟩
theorem Sim.mono {fr lo fr' lo' pc pc' : Nat} {cf cf' : Cf} (S : Sim l Z hz sh A O y bytes maxL ret fr lo pc cf pc' cf') (h1 : fr ≤ fr') (h2 : lo ≤ lo') : Sim l Z hz sh A O y bytes maxL ret fr' lo' pc cf pc' cf' := by
  obtain ⟨s1, s2, s3⟩ := S
  refine ⟨s1, s2, ?_⟩
  intro d0 s0 p e R s m args below meth c T locs hd hs hh hA X H N hc hl hf hlo
  exact s3 d0 s0 p e R s m args below meth c T locs hd hs hh hA X H N hc hl (Nat.le_trans h1 hf) (Nat.le_trans h2 hlo)
/-- a step that moves nothing but the frame -/
theorem sim_pure {pc pc' sl : Nat} {L L' : List SL} {S S' : List SV} {D : List Ob}
    (h : ∀ (p : Program) (e : Env) (R : Room) (s : State) (m : MethodId) (args : Array Value) (below : List Frame) (meth : Method) (c : Code) (T : State) (locs : List Loc) (cells slots : Nat),
      Act Z y bytes maxL ret p s m meth c → Stand p l e R s m args below meth c T locs cells slots → HD Z hz sh A O T.heap D →
      ∀ target, Steps p.tables e below (T.setTop (frm hz A O m pc' (L', S', D, sl))) target → Steps p.tables e below (T.setTop (frm hz A O m pc (L, S, D, sl))) target) :
    Sim l Z hz sh A O y bytes maxL ret 0 0 pc (L, S, D, sl) pc' (L', S', D, sl) :=
  ⟨Nat.le_refl _, Nat.le_refl _, fun d0 s0 p e R s m args below meth c T locs hd hs hh hA X H N hc hl hf hlo => ⟨T, locs, X, H, N, h p e R s m args below meth c T locs _ _ hA X H⟩⟩
theorem loc_at {L : List SL} {k : Nat} {x : SV} (h : L[k]? = some (some (some x))) : (L.map (sl1 A O hz.size)).toArray[k]? = some (.val (vv A O hz.size x)) := by
  simp [h, sl1]
/-! #### the single steps -/
def one (F : List Cond) (nx : Nat) (cf : Cf) : Option (List Nx) := some [(F, nx, cf)]
theorem good_one {pc nx : Nat} {f : Stp} (h : ∀ F L S D sl ns, f F (L, S, D, sl) = some ns → ∃ L' S', ns = [(F, nx, (L', S', D, sl))] ∧ (holds A F → 
    ∀ (p : Program) (e : Env) (R : Room) (s : State) (m : MethodId) (args : Array Value) (below : List Frame) (meth : Method) (c : Code) (T : State) (locs : List Loc) (cells slots : Nat),
      Act Z y bytes maxL ret p s m meth c → Stand p l e R s m args below meth c T locs cells slots → HD Z hz sh A O T.heap D →
      ∀ target, Steps p.tables e below (T.setTop (frm hz A O m nx (L', S', D, sl))) target → Steps p.tables e below (T.setTop (frm hz A O m pc (L, S, D, sl))) target)) :
    Good l Z hz sh A O y bytes maxL ret pc f := by
  intro F cf ns hf hF
  obtain ⟨L, S, D, sl⟩ := cf
  obtain ⟨L', S', rfl, k⟩ := h F L S D sl ns hf
  exact ⟨_, List.mem_cons_self .., hF, sim_pure (k hF)⟩
def sLoad (kd k nx : Nat) : Stp := fun F cf => match cf.1[k]? with
  | some (some (some x)) => bif x.1 == kd then some [(F, nx, (cf.1, x :: cf.2.1, cf.2.2))] else none
  | _ => none
theorem sLoad_inv {kd k nx : Nat} {F : List Cond} {L : List SL} {S : List SV} {D : List Ob} {sl : Nat} {ns : List Nx} (h : sLoad kd k nx F (L, S, D, sl) = some ns) : ∃ t, L[k]? = some (some (some (kd, t))) ∧ ns = [(F, nx, (L, (kd, t) :: S, D, sl))] := by
  simp only [sLoad] at h
  split at h
  · rename_i x q
    obtain ⟨k', t⟩ := x
    cases hk : (k' == kd)
    · rw [hk] at h; cases h
    · rw [hk] at h; obtain rfl := beq_iff_eq.mp hk; cases h; exact ⟨t, q, rfl⟩
  · cases h
theorem g_iload {pc k : Nat} (hd : decode bytes pc = .ok (.iload k, 2)) : Good l Z hz sh A O y bytes maxL ret pc (sLoad 0 k (pc + 2)) :=
  good_one fun F L S D sl ns h => by
    obtain ⟨t, q, rfl⟩ := sLoad_inv h
    refine ⟨_, _, rfl, fun hF p e R s m args below meth c T locs cells slots hA X H target st => ?_⟩
    exact XS.iload X.here hA.1 rfl (hb hA.2.2.1 hd) (loc_at q) st
theorem g_iloadN {pc : Nat} {k : Fin 4} (hd : decode bytes pc = .ok (.iload_n k, 1)) : Good l Z hz sh A O y bytes maxL ret pc (sLoad 0 k.val (pc + 1)) :=
  good_one fun F L S D sl ns h => by
    obtain ⟨t, q, rfl⟩ := sLoad_inv h
    refine ⟨_, _, rfl, fun hF p e R s m args below meth c T locs cells slots hA X H target st => ?_⟩
    exact XS.iloadN X.here hA.1 rfl (hb hA.2.2.1 hd) (loc_at q) st
theorem g_lload {pc k : Nat} (hd : decode bytes pc = .ok (.lload k, 2)) : Good l Z hz sh A O y bytes maxL ret pc (sLoad 1 k (pc + 2)) :=
  good_one fun F L S D sl ns h => by
    obtain ⟨t, q, rfl⟩ := sLoad_inv h
    refine ⟨_, _, rfl, fun hF p e R s m args below meth c T locs cells slots hA X H target st => ?_⟩
    exact XS.lload X.here hA.1 rfl (hb hA.2.2.1 hd) (loc_at q) st
theorem g_lloadN {pc : Nat} {k : Fin 4} (hd : decode bytes pc = .ok (.lload_n k, 1)) : Good l Z hz sh A O y bytes maxL ret pc (sLoad 1 k.val (pc + 1)) :=
  good_one fun F L S D sl ns h => by
    obtain ⟨t, q, rfl⟩ := sLoad_inv h
    refine ⟨_, _, rfl, fun hF p e R s m args below meth c T locs cells slots hA X H target st => ?_⟩
    exact XS.lloadN X.here hA.1 rfl (hb hA.2.2.1 hd) (loc_at q) st
theorem g_aload {pc k : Nat} (hd : decode bytes pc = .ok (.aload k, 2)) : Good l Z hz sh A O y bytes maxL ret pc (sLoad 2 k (pc + 2)) :=
  good_one fun F L S D sl ns h => by
    obtain ⟨t, q, rfl⟩ := sLoad_inv h
    refine ⟨_, _, rfl, fun hF p e R s m args below meth c T locs cells slots hA X H target st => ?_⟩
    exact XS.aload X.here hA.1 rfl (hb hA.2.2.1 hd) (loc_at q) (rf_isRef _ _ _) st
theorem g_aloadN {pc : Nat} {k : Fin 4} (hd : decode bytes pc = .ok (.aload_n k, 1)) : Good l Z hz sh A O y bytes maxL ret pc (sLoad 2 k.val (pc + 1)) :=
  good_one fun F L S D sl ns h => by
    obtain ⟨t, q, rfl⟩ := sLoad_inv h
    refine ⟨_, _, rfl, fun hF p e R s m args below meth c T locs cells slots hA X H target st => ?_⟩
    exact XS.aloadN X.here hA.1 rfl (hb hA.2.2.1 hd) (loc_at q) (rf_isRef _ _ _) st
/-! stores -/
def setL (L : List SL) (i : Nat) (x : SL) : Option (List SL) := bif Nat.blt i L.length then some (L.set i x) else none
def stSelf (L : List SL) (i : Nat) (x : SV) : Option (List SL) := match setL L i (some (some x)) with
  | none => none
  | some L => match cat x with
    | 2 => match L[i + 1]? with
      | none => none
      | some (some (some o)) => match cat o with
        | 2 => match setL L (i + 2) none with
          | none => none
          | some L => setL L (i + 1) (some none)
        | _ => setL L (i + 1) (some none)
      | some _ => setL L (i + 1) (some none)
    | _ => some L
def stL (L : List SL) (i : Nat) (x : SV) : Option (List SL) := match L[i]? with
  | none => none
  | some none => stSelf L i x
  | some (some none) => match setL L (i - 1) none with
    | none => none
    | some L => stSelf L i x
  | some (some (some o)) => match cat o with
    | 2 => match setL L (i + 1) none with
      | none => none
      | some L => stSelf L i x
    | _ => stSelf L i x
theorem setL_ok {L L' : List SL} {i : Nat} {x : SL} (h : setL L i x = some L') : setAt (L.map (sl1 A O hz.size)).toArray i (sl1 A O hz.size x) = some (L'.map (sl1 A O hz.size)).toArray := by
  unfold setL at h
  cases q : Nat.blt i L.length
  · rw [q] at h; cases h
  · rw [q] at h; cases h
    have hi : i < L.length := Nat.blt_eq.mp q
    simp [setAt, hi, List.map_set]
theorem stSelf_ok {L L' : List SL} {i : Nat} {x : SV} (h : stSelf L i x = some L') : storeSelf (L.map (sl1 A O hz.size)).toArray i (vv A O hz.size x) = some (L'.map (sl1 A O hz.size)).toArray := by
  unfold stSelf at h
  cases q : setL L i (some (some x)) with
  | none => rw [q] at h; cases h
  | some L1 =>
    rw [q] at h
    have e1 := setL_ok (A := A) (O := O) (hz := hz) q
    have e1' : setAt (L.map (sl1 A O hz.size)).toArray i (.val (vv A O hz.size x)) = some (L1.map (sl1 A O hz.size)).toArray := e1
    unfold storeSelf
    rw [e1', vv_cat]
    simp only [Option.bind_eq_bind, Option.bind_some]
    simp only at h
    split at h
    · rename_i hc
      rw [if_pos hc]
      have hg : (L1.map (sl1 A O hz.size)).toArray[i + 1]? = (L1[i + 1]?).map (sl1 A O hz.size) := by simp
      rw [hg]
      split at h
      · cases h
      · rename_i o hq
        rw [hq]
        simp only [Option.map_some, Option.bind_some, sl1, vv_cat]
        split at h
        · rename_i ho
          rw [if_pos ho]
          split at h
          · cases h
          · rename_i L2 hq2
            have e2 := setL_ok (A := A) (O := O) (hz := hz) hq2
            have e2' : setAt (L1.map (sl1 A O hz.size)).toArray (i + 2) .unset = some (L2.map (sl1 A O hz.size)).toArray := e2
            rw [e2']
            exact setL_ok (A := A) (O := O) (hz := hz) h
        · rename_i ho
          rw [if_neg ho]
          exact setL_ok (A := A) (O := O) (hz := hz) h
      · rename_i w hw hq
        rw [hq]
        simp only [Option.map_some, Option.bind_some]
        match w with
        | none => simp only [sl1]; exact setL_ok (A := A) (O := O) (hz := hz) h
        | some none => simp only [sl1]; exact setL_ok (A := A) (O := O) (hz := hz) h
        | some (some o) => exact absurd rfl (hw o)
    · rename_i hc
      rw [if_neg hc]; cases h; rfl
theorem stL_ok {L L' : List SL} {i : Nat} {x : SV} (h : stL L i x = some L') : storeLocals (L.map (sl1 A O hz.size)).toArray i (vv A O hz.size x) = some (L'.map (sl1 A O hz.size)).toArray := by
  have hg : (L.map (sl1 A O hz.size)).toArray[i]? = (L[i]?).map (sl1 A O hz.size) := by simp
  unfold stL at h
  unfold storeLocals
  rw [hg]
  split at h
  · cases h
  · rename_i q; rw [q]; simp only [Option.map_some, Option.bind_eq_bind, Option.bind_some, sl1]; exact stSelf_ok h
  · rename_i q; rw [q]; simp only [Option.map_some, Option.bind_eq_bind, Option.bind_some, sl1]
    split at h
    · cases h
    · rename_i L2 hq2
      have e2 := setL_ok (A := A) (O := O) (hz := hz) hq2
      have e2' : setAt (L.map (sl1 A O hz.size)).toArray (i - 1) .unset = some (L2.map (sl1 A O hz.size)).toArray := e2
      rw [e2']; exact stSelf_ok h
  · rename_i o q; rw [q]; simp only [Option.map_some, Option.bind_eq_bind, Option.bind_some, sl1, vv_cat]
    split at h
    · rename_i ho
      rw [if_pos ho]
      split at h
      · cases h
      · rename_i L2 hq2
        have e2 := setL_ok (A := A) (O := O) (hz := hz) hq2
        have e2' : setAt (L.map (sl1 A O hz.size)).toArray (i + 1) .unset = some (L2.map (sl1 A O hz.size)).toArray := e2
        rw [e2']; exact stSelf_ok h
    · rename_i ho
      rw [if_neg ho]; exact stSelf_ok h
def sStore (kd k nx : Nat) : Stp := fun F cf => match cf.2.1 with
  | x :: S => bif x.1 == kd then (match stL cf.1 k x with
    | some L => some [(F, nx, (L, S, cf.2.2))]
    | none => none) else none
  | [] => none
theorem sStore_inv {kd k nx : Nat} {F : List Cond} {L : List SL} {S : List SV} {D : List Ob} {sl : Nat} {ns : List Nx} (h : sStore kd k nx F (L, S, D, sl) = some ns) : ∃ t S' L', S = (kd, t) :: S' ∧ stL L k (kd, t) = some L' ∧ ns = [(F, nx, (L', S', D, sl))] := by
  simp only [sStore] at h
  split at h
  · rename_i x S'
    obtain ⟨k', t⟩ := x
    cases hk : (k' == kd)
    · rw [hk] at h; cases h
    · rw [hk] at h; obtain rfl := beq_iff_eq.mp hk
      simp only [cond_true] at h
      split at h
      · rename_i L' q; cases h; exact ⟨t, S', L', rfl, q, rfl⟩
      · cases h
  · cases h
theorem g_istore {pc k : Nat} (hd : decode bytes pc = .ok (.istore k, 2)) : Good l Z hz sh A O y bytes maxL ret pc (sStore 0 k (pc + 2)) :=
  good_one fun F L S D sl ns h => by
    obtain ⟨t, S', L', rfl, q, rfl⟩ := sStore_inv h
    refine ⟨_, _, rfl, fun hF p e R s m args below meth c T locs cells slots hA X H target st => ?_⟩
    exact XS.istore X.here hA.1 rfl (hb hA.2.2.1 hd) rfl (stL_ok q) st
theorem g_istoreN {pc : Nat} {k : Fin 4} (hd : decode bytes pc = .ok (.istore_n k, 1)) : Good l Z hz sh A O y bytes maxL ret pc (sStore 0 k.val (pc + 1)) :=
  good_one fun F L S D sl ns h => by
    obtain ⟨t, S', L', rfl, q, rfl⟩ := sStore_inv h
    refine ⟨_, _, rfl, fun hF p e R s m args below meth c T locs cells slots hA X H target st => ?_⟩
    exact XS.istoreN X.here hA.1 rfl (hb hA.2.2.1 hd) rfl (stL_ok q) st
theorem g_lstore {pc k : Nat} (hd : decode bytes pc = .ok (.lstore k, 2)) : Good l Z hz sh A O y bytes maxL ret pc (sStore 1 k (pc + 2)) :=
  good_one fun F L S D sl ns h => by
    obtain ⟨t, S', L', rfl, q, rfl⟩ := sStore_inv h
    refine ⟨_, _, rfl, fun hF p e R s m args below meth c T locs cells slots hA X H target st => ?_⟩
    exact XS.lstore X.here hA.1 rfl (hb hA.2.2.1 hd) rfl (stL_ok q) st
theorem g_lstoreN {pc : Nat} {k : Fin 4} (hd : decode bytes pc = .ok (.lstore_n k, 1)) : Good l Z hz sh A O y bytes maxL ret pc (sStore 1 k.val (pc + 1)) :=
  good_one fun F L S D sl ns h => by
    obtain ⟨t, S', L', rfl, q, rfl⟩ := sStore_inv h
    refine ⟨_, _, rfl, fun hF p e R s m args below meth c T locs cells slots hA X H target st => ?_⟩
    exact XS.lstoreN X.here hA.1 rfl (hb hA.2.2.1 hd) rfl (stL_ok q) st
theorem g_astore {pc k : Nat} (hd : decode bytes pc = .ok (.astore k, 2)) : Good l Z hz sh A O y bytes maxL ret pc (sStore 2 k (pc + 2)) :=
  good_one fun F L S D sl ns h => by
    obtain ⟨t, S', L', rfl, q, rfl⟩ := sStore_inv h
    refine ⟨_, _, rfl, fun hF p e R s m args below meth c T locs cells slots hA X H target st => ?_⟩
    exact XS.astore X.here hA.1 rfl (hb hA.2.2.1 hd) rfl (rf_isRef _ _ _) (stL_ok q) st
theorem g_astoreN {pc : Nat} {k : Fin 4} (hd : decode bytes pc = .ok (.astore_n k, 1)) : Good l Z hz sh A O y bytes maxL ret pc (sStore 2 k.val (pc + 1)) :=
  good_one fun F L S D sl ns h => by
    obtain ⟨t, S', L', rfl, q, rfl⟩ := sStore_inv h
    refine ⟨_, _, rfl, fun hF p e R s m args below meth c T locs cells slots hA X H target st => ?_⟩
    exact XS.astoreN X.here hA.1 rfl (hb hA.2.2.1 hd) rfl (rf_isRef _ _ _) (stL_ok q) st
/-! constants -/
def sPush (x : SV) (nx : Nat) : Stp := fun F cf => some [(F, nx, (cf.1, x :: cf.2.1, cf.2.2))]
theorem g_iconst {pc : Nat} {i : Int} {v : Int32} (hd : decode bytes pc = .ok (.iconst i, 1)) (hv : Int32.ofInt i = v) : Good l Z hz sh A O y bytes maxL ret pc (sPush (0, .int v) (pc + 1)) :=
  good_one fun F L S D sl ns h => by
    cases h
    refine ⟨_, _, rfl, fun hF p e R s m args below meth c T locs cells slots hA X H target st => ?_⟩
    subst hv; exact XS.iconst X.here hA.1 rfl (hb hA.2.2.1 hd) st
theorem g_bipush {pc : Nat} {i : Int} {v : Int32} (hd : decode bytes pc = .ok (.bipush i, 2)) (hv : (Int8.ofInt i).toInt32 = v) : Good l Z hz sh A O y bytes maxL ret pc (sPush (0, .int v) (pc + 2)) :=
  good_one fun F L S D sl ns h => by
    cases h
    refine ⟨_, _, rfl, fun hF p e R s m args below meth c T locs cells slots hA X H target st => ?_⟩
    subst hv; exact XS.bipush X.here hA.1 rfl (hb hA.2.2.1 hd) st
theorem g_sipush {pc : Nat} {i : Int} {v : Int32} (hd : decode bytes pc = .ok (.sipush i, 3)) (hv : (Int16.ofInt i).toInt32 = v) : Good l Z hz sh A O y bytes maxL ret pc (sPush (0, .int v) (pc + 3)) :=
  good_one fun F L S D sl ns h => by
    cases h
    refine ⟨_, _, rfl, fun hF p e R s m args below meth c T locs cells slots hA X H target st => ?_⟩
    subst hv; exact XS.sipush X.here hA.1 rfl (hb hA.2.2.1 hd) st
theorem g_lconst {pc : Nat} {k : Fin 2} {v : Int64} (hd : decode bytes pc = .ok (.lconst k, 1)) (hv : Int64.ofNat k = v) : Good l Z hz sh A O y bytes maxL ret pc (sPush (1, .long v) (pc + 1)) :=
  good_one fun F L S D sl ns h => by
    cases h
    refine ⟨_, _, rfl, fun hF p e R s m args below meth c T locs cells slots hA X H target st => ?_⟩
    subst hv; exact XS.lconst X.here hA.1 rfl (hb hA.2.2.1 hd) st
theorem g_null {pc : Nat} (hd : decode bytes pc = .ok (.aconst_null, 1)) : Good l Z hz sh A O y bytes maxL ret pc (sPush (2, .null) (pc + 1)) :=
  good_one fun F L S D sl ns h => by
    cases h
    refine ⟨_, _, rfl, fun hF p e R s m args below meth c T locs cells slots hA X H target st => ?_⟩
    exact XS.aconstNull X.here hA.1 rfl (hb hA.2.2.1 hd) st
theorem g_ldc {pc : Nat} {k : Nat} {v : Int32} {a0 : Array Value} (hd : decode bytes pc = .ok (.ldc k, 2)) (w : (Cond.constant y.cls k v).before a0 Z = true) : Good l Z hz sh A O y bytes maxL ret pc (sPush (0, .int v) (pc + 2)) :=
  good_one fun F L S D sl ns h => by
    cases h
    refine ⟨_, _, rfl, fun hF p e R s m args below meth c T locs cells slots hA X H target st => ?_⟩
    exact X.ldcInt hA.1 hA.2.2.2.2.1 (mvT hA.2.1 w) (g := frm hz A O m pc (L, S, D, sl)) rfl (hb hA.2.2.1 hd) _ st
theorem g_ldcw {pc : Nat} {k : Nat} {v : Int32} {a0 : Array Value} (hd : decode bytes pc = .ok (.ldc_w k, 3)) (w : (Cond.constant y.cls k v).before a0 Z = true) : Good l Z hz sh A O y bytes maxL ret pc (sPush (0, .int v) (pc + 3)) :=
  good_one fun F L S D sl ns h => by
    cases h
    refine ⟨_, _, rfl, fun hF p e R s m args below meth c T locs cells slots hA X H target st => ?_⟩
    exact X.ldcwInt hA.1 hA.2.2.2.2.1 (mvT hA.2.1 w) (g := frm hz A O m pc (L, S, D, sl)) rfl (hb hA.2.2.1 hd) _ st
theorem g_ldc2 {pc : Nat} {k : Nat} {v : Int64} {a0 : Array Value} (hd : decode bytes pc = .ok (.ldc2_w k, 3)) (w : (Cond.constantLong y.cls k v).before a0 Z = true) : Good l Z hz sh A O y bytes maxL ret pc (sPush (1, .long v) (pc + 3)) :=
  good_one fun F L S D sl ns h => by
    cases h
    refine ⟨_, _, rfl, fun hF p e R s m args below meth c T locs cells slots hA X H target st => ?_⟩
    exact X.ldc2Long hA.1 hA.2.2.2.2.1 (mvT hA.2.1 w) (g := frm hz A O m pc (L, S, D, sl)) rfl (hb hA.2.2.1 hd) _ st
def sStop : Stp := fun _ _ => none
theorem g_stop {pc : Nat} : Good l Z hz sh A O y bytes maxL ret pc sStop := fun _ _ _ h => by cases h
/-! operations -/
def jI (f : Term → Term → Term) (a b : Term) : Term := smI (f a b)
def jL (f : Term → Term → Term) (a b : Term) : Term := smL (f a b)
def sBin (k1 k2 k3 : Nat) (f : Term → Term → Term) (nx : Nat) : Stp := fun F cf => match cf.2.1 with
  | b :: a :: S => bif (a.1 == k1) && (b.1 == k2) then some [(F, nx, (cf.1, (k3, f a.2 b.2) :: S, cf.2.2))] else none
  | _ => none
theorem sBin_inv {k1 k2 k3 : Nat} {f : Term → Term → Term} {nx : Nat} {F : List Cond} {L : List SL} {S : List SV} {D : List Ob} {sl : Nat} {ns : List Nx} (h : sBin k1 k2 k3 f nx F (L, S, D, sl) = some ns) : ∃ a b S', S = (k2, b) :: (k1, a) :: S' ∧ ns = [(F, nx, (L, (k3, f a b) :: S', D, sl))] := by
  simp only [sBin] at h
  split at h
  · rename_i b a S'
    obtain ⟨kb, b⟩ := b
    obtain ⟨ka, a⟩ := a
    cases hk : ((ka == k1) && (kb == k2))
    · rw [hk] at h; cases h
    · rw [hk] at h
      simp only [Bool.and_eq_true, beq_iff_eq] at hk
      obtain ⟨rfl, rfl⟩ := hk
      cases h; exact ⟨a, b, S', rfl, rfl⟩
  · cases h
theorem g_iadd {pc : Nat} (hd : decode bytes pc = .ok (.iadd, 1)) : Good l Z hz sh A O y bytes maxL ret pc (sBin 0 0 0 (jI Term.add) (pc + 1)) :=
  good_one fun F L S D sl ns h => by
    obtain ⟨a, b, S', rfl, rfl⟩ := sBin_inv h
    refine ⟨_, _, rfl, fun hF p e_ R s m args below meth c T locs cells slots hA X H target st => ?_⟩
    have e : vv A O hz.size (0, jI Term.add a b) = .int ((te A a).1 + (te A b).1) := by show Value.int (te A (smI _)).1 = _; rw [te_smI]; rfl
    have st' : Steps p.tables e_ below (T.setTop (mkF m (pc + 1) (L.map (sl1 A O hz.size)).toArray (vv A O hz.size (0, jI Term.add a b) :: S'.map (vv A O hz.size)))) target := st
    rw [e] at st'
    exact XS.iadd X.here hA.1 rfl (hb hA.2.2.1 hd) rfl st'
theorem g_isub {pc : Nat} (hd : decode bytes pc = .ok (.isub, 1)) : Good l Z hz sh A O y bytes maxL ret pc (sBin 0 0 0 (jI Term.sub) (pc + 1)) :=
  good_one fun F L S D sl ns h => by
    obtain ⟨a, b, S', rfl, rfl⟩ := sBin_inv h
    refine ⟨_, _, rfl, fun hF p e_ R s m args below meth c T locs cells slots hA X H target st => ?_⟩
    have e : vv A O hz.size (0, jI Term.sub a b) = .int ((te A a).1 - (te A b).1) := by show Value.int (te A (smI _)).1 = _; rw [te_smI]; rfl
    have st' : Steps p.tables e_ below (T.setTop (mkF m (pc + 1) (L.map (sl1 A O hz.size)).toArray (vv A O hz.size (0, jI Term.sub a b) :: S'.map (vv A O hz.size)))) target := st
    rw [e] at st'
    exact XS.isub X.here hA.1 rfl (hb hA.2.2.1 hd) rfl st'
theorem g_imul {pc : Nat} (hd : decode bytes pc = .ok (.imul, 1)) : Good l Z hz sh A O y bytes maxL ret pc (sBin 0 0 0 (jI Term.mul) (pc + 1)) :=
  good_one fun F L S D sl ns h => by
    obtain ⟨a, b, S', rfl, rfl⟩ := sBin_inv h
    refine ⟨_, _, rfl, fun hF p e_ R s m args below meth c T locs cells slots hA X H target st => ?_⟩
    have e : vv A O hz.size (0, jI Term.mul a b) = .int ((te A a).1 * (te A b).1) := by show Value.int (te A (smI _)).1 = _; rw [te_smI]; rfl
    have st' : Steps p.tables e_ below (T.setTop (mkF m (pc + 1) (L.map (sl1 A O hz.size)).toArray (vv A O hz.size (0, jI Term.mul a b) :: S'.map (vv A O hz.size)))) target := st
    rw [e] at st'
    exact XS.imul X.here hA.1 rfl (hb hA.2.2.1 hd) rfl st'
theorem g_iand {pc : Nat} (hd : decode bytes pc = .ok (.iand, 1)) : Good l Z hz sh A O y bytes maxL ret pc (sBin 0 0 0 (jI (Term.op2 .iand)) (pc + 1)) :=
  good_one fun F L S D sl ns h => by
    obtain ⟨a, b, S', rfl, rfl⟩ := sBin_inv h
    refine ⟨_, _, rfl, fun hF p e_ R s m args below meth c T locs cells slots hA X H target st => ?_⟩
    have e : vv A O hz.size (0, jI (Term.op2 .iand) a b) = .int ((te A a).1 &&& (te A b).1) := by show Value.int (te A (smI _)).1 = _; rw [te_smI]; rfl
    have st' : Steps p.tables e_ below (T.setTop (mkF m (pc + 1) (L.map (sl1 A O hz.size)).toArray (vv A O hz.size (0, jI (Term.op2 .iand) a b) :: S'.map (vv A O hz.size)))) target := st
    rw [e] at st'
    exact XS.iand X.here hA.1 rfl (hb hA.2.2.1 hd) rfl st'
theorem g_ior {pc : Nat} (hd : decode bytes pc = .ok (.ior, 1)) : Good l Z hz sh A O y bytes maxL ret pc (sBin 0 0 0 (jI (Term.op2 .ior)) (pc + 1)) :=
  good_one fun F L S D sl ns h => by
    obtain ⟨a, b, S', rfl, rfl⟩ := sBin_inv h
    refine ⟨_, _, rfl, fun hF p e_ R s m args below meth c T locs cells slots hA X H target st => ?_⟩
    have e : vv A O hz.size (0, jI (Term.op2 .ior) a b) = .int ((te A a).1 ||| (te A b).1) := by show Value.int (te A (smI _)).1 = _; rw [te_smI]; rfl
    have st' : Steps p.tables e_ below (T.setTop (mkF m (pc + 1) (L.map (sl1 A O hz.size)).toArray (vv A O hz.size (0, jI (Term.op2 .ior) a b) :: S'.map (vv A O hz.size)))) target := st
    rw [e] at st'
    exact XS.ior X.here hA.1 rfl (hb hA.2.2.1 hd) rfl st'
theorem g_ixor {pc : Nat} (hd : decode bytes pc = .ok (.ixor, 1)) : Good l Z hz sh A O y bytes maxL ret pc (sBin 0 0 0 (jI (Term.op2 .ixor)) (pc + 1)) :=
  good_one fun F L S D sl ns h => by
    obtain ⟨a, b, S', rfl, rfl⟩ := sBin_inv h
    refine ⟨_, _, rfl, fun hF p e_ R s m args below meth c T locs cells slots hA X H target st => ?_⟩
    have e : vv A O hz.size (0, jI (Term.op2 .ixor) a b) = .int ((te A a).1 ^^^ (te A b).1) := by show Value.int (te A (smI _)).1 = _; rw [te_smI]; rfl
    have st' : Steps p.tables e_ below (T.setTop (mkF m (pc + 1) (L.map (sl1 A O hz.size)).toArray (vv A O hz.size (0, jI (Term.op2 .ixor) a b) :: S'.map (vv A O hz.size)))) target := st
    rw [e] at st'
    exact XS.ixor X.here hA.1 rfl (hb hA.2.2.1 hd) rfl st'
theorem g_ishl {pc : Nat} (hd : decode bytes pc = .ok (.ishl, 1)) : Good l Z hz sh A O y bytes maxL ret pc (sBin 0 0 0 (jI (Term.op2 .ishl)) (pc + 1)) :=
  good_one fun F L S D sl ns h => by
    obtain ⟨a, b, S', rfl, rfl⟩ := sBin_inv h
    refine ⟨_, _, rfl, fun hF p e_ R s m args below meth c T locs cells slots hA X H target st => ?_⟩
    have e : vv A O hz.size (0, jI (Term.op2 .ishl) a b) = .int ((te A a).1 <<< ((te A b).1 &&& 31)) := by show Value.int (te A (smI _)).1 = _; rw [te_smI]; rfl
    have st' : Steps p.tables e_ below (T.setTop (mkF m (pc + 1) (L.map (sl1 A O hz.size)).toArray (vv A O hz.size (0, jI (Term.op2 .ishl) a b) :: S'.map (vv A O hz.size)))) target := st
    rw [e] at st'
    exact XS.ishl X.here hA.1 rfl (hb hA.2.2.1 hd) rfl st'
theorem g_ishr {pc : Nat} (hd : decode bytes pc = .ok (.ishr, 1)) : Good l Z hz sh A O y bytes maxL ret pc (sBin 0 0 0 (jI (Term.op2 .ishr)) (pc + 1)) :=
  good_one fun F L S D sl ns h => by
    obtain ⟨a, b, S', rfl, rfl⟩ := sBin_inv h
    refine ⟨_, _, rfl, fun hF p e_ R s m args below meth c T locs cells slots hA X H target st => ?_⟩
    have e : vv A O hz.size (0, jI (Term.op2 .ishr) a b) = .int ((te A a).1 >>> ((te A b).1 &&& 31)) := by show Value.int (te A (smI _)).1 = _; rw [te_smI]; rfl
    have st' : Steps p.tables e_ below (T.setTop (mkF m (pc + 1) (L.map (sl1 A O hz.size)).toArray (vv A O hz.size (0, jI (Term.op2 .ishr) a b) :: S'.map (vv A O hz.size)))) target := st
    rw [e] at st'
    exact XS.ishr X.here hA.1 rfl (hb hA.2.2.1 hd) rfl st'
theorem g_iushr {pc : Nat} (hd : decode bytes pc = .ok (.iushr, 1)) : Good l Z hz sh A O y bytes maxL ret pc (sBin 0 0 0 (jI (Term.op2 .iushr)) (pc + 1)) :=
  good_one fun F L S D sl ns h => by
    obtain ⟨a, b, S', rfl, rfl⟩ := sBin_inv h
    refine ⟨_, _, rfl, fun hF p e_ R s m args below meth c T locs cells slots hA X H target st => ?_⟩
    have e : vv A O hz.size (0, jI (Term.op2 .iushr) a b) = .int (((te A a).1.toUInt32 >>> ((te A b).1 &&& 31).toUInt32).toInt32) := by show Value.int (te A (smI _)).1 = _; rw [te_smI]; rfl
    have st' : Steps p.tables e_ below (T.setTop (mkF m (pc + 1) (L.map (sl1 A O hz.size)).toArray (vv A O hz.size (0, jI (Term.op2 .iushr) a b) :: S'.map (vv A O hz.size)))) target := st
    rw [e] at st'
    exact XS.iushr X.here hA.1 rfl (hb hA.2.2.1 hd) rfl st'
theorem g_ladd {pc : Nat} (hd : decode bytes pc = .ok (.ladd, 1)) : Good l Z hz sh A O y bytes maxL ret pc (sBin 1 1 1 (jL (Term.op2 .ladd)) (pc + 1)) :=
  good_one fun F L S D sl ns h => by
    obtain ⟨a, b, S', rfl, rfl⟩ := sBin_inv h
    refine ⟨_, _, rfl, fun hF p e_ R s m args below meth c T locs cells slots hA X H target st => ?_⟩
    have e : vv A O hz.size (1, jL (Term.op2 .ladd) a b) = .long ((te A a).2 + (te A b).2) := by show Value.long (te A (smL _)).2 = _; rw [te_smL]; rfl
    have st' : Steps p.tables e_ below (T.setTop (mkF m (pc + 1) (L.map (sl1 A O hz.size)).toArray (vv A O hz.size (1, jL (Term.op2 .ladd) a b) :: S'.map (vv A O hz.size)))) target := st
    rw [e] at st'
    exact XS.ladd X.here hA.1 rfl (hb hA.2.2.1 hd) rfl st'
theorem g_lsub {pc : Nat} (hd : decode bytes pc = .ok (.lsub, 1)) : Good l Z hz sh A O y bytes maxL ret pc (sBin 1 1 1 (jL (Term.op2 .lsub)) (pc + 1)) :=
  good_one fun F L S D sl ns h => by
    obtain ⟨a, b, S', rfl, rfl⟩ := sBin_inv h
    refine ⟨_, _, rfl, fun hF p e_ R s m args below meth c T locs cells slots hA X H target st => ?_⟩
    have e : vv A O hz.size (1, jL (Term.op2 .lsub) a b) = .long ((te A a).2 - (te A b).2) := by show Value.long (te A (smL _)).2 = _; rw [te_smL]; rfl
    have st' : Steps p.tables e_ below (T.setTop (mkF m (pc + 1) (L.map (sl1 A O hz.size)).toArray (vv A O hz.size (1, jL (Term.op2 .lsub) a b) :: S'.map (vv A O hz.size)))) target := st
    rw [e] at st'
    exact XS.lsub X.here hA.1 rfl (hb hA.2.2.1 hd) rfl st'
theorem g_lmul {pc : Nat} (hd : decode bytes pc = .ok (.lmul, 1)) : Good l Z hz sh A O y bytes maxL ret pc (sBin 1 1 1 (jL (Term.op2 .lmul)) (pc + 1)) :=
  good_one fun F L S D sl ns h => by
    obtain ⟨a, b, S', rfl, rfl⟩ := sBin_inv h
    refine ⟨_, _, rfl, fun hF p e_ R s m args below meth c T locs cells slots hA X H target st => ?_⟩
    have e : vv A O hz.size (1, jL (Term.op2 .lmul) a b) = .long ((te A a).2 * (te A b).2) := by show Value.long (te A (smL _)).2 = _; rw [te_smL]; rfl
    have st' : Steps p.tables e_ below (T.setTop (mkF m (pc + 1) (L.map (sl1 A O hz.size)).toArray (vv A O hz.size (1, jL (Term.op2 .lmul) a b) :: S'.map (vv A O hz.size)))) target := st
    rw [e] at st'
    exact XS.lmul X.here hA.1 rfl (hb hA.2.2.1 hd) rfl st'
theorem g_land {pc : Nat} (hd : decode bytes pc = .ok (.land, 1)) : Good l Z hz sh A O y bytes maxL ret pc (sBin 1 1 1 (jL (Term.op2 .land)) (pc + 1)) :=
  good_one fun F L S D sl ns h => by
    obtain ⟨a, b, S', rfl, rfl⟩ := sBin_inv h
    refine ⟨_, _, rfl, fun hF p e_ R s m args below meth c T locs cells slots hA X H target st => ?_⟩
    have e : vv A O hz.size (1, jL (Term.op2 .land) a b) = .long ((te A a).2 &&& (te A b).2) := by show Value.long (te A (smL _)).2 = _; rw [te_smL]; rfl
    have st' : Steps p.tables e_ below (T.setTop (mkF m (pc + 1) (L.map (sl1 A O hz.size)).toArray (vv A O hz.size (1, jL (Term.op2 .land) a b) :: S'.map (vv A O hz.size)))) target := st
    rw [e] at st'
    exact XS.land X.here hA.1 rfl (hb hA.2.2.1 hd) rfl st'
theorem g_lor {pc : Nat} (hd : decode bytes pc = .ok (.lor, 1)) : Good l Z hz sh A O y bytes maxL ret pc (sBin 1 1 1 (jL (Term.op2 .lor)) (pc + 1)) :=
  good_one fun F L S D sl ns h => by
    obtain ⟨a, b, S', rfl, rfl⟩ := sBin_inv h
    refine ⟨_, _, rfl, fun hF p e_ R s m args below meth c T locs cells slots hA X H target st => ?_⟩
    have e : vv A O hz.size (1, jL (Term.op2 .lor) a b) = .long ((te A a).2 ||| (te A b).2) := by show Value.long (te A (smL _)).2 = _; rw [te_smL]; rfl
    have st' : Steps p.tables e_ below (T.setTop (mkF m (pc + 1) (L.map (sl1 A O hz.size)).toArray (vv A O hz.size (1, jL (Term.op2 .lor) a b) :: S'.map (vv A O hz.size)))) target := st
    rw [e] at st'
    exact XS.lor X.here hA.1 rfl (hb hA.2.2.1 hd) rfl st'
theorem g_lxor {pc : Nat} (hd : decode bytes pc = .ok (.lxor, 1)) : Good l Z hz sh A O y bytes maxL ret pc (sBin 1 1 1 (jL (Term.op2 .lxor)) (pc + 1)) :=
  good_one fun F L S D sl ns h => by
    obtain ⟨a, b, S', rfl, rfl⟩ := sBin_inv h
    refine ⟨_, _, rfl, fun hF p e_ R s m args below meth c T locs cells slots hA X H target st => ?_⟩
    have e : vv A O hz.size (1, jL (Term.op2 .lxor) a b) = .long ((te A a).2 ^^^ (te A b).2) := by show Value.long (te A (smL _)).2 = _; rw [te_smL]; rfl
    have st' : Steps p.tables e_ below (T.setTop (mkF m (pc + 1) (L.map (sl1 A O hz.size)).toArray (vv A O hz.size (1, jL (Term.op2 .lxor) a b) :: S'.map (vv A O hz.size)))) target := st
    rw [e] at st'
    exact XS.lxor X.here hA.1 rfl (hb hA.2.2.1 hd) rfl st'
theorem g_lshl {pc : Nat} (hd : decode bytes pc = .ok (.lshl, 1)) : Good l Z hz sh A O y bytes maxL ret pc (sBin 1 0 1 (jL (Term.op2 .lshl)) (pc + 1)) :=
  good_one fun F L S D sl ns h => by
    obtain ⟨a, b, S', rfl, rfl⟩ := sBin_inv h
    refine ⟨_, _, rfl, fun hF p e_ R s m args below meth c T locs cells slots hA X H target st => ?_⟩
    have e : vv A O hz.size (1, jL (Term.op2 .lshl) a b) = .long ((te A a).2 <<< ((te A b).1 &&& 0x3f).toInt64) := by show Value.long (te A (smL _)).2 = _; rw [te_smL]; rfl
    have st' : Steps p.tables e_ below (T.setTop (mkF m (pc + 1) (L.map (sl1 A O hz.size)).toArray (vv A O hz.size (1, jL (Term.op2 .lshl) a b) :: S'.map (vv A O hz.size)))) target := st
    rw [e] at st'
    exact XS.lshl X.here hA.1 rfl (hb hA.2.2.1 hd) rfl st'
theorem g_lshr {pc : Nat} (hd : decode bytes pc = .ok (.lshr, 1)) : Good l Z hz sh A O y bytes maxL ret pc (sBin 1 0 1 (jL (Term.op2 .lshr)) (pc + 1)) :=
  good_one fun F L S D sl ns h => by
    obtain ⟨a, b, S', rfl, rfl⟩ := sBin_inv h
    refine ⟨_, _, rfl, fun hF p e_ R s m args below meth c T locs cells slots hA X H target st => ?_⟩
    have e : vv A O hz.size (1, jL (Term.op2 .lshr) a b) = .long ((te A a).2 >>> ((te A b).1 &&& 0x3f).toInt64) := by show Value.long (te A (smL _)).2 = _; rw [te_smL]; rfl
    have st' : Steps p.tables e_ below (T.setTop (mkF m (pc + 1) (L.map (sl1 A O hz.size)).toArray (vv A O hz.size (1, jL (Term.op2 .lshr) a b) :: S'.map (vv A O hz.size)))) target := st
    rw [e] at st'
    exact XS.lshr X.here hA.1 rfl (hb hA.2.2.1 hd) rfl st'
theorem g_lushr {pc : Nat} (hd : decode bytes pc = .ok (.lushr, 1)) : Good l Z hz sh A O y bytes maxL ret pc (sBin 1 0 1 (jL (Term.op2 .lushr)) (pc + 1)) :=
  good_one fun F L S D sl ns h => by
    obtain ⟨a, b, S', rfl, rfl⟩ := sBin_inv h
    refine ⟨_, _, rfl, fun hF p e_ R s m args below meth c T locs cells slots hA X H target st => ?_⟩
    have e : vv A O hz.size (1, jL (Term.op2 .lushr) a b) = .long (((te A a).2.toUInt64 >>> ((te A b).1 &&& 0x3f).toInt64.toUInt64).toInt64) := by show Value.long (te A (smL _)).2 = _; rw [te_smL]; rfl
    have st' : Steps p.tables e_ below (T.setTop (mkF m (pc + 1) (L.map (sl1 A O hz.size)).toArray (vv A O hz.size (1, jL (Term.op2 .lushr) a b) :: S'.map (vv A O hz.size)))) target := st
    rw [e] at st'
    exact XS.lushr X.here hA.1 rfl (hb hA.2.2.1 hd) rfl st'
theorem g_lcmp {pc : Nat} (hd : decode bytes pc = .ok (.lcmp, 1)) : Good l Z hz sh A O y bytes maxL ret pc (sBin 1 1 0 (jI (Term.op2 .lcmp)) (pc + 1)) :=
  good_one fun F L S D sl ns h => by
    obtain ⟨a, b, S', rfl, rfl⟩ := sBin_inv h
    refine ⟨_, _, rfl, fun hF p e_ R s m args below meth c T locs cells slots hA X H target st => ?_⟩
    have e : vv A O hz.size (0, jI (Term.op2 .lcmp) a b) = .int (lcmpW (te A a).2 (te A b).2) := by show Value.int (te A (smI _)).1 = _; rw [te_smI]; rfl
    have st' : Steps p.tables e_ below (T.setTop (mkF m (pc + 1) (L.map (sl1 A O hz.size)).toArray (vv A O hz.size (0, jI (Term.op2 .lcmp) a b) :: S'.map (vv A O hz.size)))) target := st
    rw [e] at st'
    exact XS.lcmp X.here hA.1 rfl (hb hA.2.2.1 hd) rfl st'
def uI (f : Term → Term) (a : Term) : Term := smI (f a)
def uL (f : Term → Term) (a : Term) : Term := smL (f a)
def sUn (k1 k3 : Nat) (f : Term → Term) (nx : Nat) : Stp := fun F cf => match cf.2.1 with
  | a :: S => bif a.1 == k1 then some [(F, nx, (cf.1, (k3, f a.2) :: S, cf.2.2))] else none
  | _ => none
theorem sUn_inv {k1 k3 : Nat} {f : Term → Term} {nx : Nat} {F : List Cond} {L : List SL} {S : List SV} {D : List Ob} {sl : Nat} {ns : List Nx} (h : sUn k1 k3 f nx F (L, S, D, sl) = some ns) : ∃ a S', S = (k1, a) :: S' ∧ ns = [(F, nx, (L, (k3, f a) :: S', D, sl))] := by
  simp only [sUn] at h
  split at h
  · rename_i a S'
    obtain ⟨ka, a⟩ := a
    cases hk : (ka == k1)
    · rw [hk] at h; cases h
    · rw [hk] at h; obtain rfl := beq_iff_eq.mp hk
      cases h; exact ⟨a, S', rfl, rfl⟩
  · cases h
theorem g_ineg {pc : Nat} (hd : decode bytes pc = .ok (.ineg, 1)) : Good l Z hz sh A O y bytes maxL ret pc (sUn 0 0 (uI (Term.op1 .ineg)) (pc + 1)) :=
  good_one fun F L S D sl ns h => by
    obtain ⟨a, S', rfl, rfl⟩ := sUn_inv h
    refine ⟨_, _, rfl, fun hF p e_ R s m args below meth c T locs cells slots hA X H target st => ?_⟩
    have e : vv A O hz.size (0, uI (Term.op1 .ineg) a) = .int (-(te A a).1) := by show Value.int (te A (smI _)).1 = _; rw [te_smI]; rfl
    have st' : Steps p.tables e_ below (T.setTop (mkF m (pc + 1) (L.map (sl1 A O hz.size)).toArray (vv A O hz.size (0, uI (Term.op1 .ineg) a) :: S'.map (vv A O hz.size)))) target := st
    rw [e] at st'
    exact XS.ineg X.here hA.1 rfl (hb hA.2.2.1 hd) rfl st'
theorem g_lneg {pc : Nat} (hd : decode bytes pc = .ok (.lneg, 1)) : Good l Z hz sh A O y bytes maxL ret pc (sUn 1 1 (uL (Term.op1 .lneg)) (pc + 1)) :=
  good_one fun F L S D sl ns h => by
    obtain ⟨a, S', rfl, rfl⟩ := sUn_inv h
    refine ⟨_, _, rfl, fun hF p e_ R s m args below meth c T locs cells slots hA X H target st => ?_⟩
    have e : vv A O hz.size (1, uL (Term.op1 .lneg) a) = .long (-(te A a).2) := by show Value.long (te A (smL _)).2 = _; rw [te_smL]; rfl
    have st' : Steps p.tables e_ below (T.setTop (mkF m (pc + 1) (L.map (sl1 A O hz.size)).toArray (vv A O hz.size (1, uL (Term.op1 .lneg) a) :: S'.map (vv A O hz.size)))) target := st
    rw [e] at st'
    exact XS.lneg X.here hA.1 rfl (hb hA.2.2.1 hd) rfl st'
theorem g_i2l {pc : Nat} (hd : decode bytes pc = .ok (.i2l, 1)) : Good l Z hz sh A O y bytes maxL ret pc (sUn 0 1 (uL (Term.op1 .i2l)) (pc + 1)) :=
  good_one fun F L S D sl ns h => by
    obtain ⟨a, S', rfl, rfl⟩ := sUn_inv h
    refine ⟨_, _, rfl, fun hF p e_ R s m args below meth c T locs cells slots hA X H target st => ?_⟩
    have e : vv A O hz.size (1, uL (Term.op1 .i2l) a) = .long ((te A a).1.toInt64) := by show Value.long (te A (smL _)).2 = _; rw [te_smL]; rfl
    have st' : Steps p.tables e_ below (T.setTop (mkF m (pc + 1) (L.map (sl1 A O hz.size)).toArray (vv A O hz.size (1, uL (Term.op1 .i2l) a) :: S'.map (vv A O hz.size)))) target := st
    rw [e] at st'
    exact XS.i2l X.here hA.1 rfl (hb hA.2.2.1 hd) rfl st'
theorem g_l2i {pc : Nat} (hd : decode bytes pc = .ok (.l2i, 1)) : Good l Z hz sh A O y bytes maxL ret pc (sUn 1 0 (uI (Term.op1 .l2i)) (pc + 1)) :=
  good_one fun F L S D sl ns h => by
    obtain ⟨a, S', rfl, rfl⟩ := sUn_inv h
    refine ⟨_, _, rfl, fun hF p e_ R s m args below meth c T locs cells slots hA X H target st => ?_⟩
    have e : vv A O hz.size (0, uI (Term.op1 .l2i) a) = .int ((te A a).2.toInt32) := by show Value.int (te A (smI _)).1 = _; rw [te_smI]; rfl
    have st' : Steps p.tables e_ below (T.setTop (mkF m (pc + 1) (L.map (sl1 A O hz.size)).toArray (vv A O hz.size (0, uI (Term.op1 .l2i) a) :: S'.map (vv A O hz.size)))) target := st
    rw [e] at st'
    exact XS.l2i X.here hA.1 rfl (hb hA.2.2.1 hd) rfl st'
theorem g_i2b {pc : Nat} (hd : decode bytes pc = .ok (.i2b, 1)) : Good l Z hz sh A O y bytes maxL ret pc (sUn 0 0 (uI (Term.op1 .i2b)) (pc + 1)) :=
  good_one fun F L S D sl ns h => by
    obtain ⟨a, S', rfl, rfl⟩ := sUn_inv h
    refine ⟨_, _, rfl, fun hF p e_ R s m args below meth c T locs cells slots hA X H target st => ?_⟩
    have e : vv A O hz.size (0, uI (Term.op1 .i2b) a) = .int ((te A a).1.toInt8.toInt32) := by show Value.int (te A (smI _)).1 = _; rw [te_smI]; rfl
    have st' : Steps p.tables e_ below (T.setTop (mkF m (pc + 1) (L.map (sl1 A O hz.size)).toArray (vv A O hz.size (0, uI (Term.op1 .i2b) a) :: S'.map (vv A O hz.size)))) target := st
    rw [e] at st'
    exact XS.i2b X.here hA.1 rfl (hb hA.2.2.1 hd) rfl st'
theorem g_i2c {pc : Nat} (hd : decode bytes pc = .ok (.i2c, 1)) : Good l Z hz sh A O y bytes maxL ret pc (sUn 0 0 (uI (Term.op1 .i2c)) (pc + 1)) :=
  good_one fun F L S D sl ns h => by
    obtain ⟨a, S', rfl, rfl⟩ := sUn_inv h
    refine ⟨_, _, rfl, fun hF p e_ R s m args below meth c T locs cells slots hA X H target st => ?_⟩
    have e : vv A O hz.size (0, uI (Term.op1 .i2c) a) = .int ((te A a).1.toUInt32.toUInt16.toUInt32.toInt32) := by show Value.int (te A (smI _)).1 = _; rw [te_smI]; rfl
    have st' : Steps p.tables e_ below (T.setTop (mkF m (pc + 1) (L.map (sl1 A O hz.size)).toArray (vv A O hz.size (0, uI (Term.op1 .i2c) a) :: S'.map (vv A O hz.size)))) target := st
    rw [e] at st'
    exact XS.i2c X.here hA.1 rfl (hb hA.2.2.1 hd) rfl st'
theorem g_i2s {pc : Nat} (hd : decode bytes pc = .ok (.i2s, 1)) : Good l Z hz sh A O y bytes maxL ret pc (sUn 0 0 (uI (Term.op1 .i2s)) (pc + 1)) :=
  good_one fun F L S D sl ns h => by
    obtain ⟨a, S', rfl, rfl⟩ := sUn_inv h
    refine ⟨_, _, rfl, fun hF p e_ R s m args below meth c T locs cells slots hA X H target st => ?_⟩
    have e : vv A O hz.size (0, uI (Term.op1 .i2s) a) = .int ((te A a).1.toInt16.toInt32) := by show Value.int (te A (smI _)).1 = _; rw [te_smI]; rfl
    have st' : Steps p.tables e_ below (T.setTop (mkF m (pc + 1) (L.map (sl1 A O hz.size)).toArray (vv A O hz.size (0, uI (Term.op1 .i2s) a) :: S'.map (vv A O hz.size)))) target := st
    rw [e] at st'
    exact XS.i2s X.here hA.1 rfl (hb hA.2.2.1 hd) rfl st'
def s_irem (nx : Nat) : Stp := fun F cf => match cf.2.1 with
  | b :: a :: S => bif (a.1 == 0) && (b.1 == 0) then (match cv F b.2 with
    | some v => bif v == 0 then none else some [(F, nx, (cf.1, (0, jI Term.rem a.2 (.int v)) :: S, cf.2.2))]
    | none => none) else none
  | _ => none
theorem g_irem {pc : Nat} (hd : decode bytes pc = .ok (.irem, 1)) : Good l Z hz sh A O y bytes maxL ret pc (s_irem (pc + 1)) :=
  good_one fun F L S D sl ns h => by
    simp only [s_irem] at h
    split at h
    · rename_i b a S'
      obtain ⟨kb, b⟩ := b
      obtain ⟨ka, a⟩ := a
      cases hk : ((ka == 0) && (kb == 0))
      · rw [hk] at h; cases h
      · rw [hk] at h
        simp only [Bool.and_eq_true, beq_iff_eq] at hk
        obtain ⟨rfl, rfl⟩ := hk
        simp only [cond_true] at h
        split at h
        · rename_i v q
          cases hv : (v == 0)
          · rw [hv] at h; cases h
            refine ⟨_, _, rfl, fun hF p e_ R s m args below meth c T locs cells slots hA X H target st => ?_⟩
            have hb0 := cv_ok hF q
            have e : vv A O hz.size (0, jI Term.rem a (.int v)) = .int ((te A a).1 % (te A b).1) := by show Value.int (te A (smI _)).1 = _; rw [te_smI, hb0]; rfl
            have st' : Steps p.tables e_ below (T.setTop (mkF m (pc + 1) (L.map (sl1 A O hz.size)).toArray (vv A O hz.size (0, jI Term.rem a (.int v)) :: S'.map (vv A O hz.size)))) target := st
            rw [e] at st'
            exact iremM X hA.1 rfl (hb hA.2.2.1 hd) rfl (by rw [hb0]; simpa using hv) st'
          · rw [hv] at h; cases h
        · cases h
    · cases h
def s_idiv (nx : Nat) : Stp := fun F cf => match cf.2.1 with
  | b :: a :: S => bif (a.1 == 0) && (b.1 == 0) then (match cv F b.2 with
    | some v => bif v == 0 then none else some [(F, nx, (cf.1, (0, jI Term.div a.2 (.int v)) :: S, cf.2.2))]
    | none => none) else none
  | _ => none
theorem g_idiv {pc : Nat} (hd : decode bytes pc = .ok (.idiv, 1)) : Good l Z hz sh A O y bytes maxL ret pc (s_idiv (pc + 1)) :=
  good_one fun F L S D sl ns h => by
    simp only [s_idiv] at h
    split at h
    · rename_i b a S'
      obtain ⟨kb, b⟩ := b
      obtain ⟨ka, a⟩ := a
      cases hk : ((ka == 0) && (kb == 0))
      · rw [hk] at h; cases h
      · rw [hk] at h
        simp only [Bool.and_eq_true, beq_iff_eq] at hk
        obtain ⟨rfl, rfl⟩ := hk
        simp only [cond_true] at h
        split at h
        · rename_i v q
          cases hv : (v == 0)
          · rw [hv] at h; cases h
            refine ⟨_, _, rfl, fun hF p e_ R s m args below meth c T locs cells slots hA X H target st => ?_⟩
            have hb0 := cv_ok hF q
            have e : vv A O hz.size (0, jI Term.div a (.int v)) = .int ((te A a).1 / (te A b).1) := by show Value.int (te A (smI _)).1 = _; rw [te_smI, hb0]; rfl
            have st' : Steps p.tables e_ below (T.setTop (mkF m (pc + 1) (L.map (sl1 A O hz.size)).toArray (vv A O hz.size (0, jI Term.div a (.int v)) :: S'.map (vv A O hz.size)))) target := st
            rw [e] at st'
            exact XS.idiv X.here hA.1 rfl (hb hA.2.2.1 hd) rfl (by rw [hb0]; simpa using hv) st'
          · rw [hv] at h; cases h
        · cases h
    · cases h
def sIinc (k : Nat) (c : Int32) (nx : Nat) : Stp := fun F cf => match cf.1[k]? with
  | some (some (some x)) => bif x.1 == 0 then (match stL cf.1 k (0, jI Term.add x.2 (.int c)) with
    | some L => some [(F, nx, (L, cf.2))]
    | none => none) else none
  | _ => none
theorem g_iinc {pc k : Nat} {i : Int} {v : Int32} (hd : decode bytes pc = .ok (.iinc k i, 3)) (hv : Int32.ofInt i = v) : Good l Z hz sh A O y bytes maxL ret pc (sIinc k v (pc + 3)) :=
  good_one fun F L S D sl ns h => by
    simp only [sIinc] at h
    split at h
    · rename_i x q
      obtain ⟨kx, t⟩ := x
      cases hk : (kx == 0)
      · rw [hk] at h; cases h
      · rw [hk] at h; obtain rfl := beq_iff_eq.mp hk
        simp only [cond_true] at h
        split at h
        · rename_i L' q2
          cases h
          refine ⟨_, _, rfl, fun hF p e R s m args below meth c T locs cells slots hA X H target st => ?_⟩
          subst hv
          have k1 := stL_ok (A := A) (O := O) (hz := hz) q2
          have e1 : vv A O hz.size (0, jI Term.add t (.int (Int32.ofInt i))) = .int ((te A t).1 + Int32.ofInt i) := by show Value.int (te A (smI _)).1 = _; rw [te_smI]; rfl
          rw [e1] at k1
          exact XS.iinc X.here hA.1 rfl (hb hA.2.2.1 hd) (loc_at q) k1 st
        · cases h
    · cases h
/-! the stack -/
def sDup (nx : Nat) : Stp := fun F cf => match cf.2.1 with
  | x :: S => bif cat x == 1 then some [(F, nx, (cf.1, x :: x :: S, cf.2.2))] else none
  | _ => none
theorem g_dup {pc : Nat} (hd : decode bytes pc = .ok (.dup, 1)) : Good l Z hz sh A O y bytes maxL ret pc (sDup (pc + 1)) :=
  good_one fun F L S D sl ns h => by
    simp only [sDup] at h
    split at h
    · rename_i x S'
      cases hk : (cat x == 1)
      · rw [hk] at h; cases h
      · rw [hk] at h; cases h
        refine ⟨_, _, rfl, fun hF p e R s m args below meth c T locs cells slots hA X H target st => ?_⟩
        exact XS.dup X.here hA.1 rfl (hb hA.2.2.1 hd) rfl (by rw [vv_cat]; exact beq_iff_eq.mp hk) st
    · cases h
def sPop (nx : Nat) : Stp := fun F cf => match cf.2.1 with
  | x :: S => bif cat x == 1 then some [(F, nx, (cf.1, S, cf.2.2))] else none
  | _ => none
theorem g_pop {pc : Nat} (hd : decode bytes pc = .ok (.pop, 1)) : Good l Z hz sh A O y bytes maxL ret pc (sPop (pc + 1)) :=
  good_one fun F L S D sl ns h => by
    simp only [sPop] at h
    split at h
    · rename_i x S'
      cases hk : (cat x == 1)
      · rw [hk] at h; cases h
      · rw [hk] at h; cases h
        refine ⟨_, _, rfl, fun hF p e R s m args below meth c T locs cells slots hA X H target st => ?_⟩
        exact XS.pop X.here hA.1 rfl (hb hA.2.2.1 hd) rfl (by rw [vv_cat]; exact beq_iff_eq.mp hk) st
    · cases h
def sDupX1 (nx : Nat) : Stp := fun F cf => match cf.2.1 with
  | x :: z :: S => bif (cat x == 1) && (cat z == 1) then some [(F, nx, (cf.1, x :: z :: x :: S, cf.2.2))] else none
  | _ => none
theorem g_dupX1 {pc : Nat} (hd : decode bytes pc = .ok (.dup_x1, 1)) : Good l Z hz sh A O y bytes maxL ret pc (sDupX1 (pc + 1)) :=
  good_one fun F L S D sl ns h => by
    simp only [sDupX1] at h
    split at h
    · rename_i x z S'
      cases hk : ((cat x == 1) && (cat z == 1))
      · rw [hk] at h; cases h
      · rw [hk] at h; cases h
        simp only [Bool.and_eq_true, beq_iff_eq] at hk
        refine ⟨_, _, rfl, fun hF p e R s m args below meth c T locs cells slots hA X H target st => ?_⟩
        exact XT.dupX1 X.here hA.1 rfl (hb hA.2.2.1 hd) rfl (by rw [vv_cat]; exact hk.1) (by rw [vv_cat]; exact hk.2) st
    · cases h
def sDup2 (nx : Nat) : Stp := fun F cf => match cf.2.1 with
  | x :: z :: S => bif (cat x == 1) && (cat z == 1) then some [(F, nx, (cf.1, x :: z :: x :: z :: S, cf.2.2))] else none
  | _ => none
theorem g_dup2 {pc : Nat} (hd : decode bytes pc = .ok (.dup2, 1)) : Good l Z hz sh A O y bytes maxL ret pc (sDup2 (pc + 1)) :=
  good_one fun F L S D sl ns h => by
    simp only [sDup2] at h
    split at h
    · rename_i x z S'
      cases hk : ((cat x == 1) && (cat z == 1))
      · rw [hk] at h; cases h
      · rw [hk] at h; cases h
        simp only [Bool.and_eq_true, beq_iff_eq] at hk
        refine ⟨_, _, rfl, fun hF p e R s m args below meth c T locs cells slots hA X H target st => ?_⟩
        exact XT.dup2 X.here hA.1 rfl (hb hA.2.2.1 hd) rfl (by rw [vv_cat]; exact hk.1) (by rw [vv_cat]; exact hk.2) st
    · cases h
/-! jumps -/
def sGoto (tg : Nat) : Stp := fun F cf => some [(F, tg, cf)]
theorem g_goto {pc tg : Nat} {o : Int} (hd : decode bytes pc = .ok (.goto o, 3)) (h1 : 0 ≤ (pc : Int) + o) (h2 : ((pc : Int) + o).toNat = tg) : Good l Z hz sh A O y bytes maxL ret pc (sGoto tg) :=
  good_one fun F L S D sl ns h => by
    cases h
    refine ⟨_, _, rfl, fun hF p e R s m args below meth c T locs cells slots hA X H target st => ?_⟩
    exact XS.goto X.here hA.1 rfl (pc0 := pc) (pc' := tg) rfl (hb hA.2.2.1 hd) h1 h2 st
def atm : ClassFile.Cond → Term → Term → Cond × Bool
  | .eq, a, b => (.eq a b, true)
  | .ne, a, b => (.eq a b, false)
  | .lt, a, b => (.lt a b, true)
  | .ge, a, b => (.lt a b, false)
  | .gt, a, b => (.lt b a, true)
  | .le, a, b => (.lt b a, false)
theorem atm_ok (A : En) (cd : ClassFile.Cond) (a b : Term) : (hold A (atm cd a b).1 → if_icmp.holds cd (te A a).1 (te A b).1 = (atm cd a b).2) ∧ (¬ hold A (atm cd a b).1 → if_icmp.holds cd (te A a).1 (te A b).1 = !(atm cd a b).2) := by
  cases cd <;> refine ⟨fun h => ?_, fun h => ?_⟩ <;> simp only [atm, hold] at h <;> simp only [atm, Bool.not_true, Bool.not_false]
  · exact (teq h).1
  · exact (feq h).1
  · exact (teq h).2
  · exact (feq h).2
  · exact (tlt h).1
  · exact (flt h).1
  · exact (tlt h).2.1
  · exact (flt h).2.1
  · exact (tlt h).2.2.1
  · exact (flt h).2.2.1
  · exact (tlt h).2.2.2
  · exact (flt h).2.2.2
def br (F : List Cond) (q : Cond × Bool) (tg nx : Nat) (cf : Cf) : List Nx := match q.2 with
  | true => fork F q.1 (fun G => (G, tg, cf)) (fun G => (G, nx, cf))
  | false => fork F q.1 (fun G => (G, nx, cf)) (fun G => (G, tg, cf))
theorem br_ok {F : List Cond} {cd : ClassFile.Cond} {a b : Term} {tg nx : Nat} {cf : Cf} (hF : holds A F) :
    ∃ n ∈ br F (atm cd a b) tg nx cf, holds A n.1 ∧ n.2.2 = cf ∧ ((if_icmp.holds cd (te A a).1 (te A b).1 = true ∧ n.2.1 = tg) ∨ (if_icmp.holds cd (te A a).1 (te A b).1 = false ∧ n.2.1 = nx)) := by
  obtain ⟨k1, k2⟩ := atm_ok A cd a b
  unfold br
  cases hq : (atm cd a b).2
  · rw [hq] at k1 k2
    obtain ⟨G, hG, ⟨h1, h2⟩ | ⟨h1, h2⟩⟩ := fork_ok (A := A) (F := F) (c := (atm cd a b).1) (yes := fun G => (G, nx, cf)) (no := fun G => (G, tg, cf)) hF (fun _ => rfl) (fun _ => rfl)
    · exact ⟨_, h2, hG, rfl, Or.inr ⟨k1 h1, rfl⟩⟩
    · exact ⟨_, h2, hG, rfl, Or.inl ⟨k2 h1, rfl⟩⟩
  · rw [hq] at k1 k2
    obtain ⟨G, hG, ⟨h1, h2⟩ | ⟨h1, h2⟩⟩ := fork_ok (A := A) (F := F) (c := (atm cd a b).1) (yes := fun G => (G, tg, cf)) (no := fun G => (G, nx, cf)) hF (fun _ => rfl) (fun _ => rfl)
    · exact ⟨_, h2, hG, rfl, Or.inl ⟨k1 h1, rfl⟩⟩
    · exact ⟨_, h2, hG, rfl, Or.inr ⟨k2 h1, rfl⟩⟩
def sIcmp (cd : ClassFile.Cond) (tg nx : Nat) : Stp := fun F cf => match cf.2.1 with
  | b :: a :: S => bif (a.1 == 0) && (b.1 == 0) then some (br F (atm cd a.2 b.2) tg nx (cf.1, S, cf.2.2)) else none
  | _ => none
theorem g_icmp {pc tg : Nat} {cd : ClassFile.Cond} {o : Int} (hd : decode bytes pc = .ok (.if_icmp cd o, 3)) (h1 : 0 ≤ (pc : Int) + o) (h2 : ((pc : Int) + o).toNat = tg) : Good l Z hz sh A O y bytes maxL ret pc (sIcmp cd tg (pc + 3)) := by
  intro F cf ns h hF
  obtain ⟨L, S, D, sl⟩ := cf
  simp only [sIcmp] at h
  split at h
  · rename_i b a S'
    obtain ⟨kb, b⟩ := b
    obtain ⟨ka, a⟩ := a
    cases hk : ((ka == 0) && (kb == 0))
    · rw [hk] at h; cases h
    · rw [hk] at h; cases h
      simp only [Bool.and_eq_true, beq_iff_eq] at hk
      obtain ⟨rfl, rfl⟩ := hk
      obtain ⟨n, hn, hG, e1, ⟨e2, e3⟩ | ⟨e2, e3⟩⟩ := br_ok (cd := cd) (a := a) (b := b) (tg := tg) (nx := pc + 3) (cf := (L, S', D, sl)) hF
      · refine ⟨n, hn, hG, ?_⟩
        rw [e1, e3]
        refine sim_pure fun p e R s m args below meth c T locs cells slots hA X H target st => ?_
        exact XS.icmpYes X.here hA.1 rfl (pc0 := pc) (pc' := tg) rfl (hb hA.2.2.1 hd) rfl e2 h1 h2 st
      · refine ⟨n, hn, hG, ?_⟩
        rw [e1, e3]
        refine sim_pure fun p e R s m args below meth c T locs cells slots hA X H target st => ?_
        exact XS.icmpNo X.here hA.1 rfl (hb hA.2.2.1 hd) rfl e2 st
  · cases h
def sIf (cd : ClassFile.Cond) (tg nx : Nat) : Stp := fun F cf => match cf.2.1 with
  | a :: S => bif (a.1 == 0) then some (br F (atm cd a.2 (.int 0)) tg nx (cf.1, S, cf.2.2)) else none
  | _ => none
theorem g_if {pc tg : Nat} {cd : ClassFile.Cond} {o : Int} (hd : decode bytes pc = .ok (.ifCond cd o, 3)) (h1 : 0 ≤ (pc : Int) + o) (h2 : ((pc : Int) + o).toNat = tg) : Good l Z hz sh A O y bytes maxL ret pc (sIf cd tg (pc + 3)) := by
  intro F cf ns h hF
  obtain ⟨L, S, D, sl⟩ := cf
  simp only [sIf] at h
  split at h
  · rename_i a S'
    obtain ⟨ka, a⟩ := a
    cases hk : (ka == 0)
    · rw [hk] at h; cases h
    · rw [hk] at h; cases h
      obtain rfl := beq_iff_eq.mp hk
      obtain ⟨n, hn, hG, e1, ⟨e2, e3⟩ | ⟨e2, e3⟩⟩ := br_ok (cd := cd) (a := a) (b := .int 0) (tg := tg) (nx := pc + 3) (cf := (L, S', D, sl)) hF
      · refine ⟨n, hn, hG, ?_⟩
        rw [e1, e3]
        refine sim_pure fun p e R s m args below meth c T locs cells slots hA X H target st => ?_
        exact XS.ifYes X.here hA.1 rfl (pc0 := pc) (pc' := tg) rfl (hb hA.2.2.1 hd) rfl ((if0 _ _).trans e2) h1 h2 st
      · refine ⟨n, hn, hG, ?_⟩
        rw [e1, e3]
        refine sim_pure fun p e R s m args below meth c T locs cells slots hA X H target st => ?_
        exact XS.ifNo X.here hA.1 rfl (hb hA.2.2.1 hd) rfl ((if0 _ _).trans e2) st
  · cases h
/-- references whose being null is known -/
def isNull : Term → Bool
  | .index _ => false
  | .arg _ => false
  | _ => true
theorem rf_null {O : Nat → Addr} {n0 : Nat} {t : Term} (h : isNull t = true) : rf O n0 t = .null := by cases t <;> simp [isNull] at h <;> rfl
theorem rf_some {O : Nat → Addr} {n0 : Nat} {t : Term} (h : isNull t = false) : ∃ b, rf O n0 t = .ref b := by cases t <;> simp [isNull] at h <;> exact ⟨_, rfl⟩
def sIfNull (w : Bool) (tg nx : Nat) : Stp := fun F cf => match cf.2.1 with
  | a :: S => bif (a.1 == 2) then some [(F, bif isNull a.2 == w then tg else nx, (cf.1, S, cf.2.2))] else none
  | _ => none
theorem g_ifnull {pc tg : Nat} {o : Int} (hd : decode bytes pc = .ok (.ifnull o, 3)) (h1 : 0 ≤ (pc : Int) + o) (h2 : ((pc : Int) + o).toNat = tg) : Good l Z hz sh A O y bytes maxL ret pc (sIfNull true tg (pc + 3)) := by
  intro F cf ns h hF
  obtain ⟨L, S, D, sl⟩ := cf
  simp only [sIfNull] at h
  split at h
  · rename_i a S'
    obtain ⟨ka, a⟩ := a
    cases hk : (ka == 2)
    · rw [hk] at h; cases h
    · rw [hk] at h; cases h
      obtain rfl := beq_iff_eq.mp hk
      refine ⟨_, List.mem_cons_self .., hF, ?_⟩
      cases q : isNull a
      · obtain ⟨b, hb'⟩ := rf_some (O := O) (n0 := hz.size) q
        refine sim_pure fun p e R s m args below meth c T locs cells slots hA X H target st => ?_
        have hs : (frm hz A O m pc (L, (2, a) :: S', D, sl)).stack = .ref b :: S'.map (vv A O hz.size) := by show rf O hz.size a :: _ = _; rw [hb']
        exact XS.ifnullNo X.here hA.1 rfl (hb hA.2.2.1 hd) hs st
      · have hb' := rf_null (O := O) (n0 := hz.size) q
        refine sim_pure fun p e R s m args below meth c T locs cells slots hA X H target st => ?_
        have hs : (frm hz A O m pc (L, (2, a) :: S', D, sl)).stack = .null :: S'.map (vv A O hz.size) := by show rf O hz.size a :: _ = _; rw [hb']
        exact XS.ifnullYes X.here hA.1 rfl (pc0 := pc) (pc' := tg) rfl (hb hA.2.2.1 hd) hs h1 h2 st
  · cases h
theorem g_ifnonnull {pc tg : Nat} {o : Int} (hd : decode bytes pc = .ok (.ifnonnull o, 3)) (h1 : 0 ≤ (pc : Int) + o) (h2 : ((pc : Int) + o).toNat = tg) : Good l Z hz sh A O y bytes maxL ret pc (sIfNull false tg (pc + 3)) := by
  intro F cf ns h hF
  obtain ⟨L, S, D, sl⟩ := cf
  simp only [sIfNull] at h
  split at h
  · rename_i a S'
    obtain ⟨ka, a⟩ := a
    cases hk : (ka == 2)
    · rw [hk] at h; cases h
    · rw [hk] at h; cases h
      obtain rfl := beq_iff_eq.mp hk
      refine ⟨_, List.mem_cons_self .., hF, ?_⟩
      cases q : isNull a
      · obtain ⟨b, hb'⟩ := rf_some (O := O) (n0 := hz.size) q
        refine sim_pure fun p e R s m args below meth c T locs cells slots hA X H target st => ?_
        have hs : (frm hz A O m pc (L, (2, a) :: S', D, sl)).stack = .ref b :: S'.map (vv A O hz.size) := by show rf O hz.size a :: _ = _; rw [hb']
        exact XS.ifnonnullYes X.here hA.1 rfl (pc0 := pc) (pc' := tg) rfl (hb hA.2.2.1 hd) hs h1 h2 st
      · have hb' := rf_null (O := O) (n0 := hz.size) q
        refine sim_pure fun p e R s m args below meth c T locs cells slots hA X H target st => ?_
        have hs : (frm hz A O m pc (L, (2, a) :: S', D, sl)).stack = .null :: S'.map (vv A O hz.size) := by show rf O hz.size a :: _ = _; rw [hb']
        exact XS.ifnonnullNo X.here hA.1 rfl (hb hA.2.2.1 hd) hs st
  · cases h
/-! enumeration of an int whose bounds are near each other -/
def enum (F : List Cond) (pc : Nat) (t : Term) (L : List SL) (S : List SV) (r : List Ob × Nat) (lo : Int) (n : Nat) : List Nx :=
  ((List.range n).map fun (i : Nat) => (Cond.eq t (.int (Int32.ofInt (lo + Int.ofNat i))) :: F, pc, (L, (0, .int (Int32.ofInt (lo + Int.ofNat i))) :: S, r))).filter fun n => (match n.1 with
    | c :: _ => (match lk c F with
      | some false => false
      | _ => true)
    | [] => true)
def sSplit (pc : Nat) (f : Stp) : Stp := fun F cf => match cf.2.1 with
  | (0, t) :: S => bif isLit t then f F cf else
      bif decide ((rg F t).2 - (rg F t).1 < 300) then some (enum F pc t cf.1 S cf.2.2 (rg F t).1 ((rg F t).2 - (rg F t).1 + 1).toNat) else none
  | _ => none
theorem g_split {pc : Nat} {f : Stp} (g : Good l Z hz sh A O y bytes maxL ret pc f) : Good l Z hz sh A O y bytes maxL ret pc (sSplit pc f) := by
  intro F cf ns h hF
  obtain ⟨L, S, D, sl⟩ := cf
  simp only [sSplit] at h
  split at h
  · rename_i t S'
    cases hl : isLit t
    · rw [hl] at h
      cases hq : decide ((rg F t).2 - (rg F t).1 < 300)
      · rw [hq] at h; cases h
      · rw [hq] at h; cases h
        obtain ⟨h1, h2⟩ := rg_ok hF t
        have e : (rg F t).1 + Int.ofNat ((te A t).1.toInt - (rg F t).1).toNat = (te A t).1.toInt := by
          show (rg F t).1 + (((te A t).1.toInt - (rg F t).1).toNat : Int) = _; omega
        refine ⟨(Cond.eq t (.int (Int32.ofInt ((rg F t).1 + Int.ofNat ((te A t).1.toInt - (rg F t).1).toNat))) :: F, pc, (L, (0, .int (Int32.ofInt ((rg F t).1 + Int.ofNat ((te A t).1.toInt - (rg F t).1).toNat))) :: S', (D, sl))), ?_, ?_, ?_⟩
        · refine List.mem_filter.mpr ⟨List.mem_map.mpr ⟨((te A t).1.toInt - (rg F t).1).toNat, List.mem_range.mpr (by omega), rfl⟩, ?_⟩
          simp only
          split
          · rename_i q
            have hh : hold A (Cond.eq t (.int (Int32.ofInt ((rg F t).1 + Int.ofNat ((te A t).1.toInt - (rg F t).1).toNat)))) := by show (te A t).1 = Int32.ofInt _; rw [e, Int32.ofInt_toInt]
            exact absurd ((lk_ok hF q).mp hh) (by simp)
          · rfl
        · refine holds_cons ?_ hF
          show (te A t).1 = Int32.ofInt _
          rw [e, Int32.ofInt_toInt]
        · refine sim_pure fun p e' R s m args below meth c T locs cells slots hA X H target st => ?_
          have q : frm hz A O m pc (L, (0, .int (Int32.ofInt ((rg F t).1 + Int.ofNat ((te A t).1.toInt - (rg F t).1).toNat))) :: S', D, sl) = frm hz A O m pc (L, (0, t) :: S', D, sl) := by
            rw [e, Int32.ofInt_toInt]; rfl
          rw [q] at st; exact st
    · rw [hl] at h; exact g F _ ns h hF
  · cases h
/-! ### 5. Arrays and objects -/
def dflt : FieldType → SV
  | .long => (1, .long 0)
  | .double => (3, .long 0)
  | .object _ => (2, .null)
  | .array _ => (2, .null)
  | _ => (0, .int 0)
theorem dflt_ok {ty : FieldType} (h : ty ≠ .float) : vv A O hz.size (dflt ty) = defaultValue ty := by
  cases ty <;> first | rfl | exact absurd rfl h
theorem list_rep (n : Nat) (x : SV) : ((List.replicate n x).map (vv A O hz.size)).toArray = Array.replicate n (vv A O hz.size x) := by simp
/-- the state has grown by just one cell -/
theorem grown {p : Program} {e : Env} {R : Room} {s : State} {m : MethodId} {args : Array Value} {below : List Frame} {meth : Method} {c : Code} {T T' : State} {locs : List Loc} {d0 slots : Nat} {D : List Ob}
    (X : Stand p l e R s m args below meth c T' locs (D.length - d0 + 1) slots) (hd : d0 ≤ D.length) (hh : s.heap.size = hz.size + d0) (H : HD Z hz sh A O T.heap D) (hlt : T.heap.size < T'.heap.size) : T'.heap.size = T.heap.size + 1 := by
  have h1 := X.heapSize
  have h2 := H.1
  omega
def sNewA (sid : Nat) (ty : FieldType) (nx : Nat) : Stp := fun F cf => match cf.2.1 with
  | (0, t) :: S => (match cv F t with
    | some v => bif decide (0 ≤ v) && Nat.ble v.toNatClampNeg 67108864 then some [(F, nx, (cf.1, (2, .index cf.2.2.1.length) :: S, cf.2.2.1 ++ [(sid, List.replicate v.toNatClampNeg (dflt ty))], cf.2.2.2 + v.toNatClampNeg))] else none
    | none => none)
  | _ => none
theorem g_newarray {pc sid : Nat} {aty : ArrayType} {r : String × Nat × List Fi} {a0 : Array Value} (hd : decode bytes pc = .ok (.newarray aty, 2)) (hs : sh[sid]? = some (some (newarray.typeOf aty), r)) (hf : aty ≠ .float) (w : (Cond.arrayClass (newarray.typeOf aty)).before a0 Z = true) :
    Good l Z hz sh A O y bytes maxL ret pc (sNewA sid (newarray.typeOf aty) (pc + 2)) := by
  intro F cf ns h hF
  obtain ⟨L, S, D, sl⟩ := cf
  simp only [sNewA] at h
  split at h
  · rename_i t S'
    split at h
    · rename_i v q
      cases hv : (decide (0 ≤ v) && Nat.ble v.toNatClampNeg 67108864)
      · rw [hv] at h; cases h
      · rw [hv] at h; cases h
        simp only [Bool.and_eq_true, decide_eq_true_eq] at hv
        obtain ⟨v1, v2⟩ := hv
        have v2 := Nat.le_of_ble_eq_true v2
        have hv0 : ¬ v < 0 := Int32.not_lt.mpr v1
        have ev := cv_ok hF q
        refine ⟨_, List.mem_cons_self .., hF, by simp, by simp, ?_⟩
        intro d0 s0 p e R s m args below meth c T locs hd0 hs0 hh hA X H N hc hl hfr hlo
        simp only [List.length_append, List.length_cons, List.length_nil] at hc hl hd0 hs0 X H ⊢
        have hgs : (frm hz A O m pc (L, (0, t) :: S', D, sl)).stack = .int v :: S'.map (vv A O hz.size) := by show Value.int (te A t).1 :: _ = _; rw [ev]
        obtain ⟨T', h', cA, X', e1, E, Ar, st⟩ := newP X hA.1 hA.2.1 w rfl (g := frm hz A O m pc (L, (0, t) :: S', D, sl)) rfl (hb hA.2.2.1 hd) hgs hv0 (cap := v.toNatClampNeg) (Nat.le_refl _) (by omega) (by omega) (by omega)
        have hsz : T'.heap.size = T.heap.size + 1 := grown X' hd0 hh H (by rw [e1]; exact Ar.lt)
        have c1 : D.length + (0 + 1) - d0 = D.length - d0 + 1 := by omega
        have c2 : sl + v.toNatClampNeg - s0 = sl - s0 + v.toNatClampNeg := by omega
        refine ⟨T', locs, by rw [c1, c2]; exact X', ?_, N, ?_⟩
        · subst e1
          refine H.push E hsz ?_
          rw [ObAt.arr (o := (sid, _)) hs]
          refine ⟨_, Ar, ?_, ?_, fun C q => ?_⟩
          · show Array.replicate _ _ = _
            rw [list_rep, dflt_ok]
            intro q; cases aty <;> first | exact hf rfl | cases q
          · rw [List.length_replicate]; omega
          · cases aty <;> cases q
        · intro target k
          refine st target ?_
          have hi : vv A O hz.size (2, .index D.length) = .ref T.heap.size := by show Value.ref (hz.size + D.length) = _; rw [H.1]
          have k' : Steps p.tables e below (T'.setTop (mkF m (pc + 2) (L.map (sl1 A O hz.size)).toArray (vv A O hz.size (2, .index D.length) :: S'.map (vv A O hz.size)))) target := k
          rw [hi] at k'; exact k'
    · cases h
  · cases h
def sLen (nx : Nat) : Stp := fun F cf => match cf.2.1 with
  | (2, .index k) :: S => (match cf.2.2.1[k]? with
    | some o => some [(F, nx, (cf.1, (0, .int o.2.length.toInt32) :: S, cf.2.2))]
    | none => none)
  | _ => none
def sLenA (sid nx : Nat) : Stp := fun F cf => match cf.2.1 with
  | (2, .index k) :: S => (match cf.2.2.1[k]? with
    | some o => bif o.1 == sid then some [(F, nx, (cf.1, (0, .int o.2.length.toInt32) :: S, cf.2.2))] else none
    | none => none)
  | _ => none
theorem g_len {pc sid : Nat} {ty : FieldType} {r : String × Nat × List Fi} (hd : decode bytes pc = .ok (.arraylength, 1)) (hs : sh[sid]? = some (some ty, r)) : Good l Z hz sh A O y bytes maxL ret pc (sLenA sid (pc + 1)) :=
  good_one fun F L S D sl ns h => by
    simp only [sLenA] at h
    split at h
    · rename_i k S'
      split at h
      · rename_i o q
        cases hk : (o.1 == sid)
        · rw [hk] at h; cases h
        · rw [hk] at h; cases h
          obtain rfl := beq_iff_eq.mp hk
          refine ⟨_, _, rfl, fun hF p e R s m args below meth c T locs cells slots hA X H target st => ?_⟩
          have ho := H.2.2 k o q
          rw [ObAt.arr hs] at ho
          obtain ⟨cl, Ar, a1, a2, a3⟩ := ho
          refine X.arraylength hA.1 Ar.1 (State.isArrayOf_alike hA.2.1.alike Ar.2.1) (g := frm hz A O m pc (L, (2, .index k) :: S', D, sl)) rfl rfl (hb hA.2.2.1 hd) _ ?_
          have : cl.slots.size = o.2.length := by rw [a1]; simp
          rw [this]; exact st
      · cases h
    · cases h
def sAld (sid nx : Nat) : Stp := fun F cf => match cf.2.1 with
  | (0, j) :: (2, .index k) :: S => (match cv F j with
    | some v => (match cf.2.2.1[k]? with
      | some o => bif (o.1 == sid) && decide (0 ≤ v) then (match o.2[v.toNatClampNeg]? with
        | some x => some [(F, nx, (cf.1, x :: S, cf.2.2))]
        | none => none) else none
      | none => none)
    | none => none)
  | _ => none
theorem sAld_inv {sid nx : Nat} {F : List Cond} {L : List SL} {S : List SV} {D : List Ob} {sl : Nat} {ns : List Nx} (h : sAld sid nx F (L, S, D, sl) = some ns) : ∃ j k S' v xs x, S = (0, j) :: (2, .index k) :: S' ∧ cv F j = some v ∧ D[k]? = some (sid, xs) ∧ ¬ v < 0 ∧ xs[v.toNatClampNeg]? = some x ∧ ns = [(F, nx, (L, x :: S', D, sl))] := by
  simp only [sAld] at h
  split at h
  · rename_i j k S'
    split at h
    · rename_i v q
      split at h
      · rename_i o q2
        obtain ⟨o1, xs⟩ := o
        cases hk : ((o1 == sid) && decide (0 ≤ v))
        · rw [hk] at h; cases h
        · rw [hk] at h
          simp only [Bool.and_eq_true, decide_eq_true_eq, beq_iff_eq] at hk
          obtain ⟨rfl, v1⟩ := hk
          simp only [cond_true] at h
          split at h
          · rename_i x q3; cases h
            exact ⟨j, k, S', v, xs, x, rfl, q, q2, Int32.not_lt.mpr v1, q3, rfl⟩
          · cases h
      · cases h
    · cases h
  · cases h
theorem g_iaload {pc sid : Nat} {r : String × Nat × List Fi} (hd : decode bytes pc = .ok (.iaload, 1)) (hs : sh[sid]? = some (some .int, r)) : Good l Z hz sh A O y bytes maxL ret pc (sAld sid (pc + 1)) :=
  good_one fun F L S D sl ns h => by
    obtain ⟨j, k, S', v, xs, x, rfl, q1, q2, q3, q4, rfl⟩ := sAld_inv h
    refine ⟨_, _, rfl, fun hF p e R s m args below meth c T locs cells slots hA X H target st => ?_⟩
    have ho := H.2.2 k _ q2
    rw [ObAt.arr (o := (sid, xs)) hs] at ho
    obtain ⟨cl, Ar, a1, a2, a3⟩ := ho
    have hlt := (List.getElem?_eq_some_iff.mp q4).1
    have hsz : cl.slots.size = xs.length := by rw [a1]; simp
    have hgs : (frm hz A O m pc (L, (0, j) :: (2, .index k) :: S', D, sl)).stack = .int v :: .ref (hz.size + k) :: S'.map (vv A O hz.size) := by show Value.int (te A j).1 :: _ = _; rw [cv_ok hF q1]; rfl
    exact X.iaload hA.1 Ar.1 (State.isArrayOf_alike hA.2.1.alike Ar.2.1) Ar.2.2 (j := v) (v := vv A O hz.size x) (fun q => q.elim q3 (fun q => by omega)) (by rw [a1]; simp [q4]) (g := frm hz A O m pc (L, (0, j) :: (2, .index k) :: S', D, sl)) rfl hgs (hb hA.2.2.1 hd) _ st
theorem g_laload {pc sid : Nat} {r : String × Nat × List Fi} (hd : decode bytes pc = .ok (.laload, 1)) (hs : sh[sid]? = some (some .long, r)) : Good l Z hz sh A O y bytes maxL ret pc (sAld sid (pc + 1)) :=
  good_one fun F L S D sl ns h => by
    obtain ⟨j, k, S', v, xs, x, rfl, q1, q2, q3, q4, rfl⟩ := sAld_inv h
    refine ⟨_, _, rfl, fun hF p e R s m args below meth c T locs cells slots hA X H target st => ?_⟩
    have ho := H.2.2 k _ q2
    rw [ObAt.arr (o := (sid, xs)) hs] at ho
    obtain ⟨cl, Ar, a1, a2, a3⟩ := ho
    have hlt := (List.getElem?_eq_some_iff.mp q4).1
    have hsz : cl.slots.size = xs.length := by rw [a1]; simp
    have hgs : (frm hz A O m pc (L, (0, j) :: (2, .index k) :: S', D, sl)).stack = .int v :: .ref (hz.size + k) :: S'.map (vv A O hz.size) := by show Value.int (te A j).1 :: _ = _; rw [cv_ok hF q1]; rfl
    exact X.laload hA.1 Ar.1 (State.isArrayOf_alike hA.2.1.alike Ar.2.1) Ar.2.2 (j := v) (v := vv A O hz.size x) (fun q => q.elim q3 (fun q => by omega)) (by rw [a1]; simp [q4]) (g := frm hz A O m pc (L, (0, j) :: (2, .index k) :: S', D, sl)) rfl hgs (hb hA.2.2.1 hd) _ st
theorem g_caload {pc sid : Nat} {r : String × Nat × List Fi} (hd : decode bytes pc = .ok (.caload, 1)) (hs : sh[sid]? = some (some .char, r)) : Good l Z hz sh A O y bytes maxL ret pc (sAld sid (pc + 1)) :=
  good_one fun F L S D sl ns h => by
    obtain ⟨j, k, S', v, xs, x, rfl, q1, q2, q3, q4, rfl⟩ := sAld_inv h
    refine ⟨_, _, rfl, fun hF p e R s m args below meth c T locs cells slots hA X H target st => ?_⟩
    have ho := H.2.2 k _ q2
    rw [ObAt.arr (o := (sid, xs)) hs] at ho
    obtain ⟨cl, Ar, a1, a2, a3⟩ := ho
    have hlt := (List.getElem?_eq_some_iff.mp q4).1
    have hsz : cl.slots.size = xs.length := by rw [a1]; simp
    have hgs : (frm hz A O m pc (L, (0, j) :: (2, .index k) :: S', D, sl)).stack = .int v :: .ref (hz.size + k) :: S'.map (vv A O hz.size) := by show Value.int (te A j).1 :: _ = _; rw [cv_ok hF q1]; rfl
    exact X.caload hA.1 Ar.1 (State.isArrayOf_alike hA.2.1.alike Ar.2.1) Ar.2.2 (j := v) (v := vv A O hz.size x) (fun q => q.elim q3 (fun q => by omega)) (by rw [a1]; simp [q4]) (g := frm hz A O m pc (L, (0, j) :: (2, .index k) :: S', D, sl)) rfl hgs (hb hA.2.2.1 hd) _ st
theorem g_baloadB {pc sid : Nat} {r : String × Nat × List Fi} (hd : decode bytes pc = .ok (.baload, 1)) (hs : sh[sid]? = some (some .byte, r)) : Good l Z hz sh A O y bytes maxL ret pc (sAld sid (pc + 1)) :=
  good_one fun F L S D sl ns h => by
    obtain ⟨j, k, S', v, xs, x, rfl, q1, q2, q3, q4, rfl⟩ := sAld_inv h
    refine ⟨_, _, rfl, fun hF p e R s m args below meth c T locs cells slots hA X H target st => ?_⟩
    have ho := H.2.2 k _ q2
    rw [ObAt.arr (o := (sid, xs)) hs] at ho
    obtain ⟨cl, Ar, a1, a2, a3⟩ := ho
    have hlt := (List.getElem?_eq_some_iff.mp q4).1
    have hsz : cl.slots.size = xs.length := by rw [a1]; simp
    have hgs : (frm hz A O m pc (L, (0, j) :: (2, .index k) :: S', D, sl)).stack = .int v :: .ref (hz.size + k) :: S'.map (vv A O hz.size) := by show Value.int (te A j).1 :: _ = _; rw [cv_ok hF q1]; rfl
    exact X.baloadBytes hA.1 Ar.1 (State.isArrayOf_alike hA.2.1.alike Ar.2.1) Ar.2.2 (j := v) (v := vv A O hz.size x) (fun q => q.elim q3 (fun q => by omega)) (by rw [a1]; simp [q4]) (g := frm hz A O m pc (L, (0, j) :: (2, .index k) :: S', D, sl)) rfl hgs (hb hA.2.2.1 hd) _ st
theorem g_baloadZ {pc sid : Nat} {r : String × Nat × List Fi} (hd : decode bytes pc = .ok (.baload, 1)) (hs : sh[sid]? = some (some .boolean, r)) : Good l Z hz sh A O y bytes maxL ret pc (sAld sid (pc + 1)) :=
  good_one fun F L S D sl ns h => by
    obtain ⟨j, k, S', v, xs, x, rfl, q1, q2, q3, q4, rfl⟩ := sAld_inv h
    refine ⟨_, _, rfl, fun hF p e R s m args below meth c T locs cells slots hA X H target st => ?_⟩
    have ho := H.2.2 k _ q2
    rw [ObAt.arr (o := (sid, xs)) hs] at ho
    obtain ⟨cl, Ar, a1, a2, a3⟩ := ho
    have hlt := (List.getElem?_eq_some_iff.mp q4).1
    have hsz : cl.slots.size = xs.length := by rw [a1]; simp
    have hgs : (frm hz A O m pc (L, (0, j) :: (2, .index k) :: S', D, sl)).stack = .int v :: .ref (hz.size + k) :: S'.map (vv A O hz.size) := by show Value.int (te A j).1 :: _ = _; rw [cv_ok hF q1]; rfl
    exact X.baloadBooleans hA.1 Ar.1 (State.isArrayOf_alike hA.2.1.alike Ar.2.1) Ar.2.2 (j := v) (v := vv A O hz.size x) (fun q => q.elim q3 (fun q => by omega)) (by rw [a1]; simp [q4]) (g := frm hz A O m pc (L, (0, j) :: (2, .index k) :: S', D, sl)) rfl hgs (hb hA.2.2.1 hd) _ st
def nrT (ty : FieldType) (t : Term) : Term := match ty with
  | .boolean => smI (.op2 .iand t (.int 1))
  | .byte => smI (.op1 .i2b t)
  | .char => smI (.op1 .i2c t)
  | .short => smI (.op1 .i2s t)
  | _ => t
def kdOf : FieldType → Nat
  | .long => 1
  | .double => 3
  | .object _ => 2
  | .array _ => 2
  | _ => 0
theorem nrT_ok {ty : FieldType} (hf : ty ≠ .float) (t : Term) : narrow ty (vv A O hz.size (kdOf ty, t)) = vv A O hz.size (kdOf ty, nrT ty t) ∧ fits ty (vv A O hz.size (kdOf ty, nrT ty t)) = true := by
  have rr : ∀ (t : Term), (∀ n, fits (.object n) (rf O hz.size t) = true) ∧ (∀ u, fits (.array u) (rf O hz.size t) = true) := fun t => by
    rcases ref_cases (rf_isRef O hz.size t) with q | ⟨a, q⟩ <;> rw [q] <;> exact ⟨fun _ => rfl, fun _ => rfl⟩
  cases ty with
  | float => exact absurd rfl hf
  | boolean =>
    have e : vv A O hz.size (kdOf .boolean, nrT .boolean t) = .int (nar .boolean (te A t).1) := by show Value.int (te A (smI _)).1 = _; rw [te_smI]; rfl
    rw [e]; exact ⟨rfl, fits_nar_bool _⟩
  | byte =>
    have e : vv A O hz.size (kdOf .byte, nrT .byte t) = .int (nar .byte (te A t).1) := by show Value.int (te A (smI _)).1 = _; rw [te_smI]; rfl
    rw [e]; exact ⟨rfl, fits_nar_byte _⟩
  | char =>
    have e : vv A O hz.size (kdOf .char, nrT .char t) = .int (nar .char (te A t).1) := by show Value.int (te A (smI _)).1 = _; rw [te_smI]; rfl
    rw [e]; exact ⟨rfl, fits_nar_char _⟩
  | short =>
    have e : vv A O hz.size (kdOf .short, nrT .short t) = .int (nar .short (te A t).1) := by show Value.int (te A (smI _)).1 = _; rw [te_smI]; rfl
    rw [e]; exact ⟨rfl, fits_nar_short _⟩
  | int => exact ⟨rfl, rfl⟩
  | long => exact ⟨rfl, rfl⟩
  | double => exact ⟨rfl, rfl⟩
  | object n => exact ⟨by show narrow _ (rf O hz.size t) = rf O hz.size t; rcases ref_cases (rf_isRef O hz.size t) with q | ⟨a, q⟩ <;> rw [q] <;> rfl, (rr t).1 n⟩
  | array u => exact ⟨by show narrow _ (rf O hz.size t) = rf O hz.size t; rcases ref_cases (rf_isRef O hz.size t) with q | ⟨a, q⟩ <;> rw [q] <;> rfl, (rr t).2 u⟩
def sAst (sid : Nat) (ty : FieldType) (nx : Nat) : Stp := fun F cf => match cf.2.1 with
  | x :: (0, j) :: (2, .index k) :: S => (match cv F j with
    | some v => (match cf.2.2.1[k]? with
      | some o => bif (x.1 == kdOf ty) && ((o.1 == sid) && (decide (0 ≤ v) && Nat.blt v.toNatClampNeg o.2.length)) then
          some [(F, nx, (cf.1, S, cf.2.2.1.set k (sid, o.2.set v.toNatClampNeg (kdOf ty, nrT ty x.2)), cf.2.2.2))] else none
      | none => none)
    | none => none)
  | _ => none
theorem sAst_inv {sid nx : Nat} {ty : FieldType} {F : List Cond} {L : List SL} {S : List SV} {D : List Ob} {sl : Nat} {ns : List Nx} (h : sAst sid ty nx F (L, S, D, sl) = some ns) : ∃ t j k S' v xs, S = (kdOf ty, t) :: (0, j) :: (2, .index k) :: S' ∧ cv F j = some v ∧ D[k]? = some (sid, xs) ∧ ¬ v < 0 ∧ v.toNatClampNeg < xs.length ∧ ns = [(F, nx, (L, S', D.set k (sid, xs.set v.toNatClampNeg (kdOf ty, nrT ty t)), sl))] := by
  simp only [sAst] at h
  split at h
  · rename_i x j k S'
    obtain ⟨kx, t⟩ := x
    split at h
    · rename_i v q
      split at h
      · rename_i o q2
        obtain ⟨o1, xs⟩ := o
        cases hk : ((kx == kdOf ty) && ((o1 == sid) && (decide (0 ≤ v) && Nat.blt v.toNatClampNeg xs.length)))
        · rw [hk] at h; cases h
        · rw [hk] at h
          simp only [Bool.and_eq_true, decide_eq_true_eq, beq_iff_eq, Nat.blt_eq] at hk
          obtain ⟨rfl, rfl, v1, v2⟩ := hk
          cases h
          exact ⟨t, j, k, S', v, xs, rfl, q, q2, Int32.not_lt.mpr v1, v2, rfl⟩
      · cases h
    · cases h
  · cases h
theorem g_iastore {pc sid : Nat} {r : String × Nat × List Fi} (hd : decode bytes pc = .ok (.iastore, 1)) (hs : sh[sid]? = some (some .int, r)) : Good l Z hz sh A O y bytes maxL ret pc (sAst sid .int (pc + 1)) := by
  intro F cf ns h hF
  obtain ⟨L, S, D, sl⟩ := cf
  obtain ⟨t, j, k, S', v, xs, rfl, q1, q2, q3, q4, rfl⟩ := sAst_inv h
  refine ⟨_, List.mem_cons_self .., hF, by simp, by simp, ?_⟩
  intro d0 s0 p e R s m args below meth c T locs hd0 hs0 hh hA X H N hc hl hfr hlo
  simp only [List.length_set] at hc hl hd0 hs0 X H ⊢
  have ho := H.2.2 k _ q2
  rw [ObAt.arr (o := (sid, xs)) hs] at ho
  have ho' := ho
  obtain ⟨cl, Ar, a1, a2, a3⟩ := ho
  have hsz : cl.slots.size = xs.length := by rw [a1]; simp
  have hgs : (frm hz A O m pc (L, (kdOf .int, t) :: (0, j) :: (2, .index k) :: S', D, sl)).stack = .int (te A t).1 :: .int v :: .ref (hz.size + k) :: S'.map (vv A O hz.size) := by show _ :: Value.int (te A j).1 :: _ = _; rw [cv_ok hF q1]; rfl
  obtain ⟨T', h', X', e1, W, st⟩ := stI X hA.1 hA.2.1 rfl Ar (j := v) (fun q => q.elim q3 (fun q => by omega)) (g := frm hz A O m pc (L, (kdOf .int, t) :: (0, j) :: (2, .index k) :: S', D, sl)) rfl hgs (hb hA.2.2.1 hd)
  have hval := (nrT_ok (A := A) (O := O) (hz := hz) (ty := .int) (by decide) t).1
  subst e1
  have W' : Wr T.heap T'.heap (hz.size + k) v.toNatClampNeg (vv A O hz.size (kdOf .int, nrT .int t)) := by rw [← hval]; exact W
  refine ⟨T', _, X', ?_, Fr.snoc X' N (Nat.le_add_right _ _), st⟩
  refine H.set q2 W' ?_
  rw [ObAt.arr (o := (sid, _)) hs]
  exact ho'.set W'
theorem g_lastore {pc sid : Nat} {r : String × Nat × List Fi} (hd : decode bytes pc = .ok (.lastore, 1)) (hs : sh[sid]? = some (some .long, r)) : Good l Z hz sh A O y bytes maxL ret pc (sAst sid .long (pc + 1)) := by
  intro F cf ns h hF
  obtain ⟨L, S, D, sl⟩ := cf
  obtain ⟨t, j, k, S', v, xs, rfl, q1, q2, q3, q4, rfl⟩ := sAst_inv h
  refine ⟨_, List.mem_cons_self .., hF, by simp, by simp, ?_⟩
  intro d0 s0 p e R s m args below meth c T locs hd0 hs0 hh hA X H N hc hl hfr hlo
  simp only [List.length_set] at hc hl hd0 hs0 X H ⊢
  have ho := H.2.2 k _ q2
  rw [ObAt.arr (o := (sid, xs)) hs] at ho
  have ho' := ho
  obtain ⟨cl, Ar, a1, a2, a3⟩ := ho
  have hsz : cl.slots.size = xs.length := by rw [a1]; simp
  have hgs : (frm hz A O m pc (L, (kdOf .long, t) :: (0, j) :: (2, .index k) :: S', D, sl)).stack = .long (te A t).2 :: .int v :: .ref (hz.size + k) :: S'.map (vv A O hz.size) := by show _ :: Value.int (te A j).1 :: _ = _; rw [cv_ok hF q1]; rfl
  obtain ⟨T', h', X', e1, W, st⟩ := stJ X hA.1 hA.2.1 rfl Ar (j := v) (fun q => q.elim q3 (fun q => by omega)) (g := frm hz A O m pc (L, (kdOf .long, t) :: (0, j) :: (2, .index k) :: S', D, sl)) rfl hgs (hb hA.2.2.1 hd)
  have hval := (nrT_ok (A := A) (O := O) (hz := hz) (ty := .long) (by decide) t).1
  subst e1
  have W' : Wr T.heap T'.heap (hz.size + k) v.toNatClampNeg (vv A O hz.size (kdOf .long, nrT .long t)) := by rw [← hval]; exact W
  refine ⟨T', _, X', ?_, Fr.snoc X' N (Nat.le_add_right _ _), st⟩
  refine H.set q2 W' ?_
  rw [ObAt.arr (o := (sid, _)) hs]
  exact ho'.set W'
theorem g_castore {pc sid : Nat} {r : String × Nat × List Fi} (hd : decode bytes pc = .ok (.castore, 1)) (hs : sh[sid]? = some (some .char, r)) : Good l Z hz sh A O y bytes maxL ret pc (sAst sid .char (pc + 1)) := by
  intro F cf ns h hF
  obtain ⟨L, S, D, sl⟩ := cf
  obtain ⟨t, j, k, S', v, xs, rfl, q1, q2, q3, q4, rfl⟩ := sAst_inv h
  refine ⟨_, List.mem_cons_self .., hF, by simp, by simp, ?_⟩
  intro d0 s0 p e R s m args below meth c T locs hd0 hs0 hh hA X H N hc hl hfr hlo
  simp only [List.length_set] at hc hl hd0 hs0 X H ⊢
  have ho := H.2.2 k _ q2
  rw [ObAt.arr (o := (sid, xs)) hs] at ho
  have ho' := ho
  obtain ⟨cl, Ar, a1, a2, a3⟩ := ho
  have hsz : cl.slots.size = xs.length := by rw [a1]; simp
  have hgs : (frm hz A O m pc (L, (kdOf .char, t) :: (0, j) :: (2, .index k) :: S', D, sl)).stack = .int (te A t).1 :: .int v :: .ref (hz.size + k) :: S'.map (vv A O hz.size) := by show _ :: Value.int (te A j).1 :: _ = _; rw [cv_ok hF q1]; rfl
  obtain ⟨T', h', X', e1, W, st⟩ := stC X hA.1 hA.2.1 rfl Ar (j := v) (fun q => q.elim q3 (fun q => by omega)) (g := frm hz A O m pc (L, (kdOf .char, t) :: (0, j) :: (2, .index k) :: S', D, sl)) rfl hgs (hb hA.2.2.1 hd)
  have hval := (nrT_ok (A := A) (O := O) (hz := hz) (ty := .char) (by decide) t).1
  subst e1
  have W' : Wr T.heap T'.heap (hz.size + k) v.toNatClampNeg (vv A O hz.size (kdOf .char, nrT .char t)) := by rw [← hval]; exact W
  refine ⟨T', _, X', ?_, Fr.snoc X' N (Nat.le_add_right _ _), st⟩
  refine H.set q2 W' ?_
  rw [ObAt.arr (o := (sid, _)) hs]
  exact ho'.set W'
theorem g_bastoreB {pc sid : Nat} {r : String × Nat × List Fi} (hd : decode bytes pc = .ok (.bastore, 1)) (hs : sh[sid]? = some (some .byte, r)) : Good l Z hz sh A O y bytes maxL ret pc (sAst sid .byte (pc + 1)) := by
  intro F cf ns h hF
  obtain ⟨L, S, D, sl⟩ := cf
  obtain ⟨t, j, k, S', v, xs, rfl, q1, q2, q3, q4, rfl⟩ := sAst_inv h
  refine ⟨_, List.mem_cons_self .., hF, by simp, by simp, ?_⟩
  intro d0 s0 p e R s m args below meth c T locs hd0 hs0 hh hA X H N hc hl hfr hlo
  simp only [List.length_set] at hc hl hd0 hs0 X H ⊢
  have ho := H.2.2 k _ q2
  rw [ObAt.arr (o := (sid, xs)) hs] at ho
  have ho' := ho
  obtain ⟨cl, Ar, a1, a2, a3⟩ := ho
  have hsz : cl.slots.size = xs.length := by rw [a1]; simp
  have hgs : (frm hz A O m pc (L, (kdOf .byte, t) :: (0, j) :: (2, .index k) :: S', D, sl)).stack = .int (te A t).1 :: .int v :: .ref (hz.size + k) :: S'.map (vv A O hz.size) := by show _ :: Value.int (te A j).1 :: _ = _; rw [cv_ok hF q1]; rfl
  obtain ⟨T', h', X', e1, W, st⟩ := stB X hA.1 hA.2.1 rfl Ar (j := v) (fun q => q.elim q3 (fun q => by omega)) (g := frm hz A O m pc (L, (kdOf .byte, t) :: (0, j) :: (2, .index k) :: S', D, sl)) rfl hgs (hb hA.2.2.1 hd)
  have hval := (nrT_ok (A := A) (O := O) (hz := hz) (ty := .byte) (by decide) t).1
  subst e1
  have W' : Wr T.heap T'.heap (hz.size + k) v.toNatClampNeg (vv A O hz.size (kdOf .byte, nrT .byte t)) := by rw [← hval]; exact W
  refine ⟨T', _, X', ?_, Fr.snoc X' N (Nat.le_add_right _ _), st⟩
  refine H.set q2 W' ?_
  rw [ObAt.arr (o := (sid, _)) hs]
  exact ho'.set W'
theorem g_bastoreZ {pc sid : Nat} {r : String × Nat × List Fi} (hd : decode bytes pc = .ok (.bastore, 1)) (hs : sh[sid]? = some (some .boolean, r)) : Good l Z hz sh A O y bytes maxL ret pc (sAst sid .boolean (pc + 1)) := by
  intro F cf ns h hF
  obtain ⟨L, S, D, sl⟩ := cf
  obtain ⟨t, j, k, S', v, xs, rfl, q1, q2, q3, q4, rfl⟩ := sAst_inv h
  refine ⟨_, List.mem_cons_self .., hF, by simp, by simp, ?_⟩
  intro d0 s0 p e R s m args below meth c T locs hd0 hs0 hh hA X H N hc hl hfr hlo
  simp only [List.length_set] at hc hl hd0 hs0 X H ⊢
  have ho := H.2.2 k _ q2
  rw [ObAt.arr (o := (sid, xs)) hs] at ho
  have ho' := ho
  obtain ⟨cl, Ar, a1, a2, a3⟩ := ho
  have hsz : cl.slots.size = xs.length := by rw [a1]; simp
  have hgs : (frm hz A O m pc (L, (kdOf .boolean, t) :: (0, j) :: (2, .index k) :: S', D, sl)).stack = .int (te A t).1 :: .int v :: .ref (hz.size + k) :: S'.map (vv A O hz.size) := by show _ :: Value.int (te A j).1 :: _ = _; rw [cv_ok hF q1]; rfl
  obtain ⟨T', h', X', e1, W, st⟩ := stZ X hA.1 hA.2.1 rfl Ar (j := v) (fun q => q.elim q3 (fun q => by omega)) (g := frm hz A O m pc (L, (kdOf .boolean, t) :: (0, j) :: (2, .index k) :: S', D, sl)) rfl hgs (hb hA.2.2.1 hd)
  have hval := (nrT_ok (A := A) (O := O) (hz := hz) (ty := .boolean) (by decide) t).1
  subst e1
  have W' : Wr T.heap T'.heap (hz.size + k) v.toNatClampNeg (vv A O hz.size (kdOf .boolean, nrT .boolean t)) := by rw [← hval]; exact W
  refine ⟨T', _, X', ?_, Fr.snoc X' N (Nat.le_add_right _ _), st⟩
  refine H.set q2 W' ?_
  rw [ObAt.arr (o := (sid, _)) hs]
  exact ho'.set W'
/-! objects -/
def sNew (sid kk : Nat) (ds : List SV) (nx : Nat) : Stp := fun F cf => some [(F, nx, (cf.1, (2, .index cf.2.2.1.length) :: cf.2.1, cf.2.2.1 ++ [(sid, ds)], cf.2.2.2 + kk))]
theorem g_new {pc sid kk idx : Nat} {C : String} {fs : List Fi} {ds : List SV} {a0 : Array Value} (hd : decode bytes pc = .ok (.new idx, 3)) (hs : sh[sid]? = some (none, C, kk, fs)) (hso : ShOk Z a0 (none, C, kk, fs)) (hfl : ∀ f ∈ fs, f.2.2.2 ≠ .float) (hds : ds = fs.map fun f => dflt f.2.2.2)
    (w : (Cond.classLink y.cls idx C).before a0 Z = true) (wz : (Cond.initialized C).before a0 Z = true) : Good l Z hz sh A O y bytes maxL ret pc (sNew sid kk ds (pc + 3)) := by
  intro F cf ns h hF
  obtain ⟨L, S, D, sl⟩ := cf
  cases h
  refine ⟨_, List.mem_cons_self .., hF, by simp, by simp, ?_⟩
  intro d0 s0 p e R s m args below meth c T locs hd0 hs0 hh hA X H N hc hl hfr hlo
  simp only [List.length_append, List.length_cons, List.length_nil] at hc hl hd0 hs0 X H ⊢
  have hso1 : (Cond.instantiable C kk).before a0 Z = true := (hso rfl).1
  obtain ⟨T', h', X', e1, E, Ex, Df, -, st⟩ := newO X hA.1 hA.2.1 hA.2.2.2.2.1 w hso1 wz rfl (g := frm hz A O m pc (L, S, D, sl)) rfl (hb hA.2.2.1 hd) (by omega) (by omega)
  have hsz : T'.heap.size = T.heap.size + 1 := grown X' hd0 hh H (by rw [e1]; exact Ex.lt)
  have c1 : D.length + (0 + 1) - d0 = D.length - d0 + 1 := by omega
  have c2 : sl + kk - s0 = sl - s0 + kk := by omega
  refine ⟨T', locs, by rw [c1, c2]; exact X', ?_, N, ?_⟩
  · subst e1
    refine H.push E hsz ?_
    rw [ObAt.cls (o := (sid, ds)) hs]
    refine ⟨Ex, by rw [hds, List.length_map], fun i f x hf hx => ?_⟩
    subst hds
    rw [List.getElem?_map, hf] at hx
    cases hx
    have hm := List.mem_of_getElem? hf
    rw [dflt_ok (hfl f hm)]
    exact Df ((hso rfl).2.1 f hm).1 ((hso rfl).2.1 f hm).2
  · intro target k
    refine st target ?_
    have hi : vv A O hz.size (2, .index D.length) = .ref T.heap.size := by show Value.ref (hz.size + D.length) = _; rw [H.1]
    have k' : Steps p.tables e below (T'.setTop (mkF m (pc + 3) (L.map (sl1 A O hz.size)).toArray (vv A O hz.size (2, .index D.length) :: S.map (vv A O hz.size)))) target := k
    rw [hi] at k'; exact k'
def sGetF (sid i nx : Nat) : Stp := fun F cf => match cf.2.1 with
  | (2, .index k) :: S => (match cf.2.2.1[k]? with
    | some o => bif o.1 == sid then (match o.2[i]? with
      | some x => some [(F, nx, (cf.1, x :: S, cf.2.2))]
      | none => none) else none
    | none => none)
  | _ => none
theorem g_getfield {pc sid i kk idx : Nat} {C R0 host : String} {fs : List Fi} {f : Fi} {a0 : Array Value} (hd : decode bytes pc = .ok (.getfield idx, 3)) (hs : sh[sid]? = some (none, C, kk, fs)) (hi : fs[i]? = some f)
    (w : (Cond.fieldLink y.cls idx R0 f.2.1 f.2.2.1).before a0 Z = true ∨ (Cond.fieldLinkNest y.cls idx R0 f.2.1 f.2.2.1 host).before a0 Z = true) (via : Via Z R0 f.1 f.2.1 f.2.2.1) : Good l Z hz sh A O y bytes maxL ret pc (sGetF sid i (pc + 3)) := by
  intro F cf ns h hF
  obtain ⟨L, S, D, sl⟩ := cf
  simp only [sGetF] at h
  split at h
  · rename_i k S'
    split at h
    · rename_i o q
      obtain ⟨o1, xs⟩ := o
      cases hk : (o1 == sid)
      · rw [hk] at h; cases h
      · rw [hk] at h; obtain rfl := beq_iff_eq.mp hk
        simp only [cond_true] at h
        split at h
        · rename_i x q2; cases h
          refine ⟨_, List.mem_cons_self .., hF, by simp, by simp, ?_⟩
          intro d0 s0 p e R s m args below meth c T locs hd0 hs0 hh hA X H N hc hl hfr hlo
          have ho := H.2.2 k _ q
          rw [ObAt.cls (o := (o1, xs)) hs] at ho
          obtain ⟨T', X', e1, st⟩ := getF X hA.1 hA.2.1 hA.2.2.2.2.1 w via rfl (ho.2.2 i f x hi q2) (g := frm hz A O m pc (L, (2, .index k) :: S', D, sl)) rfl rfl (hb hA.2.2.1 hd)
          exact ⟨T', locs, X', by rw [e1]; exact H, N, st⟩
        · cases h
    · cases h
  · cases h
def sPutF (sid i : Nat) (ty : FieldType) (nx : Nat) : Stp := fun F cf => match cf.2.1 with
  | x :: (2, .index k) :: S => (match cf.2.2.1[k]? with
    | some o => bif (o.1 == sid) && (x.1 == kdOf ty) then some [(F, nx, (cf.1, S, cf.2.2.1.set k (sid, o.2.set i (kdOf ty, nrT ty x.2)), cf.2.2.2))] else none
    | none => none)
  | _ => none
theorem g_putfield {pc sid i kk idx : Nat} {C R0 : String} {fs : List Fi} {f : Fi} {a0 : Array Value} (hd : decode bytes pc = .ok (.putfield idx, 3)) (hs : sh[sid]? = some (none, C, kk, fs)) (hso : ShOk Z a0 (none, C, kk, fs)) (hi : fs[i]? = some f) (hfl : f.2.2.2 ≠ .float)
    (w : (Cond.fieldLink y.cls idx R0 f.2.1 f.2.2.1).before a0 Z = true) (via : Via Z R0 f.1 f.2.1 f.2.2.1)
    (wl : (Cond.lays C f.1 f.2.1 f.2.2.1).before a0 Z = true ∨ ((Cond.laysFinal C f.1 f.2.1 f.2.2.1).before a0 Z = true ∧ y.cls = f.1 ∧ y.name = "<init>")) : Good l Z hz sh A O y bytes maxL ret pc (sPutF sid i f.2.2.2 (pc + 3)) := by
  intro F cf ns h hF
  obtain ⟨L, S, D, sl⟩ := cf
  simp only [sPutF] at h
  split at h
  · rename_i x k S'
    obtain ⟨kx, t⟩ := x
    split at h
    · rename_i o q
      obtain ⟨o1, xs⟩ := o
      cases hk : ((o1 == sid) && (kx == kdOf f.2.2.2))
      · rw [hk] at h; cases h
      · rw [hk] at h; cases h
        simp only [Bool.and_eq_true, beq_iff_eq] at hk
        obtain ⟨rfl, rfl⟩ := hk
        refine ⟨_, List.mem_cons_self .., hF, by simp, by simp, ?_⟩
        intro d0 s0 p e R s m args below meth c T locs hd0 hs0 hh hA X H N hc hl hfr hlo
        simp only [List.length_set] at hc hl hd0 hs0 X H ⊢
        have ho := H.2.2 k _ q
        rw [ObAt.cls (o := (o1, xs)) hs] at ho
        have hlt : i < xs.length := by rw [ho.2.1]; exact (List.getElem?_eq_some_iff.mp hi).1
        have hF0 := ho.2.2 i f xs[i] hi (List.getElem?_eq_getElem hlt)
        obtain ⟨n1, n2⟩ := nrT_ok (A := A) (O := O) (hz := hz) hfl t
        obtain ⟨T', h', X', e1, W, st⟩ := putFN X hA.1 hA.2.1 hA.2.2.2.2.1 w via rfl hF0 ho.1 (wl.imp id fun q => ⟨q.1, q.2.1, hA.2.2.2.2.2.1.trans q.2.2⟩) (hso rfl).1 ((hso rfl).2.1 f (List.mem_of_getElem? hi)).2 n1 n2 (g := frm hz A O m pc (L, (kdOf f.2.2.2, t) :: (2, .index k) :: S', D, sl)) rfl rfl (hb hA.2.2.1 hd)
        subst e1
        refine ⟨T', _, X', ?_, Fr.snoc X' N (Nat.le_add_right _ _), st⟩
        refine H.set q W ?_
        rw [ObAt.cls (o := (o1, _)) hs]
        exact ClOk.set hso ho hi W
    · cases h
  · cases h
/-! ### 6. Methods: entry, return, call -/
def fill : List SV → List SL
  | [] => []
  | x :: xs => match cat x with
    | 2 => some (some x) :: some none :: fill xs
    | _ => some (some x) :: fill xs
def entL (xs : List SV) (mx : Nat) : List SL := fill xs ++ List.replicate (mx - (fill xs).length) none
theorem fill_fold (xs : List SV) : ∀ acc : Array Slot, (xs.map (vv A O hz.size)).foldl (fun acc v => if v.category = 2 then (acc.push (.val v)).push .second else acc.push (.val v)) acc = acc ++ ((fill xs).map (sl1 A O hz.size)).toArray := by
  induction xs with
  | nil => intro acc; simp [fill]
  | cons x xs ih =>
    intro acc
    rw [List.map_cons, List.foldl_cons, ih, vv_cat]
    rw [show fill (x :: xs) = (match cat x with | 2 => some (some x) :: some none :: fill xs | _ => some (some x) :: fill xs) from rfl]
    split
    · rename_i h; simp [h, sl1]
    · rename_i h; simp [h, sl1]
theorem ent_ok (m : MethodId) (xs : List SV) (mx : Nat) (r : List Ob × Nat) : entryFrame m (xs.map (vv A O hz.size)).toArray mx = frm hz A O m 0 (entL xs mx, [], r) := by
  have e : argsToLocals (xs.map (vv A O hz.size)).toArray mx = ((entL xs mx).map (sl1 A O hz.size)).toArray := by
    unfold argsToLocals entL
    have h := fill_fold (A := A) (O := O) (hz := hz) xs #[]
    have h' : (xs.map (vv A O hz.size)).toArray.foldl (init := #[]) (fun acc v => if v.category = 2 then (acc.push (.val v)).push .second else acc.push (.val v)) = ((fill xs).map (sl1 A O hz.size)).toArray := by
      rw [List.foldl_toArray]; rw [h]; simp
    simp only [h']
    simp [sl1]
  show ({ method := m, pc := 0, locals := argsToLocals _ mx, stack := [], locked := none } : JFrame) = _
  rw [e]; rfl
/-- the callee's own walk pays its contract -/
theorem met_of_ret {y' : MethodName} {bytes' : ByteArray} {mx : Nat} {ret' : Option FieldType} (hpl : plainFor y' = true) {fr lo : Nat} {xs : List SV} {D D' : List Ob} {sl sl' : Nat} {v : Option SV} {h : Heap} (H : HD Z hz sh A O h D)
    (K : Ret l Z hz sh A O y' bytes' mx ret' fr lo 0 (entL xs mx, [], D, sl) v D' sl') (ws : List Cond) (rm : Room) (hr : rm = { frames := fr, cells := D'.length - D.length, slots := sl' - sl, locals := lo }) :
    MetFree l y' (head1 (Cond.code y' bytes' mx ret' :: ws) rm)
      (fun a U => a = (xs.map (vv A O hz.size)).toArray ∧ (Z.Warmed39 U.vm ∧ Z.Warmed39 U.vm) ∧ U.heap = h) (fun _ _ _ _ _ => True)
      (fun _ U o U' => ∃ w L, o = .returned w ∧ (w = v.map (vv A O hz.size) ∧ HD Z hz sh A O U'.heap D' ∧ Fr hz.size L) ∧ FrameEnd U o U' L rm.cells rm.slots) := by
  refine MetFree.of_bodySF hpl hisR ?_
  intro p e s m args below meth c s₁ Bd hml hP hK
  obtain ⟨rfl, hZ, hh⟩ := hP
  obtain ⟨-, -, k3⟩ := K
  have X0 : Stand p l e rm s m _ below meth c s₁ [] 0 0 := Stand.of_body Bd
  have e0 : s₁.heap = h := by rw [← hh, Bd.state]; rfl
  have hsz : s.heap.size = hz.size + D.length := by rw [hh]; exact H.1
  subst hr
  obtain ⟨s₂, L2, k1, k2, k3, k4, k5, k6, k7⟩ := k3 D.length sl p e _ s m _ below meth c s₁ [] (Nat.le_refl _) (Nat.le_refl _) hsz
    ⟨Bd.exec, hZ.1, Bd.bytes, hml, findClass_of_methodNamed Bd.named, (name_of_methodNamed Bd.named Bd.method).1, Bd.returns, Bd.notSynchronized, hZ.2, Bd.named⟩
    (by simp only [Nat.sub_self]; exact X0) (by rw [e0]; exact H) (Fr.nil _) (Nat.le_refl _) (Nat.le_refl _) (Nat.le_refl _) (Nat.le_refl _)
  refine ⟨s₂, .returned (v.map (vv A O hz.size)), ?_, k2, k3, _, L2, rfl, ⟨rfl, k4, k5⟩, ⟨_, rfl⟩, k6, k7⟩
  rw [ent_ok m xs mx (D, sl)]; exact k1
theorem backH {p : Program} {e : Env} {R : Room} {s : State} {args : Array Value} {below : List Frame} {a0 : Array Value} {h : Heap} {y : MethodName} {bytes : ByteArray} {maxL : Nat} {ret : Option FieldType} {rm : Room} {len W : Nat} {as' : Array Value} {Q : Option Value → Heap → List Loc → Prop}
    (hM : MetFree l y (head1 [Cond.code y bytes maxL ret] rm) (fun a U => a = as' ∧ (Z.Warmed39 U.vm ∧ Z.Warmed39 U.vm) ∧ U.heap = h) (fun _ _ _ _ _ => True) (fun _ U o U' => ∃ v L, o = .returned v ∧ Q v U'.heap L ∧ FrameEnd U o U' L rm.cells rm.slots))
    (hZ : Z.Warmed39 s.vm ∧ Z.Warmed39 s.vm) (wc : (Cond.code y bytes maxL ret).before a0 Z = true) (wz : (Cond.initialized y.cls).before a0 Z = true) (hf : rm.frames + 1 ≤ R.frames) (hl : W + (maxL + 11) + rm.locals ≤ R.locals) :
    Back l R p e below s args y len W (fun A a => a = as' ∧ A.U.heap = h ∧ A.cells + rm.cells ≤ R.cells ∧ A.slots + rm.slots ≤ R.slots)
      (fun A _ v B => ∃ L, Q v B.U.heap L ∧ B.locs = A.locs ++ L ∧ B.cells = A.cells + rm.cells ∧ B.slots = A.slots + rm.slots) :=
  Back.of_free (bytes := bytes) (maxL := maxL) (ret := ret) (E := fun _ _ o t L k n => k = rm.cells ∧ n = rm.slots ∧ ∃ v, o = .returned v ∧ Q v t.heap L) hM hf hl
    (fun m meth c A a Y hp => have hU : Z.Warmed39 A.U.vm := wtrans hZ.1 Y.warmed
      ⟨by show (Cond.and _ .tt).before a A.U = true; rw [Cond.before_and, mv hU wc]; rfl, mv hU wc, mv hU wz, hp.2.2.1, hp.2.2.2⟩)
    (fun m meth c A a g mk Y hp => ⟨hp.1, ⟨wtrans hZ.1 Y.warmed, wtrans hZ.2 Y.warmed⟩, hp.2.1⟩) (fun _ _ _ _ _ _ _ _ _ => trivial)
    (fun _ _ _ _ ⟨v, L, h1, h2, h3⟩ => ⟨L, _, _, h3, rfl, rfl, v, h1, h2⟩)
    (fun m meth c A a g mk v t L k n Y hp _ _ ⟨e1, e2, v', e3, e4⟩ => by cases e3; subst e1 e2; exact ⟨L, e4, rfl, rfl, rfl⟩)
abbrev Kl := Nat × Nat × Nat × (List SV → List Ob → Bool)
def wt (S : List SV) : Nat := (S.map cat).sum
theorem wt_ok (S : List SV) : ((S.map (vv A O hz.size)).map fun v => v.category).sum = wt S := by
  unfold wt
  rw [List.map_map]
  congr 1
  exact List.map_congr_left fun x _ => vv_cat A O hz.size x
/-- a call of the method cj (its body's maxLocals: mx) with na operands -/
def CallGood (l : Launch) (Z : State) (hz : Heap) (sh : List Sh) (A : En) (O : Nat → Addr) (y : MethodName) (bytes : ByteArray) (maxL : Nat) (ret : Option FieldType) (y' : MethodName) (bytes' : ByteArray) (mx : Nat) (ret' : Option FieldType) (pc na nx : Nat) (ck : List SV → List Ob → Bool) : Prop :=
  ∀ (L : List SL) (S : List SV) (D : List Ob) (sl fr lo : Nat) (v : Option SV) (D' : List Ob) (sl' : Nat), na ≤ S.length → L.length = maxL → ck (S.take na) D = true → 1 ≤ fr → wt (S.drop na) + (mx + 11) ≤ lo →
    Ret l Z hz sh A O y' bytes' mx ret' (fr - 1) (lo - (wt (S.drop na) + (mx + 11))) 0 (entL (S.take na).reverse mx, [], D, sl) v D' sl' →
    Sim l Z hz sh A O y bytes maxL ret fr lo pc (L, S, D, sl) nx (L, v.toList ++ S.drop na, D', sl')
def RetGood (l : Launch) (Z : State) (hz : Heap) (sh : List Sh) (A : En) (O : Nat → Addr) (y : MethodName) (bytes : ByteArray) (maxL : Nat) (ret : Option FieldType) (pc : Nat) (g : List SV → Option (Option SV)) : Prop :=
  ∀ (L : List SL) (S : List SV) (D : List Ob) (sl fr lo : Nat) (v : Option SV), g S = some v → Ret l Z hz sh A O y bytes maxL ret fr lo pc (L, S, D, sl) v D sl
def rVoid : List SV → Option (Option SV)
  | [] => some none
  | _ => none
def rVal (ty : FieldType) : List SV → Option (Option SV)
  | x :: _ => bif x.1 == kdOf ty then some (some (kdOf ty, nrT ty x.2)) else none
  | _ => none
theorem g_return {pc : Nat} (hd : decode bytes pc = .ok (.return_, 1)) : RetGood l Z hz sh A O y bytes maxL none pc rVoid := by
  intro L S D sl fr lo v h
  unfold rVoid at h
  split at h
  · cases h
    refine ⟨Nat.le_refl _, Nat.le_refl _, ?_⟩
    intro d0 s0 p e R s m args below meth c T locs hd0 hs0 hh hA X H N hc hl hfr hlo
    obtain ⟨fs, hr, hrun, hended, hW, hsame⟩ := X.leave (v := none) (fun _ => rfl) hA.2.2.2.2.2.2.2.1
    exact ⟨_, locs, X.returnOut hA.1 hA.2.2.2.2.2.2.1 (hb hA.2.2.1 hd) hr, hrun, hended, H, N, hW, hsame⟩
  · cases h
theorem g_ret {pc : Nat} {ty : FieldType} {i : Instr} (hd : decode bytes pc = .ok (i, 1)) (hf : ty ≠ .float) (hi : (i = .ireturn ∧ (ty = .int ∨ ty = .boolean ∨ ty = .byte ∨ ty = .char ∨ ty = .short)) ∨ (i = .lreturn ∧ ty = .long) ∨ (i = .dreturn ∧ ty = .double) ∨ (i = .areturn ∧ ty.isReference = true)) :
    RetGood l Z hz sh A O y bytes maxL (some ty) pc (rVal ty) := by
  intro L S D sl fr lo v h
  unfold rVal at h
  split at h
  · rename_i x S'
    obtain ⟨kx, t⟩ := x
    cases hk : (kx == kdOf ty)
    · rw [hk] at h; cases h
    · rw [hk] at h; obtain rfl := beq_iff_eq.mp hk; cases h
      refine ⟨Nat.le_refl _, Nat.le_refl _, ?_⟩
      intro d0 s0 p e R s m args below meth c T locs hd0 hs0 hh hA X H N hc hl hfr hlo
      have hret : meth.sig.returnType = some ty := hA.2.2.2.2.2.2.1
      obtain ⟨n1, n2⟩ := nrT_ok (A := A) (O := O) (hz := hz) hf t
      obtain ⟨fs, hr, hrun, hended, hW, hsame⟩ := X.leave (v := some (vv A O hz.size (kdOf ty, nrT ty t))) (fun h => by rw [hret] at h; cases h) hA.2.2.2.2.2.2.2.1
      refine ⟨_, locs, ?_, hrun, hended, H, N, hW, hsame⟩
      show Steps p.tables e below (T.setTop (mkF m pc (L.map (sl1 A O hz.size)).toArray (vv A O hz.size (kdOf ty, t) :: S'.map (vv A O hz.size)))) _
      rw [← n1] at hr
      rcases hi with ⟨rfl, hi⟩ | ⟨rfl, rfl⟩ | ⟨rfl, rfl⟩ | ⟨rfl, hi⟩
      · by_cases hq : ty = .boolean ∨ ty = .byte ∨ ty = .char ∨ ty = .short
        · have e1 : vv A O hz.size (kdOf ty, t) = .int (te A t).1 := by rcases hq with rfl | rfl | rfl | rfl <;> rfl
          have e2 : narrow ty (.int (te A t).1) = .int (nar ty (te A t).1) := by rcases hq with rfl | rfl | rfl | rfl <;> rfl
          rw [e1]; rw [e1, e2] at hr
          exact retN X hA.1 (t := ty) hret hq (hb hA.2.2.1 hd) hr
        · have : ty = .int := by
            rcases hi with q | q | q | q | q
            · exact q
            all_goals exact absurd (by simp [q]) hq
          subst this
          exact retOut X hA.1 hret rfl (Or.inl ⟨rfl, Or.inl rfl, _, rfl⟩) (hb hA.2.2.1 hd) hr
      · exact retOut X hA.1 hret rfl (Or.inr (Or.inl ⟨rfl, rfl, _, rfl⟩)) (hb hA.2.2.1 hd) hr
      · exact retOut X hA.1 hret rfl (Or.inr (Or.inr (Or.inl ⟨rfl, rfl, _, rfl⟩))) (hb hA.2.2.1 hd) hr
      · have hkd : kdOf ty = 2 := by cases ty <;> simp [FieldType.isReference] at hi <;> rfl
        have hn : narrow ty (vv A O hz.size (kdOf ty, t)) = vv A O hz.size (kdOf ty, t) := by
          rw [hkd]; show narrow ty (rf O hz.size t) = rf O hz.size t
          cases ty <;> simp [FieldType.isReference] at hi <;> rcases ref_cases (rf_isRef O hz.size t) with q | ⟨a, q⟩ <;> rw [q] <;> rfl
        rw [hn] at hr
        exact retOut X hA.1 hret hn (Or.inr (Or.inr (Or.inr (Or.inr ⟨rfl, hi, by rw [hkd]; exact rf_isRef _ _ _⟩)))) (hb hA.2.2.1 hd) hr
  · cases h
def ckAny : List SV → List Ob → Bool := fun _ _ => true
/-- the receiver (the deepest operand) is a made object of the shape -/
def ckObj (sid : Nat) : List SV → List Ob → Bool := fun a D => match a.getLast? with
  | some (2, .index k) => (match D[k]? with
    | some o => o.1 == sid
    | none => false)
  | _ => false
theorem ckObj_inv {sid : Nat} {a : List SV} {D : List Ob} (h : ckObj sid a D = true) : ∃ a' k xs, a = a' ++ [(2, .index k)] ∧ D[k]? = some (sid, xs) := by
  unfold ckObj at h
  split at h
  · rename_i k q
    split at h
    · rename_i o q2
      obtain ⟨o1, xs⟩ := o
      obtain rfl := beq_iff_eq.mp h
      obtain ⟨a', rfl⟩ := List.getLast?_eq_some_iff.mp q
      exact ⟨a', k, xs, rfl, q2⟩
    · cases h
  · cases h
section Calls
variable {y' : MethodName} {bytes' : ByteArray} {mx : Nat} {ret' : Option FieldType} {a0 : Array Value}
theorem c_static {pc idx na : Nat} {ps : List FieldType} {r : Option FieldType} (hd : decode bytes pc = .ok (.invokestatic idx, 3)) (hpl : plainFor y' = true) (hdesc : parseMethodDescriptor y'.desc = some ⟨ps, r⟩) (hna : ps.length = na) (hy : y'.cls ≠ "java/lang/invoke/MethodHandle" ∧ y'.cls ≠ "java/lang/invoke/VarHandle")
    (w1 : (Cond.methodLink y.cls idx y').before a0 Z = true) (w2 : (Cond.static y').before a0 Z = true) (w3 : (Cond.initialized y'.cls).before a0 Z = true) (w4 : (Cond.code y' bytes' mx ret').before a0 Z = true) :
    CallGood l Z hz sh A O y bytes maxL ret y' bytes' mx ret' pc na (pc + 3) ckAny := by
  intro L S D sl fr lo v D' sl' h1 h2 h3 h4 h5 K
  have kk := K
  obtain ⟨k1, k2, -⟩ := kk
  refine ⟨k1, k2, ?_⟩
  intro d0 s0 p e R s m args below meth c T locs hd0 hs0 hh hA X H N hc hl hfr hlo
  have k1' : D.length ≤ D'.length := k1
  have k2' : sl ≤ sl' := k2
  have hd0' : d0 ≤ D.length := hd0
  have hs0' : s0 ≤ sl := hs0
  have hc' : D'.length - d0 ≤ R.cells := hc
  have hl' : sl' - s0 ≤ R.slots := hl
  have hM := met_of_ret hpl H K [] { frames := fr - 1, cells := D'.length - D.length, slots := sl' - sl, locals := lo - (wt (S.drop na) + (mx + 11)) } rfl
  obtain ⟨w, vm₁, ⟨T', L', k', n'⟩, -, X', ⟨Lc, ⟨rfl, H', N'⟩, l1, y1, z1⟩, st⟩ := Jvm.LawKit.callS X hA.1 (y := y') hA.2.2.2.2.1 (mvT hA.2.1 w1) (mvT hA.2.1 w2) (mvT hA.2.1 w3) (mvT hA.2.1 w4) hy
    (backH (W := wt (S.drop na)) (rm := { frames := fr - 1, cells := D'.length - D.length, slots := sl' - sl, locals := lo - (wt (S.drop na) + (mx + 11)) }) (Q := fun w h' L => w = v.map (vv A O hz.size) ∧ HD Z hz sh A O h' D' ∧ Fr hz.size L) hM ⟨hA.2.1, hA.2.2.2.2.2.2.2.2.1⟩ w4 w3 (by show fr - 1 + 1 ≤ _; omega) (by show _ + (lo - _) ≤ _; omega)) (g := frm hz A O m pc (L, S, D, sl)) rfl (by show (L.map (sl1 A O hz.size)).toArray.size = _; rw [hA.2.2.2.1, ← h2]; simp)
    (argsL := (S.take na).reverse.map (vv A O hz.size)) (rest := (S.drop na).map (vv A O hz.size)) (lenOf hdesc (by rw [List.length_map, List.length_reverse, List.length_take, hna]; omega))
    (by show S.map (vv A O hz.size) = _; rw [← List.map_reverse, List.reverse_reverse, ← List.map_append, List.take_append_drop]) (by show 2 * 0 + _ ≤ _; rw [wt_ok]; omega) (hb hA.2.2.1 hd)
    (fun _ _ => ⟨rfl, rfl, by show D.length - d0 + (D'.length - D.length) ≤ _; omega, by show sl - s0 + (sl' - sl) ≤ _; omega⟩)
  dsimp only [Pt.U, Pt.locs, Pt.cells, Pt.slots] at X' l1 y1 z1 st H'
  subst l1 y1 z1
  have c1 : D.length - d0 + (D'.length - D.length) = D'.length - d0 := by omega
  have c2 : sl - s0 + (sl' - sl) = sl' - s0 := by omega
  refine ⟨T', _, by rw [← c1, ← c2]; exact X', H', N.app N', fun target k => st target ?_⟩
  have e2 : (v.toList ++ S.drop na).map (vv A O hz.size) = (v.map (vv A O hz.size)).toList ++ (S.drop na).map (vv A O hz.size) := by cases v <;> simp
  have k' : Steps p.tables e below (T'.setTop (mkF m (pc + 3) (L.map (sl1 A O hz.size)).toArray ((v.toList ++ S.drop na).map (vv A O hz.size)))) target := k
  rw [e2] at k'; exact k'
theorem c_init {pc idx na sid : Nat} {ps : List FieldType} {r : Option FieldType} (hd : decode bytes pc = .ok (.invokespecial idx, 3)) (hpl : plainFor y' = true) (hdesc : parseMethodDescriptor y'.desc = some ⟨ps, r⟩) (hna : ps.length + 1 = na) (hy : y'.cls ≠ "java/lang/invoke/MethodHandle" ∧ y'.cls ≠ "java/lang/invoke/VarHandle")
    (w1 : (Cond.methodLink y.cls idx y').before a0 Z = true) (w2 : (Cond.instanceMethod y').before a0 Z = true) (w3 : (Cond.initialized y'.cls).before a0 Z = true) (w4 : (Cond.code y' bytes' mx none).before a0 Z = true) (hn : y'.name = "<init>") :
    CallGood l Z hz sh A O y bytes maxL ret y' bytes' mx none pc na (pc + 3) (ckObj sid) := by
  intro L S D sl fr lo v D' sl' h1 h2 h3 h4 h5 K
  have kk := K
  obtain ⟨k1, k2, -⟩ := kk
  refine ⟨k1, k2, ?_⟩
  intro d0 s0 p e R s m args below meth c T locs hd0 hs0 hh hA X H N hc hl hfr hlo
  have k1' : D.length ≤ D'.length := k1
  have k2' : sl ≤ sl' := k2
  have hd0' : d0 ≤ D.length := hd0
  have hs0' : s0 ≤ sl := hs0
  have hc' : D'.length - d0 ≤ R.cells := hc
  have hl' : sl' - s0 ≤ R.slots := hl
  obtain ⟨a', k, xs, ea, ek⟩ := ckObj_inv h3
  have hM := met_of_ret hpl H K [] { frames := fr - 1, cells := D'.length - D.length, slots := sl' - sl, locals := lo - (wt (S.drop na) + (mx + 11)) } rfl
  have er : (S.take na).reverse.map (vv A O hz.size) = .ref (hz.size + k) :: a'.reverse.map (vv A O hz.size) := by rw [ea]; simp [vv, rf]
  have el : (a'.reverse.map (vv A O hz.size)).length = ps.length := by
    have := congrArg List.length ea
    rw [List.length_take, List.length_append] at this
    simp only [List.length_cons, List.length_nil] at this
    rw [List.length_map, List.length_reverse]; omega
  rw [er] at hM
  have es : S.map (vv A O hz.size) = (a'.reverse.map (vv A O hz.size)).reverse ++ .ref (hz.size + k) :: (S.drop na).map (vv A O hz.size) := by
    conv => lhs; rw [← List.take_append_drop na S, ea]
    simp [vv, rf]

  obtain ⟨w, vm₁, ⟨T', L', k', n'⟩, -, X', ⟨Lc, ⟨rfl, H', N'⟩, l1, y1, z1⟩, st⟩ := X.specialBack hA.1 (y := y') hn hA.2.2.2.2.1 (mvT hA.2.1 w1) (mvT hA.2.1 w2) (mvT hA.2.1 w4) hy
    (backH (W := wt (S.drop na)) (rm := { frames := fr - 1, cells := D'.length - D.length, slots := sl' - sl, locals := lo - (wt (S.drop na) + (mx + 11)) }) (Q := fun w h' L => w = v.map (vv A O hz.size) ∧ HD Z hz sh A O h' D' ∧ Fr hz.size L) hM ⟨hA.2.1, hA.2.2.2.2.2.2.2.2.1⟩ w4 w3 (by show fr - 1 + 1 ≤ _; omega) (by show _ + (lo - _) ≤ _; omega)) (g := frm hz A O m pc (L, S, D, sl)) rfl (by show (L.map (sl1 A O hz.size)).toArray.size = _; rw [hA.2.2.2.1, ← h2]; simp) (Steps.refl _) (a := hz.size + k)
    (argsL := a'.reverse.map (vv A O hz.size)) (rest := (S.drop na).map (vv A O hz.size)) (lenOf hdesc el)
    es (by show 2 * 0 + _ ≤ _; rw [wt_ok]; omega) (hb hA.2.2.1 hd)
    (fun _ _ => ⟨rfl, rfl, by show D.length - d0 + (D'.length - D.length) ≤ _; omega, by show sl - s0 + (sl' - sl) ≤ _; omega⟩)
  dsimp only [Pt.U, Pt.locs, Pt.cells, Pt.slots] at X' l1 y1 z1 st H'
  subst l1 y1 z1
  have c1 : D.length - d0 + (D'.length - D.length) = D'.length - d0 := by omega
  have c2 : sl - s0 + (sl' - sl) = sl' - s0 := by omega
  refine ⟨T', _, by rw [← c1, ← c2]; exact X', H', N.app N', fun target kt => st.trans ?_⟩
  have e2 : (v.toList ++ S.drop na).map (vv A O hz.size) = (v.map (vv A O hz.size)).toList ++ (S.drop na).map (vv A O hz.size) := by cases v <;> simp
  have kt' : Steps p.tables e below (T'.setTop (mkF m (pc + 3) (L.map (sl1 A O hz.size)).toArray ((v.toList ++ S.drop na).map (vv A O hz.size)))) target := kt
  rw [e2] at kt'; exact kt'
theorem c_virtual {pc idx na sid : Nat} {ps : List FieldType} {r : Option FieldType} {C : String} {kk : Nat} {fs : List Fi} (hd : decode bytes pc = .ok (.invokevirtual idx, 3)) (hpl : plainFor y' = true) (hdesc : parseMethodDescriptor y'.desc = some ⟨ps, r⟩) (hna : ps.length + 1 = na) (hy : y'.cls ≠ "java/lang/invoke/MethodHandle" ∧ y'.cls ≠ "java/lang/invoke/VarHandle")
    (w1 : (Cond.methodLink y.cls idx y').before a0 Z = true) (w2 : (Cond.instanceMethod y').before a0 Z = true) (w3 : (Cond.initialized y'.cls).before a0 Z = true) (w4 : (Cond.code y' bytes' mx ret').before a0 Z = true) (hs : sh[sid]? = some (none, C, kk, fs)) (w5 : (Cond.declares y').before a0 Z = true) (w6 : (Cond.selects C y' y').before a0 Z = true) :
    CallGood l Z hz sh A O y bytes maxL ret y' bytes' mx ret' pc na (pc + 3) (ckObj sid) := by
  intro L S D sl fr lo v D' sl' h1 h2 h3 h4 h5 K
  have kk := K
  obtain ⟨k1, k2, -⟩ := kk
  refine ⟨k1, k2, ?_⟩
  intro d0 s0 p e R s m args below meth c T locs hd0 hs0 hh hA X H N hc hl hfr hlo
  have k1' : D.length ≤ D'.length := k1
  have k2' : sl ≤ sl' := k2
  have hd0' : d0 ≤ D.length := hd0
  have hs0' : s0 ≤ sl := hs0
  have hc' : D'.length - d0 ≤ R.cells := hc
  have hl' : sl' - s0 ≤ R.slots := hl
  obtain ⟨a', k, xs, ea, ek⟩ := ckObj_inv h3
  have hM := met_of_ret hpl H K [] { frames := fr - 1, cells := D'.length - D.length, slots := sl' - sl, locals := lo - (wt (S.drop na) + (mx + 11)) } rfl
  have er : (S.take na).reverse.map (vv A O hz.size) = .ref (hz.size + k) :: a'.reverse.map (vv A O hz.size) := by rw [ea]; simp [vv, rf]
  have el : (a'.reverse.map (vv A O hz.size)).length = ps.length := by
    have := congrArg List.length ea
    rw [List.length_take, List.length_append] at this
    simp only [List.length_cons, List.length_nil] at this
    rw [List.length_map, List.length_reverse]; omega
  rw [er] at hM
  have es : S.map (vv A O hz.size) = (a'.reverse.map (vv A O hz.size)).reverse ++ .ref (hz.size + k) :: (S.drop na).map (vv A O hz.size) := by
    conv => lhs; rw [← List.take_append_drop na S, ea]
    simp [vv, rf]
  have ho := H.2.2 k _ ek
  rw [ObAt.cls (o := (sid, xs)) hs] at ho
  obtain ⟨cq, kq, qa, qb, qc⟩ := isOf hA.2.1 rfl ho.1
  obtain ⟨w, vm₁, ⟨T', L', k', n'⟩, -, X', ⟨Lc, ⟨rfl, H', N'⟩, l1, y1, z1⟩, st⟩ := X.virtualBack hA.1 (y := y') (z := y') hA.2.2.2.2.1 (mvT hA.2.1 w1) (mvT hA.2.1 w5) (notFace_of_selects (args := #[]) (mvT hA.2.1 w6)) (mvT hA.2.1 w6) (mvT hA.2.1 w2) hy
    (backH (W := wt (S.drop na)) (rm := { frames := fr - 1, cells := D'.length - D.length, slots := sl' - sl, locals := lo - (wt (S.drop na) + (mx + 11)) }) (Q := fun w h' L => w = v.map (vv A O hz.size) ∧ HD Z hz sh A O h' D' ∧ Fr hz.size L) hM ⟨hA.2.1, hA.2.2.2.2.2.2.2.2.1⟩ w4 w3 (by show fr - 1 + 1 ≤ _; omega) (by show _ + (lo - _) ≤ _; omega)) qa qc (g := frm hz A O m pc (L, S, D, sl)) rfl (by show (L.map (sl1 A O hz.size)).toArray.size = _; rw [hA.2.2.2.1, ← h2]; simp) (Steps.refl _) 
    (argsL := a'.reverse.map (vv A O hz.size)) (rest := (S.drop na).map (vv A O hz.size)) (lenOf hdesc el)
    es (by show 2 * 0 + _ ≤ _; rw [wt_ok]; omega) (hb hA.2.2.1 hd)
    (fun _ _ => ⟨rfl, rfl, by show D.length - d0 + (D'.length - D.length) ≤ _; omega, by show sl - s0 + (sl' - sl) ≤ _; omega⟩)
  dsimp only [Pt.U, Pt.locs, Pt.cells, Pt.slots] at X' l1 y1 z1 st H'
  subst l1 y1 z1
  have c1 : D.length - d0 + (D'.length - D.length) = D'.length - d0 := by omega
  have c2 : sl - s0 + (sl' - sl) = sl' - s0 := by omega
  refine ⟨T', _, by rw [← c1, ← c2]; exact X', H', N.app N', fun target kt => st.trans ?_⟩
  have e2 : (v.toList ++ S.drop na).map (vv A O hz.size) = (v.map (vv A O hz.size)).toList ++ (S.drop na).map (vv A O hz.size) := by cases v <;> simp
  have kt' : Steps p.tables e below (T'.setTop (mkF m (pc + 3) (L.map (sl1 A O hz.size)).toArray ((v.toList ++ S.drop na).map (vv A O hz.size)))) target := kt
  rw [e2] at kt'; exact kt'
theorem c_private {pc idx na sid : Nat} {ps : List FieldType} {r : Option FieldType} {C : String} {kk : Nat} {fs : List Fi} (hd : decode bytes pc = .ok (.invokevirtual idx, 3)) (hpl : plainFor y' = true) (hdesc : parseMethodDescriptor y'.desc = some ⟨ps, r⟩) (hna : ps.length + 1 = na) (hy : y'.cls ≠ "java/lang/invoke/MethodHandle" ∧ y'.cls ≠ "java/lang/invoke/VarHandle")
    (w1 : (Cond.methodLink y.cls idx y').before a0 Z = true) (w2 : (Cond.instanceMethod y').before a0 Z = true) (w3 : (Cond.initialized y'.cls).before a0 Z = true) (w4 : (Cond.code y' bytes' mx ret').before a0 Z = true) (hs : sh[sid]? = some (none, C, kk, fs)) (w5 : (Cond.privateMethod y').before a0 Z = true) (w6 : (Cond.instantiable y'.cls kk).before a0 Z = true) :
    CallGood l Z hz sh A O y bytes maxL ret y' bytes' mx ret' pc na (pc + 3) (ckObj sid) := by
  intro L S D sl fr lo v D' sl' h1 h2 h3 h4 h5 K
  have kk := K
  obtain ⟨k1, k2, -⟩ := kk
  refine ⟨k1, k2, ?_⟩
  intro d0 s0 p e R s m args below meth c T locs hd0 hs0 hh hA X H N hc hl hfr hlo
  have k1' : D.length ≤ D'.length := k1
  have k2' : sl ≤ sl' := k2
  have hd0' : d0 ≤ D.length := hd0
  have hs0' : s0 ≤ sl := hs0
  have hc' : D'.length - d0 ≤ R.cells := hc
  have hl' : sl' - s0 ≤ R.slots := hl
  obtain ⟨a', k, xs, ea, ek⟩ := ckObj_inv h3
  have hM := met_of_ret hpl H K [] { frames := fr - 1, cells := D'.length - D.length, slots := sl' - sl, locals := lo - (wt (S.drop na) + (mx + 11)) } rfl
  have er : (S.take na).reverse.map (vv A O hz.size) = .ref (hz.size + k) :: a'.reverse.map (vv A O hz.size) := by rw [ea]; simp [vv, rf]
  have el : (a'.reverse.map (vv A O hz.size)).length = ps.length := by
    have := congrArg List.length ea
    rw [List.length_take, List.length_append] at this
    simp only [List.length_cons, List.length_nil] at this
    rw [List.length_map, List.length_reverse]; omega
  rw [er] at hM
  have es : S.map (vv A O hz.size) = (a'.reverse.map (vv A O hz.size)).reverse ++ .ref (hz.size + k) :: (S.drop na).map (vv A O hz.size) := by
    conv => lhs; rw [← List.take_append_drop na S, ea]
    simp [vv, rf]
  have ho := H.2.2 k _ ek
  rw [ObAt.cls (o := (sid, xs)) hs] at ho
  obtain ⟨cq, q1, q2⟩ := ho.1.cell
  have w6' : (Cond.instantiable y'.cls kk).before args s = true := mvT hA.2.1 w6
  obtain ⟨ci, ki, i1, i2, i3, i4, -⟩ := Cond.instantiable_spec w6'
  have hpv := Cond.privateMethod_at (mvP hA.2.1 w5 (args := args))
  have hsf : (Cond.selects y'.cls y' y').before args s = true := selects_self_of_private i1 i2 (Bool.or_eq_false_iff.mp i4).1 hpv (mvT hA.2.1 w2) hy
  obtain ⟨w, vm₁, ⟨T', L', k', n'⟩, -, X', ⟨Lc, ⟨rfl, H', N'⟩, l1, y1, z1⟩, st⟩ := X.privateBack hA.1 (y := y') hA.2.2.2.2.1 (mvT hA.2.1 w1) (mvT hA.2.1 w2) hsf hpv (mvT hA.2.1 w4) hy
    (backH (W := wt (S.drop na)) (rm := { frames := fr - 1, cells := D'.length - D.length, slots := sl' - sl, locals := lo - (wt (S.drop na) + (mx + 11)) }) (Q := fun w h' L => w = v.map (vv A O hz.size) ∧ HD Z hz sh A O h' D' ∧ Fr hz.size L) hM ⟨hA.2.1, hA.2.2.2.2.2.2.2.2.1⟩ w4 w3 (by show fr - 1 + 1 ≤ _; omega) (by show _ + (lo - _) ≤ _; omega)) (g := frm hz A O m pc (L, S, D, sl)) rfl (by show (L.map (sl1 A O hz.size)).toArray.size = _; rw [hA.2.2.2.1, ← h2]; simp) (Steps.refl _) (a := hz.size + k) q1 q2
    (argsL := a'.reverse.map (vv A O hz.size)) (rest := (S.drop na).map (vv A O hz.size)) (lenOf hdesc el)
    es (by show 2 * 0 + _ ≤ _; rw [wt_ok]; omega) (hb hA.2.2.1 hd)
    (fun _ _ => ⟨rfl, rfl, by show D.length - d0 + (D'.length - D.length) ≤ _; omega, by show sl - s0 + (sl' - sl) ≤ _; omega⟩)
  dsimp only [Pt.U, Pt.locs, Pt.cells, Pt.slots] at X' l1 y1 z1 st H'
  subst l1 y1 z1
  have c1 : D.length - d0 + (D'.length - D.length) = D'.length - d0 := by omega
  have c2 : sl - s0 + (sl' - sl) = sl' - s0 := by omega
  refine ⟨T', _, by rw [← c1, ← c2]; exact X', H', N.app N', fun target kt => st.trans ?_⟩
  have e2 : (v.toList ++ S.drop na).map (vv A O hz.size) = (v.map (vv A O hz.size)).toList ++ (S.drop na).map (vv A O hz.size) := by cases v <;> simp
  have kt' : Steps p.tables e below (T'.setTop (mkF m (pc + 3) (L.map (sl1 A O hz.size)).toArray ((v.toList ++ S.drop na).map (vv A O hz.size)))) target := kt
  rw [e2] at kt'; exact kt'
end Calls
/-! ### 7. The run -/
/-- a step that asks for room: a native -/
abbrev Stq := Nat → Nat → Stp
def GoodN (l : Launch) (Z : State) (hz : Heap) (sh : List Sh) (A : En) (O : Nat → Addr) (y : MethodName) (bytes : ByteArray) (maxL : Nat) (ret : Option FieldType) (pc : Nat) (f : Stq) : Prop := ∀ fr lo F cf ns, f fr lo F cf = some ns → holds A F → ∃ n ∈ ns, holds A n.1 ∧ Sim l Z hz sh A O y bytes maxL ret fr lo pc cf n.2.1 n.2.2
/-- Object's constructor -/
def sInitO (mx nx : Nat) : Stq := fun fr lo F cf => match cf.2.1 with
  | (2, .index _) :: S => bif Nat.ble 1 fr && (Nat.ble (wt S + 12) lo && Nat.beq cf.1.length mx) then some [(F, nx, (cf.1, S, cf.2.2))] else none
  | _ => none
theorem g_initO {pc idx : Nat} {a0 : Array Value} (hd : decode bytes pc = .ok (.invokespecial idx, 3)) (w1 : (Cond.methodLink y.cls idx Lib.objectInit).before a0 Z = true) (w2 : (Cond.instanceMethod Lib.objectInit).before a0 Z = true) (w3 : (Cond.code Lib.objectInit ⟨#[0xb1]⟩ 1 none).before a0 Z = true) :
    GoodN l Z hz sh A O y bytes maxL ret pc (sInitO maxL (pc + 3)) := by
  intro fr lo F cf ns h hF
  obtain ⟨L, S, D, sl⟩ := cf
  simp only [sInitO] at h
  split at h
  · rename_i k S'
    cases hk : (Nat.ble 1 fr && (Nat.ble (wt S' + 12) lo && Nat.beq L.length maxL))
    · rw [hk] at h; cases h
    · rw [hk] at h; cases h
      simp only [Bool.and_eq_true] at hk
      have c1 := Nat.le_of_ble_eq_true hk.1
      have c2 := Nat.le_of_ble_eq_true hk.2.1
      have c3 := Nat.eq_of_beq_eq_true hk.2.2
      refine ⟨_, List.mem_cons_self .., hF, Nat.le_refl _, Nat.le_refl _, ?_⟩
      intro d0 s0 p e R s m args below meth c T locs hd0 hs0 hh hA X H N hc hl hfr hlo
      obtain ⟨T', X', e1, st⟩ := initO X hA.1 hA.2.1 hA.2.2.2.2.1 w1 w2 w3 rfl (g := frm hz A O m pc (L, (2, .index k) :: S', D, sl)) rfl (by show (L.map (sl1 A O hz.size)).toArray.size = _; rw [hA.2.2.2.1, ← c3]; simp) (a := hz.size + k) (rest := S'.map (vv A O hz.size)) rfl (hb hA.2.2.1 hd) (by omega) (W := wt S') (by show 2 * 0 + _ ≤ _; rw [wt_ok]; omega) (by omega)
      exact ⟨T', locs, X', by rw [e1]; exact H, N, st⟩
  · cases h
/-- the law's own run from here on returns 1 within the frame's figures -/
def Top (l : Launch) (Z : State) (hz : Heap) (sh : List Sh) (A : En) (O : Nat → Addr) (y : MethodName) (bytes : ByteArray) (maxL : Nat) (ret : Option FieldType) (C N fr lo pc : Nat) (cf : Cf) : Prop :=
  cf.2.2.1.length ≤ C ∧ cf.2.2.2 ≤ N ∧
  ∀ (p : Program) (e : Env) (R : Room) (s : State) (m : MethodId) (args : Array Value) (below : List Frame) (meth : Method) (c : Code) (T : State) (locs : List Loc),
    s.heap.size = hz.size → Act Z y bytes maxL ret p s m meth c → Stand p l e R s m args below meth c T locs cf.2.2.1.length cf.2.2.2 → HD Z hz sh A O T.heap cf.2.2.1 → Fr hz.size locs →
    C ≤ R.cells → N ≤ R.slots → fr ≤ R.frames → lo ≤ R.locals →
    ∃ s₂ locs', Steps p.tables e below (T.setTop (frm hz A O m pc cf)) s₂ ∧ s₂.status = .running ∧ Ended s₂ below (.returned (some (.int 1))) ∧ Fr hz.size locs' ∧
      s.Since s₂.vm s₂.heap.size ∧ s.sameButNew ({ s₂ with vm := s.vm } : State) locs' C N
theorem Sim.top {fr lo C N pc pc' : Nat} {cf cf' : Cf} (S : Sim l Z hz sh A O y bytes maxL ret fr lo pc cf pc' cf') (K : Top l Z hz sh A O y bytes maxL ret C N fr lo pc' cf') : Top l Z hz sh A O y bytes maxL ret C N fr lo pc cf := by
  obtain ⟨s1, s2, s3⟩ := S
  obtain ⟨k1, k2, k3⟩ := K
  refine ⟨Nat.le_trans s1 k1, Nat.le_trans s2 k2, ?_⟩
  intro p e R s m args below meth c T locs hh hA X H N' hc hl hf hlo
  obtain ⟨T', locs', X', H', N'', st⟩ := s3 0 0 p e R s m args below meth c T locs (Nat.zero_le _) (Nat.zero_le _) hh hA X H N' (by rw [Nat.sub_zero]; omega) (by rw [Nat.sub_zero]; omega) hf hlo
  obtain ⟨s₂, L2, q1, q2⟩ := k3 p e R s m args below meth c T' locs' hh hA X' H' N'' hc hl hf hlo
  exact ⟨s₂, L2, st _ q1, q2⟩
theorem Top.mono {fr lo fr' lo' C N pc : Nat} {cf : Cf} (K : Top l Z hz sh A O y bytes maxL ret C N fr lo pc cf) (h1 : fr ≤ fr') (h2 : lo ≤ lo') : Top l Z hz sh A O y bytes maxL ret C N fr' lo' pc cf := by
  obtain ⟨k1, k2, k3⟩ := K
  refine ⟨k1, k2, ?_⟩
  intro p e R s m args below meth c T locs hh hA X H N' hc hl hf hlo
  exact k3 p e R s m args below meth c T locs hh hA X H N' hc hl (Nat.le_trans h1 hf) (Nat.le_trans h2 hlo)
theorem Ret.top {fr lo C N pc : Nat} {cf : Cf} {v : Option SV} {D' : List Ob} {sl' : Nat} (K : Ret l Z hz sh A O y bytes maxL ret fr lo pc cf v D' sl') (hv : v.map (vv A O hz.size) = some (.int 1)) (h1 : D'.length ≤ C) (h2 : sl' ≤ N) : Top l Z hz sh A O y bytes maxL ret C N fr lo pc cf := by
  obtain ⟨k1, k2, k3⟩ := K
  refine ⟨Nat.le_trans k1 h1, Nat.le_trans k2 h2, ?_⟩
  intro p e R s m args below meth c T locs hh hA X H N' hc hl hf hlo
  obtain ⟨s₂, L2, q1, q2, q3, q4, q5, q6, q7⟩ := k3 0 0 p e R s m args below meth c T locs (Nat.zero_le _) (Nat.zero_le _) hh hA X H N' (by rw [Nat.sub_zero]; omega) (by rw [Nat.sub_zero]; omega) hf hlo
  rw [hv] at q3
  exact ⟨s₂, L2, q1, q2, q3, q5, q6.since _, q7.mono h1 h2⟩
end SimLaws
/-! a cut: the values in some locals are taken for new unknowns -/
def sub (σ : List Term) : Term → Term
  | .arg i => σ.getD i (.arg i)
  | .add a b => .add (sub σ a) (sub σ b)
  | .sub a b => .sub (sub σ a) (sub σ b)
  | .mul a b => .mul (sub σ a) (sub σ b)
  | .div a b => .div (sub σ a) (sub σ b)
  | .rem a b => .rem (sub σ a) (sub σ b)
  | .op2 o a b => .op2 o (sub σ a) (sub σ b)
  | .op1 o a => .op1 o (sub σ a)
  | t => t
def env' (A : En) (σ : List Term) : En := fun i => te A (σ.getD i (.arg i))
theorem te_sub (A : En) (σ : List Term) (t : Term) : te A (sub σ t) = te (env' A σ) t := by
  induction t <;> simp_all [sub, te, env']
def vq (σ : List Term) (x0 x : SV) : Bool := Nat.beq x0.1 x.1 && (match x0.1 with
  | 2 => tq x0.2 x.2
  | _ => tq (sub σ x0.2) x.2)
def vqs (σ : List Term) : List SV → List SV → Bool
  | [], [] => true
  | x :: xs, z :: zs => vq σ x z && vqs σ xs zs
  | _, _ => false
def lqs (σ : List Term) : List SL → List SL → Bool
  | [], [] => true
  | x :: xs, z :: zs => (match x, z with
    | none, none => true
    | some none, some none => true
    | some (some a), some (some b) => vq σ a b
    | _, _ => false) && lqs σ xs zs
  | _, _ => false
def oqs (σ : List Term) : List Ob → List Ob → Bool
  | [], [] => true
  | x :: xs, z :: zs => ((!(Nat.beq x.1 99) && Nat.beq x.1 z.1) && vqs σ x.2 z.2) && oqs σ xs zs
  | _, _ => false
def cfq (σ : List Term) (c0 c : Cf) : Bool := lqs σ c0.1 c.1 && (vqs σ c0.2.1 c.2.1 && (oqs σ c0.2.2.1 c.2.2.1 && Nat.beq c0.2.2.2 c.2.2.2))
theorem vq_ok {A : En} {O : Nat → Addr} {n0 : Nat} {σ : List Term} {x0 x : SV} (h : vq σ x0 x = true) : vv A O n0 x = vv (env' A σ) O n0 x0 := by
  obtain ⟨k0, t0⟩ := x0
  obtain ⟨k, t⟩ := x
  simp only [vq, Bool.and_eq_true] at h
  obtain ⟨h1, h2⟩ := h
  obtain rfl := Nat.eq_of_beq_eq_true h1
  by_cases q : k0 = 2
  · subst q
    simp only at h2
    obtain rfl := tq_eq h2; rfl
  · have h3 : sub σ t0 = t := by
      split at h2
      · exact absurd rfl q
      · exact tq_eq h2
    subst h3
    unfold vv
    simp only
    split
    · rw [te_sub]
    · rw [te_sub]
    · exact absurd rfl q
    · rw [te_sub]
theorem vqs_ok {A : En} {O : Nat → Addr} {n0 : Nat} {σ : List Term} : ∀ {xs zs : List SV}, vqs σ xs zs = true → zs.map (vv A O n0) = xs.map (vv (env' A σ) O n0)
  | [], [], _ => rfl
  | x :: xs, z :: zs, h => by
    simp only [vqs, Bool.and_eq_true] at h
    rw [List.map_cons, List.map_cons, vq_ok h.1, vqs_ok h.2]
  | [], _ :: _, h => by cases h
  | _ :: _, [], h => by cases h
theorem lqs_ok {A : En} {O : Nat → Addr} {n0 : Nat} {σ : List Term} : ∀ {xs zs : List SL}, lqs σ xs zs = true → zs.map (sl1 A O n0) = xs.map (sl1 (env' A σ) O n0)
  | [], [], _ => rfl
  | x :: xs, z :: zs, h => by
    simp only [lqs, Bool.and_eq_true] at h
    rw [List.map_cons, List.map_cons, lqs_ok h.2]
    congr 1
    have h1 := h.1
    match x, z, h1 with
    | none, none, _ => rfl
    | some none, some none, _ => rfl
    | some (some a), some (some b), h1 => exact congrArg Slot.val (vq_ok h1)
  | [], _ :: _, h => by cases h
  | _ :: _, [], h => by cases h
theorem oqs_ok {σ : List Term} : ∀ {xs zs : List Ob}, oqs σ xs zs = true → zs.length = xs.length ∧ ∀ (k : Nat) (o : Ob), xs[k]? = some o → o.1 ≠ 99 ∧ ∃ ys, zs[k]? = some (o.1, ys) ∧ vqs σ o.2 ys = true
  | [], [], _ => ⟨rfl, fun k o h => by simp at h⟩
  | x :: xs, z :: zs, h => by
    simp only [oqs, Bool.and_eq_true] at h
    obtain ⟨i1, i2⟩ := oqs_ok h.2
    refine ⟨by simp [i1], fun k o hk => ?_⟩
    cases k with
    | zero =>
      simp only [List.getElem?_cons_zero, Option.some.injEq] at hk ⊢
      subst hk
      refine ⟨fun e => ?_, z.2, by rw [Nat.eq_of_beq_eq_true h.1.1.2], h.1.2⟩
      have := h.1.1.1
      rw [e] at this; cases this
    | succ k => simpa using i2 k o (by simpa using hk)
  | [], _ :: _, h => by cases h
  | _ :: _, [], h => by cases h
theorem ObAt.sub {Z : State} {hz : Heap} {sh : List Sh} {A : En} {O : Nat → Addr} {σ : List Term} {h : Heap} {a : Addr} {n : Nat} {xs ys : List SV} (hn : n ≠ 99) (q : vqs σ xs ys = true) (X : ObAt Z hz sh A O h a (n, ys)) : ObAt Z hz sh (env' A σ) O h a (n, xs) := by
  have e := vqs_ok (A := A) (O := O) (n0 := hz.size) q
  have el : ys.length = xs.length := by simpa using congrArg List.length e
  unfold ObAt at X ⊢
  split
  · rename_i q2; rw [q2] at X; obtain ⟨cl, h1, h2, h3, h4⟩ := X; exact ⟨cl, h1, by rw [h2]; simp only; rw [e], by simp only; rw [← el]; exact h3, h4⟩
  · rename_i q2; rw [q2] at X
    obtain ⟨x1, x2, x3⟩ := X
    refine ⟨x1, el.symm.trans x2, fun i f x hf hx => ?_⟩
    simp only at hx x3
    have hi : i < ys.length := by rw [el]; exact (List.getElem?_eq_some_iff.mp hx).1
    have := x3 i f ys[i] hf (List.getElem?_eq_getElem hi)
    have e2 : vv A O hz.size ys[i] = vv (env' A σ) O hz.size x := by
      have := congrArg (fun L => L[i]?) e
      simp only [List.getElem?_map, hx, List.getElem?_eq_getElem hi, Option.map_some] at this
      exact Option.some.inj this
    rw [e2] at this; exact this
  · exact fun e => absurd e hn
theorem HD.sub {Z : State} {hz : Heap} {sh : List Sh} {A : En} {O : Nat → Addr} {σ : List Term} {h : Heap} {D0 D : List Ob} (q : oqs σ D0 D = true) (H : HD Z hz sh A O h D) : HD Z hz sh (env' A σ) O h D0 := by
  obtain ⟨i1, i2⟩ := oqs_ok q
  refine ⟨by rw [H.1, i1], H.2.1, fun k o hk => ?_⟩
  obtain ⟨e0, ys, e1, e2⟩ := i2 k o hk
  exact ObAt.sub e0 e2 (H.2.2 k _ e1)
theorem Top.sub {l : Launch} {Z : State} {hz : Heap} {sh : List Sh} {A : En} {O : Nat → Addr} {y : MethodName} {bytes : ByteArray} {maxL : Nat} {ret : Option FieldType} {σ : List Term} {C N fr lo pc : Nat} {c0 c : Cf} (q : cfq σ c0 c = true) (K : Top l Z hz sh (env' A σ) O y bytes maxL ret C N fr lo pc c0) : Top l Z hz sh A O y bytes maxL ret C N fr lo pc c := by
  simp only [cfq, Bool.and_eq_true] at q
  obtain ⟨q1, q2, q3, q4⟩ := q
  have e4 := Nat.eq_of_beq_eq_true q4
  have e3 := (oqs_ok q3).1
  obtain ⟨k1, k2, k3⟩ := K
  refine ⟨by rw [e3]; exact k1, by rw [← e4]; exact k2, ?_⟩
  intro p e R s m args below meth cc T locs hh hA X H N' hc hl hf hlo
  have ef : frm hz A O m pc c = frm hz (env' A σ) O m pc c0 := by unfold frm; rw [lqs_ok q1, vqs_ok q2]
  rw [ef]
  exact k3 p e R s m args below meth cc T locs hh hA (by rw [← e3, e4]; exact X) (HD.sub q3 H) N' hc hl hf hlo
/-- the terms that stand in some locals -/
def pick (L : List SL) : List Nat → List Term
  | [] => []
  | k :: ks => (match L[k]? with
    | some (some (some x)) => x.2
    | _ => .null) :: pick L ks
def allDec (F : List Cond) (σ : List Term) : List Cond → Bool
  | [] => true
  | c :: cs => (match c with
    | .eq a b => (match dec F (.eq (sub σ a) (sub σ b)) with
      | some true => true
      | _ => false)
    | .lt a b => (match dec F (.lt (sub σ a) (sub σ b)) with
      | some true => true
      | _ => false)
    | .not (.eq a b) => (match dec F (.eq (sub σ a) (sub σ b)) with
      | some false => true
      | _ => false)
    | .not (.lt a b) => (match dec F (.lt (sub σ a) (sub σ b)) with
      | some false => true
      | _ => false)
    | _ => false) && allDec F σ cs
theorem allDec_ok {A : En} {F : List Cond} {σ : List Term} (hF : holds A F) : ∀ {cs : List Cond}, allDec F σ cs = true → holds (env' A σ) cs
  | [], _ => fun _ h => nomatch h
  | c :: cs, h => by
    simp only [allDec, Bool.and_eq_true] at h
    refine holds_cons ?_ (allDec_ok hF h.2)
    have h1 := h.1
    split at h1
    · rename_i a b
      split at h1
      · rename_i q; have := (dec_ok hF q).mpr rfl; simpa only [hold, te_sub] using this
      · cases h1
    · rename_i a b
      split at h1
      · rename_i q; have := (dec_ok hF q).mpr rfl; simpa only [hold, te_sub] using this
      · cases h1
    · rename_i a b
      split at h1
      · rename_i q; have this : ¬ _ := fun x => nomatch (dec_ok hF q).mp x; simpa only [hold, te_sub] using this
      · cases h1
    · rename_i a b
      split at h1
      · rename_i q; have this : ¬ _ := fun x => nomatch (dec_ok hF q).mp x; simpa only [hold, te_sub] using this
      · cases h1
    · cases h1
/-- a cut: least room, the state there over new unknowns, the locals that name them, the facts asked of them -/
abbrev Ct := Nat × Nat × Cf × List Nat × List Cond
def atCut (k : Ct) (fr lo : Nat) (F : List Cond) (cf : Cf) : Bool := Nat.ble k.1 fr && (Nat.ble k.2.1 lo && (cfq (pick cf.1 k.2.2.2.1) k.2.2.1 cf && allDec F (pick cf.1 k.2.2.2.1) k.2.2.2.2))
abbrev Rt := List SV → Option (Option SV)
abbrev Tst := Nat → Nat → List Cond → Cf → Bool
abbrev Ki := Stp ⊕ (Kl ⊕ (Rt ⊕ (Stq ⊕ Tst)))
abbrev El := Nat × Ki
abbrev Mt := Nat × List El
abbrev Fm := Nat × List El × List SL × List SV × Nat × Nat
abbrev Pd := List Cond × Option SV
abbrev St := Nat × List El × Cf × List Cond × Nat × Nat × List Fm
def kS (f : Stp) : Ki := .inl f
def kC (cj na nx : Nat) (ck : List SV → List Ob → Bool) : Ki := .inr (.inl (cj, na, nx, ck))
def kR (g : Rt) : Ki := .inr (.inr (.inl g))
def kN (f : Stq) : Ki := .inr (.inr (.inr (.inl f)))
def kX (k : Tst) : Ki := .inr (.inr (.inr (.inr k)))
def seekF : List El → Nat → List El
  | [], _ => []
  | el :: r, pc => bif Nat.beq el.1 pc then el :: r else seekF r pc
def seek (M : List Mt) (j : Nat) (tl : List El) (pc : Nat) : List El := match tl with
  | [] => (match M[j]? with
    | some m => seekF m.2 pc
    | none => [])
  | el :: r => bif Nat.beq el.1 pc then el :: r else (match M[j]? with
    | some m => seekF m.2 pc
    | none => [])
def coll (g : Nx → Option (List Pd)) : List Nx → Option (List Pd)
  | [] => some []
  | [n] => g n
  | n :: ns => match g n with
    | none => none
    | some a => match coll g ns with
      | none => none
      | some b => some (a ++ b)
def isOne : Option SV → Bool
  | some (0, .int x) => x == 1
  | _ => false
def leaf (C N : Nat) (F : List Cond) (v : Option SV) (r : List Ob × Nat) : Option (List Pd) :=
  bif Nat.ble r.1.length C && Nat.ble r.2 N then (bif isOne v then some [] else some [(F, v)]) else none
def body (M : List Mt) (C N : Nat) (ih : St → Option (List Pd)) (st : St) : Option (List Pd) := match st with
  | (j, rem, cf, F, fr, lo, stk) => match rem with
    | [] => none
    | el :: tl => match el.2 with
      | .inl f => (match f F cf with
        | none => some [(F, none)]
        | some ns => coll (fun n => ih (j, seek M j tl n.2.1, n.2.2, n.1, fr, lo, stk)) ns)
      | .inr (.inl k) => (match M[k.1]? with
        | none => none
        | some m => (match M[j]? with
          | none => none
          | some mj => bif Nat.ble k.2.1 cf.2.1.length && (Nat.beq cf.1.length mj.1 && (k.2.2.2 (cf.2.1.take k.2.1) cf.2.2.1 && (Nat.ble 1 fr && Nat.ble (wt (cf.2.1.drop k.2.1) + (m.1 + 11)) lo))) then
              ih (k.1, m.2, (entL (cf.2.1.take k.2.1).reverse m.1, [], cf.2.2), F, fr - 1, lo - (wt (cf.2.1.drop k.2.1) + (m.1 + 11)), (j, seek M j tl k.2.2.1, cf.1, cf.2.1.drop k.2.1, fr, lo) :: stk)
            else some [(F, none)]))
      | .inr (.inr (.inl g)) => (match g cf.2.1 with
        | none => some [(F, none)]
        | some v => (match stk with
          | [] => leaf C N F v cf.2.2
          | fm :: stk' => ih (fm.1, fm.2.1, (fm.2.2.1, v.toList ++ fm.2.2.2.1, cf.2.2), F, fm.2.2.2.2.1, fm.2.2.2.2.2, stk')))
      | .inr (.inr (.inr (.inl f))) => (match f fr lo F cf with
        | none => some [(F, none)]
        | some ns => coll (fun n => ih (j, seek M j tl n.2.1, n.2.2, n.1, fr, lo, stk)) ns)
      | .inr (.inr (.inr (.inr k))) => (match stk with
        | [] => bif k fr lo F cf then some [] else some [(F, none)]
        | _ => some [(F, none)])
def xgo (M : List Mt) (C N : Nat) : Nat → St → Option (List Pd)
  | 0, _ => none
  | n + 1, st => body M C N (xgo M C N n) st
theorem xgo_succ (M : List Mt) (C N n : Nat) (st : St) : xgo M C N (n + 1) st = body M C N (xgo M C N n) st := rfl
def cont (M : List Mt) (C N n : Nat) (stk : List Fm) (F : List Cond) (v : Option SV) (r : List Ob × Nat) : Option (List Pd) := match stk with
  | [] => leaf C N F v r
  | fm :: stk' => xgo M C N n (fm.1, fm.2.1, (fm.2.2.1, v.toList ++ fm.2.2.2.1, r), F, fm.2.2.2.2.1, fm.2.2.2.2.2, stk')
theorem coll_mem {g : Nx → Option (List Pd)} : ∀ {ns : List Nx} {P : List Pd} {n : Nx}, coll g ns = some P → n ∈ ns → ∃ P', g n = some P' ∧ ∀ q ∈ P', q ∈ P
  | [], P, n, _, hn => nomatch hn
  | [m], P, n, h, hn => by
    rcases List.mem_singleton.mp hn with rfl
    exact ⟨P, h, fun _ q => q⟩
  | m :: k :: ns, P, n, h, hn => by
    simp only [coll] at h
    cases hg : g m with
    | none => rw [hg] at h; cases h
    | some a =>
      rw [hg] at h
      simp only at h
      cases hc : coll g (k :: ns) with
      | none => rw [hc] at h; cases h
      | some b =>
        rw [hc] at h; cases h
        rcases List.mem_cons.mp hn with rfl | hn
        · exact ⟨a, hg, fun q hq => List.mem_append_left _ hq⟩
        · obtain ⟨P', h1, h2⟩ := coll_mem hc hn
          exact ⟨P', h1, fun q hq => List.mem_append_right _ (h2 q hq)⟩
theorem seekF_ok {code : List El} {pc : Nat} : (∀ el ∈ seekF code pc, el ∈ code) ∧ ∀ el tl, seekF code pc = el :: tl → el.1 = pc := by
  induction code with
  | nil => exact ⟨fun _ h => h, fun _ _ h => by cases h⟩
  | cons e r ih =>
    unfold seekF
    cases q : Nat.beq e.1 pc
    · exact ⟨fun el h => List.mem_cons_of_mem _ (ih.1 el h), ih.2⟩
    · refine ⟨fun _ h => h, fun el tl h => ?_⟩
      cases h; exact Nat.eq_of_beq_eq_true q
theorem seek_ok {M : List Mt} {j mx pc : Nat} {code tl : List El} (hM : M[j]? = some (mx, code)) (ht : ∀ el ∈ tl, el ∈ code) : (∀ el ∈ seek M j tl pc, el ∈ code) ∧ ∀ el tl', seek M j tl pc = el :: tl' → el.1 = pc := by
  unfold seek
  rw [hM]
  split
  · exact seekF_ok
  · rename_i e r
    cases q : Nat.beq e.1 pc
    · exact seekF_ok
    · refine ⟨ht, fun el tl h => ?_⟩
      cases h; exact Nat.eq_of_beq_eq_true q
section Run
variable {l : Launch} {Z : State} {hz : Heap} {sh : List Sh} {A : En} {O : Nat → Addr}
def ElOk (l : Launch) (Z : State) (hz : Heap) (sh : List Sh) (A : En) (O : Nat → Addr) (C N : Nat) (M : List Mt) (MI : Nat → MethodName × ByteArray × Option FieldType) (j mx : Nat) (el : El) : Prop := match el.2 with
  | .inl f => Good l Z hz sh A O (MI j).1 (MI j).2.1 mx (MI j).2.2 el.1 f
  | .inr (.inl k) => ∀ m, M[k.1]? = some m → CallGood l Z hz sh A O (MI j).1 (MI j).2.1 mx (MI j).2.2 (MI k.1).1 (MI k.1).2.1 m.1 (MI k.1).2.2 el.1 k.2.1 k.2.2.1 k.2.2.2
  | .inr (.inr (.inl g)) => RetGood l Z hz sh A O (MI j).1 (MI j).2.1 mx (MI j).2.2 el.1 g
  | .inr (.inr (.inr (.inl f))) => GoodN l Z hz sh A O (MI j).1 (MI j).2.1 mx (MI j).2.2 el.1 f
  | .inr (.inr (.inr (.inr k))) => ∀ fr lo F cf, k fr lo F cf = true → holds A F → Top l Z hz sh A O (MI j).1 (MI j).2.1 mx (MI j).2.2 C N fr lo el.1 cf
def MtOk (l : Launch) (Z : State) (hz : Heap) (sh : List Sh) (A : En) (O : Nat → Addr) (C N : Nat) (M : List Mt) (MI : Nat → MethodName × ByteArray × Option FieldType) : Prop := ∀ j mx code, M[j]? = some (mx, code) → (∀ el ∈ code, ElOk l Z hz sh A O C N M MI j mx el) ∧ ∀ el tl, code = el :: tl → el.1 = 0
theorem run_ok {M : List Mt} {C N : Nat} {MI : Nat → MethodName × ByteArray × Option FieldType} (hM : MtOk l Z hz sh A O C N M MI) : ∀ (n : Nat) (j : Nat) (rem : List El) (cf : Cf) (F : List Cond) (fr lo : Nat) (stk : List Fm) (P : List Pd) (mx : Nat) (code : List El),
    xgo M C N n (j, rem, cf, F, fr, lo, stk) = some P → holds A F → (∀ q ∈ P, q.2 = none → ¬ holds A q.1) → M[j]? = some (mx, code) → (∀ el ∈ rem, el ∈ code) →
    ∃ el tl, rem = el :: tl ∧ ((∃ k, k < n ∧ ∃ F' v D' sl' P', holds A F' ∧ cont M C N k stk F' v (D', sl') = some P' ∧ (∀ q ∈ P', q ∈ P) ∧ Ret l Z hz sh A O (MI j).1 (MI j).2.1 mx (MI j).2.2 fr lo el.1 cf v D' sl')
      ∨ (stk = [] ∧ Top l Z hz sh A O (MI j).1 (MI j).2.1 mx (MI j).2.2 C N fr lo el.1 cf)) := by
  intro n
  induction n using Nat.strongRecOn with
  | ind n IH =>
    intro j rem cf F fr lo stk P mx code h hF hP hj hr
    cases n with
    | zero => cases h
    | succ n =>
      rw [xgo_succ] at h
      unfold body at h
      cases rem with
      | nil => cases h
      | cons el tl =>
        refine ⟨el, tl, rfl, ?_⟩
        have hel := (hM j mx code hj).1 el (hr el (List.mem_cons_self ..))
        have htl : ∀ e ∈ tl, e ∈ code := fun e he => hr e (List.mem_cons_of_mem _ he)
        have step : ∀ (ns : List Nx) (pc : Nat), coll (fun n' => xgo M C N n (j, seek M j tl n'.2.1, n'.2.2, n'.1, fr, lo, stk)) ns = some P → (∃ nx ∈ ns, holds A nx.1 ∧ Sim l Z hz sh A O (MI j).1 (MI j).2.1 mx (MI j).2.2 fr lo pc cf nx.2.1 nx.2.2) →
            ((∃ k, k < n + 1 ∧ ∃ F' v D' sl' P', holds A F' ∧ cont M C N k stk F' v (D', sl') = some P' ∧ (∀ q ∈ P', q ∈ P) ∧ Ret l Z hz sh A O (MI j).1 (MI j).2.1 mx (MI j).2.2 fr lo pc cf v D' sl')
              ∨ (stk = [] ∧ Top l Z hz sh A O (MI j).1 (MI j).2.1 mx (MI j).2.2 C N fr lo pc cf)) := by
          intro ns pc h ⟨nx, hn, hG, hS⟩
          obtain ⟨P1, g1, g2⟩ := coll_mem h hn
          obtain ⟨k1, k2⟩ := seek_ok (pc := nx.2.1) hj htl
          obtain ⟨el', tl', er, a⟩ := IH n (Nat.lt_succ_self n) j _ nx.2.2 nx.1 fr lo stk P1 mx code g1 hG (fun q hq => hP q (g2 q hq)) hj k1
          rw [k2 el' tl' er] at a
          rcases a with ⟨k, hk, F', v, D', sl', P', a1, a2, a3, a4⟩ | ⟨a1, a2⟩
          · exact Or.inl ⟨k, Nat.lt_succ_of_lt hk, F', v, D', sl', P', a1, a2, fun q hq => g2 q (a3 q hq), hS.thenRet a4⟩
          · exact Or.inr ⟨a1, hS.top a2⟩
        obtain ⟨pc, kind⟩ := el
        simp only at h
        cases kind with
        | inl f =>
          simp only at h
          have hgood : Good l Z hz sh A O (MI j).1 (MI j).2.1 mx (MI j).2.2 pc f := hel
          cases hf : f F cf with
          | none =>
            rw [hf] at h; cases h
            exact absurd hF (hP (F, none) (List.mem_cons_self ..) rfl)
          | some ns =>
            rw [hf] at h
            simp only at h
            obtain ⟨nx, hn, hG, hS⟩ := hgood F cf ns hf hF
            exact step ns pc h ⟨nx, hn, hG, hS.mono (Nat.zero_le _) (Nat.zero_le _)⟩
        | inr kind =>
          cases kind with
          | inl kl =>
            simp only at h
            have hcall : ∀ m, M[kl.1]? = some m → CallGood l Z hz sh A O (MI j).1 (MI j).2.1 mx (MI j).2.2 (MI kl.1).1 (MI kl.1).2.1 m.1 (MI kl.1).2.2 pc kl.2.1 kl.2.2.1 kl.2.2.2 := hel
            obtain ⟨cj, na, nx, ck⟩ := kl
            obtain ⟨L, S, D, sl⟩ := cf
            simp only at h hcall
            cases hm : M[cj]? with
            | none => rw [hm] at h; cases h
            | some m =>
              obtain ⟨mx', code'⟩ := m
              rw [hm, hj] at h
              simp only at h
              cases hc : (Nat.ble na S.length && (Nat.beq L.length mx && (ck (S.take na) D && (Nat.ble 1 fr && Nat.ble (wt (S.drop na) + (mx' + 11)) lo))))
              · rw [hc] at h; cases h
                exact absurd hF (hP (F, none) (List.mem_cons_self ..) rfl)
              · rw [hc] at h
                simp only [Bool.and_eq_true] at hc
                obtain ⟨c1, c2, c3, c4, c5⟩ := hc
                have c1 := Nat.le_of_ble_eq_true c1
                have c2 := Nat.eq_of_beq_eq_true c2
                have c4 := Nat.le_of_ble_eq_true c4
                have c5 := Nat.le_of_ble_eq_true c5
                simp only [cond_true] at h
                obtain ⟨el', tl', er, a⟩ := IH n (Nat.lt_succ_self n) cj code' _ F (fr - 1) _ _ P mx' code' h hF hP hm (fun _ q => q)
                rw [(hM cj mx' code' hm).2 el' tl' er] at a
                rcases a with ⟨k, hk, F', v, D', sl', P', a1, a2, a3, a4⟩ | ⟨a1, -⟩
                · have hS := hcall (mx', code') hm L S D sl fr lo v D' sl' c1 c2 c3 c4 c5 a4
                  have a2' : xgo M C N k (j, seek M j tl nx, (L, v.toList ++ S.drop na, (D', sl')), F', fr, lo, stk) = some P' := a2
                  obtain ⟨k1, k2⟩ := seek_ok (pc := nx) hj htl
                  obtain ⟨el2, tl2, er2, b⟩ := IH k (Nat.lt_succ_of_lt hk) j _ _ F' fr lo stk P' mx code a2' a1 (fun q hq => hP q (a3 q hq)) hj k1
                  rw [k2 el2 tl2 er2] at b
                  rcases b with ⟨k', hk', F2, v2, D2, sl2, P2, b1, b2, b3, b4⟩ | ⟨b1, b2⟩
                  · exact Or.inl ⟨k', by omega, F2, v2, D2, sl2, P2, b1, b2, fun q hq => a3 q (b3 q hq), hS.thenRet b4⟩
                  · exact Or.inr ⟨b1, hS.top b2⟩
                · cases a1
          | inr kind =>
            cases kind with
            | inl g =>
              simp only at h
              have hret : RetGood l Z hz sh A O (MI j).1 (MI j).2.1 mx (MI j).2.2 pc g := hel
              obtain ⟨L, S, D, sl⟩ := cf
              simp only at h
              cases hg : g S with
              | none =>
                rw [hg] at h; cases h
                exact absurd hF (hP (F, none) (List.mem_cons_self ..) rfl)
              | some v =>
                rw [hg] at h
                simp only at h
                refine Or.inl ⟨n, Nat.lt_succ_self n, F, v, D, sl, P, hF, ?_, fun _ q => q, hret L S D sl fr lo v hg⟩
                unfold cont
                cases stk with
                | nil => exact h
                | cons fm stk' => exact h
            | inr kind =>
              cases kind with
              | inl f =>
                simp only at h
                have hgood : GoodN l Z hz sh A O (MI j).1 (MI j).2.1 mx (MI j).2.2 pc f := hel
                cases hf : f fr lo F cf with
                | none =>
                  rw [hf] at h; cases h
                  exact absurd hF (hP (F, none) (List.mem_cons_self ..) rfl)
                | some ns =>
                  rw [hf] at h
                  simp only at h
                  exact step ns pc h (hgood fr lo F cf ns hf hF)
              | inr k =>
                simp only at h
                have hcut : ∀ fr lo F cf, k fr lo F cf = true → holds A F → Top l Z hz sh A O (MI j).1 (MI j).2.1 mx (MI j).2.2 C N fr lo pc cf := hel
                cases stk with
                | nil =>
                  simp only at h
                  cases hc : k fr lo F cf
                  · rw [hc] at h; cases h
                    exact absurd hF (hP (F, none) (List.mem_cons_self ..) rfl)
                  · exact Or.inr ⟨rfl, hcut fr lo F cf hc hF⟩
                | cons fm stk' =>
                  cases h
                  exact absurd hF (hP (F, none) (List.mem_cons_self ..) rfl)
/-- the run from some pc of the law's own body -/
theorem top_ok {M : List Mt} {C N : Nat} {MI : Nat → MethodName × ByteArray × Option FieldType} (hM : MtOk l Z hz sh A O C N M MI) {n mx pc : Nat} {code : List El} {cf : Cf} {F : List Cond} {fr lo : Nat} {P : List Pd}
    (hj : M[0]? = some (mx, code)) (hg : xgo M C N n (0, seekF code pc, cf, F, fr, lo, []) = some P) (hF : holds A F) (hP : ∀ q ∈ P, holds A q.1 → ∃ t, q.2 = some (0, t) ∧ (te A t).1 = 1) :
    Top l Z hz sh A O (MI 0).1 (MI 0).2.1 mx (MI 0).2.2 C N fr lo pc cf := by
  obtain ⟨el, tl, er, a⟩ := run_ok hM n 0 _ cf F fr lo [] P mx code hg hF (fun q hq h0 h1 => by obtain ⟨t, h2, -⟩ := hP q hq h1; rw [h0] at h2; cases h2) hj (seekF_ok).1
  rw [(seekF_ok).2 el tl er] at a
  rcases a with ⟨k, -, F', v, D', sl', P', a1, a2, a3, a4⟩ | ⟨-, a2⟩
  · have a2' : leaf C N F' v (D', sl') = some P' := a2
    unfold leaf at a2'
    cases hq : (Nat.ble (D', sl').1.length C && Nat.ble (D', sl').2 N)
    · rw [hq] at a2'; cases a2'
    · rw [hq] at a2'
      simp only [Bool.and_eq_true] at hq
      have q1 := Nat.le_of_ble_eq_true hq.1
      have q2 := Nat.le_of_ble_eq_true hq.2
      have q1 : D'.length ≤ C := q1
      have q2 : sl' ≤ N := q2
      have hv : v.map (vv A O hz.size) = some (.int 1) := by
        cases h1 : isOne v
        · rw [h1] at a2'; cases a2'
          obtain ⟨t, h2, h3⟩ := hP (F', v) (a3 _ (List.mem_cons_self ..)) a1
          simp only at h2
          rw [h2]
          show some (Value.int (te A t).1) = _
          rw [h3]
        · unfold isOne at h1
          split at h1
          · rename_i x
            obtain rfl := beq_iff_eq.mp h1; rfl
          · cases h1
      exact a4.top hv q1 q2
  · exact a2
/-- the same tables with a cut laid into the law's own body -/
def xcut (code : List El) (pc : Nat) (k : Tst) : List El := code.map fun el => bif Nat.beq el.1 pc then (el.1, kX k) else el
theorem cutC_ok {C N pc mx : Nat} {y : MethodName} {bytes : ByteArray} {ret : Option FieldType} {k : Ct} (hK : ∀ A' : En, holds A' k.2.2.2.2 → Top l Z hz sh A' O y bytes mx ret C N k.1 k.2.1 pc k.2.2.1) : ∀ fr lo F cf, atCut k fr lo F cf = true → holds A F → Top l Z hz sh A O y bytes mx ret C N fr lo pc cf := by
  intro fr lo F cf hc hF
  simp only [atCut, Bool.and_eq_true] at hc
  obtain ⟨c1, c2, c3, c4⟩ := hc
  exact Top.sub c3 ((hK _ (allDec_ok hF c4)).mono (Nat.le_of_ble_eq_true c1) (Nat.le_of_ble_eq_true c2))
theorem mt_cut {C N : Nat} {MI : Nat → MethodName × ByteArray × Option FieldType} {mx pc : Nat} {code : List El} {Ms : List Mt} {k : Tst} (hM : MtOk l Z hz sh A O C N ((mx, code) :: Ms) MI)
    (hK : ∀ fr lo F cf, k fr lo F cf = true → holds A F → Top l Z hz sh A O (MI 0).1 (MI 0).2.1 mx (MI 0).2.2 C N fr lo pc cf) : MtOk l Z hz sh A O C N ((mx, xcut code pc k) :: Ms) MI := by
  have key : ∀ (j mxj : Nat) (el : El), ElOk l Z hz sh A O C N ((mx, code) :: Ms) MI j mxj el → ElOk l Z hz sh A O C N ((mx, xcut code pc k) :: Ms) MI j mxj el := by
    intro j mxj el h
    obtain ⟨p, kind⟩ := el
    rcases kind with f | kl | g | f | q
    · exact h
    · intro m hm
      have h' : ∀ m, ((mx, code) :: Ms)[kl.1]? = some m → CallGood l Z hz sh A O (MI j).1 (MI j).2.1 mxj (MI j).2.2 (MI kl.1).1 (MI kl.1).2.1 m.1 (MI kl.1).2.2 p kl.2.1 kl.2.2.1 kl.2.2.2 := h
      cases hq : kl.1 with
      | zero =>
        rw [hq] at hm
        have e : m = (mx, xcut code pc k) := by simpa using hm.symm
        subst e
        have := h' (mx, code) (by rw [hq]; rfl)
        simpa [hq] using this
      | succ n =>
        rw [hq] at hm
        have := h' m (by rw [hq]; simpa using hm)
        simpa [hq] using this
    · exact h
    · exact h
    · exact h
  intro j mxj code' hj
  cases j with
  | zero =>
    have e : (mx, xcut code pc k) = (mxj, code') := by simpa using hj
    cases e
    obtain ⟨h1, h2⟩ := hM 0 mx code rfl
    refine ⟨fun el hel => ?_, fun el tl q => ?_⟩
    · obtain ⟨el0, h3, h4⟩ := List.mem_map.mp hel
      cases hb : Nat.beq el0.1 pc
      · rw [hb] at h4; cases h4; exact key 0 mx el0 (h1 el0 h3)
      · rw [hb] at h4; cases h4
        have e2 := Nat.eq_of_beq_eq_true hb
        intro fr lo F cf hk hF
        rw [e2]; exact hK fr lo F cf hk hF
    · unfold xcut at q
      cases code with
      | nil => cases q
      | cons el0 tl0 =>
        rw [List.map_cons] at q
        have := h2 el0 tl0 rfl
        injection q with q1 q2
        rw [← q1]
        cases hb : Nat.beq el0.1 pc
        · exact this
        · exact this
  | succ n =>
    have e : ((mx, code) :: Ms)[n + 1]? = some (mxj, code') := by simpa using hj
    obtain ⟨h1, h2⟩ := hM (n + 1) mxj code' e
    exact ⟨fun el hel => key (n + 1) mxj el (h1 el hel), h2⟩
/-- from the run to the law's contract -/
theorem law_ok {y : MethodName} {bytes : ByteArray} {mx : Nat} {ret : Option FieldType} {C N fr lo : Nat} {xs : List SV} (K : Top l Z hz sh A O y bytes mx ret C N fr lo 0 (entL xs mx, [], [], 0)) (hpl : plainFor y = true) (ws : List Cond) (R : Room) (hR : R = { frames := fr, cells := C, slots := N, locals := lo }) :
    MetFree l y (head1 (Cond.code y bytes mx ret :: ws) R) (fun a U => a = (xs.map (vv A O hz.size)).toArray ∧ (Z.Warmed39 U.vm ∧ Z.Warmed39 U.vm) ∧ U.heap = hz) (fun _ _ _ _ _ => True)
      (fun _ U o U' => ∃ v L, o = .returned v ∧ (v = some (.int 1) ∧ Fr hz.size L) ∧ ReturnedEndW U o U' L C N) := by
  obtain ⟨-, -, k3⟩ := K
  have H0 : HD Z hz sh A O hz [] := ⟨rfl, fun _ _ => rfl, fun k o h => by simp at h⟩
  refine MetFree.of_bodySF hpl hisR ?_
  intro p e s m args below meth c s₁ Bd hml hPp hK
  obtain ⟨rfl, hZ, hh⟩ := hPp
  have X0 : Stand p l e R s m _ below meth c s₁ [] 0 0 := Stand.of_body Bd
  have e0 : s₁.heap = hz := by rw [← hh, Bd.state]; rfl
  subst hR
  obtain ⟨s₂, L2, k1, k2, k3, k5, k6, k7⟩ := k3 p e _ s m _ below meth c s₁ [] (by rw [hh])
    ⟨Bd.exec, hZ.1, Bd.bytes, hml, findClass_of_methodNamed Bd.named, (name_of_methodNamed Bd.named Bd.method).1, Bd.returns, Bd.notSynchronized, hZ.2, Bd.named⟩
    X0 (by rw [e0]; exact H0) (Fr.nil _) (Nat.le_refl _) (Nat.le_refl _) (Nat.le_refl _) (Nat.le_refl _)
  refine ⟨s₂, .returned (some (.int 1)), ?_, k2, k3, _, L2, rfl, ⟨rfl, k5⟩, ⟨_, rfl⟩, k6.1, k6.2, k7⟩
  rw [ent_ok m xs mx ([], 0)]; exact k1
end Run
end Jvm.OwnX



namespace Jvm.OwnX
open Sem ClassFile Op Lib Jvm.Stand Jvm.Free Jvm.LawKit Jvm.RoadKit
section Rebase
variable {p : Program} {l : Launch} {e : Env} {R : Room} {s : State} {m : MethodId} {args : Array Value} {below : List Frame} {meth : Method} {c : Code} {T : State} {locs : List Loc} {cells slots : Nat}
/-- the walk's point as a new start: the same frame, T's heap and tables -/
def base2 (s T : State) : State := { (s.setVm T.vm) with heap := T.heap, slotsUsed := T.slotsUsed }
theorem rebase (X : Stand p l e R (s.setVm T.vm) m args below meth c T locs cells slots) {R2 : Room} (hf : R2.frames = R.frames) (hl : R2.locals = R.locals) (hc : cells + R2.cells ≤ R.cells) (hs : slots + R2.slots ≤ R.slots) :
    Stand p l e R2 (base2 s T) m args below meth c T [] 0 0 := by
  have hsame := X.same
  have hbook := X.book
  have h1 := X.heapSize
  have h2 := X.used
  refine ⟨X.admits, X.cas, X.clock, X.frames, ?_, X.hears, X.method, X.code, X.here, X.tail, State.WarmedH.refl _, X.limits, X.bytes, ?_⟩
  · have r := X.room
    simp only [State.hasRoom, Bool.and_eq_true, decide_eq_true_eq] at r ⊢
    obtain ⟨⟨⟨⟨r1, r2⟩, r3⟩, r4⟩, r5⟩ := r
    refine ⟨⟨⟨⟨?_, ?_⟩, ?_⟩, ?_⟩, hbook⟩
    · rw [hl]; exact r1
    · rw [hl, hf]; exact r2
    · show T.heap.size + R2.cells ≤ _
      have h1' : T.heap.size ≤ s.heap.size + cells := h1
      have r3' : s.heap.size + R.cells ≤ _ := r3
      omega
    · show T.slotsUsed + R2.slots ≤ _
      have h2' : T.slotsUsed ≤ s.slotsUsed + slots := h2
      have r4' : s.slotsUsed + R.slots ≤ _ := r4
      omega
  · refine ⟨?_, Nat.le_refl _, Nat.le_refl _, ?_, ?_, fun a cl h => ⟨cl, h, rfl, rfl, fun _ _ => rfl⟩⟩
    · exact hsame.1
    · show T.slotsUsed = T.slotsUsed + ((T.heap.toList.drop T.heap.size).map (·.slots.size)).sum
      rw [List.drop_eq_nil_of_le (by simp)]; rfl
    · show ((T.heap.toList.drop T.heap.size).map (·.slots.size)).sum ≤ 0
      rw [List.drop_eq_nil_of_le (by simp)]; exact Nat.le_refl _
/-- .. and what holds from the new start on, said of the old one -/
theorem rebased (X : Stand p l e R (s.setVm T.vm) m args below meth c T locs cells slots) {U : State} {L : List Loc} {C N : Nat} (h : (base2 s T).sameButNew ({ U with vm := T.vm } : State) L C N) : s.sameButNew ({ U with vm := s.vm } : State) (locs ++ L) (cells + C) (slots + N) := by
  have h1 := X.same.setVm s.vm
  have h2 := h.setVm s.vm
  have h3 : (T.setVm s.vm).sameButNew ({ U with vm := s.vm } : State) L C N := by
    obtain ⟨e1, e2, e3, e4, e5, e6⟩ := h2
    refine ⟨?_, e2, e3, e4, e5, e6⟩
    have q : T.setVm s.vm = { s.setFrames T.frames with heap := T.heap, slotsUsed := T.slotsUsed } := h1.1
    have key : ∀ fs, ({ (T.setVm s.vm).setFrames fs with heap := U.heap, slotsUsed := U.slotsUsed } : State) = { ((base2 s T).setVm s.vm).setFrames fs with heap := U.heap, slotsUsed := U.slotsUsed } := by
      intro fs
      rw [q]
      show ({ (s.setFrames T.frames).setFrames fs with heap := U.heap, slotsUsed := U.slotsUsed } : State) = { s.setFrames fs with heap := U.heap, slotsUsed := U.slotsUsed }
      rw [State.setFrames_setFrames]
    exact e1.trans (key _).symm
  exact State.sameButNew.trans h1 h3
end Rebase
end Jvm.OwnX

/-! ### 8. More steps -/
namespace Jvm.OwnX
open Sem ClassFile Op Lib Jvm.Stand Jvm.Free Jvm.LawKit Jvm.RoadKit
section More
variable {l : Launch} {Z : State} {hz : Heap} {sh : List Sh} {A : En} {O : Nat → Addr} {y : MethodName} {bytes : ByteArray} {maxL : Nat} {ret : Option FieldType} {a0 : Array Value}
def sDupX2 (nx : Nat) : Stp := fun F cf => match cf.2.1 with
  | x :: z :: w :: S => bif (cat x == 1) && ((cat z == 1) && (cat w == 1)) then some [(F, nx, (cf.1, x :: z :: w :: x :: S, cf.2.2))] else none
  | _ => none
theorem g_dupX2 {pc : Nat} (hd : decode bytes pc = .ok (.dup_x2, 1)) : Good l Z hz sh A O y bytes maxL ret pc (sDupX2 (pc + 1)) :=
  good_one fun F L S D sl ns h => by
    simp only [sDupX2] at h
    split at h
    · rename_i x z w S'
      cases hk : ((cat x == 1) && ((cat z == 1) && (cat w == 1)))
      · rw [hk] at h; cases h
      · rw [hk] at h; cases h
        simp only [Bool.and_eq_true, beq_iff_eq] at hk
        refine ⟨_, _, rfl, fun hF p e R s m args below meth c T locs cells slots hA X H target st => ?_⟩
        have c1 : (vv A O hz.size x).category = 1 := by rw [vv_cat]; exact hk.1
        have c2 : (vv A O hz.size z).category = 1 := by rw [vv_cat]; exact hk.2.1
        have c3 : (vv A O hz.size w).category = 1 := by rw [vv_cat]; exact hk.2.2
        have hdd := hb hA.2.2.1 hd
        show Steps p.tables e below (T.setTop (mkF m pc (L.map (sl1 A O hz.size)).toArray (vv A O hz.size x :: vv A O hz.size z :: vv A O hz.size w :: S'.map (vv A O hz.size)))) target
        have st' : Steps p.tables e below (T.setTop (mkF m (pc + 1) (L.map (sl1 A O hz.size)).toArray (vv A O hz.size x :: vv A O hz.size z :: vv A O hz.size w :: vv A O hz.size x :: S'.map (vv A O hz.size)))) target := st
        revert st'
        generalize vv A O hz.size x = vx at *
        generalize vv A O hz.size z = vz at *
        generalize vv A O hz.size w = vw at *
        intro st'
        jvm_step X.here [X.here.top, hA.1, hdd, c1, c2, c3]
        exact st'
    · cases h
/-- a static field whose value is known -/
theorem g_getstatic {pc idx : Nat} {K n d : String} {x : SV} (hd : decode bytes pc = .ok (.getstatic idx, 3)) (w : (Cond.fieldLink y.cls idx K n d).before a0 Z = true) (hS : Sta Z hz K n d (vv A O hz.size x)) : Good l Z hz sh A O y bytes maxL ret pc (sPush x (pc + 3)) := by
  intro F cf ns h hF
  obtain ⟨L, S, D, sl⟩ := cf
  cases h
  refine ⟨_, List.mem_cons_self .., hF, Nat.le_refl _, Nat.le_refl _, ?_⟩
  intro d0 s0 p e R s m args below meth c T locs hd0 hs0 hh hA X H N hc hl hfr hlo
  obtain ⟨T', X', e1, st⟩ := getS X hA.1 hA.2.1 hA.2.2.2.2.1 w Via.refl (host := "") rfl (hS.ext H.ext) (g := frm hz A O m pc (L, S, D, sl)) rfl (hb hA.2.2.1 hd)
  exact ⟨T', locs, X', by rw [e1]; exact H, N, st⟩
/-! arrays of references -/
def sNewR (sid : Nat) (nx : Nat) : Stp := fun F cf => match cf.2.1 with
  | (0, t) :: S => (match cv F t with
    | some v => bif decide (0 ≤ v) && Nat.ble v.toNatClampNeg 67108864 then some [(F, nx, (cf.1, (2, .index cf.2.2.1.length) :: S, cf.2.2.1 ++ [(sid, List.replicate v.toNatClampNeg (2, .null))], cf.2.2.2 + v.toNatClampNeg))] else none
    | none => none)
  | _ => none
theorem g_anewarray {pc sid idx : Nat} {C : String} {r : String × Nat × List Fi} (hd : decode bytes pc = .ok (.anewarray idx, 3)) (hs : sh[sid]? = some (some (.object C), r)) (w1 : (Cond.classLink y.cls idx C).before a0 Z = true) (w2 : (Cond.arrayOver (.object C)).before a0 Z = true) :
    Good l Z hz sh A O y bytes maxL ret pc (sNewR sid (pc + 3)) := by
  intro F cf ns h hF
  obtain ⟨L, S, D, sl⟩ := cf
  simp only [sNewR] at h
  split at h
  · rename_i t S'
    split at h
    · rename_i v q
      cases hv : (decide (0 ≤ v) && Nat.ble v.toNatClampNeg 67108864)
      · rw [hv] at h; cases h
      · rw [hv] at h; cases h
        simp only [Bool.and_eq_true, decide_eq_true_eq] at hv
        obtain ⟨v1, v2⟩ := hv
        have v2 := Nat.le_of_ble_eq_true v2
        have hv0 : ¬ v < 0 := Int32.not_lt.mpr v1
        have ev := cv_ok hF q
        refine ⟨_, List.mem_cons_self .., hF, by simp, by simp, ?_⟩
        intro d0 s0 p e R s m args below meth c T locs hd0 hs0 hh hA X H N hc hl hfr hlo
        simp only [List.length_append, List.length_cons, List.length_nil] at hc hl hd0 hs0 X H ⊢
        have hgs : (frm hz A O m pc (L, (0, t) :: S', D, sl)).stack = .int v :: S'.map (vv A O hz.size) := by show Value.int (te A t).1 :: _ = _; rw [ev]
        obtain ⟨T', h', cA, X', e1, E, Ar, Ov, st⟩ := newR X hA.1 hA.2.1 hA.2.2.2.2.1 w1 w2 rfl (g := frm hz A O m pc (L, (0, t) :: S', D, sl)) rfl (hb hA.2.2.1 hd) hgs hv0 (cap := v.toNatClampNeg) (Nat.le_refl _) (by omega) (by omega) (by omega)
        have hsz : T'.heap.size = T.heap.size + 1 := grown X' hd0 hh H (by rw [e1]; exact Ar.lt)
        have c1 : D.length + (0 + 1) - d0 = D.length - d0 + 1 := by omega
        have c2 : sl + v.toNatClampNeg - s0 = sl - s0 + v.toNatClampNeg := by omega
        refine ⟨T', locs, by rw [c1, c2]; exact X', ?_, N, ?_⟩
        · subst e1
          refine H.push E hsz ?_
          rw [ObAt.arr (o := (sid, _)) hs]
          refine ⟨_, Ar, ?_, ?_, fun C' q => ?_⟩
          · show Array.replicate _ _ = _
            rw [list_rep]; rfl
          · rw [List.length_replicate]; omega
          · cases q; exact Ov
        · intro target k
          refine st target ?_
          have hi : vv A O hz.size (2, .index D.length) = .ref T.heap.size := by show Value.ref (hz.size + D.length) = _; rw [H.1]
          have k' : Steps p.tables e below (T'.setTop (mkF m (pc + 3) (L.map (sl1 A O hz.size)).toArray (vv A O hz.size (2, .index D.length) :: S'.map (vv A O hz.size)))) target := k
          rw [hi] at k'; exact k'
    · cases h
  · cases h
/-- an old object of a known class goes into an array over that class -/
def sAstOld (sid n nx : Nat) : Stp := fun F cf => match cf.2.1 with
  | (2, .arg i) :: (0, j) :: (2, .index k) :: S => (match cv F j with
    | some v => (match cf.2.2.1[k]? with
      | some o => bif Nat.blt i n && ((o.1 == sid) && (decide (0 ≤ v) && Nat.blt v.toNatClampNeg o.2.length)) then
          some [(F, nx, (cf.1, S, cf.2.2.1.set k (sid, o.2.set v.toNatClampNeg (2, .arg i)), cf.2.2.2))] else none
      | none => none)
    | none => none)
  | _ => none
theorem g_aastoreOld {pc sid n : Nat} {C : String} {r : String × Nat × List Fi} (hd : decode bytes pc = .ok (.aastore, 1)) (hs : sh[sid]? = some (some (.object C), r)) (hE : ∀ i, i < n → Exa Z hz (O i) C) : Good l Z hz sh A O y bytes maxL ret pc (sAstOld sid n (pc + 1)) := by
  intro F cf ns h hF
  obtain ⟨L, S, D, sl⟩ := cf
  simp only [sAstOld] at h
  split at h
  · rename_i i j k S'
    split at h
    · rename_i v q1
      split at h
      · rename_i o q2
        obtain ⟨o1, xs⟩ := o
        cases hk : (Nat.blt i n && ((o1 == sid) && (decide (0 ≤ v) && Nat.blt v.toNatClampNeg xs.length)))
        · rw [hk] at h; cases h
        · rw [hk] at h
          simp only [Bool.and_eq_true, decide_eq_true_eq, beq_iff_eq, Nat.blt_eq] at hk
          obtain ⟨hi, rfl, v1, v2⟩ := hk
          have q3 : ¬ v < 0 := Int32.not_lt.mpr v1
          cases h
          refine ⟨_, List.mem_cons_self .., hF, by simp, by simp, ?_⟩
          intro d0 s0 p e R s m args below meth c T locs hd0 hs0 hh hA X H N hc hl hfr hlo
          simp only [List.length_set] at hc hl hd0 hs0 X H ⊢
          have ho := H.2.2 k _ q2
          rw [ObAt.arr (o := (o1, xs)) hs] at ho
          have ho' := ho
          obtain ⟨cl, Ar, a1, a2, a3⟩ := ho
          have hsz : cl.slots.size = xs.length := by rw [a1]; simp
          have hgs : (frm hz A O m pc (L, (2, .arg i) :: (0, j) :: (2, .index k) :: S', D, sl)).stack = .ref (O i) :: .int v :: .ref (hz.size + k) :: S'.map (vv A O hz.size) := by show _ :: Value.int (te A j).1 :: _ = _; rw [cv_ok hF q1]; rfl
          have hsto : Sto Z T.heap (hz.size + k) (.ref (O i)) := Sto.of Ar (a3 C rfl) (Ins.self ((hE i hi).ext H.ext))
          obtain ⟨T', h', X', e1, W, st⟩ := stR X hA.1 hA.2.1 rfl Ar (j := v) (fun q => q.elim q3 (fun q => by omega)) rfl hsto (g := frm hz A O m pc (L, (2, .arg i) :: (0, j) :: (2, .index k) :: S', D, sl)) rfl hgs (hb hA.2.2.1 hd)
          subst e1
          have W' : Wr T.heap T'.heap (hz.size + k) v.toNatClampNeg (vv A O hz.size (2, .arg i)) := W
          refine ⟨T', _, X', ?_, Fr.snoc X' N (Nat.le_add_right _ _), st⟩
          refine H.set q2 W' ?_
          rw [ObAt.arr (o := (o1, _)) hs]
          exact ho'.set W'
      · cases h
    · cases h
  · cases h
theorem g_aaload {pc sid : Nat} {C : String} {r : String × Nat × List Fi} (hd : decode bytes pc = .ok (.aaload, 1)) (hs : sh[sid]? = some (some (.object C), r)) : Good l Z hz sh A O y bytes maxL ret pc (sAld sid (pc + 1)) :=
  good_one fun F L S D sl ns h => by
    obtain ⟨j, k, S', v, xs, x, rfl, q1, q2, q3, q4, rfl⟩ := sAld_inv h
    refine ⟨_, _, rfl, fun hF p e R s m args below meth c T locs cells slots hA X H target st => ?_⟩
    have ho := H.2.2 k _ q2
    rw [ObAt.arr (o := (sid, xs)) hs] at ho
    obtain ⟨cl, Ar, a1, a2, a3⟩ := ho
    have hlt := (List.getElem?_eq_some_iff.mp q4).1
    have hsz : cl.slots.size = xs.length := by rw [a1]; simp
    have hgs : (frm hz A O m pc (L, (0, j) :: (2, .index k) :: S', D, sl)).stack = .int v :: .ref (hz.size + k) :: S'.map (vv A O hz.size) := by show Value.int (te A j).1 :: _ = _; rw [cv_ok hF q1]; rfl
    exact X.aaload hA.1 Ar.1 (State.isArrayOf_alike hA.2.1.alike Ar.2.1) rfl Ar.2.2 (j := v) (v := vv A O hz.size x) (fun q => q.elim q3 (fun q => by omega)) (by rw [a1]; simp [q4]) (g := frm hz A O m pc (L, (0, j) :: (2, .index k) :: S', D, sl)) rfl hgs (hb hA.2.2.1 hd) _ st
/-- two old objects, by their numbers -/
def sAcmpOld (cd : ClassFile.ACond) (n tg nx : Nat) : Stp := fun F cf => match cf.2.1 with
  | (2, .arg i) :: (2, .arg j) :: S => bif Nat.blt i n && Nat.blt j n then some [(F, bif acV cd (Nat.beq j i) then tg else nx, (cf.1, S, cf.2.2))] else none
  | _ => none
theorem g_acmpOld {pc tg n : Nat} {cd : ClassFile.ACond} {o : Int} (hd : decode bytes pc = .ok (.if_acmp cd o, 3)) (h1 : 0 ≤ (pc : Int) + o) (h2 : ((pc : Int) + o).toNat = tg) (hO : ∀ i j, i < n → j < n → O i = O j → i = j) : Good l Z hz sh A O y bytes maxL ret pc (sAcmpOld cd n tg (pc + 3)) := by
  intro F cf ns h hF
  obtain ⟨L, S, D, sl⟩ := cf
  simp only [sAcmpOld] at h
  split at h
  · rename_i i j S'
    cases hk : (Nat.blt i n && Nat.blt j n)
    · rw [hk] at h; cases h
    · rw [hk] at h; cases h
      simp only [Bool.and_eq_true, Nat.blt_eq] at hk
      refine ⟨_, List.mem_cons_self .., hF, ?_⟩
      refine sim_pure fun p e R s m args below meth c T locs cells slots hA X H target st => ?_
      have hq : decide (Value.ref (O j) = Value.ref (O i)) = Nat.beq j i := by
        cases hb : Nat.beq j i
        · refine decide_eq_false fun q => ?_
          have := hO j i hk.2 hk.1 (Value.ref.inj q)
          subst this
          rw [Nat.beq_refl] at hb; cases hb
        · obtain rfl := Nat.eq_of_beq_eq_true hb; simp
      refine Jvm.RoadKit.acmp (g := frm hz A O m pc (L, (2, .arg i) :: (2, .arg j) :: S', D, sl)) X hA.1 rfl (x := .ref (O j)) (y := .ref (O i)) rfl rfl (pc0 := pc) (pc' := bif acV cd (Nat.beq j i) then tg else pc + 3) rfl (hb hA.2.2.1 hd) rfl hq h1 ?_ st
      rw [h2]
      cases acV cd (Nat.beq j i) <;> rfl
  · cases h
/-- the receiver is an old object -/
def ckOld (n : Nat) : List SV → List Ob → Bool := fun a _ => match a.getLast? with
  | some (2, .arg i) => Nat.blt i n
  | _ => false
theorem ckOld_inv {n : Nat} {a : List SV} {D : List Ob} (h : ckOld n a D = true) : ∃ a' i, a = a' ++ [(2, .arg i)] ∧ i < n := by
  unfold ckOld at h
  split at h
  · rename_i i q
    obtain ⟨a', rfl⟩ := List.getLast?_eq_some_iff.mp q
    exact ⟨a', i, rfl, Nat.blt_eq.mp h⟩
  · cases h
theorem c_virtualOld {y' : MethodName} {bytes' : ByteArray} {mx : Nat} {ret' : Option FieldType} {pc idx na n : Nat} {ps : List FieldType} {r : Option FieldType} {C : String} (hd : decode bytes pc = .ok (.invokevirtual idx, 3)) (hpl : plainFor y' = true) (hdesc : parseMethodDescriptor y'.desc = some ⟨ps, r⟩) (hna : ps.length + 1 = na) (hy : y'.cls ≠ "java/lang/invoke/MethodHandle" ∧ y'.cls ≠ "java/lang/invoke/VarHandle")
    (w1 : (Cond.methodLink y.cls idx y').before a0 Z = true) (w2 : (Cond.instanceMethod y').before a0 Z = true) (w3 : (Cond.initialized y'.cls).before a0 Z = true) (w4 : (Cond.code y' bytes' mx ret').before a0 Z = true) (w5 : (Cond.declares y').before a0 Z = true) (w6 : (Cond.selects C y' y').before a0 Z = true) (hE : ∀ i, i < n → Exa Z hz (O i) C) :
    CallGood l Z hz sh A O y bytes maxL ret y' bytes' mx ret' pc na (pc + 3) (ckOld n) := by
  intro L S D sl fr lo v D' sl' h1 h2 h3 h4 h5 K
  have kk := K
  obtain ⟨k1, k2, -⟩ := kk
  refine ⟨k1, k2, ?_⟩
  intro d0 s0 p e R s m args below meth c T locs hd0 hs0 hh hA X H N hc hl hfr hlo
  have k1' : D.length ≤ D'.length := k1
  have k2' : sl ≤ sl' := k2
  have hd0' : d0 ≤ D.length := hd0
  have hs0' : s0 ≤ sl := hs0
  have hc' : D'.length - d0 ≤ R.cells := hc
  have hl' : sl' - s0 ≤ R.slots := hl
  obtain ⟨a', i, ea, ei⟩ := ckOld_inv h3
  have hM := met_of_ret hpl H K [] { frames := fr - 1, cells := D'.length - D.length, slots := sl' - sl, locals := lo - (wt (S.drop na) + (mx + 11)) } rfl
  have er : (S.take na).reverse.map (vv A O hz.size) = .ref (O i) :: a'.reverse.map (vv A O hz.size) := by rw [ea]; simp [vv, rf]
  have el : (a'.reverse.map (vv A O hz.size)).length = ps.length := by
    have := congrArg List.length ea
    rw [List.length_take, List.length_append] at this
    simp only [List.length_cons, List.length_nil] at this
    rw [List.length_map, List.length_reverse]; omega
  rw [er] at hM
  have es : S.map (vv A O hz.size) = (a'.reverse.map (vv A O hz.size)).reverse ++ .ref (O i) :: (S.drop na).map (vv A O hz.size) := by
    conv => lhs; rw [← List.take_append_drop na S, ea]
    simp [vv, rf]
  obtain ⟨cq, kq, qa, qb, qc⟩ := isOf hA.2.1 rfl ((hE i ei).ext H.ext)
  obtain ⟨w, vm₁, ⟨T', L', k', n'⟩, -, X', ⟨Lc, ⟨rfl, H', N'⟩, l1, y1, z1⟩, st⟩ := X.virtualBack hA.1 (y := y') (z := y') hA.2.2.2.2.1 (mvT hA.2.1 w1) (mvT hA.2.1 w5) (notFace_of_selects (args := #[]) (mvT hA.2.1 w6)) (mvT hA.2.1 w6) (mvT hA.2.1 w2) hy
    (backH (W := wt (S.drop na)) (rm := { frames := fr - 1, cells := D'.length - D.length, slots := sl' - sl, locals := lo - (wt (S.drop na) + (mx + 11)) }) (Q := fun w h' L => w = v.map (vv A O hz.size) ∧ HD Z hz sh A O h' D' ∧ Fr hz.size L) hM ⟨hA.2.1, hA.2.2.2.2.2.2.2.2.1⟩ w4 w3 (by show fr - 1 + 1 ≤ _; omega) (by show _ + (lo - _) ≤ _; omega)) qa qc (g := frm hz A O m pc (L, S, D, sl)) rfl (by show (L.map (sl1 A O hz.size)).toArray.size = _; rw [hA.2.2.2.1, ← h2]; simp) (Steps.refl _)
    (argsL := a'.reverse.map (vv A O hz.size)) (rest := (S.drop na).map (vv A O hz.size)) (lenOf hdesc el)
    es (by show 2 * 0 + _ ≤ _; rw [wt_ok]; omega) (hb hA.2.2.1 hd)
    (fun _ _ => ⟨rfl, rfl, by show D.length - d0 + (D'.length - D.length) ≤ _; omega, by show sl - s0 + (sl' - sl) ≤ _; omega⟩)
  dsimp only [Pt.U, Pt.locs, Pt.cells, Pt.slots] at X' l1 y1 z1 st H'
  subst l1 y1 z1
  have c1 : D.length - d0 + (D'.length - D.length) = D'.length - d0 := by omega
  have c2 : sl - s0 + (sl' - sl) = sl' - s0 := by omega
  refine ⟨T', _, by rw [← c1, ← c2]; exact X', H', N.app N', fun target kt => st.trans ?_⟩
  have e2 : (v.toList ++ S.drop na).map (vv A O hz.size) = (v.map (vv A O hz.size)).toList ++ (S.drop na).map (vv A O hz.size) := by cases v <;> simp
  have kt' : Steps p.tables e below (T'.setTop (mkF m (pc + 3) (L.map (sl1 A O hz.size)).toArray ((v.toList ++ S.drop na).map (vv A O hz.size)))) target := kt
  rw [e2] at kt'; exact kt'
end More
end Jvm.OwnX

namespace Jvm.OwnX
open Sem ClassFile Op Lib Jvm.Stand Jvm.Free Jvm.LawKit Jvm.RoadKit
/-! ### 13. Doubles, all of them literals -/
section Dbl
variable {l : Launch} {Z : State} {hz : Heap} {sh : List Sh} {A : En} {O : Nat → Addr} {y : MethodName} {bytes : ByteArray} {maxL : Nat} {ret : Option FieldType}
theorem g_dload {pc k : Nat} (hd : decode bytes pc = .ok (.dload k, 2)) : Good l Z hz sh A O y bytes maxL ret pc (sLoad 3 k (pc + 2)) :=
  good_one fun F L S D sl ns h => by
    obtain ⟨t, q, rfl⟩ := sLoad_inv h
    refine ⟨_, _, rfl, fun hF p e R s m args below meth c T locs cells slots hA X H target st => ?_⟩
    exact XS.dload X.here hA.1 rfl (hb hA.2.2.1 hd) (loc_at q) st
theorem g_dloadN {pc : Nat} {k : Fin 4} (hd : decode bytes pc = .ok (.dload_n k, 1)) : Good l Z hz sh A O y bytes maxL ret pc (sLoad 3 k.val (pc + 1)) :=
  good_one fun F L S D sl ns h => by
    obtain ⟨t, q, rfl⟩ := sLoad_inv h
    refine ⟨_, _, rfl, fun hF p e R s m args below meth c T locs cells slots hA X H target st => ?_⟩
    exact XS.dloadN X.here hA.1 rfl (hb hA.2.2.1 hd) (loc_at q) st
theorem g_dstore {pc k : Nat} (hd : decode bytes pc = .ok (.dstore k, 2)) : Good l Z hz sh A O y bytes maxL ret pc (sStore 3 k (pc + 2)) :=
  good_one fun F L S D sl ns h => by
    obtain ⟨t, S', L', rfl, q, rfl⟩ := sStore_inv h
    refine ⟨_, _, rfl, fun hF p e R s m args below meth c T locs cells slots hA X H target st => ?_⟩
    exact XS.dstore X.here hA.1 rfl (hb hA.2.2.1 hd) rfl (stL_ok q) st
theorem g_dstoreN {pc : Nat} {k : Fin 4} (hd : decode bytes pc = .ok (.dstore_n k, 1)) : Good l Z hz sh A O y bytes maxL ret pc (sStore 3 k.val (pc + 1)) :=
  good_one fun F L S D sl ns h => by
    obtain ⟨t, S', L', rfl, q, rfl⟩ := sStore_inv h
    refine ⟨_, _, rfl, fun hF p e R s m args below meth c T locs cells slots hA X H target st => ?_⟩
    exact XS.dstoreN X.here hA.1 rfl (hb hA.2.2.1 hd) rfl (stL_ok q) st
def dl (v : UInt64) : SV := (3, .long v.toInt64)
theorem dl_ok (v : UInt64) (n0 : Nat) : vv A O n0 (dl v) = .double v := by
  show Value.double (v.toInt64.toUInt64) = _
  rw [UInt64.toUInt64_toInt64]
theorem g_dconst0 {pc : Nat} (hd : decode bytes pc = .ok (.dconst 0, 1)) : Good l Z hz sh A O y bytes maxL ret pc (sPush (dl FP.dconst0) (pc + 1)) :=
  good_one fun F L S D sl ns h => by
    cases h
    refine ⟨_, _, rfl, fun hF p e R s m args below meth c T locs cells slots hA X H target st => ?_⟩
    refine XS.dconst0 X.here hA.1 rfl (g := frm hz A O m pc (L, S, D, sl)) (hb hA.2.2.1 hd) rfl ?_
    have := dl_ok (A := A) (O := O) FP.dconst0 hz.size
    rw [← this]; exact st
theorem g_ldc2d {pc k : Nat} {b : UInt64} {a0 : Array Value} (hd : decode bytes pc = .ok (.ldc2_w k, 3)) (w : (Cond.constantDouble y.cls k b).before a0 Z = true) : Good l Z hz sh A O y bytes maxL ret pc (sPush (dl b) (pc + 3)) :=
  good_one fun F L S D sl ns h => by
    cases h
    refine ⟨_, _, rfl, fun hF p e R s m args below meth c T locs cells slots hA X H target st => ?_⟩
    refine X.ldc2DoubleC hA.1 hA.2.2.2.2.1 (mvT hA.2.1 w) (g := frm hz A O m pc (L, S, D, sl)) rfl (hb hA.2.2.1 hd) _ ?_
    have := dl_ok (A := A) (O := O) b hz.size
    rw [← this]; exact st
def sI2d (nx : Nat) : Stp := fun F cf => match cf.2.1 with
  | (0, .int x) :: S => some [(F, nx, (cf.1, dl (FP.i2d x) :: S, cf.2.2))]
  | _ => none
theorem g_i2d {pc : Nat} (hd : decode bytes pc = .ok (.i2d, 1)) : Good l Z hz sh A O y bytes maxL ret pc (sI2d (pc + 1)) :=
  good_one fun F L S D sl ns h => by
    simp only [sI2d] at h
    split at h
    · rename_i x S'
      cases h
      refine ⟨_, _, rfl, fun hF p e R s m args below meth c T locs cells slots hA X H target st => ?_⟩
      refine XS.i2dS X.here hA.1 rfl (g := frm hz A O m pc (L, (0, .int x) :: S', D, sl)) (hb hA.2.2.1 hd) rfl rfl ?_
      have := dl_ok (A := A) (O := O) (FP.i2d x) hz.size
      show Steps p.tables e below (T.setTop (mkF m (pc + 1) _ (.double (FP.i2d x) :: S'.map (vv A O hz.size)))) target
      rw [← this]; exact st
    · cases h
def sDdiv (nx : Nat) : Stp := fun F cf => match cf.2.1 with
  | (3, .long b) :: (3, .long a) :: S => bif decide (FP.ddiv a.toUInt64 b.toUInt64 &&& 9223372036854775807 ≤ 9218868437227405312) then some [(F, nx, (cf.1, dl (FP.ddiv a.toUInt64 b.toUInt64) :: S, cf.2.2))] else none
  | _ => none
theorem g_ddiv {pc : Nat} (hd : decode bytes pc = .ok (.ddiv, 1)) : Good l Z hz sh A O y bytes maxL ret pc (sDdiv (pc + 1)) :=
  good_one fun F L S D sl ns h => by
    simp only [sDdiv] at h
    split at h
    · rename_i b a S'
      cases hk : decide (FP.ddiv a.toUInt64 b.toUInt64 &&& 9223372036854775807 ≤ 9218868437227405312)
      · rw [hk] at h; cases h
      · rw [hk] at h; cases h
        refine ⟨_, _, rfl, fun hF p e R s m args below meth c T locs cells slots hA X H target st => ?_⟩
        refine XS.ddivS X.here hA.1 rfl (g := frm hz A O m pc (L, (3, .long b) :: (3, .long a) :: S', D, sl)) (x := a.toUInt64) (y := b.toUInt64) (hb hA.2.2.1 hd) rfl (by have hk' := of_decide_eq_true hk; exact hk') rfl ?_
        have := dl_ok (A := A) (O := O) (FP.ddiv a.toUInt64 b.toUInt64) hz.size
        show Steps p.tables e below (T.setTop (mkF m (pc + 1) _ (.double (FP.ddiv a.toUInt64 b.toUInt64) :: S'.map (vv A O hz.size)))) target
        rw [← this]; exact st
    · cases h
def sDcmp (o : CmpOp) (nx : Nat) : Stp := fun F cf => match cf.2.1 with
  | (3, .long b) :: (3, .long a) :: S => some [(F, nx, (cf.1, (0, .int (cmpValue (FP.dcmp a.toUInt64 b.toUInt64) o)) :: S, cf.2.2))]
  | _ => none
theorem g_dcmp {pc : Nat} {o : CmpOp} (hd : decode bytes pc = .ok (.dcmp o, 1)) : Good l Z hz sh A O y bytes maxL ret pc (sDcmp o (pc + 1)) :=
  good_one fun F L S D sl ns h => by
    simp only [sDcmp] at h
    split at h
    · rename_i b a S'
      cases h
      refine ⟨_, _, rfl, fun hF p e R s m args below meth c T locs cells slots hA X H target st => ?_⟩
      exact XS.dcmpS X.here hA.1 rfl (g := frm hz A O m pc (L, (3, .long b) :: (3, .long a) :: S', D, sl)) (x := a.toUInt64) (y := b.toUInt64) (hb hA.2.2.1 hd) rfl rfl st
    · cases h
end Dbl
end Jvm.OwnX

namespace Jvm.OwnX
open Sem ClassFile Op Lib Jvm.Stand Jvm.Free Jvm.LawKit Jvm.RoadKit
/-! ### 14. A callee's own run -/
section RunN
variable {l : Launch} {Z : State} {hz : Heap} {sh : List Sh} {A : En} {O : Nat → Addr}
/-- what the body's own returns may hand back -/
def RtOf (code : List El) (v : Option SV) : Prop := ∃ el ∈ code, ∃ (g : Rt) (S : List SV), el.2 = .inr (.inr (.inl g)) ∧ g S = some v
theorem run_okN {M : List Mt} {C N : Nat} {MI : Nat → MethodName × ByteArray × Option FieldType} (hM : MtOk l Z hz sh A O C N M MI) (hN : ∀ (j mx : Nat) (code : List El), M[j]? = some (mx, code) → ∀ el ∈ code, ∀ k : Tst, el.2 ≠ .inr (.inr (.inr (.inr k)))) : ∀ (n : Nat) (j : Nat) (rem : List El) (cf : Cf) (F : List Cond) (fr lo : Nat) (stk : List Fm) (P : List Pd) (mx : Nat) (code : List El),
    xgo M C N n (j, rem, cf, F, fr, lo, stk) = some P → holds A F → (∀ q ∈ P, q.2 = none → ¬ holds A q.1) → M[j]? = some (mx, code) → (∀ el ∈ rem, el ∈ code) →
    ∃ el tl, rem = el :: tl ∧ ((∃ k, k < n ∧ ∃ F' v D' sl' P', holds A F' ∧ cont M C N k stk F' v (D', sl') = some P' ∧ (∀ q ∈ P', q ∈ P) ∧ Ret l Z hz sh A O (MI j).1 (MI j).2.1 mx (MI j).2.2 fr lo el.1 cf v D' sl' ∧ RtOf code v)
      ∨ (stk = [] ∧ False)) := by
  intro n
  induction n using Nat.strongRecOn with
  | ind n IH =>
    intro j rem cf F fr lo stk P mx code h hF hP hj hr
    cases n with
    | zero => cases h
    | succ n =>
      rw [xgo_succ] at h
      unfold body at h
      cases rem with
      | nil => cases h
      | cons el tl =>
        refine ⟨el, tl, rfl, ?_⟩
        have hel := (hM j mx code hj).1 el (hr el (List.mem_cons_self ..))
        have htl : ∀ e ∈ tl, e ∈ code := fun e he => hr e (List.mem_cons_of_mem _ he)
        have step : ∀ (ns : List Nx) (pc : Nat), coll (fun n' => xgo M C N n (j, seek M j tl n'.2.1, n'.2.2, n'.1, fr, lo, stk)) ns = some P → (∃ nx ∈ ns, holds A nx.1 ∧ Sim l Z hz sh A O (MI j).1 (MI j).2.1 mx (MI j).2.2 fr lo pc cf nx.2.1 nx.2.2) →
            ((∃ k, k < n + 1 ∧ ∃ F' v D' sl' P', holds A F' ∧ cont M C N k stk F' v (D', sl') = some P' ∧ (∀ q ∈ P', q ∈ P) ∧ Ret l Z hz sh A O (MI j).1 (MI j).2.1 mx (MI j).2.2 fr lo pc cf v D' sl' ∧ RtOf code v)
              ∨ (stk = [] ∧ False)) := by
          intro ns pc h ⟨nx, hn, hG, hS⟩
          obtain ⟨P1, g1, g2⟩ := coll_mem h hn
          obtain ⟨k1, k2⟩ := seek_ok (pc := nx.2.1) hj htl
          obtain ⟨el', tl', er, a⟩ := IH n (Nat.lt_succ_self n) j _ nx.2.2 nx.1 fr lo stk P1 mx code g1 hG (fun q hq => hP q (g2 q hq)) hj k1
          rw [k2 el' tl' er] at a
          rcases a with ⟨k, hk, F', v, D', sl', P', a1, a2, a3, a4⟩ | ⟨a1, a2⟩
          · exact Or.inl ⟨k, Nat.lt_succ_of_lt hk, F', v, D', sl', P', a1, a2, fun q hq => g2 q (a3 q hq), hS.thenRet a4.1, a4.2⟩
          · exact Or.inr ⟨a1, a2⟩
        obtain ⟨pc, kind⟩ := el
        simp only at h
        cases kind with
        | inl f =>
          simp only at h
          have hgood : Good l Z hz sh A O (MI j).1 (MI j).2.1 mx (MI j).2.2 pc f := hel
          cases hf : f F cf with
          | none =>
            rw [hf] at h; cases h
            exact absurd hF (hP (F, none) (List.mem_cons_self ..) rfl)
          | some ns =>
            rw [hf] at h
            simp only at h
            obtain ⟨nx, hn, hG, hS⟩ := hgood F cf ns hf hF
            exact step ns pc h ⟨nx, hn, hG, hS.mono (Nat.zero_le _) (Nat.zero_le _)⟩
        | inr kind =>
          cases kind with
          | inl kl =>
            simp only at h
            have hcall : ∀ m, M[kl.1]? = some m → CallGood l Z hz sh A O (MI j).1 (MI j).2.1 mx (MI j).2.2 (MI kl.1).1 (MI kl.1).2.1 m.1 (MI kl.1).2.2 pc kl.2.1 kl.2.2.1 kl.2.2.2 := hel
            obtain ⟨cj, na, nx, ck⟩ := kl
            obtain ⟨L, S, D, sl⟩ := cf
            simp only at h hcall
            cases hm : M[cj]? with
            | none => rw [hm] at h; cases h
            | some m =>
              obtain ⟨mx', code'⟩ := m
              rw [hm, hj] at h
              simp only at h
              cases hc : (Nat.ble na S.length && (Nat.beq L.length mx && (ck (S.take na) D && (Nat.ble 1 fr && Nat.ble (wt (S.drop na) + (mx' + 11)) lo))))
              · rw [hc] at h; cases h
                exact absurd hF (hP (F, none) (List.mem_cons_self ..) rfl)
              · rw [hc] at h
                simp only [Bool.and_eq_true] at hc
                obtain ⟨c1, c2, c3, c4, c5⟩ := hc
                have c1 := Nat.le_of_ble_eq_true c1
                have c2 := Nat.eq_of_beq_eq_true c2
                have c4 := Nat.le_of_ble_eq_true c4
                have c5 := Nat.le_of_ble_eq_true c5
                simp only [cond_true] at h
                obtain ⟨el', tl', er, a⟩ := IH n (Nat.lt_succ_self n) cj code' _ F (fr - 1) _ _ P mx' code' h hF hP hm (fun _ q => q)
                rw [(hM cj mx' code' hm).2 el' tl' er] at a
                rcases a with ⟨k, hk, F', v, D', sl', P', a1, a2, a3, a4⟩ | ⟨a1, -⟩
                · have hS := hcall (mx', code') hm L S D sl fr lo v D' sl' c1 c2 c3 c4 c5 a4.1
                  have a2' : xgo M C N k (j, seek M j tl nx, (L, v.toList ++ S.drop na, (D', sl')), F', fr, lo, stk) = some P' := a2
                  obtain ⟨k1, k2⟩ := seek_ok (pc := nx) hj htl
                  obtain ⟨el2, tl2, er2, b⟩ := IH k (Nat.lt_succ_of_lt hk) j _ _ F' fr lo stk P' mx code a2' a1 (fun q hq => hP q (a3 q hq)) hj k1
                  rw [k2 el2 tl2 er2] at b
                  rcases b with ⟨k', hk', F2, v2, D2, sl2, P2, b1, b2, b3, b4⟩ | ⟨b1, b2⟩
                  · exact Or.inl ⟨k', by omega, F2, v2, D2, sl2, P2, b1, b2, fun q hq => a3 q (b3 q hq), hS.thenRet b4.1, b4.2⟩
                  · exact Or.inr ⟨b1, b2⟩
                · cases a1
          | inr kind =>
            cases kind with
            | inl g =>
              simp only at h
              have hret : RetGood l Z hz sh A O (MI j).1 (MI j).2.1 mx (MI j).2.2 pc g := hel
              obtain ⟨L, S, D, sl⟩ := cf
              simp only at h
              cases hg : g S with
              | none =>
                rw [hg] at h; cases h
                exact absurd hF (hP (F, none) (List.mem_cons_self ..) rfl)
              | some v =>
                rw [hg] at h
                simp only at h
                refine Or.inl ⟨n, Nat.lt_succ_self n, F, v, D, sl, P, hF, ?_, fun _ q => q, hret L S D sl fr lo v hg, _, hr _ (List.mem_cons_self ..), g, S, rfl, hg⟩
                unfold cont
                cases stk with
                | nil => exact h
                | cons fm stk' => exact h
            | inr kind =>
              cases kind with
              | inl f =>
                simp only at h
                have hgood : GoodN l Z hz sh A O (MI j).1 (MI j).2.1 mx (MI j).2.2 pc f := hel
                cases hf : f fr lo F cf with
                | none =>
                  rw [hf] at h; cases h
                  exact absurd hF (hP (F, none) (List.mem_cons_self ..) rfl)
                | some ns =>
                  rw [hf] at h
                  simp only at h
                  exact step ns pc h (hgood fr lo F cf ns hf hF)
              | inr k => exact absurd rfl (hN j mx code hj _ (hr _ (List.mem_cons_self ..)) k)
def noCut (code : List El) : Bool := code.all fun el => match el.2 with
  | .inr (.inr (.inr (.inr _))) => false
  | _ => true
theorem noCut_ok {code : List El} (h : noCut code = true) : ∀ el ∈ code, ∀ k : Tst, el.2 ≠ .inr (.inr (.inr (.inr k))) := by
  intro el he k q
  have := List.all_eq_true.mp h el he
  rw [q] at this
  cases this
theorem ret_ok {M : List Mt} {C N : Nat} {MI : Nat → MethodName × ByteArray × Option FieldType} (hM : MtOk l Z hz sh A O C N M MI) (hN : M.all (fun m => noCut m.2) = true) {n j mx : Nat} {code : List El} {cf : Cf} {F : List Cond} {fr lo : Nat} {P : List Pd}
    (hj : M[j]? = some (mx, code)) (hg : xgo M C N n (j, code, cf, F, fr, lo, []) = some P) (hF : holds A F) (hP : ∀ q ∈ P, q.2 ≠ none) :
    ∃ v D' sl', Ret l Z hz sh A O (MI j).1 (MI j).2.1 mx (MI j).2.2 fr lo 0 cf v D' sl' ∧ D'.length ≤ C ∧ sl' ≤ N ∧ RtOf code v ∧ (isOne v = true ∨ ∃ F', (F', v) ∈ P) := by
  obtain ⟨el, tl, er, a⟩ := run_okN hM (fun j mx code h => noCut_ok (List.all_eq_true.mp hN _ (List.mem_of_getElem? h))) n j code cf F fr lo [] P mx code hg hF (fun q hq h0 => absurd h0 (hP q hq)) hj (fun _ q => q)
  rw [(hM j mx code hj).2 el tl er] at a
  rcases a with ⟨k, -, F', v, D', sl', P', a1, a2, a3, a4⟩ | ⟨-, a2⟩
  · have a2' : leaf C N F' v (D', sl') = some P' := a2
    unfold leaf at a2'
    cases hq : (Nat.ble (D', sl').1.length C && Nat.ble (D', sl').2 N)
    · rw [hq] at a2'; cases a2'
    · rw [hq] at a2'
      simp only [Bool.and_eq_true] at hq
      refine ⟨v, D', sl', a4.1, Nat.le_of_ble_eq_true hq.1, Nat.le_of_ble_eq_true hq.2, a4.2, ?_⟩
      cases h1 : isOne v
      · rw [h1] at a2'; cases a2'
        exact Or.inr ⟨F', a3 _ (List.mem_cons_self ..)⟩
      · exact Or.inl rfl
  · exact a2.elim
end RunN
end Jvm.OwnX

namespace Jvm.OwnX
open Sem ClassFile Op Lib Jvm.Stand Jvm.Free Jvm.LawKit Jvm.RoadKit
/-! ### 15. A call, by its contract, of a callee that may intern; the run goes on from a new base -/
section CallW
variable {l : Launch} {Z : State} {hz : Heap} {sh : List Sh} {A : En} {O : Nat → Addr} {y : MethodName} {bytes : ByteArray} {maxL : Nat} {ret : Option FieldType}
theorem call_wide {y' : MethodName} {bytes' : ByteArray} {mx' : Nat} {ret' : Option FieldType} {pc idx : Nat} {a0 : Array Value} (hd : decode bytes pc = .ok (.invokestatic idx, 3))
    (w1 : (Cond.methodLink y.cls idx y').before a0 Z = true) (w2 : (Cond.static y').before a0 Z = true) (w3 : (Cond.initialized y'.cls).before a0 Z = true) (w4 : (Cond.code y' bytes' mx' ret').before a0 Z = true)
    (hy : y'.cls ≠ "java/lang/invoke/MethodHandle" ∧ y'.cls ≠ "java/lang/invoke/VarHandle") {ps : List FieldType} {r : Option FieldType} (hdesc : parseMethodDescriptor y'.desc = some ⟨ps, r⟩)
    {rm : Room} {L : List SL} {S : List SV} (hps : S.length = ps.length) {Q : Heap → Option Value → Heap → List Loc → Prop}
    (hM : ∀ h, Ext hz h → MetFree l y' (head1 [Cond.code y' bytes' mx' ret'] rm) (fun a U => a = (S.reverse.map (vv A O hz.size)).toArray ∧ Z.Warmed39 U.vm ∧ U.heap = h) (fun _ _ _ _ _ => True) (fun _ U o U' => ∃ v L, o = .returned v ∧ Q h v U'.heap L ∧ ReturnedEndW U o U' L rm.cells rm.slots))
    {C N C' N' fr lo : Nat}
    (K : ∀ h v h' Lo, Ext hz h → Q h v h' Lo → (Fr h.size Lo ∧ Ext h h') ∧ ∃ (O' : Nat → Addr) (L' : List SL) (S' : List SV), Top l Z h' sh A O' y bytes maxL ret C' N' fr lo (pc + 3) (L', S', [], 0) ∧
      L'.map (sl1 A O' h'.size) = L.map (sl1 A O hz.size) ∧ S'.map (vv A O' h'.size) = v.toList)
    (hC : rm.cells + C' ≤ C) (hN : rm.slots + N' ≤ N) (hfr : rm.frames + 1 ≤ fr) (hlo : 0 + (mx' + 11) + rm.locals ≤ lo) (hL : L.length = maxL) :
    Top l Z hz sh A O y bytes maxL ret C N fr lo pc (L, S, [], 0) := by
  refine ⟨Nat.zero_le _, Nat.zero_le _, ?_⟩
  intro p e R s m args below meth c T locs hh hA X H Nf hc hl hf hlo'
  have EH := H.ext
  have hb0 := backOfS (R := R) (p := p) (e := e) (below := below) (s := s) (args := args) (len := 3) (W := 0) (hM T.heap EH) hA.2.1 w4 w3 (by omega) (by omega)
  obtain ⟨v, vm1, B, hW1, X', hSi, hge, ⟨Lo, hQ, eL, eC, eS⟩, st⟩ := callSS X hA.1 hA.2.2.2.2.1 (mvT hA.2.1 w1) (mvT hA.2.1 w2) (mvT hA.2.1 w3) (mvT hA.2.1 w4) hy hb0
    (g := frm hz A O m pc (L, S, [], 0)) rfl (by show (L.map (sl1 A O hz.size)).toArray.size = _; rw [hA.2.2.2.1, ← hL]; simp) (argsL := S.reverse.map (vv A O hz.size)) (rest := [])
    (fun sig hs => by rw [hdesc] at hs; cases hs; simp [hps]) (by show S.map (vv A O hz.size) = _; simp) (by show 2 * 0 + _ ≤ _; simp) (hb hA.2.2.1 hd)
    (fun vm₁ _ => ⟨rfl, rfl, by show 0 + rm.cells ≤ R.cells; omega, by show 0 + rm.slots ≤ R.slots; omega⟩)
  have eC' : B.cells = rm.cells := by rw [eC]; exact Nat.zero_add _
  have eS' : B.slots = rm.slots := by rw [eS]; exact Nat.zero_add _
  obtain ⟨⟨hFr, hE⟩, O', L', S', KT, e1, e2⟩ := K _ _ _ _ EH hQ
  have X2 : Stand p l e { frames := R.frames, cells := R.cells - rm.cells, slots := R.slots - rm.slots, locals := R.locals } (base2 s B.U) m args below meth c B.U [] 0 0 :=
    rebase X' rfl rfl (by rw [eC']; show rm.cells + (R.cells - rm.cells) ≤ _; omega) (by rw [eS']; show rm.slots + (R.slots - rm.slots) ≤ _; omega)
  obtain ⟨-, -, k3⟩ := KT
  have hZ2 : Z.Warmed39 B.U.vm := State.Warmed39.trans (t := s) hA.2.1 hSi.1
  obtain ⟨s₂, L2, q1, q2, q3, q4, q5, q6⟩ := k3 p e _ (base2 s B.U) m args below meth c B.U [] rfl
    ⟨hA.1, hZ2, hA.2.2.1, hA.2.2.2.1, (by show B.U.vm.findClass y.cls = _; rw [hSi.1.alike.findClass]; exact hA.2.2.2.2.1), hA.2.2.2.2.2.1, hA.2.2.2.2.2.2.1, hA.2.2.2.2.2.2.2.1, hZ2, (State.methodNamed?_setVm hSi.1.alike _).trans hA.2.2.2.2.2.2.2.2.2⟩
    X2 ⟨rfl, fun _ _ => rfl, fun k o h => by simp at h⟩ (Fr.nil _) (by show C' ≤ R.cells - rm.cells; omega) (by show N' ≤ R.slots - rm.slots; omega) hf hlo'
  have hsz : s.heap.size ≤ B.U.heap.size := by rw [hh]; exact Nat.le_trans EH.1 hge
  have hsz2 : hz.size ≤ T.heap.size := EH.1
  have h3 := rebased X' q6
  refine ⟨s₂, B.locs ++ L2, st.trans ?_, q2, q3, ?_, ?_, ?_⟩
  · have ef : ({ frm hz A O m pc (L, S, [], 0) with pc := (frm hz A O m pc (L, S, [], 0)).pc + 3, stack := v.toList ++ [] } : JFrame) = frm B.U.heap A O' m (pc + 3) (L', S', [], 0) := by
      unfold frm; simp only; rw [e1, e2, List.append_nil]
    rw [ef]; exact q1
  · rw [eL]
    refine Fr.app (Fr.app Nf (fun z q => Nat.le_trans hsz2 (hFr z q))) (fun z q => ?_)
    exact Nat.le_trans (Nat.le_trans hsz2 hge) (q4 z q)
  · refine hSi.trans (vm₁ := B.U.vm) ⟨q5.1, fun j z hj hp => ?_⟩ q6.2.1
    exact ⟨Nat.le_trans hsz (q5.2 j z hj hp).1, (q5.2 j z hj hp).2⟩
  · rw [eC', eS'] at h3
    exact h3.mono hC hN
end CallW
end Jvm.OwnX

namespace Jvm.OwnX
open Sem ClassFile Op Lib Jvm.Stand Jvm.Free Jvm.LawKit Jvm.RoadKit
/-! ### 16. A callee's contract with the wide end -/
section Wide
variable {l : Launch} {Z : State} {hz : Heap} {sh : List Sh} {A : En} {O : Nat → Addr} {y : MethodName} {bytes : ByteArray} {maxL : Nat} {ret : Option FieldType}
theorem Sim.trans {fr lo pc pc' pc'' : Nat} {cf cf' cf'' : Cf} (S : Sim l Z hz sh A O y bytes maxL ret fr lo pc cf pc' cf') (S' : Sim l Z hz sh A O y bytes maxL ret fr lo pc' cf' pc'' cf'') : Sim l Z hz sh A O y bytes maxL ret fr lo pc cf pc'' cf'' := by
  obtain ⟨s1, s2, s3⟩ := S
  obtain ⟨r1, r2, r3⟩ := S'
  refine ⟨Nat.le_trans s1 r1, Nat.le_trans s2 r2, ?_⟩
  intro d0 s0 p e R s m args below meth c T locs hd hs hh hA X H N hc hl hf hlo
  obtain ⟨T', locs', X', H', N', st⟩ := s3 d0 s0 p e R s m args below meth c T locs hd hs hh hA X H N (by omega) (by omega) hf hlo
  obtain ⟨T2, L2, X2, H2, N2, st2⟩ := r3 d0 s0 p e R s m args below meth c T' locs' (by omega) (by omega) hh hA X' H' N' hc hl hf hlo
  exact ⟨T2, L2, X2, H2, N2, fun t k => st t (st2 t k)⟩
theorem one_ok {pc pc' : Nat} {f : Stp} (g : Good l Z hz sh A O y bytes maxL ret pc f) {F F' : List Cond} {cf cf' : Cf} (h : f F cf = some [(F', pc', cf')]) (hF : holds A F) : Sim l Z hz sh A O y bytes maxL ret 0 0 pc cf pc' cf' := by
  obtain ⟨n, hn, -, hS⟩ := g F cf _ h hF
  cases List.mem_singleton.mp hn
  exact hS
theorem rVal_ref {ty : FieldType} (hk : kdOf ty = 2) {S : List SV} {v : Option SV} (h : rVal ty S = some v) : isOne v = false := by
  unfold rVal at h
  split at h
  · rename_i x S'
    cases hq : (x.1 == kdOf ty)
    · rw [hq] at h; cases h
    · rw [hq] at h; cases h
      rw [hk]; rfl
  · cases h
def outP (f : Option SV → Bool) : Option (List Pd) → Bool
  | some P => P.all fun q => f q.2
  | none => false
theorem outP_ok {f : Option SV → Bool} {o : Option (List Pd)} (h : outP f o = true) : ∃ P, o = some P ∧ ∀ q ∈ P, f q.2 = true := by
  cases o with
  | none => cases h
  | some P => exact ⟨P, rfl, fun q hq => List.all_eq_true.mp h q hq⟩
def isNullV : Option SV → Bool
  | some (2, .null) => true
  | _ => false
def isIdxV : Option SV → Bool
  | some (2, .index _) => true
  | _ => false
theorem isNullV_ok {v : Option SV} (h : isNullV v = true) : v = some (2, .null) := by
  unfold isNullV at h
  split at h
  · rfl
  · cases h
theorem isIdxV_ok {v : Option SV} (h : isIdxV v = true) : ∃ k, v = some (2, .index k) := by
  unfold isIdxV at h
  split at h
  · exact ⟨_, rfl⟩
  · cases h
theorem met_wide (hpl : plainFor y = true) {fr lo : Nat} {xs : List SV} {D' : List Ob} {sl' : Nat} {v : Option SV}
    (K : Ret l Z hz sh A O y bytes maxL ret fr lo 0 (entL xs maxL, [], [], 0) v D' sl') (ws : List Cond) (rm : Room) (hfr : rm.frames = fr) (hlo : rm.locals = lo) (hc : D'.length ≤ rm.cells) (hs : sl' ≤ rm.slots)
    {Q : Option Value → Heap → List Loc → Prop} (hQ : ∀ h' L, HD Z hz sh A O h' D' → Fr hz.size L → Q (v.map (vv A O hz.size)) h' L) :
    MetFree l y (head1 (Cond.code y bytes maxL ret :: ws) rm)
      (fun a U => a = (xs.map (vv A O hz.size)).toArray ∧ Z.Warmed39 U.vm ∧ U.heap = hz) (fun _ _ _ _ _ => True)
      (fun _ U o U' => ∃ w L, o = .returned w ∧ Q w U'.heap L ∧ ReturnedEndW U o U' L rm.cells rm.slots) := by
  have H0 : HD Z hz sh A O hz [] := ⟨rfl, fun _ _ => rfl, fun k o h => by simp at h⟩
  refine MetFree.of_bodySF hpl hisR ?_
  intro p e s m args below meth c s₁ Bd hml hP hK
  obtain ⟨rfl, hZ, hh⟩ := hP
  obtain ⟨-, -, k3⟩ := K
  have X0 : Stand p l e rm s m _ below meth c s₁ [] 0 0 := Stand.of_body Bd
  have e0 : s₁.heap = hz := by rw [← hh, Bd.state]; rfl
  obtain ⟨s₂, L2, k1, k2, k3, k4, k5, k6, k7⟩ := k3 0 0 p e _ s m _ below meth c s₁ [] (Nat.le_refl _) (Nat.le_refl _) (by rw [hh]; rfl)
    ⟨Bd.exec, hZ, Bd.bytes, hml, findClass_of_methodNamed Bd.named, (name_of_methodNamed Bd.named Bd.method).1, Bd.returns, Bd.notSynchronized, hZ, Bd.named⟩
    X0 (by rw [e0]; exact H0) (Fr.nil _) (by rw [Nat.sub_zero]; exact hc) (by rw [Nat.sub_zero]; exact hs) (by rw [hfr]; exact Nat.le_refl _) (by rw [hlo]; exact Nat.le_refl _)
  refine ⟨s₂, .returned (v.map (vv A O hz.size)), ?_, k2, k3, _, L2, rfl, hQ _ _ k4 k5, ReturnedEndW.of_narrow ⟨_, rfl⟩ k6 (k7.mono (by rw [Nat.sub_zero]; exact hc) (by rw [Nat.sub_zero]; exact hs))⟩
  rw [ent_ok m xs maxL ([], 0)]; exact k1
theorem ldc_met (hpl : plainFor y = true) {C text : String} {xs : List SV} {pc idx : Nat} {L : List SL} {a0 : Array Value} (hret : ret = some (.object C))
    (S : Sim l Z hz sh A O y bytes maxL ret 0 0 0 (entL xs maxL, [], [], 0) pc (L, [], [], 0)) (hd : decode bytes pc = .ok (.ldc idx, 2)) (hd2 : decode bytes (pc + 2) = .ok (.areturn, 1))
    (w : (Cond.stringLink y.cls idx text).before a0 Z = true) (wS : ∀ a ∈ Bundle.stringAtoms, a.before a0 Z = true) (ht : text.toList.length = 0) (ws : List Cond) (rm : Room) (hc : 2 ≤ rm.cells) (hs : 4 ≤ rm.slots)
    {Q : Option Value → Heap → List Loc → Prop} (hQ : ∀ h' L a, Ext hz h' → Fr hz.size L → Q (some (.ref a)) h' L) :
    MetFree l y (head1 (Cond.code y bytes maxL ret :: ws) rm)
      (fun a U => a = (xs.map (vv A O hz.size)).toArray ∧ Z.Warmed39 U.vm ∧ U.heap = hz) (fun _ _ _ _ _ => True)
      (fun _ U o U' => ∃ w L, o = .returned w ∧ Q w U'.heap L ∧ ReturnedEndW U o U' L rm.cells rm.slots) := by
  have H0 : HD Z hz sh A O hz [] := ⟨rfl, fun _ _ => rfl, fun k o h => by simp at h⟩
  refine MetFree.of_bodySF hpl hisR ?_
  intro p e s m args below meth c s₁ Bd hml hP hK
  obtain ⟨rfl, hZ, hh⟩ := hP
  obtain ⟨-, -, k3⟩ := S
  have X0 : Stand p l e rm s m _ below meth c s₁ [] 0 0 := Stand.of_body Bd
  have e0 : s₁.heap = hz := by rw [← hh, Bd.state]; rfl
  have hA : Act Z y bytes maxL ret p s m meth c := ⟨Bd.exec, hZ, Bd.bytes, hml, findClass_of_methodNamed Bd.named, (name_of_methodNamed Bd.named Bd.method).1, Bd.returns, Bd.notSynchronized, hZ, Bd.named⟩
  obtain ⟨T, L2, X, H, N, st⟩ := k3 0 0 p e _ s m _ below meth c s₁ [] (Nat.le_refl _) (Nat.le_refl _) (by rw [hh]; rfl) hA
    X0 (by rw [e0]; exact H0) (Fr.nil _) (Nat.zero_le _) (Nat.zero_le _) (Nat.zero_le _) (Nat.zero_le _)
  have X1 : Stand p l e rm (s.setVm s.vm) m _ below meth c T L2 0 0 := X
  obtain ⟨a, T', h', k1, X2, e1, E, hSi, hk, -, -, st2⟩ := ldcS X1 hA.1 hZ hA.2.2.2.2.1 w wS rfl (k0 := 0) ((State.WarmedH.refl s).since 0) (Nat.zero_le _) (g := frm hz A O m pc (L, [], [], 0)) rfl (hb hA.2.2.1 hd) (n := 0) (by rw [ht]; exact Nat.le_refl _) (by decide) (by omega) (by omega)
  subst e1
  have hret' : meth.sig.returnType = some (.object C) := by rw [← hret]; exact hA.2.2.2.2.2.2.1
  obtain ⟨fs, hr, hrun, hended, hW⟩ := X2.leaveW hSi hk (v := some (.ref a)) (fun h => by rw [hret'] at h; cases h) hA.2.2.2.2.2.2.2.1
  refine ⟨T'.setFrames fs, .returned (some (.ref a)), ?_, hrun, hended, _, L2, rfl, hQ _ _ a ⟨Nat.le_trans H.ext.1 E.1, fun a c h => E.2 a c (H.ext.2 a c h)⟩ N, hW.1, hW.2.1, hW.2.2.1, hW.2.2.2.mono (by omega) (by omega)⟩
  rw [ent_ok m xs maxL ([], 0)]
  refine st _ (st2 _ ?_)
  exact retOut X2 hA.1 hret' rfl (Or.inr (Or.inr (Or.inr (Or.inr ⟨rfl, rfl, rfl⟩)))) (hb hA.2.2.1 hd2) hr
end Wide
end Jvm.OwnX

namespace Jvm.Pilot.@@N@@
open Jvm Jvm.ClassFile Sem Op Lib Jvm.Free Jvm.Stand Jvm.LawKit Jvm.RoadKit Bundle Jvm.OwnX Jvm.Pilot.@@N@@.Jvm.D
theorem d2_0 : decode prog_99_method_1_code 0 = .ok (.aload_n 0, 1) := by decide +kernel
theorem d2_1 : decode prog_99_method_1_code 1 = .ok (.invokespecial 1, 3) := by decide +kernel
theorem d2_4 : decode prog_99_method_1_code 4 = .ok (.aload_n 0, 1) := by decide +kernel
theorem d2_5 : decode prog_99_method_1_code 5 = .ok (.aload_n 1, 1) := by decide +kernel
theorem d2_6 : decode prog_99_method_1_code 6 = .ok (.putfield 7, 3) := by decide +kernel
theorem d2_9 : decode prog_99_method_1_code 9 = .ok (.aload_n 0, 1) := by decide +kernel
theorem d2_10 : decode prog_99_method_1_code 10 = .ok (.aload_n 2, 1) := by decide +kernel
theorem d2_11 : decode prog_99_method_1_code 11 = .ok (.putfield 13, 3) := by decide +kernel
theorem d2_14 : decode prog_99_method_1_code 14 = .ok (.return_, 1) := by decide +kernel
theorem d4_0 : decode prog_99_method_4_code 0 = .ok (.aload_n 0, 1) := by decide +kernel
theorem d4_1 : decode prog_99_method_4_code 1 = .ok (.getfield 13, 3) := by decide +kernel
theorem d4_4 : decode prog_99_method_4_code 4 = .ok (.ifnull 15, 3) := by decide +kernel
theorem d4_7 : decode prog_99_method_4_code 7 = .ok (.aload_n 0, 1) := by decide +kernel
theorem d4_8 : decode prog_99_method_4_code 8 = .ok (.getfield 7, 3) := by decide +kernel
theorem d4_11 : decode prog_99_method_4_code 11 = .ok (.ifnull 8, 3) := by decide +kernel
theorem d4_14 : decode prog_99_method_4_code 14 = .ok (.dconst 0, 1) := by decide +kernel
theorem d4_15 : decode prog_99_method_4_code 15 = .ok (.dstore_n 1, 1) := by decide +kernel
theorem d4_16 : decode prog_99_method_4_code 16 = .ok (.goto 28, 3) := by decide +kernel
theorem d4_19 : decode prog_99_method_4_code 19 = .ok (.aload_n 0, 1) := by decide +kernel
theorem d4_20 : decode prog_99_method_4_code 20 = .ok (.getfield 13, 3) := by decide +kernel
theorem d4_23 : decode prog_99_method_4_code 23 = .ok (.ifnonnull 10, 3) := by decide +kernel
theorem d4_26 : decode prog_99_method_4_code 26 = .ok (.aload_n 0, 1) := by decide +kernel
theorem d4_27 : decode prog_99_method_4_code 27 = .ok (.getfield 7, 3) := by decide +kernel
theorem d4_30 : decode prog_99_method_4_code 30 = .ok (.ifnull 10, 3) := by decide +kernel
theorem d4_33 : decode prog_99_method_4_code 33 = .ok (.ldc2_w 16, 3) := by decide +kernel
theorem d4_36 : decode prog_99_method_4_code 36 = .ok (.dstore_n 1, 1) := by decide +kernel
theorem d4_37 : decode prog_99_method_4_code 37 = .ok (.goto 7, 3) := by decide +kernel
theorem d4_40 : decode prog_99_method_4_code 40 = .ok (.ldc2_w 18, 3) := by decide +kernel
theorem d4_43 : decode prog_99_method_4_code 43 = .ok (.dstore_n 1, 1) := by decide +kernel
theorem d4_44 : decode prog_99_method_4_code 44 = .ok (.dload_n 1, 1) := by decide +kernel
theorem d4_45 : decode prog_99_method_4_code 45 = .ok (.dreturn, 1) := by decide +kernel
theorem pl_0 : plainFor (⟨"com/example/anole/anole/xpath/NameTestDefaultPriorityPinLaw", "law", "(IIIII)Z"⟩ : MethodName) = true := plainFor_of_name (by first | (simp [plainName, overriddenIn]; done) | decide +kernel)
theorem pd_0 : parseMethodDescriptor "(IIIII)Z" = some ⟨[.int, .int, .int, .int, .int], some .boolean⟩ := by decide +kernel
theorem pl_2 : plainFor (⟨"com/example/anole/anole/xpath/NameTest", "<init>", "(Ljava/lang/String;Ljava/lang/String;)V"⟩ : MethodName) = true := plainFor_of_name (by first | (simp [plainName, overriddenIn]; done) | decide +kernel)
theorem pd_2 : parseMethodDescriptor "(Ljava/lang/String;Ljava/lang/String;)V" = some ⟨[(.object "java/lang/String"), (.object "java/lang/String")], none⟩ := by decide +kernel
theorem pl_4 : plainFor (⟨"com/example/anole/anole/xpath/NameTest", "defaultPriority", "()D"⟩ : MethodName) = true := plainFor_of_name (by first | (simp [plainName, overriddenIn]; done) | decide +kernel)
theorem pd_4 : parseMethodDescriptor "()D" = some ⟨[], some .double⟩ := by decide +kernel
def fs_0 : List Fi := [("com/example/anole/anole/xpath/NameTest", "namespaceUri", "Ljava/lang/String;", (.object "java/lang/String")), ("com/example/anole/anole/xpath/NameTest", "localName", "Ljava/lang/String;", (.object "java/lang/String"))]
def ds_0 : List SV := [(2, .null), (2, .null)]
def fs_1 : List Fi := [("java/lang/String", "coder", "B", .byte), ("java/lang/String", "value", "[B", (.array .byte))]
def ds_1 : List SV := [(0, .int 0), (2, .null)]
def shp : List Sh := [(none, "com/example/anole/anole/xpath/NameTest", 2, fs_0), (none, "java/lang/String", 4, fs_1)]
def cd_0 : List El := [(0, kS (sLoad 0 0 1)),
  (1, kS (sPush (0, .int 1) 2)),
  (2, kS (sBin 0 0 0 (jI (Term.op2 .iand)) 3)),
  (3, kS (sIf .eq 10 6)),
  (6, kS (sPush (0, .int 1) 7)),
  (7, kS (sGoto 11)),
  (10, kS (sPush (0, .int 0) 11)),
  (11, kS (sStore 0 5 13)),
  (13, kS (sLoad 0 0 14)),
  (14, kS (sPush (0, .int 2) 15)),
  (15, kS (sBin 0 0 0 (jI (Term.op2 .iand)) 16)),
  (16, kS (sIf .eq 23 19)),
  (19, kS (sPush (0, .int 1) 20)),
  (20, kS (sGoto 24)),
  (23, kS (sPush (0, .int 0) 24)),
  (24, kS (sStore 0 6 26)),
  (26, kS (sLoad 0 0 27)),
  (27, kS (sPush (0, .int 4) 28)),
  (28, kS (sBin 0 0 0 (jI (Term.op2 .iand)) 29)),
  (29, kS (sIf .eq 36 32)),
  (32, kS (sPush (0, .int 1) 33)),
  (33, kS (sGoto 37)),
  (36, kS (sPush (0, .int 0) 37)),
  (37, kS (sStore 0 7 39)),
  (39, kS (sLoad 0 0 40)),
  (40, kS (sPush (0, .int 8) 42)),
  (42, kS (sBin 0 0 0 (jI (Term.op2 .iand)) 43)),
  (43, kS (sIf .eq 50 46)),
  (46, kS (sPush (0, .int 1) 47)),
  (47, kS (sGoto 51)),
  (50, kS (sPush (0, .int 0) 51)),
  (51, kS (sStore 0 8 53)),
  (53, kS (sLoad 0 5 55)),
  (55, kS (sLoad 0 7 57)),
  (57, kS (sLoad 0 1 58)),
  (58, kS (sLoad 0 2 59)),
  (59, kS (sStop)),
  (62, kS (sStore 2 9 64)),
  (64, kS (sLoad 0 6 66)),
  (66, kS (sLoad 0 8 68)),
  (68, kS (sLoad 0 3 69)),
  (69, kS (sLoad 0 4 71)),
  (71, kS (sStop)),
  (74, kS (sStore 2 10 76)),
  (76, kS (sNew 0 2 ds_0 79)),
  (79, kS (sDup 80)),
  (80, kS (sLoad 2 9 82)),
  (82, kS (sLoad 2 10 84)),
  (84, kC 2 3 87 (ckObj 0)),
  (87, kS (sStore 2 11 89)),
  (89, kS (sPush (0, .int 0) 90)),
  (90, kS (sStore 0 12 92)),
  (92, kS (sLoad 0 5 94)),
  (94, kS (sIf .ne 103 97)),
  (97, kS (sLoad 0 12 99)),
  (99, kS (sPush (0, .int 1) 100)),
  (100, kS (sBin 0 0 0 (jI Term.add) 101)),
  (101, kS (sStore 0 12 103)),
  (103, kS (sLoad 0 6 105)),
  (105, kS (sIf .ne 114 108)),
  (108, kS (sLoad 0 12 110)),
  (110, kS (sPush (0, .int 1) 111)),
  (111, kS (sBin 0 0 0 (jI Term.add) 112)),
  (112, kS (sStore 0 12 114)),
  (114, kS (sPush (0, .int 0) 115)),
  (115, kS (sLoad 0 12 117)),
  (117, kS (sBin 0 0 0 (jI Term.sub) 118)),
  (118, kS (sI2d 119)),
  (119, kS (sPush (dl 4616189618054758400) 122)),
  (122, kS (sDdiv 123)),
  (123, kS (sStore 3 13 125)),
  (125, kS (sLoad 2 11 127)),
  (127, kC 4 1 130 (ckObj 0)),
  (130, kS (sStore 3 15 132)),
  (132, kS (sLoad 3 15 134)),
  (134, kS (sLoad 3 13 136)),
  (136, kS (sDcmp .l 137)),
  (137, kS (sIf .ne 144 140)),
  (140, kS (sPush (0, .int 1) 141)),
  (141, kS (sGoto 145)),
  (144, kS (sPush (0, .int 0) 145)),
  (145, kR (rVal .boolean))]
def cd_2 : List El := [(0, kS (sLoad 2 0 1)),
  (1, kN (sInitO 3 4)),
  (4, kS (sLoad 2 0 5)),
  (5, kS (sLoad 2 1 6)),
  (6, kS (sPutF 0 0 (.object "java/lang/String") 9)),
  (9, kS (sLoad 2 0 10)),
  (10, kS (sLoad 2 2 11)),
  (11, kS (sPutF 0 1 (.object "java/lang/String") 14)),
  (14, kR (rVoid))]
def cd_4 : List El := [(0, kS (sLoad 2 0 1)),
  (1, kS (sGetF 0 1 4)),
  (4, kS (sIfNull true 19 7)),
  (7, kS (sLoad 2 0 8)),
  (8, kS (sGetF 0 0 11)),
  (11, kS (sIfNull true 19 14)),
  (14, kS (sPush (dl FP.dconst0) 15)),
  (15, kS (sStore 3 1 16)),
  (16, kS (sGoto 44)),
  (19, kS (sLoad 2 0 20)),
  (20, kS (sGetF 0 1 23)),
  (23, kS (sIfNull false 33 26)),
  (26, kS (sLoad 2 0 27)),
  (27, kS (sGetF 0 0 30)),
  (30, kS (sIfNull true 40 33)),
  (33, kS (sPush (dl 13821547256400052224) 36)),
  (36, kS (sStore 3 1 37)),
  (37, kS (sGoto 44)),
  (40, kS (sPush (dl 13826050856027422720) 43)),
  (43, kS (sStore 3 1 44)),
  (44, kS (sLoad 3 1 45)),
  (45, kR (rVal .double))]
def mts : List Mt := [(17, cd_0), (0, []), (3, cd_2), (0, []), (3, cd_4), (0, []), (0, []), (0, []), (0, []), (0, [])]
def mis : Nat → MethodName × ByteArray × Option FieldType
  | 0 => (x, code, ret)
  | 2 => ((⟨"com/example/anole/anole/xpath/NameTest", "<init>", "(Ljava/lang/String;Ljava/lang/String;)V"⟩ : MethodName), prog_99_method_1_code, none)
  | 4 => ((⟨"com/example/anole/anole/xpath/NameTest", "defaultPriority", "()D"⟩ : MethodName), prog_99_method_4_code, some .double)
  | _ => (x, code, ret)
theorem sok_0 {Z : State} {a0 : Array Value} (hw : ∀ d ∈ tables_1, d.before a0 Z = true) : ShOk Z a0 (none, "com/example/anole/anole/xpath/NameTest", 2, fs_0) := fun _ => ⟨(hw _ (List.mem_of_getElem? (i := 5) rfl)), by
  intro f hf
  simp only [fs_0, List.mem_cons, List.not_mem_nil, or_false] at hf
  rcases hf with rfl | rfl
  · exact ⟨Or.inr (hw _ (List.mem_of_getElem? (i := 14) rfl)), by decide⟩
  · exact ⟨Or.inr (hw _ (List.mem_of_getElem? (i := 16) rfl)), by decide⟩, by decide⟩
theorem sok_1 {Z : State} {a0 : Array Value} (hw : ∀ d ∈ tables_1, d.before a0 Z = true) : ShOk Z a0 (none, "java/lang/String", 4, fs_1) := fun _ => ⟨(hw _ (List.mem_of_getElem? (i := 26) rfl)), by
  intro f hf
  simp only [fs_1, List.mem_cons, List.not_mem_nil, or_false] at hf
  rcases hf with rfl | rfl
  · exact ⟨Or.inr (hw _ (List.mem_of_getElem? (i := 49) rfl)), by decide⟩
  · exact ⟨Or.inr (hw _ (List.mem_of_getElem? (i := 51) rfl)), by decide⟩, by decide⟩

section Valid
variable {l : Launch} {Z : State} {hz : Heap} {A : En} {O : Nat → Addr} {a0 : Array Value} {CC NN : Nat}
theorem okc_nil {M : List Mt} {MI : Nat → MethodName × ByteArray × Option FieldType} {j mx : Nat} : ∀ el ∈ ([] : List El), ElOk l Z hz shp A O CC NN M MI j mx el := fun _ h => nomatch h
theorem okc_cons {M : List Mt} {MI : Nat → MethodName × ByteArray × Option FieldType} {j mx : Nat} {el : El} {es : List El} (h : ElOk l Z hz shp A O CC NN M MI j mx el) (t : ∀ el ∈ es, ElOk l Z hz shp A O CC NN M MI j mx el) : ∀ e ∈ el :: es, ElOk l Z hz shp A O CC NN M MI j mx e := fun e he => (List.mem_cons.mp he).elim (fun q => q ▸ h) (t e)
set_option maxRecDepth 65536 in
set_option maxHeartbeats 40000000 in
theorem cok_0 (hw : ∀ d ∈ tables_1, d.before a0 Z = true) : ∀ el ∈ cd_0, ElOk l Z hz shp A O CC NN mts mis 0 17 el := by
  unfold cd_0
  refine okc_cons (show Good l Z hz shp A O x code 17 ret 0 (sLoad 0 0 1) from g_iloadN at_0) ?_
  refine okc_cons (show Good l Z hz shp A O x code 17 ret 1 (sPush (0, .int 1) 2) from g_iconst at_1 rfl) ?_
  refine okc_cons (show Good l Z hz shp A O x code 17 ret 2 (sBin 0 0 0 (jI (Term.op2 .iand)) 3) from g_iand at_2) ?_
  refine okc_cons (show Good l Z hz shp A O x code 17 ret 3 (sIf .eq 10 6) from g_if at_3 (by decide) (by decide)) ?_
  refine okc_cons (show Good l Z hz shp A O x code 17 ret 6 (sPush (0, .int 1) 7) from g_iconst at_6 rfl) ?_
  refine okc_cons (show Good l Z hz shp A O x code 17 ret 7 (sGoto 11) from g_goto at_7 (by decide) (by decide)) ?_
  refine okc_cons (show Good l Z hz shp A O x code 17 ret 10 (sPush (0, .int 0) 11) from g_iconst at_10 rfl) ?_
  refine okc_cons (show Good l Z hz shp A O x code 17 ret 11 (sStore 0 5 13) from g_istore at_11) ?_
  refine okc_cons (show Good l Z hz shp A O x code 17 ret 13 (sLoad 0 0 14) from g_iloadN at_13) ?_
  refine okc_cons (show Good l Z hz shp A O x code 17 ret 14 (sPush (0, .int 2) 15) from g_iconst at_14 rfl) ?_
  refine okc_cons (show Good l Z hz shp A O x code 17 ret 15 (sBin 0 0 0 (jI (Term.op2 .iand)) 16) from g_iand at_15) ?_
  refine okc_cons (show Good l Z hz shp A O x code 17 ret 16 (sIf .eq 23 19) from g_if at_16 (by decide) (by decide)) ?_
  refine okc_cons (show Good l Z hz shp A O x code 17 ret 19 (sPush (0, .int 1) 20) from g_iconst at_19 rfl) ?_
  refine okc_cons (show Good l Z hz shp A O x code 17 ret 20 (sGoto 24) from g_goto at_20 (by decide) (by decide)) ?_
  refine okc_cons (show Good l Z hz shp A O x code 17 ret 23 (sPush (0, .int 0) 24) from g_iconst at_23 rfl) ?_
  refine okc_cons (show Good l Z hz shp A O x code 17 ret 24 (sStore 0 6 26) from g_istore at_24) ?_
  refine okc_cons (show Good l Z hz shp A O x code 17 ret 26 (sLoad 0 0 27) from g_iloadN at_26) ?_
  refine okc_cons (show Good l Z hz shp A O x code 17 ret 27 (sPush (0, .int 4) 28) from g_iconst at_27 rfl) ?_
  refine okc_cons (show Good l Z hz shp A O x code 17 ret 28 (sBin 0 0 0 (jI (Term.op2 .iand)) 29) from g_iand at_28) ?_
  refine okc_cons (show Good l Z hz shp A O x code 17 ret 29 (sIf .eq 36 32) from g_if at_29 (by decide) (by decide)) ?_
  refine okc_cons (show Good l Z hz shp A O x code 17 ret 32 (sPush (0, .int 1) 33) from g_iconst at_32 rfl) ?_
  refine okc_cons (show Good l Z hz shp A O x code 17 ret 33 (sGoto 37) from g_goto at_33 (by decide) (by decide)) ?_
  refine okc_cons (show Good l Z hz shp A O x code 17 ret 36 (sPush (0, .int 0) 37) from g_iconst at_36 rfl) ?_
  refine okc_cons (show Good l Z hz shp A O x code 17 ret 37 (sStore 0 7 39) from g_istore at_37) ?_
  refine okc_cons (show Good l Z hz shp A O x code 17 ret 39 (sLoad 0 0 40) from g_iloadN at_39) ?_
  refine okc_cons (show Good l Z hz shp A O x code 17 ret 40 (sPush (0, .int 8) 42) from g_bipush at_40 rfl) ?_
  refine okc_cons (show Good l Z hz shp A O x code 17 ret 42 (sBin 0 0 0 (jI (Term.op2 .iand)) 43) from g_iand at_42) ?_
  refine okc_cons (show Good l Z hz shp A O x code 17 ret 43 (sIf .eq 50 46) from g_if at_43 (by decide) (by decide)) ?_
  refine okc_cons (show Good l Z hz shp A O x code 17 ret 46 (sPush (0, .int 1) 47) from g_iconst at_46 rfl) ?_
  refine okc_cons (show Good l Z hz shp A O x code 17 ret 47 (sGoto 51) from g_goto at_47 (by decide) (by decide)) ?_
  refine okc_cons (show Good l Z hz shp A O x code 17 ret 50 (sPush (0, .int 0) 51) from g_iconst at_50 rfl) ?_
  refine okc_cons (show Good l Z hz shp A O x code 17 ret 51 (sStore 0 8 53) from g_istore at_51) ?_
  refine okc_cons (show Good l Z hz shp A O x code 17 ret 53 (sLoad 0 5 55) from g_iload at_53) ?_
  refine okc_cons (show Good l Z hz shp A O x code 17 ret 55 (sLoad 0 7 57) from g_iload at_55) ?_
  refine okc_cons (show Good l Z hz shp A O x code 17 ret 57 (sLoad 0 1 58) from g_iloadN at_57) ?_
  refine okc_cons (show Good l Z hz shp A O x code 17 ret 58 (sLoad 0 2 59) from g_iloadN at_58) ?_
  refine okc_cons (show Good l Z hz shp A O x code 17 ret 59 (sStop) from g_stop) ?_
  refine okc_cons (show Good l Z hz shp A O x code 17 ret 62 (sStore 2 9 64) from g_astore at_62) ?_
  refine okc_cons (show Good l Z hz shp A O x code 17 ret 64 (sLoad 0 6 66) from g_iload at_64) ?_
  refine okc_cons (show Good l Z hz shp A O x code 17 ret 66 (sLoad 0 8 68) from g_iload at_66) ?_
  refine okc_cons (show Good l Z hz shp A O x code 17 ret 68 (sLoad 0 3 69) from g_iloadN at_68) ?_
  refine okc_cons (show Good l Z hz shp A O x code 17 ret 69 (sLoad 0 4 71) from g_iload at_69) ?_
  refine okc_cons (show Good l Z hz shp A O x code 17 ret 71 (sStop) from g_stop) ?_
  refine okc_cons (show Good l Z hz shp A O x code 17 ret 74 (sStore 2 10 76) from g_astore at_74) ?_
  refine okc_cons (show Good l Z hz shp A O x code 17 ret 76 (sNew 0 2 ds_0 79) from g_new (sid := 0) at_76 rfl (sok_0 hw) (by decide) rfl (hw _ (List.mem_of_getElem? (i := 4) rfl)) (hw _ (List.mem_of_getElem? (i := 6) rfl))) ?_
  refine okc_cons (show Good l Z hz shp A O x code 17 ret 79 (sDup 80) from g_dup at_79) ?_
  refine okc_cons (show Good l Z hz shp A O x code 17 ret 80 (sLoad 2 9 82) from g_aload at_80) ?_
  refine okc_cons (show Good l Z hz shp A O x code 17 ret 82 (sLoad 2 10 84) from g_aload at_82) ?_
  refine okc_cons (fun m hm => by
    obtain rfl : m = (3, cd_2) := (Option.some.inj hm).symm
    exact (show CallGood l Z hz shp A O x code 17 ret (⟨"com/example/anole/anole/xpath/NameTest", "<init>", "(Ljava/lang/String;Ljava/lang/String;)V"⟩ : MethodName) prog_99_method_1_code 3 none 84 3 87 (ckObj 0) from c_init (a0 := a0) (sid := 0) (hd := at_84) (hpl := pl_2) (hdesc := pd_2) (hna := rfl) (hy := by decide) (w1 := (hw _ (List.mem_of_getElem? (i := 7) rfl))) (w2 := (hw _ (List.mem_of_getElem? (i := 8) rfl))) (w3 := (hw _ (List.mem_of_getElem? (i := 6) rfl))) (w4 := (hw _ (List.mem_of_getElem? (i := 9) rfl))) (hn := rfl))) ?_
  refine okc_cons (show Good l Z hz shp A O x code 17 ret 87 (sStore 2 11 89) from g_astore at_87) ?_
  refine okc_cons (show Good l Z hz shp A O x code 17 ret 89 (sPush (0, .int 0) 90) from g_iconst at_89 rfl) ?_
  refine okc_cons (show Good l Z hz shp A O x code 17 ret 90 (sStore 0 12 92) from g_istore at_90) ?_
  refine okc_cons (show Good l Z hz shp A O x code 17 ret 92 (sLoad 0 5 94) from g_iload at_92) ?_
  refine okc_cons (show Good l Z hz shp A O x code 17 ret 94 (sIf .ne 103 97) from g_if at_94 (by decide) (by decide)) ?_
  refine okc_cons (show Good l Z hz shp A O x code 17 ret 97 (sLoad 0 12 99) from g_iload at_97) ?_
  refine okc_cons (show Good l Z hz shp A O x code 17 ret 99 (sPush (0, .int 1) 100) from g_iconst at_99 rfl) ?_
  refine okc_cons (show Good l Z hz shp A O x code 17 ret 100 (sBin 0 0 0 (jI Term.add) 101) from g_iadd at_100) ?_
  refine okc_cons (show Good l Z hz shp A O x code 17 ret 101 (sStore 0 12 103) from g_istore at_101) ?_
  refine okc_cons (show Good l Z hz shp A O x code 17 ret 103 (sLoad 0 6 105) from g_iload at_103) ?_
  refine okc_cons (show Good l Z hz shp A O x code 17 ret 105 (sIf .ne 114 108) from g_if at_105 (by decide) (by decide)) ?_
  refine okc_cons (show Good l Z hz shp A O x code 17 ret 108 (sLoad 0 12 110) from g_iload at_108) ?_
  refine okc_cons (show Good l Z hz shp A O x code 17 ret 110 (sPush (0, .int 1) 111) from g_iconst at_110 rfl) ?_
  refine okc_cons (show Good l Z hz shp A O x code 17 ret 111 (sBin 0 0 0 (jI Term.add) 112) from g_iadd at_111) ?_
  refine okc_cons (show Good l Z hz shp A O x code 17 ret 112 (sStore 0 12 114) from g_istore at_112) ?_
  refine okc_cons (show Good l Z hz shp A O x code 17 ret 114 (sPush (0, .int 0) 115) from g_iconst at_114 rfl) ?_
  refine okc_cons (show Good l Z hz shp A O x code 17 ret 115 (sLoad 0 12 117) from g_iload at_115) ?_
  refine okc_cons (show Good l Z hz shp A O x code 17 ret 117 (sBin 0 0 0 (jI Term.sub) 118) from g_isub at_117) ?_
  refine okc_cons (show Good l Z hz shp A O x code 17 ret 118 (sI2d 119) from g_i2d at_118) ?_
  refine okc_cons (show Good l Z hz shp A O x code 17 ret 119 (sPush (dl 4616189618054758400) 122) from g_ldc2d (a0 := a0) at_119 (hw _ (List.mem_of_getElem? (i := 17) rfl))) ?_
  refine okc_cons (show Good l Z hz shp A O x code 17 ret 122 (sDdiv 123) from g_ddiv at_122) ?_
  refine okc_cons (show Good l Z hz shp A O x code 17 ret 123 (sStore 3 13 125) from g_dstore at_123) ?_
  refine okc_cons (show Good l Z hz shp A O x code 17 ret 125 (sLoad 2 11 127) from g_aload at_125) ?_
  refine okc_cons (fun m hm => by
    obtain rfl : m = (3, cd_4) := (Option.some.inj hm).symm
    exact (show CallGood l Z hz shp A O x code 17 ret (⟨"com/example/anole/anole/xpath/NameTest", "defaultPriority", "()D"⟩ : MethodName) prog_99_method_4_code 3 (some .double) 127 1 130 (ckObj 0) from c_virtual (a0 := a0) (sid := 0) (hd := at_127) (hpl := pl_4) (hdesc := pd_4) (hna := rfl) (hy := by decide) (w1 := (hw _ (List.mem_of_getElem? (i := 18) rfl))) (w2 := (hw _ (List.mem_of_getElem? (i := 20) rfl))) (w3 := (hw _ (List.mem_of_getElem? (i := 6) rfl))) (w4 := (hw _ (List.mem_of_getElem? (i := 22) rfl))) (hs := rfl) (w5 := (hw _ (List.mem_of_getElem? (i := 19) rfl))) (w6 := (hw _ (List.mem_of_getElem? (i := 21) rfl))))) ?_
  refine okc_cons (show Good l Z hz shp A O x code 17 ret 130 (sStore 3 15 132) from g_dstore at_130) ?_
  refine okc_cons (show Good l Z hz shp A O x code 17 ret 132 (sLoad 3 15 134) from g_dload at_132) ?_
  refine okc_cons (show Good l Z hz shp A O x code 17 ret 134 (sLoad 3 13 136) from g_dload at_134) ?_
  refine okc_cons (show Good l Z hz shp A O x code 17 ret 136 (sDcmp .l 137) from g_dcmp at_136) ?_
  refine okc_cons (show Good l Z hz shp A O x code 17 ret 137 (sIf .ne 144 140) from g_if at_137 (by decide) (by decide)) ?_
  refine okc_cons (show Good l Z hz shp A O x code 17 ret 140 (sPush (0, .int 1) 141) from g_iconst at_140 rfl) ?_
  refine okc_cons (show Good l Z hz shp A O x code 17 ret 141 (sGoto 145) from g_goto at_141 (by decide) (by decide)) ?_
  refine okc_cons (show Good l Z hz shp A O x code 17 ret 144 (sPush (0, .int 0) 145) from g_iconst at_144 rfl) ?_
  refine okc_cons (show RetGood l Z hz shp A O x code 17 ret 145 (rVal .boolean) from g_ret at_145 (by decide) (by simp)) ?_
  exact okc_nil
set_option maxRecDepth 65536 in
set_option maxHeartbeats 40000000 in
theorem cok_2 (hw : ∀ d ∈ tables_1, d.before a0 Z = true) : ∀ el ∈ cd_2, ElOk l Z hz shp A O CC NN mts mis 2 3 el := by
  unfold cd_2
  refine okc_cons (show Good l Z hz shp A O (⟨"com/example/anole/anole/xpath/NameTest", "<init>", "(Ljava/lang/String;Ljava/lang/String;)V"⟩ : MethodName) prog_99_method_1_code 3 none 0 (sLoad 2 0 1) from g_aloadN d2_0) ?_
  refine okc_cons (show GoodN l Z hz shp A O (⟨"com/example/anole/anole/xpath/NameTest", "<init>", "(Ljava/lang/String;Ljava/lang/String;)V"⟩ : MethodName) prog_99_method_1_code 3 none 1 (sInitO 3 4) from g_initO d2_1 (hw _ (List.mem_of_getElem? (i := 10) rfl)) (hw _ (List.mem_of_getElem? (i := 11) rfl)) (hw _ (List.mem_of_getElem? (i := 12) rfl))) ?_
  refine okc_cons (show Good l Z hz shp A O (⟨"com/example/anole/anole/xpath/NameTest", "<init>", "(Ljava/lang/String;Ljava/lang/String;)V"⟩ : MethodName) prog_99_method_1_code 3 none 4 (sLoad 2 0 5) from g_aloadN d2_4) ?_
  refine okc_cons (show Good l Z hz shp A O (⟨"com/example/anole/anole/xpath/NameTest", "<init>", "(Ljava/lang/String;Ljava/lang/String;)V"⟩ : MethodName) prog_99_method_1_code 3 none 5 (sLoad 2 1 6) from g_aloadN d2_5) ?_
  refine okc_cons (show Good l Z hz shp A O (⟨"com/example/anole/anole/xpath/NameTest", "<init>", "(Ljava/lang/String;Ljava/lang/String;)V"⟩ : MethodName) prog_99_method_1_code 3 none 6 (sPutF 0 0 (.object "java/lang/String") 9) from g_putfield (sid := 0) (i := 0) (R0 := "com/example/anole/anole/xpath/NameTest") d2_6 rfl (sok_0 hw) rfl (by decide) (hw _ (List.mem_of_getElem? (i := 13) rfl)) Via.refl (Or.inr ⟨(hw _ (List.mem_of_getElem? (i := 14) rfl)), rfl, rfl⟩)) ?_
  refine okc_cons (show Good l Z hz shp A O (⟨"com/example/anole/anole/xpath/NameTest", "<init>", "(Ljava/lang/String;Ljava/lang/String;)V"⟩ : MethodName) prog_99_method_1_code 3 none 9 (sLoad 2 0 10) from g_aloadN d2_9) ?_
  refine okc_cons (show Good l Z hz shp A O (⟨"com/example/anole/anole/xpath/NameTest", "<init>", "(Ljava/lang/String;Ljava/lang/String;)V"⟩ : MethodName) prog_99_method_1_code 3 none 10 (sLoad 2 2 11) from g_aloadN d2_10) ?_
  refine okc_cons (show Good l Z hz shp A O (⟨"com/example/anole/anole/xpath/NameTest", "<init>", "(Ljava/lang/String;Ljava/lang/String;)V"⟩ : MethodName) prog_99_method_1_code 3 none 11 (sPutF 0 1 (.object "java/lang/String") 14) from g_putfield (sid := 0) (i := 1) (R0 := "com/example/anole/anole/xpath/NameTest") d2_11 rfl (sok_0 hw) rfl (by decide) (hw _ (List.mem_of_getElem? (i := 15) rfl)) Via.refl (Or.inr ⟨(hw _ (List.mem_of_getElem? (i := 16) rfl)), rfl, rfl⟩)) ?_
  refine okc_cons (show RetGood l Z hz shp A O (⟨"com/example/anole/anole/xpath/NameTest", "<init>", "(Ljava/lang/String;Ljava/lang/String;)V"⟩ : MethodName) prog_99_method_1_code 3 none 14 (rVoid) from g_return d2_14) ?_
  exact okc_nil
set_option maxRecDepth 65536 in
set_option maxHeartbeats 40000000 in
theorem cok_4 (hw : ∀ d ∈ tables_1, d.before a0 Z = true) : ∀ el ∈ cd_4, ElOk l Z hz shp A O CC NN mts mis 4 3 el := by
  unfold cd_4
  refine okc_cons (show Good l Z hz shp A O (⟨"com/example/anole/anole/xpath/NameTest", "defaultPriority", "()D"⟩ : MethodName) prog_99_method_4_code 3 (some .double) 0 (sLoad 2 0 1) from g_aloadN d4_0) ?_
  refine okc_cons (show Good l Z hz shp A O (⟨"com/example/anole/anole/xpath/NameTest", "defaultPriority", "()D"⟩ : MethodName) prog_99_method_4_code 3 (some .double) 1 (sGetF 0 1 4) from g_getfield (sid := 0) (i := 1) (R0 := "com/example/anole/anole/xpath/NameTest") (host := "") d4_1 rfl rfl (Or.inl (hw _ (List.mem_of_getElem? (i := 15) rfl))) Via.refl) ?_
  refine okc_cons (show Good l Z hz shp A O (⟨"com/example/anole/anole/xpath/NameTest", "defaultPriority", "()D"⟩ : MethodName) prog_99_method_4_code 3 (some .double) 4 (sIfNull true 19 7) from g_ifnull d4_4 (by decide) (by decide)) ?_
  refine okc_cons (show Good l Z hz shp A O (⟨"com/example/anole/anole/xpath/NameTest", "defaultPriority", "()D"⟩ : MethodName) prog_99_method_4_code 3 (some .double) 7 (sLoad 2 0 8) from g_aloadN d4_7) ?_
  refine okc_cons (show Good l Z hz shp A O (⟨"com/example/anole/anole/xpath/NameTest", "defaultPriority", "()D"⟩ : MethodName) prog_99_method_4_code 3 (some .double) 8 (sGetF 0 0 11) from g_getfield (sid := 0) (i := 0) (R0 := "com/example/anole/anole/xpath/NameTest") (host := "") d4_8 rfl rfl (Or.inl (hw _ (List.mem_of_getElem? (i := 13) rfl))) Via.refl) ?_
  refine okc_cons (show Good l Z hz shp A O (⟨"com/example/anole/anole/xpath/NameTest", "defaultPriority", "()D"⟩ : MethodName) prog_99_method_4_code 3 (some .double) 11 (sIfNull true 19 14) from g_ifnull d4_11 (by decide) (by decide)) ?_
  refine okc_cons (show Good l Z hz shp A O (⟨"com/example/anole/anole/xpath/NameTest", "defaultPriority", "()D"⟩ : MethodName) prog_99_method_4_code 3 (some .double) 14 (sPush (dl FP.dconst0) 15) from g_dconst0 d4_14) ?_
  refine okc_cons (show Good l Z hz shp A O (⟨"com/example/anole/anole/xpath/NameTest", "defaultPriority", "()D"⟩ : MethodName) prog_99_method_4_code 3 (some .double) 15 (sStore 3 1 16) from g_dstoreN d4_15) ?_
  refine okc_cons (show Good l Z hz shp A O (⟨"com/example/anole/anole/xpath/NameTest", "defaultPriority", "()D"⟩ : MethodName) prog_99_method_4_code 3 (some .double) 16 (sGoto 44) from g_goto d4_16 (by decide) (by decide)) ?_
  refine okc_cons (show Good l Z hz shp A O (⟨"com/example/anole/anole/xpath/NameTest", "defaultPriority", "()D"⟩ : MethodName) prog_99_method_4_code 3 (some .double) 19 (sLoad 2 0 20) from g_aloadN d4_19) ?_
  refine okc_cons (show Good l Z hz shp A O (⟨"com/example/anole/anole/xpath/NameTest", "defaultPriority", "()D"⟩ : MethodName) prog_99_method_4_code 3 (some .double) 20 (sGetF 0 1 23) from g_getfield (sid := 0) (i := 1) (R0 := "com/example/anole/anole/xpath/NameTest") (host := "") d4_20 rfl rfl (Or.inl (hw _ (List.mem_of_getElem? (i := 15) rfl))) Via.refl) ?_
  refine okc_cons (show Good l Z hz shp A O (⟨"com/example/anole/anole/xpath/NameTest", "defaultPriority", "()D"⟩ : MethodName) prog_99_method_4_code 3 (some .double) 23 (sIfNull false 33 26) from g_ifnonnull d4_23 (by decide) (by decide)) ?_
  refine okc_cons (show Good l Z hz shp A O (⟨"com/example/anole/anole/xpath/NameTest", "defaultPriority", "()D"⟩ : MethodName) prog_99_method_4_code 3 (some .double) 26 (sLoad 2 0 27) from g_aloadN d4_26) ?_
  refine okc_cons (show Good l Z hz shp A O (⟨"com/example/anole/anole/xpath/NameTest", "defaultPriority", "()D"⟩ : MethodName) prog_99_method_4_code 3 (some .double) 27 (sGetF 0 0 30) from g_getfield (sid := 0) (i := 0) (R0 := "com/example/anole/anole/xpath/NameTest") (host := "") d4_27 rfl rfl (Or.inl (hw _ (List.mem_of_getElem? (i := 13) rfl))) Via.refl) ?_
  refine okc_cons (show Good l Z hz shp A O (⟨"com/example/anole/anole/xpath/NameTest", "defaultPriority", "()D"⟩ : MethodName) prog_99_method_4_code 3 (some .double) 30 (sIfNull true 40 33) from g_ifnull d4_30 (by decide) (by decide)) ?_
  refine okc_cons (show Good l Z hz shp A O (⟨"com/example/anole/anole/xpath/NameTest", "defaultPriority", "()D"⟩ : MethodName) prog_99_method_4_code 3 (some .double) 33 (sPush (dl 13821547256400052224) 36) from g_ldc2d (a0 := a0) d4_33 (hw _ (List.mem_of_getElem? (i := 55) rfl))) ?_
  refine okc_cons (show Good l Z hz shp A O (⟨"com/example/anole/anole/xpath/NameTest", "defaultPriority", "()D"⟩ : MethodName) prog_99_method_4_code 3 (some .double) 36 (sStore 3 1 37) from g_dstoreN d4_36) ?_
  refine okc_cons (show Good l Z hz shp A O (⟨"com/example/anole/anole/xpath/NameTest", "defaultPriority", "()D"⟩ : MethodName) prog_99_method_4_code 3 (some .double) 37 (sGoto 44) from g_goto d4_37 (by decide) (by decide)) ?_
  refine okc_cons (show Good l Z hz shp A O (⟨"com/example/anole/anole/xpath/NameTest", "defaultPriority", "()D"⟩ : MethodName) prog_99_method_4_code 3 (some .double) 40 (sPush (dl 13826050856027422720) 43) from g_ldc2d (a0 := a0) d4_40 (hw _ (List.mem_of_getElem? (i := 23) rfl))) ?_
  refine okc_cons (show Good l Z hz shp A O (⟨"com/example/anole/anole/xpath/NameTest", "defaultPriority", "()D"⟩ : MethodName) prog_99_method_4_code 3 (some .double) 43 (sStore 3 1 44) from g_dstoreN d4_43) ?_
  refine okc_cons (show Good l Z hz shp A O (⟨"com/example/anole/anole/xpath/NameTest", "defaultPriority", "()D"⟩ : MethodName) prog_99_method_4_code 3 (some .double) 44 (sLoad 3 1 45) from g_dloadN d4_44) ?_
  refine okc_cons (show RetGood l Z hz shp A O (⟨"com/example/anole/anole/xpath/NameTest", "defaultPriority", "()D"⟩ : MethodName) prog_99_method_4_code 3 (some .double) 45 (rVal .double) from g_ret d4_45 (by decide) (by simp)) ?_
  exact okc_nil
theorem mok (hw : ∀ d ∈ tables_1, d.before a0 Z = true) : MtOk l Z hz shp A O CC NN mts mis := by
  intro j mx code h
  match j, h with
  | 0, h => cases h; exact ⟨cok_0 hw, fun el tl q => by cases q; rfl⟩
  | 1, h => cases h; exact ⟨fun _ q => (nomatch q), fun _ _ q => (by cases q)⟩
  | 2, h => cases h; exact ⟨cok_2 hw, fun el tl q => by cases q; rfl⟩
  | 3, h => cases h; exact ⟨fun _ q => (nomatch q), fun _ _ q => (by cases q)⟩
  | 4, h => cases h; exact ⟨cok_4 hw, fun el tl q => by cases q; rfl⟩
  | 5, h => cases h; exact ⟨fun _ q => (nomatch q), fun _ _ q => (by cases q)⟩
  | 6, h => cases h; exact ⟨fun _ q => (nomatch q), fun _ _ q => (by cases q)⟩
  | 7, h => cases h; exact ⟨fun _ q => (nomatch q), fun _ _ q => (by cases q)⟩
  | 8, h => cases h; exact ⟨fun _ q => (nomatch q), fun _ _ q => (by cases q)⟩
  | 9, h => cases h; exact ⟨fun _ q => (nomatch q), fun _ _ q => (by cases q)⟩
  | j + 10, h => exact absurd h (by simp [mts])
end Valid
namespace Pk
theorem d1_0 : decode method_2_code 0 = .ok (.iload_n 0, 1) := by decide +kernel
theorem d1_1 : decode method_2_code 1 = .ok (.ifCond .ne 5, 3) := by decide +kernel
theorem d1_4 : decode method_2_code 4 = .ok (.aconst_null, 1) := by decide +kernel
theorem d1_5 : decode method_2_code 5 = .ok (.areturn, 1) := by decide +kernel
theorem d1_6 : decode method_2_code 6 = .ok (.iload_n 1, 1) := by decide +kernel
theorem d1_7 : decode method_2_code 7 = .ok (.ifCond .eq 6, 3) := by decide +kernel
theorem d1_10 : decode method_2_code 10 = .ok (.ldc 7, 2) := by decide +kernel
theorem d1_12 : decode method_2_code 12 = .ok (.areturn, 1) := by decide +kernel
theorem d1_13 : decode method_2_code 13 = .ok (.iconst 2, 1) := by decide +kernel
theorem d1_14 : decode method_2_code 14 = .ok (.newarray .char, 2) := by decide +kernel
theorem d1_16 : decode method_2_code 16 = .ok (.astore 4, 2) := by decide +kernel
theorem d1_18 : decode method_2_code 18 = .ok (.aload 4, 2) := by decide +kernel
theorem d1_20 : decode method_2_code 20 = .ok (.iconst 0, 1) := by decide +kernel
theorem d1_21 : decode method_2_code 21 = .ok (.iload_n 2, 1) := by decide +kernel
theorem d1_22 : decode method_2_code 22 = .ok (.sipush 255, 3) := by decide +kernel
theorem d1_25 : decode method_2_code 25 = .ok (.iand, 1) := by decide +kernel
theorem d1_26 : decode method_2_code 26 = .ok (.i2c, 1) := by decide +kernel
theorem d1_27 : decode method_2_code 27 = .ok (.castore, 1) := by decide +kernel
theorem d1_28 : decode method_2_code 28 = .ok (.aload 4, 2) := by decide +kernel
theorem d1_30 : decode method_2_code 30 = .ok (.iconst 1, 1) := by decide +kernel
theorem d1_31 : decode method_2_code 31 = .ok (.iload_n 3, 1) := by decide +kernel
theorem d1_32 : decode method_2_code 32 = .ok (.sipush 255, 3) := by decide +kernel
theorem d1_35 : decode method_2_code 35 = .ok (.iand, 1) := by decide +kernel
theorem d1_36 : decode method_2_code 36 = .ok (.i2c, 1) := by decide +kernel
theorem d1_37 : decode method_2_code 37 = .ok (.castore, 1) := by decide +kernel
theorem d1_38 : decode method_2_code 38 = .ok (.new 9, 3) := by decide +kernel
theorem d1_41 : decode method_2_code 41 = .ok (.dup, 1) := by decide +kernel
theorem d1_42 : decode method_2_code 42 = .ok (.aload 4, 2) := by decide +kernel
theorem d1_44 : decode method_2_code 44 = .ok (.invokespecial 11, 3) := by decide +kernel
theorem d1_47 : decode method_2_code 47 = .ok (.areturn, 1) := by decide +kernel
theorem d5_0 : decode jdk_42_method_3_code 0 = .ok (.aload_n 0, 1) := by decide +kernel
theorem d5_1 : decode jdk_42_method_3_code 1 = .ok (.aload_n 1, 1) := by decide +kernel
theorem d5_2 : decode jdk_42_method_3_code 2 = .ok (.iconst 0, 1) := by decide +kernel
theorem d5_3 : decode jdk_42_method_3_code 3 = .ok (.aload_n 1, 1) := by decide +kernel
theorem d5_4 : decode jdk_42_method_3_code 4 = .ok (.arraylength, 1) := by decide +kernel
theorem d5_5 : decode jdk_42_method_3_code 5 = .ok (.aconst_null, 1) := by decide +kernel
theorem d5_6 : decode jdk_42_method_3_code 6 = .ok (.invokespecial 27, 3) := by decide +kernel
theorem d5_9 : decode jdk_42_method_3_code 9 = .ok (.return_, 1) := by decide +kernel
theorem d6_0 : decode jdk_42_method_149_code 0 = .ok (.aload_n 0, 1) := by decide +kernel
theorem d6_1 : decode jdk_42_method_149_code 1 = .ok (.invokespecial 1, 3) := by decide +kernel
theorem d6_4 : decode jdk_42_method_149_code 4 = .ok (.iload_n 3, 1) := by decide +kernel
theorem d6_5 : decode jdk_42_method_149_code 5 = .ok (.ifCond .ne 22, 3) := by decide +kernel
theorem d6_8 : decode jdk_42_method_149_code 8 = .ok (.aload_n 0, 1) := by decide +kernel
theorem d6_9 : decode jdk_42_method_149_code 9 = .ok (.ldc 7, 2) := by decide +kernel
theorem d6_11 : decode jdk_42_method_149_code 11 = .ok (.getfield 9, 3) := by decide +kernel
theorem d6_14 : decode jdk_42_method_149_code 14 = .ok (.putfield 9, 3) := by decide +kernel
theorem d6_17 : decode jdk_42_method_149_code 17 = .ok (.aload_n 0, 1) := by decide +kernel
theorem d6_18 : decode jdk_42_method_149_code 18 = .ok (.ldc 7, 2) := by decide +kernel
theorem d6_20 : decode jdk_42_method_149_code 20 = .ok (.getfield 15, 3) := by decide +kernel
theorem d6_23 : decode jdk_42_method_149_code 23 = .ok (.putfield 15, 3) := by decide +kernel
theorem d6_26 : decode jdk_42_method_149_code 26 = .ok (.return_, 1) := by decide +kernel
theorem d6_27 : decode jdk_42_method_149_code 27 = .ok (.getstatic 38, 3) := by decide +kernel
theorem d6_30 : decode jdk_42_method_149_code 30 = .ok (.ifCond .eq 28, 3) := by decide +kernel
theorem d6_33 : decode jdk_42_method_149_code 33 = .ok (.aload_n 1, 1) := by decide +kernel
theorem d6_34 : decode jdk_42_method_149_code 34 = .ok (.iload_n 2, 1) := by decide +kernel
theorem d6_35 : decode jdk_42_method_149_code 35 = .ok (.iload_n 3, 1) := by decide +kernel
theorem d6_36 : decode jdk_42_method_149_code 36 = .ok (.invokestatic 177, 3) := by decide +kernel
theorem d6_39 : decode jdk_42_method_149_code 39 = .ok (.astore 5, 2) := by decide +kernel
theorem d6_41 : decode jdk_42_method_149_code 41 = .ok (.aload_n 0, 1) := by decide +kernel
theorem d6_42 : decode jdk_42_method_149_code 42 = .ok (.aload 5, 2) := by decide +kernel
theorem d6_44 : decode jdk_42_method_149_code 44 = .ok (.iload_n 3, 1) := by decide +kernel
theorem d6_45 : decode jdk_42_method_149_code 45 = .ok (.invokestatic 47, 3) := by decide +kernel
theorem d6_48 : decode jdk_42_method_149_code 48 = .ok (.putfield 15, 3) := by decide +kernel
theorem d6_51 : decode jdk_42_method_149_code 51 = .ok (.aload_n 0, 1) := by decide +kernel
theorem d6_52 : decode jdk_42_method_149_code 52 = .ok (.aload 5, 2) := by decide +kernel
theorem d6_54 : decode jdk_42_method_149_code 54 = .ok (.putfield 9, 3) := by decide +kernel
theorem d6_57 : decode jdk_42_method_149_code 57 = .ok (.return_, 1) := by decide +kernel
theorem d6_58 : decode jdk_42_method_149_code 58 = .ok (.aload_n 0, 1) := by decide +kernel
theorem d6_59 : decode jdk_42_method_149_code 59 = .ok (.iconst 1, 1) := by decide +kernel
theorem d6_60 : decode jdk_42_method_149_code 60 = .ok (.putfield 15, 3) := by decide +kernel
theorem d6_63 : decode jdk_42_method_149_code 63 = .ok (.aload_n 0, 1) := by decide +kernel
theorem d6_64 : decode jdk_42_method_149_code 64 = .ok (.aload_n 1, 1) := by decide +kernel
theorem d6_65 : decode jdk_42_method_149_code 65 = .ok (.iload_n 2, 1) := by decide +kernel
theorem d6_66 : decode jdk_42_method_149_code 66 = .ok (.iload_n 3, 1) := by decide +kernel
theorem d6_67 : decode jdk_42_method_149_code 67 = .ok (.invokestatic 180, 3) := by decide +kernel
theorem d6_70 : decode jdk_42_method_149_code 70 = .ok (.putfield 9, 3) := by decide +kernel
theorem d6_73 : decode jdk_42_method_149_code 73 = .ok (.return_, 1) := by decide +kernel
theorem d7_0 : decode jdk_52_method_16_code 0 = .ok (.iload_n 2, 1) := by decide +kernel
theorem d7_1 : decode jdk_52_method_16_code 1 = .ok (.newarray .byte, 2) := by decide +kernel
theorem d7_3 : decode jdk_52_method_16_code 3 = .ok (.astore_n 3, 1) := by decide +kernel
theorem d7_4 : decode jdk_52_method_16_code 4 = .ok (.aload_n 0, 1) := by decide +kernel
theorem d7_5 : decode jdk_52_method_16_code 5 = .ok (.iload_n 1, 1) := by decide +kernel
theorem d7_6 : decode jdk_52_method_16_code 6 = .ok (.aload_n 3, 1) := by decide +kernel
theorem d7_7 : decode jdk_52_method_16_code 7 = .ok (.iconst 0, 1) := by decide +kernel
theorem d7_8 : decode jdk_52_method_16_code 8 = .ok (.iload_n 2, 1) := by decide +kernel
theorem d7_9 : decode jdk_52_method_16_code 9 = .ok (.invokestatic 115, 3) := by decide +kernel
theorem d7_12 : decode jdk_52_method_16_code 12 = .ok (.istore 4, 2) := by decide +kernel
theorem d7_14 : decode jdk_52_method_16_code 14 = .ok (.iload 4, 2) := by decide +kernel
theorem d7_16 : decode jdk_52_method_16_code 16 = .ok (.iload_n 2, 1) := by decide +kernel
theorem d7_17 : decode jdk_52_method_16_code 17 = .ok (.if_icmp .eq 40, 3) := by decide +kernel
theorem d7_20 : decode jdk_52_method_16_code 20 = .ok (.aload_n 0, 1) := by decide +kernel
theorem d7_21 : decode jdk_52_method_16_code 21 = .ok (.iload_n 1, 1) := by decide +kernel
theorem d7_22 : decode jdk_52_method_16_code 22 = .ok (.iload_n 2, 1) := by decide +kernel
theorem d7_23 : decode jdk_52_method_16_code 23 = .ok (.invokestatic 119, 3) := by decide +kernel
theorem d7_26 : decode jdk_52_method_16_code 26 = .ok (.astore 5, 2) := by decide +kernel
theorem d7_28 : decode jdk_52_method_16_code 28 = .ok (.aload 5, 2) := by decide +kernel
theorem d7_30 : decode jdk_52_method_16_code 30 = .ok (.iload 4, 2) := by decide +kernel
theorem d7_32 : decode jdk_52_method_16_code 32 = .ok (.invokestatic 71, 3) := by decide +kernel
theorem d7_35 : decode jdk_52_method_16_code 35 = .ok (.sipush 255, 3) := by decide +kernel
theorem d7_38 : decode jdk_52_method_16_code 38 = .ok (.if_icmp .gt 16, 3) := by decide +kernel
theorem d7_41 : decode jdk_52_method_16_code 41 = .ok (.aload 5, 2) := by decide +kernel
theorem d7_43 : decode jdk_52_method_16_code 43 = .ok (.iconst 0, 1) := by decide +kernel
theorem d7_44 : decode jdk_52_method_16_code 44 = .ok (.aload_n 3, 1) := by decide +kernel
theorem d7_45 : decode jdk_52_method_16_code 45 = .ok (.iconst 0, 1) := by decide +kernel
theorem d7_46 : decode jdk_52_method_16_code 46 = .ok (.iload_n 2, 1) := by decide +kernel
theorem d7_47 : decode jdk_52_method_16_code 47 = .ok (.invokestatic 123, 3) := by decide +kernel
theorem d7_50 : decode jdk_52_method_16_code 50 = .ok (.iload_n 2, 1) := by decide +kernel
theorem d7_51 : decode jdk_52_method_16_code 51 = .ok (.if_icmp .eq 6, 3) := by decide +kernel
theorem d7_54 : decode jdk_52_method_16_code 54 = .ok (.aload 5, 2) := by decide +kernel
theorem d7_56 : decode jdk_52_method_16_code 56 = .ok (.areturn, 1) := by decide +kernel
theorem d7_57 : decode jdk_52_method_16_code 57 = .ok (.aload_n 3, 1) := by decide +kernel
theorem d7_58 : decode jdk_52_method_16_code 58 = .ok (.areturn, 1) := by decide +kernel
theorem d8_0 : decode jdk_52_method_21_code 0 = .ok (.iconst 0, 1) := by decide +kernel
theorem d8_1 : decode jdk_52_method_21_code 1 = .ok (.istore 5, 2) := by decide +kernel
theorem d8_3 : decode jdk_52_method_21_code 3 = .ok (.iload 5, 2) := by decide +kernel
theorem d8_5 : decode jdk_52_method_21_code 5 = .ok (.iload 4, 2) := by decide +kernel
theorem d8_7 : decode jdk_52_method_21_code 7 = .ok (.if_icmp .ge 37, 3) := by decide +kernel
theorem d8_10 : decode jdk_52_method_21_code 10 = .ok (.aload_n 0, 1) := by decide +kernel
theorem d8_11 : decode jdk_52_method_21_code 11 = .ok (.iload_n 1, 1) := by decide +kernel
theorem d8_12 : decode jdk_52_method_21_code 12 = .ok (.caload, 1) := by decide +kernel
theorem d8_13 : decode jdk_52_method_21_code 13 = .ok (.istore 6, 2) := by decide +kernel
theorem d8_15 : decode jdk_52_method_21_code 15 = .ok (.iload 6, 2) := by decide +kernel
theorem d8_17 : decode jdk_52_method_21_code 17 = .ok (.sipush 255, 3) := by decide +kernel
theorem d8_20 : decode jdk_52_method_21_code 20 = .ok (.if_icmp .le 6, 3) := by decide +kernel
theorem d8_23 : decode jdk_52_method_21_code 23 = .ok (.iload 5, 2) := by decide +kernel
theorem d8_25 : decode jdk_52_method_21_code 25 = .ok (.ireturn, 1) := by decide +kernel
theorem d8_26 : decode jdk_52_method_21_code 26 = .ok (.aload_n 2, 1) := by decide +kernel
theorem d8_27 : decode jdk_52_method_21_code 27 = .ok (.iload_n 3, 1) := by decide +kernel
theorem d8_28 : decode jdk_52_method_21_code 28 = .ok (.iload 6, 2) := by decide +kernel
theorem d8_30 : decode jdk_52_method_21_code 30 = .ok (.i2b, 1) := by decide +kernel
theorem d8_31 : decode jdk_52_method_21_code 31 = .ok (.bastore, 1) := by decide +kernel
theorem d8_32 : decode jdk_52_method_21_code 32 = .ok (.iinc 1 1, 3) := by decide +kernel
theorem d8_35 : decode jdk_52_method_21_code 35 = .ok (.iinc 3 1, 3) := by decide +kernel
theorem d8_38 : decode jdk_52_method_21_code 38 = .ok (.iinc 5 1, 3) := by decide +kernel
theorem d8_41 : decode jdk_52_method_21_code 41 = .ok (.goto (-38), 3) := by decide +kernel
theorem d8_44 : decode jdk_52_method_21_code 44 = .ok (.iload 4, 2) := by decide +kernel
theorem d8_46 : decode jdk_52_method_21_code 46 = .ok (.ireturn, 1) := by decide +kernel
theorem d9_0 : decode jdk_52_method_15_code 0 = .ok (.iload_n 1, 1) := by decide +kernel
theorem d9_1 : decode jdk_52_method_15_code 1 = .ok (.aload_n 0, 1) := by decide +kernel
theorem d9_2 : decode jdk_52_method_15_code 2 = .ok (.arraylength, 1) := by decide +kernel
theorem d9_3 : decode jdk_52_method_15_code 3 = .ok (.isub, 1) := by decide +kernel
theorem d9_4 : decode jdk_52_method_15_code 4 = .ok (.bipush 31, 2) := by decide +kernel
theorem d9_6 : decode jdk_52_method_15_code 6 = .ok (.iushr, 1) := by decide +kernel
theorem d9_7 : decode jdk_52_method_15_code 7 = .ok (.i2b, 1) := by decide +kernel
theorem d9_8 : decode jdk_52_method_15_code 8 = .ok (.ireturn, 1) := by decide +kernel
theorem pl_0 : plainFor (⟨"com/example/anole/anole/xpath/NameTestDefaultPriorityPinLaw", "law", "(IIIII)Z"⟩ : MethodName) = true := plainFor_of_name (by first | (simp [plainName, overriddenIn]; done) | decide +kernel)
theorem pd_0 : parseMethodDescriptor "(IIIII)Z" = some ⟨[.int, .int, .int, .int, .int], some .boolean⟩ := by decide +kernel
theorem pl_1 : plainFor (⟨"com/example/anole/anole/xpath/NameTestDefaultPriorityPinLaw", "pick", "(ZZII)Ljava/lang/String;"⟩ : MethodName) = true := plainFor_of_name (by first | (simp [plainName, overriddenIn]; done) | decide +kernel)
theorem pd_1 : parseMethodDescriptor "(ZZII)Ljava/lang/String;" = some ⟨[.boolean, .boolean, .int, .int], some (.object "java/lang/String")⟩ := by decide +kernel
theorem pl_5 : plainFor (⟨"java/lang/String", "<init>", "([C)V"⟩ : MethodName) = true := plainFor_of_name (by first | (simp [plainName, overriddenIn]; done) | decide +kernel)
theorem pd_5 : parseMethodDescriptor "([C)V" = some ⟨[(.array .char)], none⟩ := by decide +kernel
theorem pl_6 : plainFor (⟨"java/lang/String", "<init>", "([CIILjava/lang/Void;)V"⟩ : MethodName) = true := plainFor_of_name (by first | (simp [plainName, overriddenIn]; done) | decide +kernel)
theorem pd_6 : parseMethodDescriptor "([CIILjava/lang/Void;)V" = some ⟨[(.array .char), .int, .int, (.object "java/lang/Void")], none⟩ := by decide +kernel
theorem pl_7 : plainFor (⟨"java/lang/StringUTF16", "compress", "([CII)[B"⟩ : MethodName) = true := plainFor_of_name (by first | (simp [plainName, overriddenIn]; done) | decide +kernel)
theorem pd_7 : parseMethodDescriptor "([CII)[B" = some ⟨[(.array .char), .int, .int], some (.array .byte)⟩ := by decide +kernel
theorem pl_8 : plainFor (⟨"java/lang/StringUTF16", "compress", "([CI[BII)I"⟩ : MethodName) = true := plainFor_of_name (by first | (simp [plainName, overriddenIn]; done) | decide +kernel)
theorem pd_8 : parseMethodDescriptor "([CI[BII)I" = some ⟨[(.array .char), .int, (.array .byte), .int, .int], some .int⟩ := by decide +kernel
theorem pl_9 : plainFor (⟨"java/lang/StringUTF16", "coderFromArrayLen", "([BI)B"⟩ : MethodName) = true := plainFor_of_name (by first | (simp [plainName, overriddenIn]; done) | decide +kernel)
theorem pd_9 : parseMethodDescriptor "([BI)B" = some ⟨[(.array .byte), .int], some .byte⟩ := by decide +kernel
def fs_0 : List Fi := [("com/example/anole/anole/xpath/NameTest", "namespaceUri", "Ljava/lang/String;", (.object "java/lang/String")), ("com/example/anole/anole/xpath/NameTest", "localName", "Ljava/lang/String;", (.object "java/lang/String"))]
def ds_0 : List SV := [(2, .null), (2, .null)]
def fs_1 : List Fi := [("java/lang/String", "coder", "B", .byte), ("java/lang/String", "value", "[B", (.array .byte))]
def ds_1 : List SV := [(0, .int 0), (2, .null)]
def shp : List Sh := [(none, "com/example/anole/anole/xpath/NameTest", 2, fs_0), (none, "java/lang/String", 4, fs_1), (some .char, "", 0, []), (some .byte, "", 0, [])]
def cd_0 : List El := [(0, kS (sLoad 0 0 1)),
  (1, kS (sPush (0, .int 1) 2)),
  (2, kS (sBin 0 0 0 (jI (Term.op2 .iand)) 3)),
  (3, kS (sIf .eq 10 6)),
  (6, kS (sPush (0, .int 1) 7)),
  (7, kS (sGoto 11)),
  (10, kS (sPush (0, .int 0) 11)),
  (11, kS (sStore 0 5 13)),
  (13, kS (sLoad 0 0 14)),
  (14, kS (sPush (0, .int 2) 15)),
  (15, kS (sBin 0 0 0 (jI (Term.op2 .iand)) 16)),
  (16, kS (sIf .eq 23 19)),
  (19, kS (sPush (0, .int 1) 20)),
  (20, kS (sGoto 24)),
  (23, kS (sPush (0, .int 0) 24)),
  (24, kS (sStore 0 6 26)),
  (26, kS (sLoad 0 0 27)),
  (27, kS (sPush (0, .int 4) 28)),
  (28, kS (sBin 0 0 0 (jI (Term.op2 .iand)) 29)),
  (29, kS (sIf .eq 36 32)),
  (32, kS (sPush (0, .int 1) 33)),
  (33, kS (sGoto 37)),
  (36, kS (sPush (0, .int 0) 37)),
  (37, kS (sStore 0 7 39)),
  (39, kS (sLoad 0 0 40)),
  (40, kS (sPush (0, .int 8) 42)),
  (42, kS (sBin 0 0 0 (jI (Term.op2 .iand)) 43)),
  (43, kS (sIf .eq 50 46)),
  (46, kS (sPush (0, .int 1) 47)),
  (47, kS (sGoto 51)),
  (50, kS (sPush (0, .int 0) 51)),
  (51, kS (sStore 0 8 53)),
  (53, kS (sLoad 0 5 55)),
  (55, kS (sLoad 0 7 57)),
  (57, kS (sLoad 0 1 58)),
  (58, kS (sLoad 0 2 59)),
  (59, kC 1 4 62 (ckAny)),
  (62, kS (sStore 2 9 64)),
  (64, kS (sLoad 0 6 66)),
  (66, kS (sLoad 0 8 68)),
  (68, kS (sLoad 0 3 69)),
  (69, kS (sLoad 0 4 71)),
  (71, kC 1 4 74 (ckAny)),
  (74, kS (sStore 2 10 76)),
  (76, kS (sNew 0 2 ds_0 79)),
  (79, kS (sDup 80)),
  (80, kS (sLoad 2 9 82)),
  (82, kS (sLoad 2 10 84)),
  (84, kS (sStop)),
  (87, kS (sStore 2 11 89)),
  (89, kS (sPush (0, .int 0) 90)),
  (90, kS (sStore 0 12 92)),
  (92, kS (sLoad 0 5 94)),
  (94, kS (sIf .ne 103 97)),
  (97, kS (sLoad 0 12 99)),
  (99, kS (sPush (0, .int 1) 100)),
  (100, kS (sBin 0 0 0 (jI Term.add) 101)),
  (101, kS (sStore 0 12 103)),
  (103, kS (sLoad 0 6 105)),
  (105, kS (sIf .ne 114 108)),
  (108, kS (sLoad 0 12 110)),
  (110, kS (sPush (0, .int 1) 111)),
  (111, kS (sBin 0 0 0 (jI Term.add) 112)),
  (112, kS (sStore 0 12 114)),
  (114, kS (sPush (0, .int 0) 115)),
  (115, kS (sLoad 0 12 117)),
  (117, kS (sBin 0 0 0 (jI Term.sub) 118)),
  (118, kS (sI2d 119)),
  (119, kS (sPush (dl 4616189618054758400) 122)),
  (122, kS (sDdiv 123)),
  (123, kS (sStore 3 13 125)),
  (125, kS (sLoad 2 11 127)),
  (127, kS (sStop)),
  (130, kS (sStore 3 15 132)),
  (132, kS (sLoad 3 15 134)),
  (134, kS (sLoad 3 13 136)),
  (136, kS (sDcmp .l 137)),
  (137, kS (sIf .ne 144 140)),
  (140, kS (sPush (0, .int 1) 141)),
  (141, kS (sGoto 145)),
  (144, kS (sPush (0, .int 0) 145)),
  (145, kR (rVal .boolean))]
def cd_1 : List El := [(0, kS (sLoad 0 0 1)),
  (1, kS (sIf .ne 6 4)),
  (4, kS (sPush (2, .null) 5)),
  (5, kR (rVal (.object "java/lang/String"))),
  (6, kS (sLoad 0 1 7)),
  (7, kS (sIf .eq 13 10)),
  (10, kS (sStop)),
  (12, kR (rVal (.object "java/lang/String"))),
  (13, kS (sPush (0, .int 2) 14)),
  (14, kS (sNewA 2 .char 16)),
  (16, kS (sStore 2 4 18)),
  (18, kS (sLoad 2 4 20)),
  (20, kS (sPush (0, .int 0) 21)),
  (21, kS (sLoad 0 2 22)),
  (22, kS (sPush (0, .int 255) 25)),
  (25, kS (sBin 0 0 0 (jI (Term.op2 .iand)) 26)),
  (26, kS (sUn 0 0 (uI (Term.op1 .i2c)) 27)),
  (27, kS (sAst 2 .char 28)),
  (28, kS (sLoad 2 4 30)),
  (30, kS (sPush (0, .int 1) 31)),
  (31, kS (sLoad 0 3 32)),
  (32, kS (sPush (0, .int 255) 35)),
  (35, kS (sBin 0 0 0 (jI (Term.op2 .iand)) 36)),
  (36, kS (sUn 0 0 (uI (Term.op1 .i2c)) 37)),
  (37, kS (sAst 2 .char 38)),
  (38, kS (sNew 1 4 ds_1 41)),
  (41, kS (sDup 42)),
  (42, kS (sLoad 2 4 44)),
  (44, kC 5 2 47 (ckObj 1)),
  (47, kR (rVal (.object "java/lang/String")))]
def cd_5 : List El := [(0, kS (sLoad 2 0 1)),
  (1, kS (sLoad 2 1 2)),
  (2, kS (sPush (0, .int 0) 3)),
  (3, kS (sLoad 2 1 4)),
  (4, kS (sLenA 2 5)),
  (5, kS (sPush (2, .null) 6)),
  (6, kC 6 5 9 (ckObj 1)),
  (9, kR (rVoid))]
def cd_6 : List El := [(0, kS (sLoad 2 0 1)),
  (1, kN (sInitO 6 4)),
  (4, kS (sLoad 0 3 5)),
  (5, kS (sIf .ne 27 8)),
  (8, kS (sLoad 2 0 9)),
  (9, kS (sStop)),
  (11, kS (sGetF 1 1 14)),
  (14, kS (sPutF 1 1 (.array .byte) 17)),
  (17, kS (sLoad 2 0 18)),
  (18, kS (sStop)),
  (20, kS (sGetF 1 0 23)),
  (23, kS (sPutF 1 0 .byte 26)),
  (26, kR (rVoid)),
  (27, kS (sPush (0, .arg 9) 30)),
  (30, kS (sIf .eq 58 33)),
  (33, kS (sLoad 2 1 34)),
  (34, kS (sLoad 0 2 35)),
  (35, kS (sLoad 0 3 36)),
  (36, kC 7 3 39 (ckAny)),
  (39, kS (sStore 2 5 41)),
  (41, kS (sLoad 2 0 42)),
  (42, kS (sLoad 2 5 44)),
  (44, kS (sLoad 0 3 45)),
  (45, kC 9 2 48 (ckAny)),
  (48, kS (sPutF 1 0 .byte 51)),
  (51, kS (sLoad 2 0 52)),
  (52, kS (sLoad 2 5 54)),
  (54, kS (sPutF 1 1 (.array .byte) 57)),
  (57, kR (rVoid)),
  (58, kS (sLoad 2 0 59)),
  (59, kS (sPush (0, .int 1) 60)),
  (60, kS (sPutF 1 0 .byte 63)),
  (63, kS (sLoad 2 0 64)),
  (64, kS (sLoad 2 1 65)),
  (65, kS (sLoad 0 2 66)),
  (66, kS (sLoad 0 3 67)),
  (67, kS (sStop)),
  (70, kS (sPutF 1 1 (.array .byte) 73)),
  (73, kR (rVoid))]
def cd_7 : List El := [(0, kS (sLoad 0 2 1)),
  (1, kS (sNewA 3 .byte 3)),
  (3, kS (sStore 2 3 4)),
  (4, kS (sLoad 2 0 5)),
  (5, kS (sLoad 0 1 6)),
  (6, kS (sLoad 2 3 7)),
  (7, kS (sPush (0, .int 0) 8)),
  (8, kS (sLoad 0 2 9)),
  (9, kC 8 5 12 (ckAny)),
  (12, kS (sStore 0 4 14)),
  (14, kS (sLoad 0 4 16)),
  (16, kS (sLoad 0 2 17)),
  (17, kS (sIcmp .eq 57 20)),
  (20, kS (sLoad 2 0 21)),
  (21, kS (sLoad 0 1 22)),
  (22, kS (sLoad 0 2 23)),
  (23, kS (sStop)),
  (26, kS (sStore 2 5 28)),
  (28, kS (sLoad 2 5 30)),
  (30, kS (sLoad 0 4 32)),
  (32, kS (sStop)),
  (35, kS (sPush (0, .int 255) 38)),
  (38, kS (sIcmp .gt 54 41)),
  (41, kS (sLoad 2 5 43)),
  (43, kS (sPush (0, .int 0) 44)),
  (44, kS (sLoad 2 3 45)),
  (45, kS (sPush (0, .int 0) 46)),
  (46, kS (sLoad 0 2 47)),
  (47, kS (sStop)),
  (50, kS (sLoad 0 2 51)),
  (51, kS (sIcmp .eq 57 54)),
  (54, kS (sLoad 2 5 56)),
  (56, kR (rVal (.array .byte))),
  (57, kS (sLoad 2 3 58)),
  (58, kR (rVal (.array .byte)))]
def cd_8 : List El := [(0, kS (sPush (0, .int 0) 1)),
  (1, kS (sStore 0 5 3)),
  (3, kS (sLoad 0 5 5)),
  (5, kS (sLoad 0 4 7)),
  (7, kS (sIcmp .ge 44 10)),
  (10, kS (sLoad 2 0 11)),
  (11, kS (sLoad 0 1 12)),
  (12, kS (sAld 2 13)),
  (13, kS (sStore 0 6 15)),
  (15, kS (sLoad 0 6 17)),
  (17, kS (sPush (0, .int 255) 20)),
  (20, kS (sIcmp .le 26 23)),
  (23, kS (sLoad 0 5 25)),
  (25, kR (rVal .int)),
  (26, kS (sLoad 2 2 27)),
  (27, kS (sLoad 0 3 28)),
  (28, kS (sLoad 0 6 30)),
  (30, kS (sUn 0 0 (uI (Term.op1 .i2b)) 31)),
  (31, kS (sAst 3 .byte 32)),
  (32, kS (sIinc 1 1 35)),
  (35, kS (sIinc 3 1 38)),
  (38, kS (sIinc 5 1 41)),
  (41, kS (sGoto 3)),
  (44, kS (sLoad 0 4 46)),
  (46, kR (rVal .int))]
def cd_9 : List El := [(0, kS (sLoad 0 1 1)),
  (1, kS (sLoad 2 0 2)),
  (2, kS (sLenA 3 3)),
  (3, kS (sBin 0 0 0 (jI Term.sub) 4)),
  (4, kS (sPush (0, .int 31) 6)),
  (6, kS (sBin 0 0 0 (jI (Term.op2 .iushr)) 7)),
  (7, kS (sUn 0 0 (uI (Term.op1 .i2b)) 8)),
  (8, kR (rVal .byte))]
def mts : List Mt := [(17, cd_0), (5, cd_1), (0, []), (0, []), (0, []), (2, cd_5), (6, cd_6), (6, cd_7), (7, cd_8), (2, cd_9)]
def mis : Nat → MethodName × ByteArray × Option FieldType
  | 0 => (x, code, ret)
  | 1 => ((⟨"com/example/anole/anole/xpath/NameTestDefaultPriorityPinLaw", "pick", "(ZZII)Ljava/lang/String;"⟩ : MethodName), method_2_code, some (.object "java/lang/String"))
  | 5 => ((⟨"java/lang/String", "<init>", "([C)V"⟩ : MethodName), jdk_42_method_3_code, none)
  | 6 => ((⟨"java/lang/String", "<init>", "([CIILjava/lang/Void;)V"⟩ : MethodName), jdk_42_method_149_code, none)
  | 7 => ((⟨"java/lang/StringUTF16", "compress", "([CII)[B"⟩ : MethodName), jdk_52_method_16_code, some (.array .byte))
  | 8 => ((⟨"java/lang/StringUTF16", "compress", "([CI[BII)I"⟩ : MethodName), jdk_52_method_21_code, some .int)
  | 9 => ((⟨"java/lang/StringUTF16", "coderFromArrayLen", "([BI)B"⟩ : MethodName), jdk_52_method_15_code, some .byte)
  | _ => (x, code, ret)
theorem sok_0 {Z : State} {a0 : Array Value} (hw : ∀ d ∈ tables_1, d.before a0 Z = true) : ShOk Z a0 (none, "com/example/anole/anole/xpath/NameTest", 2, fs_0) := fun _ => ⟨(hw _ (List.mem_of_getElem? (i := 5) rfl)), by
  intro f hf
  simp only [fs_0, List.mem_cons, List.not_mem_nil, or_false] at hf
  rcases hf with rfl | rfl
  · exact ⟨Or.inr (hw _ (List.mem_of_getElem? (i := 14) rfl)), by decide⟩
  · exact ⟨Or.inr (hw _ (List.mem_of_getElem? (i := 16) rfl)), by decide⟩, by decide⟩
theorem sok_1 {Z : State} {a0 : Array Value} (hw : ∀ d ∈ tables_1, d.before a0 Z = true) : ShOk Z a0 (none, "java/lang/String", 4, fs_1) := fun _ => ⟨(hw _ (List.mem_of_getElem? (i := 26) rfl)), by
  intro f hf
  simp only [fs_1, List.mem_cons, List.not_mem_nil, or_false] at hf
  rcases hf with rfl | rfl
  · exact ⟨Or.inr (hw _ (List.mem_of_getElem? (i := 49) rfl)), by decide⟩
  · exact ⟨Or.inr (hw _ (List.mem_of_getElem? (i := 51) rfl)), by decide⟩, by decide⟩

section Valid
variable {l : Launch} {Z : State} {hz : Heap} {A : En} {O : Nat → Addr} {a0 : Array Value} {CC NN : Nat}
theorem okc_nil {M : List Mt} {MI : Nat → MethodName × ByteArray × Option FieldType} {j mx : Nat} : ∀ el ∈ ([] : List El), ElOk l Z hz shp A O CC NN M MI j mx el := fun _ h => nomatch h
theorem okc_cons {M : List Mt} {MI : Nat → MethodName × ByteArray × Option FieldType} {j mx : Nat} {el : El} {es : List El} (h : ElOk l Z hz shp A O CC NN M MI j mx el) (t : ∀ el ∈ es, ElOk l Z hz shp A O CC NN M MI j mx el) : ∀ e ∈ el :: es, ElOk l Z hz shp A O CC NN M MI j mx e := fun e he => (List.mem_cons.mp he).elim (fun q => q ▸ h) (t e)
set_option maxRecDepth 65536 in
set_option maxHeartbeats 40000000 in
theorem cok_0 (hw : ∀ d ∈ tables_1, d.before a0 Z = true) (hS : Sta Z hz "java/lang/String" "COMPACT_STRINGS" "Z" (.int (A 9).1)) : ∀ el ∈ cd_0, ElOk l Z hz shp A O CC NN mts mis 0 17 el := by
  unfold cd_0
  refine okc_cons (show Good l Z hz shp A O x code 17 ret 0 (sLoad 0 0 1) from g_iloadN at_0) ?_
  refine okc_cons (show Good l Z hz shp A O x code 17 ret 1 (sPush (0, .int 1) 2) from g_iconst at_1 rfl) ?_
  refine okc_cons (show Good l Z hz shp A O x code 17 ret 2 (sBin 0 0 0 (jI (Term.op2 .iand)) 3) from g_iand at_2) ?_
  refine okc_cons (show Good l Z hz shp A O x code 17 ret 3 (sIf .eq 10 6) from g_if at_3 (by decide) (by decide)) ?_
  refine okc_cons (show Good l Z hz shp A O x code 17 ret 6 (sPush (0, .int 1) 7) from g_iconst at_6 rfl) ?_
  refine okc_cons (show Good l Z hz shp A O x code 17 ret 7 (sGoto 11) from g_goto at_7 (by decide) (by decide)) ?_
  refine okc_cons (show Good l Z hz shp A O x code 17 ret 10 (sPush (0, .int 0) 11) from g_iconst at_10 rfl) ?_
  refine okc_cons (show Good l Z hz shp A O x code 17 ret 11 (sStore 0 5 13) from g_istore at_11) ?_
  refine okc_cons (show Good l Z hz shp A O x code 17 ret 13 (sLoad 0 0 14) from g_iloadN at_13) ?_
  refine okc_cons (show Good l Z hz shp A O x code 17 ret 14 (sPush (0, .int 2) 15) from g_iconst at_14 rfl) ?_
  refine okc_cons (show Good l Z hz shp A O x code 17 ret 15 (sBin 0 0 0 (jI (Term.op2 .iand)) 16) from g_iand at_15) ?_
  refine okc_cons (show Good l Z hz shp A O x code 17 ret 16 (sIf .eq 23 19) from g_if at_16 (by decide) (by decide)) ?_
  refine okc_cons (show Good l Z hz shp A O x code 17 ret 19 (sPush (0, .int 1) 20) from g_iconst at_19 rfl) ?_
  refine okc_cons (show Good l Z hz shp A O x code 17 ret 20 (sGoto 24) from g_goto at_20 (by decide) (by decide)) ?_
  refine okc_cons (show Good l Z hz shp A O x code 17 ret 23 (sPush (0, .int 0) 24) from g_iconst at_23 rfl) ?_
  refine okc_cons (show Good l Z hz shp A O x code 17 ret 24 (sStore 0 6 26) from g_istore at_24) ?_
  refine okc_cons (show Good l Z hz shp A O x code 17 ret 26 (sLoad 0 0 27) from g_iloadN at_26) ?_
  refine okc_cons (show Good l Z hz shp A O x code 17 ret 27 (sPush (0, .int 4) 28) from g_iconst at_27 rfl) ?_
  refine okc_cons (show Good l Z hz shp A O x code 17 ret 28 (sBin 0 0 0 (jI (Term.op2 .iand)) 29) from g_iand at_28) ?_
  refine okc_cons (show Good l Z hz shp A O x code 17 ret 29 (sIf .eq 36 32) from g_if at_29 (by decide) (by decide)) ?_
  refine okc_cons (show Good l Z hz shp A O x code 17 ret 32 (sPush (0, .int 1) 33) from g_iconst at_32 rfl) ?_
  refine okc_cons (show Good l Z hz shp A O x code 17 ret 33 (sGoto 37) from g_goto at_33 (by decide) (by decide)) ?_
  refine okc_cons (show Good l Z hz shp A O x code 17 ret 36 (sPush (0, .int 0) 37) from g_iconst at_36 rfl) ?_
  refine okc_cons (show Good l Z hz shp A O x code 17 ret 37 (sStore 0 7 39) from g_istore at_37) ?_
  refine okc_cons (show Good l Z hz shp A O x code 17 ret 39 (sLoad 0 0 40) from g_iloadN at_39) ?_
  refine okc_cons (show Good l Z hz shp A O x code 17 ret 40 (sPush (0, .int 8) 42) from g_bipush at_40 rfl) ?_
  refine okc_cons (show Good l Z hz shp A O x code 17 ret 42 (sBin 0 0 0 (jI (Term.op2 .iand)) 43) from g_iand at_42) ?_
  refine okc_cons (show Good l Z hz shp A O x code 17 ret 43 (sIf .eq 50 46) from g_if at_43 (by decide) (by decide)) ?_
  refine okc_cons (show Good l Z hz shp A O x code 17 ret 46 (sPush (0, .int 1) 47) from g_iconst at_46 rfl) ?_
  refine okc_cons (show Good l Z hz shp A O x code 17 ret 47 (sGoto 51) from g_goto at_47 (by decide) (by decide)) ?_
  refine okc_cons (show Good l Z hz shp A O x code 17 ret 50 (sPush (0, .int 0) 51) from g_iconst at_50 rfl) ?_
  refine okc_cons (show Good l Z hz shp A O x code 17 ret 51 (sStore 0 8 53) from g_istore at_51) ?_
  refine okc_cons (show Good l Z hz shp A O x code 17 ret 53 (sLoad 0 5 55) from g_iload at_53) ?_
  refine okc_cons (show Good l Z hz shp A O x code 17 ret 55 (sLoad 0 7 57) from g_iload at_55) ?_
  refine okc_cons (show Good l Z hz shp A O x code 17 ret 57 (sLoad 0 1 58) from g_iloadN at_57) ?_
  refine okc_cons (show Good l Z hz shp A O x code 17 ret 58 (sLoad 0 2 59) from g_iloadN at_58) ?_
  refine okc_cons (fun m hm => by
    obtain rfl : m = (5, cd_1) := (Option.some.inj hm).symm
    exact (show CallGood l Z hz shp A O x code 17 ret (⟨"com/example/anole/anole/xpath/NameTestDefaultPriorityPinLaw", "pick", "(ZZII)Ljava/lang/String;"⟩ : MethodName) method_2_code 5 (some (.object "java/lang/String")) 59 4 62 (ckAny) from c_static (a0 := a0) (hd := at_59) (hpl := pl_1) (hdesc := pd_1) (hna := rfl) (hy := by decide) (w1 := (hw _ (List.mem_of_getElem? (i := 0) rfl))) (w2 := (hw _ (List.mem_of_getElem? (i := 1) rfl))) (w3 := (hw _ (List.mem_of_getElem? (i := 2) rfl))) (w4 := (hw _ (List.mem_of_getElem? (i := 3) rfl))))) ?_
  refine okc_cons (show Good l Z hz shp A O x code 17 ret 62 (sStore 2 9 64) from g_astore at_62) ?_
  refine okc_cons (show Good l Z hz shp A O x code 17 ret 64 (sLoad 0 6 66) from g_iload at_64) ?_
  refine okc_cons (show Good l Z hz shp A O x code 17 ret 66 (sLoad 0 8 68) from g_iload at_66) ?_
  refine okc_cons (show Good l Z hz shp A O x code 17 ret 68 (sLoad 0 3 69) from g_iloadN at_68) ?_
  refine okc_cons (show Good l Z hz shp A O x code 17 ret 69 (sLoad 0 4 71) from g_iload at_69) ?_
  refine okc_cons (fun m hm => by
    obtain rfl : m = (5, cd_1) := (Option.some.inj hm).symm
    exact (show CallGood l Z hz shp A O x code 17 ret (⟨"com/example/anole/anole/xpath/NameTestDefaultPriorityPinLaw", "pick", "(ZZII)Ljava/lang/String;"⟩ : MethodName) method_2_code 5 (some (.object "java/lang/String")) 71 4 74 (ckAny) from c_static (a0 := a0) (hd := at_71) (hpl := pl_1) (hdesc := pd_1) (hna := rfl) (hy := by decide) (w1 := (hw _ (List.mem_of_getElem? (i := 0) rfl))) (w2 := (hw _ (List.mem_of_getElem? (i := 1) rfl))) (w3 := (hw _ (List.mem_of_getElem? (i := 2) rfl))) (w4 := (hw _ (List.mem_of_getElem? (i := 3) rfl))))) ?_
  refine okc_cons (show Good l Z hz shp A O x code 17 ret 74 (sStore 2 10 76) from g_astore at_74) ?_
  refine okc_cons (show Good l Z hz shp A O x code 17 ret 76 (sNew 0 2 ds_0 79) from g_new (sid := 0) at_76 rfl (sok_0 hw) (by decide) rfl (hw _ (List.mem_of_getElem? (i := 4) rfl)) (hw _ (List.mem_of_getElem? (i := 6) rfl))) ?_
  refine okc_cons (show Good l Z hz shp A O x code 17 ret 79 (sDup 80) from g_dup at_79) ?_
  refine okc_cons (show Good l Z hz shp A O x code 17 ret 80 (sLoad 2 9 82) from g_aload at_80) ?_
  refine okc_cons (show Good l Z hz shp A O x code 17 ret 82 (sLoad 2 10 84) from g_aload at_82) ?_
  refine okc_cons (show Good l Z hz shp A O x code 17 ret 84 (sStop) from g_stop) ?_
  refine okc_cons (show Good l Z hz shp A O x code 17 ret 87 (sStore 2 11 89) from g_astore at_87) ?_
  refine okc_cons (show Good l Z hz shp A O x code 17 ret 89 (sPush (0, .int 0) 90) from g_iconst at_89 rfl) ?_
  refine okc_cons (show Good l Z hz shp A O x code 17 ret 90 (sStore 0 12 92) from g_istore at_90) ?_
  refine okc_cons (show Good l Z hz shp A O x code 17 ret 92 (sLoad 0 5 94) from g_iload at_92) ?_
  refine okc_cons (show Good l Z hz shp A O x code 17 ret 94 (sIf .ne 103 97) from g_if at_94 (by decide) (by decide)) ?_
  refine okc_cons (show Good l Z hz shp A O x code 17 ret 97 (sLoad 0 12 99) from g_iload at_97) ?_
  refine okc_cons (show Good l Z hz shp A O x code 17 ret 99 (sPush (0, .int 1) 100) from g_iconst at_99 rfl) ?_
  refine okc_cons (show Good l Z hz shp A O x code 17 ret 100 (sBin 0 0 0 (jI Term.add) 101) from g_iadd at_100) ?_
  refine okc_cons (show Good l Z hz shp A O x code 17 ret 101 (sStore 0 12 103) from g_istore at_101) ?_
  refine okc_cons (show Good l Z hz shp A O x code 17 ret 103 (sLoad 0 6 105) from g_iload at_103) ?_
  refine okc_cons (show Good l Z hz shp A O x code 17 ret 105 (sIf .ne 114 108) from g_if at_105 (by decide) (by decide)) ?_
  refine okc_cons (show Good l Z hz shp A O x code 17 ret 108 (sLoad 0 12 110) from g_iload at_108) ?_
  refine okc_cons (show Good l Z hz shp A O x code 17 ret 110 (sPush (0, .int 1) 111) from g_iconst at_110 rfl) ?_
  refine okc_cons (show Good l Z hz shp A O x code 17 ret 111 (sBin 0 0 0 (jI Term.add) 112) from g_iadd at_111) ?_
  refine okc_cons (show Good l Z hz shp A O x code 17 ret 112 (sStore 0 12 114) from g_istore at_112) ?_
  refine okc_cons (show Good l Z hz shp A O x code 17 ret 114 (sPush (0, .int 0) 115) from g_iconst at_114 rfl) ?_
  refine okc_cons (show Good l Z hz shp A O x code 17 ret 115 (sLoad 0 12 117) from g_iload at_115) ?_
  refine okc_cons (show Good l Z hz shp A O x code 17 ret 117 (sBin 0 0 0 (jI Term.sub) 118) from g_isub at_117) ?_
  refine okc_cons (show Good l Z hz shp A O x code 17 ret 118 (sI2d 119) from g_i2d at_118) ?_
  refine okc_cons (show Good l Z hz shp A O x code 17 ret 119 (sPush (dl 4616189618054758400) 122) from g_ldc2d (a0 := a0) at_119 (hw _ (List.mem_of_getElem? (i := 17) rfl))) ?_
  refine okc_cons (show Good l Z hz shp A O x code 17 ret 122 (sDdiv 123) from g_ddiv at_122) ?_
  refine okc_cons (show Good l Z hz shp A O x code 17 ret 123 (sStore 3 13 125) from g_dstore at_123) ?_
  refine okc_cons (show Good l Z hz shp A O x code 17 ret 125 (sLoad 2 11 127) from g_aload at_125) ?_
  refine okc_cons (show Good l Z hz shp A O x code 17 ret 127 (sStop) from g_stop) ?_
  refine okc_cons (show Good l Z hz shp A O x code 17 ret 130 (sStore 3 15 132) from g_dstore at_130) ?_
  refine okc_cons (show Good l Z hz shp A O x code 17 ret 132 (sLoad 3 15 134) from g_dload at_132) ?_
  refine okc_cons (show Good l Z hz shp A O x code 17 ret 134 (sLoad 3 13 136) from g_dload at_134) ?_
  refine okc_cons (show Good l Z hz shp A O x code 17 ret 136 (sDcmp .l 137) from g_dcmp at_136) ?_
  refine okc_cons (show Good l Z hz shp A O x code 17 ret 137 (sIf .ne 144 140) from g_if at_137 (by decide) (by decide)) ?_
  refine okc_cons (show Good l Z hz shp A O x code 17 ret 140 (sPush (0, .int 1) 141) from g_iconst at_140 rfl) ?_
  refine okc_cons (show Good l Z hz shp A O x code 17 ret 141 (sGoto 145) from g_goto at_141 (by decide) (by decide)) ?_
  refine okc_cons (show Good l Z hz shp A O x code 17 ret 144 (sPush (0, .int 0) 145) from g_iconst at_144 rfl) ?_
  refine okc_cons (show RetGood l Z hz shp A O x code 17 ret 145 (rVal .boolean) from g_ret at_145 (by decide) (by simp)) ?_
  exact okc_nil
set_option maxRecDepth 65536 in
set_option maxHeartbeats 40000000 in
theorem cok_1 (hw : ∀ d ∈ tables_1, d.before a0 Z = true) (hS : Sta Z hz "java/lang/String" "COMPACT_STRINGS" "Z" (.int (A 9).1)) : ∀ el ∈ cd_1, ElOk l Z hz shp A O CC NN mts mis 1 5 el := by
  unfold cd_1
  refine okc_cons (show Good l Z hz shp A O (⟨"com/example/anole/anole/xpath/NameTestDefaultPriorityPinLaw", "pick", "(ZZII)Ljava/lang/String;"⟩ : MethodName) method_2_code 5 (some (.object "java/lang/String")) 0 (sLoad 0 0 1) from g_iloadN d1_0) ?_
  refine okc_cons (show Good l Z hz shp A O (⟨"com/example/anole/anole/xpath/NameTestDefaultPriorityPinLaw", "pick", "(ZZII)Ljava/lang/String;"⟩ : MethodName) method_2_code 5 (some (.object "java/lang/String")) 1 (sIf .ne 6 4) from g_if d1_1 (by decide) (by decide)) ?_
  refine okc_cons (show Good l Z hz shp A O (⟨"com/example/anole/anole/xpath/NameTestDefaultPriorityPinLaw", "pick", "(ZZII)Ljava/lang/String;"⟩ : MethodName) method_2_code 5 (some (.object "java/lang/String")) 4 (sPush (2, .null) 5) from g_null d1_4) ?_
  refine okc_cons (show RetGood l Z hz shp A O (⟨"com/example/anole/anole/xpath/NameTestDefaultPriorityPinLaw", "pick", "(ZZII)Ljava/lang/String;"⟩ : MethodName) method_2_code 5 (some (.object "java/lang/String")) 5 (rVal (.object "java/lang/String")) from g_ret d1_5 (by decide) (by simp [FieldType.isReference])) ?_
  refine okc_cons (show Good l Z hz shp A O (⟨"com/example/anole/anole/xpath/NameTestDefaultPriorityPinLaw", "pick", "(ZZII)Ljava/lang/String;"⟩ : MethodName) method_2_code 5 (some (.object "java/lang/String")) 6 (sLoad 0 1 7) from g_iloadN d1_6) ?_
  refine okc_cons (show Good l Z hz shp A O (⟨"com/example/anole/anole/xpath/NameTestDefaultPriorityPinLaw", "pick", "(ZZII)Ljava/lang/String;"⟩ : MethodName) method_2_code 5 (some (.object "java/lang/String")) 7 (sIf .eq 13 10) from g_if d1_7 (by decide) (by decide)) ?_
  refine okc_cons (show Good l Z hz shp A O (⟨"com/example/anole/anole/xpath/NameTestDefaultPriorityPinLaw", "pick", "(ZZII)Ljava/lang/String;"⟩ : MethodName) method_2_code 5 (some (.object "java/lang/String")) 10 (sStop) from g_stop) ?_
  refine okc_cons (show RetGood l Z hz shp A O (⟨"com/example/anole/anole/xpath/NameTestDefaultPriorityPinLaw", "pick", "(ZZII)Ljava/lang/String;"⟩ : MethodName) method_2_code 5 (some (.object "java/lang/String")) 12 (rVal (.object "java/lang/String")) from g_ret d1_12 (by decide) (by simp [FieldType.isReference])) ?_
  refine okc_cons (show Good l Z hz shp A O (⟨"com/example/anole/anole/xpath/NameTestDefaultPriorityPinLaw", "pick", "(ZZII)Ljava/lang/String;"⟩ : MethodName) method_2_code 5 (some (.object "java/lang/String")) 13 (sPush (0, .int 2) 14) from g_iconst d1_13 rfl) ?_
  refine okc_cons (show Good l Z hz shp A O (⟨"com/example/anole/anole/xpath/NameTestDefaultPriorityPinLaw", "pick", "(ZZII)Ljava/lang/String;"⟩ : MethodName) method_2_code 5 (some (.object "java/lang/String")) 14 (sNewA 2 .char 16) from g_newarray (sid := 2) d1_14 rfl (by decide) (hw _ (List.mem_of_getElem? (i := 24) rfl))) ?_
  refine okc_cons (show Good l Z hz shp A O (⟨"com/example/anole/anole/xpath/NameTestDefaultPriorityPinLaw", "pick", "(ZZII)Ljava/lang/String;"⟩ : MethodName) method_2_code 5 (some (.object "java/lang/String")) 16 (sStore 2 4 18) from g_astore d1_16) ?_
  refine okc_cons (show Good l Z hz shp A O (⟨"com/example/anole/anole/xpath/NameTestDefaultPriorityPinLaw", "pick", "(ZZII)Ljava/lang/String;"⟩ : MethodName) method_2_code 5 (some (.object "java/lang/String")) 18 (sLoad 2 4 20) from g_aload d1_18) ?_
  refine okc_cons (show Good l Z hz shp A O (⟨"com/example/anole/anole/xpath/NameTestDefaultPriorityPinLaw", "pick", "(ZZII)Ljava/lang/String;"⟩ : MethodName) method_2_code 5 (some (.object "java/lang/String")) 20 (sPush (0, .int 0) 21) from g_iconst d1_20 rfl) ?_
  refine okc_cons (show Good l Z hz shp A O (⟨"com/example/anole/anole/xpath/NameTestDefaultPriorityPinLaw", "pick", "(ZZII)Ljava/lang/String;"⟩ : MethodName) method_2_code 5 (some (.object "java/lang/String")) 21 (sLoad 0 2 22) from g_iloadN d1_21) ?_
  refine okc_cons (show Good l Z hz shp A O (⟨"com/example/anole/anole/xpath/NameTestDefaultPriorityPinLaw", "pick", "(ZZII)Ljava/lang/String;"⟩ : MethodName) method_2_code 5 (some (.object "java/lang/String")) 22 (sPush (0, .int 255) 25) from g_sipush d1_22 rfl) ?_
  refine okc_cons (show Good l Z hz shp A O (⟨"com/example/anole/anole/xpath/NameTestDefaultPriorityPinLaw", "pick", "(ZZII)Ljava/lang/String;"⟩ : MethodName) method_2_code 5 (some (.object "java/lang/String")) 25 (sBin 0 0 0 (jI (Term.op2 .iand)) 26) from g_iand d1_25) ?_
  refine okc_cons (show Good l Z hz shp A O (⟨"com/example/anole/anole/xpath/NameTestDefaultPriorityPinLaw", "pick", "(ZZII)Ljava/lang/String;"⟩ : MethodName) method_2_code 5 (some (.object "java/lang/String")) 26 (sUn 0 0 (uI (Term.op1 .i2c)) 27) from g_i2c d1_26) ?_
  refine okc_cons (show Good l Z hz shp A O (⟨"com/example/anole/anole/xpath/NameTestDefaultPriorityPinLaw", "pick", "(ZZII)Ljava/lang/String;"⟩ : MethodName) method_2_code 5 (some (.object "java/lang/String")) 27 (sAst 2 .char 28) from g_castore (sid := 2) d1_27 rfl) ?_
  refine okc_cons (show Good l Z hz shp A O (⟨"com/example/anole/anole/xpath/NameTestDefaultPriorityPinLaw", "pick", "(ZZII)Ljava/lang/String;"⟩ : MethodName) method_2_code 5 (some (.object "java/lang/String")) 28 (sLoad 2 4 30) from g_aload d1_28) ?_
  refine okc_cons (show Good l Z hz shp A O (⟨"com/example/anole/anole/xpath/NameTestDefaultPriorityPinLaw", "pick", "(ZZII)Ljava/lang/String;"⟩ : MethodName) method_2_code 5 (some (.object "java/lang/String")) 30 (sPush (0, .int 1) 31) from g_iconst d1_30 rfl) ?_
  refine okc_cons (show Good l Z hz shp A O (⟨"com/example/anole/anole/xpath/NameTestDefaultPriorityPinLaw", "pick", "(ZZII)Ljava/lang/String;"⟩ : MethodName) method_2_code 5 (some (.object "java/lang/String")) 31 (sLoad 0 3 32) from g_iloadN d1_31) ?_
  refine okc_cons (show Good l Z hz shp A O (⟨"com/example/anole/anole/xpath/NameTestDefaultPriorityPinLaw", "pick", "(ZZII)Ljava/lang/String;"⟩ : MethodName) method_2_code 5 (some (.object "java/lang/String")) 32 (sPush (0, .int 255) 35) from g_sipush d1_32 rfl) ?_
  refine okc_cons (show Good l Z hz shp A O (⟨"com/example/anole/anole/xpath/NameTestDefaultPriorityPinLaw", "pick", "(ZZII)Ljava/lang/String;"⟩ : MethodName) method_2_code 5 (some (.object "java/lang/String")) 35 (sBin 0 0 0 (jI (Term.op2 .iand)) 36) from g_iand d1_35) ?_
  refine okc_cons (show Good l Z hz shp A O (⟨"com/example/anole/anole/xpath/NameTestDefaultPriorityPinLaw", "pick", "(ZZII)Ljava/lang/String;"⟩ : MethodName) method_2_code 5 (some (.object "java/lang/String")) 36 (sUn 0 0 (uI (Term.op1 .i2c)) 37) from g_i2c d1_36) ?_
  refine okc_cons (show Good l Z hz shp A O (⟨"com/example/anole/anole/xpath/NameTestDefaultPriorityPinLaw", "pick", "(ZZII)Ljava/lang/String;"⟩ : MethodName) method_2_code 5 (some (.object "java/lang/String")) 37 (sAst 2 .char 38) from g_castore (sid := 2) d1_37 rfl) ?_
  refine okc_cons (show Good l Z hz shp A O (⟨"com/example/anole/anole/xpath/NameTestDefaultPriorityPinLaw", "pick", "(ZZII)Ljava/lang/String;"⟩ : MethodName) method_2_code 5 (some (.object "java/lang/String")) 38 (sNew 1 4 ds_1 41) from g_new (sid := 1) d1_38 rfl (sok_1 hw) (by decide) rfl (hw _ (List.mem_of_getElem? (i := 25) rfl)) (hw _ (List.mem_of_getElem? (i := 27) rfl))) ?_
  refine okc_cons (show Good l Z hz shp A O (⟨"com/example/anole/anole/xpath/NameTestDefaultPriorityPinLaw", "pick", "(ZZII)Ljava/lang/String;"⟩ : MethodName) method_2_code 5 (some (.object "java/lang/String")) 41 (sDup 42) from g_dup d1_41) ?_
  refine okc_cons (show Good l Z hz shp A O (⟨"com/example/anole/anole/xpath/NameTestDefaultPriorityPinLaw", "pick", "(ZZII)Ljava/lang/String;"⟩ : MethodName) method_2_code 5 (some (.object "java/lang/String")) 42 (sLoad 2 4 44) from g_aload d1_42) ?_
  refine okc_cons (fun m hm => by
    obtain rfl : m = (2, cd_5) := (Option.some.inj hm).symm
    exact (show CallGood l Z hz shp A O (⟨"com/example/anole/anole/xpath/NameTestDefaultPriorityPinLaw", "pick", "(ZZII)Ljava/lang/String;"⟩ : MethodName) method_2_code 5 (some (.object "java/lang/String")) (⟨"java/lang/String", "<init>", "([C)V"⟩ : MethodName) jdk_42_method_3_code 2 none 44 2 47 (ckObj 1) from c_init (a0 := a0) (sid := 1) (hd := d1_44) (hpl := pl_5) (hdesc := pd_5) (hna := rfl) (hy := by decide) (w1 := (hw _ (List.mem_of_getElem? (i := 28) rfl))) (w2 := (hw _ (List.mem_of_getElem? (i := 29) rfl))) (w3 := (hw _ (List.mem_of_getElem? (i := 27) rfl))) (w4 := (hw _ (List.mem_of_getElem? (i := 30) rfl))) (hn := rfl))) ?_
  refine okc_cons (show RetGood l Z hz shp A O (⟨"com/example/anole/anole/xpath/NameTestDefaultPriorityPinLaw", "pick", "(ZZII)Ljava/lang/String;"⟩ : MethodName) method_2_code 5 (some (.object "java/lang/String")) 47 (rVal (.object "java/lang/String")) from g_ret d1_47 (by decide) (by simp [FieldType.isReference])) ?_
  exact okc_nil
set_option maxRecDepth 65536 in
set_option maxHeartbeats 40000000 in
theorem cok_5 (hw : ∀ d ∈ tables_1, d.before a0 Z = true) (hS : Sta Z hz "java/lang/String" "COMPACT_STRINGS" "Z" (.int (A 9).1)) : ∀ el ∈ cd_5, ElOk l Z hz shp A O CC NN mts mis 5 2 el := by
  unfold cd_5
  refine okc_cons (show Good l Z hz shp A O (⟨"java/lang/String", "<init>", "([C)V"⟩ : MethodName) jdk_42_method_3_code 2 none 0 (sLoad 2 0 1) from g_aloadN d5_0) ?_
  refine okc_cons (show Good l Z hz shp A O (⟨"java/lang/String", "<init>", "([C)V"⟩ : MethodName) jdk_42_method_3_code 2 none 1 (sLoad 2 1 2) from g_aloadN d5_1) ?_
  refine okc_cons (show Good l Z hz shp A O (⟨"java/lang/String", "<init>", "([C)V"⟩ : MethodName) jdk_42_method_3_code 2 none 2 (sPush (0, .int 0) 3) from g_iconst d5_2 rfl) ?_
  refine okc_cons (show Good l Z hz shp A O (⟨"java/lang/String", "<init>", "([C)V"⟩ : MethodName) jdk_42_method_3_code 2 none 3 (sLoad 2 1 4) from g_aloadN d5_3) ?_
  refine okc_cons (show Good l Z hz shp A O (⟨"java/lang/String", "<init>", "([C)V"⟩ : MethodName) jdk_42_method_3_code 2 none 4 (sLenA 2 5) from g_len (sid := 2) d5_4 rfl) ?_
  refine okc_cons (show Good l Z hz shp A O (⟨"java/lang/String", "<init>", "([C)V"⟩ : MethodName) jdk_42_method_3_code 2 none 5 (sPush (2, .null) 6) from g_null d5_5) ?_
  refine okc_cons (fun m hm => by
    obtain rfl : m = (6, cd_6) := (Option.some.inj hm).symm
    exact (show CallGood l Z hz shp A O (⟨"java/lang/String", "<init>", "([C)V"⟩ : MethodName) jdk_42_method_3_code 2 none (⟨"java/lang/String", "<init>", "([CIILjava/lang/Void;)V"⟩ : MethodName) jdk_42_method_149_code 6 none 6 5 9 (ckObj 1) from c_init (a0 := a0) (sid := 1) (hd := d5_6) (hpl := pl_6) (hdesc := pd_6) (hna := rfl) (hy := by decide) (w1 := (hw _ (List.mem_of_getElem? (i := 31) rfl))) (w2 := (hw _ (List.mem_of_getElem? (i := 32) rfl))) (w3 := (hw _ (List.mem_of_getElem? (i := 27) rfl))) (w4 := (hw _ (List.mem_of_getElem? (i := 34) rfl))) (hn := rfl))) ?_
  refine okc_cons (show RetGood l Z hz shp A O (⟨"java/lang/String", "<init>", "([C)V"⟩ : MethodName) jdk_42_method_3_code 2 none 9 (rVoid) from g_return d5_9) ?_
  exact okc_nil
set_option maxRecDepth 65536 in
set_option maxHeartbeats 40000000 in
theorem cok_6 (hw : ∀ d ∈ tables_1, d.before a0 Z = true) (hS : Sta Z hz "java/lang/String" "COMPACT_STRINGS" "Z" (.int (A 9).1)) : ∀ el ∈ cd_6, ElOk l Z hz shp A O CC NN mts mis 6 6 el := by
  unfold cd_6
  refine okc_cons (show Good l Z hz shp A O (⟨"java/lang/String", "<init>", "([CIILjava/lang/Void;)V"⟩ : MethodName) jdk_42_method_149_code 6 none 0 (sLoad 2 0 1) from g_aloadN d6_0) ?_
  refine okc_cons (show GoodN l Z hz shp A O (⟨"java/lang/String", "<init>", "([CIILjava/lang/Void;)V"⟩ : MethodName) jdk_42_method_149_code 6 none 1 (sInitO 6 4) from g_initO d6_1 (hw _ (List.mem_of_getElem? (i := 35) rfl)) (hw _ (List.mem_of_getElem? (i := 11) rfl)) (hw _ (List.mem_of_getElem? (i := 12) rfl))) ?_
  refine okc_cons (show Good l Z hz shp A O (⟨"java/lang/String", "<init>", "([CIILjava/lang/Void;)V"⟩ : MethodName) jdk_42_method_149_code 6 none 4 (sLoad 0 3 5) from g_iloadN d6_4) ?_
  refine okc_cons (show Good l Z hz shp A O (⟨"java/lang/String", "<init>", "([CIILjava/lang/Void;)V"⟩ : MethodName) jdk_42_method_149_code 6 none 5 (sIf .ne 27 8) from g_if d6_5 (by decide) (by decide)) ?_
  refine okc_cons (show Good l Z hz shp A O (⟨"java/lang/String", "<init>", "([CIILjava/lang/Void;)V"⟩ : MethodName) jdk_42_method_149_code 6 none 8 (sLoad 2 0 9) from g_aloadN d6_8) ?_
  refine okc_cons (show Good l Z hz shp A O (⟨"java/lang/String", "<init>", "([CIILjava/lang/Void;)V"⟩ : MethodName) jdk_42_method_149_code 6 none 9 (sStop) from g_stop) ?_
  refine okc_cons (show Good l Z hz shp A O (⟨"java/lang/String", "<init>", "([CIILjava/lang/Void;)V"⟩ : MethodName) jdk_42_method_149_code 6 none 11 (sGetF 1 1 14) from g_getfield (sid := 1) (i := 1) (R0 := "java/lang/String") (host := "") d6_11 rfl rfl (Or.inl (hw _ (List.mem_of_getElem? (i := 50) rfl))) Via.refl) ?_
  refine okc_cons (show Good l Z hz shp A O (⟨"java/lang/String", "<init>", "([CIILjava/lang/Void;)V"⟩ : MethodName) jdk_42_method_149_code 6 none 14 (sPutF 1 1 (.array .byte) 17) from g_putfield (sid := 1) (i := 1) (R0 := "java/lang/String") d6_14 rfl (sok_1 hw) rfl (by decide) (hw _ (List.mem_of_getElem? (i := 50) rfl)) Via.refl (Or.inr ⟨(hw _ (List.mem_of_getElem? (i := 51) rfl)), rfl, rfl⟩)) ?_
  refine okc_cons (show Good l Z hz shp A O (⟨"java/lang/String", "<init>", "([CIILjava/lang/Void;)V"⟩ : MethodName) jdk_42_method_149_code 6 none 17 (sLoad 2 0 18) from g_aloadN d6_17) ?_
  refine okc_cons (show Good l Z hz shp A O (⟨"java/lang/String", "<init>", "([CIILjava/lang/Void;)V"⟩ : MethodName) jdk_42_method_149_code 6 none 18 (sStop) from g_stop) ?_
  refine okc_cons (show Good l Z hz shp A O (⟨"java/lang/String", "<init>", "([CIILjava/lang/Void;)V"⟩ : MethodName) jdk_42_method_149_code 6 none 20 (sGetF 1 0 23) from g_getfield (sid := 1) (i := 0) (R0 := "java/lang/String") (host := "") d6_20 rfl rfl (Or.inl (hw _ (List.mem_of_getElem? (i := 48) rfl))) Via.refl) ?_
  refine okc_cons (show Good l Z hz shp A O (⟨"java/lang/String", "<init>", "([CIILjava/lang/Void;)V"⟩ : MethodName) jdk_42_method_149_code 6 none 23 (sPutF 1 0 .byte 26) from g_putfield (sid := 1) (i := 0) (R0 := "java/lang/String") d6_23 rfl (sok_1 hw) rfl (by decide) (hw _ (List.mem_of_getElem? (i := 48) rfl)) Via.refl (Or.inr ⟨(hw _ (List.mem_of_getElem? (i := 49) rfl)), rfl, rfl⟩)) ?_
  refine okc_cons (show RetGood l Z hz shp A O (⟨"java/lang/String", "<init>", "([CIILjava/lang/Void;)V"⟩ : MethodName) jdk_42_method_149_code 6 none 26 (rVoid) from g_return d6_26) ?_
  refine okc_cons (show Good l Z hz shp A O (⟨"java/lang/String", "<init>", "([CIILjava/lang/Void;)V"⟩ : MethodName) jdk_42_method_149_code 6 none 27 (sPush (0, .arg 9) 30) from g_getstatic (a0 := a0) (x := (0, .arg 9)) d6_27 (hw _ (List.mem_of_getElem? (i := 36) rfl)) hS) ?_
  refine okc_cons (show Good l Z hz shp A O (⟨"java/lang/String", "<init>", "([CIILjava/lang/Void;)V"⟩ : MethodName) jdk_42_method_149_code 6 none 30 (sIf .eq 58 33) from g_if d6_30 (by decide) (by decide)) ?_
  refine okc_cons (show Good l Z hz shp A O (⟨"java/lang/String", "<init>", "([CIILjava/lang/Void;)V"⟩ : MethodName) jdk_42_method_149_code 6 none 33 (sLoad 2 1 34) from g_aloadN d6_33) ?_
  refine okc_cons (show Good l Z hz shp A O (⟨"java/lang/String", "<init>", "([CIILjava/lang/Void;)V"⟩ : MethodName) jdk_42_method_149_code 6 none 34 (sLoad 0 2 35) from g_iloadN d6_34) ?_
  refine okc_cons (show Good l Z hz shp A O (⟨"java/lang/String", "<init>", "([CIILjava/lang/Void;)V"⟩ : MethodName) jdk_42_method_149_code 6 none 35 (sLoad 0 3 36) from g_iloadN d6_35) ?_
  refine okc_cons (fun m hm => by
    obtain rfl : m = (6, cd_7) := (Option.some.inj hm).symm
    exact (show CallGood l Z hz shp A O (⟨"java/lang/String", "<init>", "([CIILjava/lang/Void;)V"⟩ : MethodName) jdk_42_method_149_code 6 none (⟨"java/lang/StringUTF16", "compress", "([CII)[B"⟩ : MethodName) jdk_52_method_16_code 6 (some (.array .byte)) 36 3 39 (ckAny) from c_static (a0 := a0) (hd := d6_36) (hpl := pl_7) (hdesc := pd_7) (hna := rfl) (hy := by decide) (w1 := (hw _ (List.mem_of_getElem? (i := 37) rfl))) (w2 := (hw _ (List.mem_of_getElem? (i := 38) rfl))) (w3 := (hw _ (List.mem_of_getElem? (i := 39) rfl))) (w4 := (hw _ (List.mem_of_getElem? (i := 40) rfl))))) ?_
  refine okc_cons (show Good l Z hz shp A O (⟨"java/lang/String", "<init>", "([CIILjava/lang/Void;)V"⟩ : MethodName) jdk_42_method_149_code 6 none 39 (sStore 2 5 41) from g_astore d6_39) ?_
  refine okc_cons (show Good l Z hz shp A O (⟨"java/lang/String", "<init>", "([CIILjava/lang/Void;)V"⟩ : MethodName) jdk_42_method_149_code 6 none 41 (sLoad 2 0 42) from g_aloadN d6_41) ?_
  refine okc_cons (show Good l Z hz shp A O (⟨"java/lang/String", "<init>", "([CIILjava/lang/Void;)V"⟩ : MethodName) jdk_42_method_149_code 6 none 42 (sLoad 2 5 44) from g_aload d6_42) ?_
  refine okc_cons (show Good l Z hz shp A O (⟨"java/lang/String", "<init>", "([CIILjava/lang/Void;)V"⟩ : MethodName) jdk_42_method_149_code 6 none 44 (sLoad 0 3 45) from g_iloadN d6_44) ?_
  refine okc_cons (fun m hm => by
    obtain rfl : m = (2, cd_9) := (Option.some.inj hm).symm
    exact (show CallGood l Z hz shp A O (⟨"java/lang/String", "<init>", "([CIILjava/lang/Void;)V"⟩ : MethodName) jdk_42_method_149_code 6 none (⟨"java/lang/StringUTF16", "coderFromArrayLen", "([BI)B"⟩ : MethodName) jdk_52_method_15_code 2 (some .byte) 45 2 48 (ckAny) from c_static (a0 := a0) (hd := d6_45) (hpl := pl_9) (hdesc := pd_9) (hna := rfl) (hy := by decide) (w1 := (hw _ (List.mem_of_getElem? (i := 45) rfl))) (w2 := (hw _ (List.mem_of_getElem? (i := 46) rfl))) (w3 := (hw _ (List.mem_of_getElem? (i := 39) rfl))) (w4 := (hw _ (List.mem_of_getElem? (i := 47) rfl))))) ?_
  refine okc_cons (show Good l Z hz shp A O (⟨"java/lang/String", "<init>", "([CIILjava/lang/Void;)V"⟩ : MethodName) jdk_42_method_149_code 6 none 48 (sPutF 1 0 .byte 51) from g_putfield (sid := 1) (i := 0) (R0 := "java/lang/String") d6_48 rfl (sok_1 hw) rfl (by decide) (hw _ (List.mem_of_getElem? (i := 48) rfl)) Via.refl (Or.inr ⟨(hw _ (List.mem_of_getElem? (i := 49) rfl)), rfl, rfl⟩)) ?_
  refine okc_cons (show Good l Z hz shp A O (⟨"java/lang/String", "<init>", "([CIILjava/lang/Void;)V"⟩ : MethodName) jdk_42_method_149_code 6 none 51 (sLoad 2 0 52) from g_aloadN d6_51) ?_
  refine okc_cons (show Good l Z hz shp A O (⟨"java/lang/String", "<init>", "([CIILjava/lang/Void;)V"⟩ : MethodName) jdk_42_method_149_code 6 none 52 (sLoad 2 5 54) from g_aload d6_52) ?_
  refine okc_cons (show Good l Z hz shp A O (⟨"java/lang/String", "<init>", "([CIILjava/lang/Void;)V"⟩ : MethodName) jdk_42_method_149_code 6 none 54 (sPutF 1 1 (.array .byte) 57) from g_putfield (sid := 1) (i := 1) (R0 := "java/lang/String") d6_54 rfl (sok_1 hw) rfl (by decide) (hw _ (List.mem_of_getElem? (i := 50) rfl)) Via.refl (Or.inr ⟨(hw _ (List.mem_of_getElem? (i := 51) rfl)), rfl, rfl⟩)) ?_
  refine okc_cons (show RetGood l Z hz shp A O (⟨"java/lang/String", "<init>", "([CIILjava/lang/Void;)V"⟩ : MethodName) jdk_42_method_149_code 6 none 57 (rVoid) from g_return d6_57) ?_
  refine okc_cons (show Good l Z hz shp A O (⟨"java/lang/String", "<init>", "([CIILjava/lang/Void;)V"⟩ : MethodName) jdk_42_method_149_code 6 none 58 (sLoad 2 0 59) from g_aloadN d6_58) ?_
  refine okc_cons (show Good l Z hz shp A O (⟨"java/lang/String", "<init>", "([CIILjava/lang/Void;)V"⟩ : MethodName) jdk_42_method_149_code 6 none 59 (sPush (0, .int 1) 60) from g_iconst d6_59 rfl) ?_
  refine okc_cons (show Good l Z hz shp A O (⟨"java/lang/String", "<init>", "([CIILjava/lang/Void;)V"⟩ : MethodName) jdk_42_method_149_code 6 none 60 (sPutF 1 0 .byte 63) from g_putfield (sid := 1) (i := 0) (R0 := "java/lang/String") d6_60 rfl (sok_1 hw) rfl (by decide) (hw _ (List.mem_of_getElem? (i := 48) rfl)) Via.refl (Or.inr ⟨(hw _ (List.mem_of_getElem? (i := 49) rfl)), rfl, rfl⟩)) ?_
  refine okc_cons (show Good l Z hz shp A O (⟨"java/lang/String", "<init>", "([CIILjava/lang/Void;)V"⟩ : MethodName) jdk_42_method_149_code 6 none 63 (sLoad 2 0 64) from g_aloadN d6_63) ?_
  refine okc_cons (show Good l Z hz shp A O (⟨"java/lang/String", "<init>", "([CIILjava/lang/Void;)V"⟩ : MethodName) jdk_42_method_149_code 6 none 64 (sLoad 2 1 65) from g_aloadN d6_64) ?_
  refine okc_cons (show Good l Z hz shp A O (⟨"java/lang/String", "<init>", "([CIILjava/lang/Void;)V"⟩ : MethodName) jdk_42_method_149_code 6 none 65 (sLoad 0 2 66) from g_iloadN d6_65) ?_
  refine okc_cons (show Good l Z hz shp A O (⟨"java/lang/String", "<init>", "([CIILjava/lang/Void;)V"⟩ : MethodName) jdk_42_method_149_code 6 none 66 (sLoad 0 3 67) from g_iloadN d6_66) ?_
  refine okc_cons (show Good l Z hz shp A O (⟨"java/lang/String", "<init>", "([CIILjava/lang/Void;)V"⟩ : MethodName) jdk_42_method_149_code 6 none 67 (sStop) from g_stop) ?_
  refine okc_cons (show Good l Z hz shp A O (⟨"java/lang/String", "<init>", "([CIILjava/lang/Void;)V"⟩ : MethodName) jdk_42_method_149_code 6 none 70 (sPutF 1 1 (.array .byte) 73) from g_putfield (sid := 1) (i := 1) (R0 := "java/lang/String") d6_70 rfl (sok_1 hw) rfl (by decide) (hw _ (List.mem_of_getElem? (i := 50) rfl)) Via.refl (Or.inr ⟨(hw _ (List.mem_of_getElem? (i := 51) rfl)), rfl, rfl⟩)) ?_
  refine okc_cons (show RetGood l Z hz shp A O (⟨"java/lang/String", "<init>", "([CIILjava/lang/Void;)V"⟩ : MethodName) jdk_42_method_149_code 6 none 73 (rVoid) from g_return d6_73) ?_
  exact okc_nil
set_option maxRecDepth 65536 in
set_option maxHeartbeats 40000000 in
theorem cok_7 (hw : ∀ d ∈ tables_1, d.before a0 Z = true) (hS : Sta Z hz "java/lang/String" "COMPACT_STRINGS" "Z" (.int (A 9).1)) : ∀ el ∈ cd_7, ElOk l Z hz shp A O CC NN mts mis 7 6 el := by
  unfold cd_7
  refine okc_cons (show Good l Z hz shp A O (⟨"java/lang/StringUTF16", "compress", "([CII)[B"⟩ : MethodName) jdk_52_method_16_code 6 (some (.array .byte)) 0 (sLoad 0 2 1) from g_iloadN d7_0) ?_
  refine okc_cons (show Good l Z hz shp A O (⟨"java/lang/StringUTF16", "compress", "([CII)[B"⟩ : MethodName) jdk_52_method_16_code 6 (some (.array .byte)) 1 (sNewA 3 .byte 3) from g_newarray (sid := 3) d7_1 rfl (by decide) (hw _ (List.mem_of_getElem? (i := 41) rfl))) ?_
  refine okc_cons (show Good l Z hz shp A O (⟨"java/lang/StringUTF16", "compress", "([CII)[B"⟩ : MethodName) jdk_52_method_16_code 6 (some (.array .byte)) 3 (sStore 2 3 4) from g_astoreN d7_3) ?_
  refine okc_cons (show Good l Z hz shp A O (⟨"java/lang/StringUTF16", "compress", "([CII)[B"⟩ : MethodName) jdk_52_method_16_code 6 (some (.array .byte)) 4 (sLoad 2 0 5) from g_aloadN d7_4) ?_
  refine okc_cons (show Good l Z hz shp A O (⟨"java/lang/StringUTF16", "compress", "([CII)[B"⟩ : MethodName) jdk_52_method_16_code 6 (some (.array .byte)) 5 (sLoad 0 1 6) from g_iloadN d7_5) ?_
  refine okc_cons (show Good l Z hz shp A O (⟨"java/lang/StringUTF16", "compress", "([CII)[B"⟩ : MethodName) jdk_52_method_16_code 6 (some (.array .byte)) 6 (sLoad 2 3 7) from g_aloadN d7_6) ?_
  refine okc_cons (show Good l Z hz shp A O (⟨"java/lang/StringUTF16", "compress", "([CII)[B"⟩ : MethodName) jdk_52_method_16_code 6 (some (.array .byte)) 7 (sPush (0, .int 0) 8) from g_iconst d7_7 rfl) ?_
  refine okc_cons (show Good l Z hz shp A O (⟨"java/lang/StringUTF16", "compress", "([CII)[B"⟩ : MethodName) jdk_52_method_16_code 6 (some (.array .byte)) 8 (sLoad 0 2 9) from g_iloadN d7_8) ?_
  refine okc_cons (fun m hm => by
    obtain rfl : m = (7, cd_8) := (Option.some.inj hm).symm
    exact (show CallGood l Z hz shp A O (⟨"java/lang/StringUTF16", "compress", "([CII)[B"⟩ : MethodName) jdk_52_method_16_code 6 (some (.array .byte)) (⟨"java/lang/StringUTF16", "compress", "([CI[BII)I"⟩ : MethodName) jdk_52_method_21_code 7 (some .int) 9 5 12 (ckAny) from c_static (a0 := a0) (hd := d7_9) (hpl := pl_8) (hdesc := pd_8) (hna := rfl) (hy := by decide) (w1 := (hw _ (List.mem_of_getElem? (i := 42) rfl))) (w2 := (hw _ (List.mem_of_getElem? (i := 43) rfl))) (w3 := (hw _ (List.mem_of_getElem? (i := 39) rfl))) (w4 := (hw _ (List.mem_of_getElem? (i := 44) rfl))))) ?_
  refine okc_cons (show Good l Z hz shp A O (⟨"java/lang/StringUTF16", "compress", "([CII)[B"⟩ : MethodName) jdk_52_method_16_code 6 (some (.array .byte)) 12 (sStore 0 4 14) from g_istore d7_12) ?_
  refine okc_cons (show Good l Z hz shp A O (⟨"java/lang/StringUTF16", "compress", "([CII)[B"⟩ : MethodName) jdk_52_method_16_code 6 (some (.array .byte)) 14 (sLoad 0 4 16) from g_iload d7_14) ?_
  refine okc_cons (show Good l Z hz shp A O (⟨"java/lang/StringUTF16", "compress", "([CII)[B"⟩ : MethodName) jdk_52_method_16_code 6 (some (.array .byte)) 16 (sLoad 0 2 17) from g_iloadN d7_16) ?_
  refine okc_cons (show Good l Z hz shp A O (⟨"java/lang/StringUTF16", "compress", "([CII)[B"⟩ : MethodName) jdk_52_method_16_code 6 (some (.array .byte)) 17 (sIcmp .eq 57 20) from g_icmp d7_17 (by decide) (by decide)) ?_
  refine okc_cons (show Good l Z hz shp A O (⟨"java/lang/StringUTF16", "compress", "([CII)[B"⟩ : MethodName) jdk_52_method_16_code 6 (some (.array .byte)) 20 (sLoad 2 0 21) from g_aloadN d7_20) ?_
  refine okc_cons (show Good l Z hz shp A O (⟨"java/lang/StringUTF16", "compress", "([CII)[B"⟩ : MethodName) jdk_52_method_16_code 6 (some (.array .byte)) 21 (sLoad 0 1 22) from g_iloadN d7_21) ?_
  refine okc_cons (show Good l Z hz shp A O (⟨"java/lang/StringUTF16", "compress", "([CII)[B"⟩ : MethodName) jdk_52_method_16_code 6 (some (.array .byte)) 22 (sLoad 0 2 23) from g_iloadN d7_22) ?_
  refine okc_cons (show Good l Z hz shp A O (⟨"java/lang/StringUTF16", "compress", "([CII)[B"⟩ : MethodName) jdk_52_method_16_code 6 (some (.array .byte)) 23 (sStop) from g_stop) ?_
  refine okc_cons (show Good l Z hz shp A O (⟨"java/lang/StringUTF16", "compress", "([CII)[B"⟩ : MethodName) jdk_52_method_16_code 6 (some (.array .byte)) 26 (sStore 2 5 28) from g_astore d7_26) ?_
  refine okc_cons (show Good l Z hz shp A O (⟨"java/lang/StringUTF16", "compress", "([CII)[B"⟩ : MethodName) jdk_52_method_16_code 6 (some (.array .byte)) 28 (sLoad 2 5 30) from g_aload d7_28) ?_
  refine okc_cons (show Good l Z hz shp A O (⟨"java/lang/StringUTF16", "compress", "([CII)[B"⟩ : MethodName) jdk_52_method_16_code 6 (some (.array .byte)) 30 (sLoad 0 4 32) from g_iload d7_30) ?_
  refine okc_cons (show Good l Z hz shp A O (⟨"java/lang/StringUTF16", "compress", "([CII)[B"⟩ : MethodName) jdk_52_method_16_code 6 (some (.array .byte)) 32 (sStop) from g_stop) ?_
  refine okc_cons (show Good l Z hz shp A O (⟨"java/lang/StringUTF16", "compress", "([CII)[B"⟩ : MethodName) jdk_52_method_16_code 6 (some (.array .byte)) 35 (sPush (0, .int 255) 38) from g_sipush d7_35 rfl) ?_
  refine okc_cons (show Good l Z hz shp A O (⟨"java/lang/StringUTF16", "compress", "([CII)[B"⟩ : MethodName) jdk_52_method_16_code 6 (some (.array .byte)) 38 (sIcmp .gt 54 41) from g_icmp d7_38 (by decide) (by decide)) ?_
  refine okc_cons (show Good l Z hz shp A O (⟨"java/lang/StringUTF16", "compress", "([CII)[B"⟩ : MethodName) jdk_52_method_16_code 6 (some (.array .byte)) 41 (sLoad 2 5 43) from g_aload d7_41) ?_
  refine okc_cons (show Good l Z hz shp A O (⟨"java/lang/StringUTF16", "compress", "([CII)[B"⟩ : MethodName) jdk_52_method_16_code 6 (some (.array .byte)) 43 (sPush (0, .int 0) 44) from g_iconst d7_43 rfl) ?_
  refine okc_cons (show Good l Z hz shp A O (⟨"java/lang/StringUTF16", "compress", "([CII)[B"⟩ : MethodName) jdk_52_method_16_code 6 (some (.array .byte)) 44 (sLoad 2 3 45) from g_aloadN d7_44) ?_
  refine okc_cons (show Good l Z hz shp A O (⟨"java/lang/StringUTF16", "compress", "([CII)[B"⟩ : MethodName) jdk_52_method_16_code 6 (some (.array .byte)) 45 (sPush (0, .int 0) 46) from g_iconst d7_45 rfl) ?_
  refine okc_cons (show Good l Z hz shp A O (⟨"java/lang/StringUTF16", "compress", "([CII)[B"⟩ : MethodName) jdk_52_method_16_code 6 (some (.array .byte)) 46 (sLoad 0 2 47) from g_iloadN d7_46) ?_
  refine okc_cons (show Good l Z hz shp A O (⟨"java/lang/StringUTF16", "compress", "([CII)[B"⟩ : MethodName) jdk_52_method_16_code 6 (some (.array .byte)) 47 (sStop) from g_stop) ?_
  refine okc_cons (show Good l Z hz shp A O (⟨"java/lang/StringUTF16", "compress", "([CII)[B"⟩ : MethodName) jdk_52_method_16_code 6 (some (.array .byte)) 50 (sLoad 0 2 51) from g_iloadN d7_50) ?_
  refine okc_cons (show Good l Z hz shp A O (⟨"java/lang/StringUTF16", "compress", "([CII)[B"⟩ : MethodName) jdk_52_method_16_code 6 (some (.array .byte)) 51 (sIcmp .eq 57 54) from g_icmp d7_51 (by decide) (by decide)) ?_
  refine okc_cons (show Good l Z hz shp A O (⟨"java/lang/StringUTF16", "compress", "([CII)[B"⟩ : MethodName) jdk_52_method_16_code 6 (some (.array .byte)) 54 (sLoad 2 5 56) from g_aload d7_54) ?_
  refine okc_cons (show RetGood l Z hz shp A O (⟨"java/lang/StringUTF16", "compress", "([CII)[B"⟩ : MethodName) jdk_52_method_16_code 6 (some (.array .byte)) 56 (rVal (.array .byte)) from g_ret d7_56 (by decide) (by simp [FieldType.isReference])) ?_
  refine okc_cons (show Good l Z hz shp A O (⟨"java/lang/StringUTF16", "compress", "([CII)[B"⟩ : MethodName) jdk_52_method_16_code 6 (some (.array .byte)) 57 (sLoad 2 3 58) from g_aloadN d7_57) ?_
  refine okc_cons (show RetGood l Z hz shp A O (⟨"java/lang/StringUTF16", "compress", "([CII)[B"⟩ : MethodName) jdk_52_method_16_code 6 (some (.array .byte)) 58 (rVal (.array .byte)) from g_ret d7_58 (by decide) (by simp [FieldType.isReference])) ?_
  exact okc_nil
set_option maxRecDepth 65536 in
set_option maxHeartbeats 40000000 in
theorem cok_8 (hw : ∀ d ∈ tables_1, d.before a0 Z = true) (hS : Sta Z hz "java/lang/String" "COMPACT_STRINGS" "Z" (.int (A 9).1)) : ∀ el ∈ cd_8, ElOk l Z hz shp A O CC NN mts mis 8 7 el := by
  unfold cd_8
  refine okc_cons (show Good l Z hz shp A O (⟨"java/lang/StringUTF16", "compress", "([CI[BII)I"⟩ : MethodName) jdk_52_method_21_code 7 (some .int) 0 (sPush (0, .int 0) 1) from g_iconst d8_0 rfl) ?_
  refine okc_cons (show Good l Z hz shp A O (⟨"java/lang/StringUTF16", "compress", "([CI[BII)I"⟩ : MethodName) jdk_52_method_21_code 7 (some .int) 1 (sStore 0 5 3) from g_istore d8_1) ?_
  refine okc_cons (show Good l Z hz shp A O (⟨"java/lang/StringUTF16", "compress", "([CI[BII)I"⟩ : MethodName) jdk_52_method_21_code 7 (some .int) 3 (sLoad 0 5 5) from g_iload d8_3) ?_
  refine okc_cons (show Good l Z hz shp A O (⟨"java/lang/StringUTF16", "compress", "([CI[BII)I"⟩ : MethodName) jdk_52_method_21_code 7 (some .int) 5 (sLoad 0 4 7) from g_iload d8_5) ?_
  refine okc_cons (show Good l Z hz shp A O (⟨"java/lang/StringUTF16", "compress", "([CI[BII)I"⟩ : MethodName) jdk_52_method_21_code 7 (some .int) 7 (sIcmp .ge 44 10) from g_icmp d8_7 (by decide) (by decide)) ?_
  refine okc_cons (show Good l Z hz shp A O (⟨"java/lang/StringUTF16", "compress", "([CI[BII)I"⟩ : MethodName) jdk_52_method_21_code 7 (some .int) 10 (sLoad 2 0 11) from g_aloadN d8_10) ?_
  refine okc_cons (show Good l Z hz shp A O (⟨"java/lang/StringUTF16", "compress", "([CI[BII)I"⟩ : MethodName) jdk_52_method_21_code 7 (some .int) 11 (sLoad 0 1 12) from g_iloadN d8_11) ?_
  refine okc_cons (show Good l Z hz shp A O (⟨"java/lang/StringUTF16", "compress", "([CI[BII)I"⟩ : MethodName) jdk_52_method_21_code 7 (some .int) 12 (sAld 2 13) from g_caload (sid := 2) d8_12 rfl) ?_
  refine okc_cons (show Good l Z hz shp A O (⟨"java/lang/StringUTF16", "compress", "([CI[BII)I"⟩ : MethodName) jdk_52_method_21_code 7 (some .int) 13 (sStore 0 6 15) from g_istore d8_13) ?_
  refine okc_cons (show Good l Z hz shp A O (⟨"java/lang/StringUTF16", "compress", "([CI[BII)I"⟩ : MethodName) jdk_52_method_21_code 7 (some .int) 15 (sLoad 0 6 17) from g_iload d8_15) ?_
  refine okc_cons (show Good l Z hz shp A O (⟨"java/lang/StringUTF16", "compress", "([CI[BII)I"⟩ : MethodName) jdk_52_method_21_code 7 (some .int) 17 (sPush (0, .int 255) 20) from g_sipush d8_17 rfl) ?_
  refine okc_cons (show Good l Z hz shp A O (⟨"java/lang/StringUTF16", "compress", "([CI[BII)I"⟩ : MethodName) jdk_52_method_21_code 7 (some .int) 20 (sIcmp .le 26 23) from g_icmp d8_20 (by decide) (by decide)) ?_
  refine okc_cons (show Good l Z hz shp A O (⟨"java/lang/StringUTF16", "compress", "([CI[BII)I"⟩ : MethodName) jdk_52_method_21_code 7 (some .int) 23 (sLoad 0 5 25) from g_iload d8_23) ?_
  refine okc_cons (show RetGood l Z hz shp A O (⟨"java/lang/StringUTF16", "compress", "([CI[BII)I"⟩ : MethodName) jdk_52_method_21_code 7 (some .int) 25 (rVal .int) from g_ret d8_25 (by decide) (by simp)) ?_
  refine okc_cons (show Good l Z hz shp A O (⟨"java/lang/StringUTF16", "compress", "([CI[BII)I"⟩ : MethodName) jdk_52_method_21_code 7 (some .int) 26 (sLoad 2 2 27) from g_aloadN d8_26) ?_
  refine okc_cons (show Good l Z hz shp A O (⟨"java/lang/StringUTF16", "compress", "([CI[BII)I"⟩ : MethodName) jdk_52_method_21_code 7 (some .int) 27 (sLoad 0 3 28) from g_iloadN d8_27) ?_
  refine okc_cons (show Good l Z hz shp A O (⟨"java/lang/StringUTF16", "compress", "([CI[BII)I"⟩ : MethodName) jdk_52_method_21_code 7 (some .int) 28 (sLoad 0 6 30) from g_iload d8_28) ?_
  refine okc_cons (show Good l Z hz shp A O (⟨"java/lang/StringUTF16", "compress", "([CI[BII)I"⟩ : MethodName) jdk_52_method_21_code 7 (some .int) 30 (sUn 0 0 (uI (Term.op1 .i2b)) 31) from g_i2b d8_30) ?_
  refine okc_cons (show Good l Z hz shp A O (⟨"java/lang/StringUTF16", "compress", "([CI[BII)I"⟩ : MethodName) jdk_52_method_21_code 7 (some .int) 31 (sAst 3 .byte 32) from g_bastoreB (sid := 3) d8_31 rfl) ?_
  refine okc_cons (show Good l Z hz shp A O (⟨"java/lang/StringUTF16", "compress", "([CI[BII)I"⟩ : MethodName) jdk_52_method_21_code 7 (some .int) 32 (sIinc 1 1 35) from g_iinc d8_32 rfl) ?_
  refine okc_cons (show Good l Z hz shp A O (⟨"java/lang/StringUTF16", "compress", "([CI[BII)I"⟩ : MethodName) jdk_52_method_21_code 7 (some .int) 35 (sIinc 3 1 38) from g_iinc d8_35 rfl) ?_
  refine okc_cons (show Good l Z hz shp A O (⟨"java/lang/StringUTF16", "compress", "([CI[BII)I"⟩ : MethodName) jdk_52_method_21_code 7 (some .int) 38 (sIinc 5 1 41) from g_iinc d8_38 rfl) ?_
  refine okc_cons (show Good l Z hz shp A O (⟨"java/lang/StringUTF16", "compress", "([CI[BII)I"⟩ : MethodName) jdk_52_method_21_code 7 (some .int) 41 (sGoto 3) from g_goto d8_41 (by decide) (by decide)) ?_
  refine okc_cons (show Good l Z hz shp A O (⟨"java/lang/StringUTF16", "compress", "([CI[BII)I"⟩ : MethodName) jdk_52_method_21_code 7 (some .int) 44 (sLoad 0 4 46) from g_iload d8_44) ?_
  refine okc_cons (show RetGood l Z hz shp A O (⟨"java/lang/StringUTF16", "compress", "([CI[BII)I"⟩ : MethodName) jdk_52_method_21_code 7 (some .int) 46 (rVal .int) from g_ret d8_46 (by decide) (by simp)) ?_
  exact okc_nil
set_option maxRecDepth 65536 in
set_option maxHeartbeats 40000000 in
theorem cok_9 (hw : ∀ d ∈ tables_1, d.before a0 Z = true) (hS : Sta Z hz "java/lang/String" "COMPACT_STRINGS" "Z" (.int (A 9).1)) : ∀ el ∈ cd_9, ElOk l Z hz shp A O CC NN mts mis 9 2 el := by
  unfold cd_9
  refine okc_cons (show Good l Z hz shp A O (⟨"java/lang/StringUTF16", "coderFromArrayLen", "([BI)B"⟩ : MethodName) jdk_52_method_15_code 2 (some .byte) 0 (sLoad 0 1 1) from g_iloadN d9_0) ?_
  refine okc_cons (show Good l Z hz shp A O (⟨"java/lang/StringUTF16", "coderFromArrayLen", "([BI)B"⟩ : MethodName) jdk_52_method_15_code 2 (some .byte) 1 (sLoad 2 0 2) from g_aloadN d9_1) ?_
  refine okc_cons (show Good l Z hz shp A O (⟨"java/lang/StringUTF16", "coderFromArrayLen", "([BI)B"⟩ : MethodName) jdk_52_method_15_code 2 (some .byte) 2 (sLenA 3 3) from g_len (sid := 3) d9_2 rfl) ?_
  refine okc_cons (show Good l Z hz shp A O (⟨"java/lang/StringUTF16", "coderFromArrayLen", "([BI)B"⟩ : MethodName) jdk_52_method_15_code 2 (some .byte) 3 (sBin 0 0 0 (jI Term.sub) 4) from g_isub d9_3) ?_
  refine okc_cons (show Good l Z hz shp A O (⟨"java/lang/StringUTF16", "coderFromArrayLen", "([BI)B"⟩ : MethodName) jdk_52_method_15_code 2 (some .byte) 4 (sPush (0, .int 31) 6) from g_bipush d9_4 rfl) ?_
  refine okc_cons (show Good l Z hz shp A O (⟨"java/lang/StringUTF16", "coderFromArrayLen", "([BI)B"⟩ : MethodName) jdk_52_method_15_code 2 (some .byte) 6 (sBin 0 0 0 (jI (Term.op2 .iushr)) 7) from g_iushr d9_6) ?_
  refine okc_cons (show Good l Z hz shp A O (⟨"java/lang/StringUTF16", "coderFromArrayLen", "([BI)B"⟩ : MethodName) jdk_52_method_15_code 2 (some .byte) 7 (sUn 0 0 (uI (Term.op1 .i2b)) 8) from g_i2b d9_7) ?_
  refine okc_cons (show RetGood l Z hz shp A O (⟨"java/lang/StringUTF16", "coderFromArrayLen", "([BI)B"⟩ : MethodName) jdk_52_method_15_code 2 (some .byte) 8 (rVal .byte) from g_ret d9_8 (by decide) (by simp)) ?_
  exact okc_nil
theorem mok (hw : ∀ d ∈ tables_1, d.before a0 Z = true) (hS : Sta Z hz "java/lang/String" "COMPACT_STRINGS" "Z" (.int (A 9).1)) : MtOk l Z hz shp A O CC NN mts mis := by
  intro j mx code h
  match j, h with
  | 0, h => cases h; exact ⟨cok_0 hw hS, fun el tl q => by cases q; rfl⟩
  | 1, h => cases h; exact ⟨cok_1 hw hS, fun el tl q => by cases q; rfl⟩
  | 2, h => cases h; exact ⟨fun _ q => (nomatch q), fun _ _ q => (by cases q)⟩
  | 3, h => cases h; exact ⟨fun _ q => (nomatch q), fun _ _ q => (by cases q)⟩
  | 4, h => cases h; exact ⟨fun _ q => (nomatch q), fun _ _ q => (by cases q)⟩
  | 5, h => cases h; exact ⟨cok_5 hw hS, fun el tl q => by cases q; rfl⟩
  | 6, h => cases h; exact ⟨cok_6 hw hS, fun el tl q => by cases q; rfl⟩
  | 7, h => cases h; exact ⟨cok_7 hw hS, fun el tl q => by cases q; rfl⟩
  | 8, h => cases h; exact ⟨cok_8 hw hS, fun el tl q => by cases q; rfl⟩
  | 9, h => cases h; exact ⟨cok_9 hw hS, fun el tl q => by cases q; rfl⟩
  | j + 10, h => exact absurd h (by simp [mts])
end Valid
end Pk

def yP : MethodName := ⟨"com/example/anole/anole/xpath/NameTestDefaultPriorityPinLaw", "pick", "(ZZII)Ljava/lang/String;"⟩
def rmP : Room := { frames := 4, cells := 6, slots := 64, locals := 100 }
def envP (p e a b z : Int32) : En
  | 0 => (p, 0)
  | 1 => (e, 0)
  | 2 => (a, 0)
  | 3 => (b, 0)
  | 9 => (z, 0)
  | _ => (0, 0)
def xsP : List SV := [(0, .arg 0), (0, .arg 1), (0, .arg 2), (0, .arg 3)]
/-- what pick answers: null where nothing is asked for, else a reference; it writes no old cell -/
def QP (p : Int32) (h0 : Heap) (v : Option Value) (h' : Heap) (L : List Loc) : Prop := ((p = 0 ∧ v = some .null) ∨ (p ≠ 0 ∧ ∃ a, v = some (.ref a))) ∧ Fr h0.size L ∧ Ext h0 h'
theorem rt_pick {v : Option SV} (h : RtOf Pk.cd_1 v) : isOne v = false := by
  obtain ⟨el, he, g, S, e1, e2⟩ := h
  unfold Pk.cd_1 at he
  simp only [List.mem_cons, List.not_mem_nil, or_false] at he
  rcases he with rfl | rfl | rfl | rfl | rfl | rfl | rfl | rfl | rfl | rfl | rfl | rfl | rfl | rfl | rfl | rfl | rfl | rfl | rfl | rfl | rfl | rfl | rfl | rfl | rfl | rfl | rfl | rfl | rfl | rfl <;> first | (have e3 := Sum.inl.inj (Sum.inr.inj (Sum.inr.inj e1)); subst e3; exact rVal_ref rfl e2) | (exfalso; revert e1; simp [kS, kC, kN]; done)
theorem pk_nocut : Pk.mts.all (fun m => noCut m.2) = true := by decide +kernel
def fNull : List Jvm.Cond := [.eq (.arg 0) (.int 0), .not (.eq (.arg 9) (.int 0))]
def fStr : List Jvm.Cond := [.not (.eq (.arg 0) (.int 0)), .eq (.arg 1) (.int 0), .not (.eq (.arg 9) (.int 0))]
def fLdc : List Jvm.Cond := [.not (.eq (.arg 0) (.int 0)), .not (.eq (.arg 1) (.int 0)), .not (.eq (.arg 9) (.int 0))]
set_option maxRecDepth 65536 in
theorem pk_null : outP isNullV (xgo Pk.mts 6 64 400 (1, Pk.cd_1, (entL xsP 5, [], [], 0), fNull, 4, 100, [])) = true := by decide +kernel
set_option maxRecDepth 65536 in
theorem pk_str : outP isIdxV (xgo Pk.mts 6 64 400 (1, Pk.cd_1, (entL xsP 5, [], [], 0), fStr, 4, 100, [])) = true := by decide +kernel
theorem pk_run {l : Launch} {Z : State} {a0 : Array Value} {hz : Heap} {A : En} {O : Nat → Addr} (hw : ∀ d ∈ tables_1, d.before a0 Z = true) (hS : Sta Z hz "java/lang/String" "COMPACT_STRINGS" "Z" (.int (A 9).1)) {F : List Jvm.Cond} {f : Option SV → Bool} (hf : f none = false)
    (hg : outP f (xgo Pk.mts 6 64 400 (1, Pk.cd_1, (entL xsP 5, [], [], 0), F, 4, 100, [])) = true) (hF : holds A F) :
    ∃ v D' sl', Ret l Z hz Pk.shp A O yP method_2_code 5 (some (.object "java/lang/String")) 4 100 0 (entL xsP 5, [], [], 0) v D' sl' ∧ D'.length ≤ 6 ∧ sl' ≤ 64 ∧ f v = true := by
  obtain ⟨P, e1, e2⟩ := outP_ok hg
  obtain ⟨v, D', sl', h1, h2, h3, h4, h5⟩ := ret_ok (MI := Pk.mis) (M := Pk.mts) (j := 1) (Pk.mok hw hS) pk_nocut rfl e1 hF (fun q hq h0 => by have := e2 q hq; rw [h0, hf] at this; cases this)
  refine ⟨v, D', sl', h1, h2, h3, ?_⟩
  rcases h5 with h5 | ⟨F', h5⟩
  · rw [rt_pick h4] at h5; cases h5
  · exact e2 _ h5
set_option maxRecDepth 65536 in
set_option maxHeartbeats 4000000 in
theorem pick_met {l : Launch} {Z : State} {a0 : Array Value} (hw : ∀ d ∈ tables_1, d.before a0 Z = true) {h : Heap} {z : Int32} (hz0 : z ≠ 0) (hS : Sta Z h "java/lang/String" "COMPACT_STRINGS" "Z" (.int z)) (p e a b : Int32) :
    MetFree l yP (head1 [Jvm.Cond.code yP method_2_code 5 (some (.object "java/lang/String"))] rmP) (fun as U => as = (xsP.map (vv (envP p e a b z) (fun _ => 0) h.size)).toArray ∧ Z.Warmed39 U.vm ∧ U.heap = h) (fun _ _ _ _ _ => True)
      (fun _ U o U' => ∃ v L, o = .returned v ∧ QP p h v U'.heap L ∧ ReturnedEndW U o U' L rmP.cells rmP.slots) := by
  have h9 : hold (envP p e a b z) (.not (.eq (.arg 9) (.int 0))) := hz0
  by_cases hp : p = 0
  · have hF : holds (envP p e a b z) fNull := holds_cons (show p = 0 from hp) (holds_cons h9 (fun _ h => nomatch h))
    obtain ⟨v, D', sl', h1, h2, h3, h4⟩ := pk_run (l := l) (O := fun _ => 0) hw hS (f := isNullV) rfl pk_null hF
    refine met_wide Pk.pl_1 h1 [] rmP rfl rfl h2 h3 (fun h' L H N => ⟨Or.inl ⟨hp, ?_⟩, N, H.ext⟩)
    rw [isNullV_ok h4]; rfl
  · by_cases he : e = 0
    · have hF : holds (envP p e a b z) fStr := holds_cons (show ¬ p = 0 from hp) (holds_cons (show e = 0 from he) (holds_cons h9 (fun _ h => nomatch h)))
      obtain ⟨v, D', sl', h1, h2, h3, h4⟩ := pk_run (l := l) (O := fun _ => 0) hw hS (f := isIdxV) rfl pk_str hF
      refine met_wide Pk.pl_1 h1 [] rmP rfl rfl h2 h3 (fun h' L H N => ⟨Or.inr ⟨hp, ?_⟩, N, H.ext⟩)
      obtain ⟨k, rfl⟩ := isIdxV_ok h4
      exact ⟨_, rfl⟩
    · have hF : holds (envP p e a b z) fLdc := holds_cons (show ¬ p = 0 from hp) (holds_cons (show ¬ e = 0 from he) (holds_cons h9 (fun _ h => nomatch h)))
      have hm : ∀ el ∈ Pk.cd_1, ElOk l Z h Pk.shp (envP p e a b z) (fun _ => 0) 6 64 Pk.mts Pk.mis 1 5 el := Pk.cok_1 hw hS
      have S1 := one_ok (show Good l Z h Pk.shp (envP p e a b z) (fun _ => 0) yP method_2_code 5 (some (.object "java/lang/String")) 0 _ from g_iloadN Pk.d1_0) (F := fLdc) (cf := (entL xsP 5, [], [], 0)) rfl hF
      have S2 := one_ok (show Good l Z h Pk.shp (envP p e a b z) (fun _ => 0) yP method_2_code 5 (some (.object "java/lang/String")) 1 (sIf .ne 6 4) from g_if Pk.d1_1 (by decide) (by decide)) (F := fLdc) (cf := (entL xsP 5, [(0, .arg 0)], [], 0)) rfl hF
      have S3 := one_ok (show Good l Z h Pk.shp (envP p e a b z) (fun _ => 0) yP method_2_code 5 (some (.object "java/lang/String")) 6 _ from g_iloadN Pk.d1_6) (F := fLdc) (cf := (entL xsP 5, [], [], 0)) rfl hF
      have S4 := one_ok (show Good l Z h Pk.shp (envP p e a b z) (fun _ => 0) yP method_2_code 5 (some (.object "java/lang/String")) 7 (sIf .eq 13 10) from g_if Pk.d1_7 (by decide) (by decide)) (F := fLdc) (cf := (entL xsP 5, [(0, .arg 1)], [], 0)) rfl hF
      exact ldc_met Pk.pl_1 rfl (((S1.trans S2).trans S3).trans S4) Pk.d1_10 Pk.d1_12
        (hw _ (List.mem_of_getElem? (i := 52) rfl)) (fun d hd => by
          simp only [Bundle.stringAtoms, List.mem_cons, List.not_mem_nil, or_false] at hd
          rcases hd with rfl | rfl | rfl | rfl | rfl | rfl | rfl
          · exact (hw _ (List.mem_of_getElem? (i := 27) rfl))
          · exact (hw _ (List.mem_of_getElem? (i := 26) rfl))
          · exact (hw _ (List.mem_of_getElem? (i := 41) rfl))
          · exact (hw _ (List.mem_of_getElem? (i := 51) rfl))
          · exact (hw _ (List.mem_of_getElem? (i := 49) rfl))
          · exact (hw _ (List.mem_of_getElem? (i := 53) rfl))
          · exact (hw _ (List.mem_of_getElem? (i := 54) rfl))) (by decide) [] rmP (by decide) (by decide) (fun h' L a E N => ⟨Or.inr ⟨hp, a, rfl⟩, N, E⟩)

def xs0 : List SV := [(0, .arg 0), (0, .arg 1), (0, .arg 2), (0, .arg 3), (0, .arg 4)]
def env (p0 : Int32) (p1 : Int32) (p2 : Int32) (p3 : Int32) (p4 : Int32) : En
  | 0 => (p0, 0)
  | 1 => (p1, 0)
  | 2 => (p2, 0)
  | 3 => (p3, 0)
  | 4 => (p4, 0)
  | _ => (0, 0)
def isNil : Option (List Pd) → Bool
  | some [] => true
  | _ => false
theorem isNil_eq {o : Option (List Pd)} (h : isNil o = true) : o = some [] := by
  unfold isNil at h
  split at h
  · rfl
  · cases h
def updO (O : Nat → Addr) (a : Addr) : Nat → Addr
  | 0 => O 0
  | _ => a
def S59 : List SV := [(0, .arg 2), (0, .arg 1), (0, .arg 7), (0, .arg 5)]
def S71 : List SV := [(0, .arg 4), (0, .arg 3), (0, .arg 8), (0, .arg 6)]
def L59 : List SL := [some (some (0, .arg 0)), some (some (0, .arg 1)), some (some (0, .arg 2)), some (some (0, .arg 3)), some (some (0, .arg 4)), some (some (0, .arg 5)), some (some (0, .arg 6)), some (some (0, .arg 7)), some (some (0, .arg 8)), none, none, none, none, none, none, none, none]
def L71_n : List SL := [some (some (0, .arg 0)), some (some (0, .arg 1)), some (some (0, .arg 2)), some (some (0, .arg 3)), some (some (0, .arg 4)), some (some (0, .arg 5)), some (some (0, .arg 6)), some (some (0, .arg 7)), some (some (0, .arg 8)), some (some (2, .null)), none, none, none, none, none, none, none]
def L71_r : List SL := [some (some (0, .arg 0)), some (some (0, .arg 1)), some (some (0, .arg 2)), some (some (0, .arg 3)), some (some (0, .arg 4)), some (some (0, .arg 5)), some (some (0, .arg 6)), some (some (0, .arg 7)), some (some (0, .arg 8)), some (some (2, .arg 0)), none, none, none, none, none, none, none]
set_option maxRecDepth 65536 in
theorem q_74nn : isNil (xgo mts 8 256 400 (0, seekF cd_0 74, (L71_n, [(2, .null)], [], 0), [.eq (.arg 5) (.int 0), .eq (.arg 6) (.int 0)], 8, 192, [])) = true := by decide +kernel
theorem t_74nn {l : Launch} {Z : State} {a0 : Array Value} {hz : Heap} {O : Nat → Addr} {z : Int32} (hw : ∀ d ∈ tables_1, d.before a0 Z = true) (hz0 : z ≠ 0) (hS : Sta Z hz "java/lang/String" "COMPACT_STRINGS" "Z" (.int z)) (A : En) (hF : holds A [.eq (.arg 5) (.int 0), .eq (.arg 6) (.int 0)]) : Top l Z hz shp A O x code 17 ret 8 256 8 192 74 (L71_n, [(2, .null)], [], 0) :=
  top_ok (MI := mis) (M := mts) (mok hw) (P := []) rfl (isNil_eq q_74nn) hF (fun _ h => nomatch h)
set_option maxRecDepth 65536 in
theorem q_74nr : isNil (xgo mts 8 256 400 (0, seekF cd_0 74, (L71_n, [(2, .arg 1)], [], 0), [.eq (.arg 5) (.int 0), .not (.eq (.arg 6) (.int 0))], 8, 192, [])) = true := by decide +kernel
theorem t_74nr {l : Launch} {Z : State} {a0 : Array Value} {hz : Heap} {O : Nat → Addr} {z : Int32} (hw : ∀ d ∈ tables_1, d.before a0 Z = true) (hz0 : z ≠ 0) (hS : Sta Z hz "java/lang/String" "COMPACT_STRINGS" "Z" (.int z)) (A : En) (hF : holds A [.eq (.arg 5) (.int 0), .not (.eq (.arg 6) (.int 0))]) : Top l Z hz shp A O x code 17 ret 8 256 8 192 74 (L71_n, [(2, .arg 1)], [], 0) :=
  top_ok (MI := mis) (M := mts) (mok hw) (P := []) rfl (isNil_eq q_74nr) hF (fun _ h => nomatch h)
set_option maxRecDepth 65536 in
theorem q_74rn : isNil (xgo mts 8 256 400 (0, seekF cd_0 74, (L71_r, [(2, .null)], [], 0), [.not (.eq (.arg 5) (.int 0)), .eq (.arg 6) (.int 0)], 8, 192, [])) = true := by decide +kernel
theorem t_74rn {l : Launch} {Z : State} {a0 : Array Value} {hz : Heap} {O : Nat → Addr} {z : Int32} (hw : ∀ d ∈ tables_1, d.before a0 Z = true) (hz0 : z ≠ 0) (hS : Sta Z hz "java/lang/String" "COMPACT_STRINGS" "Z" (.int z)) (A : En) (hF : holds A [.not (.eq (.arg 5) (.int 0)), .eq (.arg 6) (.int 0)]) : Top l Z hz shp A O x code 17 ret 8 256 8 192 74 (L71_r, [(2, .null)], [], 0) :=
  top_ok (MI := mis) (M := mts) (mok hw) (P := []) rfl (isNil_eq q_74rn) hF (fun _ h => nomatch h)
set_option maxRecDepth 65536 in
theorem q_74rr : isNil (xgo mts 8 256 400 (0, seekF cd_0 74, (L71_r, [(2, .arg 1)], [], 0), [.not (.eq (.arg 5) (.int 0)), .not (.eq (.arg 6) (.int 0))], 8, 192, [])) = true := by decide +kernel
theorem t_74rr {l : Launch} {Z : State} {a0 : Array Value} {hz : Heap} {O : Nat → Addr} {z : Int32} (hw : ∀ d ∈ tables_1, d.before a0 Z = true) (hz0 : z ≠ 0) (hS : Sta Z hz "java/lang/String" "COMPACT_STRINGS" "Z" (.int z)) (A : En) (hF : holds A [.not (.eq (.arg 5) (.int 0)), .not (.eq (.arg 6) (.int 0))]) : Top l Z hz shp A O x code 17 ret 8 256 8 192 74 (L71_r, [(2, .arg 1)], [], 0) :=
  top_ok (MI := mis) (M := mts) (mok hw) (P := []) rfl (isNil_eq q_74rr) hF (fun _ h => nomatch h)
theorem t_71n {l : Launch} {Z : State} {a0 : Array Value} {hz : Heap} {O : Nat → Addr} {z : Int32} (hw : ∀ d ∈ tables_1, d.before a0 Z = true) (hz0 : z ≠ 0) (hS : Sta Z hz "java/lang/String" "COMPACT_STRINGS" "Z" (.int z)) (A : En) (hF : holds A [.eq (.arg 5) (.int 0)]) : Top l Z hz shp A O x code 17 ret 18 512 8 192 71 (L71_n, S71, [], 0) := by
  refine call_wide at_71 (a0 := a0) (hw _ (List.mem_of_getElem? (i := 0) rfl)) (hw _ (List.mem_of_getElem? (i := 1) rfl)) (hw _ (List.mem_of_getElem? (i := 2) rfl)) (hw _ (List.mem_of_getElem? (i := 3) rfl)) (by decide) Pk.pd_1 (rm := rmP) (L := L71_n) (S := S71) rfl (Q := fun h v h' Lo => QP (A 6).1 h v h' Lo) (fun h E => pick_met hw hz0 (hS.ext E) (A 6).1 (A 8).1 (A 3).1 (A 4).1) (C' := 8) (N' := 256) ?_ (by decide) (by decide) (by decide) (by decide) rfl
  intro h v h' Lo E ⟨hv, hFr, hE⟩
  refine ⟨⟨hFr, hE⟩, ?_⟩
  have h5 := hF _ (List.mem_cons_self ..)
  rcases hv with ⟨p0, rfl⟩ | ⟨p1, a, rfl⟩
  · exact ⟨O, L71_n, [(2, .null)], t_74nn hw hz0 ((hS.ext E).ext hE) A (holds_cons h5 (holds_cons (show (A 6).1 = 0 from p0) (fun _ h => nomatch h))), rfl, rfl⟩
  · exact ⟨updO O a, L71_n, [(2, .arg 1)], t_74nr hw hz0 ((hS.ext E).ext hE) A (holds_cons h5 (holds_cons (show ¬ (A 6).1 = 0 from p1) (fun _ h => nomatch h))), rfl, rfl⟩
def ct_71n : Ct := (8, 192, (L71_n, S71, [], 0), [0, 1, 2, 3, 4, 5, 6, 7, 8], [.eq (.arg 5) (.int 0)])
def mts_62n : List Mt := (17, xcut cd_0 71 (atCut ct_71n)) :: mts.tail
set_option maxRecDepth 65536 in
theorem q_62n : isNil (xgo mts_62n 18 512 400 (0, seekF (xcut cd_0 71 (atCut ct_71n)) 62, (L59, [(2, .null)], [], 0), [.eq (.arg 5) (.int 0)], 8, 192, [])) = true := by decide +kernel
theorem t_62n {l : Launch} {Z : State} {a0 : Array Value} {hz : Heap} {O : Nat → Addr} {z : Int32} (hw : ∀ d ∈ tables_1, d.before a0 Z = true) (hz0 : z ≠ 0) (hS : Sta Z hz "java/lang/String" "COMPACT_STRINGS" "Z" (.int z)) (A : En) (hF : holds A [.eq (.arg 5) (.int 0)]) : Top l Z hz shp A O x code 17 ret 18 512 8 192 62 (L59, [(2, .null)], [], 0) :=
  top_ok (MI := mis) (M := mts_62n) (show MtOk l Z hz shp A O 18 512 mts_62n mis from mt_cut (mok hw) (cutC_ok (fun A' hF' => t_71n hw hz0 hS A' hF'))) (P := []) rfl (isNil_eq q_62n) hF (fun _ h => nomatch h)
theorem t_71r {l : Launch} {Z : State} {a0 : Array Value} {hz : Heap} {O : Nat → Addr} {z : Int32} (hw : ∀ d ∈ tables_1, d.before a0 Z = true) (hz0 : z ≠ 0) (hS : Sta Z hz "java/lang/String" "COMPACT_STRINGS" "Z" (.int z)) (A : En) (hF : holds A [.not (.eq (.arg 5) (.int 0))]) : Top l Z hz shp A O x code 17 ret 18 512 8 192 71 (L71_r, S71, [], 0) := by
  refine call_wide at_71 (a0 := a0) (hw _ (List.mem_of_getElem? (i := 0) rfl)) (hw _ (List.mem_of_getElem? (i := 1) rfl)) (hw _ (List.mem_of_getElem? (i := 2) rfl)) (hw _ (List.mem_of_getElem? (i := 3) rfl)) (by decide) Pk.pd_1 (rm := rmP) (L := L71_r) (S := S71) rfl (Q := fun h v h' Lo => QP (A 6).1 h v h' Lo) (fun h E => pick_met hw hz0 (hS.ext E) (A 6).1 (A 8).1 (A 3).1 (A 4).1) (C' := 8) (N' := 256) ?_ (by decide) (by decide) (by decide) (by decide) rfl
  intro h v h' Lo E ⟨hv, hFr, hE⟩
  refine ⟨⟨hFr, hE⟩, ?_⟩
  have h5 := hF _ (List.mem_cons_self ..)
  rcases hv with ⟨p0, rfl⟩ | ⟨p1, a, rfl⟩
  · exact ⟨O, L71_r, [(2, .null)], t_74rn hw hz0 ((hS.ext E).ext hE) A (holds_cons h5 (holds_cons (show (A 6).1 = 0 from p0) (fun _ h => nomatch h))), rfl, rfl⟩
  · exact ⟨updO O a, L71_r, [(2, .arg 1)], t_74rr hw hz0 ((hS.ext E).ext hE) A (holds_cons h5 (holds_cons (show ¬ (A 6).1 = 0 from p1) (fun _ h => nomatch h))), rfl, rfl⟩
def ct_71r : Ct := (8, 192, (L71_r, S71, [], 0), [0, 1, 2, 3, 4, 5, 6, 7, 8], [.not (.eq (.arg 5) (.int 0))])
def mts_62r : List Mt := (17, xcut cd_0 71 (atCut ct_71r)) :: mts.tail
set_option maxRecDepth 65536 in
theorem q_62r : isNil (xgo mts_62r 18 512 400 (0, seekF (xcut cd_0 71 (atCut ct_71r)) 62, (L59, [(2, .arg 0)], [], 0), [.not (.eq (.arg 5) (.int 0))], 8, 192, [])) = true := by decide +kernel
theorem t_62r {l : Launch} {Z : State} {a0 : Array Value} {hz : Heap} {O : Nat → Addr} {z : Int32} (hw : ∀ d ∈ tables_1, d.before a0 Z = true) (hz0 : z ≠ 0) (hS : Sta Z hz "java/lang/String" "COMPACT_STRINGS" "Z" (.int z)) (A : En) (hF : holds A [.not (.eq (.arg 5) (.int 0))]) : Top l Z hz shp A O x code 17 ret 18 512 8 192 62 (L59, [(2, .arg 0)], [], 0) :=
  top_ok (MI := mis) (M := mts_62r) (show MtOk l Z hz shp A O 18 512 mts_62r mis from mt_cut (mok hw) (cutC_ok (fun A' hF' => t_71r hw hz0 hS A' hF'))) (P := []) rfl (isNil_eq q_62r) hF (fun _ h => nomatch h)
theorem t_59 {l : Launch} {Z : State} {a0 : Array Value} {hz : Heap} {O : Nat → Addr} {z : Int32} (hw : ∀ d ∈ tables_1, d.before a0 Z = true) (hz0 : z ≠ 0) (hS : Sta Z hz "java/lang/String" "COMPACT_STRINGS" "Z" (.int z)) (A : En) : Top l Z hz shp A O x code 17 ret 24 1152 8 192 59 (L59, S59, [], 0) := by
  refine call_wide at_59 (a0 := a0) (hw _ (List.mem_of_getElem? (i := 0) rfl)) (hw _ (List.mem_of_getElem? (i := 1) rfl)) (hw _ (List.mem_of_getElem? (i := 2) rfl)) (hw _ (List.mem_of_getElem? (i := 3) rfl)) (by decide) Pk.pd_1 (rm := rmP) (L := L59) (S := S59) rfl (Q := fun h v h' Lo => QP (A 5).1 h v h' Lo) (fun h E => pick_met hw hz0 (hS.ext E) (A 5).1 (A 7).1 (A 1).1 (A 2).1) (C' := 18) (N' := 512) ?_ (by decide) (by decide) (by decide) (by decide) rfl
  intro h v h' Lo E ⟨hv, hFr, hE⟩
  refine ⟨⟨hFr, hE⟩, ?_⟩
  rcases hv with ⟨p0, rfl⟩ | ⟨p1, a, rfl⟩
  · exact ⟨O, L59, [(2, .null)], t_62n hw hz0 ((hS.ext E).ext hE) A (holds_cons (show (A 5).1 = 0 from p0) (fun _ h => nomatch h)), rfl, rfl⟩
  · exact ⟨fun _ => a, L59, [(2, .arg 0)], t_62r hw hz0 ((hS.ext E).ext hE) A (holds_cons (show ¬ (A 5).1 = 0 from p1) (fun _ h => nomatch h)), rfl, rfl⟩
def ct_59 : Ct := (8, 192, (L59, S59, [], 0), [0, 1, 2, 3, 4, 5, 6, 7, 8], [])
def mts_0 : List Mt := (17, xcut cd_0 59 (atCut ct_59)) :: mts.tail
set_option maxRecDepth 65536 in
theorem q_0 : isNil (xgo mts_0 24 1152 400 (0, seekF (xcut cd_0 59 (atCut ct_59)) 0, (entL xs0 17, [], [], 0), [], 8, 192, [])) = true := by decide +kernel
theorem top_0 {l : Launch} {Z : State} {a0 : Array Value} {hz : Heap} {O : Nat → Addr} {z : Int32} (hw : ∀ d ∈ tables_1, d.before a0 Z = true) (hz0 : z ≠ 0) (hS : Sta Z hz "java/lang/String" "COMPACT_STRINGS" "Z" (.int z)) (A : En) : Top l Z hz shp A O x code 17 ret 24 1152 8 192 0 (entL xs0 17, [], [], 0) :=
  top_ok (MI := mis) (M := mts_0) (show MtOk l Z hz shp A O 24 1152 mts_0 mis from mt_cut (mok hw) (cutC_ok (fun A' hF' => t_59 hw hz0 hS A'))) (P := []) rfl (isNil_eq q_0) (fun _ h => nomatch h) (fun _ h => nomatch h)
theorem rm0 (l : Launch) (Z : State) (a0 : Array Value) (hw : ∀ d ∈ tables_1, d.before a0 Z = true) (ws : List Jvm.Cond) (p0 p1 p2 p3 p4 : Int32) (h0 : Heap) (z : Int32) (hz0 : z ≠ 0) (hS : Sta Z h0 "java/lang/String" "COMPACT_STRINGS" "Z" (.int z)) :
    MetFree l x (head1 (Jvm.Cond.code x code maxLocals ret :: ws) room_1) (fun a U => a = #[(.int p0), (.int p1), (.int p2), (.int p3), (.int p4)] ∧ (Z.Warmed39 U.vm ∧ Z.Warmed39 U.vm) ∧ U.heap = h0) (fun _ _ _ _ _ => True) (fun _ U o U' => ∃ v L, o = .returned v ∧ (v = some (.int 1) ∧ Fr h0.size L) ∧ ReturnedEndW U o U' L 24 1152) :=
  law_ok (sh := shp) (A := env p0 p1 p2 p3 p4) (O := fun _ => 0) (xs := xs0) (top_0 hw hz0 hS _) pl_0 ws room_1 rfl
set_option maxRecDepth 65536 in
set_option maxHeartbeats 4000000 in
theorem comes_1 {Post : Tables → Env → Array Value → State → Outcome → State → Prop} (hpost : ∀ tb e args s v u, (limb_1_1.after args s (.returned v) u = true ∧ limb_1_2.after args s (.returned v) u = true ∧ True) → Jvm.D.FramedW s (.returned v) u (Jvm.fieldLocs frame_1_writes args s ++ Jvm.arrayLocs frame_1_arrays args s ++ Jvm.staticLocs frame_1_statics s) 24 1152 → Post tb e args s (.returned v) u) :
    ArmFor flags0 classFile x code maxLocals ret World_1 tables_1 room_1 Calls_1 rest_1 Pre_1 Post := by
  intro l hfl _ _ p e ha hc hk s m args below hf hA hF happ hP
  obtain ⟨hcalls, hrest, hpre⟩ := hP
  obtain ⟨-, -, -, hnamed, -, -, -, hat⟩ := (Spec.applies_iff hf).mp happ
  obtain ⟨hg, hn⟩ := and_e (Cond.before_iff.mp (show (Jvm.Cond.and given_1 narrow_1).before args s = true from hpre))
  obtain ⟨g1, g2⟩ := and_e hg
  obtain ⟨g3, g4⟩ := and_e g2
  obtain ⟨g5, g6⟩ := and_e g4
  obtain ⟨g7, g8⟩ := and_e g6
  obtain ⟨g9, g10⟩ := and_e g8
  obtain ⟨w0, w1, w2, w3, w4, rfl⟩ : ∃ w0 w1 w2 w3 w4 : Value, args = #[w0, w1, w2, w3, w4] := by
    have hs : args.size = 5 := by simpa [Cond.value, given_1] using g1
    obtain ⟨L⟩ := args
    match L, hs with
    | [w0, w1, w2, w3, w4], _ => exact ⟨w0, w1, w2, w3, w4, rfl⟩
  have hw := fun d (hd : d ∈ tables_1) => atoms_spec (ws := Jvm.Cond.code x code maxLocals ret :: tables_1) hat d (List.mem_cons_of_mem _ hd)
  obtain ⟨i0, ei0⟩ := is_v g3
  obtain rfl : w0 = (.int i0) := Option.some.inj ei0
  obtain ⟨i1, ei1⟩ := is_v g5
  obtain rfl : w1 = (.int i1) := Option.some.inj ei1
  obtain ⟨i2, ei2⟩ := is_v g7
  obtain rfl : w2 = (.int i2) := Option.some.inj ei2
  obtain ⟨i3, ei3⟩ := is_v g9
  obtain rfl : w3 = (.int i3) := Option.some.inj ei3
  obtain ⟨i4, ei4⟩ := is_v g10
  obtain rfl : w4 = (.int i4) := Option.some.inj ei4
  have hr := Cond.before_iff.mp (show rest_1_c.before _ s = true from hrest)
  obtain ⟨r1, r2⟩ := and_e hr
  obtain ⟨r3, r4⟩ := and_e r2
  obtain ⟨r5, -⟩ := and_e r4
  obtain ⟨z, ez⟩ := is_v r3
  have hS0 := Sta.start ez (Or.inl (Cond.before_iff.mpr r1))
  have hz0 : z ≠ 0 := by
    intro q
    have r6 := not_v r5
    have e2 : (Jvm.Term.int (0 : Int32)).eval #[Value.int i0, Value.int i1, Value.int i2, Value.int i3, Value.int i4] s none [] s = some (.int 0) := rfl
    rw [q] at ez
    simp only [Cond.value, ez, e2] at r6
    simp at r6
  obtain ⟨n, o, h1, h2, h3, _, L, rfl, ⟨rfl, N⟩, hq⟩ := rm0 l s _ hw tables_1 i0 i1 i2 i3 i4 s.heap z hz0 hS0 p e ha hc hk s m _ below hf ((Spec.applies_iff_loose hf).mp happ).1 ⟨rfl, ⟨State.Warmed39.refl s, State.Warmed39.refl s⟩, rfl⟩ trivial
  refine ⟨n, _, h1, h2, h3, hpost _ _ _ _ _ _ ⟨Cond.after_iff.mpr rfl, Cond.after_iff.mpr (eq_i res_at (Term.int_eval (1)) rfl), trivial⟩ ⟨hq.1, hq.2.1, hq.2.2.1, (hq.2.2.2.sift fun y hy => Or.inr (N y hy)).mono (by decide) (by decide)⟩⟩
theorem main_1_1 : Claimed_1_1 := comes_1 fun _ _ _ _ _ _ h hF => ⟨h.1, hF⟩
theorem main_1_2 : Claimed_1_2 := comes_1 fun _ _ _ _ _ _ h hF => ⟨h.2.1, hF⟩
end Jvm.Pilot.@@N@@
namespace Jvm.Pilot.@@N@@
open Jvm Jvm.ClassFile Sem Op Lib Jvm.Free Jvm.Stand Jvm.Pilot.@@N@@.Jvm.D
/-! MADE BY PROGRAM (witnessworld.py) out of the Statement's table words and the real class files: 20 classes; the members and pool entries that the words name. The judged class is class 1, her method 2. -/
namespace start1
open Jvm.ClassFile
def u (s : String) : CpInfo := .utf8 (stringToUtf16 s)
/-- a pool by its gaps: so many unusable entries, then the entry; so many at the end -/
def gap : Nat → List CpInfo → List CpInfo
  | 0, r => r
  | n + 1, r => .unusable :: gap n r
def poolList (es : List (Nat × CpInfo)) (last : Nat) : List CpInfo := es.foldr (fun e r => gap e.1 (e.2 :: r)) (gap last [])
def pool (es : List (Nat × CpInfo)) (last : Nat) : Array CpInfo := ⟨poolList es last⟩
def fileOf (pool : Array CpInfo) (this : Nat) (attrs : Array Attribute := #[]) (ms : Array MethodInfo := #[]) (fl : Nat := 33) (sup : Nat := 0) (ifs : Array Nat := #[]) (fds : Array FieldInfo := #[]) : ClassFile where
  minorVersion := 0
  majorVersion := 65
  constantPool := pool
  accessFlags := fl
  thisClass := this
  superClass := sup
  interfaces := ifs
  fields := fds
  methods := ms
  attributes := attrs
def plain (name : String) (sup : Option ClassId) : Class where
  name := name
  kind := .ordinary
  loader := none
  accessFlags := 33
  super := sup
  interfaces := #[]
  cf := none
  fields := #[]
  methods := #[]
  instanceTypes := #[]
  staticTypes := #[]
  resolved := #[]
  callSites := []
  init := .initialized
  statics := none
  mirror := none

def pool0 : Array CpInfo := pool [(5, u "<init>"), (0, u "()V"), (1, .class_ 10), (1, u "java/lang/Object")] 113

def k0c0 : Code := { maxStack := 0, maxLocals := 1, code := object_method_1_code, exceptionTable := #[], attributes := #[] }
def k0m0 : Method := { name := "<init>", desc := "()V", sig := { parameters := [], returnType := none }, accessFlags := 1, code := some k0c0 }
/-- java/lang/Object -/
def k0 : Class := { plain "java/lang/Object" none with
  accessFlags := 33
  interfaces := #[]
  cf := some (fileOf pool0 8 #[] #[{ accessFlags := 1, nameIndex := 5, descriptorIndex := 6, attributes := #[] }] 33 0 #[] #[])
  fields := #[]
  methods := #[k0m0]
  instanceTypes := #[]
  staticTypes := #[]
  resolved := Array.replicate 124 none
  statics := none }

def pool1 : Array CpInfo := pool [(2, .class_ 4), (1, u "java/lang/Object"), (0, u "<init>"), (0, u "()V"), (0, .string 8), (0, u ""), (0, .class_ 10), (0, u "java/lang/String"), (0, .methodref 9 12), (0, .nameAndType 5 13), (0, u "([C)V"), (0, .methodref 15 16), (0, .class_ 17), (0, .nameAndType 18 19), (0, u "com/example/anole/anole/xpath/NameTestDefaultPriorityPinLaw"), (0, u "pick"), (0, u "(ZZII)Ljava/lang/String;"), (0, .class_ 21), (0, u "com/example/anole/anole/xpath/NameTest"), (0, .methodref 20 23), (0, .nameAndType 5 24), (0, u "(Ljava/lang/String;Ljava/lang/String;)V"), (0, .double 4616189618054758400), (1, .methodref 20 28), (0, .nameAndType 29 30), (0, u "defaultPriority"), (0, u "()D"), (3, u "law"), (0, u "(IIIII)Z")] 2

def k1m0 : Method := { name := "<init>", desc := "()V", sig := { parameters := [], returnType := none }, accessFlags := 1, code := none }
def k1c1 : Code := { maxStack := 4, maxLocals := 5, code := method_2_code, exceptionTable := #[], attributes := #[] }
def k1m1 : Method := { name := "pick", desc := "(ZZII)Ljava/lang/String;", sig := { parameters := [.boolean, .boolean, .int, .int], returnType := some (.object "java/lang/String") }, accessFlags := 10, code := some k1c1 }
def k1c2 : Code := { maxStack := 4, maxLocals := 17, code := code, exceptionTable := #[], attributes := #[] }
def k1m2 : Method := { name := "law", desc := "(IIIII)Z", sig := { parameters := [.int, .int, .int, .int, .int], returnType := some .boolean }, accessFlags := 9, code := some k1c2 }
/-- com/example/anole/anole/xpath/NameTestDefaultPriorityPinLaw -/
def k1 : Class := { plain "com/example/anole/anole/xpath/NameTestDefaultPriorityPinLaw" (some 0) with
  accessFlags := 49
  interfaces := #[]
  cf := some (fileOf pool1 15 #[] #[{ accessFlags := 1, nameIndex := 5, descriptorIndex := 6, attributes := #[] }, { accessFlags := 10, nameIndex := 18, descriptorIndex := 19, attributes := #[] }, { accessFlags := 9, nameIndex := 34, descriptorIndex := 35, attributes := #[] }] 49 2 #[] #[])
  fields := #[]
  methods := #[k1m0, k1m1, k1m2]
  instanceTypes := #[]
  staticTypes := #[]
  resolved := Array.replicate 38 none
  statics := none }

def pool2 : Array CpInfo := pool [(1, .methodref 2 3), (0, .class_ 4), (0, .nameAndType 5 6), (0, u "java/lang/Object"), (0, u "<init>"), (0, u "()V"), (0, .fieldref 8 9), (0, .class_ 10), (0, .nameAndType 11 12), (0, u "com/example/anole/anole/xpath/NameTest"), (0, u "namespaceUri"), (0, u "Ljava/lang/String;"), (0, .fieldref 8 14), (0, .nameAndType 15 12), (0, u "localName"), (0, .double 13821547256400052224), (1, .double 13826050856027422720), (16, u "(Ljava/lang/String;Ljava/lang/String;)V"), (3, u "defaultPriority"), (0, u "()D")] 7

def k2c0 : Code := { maxStack := 2, maxLocals := 3, code := prog_99_method_1_code, exceptionTable := #[], attributes := #[] }
def k2m0 : Method := { name := "<init>", desc := "(Ljava/lang/String;Ljava/lang/String;)V", sig := { parameters := [(.object "java/lang/String"), (.object "java/lang/String")], returnType := none }, accessFlags := 0, code := some k2c0 }
def k2c1 : Code := { maxStack := 2, maxLocals := 3, code := prog_99_method_4_code, exceptionTable := #[], attributes := #[] }
def k2m1 : Method := { name := "defaultPriority", desc := "()D", sig := { parameters := [], returnType := some .double }, accessFlags := 1, code := some k2c1 }
/-- com/example/anole/anole/xpath/NameTest -/
def k2 : Class := { plain "com/example/anole/anole/xpath/NameTest" (some 0) with
  accessFlags := 49
  interfaces := #[]
  cf := some (fileOf pool2 8 #[] #[{ accessFlags := 0, nameIndex := 5, descriptorIndex := 35, attributes := #[] }, { accessFlags := 1, nameIndex := 39, descriptorIndex := 40, attributes := #[] }] 49 2 #[] #[{ accessFlags := 18, nameIndex := 11, descriptorIndex := 12, attributes := #[] }, { accessFlags := 18, nameIndex := 15, descriptorIndex := 12, attributes := #[] }])
  fields := #[{ name := "namespaceUri", type := (.object "java/lang/String"), accessFlags := 18, slot := 0, constantValue := 0 }, { name := "localName", type := (.object "java/lang/String"), accessFlags := 18, slot := 1, constantValue := 0 }]
  methods := #[k2m0, k2m1]
  instanceTypes := #[(.object "java/lang/String"), (.object "java/lang/String")]
  staticTypes := #[]
  resolved := Array.replicate 48 none
  statics := none }

def pool3 : Array CpInfo := pool [(1, .class_ 2), (0, u "java/io/Serializable"), (0, .class_ 4), (0, u "java/lang/Object")] 2

/-- java/io/Serializable -/
def k3 : Class := { plain "java/io/Serializable" (some 0) with
  accessFlags := 1537
  interfaces := #[]
  cf := some (fileOf pool3 1 #[] #[] 1537 3 #[] #[])
  fields := #[]
  methods := #[]
  instanceTypes := #[]
  staticTypes := #[]
  resolved := Array.replicate 7 none
  statics := none }

def pool4 : Array CpInfo := pool [(1, .class_ 2), (0, u "java/lang/Comparable"), (0, .class_ 4), (0, u "java/lang/Object")] 7

/-- java/lang/Comparable -/
def k4 : Class := { plain "java/lang/Comparable" (some 0) with
  accessFlags := 1537
  interfaces := #[]
  cf := some (fileOf pool4 1 #[] #[] 1537 3 #[] #[])
  fields := #[]
  methods := #[]
  instanceTypes := #[]
  staticTypes := #[]
  resolved := Array.replicate 12 none
  statics := none }

def pool5 : Array CpInfo := pool [(2, .class_ 4), (1, u "java/lang/CharSequence"), (42, .class_ 48), (0, u "java/lang/CharSequence$1CodePointIterator"), (10, .class_ 60), (0, u "java/lang/CharSequence$1CharIterator"), (5, .class_ 67), (0, u "java/lang/Object")] 63

/-- java/lang/CharSequence -/
def k5 : Class := { plain "java/lang/CharSequence" (some 0) with
  accessFlags := 1537
  interfaces := #[]
  cf := some (fileOf pool5 2 #[.nestMembers #[47, 59]] #[] 1537 66 #[] #[])
  fields := #[]
  methods := #[]
  instanceTypes := #[]
  staticTypes := #[]
  resolved := Array.replicate 131 none
  statics := none }

def pool6 : Array CpInfo := pool [(1, .class_ 2), (0, u "java/lang/constant/Constable"), (0, .class_ 4), (0, u "java/lang/Object")] 6

/-- java/lang/constant/Constable -/
def k6 : Class := { plain "java/lang/constant/Constable" (some 0) with
  accessFlags := 1537
  interfaces := #[]
  cf := some (fileOf pool6 1 #[] #[] 1537 3 #[] #[])
  fields := #[]
  methods := #[]
  instanceTypes := #[]
  staticTypes := #[]
  resolved := Array.replicate 11 none
  statics := none }

def pool7 : Array CpInfo := pool [(1, .class_ 2), (0, u "java/lang/constant/ConstantDesc"), (0, .class_ 4), (0, u "java/lang/Object")] 32

/-- java/lang/constant/ConstantDesc -/
def k7 : Class := { plain "java/lang/constant/ConstantDesc" (some 0) with
  accessFlags := 1537
  interfaces := #[]
  cf := some (fileOf pool7 1 #[] #[] 1537 3 #[] #[])
  fields := #[]
  methods := #[]
  instanceTypes := #[]
  staticTypes := #[]
  resolved := Array.replicate 37 none
  statics := none }

def pool8 : Array CpInfo := pool [(1, .methodref 2 3), (0, .class_ 4), (0, .nameAndType 5 6), (0, u "java/lang/Object"), (0, u "<init>"), (0, u "()V"), (2, .fieldref 10 11), (0, .class_ 12), (0, .nameAndType 13 14), (0, u "java/lang/String"), (0, u "value"), (0, u "[B"), (0, .fieldref 10 16), (0, .nameAndType 17 18), (0, u "coder"), (0, u "B"), (2, u "hash"), (0, u "I"), (2, u "hashIsZero"), (0, u "Z"), (0, .methodref 10 28), (0, .nameAndType 5 29), (0, u "([CIILjava/lang/Void;)V"), (8, .fieldref 10 39), (0, .nameAndType 40 26), (0, u "COMPACT_STRINGS"), (1, .class_ 44), (1, u "java/lang/StringUTF16"), (0, u "compress"), (1, .methodref 42 48), (0, .nameAndType 49 50), (0, u "coderFromArrayLen"), (0, u "([BI)B"), (126, .methodref 42 178), (0, .nameAndType 45 179), (0, u "([CII)[B"), (395, .class_ 576), (0, u "java/lang/CharSequence"), (22, u "CASE_INSENSITIVE_ORDER"), (0, u "Ljava/util/Comparator;"), (409, u "([C)V"), (90, u "serialPersistentFields"), (0, u "[Ljava/io/ObjectStreamField;"), (0, .class_ 1104), (0, u "java/lang/String$CaseInsensitiveComparator"), (1, .class_ 1107), (0, u "java/io/Serializable"), (0, .class_ 1109), (0, u "java/lang/Comparable"), (0, .class_ 1111), (0, u "java/lang/constant/Constable"), (0, .class_ 1113), (0, u "java/lang/constant/ConstantDesc"), (2, u "serialVersionUID"), (0, u "J"), (3, u "REPL"), (0, u "C"), (2, u "LATIN1"), (1, u "UTF16")] 323

def k8m0 : Method := { name := "<init>", desc := "()V", sig := { parameters := [], returnType := none }, accessFlags := 1, code := none }
def k8c1 : Code := { maxStack := 5, maxLocals := 2, code := jdk_42_method_3_code, exceptionTable := #[], attributes := #[] }
def k8m1 : Method := { name := "<init>", desc := "([C)V", sig := { parameters := [(.array .char)], returnType := none }, accessFlags := 1, code := some k8c1 }
def k8c2 : Code := { maxStack := 4, maxLocals := 6, code := jdk_42_method_149_code, exceptionTable := #[], attributes := #[] }
def k8m2 : Method := { name := "<init>", desc := "([CIILjava/lang/Void;)V", sig := { parameters := [(.array .char), .int, .int, (.object "java/lang/Void")], returnType := none }, accessFlags := 2, code := some k8c2 }
/-- java/lang/String -/
def k8 : Class := { plain "java/lang/String" (some 0) with
  accessFlags := 49
  interfaces := #[3, 4, 5, 6, 7]
  cf := some (fileOf pool8 10 #[.nestMembers #[1103]] #[{ accessFlags := 1, nameIndex := 5, descriptorIndex := 6, attributes := #[] }, { accessFlags := 1, nameIndex := 5, descriptorIndex := 1010, attributes := #[] }, { accessFlags := 2, nameIndex := 5, descriptorIndex := 29, attributes := #[] }] 49 2 #[1106, 1108, 575, 1110, 1112] #[{ accessFlags := 18, nameIndex := 13, descriptorIndex := 14, attributes := #[] }, { accessFlags := 18, nameIndex := 17, descriptorIndex := 18, attributes := #[] }, { accessFlags := 2, nameIndex := 21, descriptorIndex := 22, attributes := #[] }, { accessFlags := 2, nameIndex := 25, descriptorIndex := 26, attributes := #[] }, { accessFlags := 26, nameIndex := 1116, descriptorIndex := 1117, attributes := #[] }, { accessFlags := 24, nameIndex := 40, descriptorIndex := 26, attributes := #[] }, { accessFlags := 26, nameIndex := 1101, descriptorIndex := 1102, attributes := #[] }, { accessFlags := 26, nameIndex := 1121, descriptorIndex := 1122, attributes := #[] }, { accessFlags := 25, nameIndex := 599, descriptorIndex := 600, attributes := #[] }, { accessFlags := 24, nameIndex := 1125, descriptorIndex := 18, attributes := #[] }, { accessFlags := 24, nameIndex := 1127, descriptorIndex := 18, attributes := #[] }])
  fields := #[{ name := "value", type := (.array .byte), accessFlags := 18, slot := 0, constantValue := 0 }, { name := "coder", type := .byte, accessFlags := 18, slot := 1, constantValue := 0 }, { name := "hash", type := .int, accessFlags := 2, slot := 2, constantValue := 0 }, { name := "hashIsZero", type := .boolean, accessFlags := 2, slot := 3, constantValue := 0 }, { name := "serialVersionUID", type := .long, accessFlags := 26, slot := 0, constantValue := 0 }, { name := "COMPACT_STRINGS", type := .boolean, accessFlags := 24, slot := 1, constantValue := 0 }, { name := "serialPersistentFields", type := (.array (.object "java/io/ObjectStreamField")), accessFlags := 26, slot := 2, constantValue := 0 }, { name := "REPL", type := .char, accessFlags := 26, slot := 3, constantValue := 0 }, { name := "CASE_INSENSITIVE_ORDER", type := (.object "java/util/Comparator"), accessFlags := 25, slot := 4, constantValue := 0 }, { name := "LATIN1", type := .byte, accessFlags := 24, slot := 5, constantValue := 0 }, { name := "UTF16", type := .byte, accessFlags := 24, slot := 6, constantValue := 0 }]
  methods := #[k8m0, k8m1, k8m2]
  instanceTypes := #[(.array .byte), .byte, .int, .boolean]
  staticTypes := #[.long, .boolean, (.array (.object "java/io/ObjectStreamField")), .char, (.object "java/util/Comparator"), .byte, .byte]
  resolved := Array.replicate 1451 none
  statics := some 0 }

def pool9 : Array CpInfo := pool [(6, .class_ 8), (1, u "java/lang/Object"), (0, u "<init>"), (0, u "()V"), (1, .class_ 14), (1, u "java/lang/StringUTF16"), (31, u "$assertionsDisabled"), (0, u "Z"), (13, u "HI_BYTE_SHIFT"), (0, u "I"), (2, u "LO_BYTE_SHIFT"), (49, .methodref 12 116), (0, .nameAndType 117 118), (0, u "compress"), (0, u "([CI[BII)I"), (3, u "([CII)[B"), (138, u "coderFromArrayLen"), (0, u "([BI)B"), (106, .class_ 371), (1, u "java/lang/StringUTF16$LinesSpliterator"), (58, u "MAX_LENGTH"), (196, .class_ 628), (0, u "java/lang/StringUTF16$CodePointsSpliterator"), (0, .class_ 630), (0, u "java/lang/StringUTF16$CharsSpliterator")] 4

def k9m0 : Method := { name := "<init>", desc := "()V", sig := { parameters := [], returnType := none }, accessFlags := 0, code := none }
def k9c1 : Code := { maxStack := 2, maxLocals := 2, code := jdk_52_method_15_code, exceptionTable := #[], attributes := #[] }
def k9m1 : Method := { name := "coderFromArrayLen", desc := "([BI)B", sig := { parameters := [(.array .byte), .int], returnType := some .byte }, accessFlags := 8, code := some k9c1 }
def k9c2 : Code := { maxStack := 5, maxLocals := 6, code := jdk_52_method_16_code, exceptionTable := #[], attributes := #[] }
def k9m2 : Method := { name := "compress", desc := "([CII)[B", sig := { parameters := [(.array .char), .int, .int], returnType := some (.array .byte) }, accessFlags := 9, code := some k9c2 }
def k9c3 : Code := { maxStack := 3, maxLocals := 7, code := jdk_52_method_21_code, exceptionTable := #[], attributes := #[] }
def k9m3 : Method := { name := "compress", desc := "([CI[BII)I", sig := { parameters := [(.array .char), .int, (.array .byte), .int, .int], returnType := some .int }, accessFlags := 9, code := some k9c3 }
/-- java/lang/StringUTF16 -/
def k9 : Class := { plain "java/lang/StringUTF16" (some 0) with
  accessFlags := 48
  interfaces := #[]
  cf := some (fileOf pool9 12 #[.nestMembers #[627, 629, 369]] #[{ accessFlags := 0, nameIndex := 9, descriptorIndex := 10, attributes := #[] }, { accessFlags := 8, nameIndex := 261, descriptorIndex := 262, attributes := #[] }, { accessFlags := 9, nameIndex := 117, descriptorIndex := 122, attributes := #[] }, { accessFlags := 9, nameIndex := 117, descriptorIndex := 118, attributes := #[] }] 48 6 #[] #[{ accessFlags := 26, nameIndex := 61, descriptorIndex := 62, attributes := #[] }, { accessFlags := 26, nameIndex := 65, descriptorIndex := 62, attributes := #[] }, { accessFlags := 24, nameIndex := 430, descriptorIndex := 62, attributes := #[] }, { accessFlags := 4120, nameIndex := 46, descriptorIndex := 47, attributes := #[] }])
  fields := #[{ name := "HI_BYTE_SHIFT", type := .int, accessFlags := 26, slot := 0, constantValue := 0 }, { name := "LO_BYTE_SHIFT", type := .int, accessFlags := 26, slot := 1, constantValue := 0 }, { name := "MAX_LENGTH", type := .int, accessFlags := 24, slot := 2, constantValue := 0 }, { name := "$assertionsDisabled", type := .boolean, accessFlags := 4120, slot := 3, constantValue := 0 }]
  methods := #[k9m0, k9m1, k9m2, k9m3]
  instanceTypes := #[]
  staticTypes := #[.int, .int, .int, .boolean]
  resolved := Array.replicate 635 none
  statics := none }

def pool10 : Array CpInfo := pool [(4, .class_ 6), (1, u "java/lang/Object"), (0, u "<init>"), (0, u "()V"), (5, .class_ 16), (1, u "java/lang/StringLatin1"), (104, u "$assertionsDisabled"), (0, u "Z"), (98, .class_ 223), (1, u "java/lang/StringLatin1$LinesSpliterator"), (166, .class_ 391), (0, u "java/lang/StringLatin1$CharsSpliterator")] 3

def k10m0 : Method := { name := "<init>", desc := "()V", sig := { parameters := [], returnType := none }, accessFlags := 0, code := none }
/-- java/lang/StringLatin1 -/
def k10 : Class := { plain "java/lang/StringLatin1" (some 0) with
  accessFlags := 48
  interfaces := #[]
  cf := some (fileOf pool10 14 #[.nestMembers #[390, 221]] #[{ accessFlags := 0, nameIndex := 7, descriptorIndex := 8, attributes := #[] }] 48 4 #[] #[{ accessFlags := 4120, nameIndex := 121, descriptorIndex := 122, attributes := #[] }])
  fields := #[{ name := "$assertionsDisabled", type := .boolean, accessFlags := 4120, slot := 0, constantValue := 0 }]
  methods := #[k10m0]
  instanceTypes := #[]
  staticTypes := #[.boolean]
  resolved := Array.replicate 395 none
  statics := none }

def pool11 : Array CpInfo := pool [(2, .class_ 4), (1, u "java/lang/Object"), (0, u "<init>"), (0, u "()V"), (17, .class_ 26), (1, u "jdk/internal/util/Preconditions"), (28, .class_ 56), (0, u "jdk/internal/util/Preconditions$4"), (57, .class_ 115), (0, u "jdk/internal/util/Preconditions$1"), (7, u "SIOOBE_FORMATTER"), (0, u "Ljava/util/function/BiFunction;"), (0, .class_ 126), (0, u "jdk/internal/util/Preconditions$2"), (3, u "AIOOBE_FORMATTER"), (0, .class_ 132), (0, u "jdk/internal/util/Preconditions$3"), (3, u "IOOBE_FORMATTER")] 57

def k11m0 : Method := { name := "<init>", desc := "()V", sig := { parameters := [], returnType := none }, accessFlags := 1, code := none }
/-- jdk/internal/util/Preconditions -/
def k11 : Class := { plain "jdk/internal/util/Preconditions" (some 0) with
  accessFlags := 33
  interfaces := #[]
  cf := some (fileOf pool11 24 #[.nestMembers #[55, 131, 125, 114]] #[{ accessFlags := 1, nameIndex := 5, descriptorIndex := 6, attributes := #[] }] 33 2 #[] #[{ accessFlags := 25, nameIndex := 123, descriptorIndex := 124, attributes := #[] }, { accessFlags := 25, nameIndex := 130, descriptorIndex := 124, attributes := #[] }, { accessFlags := 25, nameIndex := 136, descriptorIndex := 124, attributes := #[] }])
  fields := #[{ name := "SIOOBE_FORMATTER", type := (.object "java/util/function/BiFunction"), accessFlags := 25, slot := 0, constantValue := 0 }, { name := "AIOOBE_FORMATTER", type := (.object "java/util/function/BiFunction"), accessFlags := 25, slot := 1, constantValue := 0 }, { name := "IOOBE_FORMATTER", type := (.object "java/util/function/BiFunction"), accessFlags := 25, slot := 2, constantValue := 0 }]
  methods := #[k11m0]
  instanceTypes := #[]
  staticTypes := #[(.object "java/util/function/BiFunction"), (.object "java/util/function/BiFunction"), (.object "java/util/function/BiFunction")]
  resolved := Array.replicate 194 none
  statics := some 1 }

def pool12 : Array CpInfo := pool [(9, u "<init>"), (6, .class_ 18), (1, u "java/lang/Object"), (0, u "()V"), (1, .class_ 23), (1, u "jdk/internal/util/ArraysSupport"), (0, u "LOG2_ARRAY_LONG_INDEX_SCALE"), (0, u "I"), (2, u "U"), (0, u "Ljdk/internal/misc/Unsafe;"), (8, u "BIG_ENDIAN"), (0, u "Z"), (8, u "LOG2_BYTE_BIT_SIZE"), (4, u "LOG2_ARRAY_INT_INDEX_SCALE"), (54, u "JLA"), (0, u "Ljdk/internal/access/JavaLangAccess;"), (11, u "LOG2_ARRAY_BOOLEAN_INDEX_SCALE"), (9, u "LOG2_ARRAY_BYTE_INDEX_SCALE"), (5, u "LOG2_ARRAY_CHAR_INDEX_SCALE"), (5, u "LOG2_ARRAY_SHORT_INDEX_SCALE"), (18, u "LOG2_ARRAY_FLOAT_INDEX_SCALE"), (24, u "LOG2_ARRAY_DOUBLE_INDEX_SCALE"), (89, u "T_BOOLEAN"), (2, u "T_CHAR"), (1, u "T_FLOAT"), (1, u "T_DOUBLE"), (1, u "T_BYTE"), (1, u "T_SHORT"), (1, u "T_INT"), (1, u "T_LONG"), (1, u "SOFT_MAX_ARRAY_LENGTH")] 83

def k12m0 : Method := { name := "<init>", desc := "()V", sig := { parameters := [], returnType := none }, accessFlags := 2, code := none }
/-- jdk/internal/util/ArraysSupport -/
def k12 : Class := { plain "jdk/internal/util/ArraysSupport" (some 0) with
  accessFlags := 33
  interfaces := #[]
  cf := some (fileOf pool12 21 #[] #[{ accessFlags := 2, nameIndex := 9, descriptorIndex := 19, attributes := #[] }] 33 16 #[] #[{ accessFlags := 24, nameIndex := 28, descriptorIndex := 29, attributes := #[] }, { accessFlags := 26, nameIndex := 38, descriptorIndex := 39, attributes := #[] }, { accessFlags := 25, nameIndex := 121, descriptorIndex := 25, attributes := #[] }, { accessFlags := 25, nameIndex := 131, descriptorIndex := 25, attributes := #[] }, { accessFlags := 25, nameIndex := 137, descriptorIndex := 25, attributes := #[] }, { accessFlags := 25, nameIndex := 143, descriptorIndex := 25, attributes := #[] }, { accessFlags := 25, nameIndex := 53, descriptorIndex := 25, attributes := #[] }, { accessFlags := 25, nameIndex := 24, descriptorIndex := 25, attributes := #[] }, { accessFlags := 25, nameIndex := 162, descriptorIndex := 25, attributes := #[] }, { accessFlags := 25, nameIndex := 187, descriptorIndex := 25, attributes := #[] }, { accessFlags := 26, nameIndex := 48, descriptorIndex := 25, attributes := #[] }, { accessFlags := 25, nameIndex := 277, descriptorIndex := 25, attributes := #[] }, { accessFlags := 25, nameIndex := 280, descriptorIndex := 25, attributes := #[] }, { accessFlags := 25, nameIndex := 282, descriptorIndex := 25, attributes := #[] }, { accessFlags := 25, nameIndex := 284, descriptorIndex := 25, attributes := #[] }, { accessFlags := 25, nameIndex := 286, descriptorIndex := 25, attributes := #[] }, { accessFlags := 25, nameIndex := 288, descriptorIndex := 25, attributes := #[] }, { accessFlags := 25, nameIndex := 290, descriptorIndex := 25, attributes := #[] }, { accessFlags := 25, nameIndex := 292, descriptorIndex := 25, attributes := #[] }, { accessFlags := 26, nameIndex := 108, descriptorIndex := 109, attributes := #[] }, { accessFlags := 25, nameIndex := 294, descriptorIndex := 25, attributes := #[] }])
  fields := #[{ name := "U", type := (.object "jdk/internal/misc/Unsafe"), accessFlags := 24, slot := 0, constantValue := 0 }, { name := "BIG_ENDIAN", type := .boolean, accessFlags := 26, slot := 1, constantValue := 0 }, { name := "LOG2_ARRAY_BOOLEAN_INDEX_SCALE", type := .int, accessFlags := 25, slot := 2, constantValue := 0 }, { name := "LOG2_ARRAY_BYTE_INDEX_SCALE", type := .int, accessFlags := 25, slot := 3, constantValue := 0 }, { name := "LOG2_ARRAY_CHAR_INDEX_SCALE", type := .int, accessFlags := 25, slot := 4, constantValue := 0 }, { name := "LOG2_ARRAY_SHORT_INDEX_SCALE", type := .int, accessFlags := 25, slot := 5, constantValue := 0 }, { name := "LOG2_ARRAY_INT_INDEX_SCALE", type := .int, accessFlags := 25, slot := 6, constantValue := 0 }, { name := "LOG2_ARRAY_LONG_INDEX_SCALE", type := .int, accessFlags := 25, slot := 7, constantValue := 0 }, { name := "LOG2_ARRAY_FLOAT_INDEX_SCALE", type := .int, accessFlags := 25, slot := 8, constantValue := 0 }, { name := "LOG2_ARRAY_DOUBLE_INDEX_SCALE", type := .int, accessFlags := 25, slot := 9, constantValue := 0 }, { name := "LOG2_BYTE_BIT_SIZE", type := .int, accessFlags := 26, slot := 10, constantValue := 0 }, { name := "T_BOOLEAN", type := .int, accessFlags := 25, slot := 11, constantValue := 0 }, { name := "T_CHAR", type := .int, accessFlags := 25, slot := 12, constantValue := 0 }, { name := "T_FLOAT", type := .int, accessFlags := 25, slot := 13, constantValue := 0 }, { name := "T_DOUBLE", type := .int, accessFlags := 25, slot := 14, constantValue := 0 }, { name := "T_BYTE", type := .int, accessFlags := 25, slot := 15, constantValue := 0 }, { name := "T_SHORT", type := .int, accessFlags := 25, slot := 16, constantValue := 0 }, { name := "T_INT", type := .int, accessFlags := 25, slot := 17, constantValue := 0 }, { name := "T_LONG", type := .int, accessFlags := 25, slot := 18, constantValue := 0 }, { name := "JLA", type := (.object "jdk/internal/access/JavaLangAccess"), accessFlags := 26, slot := 19, constantValue := 0 }, { name := "SOFT_MAX_ARRAY_LENGTH", type := .int, accessFlags := 25, slot := 20, constantValue := 0 }]
  methods := #[k12m0]
  instanceTypes := #[]
  staticTypes := #[(.object "jdk/internal/misc/Unsafe"), .boolean, .int, .int, .int, .int, .int, .int, .int, .int, .int, .int, .int, .int, .int, .int, .int, .int, .int, (.object "jdk/internal/access/JavaLangAccess"), .int]
  resolved := Array.replicate 378 none
  statics := none }

def pool13 : Array CpInfo := pool [(1, u "java/lang/Cloneable"), (0, .class_ 1), (0, u "java/lang/Object"), (0, .class_ 3)] 3

/-- java/lang/Cloneable -/
def k13 : Class := { plain "java/lang/Cloneable" (some 0) with
  accessFlags := 1537
  interfaces := #[]
  cf := some (fileOf pool13 2 #[] #[] 1537 4 #[] #[])
  fields := #[]
  methods := #[]
  instanceTypes := #[]
  staticTypes := #[]
  resolved := Array.replicate 8 none
  statics := none }

/-- the primitive byte -/
def k14 : Class := { plain "byte" none with kind := .primitive 'B', accessFlags := 0x411 }
/-- [B -/
def k15 : Class := { plain "[B" (some 0) with kind := .array 14 .byte, interfaces := #[13, 3], accessFlags := 1041 }

/-- the primitive char -/
def k16 : Class := { plain "char" none with kind := .primitive 'C', accessFlags := 0x411 }
/-- [C -/
def k17 : Class := { plain "[C" (some 0) with kind := .array 16 .char, interfaces := #[13, 3], accessFlags := 1041 }

/-- the primitive int -/
def k18 : Class := { plain "int" none with kind := .primitive 'I', accessFlags := 0x411 }
/-- [I -/
def k19 : Class := { plain "[I" (some 0) with kind := .array 18 .int, interfaces := #[13, 3], accessFlags := 1041 }

def heap : Heap := #[{ cls := 8, slots := #[.long 0, .int 1, .null, .int 0, .null, .int 0, .int 0], vm := .statics 8 },
  { cls := 11, slots := #[.null, .null, .null], vm := .statics 11 }]
def classes : Array Class := #[k0, k1, k2, k3, k4, k5, k6, k7, k8, k9, k10, k11, k12, k13, k14, k15, k16, k17, k18, k19]
def interned : List (Array UInt16 × Addr) := []
def slotsUsed : Nat := 10
def theMethod : MethodId := ⟨1, 2⟩
def args0 : Array Value := #[.int 3, .int 65, .int 66, .int 67, .int 68]
def aboutOver (below : List Frame) : State where
  vm := { classes := classes, interned := interned.toArray }
  heap := heap
  slotsUsed := slotsUsed
  threads := #[{ frames := .invoking theMethod args0 :: below }]
def below0 : List Frame := [.native { method := ⟨0, 0⟩, args := #[] }]
def about1 : State := aboutOver below0
def p0 : Program := .bare "" "" ""
def e0 : Env := launch0.env 0 0 0
theorem w_frames : about1.frames = Frame.invoking theMethod args0 :: below0 := rfl
set_option maxRecDepth 65536 in
theorem w_args : argsFit about1.vm theMethod args0 = true := by decide +kernel
set_option maxRecDepth 65536 in
theorem w_heap : heapFits about1 = true := by decide +kernel
set_option maxRecDepth 65536 in
theorem w_runnable : about1.curStatus? = some .runnable := by decide +kernel
set_option maxRecDepth 65536 in
theorem w_alone : about1.alone = true := by decide +kernel
set_option maxRecDepth 65536 in
theorem w_named : about1.methodNamed? x = some theMethod := by decide +kernel
set_option maxRecDepth 65536 in
theorem w_hears : about1.hears theMethod below0 = true := by decide +kernel
set_option maxRecDepth 65536 in
theorem w_ripe : about1.ripe theMethod args0 below0 = true := by decide +kernel
theorem w_running : about1.status = .running := rfl
set_option maxRecDepth 65536 in
theorem w_room : about1.hasRoom e0.platform room_1 = true :=
  launch0.hasRoom_least _ room_1 (by decide +kernel) (by decide +kernel) (by decide +kernel) (by decide +kernel) (by decide +kernel) (by decide +kernel)
theorem allAtoms_all (ts : List Jvm.Cond) (a : Array Jvm.Value) (st : Jvm.State) : (allAtoms ts).before a st = ts.all (fun c => c.before a st) := by
  induction ts with
  | nil => rfl
  | cons c t ih =>
    show (Jvm.Cond.and c (allAtoms t)).before a st = _
    rw [Jvm.Cond.before_and, ih, List.all_cons]
def words1 : List Jvm.Cond := Jvm.Cond.code x code maxLocals ret :: tables_1
/-- a 'code' word, met by the world's own term for the bytes: nothing is compared byte by byte -/
theorem code_word {y : MethodName} {bytes : ByteArray} {mx : Nat} {rt : Option FieldType} {a : Array Value} {s : State} {m : MethodId} {meth : Method} {c : Code} (h1 : s.methodNamed? y = some m) (h2 : s.vm.method? m = some meth) (h3 : meth.code = some c) (h4 : c.code = bytes)
    (h5 : (c.maxLocals == mx && c.exceptionTable.isEmpty && decide (c.maxStack ≤ mostOperands) && decide (meth.sig.returnType = rt) && !meth.locks && decide (parseMethodDescriptor y.desc = some meth.sig)) = true) : (Jvm.Cond.code y bytes mx rt).before a s = true := by
  simp only [Bool.and_eq_true, beq_iff_eq, Bool.not_eq_true', decide_eq_true_eq] at h5
  obtain ⟨⟨⟨⟨⟨g1, g2⟩, g3⟩, g4⟩, g5⟩, g6⟩ := h5
  simp [Cond.before, Cond.holds, Cond.value, h1, h2, h3, h4, g1, g2, g3, g4, g5, g6]
def isCode : Jvm.Cond → Bool
  | .code _ _ _ _ => true
  | _ => false
theorem all_split {L : List Jvm.Cond} {P : Jvm.Cond → Bool} (h1 : L.all (fun c => isCode c || P c) = true) (h2 : ∀ c ∈ L.filter isCode, P c = true) : L.all P = true := by
  refine List.all_eq_true.mpr fun c hc => ?_
  have h := List.all_eq_true.mp h1 c hc
  rcases Bool.eq_false_or_eq_true (isCode c) with hi | hi
  · exact h2 c (List.mem_filter.mpr ⟨hc, hi⟩)
  · simpa [hi] using h
set_option maxRecDepth 65536 in
theorem w_c0 : (Jvm.Cond.code x code maxLocals ret).before args0 about1 = true := code_word (m := ⟨1, 2⟩) (meth := k1m2) (c := k1c2) (by decide +kernel) rfl rfl rfl (by decide +kernel)
set_option maxRecDepth 65536 in
theorem w_c1 : (Jvm.Cond.code ({ cls := "com/example/anole/anole/xpath/NameTestDefaultPriorityPinLaw", name := "pick", desc := "(ZZII)Ljava/lang/String;" } : Jvm.MethodName) method_2_code (5 : Nat) (Option.some (Jvm.ClassFile.FieldType.object "java/lang/String"))).before args0 about1 = true := code_word (m := ⟨1, 1⟩) (meth := k1m1) (c := k1c1) (by decide +kernel) rfl rfl rfl (by decide +kernel)
set_option maxRecDepth 65536 in
theorem w_c2 : (Jvm.Cond.code ({ cls := "com/example/anole/anole/xpath/NameTest", name := "<init>", desc := "(Ljava/lang/String;Ljava/lang/String;)V" } : Jvm.MethodName) prog_99_method_1_code (3 : Nat) (Option.none : Option Jvm.ClassFile.FieldType)).before args0 about1 = true := code_word (m := ⟨2, 0⟩) (meth := k2m0) (c := k2c0) (by decide +kernel) rfl rfl rfl (by decide +kernel)
set_option maxRecDepth 65536 in
theorem w_c3 : (Jvm.Cond.code ({ cls := "java/lang/Object", name := "<init>", desc := "()V" } : Jvm.MethodName) object_method_1_code (1 : Nat) (Option.none : Option Jvm.ClassFile.FieldType)).before args0 about1 = true := code_word (m := ⟨0, 0⟩) (meth := k0m0) (c := k0c0) (by decide +kernel) rfl rfl rfl (by decide +kernel)
set_option maxRecDepth 65536 in
theorem w_c4 : (Jvm.Cond.code ({ cls := "com/example/anole/anole/xpath/NameTest", name := "defaultPriority", desc := "()D" } : Jvm.MethodName) prog_99_method_4_code (3 : Nat) (Option.some Jvm.ClassFile.FieldType.double)).before args0 about1 = true := code_word (m := ⟨2, 1⟩) (meth := k2m1) (c := k2c1) (by decide +kernel) rfl rfl rfl (by decide +kernel)
set_option maxRecDepth 65536 in
theorem w_c5 : (Jvm.Cond.code ({ cls := "java/lang/String", name := "<init>", desc := "([C)V" } : Jvm.MethodName) jdk_42_method_3_code (2 : Nat) (Option.none : Option Jvm.ClassFile.FieldType)).before args0 about1 = true := code_word (m := ⟨8, 1⟩) (meth := k8m1) (c := k8c1) (by decide +kernel) rfl rfl rfl (by decide +kernel)
set_option maxRecDepth 65536 in
theorem w_c6 : (Jvm.Cond.code ({ cls := "java/lang/String", name := "<init>", desc := "([CIILjava/lang/Void;)V" } : Jvm.MethodName) jdk_42_method_149_code (6 : Nat) (Option.none : Option Jvm.ClassFile.FieldType)).before args0 about1 = true := code_word (m := ⟨8, 2⟩) (meth := k8m2) (c := k8c2) (by decide +kernel) rfl rfl rfl (by decide +kernel)
set_option maxRecDepth 65536 in
theorem w_c7 : (Jvm.Cond.code ({ cls := "java/lang/StringUTF16", name := "compress", desc := "([CII)[B" } : Jvm.MethodName) jdk_52_method_16_code (6 : Nat) (Option.some (Jvm.ClassFile.FieldType.array Jvm.ClassFile.FieldType.byte))).before args0 about1 = true := code_word (m := ⟨9, 2⟩) (meth := k9m2) (c := k9c2) (by decide +kernel) rfl rfl rfl (by decide +kernel)
set_option maxRecDepth 65536 in
theorem w_c8 : (Jvm.Cond.code ({ cls := "java/lang/StringUTF16", name := "compress", desc := "([CI[BII)I" } : Jvm.MethodName) jdk_52_method_21_code (7 : Nat) (Option.some Jvm.ClassFile.FieldType.int)).before args0 about1 = true := code_word (m := ⟨9, 3⟩) (meth := k9m3) (c := k9c3) (by decide +kernel) rfl rfl rfl (by decide +kernel)
set_option maxRecDepth 65536 in
theorem w_c9 : (Jvm.Cond.code ({ cls := "java/lang/StringUTF16", name := "coderFromArrayLen", desc := "([BI)B" } : Jvm.MethodName) jdk_52_method_15_code (2 : Nat) (Option.some Jvm.ClassFile.FieldType.byte)).before args0 about1 = true := code_word (m := ⟨9, 1⟩) (meth := k9m1) (c := k9c1) (by decide +kernel) rfl rfl rfl (by decide +kernel)
def codes1 : List Jvm.Cond := [Jvm.Cond.code x code maxLocals ret, Jvm.Cond.code ({ cls := "com/example/anole/anole/xpath/NameTestDefaultPriorityPinLaw", name := "pick", desc := "(ZZII)Ljava/lang/String;" } : Jvm.MethodName) method_2_code (5 : Nat) (Option.some (Jvm.ClassFile.FieldType.object "java/lang/String")), Jvm.Cond.code ({ cls := "com/example/anole/anole/xpath/NameTest", name := "<init>", desc := "(Ljava/lang/String;Ljava/lang/String;)V" } : Jvm.MethodName) prog_99_method_1_code (3 : Nat) (Option.none : Option Jvm.ClassFile.FieldType), Jvm.Cond.code ({ cls := "java/lang/Object", name := "<init>", desc := "()V" } : Jvm.MethodName) object_method_1_code (1 : Nat) (Option.none : Option Jvm.ClassFile.FieldType), Jvm.Cond.code ({ cls := "com/example/anole/anole/xpath/NameTest", name := "defaultPriority", desc := "()D" } : Jvm.MethodName) prog_99_method_4_code (3 : Nat) (Option.some Jvm.ClassFile.FieldType.double), Jvm.Cond.code ({ cls := "java/lang/String", name := "<init>", desc := "([C)V" } : Jvm.MethodName) jdk_42_method_3_code (2 : Nat) (Option.none : Option Jvm.ClassFile.FieldType), Jvm.Cond.code ({ cls := "java/lang/String", name := "<init>", desc := "([CIILjava/lang/Void;)V" } : Jvm.MethodName) jdk_42_method_149_code (6 : Nat) (Option.none : Option Jvm.ClassFile.FieldType), Jvm.Cond.code ({ cls := "java/lang/StringUTF16", name := "compress", desc := "([CII)[B" } : Jvm.MethodName) jdk_52_method_16_code (6 : Nat) (Option.some (Jvm.ClassFile.FieldType.array Jvm.ClassFile.FieldType.byte)), Jvm.Cond.code ({ cls := "java/lang/StringUTF16", name := "compress", desc := "([CI[BII)I" } : Jvm.MethodName) jdk_52_method_21_code (7 : Nat) (Option.some Jvm.ClassFile.FieldType.int), Jvm.Cond.code ({ cls := "java/lang/StringUTF16", name := "coderFromArrayLen", desc := "([BI)B" } : Jvm.MethodName) jdk_52_method_15_code (2 : Nat) (Option.some Jvm.ClassFile.FieldType.byte)]
set_option maxRecDepth 65536 in
theorem codes_eq : words1.filter isCode = codes1 := rfl
theorem w_codes : ∀ c ∈ words1.filter isCode, c.before args0 about1 = true := by
  rw [codes_eq]
  intro c hc
  simp only [codes1, List.mem_cons, List.not_mem_nil, or_false] at hc
  rcases hc with rfl | rfl | rfl | rfl | rfl | rfl | rfl | rfl | rfl | rfl
  · exact w_c0
  · exact w_c1
  · exact w_c2
  · exact w_c3
  · exact w_c4
  · exact w_c5
  · exact w_c6
  · exact w_c7
  · exact w_c8
  · exact w_c9
set_option maxRecDepth 65536 in
theorem w_t1 : (words1.take 24).all (fun c => isCode c || c.before args0 about1) = true := by decide +kernel
set_option maxRecDepth 65536 in
theorem w_t2 : ((words1.drop 24).take 24).all (fun c => isCode c || c.before args0 about1) = true := by decide +kernel
set_option maxRecDepth 65536 in
theorem w_t3 : ((words1.drop 24).drop 24).all (fun c => isCode c || c.before args0 about1) = true := by decide +kernel
theorem w_tables : (allAtoms (Jvm.Cond.code x code maxLocals ret :: tables_1)).before args0 about1 = true := by
  rw [allAtoms_all]
  show words1.all (fun c => c.before args0 about1) = true
  refine all_split ?_ w_codes
  rw [← List.take_append_drop 24 words1, List.all_append, w_t1, ← List.take_append_drop 24 (words1.drop 24), List.all_append, w_t2, w_t3]
  rfl
set_option maxRecDepth 65536 in
theorem w_rest : rest_1_c.before args0 about1 = true := by decide +kernel
set_option maxRecDepth 65536 in
theorem w_case : (Jvm.Cond.and given_1 narrow_1).before args0 about1 = true := by decide +kernel
theorem w_applies : (headSpec (Jvm.Cond.code x code maxLocals ret :: tables_1) room_1).applies x e0.platform about1 = true :=
  (Spec.applies_iff w_frames).mpr ⟨w_running, w_runnable, w_alone, w_named, w_hears, w_ripe, w_room, w_tables⟩
theorem atStart : AtStart classFile x code maxLocals ret World_1 tables_1 room_1 Calls_1 rest_1 Pre_1 launch0 p0 e0 about1 theMethod args0 below0 :=
  ⟨lists_1, trivial, launch0.admits_env _ _ _, launch0.least_env, fairChoices_fair.cas, fairChoices_fair.clock, w_frames, w_args, w_heap, w_applies, trivial, w_rest, w_case⟩
end start1
theorem witness_1 : WitnessClaimed_1 := ⟨start1.p0, start1.e0, start1.about1, start1.theMethod, start1.args0, start1.below0, start1.atStart⟩
end Jvm.Pilot.@@N@@
