import JvmDerived
import JvmDerived.Pilot.@@N@@Statement
import JvmDerived.Pilot.@@N@@Code
set_option linter.unusedVariables false
set_option linter.unusedSimpArgs false
namespace Jvm.OwnX
open Sem ClassFile Op Lib Jvm.Stand Jvm.Free Jvm.LawKit Jvm.RoadKit
/-! ### 1. Symbolic values -/
abbrev En := Nat → Int32 × Int64
def op2v (o : Binary) (x y : Int32 × Int64) : Int32 × Int64 := match o with
  | .iand => (x.1 &&& y.1, 0)
  | .ior => (x.1 ||| y.1, 0)
  | .ixor => (x.1 ^^^ y.1, 0)
  | .ishl => (x.1 <<< (y.1 &&& 31), 0)
  | .ishr => (x.1 >>> (y.1 &&& 31), 0)
  | .iushr => ((x.1.toUInt32 >>> (y.1 &&& 31).toUInt32).toInt32, 0)
  | .ladd => (0, x.2 + y.2)
  | .lsub => (0, x.2 - y.2)
  | .lmul => (0, x.2 * y.2)
  | .land => (0, x.2 &&& y.2)
  | .lor => (0, x.2 ||| y.2)
  | .lxor => (0, x.2 ^^^ y.2)
  | .lshl => (0, x.2 <<< (y.1 &&& 0x3f).toInt64)
  | .lshr => (0, x.2 >>> (y.1 &&& 0x3f).toInt64)
  | .lushr => (0, (x.2.toUInt64 >>> (y.1 &&& 0x3f).toInt64.toUInt64).toInt64)
  | .lcmp => (lcmpW x.2 y.2, 0)
  | _ => (0, 0)
def op1v (o : Unary) (x : Int32 × Int64) : Int32 × Int64 := match o with
  | .ineg => (-x.1, 0)
  | .lneg => (0, -x.2)
  | .i2l => (0, x.1.toInt64)
  | .l2i => (x.2.toInt32, 0)
  | .i2b => (x.1.toInt8.toInt32, 0)
  | .i2c => (x.1.toUInt32.toUInt16.toUInt32.toInt32, 0)
  | .i2s => (x.1.toInt16.toInt32, 0)
  | _ => (0, 0)
def te (A : En) : Term → Int32 × Int64
  | .arg i => A i
  | .int v => (v, 0)
  | .long v => (0, v)
  | .add a b => ((te A a).1 + (te A b).1, 0)
  | .sub a b => ((te A a).1 - (te A b).1, 0)
  | .mul a b => ((te A a).1 * (te A b).1, 0)
  | .div a b => ((te A a).1 / (te A b).1, 0)
  | .rem a b => ((te A a).1 % (te A b).1, 0)
  | .op2 o a b => op2v o (te A a) (te A b)
  | .op1 o a => op1v o (te A a)
  | _ => (0, 0)
def isLit : Term → Bool
  | .int _ => true
  | .long _ => true
  | _ => false
def kids : Term → Bool
  | .add a b => isLit a && isLit b
  | .sub a b => isLit a && isLit b
  | .mul a b => isLit a && isLit b
  | .div a b => isLit a && isLit b
  | .rem a b => isLit a && isLit b
  | .op2 _ a b => isLit a && isLit b
  | .op1 _ a => isLit a
  | _ => false
def e0 : En := fun _ => (0, 0)
def smI (t : Term) : Term := bif kids t then .int (te e0 t).1 else t
def smL (t : Term) : Term := bif kids t then .long (te e0 t).2 else t
theorem te_lit {t : Term} (h : isLit t = true) (A B : En) : te A t = te B t := by
  cases t <;> simp [isLit] at h <;> rfl
theorem te_kids {t : Term} (h : kids t = true) (A B : En) : te A t = te B t := by
  cases t <;> simp [kids] at h
  all_goals first
    | (rename_i a b; simp only [te, te_lit h.1 A B, te_lit h.2 A B])
    | (rename_i o a; simp only [te, te_lit h A B])
theorem te_smI (A : En) (t : Term) : (te A (smI t)).1 = (te A t).1 := by
  unfold smI
  cases h : kids t
  · rfl
  · simp only [cond_true, te, te_kids h A e0]
theorem te_smL (A : En) (t : Term) : (te A (smL t)).2 = (te A t).2 := by
  unfold smL
  cases h : kids t
  · rfl
  · simp only [cond_true, te, te_kids h A e0]
/-- a symbolic value: its kind (0 int, 1 long, 2 reference, 3 double) and its term -/
abbrev SV := Nat × Term
abbrev SL := Option (Option SV)
abbrev Ob := Nat × List SV
abbrev Cf := List SL × List SV × List Ob × Nat
abbrev Nx := List Cond × Nat × Cf
abbrev Stp := List Cond → Cf → Option (List Nx)
/-- a shape: an array's element type, or a class with its number of slots and its fields (declaring class, name, descriptor, type) -/
abbrev Fi := String × String × String × FieldType
abbrev Sh := Option FieldType × String × Nat × List Fi
def rf (O : Nat → Addr) (n0 : Nat) : Term → Value
  | .index k => .ref (n0 + k)
  | .arg i => .ref (O i)
  | _ => .null
def vv (A : En) (O : Nat → Addr) (n0 : Nat) (x : SV) : Value := match x.1 with
  | 0 => .int (te A x.2).1
  | 1 => .long (te A x.2).2
  | 2 => rf O n0 x.2
  | _ => .double (te A x.2).2.toUInt64
def sl1 (A : En) (O : Nat → Addr) (n0 : Nat) : SL → Slot
  | none => .unset
  | some none => .second
  | some (some x) => .val (vv A O n0 x)
def cat (x : SV) : Nat := match x.1 with
  | 1 => 2
  | 3 => 2
  | 0 => 1
  | 2 => 1
  | _ => 2
theorem rf_isRef (O : Nat → Addr) (n0 : Nat) (t : Term) : (rf O n0 t).isRef = true := by cases t <;> rfl
theorem vv_cat (A : En) (O : Nat → Addr) (n0 : Nat) (x : SV) : (vv A O n0 x).category = cat x := by
  obtain ⟨k, t⟩ := x
  match k with
  | 0 => rfl
  | 1 => rfl
  | 2 => show (rf O n0 t).category = 1; cases t <;> rfl
  | 3 => rfl
  | n + 4 => rfl
/-! ### 2. Facts -/
def hold (A : En) : Cond → Prop
  | .eq a b => (te A a).1 = (te A b).1
  | .lt a b => (te A a).1 < (te A b).1
  | .not c => ¬ hold A c
  | _ => True
def holds (A : En) (F : List Cond) : Prop := ∀ c ∈ F, hold A c
theorem holds_cons {A : En} {c : Cond} {F : List Cond} (h : hold A c) (H : holds A F) : holds A (c :: F) := by
  intro d hd
  rcases List.mem_cons.mp hd with rfl | hd
  · exact h
  · exact H d hd
/-- the same term -/
def tq : Term → Term → Bool
  | .arg i, .arg j => i == j
  | .int x, .int y => x == y
  | .long x, .long y => x == y
  | .null, .null => true
  | .index i, .index j => i == j
  | .add a b, .add c d => tq a c && tq b d
  | .sub a b, .sub c d => tq a c && tq b d
  | .mul a b, .mul c d => tq a c && tq b d
  | .div a b, .div c d => tq a c && tq b d
  | .rem a b, .rem c d => tq a c && tq b d
  | .op2 o a b, .op2 p c d => (o == p) && (tq a c && tq b d)
  | .op1 o a, .op1 p b => (o == p) && tq a b
  | _, _ => false
theorem tq_eq : ∀ {a b : Term}, tq a b = true → a = b := by
  intro a
  induction a <;> intro b h <;> cases b <;> simp [tq] at h
  all_goals first
    | rfl
    | (subst h; rfl)
    | (rename_i i1 i2 _ _; rw [i1 h.1, i2 h.2])
    | (rename_i i1 i2 _ _ _; rw [h.1, i1 h.2.1, i2 h.2.2])
    | (rename_i i1 _ _; rw [h.1, i1 h.2])
def cut (lo hi : Int) : Int × Int := bif (decide (-2147483648 ≤ lo)) && (decide (hi ≤ 2147483647)) then (lo, hi) else (-2147483648, 2147483647)
def lcr (p q : Int × Int) : Int × Int :=
  bif decide (p.2 < q.1) then (-1, -1) else bif decide (q.2 < p.1) then (1, 1) else
  bif decide (p.1 = p.2) && (decide (q.1 = q.2) && decide (p.1 = q.1)) then (0, 0) else
  bif decide (p.2 ≤ q.1) then (-1, 0) else bif decide (q.2 ≤ p.1) then (0, 1) else (-1, 1)
def fI : Int × Int := (-2147483648, 2147483647)
def fL : Int × Int := (-9223372036854775808, 9223372036854775807)
/-- bounds of a term's two views -/
def rg0 : Term → (Int × Int) × (Int × Int)
  | .int v => ((v.toInt, v.toInt), fL)
  | .long v => (fI, (v.toInt, v.toInt))
  | .add a b => (cut ((rg0 a).1.1 + (rg0 b).1.1) ((rg0 a).1.2 + (rg0 b).1.2), fL)
  | .sub a b => (cut ((rg0 a).1.1 - (rg0 b).1.2) ((rg0 a).1.2 - (rg0 b).1.1), fL)
  | .rem a b => (bif decide (0 < (rg0 b).1.1) then (bif decide (0 ≤ (rg0 a).1.1) then (0, (rg0 b).1.2 - 1) else (1 - (rg0 b).1.2, (rg0 b).1.2 - 1)) else fI, fL)
  | .op2 .iand a b => (bif decide (0 ≤ (rg0 b).1.1) then (0, (rg0 b).1.2) else bif decide (0 ≤ (rg0 a).1.1) then (0, (rg0 a).1.2) else fI, fL)
  | .op2 .lcmp a b => (bif tq a b then (0, 0) else lcr (rg0 a).2 (rg0 b).2, fL)
  | .op2 .land a b => (fI, bif decide (0 ≤ (rg0 b).2.1) || decide (0 ≤ (rg0 a).2.1) then (0, 9223372036854775807) else fL)
  | .op1 .i2c a => (bif decide (0 ≤ (rg0 a).1.1) && decide ((rg0 a).1.2 ≤ 65535) then (rg0 a).1 else (0, 65535), fL)
  | .op1 .i2b _ => ((-128, 127), fL)
  | .op1 .i2l a => (fI, (rg0 a).1)
  | _ => (fI, fL)
def bI (p : Int × Int) (x : Int32) : Prop := p.1 ≤ x.toInt ∧ x.toInt ≤ p.2
def bL (p : Int × Int) (x : Int64) : Prop := p.1 ≤ x.toInt ∧ x.toInt ≤ p.2
theorem bI_full (x : Int32) : bI fI x := by have := rng32 x; simp only [bI, fI]; omega
theorem bL_full (x : Int64) : bL fL x := by have := rng64 x; simp only [bL, fL]; omega
theorem cut_ok {lo hi : Int} {x : Int32} {v : Int} (h1 : lo ≤ v) (h2 : v ≤ hi) (h3 : (x.toInt - v) % 4294967296 = 0) : bI (cut lo hi) x := by
  have := rng32 x
  unfold cut
  cases h : (decide (-2147483648 ≤ lo) && decide (hi ≤ 2147483647))
  · exact bI_full x
  · simp only [Bool.and_eq_true, decide_eq_true_eq] at h
    simp only [cond_true, bI]; omega
theorem lcr_ok {p q : Int × Int} {x y : Int64} (hx : bL p x) (hy : bL q y) : bI (lcr p q) (lcmpW x y) := by
  have h := c_lcmp x y
  obtain ⟨h1, h2⟩ := hx
  obtain ⟨h3, h4⟩ := hy
  obtain ⟨c1, c2, c3⟩ := h
  unfold lcr
  have hc : (lcmpW x y).toInt = -1 ∨ (lcmpW x y).toInt = 0 ∨ (lcmpW x y).toInt = 1 := by
    rcases Int.lt_trichotomy x.toInt y.toInt with h | h | h
    · exact Or.inl (c1 h)
    · exact Or.inr (Or.inl (c2 h))
    · exact Or.inr (Or.inr (c3 h))
  cases q1 : decide (p.2 < q.1)
  · cases q2 : decide (q.2 < p.1)
    · cases q3 : (decide (p.1 = p.2) && (decide (q.1 = q.2) && decide (p.1 = q.1)))
      · cases q4 : decide (p.2 ≤ q.1)
        · cases q5 : decide (q.2 ≤ p.1)
          · simp only [cond_false, cond_true, bI]; omega
          · simp only [cond_false, cond_true, bI]; simp only [decide_eq_true_eq] at q5
            rcases Int.lt_trichotomy x.toInt y.toInt with h | h | h
            · omega
            · have := c2 h; omega
            · have := c3 h; omega
        · simp only [cond_false, cond_true, bI]; simp only [decide_eq_true_eq] at q4
          rcases Int.lt_trichotomy x.toInt y.toInt with h | h | h
          · have := c1 h; omega
          · have := c2 h; omega
          · omega
      · simp only [Bool.and_eq_true, decide_eq_true_eq] at q3
        have := c2 (by omega)
        simp only [cond_false, cond_true, bI]; omega
    · simp only [decide_eq_true_eq] at q2
      have := c3 (by omega)
      simp only [cond_false, cond_true, bI]; omega
  · simp only [decide_eq_true_eq] at q1
    have := c1 (by omega)
    simp only [cond_true, bI]; omega
theorem rg0_ok (A : En) : ∀ t : Term, bI (rg0 t).1 (te A t).1 ∧ bL (rg0 t).2 (te A t).2 := by
  intro t
  induction t with
  | int v => exact ⟨⟨Int.le_refl _, Int.le_refl _⟩, bL_full _⟩
  | long v => exact ⟨bI_full _, ⟨Int.le_refl _, Int.le_refl _⟩⟩
  | add a b ia ib =>
    refine ⟨?_, bL_full _⟩
    exact cut_ok (v := (te A a).1.toInt + (te A b).1.toInt) (by have := ia.1.1; have := ib.1.1; omega) (by have := ia.1.2; have := ib.1.2; omega) (c_iadd _ _)
  | sub a b ia ib =>
    refine ⟨?_, bL_full _⟩
    exact cut_ok (v := (te A a).1.toInt - (te A b).1.toInt) (by have := ia.1.1; have := ib.1.2; omega) (by have := ia.1.2; have := ib.1.1; omega) (c_isub _ _)
  | rem a b ia ib =>
    refine ⟨?_, bL_full _⟩
    have ia := ia.1
    have ib := ib.1
    show bI (bif decide (0 < (rg0 b).1.1) then (bif decide (0 ≤ (rg0 a).1.1) then (0, (rg0 b).1.2 - 1) else (1 - (rg0 b).1.2, (rg0 b).1.2 - 1)) else fI) ((te A a).1 % (te A b).1)
    have h := c_iremV (te A a).1 (te A b).1
    cases q1 : decide (0 < (rg0 b).1.1)
    · exact bI_full _
    · simp only [decide_eq_true_eq] at q1
      have hb : 0 < (te A b).1.toInt := by have := ib.1; omega
      have hb2 := ib.2
      have ha1 := ia.1
      cases q2 : decide (0 ≤ (rg0 a).1.1)
      · simp only [cond_true, cond_false, bI]
        by_cases q : 0 ≤ (te A a).1.toInt
        · have := h.1 q hb; omega
        · have := h.2 (by omega) hb; omega
      · simp only [decide_eq_true_eq] at q2
        have := h.1 (by omega) hb
        simp only [cond_true, bI]; omega
  | op2 o a b ia ib =>
    cases o with
    | iand =>
      refine ⟨?_, bL_full _⟩
      have ia := ia.1
      have ib := ib.1
      show bI (bif decide (0 ≤ (rg0 b).1.1) then (0, (rg0 b).1.2) else bif decide (0 ≤ (rg0 a).1.1) then (0, (rg0 a).1.2) else fI) ((te A a).1 &&& (te A b).1)
      have ha1 := ia.1
      have ha2 := ia.2
      have hb1 := ib.1
      have hb2 := ib.2
      cases q1 : decide (0 ≤ (rg0 b).1.1)
      · cases q2 : decide (0 ≤ (rg0 a).1.1)
        · exact bI_full _
        · simp only [decide_eq_true_eq] at q2
          have := c_and' (te A a).1 (te A b).1 (by omega)
          simp only [cond_true, cond_false, bI]; omega
      · simp only [decide_eq_true_eq] at q1
        have := c_and (te A a).1 (te A b).1 (by omega)
        simp only [cond_true, bI]; omega
    | lcmp =>
      refine ⟨?_, bL_full _⟩
      show bI (bif tq a b then (0, 0) else lcr (rg0 a).2 (rg0 b).2) (lcmpW (te A a).2 (te A b).2)
      cases q : tq a b
      · exact lcr_ok ia.2 ib.2
      · obtain rfl := tq_eq q
        have e : lcmpW (te A a).2 (te A a).2 = 0 := by simp [lcmpW, Int64.lt_irrefl]
        rw [e]; show bI (0, 0) 0; exact ⟨by decide, by decide⟩
    | land =>
      refine ⟨bI_full _, ?_⟩
      have h1 := ia.2.1
      have h2 := ib.2.1
      have h3 := c_andSL (te A a).2 (te A b).2
      have h4 := rng64 ((te A a).2 &&& (te A b).2)
      show bL (bif decide (0 ≤ (rg0 b).2.1) || decide (0 ≤ (rg0 a).2.1) then (0, 9223372036854775807) else fL) ((te A a).2 &&& (te A b).2)
      cases q : (decide (0 ≤ (rg0 b).2.1) || decide (0 ≤ (rg0 a).2.1))
      · exact bL_full _
      · simp only [Bool.or_eq_true, decide_eq_true_eq] at q
        simp only [cond_true, bL]
        rcases q with q | q
        · have := h3.2.2 (by omega); omega
        · have := h3.2.1 (by omega); omega
    | _ => exact ⟨bI_full _, bL_full _⟩
  | op1 o a ia =>
    cases o with
    | i2c =>
      refine ⟨?_, bL_full _⟩
      have := c_i2c (te A a).1
      have ia := ia.1
      have h1 := ia.1
      have h2 := ia.2
      show bI (bif decide (0 ≤ (rg0 a).1.1) && decide ((rg0 a).1.2 ≤ 65535) then (rg0 a).1 else (0, 65535)) _
      cases q : (decide (0 ≤ (rg0 a).1.1) && decide ((rg0 a).1.2 ≤ 65535))
      · simp only [cond_false, bI, te, op1v]; omega
      · simp only [Bool.and_eq_true, decide_eq_true_eq] at q
        simp only [cond_true, bI, te, op1v]; omega
    | i2b => refine ⟨?_, bL_full _⟩; have := c_i2b (te A a).1; show bI (-128, 127) _; simp only [bI, te, op1v]; omega
    | i2l => refine ⟨bI_full _, ?_⟩; have := c_i2l (te A a).1; have h1 := ia.1.1; have h2 := ia.1.2; show bL (rg0 a).1 (te A a).1.toInt64; simp only [bL]; omega
    | _ => exact ⟨bI_full _, bL_full _⟩
  | _ => exact ⟨bI_full _, bL_full _⟩
/-- what one fact says of a term -/
def nr1 (t : Term) (c : Cond) (p : Int × Int) : Int × Int := match c with
  | .eq a (.int v) => bif tq a t then (v.toInt, v.toInt) else p
  | .lt a (.int v) => bif tq a t then (p.1, bif decide (v.toInt - 1 < p.2) then v.toInt - 1 else p.2) else p
  | .lt (.int v) a => bif tq a t then (bif decide (p.1 < v.toInt + 1) then v.toInt + 1 else p.1, p.2) else p
  | .not (.lt a (.int v)) => bif tq a t then (bif decide (p.1 < v.toInt) then v.toInt else p.1, p.2) else p
  | .not (.lt (.int v) a) => bif tq a t then (p.1, bif decide (v.toInt < p.2) then v.toInt else p.2) else p
  | .not (.eq a (.int v)) => bif tq a t then (bif decide (p.1 = v.toInt) then p.1 + 1 else p.1, bif decide (p.2 = v.toInt) then p.2 - 1 else p.2) else p
  | _ => p
def nr (t : Term) : List Cond → Int × Int → Int × Int
  | [], p => p
  | c :: F, p => nr1 t c (nr t F p)
/-- the facts on a comparison of longs are read both ways -/
def rg (F : List Cond) (t : Term) : Int × Int := match t with
  | .op2 .lcmp a b => nr t F (-(nr (.op2 .lcmp b a) F (rg0 (.op2 .lcmp b a)).1).2, -(nr (.op2 .lcmp b a) F (rg0 (.op2 .lcmp b a)).1).1)
  | t => nr t F (nr t F (rg0 t).1)
theorem nr1_ok {A : En} {t : Term} {c : Cond} {p : Int × Int} (hc : hold A c) (h : bI p (te A t).1) : bI (nr1 t c p) (te A t).1 := by
  obtain ⟨h1, h2⟩ := h
  unfold nr1
  split
  all_goals first
    | exact ⟨h1, h2⟩
    | (rename_i a v
       cases q : tq a t
       · exact ⟨h1, h2⟩
       · obtain rfl := tq_eq q
         simp only [hold, te, Int32.lt_iff_toInt_lt, ← Int32.toInt_inj] at hc
         simp only [cond_true, bI]
         try simp only [Bool.cond_decide]
         refine ⟨?_, ?_⟩ <;> first | omega | (split <;> omega))
    | (rename_i v a _
       cases q : tq a t
       · exact ⟨h1, h2⟩
       · obtain rfl := tq_eq q
         simp only [hold, te, Int32.lt_iff_toInt_lt, ← Int32.toInt_inj] at hc
         simp only [cond_true, bI]
         try simp only [Bool.cond_decide]
         refine ⟨?_, ?_⟩ <;> first | omega | (split <;> omega))
theorem nr_ok {A : En} {t : Term} : ∀ {F : List Cond} {p : Int × Int}, holds A F → bI p (te A t).1 → bI (nr t F p) (te A t).1
  | [], p, _, h => h
  | c :: F, p, hF, h => nr1_ok (hF c (List.mem_cons_self ..)) (nr_ok (fun d hd => hF d (List.mem_cons_of_mem _ hd)) h)
theorem cmp_flip (x y : Int64) : (lcmpW x y).toInt = -(lcmpW y x).toInt := by
  have h1 := c_lcmp x y
  have h2 := c_lcmp y x
  rcases Int.lt_trichotomy x.toInt y.toInt with h | h | h
  · have a := h1.1 h; have b := h2.2.2 h; omega
  · have a := h1.2.1 h; have b := h2.2.1 h.symm; omega
  · have a := h1.2.2 h; have b := h2.1 h; omega
theorem rg_ok {A : En} {F : List Cond} (hF : holds A F) (t : Term) : bI (rg F t) (te A t).1 := by
  unfold rg
  split
  · rename_i a b
    refine nr_ok hF ?_
    obtain ⟨h1, h2⟩ := nr_ok hF (rg0_ok A (.op2 .lcmp b a)).1
    have h3 : (te A (.op2 .lcmp a b)).1.toInt = -(te A (.op2 .lcmp b a)).1.toInt := cmp_flip _ _
    constructor <;> simp only <;> omega
  · exact nr_ok hF (nr_ok hF (rg0_ok A t).1)
def cq : Cond → Cond → Bool
  | .eq a b, .eq c d => tq a c && tq b d
  | .lt a b, .lt c d => tq a c && tq b d
  | _, _ => false
theorem cq_eq {c d : Cond} (h : cq c d = true) : c = d := by
  unfold cq at h
  split at h
  · simp only [Bool.and_eq_true] at h; rw [tq_eq h.1, tq_eq h.2]
  · simp only [Bool.and_eq_true] at h; rw [tq_eq h.1, tq_eq h.2]
  · cases h
def lk (c : Cond) : List Cond → Option Bool
  | [] => none
  | .not d :: F => bif cq c d then some false else lk c F
  | d :: F => bif cq c d then some true else lk c F
theorem lk_ok {A : En} {c : Cond} : ∀ {F : List Cond} {b : Bool}, holds A F → lk c F = some b → (hold A c ↔ b = true)
  | [], b, _, h => by cases h
  | d :: F, b, hF, h => by
    have hd := hF d (List.mem_cons_self ..)
    have ih := fun b h => lk_ok (A := A) (c := c) (F := F) (b := b) (fun d hd => hF d (List.mem_cons_of_mem _ hd)) h
    unfold lk at h
    split at h
    · cases h
    · rename_i d' F' q
      cases q
      cases q : cq c d'
      · rw [q] at h; exact ih b h
      · rw [q] at h; cases h; obtain rfl := cq_eq q
        exact ⟨fun x => absurd x hd, fun x => by cases x⟩
    · rename_i d' F' _ q
      cases q
      cases q : cq c d
      · rw [q] at h; exact ih b h
      · rw [q] at h; cases h; obtain rfl := cq_eq q
        exact ⟨fun _ => rfl, fun _ => hd⟩
/-- is the atom decided by the facts? -/
def dec (F : List Cond) (c : Cond) : Option Bool := match c with
  | .eq (.int x) (.int y) => some (x == y)
  | .lt (.int x) (.int y) => some (decide (x < y))
  | .eq a b => bif decide ((rg F a).2 < (rg F b).1) || decide ((rg F b).2 < (rg F a).1) then some false else
      bif decide ((rg F a).1 = (rg F a).2) && (decide ((rg F b).1 = (rg F b).2) && decide ((rg F a).1 = (rg F b).1)) then some true else lk c F
  | .lt a b => bif decide ((rg F a).2 < (rg F b).1) then some true else bif decide ((rg F b).2 ≤ (rg F a).1) then some false else lk c F
  | _ => none
theorem dec_ok {A : En} {F : List Cond} {c : Cond} {b : Bool} (hF : holds A F) (h : dec F c = some b) : hold A c ↔ b = true := by
  unfold dec at h
  split at h
  · cases h; simp [hold, te]
  · cases h; simp [hold, te]
  · rename_i a b' _
    have ha := rg_ok hF a
    have hb := rg_ok hF b'
    obtain ⟨a1, a2⟩ := ha
    obtain ⟨b1, b2⟩ := hb
    simp only [hold, ← Int32.toInt_inj]
    cases q1 : (decide ((rg F a).2 < (rg F b').1) || decide ((rg F b').2 < (rg F a).1))
    · cases q2 : (decide ((rg F a).1 = (rg F a).2) && (decide ((rg F b').1 = (rg F b').2) && decide ((rg F a).1 = (rg F b').1)))
      · rw [q1, q2] at h; have := lk_ok hF h; simpa only [hold, ← Int32.toInt_inj] using this
      · rw [q1, q2] at h; cases h
        simp only [Bool.and_eq_true, decide_eq_true_eq] at q2
        simp only [iff_true]; omega
    · rw [q1] at h; cases h
      simp only [Bool.or_eq_true, decide_eq_true_eq] at q1
      simp only [Bool.false_eq_true, iff_false]; omega
  · rename_i a b' _
    have ha := rg_ok hF a
    have hb := rg_ok hF b'
    obtain ⟨a1, a2⟩ := ha
    obtain ⟨b1, b2⟩ := hb
    cases q1 : decide ((rg F a).2 < (rg F b').1)
    · cases q2 : decide ((rg F b').2 ≤ (rg F a).1)
      · rw [q1, q2] at h; exact lk_ok hF h
      · rw [q1, q2] at h; cases h
        simp only [decide_eq_true_eq] at q2
        simp only [hold, Int32.lt_iff_toInt_lt, Bool.false_eq_true, iff_false]; omega
    · rw [q1] at h; cases h
      simp only [decide_eq_true_eq] at q1
      simp only [hold, Int32.lt_iff_toInt_lt, iff_true]; omega
  · cases h
/-- a branch: decided, or both ways with the fact noted -/
def fork (F : List Cond) (c : Cond) (yes no : List Cond → Nx) : List Nx := match dec F c with
  | some true => [yes F]
  | some false => [no F]
  | none => [yes (c :: F), no (.not c :: F)]
theorem fork_ok {A : En} {F : List Cond} {c : Cond} {yes no : List Cond → Nx} (hF : holds A F) (hy : ∀ G, (yes G).1 = G) (hn : ∀ G, (no G).1 = G) :
    ∃ G, holds A G ∧ ((hold A c ∧ yes G ∈ fork F c yes no) ∨ (¬ hold A c ∧ no G ∈ fork F c yes no)) := by
  unfold fork
  cases h : dec F c with
  | none =>
    by_cases q : hold A c
    · exact ⟨c :: F, holds_cons q hF, Or.inl ⟨q, List.mem_cons_self ..⟩⟩
    · exact ⟨.not c :: F, holds_cons (c := .not c) q hF, Or.inr ⟨q, List.mem_cons_of_mem _ (List.mem_cons_self ..)⟩⟩
  | some b =>
    have q := dec_ok hF h
    cases b with
    | true => exact ⟨F, hF, Or.inl ⟨q.mpr rfl, List.mem_cons_self ..⟩⟩
    | false => exact ⟨F, hF, Or.inr ⟨fun x => (by cases q.mp x), List.mem_cons_self ..⟩⟩
/-- a term's value, where the facts fix it -/
def cv (F : List Cond) (t : Term) : Option Int32 := match t with
  | .int v => some v
  | _ => bif decide ((rg F t).1 = (rg F t).2) then some (Int32.ofInt (rg F t).1) else none
theorem cv_ok {A : En} {F : List Cond} {t : Term} {v : Int32} (hF : holds A F) (h : cv F t = some v) : (te A t).1 = v := by
  unfold cv at h
  split at h
  · cases h; rfl
  · cases q : decide ((rg F t).1 = (rg F t).2)
    · rw [q] at h; cases h
    · rw [q] at h; cases h
      simp only [decide_eq_true_eq] at q
      obtain ⟨h1, h2⟩ := rg_ok hF t
      have : (rg F t).1 = (te A t).1.toInt := by omega
      rw [this, Int32.ofInt_toInt]
/-! ### 3. The heap of what the run has made -/
section Heap
variable (Z : State) (hz : Heap) (sh : List Sh) (A : En) (O : Nat → Addr)
def ArOk (h : Heap) (a : Addr) (ty : FieldType) (xs : List SV) : Prop := ∃ cl : Cell, Arr Z h a cl ty ∧ cl.slots = (xs.map (vv A O hz.size)).toArray ∧ xs.length < 2 ^ 31 ∧ ∀ C, ty = .object C → Ovr Z cl.cls C
def ClOk (h : Heap) (a : Addr) (C : String) (fs : List Fi) (xs : List SV) : Prop := Exa Z h a C ∧ xs.length = fs.length ∧ ∀ (i : Nat) (f : Fi) (x : SV), fs[i]? = some f → xs[i]? = some x → Fld Z h a f.1 f.2.1 f.2.2.1 (vv A O hz.size x)
/-- a map: an int array of which some components are named by their index terms, the others hold one default -/
def prs : List SV → List (Term × Term)
  | (_, k) :: (_, v) :: r => (k, v) :: prs r
  | _ => []
def MpSl (n : Nat) (d : Term) (ps : List (Term × Term)) (sl : Array Value) : Prop :=
  sl.size = n ∧ n < 2 ^ 31 ∧ (∀ q ∈ ps, ¬ (te A q.1).1 < 0 ∧ (te A q.1).1.toNatClampNeg < n ∧ sl[(te A q.1).1.toNatClampNeg]? = some (.int (te A q.2).1)) ∧
    (∀ i, i < n → (∀ q ∈ ps, (te A q.1).1.toNatClampNeg ≠ i) → sl[i]? = some (.int (te A d).1)) ∧ ps.Pairwise (fun q r => (te A q.1).1 ≠ (te A r.1).1)
def MpOk (h : Heap) (a : Addr) (xs : List SV) : Prop := match xs with
  | (_, .index n) :: (_, d) :: ps => ∃ cl : Cell, Arr Z h a cl .int ∧ MpSl A n d (prs ps) cl.slots
  | _ => True
/-- an object by its shape; an id without a shape is a map, or nothing is said of the object -/
def ObAt (h : Heap) (a : Addr) (o : Ob) : Prop := match sh[o.1]? with
  | some (some ty, _) => ArOk Z hz A O h a ty o.2
  | some (none, C, _, fs) => ClOk Z hz A O h a C fs o.2
  | none => o.1 = 99 → MpOk Z A h a o.2
def HD (h : Heap) (D : List Ob) : Prop := h.size = hz.size + D.length ∧ (∀ a, a < hz.size → h[a]? = hz[a]?) ∧ ∀ (k : Nat) (o : Ob), D[k]? = some o → ObAt Z hz sh A O h (hz.size + k) o
/-- the words on a shape that the sheet bears -/
def ShOk (a0 : Array Value) (s : Sh) : Prop := s.1 = none → (Cond.instantiable s.2.1 s.2.2.1).before a0 Z = true ∧ (∀ f ∈ s.2.2.2, Laid Z a0 s.2.1 f.1 f.2.1 f.2.2.1 ∧ parseFieldDescriptor f.2.2.1 = some f.2.2.2) ∧ (s.2.2.2.map (·.2.1)).Nodup
end Heap
section HeapLaws
variable {Z : State} {hz : Heap} {sh : List Sh} {A : En} {O : Nat → Addr} {h h' : Heap} {D : List Ob} {a0 : Array Value}
theorem HD.ext (H : HD Z hz sh A O h D) : Ext hz h := by
  refine ⟨by rw [H.1]; omega, fun a c hc => ?_⟩
  rw [H.2.1 a (Array.getElem?_eq_some_iff.mp hc).1]; exact hc
theorem ArOk.ext {a : Addr} {ty : FieldType} {xs : List SV} (E : Ext h h') (X : ArOk Z hz A O h a ty xs) : ArOk Z hz A O h' a ty xs := by
  obtain ⟨cl, h1, h2⟩ := X; exact ⟨cl, h1.ext E, h2⟩
theorem ClOk.ext {a : Addr} {C : String} {fs : List Fi} {xs : List SV} (E : Ext h h') (X : ClOk Z hz A O h a C fs xs) : ClOk Z hz A O h' a C fs xs :=
  ⟨X.1.ext E, X.2.1, fun i f x hf hx => (X.2.2 i f x hf hx).ext E⟩
theorem MpOk.ext {a : Addr} {xs : List SV} (E : Ext h h') (X : MpOk Z A h a xs) : MpOk Z A h' a xs := by
  unfold MpOk at X ⊢
  split
  · obtain ⟨cl, h1, h2⟩ := X; exact ⟨cl, h1.ext E, h2⟩
  · trivial
theorem MpOk.other {a b : Addr} {xs : List SV} {sl : Nat} {v : Value} (W : Wr h h' a sl v) (ne : b ≠ a) (X : MpOk Z A h b xs) : MpOk Z A h' b xs := by
  unfold MpOk at X ⊢
  split
  · obtain ⟨cl, h1, h2⟩ := X; exact ⟨cl, h1.other W ne, h2⟩
  · trivial
theorem ObAt.ext {a : Addr} {o : Ob} (E : Ext h h') (X : ObAt Z hz sh A O h a o) : ObAt Z hz sh A O h' a o := by
  unfold ObAt at X ⊢
  split
  · rename_i q; rw [q] at X; exact ArOk.ext E X
  · rename_i q; rw [q] at X; exact ClOk.ext E X
  · rename_i q; rw [q] at X; exact fun e => MpOk.ext E (X e)
theorem ObAt.other {a b : Addr} {o : Ob} {sl : Nat} {v : Value} (W : Wr h h' a sl v) (ne : b ≠ a) (X : ObAt Z hz sh A O h b o) : ObAt Z hz sh A O h' b o := by
  unfold ObAt at X ⊢
  split
  · rename_i q; rw [q] at X; obtain ⟨cl, h1, h2⟩ := X; exact ⟨cl, h1.other W ne, h2⟩
  · rename_i q; rw [q] at X; exact ⟨X.1.wr W, X.2.1, fun i f x hf hx => (X.2.2 i f x hf hx).other W (Or.inl ne)⟩
  · rename_i q; rw [q] at X; exact fun e => MpOk.other W ne (X e)
/-- a new object behind the last -/
theorem HD.push (H : HD Z hz sh A O h D) {o : Ob} (E : Ext h h') (hs : h'.size = h.size + 1) (ho : ObAt Z hz sh A O h' h.size o) : HD Z hz sh A O h' (D ++ [o]) := by
  refine ⟨by rw [hs, H.1, List.length_append]; rfl, fun a ha => ?_, fun k o' hk => ?_⟩
  · rw [← H.2.1 a ha]
    have hlt : a < h.size := by rw [H.1]; omega
    rw [E.2 a _ (Array.getElem?_eq_getElem hlt), Array.getElem?_eq_getElem hlt]
  · rcases Nat.lt_trichotomy k D.length with q | q | q
    · rw [List.getElem?_append_left q] at hk; exact (H.2.2 k o' hk).ext E
    · subst q
      rw [List.getElem?_append_right (Nat.le_refl _), Nat.sub_self] at hk
      cases hk; rw [← H.1]; exact ho
    · rw [List.getElem?_append_right (by omega)] at hk
      have : k - D.length ≠ 0 := by omega
      cases hq : k - D.length with
      | zero => exact absurd hq this
      | succ n => rw [hq] at hk; cases hk
/-- one object is written -/
theorem HD.set (H : HD Z hz sh A O h D) {k : Nat} {o o' : Ob} {sl : Nat} {v : Value} (hk : D[k]? = some o) (W : Wr h h' (hz.size + k) sl v) (ho : ObAt Z hz sh A O h' (hz.size + k) o') : HD Z hz sh A O h' (D.set k o') := by
  refine ⟨by rw [W.size, H.1, List.length_set], fun a ha => ?_, fun j o2 hj => ?_⟩
  · rw [← H.2.1 a ha]
    have hlt : a < h.size := by rw [H.1]; omega
    obtain ⟨cb, e1, -, -, -, e5, -⟩ := wr_at W (Array.getElem?_eq_getElem hlt)
    rw [e1, e5 (Nat.ne_of_lt (Nat.lt_of_lt_of_le ha (Nat.le_add_right _ _))), Array.getElem?_eq_getElem hlt]
  · by_cases q : j = k
    · subst q
      rw [List.getElem?_set_self (List.getElem?_eq_some_iff.mp hk).1] at hj
      cases hj; exact ho
    · rw [List.getElem?_set_ne (Ne.symm q)] at hj
      exact (H.2.2 j o2 hj).other W (fun e => q (Nat.add_left_cancel e))
theorem ObAt.arr {a : Addr} {o : Ob} {ty : FieldType} {r} (q : sh[o.1]? = some (some ty, r)) : ObAt Z hz sh A O h a o = ArOk Z hz A O h a ty o.2 := by unfold ObAt; rw [q]
theorem ObAt.cls {a : Addr} {o : Ob} {C : String} {n : Nat} {fs : List Fi} (q : sh[o.1]? = some (none, C, n, fs)) : ObAt Z hz sh A O h a o = ClOk Z hz A O h a C fs o.2 := by unfold ObAt; rw [q]
theorem ObAt.mp {a : Addr} {o : Ob} (q : sh[o.1]? = none) : ObAt Z hz sh A O h a o = (o.1 = 99 → MpOk Z A h a o.2) := by unfold ObAt; rw [q]
theorem ArOk.set {a : Addr} {ty : FieldType} {xs : List SV} (X : ArOk Z hz A O h a ty xs) {j : Nat} {x : SV} (W : Wr h h' a j (vv A O hz.size x)) : ArOk Z hz A O h' a ty (xs.set j x) := by
  obtain ⟨cl, h1, h2, h3, h4⟩ := X
  refine ⟨_, h1.same W, ?_, by rw [List.length_set]; exact h3, h4⟩
  show cl.slots.setIfInBounds j _ = _
  rw [h2, List.map_set]; simp
theorem ClOk.set {a : Addr} {C : String} {n : Nat} {fs : List Fi} {xs : List SV} (hs : ShOk Z a0 (none, C, n, fs)) (X : ClOk Z hz A O h a C fs xs) {i : Nat} {f : Fi} (hf : fs[i]? = some f) {x : SV} (W : Wr h h' a (RoadKit.slotOf Z f.1 f.2.1 f.2.2.1) (vv A O hz.size x)) : ClOk Z hz A O h' a C fs (xs.set i x) := by
  obtain ⟨h1, h2, h3⟩ := X
  obtain ⟨-, s2, s3⟩ := hs rfl
  refine ⟨h1.wr W, by rw [List.length_set]; exact h2, fun j g y hg hy => ?_⟩
  by_cases q : j = i
  · subst q
    cases hf.symm.trans hg
    have hlt : j < xs.length := by rw [h2]; exact (List.getElem?_eq_some_iff.mp hf).1
    rw [List.getElem?_set_self hlt] at hy
    cases hy
    exact Fld.same W (h3 j f xs[j] hf (List.getElem?_eq_getElem hlt))
  · rw [List.getElem?_set_ne (Ne.symm q)] at hy
    obtain ⟨l1, p1⟩ := s2 g (List.mem_of_getElem? hg)
    obtain ⟨l2, p2⟩ := s2 f (List.mem_of_getElem? hf)
    refine Fld.other W (h3 j g y hg hy) (Or.inr (slot_ne l1 l2 ?_ p1 p2))
    intro e
    have hj : (fs.map (·.2.1))[j]? = some g.2.1 := by simp [hg]
    have hi : (fs.map (·.2.1))[i]? = some f.2.1 := by simp [hf]
    have hjl : j < (fs.map (·.2.1)).length := (List.getElem?_eq_some_iff.mp hj).1
    exact q ((List.getElem?_inj hjl s3).mp (by rw [hj, hi, e]))
end HeapLaws
/-! ### 4. What a step says -/
section Sim
variable (l : Launch) (Z : State) (hz : Heap) (sh : List Sh) (A : En) (O : Nat → Addr) (y : MethodName) (bytes : ByteArray) (maxL : Nat) (ret : Option FieldType)
def Act (p : Program) (s : State) (m : MethodId) (meth : Method) (c : Code) : Prop := p.tables.exec = Jvm.exec ∧ Z.Warmed39 s.vm ∧ c.code = bytes ∧ c.maxLocals = maxL ∧ s.vm.findClass y.cls = some m.cls ∧ meth.name = y.name ∧ meth.sig.returnType = ret ∧ meth.locks = false ∧ Z.WarmedH s.vm ∧ s.methodNamed? y = some m
def frm (m : MethodId) (pc : Nat) (cf : Cf) : JFrame := mkF m pc (cf.1.map (sl1 A O hz.size)).toArray (cf.2.1.map (vv A O hz.size))
def Sim (fr lo pc : Nat) (cf : Cf) (pc' : Nat) (cf' : Cf) : Prop :=
  cf.2.2.1.length ≤ cf'.2.2.1.length ∧ cf.2.2.2 ≤ cf'.2.2.2 ∧
  ∀ (d0 s0 : Nat) (p : Program) (e : Env) (R : Room) (s : State) (m : MethodId) (args : Array Value) (below : List Frame) (meth : Method) (c : Code) (T : State) (locs : List Loc),
    d0 ≤ cf.2.2.1.length → s0 ≤ cf.2.2.2 → s.heap.size = hz.size + d0 → Act Z y bytes maxL ret p s m meth c →
    Stand p l e R s m args below meth c T locs (cf.2.2.1.length - d0) (cf.2.2.2 - s0) → HD Z hz sh A O T.heap cf.2.2.1 → Fr hz.size locs →
    cf'.2.2.1.length - d0 ≤ R.cells → cf'.2.2.2 - s0 ≤ R.slots → fr ≤ R.frames → lo ≤ R.locals →
    ∃ T' locs', Stand p l e R s m args below meth c T' locs' (cf'.2.2.1.length - d0) (cf'.2.2.2 - s0) ∧ HD Z hz sh A O T'.heap cf'.2.2.1 ∧ Fr hz.size locs' ∧
      ∀ target, Steps p.tables e below (T'.setTop (frm hz A O m pc' cf')) target → Steps p.tables e below (T.setTop (frm hz A O m pc cf)) target
def Good (pc : Nat) (f : Stp) : Prop := ∀ F cf ns, f F cf = some ns → holds A F → ∃ n ∈ ns, holds A n.1 ∧ Sim l Z hz sh A O y bytes maxL ret 0 0 pc cf n.2.1 n.2.2
/-- the run from here to the method's return -/
def Ret (fr lo pc : Nat) (cf : Cf) (v : Option SV) (D' : List Ob) (sl' : Nat) : Prop :=
  cf.2.2.1.length ≤ D'.length ∧ cf.2.2.2 ≤ sl' ∧
  ∀ (d0 s0 : Nat) (p : Program) (e : Env) (R : Room) (s : State) (m : MethodId) (args : Array Value) (below : List Frame) (meth : Method) (c : Code) (T : State) (locs : List Loc),
    d0 ≤ cf.2.2.1.length → s0 ≤ cf.2.2.2 → s.heap.size = hz.size + d0 → Act Z y bytes maxL ret p s m meth c →
    Stand p l e R s m args below meth c T locs (cf.2.2.1.length - d0) (cf.2.2.2 - s0) → HD Z hz sh A O T.heap cf.2.2.1 → Fr hz.size locs →
    D'.length - d0 ≤ R.cells → sl' - s0 ≤ R.slots → fr ≤ R.frames → lo ≤ R.locals →
    ∃ s₂ locs', Steps p.tables e below (T.setTop (frm hz A O m pc cf)) s₂ ∧ s₂.status = .running ∧ Ended s₂ below (.returned (v.map (vv A O hz.size))) ∧ HD Z hz sh A O s₂.heap D' ∧ Fr hz.size locs' ∧
      s.WarmedH s₂.vm ∧ s.sameButNew ({ s₂ with vm := s.vm } : State) locs' (D'.length - d0) (sl' - s0)
end Sim
section SimLaws
variable {l : Launch} {Z : State} {hz : Heap} {sh : List Sh} {A : En} {O : Nat → Addr} {y : MethodName} {bytes : ByteArray} {maxL : Nat} {ret : Option FieldType}
theorem Sim.thenRet {fr lo pc pc' : Nat} {cf cf' : Cf} {v : Option SV} {D' : List Ob} {sl' : Nat} (S : Sim l Z hz sh A O y bytes maxL ret fr lo pc cf pc' cf') (R : Ret l Z hz sh A O y bytes maxL ret fr lo pc' cf' v D' sl') :
    Ret l Z hz sh A O y bytes maxL ret fr lo pc cf v D' sl' := by
  obtain ⟨s1, s2, s3⟩ := S
  obtain ⟨r1, r2, r3⟩ := R
  refine ⟨Nat.le_trans s1 r1, Nat.le_trans s2 r2, ?_⟩
  intro d0 s0 p e R s m args below meth c T locs hd hs hh hA X H N hc hl hf hlo
  obtain ⟨T', locs', X', H', N', st⟩ := s3 d0 s0 p e R s m args below meth c T locs hd hs hh hA X H N (by omega) (by omega) hf hlo
  obtain ⟨s₂, L2, k1, k2⟩ := r3 d0 s0 p e R s m args below meth c T' locs' (by omega) (by omega) hh hA X' H' N' hc hl hf hlo
  exact ⟨s₂, L2, st _ k1, k2⟩
theorem Sim.mono {fr lo fr' lo' pc pc' : Nat} {cf cf' : Cf} (S : Sim l Z hz sh A O y bytes maxL ret fr lo pc cf pc' cf') (h1 : fr ≤ fr') (h2 : lo ≤ lo') : Sim l Z hz sh A O y bytes maxL ret fr' lo' pc cf pc' cf' := by
  obtain ⟨s1, s2, s3⟩ := S
  refine ⟨s1, s2, ?_⟩
  intro d0 s0 p e R s m args below meth c T locs hd hs hh hA X H N hc hl hf hlo
  exact s3 d0 s0 p e R s m args below meth c T locs hd hs hh hA X H N hc hl (Nat.le_trans h1 hf) (Nat.le_trans h2 hlo)
/-- a step that moves nothing but the frame -/
theorem sim_pure {pc pc' sl : Nat} {L L' : List SL} {S S' : List SV} {D : List Ob}
    (h : ∀ (p : Program) (e : Env) (R : Room) (s : State) (m : MethodId) (args : Array Value) (below : List Frame) (meth : Method) (c : Code) (T : State) (locs : List Loc) (cells slots : Nat),
      Act Z y bytes maxL ret p s m meth c → Stand p l e R s m args below meth c T locs cells slots → HD Z hz sh A O T.heap D →
      ∀ target, Steps p.tables e below (T.setTop (frm hz A O m pc' (L', S', D, sl))) target → Steps p.tables e below (T.setTop (frm hz A O m pc (L, S, D, sl))) target) :
    Sim l Z hz sh A O y bytes maxL ret 0 0 pc (L, S, D, sl) pc' (L', S', D, sl) :=
  ⟨Nat.le_refl _, Nat.le_refl _, fun d0 s0 p e R s m args below meth c T locs hd hs hh hA X H N hc hl hf hlo => ⟨T, locs, X, H, N, h p e R s m args below meth c T locs _ _ hA X H⟩⟩
theorem loc_at {L : List SL} {k : Nat} {x : SV} (h : L[k]? = some (some (some x))) : (L.map (sl1 A O hz.size)).toArray[k]? = some (.val (vv A O hz.size x)) := by
  simp [h, sl1]
/-! #### the single steps -/
def one (F : List Cond) (nx : Nat) (cf : Cf) : Option (List Nx) := some [(F, nx, cf)]
theorem good_one {pc nx : Nat} {f : Stp} (h : ∀ F L S D sl ns, f F (L, S, D, sl) = some ns → ∃ L' S', ns = [(F, nx, (L', S', D, sl))] ∧ (holds A F → 
    ∀ (p : Program) (e : Env) (R : Room) (s : State) (m : MethodId) (args : Array Value) (below : List Frame) (meth : Method) (c : Code) (T : State) (locs : List Loc) (cells slots : Nat),
      Act Z y bytes maxL ret p s m meth c → Stand p l e R s m args below meth c T locs cells slots → HD Z hz sh A O T.heap D →
      ∀ target, Steps p.tables e below (T.setTop (frm hz A O m nx (L', S', D, sl))) target → Steps p.tables e below (T.setTop (frm hz A O m pc (L, S, D, sl))) target)) :
    Good l Z hz sh A O y bytes maxL ret pc f := by
  intro F cf ns hf hF
  obtain ⟨L, S, D, sl⟩ := cf
  obtain ⟨L', S', rfl, k⟩ := h F L S D sl ns hf
  exact ⟨_, List.mem_cons_self .., hF, sim_pure (k hF)⟩
def sLoad (kd k nx : Nat) : Stp := fun F cf => match cf.1[k]? with
  | some (some (some x)) => bif x.1 == kd then some [(F, nx, (cf.1, x :: cf.2.1, cf.2.2))] else none
  | _ => none
theorem sLoad_inv {kd k nx : Nat} {F : List Cond} {L : List SL} {S : List SV} {D : List Ob} {sl : Nat} {ns : List Nx} (h : sLoad kd k nx F (L, S, D, sl) = some ns) : ∃ t, L[k]? = some (some (some (kd, t))) ∧ ns = [(F, nx, (L, (kd, t) :: S, D, sl))] := by
  simp only [sLoad] at h
  split at h
  · rename_i x q
    obtain ⟨k', t⟩ := x
    cases hk : (k' == kd)
    · rw [hk] at h; cases h
    · rw [hk] at h; obtain rfl := beq_iff_eq.mp hk; cases h; exact ⟨t, q, rfl⟩
  · cases h
theorem g_iload {pc k : Nat} (hd : decode bytes pc = .ok (.iload k, 2)) : Good l Z hz sh A O y bytes maxL ret pc (sLoad 0 k (pc + 2)) :=
  good_one fun F L S D sl ns h => by
    obtain ⟨t, q, rfl⟩ := sLoad_inv h
    refine ⟨_, _, rfl, fun hF p e R s m args below meth c T locs cells slots hA X H target st => ?_⟩
    exact XS.iload X.here hA.1 rfl (hb hA.2.2.1 hd) (loc_at q) st
theorem g_iloadN {pc : Nat} {k : Fin 4} (hd : decode bytes pc = .ok (.iload_n k, 1)) : Good l Z hz sh A O y bytes maxL ret pc (sLoad 0 k.val (pc + 1)) :=
  good_one fun F L S D sl ns h => by
    obtain ⟨t, q, rfl⟩ := sLoad_inv h
    refine ⟨_, _, rfl, fun hF p e R s m args below meth c T locs cells slots hA X H target st => ?_⟩
    exact XS.iloadN X.here hA.1 rfl (hb hA.2.2.1 hd) (loc_at q) st
theorem g_lload {pc k : Nat} (hd : decode bytes pc = .ok (.lload k, 2)) : Good l Z hz sh A O y bytes maxL ret pc (sLoad 1 k (pc + 2)) :=
  good_one fun F L S D sl ns h => by
    obtain ⟨t, q, rfl⟩ := sLoad_inv h
    refine ⟨_, _, rfl, fun hF p e R s m args below meth c T locs cells slots hA X H target st => ?_⟩
    exact XS.lload X.here hA.1 rfl (hb hA.2.2.1 hd) (loc_at q) st
theorem g_lloadN {pc : Nat} {k : Fin 4} (hd : decode bytes pc = .ok (.lload_n k, 1)) : Good l Z hz sh A O y bytes maxL ret pc (sLoad 1 k.val (pc + 1)) :=
  good_one fun F L S D sl ns h => by
    obtain ⟨t, q, rfl⟩ := sLoad_inv h
    refine ⟨_, _, rfl, fun hF p e R s m args below meth c T locs cells slots hA X H target st => ?_⟩
    exact XS.lloadN X.here hA.1 rfl (hb hA.2.2.1 hd) (loc_at q) st
theorem g_aload {pc k : Nat} (hd : decode bytes pc = .ok (.aload k, 2)) : Good l Z hz sh A O y bytes maxL ret pc (sLoad 2 k (pc + 2)) :=
  good_one fun F L S D sl ns h => by
    obtain ⟨t, q, rfl⟩ := sLoad_inv h
    refine ⟨_, _, rfl, fun hF p e R s m args below meth c T locs cells slots hA X H target st => ?_⟩
    exact XS.aload X.here hA.1 rfl (hb hA.2.2.1 hd) (loc_at q) (rf_isRef _ _ _) st
theorem g_aloadN {pc : Nat} {k : Fin 4} (hd : decode bytes pc = .ok (.aload_n k, 1)) : Good l Z hz sh A O y bytes maxL ret pc (sLoad 2 k.val (pc + 1)) :=
  good_one fun F L S D sl ns h => by
    obtain ⟨t, q, rfl⟩ := sLoad_inv h
    refine ⟨_, _, rfl, fun hF p e R s m args below meth c T locs cells slots hA X H target st => ?_⟩
    exact XS.aloadN X.here hA.1 rfl (hb hA.2.2.1 hd) (loc_at q) (rf_isRef _ _ _) st
/-! stores -/
def setL (L : List SL) (i : Nat) (x : SL) : Option (List SL) := bif Nat.blt i L.length then some (L.set i x) else none
def stSelf (L : List SL) (i : Nat) (x : SV) : Option (List SL) := match setL L i (some (some x)) with
  | none => none
  | some L => match cat x with
    | 2 => match L[i + 1]? with
      | none => none
      | some (some (some o)) => match cat o with
        | 2 => match setL L (i + 2) none with
          | none => none
          | some L => setL L (i + 1) (some none)
        | _ => setL L (i + 1) (some none)
      | some _ => setL L (i + 1) (some none)
    | _ => some L
def stL (L : List SL) (i : Nat) (x : SV) : Option (List SL) := match L[i]? with
  | none => none
  | some none => stSelf L i x
  | some (some none) => match setL L (i - 1) none with
    | none => none
    | some L => stSelf L i x
  | some (some (some o)) => match cat o with
    | 2 => match setL L (i + 1) none with
      | none => none
      | some L => stSelf L i x
    | _ => stSelf L i x
theorem setL_ok {L L' : List SL} {i : Nat} {x : SL} (h : setL L i x = some L') : setAt (L.map (sl1 A O hz.size)).toArray i (sl1 A O hz.size x) = some (L'.map (sl1 A O hz.size)).toArray := by
  unfold setL at h
  cases q : Nat.blt i L.length
  · rw [q] at h; cases h
  · rw [q] at h; cases h
    have hi : i < L.length := Nat.blt_eq.mp q
    simp [setAt, hi, List.map_set]
theorem stSelf_ok {L L' : List SL} {i : Nat} {x : SV} (h : stSelf L i x = some L') : storeSelf (L.map (sl1 A O hz.size)).toArray i (vv A O hz.size x) = some (L'.map (sl1 A O hz.size)).toArray := by
  unfold stSelf at h
  cases q : setL L i (some (some x)) with
  | none => rw [q] at h; cases h
  | some L1 =>
    rw [q] at h
    have e1 := setL_ok (A := A) (O := O) (hz := hz) q
    have e1' : setAt (L.map (sl1 A O hz.size)).toArray i (.val (vv A O hz.size x)) = some (L1.map (sl1 A O hz.size)).toArray := e1
    unfold storeSelf
    rw [e1', vv_cat]
    simp only [Option.bind_eq_bind, Option.bind_some]
    simp only at h
    split at h
    · rename_i hc
      rw [if_pos hc]
      have hg : (L1.map (sl1 A O hz.size)).toArray[i + 1]? = (L1[i + 1]?).map (sl1 A O hz.size) := by simp
      rw [hg]
      split at h
      · cases h
      · rename_i o hq
        rw [hq]
        simp only [Option.map_some, Option.bind_some, sl1, vv_cat]
        split at h
        · rename_i ho
          rw [if_pos ho]
          split at h
          · cases h
          · rename_i L2 hq2
            have e2 := setL_ok (A := A) (O := O) (hz := hz) hq2
            have e2' : setAt (L1.map (sl1 A O hz.size)).toArray (i + 2) .unset = some (L2.map (sl1 A O hz.size)).toArray := e2
            rw [e2']
            exact setL_ok (A := A) (O := O) (hz := hz) h
        · rename_i ho
          rw [if_neg ho]
          exact setL_ok (A := A) (O := O) (hz := hz) h
      · rename_i w hw hq
        rw [hq]
        simp only [Option.map_some, Option.bind_some]
        match w with
        | none => simp only [sl1]; exact setL_ok (A := A) (O := O) (hz := hz) h
        | some none => simp only [sl1]; exact setL_ok (A := A) (O := O) (hz := hz) h
        | some (some o) => exact absurd rfl (hw o)
    · rename_i hc
      rw [if_neg hc]; cases h; rfl
theorem stL_ok {L L' : List SL} {i : Nat} {x : SV} (h : stL L i x = some L') : storeLocals (L.map (sl1 A O hz.size)).toArray i (vv A O hz.size x) = some (L'.map (sl1 A O hz.size)).toArray := by
  have hg : (L.map (sl1 A O hz.size)).toArray[i]? = (L[i]?).map (sl1 A O hz.size) := by simp
  unfold stL at h
  unfold storeLocals
  rw [hg]
  split at h
  · cases h
  · rename_i q; rw [q]; simp only [Option.map_some, Option.bind_eq_bind, Option.bind_some, sl1]; exact stSelf_ok h
  · rename_i q; rw [q]; simp only [Option.map_some, Option.bind_eq_bind, Option.bind_some, sl1]
    split at h
    · cases h
    · rename_i L2 hq2
      have e2 := setL_ok (A := A) (O := O) (hz := hz) hq2
      have e2' : setAt (L.map (sl1 A O hz.size)).toArray (i - 1) .unset = some (L2.map (sl1 A O hz.size)).toArray := e2
      rw [e2']; exact stSelf_ok h
  · rename_i o q; rw [q]; simp only [Option.map_some, Option.bind_eq_bind, Option.bind_some, sl1, vv_cat]
    split at h
    · rename_i ho
      rw [if_pos ho]
      split at h
      · cases h
      · rename_i L2 hq2
        have e2 := setL_ok (A := A) (O := O) (hz := hz) hq2
        have e2' : setAt (L.map (sl1 A O hz.size)).toArray (i + 1) .unset = some (L2.map (sl1 A O hz.size)).toArray := e2
        rw [e2']; exact stSelf_ok h
    · rename_i ho
      rw [if_neg ho]; exact stSelf_ok h
def sStore (kd k nx : Nat) : Stp := fun F cf => match cf.2.1 with
  | x :: S => bif x.1 == kd then (match stL cf.1 k x with
    | some L => some [(F, nx, (L, S, cf.2.2))]
    | none => none) else none
  | [] => none
theorem sStore_inv {kd k nx : Nat} {F : List Cond} {L : List SL} {S : List SV} {D : List Ob} {sl : Nat} {ns : List Nx} (h : sStore kd k nx F (L, S, D, sl) = some ns) : ∃ t S' L', S = (kd, t) :: S' ∧ stL L k (kd, t) = some L' ∧ ns = [(F, nx, (L', S', D, sl))] := by
  simp only [sStore] at h
  split at h
  · rename_i x S'
    obtain ⟨k', t⟩ := x
    cases hk : (k' == kd)
    · rw [hk] at h; cases h
    · rw [hk] at h; obtain rfl := beq_iff_eq.mp hk
      simp only [cond_true] at h
      split at h
      · rename_i L' q; cases h; exact ⟨t, S', L', rfl, q, rfl⟩
      · cases h
  · cases h
theorem g_istore {pc k : Nat} (hd : decode bytes pc = .ok (.istore k, 2)) : Good l Z hz sh A O y bytes maxL ret pc (sStore 0 k (pc + 2)) :=
  good_one fun F L S D sl ns h => by
    obtain ⟨t, S', L', rfl, q, rfl⟩ := sStore_inv h
    refine ⟨_, _, rfl, fun hF p e R s m args below meth c T locs cells slots hA X H target st => ?_⟩
    exact XS.istore X.here hA.1 rfl (hb hA.2.2.1 hd) rfl (stL_ok q) st
theorem g_istoreN {pc : Nat} {k : Fin 4} (hd : decode bytes pc = .ok (.istore_n k, 1)) : Good l Z hz sh A O y bytes maxL ret pc (sStore 0 k.val (pc + 1)) :=
  good_one fun F L S D sl ns h => by
    obtain ⟨t, S', L', rfl, q, rfl⟩ := sStore_inv h
    refine ⟨_, _, rfl, fun hF p e R s m args below meth c T locs cells slots hA X H target st => ?_⟩
    exact XS.istoreN X.here hA.1 rfl (hb hA.2.2.1 hd) rfl (stL_ok q) st
theorem g_lstore {pc k : Nat} (hd : decode bytes pc = .ok (.lstore k, 2)) : Good l Z hz sh A O y bytes maxL ret pc (sStore 1 k (pc + 2)) :=
  good_one fun F L S D sl ns h => by
    obtain ⟨t, S', L', rfl, q, rfl⟩ := sStore_inv h
    refine ⟨_, _, rfl, fun hF p e R s m args below meth c T locs cells slots hA X H target st => ?_⟩
    exact XS.lstore X.here hA.1 rfl (hb hA.2.2.1 hd) rfl (stL_ok q) st
theorem g_lstoreN {pc : Nat} {k : Fin 4} (hd : decode bytes pc = .ok (.lstore_n k, 1)) : Good l Z hz sh A O y bytes maxL ret pc (sStore 1 k.val (pc + 1)) :=
  good_one fun F L S D sl ns h => by
    obtain ⟨t, S', L', rfl, q, rfl⟩ := sStore_inv h
    refine ⟨_, _, rfl, fun hF p e R s m args below meth c T locs cells slots hA X H target st => ?_⟩
    exact XS.lstoreN X.here hA.1 rfl (hb hA.2.2.1 hd) rfl (stL_ok q) st
theorem g_astore {pc k : Nat} (hd : decode bytes pc = .ok (.astore k, 2)) : Good l Z hz sh A O y bytes maxL ret pc (sStore 2 k (pc + 2)) :=
  good_one fun F L S D sl ns h => by
    obtain ⟨t, S', L', rfl, q, rfl⟩ := sStore_inv h
    refine ⟨_, _, rfl, fun hF p e R s m args below meth c T locs cells slots hA X H target st => ?_⟩
    exact XS.astore X.here hA.1 rfl (hb hA.2.2.1 hd) rfl (rf_isRef _ _ _) (stL_ok q) st
theorem g_astoreN {pc : Nat} {k : Fin 4} (hd : decode bytes pc = .ok (.astore_n k, 1)) : Good l Z hz sh A O y bytes maxL ret pc (sStore 2 k.val (pc + 1)) :=
  good_one fun F L S D sl ns h => by
    obtain ⟨t, S', L', rfl, q, rfl⟩ := sStore_inv h
    refine ⟨_, _, rfl, fun hF p e R s m args below meth c T locs cells slots hA X H target st => ?_⟩
    exact XS.astoreN X.here hA.1 rfl (hb hA.2.2.1 hd) rfl (rf_isRef _ _ _) (stL_ok q) st
/-! constants -/
def sPush (x : SV) (nx : Nat) : Stp := fun F cf => some [(F, nx, (cf.1, x :: cf.2.1, cf.2.2))]
theorem g_iconst {pc : Nat} {i : Int} {v : Int32} (hd : decode bytes pc = .ok (.iconst i, 1)) (hv : Int32.ofInt i = v) : Good l Z hz sh A O y bytes maxL ret pc (sPush (0, .int v) (pc + 1)) :=
  good_one fun F L S D sl ns h => by
    cases h
    refine ⟨_, _, rfl, fun hF p e R s m args below meth c T locs cells slots hA X H target st => ?_⟩
    subst hv; exact XS.iconst X.here hA.1 rfl (hb hA.2.2.1 hd) st
theorem g_bipush {pc : Nat} {i : Int} {v : Int32} (hd : decode bytes pc = .ok (.bipush i, 2)) (hv : (Int8.ofInt i).toInt32 = v) : Good l Z hz sh A O y bytes maxL ret pc (sPush (0, .int v) (pc + 2)) :=
  good_one fun F L S D sl ns h => by
    cases h
    refine ⟨_, _, rfl, fun hF p e R s m args below meth c T locs cells slots hA X H target st => ?_⟩
    subst hv; exact XS.bipush X.here hA.1 rfl (hb hA.2.2.1 hd) st
theorem g_sipush {pc : Nat} {i : Int} {v : Int32} (hd : decode bytes pc = .ok (.sipush i, 3)) (hv : (Int16.ofInt i).toInt32 = v) : Good l Z hz sh A O y bytes maxL ret pc (sPush (0, .int v) (pc + 3)) :=
  good_one fun F L S D sl ns h => by
    cases h
    refine ⟨_, _, rfl, fun hF p e R s m args below meth c T locs cells slots hA X H target st => ?_⟩
    subst hv; exact XS.sipush X.here hA.1 rfl (hb hA.2.2.1 hd) st
theorem g_lconst {pc : Nat} {k : Fin 2} {v : Int64} (hd : decode bytes pc = .ok (.lconst k, 1)) (hv : Int64.ofNat k = v) : Good l Z hz sh A O y bytes maxL ret pc (sPush (1, .long v) (pc + 1)) :=
  good_one fun F L S D sl ns h => by
    cases h
    refine ⟨_, _, rfl, fun hF p e R s m args below meth c T locs cells slots hA X H target st => ?_⟩
    subst hv; exact XS.lconst X.here hA.1 rfl (hb hA.2.2.1 hd) st
theorem g_null {pc : Nat} (hd : decode bytes pc = .ok (.aconst_null, 1)) : Good l Z hz sh A O y bytes maxL ret pc (sPush (2, .null) (pc + 1)) :=
  good_one fun F L S D sl ns h => by
    cases h
    refine ⟨_, _, rfl, fun hF p e R s m args below meth c T locs cells slots hA X H target st => ?_⟩
    exact XS.aconstNull X.here hA.1 rfl (hb hA.2.2.1 hd) st
theorem g_ldc {pc : Nat} {k : Nat} {v : Int32} {a0 : Array Value} (hd : decode bytes pc = .ok (.ldc k, 2)) (w : (Cond.constant y.cls k v).before a0 Z = true) : Good l Z hz sh A O y bytes maxL ret pc (sPush (0, .int v) (pc + 2)) :=
  good_one fun F L S D sl ns h => by
    cases h
    refine ⟨_, _, rfl, fun hF p e R s m args below meth c T locs cells slots hA X H target st => ?_⟩
    exact X.ldcInt hA.1 hA.2.2.2.2.1 (mvT hA.2.1 w) (g := frm hz A O m pc (L, S, D, sl)) rfl (hb hA.2.2.1 hd) _ st
theorem g_ldcw {pc : Nat} {k : Nat} {v : Int32} {a0 : Array Value} (hd : decode bytes pc = .ok (.ldc_w k, 3)) (w : (Cond.constant y.cls k v).before a0 Z = true) : Good l Z hz sh A O y bytes maxL ret pc (sPush (0, .int v) (pc + 3)) :=
  good_one fun F L S D sl ns h => by
    cases h
    refine ⟨_, _, rfl, fun hF p e R s m args below meth c T locs cells slots hA X H target st => ?_⟩
    exact X.ldcwInt hA.1 hA.2.2.2.2.1 (mvT hA.2.1 w) (g := frm hz A O m pc (L, S, D, sl)) rfl (hb hA.2.2.1 hd) _ st
theorem g_ldc2 {pc : Nat} {k : Nat} {v : Int64} {a0 : Array Value} (hd : decode bytes pc = .ok (.ldc2_w k, 3)) (w : (Cond.constantLong y.cls k v).before a0 Z = true) : Good l Z hz sh A O y bytes maxL ret pc (sPush (1, .long v) (pc + 3)) :=
  good_one fun F L S D sl ns h => by
    cases h
    refine ⟨_, _, rfl, fun hF p e R s m args below meth c T locs cells slots hA X H target st => ?_⟩
    exact X.ldc2Long hA.1 hA.2.2.2.2.1 (mvT hA.2.1 w) (g := frm hz A O m pc (L, S, D, sl)) rfl (hb hA.2.2.1 hd) _ st
def sStop : Stp := fun _ _ => none
theorem g_stop {pc : Nat} : Good l Z hz sh A O y bytes maxL ret pc sStop := fun _ _ _ h => by cases h
/-! operations -/
def jI (f : Term → Term → Term) (a b : Term) : Term := smI (f a b)
def jL (f : Term → Term → Term) (a b : Term) : Term := smL (f a b)
def sBin (k1 k2 k3 : Nat) (f : Term → Term → Term) (nx : Nat) : Stp := fun F cf => match cf.2.1 with
  | b :: a :: S => bif (a.1 == k1) && (b.1 == k2) then some [(F, nx, (cf.1, (k3, f a.2 b.2) :: S, cf.2.2))] else none
  | _ => none
theorem sBin_inv {k1 k2 k3 : Nat} {f : Term → Term → Term} {nx : Nat} {F : List Cond} {L : List SL} {S : List SV} {D : List Ob} {sl : Nat} {ns : List Nx} (h : sBin k1 k2 k3 f nx F (L, S, D, sl) = some ns) : ∃ a b S', S = (k2, b) :: (k1, a) :: S' ∧ ns = [(F, nx, (L, (k3, f a b) :: S', D, sl))] := by
  simp only [sBin] at h
  split at h
  · rename_i b a S'
    obtain ⟨kb, b⟩ := b
    obtain ⟨ka, a⟩ := a
    cases hk : ((ka == k1) && (kb == k2))
    · rw [hk] at h; cases h
    · rw [hk] at h
      simp only [Bool.and_eq_true, beq_iff_eq] at hk
      obtain ⟨rfl, rfl⟩ := hk
      cases h; exact ⟨a, b, S', rfl, rfl⟩
  · cases h
theorem g_iadd {pc : Nat} (hd : decode bytes pc = .ok (.iadd, 1)) : Good l Z hz sh A O y bytes maxL ret pc (sBin 0 0 0 (jI Term.add) (pc + 1)) :=
  good_one fun F L S D sl ns h => by
    obtain ⟨a, b, S', rfl, rfl⟩ := sBin_inv h
    refine ⟨_, _, rfl, fun hF p e_ R s m args below meth c T locs cells slots hA X H target st => ?_⟩
    have e : vv A O hz.size (0, jI Term.add a b) = .int ((te A a).1 + (te A b).1) := by show Value.int (te A (smI _)).1 = _; rw [te_smI]; rfl
    have st' : Steps p.tables e_ below (T.setTop (mkF m (pc + 1) (L.map (sl1 A O hz.size)).toArray (vv A O hz.size (0, jI Term.add a b) :: S'.map (vv A O hz.size)))) target := st
    rw [e] at st'
    exact XS.iadd X.here hA.1 rfl (hb hA.2.2.1 hd) rfl st'
theorem g_isub {pc : Nat} (hd : decode bytes pc = .ok (.isub, 1)) : Good l Z hz sh A O y bytes maxL ret pc (sBin 0 0 0 (jI Term.sub) (pc + 1)) :=
  good_one fun F L S D sl ns h => by
    obtain ⟨a, b, S', rfl, rfl⟩ := sBin_inv h
    refine ⟨_, _, rfl, fun hF p e_ R s m args below meth c T locs cells slots hA X H target st => ?_⟩
    have e : vv A O hz.size (0, jI Term.sub a b) = .int ((te A a).1 - (te A b).1) := by show Value.int (te A (smI _)).1 = _; rw [te_smI]; rfl
    have st' : Steps p.tables e_ below (T.setTop (mkF m (pc + 1) (L.map (sl1 A O hz.size)).toArray (vv A O hz.size (0, jI Term.sub a b) :: S'.map (vv A O hz.size)))) target := st
    rw [e] at st'
    exact XS.isub X.here hA.1 rfl (hb hA.2.2.1 hd) rfl st'
theorem g_imul {pc : Nat} (hd : decode bytes pc = .ok (.imul, 1)) : Good l Z hz sh A O y bytes maxL ret pc (sBin 0 0 0 (jI Term.mul) (pc + 1)) :=
  good_one fun F L S D sl ns h => by
    obtain ⟨a, b, S', rfl, rfl⟩ := sBin_inv h
    refine ⟨_, _, rfl, fun hF p e_ R s m args below meth c T locs cells slots hA X H target st => ?_⟩
    have e : vv A O hz.size (0, jI Term.mul a b) = .int ((te A a).1 * (te A b).1) := by show Value.int (te A (smI _)).1 = _; rw [te_smI]; rfl
    have st' : Steps p.tables e_ below (T.setTop (mkF m (pc + 1) (L.map (sl1 A O hz.size)).toArray (vv A O hz.size (0, jI Term.mul a b) :: S'.map (vv A O hz.size)))) target := st
    rw [e] at st'
    exact XS.imul X.here hA.1 rfl (hb hA.2.2.1 hd) rfl st'
theorem g_iand {pc : Nat} (hd : decode bytes pc = .ok (.iand, 1)) : Good l Z hz sh A O y bytes maxL ret pc (sBin 0 0 0 (jI (Term.op2 .iand)) (pc + 1)) :=
  good_one fun F L S D sl ns h => by
    obtain ⟨a, b, S', rfl, rfl⟩ := sBin_inv h
    refine ⟨_, _, rfl, fun hF p e_ R s m args below meth c T locs cells slots hA X H target st => ?_⟩
    have e : vv A O hz.size (0, jI (Term.op2 .iand) a b) = .int ((te A a).1 &&& (te A b).1) := by show Value.int (te A (smI _)).1 = _; rw [te_smI]; rfl
    have st' : Steps p.tables e_ below (T.setTop (mkF m (pc + 1) (L.map (sl1 A O hz.size)).toArray (vv A O hz.size (0, jI (Term.op2 .iand) a b) :: S'.map (vv A O hz.size)))) target := st
    rw [e] at st'
    exact XS.iand X.here hA.1 rfl (hb hA.2.2.1 hd) rfl st'
theorem g_ior {pc : Nat} (hd : decode bytes pc = .ok (.ior, 1)) : Good l Z hz sh A O y bytes maxL ret pc (sBin 0 0 0 (jI (Term.op2 .ior)) (pc + 1)) :=
  good_one fun F L S D sl ns h => by
    obtain ⟨a, b, S', rfl, rfl⟩ := sBin_inv h
    refine ⟨_, _, rfl, fun hF p e_ R s m args below meth c T locs cells slots hA X H target st => ?_⟩
    have e : vv A O hz.size (0, jI (Term.op2 .ior) a b) = .int ((te A a).1 ||| (te A b).1) := by show Value.int (te A (smI _)).1 = _; rw [te_smI]; rfl
    have st' : Steps p.tables e_ below (T.setTop (mkF m (pc + 1) (L.map (sl1 A O hz.size)).toArray (vv A O hz.size (0, jI (Term.op2 .ior) a b) :: S'.map (vv A O hz.size)))) target := st
    rw [e] at st'
    exact XS.ior X.here hA.1 rfl (hb hA.2.2.1 hd) rfl st'
theorem g_ixor {pc : Nat} (hd : decode bytes pc = .ok (.ixor, 1)) : Good l Z hz sh A O y bytes maxL ret pc (sBin 0 0 0 (jI (Term.op2 .ixor)) (pc + 1)) :=
  good_one fun F L S D sl ns h => by
    obtain ⟨a, b, S', rfl, rfl⟩ := sBin_inv h
    refine ⟨_, _, rfl, fun hF p e_ R s m args below meth c T locs cells slots hA X H target st => ?_⟩
    have e : vv A O hz.size (0, jI (Term.op2 .ixor) a b) = .int ((te A a).1 ^^^ (te A b).1) := by show Value.int (te A (smI _)).1 = _; rw [te_smI]; rfl
    have st' : Steps p.tables e_ below (T.setTop (mkF m (pc + 1) (L.map (sl1 A O hz.size)).toArray (vv A O hz.size (0, jI (Term.op2 .ixor) a b) :: S'.map (vv A O hz.size)))) target := st
    rw [e] at st'
    exact XS.ixor X.here hA.1 rfl (hb hA.2.2.1 hd) rfl st'
theorem g_ishl {pc : Nat} (hd : decode bytes pc = .ok (.ishl, 1)) : Good l Z hz sh A O y bytes maxL ret pc (sBin 0 0 0 (jI (Term.op2 .ishl)) (pc + 1)) :=
  good_one fun F L S D sl ns h => by
    obtain ⟨a, b, S', rfl, rfl⟩ := sBin_inv h
    refine ⟨_, _, rfl, fun hF p e_ R s m args below meth c T locs cells slots hA X H target st => ?_⟩
    have e : vv A O hz.size (0, jI (Term.op2 .ishl) a b) = .int ((te A a).1 <<< ((te A b).1 &&& 31)) := by show Value.int (te A (smI _)).1 = _; rw [te_smI]; rfl
    have st' : Steps p.tables e_ below (T.setTop (mkF m (pc + 1) (L.map (sl1 A O hz.size)).toArray (vv A O hz.size (0, jI (Term.op2 .ishl) a b) :: S'.map (vv A O hz.size)))) target := st
    rw [e] at st'
    exact XS.ishl X.here hA.1 rfl (hb hA.2.2.1 hd) rfl st'
theorem g_ishr {pc : Nat} (hd : decode bytes pc = .ok (.ishr, 1)) : Good l Z hz sh A O y bytes maxL ret pc (sBin 0 0 0 (jI (Term.op2 .ishr)) (pc + 1)) :=
  good_one fun F L S D sl ns h => by
    obtain ⟨a, b, S', rfl, rfl⟩ := sBin_inv h
    refine ⟨_, _, rfl, fun hF p e_ R s m args below meth c T locs cells slots hA X H target st => ?_⟩
    have e : vv A O hz.size (0, jI (Term.op2 .ishr) a b) = .int ((te A a).1 >>> ((te A b).1 &&& 31)) := by show Value.int (te A (smI _)).1 = _; rw [te_smI]; rfl
    have st' : Steps p.tables e_ below (T.setTop (mkF m (pc + 1) (L.map (sl1 A O hz.size)).toArray (vv A O hz.size (0, jI (Term.op2 .ishr) a b) :: S'.map (vv A O hz.size)))) target := st
    rw [e] at st'
    exact XS.ishr X.here hA.1 rfl (hb hA.2.2.1 hd) rfl st'
theorem g_iushr {pc : Nat} (hd : decode bytes pc = .ok (.iushr, 1)) : Good l Z hz sh A O y bytes maxL ret pc (sBin 0 0 0 (jI (Term.op2 .iushr)) (pc + 1)) :=
  good_one fun F L S D sl ns h => by
    obtain ⟨a, b, S', rfl, rfl⟩ := sBin_inv h
    refine ⟨_, _, rfl, fun hF p e_ R s m args below meth c T locs cells slots hA X H target st => ?_⟩
    have e : vv A O hz.size (0, jI (Term.op2 .iushr) a b) = .int (((te A a).1.toUInt32 >>> ((te A b).1 &&& 31).toUInt32).toInt32) := by show Value.int (te A (smI _)).1 = _; rw [te_smI]; rfl
    have st' : Steps p.tables e_ below (T.setTop (mkF m (pc + 1) (L.map (sl1 A O hz.size)).toArray (vv A O hz.size (0, jI (Term.op2 .iushr) a b) :: S'.map (vv A O hz.size)))) target := st
    rw [e] at st'
    exact XS.iushr X.here hA.1 rfl (hb hA.2.2.1 hd) rfl st'
theorem g_ladd {pc : Nat} (hd : decode bytes pc = .ok (.ladd, 1)) : Good l Z hz sh A O y bytes maxL ret pc (sBin 1 1 1 (jL (Term.op2 .ladd)) (pc + 1)) :=
  good_one fun F L S D sl ns h => by
    obtain ⟨a, b, S', rfl, rfl⟩ := sBin_inv h
    refine ⟨_, _, rfl, fun hF p e_ R s m args below meth c T locs cells slots hA X H target st => ?_⟩
    have e : vv A O hz.size (1, jL (Term.op2 .ladd) a b) = .long ((te A a).2 + (te A b).2) := by show Value.long (te A (smL _)).2 = _; rw [te_smL]; rfl
    have st' : Steps p.tables e_ below (T.setTop (mkF m (pc + 1) (L.map (sl1 A O hz.size)).toArray (vv A O hz.size (1, jL (Term.op2 .ladd) a b) :: S'.map (vv A O hz.size)))) target := st
    rw [e] at st'
    exact XS.ladd X.here hA.1 rfl (hb hA.2.2.1 hd) rfl st'
theorem g_lsub {pc : Nat} (hd : decode bytes pc = .ok (.lsub, 1)) : Good l Z hz sh A O y bytes maxL ret pc (sBin 1 1 1 (jL (Term.op2 .lsub)) (pc + 1)) :=
  good_one fun F L S D sl ns h => by
    obtain ⟨a, b, S', rfl, rfl⟩ := sBin_inv h
    refine ⟨_, _, rfl, fun hF p e_ R s m args below meth c T locs cells slots hA X H target st => ?_⟩
    have e : vv A O hz.size (1, jL (Term.op2 .lsub) a b) = .long ((te A a).2 - (te A b).2) := by show Value.long (te A (smL _)).2 = _; rw [te_smL]; rfl
    have st' : Steps p.tables e_ below (T.setTop (mkF m (pc + 1) (L.map (sl1 A O hz.size)).toArray (vv A O hz.size (1, jL (Term.op2 .lsub) a b) :: S'.map (vv A O hz.size)))) target := st
    rw [e] at st'
    exact XS.lsub X.here hA.1 rfl (hb hA.2.2.1 hd) rfl st'
theorem g_lmul {pc : Nat} (hd : decode bytes pc = .ok (.lmul, 1)) : Good l Z hz sh A O y bytes maxL ret pc (sBin 1 1 1 (jL (Term.op2 .lmul)) (pc + 1)) :=
  good_one fun F L S D sl ns h => by
    obtain ⟨a, b, S', rfl, rfl⟩ := sBin_inv h
    refine ⟨_, _, rfl, fun hF p e_ R s m args below meth c T locs cells slots hA X H target st => ?_⟩
    have e : vv A O hz.size (1, jL (Term.op2 .lmul) a b) = .long ((te A a).2 * (te A b).2) := by show Value.long (te A (smL _)).2 = _; rw [te_smL]; rfl
    have st' : Steps p.tables e_ below (T.setTop (mkF m (pc + 1) (L.map (sl1 A O hz.size)).toArray (vv A O hz.size (1, jL (Term.op2 .lmul) a b) :: S'.map (vv A O hz.size)))) target := st
    rw [e] at st'
    exact XS.lmul X.here hA.1 rfl (hb hA.2.2.1 hd) rfl st'
theorem g_land {pc : Nat} (hd : decode bytes pc = .ok (.land, 1)) : Good l Z hz sh A O y bytes maxL ret pc (sBin 1 1 1 (jL (Term.op2 .land)) (pc + 1)) :=
  good_one fun F L S D sl ns h => by
    obtain ⟨a, b, S', rfl, rfl⟩ := sBin_inv h
    refine ⟨_, _, rfl, fun hF p e_ R s m args below meth c T locs cells slots hA X H target st => ?_⟩
    have e : vv A O hz.size (1, jL (Term.op2 .land) a b) = .long ((te A a).2 &&& (te A b).2) := by show Value.long (te A (smL _)).2 = _; rw [te_smL]; rfl
    have st' : Steps p.tables e_ below (T.setTop (mkF m (pc + 1) (L.map (sl1 A O hz.size)).toArray (vv A O hz.size (1, jL (Term.op2 .land) a b) :: S'.map (vv A O hz.size)))) target := st
    rw [e] at st'
    exact XS.land X.here hA.1 rfl (hb hA.2.2.1 hd) rfl st'
theorem g_lor {pc : Nat} (hd : decode bytes pc = .ok (.lor, 1)) : Good l Z hz sh A O y bytes maxL ret pc (sBin 1 1 1 (jL (Term.op2 .lor)) (pc + 1)) :=
  good_one fun F L S D sl ns h => by
    obtain ⟨a, b, S', rfl, rfl⟩ := sBin_inv h
    refine ⟨_, _, rfl, fun hF p e_ R s m args below meth c T locs cells slots hA X H target st => ?_⟩
    have e : vv A O hz.size (1, jL (Term.op2 .lor) a b) = .long ((te A a).2 ||| (te A b).2) := by show Value.long (te A (smL _)).2 = _; rw [te_smL]; rfl
    have st' : Steps p.tables e_ below (T.setTop (mkF m (pc + 1) (L.map (sl1 A O hz.size)).toArray (vv A O hz.size (1, jL (Term.op2 .lor) a b) :: S'.map (vv A O hz.size)))) target := st
    rw [e] at st'
    exact XS.lor X.here hA.1 rfl (hb hA.2.2.1 hd) rfl st'
theorem g_lxor {pc : Nat} (hd : decode bytes pc = .ok (.lxor, 1)) : Good l Z hz sh A O y bytes maxL ret pc (sBin 1 1 1 (jL (Term.op2 .lxor)) (pc + 1)) :=
  good_one fun F L S D sl ns h => by
    obtain ⟨a, b, S', rfl, rfl⟩ := sBin_inv h
    refine ⟨_, _, rfl, fun hF p e_ R s m args below meth c T locs cells slots hA X H target st => ?_⟩
    have e : vv A O hz.size (1, jL (Term.op2 .lxor) a b) = .long ((te A a).2 ^^^ (te A b).2) := by show Value.long (te A (smL _)).2 = _; rw [te_smL]; rfl
    have st' : Steps p.tables e_ below (T.setTop (mkF m (pc + 1) (L.map (sl1 A O hz.size)).toArray (vv A O hz.size (1, jL (Term.op2 .lxor) a b) :: S'.map (vv A O hz.size)))) target := st
    rw [e] at st'
    exact XS.lxor X.here hA.1 rfl (hb hA.2.2.1 hd) rfl st'
theorem g_lshl {pc : Nat} (hd : decode bytes pc = .ok (.lshl, 1)) : Good l Z hz sh A O y bytes maxL ret pc (sBin 1 0 1 (jL (Term.op2 .lshl)) (pc + 1)) :=
  good_one fun F L S D sl ns h => by
    obtain ⟨a, b, S', rfl, rfl⟩ := sBin_inv h
    refine ⟨_, _, rfl, fun hF p e_ R s m args below meth c T locs cells slots hA X H target st => ?_⟩
    have e : vv A O hz.size (1, jL (Term.op2 .lshl) a b) = .long ((te A a).2 <<< ((te A b).1 &&& 0x3f).toInt64) := by show Value.long (te A (smL _)).2 = _; rw [te_smL]; rfl
    have st' : Steps p.tables e_ below (T.setTop (mkF m (pc + 1) (L.map (sl1 A O hz.size)).toArray (vv A O hz.size (1, jL (Term.op2 .lshl) a b) :: S'.map (vv A O hz.size)))) target := st
    rw [e] at st'
    exact XS.lshl X.here hA.1 rfl (hb hA.2.2.1 hd) rfl st'
theorem g_lshr {pc : Nat} (hd : decode bytes pc = .ok (.lshr, 1)) : Good l Z hz sh A O y bytes maxL ret pc (sBin 1 0 1 (jL (Term.op2 .lshr)) (pc + 1)) :=
  good_one fun F L S D sl ns h => by
    obtain ⟨a, b, S', rfl, rfl⟩ := sBin_inv h
    refine ⟨_, _, rfl, fun hF p e_ R s m args below meth c T locs cells slots hA X H target st => ?_⟩
    have e : vv A O hz.size (1, jL (Term.op2 .lshr) a b) = .long ((te A a).2 >>> ((te A b).1 &&& 0x3f).toInt64) := by show Value.long (te A (smL _)).2 = _; rw [te_smL]; rfl
    have st' : Steps p.tables e_ below (T.setTop (mkF m (pc + 1) (L.map (sl1 A O hz.size)).toArray (vv A O hz.size (1, jL (Term.op2 .lshr) a b) :: S'.map (vv A O hz.size)))) target := st
    rw [e] at st'
    exact XS.lshr X.here hA.1 rfl (hb hA.2.2.1 hd) rfl st'
theorem g_lushr {pc : Nat} (hd : decode bytes pc = .ok (.lushr, 1)) : Good l Z hz sh A O y bytes maxL ret pc (sBin 1 0 1 (jL (Term.op2 .lushr)) (pc + 1)) :=
  good_one fun F L S D sl ns h => by
    obtain ⟨a, b, S', rfl, rfl⟩ := sBin_inv h
    refine ⟨_, _, rfl, fun hF p e_ R s m args below meth c T locs cells slots hA X H target st => ?_⟩
    have e : vv A O hz.size (1, jL (Term.op2 .lushr) a b) = .long (((te A a).2.toUInt64 >>> ((te A b).1 &&& 0x3f).toInt64.toUInt64).toInt64) := by show Value.long (te A (smL _)).2 = _; rw [te_smL]; rfl
    have st' : Steps p.tables e_ below (T.setTop (mkF m (pc + 1) (L.map (sl1 A O hz.size)).toArray (vv A O hz.size (1, jL (Term.op2 .lushr) a b) :: S'.map (vv A O hz.size)))) target := st
    rw [e] at st'
    exact XS.lushr X.here hA.1 rfl (hb hA.2.2.1 hd) rfl st'
theorem g_lcmp {pc : Nat} (hd : decode bytes pc = .ok (.lcmp, 1)) : Good l Z hz sh A O y bytes maxL ret pc (sBin 1 1 0 (jI (Term.op2 .lcmp)) (pc + 1)) :=
  good_one fun F L S D sl ns h => by
    obtain ⟨a, b, S', rfl, rfl⟩ := sBin_inv h
    refine ⟨_, _, rfl, fun hF p e_ R s m args below meth c T locs cells slots hA X H target st => ?_⟩
    have e : vv A O hz.size (0, jI (Term.op2 .lcmp) a b) = .int (lcmpW (te A a).2 (te A b).2) := by show Value.int (te A (smI _)).1 = _; rw [te_smI]; rfl
    have st' : Steps p.tables e_ below (T.setTop (mkF m (pc + 1) (L.map (sl1 A O hz.size)).toArray (vv A O hz.size (0, jI (Term.op2 .lcmp) a b) :: S'.map (vv A O hz.size)))) target := st
    rw [e] at st'
    exact XS.lcmp X.here hA.1 rfl (hb hA.2.2.1 hd) rfl st'
def uI (f : Term → Term) (a : Term) : Term := smI (f a)
def uL (f : Term → Term) (a : Term) : Term := smL (f a)
def sUn (k1 k3 : Nat) (f : Term → Term) (nx : Nat) : Stp := fun F cf => match cf.2.1 with
  | a :: S => bif a.1 == k1 then some [(F, nx, (cf.1, (k3, f a.2) :: S, cf.2.2))] else none
  | _ => none
theorem sUn_inv {k1 k3 : Nat} {f : Term → Term} {nx : Nat} {F : List Cond} {L : List SL} {S : List SV} {D : List Ob} {sl : Nat} {ns : List Nx} (h : sUn k1 k3 f nx F (L, S, D, sl) = some ns) : ∃ a S', S = (k1, a) :: S' ∧ ns = [(F, nx, (L, (k3, f a) :: S', D, sl))] := by
  simp only [sUn] at h
  split at h
  · rename_i a S'
    obtain ⟨ka, a⟩ := a
    cases hk : (ka == k1)
    · rw [hk] at h; cases h
    · rw [hk] at h; obtain rfl := beq_iff_eq.mp hk
      cases h; exact ⟨a, S', rfl, rfl⟩
  · cases h
theorem g_ineg {pc : Nat} (hd : decode bytes pc = .ok (.ineg, 1)) : Good l Z hz sh A O y bytes maxL ret pc (sUn 0 0 (uI (Term.op1 .ineg)) (pc + 1)) :=
  good_one fun F L S D sl ns h => by
    obtain ⟨a, S', rfl, rfl⟩ := sUn_inv h
    refine ⟨_, _, rfl, fun hF p e_ R s m args below meth c T locs cells slots hA X H target st => ?_⟩
    have e : vv A O hz.size (0, uI (Term.op1 .ineg) a) = .int (-(te A a).1) := by show Value.int (te A (smI _)).1 = _; rw [te_smI]; rfl
    have st' : Steps p.tables e_ below (T.setTop (mkF m (pc + 1) (L.map (sl1 A O hz.size)).toArray (vv A O hz.size (0, uI (Term.op1 .ineg) a) :: S'.map (vv A O hz.size)))) target := st
    rw [e] at st'
    exact XS.ineg X.here hA.1 rfl (hb hA.2.2.1 hd) rfl st'
theorem g_lneg {pc : Nat} (hd : decode bytes pc = .ok (.lneg, 1)) : Good l Z hz sh A O y bytes maxL ret pc (sUn 1 1 (uL (Term.op1 .lneg)) (pc + 1)) :=
  good_one fun F L S D sl ns h => by
    obtain ⟨a, S', rfl, rfl⟩ := sUn_inv h
    refine ⟨_, _, rfl, fun hF p e_ R s m args below meth c T locs cells slots hA X H target st => ?_⟩
    have e : vv A O hz.size (1, uL (Term.op1 .lneg) a) = .long (-(te A a).2) := by show Value.long (te A (smL _)).2 = _; rw [te_smL]; rfl
    have st' : Steps p.tables e_ below (T.setTop (mkF m (pc + 1) (L.map (sl1 A O hz.size)).toArray (vv A O hz.size (1, uL (Term.op1 .lneg) a) :: S'.map (vv A O hz.size)))) target := st
    rw [e] at st'
    exact XS.lneg X.here hA.1 rfl (hb hA.2.2.1 hd) rfl st'
theorem g_i2l {pc : Nat} (hd : decode bytes pc = .ok (.i2l, 1)) : Good l Z hz sh A O y bytes maxL ret pc (sUn 0 1 (uL (Term.op1 .i2l)) (pc + 1)) :=
  good_one fun F L S D sl ns h => by
    obtain ⟨a, S', rfl, rfl⟩ := sUn_inv h
    refine ⟨_, _, rfl, fun hF p e_ R s m args below meth c T locs cells slots hA X H target st => ?_⟩
    have e : vv A O hz.size (1, uL (Term.op1 .i2l) a) = .long ((te A a).1.toInt64) := by show Value.long (te A (smL _)).2 = _; rw [te_smL]; rfl
    have st' : Steps p.tables e_ below (T.setTop (mkF m (pc + 1) (L.map (sl1 A O hz.size)).toArray (vv A O hz.size (1, uL (Term.op1 .i2l) a) :: S'.map (vv A O hz.size)))) target := st
    rw [e] at st'
    exact XS.i2l X.here hA.1 rfl (hb hA.2.2.1 hd) rfl st'
theorem g_l2i {pc : Nat} (hd : decode bytes pc = .ok (.l2i, 1)) : Good l Z hz sh A O y bytes maxL ret pc (sUn 1 0 (uI (Term.op1 .l2i)) (pc + 1)) :=
  good_one fun F L S D sl ns h => by
    obtain ⟨a, S', rfl, rfl⟩ := sUn_inv h
    refine ⟨_, _, rfl, fun hF p e_ R s m args below meth c T locs cells slots hA X H target st => ?_⟩
    have e : vv A O hz.size (0, uI (Term.op1 .l2i) a) = .int ((te A a).2.toInt32) := by show Value.int (te A (smI _)).1 = _; rw [te_smI]; rfl
    have st' : Steps p.tables e_ below (T.setTop (mkF m (pc + 1) (L.map (sl1 A O hz.size)).toArray (vv A O hz.size (0, uI (Term.op1 .l2i) a) :: S'.map (vv A O hz.size)))) target := st
    rw [e] at st'
    exact XS.l2i X.here hA.1 rfl (hb hA.2.2.1 hd) rfl st'
theorem g_i2b {pc : Nat} (hd : decode bytes pc = .ok (.i2b, 1)) : Good l Z hz sh A O y bytes maxL ret pc (sUn 0 0 (uI (Term.op1 .i2b)) (pc + 1)) :=
  good_one fun F L S D sl ns h => by
    obtain ⟨a, S', rfl, rfl⟩ := sUn_inv h
    refine ⟨_, _, rfl, fun hF p e_ R s m args below meth c T locs cells slots hA X H target st => ?_⟩
    have e : vv A O hz.size (0, uI (Term.op1 .i2b) a) = .int ((te A a).1.toInt8.toInt32) := by show Value.int (te A (smI _)).1 = _; rw [te_smI]; rfl
    have st' : Steps p.tables e_ below (T.setTop (mkF m (pc + 1) (L.map (sl1 A O hz.size)).toArray (vv A O hz.size (0, uI (Term.op1 .i2b) a) :: S'.map (vv A O hz.size)))) target := st
    rw [e] at st'
    exact XS.i2b X.here hA.1 rfl (hb hA.2.2.1 hd) rfl st'
theorem g_i2c {pc : Nat} (hd : decode bytes pc = .ok (.i2c, 1)) : Good l Z hz sh A O y bytes maxL ret pc (sUn 0 0 (uI (Term.op1 .i2c)) (pc + 1)) :=
  good_one fun F L S D sl ns h => by
    obtain ⟨a, S', rfl, rfl⟩ := sUn_inv h
    refine ⟨_, _, rfl, fun hF p e_ R s m args below meth c T locs cells slots hA X H target st => ?_⟩
    have e : vv A O hz.size (0, uI (Term.op1 .i2c) a) = .int ((te A a).1.toUInt32.toUInt16.toUInt32.toInt32) := by show Value.int (te A (smI _)).1 = _; rw [te_smI]; rfl
    have st' : Steps p.tables e_ below (T.setTop (mkF m (pc + 1) (L.map (sl1 A O hz.size)).toArray (vv A O hz.size (0, uI (Term.op1 .i2c) a) :: S'.map (vv A O hz.size)))) target := st
    rw [e] at st'
    exact XS.i2c X.here hA.1 rfl (hb hA.2.2.1 hd) rfl st'
theorem g_i2s {pc : Nat} (hd : decode bytes pc = .ok (.i2s, 1)) : Good l Z hz sh A O y bytes maxL ret pc (sUn 0 0 (uI (Term.op1 .i2s)) (pc + 1)) :=
  good_one fun F L S D sl ns h => by
    obtain ⟨a, S', rfl, rfl⟩ := sUn_inv h
    refine ⟨_, _, rfl, fun hF p e_ R s m args below meth c T locs cells slots hA X H target st => ?_⟩
    have e : vv A O hz.size (0, uI (Term.op1 .i2s) a) = .int ((te A a).1.toInt16.toInt32) := by show Value.int (te A (smI _)).1 = _; rw [te_smI]; rfl
    have st' : Steps p.tables e_ below (T.setTop (mkF m (pc + 1) (L.map (sl1 A O hz.size)).toArray (vv A O hz.size (0, uI (Term.op1 .i2s) a) :: S'.map (vv A O hz.size)))) target := st
    rw [e] at st'
    exact XS.i2s X.here hA.1 rfl (hb hA.2.2.1 hd) rfl st'
def s_irem (nx : Nat) : Stp := fun F cf => match cf.2.1 with
  | b :: a :: S => bif (a.1 == 0) && (b.1 == 0) then (match cv F b.2 with
    | some v => bif v == 0 then none else some [(F, nx, (cf.1, (0, jI Term.rem a.2 (.int v)) :: S, cf.2.2))]
    | none => none) else none
  | _ => none
theorem g_irem {pc : Nat} (hd : decode bytes pc = .ok (.irem, 1)) : Good l Z hz sh A O y bytes maxL ret pc (s_irem (pc + 1)) :=
  good_one fun F L S D sl ns h => by
    simp only [s_irem] at h
    split at h
    · rename_i b a S'
      obtain ⟨kb, b⟩ := b
      obtain ⟨ka, a⟩ := a
      cases hk : ((ka == 0) && (kb == 0))
      · rw [hk] at h; cases h
      · rw [hk] at h
        simp only [Bool.and_eq_true, beq_iff_eq] at hk
        obtain ⟨rfl, rfl⟩ := hk
        simp only [cond_true] at h
        split at h
        · rename_i v q
          cases hv : (v == 0)
          · rw [hv] at h; cases h
            refine ⟨_, _, rfl, fun hF p e_ R s m args below meth c T locs cells slots hA X H target st => ?_⟩
            have hb0 := cv_ok hF q
            have e : vv A O hz.size (0, jI Term.rem a (.int v)) = .int ((te A a).1 % (te A b).1) := by show Value.int (te A (smI _)).1 = _; rw [te_smI, hb0]; rfl
            have st' : Steps p.tables e_ below (T.setTop (mkF m (pc + 1) (L.map (sl1 A O hz.size)).toArray (vv A O hz.size (0, jI Term.rem a (.int v)) :: S'.map (vv A O hz.size)))) target := st
            rw [e] at st'
            exact iremM X hA.1 rfl (hb hA.2.2.1 hd) rfl (by rw [hb0]; simpa using hv) st'
          · rw [hv] at h; cases h
        · cases h
    · cases h
def s_idiv (nx : Nat) : Stp := fun F cf => match cf.2.1 with
  | b :: a :: S => bif (a.1 == 0) && (b.1 == 0) then (match cv F b.2 with
    | some v => bif v == 0 then none else some [(F, nx, (cf.1, (0, jI Term.div a.2 (.int v)) :: S, cf.2.2))]
    | none => none) else none
  | _ => none
theorem g_idiv {pc : Nat} (hd : decode bytes pc = .ok (.idiv, 1)) : Good l Z hz sh A O y bytes maxL ret pc (s_idiv (pc + 1)) :=
  good_one fun F L S D sl ns h => by
    simp only [s_idiv] at h
    split at h
    · rename_i b a S'
      obtain ⟨kb, b⟩ := b
      obtain ⟨ka, a⟩ := a
      cases hk : ((ka == 0) && (kb == 0))
      · rw [hk] at h; cases h
      · rw [hk] at h
        simp only [Bool.and_eq_true, beq_iff_eq] at hk
        obtain ⟨rfl, rfl⟩ := hk
        simp only [cond_true] at h
        split at h
        · rename_i v q
          cases hv : (v == 0)
          · rw [hv] at h; cases h
            refine ⟨_, _, rfl, fun hF p e_ R s m args below meth c T locs cells slots hA X H target st => ?_⟩
            have hb0 := cv_ok hF q
            have e : vv A O hz.size (0, jI Term.div a (.int v)) = .int ((te A a).1 / (te A b).1) := by show Value.int (te A (smI _)).1 = _; rw [te_smI, hb0]; rfl
            have st' : Steps p.tables e_ below (T.setTop (mkF m (pc + 1) (L.map (sl1 A O hz.size)).toArray (vv A O hz.size (0, jI Term.div a (.int v)) :: S'.map (vv A O hz.size)))) target := st
            rw [e] at st'
            exact XS.idiv X.here hA.1 rfl (hb hA.2.2.1 hd) rfl (by rw [hb0]; simpa using hv) st'
          · rw [hv] at h; cases h
        · cases h
    · cases h
def sIinc (k : Nat) (c : Int32) (nx : Nat) : Stp := fun F cf => match cf.1[k]? with
  | some (some (some x)) => bif x.1 == 0 then (match stL cf.1 k (0, jI Term.add x.2 (.int c)) with
    | some L => some [(F, nx, (L, cf.2))]
    | none => none) else none
  | _ => none
theorem g_iinc {pc k : Nat} {i : Int} {v : Int32} (hd : decode bytes pc = .ok (.iinc k i, 3)) (hv : Int32.ofInt i = v) : Good l Z hz sh A O y bytes maxL ret pc (sIinc k v (pc + 3)) :=
  good_one fun F L S D sl ns h => by
    simp only [sIinc] at h
    split at h
    · rename_i x q
      obtain ⟨kx, t⟩ := x
      cases hk : (kx == 0)
      · rw [hk] at h; cases h
      · rw [hk] at h; obtain rfl := beq_iff_eq.mp hk
        simp only [cond_true] at h
        split at h
        · rename_i L' q2
          cases h
          refine ⟨_, _, rfl, fun hF p e R s m args below meth c T locs cells slots hA X H target st => ?_⟩
          subst hv
          have k1 := stL_ok (A := A) (O := O) (hz := hz) q2
          have e1 : vv A O hz.size (0, jI Term.add t (.int (Int32.ofInt i))) = .int ((te A t).1 + Int32.ofInt i) := by show Value.int (te A (smI _)).1 = _; rw [te_smI]; rfl
          rw [e1] at k1
          exact XS.iinc X.here hA.1 rfl (hb hA.2.2.1 hd) (loc_at q) k1 st
        · cases h
    · cases h
/-! the stack -/
def sDup (nx : Nat) : Stp := fun F cf => match cf.2.1 with
  | x :: S => bif cat x == 1 then some [(F, nx, (cf.1, x :: x :: S, cf.2.2))] else none
  | _ => none
theorem g_dup {pc : Nat} (hd : decode bytes pc = .ok (.dup, 1)) : Good l Z hz sh A O y bytes maxL ret pc (sDup (pc + 1)) :=
  good_one fun F L S D sl ns h => by
    simp only [sDup] at h
    split at h
    · rename_i x S'
      cases hk : (cat x == 1)
      · rw [hk] at h; cases h
      · rw [hk] at h; cases h
        refine ⟨_, _, rfl, fun hF p e R s m args below meth c T locs cells slots hA X H target st => ?_⟩
        exact XS.dup X.here hA.1 rfl (hb hA.2.2.1 hd) rfl (by rw [vv_cat]; exact beq_iff_eq.mp hk) st
    · cases h
def sPop (nx : Nat) : Stp := fun F cf => match cf.2.1 with
  | x :: S => bif cat x == 1 then some [(F, nx, (cf.1, S, cf.2.2))] else none
  | _ => none
theorem g_pop {pc : Nat} (hd : decode bytes pc = .ok (.pop, 1)) : Good l Z hz sh A O y bytes maxL ret pc (sPop (pc + 1)) :=
  good_one fun F L S D sl ns h => by
    simp only [sPop] at h
    split at h
    · rename_i x S'
      cases hk : (cat x == 1)
      · rw [hk] at h; cases h
      · rw [hk] at h; cases h
        refine ⟨_, _, rfl, fun hF p e R s m args below meth c T locs cells slots hA X H target st => ?_⟩
        exact XS.pop X.here hA.1 rfl (hb hA.2.2.1 hd) rfl (by rw [vv_cat]; exact beq_iff_eq.mp hk) st
    · cases h
def sDupX1 (nx : Nat) : Stp := fun F cf => match cf.2.1 with
  | x :: z :: S => bif (cat x == 1) && (cat z == 1) then some [(F, nx, (cf.1, x :: z :: x :: S, cf.2.2))] else none
  | _ => none
theorem g_dupX1 {pc : Nat} (hd : decode bytes pc = .ok (.dup_x1, 1)) : Good l Z hz sh A O y bytes maxL ret pc (sDupX1 (pc + 1)) :=
  good_one fun F L S D sl ns h => by
    simp only [sDupX1] at h
    split at h
    · rename_i x z S'
      cases hk : ((cat x == 1) && (cat z == 1))
      · rw [hk] at h; cases h
      · rw [hk] at h; cases h
        simp only [Bool.and_eq_true, beq_iff_eq] at hk
        refine ⟨_, _, rfl, fun hF p e R s m args below meth c T locs cells slots hA X H target st => ?_⟩
        exact XT.dupX1 X.here hA.1 rfl (hb hA.2.2.1 hd) rfl (by rw [vv_cat]; exact hk.1) (by rw [vv_cat]; exact hk.2) st
    · cases h
def sDup2 (nx : Nat) : Stp := fun F cf => match cf.2.1 with
  | x :: z :: S => bif (cat x == 1) && (cat z == 1) then some [(F, nx, (cf.1, x :: z :: x :: z :: S, cf.2.2))] else none
  | _ => none
theorem g_dup2 {pc : Nat} (hd : decode bytes pc = .ok (.dup2, 1)) : Good l Z hz sh A O y bytes maxL ret pc (sDup2 (pc + 1)) :=
  good_one fun F L S D sl ns h => by
    simp only [sDup2] at h
    split at h
    · rename_i x z S'
      cases hk : ((cat x == 1) && (cat z == 1))
      · rw [hk] at h; cases h
      · rw [hk] at h; cases h
        simp only [Bool.and_eq_true, beq_iff_eq] at hk
        refine ⟨_, _, rfl, fun hF p e R s m args below meth c T locs cells slots hA X H target st => ?_⟩
        exact XT.dup2 X.here hA.1 rfl (hb hA.2.2.1 hd) rfl (by rw [vv_cat]; exact hk.1) (by rw [vv_cat]; exact hk.2) st
    · cases h
/-! jumps -/
def sGoto (tg : Nat) : Stp := fun F cf => some [(F, tg, cf)]
theorem g_goto {pc tg : Nat} {o : Int} (hd : decode bytes pc = .ok (.goto o, 3)) (h1 : 0 ≤ (pc : Int) + o) (h2 : ((pc : Int) + o).toNat = tg) : Good l Z hz sh A O y bytes maxL ret pc (sGoto tg) :=
  good_one fun F L S D sl ns h => by
    cases h
    refine ⟨_, _, rfl, fun hF p e R s m args below meth c T locs cells slots hA X H target st => ?_⟩
    exact XS.goto X.here hA.1 rfl (pc0 := pc) (pc' := tg) rfl (hb hA.2.2.1 hd) h1 h2 st
def atm : ClassFile.Cond → Term → Term → Cond × Bool
  | .eq, a, b => (.eq a b, true)
  | .ne, a, b => (.eq a b, false)
  | .lt, a, b => (.lt a b, true)
  | .ge, a, b => (.lt a b, false)
  | .gt, a, b => (.lt b a, true)
  | .le, a, b => (.lt b a, false)
theorem atm_ok (A : En) (cd : ClassFile.Cond) (a b : Term) : (hold A (atm cd a b).1 → if_icmp.holds cd (te A a).1 (te A b).1 = (atm cd a b).2) ∧ (¬ hold A (atm cd a b).1 → if_icmp.holds cd (te A a).1 (te A b).1 = !(atm cd a b).2) := by
  cases cd <;> refine ⟨fun h => ?_, fun h => ?_⟩ <;> simp only [atm, hold] at h <;> simp only [atm, Bool.not_true, Bool.not_false]
  · exact (teq h).1
  · exact (feq h).1
  · exact (teq h).2
  · exact (feq h).2
  · exact (tlt h).1
  · exact (flt h).1
  · exact (tlt h).2.1
  · exact (flt h).2.1
  · exact (tlt h).2.2.1
  · exact (flt h).2.2.1
  · exact (tlt h).2.2.2
  · exact (flt h).2.2.2
def br (F : List Cond) (q : Cond × Bool) (tg nx : Nat) (cf : Cf) : List Nx := match q.2 with
  | true => fork F q.1 (fun G => (G, tg, cf)) (fun G => (G, nx, cf))
  | false => fork F q.1 (fun G => (G, nx, cf)) (fun G => (G, tg, cf))
theorem br_ok {F : List Cond} {cd : ClassFile.Cond} {a b : Term} {tg nx : Nat} {cf : Cf} (hF : holds A F) :
    ∃ n ∈ br F (atm cd a b) tg nx cf, holds A n.1 ∧ n.2.2 = cf ∧ ((if_icmp.holds cd (te A a).1 (te A b).1 = true ∧ n.2.1 = tg) ∨ (if_icmp.holds cd (te A a).1 (te A b).1 = false ∧ n.2.1 = nx)) := by
  obtain ⟨k1, k2⟩ := atm_ok A cd a b
  unfold br
  cases hq : (atm cd a b).2
  · rw [hq] at k1 k2
    obtain ⟨G, hG, ⟨h1, h2⟩ | ⟨h1, h2⟩⟩ := fork_ok (A := A) (F := F) (c := (atm cd a b).1) (yes := fun G => (G, nx, cf)) (no := fun G => (G, tg, cf)) hF (fun _ => rfl) (fun _ => rfl)
    · exact ⟨_, h2, hG, rfl, Or.inr ⟨k1 h1, rfl⟩⟩
    · exact ⟨_, h2, hG, rfl, Or.inl ⟨k2 h1, rfl⟩⟩
  · rw [hq] at k1 k2
    obtain ⟨G, hG, ⟨h1, h2⟩ | ⟨h1, h2⟩⟩ := fork_ok (A := A) (F := F) (c := (atm cd a b).1) (yes := fun G => (G, tg, cf)) (no := fun G => (G, nx, cf)) hF (fun _ => rfl) (fun _ => rfl)
    · exact ⟨_, h2, hG, rfl, Or.inl ⟨k1 h1, rfl⟩⟩
    · exact ⟨_, h2, hG, rfl, Or.inr ⟨k2 h1, rfl⟩⟩
def sIcmp (cd : ClassFile.Cond) (tg nx : Nat) : Stp := fun F cf => match cf.2.1 with
  | b :: a :: S => bif (a.1 == 0) && (b.1 == 0) then some (br F (atm cd a.2 b.2) tg nx (cf.1, S, cf.2.2)) else none
  | _ => none
theorem g_icmp {pc tg : Nat} {cd : ClassFile.Cond} {o : Int} (hd : decode bytes pc = .ok (.if_icmp cd o, 3)) (h1 : 0 ≤ (pc : Int) + o) (h2 : ((pc : Int) + o).toNat = tg) : Good l Z hz sh A O y bytes maxL ret pc (sIcmp cd tg (pc + 3)) := by
  intro F cf ns h hF
  obtain ⟨L, S, D, sl⟩ := cf
  simp only [sIcmp] at h
  split at h
  · rename_i b a S'
    obtain ⟨kb, b⟩ := b
    obtain ⟨ka, a⟩ := a
    cases hk : ((ka == 0) && (kb == 0))
    · rw [hk] at h; cases h
    · rw [hk] at h; cases h
      simp only [Bool.and_eq_true, beq_iff_eq] at hk
      obtain ⟨rfl, rfl⟩ := hk
      obtain ⟨n, hn, hG, e1, ⟨e2, e3⟩ | ⟨e2, e3⟩⟩ := br_ok (cd := cd) (a := a) (b := b) (tg := tg) (nx := pc + 3) (cf := (L, S', D, sl)) hF
      · refine ⟨n, hn, hG, ?_⟩
        rw [e1, e3]
        refine sim_pure fun p e R s m args below meth c T locs cells slots hA X H target st => ?_
        exact XS.icmpYes X.here hA.1 rfl (pc0 := pc) (pc' := tg) rfl (hb hA.2.2.1 hd) rfl e2 h1 h2 st
      · refine ⟨n, hn, hG, ?_⟩
        rw [e1, e3]
        refine sim_pure fun p e R s m args below meth c T locs cells slots hA X H target st => ?_
        exact XS.icmpNo X.here hA.1 rfl (hb hA.2.2.1 hd) rfl e2 st
  · cases h
def sIf (cd : ClassFile.Cond) (tg nx : Nat) : Stp := fun F cf => match cf.2.1 with
  | a :: S => bif (a.1 == 0) then some (br F (atm cd a.2 (.int 0)) tg nx (cf.1, S, cf.2.2)) else none
  | _ => none
theorem g_if {pc tg : Nat} {cd : ClassFile.Cond} {o : Int} (hd : decode bytes pc = .ok (.ifCond cd o, 3)) (h1 : 0 ≤ (pc : Int) + o) (h2 : ((pc : Int) + o).toNat = tg) : Good l Z hz sh A O y bytes maxL ret pc (sIf cd tg (pc + 3)) := by
  intro F cf ns h hF
  obtain ⟨L, S, D, sl⟩ := cf
  simp only [sIf] at h
  split at h
  · rename_i a S'
    obtain ⟨ka, a⟩ := a
    cases hk : (ka == 0)
    · rw [hk] at h; cases h
    · rw [hk] at h; cases h
      obtain rfl := beq_iff_eq.mp hk
      obtain ⟨n, hn, hG, e1, ⟨e2, e3⟩ | ⟨e2, e3⟩⟩ := br_ok (cd := cd) (a := a) (b := .int 0) (tg := tg) (nx := pc + 3) (cf := (L, S', D, sl)) hF
      · refine ⟨n, hn, hG, ?_⟩
        rw [e1, e3]
        refine sim_pure fun p e R s m args below meth c T locs cells slots hA X H target st => ?_
        exact XS.ifYes X.here hA.1 rfl (pc0 := pc) (pc' := tg) rfl (hb hA.2.2.1 hd) rfl ((if0 _ _).trans e2) h1 h2 st
      · refine ⟨n, hn, hG, ?_⟩
        rw [e1, e3]
        refine sim_pure fun p e R s m args below meth c T locs cells slots hA X H target st => ?_
        exact XS.ifNo X.here hA.1 rfl (hb hA.2.2.1 hd) rfl ((if0 _ _).trans e2) st
  · cases h
/-- references whose being null is known -/
def isNull : Term → Bool
  | .index _ => false
  | .arg _ => false
  | _ => true
theorem rf_null {O : Nat → Addr} {n0 : Nat} {t : Term} (h : isNull t = true) : rf O n0 t = .null := by cases t <;> simp [isNull] at h <;> rfl
theorem rf_some {O : Nat → Addr} {n0 : Nat} {t : Term} (h : isNull t = false) : ∃ b, rf O n0 t = .ref b := by cases t <;> simp [isNull] at h <;> exact ⟨_, rfl⟩
def sIfNull (w : Bool) (tg nx : Nat) : Stp := fun F cf => match cf.2.1 with
  | a :: S => bif (a.1 == 2) then some [(F, bif isNull a.2 == w then tg else nx, (cf.1, S, cf.2.2))] else none
  | _ => none
theorem g_ifnull {pc tg : Nat} {o : Int} (hd : decode bytes pc = .ok (.ifnull o, 3)) (h1 : 0 ≤ (pc : Int) + o) (h2 : ((pc : Int) + o).toNat = tg) : Good l Z hz sh A O y bytes maxL ret pc (sIfNull true tg (pc + 3)) := by
  intro F cf ns h hF
  obtain ⟨L, S, D, sl⟩ := cf
  simp only [sIfNull] at h
  split at h
  · rename_i a S'
    obtain ⟨ka, a⟩ := a
    cases hk : (ka == 2)
    · rw [hk] at h; cases h
    · rw [hk] at h; cases h
      obtain rfl := beq_iff_eq.mp hk
      refine ⟨_, List.mem_cons_self .., hF, ?_⟩
      cases q : isNull a
      · obtain ⟨b, hb'⟩ := rf_some (O := O) (n0 := hz.size) q
        refine sim_pure fun p e R s m args below meth c T locs cells slots hA X H target st => ?_
        have hs : (frm hz A O m pc (L, (2, a) :: S', D, sl)).stack = .ref b :: S'.map (vv A O hz.size) := by show rf O hz.size a :: _ = _; rw [hb']
        exact XS.ifnullNo X.here hA.1 rfl (hb hA.2.2.1 hd) hs st
      · have hb' := rf_null (O := O) (n0 := hz.size) q
        refine sim_pure fun p e R s m args below meth c T locs cells slots hA X H target st => ?_
        have hs : (frm hz A O m pc (L, (2, a) :: S', D, sl)).stack = .null :: S'.map (vv A O hz.size) := by show rf O hz.size a :: _ = _; rw [hb']
        exact XS.ifnullYes X.here hA.1 rfl (pc0 := pc) (pc' := tg) rfl (hb hA.2.2.1 hd) hs h1 h2 st
  · cases h
theorem g_ifnonnull {pc tg : Nat} {o : Int} (hd : decode bytes pc = .ok (.ifnonnull o, 3)) (h1 : 0 ≤ (pc : Int) + o) (h2 : ((pc : Int) + o).toNat = tg) : Good l Z hz sh A O y bytes maxL ret pc (sIfNull false tg (pc + 3)) := by
  intro F cf ns h hF
  obtain ⟨L, S, D, sl⟩ := cf
  simp only [sIfNull] at h
  split at h
  · rename_i a S'
    obtain ⟨ka, a⟩ := a
    cases hk : (ka == 2)
    · rw [hk] at h; cases h
    · rw [hk] at h; cases h
      obtain rfl := beq_iff_eq.mp hk
      refine ⟨_, List.mem_cons_self .., hF, ?_⟩
      cases q : isNull a
      · obtain ⟨b, hb'⟩ := rf_some (O := O) (n0 := hz.size) q
        refine sim_pure fun p e R s m args below meth c T locs cells slots hA X H target st => ?_
        have hs : (frm hz A O m pc (L, (2, a) :: S', D, sl)).stack = .ref b :: S'.map (vv A O hz.size) := by show rf O hz.size a :: _ = _; rw [hb']
        exact XS.ifnonnullYes X.here hA.1 rfl (pc0 := pc) (pc' := tg) rfl (hb hA.2.2.1 hd) hs h1 h2 st
      · have hb' := rf_null (O := O) (n0 := hz.size) q
        refine sim_pure fun p e R s m args below meth c T locs cells slots hA X H target st => ?_
        have hs : (frm hz A O m pc (L, (2, a) :: S', D, sl)).stack = .null :: S'.map (vv A O hz.size) := by show rf O hz.size a :: _ = _; rw [hb']
        exact XS.ifnonnullNo X.here hA.1 rfl (hb hA.2.2.1 hd) hs st
  · cases h
/-! enumeration of an int whose bounds are near each other -/
def enum (F : List Cond) (pc : Nat) (t : Term) (L : List SL) (S : List SV) (r : List Ob × Nat) (lo : Int) (n : Nat) : List Nx :=
  ((List.range n).map fun (i : Nat) => (Cond.eq t (.int (Int32.ofInt (lo + Int.ofNat i))) :: F, pc, (L, (0, .int (Int32.ofInt (lo + Int.ofNat i))) :: S, r))).filter fun n => (match n.1 with
    | c :: _ => (match lk c F with
      | some false => false
      | _ => true)
    | [] => true)
def sSplit (pc : Nat) (f : Stp) : Stp := fun F cf => match cf.2.1 with
  | (0, t) :: S => bif isLit t then f F cf else
      bif decide ((rg F t).2 - (rg F t).1 < 300) then some (enum F pc t cf.1 S cf.2.2 (rg F t).1 ((rg F t).2 - (rg F t).1 + 1).toNat) else none
  | _ => none
theorem g_split {pc : Nat} {f : Stp} (g : Good l Z hz sh A O y bytes maxL ret pc f) : Good l Z hz sh A O y bytes maxL ret pc (sSplit pc f) := by
  intro F cf ns h hF
  obtain ⟨L, S, D, sl⟩ := cf
  simp only [sSplit] at h
  split at h
  · rename_i t S'
    cases hl : isLit t
    · rw [hl] at h
      cases hq : decide ((rg F t).2 - (rg F t).1 < 300)
      · rw [hq] at h; cases h
      · rw [hq] at h; cases h
        obtain ⟨h1, h2⟩ := rg_ok hF t
        have e : (rg F t).1 + Int.ofNat ((te A t).1.toInt - (rg F t).1).toNat = (te A t).1.toInt := by
          show (rg F t).1 + (((te A t).1.toInt - (rg F t).1).toNat : Int) = _; omega
        refine ⟨(Cond.eq t (.int (Int32.ofInt ((rg F t).1 + Int.ofNat ((te A t).1.toInt - (rg F t).1).toNat))) :: F, pc, (L, (0, .int (Int32.ofInt ((rg F t).1 + Int.ofNat ((te A t).1.toInt - (rg F t).1).toNat))) :: S', (D, sl))), ?_, ?_, ?_⟩
        · refine List.mem_filter.mpr ⟨List.mem_map.mpr ⟨((te A t).1.toInt - (rg F t).1).toNat, List.mem_range.mpr (by omega), rfl⟩, ?_⟩
          simp only
          split
          · rename_i q
            have hh : hold A (Cond.eq t (.int (Int32.ofInt ((rg F t).1 + Int.ofNat ((te A t).1.toInt - (rg F t).1).toNat)))) := by show (te A t).1 = Int32.ofInt _; rw [e, Int32.ofInt_toInt]
            exact absurd ((lk_ok hF q).mp hh) (by simp)
          · rfl
        · refine holds_cons ?_ hF
          show (te A t).1 = Int32.ofInt _
          rw [e, Int32.ofInt_toInt]
        · refine sim_pure fun p e' R s m args below meth c T locs cells slots hA X H target st => ?_
          have q : frm hz A O m pc (L, (0, .int (Int32.ofInt ((rg F t).1 + Int.ofNat ((te A t).1.toInt - (rg F t).1).toNat))) :: S', D, sl) = frm hz A O m pc (L, (0, t) :: S', D, sl) := by
            rw [e, Int32.ofInt_toInt]; rfl
          rw [q] at st; exact st
    · rw [hl] at h; exact g F _ ns h hF
  · cases h
/-! ### 5. Arrays and objects -/
def dflt : FieldType → SV
  | .long => (1, .long 0)
  | .double => (3, .long 0)
  | .object _ => (2, .null)
  | .array _ => (2, .null)
  | _ => (0, .int 0)
theorem dflt_ok {ty : FieldType} (h : ty ≠ .float) : vv A O hz.size (dflt ty) = defaultValue ty := by
  cases ty <;> first | rfl | exact absurd rfl h
theorem list_rep (n : Nat) (x : SV) : ((List.replicate n x).map (vv A O hz.size)).toArray = Array.replicate n (vv A O hz.size x) := by simp
/-- the state has grown by just one cell -/
theorem grown {p : Program} {e : Env} {R : Room} {s : State} {m : MethodId} {args : Array Value} {below : List Frame} {meth : Method} {c : Code} {T T' : State} {locs : List Loc} {d0 slots : Nat} {D : List Ob}
    (X : Stand p l e R s m args below meth c T' locs (D.length - d0 + 1) slots) (hd : d0 ≤ D.length) (hh : s.heap.size = hz.size + d0) (H : HD Z hz sh A O T.heap D) (hlt : T.heap.size < T'.heap.size) : T'.heap.size = T.heap.size + 1 := by
  have h1 := X.heapSize
  have h2 := H.1
  omega
def sNewA (sid : Nat) (ty : FieldType) (nx : Nat) : Stp := fun F cf => match cf.2.1 with
  | (0, t) :: S => (match cv F t with
    | some v => bif decide (0 ≤ v) && Nat.ble v.toNatClampNeg 67108864 then some [(F, nx, (cf.1, (2, .index cf.2.2.1.length) :: S, cf.2.2.1 ++ [(sid, List.replicate v.toNatClampNeg (dflt ty))], cf.2.2.2 + v.toNatClampNeg))] else none
    | none => none)
  | _ => none
theorem g_newarray {pc sid : Nat} {aty : ArrayType} {r : String × Nat × List Fi} {a0 : Array Value} (hd : decode bytes pc = .ok (.newarray aty, 2)) (hs : sh[sid]? = some (some (newarray.typeOf aty), r)) (hf : aty ≠ .float) (w : (Cond.arrayClass (newarray.typeOf aty)).before a0 Z = true) :
    Good l Z hz sh A O y bytes maxL ret pc (sNewA sid (newarray.typeOf aty) (pc + 2)) := by
  intro F cf ns h hF
  obtain ⟨L, S, D, sl⟩ := cf
  simp only [sNewA] at h
  split at h
  · rename_i t S'
    split at h
    · rename_i v q
      cases hv : (decide (0 ≤ v) && Nat.ble v.toNatClampNeg 67108864)
      · rw [hv] at h; cases h
      · rw [hv] at h; cases h
        simp only [Bool.and_eq_true, decide_eq_true_eq] at hv
        obtain ⟨v1, v2⟩ := hv
        have v2 := Nat.le_of_ble_eq_true v2
        have hv0 : ¬ v < 0 := Int32.not_lt.mpr v1
        have ev := cv_ok hF q
        refine ⟨_, List.mem_cons_self .., hF, by simp, by simp, ?_⟩
        intro d0 s0 p e R s m args below meth c T locs hd0 hs0 hh hA X H N hc hl hfr hlo
        simp only [List.length_append, List.length_cons, List.length_nil] at hc hl hd0 hs0 X H ⊢
        have hgs : (frm hz A O m pc (L, (0, t) :: S', D, sl)).stack = .int v :: S'.map (vv A O hz.size) := by show Value.int (te A t).1 :: _ = _; rw [ev]
        obtain ⟨T', h', cA, X', e1, E, Ar, st⟩ := newP X hA.1 hA.2.1 w rfl (g := frm hz A O m pc (L, (0, t) :: S', D, sl)) rfl (hb hA.2.2.1 hd) hgs hv0 (cap := v.toNatClampNeg) (Nat.le_refl _) (by omega) (by omega) (by omega)
        have hsz : T'.heap.size = T.heap.size + 1 := grown X' hd0 hh H (by rw [e1]; exact Ar.lt)
        have c1 : D.length + (0 + 1) - d0 = D.length - d0 + 1 := by omega
        have c2 : sl + v.toNatClampNeg - s0 = sl - s0 + v.toNatClampNeg := by omega
        refine ⟨T', locs, by rw [c1, c2]; exact X', ?_, N, ?_⟩
        · subst e1
          refine H.push E hsz ?_
          rw [ObAt.arr (o := (sid, _)) hs]
          refine ⟨_, Ar, ?_, ?_, fun C q => ?_⟩
          · show Array.replicate _ _ = _
            rw [list_rep, dflt_ok]
            intro q; cases aty <;> first | exact hf rfl | cases q
          · rw [List.length_replicate]; omega
          · cases aty <;> cases q
        · intro target k
          refine st target ?_
          have hi : vv A O hz.size (2, .index D.length) = .ref T.heap.size := by show Value.ref (hz.size + D.length) = _; rw [H.1]
          have k' : Steps p.tables e below (T'.setTop (mkF m (pc + 2) (L.map (sl1 A O hz.size)).toArray (vv A O hz.size (2, .index D.length) :: S'.map (vv A O hz.size)))) target := k
          rw [hi] at k'; exact k'
    · cases h
  · cases h
def sLen (nx : Nat) : Stp := fun F cf => match cf.2.1 with
  | (2, .index k) :: S => (match cf.2.2.1[k]? with
    | some o => some [(F, nx, (cf.1, (0, .int o.2.length.toInt32) :: S, cf.2.2))]
    | none => none)
  | _ => none
def sLenA (sid nx : Nat) : Stp := fun F cf => match cf.2.1 with
  | (2, .index k) :: S => (match cf.2.2.1[k]? with
    | some o => bif o.1 == sid then some [(F, nx, (cf.1, (0, .int o.2.length.toInt32) :: S, cf.2.2))] else none
    | none => none)
  | _ => none
theorem g_len {pc sid : Nat} {ty : FieldType} {r : String × Nat × List Fi} (hd : decode bytes pc = .ok (.arraylength, 1)) (hs : sh[sid]? = some (some ty, r)) : Good l Z hz sh A O y bytes maxL ret pc (sLenA sid (pc + 1)) :=
  good_one fun F L S D sl ns h => by
    simp only [sLenA] at h
    split at h
    · rename_i k S'
      split at h
      · rename_i o q
        cases hk : (o.1 == sid)
        · rw [hk] at h; cases h
        · rw [hk] at h; cases h
          obtain rfl := beq_iff_eq.mp hk
          refine ⟨_, _, rfl, fun hF p e R s m args below meth c T locs cells slots hA X H target st => ?_⟩
          have ho := H.2.2 k o q
          rw [ObAt.arr hs] at ho
          obtain ⟨cl, Ar, a1, a2, a3⟩ := ho
          refine X.arraylength hA.1 Ar.1 (State.isArrayOf_alike hA.2.1.alike Ar.2.1) (g := frm hz A O m pc (L, (2, .index k) :: S', D, sl)) rfl rfl (hb hA.2.2.1 hd) _ ?_
          have : cl.slots.size = o.2.length := by rw [a1]; simp
          rw [this]; exact st
      · cases h
    · cases h
def sAld (sid nx : Nat) : Stp := fun F cf => match cf.2.1 with
  | (0, j) :: (2, .index k) :: S => (match cv F j with
    | some v => (match cf.2.2.1[k]? with
      | some o => bif (o.1 == sid) && decide (0 ≤ v) then (match o.2[v.toNatClampNeg]? with
        | some x => some [(F, nx, (cf.1, x :: S, cf.2.2))]
        | none => none) else none
      | none => none)
    | none => none)
  | _ => none
theorem sAld_inv {sid nx : Nat} {F : List Cond} {L : List SL} {S : List SV} {D : List Ob} {sl : Nat} {ns : List Nx} (h : sAld sid nx F (L, S, D, sl) = some ns) : ∃ j k S' v xs x, S = (0, j) :: (2, .index k) :: S' ∧ cv F j = some v ∧ D[k]? = some (sid, xs) ∧ ¬ v < 0 ∧ xs[v.toNatClampNeg]? = some x ∧ ns = [(F, nx, (L, x :: S', D, sl))] := by
  simp only [sAld] at h
  split at h
  · rename_i j k S'
    split at h
    · rename_i v q
      split at h
      · rename_i o q2
        obtain ⟨o1, xs⟩ := o
        cases hk : ((o1 == sid) && decide (0 ≤ v))
        · rw [hk] at h; cases h
        · rw [hk] at h
          simp only [Bool.and_eq_true, decide_eq_true_eq, beq_iff_eq] at hk
          obtain ⟨rfl, v1⟩ := hk
          simp only [cond_true] at h
          split at h
          · rename_i x q3; cases h
            exact ⟨j, k, S', v, xs, x, rfl, q, q2, Int32.not_lt.mpr v1, q3, rfl⟩
          · cases h
      · cases h
    · cases h
  · cases h
theorem g_iaload {pc sid : Nat} {r : String × Nat × List Fi} (hd : decode bytes pc = .ok (.iaload, 1)) (hs : sh[sid]? = some (some .int, r)) : Good l Z hz sh A O y bytes maxL ret pc (sAld sid (pc + 1)) :=
  good_one fun F L S D sl ns h => by
    obtain ⟨j, k, S', v, xs, x, rfl, q1, q2, q3, q4, rfl⟩ := sAld_inv h
    refine ⟨_, _, rfl, fun hF p e R s m args below meth c T locs cells slots hA X H target st => ?_⟩
    have ho := H.2.2 k _ q2
    rw [ObAt.arr (o := (sid, xs)) hs] at ho
    obtain ⟨cl, Ar, a1, a2, a3⟩ := ho
    have hlt := (List.getElem?_eq_some_iff.mp q4).1
    have hsz : cl.slots.size = xs.length := by rw [a1]; simp
    have hgs : (frm hz A O m pc (L, (0, j) :: (2, .index k) :: S', D, sl)).stack = .int v :: .ref (hz.size + k) :: S'.map (vv A O hz.size) := by show Value.int (te A j).1 :: _ = _; rw [cv_ok hF q1]; rfl
    exact X.iaload hA.1 Ar.1 (State.isArrayOf_alike hA.2.1.alike Ar.2.1) Ar.2.2 (j := v) (v := vv A O hz.size x) (fun q => q.elim q3 (fun q => by omega)) (by rw [a1]; simp [q4]) (g := frm hz A O m pc (L, (0, j) :: (2, .index k) :: S', D, sl)) rfl hgs (hb hA.2.2.1 hd) _ st
theorem g_laload {pc sid : Nat} {r : String × Nat × List Fi} (hd : decode bytes pc = .ok (.laload, 1)) (hs : sh[sid]? = some (some .long, r)) : Good l Z hz sh A O y bytes maxL ret pc (sAld sid (pc + 1)) :=
  good_one fun F L S D sl ns h => by
    obtain ⟨j, k, S', v, xs, x, rfl, q1, q2, q3, q4, rfl⟩ := sAld_inv h
    refine ⟨_, _, rfl, fun hF p e R s m args below meth c T locs cells slots hA X H target st => ?_⟩
    have ho := H.2.2 k _ q2
    rw [ObAt.arr (o := (sid, xs)) hs] at ho
    obtain ⟨cl, Ar, a1, a2, a3⟩ := ho
    have hlt := (List.getElem?_eq_some_iff.mp q4).1
    have hsz : cl.slots.size = xs.length := by rw [a1]; simp
    have hgs : (frm hz A O m pc (L, (0, j) :: (2, .index k) :: S', D, sl)).stack = .int v :: .ref (hz.size + k) :: S'.map (vv A O hz.size) := by show Value.int (te A j).1 :: _ = _; rw [cv_ok hF q1]; rfl
    exact X.laload hA.1 Ar.1 (State.isArrayOf_alike hA.2.1.alike Ar.2.1) Ar.2.2 (j := v) (v := vv A O hz.size x) (fun q => q.elim q3 (fun q => by omega)) (by rw [a1]; simp [q4]) (g := frm hz A O m pc (L, (0, j) :: (2, .index k) :: S', D, sl)) rfl hgs (hb hA.2.2.1 hd) _ st
theorem g_caload {pc sid : Nat} {r : String × Nat × List Fi} (hd : decode bytes pc = .ok (.caload, 1)) (hs : sh[sid]? = some (some .char, r)) : Good l Z hz sh A O y bytes maxL ret pc (sAld sid (pc + 1)) :=
  good_one fun F L S D sl ns h => by
    obtain ⟨j, k, S', v, xs, x, rfl, q1, q2, q3, q4, rfl⟩ := sAld_inv h
    refine ⟨_, _, rfl, fun hF p e R s m args below meth c T locs cells slots hA X H target st => ?_⟩
    have ho := H.2.2 k _ q2
    rw [ObAt.arr (o := (sid, xs)) hs] at ho
    obtain ⟨cl, Ar, a1, a2, a3⟩ := ho
    have hlt := (List.getElem?_eq_some_iff.mp q4).1
    have hsz : cl.slots.size = xs.length := by rw [a1]; simp
    have hgs : (frm hz A O m pc (L, (0, j) :: (2, .index k) :: S', D, sl)).stack = .int v :: .ref (hz.size + k) :: S'.map (vv A O hz.size) := by show Value.int (te A j).1 :: _ = _; rw [cv_ok hF q1]; rfl
    exact X.caload hA.1 Ar.1 (State.isArrayOf_alike hA.2.1.alike Ar.2.1) Ar.2.2 (j := v) (v := vv A O hz.size x) (fun q => q.elim q3 (fun q => by omega)) (by rw [a1]; simp [q4]) (g := frm hz A O m pc (L, (0, j) :: (2, .index k) :: S', D, sl)) rfl hgs (hb hA.2.2.1 hd) _ st
theorem g_baloadB {pc sid : Nat} {r : String × Nat × List Fi} (hd : decode bytes pc = .ok (.baload, 1)) (hs : sh[sid]? = some (some .byte, r)) : Good l Z hz sh A O y bytes maxL ret pc (sAld sid (pc + 1)) :=
  good_one fun F L S D sl ns h => by
    obtain ⟨j, k, S', v, xs, x, rfl, q1, q2, q3, q4, rfl⟩ := sAld_inv h
    refine ⟨_, _, rfl, fun hF p e R s m args below meth c T locs cells slots hA X H target st => ?_⟩
    have ho := H.2.2 k _ q2
    rw [ObAt.arr (o := (sid, xs)) hs] at ho
    obtain ⟨cl, Ar, a1, a2, a3⟩ := ho
    have hlt := (List.getElem?_eq_some_iff.mp q4).1
    have hsz : cl.slots.size = xs.length := by rw [a1]; simp
    have hgs : (frm hz A O m pc (L, (0, j) :: (2, .index k) :: S', D, sl)).stack = .int v :: .ref (hz.size + k) :: S'.map (vv A O hz.size) := by show Value.int (te A j).1 :: _ = _; rw [cv_ok hF q1]; rfl
    exact X.baloadBytes hA.1 Ar.1 (State.isArrayOf_alike hA.2.1.alike Ar.2.1) Ar.2.2 (j := v) (v := vv A O hz.size x) (fun q => q.elim q3 (fun q => by omega)) (by rw [a1]; simp [q4]) (g := frm hz A O m pc (L, (0, j) :: (2, .index k) :: S', D, sl)) rfl hgs (hb hA.2.2.1 hd) _ st
theorem g_baloadZ {pc sid : Nat} {r : String × Nat × List Fi} (hd : decode bytes pc = .ok (.baload, 1)) (hs : sh[sid]? = some (some .boolean, r)) : Good l Z hz sh A O y bytes maxL ret pc (sAld sid (pc + 1)) :=
  good_one fun F L S D sl ns h => by
    obtain ⟨j, k, S', v, xs, x, rfl, q1, q2, q3, q4, rfl⟩ := sAld_inv h
    refine ⟨_, _, rfl, fun hF p e R s m args below meth c T locs cells slots hA X H target st => ?_⟩
    have ho := H.2.2 k _ q2
    rw [ObAt.arr (o := (sid, xs)) hs] at ho
    obtain ⟨cl, Ar, a1, a2, a3⟩ := ho
    have hlt := (List.getElem?_eq_some_iff.mp q4).1
    have hsz : cl.slots.size = xs.length := by rw [a1]; simp
    have hgs : (frm hz A O m pc (L, (0, j) :: (2, .index k) :: S', D, sl)).stack = .int v :: .ref (hz.size + k) :: S'.map (vv A O hz.size) := by show Value.int (te A j).1 :: _ = _; rw [cv_ok hF q1]; rfl
    exact X.baloadBooleans hA.1 Ar.1 (State.isArrayOf_alike hA.2.1.alike Ar.2.1) Ar.2.2 (j := v) (v := vv A O hz.size x) (fun q => q.elim q3 (fun q => by omega)) (by rw [a1]; simp [q4]) (g := frm hz A O m pc (L, (0, j) :: (2, .index k) :: S', D, sl)) rfl hgs (hb hA.2.2.1 hd) _ st
def nrT (ty : FieldType) (t : Term) : Term := match ty with
  | .boolean => smI (.op2 .iand t (.int 1))
  | .byte => smI (.op1 .i2b t)
  | .char => smI (.op1 .i2c t)
  | .short => smI (.op1 .i2s t)
  | _ => t
def kdOf : FieldType → Nat
  | .long => 1
  | .double => 3
  | .object _ => 2
  | .array _ => 2
  | _ => 0
theorem nrT_ok {ty : FieldType} (hf : ty ≠ .float) (t : Term) : narrow ty (vv A O hz.size (kdOf ty, t)) = vv A O hz.size (kdOf ty, nrT ty t) ∧ fits ty (vv A O hz.size (kdOf ty, nrT ty t)) = true := by
  have rr : ∀ (t : Term), (∀ n, fits (.object n) (rf O hz.size t) = true) ∧ (∀ u, fits (.array u) (rf O hz.size t) = true) := fun t => by
    rcases ref_cases (rf_isRef O hz.size t) with q | ⟨a, q⟩ <;> rw [q] <;> exact ⟨fun _ => rfl, fun _ => rfl⟩
  cases ty with
  | float => exact absurd rfl hf
  | boolean =>
    have e : vv A O hz.size (kdOf .boolean, nrT .boolean t) = .int (nar .boolean (te A t).1) := by show Value.int (te A (smI _)).1 = _; rw [te_smI]; rfl
    rw [e]; exact ⟨rfl, fits_nar_bool _⟩
  | byte =>
    have e : vv A O hz.size (kdOf .byte, nrT .byte t) = .int (nar .byte (te A t).1) := by show Value.int (te A (smI _)).1 = _; rw [te_smI]; rfl
    rw [e]; exact ⟨rfl, fits_nar_byte _⟩
  | char =>
    have e : vv A O hz.size (kdOf .char, nrT .char t) = .int (nar .char (te A t).1) := by show Value.int (te A (smI _)).1 = _; rw [te_smI]; rfl
    rw [e]; exact ⟨rfl, fits_nar_char _⟩
  | short =>
    have e : vv A O hz.size (kdOf .short, nrT .short t) = .int (nar .short (te A t).1) := by show Value.int (te A (smI _)).1 = _; rw [te_smI]; rfl
    rw [e]; exact ⟨rfl, fits_nar_short _⟩
  | int => exact ⟨rfl, rfl⟩
  | long => exact ⟨rfl, rfl⟩
  | double => exact ⟨rfl, rfl⟩
  | object n => exact ⟨by show narrow _ (rf O hz.size t) = rf O hz.size t; rcases ref_cases (rf_isRef O hz.size t) with q | ⟨a, q⟩ <;> rw [q] <;> rfl, (rr t).1 n⟩
  | array u => exact ⟨by show narrow _ (rf O hz.size t) = rf O hz.size t; rcases ref_cases (rf_isRef O hz.size t) with q | ⟨a, q⟩ <;> rw [q] <;> rfl, (rr t).2 u⟩
def sAst (sid : Nat) (ty : FieldType) (nx : Nat) : Stp := fun F cf => match cf.2.1 with
  | x :: (0, j) :: (2, .index k) :: S => (match cv F j with
    | some v => (match cf.2.2.1[k]? with
      | some o => bif (x.1 == kdOf ty) && ((o.1 == sid) && (decide (0 ≤ v) && Nat.blt v.toNatClampNeg o.2.length)) then
          some [(F, nx, (cf.1, S, cf.2.2.1.set k (sid, o.2.set v.toNatClampNeg (kdOf ty, nrT ty x.2)), cf.2.2.2))] else none
      | none => none)
    | none => none)
  | _ => none
theorem sAst_inv {sid nx : Nat} {ty : FieldType} {F : List Cond} {L : List SL} {S : List SV} {D : List Ob} {sl : Nat} {ns : List Nx} (h : sAst sid ty nx F (L, S, D, sl) = some ns) : ∃ t j k S' v xs, S = (kdOf ty, t) :: (0, j) :: (2, .index k) :: S' ∧ cv F j = some v ∧ D[k]? = some (sid, xs) ∧ ¬ v < 0 ∧ v.toNatClampNeg < xs.length ∧ ns = [(F, nx, (L, S', D.set k (sid, xs.set v.toNatClampNeg (kdOf ty, nrT ty t)), sl))] := by
  simp only [sAst] at h
  split at h
  · rename_i x j k S'
    obtain ⟨kx, t⟩ := x
    split at h
    · rename_i v q
      split at h
      · rename_i o q2
        obtain ⟨o1, xs⟩ := o
        cases hk : ((kx == kdOf ty) && ((o1 == sid) && (decide (0 ≤ v) && Nat.blt v.toNatClampNeg xs.length)))
        · rw [hk] at h; cases h
        · rw [hk] at h
          simp only [Bool.and_eq_true, decide_eq_true_eq, beq_iff_eq, Nat.blt_eq] at hk
          obtain ⟨rfl, rfl, v1, v2⟩ := hk
          cases h
          exact ⟨t, j, k, S', v, xs, rfl, q, q2, Int32.not_lt.mpr v1, v2, rfl⟩
      · cases h
    · cases h
  · cases h
theorem g_iastore {pc sid : Nat} {r : String × Nat × List Fi} (hd : decode bytes pc = .ok (.iastore, 1)) (hs : sh[sid]? = some (some .int, r)) : Good l Z hz sh A O y bytes maxL ret pc (sAst sid .int (pc + 1)) := by
  intro F cf ns h hF
  obtain ⟨L, S, D, sl⟩ := cf
  obtain ⟨t, j, k, S', v, xs, rfl, q1, q2, q3, q4, rfl⟩ := sAst_inv h
  refine ⟨_, List.mem_cons_self .., hF, by simp, by simp, ?_⟩
  intro d0 s0 p e R s m args below meth c T locs hd0 hs0 hh hA X H N hc hl hfr hlo
  simp only [List.length_set] at hc hl hd0 hs0 X H ⊢
  have ho := H.2.2 k _ q2
  rw [ObAt.arr (o := (sid, xs)) hs] at ho
  have ho' := ho
  obtain ⟨cl, Ar, a1, a2, a3⟩ := ho
  have hsz : cl.slots.size = xs.length := by rw [a1]; simp
  have hgs : (frm hz A O m pc (L, (kdOf .int, t) :: (0, j) :: (2, .index k) :: S', D, sl)).stack = .int (te A t).1 :: .int v :: .ref (hz.size + k) :: S'.map (vv A O hz.size) := by show _ :: Value.int (te A j).1 :: _ = _; rw [cv_ok hF q1]; rfl
  obtain ⟨T', h', X', e1, W, st⟩ := stI X hA.1 hA.2.1 rfl Ar (j := v) (fun q => q.elim q3 (fun q => by omega)) (g := frm hz A O m pc (L, (kdOf .int, t) :: (0, j) :: (2, .index k) :: S', D, sl)) rfl hgs (hb hA.2.2.1 hd)
  have hval := (nrT_ok (A := A) (O := O) (hz := hz) (ty := .int) (by decide) t).1
  subst e1
  have W' : Wr T.heap T'.heap (hz.size + k) v.toNatClampNeg (vv A O hz.size (kdOf .int, nrT .int t)) := by rw [← hval]; exact W
  refine ⟨T', _, X', ?_, Fr.snoc X' N (Nat.le_add_right _ _), st⟩
  refine H.set q2 W' ?_
  rw [ObAt.arr (o := (sid, _)) hs]
  exact ho'.set W'
theorem g_lastore {pc sid : Nat} {r : String × Nat × List Fi} (hd : decode bytes pc = .ok (.lastore, 1)) (hs : sh[sid]? = some (some .long, r)) : Good l Z hz sh A O y bytes maxL ret pc (sAst sid .long (pc + 1)) := by
  intro F cf ns h hF
  obtain ⟨L, S, D, sl⟩ := cf
  obtain ⟨t, j, k, S', v, xs, rfl, q1, q2, q3, q4, rfl⟩ := sAst_inv h
  refine ⟨_, List.mem_cons_self .., hF, by simp, by simp, ?_⟩
  intro d0 s0 p e R s m args below meth c T locs hd0 hs0 hh hA X H N hc hl hfr hlo
  simp only [List.length_set] at hc hl hd0 hs0 X H ⊢
  have ho := H.2.2 k _ q2
  rw [ObAt.arr (o := (sid, xs)) hs] at ho
  have ho' := ho
  obtain ⟨cl, Ar, a1, a2, a3⟩ := ho
  have hsz : cl.slots.size = xs.length := by rw [a1]; simp
  have hgs : (frm hz A O m pc (L, (kdOf .long, t) :: (0, j) :: (2, .index k) :: S', D, sl)).stack = .long (te A t).2 :: .int v :: .ref (hz.size + k) :: S'.map (vv A O hz.size) := by show _ :: Value.int (te A j).1 :: _ = _; rw [cv_ok hF q1]; rfl
  obtain ⟨T', h', X', e1, W, st⟩ := stJ X hA.1 hA.2.1 rfl Ar (j := v) (fun q => q.elim q3 (fun q => by omega)) (g := frm hz A O m pc (L, (kdOf .long, t) :: (0, j) :: (2, .index k) :: S', D, sl)) rfl hgs (hb hA.2.2.1 hd)
  have hval := (nrT_ok (A := A) (O := O) (hz := hz) (ty := .long) (by decide) t).1
  subst e1
  have W' : Wr T.heap T'.heap (hz.size + k) v.toNatClampNeg (vv A O hz.size (kdOf .long, nrT .long t)) := by rw [← hval]; exact W
  refine ⟨T', _, X', ?_, Fr.snoc X' N (Nat.le_add_right _ _), st⟩
  refine H.set q2 W' ?_
  rw [ObAt.arr (o := (sid, _)) hs]
  exact ho'.set W'
theorem g_castore {pc sid : Nat} {r : String × Nat × List Fi} (hd : decode bytes pc = .ok (.castore, 1)) (hs : sh[sid]? = some (some .char, r)) : Good l Z hz sh A O y bytes maxL ret pc (sAst sid .char (pc + 1)) := by
  intro F cf ns h hF
  obtain ⟨L, S, D, sl⟩ := cf
  obtain ⟨t, j, k, S', v, xs, rfl, q1, q2, q3, q4, rfl⟩ := sAst_inv h
  refine ⟨_, List.mem_cons_self .., hF, by simp, by simp, ?_⟩
  intro d0 s0 p e R s m args below meth c T locs hd0 hs0 hh hA X H N hc hl hfr hlo
  simp only [List.length_set] at hc hl hd0 hs0 X H ⊢
  have ho := H.2.2 k _ q2
  rw [ObAt.arr (o := (sid, xs)) hs] at ho
  have ho' := ho
  obtain ⟨cl, Ar, a1, a2, a3⟩ := ho
  have hsz : cl.slots.size = xs.length := by rw [a1]; simp
  have hgs : (frm hz A O m pc (L, (kdOf .char, t) :: (0, j) :: (2, .index k) :: S', D, sl)).stack = .int (te A t).1 :: .int v :: .ref (hz.size + k) :: S'.map (vv A O hz.size) := by show _ :: Value.int (te A j).1 :: _ = _; rw [cv_ok hF q1]; rfl
  obtain ⟨T', h', X', e1, W, st⟩ := stC X hA.1 hA.2.1 rfl Ar (j := v) (fun q => q.elim q3 (fun q => by omega)) (g := frm hz A O m pc (L, (kdOf .char, t) :: (0, j) :: (2, .index k) :: S', D, sl)) rfl hgs (hb hA.2.2.1 hd)
  have hval := (nrT_ok (A := A) (O := O) (hz := hz) (ty := .char) (by decide) t).1
  subst e1
  have W' : Wr T.heap T'.heap (hz.size + k) v.toNatClampNeg (vv A O hz.size (kdOf .char, nrT .char t)) := by rw [← hval]; exact W
  refine ⟨T', _, X', ?_, Fr.snoc X' N (Nat.le_add_right _ _), st⟩
  refine H.set q2 W' ?_
  rw [ObAt.arr (o := (sid, _)) hs]
  exact ho'.set W'
theorem g_bastoreB {pc sid : Nat} {r : String × Nat × List Fi} (hd : decode bytes pc = .ok (.bastore, 1)) (hs : sh[sid]? = some (some .byte, r)) : Good l Z hz sh A O y bytes maxL ret pc (sAst sid .byte (pc + 1)) := by
  intro F cf ns h hF
  obtain ⟨L, S, D, sl⟩ := cf
  obtain ⟨t, j, k, S', v, xs, rfl, q1, q2, q3, q4, rfl⟩ := sAst_inv h
  refine ⟨_, List.mem_cons_self .., hF, by simp, by simp, ?_⟩
  intro d0 s0 p e R s m args below meth c T locs hd0 hs0 hh hA X H N hc hl hfr hlo
  simp only [List.length_set] at hc hl hd0 hs0 X H ⊢
  have ho := H.2.2 k _ q2
  rw [ObAt.arr (o := (sid, xs)) hs] at ho
  have ho' := ho
  obtain ⟨cl, Ar, a1, a2, a3⟩ := ho
  have hsz : cl.slots.size = xs.length := by rw [a1]; simp
  have hgs : (frm hz A O m pc (L, (kdOf .byte, t) :: (0, j) :: (2, .index k) :: S', D, sl)).stack = .int (te A t).1 :: .int v :: .ref (hz.size + k) :: S'.map (vv A O hz.size) := by show _ :: Value.int (te A j).1 :: _ = _; rw [cv_ok hF q1]; rfl
  obtain ⟨T', h', X', e1, W, st⟩ := stB X hA.1 hA.2.1 rfl Ar (j := v) (fun q => q.elim q3 (fun q => by omega)) (g := frm hz A O m pc (L, (kdOf .byte, t) :: (0, j) :: (2, .index k) :: S', D, sl)) rfl hgs (hb hA.2.2.1 hd)
  have hval := (nrT_ok (A := A) (O := O) (hz := hz) (ty := .byte) (by decide) t).1
  subst e1
  have W' : Wr T.heap T'.heap (hz.size + k) v.toNatClampNeg (vv A O hz.size (kdOf .byte, nrT .byte t)) := by rw [← hval]; exact W
  refine ⟨T', _, X', ?_, Fr.snoc X' N (Nat.le_add_right _ _), st⟩
  refine H.set q2 W' ?_
  rw [ObAt.arr (o := (sid, _)) hs]
  exact ho'.set W'
theorem g_bastoreZ {pc sid : Nat} {r : String × Nat × List Fi} (hd : decode bytes pc = .ok (.bastore, 1)) (hs : sh[sid]? = some (some .boolean, r)) : Good l Z hz sh A O y bytes maxL ret pc (sAst sid .boolean (pc + 1)) := by
  intro F cf ns h hF
  obtain ⟨L, S, D, sl⟩ := cf
  obtain ⟨t, j, k, S', v, xs, rfl, q1, q2, q3, q4, rfl⟩ := sAst_inv h
  refine ⟨_, List.mem_cons_self .., hF, by simp, by simp, ?_⟩
  intro d0 s0 p e R s m args below meth c T locs hd0 hs0 hh hA X H N hc hl hfr hlo
  simp only [List.length_set] at hc hl hd0 hs0 X H ⊢
  have ho := H.2.2 k _ q2
  rw [ObAt.arr (o := (sid, xs)) hs] at ho
  have ho' := ho
  obtain ⟨cl, Ar, a1, a2, a3⟩ := ho
  have hsz : cl.slots.size = xs.length := by rw [a1]; simp
  have hgs : (frm hz A O m pc (L, (kdOf .boolean, t) :: (0, j) :: (2, .index k) :: S', D, sl)).stack = .int (te A t).1 :: .int v :: .ref (hz.size + k) :: S'.map (vv A O hz.size) := by show _ :: Value.int (te A j).1 :: _ = _; rw [cv_ok hF q1]; rfl
  obtain ⟨T', h', X', e1, W, st⟩ := stZ X hA.1 hA.2.1 rfl Ar (j := v) (fun q => q.elim q3 (fun q => by omega)) (g := frm hz A O m pc (L, (kdOf .boolean, t) :: (0, j) :: (2, .index k) :: S', D, sl)) rfl hgs (hb hA.2.2.1 hd)
  have hval := (nrT_ok (A := A) (O := O) (hz := hz) (ty := .boolean) (by decide) t).1
  subst e1
  have W' : Wr T.heap T'.heap (hz.size + k) v.toNatClampNeg (vv A O hz.size (kdOf .boolean, nrT .boolean t)) := by rw [← hval]; exact W
  refine ⟨T', _, X', ?_, Fr.snoc X' N (Nat.le_add_right _ _), st⟩
  refine H.set q2 W' ?_
  rw [ObAt.arr (o := (sid, _)) hs]
  exact ho'.set W'
/-! objects -/
def sNew (sid kk : Nat) (ds : List SV) (nx : Nat) : Stp := fun F cf => some [(F, nx, (cf.1, (2, .index cf.2.2.1.length) :: cf.2.1, cf.2.2.1 ++ [(sid, ds)], cf.2.2.2 + kk))]
theorem g_new {pc sid kk idx : Nat} {C : String} {fs : List Fi} {ds : List SV} {a0 : Array Value} (hd : decode bytes pc = .ok (.new idx, 3)) (hs : sh[sid]? = some (none, C, kk, fs)) (hso : ShOk Z a0 (none, C, kk, fs)) (hfl : ∀ f ∈ fs, f.2.2.2 ≠ .float) (hds : ds = fs.map fun f => dflt f.2.2.2)
    (w : (Cond.classLink y.cls idx C).before a0 Z = true) (wz : (Cond.initialized C).before a0 Z = true) : Good l Z hz sh A O y bytes maxL ret pc (sNew sid kk ds (pc + 3)) := by
  intro F cf ns h hF
  obtain ⟨L, S, D, sl⟩ := cf
  cases h
  refine ⟨_, List.mem_cons_self .., hF, by simp, by simp, ?_⟩
  intro d0 s0 p e R s m args below meth c T locs hd0 hs0 hh hA X H N hc hl hfr hlo
  simp only [List.length_append, List.length_cons, List.length_nil] at hc hl hd0 hs0 X H ⊢
  have hso1 : (Cond.instantiable C kk).before a0 Z = true := (hso rfl).1
  obtain ⟨T', h', X', e1, E, Ex, Df, -, st⟩ := newO X hA.1 hA.2.1 hA.2.2.2.2.1 w hso1 wz rfl (g := frm hz A O m pc (L, S, D, sl)) rfl (hb hA.2.2.1 hd) (by omega) (by omega)
  have hsz : T'.heap.size = T.heap.size + 1 := grown X' hd0 hh H (by rw [e1]; exact Ex.lt)
  have c1 : D.length + (0 + 1) - d0 = D.length - d0 + 1 := by omega
  have c2 : sl + kk - s0 = sl - s0 + kk := by omega
  refine ⟨T', locs, by rw [c1, c2]; exact X', ?_, N, ?_⟩
  · subst e1
    refine H.push E hsz ?_
    rw [ObAt.cls (o := (sid, ds)) hs]
    refine ⟨Ex, by rw [hds, List.length_map], fun i f x hf hx => ?_⟩
    subst hds
    rw [List.getElem?_map, hf] at hx
    cases hx
    have hm := List.mem_of_getElem? hf
    rw [dflt_ok (hfl f hm)]
    exact Df ((hso rfl).2.1 f hm).1 ((hso rfl).2.1 f hm).2
  · intro target k
    refine st target ?_
    have hi : vv A O hz.size (2, .index D.length) = .ref T.heap.size := by show Value.ref (hz.size + D.length) = _; rw [H.1]
    have k' : Steps p.tables e below (T'.setTop (mkF m (pc + 3) (L.map (sl1 A O hz.size)).toArray (vv A O hz.size (2, .index D.length) :: S.map (vv A O hz.size)))) target := k
    rw [hi] at k'; exact k'
def sGetF (sid i nx : Nat) : Stp := fun F cf => match cf.2.1 with
  | (2, .index k) :: S => (match cf.2.2.1[k]? with
    | some o => bif o.1 == sid then (match o.2[i]? with
      | some x => some [(F, nx, (cf.1, x :: S, cf.2.2))]
      | none => none) else none
    | none => none)
  | _ => none
theorem g_getfield {pc sid i kk idx : Nat} {C R0 host : String} {fs : List Fi} {f : Fi} {a0 : Array Value} (hd : decode bytes pc = .ok (.getfield idx, 3)) (hs : sh[sid]? = some (none, C, kk, fs)) (hi : fs[i]? = some f)
    (w : (Cond.fieldLink y.cls idx R0 f.2.1 f.2.2.1).before a0 Z = true ∨ (Cond.fieldLinkNest y.cls idx R0 f.2.1 f.2.2.1 host).before a0 Z = true) (via : Via Z R0 f.1 f.2.1 f.2.2.1) : Good l Z hz sh A O y bytes maxL ret pc (sGetF sid i (pc + 3)) := by
  intro F cf ns h hF
  obtain ⟨L, S, D, sl⟩ := cf
  simp only [sGetF] at h
  split at h
  · rename_i k S'
    split at h
    · rename_i o q
      obtain ⟨o1, xs⟩ := o
      cases hk : (o1 == sid)
      · rw [hk] at h; cases h
      · rw [hk] at h; obtain rfl := beq_iff_eq.mp hk
        simp only [cond_true] at h
        split at h
        · rename_i x q2; cases h
          refine ⟨_, List.mem_cons_self .., hF, by simp, by simp, ?_⟩
          intro d0 s0 p e R s m args below meth c T locs hd0 hs0 hh hA X H N hc hl hfr hlo
          have ho := H.2.2 k _ q
          rw [ObAt.cls (o := (o1, xs)) hs] at ho
          obtain ⟨T', X', e1, st⟩ := getF X hA.1 hA.2.1 hA.2.2.2.2.1 w via rfl (ho.2.2 i f x hi q2) (g := frm hz A O m pc (L, (2, .index k) :: S', D, sl)) rfl rfl (hb hA.2.2.1 hd)
          exact ⟨T', locs, X', by rw [e1]; exact H, N, st⟩
        · cases h
    · cases h
  · cases h
def sPutF (sid i : Nat) (ty : FieldType) (nx : Nat) : Stp := fun F cf => match cf.2.1 with
  | x :: (2, .index k) :: S => (match cf.2.2.1[k]? with
    | some o => bif (o.1 == sid) && (x.1 == kdOf ty) then some [(F, nx, (cf.1, S, cf.2.2.1.set k (sid, o.2.set i (kdOf ty, nrT ty x.2)), cf.2.2.2))] else none
    | none => none)
  | _ => none
theorem g_putfield {pc sid i kk idx : Nat} {C R0 : String} {fs : List Fi} {f : Fi} {a0 : Array Value} (hd : decode bytes pc = .ok (.putfield idx, 3)) (hs : sh[sid]? = some (none, C, kk, fs)) (hso : ShOk Z a0 (none, C, kk, fs)) (hi : fs[i]? = some f) (hfl : f.2.2.2 ≠ .float)
    (w : (Cond.fieldLink y.cls idx R0 f.2.1 f.2.2.1).before a0 Z = true) (via : Via Z R0 f.1 f.2.1 f.2.2.1)
    (wl : (Cond.lays C f.1 f.2.1 f.2.2.1).before a0 Z = true ∨ ((Cond.laysFinal C f.1 f.2.1 f.2.2.1).before a0 Z = true ∧ y.cls = f.1 ∧ y.name = "<init>")) : Good l Z hz sh A O y bytes maxL ret pc (sPutF sid i f.2.2.2 (pc + 3)) := by
  intro F cf ns h hF
  obtain ⟨L, S, D, sl⟩ := cf
  simp only [sPutF] at h
  split at h
  · rename_i x k S'
    obtain ⟨kx, t⟩ := x
    split at h
    · rename_i o q
      obtain ⟨o1, xs⟩ := o
      cases hk : ((o1 == sid) && (kx == kdOf f.2.2.2))
      · rw [hk] at h; cases h
      · rw [hk] at h; cases h
        simp only [Bool.and_eq_true, beq_iff_eq] at hk
        obtain ⟨rfl, rfl⟩ := hk
        refine ⟨_, List.mem_cons_self .., hF, by simp, by simp, ?_⟩
        intro d0 s0 p e R s m args below meth c T locs hd0 hs0 hh hA X H N hc hl hfr hlo
        simp only [List.length_set] at hc hl hd0 hs0 X H ⊢
        have ho := H.2.2 k _ q
        rw [ObAt.cls (o := (o1, xs)) hs] at ho
        have hlt : i < xs.length := by rw [ho.2.1]; exact (List.getElem?_eq_some_iff.mp hi).1
        have hF0 := ho.2.2 i f xs[i] hi (List.getElem?_eq_getElem hlt)
        obtain ⟨n1, n2⟩ := nrT_ok (A := A) (O := O) (hz := hz) hfl t
        obtain ⟨T', h', X', e1, W, st⟩ := putFN X hA.1 hA.2.1 hA.2.2.2.2.1 w via rfl hF0 ho.1 (wl.imp id fun q => ⟨q.1, q.2.1, hA.2.2.2.2.2.1.trans q.2.2⟩) (hso rfl).1 ((hso rfl).2.1 f (List.mem_of_getElem? hi)).2 n1 n2 (g := frm hz A O m pc (L, (kdOf f.2.2.2, t) :: (2, .index k) :: S', D, sl)) rfl rfl (hb hA.2.2.1 hd)
        subst e1
        refine ⟨T', _, X', ?_, Fr.snoc X' N (Nat.le_add_right _ _), st⟩
        refine H.set q W ?_
        rw [ObAt.cls (o := (o1, _)) hs]
        exact ClOk.set hso ho hi W
    · cases h
  · cases h
/-! ### 6. Methods: entry, return, call -/
def fill : List SV → List SL
  | [] => []
  | x :: xs => match cat x with
    | 2 => some (some x) :: some none :: fill xs
    | _ => some (some x) :: fill xs
def entL (xs : List SV) (mx : Nat) : List SL := fill xs ++ List.replicate (mx - (fill xs).length) none
theorem fill_fold (xs : List SV) : ∀ acc : Array Slot, (xs.map (vv A O hz.size)).foldl (fun acc v => if v.category = 2 then (acc.push (.val v)).push .second else acc.push (.val v)) acc = acc ++ ((fill xs).map (sl1 A O hz.size)).toArray := by
  induction xs with
  | nil => intro acc; simp [fill]
  | cons x xs ih =>
    intro acc
    rw [List.map_cons, List.foldl_cons, ih, vv_cat]
    rw [show fill (x :: xs) = (match cat x with | 2 => some (some x) :: some none :: fill xs | _ => some (some x) :: fill xs) from rfl]
    split
    · rename_i h; simp [h, sl1]
    · rename_i h; simp [h, sl1]
theorem ent_ok (m : MethodId) (xs : List SV) (mx : Nat) (r : List Ob × Nat) : entryFrame m (xs.map (vv A O hz.size)).toArray mx = frm hz A O m 0 (entL xs mx, [], r) := by
  have e : argsToLocals (xs.map (vv A O hz.size)).toArray mx = ((entL xs mx).map (sl1 A O hz.size)).toArray := by
    unfold argsToLocals entL
    have h := fill_fold (A := A) (O := O) (hz := hz) xs #[]
    have h' : (xs.map (vv A O hz.size)).toArray.foldl (init := #[]) (fun acc v => if v.category = 2 then (acc.push (.val v)).push .second else acc.push (.val v)) = ((fill xs).map (sl1 A O hz.size)).toArray := by
      rw [List.foldl_toArray]; rw [h]; simp
    simp only [h']
    simp [sl1]
  show ({ method := m, pc := 0, locals := argsToLocals _ mx, stack := [], locked := none } : JFrame) = _
  rw [e]; rfl
/-- the callee's own walk pays its contract -/
theorem met_of_ret {y' : MethodName} {bytes' : ByteArray} {mx : Nat} {ret' : Option FieldType} (hpl : plainFor y' = true) {fr lo : Nat} {xs : List SV} {D D' : List Ob} {sl sl' : Nat} {v : Option SV} {h : Heap} (H : HD Z hz sh A O h D)
    (K : Ret l Z hz sh A O y' bytes' mx ret' fr lo 0 (entL xs mx, [], D, sl) v D' sl') (ws : List Cond) (rm : Room) (hr : rm = { frames := fr, cells := D'.length - D.length, slots := sl' - sl, locals := lo }) :
    MetFree l y' (head1 (Cond.code y' bytes' mx ret' :: ws) rm)
      (fun a U => a = (xs.map (vv A O hz.size)).toArray ∧ (Z.Warmed39 U.vm ∧ Z.WarmedH U.vm) ∧ U.heap = h) (fun _ _ _ _ _ => True)
      (fun _ U o U' => ∃ w L, o = .returned w ∧ (w = v.map (vv A O hz.size) ∧ HD Z hz sh A O U'.heap D' ∧ Fr hz.size L) ∧ FrameEnd U o U' L rm.cells rm.slots) := by
  refine MetFree.of_bodySF hpl hisR ?_
  intro p e s m args below meth c s₁ Bd hml hP hK
  obtain ⟨rfl, hZ, hh⟩ := hP
  obtain ⟨-, -, k3⟩ := K
  have X0 : Stand p l e rm s m _ below meth c s₁ [] 0 0 := Stand.of_body Bd
  have e0 : s₁.heap = h := by rw [← hh, Bd.state]; rfl
  have hsz : s.heap.size = hz.size + D.length := by rw [hh]; exact H.1
  subst hr
  obtain ⟨s₂, L2, k1, k2, k3, k4, k5, k6, k7⟩ := k3 D.length sl p e _ s m _ below meth c s₁ [] (Nat.le_refl _) (Nat.le_refl _) hsz
    ⟨Bd.exec, hZ.1, Bd.bytes, hml, findClass_of_methodNamed Bd.named, (name_of_methodNamed Bd.named Bd.method).1, Bd.returns, Bd.notSynchronized, hZ.2, Bd.named⟩
    (by simp only [Nat.sub_self]; exact X0) (by rw [e0]; exact H) (Fr.nil _) (Nat.le_refl _) (Nat.le_refl _) (Nat.le_refl _) (Nat.le_refl _)
  refine ⟨s₂, .returned (v.map (vv A O hz.size)), ?_, k2, k3, _, L2, rfl, ⟨rfl, k4, k5⟩, ⟨_, rfl⟩, k6, k7⟩
  rw [ent_ok m xs mx (D, sl)]; exact k1
theorem backH {p : Program} {e : Env} {R : Room} {s : State} {args : Array Value} {below : List Frame} {a0 : Array Value} {h : Heap} {y : MethodName} {bytes : ByteArray} {maxL : Nat} {ret : Option FieldType} {rm : Room} {len W : Nat} {as' : Array Value} {Q : Option Value → Heap → List Loc → Prop}
    (hM : MetFree l y (head1 [Cond.code y bytes maxL ret] rm) (fun a U => a = as' ∧ (Z.Warmed39 U.vm ∧ Z.WarmedH U.vm) ∧ U.heap = h) (fun _ _ _ _ _ => True) (fun _ U o U' => ∃ v L, o = .returned v ∧ Q v U'.heap L ∧ FrameEnd U o U' L rm.cells rm.slots))
    (hZ : Z.Warmed39 s.vm ∧ Z.WarmedH s.vm) (wc : (Cond.code y bytes maxL ret).before a0 Z = true) (wz : (Cond.initialized y.cls).before a0 Z = true) (hf : rm.frames + 1 ≤ R.frames) (hl : W + (maxL + 11) + rm.locals ≤ R.locals) :
    Back l R p e below s args y len W (fun A a => a = as' ∧ A.U.heap = h ∧ A.cells + rm.cells ≤ R.cells ∧ A.slots + rm.slots ≤ R.slots)
      (fun A _ v B => ∃ L, Q v B.U.heap L ∧ B.locs = A.locs ++ L ∧ B.cells = A.cells + rm.cells ∧ B.slots = A.slots + rm.slots) :=
  Back.of_free (bytes := bytes) (maxL := maxL) (ret := ret) (E := fun _ _ o t L k n => k = rm.cells ∧ n = rm.slots ∧ ∃ v, o = .returned v ∧ Q v t.heap L) hM hf hl
    (fun m meth c A a Y hp => have hU : Z.Warmed39 A.U.vm := wtrans hZ.1 Y.warmed
      ⟨by show (Cond.and _ .tt).before a A.U = true; rw [Cond.before_and, mv hU wc]; rfl, mv hU wc, mv hU wz, hp.2.2.1, hp.2.2.2⟩)
    (fun m meth c A a g mk Y hp => ⟨hp.1, ⟨wtrans hZ.1 Y.warmed, State.WarmedH.trans hZ.2 Y.warmed⟩, hp.2.1⟩) (fun _ _ _ _ _ _ _ _ _ => trivial)
    (fun _ _ _ _ ⟨v, L, h1, h2, h3⟩ => ⟨L, _, _, h3, rfl, rfl, v, h1, h2⟩)
    (fun m meth c A a g mk v t L k n Y hp _ _ ⟨e1, e2, v', e3, e4⟩ => by cases e3; subst e1 e2; exact ⟨L, e4, rfl, rfl, rfl⟩)
abbrev Kl := Nat × Nat × Nat × (List SV → List Ob → Bool)
def wt (S : List SV) : Nat := (S.map cat).sum
theorem wt_ok (S : List SV) : ((S.map (vv A O hz.size)).map fun v => v.category).sum = wt S := by
  unfold wt
  rw [List.map_map]
  congr 1
  exact List.map_congr_left fun x _ => vv_cat A O hz.size x
/-- a call of the method cj (its body's maxLocals: mx) with na operands -/
def CallGood (l : Launch) (Z : State) (hz : Heap) (sh : List Sh) (A : En) (O : Nat → Addr) (y : MethodName) (bytes : ByteArray) (maxL : Nat) (ret : Option FieldType) (y' : MethodName) (bytes' : ByteArray) (mx : Nat) (ret' : Option FieldType) (pc na nx : Nat) (ck : List SV → List Ob → Bool) : Prop :=
  ∀ (L : List SL) (S : List SV) (D : List Ob) (sl fr lo : Nat) (v : Option SV) (D' : List Ob) (sl' : Nat), na ≤ S.length → L.length = maxL → ck (S.take na) D = true → 1 ≤ fr → wt (S.drop na) + (mx + 11) ≤ lo →
    Ret l Z hz sh A O y' bytes' mx ret' (fr - 1) (lo - (wt (S.drop na) + (mx + 11))) 0 (entL (S.take na).reverse mx, [], D, sl) v D' sl' →
    Sim l Z hz sh A O y bytes maxL ret fr lo pc (L, S, D, sl) nx (L, v.toList ++ S.drop na, D', sl')
def RetGood (l : Launch) (Z : State) (hz : Heap) (sh : List Sh) (A : En) (O : Nat → Addr) (y : MethodName) (bytes : ByteArray) (maxL : Nat) (ret : Option FieldType) (pc : Nat) (g : List SV → Option (Option SV)) : Prop :=
  ∀ (L : List SL) (S : List SV) (D : List Ob) (sl fr lo : Nat) (v : Option SV), g S = some v → Ret l Z hz sh A O y bytes maxL ret fr lo pc (L, S, D, sl) v D sl
def rVoid : List SV → Option (Option SV)
  | [] => some none
  | _ => none
def rVal (ty : FieldType) : List SV → Option (Option SV)
  | x :: _ => bif x.1 == kdOf ty then some (some (kdOf ty, nrT ty x.2)) else none
  | _ => none
theorem g_return {pc : Nat} (hd : decode bytes pc = .ok (.return_, 1)) : RetGood l Z hz sh A O y bytes maxL none pc rVoid := by
  intro L S D sl fr lo v h
  unfold rVoid at h
  split at h
  · cases h
    refine ⟨Nat.le_refl _, Nat.le_refl _, ?_⟩
    intro d0 s0 p e R s m args below meth c T locs hd0 hs0 hh hA X H N hc hl hfr hlo
    obtain ⟨fs, hr, hrun, hended, hW, hsame⟩ := X.leave (v := none) (fun _ => rfl) hA.2.2.2.2.2.2.2.1
    exact ⟨_, locs, X.returnOut hA.1 hA.2.2.2.2.2.2.1 (hb hA.2.2.1 hd) hr, hrun, hended, H, N, hW, hsame⟩
  · cases h
theorem g_ret {pc : Nat} {ty : FieldType} {i : Instr} (hd : decode bytes pc = .ok (i, 1)) (hf : ty ≠ .float) (hi : (i = .ireturn ∧ (ty = .int ∨ ty = .boolean ∨ ty = .byte ∨ ty = .char ∨ ty = .short)) ∨ (i = .lreturn ∧ ty = .long) ∨ (i = .dreturn ∧ ty = .double) ∨ (i = .areturn ∧ ty.isReference = true)) :
    RetGood l Z hz sh A O y bytes maxL (some ty) pc (rVal ty) := by
  intro L S D sl fr lo v h
  unfold rVal at h
  split at h
  · rename_i x S'
    obtain ⟨kx, t⟩ := x
    cases hk : (kx == kdOf ty)
    · rw [hk] at h; cases h
    · rw [hk] at h; obtain rfl := beq_iff_eq.mp hk; cases h
      refine ⟨Nat.le_refl _, Nat.le_refl _, ?_⟩
      intro d0 s0 p e R s m args below meth c T locs hd0 hs0 hh hA X H N hc hl hfr hlo
      have hret : meth.sig.returnType = some ty := hA.2.2.2.2.2.2.1
      obtain ⟨n1, n2⟩ := nrT_ok (A := A) (O := O) (hz := hz) hf t
      obtain ⟨fs, hr, hrun, hended, hW, hsame⟩ := X.leave (v := some (vv A O hz.size (kdOf ty, nrT ty t))) (fun h => by rw [hret] at h; cases h) hA.2.2.2.2.2.2.2.1
      refine ⟨_, locs, ?_, hrun, hended, H, N, hW, hsame⟩
      show Steps p.tables e below (T.setTop (mkF m pc (L.map (sl1 A O hz.size)).toArray (vv A O hz.size (kdOf ty, t) :: S'.map (vv A O hz.size)))) _
      rw [← n1] at hr
      rcases hi with ⟨rfl, hi⟩ | ⟨rfl, rfl⟩ | ⟨rfl, rfl⟩ | ⟨rfl, hi⟩
      · by_cases hq : ty = .boolean ∨ ty = .byte ∨ ty = .char ∨ ty = .short
        · have e1 : vv A O hz.size (kdOf ty, t) = .int (te A t).1 := by rcases hq with rfl | rfl | rfl | rfl <;> rfl
          have e2 : narrow ty (.int (te A t).1) = .int (nar ty (te A t).1) := by rcases hq with rfl | rfl | rfl | rfl <;> rfl
          rw [e1]; rw [e1, e2] at hr
          exact retN X hA.1 (t := ty) hret hq (hb hA.2.2.1 hd) hr
        · have : ty = .int := by
            rcases hi with q | q | q | q | q
            · exact q
            all_goals exact absurd (by simp [q]) hq
          subst this
          exact retOut X hA.1 hret rfl (Or.inl ⟨rfl, Or.inl rfl, _, rfl⟩) (hb hA.2.2.1 hd) hr
      · exact retOut X hA.1 hret rfl (Or.inr (Or.inl ⟨rfl, rfl, _, rfl⟩)) (hb hA.2.2.1 hd) hr
      · exact retOut X hA.1 hret rfl (Or.inr (Or.inr (Or.inl ⟨rfl, rfl, _, rfl⟩))) (hb hA.2.2.1 hd) hr
      · have hkd : kdOf ty = 2 := by cases ty <;> simp [FieldType.isReference] at hi <;> rfl
        have hn : narrow ty (vv A O hz.size (kdOf ty, t)) = vv A O hz.size (kdOf ty, t) := by
          rw [hkd]; show narrow ty (rf O hz.size t) = rf O hz.size t
          cases ty <;> simp [FieldType.isReference] at hi <;> rcases ref_cases (rf_isRef O hz.size t) with q | ⟨a, q⟩ <;> rw [q] <;> rfl
        rw [hn] at hr
        exact retOut X hA.1 hret hn (Or.inr (Or.inr (Or.inr (Or.inr ⟨rfl, hi, by rw [hkd]; exact rf_isRef _ _ _⟩)))) (hb hA.2.2.1 hd) hr
  · cases h
def ckAny : List SV → List Ob → Bool := fun _ _ => true
/-- the receiver (the deepest operand) is a made object of the shape -/
def ckObj (sid : Nat) : List SV → List Ob → Bool := fun a D => match a.getLast? with
  | some (2, .index k) => (match D[k]? with
    | some o => o.1 == sid
    | none => false)
  | _ => false
theorem ckObj_inv {sid : Nat} {a : List SV} {D : List Ob} (h : ckObj sid a D = true) : ∃ a' k xs, a = a' ++ [(2, .index k)] ∧ D[k]? = some (sid, xs) := by
  unfold ckObj at h
  split at h
  · rename_i k q
    split at h
    · rename_i o q2
      obtain ⟨o1, xs⟩ := o
      obtain rfl := beq_iff_eq.mp h
      obtain ⟨a', rfl⟩ := List.getLast?_eq_some_iff.mp q
      exact ⟨a', k, xs, rfl, q2⟩
    · cases h
  · cases h
section Calls
variable {y' : MethodName} {bytes' : ByteArray} {mx : Nat} {ret' : Option FieldType} {a0 : Array Value}
theorem c_static {pc idx na : Nat} {ps : List FieldType} {r : Option FieldType} (hd : decode bytes pc = .ok (.invokestatic idx, 3)) (hpl : plainFor y' = true) (hdesc : parseMethodDescriptor y'.desc = some ⟨ps, r⟩) (hna : ps.length = na) (hy : y'.cls ≠ "java/lang/invoke/MethodHandle" ∧ y'.cls ≠ "java/lang/invoke/VarHandle")
    (w1 : (Cond.methodLink y.cls idx y').before a0 Z = true) (w2 : (Cond.static y').before a0 Z = true) (w3 : (Cond.initialized y'.cls).before a0 Z = true) (w4 : (Cond.code y' bytes' mx ret').before a0 Z = true) :
    CallGood l Z hz sh A O y bytes maxL ret y' bytes' mx ret' pc na (pc + 3) ckAny := by
  intro L S D sl fr lo v D' sl' h1 h2 h3 h4 h5 K
  have kk := K
  obtain ⟨k1, k2, -⟩ := kk
  refine ⟨k1, k2, ?_⟩
  intro d0 s0 p e R s m args below meth c T locs hd0 hs0 hh hA X H N hc hl hfr hlo
  have k1' : D.length ≤ D'.length := k1
  have k2' : sl ≤ sl' := k2
  have hd0' : d0 ≤ D.length := hd0
  have hs0' : s0 ≤ sl := hs0
  have hc' : D'.length - d0 ≤ R.cells := hc
  have hl' : sl' - s0 ≤ R.slots := hl
  have hM := met_of_ret hpl H K [] { frames := fr - 1, cells := D'.length - D.length, slots := sl' - sl, locals := lo - (wt (S.drop na) + (mx + 11)) } rfl
  obtain ⟨w, vm₁, ⟨T', L', k', n'⟩, -, X', ⟨Lc, ⟨rfl, H', N'⟩, l1, y1, z1⟩, st⟩ := Jvm.LawKit.callS X hA.1 (y := y') hA.2.2.2.2.1 (mvT hA.2.1 w1) (mvT hA.2.1 w2) (mvT hA.2.1 w3) (mvT hA.2.1 w4) hy
    (backH (W := wt (S.drop na)) (rm := { frames := fr - 1, cells := D'.length - D.length, slots := sl' - sl, locals := lo - (wt (S.drop na) + (mx + 11)) }) (Q := fun w h' L => w = v.map (vv A O hz.size) ∧ HD Z hz sh A O h' D' ∧ Fr hz.size L) hM ⟨hA.2.1, hA.2.2.2.2.2.2.2.2.1⟩ w4 w3 (by show fr - 1 + 1 ≤ _; omega) (by show _ + (lo - _) ≤ _; omega)) (g := frm hz A O m pc (L, S, D, sl)) rfl (by show (L.map (sl1 A O hz.size)).toArray.size = _; rw [hA.2.2.2.1, ← h2]; simp)
    (argsL := (S.take na).reverse.map (vv A O hz.size)) (rest := (S.drop na).map (vv A O hz.size)) (lenOf hdesc (by rw [List.length_map, List.length_reverse, List.length_take, hna]; omega))
    (by show S.map (vv A O hz.size) = _; rw [← List.map_reverse, List.reverse_reverse, ← List.map_append, List.take_append_drop]) (by show 2 * 0 + _ ≤ _; rw [wt_ok]; omega) (hb hA.2.2.1 hd)
    (fun _ _ => ⟨rfl, rfl, by show D.length - d0 + (D'.length - D.length) ≤ _; omega, by show sl - s0 + (sl' - sl) ≤ _; omega⟩)
  dsimp only [Pt.U, Pt.locs, Pt.cells, Pt.slots] at X' l1 y1 z1 st H'
  subst l1 y1 z1
  have c1 : D.length - d0 + (D'.length - D.length) = D'.length - d0 := by omega
  have c2 : sl - s0 + (sl' - sl) = sl' - s0 := by omega
  refine ⟨T', _, by rw [← c1, ← c2]; exact X', H', N.app N', fun target k => st target ?_⟩
  have e2 : (v.toList ++ S.drop na).map (vv A O hz.size) = (v.map (vv A O hz.size)).toList ++ (S.drop na).map (vv A O hz.size) := by cases v <;> simp
  have k' : Steps p.tables e below (T'.setTop (mkF m (pc + 3) (L.map (sl1 A O hz.size)).toArray ((v.toList ++ S.drop na).map (vv A O hz.size)))) target := k
  rw [e2] at k'; exact k'
theorem c_init {pc idx na sid : Nat} {ps : List FieldType} {r : Option FieldType} (hd : decode bytes pc = .ok (.invokespecial idx, 3)) (hpl : plainFor y' = true) (hdesc : parseMethodDescriptor y'.desc = some ⟨ps, r⟩) (hna : ps.length + 1 = na) (hy : y'.cls ≠ "java/lang/invoke/MethodHandle" ∧ y'.cls ≠ "java/lang/invoke/VarHandle")
    (w1 : (Cond.methodLink y.cls idx y').before a0 Z = true) (w2 : (Cond.instanceMethod y').before a0 Z = true) (w3 : (Cond.initialized y'.cls).before a0 Z = true) (w4 : (Cond.code y' bytes' mx none).before a0 Z = true) (hn : y'.name = "<init>") :
    CallGood l Z hz sh A O y bytes maxL ret y' bytes' mx none pc na (pc + 3) (ckObj sid) := by
  intro L S D sl fr lo v D' sl' h1 h2 h3 h4 h5 K
  have kk := K
  obtain ⟨k1, k2, -⟩ := kk
  refine ⟨k1, k2, ?_⟩
  intro d0 s0 p e R s m args below meth c T locs hd0 hs0 hh hA X H N hc hl hfr hlo
  have k1' : D.length ≤ D'.length := k1
  have k2' : sl ≤ sl' := k2
  have hd0' : d0 ≤ D.length := hd0
  have hs0' : s0 ≤ sl := hs0
  have hc' : D'.length - d0 ≤ R.cells := hc
  have hl' : sl' - s0 ≤ R.slots := hl
  obtain ⟨a', k, xs, ea, ek⟩ := ckObj_inv h3
  have hM := met_of_ret hpl H K [] { frames := fr - 1, cells := D'.length - D.length, slots := sl' - sl, locals := lo - (wt (S.drop na) + (mx + 11)) } rfl
  have er : (S.take na).reverse.map (vv A O hz.size) = .ref (hz.size + k) :: a'.reverse.map (vv A O hz.size) := by rw [ea]; simp [vv, rf]
  have el : (a'.reverse.map (vv A O hz.size)).length = ps.length := by
    have := congrArg List.length ea
    rw [List.length_take, List.length_append] at this
    simp only [List.length_cons, List.length_nil] at this
    rw [List.length_map, List.length_reverse]; omega
  rw [er] at hM
  have es : S.map (vv A O hz.size) = (a'.reverse.map (vv A O hz.size)).reverse ++ .ref (hz.size + k) :: (S.drop na).map (vv A O hz.size) := by
    conv => lhs; rw [← List.take_append_drop na S, ea]
    simp [vv, rf]

  obtain ⟨w, vm₁, ⟨T', L', k', n'⟩, -, X', ⟨Lc, ⟨rfl, H', N'⟩, l1, y1, z1⟩, st⟩ := X.specialBack hA.1 (y := y') hn hA.2.2.2.2.1 (mvT hA.2.1 w1) (mvT hA.2.1 w2) (mvT hA.2.1 w4) hy
    (backH (W := wt (S.drop na)) (rm := { frames := fr - 1, cells := D'.length - D.length, slots := sl' - sl, locals := lo - (wt (S.drop na) + (mx + 11)) }) (Q := fun w h' L => w = v.map (vv A O hz.size) ∧ HD Z hz sh A O h' D' ∧ Fr hz.size L) hM ⟨hA.2.1, hA.2.2.2.2.2.2.2.2.1⟩ w4 w3 (by show fr - 1 + 1 ≤ _; omega) (by show _ + (lo - _) ≤ _; omega)) (g := frm hz A O m pc (L, S, D, sl)) rfl (by show (L.map (sl1 A O hz.size)).toArray.size = _; rw [hA.2.2.2.1, ← h2]; simp) (Steps.refl _) (a := hz.size + k)
    (argsL := a'.reverse.map (vv A O hz.size)) (rest := (S.drop na).map (vv A O hz.size)) (lenOf hdesc el)
    es (by show 2 * 0 + _ ≤ _; rw [wt_ok]; omega) (hb hA.2.2.1 hd)
    (fun _ _ => ⟨rfl, rfl, by show D.length - d0 + (D'.length - D.length) ≤ _; omega, by show sl - s0 + (sl' - sl) ≤ _; omega⟩)
  dsimp only [Pt.U, Pt.locs, Pt.cells, Pt.slots] at X' l1 y1 z1 st H'
  subst l1 y1 z1
  have c1 : D.length - d0 + (D'.length - D.length) = D'.length - d0 := by omega
  have c2 : sl - s0 + (sl' - sl) = sl' - s0 := by omega
  refine ⟨T', _, by rw [← c1, ← c2]; exact X', H', N.app N', fun target kt => st.trans ?_⟩
  have e2 : (v.toList ++ S.drop na).map (vv A O hz.size) = (v.map (vv A O hz.size)).toList ++ (S.drop na).map (vv A O hz.size) := by cases v <;> simp
  have kt' : Steps p.tables e below (T'.setTop (mkF m (pc + 3) (L.map (sl1 A O hz.size)).toArray ((v.toList ++ S.drop na).map (vv A O hz.size)))) target := kt
  rw [e2] at kt'; exact kt'
theorem c_virtual {pc idx na sid : Nat} {ps : List FieldType} {r : Option FieldType} {C : String} {kk : Nat} {fs : List Fi} (hd : decode bytes pc = .ok (.invokevirtual idx, 3)) (hpl : plainFor y' = true) (hdesc : parseMethodDescriptor y'.desc = some ⟨ps, r⟩) (hna : ps.length + 1 = na) (hy : y'.cls ≠ "java/lang/invoke/MethodHandle" ∧ y'.cls ≠ "java/lang/invoke/VarHandle")
    (w1 : (Cond.methodLink y.cls idx y').before a0 Z = true) (w2 : (Cond.instanceMethod y').before a0 Z = true) (w3 : (Cond.initialized y'.cls).before a0 Z = true) (w4 : (Cond.code y' bytes' mx ret').before a0 Z = true) (hs : sh[sid]? = some (none, C, kk, fs)) (w5 : (Cond.declares y').before a0 Z = true) (w6 : (Cond.selects C y' y').before a0 Z = true) :
    CallGood l Z hz sh A O y bytes maxL ret y' bytes' mx ret' pc na (pc + 3) (ckObj sid) := by
  intro L S D sl fr lo v D' sl' h1 h2 h3 h4 h5 K
  have kk := K
  obtain ⟨k1, k2, -⟩ := kk
  refine ⟨k1, k2, ?_⟩
  intro d0 s0 p e R s m args below meth c T locs hd0 hs0 hh hA X H N hc hl hfr hlo
  have k1' : D.length ≤ D'.length := k1
  have k2' : sl ≤ sl' := k2
  have hd0' : d0 ≤ D.length := hd0
  have hs0' : s0 ≤ sl := hs0
  have hc' : D'.length - d0 ≤ R.cells := hc
  have hl' : sl' - s0 ≤ R.slots := hl
  obtain ⟨a', k, xs, ea, ek⟩ := ckObj_inv h3
  have hM := met_of_ret hpl H K [] { frames := fr - 1, cells := D'.length - D.length, slots := sl' - sl, locals := lo - (wt (S.drop na) + (mx + 11)) } rfl
  have er : (S.take na).reverse.map (vv A O hz.size) = .ref (hz.size + k) :: a'.reverse.map (vv A O hz.size) := by rw [ea]; simp [vv, rf]
  have el : (a'.reverse.map (vv A O hz.size)).length = ps.length := by
    have := congrArg List.length ea
    rw [List.length_take, List.length_append] at this
    simp only [List.length_cons, List.length_nil] at this
    rw [List.length_map, List.length_reverse]; omega
  rw [er] at hM
  have es : S.map (vv A O hz.size) = (a'.reverse.map (vv A O hz.size)).reverse ++ .ref (hz.size + k) :: (S.drop na).map (vv A O hz.size) := by
    conv => lhs; rw [← List.take_append_drop na S, ea]
    simp [vv, rf]
  have ho := H.2.2 k _ ek
  rw [ObAt.cls (o := (sid, xs)) hs] at ho
  obtain ⟨cq, kq, qa, qb, qc⟩ := isOf hA.2.1 rfl ho.1
  obtain ⟨w, vm₁, ⟨T', L', k', n'⟩, -, X', ⟨Lc, ⟨rfl, H', N'⟩, l1, y1, z1⟩, st⟩ := X.virtualBack hA.1 (y := y') (z := y') hA.2.2.2.2.1 (mvT hA.2.1 w1) (mvT hA.2.1 w5) (notFace_of_selects (args := #[]) (mvT hA.2.1 w6)) (mvT hA.2.1 w6) (mvT hA.2.1 w2) hy
    (backH (W := wt (S.drop na)) (rm := { frames := fr - 1, cells := D'.length - D.length, slots := sl' - sl, locals := lo - (wt (S.drop na) + (mx + 11)) }) (Q := fun w h' L => w = v.map (vv A O hz.size) ∧ HD Z hz sh A O h' D' ∧ Fr hz.size L) hM ⟨hA.2.1, hA.2.2.2.2.2.2.2.2.1⟩ w4 w3 (by show fr - 1 + 1 ≤ _; omega) (by show _ + (lo - _) ≤ _; omega)) qa qc (g := frm hz A O m pc (L, S, D, sl)) rfl (by show (L.map (sl1 A O hz.size)).toArray.size = _; rw [hA.2.2.2.1, ← h2]; simp) (Steps.refl _) 
    (argsL := a'.reverse.map (vv A O hz.size)) (rest := (S.drop na).map (vv A O hz.size)) (lenOf hdesc el)
    es (by show 2 * 0 + _ ≤ _; rw [wt_ok]; omega) (hb hA.2.2.1 hd)
    (fun _ _ => ⟨rfl, rfl, by show D.length - d0 + (D'.length - D.length) ≤ _; omega, by show sl - s0 + (sl' - sl) ≤ _; omega⟩)
  dsimp only [Pt.U, Pt.locs, Pt.cells, Pt.slots] at X' l1 y1 z1 st H'
  subst l1 y1 z1
  have c1 : D.length - d0 + (D'.length - D.length) = D'.length - d0 := by omega
  have c2 : sl - s0 + (sl' - sl) = sl' - s0 := by omega
  refine ⟨T', _, by rw [← c1, ← c2]; exact X', H', N.app N', fun target kt => st.trans ?_⟩
  have e2 : (v.toList ++ S.drop na).map (vv A O hz.size) = (v.map (vv A O hz.size)).toList ++ (S.drop na).map (vv A O hz.size) := by cases v <;> simp
  have kt' : Steps p.tables e below (T'.setTop (mkF m (pc + 3) (L.map (sl1 A O hz.size)).toArray ((v.toList ++ S.drop na).map (vv A O hz.size)))) target := kt
  rw [e2] at kt'; exact kt'
theorem c_private {pc idx na sid : Nat} {ps : List FieldType} {r : Option FieldType} {C : String} {kk : Nat} {fs : List Fi} (hd : decode bytes pc = .ok (.invokevirtual idx, 3)) (hpl : plainFor y' = true) (hdesc : parseMethodDescriptor y'.desc = some ⟨ps, r⟩) (hna : ps.length + 1 = na) (hy : y'.cls ≠ "java/lang/invoke/MethodHandle" ∧ y'.cls ≠ "java/lang/invoke/VarHandle")
    (w1 : (Cond.methodLink y.cls idx y').before a0 Z = true) (w2 : (Cond.instanceMethod y').before a0 Z = true) (w3 : (Cond.initialized y'.cls).before a0 Z = true) (w4 : (Cond.code y' bytes' mx ret').before a0 Z = true) (hs : sh[sid]? = some (none, C, kk, fs)) (w5 : (Cond.privateMethod y').before a0 Z = true) (w6 : (Cond.instantiable y'.cls kk).before a0 Z = true) :
    CallGood l Z hz sh A O y bytes maxL ret y' bytes' mx ret' pc na (pc + 3) (ckObj sid) := by
  intro L S D sl fr lo v D' sl' h1 h2 h3 h4 h5 K
  have kk := K
  obtain ⟨k1, k2, -⟩ := kk
  refine ⟨k1, k2, ?_⟩
  intro d0 s0 p e R s m args below meth c T locs hd0 hs0 hh hA X H N hc hl hfr hlo
  have k1' : D.length ≤ D'.length := k1
  have k2' : sl ≤ sl' := k2
  have hd0' : d0 ≤ D.length := hd0
  have hs0' : s0 ≤ sl := hs0
  have hc' : D'.length - d0 ≤ R.cells := hc
  have hl' : sl' - s0 ≤ R.slots := hl
  obtain ⟨a', k, xs, ea, ek⟩ := ckObj_inv h3
  have hM := met_of_ret hpl H K [] { frames := fr - 1, cells := D'.length - D.length, slots := sl' - sl, locals := lo - (wt (S.drop na) + (mx + 11)) } rfl
  have er : (S.take na).reverse.map (vv A O hz.size) = .ref (hz.size + k) :: a'.reverse.map (vv A O hz.size) := by rw [ea]; simp [vv, rf]
  have el : (a'.reverse.map (vv A O hz.size)).length = ps.length := by
    have := congrArg List.length ea
    rw [List.length_take, List.length_append] at this
    simp only [List.length_cons, List.length_nil] at this
    rw [List.length_map, List.length_reverse]; omega
  rw [er] at hM
  have es : S.map (vv A O hz.size) = (a'.reverse.map (vv A O hz.size)).reverse ++ .ref (hz.size + k) :: (S.drop na).map (vv A O hz.size) := by
    conv => lhs; rw [← List.take_append_drop na S, ea]
    simp [vv, rf]
  have ho := H.2.2 k _ ek
  rw [ObAt.cls (o := (sid, xs)) hs] at ho
  obtain ⟨cq, q1, q2⟩ := ho.1.cell
  have w6' : (Cond.instantiable y'.cls kk).before args s = true := mvT hA.2.1 w6
  obtain ⟨ci, ki, i1, i2, i3, i4, -⟩ := Cond.instantiable_spec w6'
  have hpv := Cond.privateMethod_at (mvP hA.2.1 w5 (args := args))
  have hsf : (Cond.selects y'.cls y' y').before args s = true := selects_self_of_private i1 i2 (Bool.or_eq_false_iff.mp i4).1 hpv (mvT hA.2.1 w2) hy
  obtain ⟨w, vm₁, ⟨T', L', k', n'⟩, -, X', ⟨Lc, ⟨rfl, H', N'⟩, l1, y1, z1⟩, st⟩ := X.privateBack hA.1 (y := y') hA.2.2.2.2.1 (mvT hA.2.1 w1) (mvT hA.2.1 w2) hsf hpv (mvT hA.2.1 w4) hy
    (backH (W := wt (S.drop na)) (rm := { frames := fr - 1, cells := D'.length - D.length, slots := sl' - sl, locals := lo - (wt (S.drop na) + (mx + 11)) }) (Q := fun w h' L => w = v.map (vv A O hz.size) ∧ HD Z hz sh A O h' D' ∧ Fr hz.size L) hM ⟨hA.2.1, hA.2.2.2.2.2.2.2.2.1⟩ w4 w3 (by show fr - 1 + 1 ≤ _; omega) (by show _ + (lo - _) ≤ _; omega)) (g := frm hz A O m pc (L, S, D, sl)) rfl (by show (L.map (sl1 A O hz.size)).toArray.size = _; rw [hA.2.2.2.1, ← h2]; simp) (Steps.refl _) (a := hz.size + k) q1 q2
    (argsL := a'.reverse.map (vv A O hz.size)) (rest := (S.drop na).map (vv A O hz.size)) (lenOf hdesc el)
    es (by show 2 * 0 + _ ≤ _; rw [wt_ok]; omega) (hb hA.2.2.1 hd)
    (fun _ _ => ⟨rfl, rfl, by show D.length - d0 + (D'.length - D.length) ≤ _; omega, by show sl - s0 + (sl' - sl) ≤ _; omega⟩)
  dsimp only [Pt.U, Pt.locs, Pt.cells, Pt.slots] at X' l1 y1 z1 st H'
  subst l1 y1 z1
  have c1 : D.length - d0 + (D'.length - D.length) = D'.length - d0 := by omega
  have c2 : sl - s0 + (sl' - sl) = sl' - s0 := by omega
  refine ⟨T', _, by rw [← c1, ← c2]; exact X', H', N.app N', fun target kt => st.trans ?_⟩
  have e2 : (v.toList ++ S.drop na).map (vv A O hz.size) = (v.map (vv A O hz.size)).toList ++ (S.drop na).map (vv A O hz.size) := by cases v <;> simp
  have kt' : Steps p.tables e below (T'.setTop (mkF m (pc + 3) (L.map (sl1 A O hz.size)).toArray ((v.toList ++ S.drop na).map (vv A O hz.size)))) target := kt
  rw [e2] at kt'; exact kt'
end Calls
/-! ### 7. The run -/
/-- a step that asks for room: a native -/
abbrev Stq := Nat → Nat → Stp
def GoodN (l : Launch) (Z : State) (hz : Heap) (sh : List Sh) (A : En) (O : Nat → Addr) (y : MethodName) (bytes : ByteArray) (maxL : Nat) (ret : Option FieldType) (pc : Nat) (f : Stq) : Prop := ∀ fr lo F cf ns, f fr lo F cf = some ns → holds A F → ∃ n ∈ ns, holds A n.1 ∧ Sim l Z hz sh A O y bytes maxL ret fr lo pc cf n.2.1 n.2.2
/-- Object's constructor -/
def sInitO (mx nx : Nat) : Stq := fun fr lo F cf => match cf.2.1 with
  | (2, .index _) :: S => bif Nat.ble 1 fr && (Nat.ble (wt S + 12) lo && Nat.beq cf.1.length mx) then some [(F, nx, (cf.1, S, cf.2.2))] else none
  | _ => none
theorem g_initO {pc idx : Nat} {a0 : Array Value} (hd : decode bytes pc = .ok (.invokespecial idx, 3)) (w1 : (Cond.methodLink y.cls idx Lib.objectInit).before a0 Z = true) (w2 : (Cond.instanceMethod Lib.objectInit).before a0 Z = true) (w3 : (Cond.code Lib.objectInit ⟨#[0xb1]⟩ 1 none).before a0 Z = true) :
    GoodN l Z hz sh A O y bytes maxL ret pc (sInitO maxL (pc + 3)) := by
  intro fr lo F cf ns h hF
  obtain ⟨L, S, D, sl⟩ := cf
  simp only [sInitO] at h
  split at h
  · rename_i k S'
    cases hk : (Nat.ble 1 fr && (Nat.ble (wt S' + 12) lo && Nat.beq L.length maxL))
    · rw [hk] at h; cases h
    · rw [hk] at h; cases h
      simp only [Bool.and_eq_true] at hk
      have c1 := Nat.le_of_ble_eq_true hk.1
      have c2 := Nat.le_of_ble_eq_true hk.2.1
      have c3 := Nat.eq_of_beq_eq_true hk.2.2
      refine ⟨_, List.mem_cons_self .., hF, Nat.le_refl _, Nat.le_refl _, ?_⟩
      intro d0 s0 p e R s m args below meth c T locs hd0 hs0 hh hA X H N hc hl hfr hlo
      obtain ⟨T', X', e1, st⟩ := initO X hA.1 hA.2.1 hA.2.2.2.2.1 w1 w2 w3 rfl (g := frm hz A O m pc (L, (2, .index k) :: S', D, sl)) rfl (by show (L.map (sl1 A O hz.size)).toArray.size = _; rw [hA.2.2.2.1, ← c3]; simp) (a := hz.size + k) (rest := S'.map (vv A O hz.size)) rfl (hb hA.2.2.1 hd) (by omega) (W := wt S') (by show 2 * 0 + _ ≤ _; rw [wt_ok]; omega) (by omega)
      exact ⟨T', locs, X', by rw [e1]; exact H, N, st⟩
  · cases h
/-- the law's own run from here on returns 1 within the frame's figures -/
def Top (l : Launch) (Z : State) (hz : Heap) (sh : List Sh) (A : En) (O : Nat → Addr) (y : MethodName) (bytes : ByteArray) (maxL : Nat) (ret : Option FieldType) (C N fr lo pc : Nat) (cf : Cf) : Prop :=
  cf.2.2.1.length ≤ C ∧ cf.2.2.2 ≤ N ∧
  ∀ (p : Program) (e : Env) (R : Room) (s : State) (m : MethodId) (args : Array Value) (below : List Frame) (meth : Method) (c : Code) (T : State) (locs : List Loc),
    s.heap.size = hz.size → Act Z y bytes maxL ret p s m meth c → Stand p l e R s m args below meth c T locs cf.2.2.1.length cf.2.2.2 → HD Z hz sh A O T.heap cf.2.2.1 → Fr hz.size locs →
    C ≤ R.cells → N ≤ R.slots → fr ≤ R.frames → lo ≤ R.locals →
    ∃ s₂ locs', Steps p.tables e below (T.setTop (frm hz A O m pc cf)) s₂ ∧ s₂.status = .running ∧ Ended s₂ below (.returned (some (.int 1))) ∧ Fr hz.size locs' ∧
      s.WarmedH s₂.vm ∧ s.sameButNew ({ s₂ with vm := s.vm } : State) locs' C N
theorem Sim.top {fr lo C N pc pc' : Nat} {cf cf' : Cf} (S : Sim l Z hz sh A O y bytes maxL ret fr lo pc cf pc' cf') (K : Top l Z hz sh A O y bytes maxL ret C N fr lo pc' cf') : Top l Z hz sh A O y bytes maxL ret C N fr lo pc cf := by
  obtain ⟨s1, s2, s3⟩ := S
  obtain ⟨k1, k2, k3⟩ := K
  refine ⟨Nat.le_trans s1 k1, Nat.le_trans s2 k2, ?_⟩
  intro p e R s m args below meth c T locs hh hA X H N' hc hl hf hlo
  obtain ⟨T', locs', X', H', N'', st⟩ := s3 0 0 p e R s m args below meth c T locs (Nat.zero_le _) (Nat.zero_le _) hh hA X H N' (by rw [Nat.sub_zero]; omega) (by rw [Nat.sub_zero]; omega) hf hlo
  obtain ⟨s₂, L2, q1, q2⟩ := k3 p e R s m args below meth c T' locs' hh hA X' H' N'' hc hl hf hlo
  exact ⟨s₂, L2, st _ q1, q2⟩
theorem Top.mono {fr lo fr' lo' C N pc : Nat} {cf : Cf} (K : Top l Z hz sh A O y bytes maxL ret C N fr lo pc cf) (h1 : fr ≤ fr') (h2 : lo ≤ lo') : Top l Z hz sh A O y bytes maxL ret C N fr' lo' pc cf := by
  obtain ⟨k1, k2, k3⟩ := K
  refine ⟨k1, k2, ?_⟩
  intro p e R s m args below meth c T locs hh hA X H N' hc hl hf hlo
  exact k3 p e R s m args below meth c T locs hh hA X H N' hc hl (Nat.le_trans h1 hf) (Nat.le_trans h2 hlo)
theorem Ret.top {fr lo C N pc : Nat} {cf : Cf} {v : Option SV} {D' : List Ob} {sl' : Nat} (K : Ret l Z hz sh A O y bytes maxL ret fr lo pc cf v D' sl') (hv : v.map (vv A O hz.size) = some (.int 1)) (h1 : D'.length ≤ C) (h2 : sl' ≤ N) : Top l Z hz sh A O y bytes maxL ret C N fr lo pc cf := by
  obtain ⟨k1, k2, k3⟩ := K
  refine ⟨Nat.le_trans k1 h1, Nat.le_trans k2 h2, ?_⟩
  intro p e R s m args below meth c T locs hh hA X H N' hc hl hf hlo
  obtain ⟨s₂, L2, q1, q2, q3, q4, q5, q6, q7⟩ := k3 0 0 p e R s m args below meth c T locs (Nat.zero_le _) (Nat.zero_le _) hh hA X H N' (by rw [Nat.sub_zero]; omega) (by rw [Nat.sub_zero]; omega) hf hlo
  rw [hv] at q3
  exact ⟨s₂, L2, q1, q2, q3, q5, q6, q7.mono h1 h2⟩
end SimLaws
/-! a cut: the values in some locals are taken for new unknowns -/
def sub (σ : List Term) : Term → Term
  | .arg i => σ.getD i (.arg i)
  | .add a b => .add (sub σ a) (sub σ b)
  | .sub a b => .sub (sub σ a) (sub σ b)
  | .mul a b => .mul (sub σ a) (sub σ b)
  | .div a b => .div (sub σ a) (sub σ b)
  | .rem a b => .rem (sub σ a) (sub σ b)
  | .op2 o a b => .op2 o (sub σ a) (sub σ b)
  | .op1 o a => .op1 o (sub σ a)
  | t => t
def env' (A : En) (σ : List Term) : En := fun i => te A (σ.getD i (.arg i))
theorem te_sub (A : En) (σ : List Term) (t : Term) : te A (sub σ t) = te (env' A σ) t := by
  induction t <;> simp_all [sub, te, env']
def vq (σ : List Term) (x0 x : SV) : Bool := Nat.beq x0.1 x.1 && (match x0.1 with
  | 2 => tq x0.2 x.2
  | _ => tq (sub σ x0.2) x.2)
def vqs (σ : List Term) : List SV → List SV → Bool
  | [], [] => true
  | x :: xs, z :: zs => vq σ x z && vqs σ xs zs
  | _, _ => false
def lqs (σ : List Term) : List SL → List SL → Bool
  | [], [] => true
  | x :: xs, z :: zs => (match x, z with
    | none, none => true
    | some none, some none => true
    | some (some a), some (some b) => vq σ a b
    | _, _ => false) && lqs σ xs zs
  | _, _ => false
def oqs (σ : List Term) : List Ob → List Ob → Bool
  | [], [] => true
  | x :: xs, z :: zs => ((!(Nat.beq x.1 99) && Nat.beq x.1 z.1) && vqs σ x.2 z.2) && oqs σ xs zs
  | _, _ => false
def cfq (σ : List Term) (c0 c : Cf) : Bool := lqs σ c0.1 c.1 && (vqs σ c0.2.1 c.2.1 && (oqs σ c0.2.2.1 c.2.2.1 && Nat.beq c0.2.2.2 c.2.2.2))
theorem vq_ok {A : En} {O : Nat → Addr} {n0 : Nat} {σ : List Term} {x0 x : SV} (h : vq σ x0 x = true) : vv A O n0 x = vv (env' A σ) O n0 x0 := by
  obtain ⟨k0, t0⟩ := x0
  obtain ⟨k, t⟩ := x
  simp only [vq, Bool.and_eq_true] at h
  obtain ⟨h1, h2⟩ := h
  obtain rfl := Nat.eq_of_beq_eq_true h1
  by_cases q : k0 = 2
  · subst q
    simp only at h2
    obtain rfl := tq_eq h2; rfl
  · have h3 : sub σ t0 = t := by
      split at h2
      · exact absurd rfl q
      · exact tq_eq h2
    subst h3
    unfold vv
    simp only
    split
    · rw [te_sub]
    · rw [te_sub]
    · exact absurd rfl q
    · rw [te_sub]
theorem vqs_ok {A : En} {O : Nat → Addr} {n0 : Nat} {σ : List Term} : ∀ {xs zs : List SV}, vqs σ xs zs = true → zs.map (vv A O n0) = xs.map (vv (env' A σ) O n0)
  | [], [], _ => rfl
  | x :: xs, z :: zs, h => by
    simp only [vqs, Bool.and_eq_true] at h
    rw [List.map_cons, List.map_cons, vq_ok h.1, vqs_ok h.2]
  | [], _ :: _, h => by cases h
  | _ :: _, [], h => by cases h
theorem lqs_ok {A : En} {O : Nat → Addr} {n0 : Nat} {σ : List Term} : ∀ {xs zs : List SL}, lqs σ xs zs = true → zs.map (sl1 A O n0) = xs.map (sl1 (env' A σ) O n0)
  | [], [], _ => rfl
  | x :: xs, z :: zs, h => by
    simp only [lqs, Bool.and_eq_true] at h
    rw [List.map_cons, List.map_cons, lqs_ok h.2]
    congr 1
    have h1 := h.1
    match x, z, h1 with
    | none, none, _ => rfl
    | some none, some none, _ => rfl
    | some (some a), some (some b), h1 => exact congrArg Slot.val (vq_ok h1)
  | [], _ :: _, h => by cases h
  | _ :: _, [], h => by cases h
theorem oqs_ok {σ : List Term} : ∀ {xs zs : List Ob}, oqs σ xs zs = true → zs.length = xs.length ∧ ∀ (k : Nat) (o : Ob), xs[k]? = some o → o.1 ≠ 99 ∧ ∃ ys, zs[k]? = some (o.1, ys) ∧ vqs σ o.2 ys = true
  | [], [], _ => ⟨rfl, fun k o h => by simp at h⟩
  | x :: xs, z :: zs, h => by
    simp only [oqs, Bool.and_eq_true] at h
    obtain ⟨i1, i2⟩ := oqs_ok h.2
    refine ⟨by simp [i1], fun k o hk => ?_⟩
    cases k with
    | zero =>
      simp only [List.getElem?_cons_zero, Option.some.injEq] at hk ⊢
      subst hk
      refine ⟨fun e => ?_, z.2, by rw [Nat.eq_of_beq_eq_true h.1.1.2], h.1.2⟩
      have := h.1.1.1
      rw [e] at this; cases this
    | succ k => simpa using i2 k o (by simpa using hk)
  | [], _ :: _, h => by cases h
  | _ :: _, [], h => by cases h
theorem ObAt.sub {Z : State} {hz : Heap} {sh : List Sh} {A : En} {O : Nat → Addr} {σ : List Term} {h : Heap} {a : Addr} {n : Nat} {xs ys : List SV} (hn : n ≠ 99) (q : vqs σ xs ys = true) (X : ObAt Z hz sh A O h a (n, ys)) : ObAt Z hz sh (env' A σ) O h a (n, xs) := by
  have e := vqs_ok (A := A) (O := O) (n0 := hz.size) q
  have el : ys.length = xs.length := by simpa using congrArg List.length e
  unfold ObAt at X ⊢
  split
  · rename_i q2; rw [q2] at X; obtain ⟨cl, h1, h2, h3, h4⟩ := X; exact ⟨cl, h1, by rw [h2]; simp only; rw [e], by simp only; rw [← el]; exact h3, h4⟩
  · rename_i q2; rw [q2] at X
    obtain ⟨x1, x2, x3⟩ := X
    refine ⟨x1, el.symm.trans x2, fun i f x hf hx => ?_⟩
    simp only at hx x3
    have hi : i < ys.length := by rw [el]; exact (List.getElem?_eq_some_iff.mp hx).1
    have := x3 i f ys[i] hf (List.getElem?_eq_getElem hi)
    have e2 : vv A O hz.size ys[i] = vv (env' A σ) O hz.size x := by
      have := congrArg (fun L => L[i]?) e
      simp only [List.getElem?_map, hx, List.getElem?_eq_getElem hi, Option.map_some] at this
      exact Option.some.inj this
    rw [e2] at this; exact this
  · exact fun e => absurd e hn
theorem HD.sub {Z : State} {hz : Heap} {sh : List Sh} {A : En} {O : Nat → Addr} {σ : List Term} {h : Heap} {D0 D : List Ob} (q : oqs σ D0 D = true) (H : HD Z hz sh A O h D) : HD Z hz sh (env' A σ) O h D0 := by
  obtain ⟨i1, i2⟩ := oqs_ok q
  refine ⟨by rw [H.1, i1], H.2.1, fun k o hk => ?_⟩
  obtain ⟨e0, ys, e1, e2⟩ := i2 k o hk
  exact ObAt.sub e0 e2 (H.2.2 k _ e1)
theorem Top.sub {l : Launch} {Z : State} {hz : Heap} {sh : List Sh} {A : En} {O : Nat → Addr} {y : MethodName} {bytes : ByteArray} {maxL : Nat} {ret : Option FieldType} {σ : List Term} {C N fr lo pc : Nat} {c0 c : Cf} (q : cfq σ c0 c = true) (K : Top l Z hz sh (env' A σ) O y bytes maxL ret C N fr lo pc c0) : Top l Z hz sh A O y bytes maxL ret C N fr lo pc c := by
  simp only [cfq, Bool.and_eq_true] at q
  obtain ⟨q1, q2, q3, q4⟩ := q
  have e4 := Nat.eq_of_beq_eq_true q4
  have e3 := (oqs_ok q3).1
  obtain ⟨k1, k2, k3⟩ := K
  refine ⟨by rw [e3]; exact k1, by rw [← e4]; exact k2, ?_⟩
  intro p e R s m args below meth cc T locs hh hA X H N' hc hl hf hlo
  have ef : frm hz A O m pc c = frm hz (env' A σ) O m pc c0 := by unfold frm; rw [lqs_ok q1, vqs_ok q2]
  rw [ef]
  exact k3 p e R s m args below meth cc T locs hh hA (by rw [← e3, e4]; exact X) (HD.sub q3 H) N' hc hl hf hlo
/-- the terms that stand in some locals -/
def pick (L : List SL) : List Nat → List Term
  | [] => []
  | k :: ks => (match L[k]? with
    | some (some (some x)) => x.2
    | _ => .null) :: pick L ks
def allDec (F : List Cond) (σ : List Term) : List Cond → Bool
  | [] => true
  | c :: cs => (match c with
    | .eq a b => (match dec F (.eq (sub σ a) (sub σ b)) with
      | some true => true
      | _ => false)
    | .lt a b => (match dec F (.lt (sub σ a) (sub σ b)) with
      | some true => true
      | _ => false)
    | .not (.eq a b) => (match dec F (.eq (sub σ a) (sub σ b)) with
      | some false => true
      | _ => false)
    | .not (.lt a b) => (match dec F (.lt (sub σ a) (sub σ b)) with
      | some false => true
      | _ => false)
    | _ => false) && allDec F σ cs
theorem allDec_ok {A : En} {F : List Cond} {σ : List Term} (hF : holds A F) : ∀ {cs : List Cond}, allDec F σ cs = true → holds (env' A σ) cs
  | [], _ => fun _ h => nomatch h
  | c :: cs, h => by
    simp only [allDec, Bool.and_eq_true] at h
    refine holds_cons ?_ (allDec_ok hF h.2)
    have h1 := h.1
    split at h1
    · rename_i a b
      split at h1
      · rename_i q; have := (dec_ok hF q).mpr rfl; simpa only [hold, te_sub] using this
      · cases h1
    · rename_i a b
      split at h1
      · rename_i q; have := (dec_ok hF q).mpr rfl; simpa only [hold, te_sub] using this
      · cases h1
    · rename_i a b
      split at h1
      · rename_i q; have this : ¬ _ := fun x => nomatch (dec_ok hF q).mp x; simpa only [hold, te_sub] using this
      · cases h1
    · rename_i a b
      split at h1
      · rename_i q; have this : ¬ _ := fun x => nomatch (dec_ok hF q).mp x; simpa only [hold, te_sub] using this
      · cases h1
    · cases h1
/-- a cut: least room, the state there over new unknowns, the locals that name them, the facts asked of them -/
abbrev Ct := Nat × Nat × Cf × List Nat × List Cond
def atCut (k : Ct) (fr lo : Nat) (F : List Cond) (cf : Cf) : Bool := Nat.ble k.1 fr && (Nat.ble k.2.1 lo && (cfq (pick cf.1 k.2.2.2.1) k.2.2.1 cf && allDec F (pick cf.1 k.2.2.2.1) k.2.2.2.2))
abbrev Rt := List SV → Option (Option SV)
abbrev Tst := Nat → Nat → List Cond → Cf → Bool
abbrev Ki := Stp ⊕ (Kl ⊕ (Rt ⊕ (Stq ⊕ Tst)))
abbrev El := Nat × Ki
abbrev Mt := Nat × List El
abbrev Fm := Nat × List El × List SL × List SV × Nat × Nat
abbrev Pd := List Cond × Option SV
abbrev St := Nat × List El × Cf × List Cond × Nat × Nat × List Fm
def kS (f : Stp) : Ki := .inl f
def kC (cj na nx : Nat) (ck : List SV → List Ob → Bool) : Ki := .inr (.inl (cj, na, nx, ck))
def kR (g : Rt) : Ki := .inr (.inr (.inl g))
def kN (f : Stq) : Ki := .inr (.inr (.inr (.inl f)))
def kX (k : Tst) : Ki := .inr (.inr (.inr (.inr k)))
def seekF : List El → Nat → List El
  | [], _ => []
  | el :: r, pc => bif Nat.beq el.1 pc then el :: r else seekF r pc
def seek (M : List Mt) (j : Nat) (tl : List El) (pc : Nat) : List El := match tl with
  | [] => (match M[j]? with
    | some m => seekF m.2 pc
    | none => [])
  | el :: r => bif Nat.beq el.1 pc then el :: r else (match M[j]? with
    | some m => seekF m.2 pc
    | none => [])
def coll (g : Nx → Option (List Pd)) : List Nx → Option (List Pd)
  | [] => some []
  | [n] => g n
  | n :: ns => match g n with
    | none => none
    | some a => match coll g ns with
      | none => none
      | some b => some (a ++ b)
def isOne : Option SV → Bool
  | some (0, .int x) => x == 1
  | _ => false
def leaf (C N : Nat) (F : List Cond) (v : Option SV) (r : List Ob × Nat) : Option (List Pd) :=
  bif Nat.ble r.1.length C && Nat.ble r.2 N then (bif isOne v then some [] else some [(F, v)]) else none
def body (M : List Mt) (C N : Nat) (ih : St → Option (List Pd)) (st : St) : Option (List Pd) := match st with
  | (j, rem, cf, F, fr, lo, stk) => match rem with
    | [] => none
    | el :: tl => match el.2 with
      | .inl f => (match f F cf with
        | none => some [(F, none)]
        | some ns => coll (fun n => ih (j, seek M j tl n.2.1, n.2.2, n.1, fr, lo, stk)) ns)
      | .inr (.inl k) => (match M[k.1]? with
        | none => none
        | some m => (match M[j]? with
          | none => none
          | some mj => bif Nat.ble k.2.1 cf.2.1.length && (Nat.beq cf.1.length mj.1 && (k.2.2.2 (cf.2.1.take k.2.1) cf.2.2.1 && (Nat.ble 1 fr && Nat.ble (wt (cf.2.1.drop k.2.1) + (m.1 + 11)) lo))) then
              ih (k.1, m.2, (entL (cf.2.1.take k.2.1).reverse m.1, [], cf.2.2), F, fr - 1, lo - (wt (cf.2.1.drop k.2.1) + (m.1 + 11)), (j, seek M j tl k.2.2.1, cf.1, cf.2.1.drop k.2.1, fr, lo) :: stk)
            else some [(F, none)]))
      | .inr (.inr (.inl g)) => (match g cf.2.1 with
        | none => some [(F, none)]
        | some v => (match stk with
          | [] => leaf C N F v cf.2.2
          | fm :: stk' => ih (fm.1, fm.2.1, (fm.2.2.1, v.toList ++ fm.2.2.2.1, cf.2.2), F, fm.2.2.2.2.1, fm.2.2.2.2.2, stk')))
      | .inr (.inr (.inr (.inl f))) => (match f fr lo F cf with
        | none => some [(F, none)]
        | some ns => coll (fun n => ih (j, seek M j tl n.2.1, n.2.2, n.1, fr, lo, stk)) ns)
      | .inr (.inr (.inr (.inr k))) => (match stk with
        | [] => bif k fr lo F cf then some [] else some [(F, none)]
        | _ => some [(F, none)])
def xgo (M : List Mt) (C N : Nat) : Nat → St → Option (List Pd)
  | 0, _ => none
  | n + 1, st => body M C N (xgo M C N n) st
theorem xgo_succ (M : List Mt) (C N n : Nat) (st : St) : xgo M C N (n + 1) st = body M C N (xgo M C N n) st := rfl
def cont (M : List Mt) (C N n : Nat) (stk : List Fm) (F : List Cond) (v : Option SV) (r : List Ob × Nat) : Option (List Pd) := match stk with
  | [] => leaf C N F v r
  | fm :: stk' => xgo M C N n (fm.1, fm.2.1, (fm.2.2.1, v.toList ++ fm.2.2.2.1, r), F, fm.2.2.2.2.1, fm.2.2.2.2.2, stk')
theorem coll_mem {g : Nx → Option (List Pd)} : ∀ {ns : List Nx} {P : List Pd} {n : Nx}, coll g ns = some P → n ∈ ns → ∃ P', g n = some P' ∧ ∀ q ∈ P', q ∈ P
  | [], P, n, _, hn => nomatch hn
  | [m], P, n, h, hn => by
    rcases List.mem_singleton.mp hn with rfl
    exact ⟨P, h, fun _ q => q⟩
  | m :: k :: ns, P, n, h, hn => by
    simp only [coll] at h
    cases hg : g m with
    | none => rw [hg] at h; cases h
    | some a =>
      rw [hg] at h
      simp only at h
      cases hc : coll g (k :: ns) with
      | none => rw [hc] at h; cases h
      | some b =>
        rw [hc] at h; cases h
        rcases List.mem_cons.mp hn with rfl | hn
        · exact ⟨a, hg, fun q hq => List.mem_append_left _ hq⟩
        · obtain ⟨P', h1, h2⟩ := coll_mem hc hn
          exact ⟨P', h1, fun q hq => List.mem_append_right _ (h2 q hq)⟩
theorem seekF_ok {code : List El} {pc : Nat} : (∀ el ∈ seekF code pc, el ∈ code) ∧ ∀ el tl, seekF code pc = el :: tl → el.1 = pc := by
  induction code with
  | nil => exact ⟨fun _ h => h, fun _ _ h => by cases h⟩
  | cons e r ih =>
    unfold seekF
    cases q : Nat.beq e.1 pc
    · exact ⟨fun el h => List.mem_cons_of_mem _ (ih.1 el h), ih.2⟩
    · refine ⟨fun _ h => h, fun el tl h => ?_⟩
      cases h; exact Nat.eq_of_beq_eq_true q
theorem seek_ok {M : List Mt} {j mx pc : Nat} {code tl : List El} (hM : M[j]? = some (mx, code)) (ht : ∀ el ∈ tl, el ∈ code) : (∀ el ∈ seek M j tl pc, el ∈ code) ∧ ∀ el tl', seek M j tl pc = el :: tl' → el.1 = pc := by
  unfold seek
  rw [hM]
  split
  · exact seekF_ok
  · rename_i e r
    cases q : Nat.beq e.1 pc
    · exact seekF_ok
    · refine ⟨ht, fun el tl h => ?_⟩
      cases h; exact Nat.eq_of_beq_eq_true q
section Run
variable {l : Launch} {Z : State} {hz : Heap} {sh : List Sh} {A : En} {O : Nat → Addr}
def ElOk (l : Launch) (Z : State) (hz : Heap) (sh : List Sh) (A : En) (O : Nat → Addr) (C N : Nat) (M : List Mt) (MI : Nat → MethodName × ByteArray × Option FieldType) (j mx : Nat) (el : El) : Prop := match el.2 with
  | .inl f => Good l Z hz sh A O (MI j).1 (MI j).2.1 mx (MI j).2.2 el.1 f
  | .inr (.inl k) => ∀ m, M[k.1]? = some m → CallGood l Z hz sh A O (MI j).1 (MI j).2.1 mx (MI j).2.2 (MI k.1).1 (MI k.1).2.1 m.1 (MI k.1).2.2 el.1 k.2.1 k.2.2.1 k.2.2.2
  | .inr (.inr (.inl g)) => RetGood l Z hz sh A O (MI j).1 (MI j).2.1 mx (MI j).2.2 el.1 g
  | .inr (.inr (.inr (.inl f))) => GoodN l Z hz sh A O (MI j).1 (MI j).2.1 mx (MI j).2.2 el.1 f
  | .inr (.inr (.inr (.inr k))) => ∀ fr lo F cf, k fr lo F cf = true → holds A F → Top l Z hz sh A O (MI j).1 (MI j).2.1 mx (MI j).2.2 C N fr lo el.1 cf
def MtOk (l : Launch) (Z : State) (hz : Heap) (sh : List Sh) (A : En) (O : Nat → Addr) (C N : Nat) (M : List Mt) (MI : Nat → MethodName × ByteArray × Option FieldType) : Prop := ∀ j mx code, M[j]? = some (mx, code) → (∀ el ∈ code, ElOk l Z hz sh A O C N M MI j mx el) ∧ ∀ el tl, code = el :: tl → el.1 = 0
theorem run_ok {M : List Mt} {C N : Nat} {MI : Nat → MethodName × ByteArray × Option FieldType} (hM : MtOk l Z hz sh A O C N M MI) : ∀ (n : Nat) (j : Nat) (rem : List El) (cf : Cf) (F : List Cond) (fr lo : Nat) (stk : List Fm) (P : List Pd) (mx : Nat) (code : List El),
    xgo M C N n (j, rem, cf, F, fr, lo, stk) = some P → holds A F → (∀ q ∈ P, q.2 = none → ¬ holds A q.1) → M[j]? = some (mx, code) → (∀ el ∈ rem, el ∈ code) →
    ∃ el tl, rem = el :: tl ∧ ((∃ k, k < n ∧ ∃ F' v D' sl' P', holds A F' ∧ cont M C N k stk F' v (D', sl') = some P' ∧ (∀ q ∈ P', q ∈ P) ∧ Ret l Z hz sh A O (MI j).1 (MI j).2.1 mx (MI j).2.2 fr lo el.1 cf v D' sl')
      ∨ (stk = [] ∧ Top l Z hz sh A O (MI j).1 (MI j).2.1 mx (MI j).2.2 C N fr lo el.1 cf)) := by
  intro n
  induction n using Nat.strongRecOn with
  | ind n IH =>
    intro j rem cf F fr lo stk P mx code h hF hP hj hr
    cases n with
    | zero => cases h
    | succ n =>
      rw [xgo_succ] at h
      unfold body at h
      cases rem with
      | nil => cases h
      | cons el tl =>
        refine ⟨el, tl, rfl, ?_⟩
        have hel := (hM j mx code hj).1 el (hr el (List.mem_cons_self ..))
        have htl : ∀ e ∈ tl, e ∈ code := fun e he => hr e (List.mem_cons_of_mem _ he)
        have step : ∀ (ns : List Nx) (pc : Nat), coll (fun n' => xgo M C N n (j, seek M j tl n'.2.1, n'.2.2, n'.1, fr, lo, stk)) ns = some P → (∃ nx ∈ ns, holds A nx.1 ∧ Sim l Z hz sh A O (MI j).1 (MI j).2.1 mx (MI j).2.2 fr lo pc cf nx.2.1 nx.2.2) →
            ((∃ k, k < n + 1 ∧ ∃ F' v D' sl' P', holds A F' ∧ cont M C N k stk F' v (D', sl') = some P' ∧ (∀ q ∈ P', q ∈ P) ∧ Ret l Z hz sh A O (MI j).1 (MI j).2.1 mx (MI j).2.2 fr lo pc cf v D' sl')
              ∨ (stk = [] ∧ Top l Z hz sh A O (MI j).1 (MI j).2.1 mx (MI j).2.2 C N fr lo pc cf)) := by
          intro ns pc h ⟨nx, hn, hG, hS⟩
          obtain ⟨P1, g1, g2⟩ := coll_mem h hn
          obtain ⟨k1, k2⟩ := seek_ok (pc := nx.2.1) hj htl
          obtain ⟨el', tl', er, a⟩ := IH n (Nat.lt_succ_self n) j _ nx.2.2 nx.1 fr lo stk P1 mx code g1 hG (fun q hq => hP q (g2 q hq)) hj k1
          rw [k2 el' tl' er] at a
          rcases a with ⟨k, hk, F', v, D', sl', P', a1, a2, a3, a4⟩ | ⟨a1, a2⟩
          · exact Or.inl ⟨k, Nat.lt_succ_of_lt hk, F', v, D', sl', P', a1, a2, fun q hq => g2 q (a3 q hq), hS.thenRet a4⟩
          · exact Or.inr ⟨a1, hS.top a2⟩
        obtain ⟨pc, kind⟩ := el
        simp only at h
        cases kind with
        | inl f =>
          simp only at h
          have hgood : Good l Z hz sh A O (MI j).1 (MI j).2.1 mx (MI j).2.2 pc f := hel
          cases hf : f F cf with
          | none =>
            rw [hf] at h; cases h
            exact absurd hF (hP (F, none) (List.mem_cons_self ..) rfl)
          | some ns =>
            rw [hf] at h
            simp only at h
            obtain ⟨nx, hn, hG, hS⟩ := hgood F cf ns hf hF
            exact step ns pc h ⟨nx, hn, hG, hS.mono (Nat.zero_le _) (Nat.zero_le _)⟩
        | inr kind =>
          cases kind with
          | inl kl =>
            simp only at h
            have hcall : ∀ m, M[kl.1]? = some m → CallGood l Z hz sh A O (MI j).1 (MI j).2.1 mx (MI j).2.2 (MI kl.1).1 (MI kl.1).2.1 m.1 (MI kl.1).2.2 pc kl.2.1 kl.2.2.1 kl.2.2.2 := hel
            obtain ⟨cj, na, nx, ck⟩ := kl
            obtain ⟨L, S, D, sl⟩ := cf
            simp only at h hcall
            cases hm : M[cj]? with
            | none => rw [hm] at h; cases h
            | some m =>
              obtain ⟨mx', code'⟩ := m
              rw [hm, hj] at h
              simp only at h
              cases hc : (Nat.ble na S.length && (Nat.beq L.length mx && (ck (S.take na) D && (Nat.ble 1 fr && Nat.ble (wt (S.drop na) + (mx' + 11)) lo))))
              · rw [hc] at h; cases h
                exact absurd hF (hP (F, none) (List.mem_cons_self ..) rfl)
              · rw [hc] at h
                simp only [Bool.and_eq_true] at hc
                obtain ⟨c1, c2, c3, c4, c5⟩ := hc
                have c1 := Nat.le_of_ble_eq_true c1
                have c2 := Nat.eq_of_beq_eq_true c2
                have c4 := Nat.le_of_ble_eq_true c4
                have c5 := Nat.le_of_ble_eq_true c5
                simp only [cond_true] at h
                obtain ⟨el', tl', er, a⟩ := IH n (Nat.lt_succ_self n) cj code' _ F (fr - 1) _ _ P mx' code' h hF hP hm (fun _ q => q)
                rw [(hM cj mx' code' hm).2 el' tl' er] at a
                rcases a with ⟨k, hk, F', v, D', sl', P', a1, a2, a3, a4⟩ | ⟨a1, -⟩
                · have hS := hcall (mx', code') hm L S D sl fr lo v D' sl' c1 c2 c3 c4 c5 a4
                  have a2' : xgo M C N k (j, seek M j tl nx, (L, v.toList ++ S.drop na, (D', sl')), F', fr, lo, stk) = some P' := a2
                  obtain ⟨k1, k2⟩ := seek_ok (pc := nx) hj htl
                  obtain ⟨el2, tl2, er2, b⟩ := IH k (Nat.lt_succ_of_lt hk) j _ _ F' fr lo stk P' mx code a2' a1 (fun q hq => hP q (a3 q hq)) hj k1
                  rw [k2 el2 tl2 er2] at b
                  rcases b with ⟨k', hk', F2, v2, D2, sl2, P2, b1, b2, b3, b4⟩ | ⟨b1, b2⟩
                  · exact Or.inl ⟨k', by omega, F2, v2, D2, sl2, P2, b1, b2, fun q hq => a3 q (b3 q hq), hS.thenRet b4⟩
                  · exact Or.inr ⟨b1, hS.top b2⟩
                · cases a1
          | inr kind =>
            cases kind with
            | inl g =>
              simp only at h
              have hret : RetGood l Z hz sh A O (MI j).1 (MI j).2.1 mx (MI j).2.2 pc g := hel
              obtain ⟨L, S, D, sl⟩ := cf
              simp only at h
              cases hg : g S with
              | none =>
                rw [hg] at h; cases h
                exact absurd hF (hP (F, none) (List.mem_cons_self ..) rfl)
              | some v =>
                rw [hg] at h
                simp only at h
                refine Or.inl ⟨n, Nat.lt_succ_self n, F, v, D, sl, P, hF, ?_, fun _ q => q, hret L S D sl fr lo v hg⟩
                unfold cont
                cases stk with
                | nil => exact h
                | cons fm stk' => exact h
            | inr kind =>
              cases kind with
              | inl f =>
                simp only at h
                have hgood : GoodN l Z hz sh A O (MI j).1 (MI j).2.1 mx (MI j).2.2 pc f := hel
                cases hf : f fr lo F cf with
                | none =>
                  rw [hf] at h; cases h
                  exact absurd hF (hP (F, none) (List.mem_cons_self ..) rfl)
                | some ns =>
                  rw [hf] at h
                  simp only at h
                  exact step ns pc h (hgood fr lo F cf ns hf hF)
              | inr k =>
                simp only at h
                have hcut : ∀ fr lo F cf, k fr lo F cf = true → holds A F → Top l Z hz sh A O (MI j).1 (MI j).2.1 mx (MI j).2.2 C N fr lo pc cf := hel
                cases stk with
                | nil =>
                  simp only at h
                  cases hc : k fr lo F cf
                  · rw [hc] at h; cases h
                    exact absurd hF (hP (F, none) (List.mem_cons_self ..) rfl)
                  · exact Or.inr ⟨rfl, hcut fr lo F cf hc hF⟩
                | cons fm stk' =>
                  cases h
                  exact absurd hF (hP (F, none) (List.mem_cons_self ..) rfl)
/-- the run from some pc of the law's own body -/
theorem top_ok {M : List Mt} {C N : Nat} {MI : Nat → MethodName × ByteArray × Option FieldType} (hM : MtOk l Z hz sh A O C N M MI) {n mx pc : Nat} {code : List El} {cf : Cf} {F : List Cond} {fr lo : Nat} {P : List Pd}
    (hj : M[0]? = some (mx, code)) (hg : xgo M C N n (0, seekF code pc, cf, F, fr, lo, []) = some P) (hF : holds A F) (hP : ∀ q ∈ P, holds A q.1 → ∃ t, q.2 = some (0, t) ∧ (te A t).1 = 1) :
    Top l Z hz sh A O (MI 0).1 (MI 0).2.1 mx (MI 0).2.2 C N fr lo pc cf := by
  obtain ⟨el, tl, er, a⟩ := run_ok hM n 0 _ cf F fr lo [] P mx code hg hF (fun q hq h0 h1 => by obtain ⟨t, h2, -⟩ := hP q hq h1; rw [h0] at h2; cases h2) hj (seekF_ok).1
  rw [(seekF_ok).2 el tl er] at a
  rcases a with ⟨k, -, F', v, D', sl', P', a1, a2, a3, a4⟩ | ⟨-, a2⟩
  · have a2' : leaf C N F' v (D', sl') = some P' := a2
    unfold leaf at a2'
    cases hq : (Nat.ble (D', sl').1.length C && Nat.ble (D', sl').2 N)
    · rw [hq] at a2'; cases a2'
    · rw [hq] at a2'
      simp only [Bool.and_eq_true] at hq
      have q1 := Nat.le_of_ble_eq_true hq.1
      have q2 := Nat.le_of_ble_eq_true hq.2
      have q1 : D'.length ≤ C := q1
      have q2 : sl' ≤ N := q2
      have hv : v.map (vv A O hz.size) = some (.int 1) := by
        cases h1 : isOne v
        · rw [h1] at a2'; cases a2'
          obtain ⟨t, h2, h3⟩ := hP (F', v) (a3 _ (List.mem_cons_self ..)) a1
          simp only at h2
          rw [h2]
          show some (Value.int (te A t).1) = _
          rw [h3]
        · unfold isOne at h1
          split at h1
          · rename_i x
            obtain rfl := beq_iff_eq.mp h1; rfl
          · cases h1
      exact a4.top hv q1 q2
  · exact a2
/-- the same tables with a cut laid into the law's own body -/
def xcut (code : List El) (pc : Nat) (k : Tst) : List El := code.map fun el => bif Nat.beq el.1 pc then (el.1, kX k) else el
theorem cutC_ok {C N pc mx : Nat} {y : MethodName} {bytes : ByteArray} {ret : Option FieldType} {k : Ct} (hK : ∀ A' : En, holds A' k.2.2.2.2 → Top l Z hz sh A' O y bytes mx ret C N k.1 k.2.1 pc k.2.2.1) : ∀ fr lo F cf, atCut k fr lo F cf = true → holds A F → Top l Z hz sh A O y bytes mx ret C N fr lo pc cf := by
  intro fr lo F cf hc hF
  simp only [atCut, Bool.and_eq_true] at hc
  obtain ⟨c1, c2, c3, c4⟩ := hc
  exact Top.sub c3 ((hK _ (allDec_ok hF c4)).mono (Nat.le_of_ble_eq_true c1) (Nat.le_of_ble_eq_true c2))
theorem mt_cut {C N : Nat} {MI : Nat → MethodName × ByteArray × Option FieldType} {mx pc : Nat} {code : List El} {Ms : List Mt} {k : Tst} (hM : MtOk l Z hz sh A O C N ((mx, code) :: Ms) MI)
    (hK : ∀ fr lo F cf, k fr lo F cf = true → holds A F → Top l Z hz sh A O (MI 0).1 (MI 0).2.1 mx (MI 0).2.2 C N fr lo pc cf) : MtOk l Z hz sh A O C N ((mx, xcut code pc k) :: Ms) MI := by
  have key : ∀ (j mxj : Nat) (el : El), ElOk l Z hz sh A O C N ((mx, code) :: Ms) MI j mxj el → ElOk l Z hz sh A O C N ((mx, xcut code pc k) :: Ms) MI j mxj el := by
    intro j mxj el h
    obtain ⟨p, kind⟩ := el
    rcases kind with f | kl | g | f | q
    · exact h
    · intro m hm
      have h' : ∀ m, ((mx, code) :: Ms)[kl.1]? = some m → CallGood l Z hz sh A O (MI j).1 (MI j).2.1 mxj (MI j).2.2 (MI kl.1).1 (MI kl.1).2.1 m.1 (MI kl.1).2.2 p kl.2.1 kl.2.2.1 kl.2.2.2 := h
      cases hq : kl.1 with
      | zero =>
        rw [hq] at hm
        have e : m = (mx, xcut code pc k) := by simpa using hm.symm
        subst e
        have := h' (mx, code) (by rw [hq]; rfl)
        simpa [hq] using this
      | succ n =>
        rw [hq] at hm
        have := h' m (by rw [hq]; simpa using hm)
        simpa [hq] using this
    · exact h
    · exact h
    · exact h
  intro j mxj code' hj
  cases j with
  | zero =>
    have e : (mx, xcut code pc k) = (mxj, code') := by simpa using hj
    cases e
    obtain ⟨h1, h2⟩ := hM 0 mx code rfl
    refine ⟨fun el hel => ?_, fun el tl q => ?_⟩
    · obtain ⟨el0, h3, h4⟩ := List.mem_map.mp hel
      cases hb : Nat.beq el0.1 pc
      · rw [hb] at h4; cases h4; exact key 0 mx el0 (h1 el0 h3)
      · rw [hb] at h4; cases h4
        have e2 := Nat.eq_of_beq_eq_true hb
        intro fr lo F cf hk hF
        rw [e2]; exact hK fr lo F cf hk hF
    · unfold xcut at q
      cases code with
      | nil => cases q
      | cons el0 tl0 =>
        rw [List.map_cons] at q
        have := h2 el0 tl0 rfl
        injection q with q1 q2
        rw [← q1]
        cases hb : Nat.beq el0.1 pc
        · exact this
        · exact this
  | succ n =>
    have e : ((mx, code) :: Ms)[n + 1]? = some (mxj, code') := by simpa using hj
    obtain ⟨h1, h2⟩ := hM (n + 1) mxj code' e
    exact ⟨fun el hel => key (n + 1) mxj el (h1 el hel), h2⟩
/-- from the run to the law's contract -/
theorem law_ok {y : MethodName} {bytes : ByteArray} {mx : Nat} {ret : Option FieldType} {C N fr lo : Nat} {xs : List SV} (K : Top l Z hz sh A O y bytes mx ret C N fr lo 0 (entL xs mx, [], [], 0)) (hpl : plainFor y = true) (ws : List Cond) (R : Room) (hR : R = { frames := fr, cells := C, slots := N, locals := lo }) :
    MetFree l y (head1 (Cond.code y bytes mx ret :: ws) R) (fun a U => a = (xs.map (vv A O hz.size)).toArray ∧ (Z.Warmed39 U.vm ∧ Z.WarmedH U.vm) ∧ U.heap = hz) (fun _ _ _ _ _ => True)
      (fun _ U o U' => ∃ v L, o = .returned v ∧ (v = some (.int 1) ∧ Fr hz.size L) ∧ FrameEnd U o U' L C N) := by
  obtain ⟨-, -, k3⟩ := K
  have H0 : HD Z hz sh A O hz [] := ⟨rfl, fun _ _ => rfl, fun k o h => by simp at h⟩
  refine MetFree.of_bodySF hpl hisR ?_
  intro p e s m args below meth c s₁ Bd hml hPp hK
  obtain ⟨rfl, hZ, hh⟩ := hPp
  have X0 : Stand p l e R s m _ below meth c s₁ [] 0 0 := Stand.of_body Bd
  have e0 : s₁.heap = hz := by rw [← hh, Bd.state]; rfl
  subst hR
  obtain ⟨s₂, L2, k1, k2, k3, k5, k6, k7⟩ := k3 p e _ s m _ below meth c s₁ [] (by rw [hh])
    ⟨Bd.exec, hZ.1, Bd.bytes, hml, findClass_of_methodNamed Bd.named, (name_of_methodNamed Bd.named Bd.method).1, Bd.returns, Bd.notSynchronized, hZ.2, Bd.named⟩
    X0 (by rw [e0]; exact H0) (Fr.nil _) (Nat.le_refl _) (Nat.le_refl _) (Nat.le_refl _) (Nat.le_refl _)
  refine ⟨s₂, .returned (some (.int 1)), ?_, k2, k3, _, L2, rfl, ⟨rfl, k5⟩, ⟨_, rfl⟩, k6, k7⟩
  rw [ent_ok m xs mx ([], 0)]; exact k1
end Run
end Jvm.OwnX

/-! ### 8. More steps -/
namespace Jvm.OwnX
open Sem ClassFile Op Lib Jvm.Stand Jvm.Free Jvm.LawKit Jvm.RoadKit
section More
variable {l : Launch} {Z : State} {hz : Heap} {sh : List Sh} {A : En} {O : Nat → Addr} {y : MethodName} {bytes : ByteArray} {maxL : Nat} {ret : Option FieldType} {a0 : Array Value}
def sDupX2 (nx : Nat) : Stp := fun F cf => match cf.2.1 with
  | x :: z :: w :: S => bif (cat x == 1) && ((cat z == 1) && (cat w == 1)) then some [(F, nx, (cf.1, x :: z :: w :: x :: S, cf.2.2))] else none
  | _ => none
theorem g_dupX2 {pc : Nat} (hd : decode bytes pc = .ok (.dup_x2, 1)) : Good l Z hz sh A O y bytes maxL ret pc (sDupX2 (pc + 1)) :=
  good_one fun F L S D sl ns h => by
    simp only [sDupX2] at h
    split at h
    · rename_i x z w S'
      cases hk : ((cat x == 1) && ((cat z == 1) && (cat w == 1)))
      · rw [hk] at h; cases h
      · rw [hk] at h; cases h
        simp only [Bool.and_eq_true, beq_iff_eq] at hk
        refine ⟨_, _, rfl, fun hF p e R s m args below meth c T locs cells slots hA X H target st => ?_⟩
        have c1 : (vv A O hz.size x).category = 1 := by rw [vv_cat]; exact hk.1
        have c2 : (vv A O hz.size z).category = 1 := by rw [vv_cat]; exact hk.2.1
        have c3 : (vv A O hz.size w).category = 1 := by rw [vv_cat]; exact hk.2.2
        have hdd := hb hA.2.2.1 hd
        show Steps p.tables e below (T.setTop (mkF m pc (L.map (sl1 A O hz.size)).toArray (vv A O hz.size x :: vv A O hz.size z :: vv A O hz.size w :: S'.map (vv A O hz.size)))) target
        have st' : Steps p.tables e below (T.setTop (mkF m (pc + 1) (L.map (sl1 A O hz.size)).toArray (vv A O hz.size x :: vv A O hz.size z :: vv A O hz.size w :: vv A O hz.size x :: S'.map (vv A O hz.size)))) target := st
        revert st'
        generalize vv A O hz.size x = vx at *
        generalize vv A O hz.size z = vz at *
        generalize vv A O hz.size w = vw at *
        intro st'
        jvm_step X.here [X.here.top, hA.1, hdd, c1, c2, c3]
        exact st'
    · cases h
/-- a static field whose value is known -/
theorem g_getstatic {pc idx : Nat} {K n d : String} {x : SV} (hd : decode bytes pc = .ok (.getstatic idx, 3)) (w : (Cond.fieldLink y.cls idx K n d).before a0 Z = true) (hS : Sta Z hz K n d (vv A O hz.size x)) : Good l Z hz sh A O y bytes maxL ret pc (sPush x (pc + 3)) := by
  intro F cf ns h hF
  obtain ⟨L, S, D, sl⟩ := cf
  cases h
  refine ⟨_, List.mem_cons_self .., hF, Nat.le_refl _, Nat.le_refl _, ?_⟩
  intro d0 s0 p e R s m args below meth c T locs hd0 hs0 hh hA X H N hc hl hfr hlo
  obtain ⟨T', X', e1, st⟩ := getS X hA.1 hA.2.1 hA.2.2.2.2.1 w Via.refl (host := "") rfl (hS.ext H.ext) (g := frm hz A O m pc (L, S, D, sl)) rfl (hb hA.2.2.1 hd)
  exact ⟨T', locs, X', by rw [e1]; exact H, N, st⟩
/-! arrays of references -/
def sNewR (sid : Nat) (nx : Nat) : Stp := fun F cf => match cf.2.1 with
  | (0, t) :: S => (match cv F t with
    | some v => bif decide (0 ≤ v) && Nat.ble v.toNatClampNeg 67108864 then some [(F, nx, (cf.1, (2, .index cf.2.2.1.length) :: S, cf.2.2.1 ++ [(sid, List.replicate v.toNatClampNeg (2, .null))], cf.2.2.2 + v.toNatClampNeg))] else none
    | none => none)
  | _ => none
theorem g_anewarray {pc sid idx : Nat} {C : String} {r : String × Nat × List Fi} (hd : decode bytes pc = .ok (.anewarray idx, 3)) (hs : sh[sid]? = some (some (.object C), r)) (w1 : (Cond.classLink y.cls idx C).before a0 Z = true) (w2 : (Cond.arrayOver (.object C)).before a0 Z = true) :
    Good l Z hz sh A O y bytes maxL ret pc (sNewR sid (pc + 3)) := by
  intro F cf ns h hF
  obtain ⟨L, S, D, sl⟩ := cf
  simp only [sNewR] at h
  split at h
  · rename_i t S'
    split at h
    · rename_i v q
      cases hv : (decide (0 ≤ v) && Nat.ble v.toNatClampNeg 67108864)
      · rw [hv] at h; cases h
      · rw [hv] at h; cases h
        simp only [Bool.and_eq_true, decide_eq_true_eq] at hv
        obtain ⟨v1, v2⟩ := hv
        have v2 := Nat.le_of_ble_eq_true v2
        have hv0 : ¬ v < 0 := Int32.not_lt.mpr v1
        have ev := cv_ok hF q
        refine ⟨_, List.mem_cons_self .., hF, by simp, by simp, ?_⟩
        intro d0 s0 p e R s m args below meth c T locs hd0 hs0 hh hA X H N hc hl hfr hlo
        simp only [List.length_append, List.length_cons, List.length_nil] at hc hl hd0 hs0 X H ⊢
        have hgs : (frm hz A O m pc (L, (0, t) :: S', D, sl)).stack = .int v :: S'.map (vv A O hz.size) := by show Value.int (te A t).1 :: _ = _; rw [ev]
        obtain ⟨T', h', cA, X', e1, E, Ar, Ov, st⟩ := newR X hA.1 hA.2.1 hA.2.2.2.2.1 w1 w2 rfl (g := frm hz A O m pc (L, (0, t) :: S', D, sl)) rfl (hb hA.2.2.1 hd) hgs hv0 (cap := v.toNatClampNeg) (Nat.le_refl _) (by omega) (by omega) (by omega)
        have hsz : T'.heap.size = T.heap.size + 1 := grown X' hd0 hh H (by rw [e1]; exact Ar.lt)
        have c1 : D.length + (0 + 1) - d0 = D.length - d0 + 1 := by omega
        have c2 : sl + v.toNatClampNeg - s0 = sl - s0 + v.toNatClampNeg := by omega
        refine ⟨T', locs, by rw [c1, c2]; exact X', ?_, N, ?_⟩
        · subst e1
          refine H.push E hsz ?_
          rw [ObAt.arr (o := (sid, _)) hs]
          refine ⟨_, Ar, ?_, ?_, fun C' q => ?_⟩
          · show Array.replicate _ _ = _
            rw [list_rep]; rfl
          · rw [List.length_replicate]; omega
          · cases q; exact Ov
        · intro target k
          refine st target ?_
          have hi : vv A O hz.size (2, .index D.length) = .ref T.heap.size := by show Value.ref (hz.size + D.length) = _; rw [H.1]
          have k' : Steps p.tables e below (T'.setTop (mkF m (pc + 3) (L.map (sl1 A O hz.size)).toArray (vv A O hz.size (2, .index D.length) :: S'.map (vv A O hz.size)))) target := k
          rw [hi] at k'; exact k'
    · cases h
  · cases h
/-- an old object of a known class goes into an array over that class -/
def sAstOld (sid n nx : Nat) : Stp := fun F cf => match cf.2.1 with
  | (2, .arg i) :: (0, j) :: (2, .index k) :: S => (match cv F j with
    | some v => (match cf.2.2.1[k]? with
      | some o => bif Nat.blt i n && ((o.1 == sid) && (decide (0 ≤ v) && Nat.blt v.toNatClampNeg o.2.length)) then
          some [(F, nx, (cf.1, S, cf.2.2.1.set k (sid, o.2.set v.toNatClampNeg (2, .arg i)), cf.2.2.2))] else none
      | none => none)
    | none => none)
  | _ => none
theorem g_aastoreOld {pc sid n : Nat} {C : String} {r : String × Nat × List Fi} (hd : decode bytes pc = .ok (.aastore, 1)) (hs : sh[sid]? = some (some (.object C), r)) (hE : ∀ i, i < n → Exa Z hz (O i) C) : Good l Z hz sh A O y bytes maxL ret pc (sAstOld sid n (pc + 1)) := by
  intro F cf ns h hF
  obtain ⟨L, S, D, sl⟩ := cf
  simp only [sAstOld] at h
  split at h
  · rename_i i j k S'
    split at h
    · rename_i v q1
      split at h
      · rename_i o q2
        obtain ⟨o1, xs⟩ := o
        cases hk : (Nat.blt i n && ((o1 == sid) && (decide (0 ≤ v) && Nat.blt v.toNatClampNeg xs.length)))
        · rw [hk] at h; cases h
        · rw [hk] at h
          simp only [Bool.and_eq_true, decide_eq_true_eq, beq_iff_eq, Nat.blt_eq] at hk
          obtain ⟨hi, rfl, v1, v2⟩ := hk
          have q3 : ¬ v < 0 := Int32.not_lt.mpr v1
          cases h
          refine ⟨_, List.mem_cons_self .., hF, by simp, by simp, ?_⟩
          intro d0 s0 p e R s m args below meth c T locs hd0 hs0 hh hA X H N hc hl hfr hlo
          simp only [List.length_set] at hc hl hd0 hs0 X H ⊢
          have ho := H.2.2 k _ q2
          rw [ObAt.arr (o := (o1, xs)) hs] at ho
          have ho' := ho
          obtain ⟨cl, Ar, a1, a2, a3⟩ := ho
          have hsz : cl.slots.size = xs.length := by rw [a1]; simp
          have hgs : (frm hz A O m pc (L, (2, .arg i) :: (0, j) :: (2, .index k) :: S', D, sl)).stack = .ref (O i) :: .int v :: .ref (hz.size + k) :: S'.map (vv A O hz.size) := by show _ :: Value.int (te A j).1 :: _ = _; rw [cv_ok hF q1]; rfl
          have hsto : Sto Z T.heap (hz.size + k) (.ref (O i)) := Sto.of Ar (a3 C rfl) (Ins.self ((hE i hi).ext H.ext))
          obtain ⟨T', h', X', e1, W, st⟩ := stR X hA.1 hA.2.1 rfl Ar (j := v) (fun q => q.elim q3 (fun q => by omega)) rfl hsto (g := frm hz A O m pc (L, (2, .arg i) :: (0, j) :: (2, .index k) :: S', D, sl)) rfl hgs (hb hA.2.2.1 hd)
          subst e1
          have W' : Wr T.heap T'.heap (hz.size + k) v.toNatClampNeg (vv A O hz.size (2, .arg i)) := W
          refine ⟨T', _, X', ?_, Fr.snoc X' N (Nat.le_add_right _ _), st⟩
          refine H.set q2 W' ?_
          rw [ObAt.arr (o := (o1, _)) hs]
          exact ho'.set W'
      · cases h
    · cases h
  · cases h
theorem g_aaload {pc sid : Nat} {C : String} {r : String × Nat × List Fi} (hd : decode bytes pc = .ok (.aaload, 1)) (hs : sh[sid]? = some (some (.object C), r)) : Good l Z hz sh A O y bytes maxL ret pc (sAld sid (pc + 1)) :=
  good_one fun F L S D sl ns h => by
    obtain ⟨j, k, S', v, xs, x, rfl, q1, q2, q3, q4, rfl⟩ := sAld_inv h
    refine ⟨_, _, rfl, fun hF p e R s m args below meth c T locs cells slots hA X H target st => ?_⟩
    have ho := H.2.2 k _ q2
    rw [ObAt.arr (o := (sid, xs)) hs] at ho
    obtain ⟨cl, Ar, a1, a2, a3⟩ := ho
    have hlt := (List.getElem?_eq_some_iff.mp q4).1
    have hsz : cl.slots.size = xs.length := by rw [a1]; simp
    have hgs : (frm hz A O m pc (L, (0, j) :: (2, .index k) :: S', D, sl)).stack = .int v :: .ref (hz.size + k) :: S'.map (vv A O hz.size) := by show Value.int (te A j).1 :: _ = _; rw [cv_ok hF q1]; rfl
    exact X.aaload hA.1 Ar.1 (State.isArrayOf_alike hA.2.1.alike Ar.2.1) rfl Ar.2.2 (j := v) (v := vv A O hz.size x) (fun q => q.elim q3 (fun q => by omega)) (by rw [a1]; simp [q4]) (g := frm hz A O m pc (L, (0, j) :: (2, .index k) :: S', D, sl)) rfl hgs (hb hA.2.2.1 hd) _ st
/-- two old objects, by their numbers -/
def sAcmpOld (cd : ClassFile.ACond) (n tg nx : Nat) : Stp := fun F cf => match cf.2.1 with
  | (2, .arg i) :: (2, .arg j) :: S => bif Nat.blt i n && Nat.blt j n then some [(F, bif acV cd (Nat.beq j i) then tg else nx, (cf.1, S, cf.2.2))] else none
  | _ => none
theorem g_acmpOld {pc tg n : Nat} {cd : ClassFile.ACond} {o : Int} (hd : decode bytes pc = .ok (.if_acmp cd o, 3)) (h1 : 0 ≤ (pc : Int) + o) (h2 : ((pc : Int) + o).toNat = tg) (hO : ∀ i j, i < n → j < n → O i = O j → i = j) : Good l Z hz sh A O y bytes maxL ret pc (sAcmpOld cd n tg (pc + 3)) := by
  intro F cf ns h hF
  obtain ⟨L, S, D, sl⟩ := cf
  simp only [sAcmpOld] at h
  split at h
  · rename_i i j S'
    cases hk : (Nat.blt i n && Nat.blt j n)
    · rw [hk] at h; cases h
    · rw [hk] at h; cases h
      simp only [Bool.and_eq_true, Nat.blt_eq] at hk
      refine ⟨_, List.mem_cons_self .., hF, ?_⟩
      refine sim_pure fun p e R s m args below meth c T locs cells slots hA X H target st => ?_
      have hq : decide (Value.ref (O j) = Value.ref (O i)) = Nat.beq j i := by
        cases hb : Nat.beq j i
        · refine decide_eq_false fun q => ?_
          have := hO j i hk.2 hk.1 (Value.ref.inj q)
          subst this
          rw [Nat.beq_refl] at hb; cases hb
        · obtain rfl := Nat.eq_of_beq_eq_true hb; simp
      refine Jvm.RoadKit.acmp (g := frm hz A O m pc (L, (2, .arg i) :: (2, .arg j) :: S', D, sl)) X hA.1 rfl (x := .ref (O j)) (y := .ref (O i)) rfl rfl (pc0 := pc) (pc' := bif acV cd (Nat.beq j i) then tg else pc + 3) rfl (hb hA.2.2.1 hd) rfl hq h1 ?_ st
      rw [h2]
      cases acV cd (Nat.beq j i) <;> rfl
  · cases h
/-- the receiver is an old object -/
def ckOld (n : Nat) : List SV → List Ob → Bool := fun a _ => match a.getLast? with
  | some (2, .arg i) => Nat.blt i n
  | _ => false
theorem ckOld_inv {n : Nat} {a : List SV} {D : List Ob} (h : ckOld n a D = true) : ∃ a' i, a = a' ++ [(2, .arg i)] ∧ i < n := by
  unfold ckOld at h
  split at h
  · rename_i i q
    obtain ⟨a', rfl⟩ := List.getLast?_eq_some_iff.mp q
    exact ⟨a', i, rfl, Nat.blt_eq.mp h⟩
  · cases h
theorem c_virtualOld {y' : MethodName} {bytes' : ByteArray} {mx : Nat} {ret' : Option FieldType} {pc idx na n : Nat} {ps : List FieldType} {r : Option FieldType} {C : String} (hd : decode bytes pc = .ok (.invokevirtual idx, 3)) (hpl : plainFor y' = true) (hdesc : parseMethodDescriptor y'.desc = some ⟨ps, r⟩) (hna : ps.length + 1 = na) (hy : y'.cls ≠ "java/lang/invoke/MethodHandle" ∧ y'.cls ≠ "java/lang/invoke/VarHandle")
    (w1 : (Cond.methodLink y.cls idx y').before a0 Z = true) (w2 : (Cond.instanceMethod y').before a0 Z = true) (w3 : (Cond.initialized y'.cls).before a0 Z = true) (w4 : (Cond.code y' bytes' mx ret').before a0 Z = true) (w5 : (Cond.declares y').before a0 Z = true) (w6 : (Cond.selects C y' y').before a0 Z = true) (hE : ∀ i, i < n → Exa Z hz (O i) C) :
    CallGood l Z hz sh A O y bytes maxL ret y' bytes' mx ret' pc na (pc + 3) (ckOld n) := by
  intro L S D sl fr lo v D' sl' h1 h2 h3 h4 h5 K
  have kk := K
  obtain ⟨k1, k2, -⟩ := kk
  refine ⟨k1, k2, ?_⟩
  intro d0 s0 p e R s m args below meth c T locs hd0 hs0 hh hA X H N hc hl hfr hlo
  have k1' : D.length ≤ D'.length := k1
  have k2' : sl ≤ sl' := k2
  have hd0' : d0 ≤ D.length := hd0
  have hs0' : s0 ≤ sl := hs0
  have hc' : D'.length - d0 ≤ R.cells := hc
  have hl' : sl' - s0 ≤ R.slots := hl
  obtain ⟨a', i, ea, ei⟩ := ckOld_inv h3
  have hM := met_of_ret hpl H K [] { frames := fr - 1, cells := D'.length - D.length, slots := sl' - sl, locals := lo - (wt (S.drop na) + (mx + 11)) } rfl
  have er : (S.take na).reverse.map (vv A O hz.size) = .ref (O i) :: a'.reverse.map (vv A O hz.size) := by rw [ea]; simp [vv, rf]
  have el : (a'.reverse.map (vv A O hz.size)).length = ps.length := by
    have := congrArg List.length ea
    rw [List.length_take, List.length_append] at this
    simp only [List.length_cons, List.length_nil] at this
    rw [List.length_map, List.length_reverse]; omega
  rw [er] at hM
  have es : S.map (vv A O hz.size) = (a'.reverse.map (vv A O hz.size)).reverse ++ .ref (O i) :: (S.drop na).map (vv A O hz.size) := by
    conv => lhs; rw [← List.take_append_drop na S, ea]
    simp [vv, rf]
  obtain ⟨cq, kq, qa, qb, qc⟩ := isOf hA.2.1 rfl ((hE i ei).ext H.ext)
  obtain ⟨w, vm₁, ⟨T', L', k', n'⟩, -, X', ⟨Lc, ⟨rfl, H', N'⟩, l1, y1, z1⟩, st⟩ := X.virtualBack hA.1 (y := y') (z := y') hA.2.2.2.2.1 (mvT hA.2.1 w1) (mvT hA.2.1 w5) (notFace_of_selects (args := #[]) (mvT hA.2.1 w6)) (mvT hA.2.1 w6) (mvT hA.2.1 w2) hy
    (backH (W := wt (S.drop na)) (rm := { frames := fr - 1, cells := D'.length - D.length, slots := sl' - sl, locals := lo - (wt (S.drop na) + (mx + 11)) }) (Q := fun w h' L => w = v.map (vv A O hz.size) ∧ HD Z hz sh A O h' D' ∧ Fr hz.size L) hM ⟨hA.2.1, hA.2.2.2.2.2.2.2.2.1⟩ w4 w3 (by show fr - 1 + 1 ≤ _; omega) (by show _ + (lo - _) ≤ _; omega)) qa qc (g := frm hz A O m pc (L, S, D, sl)) rfl (by show (L.map (sl1 A O hz.size)).toArray.size = _; rw [hA.2.2.2.1, ← h2]; simp) (Steps.refl _)
    (argsL := a'.reverse.map (vv A O hz.size)) (rest := (S.drop na).map (vv A O hz.size)) (lenOf hdesc el)
    es (by show 2 * 0 + _ ≤ _; rw [wt_ok]; omega) (hb hA.2.2.1 hd)
    (fun _ _ => ⟨rfl, rfl, by show D.length - d0 + (D'.length - D.length) ≤ _; omega, by show sl - s0 + (sl' - sl) ≤ _; omega⟩)
  dsimp only [Pt.U, Pt.locs, Pt.cells, Pt.slots] at X' l1 y1 z1 st H'
  subst l1 y1 z1
  have c1 : D.length - d0 + (D'.length - D.length) = D'.length - d0 := by omega
  have c2 : sl - s0 + (sl' - sl) = sl' - s0 := by omega
  refine ⟨T', _, by rw [← c1, ← c2]; exact X', H', N.app N', fun target kt => st.trans ?_⟩
  have e2 : (v.toList ++ S.drop na).map (vv A O hz.size) = (v.map (vv A O hz.size)).toList ++ (S.drop na).map (vv A O hz.size) := by cases v <;> simp
  have kt' : Steps p.tables e below (T'.setTop (mkF m (pc + 3) (L.map (sl1 A O hz.size)).toArray ((v.toList ++ S.drop na).map (vv A O hz.size)))) target := kt
  rw [e2] at kt'; exact kt'
end More
end Jvm.OwnX

/-! ### 9. Operations that simplify, and arraycopy -/
namespace Jvm.OwnX
open Sem ClassFile Op Lib Jvm.Stand Jvm.Free Jvm.LawKit Jvm.RoadKit
section Simp
variable {l : Launch} {Z : State} {hz : Heap} {sh : List Sh} {A : En} {O : Nat → Addr} {y : MethodName} {bytes : ByteArray} {maxL : Nat} {ret : Option FieldType} {a0 : Array Value}
theorem gx_isub {pc : Nat} {f : Term → Term → Term} (hf : ∀ A a b, (te A (f a b)).1 = (te A a).1 - (te A b).1) (hd : decode bytes pc = .ok (.isub, 1)) : Good l Z hz sh A O y bytes maxL ret pc (sBin 0 0 0 f (pc + 1)) :=
  good_one fun F L S D sl ns h => by
    obtain ⟨a, b, S', rfl, rfl⟩ := sBin_inv h
    refine ⟨_, _, rfl, fun hF p e_ R s m args below meth c T locs cells slots hA X H target st => ?_⟩
    have e : vv A O hz.size (0, f a b) = .int ((te A a).1 - (te A b).1) := by show Value.int (te A (f a b)).1 = _; rw [hf]
    have st' : Steps p.tables e_ below (T.setTop (mkF m (pc + 1) (L.map (sl1 A O hz.size)).toArray (vv A O hz.size (0, f a b) :: S'.map (vv A O hz.size)))) target := st
    rw [e] at st'
    exact XS.isub X.here hA.1 rfl (hb hA.2.2.1 hd) rfl st'
theorem gx_ladd {pc : Nat} {f : Term → Term → Term} (hf : ∀ A a b, (te A (f a b)).2 = (te A a).2 + (te A b).2) (hd : decode bytes pc = .ok (.ladd, 1)) : Good l Z hz sh A O y bytes maxL ret pc (sBin 1 1 1 f (pc + 1)) :=
  good_one fun F L S D sl ns h => by
    obtain ⟨a, b, S', rfl, rfl⟩ := sBin_inv h
    refine ⟨_, _, rfl, fun hF p e_ R s m args below meth c T locs cells slots hA X H target st => ?_⟩
    have e : vv A O hz.size (1, f a b) = .long ((te A a).2 + (te A b).2) := by show Value.long (te A (f a b)).2 = _; rw [hf]
    have st' : Steps p.tables e_ below (T.setTop (mkF m (pc + 1) (L.map (sl1 A O hz.size)).toArray (vv A O hz.size (1, f a b) :: S'.map (vv A O hz.size)))) target := st
    rw [e] at st'
    exact XS.ladd X.here hA.1 rfl (hb hA.2.2.1 hd) rfl st'
theorem gx_lsub {pc : Nat} {f : Term → Term → Term} (hf : ∀ A a b, (te A (f a b)).2 = (te A a).2 - (te A b).2) (hd : decode bytes pc = .ok (.lsub, 1)) : Good l Z hz sh A O y bytes maxL ret pc (sBin 1 1 1 f (pc + 1)) :=
  good_one fun F L S D sl ns h => by
    obtain ⟨a, b, S', rfl, rfl⟩ := sBin_inv h
    refine ⟨_, _, rfl, fun hF p e_ R s m args below meth c T locs cells slots hA X H target st => ?_⟩
    have e : vv A O hz.size (1, f a b) = .long ((te A a).2 - (te A b).2) := by show Value.long (te A (f a b)).2 = _; rw [hf]
    have st' : Steps p.tables e_ below (T.setTop (mkF m (pc + 1) (L.map (sl1 A O hz.size)).toArray (vv A O hz.size (1, f a b) :: S'.map (vv A O hz.size)))) target := st
    rw [e] at st'
    exact XS.lsub X.here hA.1 rfl (hb hA.2.2.1 hd) rfl st'
theorem gx_lushr {pc : Nat} {f : Term → Term → Term} (hf : ∀ A a b, (te A (f a b)).2 = ((te A a).2.toUInt64 >>> ((te A b).1 &&& 0x3f).toInt64.toUInt64).toInt64) (hd : decode bytes pc = .ok (.lushr, 1)) : Good l Z hz sh A O y bytes maxL ret pc (sBin 1 0 1 f (pc + 1)) :=
  good_one fun F L S D sl ns h => by
    obtain ⟨a, b, S', rfl, rfl⟩ := sBin_inv h
    refine ⟨_, _, rfl, fun hF p e_ R s m args below meth c T locs cells slots hA X H target st => ?_⟩
    have e : vv A O hz.size (1, f a b) = .long (((te A a).2.toUInt64 >>> ((te A b).1 &&& 0x3f).toInt64.toUInt64).toInt64) := by show Value.long (te A (f a b)).2 = _; rw [hf]
    have st' : Steps p.tables e_ below (T.setTop (mkF m (pc + 1) (L.map (sl1 A O hz.size)).toArray (vv A O hz.size (1, f a b) :: S'.map (vv A O hz.size)))) target := st
    rw [e] at st'
    exact XS.lushr X.here hA.1 rfl (hb hA.2.2.1 hd) rfl st'
theorem gx_l2i {pc : Nat} {f : Term → Term} (hf : ∀ A a, (te A (f a)).1 = (te A a).2.toInt32) (hd : decode bytes pc = .ok (.l2i, 1)) : Good l Z hz sh A O y bytes maxL ret pc (sUn 1 0 f (pc + 1)) :=
  good_one fun F L S D sl ns h => by
    obtain ⟨a, S', rfl, rfl⟩ := sUn_inv h
    refine ⟨_, _, rfl, fun hF p e_ R s m args below meth c T locs cells slots hA X H target st => ?_⟩
    have e : vv A O hz.size (0, f a) = .int ((te A a).2.toInt32) := by show Value.int (te A (f a)).1 = _; rw [hf]
    have st' : Steps p.tables e_ below (T.setTop (mkF m (pc + 1) (L.map (sl1 A O hz.size)).toArray (vv A O hz.size (0, f a) :: S'.map (vv A O hz.size)))) target := st
    rw [e] at st'
    exact XS.l2i X.here hA.1 rfl (hb hA.2.2.1 hd) rfl st'
def isZ : Term → Bool
  | .long z => z == 0
  | _ => false
theorem isZ_ok {t : Term} (h : isZ t = true) (A : En) : (te A t).2 = 0 := by
  cases t <;> simp [isZ] at h
  simp [te, h]
def xSub (a b : Term) : Term := match b with
  | .op1 .ineg t => (match a with
    | .int z => bif z == 0 then t else smI (.add a t)
    | _ => smI (.add a t))
  | _ => smI (.sub a b)
theorem xSub_ok (A : En) (a b : Term) : (te A (xSub a b)).1 = (te A a).1 - (te A b).1 := by
  unfold xSub
  split
  · rename_i t
    have e : (te A (.op1 .ineg t)).1 = -(te A t).1 := rfl
    have e2 : ∀ x : Int32, x - -(te A t).1 = x + (te A t).1 := fun x => Int32.sub_neg
    rw [e]
    split
    · rename_i z
      cases hz : (z == 0)
      · rw [cond_false, te_smI, e2]; rfl
      · obtain rfl := beq_iff_eq.mp hz
        rw [cond_true, e2]; show _ = (0 : Int32) + _; rw [Int32.zero_add]
    · rw [te_smI, e2]; rfl
  · rw [te_smI]; rfl
def noOv (u v : Term) : Bool := decide (-2147483648 ≤ (rg0 u).1.1 + (rg0 v).1.1) && decide ((rg0 u).1.2 + (rg0 v).1.2 ≤ 2147483647)
theorem noOv_ok {u v : Term} (h : noOv u v = true) (A : En) : ((te A u).1 + (te A v).1).toInt64 = (te A u).1.toInt64 + (te A v).1.toInt64 := by
  simp only [noOv, Bool.and_eq_true, decide_eq_true_eq] at h
  obtain ⟨u1, u2⟩ := (rg0_ok A u).1
  obtain ⟨v1, v2⟩ := (rg0_ok A v).1
  apply Int64.toInt_inj.mp
  have a1 := c_i2l ((te A u).1 + (te A v).1)
  have a2 := c_i2l (te A u).1
  have a3 := c_i2l (te A v).1
  have a4 := c_iadd (te A u).1 (te A v).1
  have a5 := c_ladd (te A u).1.toInt64 (te A v).1.toInt64
  have a6 := rng32 ((te A u).1 + (te A v).1)
  have a7 := rng64 ((te A u).1.toInt64 + (te A v).1.toInt64)
  omega
def xAddL (a b : Term) : Term := bif isZ a then b else bif isZ b then a else (match a, b with
  | .op2 .lsub r x, .op2 .lsub z r' => bif isZ z && tq r r' then smL (.op2 .lsub (.long 0) x) else smL (.op2 .ladd a b)
  | .op1 .i2l u, .op1 .i2l v => bif noOv u v then smL (.op1 .i2l (smI (.add u v))) else smL (.op2 .ladd a b)
  | r, .op2 .lsub z r' => bif isZ z && tq r r' then .long 0 else smL (.op2 .ladd a b)
  | _, _ => smL (.op2 .ladd a b))
theorem xAddL_ok (A : En) (a b : Term) : (te A (xAddL a b)).2 = (te A a).2 + (te A b).2 := by
  unfold xAddL
  cases h1 : isZ a
  · cases h2 : isZ b
    · simp only [cond_false]
      split
      · rename_i r x z r'
        cases h3 : (isZ z && tq r r')
        · rw [cond_false, te_smL]; rfl
        · simp only [Bool.and_eq_true] at h3
          obtain rfl := tq_eq h3.2
          rw [cond_true, te_smL]
          show (0 : Int64) - (te A x).2 = ((te A r).2 - (te A x).2) + ((te A z).2 - (te A r).2)
          rw [isZ_ok h3.1 A]
          apply Int64.toInt_inj.mp
          have c1 := c_lsub 0 (te A x).2
          have c2 := c_lsub (te A r).2 (te A x).2
          have c3 := c_lsub 0 (te A r).2
          have c4 := c_ladd ((te A r).2 - (te A x).2) (0 - (te A r).2)
          have c5 := rng64 (0 - (te A x).2)
          have c6 := rng64 (((te A r).2 - (te A x).2) + (0 - (te A r).2))
          have c7 : (0 : Int64).toInt = 0 := rfl
          omega
      · rename_i u v
        cases h3 : noOv u v
        · rw [cond_false, te_smL]; rfl
        · rw [cond_true, te_smL]
          show (te A (smI (.add u v))).1.toInt64 = (te A u).1.toInt64 + (te A v).1.toInt64
          rw [te_smI]; exact noOv_ok h3 A
      · rename_i r z r' _
        cases h3 : (isZ z && tq a r')
        · rw [cond_false, te_smL]; rfl
        · simp only [Bool.and_eq_true] at h3
          obtain rfl := tq_eq h3.2
          rw [cond_true]
          show (0 : Int64) = (te A a).2 + ((te A z).2 - (te A a).2)
          rw [isZ_ok h3.1 A]
          apply Int64.toInt_inj.mp
          have c3 := c_lsub 0 (te A a).2
          have c4 := c_ladd (te A a).2 (0 - (te A a).2)
          have c6 := rng64 ((te A a).2 + (0 - (te A a).2))
          have c7 : (0 : Int64).toInt = 0 := rfl
          omega
      · rw [te_smL]; rfl
    · simp only [cond_false, cond_true]; rw [isZ_ok h2 A, Int64.add_zero]
  · simp only [cond_true]; rw [isZ_ok h1 A, Int64.zero_add]
def xSubL (a b : Term) : Term := bif isZ b then a else smL (.op2 .lsub a b)
theorem xSubL_ok (A : En) (a b : Term) : (te A (xSubL a b)).2 = (te A a).2 - (te A b).2 := by
  unfold xSubL
  cases h : isZ b
  · rw [cond_false, te_smL]; rfl
  · rw [cond_true, isZ_ok h A, Int64.sub_zero]
def low (c : Int64) : Bool := decide (0 ≤ c.toInt) && decide (c.toInt < 4294967296)
theorem mix (x c : Int64) (h : low c = true) : ((x <<< ((32 : Int32) &&& 0x3f).toInt64 ||| c).toInt - (x.toInt * 4294967296 + c.toInt)) % 18446744073709551616 = 0 := by
  simp only [low, Bool.and_eq_true, decide_eq_true_eq] at h
  have h1 := c_lshl x 32 32 (by decide)
  have h2 := c_orL (x <<< ((32 : Int32) &&& 0x3f).toInt64) c 32 (by decide) 4294967296 (by decide)
  have e : ((2 ^ 32 : Nat) : Int) = 4294967296 := by decide
  rw [e] at h1
  have h3 := h2 (by omega) h.1 h.2
  omega
def xL2I (a : Term) : Term := match a with
  | .op1 .i2l t => t
  | .op2 .lor (.op2 .lshl _ (.int k)) (.long c) => bif (k == 32) && low c then .int c.toInt32 else smI (.op1 .l2i a)
  | _ => smI (.op1 .l2i a)
theorem xL2I_ok (A : En) (a : Term) : (te A (xL2I a)).1 = (te A a).2.toInt32 := by
  unfold xL2I
  split
  · rename_i t
    show _ = (te A t).1.toInt64.toInt32
    rw [Int32.toInt32_toInt64]
  · rename_i x k c
    cases h : ((k == 32) && low c)
    · rw [cond_false, te_smI]; rfl
    · simp only [Bool.and_eq_true] at h
      obtain rfl := beq_iff_eq.mp h.1
      rw [cond_true]
      show c.toInt32 = ((te A x).2 <<< ((32 : Int32) &&& 0x3f).toInt64 ||| c).toInt32
      apply Int32.toInt_inj.mp
      have h1 := mix (te A x).2 c h.2
      have h2 := c_l2i c
      have h3 := c_l2i ((te A x).2 <<< ((32 : Int32) &&& 0x3f).toInt64 ||| c)
      have h4 := rng32 c.toInt32
      have h5 := rng32 ((te A x).2 <<< ((32 : Int32) &&& 0x3f).toInt64 ||| c).toInt32
      omega
  · rw [te_smI]; rfl
def xLushr (a b : Term) : Term := match a, b with
  | .op2 .lor (.op2 .lshl (.op1 .i2l t) (.int k)) (.long c), .int k2 => bif (k == 32) && ((k2 == 32) && (low c && decide (0 ≤ (rg0 t).1.1))) then .op1 .i2l t else smL (.op2 .lushr a b)
  | _, _ => smL (.op2 .lushr a b)
theorem xLushr_ok (A : En) (a b : Term) : (te A (xLushr a b)).2 = ((te A a).2.toUInt64 >>> ((te A b).1 &&& 0x3f).toInt64.toUInt64).toInt64 := by
  unfold xLushr
  split
  · rename_i t k c k2
    cases h : ((k == 32) && ((k2 == 32) && (low c && decide (0 ≤ (rg0 t).1.1))))
    · rw [cond_false, te_smL]; rfl
    · simp only [Bool.and_eq_true, decide_eq_true_eq] at h
      obtain ⟨h1, h2, h3, h4⟩ := h
      obtain rfl := beq_iff_eq.mp h1
      obtain rfl := beq_iff_eq.mp h2
      rw [cond_true]
      show (te A t).1.toInt64 = (((te A t).1.toInt64 <<< ((32 : Int32) &&& 0x3f).toInt64 ||| c).toUInt64 >>> ((32 : Int32) &&& 0x3f).toInt64.toUInt64).toInt64
      apply Int64.toInt_inj.mp
      rw [c_lushr _ 32 32 (by decide) (by decide)]
      have m := mix (te A t).1.toInt64 c h3
      have e := c_i2l (te A t).1
      have r := (rg0_ok A t).1.1
      have r2 := rng32 (te A t).1
      have q : ((2 ^ 32 : Nat) : Int) = 4294967296 := by decide
      rw [q]
      simp only [low, Bool.and_eq_true, decide_eq_true_eq] at h3
      have r3 := rng64 ((te A t).1.toInt64 <<< ((32 : Int32) &&& 0x3f).toInt64 ||| c)
      omega
  · rw [te_smL]; rfl
/-! one cell is laid anew -/
theorem MpOk.congr {h h' : Heap} {a : Addr} {xs : List SV} (e : h'[a]? = h[a]?) (X : MpOk Z A h a xs) : MpOk Z A h' a xs := by
  unfold MpOk at X ⊢
  split
  · obtain ⟨cl, h1, h2⟩ := X; exact ⟨cl, ⟨e.trans h1.1, h1.2⟩, h2⟩
  · trivial
theorem ObAt.congr {h h' : Heap} {a : Addr} {o : Ob} (e : h'[a]? = h[a]?) (X : ObAt Z hz sh A O h a o) : ObAt Z hz sh A O h' a o := by
  unfold ObAt at X ⊢
  split
  · rename_i q; rw [q] at X; obtain ⟨cl, h1, h2⟩ := X; exact ⟨cl, ⟨e.trans h1.1, h1.2⟩, h2⟩
  · rename_i q; rw [q] at X
    obtain ⟨⟨cell, k, x1, x2⟩, x3, x4⟩ := X
    refine ⟨⟨cell, k, e.trans x1, x2⟩, x3, fun i f x hf hx => ?_⟩
    obtain ⟨c2, cf, k2, i2, f2, z1, z2⟩ := x4 i f x hf hx
    exact ⟨c2, cf, k2, i2, f2, e.trans z1, z2⟩
  · rename_i q; rw [q] at X
    exact fun q2 => MpOk.congr e (X q2)
theorem HD.cell {h : Heap} {D : List Ob} (H : HD Z hz sh A O h D) {k : Nat} {o o' : Ob} {cl : Cell} (hk : D[k]? = some o) (ho : ObAt Z hz sh A O (h.setIfInBounds (hz.size + k) cl) (hz.size + k) o') : HD Z hz sh A O (h.setIfInBounds (hz.size + k) cl) (D.set k o') := by
  refine ⟨by rw [Array.size_setIfInBounds, H.1, List.length_set], fun a ha => ?_, fun j o2 hj => ?_⟩
  · rw [Array.getElem?_setIfInBounds_ne (Ne.symm (Nat.ne_of_lt (Nat.lt_of_lt_of_le ha (Nat.le_add_right _ _))))]
    exact H.2.1 a ha
  · by_cases q : j = k
    · subst q
      rw [List.getElem?_set_self (List.getElem?_eq_some_iff.mp hk).1] at hj
      cases hj; exact ho
    · rw [List.getElem?_set_ne (Ne.symm q)] at hj
      exact ObAt.congr (Array.getElem?_setIfInBounds_ne (fun e => q (Nat.add_left_cancel e).symm)) (H.2.2 j o2 hj)
def splice (ys : List SV) (d : Nat) (zs : List SV) : List SV := ys.take d ++ (zs ++ ys.drop (d + zs.length))
theorem splice_get (ys zs : List SV) (d j : Nat) (h : d + zs.length ≤ ys.length) : (splice ys d zs)[j]? = if d ≤ j ∧ j < d + zs.length then zs[j - d]? else ys[j]? := by
  unfold splice
  by_cases h1 : j < d
  · rw [if_neg (by omega), List.getElem?_append_left (by rw [List.length_take]; omega), List.getElem?_take_of_lt h1]
  · rw [List.getElem?_append_right (by rw [List.length_take]; omega), List.length_take, show min d ys.length = d by omega]
    by_cases h2 : j < d + zs.length
    · rw [if_pos (by omega), List.getElem?_append_left (by omega)]
    · rw [if_neg (by omega), List.getElem?_append_right (by omega), List.getElem?_drop]
      congr 1; omega
def sCopy (sid mx nx : Nat) : Stq := fun fr lo F cf => match cf.2.1 with
  | (0, tn) :: (0, td) :: (2, .index kd) :: (0, ts) :: (2, .index ks) :: S => (match cv F tn, cv F td, cv F ts with
    | some n, some dp, some sp => (match cf.2.2.1[ks]?, cf.2.2.1[kd]? with
      | some os, some od => bif (os.1 == sid) && ((od.1 == sid) && (decide (0 ≤ n) && (decide (0 ≤ dp) && (decide (0 ≤ sp) && (Nat.ble (sp.toNatClampNeg + n.toNatClampNeg) os.2.length && (Nat.ble (dp.toNatClampNeg + n.toNatClampNeg) od.2.length &&
            ((((os.2.drop sp.toNatClampNeg).take n.toNatClampNeg).all fun x => x.1 == 0) && (Nat.ble 1 fr && (Nat.ble (wt S + 18) lo && Nat.beq cf.1.length mx))))))))) then
          some [(F, nx, (cf.1, S, cf.2.2.1.set kd (sid, splice od.2 dp.toNatClampNeg ((os.2.drop sp.toNatClampNeg).take n.toNatClampNeg)), cf.2.2.2))] else none
      | _, _ => none)
    | _, _, _ => none)
  | _ => none
theorem nn32 {v : Int32} (h : 0 ≤ v) : ¬ v < 0 ∧ v.toInt = (v.toNatClampNeg : Int) := by
  have h1 := Int32.not_lt.mpr h
  refine ⟨h1, ?_⟩
  simp only [Int32.lt_iff_toInt_lt, Int32.reduceToInt] at h1
  simp only [Int32.toNatClampNeg]; omega
theorem g_copy {pc idx sid : Nat} {r : String × Nat × List Fi} (hd : decode bytes pc = .ok (.invokestatic idx, 3)) (hs : sh[sid]? = some (some .int, r)) (w1 : (Cond.methodLink y.cls idx arraycopyName).before a0 Z = true) (w2 : (Cond.native arraycopyName).before a0 Z = true) (w3 : (Cond.static arraycopyName).before a0 Z = true) (w4 : (Cond.initialized "java/lang/System").before a0 Z = true) :
    GoodN l Z hz sh A O y bytes maxL ret pc (sCopy sid maxL (pc + 3)) := by
  intro fr lo F cf ns h hF
  obtain ⟨L, S, D, sl⟩ := cf
  simp only [sCopy] at h
  split at h
  · rename_i tn td kd ts ks S'
    split at h
    · rename_i n dp sp qn qd qs
      split at h
      · rename_i os od q1 q2
        obtain ⟨o1, xs⟩ := os
        obtain ⟨o2, ys⟩ := od
        simp only at h
        cases hk : ((o1 == sid) && ((o2 == sid) && (decide (0 ≤ n) && (decide (0 ≤ dp) && (decide (0 ≤ sp) && (Nat.ble (sp.toNatClampNeg + n.toNatClampNeg) xs.length && (Nat.ble (dp.toNatClampNeg + n.toNatClampNeg) ys.length &&
            ((((xs.drop sp.toNatClampNeg).take n.toNatClampNeg).all fun x => x.1 == 0) && (Nat.ble 1 fr && (Nat.ble (wt S' + 18) lo && Nat.beq L.length maxL))))))))))
        · rw [hk] at h; cases h
        · rw [hk] at h; cases h
          simp only [Bool.and_eq_true, decide_eq_true_eq, beq_iff_eq] at hk
          obtain ⟨rfl, rfl, n0, d0', s0', k1, k2, k3, k4, k5, k6⟩ := hk
          have k1 := Nat.le_of_ble_eq_true k1
          have k2 := Nat.le_of_ble_eq_true k2
          have k4 := Nat.le_of_ble_eq_true k4
          have k5 := Nat.le_of_ble_eq_true k5
          have k6 := Nat.eq_of_beq_eq_true k6
          obtain ⟨n1, n2⟩ := nn32 n0
          obtain ⟨d1, d2⟩ := nn32 d0'
          obtain ⟨s1, s2⟩ := nn32 s0'
          refine ⟨_, List.mem_cons_self .., hF, by simp, by simp, ?_⟩
          intro d0 s0 p e R s m args below meth c T locs hd0 hs0 hh hA X H N hc hl hfr hlo
          simp only [List.length_set] at hc hl hd0 hs0 X H ⊢
          have hos := H.2.2 ks _ q1
          have hod := H.2.2 kd _ q2
          rw [ObAt.arr (o := (o2, xs)) hs] at hos
          rw [ObAt.arr (o := (o2, ys)) hs] at hod
          obtain ⟨cs, As, a1, a2, -⟩ := hos
          obtain ⟨cd, Ad, b1, b2, b3⟩ := hod
          simp only at a1 a2 b1 b2
          have zs : cs.slots.size = xs.length := by rw [a1]; simp
          have zd : cd.slots.size = ys.length := by rw [b1]; simp
          obtain ⟨us, kks, us2, compS, us3⟩ := State.isArrayOf_alike hA.2.1.alike As.2.1
          obtain ⟨ud, kkd, ud2, compD, ud3⟩ := State.isArrayOf_alike hA.2.1.alike Ad.2.1
          have hgs : (frm hz A O m pc (L, (0, tn) :: (0, td) :: (2, .index kd) :: (0, ts) :: (2, .index ks) :: S', D, sl)).stack = .int n :: .int dp :: .ref (hz.size + kd) :: .int sp :: .ref (hz.size + ks) :: S'.map (vv A O hz.size) := by
            show Value.int (te A tn).1 :: Value.int (te A td).1 :: _ :: Value.int (te A ts).1 :: _ = _
            rw [cv_ok hF qn, cv_ok hF qd, cv_ok hF qs]; rfl
          have hval : ∀ i, i < n.toNatClampNeg → ∃ z, cs.slots.getD (sp.toNatClampNeg + i) .null = .int z := by
            intro i hi
            have hlt : sp.toNatClampNeg + i < xs.length := by omega
            have hm : xs[sp.toNatClampNeg + i] ∈ (xs.drop sp.toNatClampNeg).take n.toNatClampNeg := by
              refine List.mem_of_getElem? (i := i) ?_
              rw [List.getElem?_take_of_lt hi, List.getElem?_drop, List.getElem?_eq_getElem hlt]
            have hz0 := beq_iff_eq.mp (List.all_eq_true.mp k3 _ hm)
            refine ⟨(te A xs[sp.toNatClampNeg + i].2).1, ?_⟩
            rw [a1, Array.getD_eq_getD_getElem?]
            simp only [List.getElem?_toArray, List.getElem?_map, List.getElem?_eq_getElem hlt, Option.map_some, Option.getD_some]
            unfold vv; rw [hz0]; rfl
          obtain ⟨vm', X', st⟩ := X.arraycopy hA.1 hA.2.2.2.2.1 (mvT hA.2.1 w1) (mvT hA.2.1 w2) (mvT hA.2.1 w3) (mvT hA.2.1 w4) (src := hz.size + ks) (dst := hz.size + kd) (srcPos := sp) (destPos := dp) (n := n) As.1 Ad.1 us ud As.2.2 Ad.2.2 us2 ud2 us3 ud3 (by decide) s1 d1 n1 (by rw [zs]; omega) (by rw [zd]; omega)
            (fun vm' _ i hi => by obtain ⟨z, hz1⟩ := hval i hi; rw [hz1]; exact ⟨rfl, trivial⟩) (g := frm hz A O m pc (L, (0, tn) :: (0, td) :: (2, .index kd) :: (0, ts) :: (2, .index ks) :: S', D, sl)) rfl (by show (L.map (sl1 A O hz.size)).toArray.size = _; rw [hA.2.2.2.1, ← k6]; simp) hgs (hb hA.2.2.1 hd) (by omega) (by show 2 * 0 + _ + (nativeFrameWords "java/lang/System" "arraycopy" 5 + 11) ≤ _; rw [wt_ok, show nativeFrameWords "java/lang/System" "arraycopy" 5 = 7 from by decide]; omega)
          refine ⟨_, _, X', ?_, N.app fun z hz1 => ?_, st⟩
          · show HD Z hz sh A O (T.heap.setIfInBounds (hz.size + kd) (copied cs cd sp dp n)) _
            refine H.cell q2 ?_
            rw [ObAt.arr (o := (o2, _)) hs]
            obtain ⟨f1, f2, f3, -, -⟩ := cd.storeRun_facts dp.toNatClampNeg (cs.stretch sp.toNatClampNeg n.toNatClampNeg)
            have hlt : hz.size + kd < T.heap.size := Ad.lt
            have zl : ((xs.drop sp.toNatClampNeg).take n.toNatClampNeg).length = n.toNatClampNeg := by rw [List.length_take, List.length_drop]; omega
            have tl : (cs.stretch sp.toNatClampNeg n.toNatClampNeg).length = n.toNatClampNeg := by simp [Cell.stretch]
            refine ⟨copied cs cd sp dp n, ⟨by simp [hlt], ⟨fun q => by rw [f2]; exact Ad.2.1.1 q, ?_⟩, by rw [f2]; exact Ad.2.2⟩, ?_, ?_, fun C q => by cases q⟩
            · obtain ⟨-, kq, z1, z2⟩ := Ad.2.1
              exact ⟨kq, by rw [f1]; exact z1, z2⟩
            · apply Array.ext_getElem?
              intro j
              show (cd.storeRun dp.toNatClampNeg (cs.stretch sp.toNatClampNeg n.toNatClampNeg)).slots[j]? = _
              rw [Cell.storeRun_get _ _ _ _ (by rw [tl, zd]; exact k2), tl]
              have eR : ((splice ys dp.toNatClampNeg ((xs.drop sp.toNatClampNeg).take n.toNatClampNeg)).map (vv A O hz.size)).toArray[j]? = ((splice ys dp.toNatClampNeg ((xs.drop sp.toNatClampNeg).take n.toNatClampNeg))[j]?).map (vv A O hz.size) := by simp
              show _ = ((splice ys dp.toNatClampNeg ((xs.drop sp.toNatClampNeg).take n.toNatClampNeg)).map (vv A O hz.size)).toArray[j]?
              rw [eR, splice_get _ _ _ _ (by rw [zl]; exact k2), zl]
              by_cases q : dp.toNatClampNeg ≤ j ∧ j < dp.toNatClampNeg + n.toNatClampNeg
              · rw [if_pos q, if_pos q]
                have hi : j - dp.toNatClampNeg < n.toNatClampNeg := by omega
                have hlt2 : sp.toNatClampNeg + (j - dp.toNatClampNeg) < xs.length := by omega
                rw [List.getElem?_take_of_lt hi, List.getElem?_drop, List.getElem?_eq_getElem hlt2]
                simp only [Cell.stretch, List.getElem?_map, List.getElem?_range hi, Option.map_some]
                rw [a1, Array.getD_eq_getD_getElem?]
                simp [List.getElem?_eq_getElem hlt2]
              · rw [if_neg q, if_neg q, b1]; simp
            · have : (splice ys dp.toNatClampNeg ((xs.drop sp.toNatClampNeg).take n.toNatClampNeg)).length = ys.length := by unfold splice; rw [List.length_append, List.length_append, List.length_take, List.length_drop, zl]; omega
              show (splice ys dp.toNatClampNeg _).length < _
              rw [this]; exact b2
          · obtain ⟨q, -, rfl⟩ := List.mem_map.mp hz1
            exact Nat.le_add_right _ _
      · cases h
    · cases h
  · cases h
/-- a field reference that has been resolved -/
theorem getReady {p : Program} {e : Env} {R : Room} {s : State} {m : MethodId} {args : Array Value} {below : List Frame} {meth : Method} {c : Code} {T : State} {locs : List Loc} {cells slots : Nat} (X : Stand p l e R s m args below meth c T locs cells slots) (hexec : p.tables.exec = Jvm.exec) {index cf : Nat} {fd : Field} {a : Addr} {cell : Cell} {v : Value}
    (hready : T.vm.fieldReady m.cls index cf fd) (hst : fd.isStatic = false) (hcell : T.heap[a]? = some cell) (hknown : cell.vm ≠ .unknown) (hslot : cell.slots[fd.slot]? = some v) {g : JFrame} (hg : g.method = m) {rest : List Value} (hstack : g.stack = .ref a :: rest) (hdg : decode c.code g.pc = .ok (.getfield index, 3)) :
    ∀ target, Steps p.tables e below (T.setTop { g with pc := g.pc + 3, stack := v :: rest }) target → Steps p.tables e below (T.setTop g) target := by
  intro target hrest
  subst hg
  jvm_step X.here [hexec, hdg, Op.getfield.wp_ready (e := e) (s := T) (f := g) X.here.top hready hst hstack hcell hknown hslot]
  exact hrest
theorem g_getfieldRef {pc sid i kk idx : Nat} {C : String} {fs : List Fi} {f : Fi} (hd : decode bytes pc = .ok (.getfield idx, 3)) (hs : sh[sid]? = some (none, C, kk, fs)) (hi : fs[i]? = some f)
    (w : (Cond.fieldRef y.cls idx f.1 f.2.1 f.2.2.1).before a0 Z = true) : Good l Z hz sh A O y bytes maxL ret pc (sGetF sid i (pc + 3)) := by
  intro F cf ns h hF
  obtain ⟨L, S, D, sl⟩ := cf
  simp only [sGetF] at h
  split at h
  · rename_i k S'
    split at h
    · rename_i o q
      obtain ⟨o1, xs⟩ := o
      cases hk : (o1 == sid)
      · rw [hk] at h; cases h
      · rw [hk] at h; obtain rfl := beq_iff_eq.mp hk
        simp only [cond_true] at h
        split at h
        · rename_i x q2; cases h
          refine ⟨_, List.mem_cons_self .., hF, Nat.le_refl _, Nat.le_refl _, ?_⟩
          intro d0 s0 p e R s m args below meth c T locs hd0 hs0 hh hA X H N hc hl hfr hlo
          have ho := H.2.2 k _ q
          rw [ObAt.cls (o := (o1, xs)) hs] at ho
          obtain ⟨cell, cf, kc, j, fd, z1, z2, z3, z4, z5, z6, z7⟩ := ho.2.2 i f x hi q2
          have hZT : Z.Warmed39 T.vm := wtrans hA.2.1 X.warmed
          have hp := Cond.fieldRef_warmed39 hZT w
          have hown : T.vm.findClass y.cls = some m.cls := by rw [hZT.alike.findClass, ← hA.2.1.alike.findClass]; exact hA.2.2.2.2.1
          obtain ⟨c', k', j', f', y1, y2⟩ := Cond.fieldRef_spec (s := Z.setVm T.vm) (cur := m.cls) (by show T.vm.findClass _ = _; exact hown) hp
          obtain ⟨k'', y3, -⟩ := State.fieldFound?_setVm (s := Z) hZT.alike z2
          cases y1.symm.trans y3
          have hready : T.vm.fieldReady m.cls idx cf fd := y2
          refine ⟨T, locs, X, H, N, fun target kt => ?_⟩
          exact getReady X hA.1 hready z3 z1 z4 z7 (g := frm hz A O m pc (L, (2, .index k) :: S', D, sl)) rfl rfl (hb hA.2.2.1 hd) target kt
        · cases h
    · cases h
  · cases h
end Simp
end Jvm.OwnX

namespace Jvm.OwnX
open Sem ClassFile Op Lib Jvm.Stand Jvm.Free Jvm.LawKit Jvm.RoadKit
/-! ### 9. Maps -/
def repF (F : List Cond) (t : Term) : Term := match F with
  | [] => t
  | .eq a b :: G => bif tq a t && !(isLit b) then b else repF G t
  | _ :: G => repF G t
theorem repF_ok {A : En} {t : Term} : ∀ {F : List Cond}, holds A F → (te A (repF F t)).1 = (te A t).1
  | [], _ => rfl
  | c :: G, h => by
    have hG : holds A G := fun d hd => h d (List.mem_cons_of_mem _ hd)
    have ih := repF_ok (t := t) hG
    have hc := h c (List.mem_cons_self ..)
    unfold repF
    split
    · rename_i heq; cases heq
    · rename_i a b G' heq
      cases heq
      cases q : (tq a t && !(isLit b))
      · exact ih
      · simp only [Bool.and_eq_true] at q
        obtain rfl := tq_eq q.1
        exact Eq.symm hc
    · rename_i G' _ heq
      cases heq
      exact ih
def lk2 (F : List Cond) (a b : Term) : Option Bool := bif tq a b then some true else
  match lk (.eq a b) F with
  | some r => some r
  | none => match lk (.eq b a) F with
    | some r => some r
    | none => dec F (.eq a b)
theorem lk2_ok {A : En} {F : List Cond} {a b : Term} {r : Bool} (hF : holds A F) (h : lk2 F a b = some r) : (te A a).1 = (te A b).1 ↔ r = true := by
  unfold lk2 at h
  cases q : tq a b
  · rw [q] at h
    simp only [cond_false] at h
    split at h
    · rename_i q1; cases h; exact lk_ok (c := .eq a b) hF q1
    · split at h
      · rename_i q1; cases h; exact ⟨fun e => (lk_ok (c := .eq b a) hF q1).mp e.symm, fun e => ((lk_ok (c := .eq b a) hF q1).mpr e).symm⟩
      · exact dec_ok (c := .eq a b) hF h
  · rw [q] at h; cases h
    obtain rfl := tq_eq q
    simp
abbrev Pr := Term × Term
/-- the value at an index -/
def sel (F : List Cond) (j d : Term) : List Pr → List (List Cond × Term)
  | q :: r => match lk2 F j q.1 with
    | some true => [(F, q.2)]
    | some false => sel F j d r
    | none => (.eq j q.1 :: F, q.2) :: sel (.not (.eq j q.1) :: F) j d r
  | [] => [(F, d)]
theorem sel_ok {A : En} {j d : Term} : ∀ {ps : List Pr} {F : List Cond}, holds A F → ∃ r ∈ sel F j d ps, holds A r.1 ∧ ∀ w : Int32, (∀ q ∈ ps, (te A q.1).1 = (te A j).1 → w = (te A q.2).1) → ((∀ q ∈ ps, (te A q.1).1 ≠ (te A j).1) → w = (te A d).1) → w = (te A r.2).1
  | [], F, hF => ⟨(F, d), List.mem_cons_self .., hF, fun w _ h2 => h2 (fun _ h => nomatch h)⟩
  | q :: r, F, hF => by
    have h1' : ∀ w : Int32, (∀ x ∈ q :: r, (te A x.1).1 = (te A j).1 → w = (te A x.2).1) → ∀ x ∈ r, (te A x.1).1 = (te A j).1 → w = (te A x.2).1 := fun w h x hx => h x (List.mem_cons_of_mem _ hx)
    have h2' : ∀ w : Int32, ((∀ x ∈ q :: r, (te A x.1).1 ≠ (te A j).1) → w = (te A d).1) → (te A q.1).1 ≠ (te A j).1 → (∀ x ∈ r, (te A x.1).1 ≠ (te A j).1) → w = (te A d).1 := fun w h2 hq hr => h2 fun x hx => by
      rcases List.mem_cons.mp hx with rfl | hx
      · exact hq
      · exact hr x hx
    unfold sel
    split
    · rename_i e
      exact ⟨_, List.mem_cons_self .., hF, fun w h1 _ => h1 q (List.mem_cons_self ..) ((lk2_ok hF e).mpr rfl).symm⟩
    · rename_i e
      obtain ⟨x, x1, x2, x3⟩ := sel_ok (j := j) (d := d) (ps := r) hF
      exact ⟨x, x1, x2, fun w h1 h2 => x3 w (h1' w h1) (h2' w h2 fun x => nomatch (lk2_ok hF e).mp x.symm)⟩
    · by_cases e : (te A q.1).1 = (te A j).1
      · exact ⟨_, List.mem_cons_self .., holds_cons (show hold A (.eq j q.1) from e.symm) hF, fun w h1 _ => h1 q (List.mem_cons_self ..) e⟩
      · obtain ⟨x, x1, x2, x3⟩ := sel_ok (j := j) (d := d) (ps := r) (F := .not (.eq j q.1) :: F) (holds_cons (show hold A (.not (.eq j q.1)) from fun x => e (Eq.symm x)) hF)
        exact ⟨x, List.mem_cons_of_mem _ x1, x2, fun w h1 h2 => x3 w (h1' w h1) (h2' w h2 e)⟩
def syn (j : Term) : List Pr → Option Term
  | q :: r => bif tq j q.1 then some q.2 else syn j r
  | [] => none
theorem syn_ok {j v : Term} : ∀ {ps : List Pr}, syn j ps = some v → (j, v) ∈ ps
  | [], h => by cases h
  | q :: r, h => by
    unfold syn at h
    cases e : tq j q.1
    · rw [e] at h; exact List.mem_cons_of_mem _ (syn_ok h)
    · rw [e] at h; cases h
      obtain rfl := tq_eq e
      exact List.mem_cons_self ..
/-- in the range 0 .. n - 1 -/
def inR (F : List Cond) (j : Term) (n : Nat) : Bool := decide (0 ≤ (rg F j).1) && decide ((rg F j).2 < n)
theorem inR_ok {A : En} {F : List Cond} {j : Term} {n : Nat} (hF : holds A F) (h : inR F j n = true) : ¬ (te A j).1 < 0 ∧ (te A j).1.toNatClampNeg < n := by
  simp only [inR, Bool.and_eq_true, decide_eq_true_eq] at h
  obtain ⟨h1, h2⟩ := rg_ok hF j
  have e : (te A j).1.toNatClampNeg = (te A j).1.toInt.toNat := rfl
  refine ⟨fun q => ?_, ?_⟩
  · have := Int32.lt_iff_toInt_lt.mp q
    have e0 : (0 : Int32).toInt = 0 := rfl
    omega
  · rw [e]; omega
theorem clamp_inj {x z : Int32} (hx : ¬ x < 0) (hz : ¬ z < 0) (h : x.toNatClampNeg = z.toNatClampNeg) : x = z := by
  have e1 : x.toNatClampNeg = x.toInt.toNat := rfl
  have e2 : z.toNatClampNeg = z.toInt.toNat := rfl
  have e0 : (0 : Int32).toInt = 0 := rfl
  have hx : ¬ x.toInt < (0 : Int32).toInt := fun q => hx (Int32.lt_iff_toInt_lt.mpr q)
  have hz : ¬ z.toInt < (0 : Int32).toInt := fun q => hz (Int32.lt_iff_toInt_lt.mpr q)
  apply Int32.toInt_inj.mp
  omega
/-- an object seen as a map -/
def view (sid : Nat) (o : Ob) : Option (Nat × Term × List Pr) :=
  bif Nat.beq o.1 99 then (match o.2 with
    | (_, .index n) :: (_, d) :: ps => some (n, d, prs ps)
    | _ => none)
  else bif Nat.beq o.1 sid then (match o.2 with
    | (0, x) :: r => bif r.all (fun z => Nat.beq z.1 0 && tq z.2 x) then some (r.length + 1, x, []) else none
    | _ => none) else none
section MapLaws
variable {l : Launch} {Z : State} {hz : Heap} {sh : List Sh} {A : En} {O : Nat → Addr} {y : MethodName} {bytes : ByteArray} {maxL : Nat} {ret : Option FieldType}
theorem view_ok {sid : Nat} {r : String × Nat × List Fi} (h99 : sh[99]? = none) (hs : sh[sid]? = some (some .int, r)) {h : Heap} {a : Addr} {o : Ob} {n : Nat} {d : Term} {ps : List Pr} (hv : view sid o = some (n, d, ps)) (X : ObAt Z hz sh A O h a o) :
    ∃ cl : Cell, Arr Z h a cl .int ∧ MpSl A n d ps cl.slots := by
  obtain ⟨o1, xs⟩ := o
  unfold view at hv
  cases e : Nat.beq o1 99
  · rw [e] at hv
    cases e2 : Nat.beq o1 sid
    · rw [e2] at hv; cases hv
    · rw [e2] at hv
      obtain rfl := Nat.eq_of_beq_eq_true e2
      rw [ObAt.arr (o := (o1, xs)) hs] at X
      obtain ⟨cl, x1, x2, x3, -⟩ := X
      simp only [cond_true, cond_false] at hv
      split at hv
      · rename_i x r
        cases e3 : r.all (fun z => Nat.beq z.1 0 && tq z.2 x)
        · rw [e3] at hv; cases hv
        · rw [e3] at hv; cases hv
          refine ⟨cl, x1, ?_⟩
          have hall : ∀ i, i < r.length + 1 → cl.slots[i]? = some (.int (te A d).1) := by
            intro i hi
            rw [x2]
            cases i with
            | zero => simp; rfl
            | succ i =>
              have hi' : i < r.length := by omega
              have := List.all_eq_true.mp e3 r[i] (List.getElem_mem hi')
              simp only [Bool.and_eq_true] at this
              obtain ⟨a1, a2⟩ := this
              have a1 := Nat.eq_of_beq_eq_true a1
              have a2 := tq_eq a2
              have : r[i] = (0, d) := by rw [← a1, ← a2]
              simp only [List.map_cons, List.getElem?_toArray, List.getElem?_cons_succ, List.getElem?_map, List.getElem?_eq_getElem hi', this, Option.map_some]
              rfl
          refine ⟨by rw [x2]; simp, by simpa using x3, (by intro q h; cases h), fun i hi _ => hall i hi, List.Pairwise.nil⟩
      · cases hv
  · rw [e] at hv
    obtain rfl := Nat.eq_of_beq_eq_true e
    rw [ObAt.mp (o := (99, xs)) h99] at X
    have X := X rfl
    simp only [cond_true] at hv
    split at hv
    · cases hv; exact X
    · cases hv
def flat : List Pr → List SV
  | [] => []
  | q :: r => (0, q.1) :: (0, q.2) :: flat r
theorem prs_flat : ∀ ps : List Pr, prs (flat ps) = ps
  | [] => rfl
  | q :: r => by show (q.1, q.2) :: prs (flat r) = _; rw [prs_flat r]
def mkM (sid n : Nat) (d : Term) (ps : List Pr) : Ob := match ps with
  | [] => (sid, List.replicate n (0, d))
  | _ => (99, (2, .index n) :: (0, d) :: flat ps)
theorem mkM_ok {sid : Nat} {r : String × Nat × List Fi} (h99 : sh[99]? = none) (hs : sh[sid]? = some (some .int, r)) {h : Heap} {a : Addr} {n : Nat} {d : Term} {ps : List Pr} {cl : Cell} (x1 : Arr Z h a cl .int) (x2 : MpSl A n d ps cl.slots) : ObAt Z hz sh A O h a (mkM sid n d ps) := by
  unfold mkM
  split
  · rw [ObAt.arr (o := (sid, _)) hs]
    obtain ⟨m1, m2, -, m4, -⟩ := x2
    refine ⟨cl, x1, ?_, by simpa using m2, fun C h => by cases h⟩
    apply Array.ext_getElem?
    intro i
    by_cases hi : i < n
    · rw [m4 i hi (fun _ h => nomatch h)]
      simp [hi]; rfl
    · rw [Array.getElem?_eq_none (by omega)]
      simp [hi]
  · rw [ObAt.mp (o := (99, _)) h99]
    intro _
    show ∃ cl : Cell, Arr Z h a cl .int ∧ MpSl A n d (prs (flat ps)) cl.slots
    rw [prs_flat]; exact ⟨cl, x1, x2⟩
/-- the pair's value changes; a pair with the default's value is let go -/
def put (k v d : Term) (r : List Pr) : List Pr := bif tq v d then r else (k, v) :: r
theorem MpSl.put {n : Nat} {d k w v : Term} {pre r : List Pr} {sl : Array Value} (X : MpSl A n d (pre ++ (k, w) :: r) sl) : MpSl A n d (pre ++ put k v d r) (sl.setIfInBounds (te A k).1.toNatClampNeg (.int (te A v).1)) := by
  obtain ⟨m1, m2, m3, m4, m5⟩ := X
  have hk := m3 (k, w) (by simp)
  simp only [List.pairwise_append, List.pairwise_cons, List.mem_cons] at m5
  obtain ⟨p1, ⟨p2, p3⟩, p4⟩ := m5
  have hne : ∀ q, q ∈ pre ∨ q ∈ r → ¬ (te A q.1).1 < 0 ∧ (te A q.1).1.toNatClampNeg < n ∧ (te A q.1).1.toNatClampNeg ≠ (te A k).1.toNatClampNeg ∧ sl[(te A q.1).1.toNatClampNeg]? = some (.int (te A q.2).1) := by
    intro q hq
    have := m3 q (by rcases hq with h | h <;> simp [h])
    refine ⟨this.1, this.2.1, fun e => ?_, this.2.2⟩
    have e := clamp_inj this.1 hk.1 e
    rcases hq with h | h
    · exact p4 q h (k, w) (Or.inl rfl) e
    · exact p2 q h e.symm
  have hold : ∀ q, q ∈ pre ∨ q ∈ r → ¬ (te A q.1).1 < 0 ∧ (te A q.1).1.toNatClampNeg < n ∧ (sl.setIfInBounds (te A k).1.toNatClampNeg (.int (te A v).1))[(te A q.1).1.toNatClampNeg]? = some (.int (te A q.2).1) := by
    intro q hq
    obtain ⟨a1, a2, a3, a4⟩ := hne q hq
    exact ⟨a1, a2, by rw [Array.getElem?_setIfInBounds_ne (Ne.symm a3)]; exact a4⟩
  have hsame : (sl.setIfInBounds (te A k).1.toNatClampNeg (.int (te A v).1))[(te A k).1.toNatClampNeg]? = some (.int (te A v).1) := by
    rw [Array.getElem?_setIfInBounds_self_of_lt (by rw [m1]; exact hk.2.1)]
  unfold OwnX.put
  cases e : tq v d
  · refine ⟨by simpa using m1, m2, ?_, ?_, ?_⟩
    · intro q hq
      simp only [cond_false, List.mem_append, List.mem_cons] at hq
      rcases hq with h | rfl | h
      · exact hold q (Or.inl h)
      · exact ⟨hk.1, hk.2.1, hsame⟩
      · exact hold q (Or.inr h)
    · intro i hi h
      simp only [cond_false, List.mem_append, List.mem_cons] at h
      have hik := h (k, v) (Or.inr (Or.inl rfl))
      rw [Array.getElem?_setIfInBounds_ne hik]
      refine m4 i hi fun q hq => ?_
      simp only [List.mem_append, List.mem_cons] at hq
      rcases hq with h1 | rfl | h1
      · exact h q (Or.inl h1)
      · exact hik
      · exact h q (Or.inr (Or.inr h1))
    · simp only [cond_false, List.pairwise_append, List.pairwise_cons, List.mem_cons]
      exact ⟨p1, ⟨p2, p3⟩, fun a ha b hb => by
        rcases hb with rfl | hb
        · exact p4 a ha (k, w) (Or.inl rfl)
        · exact p4 a ha b (Or.inr hb)⟩
  · obtain rfl := tq_eq e
    refine ⟨by simpa using m1, m2, ?_, ?_, ?_⟩
    · intro q hq
      simp only [cond_true, List.mem_append] at hq
      exact hold q hq
    · intro i hi h
      simp only [cond_true, List.mem_append] at h
      by_cases hik : (te A k).1.toNatClampNeg = i
      · rw [← hik]; exact hsame
      · rw [Array.getElem?_setIfInBounds_ne hik]
        refine m4 i hi fun q hq => ?_
        simp only [List.mem_append, List.mem_cons] at hq
        rcases hq with h1 | rfl | h1
        · exact h q (Or.inl h1)
        · exact hik
        · exact h q (Or.inr h1)
    · simp only [cond_true, List.pairwise_append]
      exact ⟨p1, p3, fun a ha b hb => p4 a ha b (Or.inr hb)⟩
def appM (j v d : Term) (ps : List Pr) : List Pr := bif tq v d then ps else ps ++ [(j, v)]
theorem MpSl.app {n : Nat} {d j v : Term} {ps : List Pr} {sl : Array Value} (X : MpSl A n d ps sl) (h0 : ¬ (te A j).1 < 0) (h1 : (te A j).1.toNatClampNeg < n) (hne : ∀ q ∈ ps, (te A q.1).1 ≠ (te A j).1) : MpSl A n d (appM j v d ps) (sl.setIfInBounds (te A j).1.toNatClampNeg (.int (te A v).1)) := by
  obtain ⟨m1, m2, m3, m4, m5⟩ := X
  have hold : ∀ q ∈ ps, ¬ (te A q.1).1 < 0 ∧ (te A q.1).1.toNatClampNeg < n ∧ (sl.setIfInBounds (te A j).1.toNatClampNeg (.int (te A v).1))[(te A q.1).1.toNatClampNeg]? = some (.int (te A q.2).1) := by
    intro q hq
    obtain ⟨a1, a2, a3⟩ := m3 q hq
    refine ⟨a1, a2, ?_⟩
    rw [Array.getElem?_setIfInBounds_ne (fun e => hne q hq (clamp_inj a1 h0 e.symm))]
    exact a3
  have hsame : (sl.setIfInBounds (te A j).1.toNatClampNeg (.int (te A v).1))[(te A j).1.toNatClampNeg]? = some (.int (te A v).1) := by
    rw [Array.getElem?_setIfInBounds_self_of_lt (by rw [m1]; exact h1)]
  unfold appM
  cases e : tq v d
  · refine ⟨by simpa using m1, m2, ?_, ?_, ?_⟩
    · intro q hq
      simp only [cond_false, List.mem_append, List.mem_singleton] at hq
      rcases hq with h | rfl
      · exact hold q h
      · exact ⟨h0, h1, hsame⟩
    · intro i hi h
      simp only [cond_false, List.mem_append, List.mem_singleton] at h
      rw [Array.getElem?_setIfInBounds_ne (h (j, v) (Or.inr rfl))]
      exact m4 i hi fun q hq => h q (Or.inl hq)
    · simp only [cond_false, List.pairwise_append, List.mem_singleton]
      exact ⟨m5, List.pairwise_singleton .., fun a ha b hb => by subst hb; exact hne a ha⟩
  · obtain rfl := tq_eq e
    refine ⟨by simpa using m1, m2, hold, fun i hi h => ?_, m5⟩
    by_cases hij : (te A j).1.toNatClampNeg = i
    · rw [← hij]; exact hsame
    · rw [Array.getElem?_setIfInBounds_ne hij]
      exact m4 i hi h
/-- the pairs after a store -/
def setP (F : List Cond) (j v d : Term) (pre : List Pr) : List Pr → List (List Cond × List Pr)
  | q :: r => match lk2 F j q.1 with
    | some true => [(F, pre ++ put q.1 v d r)]
    | some false => setP F j v d (pre ++ [q]) r
    | none => (.eq j q.1 :: F, pre ++ put q.1 v d r) :: setP (.not (.eq j q.1) :: F) j v d (pre ++ [q]) r
  | [] => [(F, appM j v d pre)]
theorem setP_ok {n : Nat} {d j v : Term} (h0 : ¬ (te A j).1 < 0) (h1 : (te A j).1.toNatClampNeg < n) : ∀ {ps pre : List Pr} {F : List Cond}, holds A F → (∀ q ∈ pre, (te A q.1).1 ≠ (te A j).1) →
    ∃ r ∈ setP F j v d pre ps, holds A r.1 ∧ ∀ sl, MpSl A n d (pre ++ ps) sl → MpSl A n d r.2 (sl.setIfInBounds (te A j).1.toNatClampNeg (.int (te A v).1))
  | [], pre, F, hF, hp => ⟨(F, appM j v d pre), List.mem_cons_self .., hF, fun sl X => MpSl.app (by simpa using X) h0 h1 hp⟩
  | q :: r, pre, F, hF, hp => by
    have yes : (te A j).1 = (te A q.1).1 → ∀ sl, MpSl A n d (pre ++ q :: r) sl → MpSl A n d (pre ++ OwnX.put q.1 v d r) (sl.setIfInBounds (te A j).1.toNatClampNeg (.int (te A v).1)) := fun e sl X => by
      rw [e]; exact MpSl.put (w := q.2) X
    have no : ∀ {F : List Cond}, holds A F → ¬ (te A j).1 = (te A q.1).1 → ∃ x ∈ setP F j v d (pre ++ [q]) r, holds A x.1 ∧ ∀ sl, MpSl A n d (pre ++ q :: r) sl → MpSl A n d x.2 (sl.setIfInBounds (te A j).1.toNatClampNeg (.int (te A v).1)) := fun hF e => by
      obtain ⟨x, x1, x2, x3⟩ := setP_ok (d := d) (v := v) h0 h1 (ps := r) (pre := pre ++ [q]) hF fun x hx => by
        rcases List.mem_append.mp hx with hx | hx
        · exact hp x hx
        · rcases List.mem_singleton.mp hx with rfl; exact fun q => e q.symm
      exact ⟨x, x1, x2, fun sl X => x3 sl (by rw [List.append_assoc]; exact X)⟩
    unfold setP
    split
    · rename_i e
      exact ⟨_, List.mem_cons_self .., hF, yes ((lk2_ok hF e).mpr rfl)⟩
    · rename_i e
      exact no hF fun x => nomatch (lk2_ok hF e).mp x
    · by_cases e : (te A j).1 = (te A q.1).1
      · exact ⟨_, List.mem_cons_self .., holds_cons (show hold A (.eq j q.1) from e) hF, yes e⟩
      · obtain ⟨x, x1, x2⟩ := no (F := .not (.eq j q.1) :: F) (holds_cons (show hold A (.not (.eq j q.1)) from e) hF) e
        exact ⟨x, List.mem_cons_of_mem _ x1, x2⟩
def synP (j v d : Term) (pre : List Pr) : List Pr → Option (List Pr)
  | q :: r => bif tq j q.1 then some (pre ++ put q.1 v d r) else synP j v d (pre ++ [q]) r
  | [] => none
theorem synP_ok {n : Nat} {d j v : Term} {sl : Array Value} : ∀ {ps pre ps' : List Pr}, synP j v d pre ps = some ps' → MpSl A n d (pre ++ ps) sl → ∃ q ∈ pre ++ ps, j = q.1 ∧ MpSl A n d ps' (sl.setIfInBounds (te A j).1.toNatClampNeg (.int (te A v).1))
  | [], pre, ps', h, X => by cases h
  | q :: r, pre, ps', h, X => by
    unfold synP at h
    cases e : tq j q.1
    · rw [e] at h
      obtain ⟨x, x1, x2⟩ := synP_ok h (by rw [List.append_assoc]; exact X)
      exact ⟨x, by simpa using x1, x2⟩
    · rw [e] at h; cases h
      have e := tq_eq e
      refine ⟨q, by simp, e, ?_⟩
      rw [e]; exact MpSl.put (w := q.2) X
def stP (F : List Cond) (j v d : Term) (n : Nat) (ps : List Pr) : Option (List (List Cond × List Pr)) := match synP j v d [] ps with
  | some ps' => some [(F, ps')]
  | none => bif inR F j n then some (setP F j v d [] ps) else none
theorem stP_ok {F : List Cond} {n : Nat} {d j v : Term} {ps : List Pr} {rs : List (List Cond × List Pr)} (hF : holds A F) (h : stP F j v d n ps = some rs) :
    ∃ r ∈ rs, holds A r.1 ∧ ∀ sl, MpSl A n d ps sl → ¬ (te A j).1 < 0 ∧ (te A j).1.toNatClampNeg < n ∧ MpSl A n d r.2 (sl.setIfInBounds (te A j).1.toNatClampNeg (.int (te A v).1)) := by
  unfold stP at h
  split at h
  · rename_i ps' e
    cases h
    refine ⟨_, List.mem_cons_self .., hF, fun sl X => ?_⟩
    obtain ⟨q, q1, q2, q3⟩ := synP_ok e X
    have := X.2.2.1 q q1
    subst q2
    exact ⟨this.1, this.2.1, q3⟩
  · cases e : inR F j n
    · rw [e] at h; cases h
    · rw [e] at h; cases h
      obtain ⟨a1, a2⟩ := inR_ok hF e
      obtain ⟨r, r1, r2, r3⟩ := setP_ok (d := d) (v := v) a1 a2 (ps := ps) (pre := []) hF (fun _ h => nomatch h)
      exact ⟨r, r1, r2, fun sl X => ⟨a1, a2, r3 sl X⟩⟩
def ldP (F : List Cond) (j d : Term) (n : Nat) (ps : List Pr) : Option (List (List Cond × Term)) := match syn j ps with
  | some v => some [(F, v)]
  | none => bif inR F j n then some (sel F j d ps) else none
theorem ldP_ok {F : List Cond} {n : Nat} {d j : Term} {ps : List Pr} {rs : List (List Cond × Term)} (hF : holds A F) (h : ldP F j d n ps = some rs) :
    ∃ r ∈ rs, holds A r.1 ∧ ∀ sl, MpSl A n d ps sl → ¬ (te A j).1 < 0 ∧ (te A j).1.toNatClampNeg < n ∧ sl[(te A j).1.toNatClampNeg]? = some (.int (te A r.2).1) := by
  unfold ldP at h
  split at h
  · rename_i v e
    cases h
    refine ⟨_, List.mem_cons_self .., hF, fun sl X => ?_⟩
    have := X.2.2.1 _ (syn_ok e)
    exact ⟨this.1, this.2.1, this.2.2⟩
  · cases e : inR F j n
    · rw [e] at h; cases h
    · rw [e] at h; cases h
      obtain ⟨a1, a2⟩ := inR_ok hF e
      obtain ⟨r, r1, r2, r3⟩ := sel_ok (j := j) (d := d) (ps := ps) hF
      refine ⟨r, r1, r2, fun sl X => ⟨a1, a2, ?_⟩⟩
      obtain ⟨m1, m2, m3, m4, m5⟩ := X
      have hw : ∃ w : Int32, sl[(te A j).1.toNatClampNeg]? = some (.int w) ∧ (∀ q ∈ ps, (te A q.1).1 = (te A j).1 → w = (te A q.2).1) ∧ ((∀ q ∈ ps, (te A q.1).1 ≠ (te A j).1) → w = (te A d).1) := by
        by_cases hq : ∃ q ∈ ps, (te A q.1).1 = (te A j).1
        · obtain ⟨q, h1, h2⟩ := hq
          refine ⟨(te A q.2).1, by rw [← h2]; exact (m3 q h1).2.2, fun x hx e => ?_, fun h => absurd h2 (h q h1)⟩
          have z1 := (m3 q h1).2.2
          have z2 := (m3 x hx).2.2
          rw [h2] at z1; rw [e, z1] at z2
          injection z2 with z2; injection z2
        · have hq' : ∀ q ∈ ps, (te A q.1).1 ≠ (te A j).1 := fun q h e => hq ⟨q, h, e⟩
          refine ⟨(te A d).1, m4 _ a2 (fun q h e => hq' q h (clamp_inj (m3 q h).1 a1 e)), fun x hx e => absurd e (hq' x hx), fun _ => rfl⟩
      obtain ⟨w, w1, w2, w3⟩ := hw
      rw [w1, r3 w w2 w3]
/-- iaload, also of maps and at an unknown index of a uniform array -/
def ldV (sid nx : Nat) : Stp := fun F cf => match cf.2.1 with
  | (0, j) :: (2, .index k) :: S => (match cf.2.2.1[k]? with
    | some o => (match view sid o with
      | some w => (match ldP F (repF F j) w.2.1 w.1 w.2.2 with
        | some rs => some (rs.map fun r => (r.1, nx, (cf.1, (0, r.2) :: S, cf.2.2)))
        | none => none)
      | none => none)
    | none => none)
  | _ => none
def isMp (D : List Ob) : List SV → Bool
  | (2, .index k) :: _ => (match D[k]? with
    | some o => Nat.beq o.1 99
    | none => false)
  | _ => false
def sLdM (sid nx : Nat) : Stp := fun F cf => bif isMp cf.2.2.1 cf.2.1.tail then ldV sid nx F cf else (match sAld sid nx F cf with
  | some ns => some ns
  | none => ldV sid nx F cf)
theorem g_ldV {pc sid : Nat} {r : String × Nat × List Fi} (hd : decode bytes pc = .ok (.iaload, 1)) (h99 : sh[99]? = none) (hs : sh[sid]? = some (some .int, r)) : Good l Z hz sh A O y bytes maxL ret pc (ldV sid (pc + 1)) := by
  intro F cf ns h hF
  unfold ldV at h
  obtain ⟨L, S, D, sl⟩ := cf
  · simp only at h
    split at h
    · rename_i j k S'
      split at h
      · rename_i o q2
        split at h
        · rename_i w q3
          obtain ⟨n, d, ps⟩ := w
          split at h
          · rename_i rs q4
            cases h
            simp only at q4
            obtain ⟨r, r1, r2, r3⟩ := ldP_ok hF q4
            refine ⟨_, List.mem_map.mpr ⟨r, r1, rfl⟩, r2, Nat.le_refl _, Nat.le_refl _, ?_⟩
            intro d0 s0 p e R s m args below meth c T locs hd0 hs0 hh hA X H N hc hl hfr hlo
            refine ⟨T, locs, X, H, N, fun target st => ?_⟩
            obtain ⟨cl, Ar, Mp⟩ := view_ok h99 hs q3 (H.2.2 k _ q2)
            obtain ⟨b1, b2, b3⟩ := r3 _ Mp
            rw [repF_ok hF] at b1 b2 b3
            have hgs : (frm hz A O m pc (L, (0, j) :: (2, .index k) :: S', D, sl)).stack = .int (te A j).1 :: .ref (hz.size + k) :: S'.map (vv A O hz.size) := rfl
            exact X.iaload hA.1 Ar.1 (State.isArrayOf_alike hA.2.1.alike Ar.2.1) Ar.2.2 (j := (te A j).1) (v := .int (te A r.2).1) (fun q => q.elim b1 (fun q => by have := Mp.1; omega)) b3 (g := frm hz A O m pc (L, (0, j) :: (2, .index k) :: S', D, sl)) rfl hgs (hb hA.2.2.1 hd) _ st
          · cases h
        · cases h
      · cases h
    · cases h
theorem g_ialoadM {pc sid : Nat} {r : String × Nat × List Fi} (hd : decode bytes pc = .ok (.iaload, 1)) (h99 : sh[99]? = none) (hs : sh[sid]? = some (some .int, r)) : Good l Z hz sh A O y bytes maxL ret pc (sLdM sid (pc + 1)) := by
  intro F cf ns h hF
  unfold sLdM at h
  cases e : isMp cf.2.2.1 cf.2.1.tail
  · rw [e] at h
    simp only [cond_false] at h
    split at h
    · rename_i ns' q
      cases h
      exact g_iaload hd hs F cf _ q hF
    · exact g_ldV hd h99 hs F cf _ h hF
  · rw [e] at h
    exact g_ldV hd h99 hs F cf _ h hF
/-- iastore, also of maps and at an unknown index of a uniform array -/
def stV (sid nx : Nat) : Stp := fun F cf => match cf.2.1 with
  | (0, v) :: (0, j) :: (2, .index k) :: S => (match cf.2.2.1[k]? with
    | some o => (match view sid o with
      | some w => (match stP F (repF F j) v w.2.1 w.1 w.2.2 with
        | some rs => some (rs.map fun r => (r.1, nx, (cf.1, S, cf.2.2.1.set k (mkM sid w.1 w.2.1 r.2), cf.2.2.2)))
        | none => none)
      | none => none)
    | none => none)
  | _ => none
def sStM (sid nx : Nat) : Stp := fun F cf => bif isMp cf.2.2.1 cf.2.1.tail.tail then stV sid nx F cf else (match sAst sid .int nx F cf with
  | some ns => some ns
  | none => stV sid nx F cf)
theorem g_stV {pc sid : Nat} {r : String × Nat × List Fi} (hd : decode bytes pc = .ok (.iastore, 1)) (h99 : sh[99]? = none) (hs : sh[sid]? = some (some .int, r)) : Good l Z hz sh A O y bytes maxL ret pc (stV sid (pc + 1)) := by
  intro F cf ns h hF
  unfold stV at h
  obtain ⟨L, S, D, sl⟩ := cf
  · simp only at h
    split at h
    · rename_i v j k S'
      split at h
      · rename_i o q2
        split at h
        · rename_i w q3
          obtain ⟨n, d, ps⟩ := w
          split at h
          · rename_i rs q4
            cases h
            simp only at q4
            obtain ⟨r, r1, r2, r3⟩ := stP_ok hF q4
            refine ⟨_, List.mem_map.mpr ⟨r, r1, rfl⟩, r2, by simp, by simp, ?_⟩
            intro d0 s0 p e R s m args below meth c T locs hd0 hs0 hh hA X H N hc hl hfr hlo
            simp only [List.length_set] at hc hl hd0 hs0 X H ⊢
            obtain ⟨cl, Ar, Mp⟩ := view_ok h99 hs q3 (H.2.2 k _ q2)
            obtain ⟨b1, b2, b3⟩ := r3 _ Mp
            rw [repF_ok hF] at b1 b2 b3
            have hgs : (frm hz A O m pc (L, (0, v) :: (0, j) :: (2, .index k) :: S', D, sl)).stack = .int (te A v).1 :: .int (te A j).1 :: .ref (hz.size + k) :: S'.map (vv A O hz.size) := rfl
            obtain ⟨T', h', X', e1, W, st⟩ := stI X hA.1 hA.2.1 rfl Ar (j := (te A j).1) (fun q => q.elim b1 (fun q => by have := Mp.1; omega)) (g := frm hz A O m pc (L, (0, v) :: (0, j) :: (2, .index k) :: S', D, sl)) rfl hgs (hb hA.2.2.1 hd)
            subst e1
            refine ⟨T', _, X', ?_, Fr.snoc X' N (Nat.le_add_right _ _), st⟩
            refine H.set q2 W (mkM_ok h99 hs (Ar.same W) b3)
          · cases h
        · cases h
      · cases h
    · cases h
theorem g_iastoreM {pc sid : Nat} {r : String × Nat × List Fi} (hd : decode bytes pc = .ok (.iastore, 1)) (h99 : sh[99]? = none) (hs : sh[sid]? = some (some .int, r)) : Good l Z hz sh A O y bytes maxL ret pc (sStM sid (pc + 1)) := by
  intro F cf ns h hF
  unfold sStM at h
  cases e : isMp cf.2.2.1 cf.2.1.tail.tail
  · rw [e] at h
    simp only [cond_false] at h
    split at h
    · rename_i ns' q
      cases h
      exact g_iastore hd hs F cf _ q hF
    · exact g_stV hd h99 hs F cf _ h hF
  · rw [e] at h
    exact g_stV hd h99 hs F cf _ h hF
end MapLaws
end Jvm.OwnX

namespace Jvm.OwnX
open Sem ClassFile Op Lib Jvm.Stand Jvm.Free Jvm.LawKit Jvm.RoadKit
/-! ### 10. Cuts at which arrays become maps -/
def subP (σ : List Term) (ps : List Pr) : List Pr := ps.map fun q => (sub σ q.1, sub σ q.2)
def take1 (q : Pr) : List Pr → Option (List Pr)
  | z :: r => bif tq q.1 z.1 && tq q.2 z.2 then some r else (match take1 q r with
    | some r' => some (z :: r')
    | none => none)
  | [] => none
theorem take1_ok {q : Pr} : ∀ {zs r : List Pr}, take1 q zs = some r → zs.Perm (q :: r)
  | [], r, h => by cases h
  | z :: zs, r, h => by
    unfold take1 at h
    cases e : (tq q.1 z.1 && tq q.2 z.2)
    · rw [e] at h
      simp only [cond_false] at h
      split at h
      · rename_i r' e2; cases h
        exact ((take1_ok e2).cons z).trans (List.Perm.swap ..)
      · cases h
    · rw [e] at h; cases h
      simp only [Bool.and_eq_true] at e
      have : q = z := Prod.ext (tq_eq e.1) (tq_eq e.2)
      rw [this]
def pull : List Pr → List Pr → Bool
  | q :: r, zs => (match take1 q zs with
    | some zs' => pull r zs'
    | none => false)
  | [], [] => true
  | [], _ :: _ => false
theorem pull_ok : ∀ {ps zs : List Pr}, pull ps zs = true → zs.Perm ps
  | [], [], _ => List.Perm.refl _
  | [], _ :: _, h => by cases h
  | q :: r, zs, h => by
    unfold pull at h
    split at h
    · rename_i zs' e
      exact (take1_ok e).trans ((pull_ok h).cons q)
    · cases h
theorem MpSl.perm {A : En} {n : Nat} {d : Term} {ps zs : List Pr} {sl : Array Value} (P : zs.Perm ps) (X : MpSl A n d zs sl) : MpSl A n d ps sl := by
  obtain ⟨m1, m2, m3, m4, m5⟩ := X
  exact ⟨m1, m2, fun q hq => m3 q (P.mem_iff.mpr hq), fun i hi h => m4 i hi fun q hq => h q (P.mem_iff.mp hq), (P.pairwise_iff (fun h => Ne.symm h)).mp m5⟩
theorem MpSl.sub {A : En} {σ : List Term} {n : Nat} {d : Term} {ps : List Pr} {sl : Array Value} (X : MpSl A n (sub σ d) (subP σ ps) sl) : MpSl (env' A σ) n d ps sl := by
  obtain ⟨m1, m2, m3, m4, m5⟩ := X
  refine ⟨m1, m2, fun q hq => ?_, fun i hi h => ?_, ?_⟩
  · have := m3 (OwnX.sub σ q.1, OwnX.sub σ q.2) (List.mem_map.mpr ⟨q, hq, rfl⟩)
    simpa only [te_sub] using this
  · have := m4 i hi fun q hq => by
      obtain ⟨z, z1, rfl⟩ := List.mem_map.mp hq
      simpa only [te_sub] using h z z1
    simpa only [te_sub] using this
  · have := List.pairwise_map.mp m5
    simpa only [te_sub] using this
/-- a literal array's components under the names of the pattern -/
def litAt (xs : List SV) (q : Pr) : Bool := match q.1 with
  | .int c => decide (0 ≤ c) && (match xs[c.toNatClampNeg]? with
    | some (0, t) => tq t q.2
    | _ => false)
  | _ => false
def litNe (a b : Term) : Bool := match a, b with
  | .int c, .int d => !(c == d)
  | _, _ => false
def pwN : List Pr → Bool
  | q :: r => r.all (fun z => litNe q.1 z.1) && pwN r
  | [] => true
def covN (ps : List Pr) (i : Nat) : Bool := ps.any fun q => match q.1 with
  | .int c => Nat.beq c.toNatClampNeg i
  | _ => false
def allN (ps : List Pr) : Nat → Bool
  | 0 => true
  | n + 1 => covN ps n && allN ps n
def arrM (n : Nat) (ps : List Pr) (xs : List SV) : Bool := Nat.beq xs.length n && (ps.all (litAt xs) && (pwN ps && allN ps n))
theorem pwN_ok {A : En} : ∀ {ps : List Pr}, pwN ps = true → ps.Pairwise (fun q r => (te A q.1).1 ≠ (te A r.1).1)
  | [], _ => List.Pairwise.nil
  | q :: r, h => by
    simp only [pwN, Bool.and_eq_true] at h
    refine List.Pairwise.cons (fun z hz => ?_) (pwN_ok h.2)
    have := List.all_eq_true.mp h.1 z hz
    unfold litNe at this
    split at this
    · rename_i c d e1 e2
      rw [e1, e2]
      have : ¬ c = d := by simpa using this
      exact this
    · cases this
theorem allN_ok {ps : List Pr} : ∀ {n i : Nat}, allN ps n = true → i < n → covN ps i = true
  | 0, i, _, hi => absurd hi (Nat.not_lt_zero _)
  | n + 1, i, h, hi => by
    simp only [allN, Bool.and_eq_true] at h
    rcases Nat.lt_succ_iff_lt_or_eq.mp hi with q | rfl
    · exact allN_ok h.2 q
    · exact h.1
theorem arrM_ok {A : En} {O : Nat → Addr} {n0 n : Nat} {d : Term} {ps : List Pr} {xs : List SV} {sl : Array Value} (h : arrM n ps xs = true) (e : sl = (xs.map (vv A O n0)).toArray) (hl : xs.length < 2 ^ 31) : MpSl A n d ps sl := by
  simp only [arrM, Bool.and_eq_true] at h
  obtain ⟨h1, h2, h3, h4⟩ := h
  have h1 := Nat.eq_of_beq_eq_true h1
  subst h1
  refine ⟨by rw [e]; simp, hl, fun q hq => ?_, fun i hi h => ?_, pwN_ok h3⟩
  · have := List.all_eq_true.mp h2 q hq
    unfold litAt at this
    split at this
    · rename_i c ec
      simp only [Bool.and_eq_true, decide_eq_true_eq] at this
      obtain ⟨c1, c2⟩ := this
      split at c2
      · rename_i t et
        have hlt := (List.getElem?_eq_some_iff.mp et).1
        rw [ec]
        refine ⟨Int32.not_lt.mpr c1, hlt, ?_⟩
        show sl[c.toNatClampNeg]? = _
        rw [e, ← tq_eq c2]
        simp only [List.getElem?_toArray, List.getElem?_map, et, Option.map_some]
        rfl
      · cases c2
    · cases this
  · obtain ⟨q, q1, q2⟩ := List.any_eq_true.mp (allN_ok h4 hi)
    split at q2
    · rename_i c ec
      refine absurd ?_ (h q q1)
      rw [ec]; exact Nat.eq_of_beq_eq_true q2
    · cases q2
def mq (si : Nat) (σ : List Term) (xs : List SV) (z : Ob) : Bool := match xs with
  | (_, .index n) :: (_, d) :: ps => bif Nat.beq z.1 99 then (match z.2 with
      | (_, .index n') :: (_, d') :: ps' => Nat.beq n n' && (tq (sub σ d) d' && pull (subP σ (prs ps)) (prs ps'))
      | _ => false)
    else Nat.beq z.1 si && arrM n (subP σ (prs ps)) z.2
  | _ => true
def oqM (si : Nat) (σ : List Term) : List Ob → List Ob → Bool
  | [], [] => true
  | x :: xs, z :: zs => (bif Nat.beq x.1 99 then mq si σ x.2 z else (Nat.beq x.1 z.1 && vqs σ x.2 z.2)) && oqM si σ xs zs
  | _, _ => false
def cfM (si : Nat) (σ : List Term) (c0 c : Cf) : Bool := Nat.beq c0.2.2.2 c.2.2.2 && (lqs σ c0.1 c.1 && (vqs σ c0.2.1 c.2.1 && oqM si σ c0.2.2.1 c.2.2.1))
section
variable {l : Launch} {Z : State} {hz : Heap} {sh : List Sh} {A : En} {O : Nat → Addr}
theorem mq_ok {si : Nat} {r : String × Nat × List Fi} {σ : List Term} (h99 : sh[99]? = none) (hs : sh[si]? = some (some .int, r)) {h : Heap} {a : Addr} {xs : List SV} {z : Ob} (q : mq si σ xs z = true) (X : ObAt Z hz sh A O h a z) : ObAt Z hz sh (env' A σ) O h a (99, xs) := by
  rw [ObAt.mp (o := (99, xs)) h99]
  intro h0
  clear h0
  obtain ⟨z1, zs⟩ := z
  unfold mq at q
  split at q
  · rename_i n _ d ps
    show ∃ cl : Cell, Arr Z h a cl .int ∧ MpSl (env' A σ) n d (prs ps) cl.slots
    cases e : Nat.beq z1 99
    · rw [e] at q
      simp only [cond_false, Bool.and_eq_true] at q
      obtain rfl := Nat.eq_of_beq_eq_true q.1
      rw [ObAt.arr (o := (z1, zs)) hs] at X
      obtain ⟨cl, x1, x2, x3, -⟩ := X
      exact ⟨cl, x1, MpSl.sub (arrM_ok q.2 x2 x3)⟩
    · rw [e] at q
      obtain rfl := Nat.eq_of_beq_eq_true e
      rw [ObAt.mp (o := (99, zs)) h99] at X
      have X := X rfl
      simp only [cond_true] at q
      split at q
      · rename_i n' _ d' ps'
        simp only [Bool.and_eq_true] at q
        obtain rfl := Nat.eq_of_beq_eq_true q.1
        obtain ⟨cl, x1, x2⟩ := X
        refine ⟨cl, x1, MpSl.sub ?_⟩
        rw [tq_eq q.2.1]
        exact MpSl.perm (pull_ok q.2.2) x2
      · cases q
  · rename_i hno
    unfold MpOk
    split
    · rename_i heq; exact (hno _ _ _ _ _ heq).elim
    · trivial
theorem oqM_ok {si : Nat} {r : String × Nat × List Fi} {σ : List Term} (h99 : sh[99]? = none) (hs : sh[si]? = some (some .int, r)) {h : Heap} : ∀ {xs zs : List Ob}, oqM si σ xs zs = true → zs.length = xs.length ∧ ∀ (k : Nat) (o : Ob), xs[k]? = some o → ∃ z, zs[k]? = some z ∧ ∀ a, ObAt Z hz sh A O h a z → ObAt Z hz sh (env' A σ) O h a o
  | [], [], _ => ⟨rfl, fun k o h => by simp at h⟩
  | x :: xs, z :: zs, h => by
    simp only [oqM, Bool.and_eq_true] at h
    obtain ⟨i1, i2⟩ := oqM_ok h99 hs h.2
    refine ⟨by simp [i1], fun k o hk => ?_⟩
    cases k with
    | zero =>
      simp only [List.getElem?_cons_zero, Option.some.injEq] at hk ⊢
      subst hk
      refine ⟨z, rfl, fun a X => ?_⟩
      have h1 := h.1
      obtain ⟨x1, x2⟩ := x
      cases e : Nat.beq x1 99
      · rw [e] at h1
        simp only [cond_false, Bool.and_eq_true] at h1
        obtain ⟨z1, z2⟩ := z
        have e1 := Nat.eq_of_beq_eq_true h1.1
        simp only at e1
        subst e1
        exact ObAt.sub (fun q => by rw [q] at e; cases e) h1.2 X
      · rw [e] at h1
        obtain rfl := Nat.eq_of_beq_eq_true e
        exact mq_ok h99 hs h1 X
    | succ k => simpa using i2 k o (by simpa using hk)
  | [], _ :: _, h => by cases h
  | _ :: _, [], h => by cases h
theorem HD.subM {si : Nat} {r : String × Nat × List Fi} {σ : List Term} (h99 : sh[99]? = none) (hs : sh[si]? = some (some .int, r)) {h : Heap} {D0 D : List Ob} (q : oqM si σ D0 D = true) (H : HD Z hz sh A O h D) : HD Z hz sh (env' A σ) O h D0 := by
  obtain ⟨i1, i2⟩ := oqM_ok (A := A) (Z := Z) (hz := hz) (O := O) (h := h) h99 hs q
  refine ⟨by rw [H.1, i1], H.2.1, fun k o hk => ?_⟩
  obtain ⟨z, e1, e2⟩ := i2 k o hk
  exact e2 _ (H.2.2 k _ e1)
theorem Top.subM {si : Nat} {r : String × Nat × List Fi} (h99 : sh[99]? = none) (hs : sh[si]? = some (some .int, r)) {y : MethodName} {bytes : ByteArray} {maxL : Nat} {ret : Option FieldType} {σ : List Term} {C N fr lo pc : Nat} {c0 c : Cf} (q : cfM si σ c0 c = true) (K : Top l Z hz sh (env' A σ) O y bytes maxL ret C N fr lo pc c0) : Top l Z hz sh A O y bytes maxL ret C N fr lo pc c := by
  simp only [cfM, Bool.and_eq_true] at q
  obtain ⟨q4, q1, q2, q3⟩ := q
  have e4 := Nat.eq_of_beq_eq_true q4
  have e3 := (oqM_ok (A := A) (Z := Z) (hz := hz) (O := O) (h := hz) h99 hs q3).1
  obtain ⟨k1, k2, k3⟩ := K
  refine ⟨by rw [e3]; exact k1, by rw [← e4]; exact k2, ?_⟩
  intro p e R s m args below meth cc T locs hh hA X H N' hc hl hf hlo
  have ef : frm hz A O m pc c = frm hz (env' A σ) O m pc c0 := by unfold frm; rw [lqs_ok q1, vqs_ok q2]
  rw [ef]
  exact k3 p e R s m args below meth cc T locs hh hA (by rw [← e3, e4]; exact X) (HD.subM h99 hs q3 H) N' hc hl hf hlo
/-- the test at such a cut: some pattern of a list fits, under the names that `nm` reads off the state -/
def cutM (si fr0 lo0 : Nat) (nm : Cf → List Term) (fs : List Cond) (pats : List Cf) : Tst := fun fr lo F cf =>
  Nat.ble fr0 fr && (Nat.ble lo0 lo && (allDec F (nm cf) fs && pats.any fun c0 => cfM si (nm cf) c0 cf))
theorem cutM_ok {si fr0 lo0 : Nat} {r : String × Nat × List Fi} (h99 : sh[99]? = none) (hs : sh[si]? = some (some .int, r)) {nm : Cf → List Term} {fs : List Cond} {pats : List Cf} {C N pc mx : Nat} {y : MethodName} {bytes : ByteArray} {ret : Option FieldType}
    (hK : ∀ c0 ∈ pats, ∀ A' : En, holds A' fs → Top l Z hz sh A' O y bytes mx ret C N fr0 lo0 pc c0) : ∀ fr lo F cf, cutM si fr0 lo0 nm fs pats fr lo F cf = true → holds A F → Top l Z hz sh A O y bytes mx ret C N fr lo pc cf := by
  intro fr lo F cf hc hF
  simp only [cutM, Bool.and_eq_true] at hc
  obtain ⟨c1, c2, c3, c4⟩ := hc
  obtain ⟨c0, m0, m1⟩ := List.any_eq_true.mp c4
  exact Top.subM h99 hs m1 ((hK c0 m0 _ (allDec_ok hF c3)).mono (Nat.le_of_ble_eq_true c1) (Nat.le_of_ble_eq_true c2))
end
end Jvm.OwnX

@@BLOCK:LamKit.lean.txt@@
namespace Jvm.OwnX
open Sem ClassFile Op Lib Jvm.Stand Jvm.Free Jvm.LawKit Jvm.RoadKit
/-! ### 11. Lambdas that capture nothing -/
def lamO (Z : State) (x : MethodName) (pc index : Nat) (σ : Lambda.Shape) : Addr := match Z.lambdaAt? x pc index σ with
  | some (_, some a) => a
  | _ => 0
theorem lam_at {Z : State} {a0 : Array Value} {x : MethodName} {pc index : Nat} {σ : Lambda.Shape} (hw : (Cond.lambdaSite x pc index σ).before a0 Z = true) (hcap : σ.captured = []) :
    ∃ (m : MethodId) (k : Class) (i0 p0 : Nat) (cK : ClassId) (cell : Cell), Z.methodNamed? x = some m ∧ Z.vm.classes[m.cls]? = some k ∧ (k.callSites.find? fun y => y.1 == m.idx && y.2.1 == pc) = some (i0, p0, .constant (lamO Z x pc index σ)) ∧
      LamKit.Made Z x.cls σ cK ∧ Z.heap[lamO Z x pc index σ]? = some cell ∧ cell.cls = cK ∧ cell.vm = .none := by
  obtain ⟨cK, one, hat⟩ := Cond.lambdaSite_spec hw
  obtain ⟨mD, kD, cfD, i0, p0, lk, hmD, hkD, -, -, -, hfind, hmade, hcan, hl⟩ := State.lambdaAt?_spec hat
  obtain ⟨kD', hkD', hnameD⟩ := className_of_methodNamed hmD
  cases hkD.symm.trans hkD'
  rcases hl with ⟨a, cell, rfl, rfl, -, hcell, hcls, hvm, -⟩ | ⟨-, -, hne⟩
  · have e : lamO Z x pc index σ = a := by unfold lamO; rw [hat]
    rw [e]
    exact ⟨mD, kD, i0, p0, cK, cell, hmD, hkD, hfind, ⟨_, kD, hkD, hnameD, hmade, hcan⟩, hcell, hcls, hvm⟩
  · exact absurd hcap hne
theorem made_warm {Z s : State} {host : String} {σ : Lambda.Shape} {cK : ClassId} (hW : Z.WarmedH s.vm) (h : LamKit.Made Z host σ cK) : LamKit.Made s host σ cK := by
  obtain ⟨d, dk, h1, h2, h3, h4⟩ := h
  obtain ⟨dk', h1', he⟩ := hW.alike.2.2 _ _ h1
  refine ⟨d, dk', h1', by rw [he]; exact h2, Lambda.isMade_warmer hW h3, ?_⟩
  have hA := hW.alike
  simp only [State.lambdaCallable, hA.findClass, hA.assignable, hA.superclasses, hA.declaredIn] at h4 ⊢
  exact h4
/-- invokedynamic: the site's one object, the old object number i -/
def sLamC (mx i nx : Nat) : Stq := fun fr lo F cf => bif Nat.ble (wt cf.2.1 + 3072) lo && Nat.beq cf.1.length mx then some [(F, nx, (cf.1, (2, .arg i) :: cf.2.1, cf.2.2))] else none
section Lam
variable {l : Launch} {Z : State} {hz : Heap} {sh : List Sh} {A : En} {O : Nat → Addr} {y : MethodName} {bytes : ByteArray} {maxL : Nat} {ret : Option FieldType}
theorem g_lamC {pc index i : Nat} {σ : Lambda.Shape} {a0 : Array Value} (hd : decode bytes pc = .ok (.invokedynamic index, 5)) (hw : (Cond.lambdaSite y pc index σ).before a0 Z = true) (hcap : σ.captured = []) (hO : O i = lamO Z y pc index σ) :
    GoodN l Z hz sh A O y bytes maxL ret pc (sLamC maxL i (pc + 5)) := by
  intro fr lo F cf ns h hF
  obtain ⟨L, S, D, sl⟩ := cf
  simp only [sLamC] at h
  cases hk : (Nat.ble (wt S + 3072) lo && Nat.beq L.length maxL)
  · rw [hk] at h; cases h
  · rw [hk] at h; cases h
    simp only [Bool.and_eq_true] at hk
    have c1 := Nat.le_of_ble_eq_true hk.1
    have c2 := Nat.eq_of_beq_eq_true hk.2
    refine ⟨_, List.mem_cons_self .., hF, Nat.le_refl _, Nat.le_refl _, ?_⟩
    intro d0 s0 p e R s m args below meth c T locs hd0 hs0 hh hA X H N hc hl hfr hlo
    refine ⟨T, locs, X, H, N, fun target st => ?_⟩
    obtain ⟨mD, kD, i0, p0, cK, cell, hmD, hkD, hfind, -, -, -, -⟩ := lam_at hw hcap
    have hA' := hA
    obtain ⟨-, hA39, -, -, -, -, -, -, hWH, hnamed⟩ := hA'
    have hm2 : s.methodNamed? y = some mD := by
      have := State.methodNamed?_setVm (s := Z) hWH.alike y
      rw [hmD] at this
      exact this
    cases hnamed.symm.trans hm2
    obtain ⟨k', hk', he⟩ := hWH.alike.2.2 _ _ hkD
    have hw' : e.platform.lambdaLinkWords = 3072 := by rw [X.admits.platform]
    have st' : Steps p.tables e below (T.setTop { frm hz A O m pc (L, S, D, sl) with pc := pc + 5, stack := .ref (lamO Z y pc index σ) :: S.map (vv A O hz.size) }) target := by
      rw [← hO]; exact st
    exact X.lambdaConstant hA.1 (g := frm hz A O m pc (L, S, D, sl)) rfl (by show (L.map (sl1 A O hz.size)).toArray.size = _; rw [hA.2.2.2.1, ← c2]; simp) (hb hA.2.2.1 hd) hk' (by rw [he]; exact hfind)
      (by rw [hw']; show 2 * 0 + ((S.map (vv A O hz.size)).map fun v => v.category).sum + 3072 ≤ _; rw [wt_ok]; omega) st'
/-- the body of an identity lambda -/
theorem ret_id {y' : MethodName} {bytes' : ByteArray} (hd0 : decode bytes' 0 = .ok (.iload_n 0, 1)) (hd1 : decode bytes' 1 = .ok (.ireturn, 1)) (v : Term) (D : List Ob) (sl fr lo : Nat) :
    Ret l Z hz sh A O y' bytes' 1 (some .int) fr lo 0 (entL [(0, v)] 1, [], D, sl) (some (0, v)) D sl := by
  have h1 : Good l Z hz sh A O y' bytes' 1 (some .int) 0 (sLoad 0 0 1) := g_iloadN (k := 0) hd0
  obtain ⟨n, hn, -, hS⟩ := h1 [] (entL [(0, v)] 1, [], D, sl) _ rfl (fun _ h => nomatch h)
  rcases List.mem_singleton.mp hn with rfl
  have h2 : RetGood l Z hz sh A O y' bytes' 1 (some .int) 1 (rVal .int) := g_ret hd1 (by decide) (by simp)
  exact (hS.mono (Nat.zero_le _) (Nat.zero_le _)).thenRet (h2 _ _ _ _ fr lo _ rfl)
/-- an interface call on such an object whose body is the identity -/
def sLam (mx k nx : Nat) : Stq := fun fr lo F cf => match cf.2.1 with
  | (0, v) :: (2, .arg i) :: S => bif Nat.blt i k && (Nat.ble 2 fr && (Nat.ble (wt S + 25) lo && Nat.beq cf.1.length mx)) then some [(F, nx, (cf.1, (0, v) :: S, cf.2.2))] else none
  | _ => none
def fwdC : ByteArray := ⟨#[0x1b, 0xb8, 0x00, 0x11, 0xac]⟩
theorem fwd0 : decode fwdC 0 = .ok (.iload_n 1, 1) := by decide +kernel
theorem fwd1 : decode fwdC 1 = .ok (.invokestatic 17, 3) := by decide +kernel
theorem fwd4 : decode fwdC 4 = .ok (.ireturn, 1) := by decide +kernel
/-- what a table says of an identity lambda that stands as the old object number i -/
def LamW (Z : State) (a0 : Array Value) (O : Nat → Addr) (xi : MethodName) (i : Nat) : Prop :=
  ∃ (x y' : MethodName) (pc index : Nat) (σ : Lambda.Shape) (bytes' : ByteArray), (Cond.lambdaSite x pc index σ).before a0 Z = true ∧ σ.captured = [] ∧ O i = lamO Z x pc index σ ∧
    (Cond.code y' bytes' 1 (some .int)).before a0 Z = true ∧ (Cond.static y').before a0 Z = true ∧ (Cond.initialized y'.cls).before a0 Z = true ∧ plainFor y' = true ∧
    (xi.cls = σ.iface ∧ xi.name = σ.name ∧ xi.desc = σ.sam.toString) ∧ (y'.cls = σ.implClass ∧ y'.name = σ.implName ∧ y'.desc = σ.implDesc.toString) ∧ (y'.cls ≠ "java/lang/invoke/MethodHandle" ∧ y'.cls ≠ "java/lang/invoke/VarHandle") ∧
    parseMethodDescriptor y'.desc = some ⟨[.int], some .int⟩ ∧ LamKit.fwdOK σ x.cls fwdC 2 (some .int) 17 14 = true ∧ decode bytes' 0 = .ok (.iload_n 0, 1) ∧ decode bytes' 1 = .ok (.ireturn, 1)
theorem lam_call {pc index count i : Nat} {xi : MethodName} {a0 : Array Value} (hd : decode bytes pc = .ok (.invokeinterface index count, 5)) (hzZ : hz = Z.heap) (W : LamW Z a0 O xi i)
    (w1 : (Cond.methodLink y.cls index xi).before a0 Z = true) (w2 : (Cond.declares xi).before a0 Z = true) (w3 : (Cond.interfaceMethod xi.cls xi.cls xi.name xi.desc).before a0 Z = true) (hk3 : ((Cond.interfaceMethod xi.cls xi.cls xi.name xi.desc).onTables && (Cond.interfaceMethod xi.cls xi.cls xi.name xi.desc).keepsFace) = true)
    (hp : parseMethodDescriptor xi.desc = some ⟨[.int], some .int⟩) (hq : xi.cls ≠ "java/lang/invoke/MethodHandle" ∧ xi.cls ≠ "java/lang/invoke/VarHandle") {fr lo sl : Nat} {L : List SL} {S : List SV} {D : List Ob} {v : Term} (h1 : 2 ≤ fr) (h2 : wt S + 25 ≤ lo) (h3 : L.length = maxL) :
    Sim l Z hz sh A O y bytes maxL ret fr lo pc (L, (0, v) :: (2, .arg i) :: S, D, sl) (pc + 5) (L, (0, v) :: S, D, sl) := by
  obtain ⟨x, y', pcS, indexS, σ, bytes', u1, u2, u3, u4, u5, u6, u7, u8, u9, u10, u11, u12, u13, u14⟩ := W
  refine ⟨Nat.le_refl _, Nat.le_refl _, ?_⟩
  intro d0 s0 p e R s m args below meth c T locs hd0 hs0 hh hA X H N hc hl hfr hlo
  obtain ⟨mD, kD, i0, p0, cK, cell, hmD, hkD, hfind, hmade, hcell, hcls, hvm⟩ := lam_at u1 u2
  have hA' := hA
  obtain ⟨-, hA39, -, -, hown, -, -, -, hWH, hnamed⟩ := hA'
  have hM := met_of_ret u7 H (ret_id (l := l) (Z := Z) (hz := hz) (sh := sh) (A := A) (O := O) u13 u14 v D sl 0 0) [] { frames := 0, cells := 0, slots := 0, locals := 0 } (by simp)
  have hM' : Met l y' [Cond.code y' bytes' 1 (some .int)] { frames := 0, cells := 0, slots := 0, locals := 0 } (fun a U => a = ([(0, v)].map (vv A O hz.size)).toArray ∧ (Z.Warmed39 U.vm ∧ Z.WarmedH U.vm) ∧ U.heap = T.heap)
      (fun _ U o U' => o = .returned (some (.int (te A v).1)) ∧ HD Z hz sh A O U'.heap D) 0 0 (fun a => hz.size ≤ a) :=
    MetFree.mono hM (fun _ _ h => h) (fun _ _ _ _ _ h => h) (fun _ _ _ _ _ ⟨w, L, e1, ⟨e2, e3, e4⟩, e5⟩ => ⟨⟨by rw [e1, e2]; rfl, e3⟩, L, e5, e4⟩)
  have hOi : T.heap[O i]? = some cell := by
    have hlt : O i < hz.size := by rw [hzZ, u3]; exact (Array.getElem?_eq_some_iff.mp hcell).1
    rw [H.2.1 _ hlt, hzZ, u3]; exact hcell
  obtain ⟨w, st, t, T', L', X', hL, e1, e3, ⟨q1, q2⟩, hsteps⟩ := LamKit.callLamS X hA.1 (own := y.cls) (host := x.cls) (xi := xi) (y := y') (σ := σ) hM' (fun a U g mk h => h) rfl rfl
    (fun w hw a' U hU => by rcases List.mem_singleton.mp hw with rfl; exact mv (wtrans hA39 hU) u4) (List.mem_singleton.mpr rfl)
    hown (mvT hA39 w1) (mvT hA39 w2) (mvT hA39 w3 hk3) (mvT hA39 u4) (mvT hA39 u5) (mvT hA39 u6) u8 u9 ⟨hq, u10⟩ (a := O i) (cK := cK) (made_warm hWH hmade) ⟨cell, hOi, hcls, hvm⟩ u12 fwd1 fwd4
    (g := frm hz A O m pc (L, (0, v) :: (2, .arg i) :: S, D, sl)) rfl (by show (L.map (sl1 A O hz.size)).toArray.size = _; rw [hA.2.2.2.1, ← h3]; simp) (argsL := [.int (te A v).1]) (argsT := [.int (te A v).1]) (rest := S.map (vv A O hz.size))
    (L0 := #[.val (.ref (O i)), .val (.int (te A v).1)]) (lenOf hp rfl) (lenOf u11 rfl) rfl (hb hA.2.2.1 hd) (fun mk => rfl) rfl
    (fun U ck bl target hU hck _ _ k => by
      jvm_step hU [hA.1, hck, fwd0]
      exact k)
    (fun _ v' _ h => by
      have := Outcome.returned.inj h.1
      subst this
      exact Or.inl ⟨.int, _, rfl, Or.inl rfl, rfl, rfl, rfl⟩)
    (by show 0 + 2 ≤ _; omega) (by show 2 * 0 + ((S.map (vv A O hz.size)).map fun v => v.category).sum + (2 + 11) + ((1 + 11) + 0) ≤ _; rw [wt_ok]; omega) (by show _ + 0 ≤ _; exact hc) (by show _ + 0 ≤ _; exact hl)
    (fun U hU he => ⟨rfl, ⟨wtrans hA39 hU, State.WarmedH.trans hWH hU⟩, he⟩)
  have ew := Outcome.returned.inj q1
  subst ew
  refine ⟨T', locs ++ L', X', by rw [e1]; exact q2, N.app hL, fun target k => hsteps target k⟩
theorem g_lam {pc index count k : Nat} {xi : MethodName} {a0 : Array Value} (hd : decode bytes pc = .ok (.invokeinterface index count, 5)) (hzZ : hz = Z.heap) (W : ∀ i, i < k → LamW Z a0 O xi i)
    (w1 : (Cond.methodLink y.cls index xi).before a0 Z = true) (w2 : (Cond.declares xi).before a0 Z = true) (w3 : (Cond.interfaceMethod xi.cls xi.cls xi.name xi.desc).before a0 Z = true) (hk3 : ((Cond.interfaceMethod xi.cls xi.cls xi.name xi.desc).onTables && (Cond.interfaceMethod xi.cls xi.cls xi.name xi.desc).keepsFace) = true)
    (hp : parseMethodDescriptor xi.desc = some ⟨[.int], some .int⟩) (hq : xi.cls ≠ "java/lang/invoke/MethodHandle" ∧ xi.cls ≠ "java/lang/invoke/VarHandle") : GoodN l Z hz sh A O y bytes maxL ret pc (sLam maxL k (pc + 5)) := by
  intro fr lo F cf ns h hF
  obtain ⟨L, S, D, sl⟩ := cf
  simp only [sLam] at h
  split at h
  · rename_i v i S'
    cases hk : (Nat.blt i k && (Nat.ble 2 fr && (Nat.ble (wt S' + 25) lo && Nat.beq L.length maxL)))
    · rw [hk] at h; cases h
    · rw [hk] at h; cases h
      simp only [Bool.and_eq_true] at hk
      exact ⟨_, List.mem_cons_self .., hF, lam_call hd hzZ (W i (show i + 1 ≤ k from Nat.le_of_ble_eq_true hk.1)) w1 w2 w3 hk3 hp hq (Nat.le_of_ble_eq_true hk.2.1) (Nat.le_of_ble_eq_true hk.2.2.1) (Nat.eq_of_beq_eq_true hk.2.2.2)⟩
  · cases h
end Lam
end Jvm.OwnX

namespace Jvm.OwnX
open Sem ClassFile Op Lib Jvm.Stand Jvm.Free Jvm.LawKit Jvm.RoadKit
/-! ### 12. The same run, written so that the kernel goes through it faster -/
def wL {α β : Type} (l : List α) (κ : List α → β) : β := match l with
  | [] => κ []
  | x :: xs => κ (x :: xs)
theorem wL_eq {α β : Type} (l : List α) (κ : List α → β) : wL l κ = κ l := by cases l <;> rfl
abbrev Ih := Nat → List El → List SL → List SV → List Ob → Nat → List Cond → Nat → Nat → List Fm → Option (List Pd)
def farF (M : List Mt) (ih : Ih) (j pc : Nat) (L : List SL) (S : List SV) (D : List Ob) (k : Nat) (F : List Cond) (fr lo : Nat) (stk : List Fm) : Option (List Pd) := match M[j]? with
  | some (_, code) => wL L fun L => wL S fun S => wL D fun D => wL F fun F => ih j (seekF code pc) L S D k F fr lo stk
  | none => ih j [] L S D k F fr lo stk
def goTo (M : List Mt) (ih : Ih) (j : Nat) (tl : List El) (pc : Nat) (L : List SL) (S : List SV) (D : List Ob) (k : Nat) (F : List Cond) (fr lo : Nat) (stk : List Fm) : Option (List Pd) := match tl with
  | [] => farF M ih j pc L S D k F fr lo stk
  | el :: r => bif Nat.beq el.1 pc then ih j (el :: r) L S D k F fr lo stk else farF M ih j pc L S D k F fr lo stk
def nextF (M : List Mt) (ih : Ih) (j : Nat) (tl : List El) (fr lo : Nat) (stk : List Fm) (n : Nx) : Option (List Pd) := match n with
  | (F, pc, L, S, D, k) => goTo M ih j tl pc L S D k F fr lo stk
def collF (g : Nx → Option (List Pd)) (ns : List Nx) : Option (List Pd) := match ns with
  | [n] => g n
  | ns => coll g ns
theorem collF_eq (g : Nx → Option (List Pd)) (ns : List Nx) : collF g ns = coll g ns := by
  unfold collF
  split
  · simp [coll]
  · rfl
def stepF (M : List Mt) (ih : Ih) (j : Nat) (tl : List El) (fr lo : Nat) (stk : List Fm) (F : List Cond) (r : Option (List Nx)) : Option (List Pd) := match r with
  | none => some [(F, none)]
  | some ns => collF (nextF M ih j tl fr lo stk) ns
def retF (C N : Nat) (ih : Ih) (D : List Ob) (k : Nat) (F : List Cond) (stk : List Fm) (o : Option (Option SV)) : Option (List Pd) := match o with
  | none => some [(F, none)]
  | some v => (match stk with
    | [] => leaf C N F v (D, k)
    | (j, rem, L, S, fr, lo) :: stk' => wL D fun D => ih j rem L (v.toList ++ S) D k F fr lo stk')
def callF (M : List Mt) (ih : Ih) (j : Nat) (tl : List El) (L : List SL) (S : List SV) (D : List Ob) (k : Nat) (F : List Cond) (fr lo : Nat) (stk : List Fm) (c na nx : Nat) (ck : List SV → List Ob → Bool) : Option (List Pd) := match M[c]? with
  | none => none
  | some (mx, code) => (match M[j]? with
    | none => none
    | some (mxj, _) => bif Nat.ble na S.length && (Nat.beq L.length mxj && (ck (S.take na) D && (Nat.ble 1 fr && Nat.ble (wt (S.drop na) + (mx + 11)) lo))) then
        wL (S.drop na) fun S' => wL L fun L => wL D fun D => ih c code (entL (S.take na).reverse mx) [] D k F (fr - 1) (lo - (wt (S.drop na) + (mx + 11))) ((j, seek M j tl nx, L, S', fr, lo) :: stk)
      else some [(F, none)])
def cutF (stk : List Fm) (F : List Cond) (b : Bool) : Option (List Pd) := match stk with
  | [] => bif b then some [] else some [(F, none)]
  | _ => some [(F, none)]
def kindF (M : List Mt) (C N : Nat) (ih : Ih) (j : Nat) (tl : List El) (L : List SL) (S : List SV) (D : List Ob) (k : Nat) (F : List Cond) (fr lo : Nat) (stk : List Fm) (el : Ki) : Option (List Pd) := match el with
  | .inl f => stepF M ih j tl fr lo stk F (f F (L, S, D, k))
  | .inr (.inl (c, na, nx, ck)) => callF M ih j tl L S D k F fr lo stk c na nx ck
  | .inr (.inr (.inl g)) => retF C N ih D k F stk (g S)
  | .inr (.inr (.inr (.inl f))) => stepF M ih j tl fr lo stk F (f fr lo F (L, S, D, k))
  | .inr (.inr (.inr (.inr t))) => cutF stk F (t fr lo F (L, S, D, k))
def bodyF (M : List Mt) (C N : Nat) (ih : Ih) : Ih := fun j rem L S D k F fr lo stk => match rem with
  | [] => none
  | (_, el) :: tl => kindF M C N ih j tl L S D k F fr lo stk el
def xgoF (M : List Mt) (C N : Nat) (n : Nat) : Ih := Nat.rec (motive := fun _ => Ih) (fun _ _ _ _ _ _ _ _ _ _ => none) (fun _ ih => bodyF M C N ih) n
def unc (ih : St → Option (List Pd)) : Ih := fun j rem L S D k F fr lo stk => ih (j, rem, (L, S, D, k), F, fr, lo, stk)
theorem goTo_eq (M : List Mt) (ih : St → Option (List Pd)) (j : Nat) (tl : List El) (pc : Nat) (L : List SL) (S : List SV) (D : List Ob) (k : Nat) (F : List Cond) (fr lo : Nat) (stk : List Fm) : goTo M (unc ih) j tl pc L S D k F fr lo stk = ih (j, seek M j tl pc, (L, S, D, k), F, fr, lo, stk) := by
  have far : farF M (unc ih) j pc L S D k F fr lo stk = ih (j, (match M[j]? with
    | some m => seekF m.2 pc
    | none => []), (L, S, D, k), F, fr, lo, stk) := by
    unfold farF
    cases M[j]? with
    | none => rfl
    | some m => obtain ⟨mx, code⟩ := m; simp only [wL_eq, unc]
  unfold goTo seek
  cases tl with
  | nil => exact far
  | cons el r =>
    cases q : Nat.beq el.1 pc
    · simp only [q, cond_false]; exact far
    · simp only [q, cond_true]; rfl
theorem bodyF_eq (M : List Mt) (C N : Nat) (ih : St → Option (List Pd)) : bodyF M C N (unc ih) = unc (body M C N ih) := by
  funext j rem L S D k F fr lo stk
  cases rem with
  | nil => rfl
  | cons e tl =>
    obtain ⟨pc, el⟩ := e
    rcases el with f | kl | g | f | t
    · simp only [bodyF, kindF, unc, body, stepF, collF_eq]
      cases f F (L, S, D, k) with
      | none => rfl
      | some ns => simp only; congr 1; funext n; obtain ⟨F', pc', L', S', D', k'⟩ := n; exact goTo_eq ..
    · obtain ⟨c, na, nx, ck⟩ := kl
      simp only [bodyF, kindF, unc, body, callF, wL_eq]
      cases M[c]? with
      | none => rfl
      | some m => cases M[j]? <;> rfl
    · simp only [bodyF, kindF, unc, body, retF]
      cases g S with
      | none => rfl
      | some v => cases stk with
        | nil => rfl
        | cons fm stk' => obtain ⟨a, b, c, d, e, f⟩ := fm; simp only [wL_eq]
    · simp only [bodyF, kindF, unc, body, stepF, collF_eq]
      cases f fr lo F (L, S, D, k) with
      | none => rfl
      | some ns => simp only; congr 1; funext n; obtain ⟨F', pc', L', S', D', k'⟩ := n; exact goTo_eq ..
    · cases stk <;> rfl
theorem xgoF_eq (M : List Mt) (C N : Nat) : ∀ n : Nat, xgoF M C N n = unc (xgo M C N n)
  | 0 => rfl
  | n + 1 => by
    show bodyF M C N (xgoF M C N n) = _
    rw [xgoF_eq M C N n, bodyF_eq]; rfl
end Jvm.OwnX

namespace Jvm.OwnX
open Sem ClassFile Op Lib Jvm.Stand Jvm.Free Jvm.LawKit Jvm.RoadKit
/-! ### 17. The same run in continuations: the kernel goes through it faster still -/
abbrev Rs := Bool → Bool
def nay : Rs := fun _ => false
abbrev Kt := List Cond → Nat → List SL → List SV → List Ob → Nat → Rs
abbrev FS := List Cond → List SL → List SV → List Ob → Nat → Kt → Rs
abbrev KiF := FS ⊕ (Kl ⊕ (Rt ⊕ (Stq ⊕ Tst)))
abbrev ElF := Nat × KiF
abbrev MtF := Nat × List ElF × List (Nat × List ElF)
abbrev FmF := Nat × List ElF × List SL × List SV × Nat × Nat
abbrev IhF := Nat → List ElF → List SL → List SV → List Ob → Nat → List Cond → Nat → Nat → List FmF → Rs
def nthP {α : Type} (l : List α) (i : Nat) (κ : α → Rs) : Rs :=
  @Nat.rec (fun _ => List α → Rs) (fun l => @List.casesOn α (fun _ => Rs) l nay (fun a _ => κ a)) (fun _ ih l => @List.casesOn α (fun _ => Rs) l nay (fun _ t => ih t)) i l
theorem nthP_ok {α : Type} {κ : α → Rs} {r : Bool} : ∀ {i : Nat} {l : List α}, nthP l i κ r = true → ∃ a, l[i]? = some a ∧ κ a r = true
  | 0, [], h => by cases h
  | 0, a :: t, h => ⟨a, rfl, h⟩
  | i + 1, [], h => by cases h
  | i + 1, a :: t, h => by
    obtain ⟨b, h1, h2⟩ := nthP_ok (i := i) (l := t) h
    exact ⟨b, by simpa using h1, h2⟩
def putP {α : Type} (x : α) (l : List α) (i : Nat) (κ : List α → Rs) : Rs :=
  @Nat.rec (fun _ => List α → (List α → Rs) → Rs) (fun l κ => @List.casesOn α (fun _ => Rs) l nay (fun _ t => κ (x :: t))) (fun _ ih l κ => @List.casesOn α (fun _ => Rs) l nay (fun a t => ih t (fun t' => κ (a :: t')))) i l κ
theorem putP_ok {α : Type} {x : α} {r : Bool} : ∀ {i : Nat} {l : List α} {κ : List α → Rs}, putP x l i κ r = true → i < l.length ∧ κ (l.set i x) r = true
  | 0, [], κ, h => by cases h
  | 0, a :: t, κ, h => ⟨by simp, h⟩
  | i + 1, [], κ, h => by cases h
  | i + 1, a :: t, κ, h => by
    obtain ⟨h1, h2⟩ := putP_ok (i := i) (l := t) (κ := fun t' => κ (a :: t')) h
    exact ⟨by simpa using h1, h2⟩
def forceL {α : Type} (n : Nat) (l : List α) (κ : List α → Rs) : Rs :=
  @Nat.rec (fun _ => List α → (List α → Rs) → Rs) (fun l κ => κ l) (fun _ ih l κ => @List.casesOn α (fun _ => Rs) l (κ []) (fun a t => ih t (fun t' => κ (a :: t')))) n l κ
theorem forceL_eq {α : Type} : ∀ (n : Nat) (l : List α) (κ : List α → Rs), forceL n l κ = κ l
  | 0, _, _ => rfl
  | _ + 1, [], _ => rfl
  | n + 1, a :: t, κ => forceL_eq n t (fun t' => κ (a :: t'))
def SoundP (f : Stp) (g : FS) : Prop := ∀ (F : List Cond) (L : List SL) (S : List SV) (D : List Ob) (k : Nat) (κ : Kt) (P : Nx → Prop), (∀ F' pc L' S' D' k' r, κ F' pc L' S' D' k' r = true → P (F', pc, (L', S', D', k')) ∧ r = true) →
  ∀ r, g F L S D k κ r = true → (∃ ns, f F (L, S, D, k) = some ns ∧ ∀ n ∈ ns, P n) ∧ r = true
/-! #### any step -/
def listP (κ : Kt) : List Nx → Rs
  | [] => fun r => r
  | (F, pc, L, S, D, k) :: ns => fun r => κ F pc L S D k (listP κ ns r)
def nsP (κ : Kt) (ns : List Nx) : Rs := match ns with
  | [(F, pc, L, S, D, k)] => κ F pc L S D k
  | ns => listP κ ns
theorem listP_ok {κ : Kt} {P : Nx → Prop} (hκ : ∀ F' pc L' S' D' k' r, κ F' pc L' S' D' k' r = true → P (F', pc, (L', S', D', k')) ∧ r = true) : ∀ {ns : List Nx} {r : Bool}, listP κ ns r = true → (∀ n ∈ ns, P n) ∧ r = true
  | [], r, h => ⟨(fun _ q => nomatch q), h⟩
  | (F, pc, L, S, D, k) :: ns, r, h => by
    obtain ⟨h1, h2⟩ := hκ _ _ _ _ _ _ _ h
    obtain ⟨h3, h4⟩ := listP_ok hκ h2
    exact ⟨fun n q => (List.mem_cons.mp q).elim (fun e => e ▸ h1) (h3 n), h4⟩
theorem nsP_ok {κ : Kt} {P : Nx → Prop} (hκ : ∀ F' pc L' S' D' k' r, κ F' pc L' S' D' k' r = true → P (F', pc, (L', S', D', k')) ∧ r = true) {ns : List Nx} {r : Bool} (h : nsP κ ns r = true) : (∀ n ∈ ns, P n) ∧ r = true := by
  unfold nsP at h
  split at h
  · obtain ⟨h1, h2⟩ := hκ _ _ _ _ _ _ _ h
    exact ⟨fun n q => (List.mem_singleton.mp q) ▸ h1, h2⟩
  · exact listP_ok hκ h
def anyP (κ : Kt) (o : Option (List Nx)) : Rs := match o with
  | none => nay
  | some ns => nsP κ ns
theorem anyP_ok {κ : Kt} {P : Nx → Prop} (hκ : ∀ F' pc L' S' D' k' r, κ F' pc L' S' D' k' r = true → P (F', pc, (L', S', D', k')) ∧ r = true) {o : Option (List Nx)} {r : Bool} (h : anyP κ o r = true) : (∃ ns, o = some ns ∧ ∀ n ∈ ns, P n) ∧ r = true := by
  cases o with
  | none => cases h
  | some ns => obtain ⟨h1, h2⟩ := nsP_ok hκ h; exact ⟨⟨ns, rfl, h1⟩, h2⟩
def gen (f : Stp) : FS := fun F L S D k κ => anyP κ (f F (L, S, D, k))
theorem gen_ok (f : Stp) : SoundP f (gen f) := fun F L S D k κ P hκ r h => anyP_ok hκ h
/-- a step that changes an object: the list of objects is built anew -/
def genD (f : Stp) : FS := fun F L S D k κ => anyP (fun F' pc L' S' D' k' => forceL 64 D' fun D' => κ F' pc L' S' D' k') (f F (L, S, D, k))
theorem genD_ok (f : Stp) : SoundP f (genD f) := fun F L S D k κ P hκ r h => anyP_ok (fun F' pc L' S' D' k' r q => hκ F' pc L' S' D' k' r (by rw [forceL_eq] at q; exact q)) h
/-! #### the common ones -/
def slP (o : SL) (κ : Nat → Term → Rs) : Rs := @Option.casesOn (Option SV) (fun _ => Rs) o nay fun o => @Option.casesOn SV (fun _ => Rs) o nay fun x => @Prod.casesOn Nat Term (fun _ => Rs) x κ
def ldK (kd nx : Nat) (F : List Cond) (L : List SL) (S : List SV) (D : List Ob) (n : Nat) (κ : Kt) (kx : Nat) (t : Term) : Rs := @Bool.casesOn (fun _ => Rs) (Nat.beq kx kd) nay (κ F nx L ((kx, t) :: S) D n)
def fLoad (kd k nx : Nat) : FS := fun F L S D n κ => nthP L k fun o => slP o (ldK kd nx F L S D n κ)
theorem fLoad_ok (kd k nx : Nat) : SoundP (sLoad kd k nx) (fLoad kd k nx) := fun F L S D n κ P hκ r h => by
  obtain ⟨o, h1, h2⟩ := nthP_ok h
  rcases o with _ | _ | ⟨kx, t⟩
  · cases h2
  · cases h2
  · have h2 : (@Bool.casesOn (fun _ => Rs) (Nat.beq kx kd) nay (κ F nx L ((kx, t) :: S) D n)) r = true := h2
    cases hb : Nat.beq kx kd
    · rw [hb] at h2; cases h2
    · rw [hb] at h2
      obtain ⟨q1, q2⟩ := hκ _ _ _ _ _ _ _ h2
      refine ⟨⟨[(F, nx, (L, (kx, t) :: S, D, n))], ?_, fun n q => (List.mem_singleton.mp q) ▸ q1⟩, q2⟩
      obtain rfl := Nat.eq_of_beq_eq_true hb
      simp [sLoad, h1]
def fPush (x : SV) (nx : Nat) : FS := fun F L S D n κ => κ F nx L (x :: S) D n
theorem fPush_ok (x : SV) (nx : Nat) : SoundP (sPush x nx) (fPush x nx) := fun F L S D n κ P hκ r h => by
  obtain ⟨q1, q2⟩ := hκ _ _ _ _ _ _ _ h
  exact ⟨⟨_, rfl, fun n q => (List.mem_singleton.mp q) ▸ q1⟩, q2⟩
def fGoto (tg : Nat) : FS := fun F L S D n κ => κ F tg L S D n
theorem fGoto_ok (tg : Nat) : SoundP (sGoto tg) (fGoto tg) := fun F L S D n κ P hκ r h => by
  obtain ⟨q1, q2⟩ := hκ _ _ _ _ _ _ _ h
  exact ⟨⟨_, rfl, fun n q => (List.mem_singleton.mp q) ▸ q1⟩, q2⟩
def fBin (k1 k2 k3 : Nat) (f : Term → Term → Term) (nx : Nat) : FS := fun F L S D n κ => @List.casesOn SV (fun _ => Rs) S nay fun b S => @List.casesOn SV (fun _ => Rs) S nay fun a S => @Prod.casesOn Nat Term (fun _ => Rs) b fun kb b => @Prod.casesOn Nat Term (fun _ => Rs) a fun ka a =>
  @Bool.casesOn (fun _ => Rs) (Nat.beq ka k1) nay (@Bool.casesOn (fun _ => Rs) (Nat.beq kb k2) nay (κ F nx L ((k3, f a b) :: S) D n))
theorem fBin_ok (k1 k2 k3 : Nat) (f : Term → Term → Term) (nx : Nat) : SoundP (sBin k1 k2 k3 f nx) (fBin k1 k2 k3 f nx) := fun F L S D n κ P hκ r h => by
  rcases S with _ | ⟨⟨kb, b⟩, _ | ⟨⟨ka, a⟩, S⟩⟩
  · cases h
  · cases h
  · simp only [fBin] at h
    cases h1 : Nat.beq ka k1
    · rw [h1] at h; cases h
    · cases h2 : Nat.beq kb k2
      · rw [h1, h2] at h; cases h
      · rw [h1, h2] at h
        obtain ⟨q1, q2⟩ := hκ _ _ _ _ _ _ _ h
        refine ⟨⟨[(F, nx, (L, (k3, f a b) :: S, D, n))], ?_, fun n q => (List.mem_singleton.mp q) ▸ q1⟩, q2⟩
        obtain rfl := Nat.eq_of_beq_eq_true h1
        obtain rfl := Nat.eq_of_beq_eq_true h2
        simp [sBin]
/-- a slot that a one-slot value may be laid into -/
def plainS : SL → Bool
  | none => true
  | some none => false
  | some (some x) => Nat.beq x.1 0 || Nat.beq x.1 2
theorem stL_plain {L : List SL} {i : Nat} {kx : Nat} {t : Term} {o : SL} (hk : kx = 0 ∨ kx = 2) (h : L[i]? = some o) (ho : plainS o = true) (hl : i < L.length) : stL L i (kx, t) = some (L.set i (some (some (kx, t)))) := by
  have hc : cat (kx, t) = 1 := by rcases hk with rfl | rfl <;> rfl
  have hs : stSelf L i (kx, t) = some (L.set i (some (some (kx, t)))) := by
    have hb : Nat.blt i L.length = true := by simpa [Nat.blt_eq] using hl
    unfold stSelf setL
    rw [hb]
    simp only [cond_true, hc]
  unfold stL
  rw [h]
  rcases o with _ | _ | ⟨ko, w⟩
  · exact hs
  · cases ho
  · have hco : cat (ko, w) = 1 := by
      simp only [plainS, Bool.or_eq_true] at ho
      rcases ho with q | q <;> obtain rfl := Nat.eq_of_beq_eq_true q <;> rfl
    simp only [hco]
    exact hs
def fStore (kd k nx : Nat) : FS := fun F L S D n κ => @List.casesOn SV (fun _ => Rs) S nay fun x S => @Prod.casesOn Nat Term (fun _ => Rs) x fun kx t =>
  @Bool.casesOn (fun _ => Rs) (Nat.beq kx kd) nay (nthP L k fun o => @Bool.casesOn (fun _ => Rs) (plainS o) nay (putP (some (some (kx, t))) L k fun L' => κ F nx L' S D n))
theorem fStore_ok (kd k nx : Nat) (hk : kd = 0 ∨ kd = 2) : SoundP (sStore kd k nx) (fStore kd k nx) := fun F L S D n κ P hκ r h => by
  rcases S with _ | ⟨⟨kx, t⟩, S⟩
  · cases h
  · simp only [fStore] at h
    cases h1 : Nat.beq kx kd
    · rw [h1] at h; cases h
    · rw [h1] at h
      obtain ⟨o, g1, g2⟩ := nthP_ok h
      cases h2 : plainS o
      · rw [h2] at g2; cases g2
      · rw [h2] at g2
        obtain ⟨g3, g4⟩ := putP_ok g2
        obtain ⟨q1, q2⟩ := hκ _ _ _ _ _ _ _ g4
        refine ⟨⟨[(F, nx, (L.set k (some (some (kx, t))), S, D, n))], ?_, fun n q => (List.mem_singleton.mp q) ▸ q1⟩, q2⟩
        obtain rfl := Nat.eq_of_beq_eq_true h1
        simp only [sStore, beq_self_eq_true, cond_true]
        rw [stL_plain hk g1 h2 g3]
theorem toInt_nat {v : Int32} (h : v.toBitVec.toNat < 2147483648) : v.toInt = (v.toBitVec.toNat : Int) := by
  show v.toBitVec.toInt = _
  rw [BitVec.toInt_eq_toNat_cond]
  split
  · rfl
  · omega
def nI (v : Int32) : Nat := v.toBitVec.toNat
theorem natI {v : Int32} (h : nI v < 2147483648) : 0 ≤ v ∧ v.toNatClampNeg = nI v := by
  refine ⟨?_, ?_⟩
  · rw [Int32.le_iff_toInt_le, toInt_nat h]; exact Int.natCast_nonneg _
  · show v.toInt.toNat = _
    rw [toInt_nat h]; rfl
theorem natLt {x y : Int32} (h : nI x < 2147483648) (h' : nI y < 2147483648) : decide (x < y) = Nat.blt (nI x) (nI y) := by
  rw [Bool.eq_iff_iff, decide_eq_true_iff, Nat.blt_eq, Int32.lt_iff_toInt_lt, toInt_nat h, toInt_nat h']
  show ((nI x : Nat) : Int) < ((nI y : Nat) : Int) ↔ _
  omega
theorem natEq {x y : Int32} : (x == y) = Nat.beq (nI x) (nI y) := by
  rw [Bool.eq_iff_iff, beq_iff_eq, Nat.beq_eq, ← Int32.toBitVec_inj, ← BitVec.toNat_inj]; rfl
def icF (cd : ClassFile.Cond) (a b : Nat) : Bool := match cd with
  | .eq => Nat.beq a b
  | .ne => !(Nat.beq a b)
  | .lt => Nat.blt a b
  | .ge => !(Nat.blt a b)
  | .gt => Nat.blt b a
  | .le => !(Nat.blt b a)
theorem br_lit {F : List Cond} {cd : ClassFile.Cond} {x y : Int32} {tg nx : Nat} {cf : Cf} (h : nI x < 2147483648) (h' : nI y < 2147483648) : br F (atm cd (.int x) (.int y)) tg nx cf = [(F, bif icF cd (nI x) (nI y) then tg else nx, cf)] := by
  have e2 := natLt h h'
  have e3 := natLt h' h
  cases cd
  · simp only [br, atm, fork, dec, icF, natEq]; cases Nat.beq (nI x) (nI y) <;> rfl
  · simp only [br, atm, fork, dec, icF, natEq]; cases Nat.beq (nI x) (nI y) <;> rfl
  · simp only [br, atm, fork, dec, icF, e2]; cases Nat.blt (nI x) (nI y) <;> rfl
  · simp only [br, atm, fork, dec, icF, e2]; cases Nat.blt (nI x) (nI y) <;> rfl
  · simp only [br, atm, fork, dec, icF, e3]; cases Nat.blt (nI y) (nI x) <;> rfl
  · simp only [br, atm, fork, dec, icF, e3]; cases Nat.blt (nI y) (nI x) <;> rfl
def fIcmp (cd : ClassFile.Cond) (tg nx : Nat) : FS := fun F L S D n κ => match S with
  | (0, .int y) :: (0, .int x) :: S' => @Bool.casesOn (fun _ => Rs) (Nat.blt (nI x) 2147483648 && Nat.blt (nI y) 2147483648) (gen (sIcmp cd tg nx) F L ((0, .int y) :: (0, .int x) :: S') D n κ) (@Bool.casesOn (fun _ => Rs) (icF cd (nI x) (nI y)) (κ F nx L S' D n) (κ F tg L S' D n))
  | S => gen (sIcmp cd tg nx) F L S D n κ
theorem fIcmp_ok (cd : ClassFile.Cond) (tg nx : Nat) : SoundP (sIcmp cd tg nx) (fIcmp cd tg nx) := fun F L S D n κ P hκ r h => by
  unfold fIcmp at h
  split at h
  · rename_i y x S'
    cases hb : (Nat.blt (nI x) 2147483648 && Nat.blt (nI y) 2147483648)
    · rw [hb] at h; exact gen_ok _ F L _ D n κ P hκ r h
    · rw [hb] at h
      simp only [Bool.and_eq_true, Nat.blt_eq] at hb
      have e : sIcmp cd tg nx F (L, (0, .int y) :: (0, .int x) :: S', D, n) = some [(F, bif icF cd (nI x) (nI y) then tg else nx, (L, S', D, n))] := by
        rw [← br_lit hb.1 hb.2]; rfl
      rw [e]
      cases hc : icF cd (nI x) (nI y)
      · rw [hc] at h
        obtain ⟨q1, q2⟩ := hκ _ _ _ _ _ _ _ h
        exact ⟨⟨_, rfl, fun n q => (List.mem_singleton.mp q) ▸ q1⟩, q2⟩
      · rw [hc] at h
        obtain ⟨q1, q2⟩ := hκ _ _ _ _ _ _ _ h
        exact ⟨⟨_, rfl, fun n q => (List.mem_singleton.mp q) ▸ q1⟩, q2⟩
  · exact gen_ok _ F L _ D n κ P hκ r h
def fLdM (sid nx : Nat) : FS := fun F L S D n κ => match S with
  | (0, .int v) :: (2, .index k) :: S' => nthP D k fun o => @Prod.casesOn Nat (List SV) (fun _ => Rs) o fun so xs =>
      @Bool.casesOn (fun _ => Rs) (Nat.beq so sid) (gen (sLdM sid nx) F L ((0, .int v) :: (2, .index k) :: S') D n κ)
        (@Bool.casesOn (fun _ => Rs) (Nat.blt (nI v) 2147483648) nay (nthP xs (nI v) fun x => κ F nx L (x :: S') D n))
  | S => gen (sLdM sid nx) F L S D n κ
theorem fLdM_ok (sid nx : Nat) (hs : Nat.beq sid 99 = false) : SoundP (sLdM sid nx) (fLdM sid nx) := fun F L S D n κ P hκ r h => by
  unfold fLdM at h
  split at h
  · rename_i v k S'
    obtain ⟨⟨so, xs⟩, g1, g2⟩ := nthP_ok h
    have g2 : (@Bool.casesOn (fun _ => Rs) (Nat.beq so sid) (gen (sLdM sid nx) F L ((0, .int v) :: (2, .index k) :: S') D n κ)
        (@Bool.casesOn (fun _ => Rs) (Nat.blt (nI v) 2147483648) nay (nthP xs (nI v) fun x => κ F nx L (x :: S') D n))) r = true := g2
    cases h1 : Nat.beq so sid
    · rw [h1] at g2; exact gen_ok _ F L _ D n κ P hκ r g2
    · rw [h1] at g2
      obtain rfl := Nat.eq_of_beq_eq_true h1
      cases h2 : Nat.blt (nI v) 2147483648
      · rw [h2] at g2; cases g2
      · rw [h2] at g2
        obtain ⟨x, g3, g4⟩ := nthP_ok g2
        obtain ⟨q1, q2⟩ := hκ _ _ _ _ _ _ _ g4
        obtain ⟨i1, i2⟩ := natI (by simpa [Nat.blt_eq] using h2)
        refine ⟨⟨[(F, nx, (L, x :: S', D, n))], ?_, fun n q => (List.mem_singleton.mp q) ▸ q1⟩, q2⟩
        have e1 : isMp D ((2, .index k) :: S') = false := by simp only [isMp, g1, hs]
        have e2 : sAld so nx F (L, (0, .int v) :: (2, .index k) :: S', D, n) = some [(F, nx, (L, x :: S', D, n))] := by
          simp only [sAld, cv, g1, i2, g3, beq_self_eq_true, Bool.true_and, decide_eq_true i1, cond_true]
        show (bif isMp D ((2, .index k) :: S') then _ else (match sAld so nx F (L, (0, .int v) :: (2, .index k) :: S', D, n) with
          | some ns => some ns
          | none => ldV so nx F (L, (0, .int v) :: (2, .index k) :: S', D, n))) = _
        rw [e1, e2]; rfl
  · exact gen_ok _ F L _ D n κ P hκ r h
def fGetF (sid i nx : Nat) : FS := fun F L S D n κ => match S with
  | (2, .index k) :: S => nthP D k fun o => @Prod.casesOn Nat (List SV) (fun _ => Rs) o fun so xs => @Bool.casesOn (fun _ => Rs) (Nat.beq so sid) nay (nthP xs i fun x => κ F nx L (x :: S) D n)
  | _ => nay
theorem fGetF_ok (sid i nx : Nat) : SoundP (sGetF sid i nx) (fGetF sid i nx) := fun F L S D n κ P hκ r h => by
  unfold fGetF at h
  split at h
  · rename_i k S'
    obtain ⟨⟨so, xs⟩, g1, g2⟩ := nthP_ok h
    cases h1 : Nat.beq so sid
    · simp only [h1] at g2; cases g2
    · simp only [h1] at g2
      obtain ⟨x, g3, g4⟩ := nthP_ok g2
      obtain ⟨q1, q2⟩ := hκ _ _ _ _ _ _ _ g4
      refine ⟨⟨[(F, nx, (L, x :: S', D, n))], ?_, fun n q => (List.mem_singleton.mp q) ▸ q1⟩, q2⟩
      obtain rfl := Nat.eq_of_beq_eq_true h1
      simp [sGetF, g1, g3]
  · cases h
/-! #### the run -/
def seekP (n : Nat) (code : List ElF) (pc : Nat) (κ : List ElF → Rs) : Rs :=
  @Nat.rec (fun _ => List ElF → Rs) (fun _ => nay) (fun _ ih l => @List.casesOn ElF (fun _ => Rs) l nay fun e t => @Bool.casesOn (fun _ => Rs) (Nat.beq e.1 pc) (ih t) (κ (e :: t))) n code
def lookJ (n : Nat) (J : List (Nat × List ElF)) (pc : Nat) (κ : List ElF → Rs) (els : Rs) : Rs :=
  @Nat.rec (fun _ => List (Nat × List ElF) → Rs) (fun _ => nay) (fun _ ih l => @List.casesOn (Nat × List ElF) (fun _ => Rs) l els fun q t => @Bool.casesOn (fun _ => Rs) (Nat.beq q.1 pc) (ih t) (κ q.2)) n J
def jumpP (m : MtF) (pc : Nat) (κ : List ElF → Rs) : Rs := lookJ 64 m.2.2 pc κ (seekP 4096 m.2.1 pc κ)
def seekK (M : List MtF) (j : Nat) (tl : List ElF) (pc : Nat) (κ : List ElF → Rs) : Rs :=
  @List.casesOn ElF (fun _ => Rs) tl (nthP M j fun m => jumpP m pc κ) fun e t => @Bool.casesOn (fun _ => Rs) (Nat.beq e.1 pc) (nthP M j fun m => jumpP m pc κ) (κ (e :: t))
def callP (M : List MtF) (ih : IhF) (j : Nat) (tl : List ElF) (L : List SL) (S : List SV) (D : List Ob) (k : Nat) (F : List Cond) (fr lo : Nat) (stk : List FmF) (c na nx : Nat) (ck : List SV → List Ob → Bool) : Rs := nthP M c fun m => nthP M j fun mj =>
  @Bool.casesOn (fun _ => Rs) (Nat.ble na S.length && (Nat.beq L.length mj.1 && (ck (S.take na) D && (Nat.ble 1 fr && Nat.ble (wt (S.drop na) + (m.1 + 11)) lo)))) nay
    (seekK M j tl nx fun rem => forceL 64 (S.drop na) fun S' => forceL 64 (entL (S.take na).reverse m.1) fun L' => ih c m.2.1 L' [] D k F (fr - 1) (lo - (wt (S.drop na) + (m.1 + 11))) ((j, rem, L, S', fr, lo) :: stk))
def backP (ih : IhF) (D : List Ob) (k : Nat) (F : List Cond) (x : Option SV) (fm : FmF) (stk : List FmF) : Rs := match fm with
  | (j, rem, L, S, fr, lo) => (match x with
    | none => ih j rem L S D k F fr lo stk
    | some x => ih j rem L (x :: S) D k F fr lo stk)
def retP (C N : Nat) (ih : IhF) (D : List Ob) (k : Nat) (F : List Cond) (stk : List FmF) (o : Option (Option SV)) : Rs :=
  @Option.casesOn (Option SV) (fun _ => Rs) o nay fun v => @List.casesOn FmF (fun _ => Rs) stk
    (@Bool.casesOn (fun _ => Rs) (Nat.ble D.length C && (Nat.ble k N && isOne v)) nay (fun r => r)) (fun fm stk' => backP ih D k F v fm stk')
def endP (stk : List FmF) (b : Bool) : Rs := @List.casesOn FmF (fun _ => Rs) stk (@Bool.casesOn (fun _ => Rs) b nay (fun r => r)) (fun _ _ => nay)
def otherP (M : List MtF) (C N : Nat) (ih : IhF) (j : Nat) (tl : List ElF) (L : List SL) (S : List SV) (D : List Ob) (k : Nat) (F : List Cond) (fr lo : Nat) (stk : List FmF) : Kl ⊕ (Rt ⊕ (Stq ⊕ Tst)) → Rs
  | .inl (c, na, nx, ck) => callP M ih j tl L S D k F fr lo stk c na nx ck
  | .inr (.inl g) => retP C N ih D k F stk (g S)
  | .inr (.inr (.inl f)) => anyP (fun F' pc L' S' D' k' => forceL 64 D' fun D' => seekK M j tl pc fun rem => ih j rem L' S' D' k' F' fr lo stk) (f fr lo F (L, S, D, k))
  | .inr (.inr (.inr t)) => endP stk (t fr lo F (L, S, D, k))
def goP (ih : IhF) (j : Nat) (L : List SL) (S : List SV) (D : List Ob) (k : Nat) (F : List Cond) (fr lo : Nat) (stk : List FmF) (rem : List ElF) : Rs := ih j rem L S D k F fr lo stk
def nextP (M : List MtF) (ih : IhF) (j : Nat) (tl : List ElF) (fr lo : Nat) (stk : List FmF) : Kt := fun F pc L S D k => seekK M j tl pc (goP ih j L S D k F fr lo stk)
def dispP (M : List MtF) (C N : Nat) (ih : IhF) (j : Nat) (tl : List ElF) (L : List SL) (S : List SV) (D : List Ob) (k : Nat) (F : List Cond) (fr lo : Nat) (stk : List FmF) (el : KiF) : Rs :=
  @Sum.casesOn FS (Kl ⊕ (Rt ⊕ (Stq ⊕ Tst))) (fun _ => Rs) el (fun f => f F L S D k (nextP M ih j tl fr lo stk)) (otherP M C N ih j tl L S D k F fr lo stk)
def bodyP (M : List MtF) (C N : Nat) (ih : IhF) : IhF := fun j rem L S D k F fr lo stk =>
  @List.casesOn ElF (fun _ => Rs) rem nay fun e tl => dispP M C N ih j tl L S D k F fr lo stk e.2
def xgoP (M : List MtF) (C N : Nat) (n : Nat) : IhF := @Nat.rec (fun _ => IhF) (fun _ _ _ _ _ _ _ _ _ _ => nay) (fun _ ih => bodyP M C N ih) n
/-! #### it says what the other says -/
def RelK : KiF → Ki → Prop
  | .inl g, .inl f => SoundP f g
  | .inr a, .inr b => a = b
  | _, _ => False
def RelL : List ElF → List El → Prop
  | [], [] => True
  | e :: r, d :: s => (e.1 = d.1 ∧ RelK e.2 d.2) ∧ RelL r s
  | _, _ => False
def RelM : List MtF → List Mt → Prop
  | [], [] => True
  | m :: r, d :: s => (m.1 = d.1 ∧ RelL m.2.1 d.2 ∧ ∀ q ∈ m.2.2, RelL q.2 (seekF d.2 q.1)) ∧ RelM r s
  | _, _ => False
def RelS : List FmF → List Fm → Prop
  | [], [] => True
  | m :: r, d :: s => (m.1 = d.1 ∧ RelL m.2.1 d.2.1 ∧ m.2.2 = d.2.2) ∧ RelS r s
  | _, _ => False
theorem relM_at : ∀ {MF : List MtF} {M : List Mt} {j : Nat} {m : MtF}, RelM MF M → MF[j]? = some m → ∃ d, M[j]? = some d ∧ m.1 = d.1 ∧ RelL m.2.1 d.2 ∧ ∀ q ∈ m.2.2, RelL q.2 (seekF d.2 q.1)
  | [], _, _, _, _, h => by simp at h
  | _ :: _, [], _, _, hR, _ => hR.elim
  | a :: r, d :: s, 0, m, hR, h => by
    obtain rfl : a = m := by simpa using h
    exact ⟨d, rfl, hR.1⟩
  | a :: r, d :: s, j + 1, m, hR, h => by
    obtain ⟨d', h1, h2⟩ := relM_at (j := j) hR.2 (by simpa using h)
    exact ⟨d', by simpa using h1, h2⟩
theorem seekP_ok {pc : Nat} {κ : List ElF → Rs} {r : Bool} : ∀ {n : Nat} {code : List ElF} {cd : List El}, seekP n code pc κ r = true → RelL code cd → ∃ rem, κ rem r = true ∧ RelL rem (seekF cd pc)
  | 0, _, _, h, _ => by cases h
  | n + 1, [], _, h, _ => by cases h
  | n + 1, e :: t, [], _, hR => hR.elim
  | n + 1, e :: t, d :: s, h, hR => by
    have h' : (@Bool.casesOn (fun _ => Rs) (Nat.beq e.1 pc) (seekP n t pc κ) (κ (e :: t))) r = true := h
    unfold seekF
    rw [hR.1.1] at h'
    cases hb : Nat.beq d.1 pc
    · rw [hb] at h'
      exact seekP_ok (n := n) h' hR.2
    · rw [hb] at h'
      exact ⟨e :: t, h', hR⟩
theorem lookJ_ok {pc : Nat} {κ : List ElF → Rs} {els : Rs} {r : Bool} {cd : List El} (he : els r = true → ∃ rem, κ rem r = true ∧ RelL rem (seekF cd pc)) : ∀ {n : Nat} {J : List (Nat × List ElF)}, (∀ q ∈ J, RelL q.2 (seekF cd q.1)) → lookJ n J pc κ els r = true → ∃ rem, κ rem r = true ∧ RelL rem (seekF cd pc)
  | 0, _, _, h => by cases h
  | n + 1, [], _, h => he h
  | n + 1, q :: t, hJ, h => by
    have h' : (@Bool.casesOn (fun _ => Rs) (Nat.beq q.1 pc) (lookJ n t pc κ els) (κ q.2)) r = true := h
    cases hb : Nat.beq q.1 pc
    · rw [hb] at h'
      exact lookJ_ok he (n := n) (fun q hq => hJ q (List.mem_cons_of_mem _ hq)) h'
    · rw [hb] at h'
      have := hJ q (List.mem_cons_self ..)
      rw [Nat.eq_of_beq_eq_true hb] at this
      exact ⟨q.2, h', this⟩
theorem seekK_ok {MF : List MtF} {M : List Mt} (hM : RelM MF M) {j pc : Nat} {tl : List ElF} {tl' : List El} {κ : List ElF → Rs} {r : Bool} (h : seekK MF j tl pc κ r = true) (hR : RelL tl tl') : ∃ rem, κ rem r = true ∧ RelL rem (seek M j tl' pc) := by
  have far : nthP MF j (fun m => jumpP m pc κ) r = true → ∃ rem, κ rem r = true ∧ RelL rem (match M[j]? with
      | some m => seekF m.2 pc
      | none => []) := by
    intro q
    obtain ⟨m, h1, h2⟩ := nthP_ok q
    obtain ⟨d, h3, -, h5, h6⟩ := relM_at hM h1
    rw [h3]
    exact lookJ_ok (fun q => seekP_ok q h5) h6 h2
  unfold seek
  match tl, tl', hR with
  | [], [], _ => exact far h
  | e :: t, d :: s, hR =>
    have h' : (@Bool.casesOn (fun _ => Rs) (Nat.beq e.1 pc) (nthP MF j fun m => jumpP m pc κ) (κ (e :: t))) r = true := h
    rw [hR.1.1] at h'
    cases hb : Nat.beq d.1 pc
    · rw [hb] at h'; simp only [hb, cond_false]; exact far h'
    · rw [hb] at h'; simp only [hb, cond_true]; exact ⟨e :: t, h', hR⟩
theorem coll_nil {g : Nx → Option (List Pd)} : ∀ {ns : List Nx}, (∀ n ∈ ns, g n = some []) → coll g ns = some []
  | [], _ => rfl
  | [n], h => h n (List.mem_cons_self ..)
  | n :: m :: ns, h => by
    simp only [coll]
    rw [h n (List.mem_cons_self ..)]
    simp only
    rw [coll_nil fun x hx => h x (List.mem_cons_of_mem _ hx)]; rfl
theorem xgoP_ok {MF : List MtF} {M : List Mt} {C N : Nat} (hM : RelM MF M) : ∀ (n j : Nat) (rem : List ElF) (rem' : List El) (L : List SL) (S : List SV) (D : List Ob) (k : Nat) (F : List Cond) (fr lo : Nat) (stk : List FmF) (stk' : List Fm) (r : Bool),
    RelL rem rem' → RelS stk stk' → xgoP MF C N n j rem L S D k F fr lo stk r = true → xgo M C N n (j, rem', (L, S, D, k), F, fr, lo, stk') = some [] ∧ r = true := by
  intro n
  induction n with
  | zero => intro j rem rem' L S D k F fr lo stk stk' r _ _ h; cases h
  | succ n IH =>
    intro j rem rem' L S D k F fr lo stk stk' r hR hS h
    have h : bodyP MF C N (xgoP MF C N n) j rem L S D k F fr lo stk r = true := h
    rw [xgo_succ]
    match rem, rem', hR with
    | [], [], _ => cases h
    | (pc, el) :: tl, (pc', el') :: tl', hR =>
      obtain ⟨⟨-, hK⟩, hT⟩ := hR
      have step : ∀ (f0 : Option (List Nx)), ((∃ ns, f0 = some ns ∧ ∀ n' ∈ ns, xgo M C N n (j, seek M j tl' n'.2.1, n'.2.2, n'.1, fr, lo, stk') = some []) ∧ r = true) → (match f0 with
          | none => some [(F, none)]
          | some ns => coll (fun n' => xgo M C N n (j, seek M j tl' n'.2.1, n'.2.2, n'.1, fr, lo, stk')) ns) = some [] ∧ r = true := by
        rintro f0 ⟨⟨ns, rfl, h1⟩, h2⟩
        exact ⟨coll_nil h1, h2⟩
      have cnt : ∀ F' pc L' S' D' k' r', (seekK MF j tl pc fun rem => xgoP MF C N n j rem L' S' D' k' F' fr lo stk) r' = true → xgo M C N n (j, seek M j tl' pc, (L', S', D', k'), F', fr, lo, stk') = some [] ∧ r' = true := by
        intro F' pc L' S' D' k' r' q
        obtain ⟨rem2, q1, q2⟩ := seekK_ok hM q hT
        exact IH j rem2 _ L' S' D' k' F' fr lo stk stk' r' q2 hS q1
      match el, el', hK with
      | .inl g, .inl f, hK =>
        exact step _ (hK F L S D k _ (fun n' => xgo M C N n (j, seek M j tl' n'.2.1, n'.2.2, n'.1, fr, lo, stk') = some []) (fun F' pc L' S' D' k' r' q => cnt F' pc L' S' D' k' r' q) r h)
      | .inr x, .inr x', hK =>
        obtain rfl : x = x' := hK
        have h : otherP MF C N (xgoP MF C N n) j tl L S D k F fr lo stk x r = true := h
        rcases x with ⟨c, na, nx, ck⟩ | g | f | t
        · obtain ⟨m, m1, h⟩ := nthP_ok (show callP MF (xgoP MF C N n) j tl L S D k F fr lo stk c na nx ck r = true from h)
          obtain ⟨mj, m2, h⟩ := nthP_ok h
          obtain ⟨d, d1, d2, d3, -⟩ := relM_at hM m1
          obtain ⟨dj, e1, e2, -⟩ := relM_at hM m2
          rw [d2, e2] at h
          show (match M[c]? with
            | none => none
            | some m => (match M[j]? with
              | none => none
              | some mj => bif Nat.ble na S.length && (Nat.beq L.length mj.1 && (ck (S.take na) D && (Nat.ble 1 fr && Nat.ble (wt (S.drop na) + (m.1 + 11)) lo))) then
                  xgo M C N n (c, m.2, (entL (S.take na).reverse m.1, [], (D, k)), F, fr - 1, lo - (wt (S.drop na) + (m.1 + 11)), (j, seek M j tl' nx, L, S.drop na, fr, lo) :: stk')
                else some [(F, none)])) = some [] ∧ r = true
          rw [d1, e1]
          generalize hc : (Nat.ble na S.length && (Nat.beq L.length dj.1 && (ck (S.take na) D && (Nat.ble 1 fr && Nat.ble (wt (S.drop na) + (d.1 + 11)) lo)))) = b at h
          show (bif (Nat.ble na S.length && (Nat.beq L.length dj.1 && (ck (S.take na) D && (Nat.ble 1 fr && Nat.ble (wt (S.drop na) + (d.1 + 11)) lo)))) then _ else _) = some [] ∧ r = true
          rw [hc]
          cases b
          · cases h
          · obtain ⟨rem2, q1, q2⟩ := seekK_ok hM h hT
            rw [forceL_eq, forceL_eq] at q1
            exact IH c m.2.1 d.2 _ [] D k F (fr - 1) _ ((j, rem2, L, S.drop na, fr, lo) :: stk) ((j, seek M j tl' nx, L, S.drop na, fr, lo) :: stk') r d3 ⟨⟨rfl, q2, rfl⟩, hS⟩ q1
        · clear cnt step
          have h : retP C N (xgoP MF C N n) D k F stk (g S) r = true := h
          show (match g S with
            | none => some [(F, none)]
            | some v => (match stk' with
              | [] => leaf C N F v (D, k)
              | fm :: stk2 => xgo M C N n (fm.1, fm.2.1, (fm.2.2.1, v.toList ++ fm.2.2.2.1, (D, k)), F, fm.2.2.2.2.1, fm.2.2.2.2.2, stk2))) = some [] ∧ r = true
          generalize g S = o at h
          cases o with
          | none => cases h
          | some v =>
            match stk, stk', hS with
            | [], [], _ =>
              have h : (@Bool.casesOn (fun _ => Rs) (Nat.ble D.length C && (Nat.ble k N && isOne v)) nay (fun r => r)) r = true := h
              cases hc : (Nat.ble D.length C && (Nat.ble k N && isOne v))
              · rw [hc] at h; cases h
              · rw [hc] at h
                simp only [Bool.and_eq_true] at hc
                refine ⟨?_, h⟩
                show (bif Nat.ble D.length C && Nat.ble k N then (bif isOne v then some [] else some [(F, v)]) else none) = some []
                rw [hc.1, hc.2.1, hc.2.2]; rfl
            | (j1, rem1, L1, S1, fr1, lo1) :: stk1, (j2, rem2, q2) :: stk2, hS =>
              obtain ⟨⟨e1, e2, e3⟩, hS⟩ := hS
              have e1 : j1 = j2 := e1
              have e3 : (L1, S1, fr1, lo1) = q2 := e3
              subst e1 e3
              cases v with
              | none => exact IH j1 rem1 rem2 L1 S1 D k F fr1 lo1 stk1 stk2 r e2 hS h
              | some x => exact IH j1 rem1 rem2 L1 (x :: S1) D k F fr1 lo1 stk1 stk2 r e2 hS h
        · exact step _ (anyP_ok (P := fun n' => xgo M C N n (j, seek M j tl' n'.2.1, n'.2.2, n'.1, fr, lo, stk') = some []) (fun F' pc L' S' D' k' r' q => cnt F' pc L' S' D' k' r' (by rw [forceL_eq] at q; exact q)) h)
        · clear cnt step
          have h : endP stk (t fr lo F (L, S, D, k)) r = true := h
          show (match stk' with
            | [] => bif t fr lo F (L, S, D, k) then some [] else some [(F, none)]
            | _ => some [(F, none)]) = some [] ∧ r = true
          match stk, stk', hS with
          | [], [], _ =>
            have h : (@Bool.casesOn (fun _ => Rs) (t fr lo F (L, S, D, k)) nay (fun r => r)) r = true := h
            show (bif t fr lo F (L, S, D, k) then some [] else some [(F, none)]) = some [] ∧ r = true
            cases hc : t fr lo F (L, S, D, k)
            · rw [hc] at h; cases h
            · rw [hc] at h; exact ⟨rfl, h⟩
          | _ :: _, _ :: _, _ => cases h
def runP (M : List MtF) (C N n pc : Nat) (c : Cf) (F : List Cond) (fr lo : Nat) : Bool := nthP M 0 (fun m => seekP 4096 m.2.1 pc fun rem => xgoP M C N n 0 rem c.1 c.2.1 c.2.2.1 c.2.2.2 F fr lo []) true
theorem runP_ok {MF : List MtF} {M : List Mt} {C N n pc mx : Nat} {c : Cf} {F : List Cond} {fr lo : Nat} {code : List El} (hM : RelM MF M) (hj : M[0]? = some (mx, code)) (h : runP MF C N n pc c F fr lo = true) : xgo M C N n (0, seekF code pc, c, F, fr, lo, []) = some [] := by
  obtain ⟨m, h1, h2⟩ := nthP_ok h
  obtain ⟨d, d1, -, d3, -⟩ := relM_at hM h1
  rw [hj] at d1; cases d1
  obtain ⟨rem, q1, q2⟩ := seekP_ok h2 d3
  exact (xgoP_ok hM n 0 rem _ c.1 c.2.1 c.2.2.1 c.2.2.2 F fr lo [] [] true q2 trivial q1).1
theorem relN : RelL [] [] := trivial
theorem relC {p : Nat} {g : FS} {f : Stp} {r : List ElF} {s : List El} (h : SoundP f g) (t : RelL r s) : RelL ((p, .inl g) :: r) ((p, kS f) :: s) := ⟨⟨rfl, h⟩, t⟩
theorem relO {p : Nat} {x : Kl ⊕ (Rt ⊕ (Stq ⊕ Tst))} {r : List ElF} {s : List El} (t : RelL r s) : RelL ((p, .inr x) :: r) ((p, .inr x) :: s) := ⟨⟨rfl, rfl⟩, t⟩
def xcutF (code : List ElF) (pc : Nat) (k : Tst) : List ElF := code.map fun el => bif Nat.beq el.1 pc then (el.1, .inr (.inr (.inr (.inr k)))) else el
theorem xcutF_rel {pc : Nat} {k : Tst} : ∀ {r : List ElF} {s : List El}, RelL r s → RelL (xcutF r pc k) (xcut s pc k)
  | [], [], _ => trivial
  | e :: r, d :: s, h => by
    refine ⟨?_, xcutF_rel h.2⟩
    have e1 : e.1 = d.1 := h.1.1
    show ((bif Nat.beq e.1 pc then (e.1, .inr (.inr (.inr (.inr k)))) else e : ElF).1 = (bif Nat.beq d.1 pc then (d.1, kX k) else d : El).1 ∧ RelK (bif Nat.beq e.1 pc then (e.1, .inr (.inr (.inr (.inr k)))) else e : ElF).2 (bif Nat.beq d.1 pc then (d.1, kX k) else d : El).2)
    rw [e1]
    cases hb : Nat.beq d.1 pc
    · exact h.1
    · exact ⟨rfl, rfl⟩
def seekE : List ElF → Nat → List ElF
  | [], _ => []
  | el :: r, pc => bif Nat.beq el.1 pc then el :: r else seekE r pc
theorem seekE_rel {pc : Nat} : ∀ {r : List ElF} {s : List El}, RelL r s → RelL (seekE r pc) (seekF s pc)
  | [], [], _ => trivial
  | e :: r, d :: s, h => by
    unfold seekE seekF
    rw [show e.1 = d.1 from h.1.1]
    cases hb : Nat.beq d.1 pc
    · exact seekE_rel h.2
    · exact h
theorem jn {P : Nat × List ElF → Prop} : ∀ q ∈ ([] : List (Nat × List ElF)), P q := fun _ h => nomatch h
theorem jc {ce : List ElF} {cd : List El} {pc : Nat} {l : List ElF} {t : List (Nat × List ElF)} (hR : RelL ce cd) (h : l = seekE ce pc) (ht : ∀ q ∈ t, RelL q.2 (seekF cd q.1)) : ∀ q ∈ (pc, l) :: t, RelL q.2 (seekF cd q.1) := fun q hq => (List.mem_cons.mp hq).elim (fun e => by rw [e, h]; exact seekE_rel hR) (ht q)
end Jvm.OwnX

namespace Jvm.Pilot.@@N@@
open Jvm Jvm.ClassFile Sem Op Lib Jvm.Free Jvm.Stand Jvm.LawKit Jvm.RoadKit Bundle Jvm.OwnX Jvm.Pilot.@@N@@.Jvm.D
theorem d1_0 : decode prog_45_method_1_code 0 = .ok (.aload_n 0, 1) := by decide +kernel
theorem d1_1 : decode prog_45_method_1_code 1 = .ok (.invokespecial 1, 3) := by decide +kernel
theorem d1_4 : decode prog_45_method_1_code 4 = .ok (.iconst 1, 1) := by decide +kernel
theorem d1_5 : decode prog_45_method_1_code 5 = .ok (.iconst 2, 1) := by decide +kernel
theorem d1_6 : decode prog_45_method_1_code 6 = .ok (.iload_n 1, 1) := by decide +kernel
theorem d1_7 : decode prog_45_method_1_code 7 = .ok (.imul, 1) := by decide +kernel
theorem d1_8 : decode prog_45_method_1_code 8 = .ok (.iconst 1, 1) := by decide +kernel
theorem d1_9 : decode prog_45_method_1_code 9 = .ok (.isub, 1) := by decide +kernel
theorem d1_10 : decode prog_45_method_1_code 10 = .ok (.invokestatic 7, 3) := by decide +kernel
theorem d1_13 : decode prog_45_method_1_code 13 = .ok (.istore_n 3, 1) := by decide +kernel
theorem d1_14 : decode prog_45_method_1_code 14 = .ok (.aload_n 0, 1) := by decide +kernel
theorem d1_15 : decode prog_45_method_1_code 15 = .ok (.iload_n 3, 1) := by decide +kernel
theorem d1_16 : decode prog_45_method_1_code 16 = .ok (.newarray .int, 2) := by decide +kernel
theorem d1_18 : decode prog_45_method_1_code 18 = .ok (.putfield 13, 3) := by decide +kernel
theorem d1_21 : decode prog_45_method_1_code 21 = .ok (.aload_n 0, 1) := by decide +kernel
theorem d1_22 : decode prog_45_method_1_code 22 = .ok (.iload_n 3, 1) := by decide +kernel
theorem d1_23 : decode prog_45_method_1_code 23 = .ok (.newarray .int, 2) := by decide +kernel
theorem d1_25 : decode prog_45_method_1_code 25 = .ok (.putfield 19, 3) := by decide +kernel
theorem d1_28 : decode prog_45_method_1_code 28 = .ok (.aload_n 0, 1) := by decide +kernel
theorem d1_29 : decode prog_45_method_1_code 29 = .ok (.iload_n 3, 1) := by decide +kernel
theorem d1_30 : decode prog_45_method_1_code 30 = .ok (.newarray .int, 2) := by decide +kernel
theorem d1_32 : decode prog_45_method_1_code 32 = .ok (.putfield 22, 3) := by decide +kernel
theorem d1_35 : decode prog_45_method_1_code 35 = .ok (.aload_n 0, 1) := by decide +kernel
theorem d1_36 : decode prog_45_method_1_code 36 = .ok (.iload_n 3, 1) := by decide +kernel
theorem d1_37 : decode prog_45_method_1_code 37 = .ok (.newarray .int, 2) := by decide +kernel
theorem d1_39 : decode prog_45_method_1_code 39 = .ok (.putfield 25, 3) := by decide +kernel
theorem d1_42 : decode prog_45_method_1_code 42 = .ok (.aload_n 0, 1) := by decide +kernel
theorem d1_43 : decode prog_45_method_1_code 43 = .ok (.iload_n 3, 1) := by decide +kernel
theorem d1_44 : decode prog_45_method_1_code 44 = .ok (.newarray .int, 2) := by decide +kernel
theorem d1_46 : decode prog_45_method_1_code 46 = .ok (.putfield 28, 3) := by decide +kernel
theorem d1_49 : decode prog_45_method_1_code 49 = .ok (.aload_n 0, 1) := by decide +kernel
theorem d1_50 : decode prog_45_method_1_code 50 = .ok (.iload_n 1, 1) := by decide +kernel
theorem d1_51 : decode prog_45_method_1_code 51 = .ok (.newarray .int, 2) := by decide +kernel
theorem d1_53 : decode prog_45_method_1_code 53 = .ok (.putfield 31, 3) := by decide +kernel
theorem d1_56 : decode prog_45_method_1_code 56 = .ok (.aload_n 0, 1) := by decide +kernel
theorem d1_57 : decode prog_45_method_1_code 57 = .ok (.iload_n 1, 1) := by decide +kernel
theorem d1_58 : decode prog_45_method_1_code 58 = .ok (.newarray .int, 2) := by decide +kernel
theorem d1_60 : decode prog_45_method_1_code 60 = .ok (.putfield 34, 3) := by decide +kernel
theorem d1_63 : decode prog_45_method_1_code 63 = .ok (.aload_n 0, 1) := by decide +kernel
theorem d1_64 : decode prog_45_method_1_code 64 = .ok (.iload_n 1, 1) := by decide +kernel
theorem d1_65 : decode prog_45_method_1_code 65 = .ok (.newarray .int, 2) := by decide +kernel
theorem d1_67 : decode prog_45_method_1_code 67 = .ok (.putfield 37, 3) := by decide +kernel
theorem d1_70 : decode prog_45_method_1_code 70 = .ok (.aload_n 0, 1) := by decide +kernel
theorem d1_71 : decode prog_45_method_1_code 71 = .ok (.iload_n 2, 1) := by decide +kernel
theorem d1_72 : decode prog_45_method_1_code 72 = .ok (.iload_n 3, 1) := by decide +kernel
theorem d1_73 : decode prog_45_method_1_code 73 = .ok (.invokestatic 7, 3) := by decide +kernel
theorem d1_76 : decode prog_45_method_1_code 76 = .ok (.iconst 1, 1) := by decide +kernel
theorem d1_77 : decode prog_45_method_1_code 77 = .ok (.iadd, 1) := by decide +kernel
theorem d1_78 : decode prog_45_method_1_code 78 = .ok (.newarray .int, 2) := by decide +kernel
theorem d1_80 : decode prog_45_method_1_code 80 = .ok (.putfield 40, 3) := by decide +kernel
theorem d1_83 : decode prog_45_method_1_code 83 = .ok (.aload_n 0, 1) := by decide +kernel
theorem d1_84 : decode prog_45_method_1_code 84 = .ok (.iload_n 1, 1) := by decide +kernel
theorem d1_85 : decode prog_45_method_1_code 85 = .ok (.newarray .int, 2) := by decide +kernel
theorem d1_87 : decode prog_45_method_1_code 87 = .ok (.putfield 43, 3) := by decide +kernel
theorem d1_90 : decode prog_45_method_1_code 90 = .ok (.aload_n 0, 1) := by decide +kernel
theorem d1_91 : decode prog_45_method_1_code 91 = .ok (.iload_n 1, 1) := by decide +kernel
theorem d1_92 : decode prog_45_method_1_code 92 = .ok (.newarray .int, 2) := by decide +kernel
theorem d1_94 : decode prog_45_method_1_code 94 = .ok (.putfield 46, 3) := by decide +kernel
theorem d1_97 : decode prog_45_method_1_code 97 = .ok (.aload_n 0, 1) := by decide +kernel
theorem d1_98 : decode prog_45_method_1_code 98 = .ok (.getfield 31, 3) := by decide +kernel
theorem d1_101 : decode prog_45_method_1_code 101 = .ok (.invokedynamic 49, 5) := by decide +kernel
theorem d1_106 : decode prog_45_method_1_code 106 = .ok (.invokestatic 53, 3) := by decide +kernel
theorem d1_109 : decode prog_45_method_1_code 109 = .ok (.aload_n 0, 1) := by decide +kernel
theorem d1_110 : decode prog_45_method_1_code 110 = .ok (.getfield 34, 3) := by decide +kernel
theorem d1_113 : decode prog_45_method_1_code 113 = .ok (.invokedynamic 59, 5) := by decide +kernel
theorem d1_118 : decode prog_45_method_1_code 118 = .ok (.invokestatic 53, 3) := by decide +kernel
theorem d1_121 : decode prog_45_method_1_code 121 = .ok (.aload_n 0, 1) := by decide +kernel
theorem d1_122 : decode prog_45_method_1_code 122 = .ok (.getfield 40, 3) := by decide +kernel
theorem d1_125 : decode prog_45_method_1_code 125 = .ok (.iconst (-1), 1) := by decide +kernel
theorem d1_126 : decode prog_45_method_1_code 126 = .ok (.invokestatic 60, 3) := by decide +kernel
theorem d1_129 : decode prog_45_method_1_code 129 = .ok (.aload_n 0, 1) := by decide +kernel
theorem d1_130 : decode prog_45_method_1_code 130 = .ok (.getfield 13, 3) := by decide +kernel
theorem d1_133 : decode prog_45_method_1_code 133 = .ok (.iconst 0, 1) := by decide +kernel
theorem d1_134 : decode prog_45_method_1_code 134 = .ok (.iconst (-1), 1) := by decide +kernel
theorem d1_135 : decode prog_45_method_1_code 135 = .ok (.iastore, 1) := by decide +kernel
theorem d1_136 : decode prog_45_method_1_code 136 = .ok (.aload_n 0, 1) := by decide +kernel
theorem d1_137 : decode prog_45_method_1_code 137 = .ok (.getfield 22, 3) := by decide +kernel
theorem d1_140 : decode prog_45_method_1_code 140 = .ok (.iconst 0, 1) := by decide +kernel
theorem d1_141 : decode prog_45_method_1_code 141 = .ok (.iconst (-1), 1) := by decide +kernel
theorem d1_142 : decode prog_45_method_1_code 142 = .ok (.iastore, 1) := by decide +kernel
theorem d1_143 : decode prog_45_method_1_code 143 = .ok (.aload_n 0, 1) := by decide +kernel
theorem d1_144 : decode prog_45_method_1_code 144 = .ok (.getfield 28, 3) := by decide +kernel
theorem d1_147 : decode prog_45_method_1_code 147 = .ok (.iconst 0, 1) := by decide +kernel
theorem d1_148 : decode prog_45_method_1_code 148 = .ok (.iload_n 1, 1) := by decide +kernel
theorem d1_149 : decode prog_45_method_1_code 149 = .ok (.iastore, 1) := by decide +kernel
theorem d1_150 : decode prog_45_method_1_code 150 = .ok (.aload_n 0, 1) := by decide +kernel
theorem d1_151 : decode prog_45_method_1_code 151 = .ok (.iconst 1, 1) := by decide +kernel
theorem d1_152 : decode prog_45_method_1_code 152 = .ok (.putfield 64, 3) := by decide +kernel
theorem d1_155 : decode prog_45_method_1_code 155 = .ok (.return_, 1) := by decide +kernel
theorem d3_0 : decode jdk_29_method_65_code 0 = .ok (.iload_n 0, 1) := by decide +kernel
theorem d3_1 : decode jdk_29_method_65_code 1 = .ok (.iload_n 1, 1) := by decide +kernel
theorem d3_2 : decode jdk_29_method_65_code 2 = .ok (.if_icmp .lt 7, 3) := by decide +kernel
theorem d3_5 : decode jdk_29_method_65_code 5 = .ok (.iload_n 0, 1) := by decide +kernel
theorem d3_6 : decode jdk_29_method_65_code 6 = .ok (.goto 4, 3) := by decide +kernel
theorem d3_9 : decode jdk_29_method_65_code 9 = .ok (.iload_n 1, 1) := by decide +kernel
theorem d3_10 : decode jdk_29_method_65_code 10 = .ok (.ireturn, 1) := by decide +kernel
theorem d4_0 : decode jdk_65_method_175_code 0 = .ok (.aload_n 1, 1) := by decide +kernel
theorem d4_1 : decode jdk_65_method_175_code 1 = .ok (.invokestatic 175, 3) := by decide +kernel
theorem d4_4 : decode jdk_65_method_175_code 4 = .ok (.pop, 1) := by decide +kernel
theorem d4_5 : decode jdk_65_method_175_code 5 = .ok (.iconst 0, 1) := by decide +kernel
theorem d4_6 : decode jdk_65_method_175_code 6 = .ok (.istore_n 2, 1) := by decide +kernel
theorem d4_7 : decode jdk_65_method_175_code 7 = .ok (.iload_n 2, 1) := by decide +kernel
theorem d4_8 : decode jdk_65_method_175_code 8 = .ok (.aload_n 0, 1) := by decide +kernel
theorem d4_9 : decode jdk_65_method_175_code 9 = .ok (.arraylength, 1) := by decide +kernel
theorem d4_10 : decode jdk_65_method_175_code 10 = .ok (.if_icmp .ge 19, 3) := by decide +kernel
theorem d4_13 : decode jdk_65_method_175_code 13 = .ok (.aload_n 0, 1) := by decide +kernel
theorem d4_14 : decode jdk_65_method_175_code 14 = .ok (.iload_n 2, 1) := by decide +kernel
theorem d4_15 : decode jdk_65_method_175_code 15 = .ok (.aload_n 1, 1) := by decide +kernel
theorem d4_16 : decode jdk_65_method_175_code 16 = .ok (.iload_n 2, 1) := by decide +kernel
theorem d4_17 : decode jdk_65_method_175_code 17 = .ok (.invokeinterface 582 2, 5) := by decide +kernel
theorem d4_22 : decode jdk_65_method_175_code 22 = .ok (.iastore, 1) := by decide +kernel
theorem d4_23 : decode jdk_65_method_175_code 23 = .ok (.iinc 2 1, 3) := by decide +kernel
theorem d4_26 : decode jdk_65_method_175_code 26 = .ok (.goto (-19), 3) := by decide +kernel
theorem d4_29 : decode jdk_65_method_175_code 29 = .ok (.return_, 1) := by decide +kernel
theorem d5_0 : decode jdk_31_method_10_code 0 = .ok (.aload_n 0, 1) := by decide +kernel
theorem d5_1 : decode jdk_31_method_10_code 1 = .ok (.ifnonnull 11, 3) := by decide +kernel
theorem d5_4 : decode jdk_31_method_10_code 4 = .ok (.new 84, 3) := by decide +kernel
theorem d5_7 : decode jdk_31_method_10_code 7 = .ok (.dup, 1) := by decide +kernel
theorem d5_8 : decode jdk_31_method_10_code 8 = .ok (.invokespecial 86, 3) := by decide +kernel
theorem d5_11 : decode jdk_31_method_10_code 11 = .ok (.athrow, 1) := by decide +kernel
theorem d5_12 : decode jdk_31_method_10_code 12 = .ok (.aload_n 0, 1) := by decide +kernel
theorem d5_13 : decode jdk_31_method_10_code 13 = .ok (.areturn, 1) := by decide +kernel
theorem d6_0 : decode prog_45_method_17_code 0 = .ok (.iload_n 0, 1) := by decide +kernel
theorem d6_1 : decode prog_45_method_17_code 1 = .ok (.ireturn, 1) := by decide +kernel
theorem d7_0 : decode prog_45_method_16_code 0 = .ok (.iload_n 0, 1) := by decide +kernel
theorem d7_1 : decode prog_45_method_16_code 1 = .ok (.ireturn, 1) := by decide +kernel
theorem d8_0 : decode jdk_65_method_103_code 0 = .ok (.iconst 0, 1) := by decide +kernel
theorem d8_1 : decode jdk_65_method_103_code 1 = .ok (.istore_n 2, 1) := by decide +kernel
theorem d8_2 : decode jdk_65_method_103_code 2 = .ok (.aload_n 0, 1) := by decide +kernel
theorem d8_3 : decode jdk_65_method_103_code 3 = .ok (.arraylength, 1) := by decide +kernel
theorem d8_4 : decode jdk_65_method_103_code 4 = .ok (.istore_n 3, 1) := by decide +kernel
theorem d8_5 : decode jdk_65_method_103_code 5 = .ok (.iload_n 2, 1) := by decide +kernel
theorem d8_6 : decode jdk_65_method_103_code 6 = .ok (.iload_n 3, 1) := by decide +kernel
theorem d8_7 : decode jdk_65_method_103_code 7 = .ok (.if_icmp .ge 13, 3) := by decide +kernel
theorem d8_10 : decode jdk_65_method_103_code 10 = .ok (.aload_n 0, 1) := by decide +kernel
theorem d8_11 : decode jdk_65_method_103_code 11 = .ok (.iload_n 2, 1) := by decide +kernel
theorem d8_12 : decode jdk_65_method_103_code 12 = .ok (.iload_n 1, 1) := by decide +kernel
theorem d8_13 : decode jdk_65_method_103_code 13 = .ok (.iastore, 1) := by decide +kernel
theorem d8_14 : decode jdk_65_method_103_code 14 = .ok (.iinc 2 1, 3) := by decide +kernel
theorem d8_17 : decode jdk_65_method_103_code 17 = .ok (.goto (-12), 3) := by decide +kernel
theorem d8_20 : decode jdk_65_method_103_code 20 = .ok (.return_, 1) := by decide +kernel
theorem d9_0 : decode method_2_code 0 = .ok (.iload_n 0, 1) := by decide +kernel
theorem d9_1 : decode method_2_code 1 = .ok (.iconst 2, 1) := by decide +kernel
theorem d9_2 : decode method_2_code 2 = .ok (.iload_n 1, 1) := by decide +kernel
theorem d9_3 : decode method_2_code 3 = .ok (.imul, 1) := by decide +kernel
theorem d9_4 : decode method_2_code 4 = .ok (.iushr, 1) := by decide +kernel
theorem d9_5 : decode method_2_code 5 = .ok (.iconst 3, 1) := by decide +kernel
theorem d9_6 : decode method_2_code 6 = .ok (.iand, 1) := by decide +kernel
theorem d9_7 : decode method_2_code 7 = .ok (.iconst 1, 1) := by decide +kernel
theorem d9_8 : decode method_2_code 8 = .ok (.isub, 1) := by decide +kernel
theorem d9_9 : decode method_2_code 9 = .ok (.ireturn, 1) := by decide +kernel
theorem d10_0 : decode prog_45_method_15_code 0 = .ok (.iconst 0, 1) := by decide +kernel
theorem d10_1 : decode prog_45_method_15_code 1 = .ok (.istore_n 3, 1) := by decide +kernel
theorem d10_2 : decode prog_45_method_15_code 2 = .ok (.aload_n 0, 1) := by decide +kernel
theorem d10_3 : decode prog_45_method_15_code 3 = .ok (.getfield 25, 3) := by decide +kernel
theorem d10_6 : decode prog_45_method_15_code 6 = .ok (.iload_n 1, 1) := by decide +kernel
theorem d10_7 : decode prog_45_method_15_code 7 = .ok (.iaload, 1) := by decide +kernel
theorem d10_8 : decode prog_45_method_15_code 8 = .ok (.istore 4, 2) := by decide +kernel
theorem d10_10 : decode prog_45_method_15_code 10 = .ok (.iload 4, 2) := by decide +kernel
theorem d10_12 : decode prog_45_method_15_code 12 = .ok (.aload_n 0, 1) := by decide +kernel
theorem d10_13 : decode prog_45_method_15_code 13 = .ok (.getfield 28, 3) := by decide +kernel
theorem d10_16 : decode prog_45_method_15_code 16 = .ok (.iload_n 1, 1) := by decide +kernel
theorem d10_17 : decode prog_45_method_15_code 17 = .ok (.iaload, 1) := by decide +kernel
theorem d10_18 : decode prog_45_method_15_code 18 = .ok (.if_icmp .ge 67, 3) := by decide +kernel
theorem d10_21 : decode prog_45_method_15_code 21 = .ok (.aload_n 2, 1) := by decide +kernel
theorem d10_22 : decode prog_45_method_15_code 22 = .ok (.aload_n 0, 1) := by decide +kernel
theorem d10_23 : decode prog_45_method_15_code 23 = .ok (.getfield 31, 3) := by decide +kernel
theorem d10_26 : decode prog_45_method_15_code 26 = .ok (.iload 4, 2) := by decide +kernel
theorem d10_28 : decode prog_45_method_15_code 28 = .ok (.iaload, 1) := by decide +kernel
theorem d10_29 : decode prog_45_method_15_code 29 = .ok (.iaload, 1) := by decide +kernel
theorem d10_30 : decode prog_45_method_15_code 30 = .ok (.iconst 1, 1) := by decide +kernel
theorem d10_31 : decode prog_45_method_15_code 31 = .ok (.iadd, 1) := by decide +kernel
theorem d10_32 : decode prog_45_method_15_code 32 = .ok (.istore 5, 2) := by decide +kernel
theorem d10_34 : decode prog_45_method_15_code 34 = .ok (.aload_n 0, 1) := by decide +kernel
theorem d10_35 : decode prog_45_method_15_code 35 = .ok (.getfield 40, 3) := by decide +kernel
theorem d10_38 : decode prog_45_method_15_code 38 = .ok (.iload 5, 2) := by decide +kernel
theorem d10_40 : decode prog_45_method_15_code 40 = .ok (.iaload, 1) := by decide +kernel
theorem d10_41 : decode prog_45_method_15_code 41 = .ok (.iconst (-1), 1) := by decide +kernel
theorem d10_42 : decode prog_45_method_15_code 42 = .ok (.if_icmp .ne 21, 3) := by decide +kernel
theorem d10_45 : decode prog_45_method_15_code 45 = .ok (.aload_n 0, 1) := by decide +kernel
theorem d10_46 : decode prog_45_method_15_code 46 = .ok (.getfield 43, 3) := by decide +kernel
theorem d10_49 : decode prog_45_method_15_code 49 = .ok (.iload_n 3, 1) := by decide +kernel
theorem d10_50 : decode prog_45_method_15_code 50 = .ok (.iconst 0, 1) := by decide +kernel
theorem d10_51 : decode prog_45_method_15_code 51 = .ok (.iastore, 1) := by decide +kernel
theorem d10_52 : decode prog_45_method_15_code 52 = .ok (.aload_n 0, 1) := by decide +kernel
theorem d10_53 : decode prog_45_method_15_code 53 = .ok (.getfield 40, 3) := by decide +kernel
theorem d10_56 : decode prog_45_method_15_code 56 = .ok (.iload 5, 2) := by decide +kernel
theorem d10_58 : decode prog_45_method_15_code 58 = .ok (.iload_n 3, 1) := by decide +kernel
theorem d10_59 : decode prog_45_method_15_code 59 = .ok (.iinc 3 1, 3) := by decide +kernel
theorem d10_62 : decode prog_45_method_15_code 62 = .ok (.iastore, 1) := by decide +kernel
theorem d10_63 : decode prog_45_method_15_code 63 = .ok (.aload_n 0, 1) := by decide +kernel
theorem d10_64 : decode prog_45_method_15_code 64 = .ok (.getfield 43, 3) := by decide +kernel
theorem d10_67 : decode prog_45_method_15_code 67 = .ok (.aload_n 0, 1) := by decide +kernel
theorem d10_68 : decode prog_45_method_15_code 68 = .ok (.getfield 40, 3) := by decide +kernel
theorem d10_71 : decode prog_45_method_15_code 71 = .ok (.iload 5, 2) := by decide +kernel
theorem d10_73 : decode prog_45_method_15_code 73 = .ok (.iaload, 1) := by decide +kernel
theorem d10_74 : decode prog_45_method_15_code 74 = .ok (.dup2, 1) := by decide +kernel
theorem d10_75 : decode prog_45_method_15_code 75 = .ok (.iaload, 1) := by decide +kernel
theorem d10_76 : decode prog_45_method_15_code 76 = .ok (.iconst 1, 1) := by decide +kernel
theorem d10_77 : decode prog_45_method_15_code 77 = .ok (.iadd, 1) := by decide +kernel
theorem d10_78 : decode prog_45_method_15_code 78 = .ok (.iastore, 1) := by decide +kernel
theorem d10_79 : decode prog_45_method_15_code 79 = .ok (.iinc 4 1, 3) := by decide +kernel
theorem d10_82 : decode prog_45_method_15_code 82 = .ok (.goto (-72), 3) := by decide +kernel
theorem d10_85 : decode prog_45_method_15_code 85 = .ok (.iload_n 3, 1) := by decide +kernel
theorem d10_86 : decode prog_45_method_15_code 86 = .ok (.iconst 1, 1) := by decide +kernel
theorem d10_87 : decode prog_45_method_15_code 87 = .ok (.if_icmp .le 301, 3) := by decide +kernel
theorem d10_90 : decode prog_45_method_15_code 90 = .ok (.aload_n 0, 1) := by decide +kernel
theorem d10_91 : decode prog_45_method_15_code 91 = .ok (.getfield 22, 3) := by decide +kernel
theorem d10_94 : decode prog_45_method_15_code 94 = .ok (.iload_n 1, 1) := by decide +kernel
theorem d10_95 : decode prog_45_method_15_code 95 = .ok (.aload_n 0, 1) := by decide +kernel
theorem d10_96 : decode prog_45_method_15_code 96 = .ok (.getfield 64, 3) := by decide +kernel
theorem d10_99 : decode prog_45_method_15_code 99 = .ok (.iastore, 1) := by decide +kernel
theorem d10_100 : decode prog_45_method_15_code 100 = .ok (.iconst 0, 1) := by decide +kernel
theorem d10_101 : decode prog_45_method_15_code 101 = .ok (.istore 4, 2) := by decide +kernel
theorem d10_103 : decode prog_45_method_15_code 103 = .ok (.aload_n 0, 1) := by decide +kernel
theorem d10_104 : decode prog_45_method_15_code 104 = .ok (.getfield 25, 3) := by decide +kernel
theorem d10_107 : decode prog_45_method_15_code 107 = .ok (.iload_n 1, 1) := by decide +kernel
theorem d10_108 : decode prog_45_method_15_code 108 = .ok (.iaload, 1) := by decide +kernel
theorem d10_109 : decode prog_45_method_15_code 109 = .ok (.istore 5, 2) := by decide +kernel
theorem d10_111 : decode prog_45_method_15_code 111 = .ok (.iload 4, 2) := by decide +kernel
theorem d10_113 : decode prog_45_method_15_code 113 = .ok (.iload_n 3, 1) := by decide +kernel
theorem d10_114 : decode prog_45_method_15_code 114 = .ok (.if_icmp .ge 97, 3) := by decide +kernel
theorem d10_117 : decode prog_45_method_15_code 117 = .ok (.aload_n 0, 1) := by decide +kernel
theorem d10_118 : decode prog_45_method_15_code 118 = .ok (.dup, 1) := by decide +kernel
theorem d10_119 : decode prog_45_method_15_code 119 = .ok (.getfield 64, 3) := by decide +kernel
theorem d10_122 : decode prog_45_method_15_code 122 = .ok (.dup_x1, 1) := by decide +kernel
theorem d10_123 : decode prog_45_method_15_code 123 = .ok (.iconst 1, 1) := by decide +kernel
theorem d10_124 : decode prog_45_method_15_code 124 = .ok (.iadd, 1) := by decide +kernel
theorem d10_125 : decode prog_45_method_15_code 125 = .ok (.putfield 64, 3) := by decide +kernel
theorem d10_128 : decode prog_45_method_15_code 128 = .ok (.istore 6, 2) := by decide +kernel
theorem d10_130 : decode prog_45_method_15_code 130 = .ok (.aload_n 0, 1) := by decide +kernel
theorem d10_131 : decode prog_45_method_15_code 131 = .ok (.getfield 13, 3) := by decide +kernel
theorem d10_134 : decode prog_45_method_15_code 134 = .ok (.iload 6, 2) := by decide +kernel
theorem d10_136 : decode prog_45_method_15_code 136 = .ok (.iload_n 1, 1) := by decide +kernel
theorem d10_137 : decode prog_45_method_15_code 137 = .ok (.iastore, 1) := by decide +kernel
theorem d10_138 : decode prog_45_method_15_code 138 = .ok (.aload_n 0, 1) := by decide +kernel
theorem d10_139 : decode prog_45_method_15_code 139 = .ok (.getfield 19, 3) := by decide +kernel
theorem d10_142 : decode prog_45_method_15_code 142 = .ok (.iload 6, 2) := by decide +kernel
theorem d10_144 : decode prog_45_method_15_code 144 = .ok (.aload_n 0, 1) := by decide +kernel
theorem d10_145 : decode prog_45_method_15_code 145 = .ok (.getfield 19, 3) := by decide +kernel
theorem d10_148 : decode prog_45_method_15_code 148 = .ok (.iload_n 1, 1) := by decide +kernel
theorem d10_149 : decode prog_45_method_15_code 149 = .ok (.iaload, 1) := by decide +kernel
theorem d10_150 : decode prog_45_method_15_code 150 = .ok (.iconst 1, 1) := by decide +kernel
theorem d10_151 : decode prog_45_method_15_code 151 = .ok (.iadd, 1) := by decide +kernel
theorem d10_152 : decode prog_45_method_15_code 152 = .ok (.iastore, 1) := by decide +kernel
theorem d10_153 : decode prog_45_method_15_code 153 = .ok (.aload_n 0, 1) := by decide +kernel
theorem d10_154 : decode prog_45_method_15_code 154 = .ok (.getfield 22, 3) := by decide +kernel
theorem d10_157 : decode prog_45_method_15_code 157 = .ok (.iload 6, 2) := by decide +kernel
theorem d10_159 : decode prog_45_method_15_code 159 = .ok (.iconst (-1), 1) := by decide +kernel
theorem d10_160 : decode prog_45_method_15_code 160 = .ok (.iastore, 1) := by decide +kernel
theorem d10_161 : decode prog_45_method_15_code 161 = .ok (.aload_n 0, 1) := by decide +kernel
theorem d10_162 : decode prog_45_method_15_code 162 = .ok (.getfield 25, 3) := by decide +kernel
theorem d10_165 : decode prog_45_method_15_code 165 = .ok (.iload 6, 2) := by decide +kernel
theorem d10_167 : decode prog_45_method_15_code 167 = .ok (.iload 5, 2) := by decide +kernel
theorem d10_169 : decode prog_45_method_15_code 169 = .ok (.iastore, 1) := by decide +kernel
theorem d10_170 : decode prog_45_method_15_code 170 = .ok (.iload 5, 2) := by decide +kernel
theorem d10_172 : decode prog_45_method_15_code 172 = .ok (.aload_n 0, 1) := by decide +kernel
theorem d10_173 : decode prog_45_method_15_code 173 = .ok (.getfield 43, 3) := by decide +kernel
theorem d10_176 : decode prog_45_method_15_code 176 = .ok (.iload 4, 2) := by decide +kernel
theorem d10_178 : decode prog_45_method_15_code 178 = .ok (.iaload, 1) := by decide +kernel
theorem d10_179 : decode prog_45_method_15_code 179 = .ok (.iadd, 1) := by decide +kernel
theorem d10_180 : decode prog_45_method_15_code 180 = .ok (.istore 5, 2) := by decide +kernel
theorem d10_182 : decode prog_45_method_15_code 182 = .ok (.aload_n 0, 1) := by decide +kernel
theorem d10_183 : decode prog_45_method_15_code 183 = .ok (.getfield 28, 3) := by decide +kernel
theorem d10_186 : decode prog_45_method_15_code 186 = .ok (.iload 6, 2) := by decide +kernel
theorem d10_188 : decode prog_45_method_15_code 188 = .ok (.iload 5, 2) := by decide +kernel
theorem d10_190 : decode prog_45_method_15_code 190 = .ok (.iastore, 1) := by decide +kernel
theorem d10_191 : decode prog_45_method_15_code 191 = .ok (.aload_n 0, 1) := by decide +kernel
theorem d10_192 : decode prog_45_method_15_code 192 = .ok (.getfield 43, 3) := by decide +kernel
theorem d10_195 : decode prog_45_method_15_code 195 = .ok (.iload 4, 2) := by decide +kernel
theorem d10_197 : decode prog_45_method_15_code 197 = .ok (.aload_n 0, 1) := by decide +kernel
theorem d10_198 : decode prog_45_method_15_code 198 = .ok (.getfield 25, 3) := by decide +kernel
theorem d10_201 : decode prog_45_method_15_code 201 = .ok (.iload 6, 2) := by decide +kernel
theorem d10_203 : decode prog_45_method_15_code 203 = .ok (.iaload, 1) := by decide +kernel
theorem d10_204 : decode prog_45_method_15_code 204 = .ok (.iastore, 1) := by decide +kernel
theorem d10_205 : decode prog_45_method_15_code 205 = .ok (.iinc 4 1, 3) := by decide +kernel
theorem d10_208 : decode prog_45_method_15_code 208 = .ok (.goto (-97), 3) := by decide +kernel
theorem d10_211 : decode prog_45_method_15_code 211 = .ok (.aload_n 0, 1) := by decide +kernel
theorem d10_212 : decode prog_45_method_15_code 212 = .ok (.getfield 25, 3) := by decide +kernel
theorem d10_215 : decode prog_45_method_15_code 215 = .ok (.iload_n 1, 1) := by decide +kernel
theorem d10_216 : decode prog_45_method_15_code 216 = .ok (.iaload, 1) := by decide +kernel
theorem d10_217 : decode prog_45_method_15_code 217 = .ok (.istore 4, 2) := by decide +kernel
theorem d10_219 : decode prog_45_method_15_code 219 = .ok (.iload 4, 2) := by decide +kernel
theorem d10_221 : decode prog_45_method_15_code 221 = .ok (.aload_n 0, 1) := by decide +kernel
theorem d10_222 : decode prog_45_method_15_code 222 = .ok (.getfield 28, 3) := by decide +kernel
theorem d10_225 : decode prog_45_method_15_code 225 = .ok (.iload_n 1, 1) := by decide +kernel
theorem d10_226 : decode prog_45_method_15_code 226 = .ok (.iaload, 1) := by decide +kernel
theorem d10_227 : decode prog_45_method_15_code 227 = .ok (.if_icmp .ge 47, 3) := by decide +kernel
theorem d10_230 : decode prog_45_method_15_code 230 = .ok (.aload_n 0, 1) := by decide +kernel
theorem d10_231 : decode prog_45_method_15_code 231 = .ok (.getfield 46, 3) := by decide +kernel
theorem d10_234 : decode prog_45_method_15_code 234 = .ok (.aload_n 0, 1) := by decide +kernel
theorem d10_235 : decode prog_45_method_15_code 235 = .ok (.getfield 43, 3) := by decide +kernel
theorem d10_238 : decode prog_45_method_15_code 238 = .ok (.aload_n 0, 1) := by decide +kernel
theorem d10_239 : decode prog_45_method_15_code 239 = .ok (.getfield 40, 3) := by decide +kernel
theorem d10_242 : decode prog_45_method_15_code 242 = .ok (.aload_n 2, 1) := by decide +kernel
theorem d10_243 : decode prog_45_method_15_code 243 = .ok (.aload_n 0, 1) := by decide +kernel
theorem d10_244 : decode prog_45_method_15_code 244 = .ok (.getfield 31, 3) := by decide +kernel
theorem d10_247 : decode prog_45_method_15_code 247 = .ok (.iload 4, 2) := by decide +kernel
theorem d10_249 : decode prog_45_method_15_code 249 = .ok (.iaload, 1) := by decide +kernel
theorem d10_250 : decode prog_45_method_15_code 250 = .ok (.iaload, 1) := by decide +kernel
theorem d10_251 : decode prog_45_method_15_code 251 = .ok (.iconst 1, 1) := by decide +kernel
theorem d10_252 : decode prog_45_method_15_code 252 = .ok (.iadd, 1) := by decide +kernel
theorem d10_253 : decode prog_45_method_15_code 253 = .ok (.iaload, 1) := by decide +kernel
theorem d10_254 : decode prog_45_method_15_code 254 = .ok (.dup2, 1) := by decide +kernel
theorem d10_255 : decode prog_45_method_15_code 255 = .ok (.iaload, 1) := by decide +kernel
theorem d10_256 : decode prog_45_method_15_code 256 = .ok (.dup_x2, 1) := by decide +kernel
theorem d10_257 : decode prog_45_method_15_code 257 = .ok (.iconst 1, 1) := by decide +kernel
theorem d10_258 : decode prog_45_method_15_code 258 = .ok (.iadd, 1) := by decide +kernel
theorem d10_259 : decode prog_45_method_15_code 259 = .ok (.iastore, 1) := by decide +kernel
theorem d10_260 : decode prog_45_method_15_code 260 = .ok (.aload_n 0, 1) := by decide +kernel
theorem d10_261 : decode prog_45_method_15_code 261 = .ok (.getfield 31, 3) := by decide +kernel
theorem d10_264 : decode prog_45_method_15_code 264 = .ok (.iload 4, 2) := by decide +kernel
theorem d10_266 : decode prog_45_method_15_code 266 = .ok (.iaload, 1) := by decide +kernel
theorem d10_267 : decode prog_45_method_15_code 267 = .ok (.iastore, 1) := by decide +kernel
theorem d10_268 : decode prog_45_method_15_code 268 = .ok (.iinc 4 1, 3) := by decide +kernel
theorem d10_271 : decode prog_45_method_15_code 271 = .ok (.goto (-52), 3) := by decide +kernel
theorem d10_274 : decode prog_45_method_15_code 274 = .ok (.aload_n 0, 1) := by decide +kernel
theorem d10_275 : decode prog_45_method_15_code 275 = .ok (.getfield 46, 3) := by decide +kernel
theorem d10_278 : decode prog_45_method_15_code 278 = .ok (.aload_n 0, 1) := by decide +kernel
theorem d10_279 : decode prog_45_method_15_code 279 = .ok (.getfield 25, 3) := by decide +kernel
theorem d10_282 : decode prog_45_method_15_code 282 = .ok (.iload_n 1, 1) := by decide +kernel
theorem d10_283 : decode prog_45_method_15_code 283 = .ok (.iaload, 1) := by decide +kernel
theorem d10_284 : decode prog_45_method_15_code 284 = .ok (.aload_n 0, 1) := by decide +kernel
theorem d10_285 : decode prog_45_method_15_code 285 = .ok (.getfield 31, 3) := by decide +kernel
theorem d10_288 : decode prog_45_method_15_code 288 = .ok (.aload_n 0, 1) := by decide +kernel
theorem d10_289 : decode prog_45_method_15_code 289 = .ok (.getfield 25, 3) := by decide +kernel
theorem d10_292 : decode prog_45_method_15_code 292 = .ok (.iload_n 1, 1) := by decide +kernel
theorem d10_293 : decode prog_45_method_15_code 293 = .ok (.iaload, 1) := by decide +kernel
theorem d10_294 : decode prog_45_method_15_code 294 = .ok (.aload_n 0, 1) := by decide +kernel
theorem d10_295 : decode prog_45_method_15_code 295 = .ok (.getfield 28, 3) := by decide +kernel
theorem d10_298 : decode prog_45_method_15_code 298 = .ok (.iload_n 1, 1) := by decide +kernel
theorem d10_299 : decode prog_45_method_15_code 299 = .ok (.iaload, 1) := by decide +kernel
theorem d10_300 : decode prog_45_method_15_code 300 = .ok (.aload_n 0, 1) := by decide +kernel
theorem d10_301 : decode prog_45_method_15_code 301 = .ok (.getfield 25, 3) := by decide +kernel
theorem d10_304 : decode prog_45_method_15_code 304 = .ok (.iload_n 1, 1) := by decide +kernel
theorem d10_305 : decode prog_45_method_15_code 305 = .ok (.iaload, 1) := by decide +kernel
theorem d10_306 : decode prog_45_method_15_code 306 = .ok (.isub, 1) := by decide +kernel
theorem d10_307 : decode prog_45_method_15_code 307 = .ok (.invokestatic 71, 3) := by decide +kernel
theorem d10_310 : decode prog_45_method_15_code 310 = .ok (.aload_n 0, 1) := by decide +kernel
theorem d10_311 : decode prog_45_method_15_code 311 = .ok (.getfield 22, 3) := by decide +kernel
theorem d10_314 : decode prog_45_method_15_code 314 = .ok (.iload_n 1, 1) := by decide +kernel
theorem d10_315 : decode prog_45_method_15_code 315 = .ok (.iaload, 1) := by decide +kernel
theorem d10_316 : decode prog_45_method_15_code 316 = .ok (.istore 4, 2) := by decide +kernel
theorem d10_318 : decode prog_45_method_15_code 318 = .ok (.iload 4, 2) := by decide +kernel
theorem d10_320 : decode prog_45_method_15_code 320 = .ok (.aload_n 0, 1) := by decide +kernel
theorem d10_321 : decode prog_45_method_15_code 321 = .ok (.getfield 64, 3) := by decide +kernel
theorem d10_324 : decode prog_45_method_15_code 324 = .ok (.if_icmp .ge 64, 3) := by decide +kernel
theorem d10_327 : decode prog_45_method_15_code 327 = .ok (.aload_n 0, 1) := by decide +kernel
theorem d10_328 : decode prog_45_method_15_code 328 = .ok (.getfield 25, 3) := by decide +kernel
theorem d10_331 : decode prog_45_method_15_code 331 = .ok (.iload 4, 2) := by decide +kernel
theorem d10_333 : decode prog_45_method_15_code 333 = .ok (.iaload, 1) := by decide +kernel
theorem d10_334 : decode prog_45_method_15_code 334 = .ok (.istore 5, 2) := by decide +kernel
theorem d10_336 : decode prog_45_method_15_code 336 = .ok (.iload 5, 2) := by decide +kernel
theorem d10_338 : decode prog_45_method_15_code 338 = .ok (.aload_n 0, 1) := by decide +kernel
theorem d10_339 : decode prog_45_method_15_code 339 = .ok (.getfield 28, 3) := by decide +kernel
theorem d10_342 : decode prog_45_method_15_code 342 = .ok (.iload 4, 2) := by decide +kernel
theorem d10_344 : decode prog_45_method_15_code 344 = .ok (.iaload, 1) := by decide +kernel
theorem d10_345 : decode prog_45_method_15_code 345 = .ok (.if_icmp .ge 37, 3) := by decide +kernel
theorem d10_348 : decode prog_45_method_15_code 348 = .ok (.aload_n 0, 1) := by decide +kernel
theorem d10_349 : decode prog_45_method_15_code 349 = .ok (.getfield 37, 3) := by decide +kernel
theorem d10_352 : decode prog_45_method_15_code 352 = .ok (.aload_n 0, 1) := by decide +kernel
theorem d10_353 : decode prog_45_method_15_code 353 = .ok (.getfield 31, 3) := by decide +kernel
theorem d10_356 : decode prog_45_method_15_code 356 = .ok (.iload 5, 2) := by decide +kernel
theorem d10_358 : decode prog_45_method_15_code 358 = .ok (.iaload, 1) := by decide +kernel
theorem d10_359 : decode prog_45_method_15_code 359 = .ok (.iload 4, 2) := by decide +kernel
theorem d10_361 : decode prog_45_method_15_code 361 = .ok (.iastore, 1) := by decide +kernel
theorem d10_362 : decode prog_45_method_15_code 362 = .ok (.aload_n 0, 1) := by decide +kernel
theorem d10_363 : decode prog_45_method_15_code 363 = .ok (.getfield 34, 3) := by decide +kernel
theorem d10_366 : decode prog_45_method_15_code 366 = .ok (.aload_n 0, 1) := by decide +kernel
theorem d10_367 : decode prog_45_method_15_code 367 = .ok (.getfield 31, 3) := by decide +kernel
theorem d10_370 : decode prog_45_method_15_code 370 = .ok (.iload 5, 2) := by decide +kernel
theorem d10_372 : decode prog_45_method_15_code 372 = .ok (.iaload, 1) := by decide +kernel
theorem d10_373 : decode prog_45_method_15_code 373 = .ok (.iload 5, 2) := by decide +kernel
theorem d10_375 : decode prog_45_method_15_code 375 = .ok (.iastore, 1) := by decide +kernel
theorem d10_376 : decode prog_45_method_15_code 376 = .ok (.iinc 5 1, 3) := by decide +kernel
theorem d10_379 : decode prog_45_method_15_code 379 = .ok (.goto (-43), 3) := by decide +kernel
theorem d10_382 : decode prog_45_method_15_code 382 = .ok (.iinc 4 1, 3) := by decide +kernel
theorem d10_385 : decode prog_45_method_15_code 385 = .ok (.goto (-67), 3) := by decide +kernel
theorem d10_388 : decode prog_45_method_15_code 388 = .ok (.aload_n 0, 1) := by decide +kernel
theorem d10_389 : decode prog_45_method_15_code 389 = .ok (.getfield 25, 3) := by decide +kernel
theorem d10_392 : decode prog_45_method_15_code 392 = .ok (.iload_n 1, 1) := by decide +kernel
theorem d10_393 : decode prog_45_method_15_code 393 = .ok (.iaload, 1) := by decide +kernel
theorem d10_394 : decode prog_45_method_15_code 394 = .ok (.istore 4, 2) := by decide +kernel
theorem d10_396 : decode prog_45_method_15_code 396 = .ok (.iload 4, 2) := by decide +kernel
theorem d10_398 : decode prog_45_method_15_code 398 = .ok (.aload_n 0, 1) := by decide +kernel
theorem d10_399 : decode prog_45_method_15_code 399 = .ok (.getfield 28, 3) := by decide +kernel
theorem d10_402 : decode prog_45_method_15_code 402 = .ok (.iload_n 1, 1) := by decide +kernel
theorem d10_403 : decode prog_45_method_15_code 403 = .ok (.iaload, 1) := by decide +kernel
theorem d10_404 : decode prog_45_method_15_code 404 = .ok (.if_icmp .ge 26, 3) := by decide +kernel
theorem d10_407 : decode prog_45_method_15_code 407 = .ok (.aload_n 0, 1) := by decide +kernel
theorem d10_408 : decode prog_45_method_15_code 408 = .ok (.getfield 40, 3) := by decide +kernel
theorem d10_411 : decode prog_45_method_15_code 411 = .ok (.aload_n 2, 1) := by decide +kernel
theorem d10_412 : decode prog_45_method_15_code 412 = .ok (.aload_n 0, 1) := by decide +kernel
theorem d10_413 : decode prog_45_method_15_code 413 = .ok (.getfield 31, 3) := by decide +kernel
theorem d10_416 : decode prog_45_method_15_code 416 = .ok (.iload 4, 2) := by decide +kernel
theorem d10_418 : decode prog_45_method_15_code 418 = .ok (.iaload, 1) := by decide +kernel
theorem d10_419 : decode prog_45_method_15_code 419 = .ok (.iaload, 1) := by decide +kernel
theorem d10_420 : decode prog_45_method_15_code 420 = .ok (.iconst 1, 1) := by decide +kernel
theorem d10_421 : decode prog_45_method_15_code 421 = .ok (.iadd, 1) := by decide +kernel
theorem d10_422 : decode prog_45_method_15_code 422 = .ok (.iconst (-1), 1) := by decide +kernel
theorem d10_423 : decode prog_45_method_15_code 423 = .ok (.iastore, 1) := by decide +kernel
theorem d10_424 : decode prog_45_method_15_code 424 = .ok (.iinc 4 1, 3) := by decide +kernel
theorem d10_427 : decode prog_45_method_15_code 427 = .ok (.goto (-31), 3) := by decide +kernel
theorem d10_430 : decode prog_45_method_15_code 430 = .ok (.iload_n 3, 1) := by decide +kernel
theorem d10_431 : decode prog_45_method_15_code 431 = .ok (.iconst 1, 1) := by decide +kernel
theorem d10_432 : decode prog_45_method_15_code 432 = .ok (.if_icmp .le 7, 3) := by decide +kernel
theorem d10_435 : decode prog_45_method_15_code 435 = .ok (.iconst 1, 1) := by decide +kernel
theorem d10_436 : decode prog_45_method_15_code 436 = .ok (.goto 4, 3) := by decide +kernel
theorem d10_439 : decode prog_45_method_15_code 439 = .ok (.iconst 0, 1) := by decide +kernel
theorem d10_440 : decode prog_45_method_15_code 440 = .ok (.ireturn, 1) := by decide +kernel
theorem d11_0 : decode prog_45_method_11_code 0 = .ok (.aload_n 0, 1) := by decide +kernel
theorem d11_1 : decode prog_45_method_11_code 1 = .ok (.getfield 37, 3) := by decide +kernel
theorem d11_4 : decode prog_45_method_11_code 4 = .ok (.iload_n 1, 1) := by decide +kernel
theorem d11_5 : decode prog_45_method_11_code 5 = .ok (.iaload, 1) := by decide +kernel
theorem d11_6 : decode prog_45_method_11_code 6 = .ok (.ireturn, 1) := by decide +kernel
theorem d12_0 : decode prog_45_method_3_code 0 = .ok (.aload_n 0, 1) := by decide +kernel
theorem d12_1 : decode prog_45_method_3_code 1 = .ok (.getfield 64, 3) := by decide +kernel
theorem d12_4 : decode prog_45_method_3_code 4 = .ok (.ireturn, 1) := by decide +kernel
theorem d13_0 : decode prog_45_method_7_code 0 = .ok (.aload_n 0, 1) := by decide +kernel
theorem d13_1 : decode prog_45_method_7_code 1 = .ok (.getfield 25, 3) := by decide +kernel
theorem d13_4 : decode prog_45_method_7_code 4 = .ok (.iload_n 1, 1) := by decide +kernel
theorem d13_5 : decode prog_45_method_7_code 5 = .ok (.iaload, 1) := by decide +kernel
theorem d13_6 : decode prog_45_method_7_code 6 = .ok (.ireturn, 1) := by decide +kernel
theorem d14_0 : decode jdk_29_method_69_code 0 = .ok (.iload_n 0, 1) := by decide +kernel
theorem d14_1 : decode jdk_29_method_69_code 1 = .ok (.iload_n 1, 1) := by decide +kernel
theorem d14_2 : decode jdk_29_method_69_code 2 = .ok (.if_icmp .gt 7, 3) := by decide +kernel
theorem d14_5 : decode jdk_29_method_69_code 5 = .ok (.iload_n 0, 1) := by decide +kernel
theorem d14_6 : decode jdk_29_method_69_code 6 = .ok (.goto 4, 3) := by decide +kernel
theorem d14_9 : decode jdk_29_method_69_code 9 = .ok (.iload_n 1, 1) := by decide +kernel
theorem d14_10 : decode jdk_29_method_69_code 10 = .ok (.ireturn, 1) := by decide +kernel
theorem d15_0 : decode prog_45_method_8_code 0 = .ok (.aload_n 0, 1) := by decide +kernel
theorem d15_1 : decode prog_45_method_8_code 1 = .ok (.getfield 28, 3) := by decide +kernel
theorem d15_4 : decode prog_45_method_8_code 4 = .ok (.iload_n 1, 1) := by decide +kernel
theorem d15_5 : decode prog_45_method_8_code 5 = .ok (.iaload, 1) := by decide +kernel
theorem d15_6 : decode prog_45_method_8_code 6 = .ok (.ireturn, 1) := by decide +kernel
theorem d16_0 : decode prog_45_method_9_code 0 = .ok (.aload_n 0, 1) := by decide +kernel
theorem d16_1 : decode prog_45_method_9_code 1 = .ok (.getfield 31, 3) := by decide +kernel
theorem d16_4 : decode prog_45_method_9_code 4 = .ok (.iload_n 1, 1) := by decide +kernel
theorem d16_5 : decode prog_45_method_9_code 5 = .ok (.iaload, 1) := by decide +kernel
theorem d16_6 : decode prog_45_method_9_code 6 = .ok (.ireturn, 1) := by decide +kernel
theorem d17_0 : decode prog_45_method_13_code 0 = .ok (.aload_n 0, 1) := by decide +kernel
theorem d17_1 : decode prog_45_method_13_code 1 = .ok (.getfield 34, 3) := by decide +kernel
theorem d17_4 : decode prog_45_method_13_code 4 = .ok (.aload_n 1, 1) := by decide +kernel
theorem d17_5 : decode prog_45_method_13_code 5 = .ok (.iconst 0, 1) := by decide +kernel
theorem d17_6 : decode prog_45_method_13_code 6 = .ok (.iaload, 1) := by decide +kernel
theorem d17_7 : decode prog_45_method_13_code 7 = .ok (.iaload, 1) := by decide +kernel
theorem d17_8 : decode prog_45_method_13_code 8 = .ok (.istore_n 3, 1) := by decide +kernel
theorem d17_9 : decode prog_45_method_13_code 9 = .ok (.iload_n 3, 1) := by decide +kernel
theorem d17_10 : decode prog_45_method_13_code 10 = .ok (.istore 4, 2) := by decide +kernel
theorem d17_12 : decode prog_45_method_13_code 12 = .ok (.iconst 1, 1) := by decide +kernel
theorem d17_13 : decode prog_45_method_13_code 13 = .ok (.istore 5, 2) := by decide +kernel
theorem d17_15 : decode prog_45_method_13_code 15 = .ok (.iload 5, 2) := by decide +kernel
theorem d17_17 : decode prog_45_method_13_code 17 = .ok (.iload_n 2, 1) := by decide +kernel
theorem d17_18 : decode prog_45_method_13_code 18 = .ok (.if_icmp .ge 39, 3) := by decide +kernel
theorem d17_21 : decode prog_45_method_13_code 21 = .ok (.iload_n 3, 1) := by decide +kernel
theorem d17_22 : decode prog_45_method_13_code 22 = .ok (.aload_n 0, 1) := by decide +kernel
theorem d17_23 : decode prog_45_method_13_code 23 = .ok (.getfield 34, 3) := by decide +kernel
theorem d17_26 : decode prog_45_method_13_code 26 = .ok (.aload_n 1, 1) := by decide +kernel
theorem d17_27 : decode prog_45_method_13_code 27 = .ok (.iload 5, 2) := by decide +kernel
theorem d17_29 : decode prog_45_method_13_code 29 = .ok (.iaload, 1) := by decide +kernel
theorem d17_30 : decode prog_45_method_13_code 30 = .ok (.iaload, 1) := by decide +kernel
theorem d17_31 : decode prog_45_method_13_code 31 = .ok (.invokestatic 68, 3) := by decide +kernel
theorem d17_34 : decode prog_45_method_13_code 34 = .ok (.istore_n 3, 1) := by decide +kernel
theorem d17_35 : decode prog_45_method_13_code 35 = .ok (.iload 4, 2) := by decide +kernel
theorem d17_37 : decode prog_45_method_13_code 37 = .ok (.aload_n 0, 1) := by decide +kernel
theorem d17_38 : decode prog_45_method_13_code 38 = .ok (.getfield 34, 3) := by decide +kernel
theorem d17_41 : decode prog_45_method_13_code 41 = .ok (.aload_n 1, 1) := by decide +kernel
theorem d17_42 : decode prog_45_method_13_code 42 = .ok (.iload 5, 2) := by decide +kernel
theorem d17_44 : decode prog_45_method_13_code 44 = .ok (.iaload, 1) := by decide +kernel
theorem d17_45 : decode prog_45_method_13_code 45 = .ok (.iaload, 1) := by decide +kernel
theorem d17_46 : decode prog_45_method_13_code 46 = .ok (.invokestatic 7, 3) := by decide +kernel
theorem d17_49 : decode prog_45_method_13_code 49 = .ok (.istore 4, 2) := by decide +kernel
theorem d17_51 : decode prog_45_method_13_code 51 = .ok (.iinc 5 1, 3) := by decide +kernel
theorem d17_54 : decode prog_45_method_13_code 54 = .ok (.goto (-39), 3) := by decide +kernel
theorem d17_57 : decode prog_45_method_13_code 57 = .ok (.aload_n 0, 1) := by decide +kernel
theorem d17_58 : decode prog_45_method_13_code 58 = .ok (.getfield 37, 3) := by decide +kernel
theorem d17_61 : decode prog_45_method_13_code 61 = .ok (.aload_n 0, 1) := by decide +kernel
theorem d17_62 : decode prog_45_method_13_code 62 = .ok (.getfield 31, 3) := by decide +kernel
theorem d17_65 : decode prog_45_method_13_code 65 = .ok (.iload_n 3, 1) := by decide +kernel
theorem d17_66 : decode prog_45_method_13_code 66 = .ok (.iaload, 1) := by decide +kernel
theorem d17_67 : decode prog_45_method_13_code 67 = .ok (.iaload, 1) := by decide +kernel
theorem d17_68 : decode prog_45_method_13_code 68 = .ok (.istore 5, 2) := by decide +kernel
theorem d17_70 : decode prog_45_method_13_code 70 = .ok (.aload_n 0, 1) := by decide +kernel
theorem d17_71 : decode prog_45_method_13_code 71 = .ok (.getfield 28, 3) := by decide +kernel
theorem d17_74 : decode prog_45_method_13_code 74 = .ok (.iload 5, 2) := by decide +kernel
theorem d17_76 : decode prog_45_method_13_code 76 = .ok (.iaload, 1) := by decide +kernel
theorem d17_77 : decode prog_45_method_13_code 77 = .ok (.iload 4, 2) := by decide +kernel
theorem d17_79 : decode prog_45_method_13_code 79 = .ok (.if_icmp .gt 15, 3) := by decide +kernel
theorem d17_82 : decode prog_45_method_13_code 82 = .ok (.aload_n 0, 1) := by decide +kernel
theorem d17_83 : decode prog_45_method_13_code 83 = .ok (.getfield 13, 3) := by decide +kernel
theorem d17_86 : decode prog_45_method_13_code 86 = .ok (.iload 5, 2) := by decide +kernel
theorem d17_88 : decode prog_45_method_13_code 88 = .ok (.iaload, 1) := by decide +kernel
theorem d17_89 : decode prog_45_method_13_code 89 = .ok (.istore 5, 2) := by decide +kernel
theorem d17_91 : decode prog_45_method_13_code 91 = .ok (.goto (-21), 3) := by decide +kernel
theorem d17_94 : decode prog_45_method_13_code 94 = .ok (.iload 5, 2) := by decide +kernel
theorem d17_96 : decode prog_45_method_13_code 96 = .ok (.ireturn, 1) := by decide +kernel
theorem d18_0 : decode prog_45_method_12_code 0 = .ok (.iload_n 1, 1) := by decide +kernel
theorem d18_1 : decode prog_45_method_12_code 1 = .ok (.istore_n 3, 1) := by decide +kernel
theorem d18_2 : decode prog_45_method_12_code 2 = .ok (.iload_n 2, 1) := by decide +kernel
theorem d18_3 : decode prog_45_method_12_code 3 = .ok (.istore 4, 2) := by decide +kernel
theorem d18_5 : decode prog_45_method_12_code 5 = .ok (.aload_n 0, 1) := by decide +kernel
theorem d18_6 : decode prog_45_method_12_code 6 = .ok (.getfield 19, 3) := by decide +kernel
theorem d18_9 : decode prog_45_method_12_code 9 = .ok (.iload_n 3, 1) := by decide +kernel
theorem d18_10 : decode prog_45_method_12_code 10 = .ok (.iaload, 1) := by decide +kernel
theorem d18_11 : decode prog_45_method_12_code 11 = .ok (.aload_n 0, 1) := by decide +kernel
theorem d18_12 : decode prog_45_method_12_code 12 = .ok (.getfield 19, 3) := by decide +kernel
theorem d18_15 : decode prog_45_method_12_code 15 = .ok (.iload 4, 2) := by decide +kernel
theorem d18_17 : decode prog_45_method_12_code 17 = .ok (.iaload, 1) := by decide +kernel
theorem d18_18 : decode prog_45_method_12_code 18 = .ok (.if_icmp .le 13, 3) := by decide +kernel
theorem d18_21 : decode prog_45_method_12_code 21 = .ok (.aload_n 0, 1) := by decide +kernel
theorem d18_22 : decode prog_45_method_12_code 22 = .ok (.getfield 13, 3) := by decide +kernel
theorem d18_25 : decode prog_45_method_12_code 25 = .ok (.iload_n 3, 1) := by decide +kernel
theorem d18_26 : decode prog_45_method_12_code 26 = .ok (.iaload, 1) := by decide +kernel
theorem d18_27 : decode prog_45_method_12_code 27 = .ok (.istore_n 3, 1) := by decide +kernel
theorem d18_28 : decode prog_45_method_12_code 28 = .ok (.goto (-23), 3) := by decide +kernel
theorem d18_31 : decode prog_45_method_12_code 31 = .ok (.aload_n 0, 1) := by decide +kernel
theorem d18_32 : decode prog_45_method_12_code 32 = .ok (.getfield 19, 3) := by decide +kernel
theorem d18_35 : decode prog_45_method_12_code 35 = .ok (.iload 4, 2) := by decide +kernel
theorem d18_37 : decode prog_45_method_12_code 37 = .ok (.iaload, 1) := by decide +kernel
theorem d18_38 : decode prog_45_method_12_code 38 = .ok (.aload_n 0, 1) := by decide +kernel
theorem d18_39 : decode prog_45_method_12_code 39 = .ok (.getfield 19, 3) := by decide +kernel
theorem d18_42 : decode prog_45_method_12_code 42 = .ok (.iload_n 3, 1) := by decide +kernel
theorem d18_43 : decode prog_45_method_12_code 43 = .ok (.iaload, 1) := by decide +kernel
theorem d18_44 : decode prog_45_method_12_code 44 = .ok (.if_icmp .le 15, 3) := by decide +kernel
theorem d18_47 : decode prog_45_method_12_code 47 = .ok (.aload_n 0, 1) := by decide +kernel
theorem d18_48 : decode prog_45_method_12_code 48 = .ok (.getfield 13, 3) := by decide +kernel
theorem d18_51 : decode prog_45_method_12_code 51 = .ok (.iload 4, 2) := by decide +kernel
theorem d18_53 : decode prog_45_method_12_code 53 = .ok (.iaload, 1) := by decide +kernel
theorem d18_54 : decode prog_45_method_12_code 54 = .ok (.istore 4, 2) := by decide +kernel
theorem d18_56 : decode prog_45_method_12_code 56 = .ok (.goto (-25), 3) := by decide +kernel
theorem d18_59 : decode prog_45_method_12_code 59 = .ok (.iload_n 3, 1) := by decide +kernel
theorem d18_60 : decode prog_45_method_12_code 60 = .ok (.iload 4, 2) := by decide +kernel
theorem d18_62 : decode prog_45_method_12_code 62 = .ok (.if_icmp .eq 22, 3) := by decide +kernel
theorem d18_65 : decode prog_45_method_12_code 65 = .ok (.aload_n 0, 1) := by decide +kernel
theorem d18_66 : decode prog_45_method_12_code 66 = .ok (.getfield 13, 3) := by decide +kernel
theorem d18_69 : decode prog_45_method_12_code 69 = .ok (.iload_n 3, 1) := by decide +kernel
theorem d18_70 : decode prog_45_method_12_code 70 = .ok (.iaload, 1) := by decide +kernel
theorem d18_71 : decode prog_45_method_12_code 71 = .ok (.istore_n 3, 1) := by decide +kernel
theorem d18_72 : decode prog_45_method_12_code 72 = .ok (.aload_n 0, 1) := by decide +kernel
theorem d18_73 : decode prog_45_method_12_code 73 = .ok (.getfield 13, 3) := by decide +kernel
theorem d18_76 : decode prog_45_method_12_code 76 = .ok (.iload 4, 2) := by decide +kernel
theorem d18_78 : decode prog_45_method_12_code 78 = .ok (.iaload, 1) := by decide +kernel
theorem d18_79 : decode prog_45_method_12_code 79 = .ok (.istore 4, 2) := by decide +kernel
theorem d18_81 : decode prog_45_method_12_code 81 = .ok (.goto (-22), 3) := by decide +kernel
theorem d18_84 : decode prog_45_method_12_code 84 = .ok (.iload_n 3, 1) := by decide +kernel
theorem d18_85 : decode prog_45_method_12_code 85 = .ok (.ireturn, 1) := by decide +kernel
theorem pl_0 : plainFor (⟨"org/distinguo/identify/BlockTreeCommonAncestorPinLaw", "law", "(IIIII)Z"⟩ : MethodName) = true := plainFor_of_name (by first | (simp [plainName, overriddenIn]; done) | decide +kernel)
theorem pd_0 : parseMethodDescriptor "(IIIII)Z" = some ⟨[.int, .int, .int, .int, .int], some .boolean⟩ := by decide +kernel
theorem pl_1 : plainFor (⟨"org/distinguo/identify/BlockTree", "<init>", "(II)V"⟩ : MethodName) = true := plainFor_of_name (by first | (simp [plainName, overriddenIn]; done) | decide +kernel)
theorem pd_1 : parseMethodDescriptor "(II)V" = some ⟨[.int, .int], none⟩ := by decide +kernel
theorem pl_3 : plainFor (⟨"java/lang/Math", "max", "(II)I"⟩ : MethodName) = true := Jvm.Free.JP.mathPlain rfl (by decide +kernel)
theorem pd_3 : parseMethodDescriptor "(II)I" = some ⟨[.int, .int], some .int⟩ := by decide +kernel
theorem pl_4 : plainFor (⟨"java/util/Arrays", "setAll", "([ILjava/util/function/IntUnaryOperator;)V"⟩ : MethodName) = true := plainFor_of_name (by first | (simp [plainName, overriddenIn]; done) | decide +kernel)
theorem pd_4 : parseMethodDescriptor "([ILjava/util/function/IntUnaryOperator;)V" = some ⟨[(.array .int), (.object "java/util/function/IntUnaryOperator")], none⟩ := by decide +kernel
theorem pl_5 : plainFor (⟨"java/util/Objects", "requireNonNull", "(Ljava/lang/Object;)Ljava/lang/Object;"⟩ : MethodName) = true := plainFor_of_name (by first | (simp [plainName, overriddenIn]; done) | decide +kernel)
theorem pd_5 : parseMethodDescriptor "(Ljava/lang/Object;)Ljava/lang/Object;" = some ⟨[(.object "java/lang/Object")], some (.object "java/lang/Object")⟩ := by decide +kernel
theorem pl_6 : plainFor (⟨"org/distinguo/identify/BlockTree", "lambda$new$0", "(I)I"⟩ : MethodName) = true := plainFor_of_name (by first | (simp [plainName, overriddenIn]; done) | decide +kernel)
theorem pd_6 : parseMethodDescriptor "(I)I" = some ⟨[.int], some .int⟩ := by decide +kernel
theorem pl_7 : plainFor (⟨"org/distinguo/identify/BlockTree", "lambda$new$1", "(I)I"⟩ : MethodName) = true := plainFor_of_name (by first | (simp [plainName, overriddenIn]; done) | decide +kernel)
theorem pd_7 : parseMethodDescriptor "(I)I" = some ⟨[.int], some .int⟩ := by decide +kernel
theorem pl_8 : plainFor (⟨"java/util/Arrays", "fill", "([II)V"⟩ : MethodName) = true := plainFor_of_name (by first | (simp [plainName, overriddenIn]; done) | decide +kernel)
theorem pd_8 : parseMethodDescriptor "([II)V" = some ⟨[(.array .int), .int], none⟩ := by decide +kernel
theorem pl_9 : plainFor (⟨"org/distinguo/identify/BlockTreeCommonAncestorPinLaw", "key", "(II)I"⟩ : MethodName) = true := plainFor_of_name (by first | (simp [plainName, overriddenIn]; done) | decide +kernel)
theorem pd_9 : parseMethodDescriptor "(II)I" = some ⟨[.int, .int], some .int⟩ := by decide +kernel
theorem pl_10 : plainFor (⟨"org/distinguo/identify/BlockTree", "split", "(I[I)Z"⟩ : MethodName) = true := plainFor_of_name (by first | (simp [plainName, overriddenIn]; done) | decide +kernel)
theorem pd_10 : parseMethodDescriptor "(I[I)Z" = some ⟨[.int, (.array .int)], some .boolean⟩ := by decide +kernel
theorem pl_11 : plainFor (⟨"org/distinguo/identify/BlockTree", "leafOf", "(I)I"⟩ : MethodName) = true := plainFor_of_name (by first | (simp [plainName, overriddenIn]; done) | decide +kernel)
theorem pd_11 : parseMethodDescriptor "(I)I" = some ⟨[.int], some .int⟩ := by decide +kernel
theorem pl_12 : plainFor (⟨"org/distinguo/identify/BlockTree", "nodeCount", "()I"⟩ : MethodName) = true := plainFor_of_name (by first | (simp [plainName, overriddenIn]; done) | decide +kernel)
theorem pd_12 : parseMethodDescriptor "()I" = some ⟨[], some .int⟩ := by decide +kernel
theorem pl_13 : plainFor (⟨"org/distinguo/identify/BlockTree", "first", "(I)I"⟩ : MethodName) = true := plainFor_of_name (by first | (simp [plainName, overriddenIn]; done) | decide +kernel)
theorem pd_13 : parseMethodDescriptor "(I)I" = some ⟨[.int], some .int⟩ := by decide +kernel
theorem pl_14 : plainFor (⟨"java/lang/Math", "min", "(II)I"⟩ : MethodName) = true := Jvm.Free.JP.mathPlain rfl (by decide +kernel)
theorem pd_14 : parseMethodDescriptor "(II)I" = some ⟨[.int, .int], some .int⟩ := by decide +kernel
theorem pl_15 : plainFor (⟨"org/distinguo/identify/BlockTree", "end", "(I)I"⟩ : MethodName) = true := plainFor_of_name (by first | (simp [plainName, overriddenIn]; done) | decide +kernel)
theorem pd_15 : parseMethodDescriptor "(I)I" = some ⟨[.int], some .int⟩ := by decide +kernel
theorem pl_16 : plainFor (⟨"org/distinguo/identify/BlockTree", "stateAt", "(I)I"⟩ : MethodName) = true := plainFor_of_name (by first | (simp [plainName, overriddenIn]; done) | decide +kernel)
theorem pd_16 : parseMethodDescriptor "(I)I" = some ⟨[.int], some .int⟩ := by decide +kernel
theorem pl_17 : plainFor (⟨"org/distinguo/identify/BlockTree", "deepestHolding", "([II)I"⟩ : MethodName) = true := plainFor_of_name (by first | (simp [plainName, overriddenIn]; done) | decide +kernel)
theorem pd_17 : parseMethodDescriptor "([II)I" = some ⟨[(.array .int), .int], some .int⟩ := by decide +kernel
theorem pl_18 : plainFor (⟨"org/distinguo/identify/BlockTree", "commonAncestor", "(II)I"⟩ : MethodName) = true := plainFor_of_name (by first | (simp [plainName, overriddenIn]; done) | decide +kernel)
theorem pd_18 : parseMethodDescriptor "(II)I" = some ⟨[.int, .int], some .int⟩ := by decide +kernel
def fs_0 : List Fi := [("org/distinguo/identify/BlockTree", "parent", "[I", (.array .int)), ("org/distinguo/identify/BlockTree", "depth", "[I", (.array .int)), ("org/distinguo/identify/BlockTree", "firstChild", "[I", (.array .int)), ("org/distinguo/identify/BlockTree", "first", "[I", (.array .int)), ("org/distinguo/identify/BlockTree", "end", "[I", (.array .int)), ("org/distinguo/identify/BlockTree", "order", "[I", (.array .int)), ("org/distinguo/identify/BlockTree", "position", "[I", (.array .int)), ("org/distinguo/identify/BlockTree", "leaf", "[I", (.array .int)), ("org/distinguo/identify/BlockTree", "groupOfKey", "[I", (.array .int)), ("org/distinguo/identify/BlockTree", "groupEnd", "[I", (.array .int)), ("org/distinguo/identify/BlockTree", "placed", "[I", (.array .int)), ("org/distinguo/identify/BlockTree", "nodeCount", "I", .int)]
def ds_0 : List SV := [(2, .null), (2, .null), (2, .null), (2, .null), (2, .null), (2, .null), (2, .null), (2, .null), (2, .null), (2, .null), (2, .null), (0, .int 0)]
def shp : List Sh := [(none, "org/distinguo/identify/BlockTree", 12, fs_0), (some .int, "", 0, [])]
def cd_0 : List El := [(0, kS (sNew 0 12 ds_0 3)),
  (3, kS (sDup 4)),
  (4, kS (sPush (0, .int 5) 5)),
  (5, kS (sPush (0, .int 3) 6)),
  (6, kC 1 3 9 (ckObj 0)),
  (9, kS (sStore 2 5 11)),
  (11, kS (sPush (0, .int 5) 12)),
  (12, kS (sNewA 1 .int 14)),
  (14, kS (sDup 15)),
  (15, kS (sPush (0, .int 0) 16)),
  (16, kS (sLoad 0 0 17)),
  (17, kS (sPush (0, .int 0) 18)),
  (18, kC 9 2 21 (ckAny)),
  (21, kS (sStM 1 22)),
  (22, kS (sDup 23)),
  (23, kS (sPush (0, .int 1) 24)),
  (24, kS (sLoad 0 0 25)),
  (25, kS (sPush (0, .int 1) 26)),
  (26, kC 9 2 29 (ckAny)),
  (29, kS (sStM 1 30)),
  (30, kS (sDup 31)),
  (31, kS (sPush (0, .int 2) 32)),
  (32, kS (sLoad 0 0 33)),
  (33, kS (sPush (0, .int 2) 34)),
  (34, kC 9 2 37 (ckAny)),
  (37, kS (sStM 1 38)),
  (38, kS (sDup 39)),
  (39, kS (sPush (0, .int 3) 40)),
  (40, kS (sLoad 0 0 41)),
  (41, kS (sPush (0, .int 3) 42)),
  (42, kC 9 2 45 (ckAny)),
  (45, kS (sStM 1 46)),
  (46, kS (sDup 47)),
  (47, kS (sPush (0, .int 4) 48)),
  (48, kS (sLoad 0 0 49)),
  (49, kS (sPush (0, .int 4) 50)),
  (50, kC 9 2 53 (ckAny)),
  (53, kS (sStM 1 54)),
  (54, kS (sStore 2 6 56)),
  (56, kS (sPush (0, .int 5) 57)),
  (57, kS (sNewA 1 .int 59)),
  (59, kS (sDup 60)),
  (60, kS (sPush (0, .int 0) 61)),
  (61, kS (sLoad 0 1 62)),
  (62, kS (sPush (0, .int 0) 63)),
  (63, kC 9 2 66 (ckAny)),
  (66, kS (sStM 1 67)),
  (67, kS (sDup 68)),
  (68, kS (sPush (0, .int 1) 69)),
  (69, kS (sLoad 0 1 70)),
  (70, kS (sPush (0, .int 1) 71)),
  (71, kC 9 2 74 (ckAny)),
  (74, kS (sStM 1 75)),
  (75, kS (sDup 76)),
  (76, kS (sPush (0, .int 2) 77)),
  (77, kS (sLoad 0 1 78)),
  (78, kS (sPush (0, .int 2) 79)),
  (79, kC 9 2 82 (ckAny)),
  (82, kS (sStM 1 83)),
  (83, kS (sDup 84)),
  (84, kS (sPush (0, .int 3) 85)),
  (85, kS (sLoad 0 1 86)),
  (86, kS (sPush (0, .int 3) 87)),
  (87, kC 9 2 90 (ckAny)),
  (90, kS (sStM 1 91)),
  (91, kS (sDup 92)),
  (92, kS (sPush (0, .int 4) 93)),
  (93, kS (sLoad 0 1 94)),
  (94, kS (sPush (0, .int 4) 95)),
  (95, kC 9 2 98 (ckAny)),
  (98, kS (sStM 1 99)),
  (99, kS (sStore 2 7 101)),
  (101, kS (sPush (0, .int 2) 102)),
  (102, kS (sNewA 1 .int 104)),
  (104, kS (sStore 2 8 106)),
  (106, kS (sLoad 2 5 108)),
  (108, kS (sPush (0, .int 0) 109)),
  (109, kS (sLoad 2 6 111)),
  (111, kC 10 3 114 (ckObj 0)),
  (114, kS (sPop 115)),
  (115, kS (sLoad 2 5 117)),
  (117, kS (sLoad 0 2 118)),
  (118, kS (sPush (0, .int 2147483647) 120)),
  (120, kS (sBin 0 0 0 (jI (Term.op2 .iand)) 121)),
  (121, kS (sPush (0, .int 5) 122)),
  (122, kS (s_irem 123)),
  (123, kC 11 2 126 (ckObj 0)),
  (126, kS (sStore 0 9 128)),
  (128, kS (sLoad 2 5 130)),
  (130, kS (sLoad 0 9 132)),
  (132, kS (sLoad 2 7 134)),
  (134, kC 10 3 137 (ckObj 0)),
  (137, kS (sPop 138)),
  (138, kS (sLoad 2 5 140)),
  (140, kC 12 1 143 (ckObj 0)),
  (143, kS (sStore 0 10 145)),
  (145, kS (sLoad 0 3 146)),
  (146, kS (sPush (0, .int 2147483647) 148)),
  (148, kS (sBin 0 0 0 (jI (Term.op2 .iand)) 149)),
  (149, kS (sLoad 0 10 151)),
  (151, kS (s_irem 152)),
  (152, kS (sSplit 152 (sStore 0 11 154))),
  (154, kS (sLoad 0 4 156)),
  (156, kS (sPush (0, .int 2147483647) 158)),
  (158, kS (sBin 0 0 0 (jI (Term.op2 .iand)) 159)),
  (159, kS (sLoad 0 10 161)),
  (161, kS (s_irem 162)),
  (162, kS (sSplit 162 (sStore 0 12 164))),
  (164, kS (sLoad 2 5 166)),
  (166, kS (sLoad 0 11 168)),
  (168, kC 13 2 171 (ckObj 0)),
  (171, kS (sLoad 2 5 173)),
  (173, kS (sLoad 0 12 175)),
  (175, kC 13 2 178 (ckObj 0)),
  (178, kC 14 2 181 (ckAny)),
  (181, kS (sStore 0 13 183)),
  (183, kS (sLoad 2 5 185)),
  (185, kS (sLoad 0 11 187)),
  (187, kC 15 2 190 (ckObj 0)),
  (190, kS (sLoad 2 5 192)),
  (192, kS (sLoad 0 12 194)),
  (194, kC 15 2 197 (ckObj 0)),
  (197, kC 3 2 200 (ckAny)),
  (200, kS (sPush (0, .int 1) 201)),
  (201, kS (sBin 0 0 0 (jI Term.sub) 202)),
  (202, kS (sStore 0 14 204)),
  (204, kS (sLoad 2 8 206)),
  (206, kS (sPush (0, .int 0) 207)),
  (207, kS (sLoad 2 5 209)),
  (209, kS (sLoad 0 13 211)),
  (211, kC 16 2 214 (ckObj 0)),
  (214, kS (sStM 1 215)),
  (215, kS (sLoad 2 8 217)),
  (217, kS (sPush (0, .int 1) 218)),
  (218, kS (sLoad 2 5 220)),
  (220, kS (sLoad 0 14 222)),
  (222, kC 16 2 225 (ckObj 0)),
  (225, kS (sStM 1 226)),
  (226, kS (sLoad 2 5 228)),
  (228, kS (sLoad 2 8 230)),
  (230, kS (sPush (0, .int 2) 231)),
  (231, kC 17 3 234 (ckObj 0)),
  (234, kS (sStore 0 15 236)),
  (236, kS (sLoad 2 5 238)),
  (238, kS (sLoad 0 11 240)),
  (240, kS (sLoad 0 12 242)),
  (242, kC 18 3 245 (ckObj 0)),
  (245, kS (sLoad 0 15 247)),
  (247, kS (sIcmp .ne 254 250)),
  (250, kS (sPush (0, .int 1) 251)),
  (251, kS (sGoto 255)),
  (254, kS (sPush (0, .int 0) 255)),
  (255, kR (rVal .boolean))]
def cd_1 : List El := [(0, kS (sLoad 2 0 1)),
  (1, kN (sInitO 4 4)),
  (4, kS (sPush (0, .int 1) 5)),
  (5, kS (sPush (0, .int 2) 6)),
  (6, kS (sLoad 0 1 7)),
  (7, kS (sBin 0 0 0 (jI Term.mul) 8)),
  (8, kS (sPush (0, .int 1) 9)),
  (9, kS (sBin 0 0 0 (jI Term.sub) 10)),
  (10, kC 3 2 13 (ckAny)),
  (13, kS (sStore 0 3 14)),
  (14, kS (sLoad 2 0 15)),
  (15, kS (sLoad 0 3 16)),
  (16, kS (sNewA 1 .int 18)),
  (18, kS (sPutF 0 0 (.array .int) 21)),
  (21, kS (sLoad 2 0 22)),
  (22, kS (sLoad 0 3 23)),
  (23, kS (sNewA 1 .int 25)),
  (25, kS (sPutF 0 1 (.array .int) 28)),
  (28, kS (sLoad 2 0 29)),
  (29, kS (sLoad 0 3 30)),
  (30, kS (sNewA 1 .int 32)),
  (32, kS (sPutF 0 2 (.array .int) 35)),
  (35, kS (sLoad 2 0 36)),
  (36, kS (sLoad 0 3 37)),
  (37, kS (sNewA 1 .int 39)),
  (39, kS (sPutF 0 3 (.array .int) 42)),
  (42, kS (sLoad 2 0 43)),
  (43, kS (sLoad 0 3 44)),
  (44, kS (sNewA 1 .int 46)),
  (46, kS (sPutF 0 4 (.array .int) 49)),
  (49, kS (sLoad 2 0 50)),
  (50, kS (sLoad 0 1 51)),
  (51, kS (sNewA 1 .int 53)),
  (53, kS (sPutF 0 5 (.array .int) 56)),
  (56, kS (sLoad 2 0 57)),
  (57, kS (sLoad 0 1 58)),
  (58, kS (sNewA 1 .int 60)),
  (60, kS (sPutF 0 6 (.array .int) 63)),
  (63, kS (sLoad 2 0 64)),
  (64, kS (sLoad 0 1 65)),
  (65, kS (sNewA 1 .int 67)),
  (67, kS (sPutF 0 7 (.array .int) 70)),
  (70, kS (sLoad 2 0 71)),
  (71, kS (sLoad 0 2 72)),
  (72, kS (sLoad 0 3 73)),
  (73, kC 3 2 76 (ckAny)),
  (76, kS (sPush (0, .int 1) 77)),
  (77, kS (sBin 0 0 0 (jI Term.add) 78)),
  (78, kS (sNewA 1 .int 80)),
  (80, kS (sPutF 0 8 (.array .int) 83)),
  (83, kS (sLoad 2 0 84)),
  (84, kS (sLoad 0 1 85)),
  (85, kS (sNewA 1 .int 87)),
  (87, kS (sPutF 0 9 (.array .int) 90)),
  (90, kS (sLoad 2 0 91)),
  (91, kS (sLoad 0 1 92)),
  (92, kS (sNewA 1 .int 94)),
  (94, kS (sPutF 0 10 (.array .int) 97)),
  (97, kS (sLoad 2 0 98)),
  (98, kS (sGetF 0 5 101)),
  (101, kN (sLamC 4 0 106)),
  (106, kC 4 2 109 (ckAny)),
  (109, kS (sLoad 2 0 110)),
  (110, kS (sGetF 0 6 113)),
  (113, kN (sLamC 4 1 118)),
  (118, kC 4 2 121 (ckAny)),
  (121, kS (sLoad 2 0 122)),
  (122, kS (sGetF 0 8 125)),
  (125, kS (sPush (0, .int (-1)) 126)),
  (126, kC 8 2 129 (ckAny)),
  (129, kS (sLoad 2 0 130)),
  (130, kS (sGetF 0 0 133)),
  (133, kS (sPush (0, .int 0) 134)),
  (134, kS (sPush (0, .int (-1)) 135)),
  (135, kS (sStM 1 136)),
  (136, kS (sLoad 2 0 137)),
  (137, kS (sGetF 0 2 140)),
  (140, kS (sPush (0, .int 0) 141)),
  (141, kS (sPush (0, .int (-1)) 142)),
  (142, kS (sStM 1 143)),
  (143, kS (sLoad 2 0 144)),
  (144, kS (sGetF 0 4 147)),
  (147, kS (sPush (0, .int 0) 148)),
  (148, kS (sLoad 0 1 149)),
  (149, kS (sStM 1 150)),
  (150, kS (sLoad 2 0 151)),
  (151, kS (sPush (0, .int 1) 152)),
  (152, kS (sPutF 0 11 .int 155)),
  (155, kR (rVoid))]
def cd_3 : List El := [(0, kS (sLoad 0 0 1)),
  (1, kS (sLoad 0 1 2)),
  (2, kS (sIcmp .lt 9 5)),
  (5, kS (sLoad 0 0 6)),
  (6, kS (sGoto 10)),
  (9, kS (sLoad 0 1 10)),
  (10, kR (rVal .int))]
def cd_4 : List El := [(0, kS (sLoad 2 1 1)),
  (1, kC 5 1 4 (ckAny)),
  (4, kS (sPop 5)),
  (5, kS (sPush (0, .int 0) 6)),
  (6, kS (sStore 0 2 7)),
  (7, kS (sLoad 0 2 8)),
  (8, kS (sLoad 2 0 9)),
  (9, kS (sLenA 1 10)),
  (10, kS (sIcmp .ge 29 13)),
  (13, kS (sLoad 2 0 14)),
  (14, kS (sLoad 0 2 15)),
  (15, kS (sLoad 2 1 16)),
  (16, kS (sLoad 0 2 17)),
  (17, kN (sLam 3 2 22)),
  (22, kS (sStM 1 23)),
  (23, kS (sIinc 2 1 26)),
  (26, kS (sGoto 7)),
  (29, kR (rVoid))]
def cd_5 : List El := [(0, kS (sLoad 2 0 1)),
  (1, kS (sIfNull false 12 4)),
  (4, kS (sStop)),
  (7, kS (sDup 8)),
  (8, kS (sStop)),
  (11, kS (sStop)),
  (12, kS (sLoad 2 0 13)),
  (13, kR (rVal (.object "java/lang/Object")))]
def cd_6 : List El := [(0, kS (sLoad 0 0 1)),
  (1, kR (rVal .int))]
def cd_7 : List El := [(0, kS (sLoad 0 0 1)),
  (1, kR (rVal .int))]
def cd_8 : List El := [(0, kS (sPush (0, .int 0) 1)),
  (1, kS (sStore 0 2 2)),
  (2, kS (sLoad 2 0 3)),
  (3, kS (sLenA 1 4)),
  (4, kS (sStore 0 3 5)),
  (5, kS (sLoad 0 2 6)),
  (6, kS (sLoad 0 3 7)),
  (7, kS (sIcmp .ge 20 10)),
  (10, kS (sLoad 2 0 11)),
  (11, kS (sLoad 0 2 12)),
  (12, kS (sLoad 0 1 13)),
  (13, kS (sStM 1 14)),
  (14, kS (sIinc 2 1 17)),
  (17, kS (sGoto 5)),
  (20, kR (rVoid))]
def cd_9 : List El := [(0, kS (sLoad 0 0 1)),
  (1, kS (sPush (0, .int 2) 2)),
  (2, kS (sLoad 0 1 3)),
  (3, kS (sBin 0 0 0 (jI Term.mul) 4)),
  (4, kS (sBin 0 0 0 (jI (Term.op2 .iushr)) 5)),
  (5, kS (sPush (0, .int 3) 6)),
  (6, kS (sBin 0 0 0 (jI (Term.op2 .iand)) 7)),
  (7, kS (sPush (0, .int 1) 8)),
  (8, kS (sBin 0 0 0 (jI Term.sub) 9)),
  (9, kR (rVal .int))]
def cd_10 : List El := [(0, kS (sPush (0, .int 0) 1)),
  (1, kS (sStore 0 3 2)),
  (2, kS (sLoad 2 0 3)),
  (3, kS (sGetF 0 3 6)),
  (6, kS (sLoad 0 1 7)),
  (7, kS (sLdM 1 8)),
  (8, kS (sStore 0 4 10)),
  (10, kS (sLoad 0 4 12)),
  (12, kS (sLoad 2 0 13)),
  (13, kS (sGetF 0 4 16)),
  (16, kS (sLoad 0 1 17)),
  (17, kS (sLdM 1 18)),
  (18, kS (sIcmp .ge 85 21)),
  (21, kS (sLoad 2 2 22)),
  (22, kS (sLoad 2 0 23)),
  (23, kS (sGetF 0 5 26)),
  (26, kS (sLoad 0 4 28)),
  (28, kS (sLdM 1 29)),
  (29, kS (sLdM 1 30)),
  (30, kS (sPush (0, .int 1) 31)),
  (31, kS (sBin 0 0 0 (jI Term.add) 32)),
  (32, kS (sStore 0 5 34)),
  (34, kS (sLoad 2 0 35)),
  (35, kS (sGetF 0 8 38)),
  (38, kS (sLoad 0 5 40)),
  (40, kS (sLdM 1 41)),
  (41, kS (sPush (0, .int (-1)) 42)),
  (42, kS (sIcmp .ne 63 45)),
  (45, kS (sLoad 2 0 46)),
  (46, kS (sGetF 0 9 49)),
  (49, kS (sLoad 0 3 50)),
  (50, kS (sPush (0, .int 0) 51)),
  (51, kS (sStM 1 52)),
  (52, kS (sLoad 2 0 53)),
  (53, kS (sGetF 0 8 56)),
  (56, kS (sLoad 0 5 58)),
  (58, kS (sLoad 0 3 59)),
  (59, kS (sIinc 3 1 62)),
  (62, kS (sStM 1 63)),
  (63, kS (sLoad 2 0 64)),
  (64, kS (sGetF 0 9 67)),
  (67, kS (sLoad 2 0 68)),
  (68, kS (sGetF 0 8 71)),
  (71, kS (sLoad 0 5 73)),
  (73, kS (sLdM 1 74)),
  (74, kS (sDup2 75)),
  (75, kS (sLdM 1 76)),
  (76, kS (sPush (0, .int 1) 77)),
  (77, kS (sBin 0 0 0 (jI Term.add) 78)),
  (78, kS (sStM 1 79)),
  (79, kS (sIinc 4 1 82)),
  (82, kS (sGoto 10)),
  (85, kS (sLoad 0 3 86)),
  (86, kS (sPush (0, .int 1) 87)),
  (87, kS (sIcmp .le 388 90)),
  (90, kS (sLoad 2 0 91)),
  (91, kS (sGetF 0 2 94)),
  (94, kS (sLoad 0 1 95)),
  (95, kS (sLoad 2 0 96)),
  (96, kS (sGetF 0 11 99)),
  (99, kS (sStM 1 100)),
  (100, kS (sPush (0, .int 0) 101)),
  (101, kS (sStore 0 4 103)),
  (103, kS (sLoad 2 0 104)),
  (104, kS (sGetF 0 3 107)),
  (107, kS (sLoad 0 1 108)),
  (108, kS (sLdM 1 109)),
  (109, kS (sStore 0 5 111)),
  (111, kS (sLoad 0 4 113)),
  (113, kS (sLoad 0 3 114)),
  (114, kS (sIcmp .ge 211 117)),
  (117, kS (sLoad 2 0 118)),
  (118, kS (sDup 119)),
  (119, kS (sGetF 0 11 122)),
  (122, kS (sDupX1 123)),
  (123, kS (sPush (0, .int 1) 124)),
  (124, kS (sBin 0 0 0 (jI Term.add) 125)),
  (125, kS (sPutF 0 11 .int 128)),
  (128, kS (sStore 0 6 130)),
  (130, kS (sLoad 2 0 131)),
  (131, kS (sGetF 0 0 134)),
  (134, kS (sLoad 0 6 136)),
  (136, kS (sLoad 0 1 137)),
  (137, kS (sStM 1 138)),
  (138, kS (sLoad 2 0 139)),
  (139, kS (sGetF 0 1 142)),
  (142, kS (sLoad 0 6 144)),
  (144, kS (sLoad 2 0 145)),
  (145, kS (sGetF 0 1 148)),
  (148, kS (sLoad 0 1 149)),
  (149, kS (sLdM 1 150)),
  (150, kS (sPush (0, .int 1) 151)),
  (151, kS (sBin 0 0 0 (jI Term.add) 152)),
  (152, kS (sStM 1 153)),
  (153, kS (sLoad 2 0 154)),
  (154, kS (sGetF 0 2 157)),
  (157, kS (sLoad 0 6 159)),
  (159, kS (sPush (0, .int (-1)) 160)),
  (160, kS (sStM 1 161)),
  (161, kS (sLoad 2 0 162)),
  (162, kS (sGetF 0 3 165)),
  (165, kS (sLoad 0 6 167)),
  (167, kS (sLoad 0 5 169)),
  (169, kS (sStM 1 170)),
  (170, kS (sLoad 0 5 172)),
  (172, kS (sLoad 2 0 173)),
  (173, kS (sGetF 0 9 176)),
  (176, kS (sLoad 0 4 178)),
  (178, kS (sLdM 1 179)),
  (179, kS (sBin 0 0 0 (jI Term.add) 180)),
  (180, kS (sStore 0 5 182)),
  (182, kS (sLoad 2 0 183)),
  (183, kS (sGetF 0 4 186)),
  (186, kS (sLoad 0 6 188)),
  (188, kS (sLoad 0 5 190)),
  (190, kS (sStM 1 191)),
  (191, kS (sLoad 2 0 192)),
  (192, kS (sGetF 0 9 195)),
  (195, kS (sLoad 0 4 197)),
  (197, kS (sLoad 2 0 198)),
  (198, kS (sGetF 0 3 201)),
  (201, kS (sLoad 0 6 203)),
  (203, kS (sLdM 1 204)),
  (204, kS (sStM 1 205)),
  (205, kS (sIinc 4 1 208)),
  (208, kS (sGoto 111)),
  (211, kS (sLoad 2 0 212)),
  (212, kS (sGetF 0 3 215)),
  (215, kS (sLoad 0 1 216)),
  (216, kS (sLdM 1 217)),
  (217, kS (sStore 0 4 219)),
  (219, kS (sLoad 0 4 221)),
  (221, kS (sLoad 2 0 222)),
  (222, kS (sGetF 0 4 225)),
  (225, kS (sLoad 0 1 226)),
  (226, kS (sLdM 1 227)),
  (227, kS (sIcmp .ge 274 230)),
  (230, kS (sLoad 2 0 231)),
  (231, kS (sGetF 0 10 234)),
  (234, kS (sLoad 2 0 235)),
  (235, kS (sGetF 0 9 238)),
  (238, kS (sLoad 2 0 239)),
  (239, kS (sGetF 0 8 242)),
  (242, kS (sLoad 2 2 243)),
  (243, kS (sLoad 2 0 244)),
  (244, kS (sGetF 0 5 247)),
  (247, kS (sLoad 0 4 249)),
  (249, kS (sLdM 1 250)),
  (250, kS (sLdM 1 251)),
  (251, kS (sPush (0, .int 1) 252)),
  (252, kS (sBin 0 0 0 (jI Term.add) 253)),
  (253, kS (sLdM 1 254)),
  (254, kS (sDup2 255)),
  (255, kS (sLdM 1 256)),
  (256, kS (sDupX2 257)),
  (257, kS (sPush (0, .int 1) 258)),
  (258, kS (sBin 0 0 0 (jI Term.add) 259)),
  (259, kS (sStM 1 260)),
  (260, kS (sLoad 2 0 261)),
  (261, kS (sGetF 0 5 264)),
  (264, kS (sLoad 0 4 266)),
  (266, kS (sLdM 1 267)),
  (267, kS (sStM 1 268)),
  (268, kS (sIinc 4 1 271)),
  (271, kS (sGoto 219)),
  (274, kS (sLoad 2 0 275)),
  (275, kS (sGetF 0 10 278)),
  (278, kS (sLoad 2 0 279)),
  (279, kS (sGetF 0 3 282)),
  (282, kS (sLoad 0 1 283)),
  (283, kS (sLdM 1 284)),
  (284, kS (sLoad 2 0 285)),
  (285, kS (sGetF 0 5 288)),
  (288, kS (sLoad 2 0 289)),
  (289, kS (sGetF 0 3 292)),
  (292, kS (sLoad 0 1 293)),
  (293, kS (sLdM 1 294)),
  (294, kS (sLoad 2 0 295)),
  (295, kS (sGetF 0 4 298)),
  (298, kS (sLoad 0 1 299)),
  (299, kS (sLdM 1 300)),
  (300, kS (sLoad 2 0 301)),
  (301, kS (sGetF 0 3 304)),
  (304, kS (sLoad 0 1 305)),
  (305, kS (sLdM 1 306)),
  (306, kS (sBin 0 0 0 (jI Term.sub) 307)),
  (307, kN (sCopy 1 7 310)),
  (310, kS (sLoad 2 0 311)),
  (311, kS (sGetF 0 2 314)),
  (314, kS (sLoad 0 1 315)),
  (315, kS (sLdM 1 316)),
  (316, kS (sStore 0 4 318)),
  (318, kS (sLoad 0 4 320)),
  (320, kS (sLoad 2 0 321)),
  (321, kS (sGetF 0 11 324)),
  (324, kS (sIcmp .ge 388 327)),
  (327, kS (sLoad 2 0 328)),
  (328, kS (sGetF 0 3 331)),
  (331, kS (sLoad 0 4 333)),
  (333, kS (sLdM 1 334)),
  (334, kS (sStore 0 5 336)),
  (336, kS (sLoad 0 5 338)),
  (338, kS (sLoad 2 0 339)),
  (339, kS (sGetF 0 4 342)),
  (342, kS (sLoad 0 4 344)),
  (344, kS (sLdM 1 345)),
  (345, kS (sIcmp .ge 382 348)),
  (348, kS (sLoad 2 0 349)),
  (349, kS (sGetF 0 7 352)),
  (352, kS (sLoad 2 0 353)),
  (353, kS (sGetF 0 5 356)),
  (356, kS (sLoad 0 5 358)),
  (358, kS (sLdM 1 359)),
  (359, kS (sLoad 0 4 361)),
  (361, kS (sStM 1 362)),
  (362, kS (sLoad 2 0 363)),
  (363, kS (sGetF 0 6 366)),
  (366, kS (sLoad 2 0 367)),
  (367, kS (sGetF 0 5 370)),
  (370, kS (sLoad 0 5 372)),
  (372, kS (sLdM 1 373)),
  (373, kS (sLoad 0 5 375)),
  (375, kS (sStM 1 376)),
  (376, kS (sIinc 5 1 379)),
  (379, kS (sGoto 336)),
  (382, kS (sIinc 4 1 385)),
  (385, kS (sGoto 318)),
  (388, kS (sLoad 2 0 389)),
  (389, kS (sGetF 0 3 392)),
  (392, kS (sLoad 0 1 393)),
  (393, kS (sLdM 1 394)),
  (394, kS (sStore 0 4 396)),
  (396, kS (sLoad 0 4 398)),
  (398, kS (sLoad 2 0 399)),
  (399, kS (sGetF 0 4 402)),
  (402, kS (sLoad 0 1 403)),
  (403, kS (sLdM 1 404)),
  (404, kS (sIcmp .ge 430 407)),
  (407, kS (sLoad 2 0 408)),
  (408, kS (sGetF 0 8 411)),
  (411, kS (sLoad 2 2 412)),
  (412, kS (sLoad 2 0 413)),
  (413, kS (sGetF 0 5 416)),
  (416, kS (sLoad 0 4 418)),
  (418, kS (sLdM 1 419)),
  (419, kS (sLdM 1 420)),
  (420, kS (sPush (0, .int 1) 421)),
  (421, kS (sBin 0 0 0 (jI Term.add) 422)),
  (422, kS (sPush (0, .int (-1)) 423)),
  (423, kS (sStM 1 424)),
  (424, kS (sIinc 4 1 427)),
  (427, kS (sGoto 396)),
  (430, kS (sLoad 0 3 431)),
  (431, kS (sPush (0, .int 1) 432)),
  (432, kS (sIcmp .le 439 435)),
  (435, kS (sPush (0, .int 1) 436)),
  (436, kS (sGoto 440)),
  (439, kS (sPush (0, .int 0) 440)),
  (440, kR (rVal .boolean))]
def cd_11 : List El := [(0, kS (sLoad 2 0 1)),
  (1, kS (sGetF 0 7 4)),
  (4, kS (sLoad 0 1 5)),
  (5, kS (sSplit 5 (sLdM 1 6))),
  (6, kR (rVal .int))]
def cd_12 : List El := [(0, kS (sLoad 2 0 1)),
  (1, kS (sGetF 0 11 4)),
  (4, kR (rVal .int))]
def cd_13 : List El := [(0, kS (sLoad 2 0 1)),
  (1, kS (sGetF 0 3 4)),
  (4, kS (sLoad 0 1 5)),
  (5, kS (sLdM 1 6)),
  (6, kR (rVal .int))]
def cd_14 : List El := [(0, kS (sLoad 0 0 1)),
  (1, kS (sLoad 0 1 2)),
  (2, kS (sIcmp .gt 9 5)),
  (5, kS (sLoad 0 0 6)),
  (6, kS (sGoto 10)),
  (9, kS (sLoad 0 1 10)),
  (10, kR (rVal .int))]
def cd_15 : List El := [(0, kS (sLoad 2 0 1)),
  (1, kS (sGetF 0 4 4)),
  (4, kS (sLoad 0 1 5)),
  (5, kS (sLdM 1 6)),
  (6, kR (rVal .int))]
def cd_16 : List El := [(0, kS (sLoad 2 0 1)),
  (1, kS (sGetF 0 5 4)),
  (4, kS (sLoad 0 1 5)),
  (5, kS (sLdM 1 6)),
  (6, kR (rVal .int))]
def cd_17 : List El := [(0, kS (sLoad 2 0 1)),
  (1, kS (sGetF 0 6 4)),
  (4, kS (sLoad 2 1 5)),
  (5, kS (sPush (0, .int 0) 6)),
  (6, kS (sLdM 1 7)),
  (7, kS (sLdM 1 8)),
  (8, kS (sStore 0 3 9)),
  (9, kS (sLoad 0 3 10)),
  (10, kS (sStore 0 4 12)),
  (12, kS (sPush (0, .int 1) 13)),
  (13, kS (sStore 0 5 15)),
  (15, kS (sLoad 0 5 17)),
  (17, kS (sLoad 0 2 18)),
  (18, kS (sIcmp .ge 57 21)),
  (21, kS (sLoad 0 3 22)),
  (22, kS (sLoad 2 0 23)),
  (23, kS (sGetF 0 6 26)),
  (26, kS (sLoad 2 1 27)),
  (27, kS (sLoad 0 5 29)),
  (29, kS (sLdM 1 30)),
  (30, kS (sLdM 1 31)),
  (31, kC 14 2 34 (ckAny)),
  (34, kS (sStore 0 3 35)),
  (35, kS (sLoad 0 4 37)),
  (37, kS (sLoad 2 0 38)),
  (38, kS (sGetF 0 6 41)),
  (41, kS (sLoad 2 1 42)),
  (42, kS (sLoad 0 5 44)),
  (44, kS (sLdM 1 45)),
  (45, kS (sLdM 1 46)),
  (46, kC 3 2 49 (ckAny)),
  (49, kS (sStore 0 4 51)),
  (51, kS (sIinc 5 1 54)),
  (54, kS (sGoto 15)),
  (57, kS (sLoad 2 0 58)),
  (58, kS (sGetF 0 7 61)),
  (61, kS (sLoad 2 0 62)),
  (62, kS (sGetF 0 5 65)),
  (65, kS (sLoad 0 3 66)),
  (66, kS (sLdM 1 67)),
  (67, kS (sLdM 1 68)),
  (68, kS (sStore 0 5 70)),
  (70, kS (sLoad 2 0 71)),
  (71, kS (sGetF 0 4 74)),
  (74, kS (sLoad 0 5 76)),
  (76, kS (sLdM 1 77)),
  (77, kS (sLoad 0 4 79)),
  (79, kS (sIcmp .gt 94 82)),
  (82, kS (sLoad 2 0 83)),
  (83, kS (sGetF 0 0 86)),
  (86, kS (sLoad 0 5 88)),
  (88, kS (sLdM 1 89)),
  (89, kS (sStore 0 5 91)),
  (91, kS (sGoto 70)),
  (94, kS (sLoad 0 5 96)),
  (96, kR (rVal .int))]
def cd_18 : List El := [(0, kS (sLoad 0 1 1)),
  (1, kS (sStore 0 3 2)),
  (2, kS (sLoad 0 2 3)),
  (3, kS (sStore 0 4 5)),
  (5, kS (sLoad 2 0 6)),
  (6, kS (sGetF 0 1 9)),
  (9, kS (sLoad 0 3 10)),
  (10, kS (sLdM 1 11)),
  (11, kS (sLoad 2 0 12)),
  (12, kS (sGetF 0 1 15)),
  (15, kS (sLoad 0 4 17)),
  (17, kS (sLdM 1 18)),
  (18, kS (sIcmp .le 31 21)),
  (21, kS (sLoad 2 0 22)),
  (22, kS (sGetF 0 0 25)),
  (25, kS (sLoad 0 3 26)),
  (26, kS (sLdM 1 27)),
  (27, kS (sStore 0 3 28)),
  (28, kS (sGoto 5)),
  (31, kS (sLoad 2 0 32)),
  (32, kS (sGetF 0 1 35)),
  (35, kS (sLoad 0 4 37)),
  (37, kS (sLdM 1 38)),
  (38, kS (sLoad 2 0 39)),
  (39, kS (sGetF 0 1 42)),
  (42, kS (sLoad 0 3 43)),
  (43, kS (sLdM 1 44)),
  (44, kS (sIcmp .le 59 47)),
  (47, kS (sLoad 2 0 48)),
  (48, kS (sGetF 0 0 51)),
  (51, kS (sLoad 0 4 53)),
  (53, kS (sLdM 1 54)),
  (54, kS (sStore 0 4 56)),
  (56, kS (sGoto 31)),
  (59, kS (sLoad 0 3 60)),
  (60, kS (sLoad 0 4 62)),
  (62, kS (sIcmp .eq 84 65)),
  (65, kS (sLoad 2 0 66)),
  (66, kS (sGetF 0 0 69)),
  (69, kS (sLoad 0 3 70)),
  (70, kS (sLdM 1 71)),
  (71, kS (sStore 0 3 72)),
  (72, kS (sLoad 2 0 73)),
  (73, kS (sGetF 0 0 76)),
  (76, kS (sLoad 0 4 78)),
  (78, kS (sLdM 1 79)),
  (79, kS (sStore 0 4 81)),
  (81, kS (sGoto 59)),
  (84, kS (sLoad 0 3 85)),
  (85, kR (rVal .int))]
def mts : List Mt := [(16, cd_0), (4, cd_1), (0, []), (2, cd_3), (3, cd_4), (1, cd_5), (1, cd_6), (1, cd_7), (4, cd_8), (2, cd_9), (7, cd_10), (2, cd_11), (1, cd_12), (2, cd_13), (2, cd_14), (2, cd_15), (2, cd_16), (6, cd_17), (5, cd_18)]
def ce_0_4 : List ElF := (255, .inr (.inr (.inl (rVal .boolean)))) ::
  []
def ce_0_3 : List ElF := (254, .inl (fPush (0, .int 0) 255)) ::
  ce_0_4
def ce_0_2 : List ElF := (162, .inl (gen (sSplit 162 (sStore 0 12 164)))) ::
  (164, .inl (fLoad 2 5 166)) ::
  (166, .inl (fLoad 0 11 168)) ::
  (168, .inr (.inl (13, 2, 171, ckObj 0))) ::
  (171, .inl (fLoad 2 5 173)) ::
  (173, .inl (fLoad 0 12 175)) ::
  (175, .inr (.inl (13, 2, 178, ckObj 0))) ::
  (178, .inr (.inl (14, 2, 181, ckAny))) ::
  (181, .inl (fStore 0 13 183)) ::
  (183, .inl (fLoad 2 5 185)) ::
  (185, .inl (fLoad 0 11 187)) ::
  (187, .inr (.inl (15, 2, 190, ckObj 0))) ::
  (190, .inl (fLoad 2 5 192)) ::
  (192, .inl (fLoad 0 12 194)) ::
  (194, .inr (.inl (15, 2, 197, ckObj 0))) ::
  (197, .inr (.inl (3, 2, 200, ckAny))) ::
  (200, .inl (fPush (0, .int 1) 201)) ::
  (201, .inl (fBin 0 0 0 (jI Term.sub) 202)) ::
  (202, .inl (fStore 0 14 204)) ::
  (204, .inl (fLoad 2 8 206)) ::
  (206, .inl (fPush (0, .int 0) 207)) ::
  (207, .inl (fLoad 2 5 209)) ::
  (209, .inl (fLoad 0 13 211)) ::
  (211, .inr (.inl (16, 2, 214, ckObj 0))) ::
  (214, .inl (genD (sStM 1 215))) ::
  (215, .inl (fLoad 2 8 217)) ::
  (217, .inl (fPush (0, .int 1) 218)) ::
  (218, .inl (fLoad 2 5 220)) ::
  (220, .inl (fLoad 0 14 222)) ::
  (222, .inr (.inl (16, 2, 225, ckObj 0))) ::
  (225, .inl (genD (sStM 1 226))) ::
  (226, .inl (fLoad 2 5 228)) ::
  (228, .inl (fLoad 2 8 230)) ::
  (230, .inl (fPush (0, .int 2) 231)) ::
  (231, .inr (.inl (17, 3, 234, ckObj 0))) ::
  (234, .inl (fStore 0 15 236)) ::
  (236, .inl (fLoad 2 5 238)) ::
  (238, .inl (fLoad 0 11 240)) ::
  (240, .inl (fLoad 0 12 242)) ::
  (242, .inr (.inl (18, 3, 245, ckObj 0))) ::
  (245, .inl (fLoad 0 15 247)) ::
  (247, .inl (fIcmp .ne 254 250)) ::
  (250, .inl (fPush (0, .int 1) 251)) ::
  (251, .inl (fGoto 255)) ::
  ce_0_3
def ce_0_1 : List ElF := (152, .inl (gen (sSplit 152 (sStore 0 11 154)))) ::
  (154, .inl (fLoad 0 4 156)) ::
  (156, .inl (fPush (0, .int 2147483647) 158)) ::
  (158, .inl (fBin 0 0 0 (jI (Term.op2 .iand)) 159)) ::
  (159, .inl (fLoad 0 10 161)) ::
  (161, .inl (gen (s_irem 162))) ::
  ce_0_2
def ce_0_0 : List ElF := (0, .inl (genD (sNew 0 12 ds_0 3))) ::
  (3, .inl (gen (sDup 4))) ::
  (4, .inl (fPush (0, .int 5) 5)) ::
  (5, .inl (fPush (0, .int 3) 6)) ::
  (6, .inr (.inl (1, 3, 9, ckObj 0))) ::
  (9, .inl (fStore 2 5 11)) ::
  (11, .inl (fPush (0, .int 5) 12)) ::
  (12, .inl (genD (sNewA 1 .int 14))) ::
  (14, .inl (gen (sDup 15))) ::
  (15, .inl (fPush (0, .int 0) 16)) ::
  (16, .inl (fLoad 0 0 17)) ::
  (17, .inl (fPush (0, .int 0) 18)) ::
  (18, .inr (.inl (9, 2, 21, ckAny))) ::
  (21, .inl (genD (sStM 1 22))) ::
  (22, .inl (gen (sDup 23))) ::
  (23, .inl (fPush (0, .int 1) 24)) ::
  (24, .inl (fLoad 0 0 25)) ::
  (25, .inl (fPush (0, .int 1) 26)) ::
  (26, .inr (.inl (9, 2, 29, ckAny))) ::
  (29, .inl (genD (sStM 1 30))) ::
  (30, .inl (gen (sDup 31))) ::
  (31, .inl (fPush (0, .int 2) 32)) ::
  (32, .inl (fLoad 0 0 33)) ::
  (33, .inl (fPush (0, .int 2) 34)) ::
  (34, .inr (.inl (9, 2, 37, ckAny))) ::
  (37, .inl (genD (sStM 1 38))) ::
  (38, .inl (gen (sDup 39))) ::
  (39, .inl (fPush (0, .int 3) 40)) ::
  (40, .inl (fLoad 0 0 41)) ::
  (41, .inl (fPush (0, .int 3) 42)) ::
  (42, .inr (.inl (9, 2, 45, ckAny))) ::
  (45, .inl (genD (sStM 1 46))) ::
  (46, .inl (gen (sDup 47))) ::
  (47, .inl (fPush (0, .int 4) 48)) ::
  (48, .inl (fLoad 0 0 49)) ::
  (49, .inl (fPush (0, .int 4) 50)) ::
  (50, .inr (.inl (9, 2, 53, ckAny))) ::
  (53, .inl (genD (sStM 1 54))) ::
  (54, .inl (fStore 2 6 56)) ::
  (56, .inl (fPush (0, .int 5) 57)) ::
  (57, .inl (genD (sNewA 1 .int 59))) ::
  (59, .inl (gen (sDup 60))) ::
  (60, .inl (fPush (0, .int 0) 61)) ::
  (61, .inl (fLoad 0 1 62)) ::
  (62, .inl (fPush (0, .int 0) 63)) ::
  (63, .inr (.inl (9, 2, 66, ckAny))) ::
  (66, .inl (genD (sStM 1 67))) ::
  (67, .inl (gen (sDup 68))) ::
  (68, .inl (fPush (0, .int 1) 69)) ::
  (69, .inl (fLoad 0 1 70)) ::
  (70, .inl (fPush (0, .int 1) 71)) ::
  (71, .inr (.inl (9, 2, 74, ckAny))) ::
  (74, .inl (genD (sStM 1 75))) ::
  (75, .inl (gen (sDup 76))) ::
  (76, .inl (fPush (0, .int 2) 77)) ::
  (77, .inl (fLoad 0 1 78)) ::
  (78, .inl (fPush (0, .int 2) 79)) ::
  (79, .inr (.inl (9, 2, 82, ckAny))) ::
  (82, .inl (genD (sStM 1 83))) ::
  (83, .inl (gen (sDup 84))) ::
  (84, .inl (fPush (0, .int 3) 85)) ::
  (85, .inl (fLoad 0 1 86)) ::
  (86, .inl (fPush (0, .int 3) 87)) ::
  (87, .inr (.inl (9, 2, 90, ckAny))) ::
  (90, .inl (genD (sStM 1 91))) ::
  (91, .inl (gen (sDup 92))) ::
  (92, .inl (fPush (0, .int 4) 93)) ::
  (93, .inl (fLoad 0 1 94)) ::
  (94, .inl (fPush (0, .int 4) 95)) ::
  (95, .inr (.inl (9, 2, 98, ckAny))) ::
  (98, .inl (genD (sStM 1 99))) ::
  (99, .inl (fStore 2 7 101)) ::
  (101, .inl (fPush (0, .int 2) 102)) ::
  (102, .inl (genD (sNewA 1 .int 104))) ::
  (104, .inl (fStore 2 8 106)) ::
  (106, .inl (fLoad 2 5 108)) ::
  (108, .inl (fPush (0, .int 0) 109)) ::
  (109, .inl (fLoad 2 6 111)) ::
  (111, .inr (.inl (10, 3, 114, ckObj 0))) ::
  (114, .inl (gen (sPop 115))) ::
  (115, .inl (fLoad 2 5 117)) ::
  (117, .inl (fLoad 0 2 118)) ::
  (118, .inl (fPush (0, .int 2147483647) 120)) ::
  (120, .inl (fBin 0 0 0 (jI (Term.op2 .iand)) 121)) ::
  (121, .inl (fPush (0, .int 5) 122)) ::
  (122, .inl (gen (s_irem 123))) ::
  (123, .inr (.inl (11, 2, 126, ckObj 0))) ::
  (126, .inl (fStore 0 9 128)) ::
  (128, .inl (fLoad 2 5 130)) ::
  (130, .inl (fLoad 0 9 132)) ::
  (132, .inl (fLoad 2 7 134)) ::
  (134, .inr (.inl (10, 3, 137, ckObj 0))) ::
  (137, .inl (gen (sPop 138))) ::
  (138, .inl (fLoad 2 5 140)) ::
  (140, .inr (.inl (12, 1, 143, ckObj 0))) ::
  (143, .inl (fStore 0 10 145)) ::
  (145, .inl (fLoad 0 3 146)) ::
  (146, .inl (fPush (0, .int 2147483647) 148)) ::
  (148, .inl (fBin 0 0 0 (jI (Term.op2 .iand)) 149)) ::
  (149, .inl (fLoad 0 10 151)) ::
  (151, .inl (gen (s_irem 152))) ::
  ce_0_1
def ce_0 : List ElF := ce_0_0
theorem re_0 : RelL ce_0 cd_0 := by
  refine relC (genD_ok _) ?_
  refine relC (gen_ok _) ?_
  refine relC (fPush_ok _ _) ?_
  refine relC (fPush_ok _ _) ?_
  refine relO ?_
  refine relC (fStore_ok _ _ _ (by decide)) ?_
  refine relC (fPush_ok _ _) ?_
  refine relC (genD_ok _) ?_
  refine relC (gen_ok _) ?_
  refine relC (fPush_ok _ _) ?_
  refine relC (fLoad_ok _ _ _) ?_
  refine relC (fPush_ok _ _) ?_
  refine relO ?_
  refine relC (genD_ok _) ?_
  refine relC (gen_ok _) ?_
  refine relC (fPush_ok _ _) ?_
  refine relC (fLoad_ok _ _ _) ?_
  refine relC (fPush_ok _ _) ?_
  refine relO ?_
  refine relC (genD_ok _) ?_
  refine relC (gen_ok _) ?_
  refine relC (fPush_ok _ _) ?_
  refine relC (fLoad_ok _ _ _) ?_
  refine relC (fPush_ok _ _) ?_
  refine relO ?_
  refine relC (genD_ok _) ?_
  refine relC (gen_ok _) ?_
  refine relC (fPush_ok _ _) ?_
  refine relC (fLoad_ok _ _ _) ?_
  refine relC (fPush_ok _ _) ?_
  refine relO ?_
  refine relC (genD_ok _) ?_
  refine relC (gen_ok _) ?_
  refine relC (fPush_ok _ _) ?_
  refine relC (fLoad_ok _ _ _) ?_
  refine relC (fPush_ok _ _) ?_
  refine relO ?_
  refine relC (genD_ok _) ?_
  refine relC (fStore_ok _ _ _ (by decide)) ?_
  refine relC (fPush_ok _ _) ?_
  refine relC (genD_ok _) ?_
  refine relC (gen_ok _) ?_
  refine relC (fPush_ok _ _) ?_
  refine relC (fLoad_ok _ _ _) ?_
  refine relC (fPush_ok _ _) ?_
  refine relO ?_
  refine relC (genD_ok _) ?_
  refine relC (gen_ok _) ?_
  refine relC (fPush_ok _ _) ?_
  refine relC (fLoad_ok _ _ _) ?_
  refine relC (fPush_ok _ _) ?_
  refine relO ?_
  refine relC (genD_ok _) ?_
  refine relC (gen_ok _) ?_
  refine relC (fPush_ok _ _) ?_
  refine relC (fLoad_ok _ _ _) ?_
  refine relC (fPush_ok _ _) ?_
  refine relO ?_
  refine relC (genD_ok _) ?_
  refine relC (gen_ok _) ?_
  refine relC (fPush_ok _ _) ?_
  refine relC (fLoad_ok _ _ _) ?_
  refine relC (fPush_ok _ _) ?_
  refine relO ?_
  refine relC (genD_ok _) ?_
  refine relC (gen_ok _) ?_
  refine relC (fPush_ok _ _) ?_
  refine relC (fLoad_ok _ _ _) ?_
  refine relC (fPush_ok _ _) ?_
  refine relO ?_
  refine relC (genD_ok _) ?_
  refine relC (fStore_ok _ _ _ (by decide)) ?_
  refine relC (fPush_ok _ _) ?_
  refine relC (genD_ok _) ?_
  refine relC (fStore_ok _ _ _ (by decide)) ?_
  refine relC (fLoad_ok _ _ _) ?_
  refine relC (fPush_ok _ _) ?_
  refine relC (fLoad_ok _ _ _) ?_
  refine relO ?_
  refine relC (gen_ok _) ?_
  refine relC (fLoad_ok _ _ _) ?_
  refine relC (fLoad_ok _ _ _) ?_
  refine relC (fPush_ok _ _) ?_
  refine relC (fBin_ok _ _ _ _ _) ?_
  refine relC (fPush_ok _ _) ?_
  refine relC (gen_ok _) ?_
  refine relO ?_
  refine relC (fStore_ok _ _ _ (by decide)) ?_
  refine relC (fLoad_ok _ _ _) ?_
  refine relC (fLoad_ok _ _ _) ?_
  refine relC (fLoad_ok _ _ _) ?_
  refine relO ?_
  refine relC (gen_ok _) ?_
  refine relC (fLoad_ok _ _ _) ?_
  refine relO ?_
  refine relC (fStore_ok _ _ _ (by decide)) ?_
  refine relC (fLoad_ok _ _ _) ?_
  refine relC (fPush_ok _ _) ?_
  refine relC (fBin_ok _ _ _ _ _) ?_
  refine relC (fLoad_ok _ _ _) ?_
  refine relC (gen_ok _) ?_
  refine relC (gen_ok _) ?_
  refine relC (fLoad_ok _ _ _) ?_
  refine relC (fPush_ok _ _) ?_
  refine relC (fBin_ok _ _ _ _ _) ?_
  refine relC (fLoad_ok _ _ _) ?_
  refine relC (gen_ok _) ?_
  refine relC (gen_ok _) ?_
  refine relC (fLoad_ok _ _ _) ?_
  refine relC (fLoad_ok _ _ _) ?_
  refine relO ?_
  refine relC (fLoad_ok _ _ _) ?_
  refine relC (fLoad_ok _ _ _) ?_
  refine relO ?_
  refine relO ?_
  refine relC (fStore_ok _ _ _ (by decide)) ?_
  refine relC (fLoad_ok _ _ _) ?_
  refine relC (fLoad_ok _ _ _) ?_
  refine relO ?_
  refine relC (fLoad_ok _ _ _) ?_
  refine relC (fLoad_ok _ _ _) ?_
  refine relO ?_
  refine relO ?_
  refine relC (fPush_ok _ _) ?_
  refine relC (fBin_ok _ _ _ _ _) ?_
  refine relC (fStore_ok _ _ _ (by decide)) ?_
  refine relC (fLoad_ok _ _ _) ?_
  refine relC (fPush_ok _ _) ?_
  refine relC (fLoad_ok _ _ _) ?_
  refine relC (fLoad_ok _ _ _) ?_
  refine relO ?_
  refine relC (genD_ok _) ?_
  refine relC (fLoad_ok _ _ _) ?_
  refine relC (fPush_ok _ _) ?_
  refine relC (fLoad_ok _ _ _) ?_
  refine relC (fLoad_ok _ _ _) ?_
  refine relO ?_
  refine relC (genD_ok _) ?_
  refine relC (fLoad_ok _ _ _) ?_
  refine relC (fLoad_ok _ _ _) ?_
  refine relC (fPush_ok _ _) ?_
  refine relO ?_
  refine relC (fStore_ok _ _ _ (by decide)) ?_
  refine relC (fLoad_ok _ _ _) ?_
  refine relC (fLoad_ok _ _ _) ?_
  refine relC (fLoad_ok _ _ _) ?_
  refine relO ?_
  refine relC (fLoad_ok _ _ _) ?_
  refine relC (fIcmp_ok _ _ _) ?_
  refine relC (fPush_ok _ _) ?_
  refine relC (fGoto_ok _) ?_
  refine relC (fPush_ok _ _) ?_
  refine relO ?_
  exact relN
def jt_0 : List (Nat × List ElF) := [(152, ce_0_1), (162, ce_0_2), (254, ce_0_3), (255, ce_0_4)]
set_option maxRecDepth 65536 in
theorem rj_0 : ∀ q ∈ jt_0, RelL q.2 (seekF cd_0 q.1) := jc re_0 rfl (jc re_0 rfl (jc re_0 rfl (jc re_0 rfl (jn))))
def ce_1_0 : List ElF := (0, .inl (fLoad 2 0 1)) ::
  (1, .inr (.inr (.inr (.inl (sInitO 4 4))))) ::
  (4, .inl (fPush (0, .int 1) 5)) ::
  (5, .inl (fPush (0, .int 2) 6)) ::
  (6, .inl (fLoad 0 1 7)) ::
  (7, .inl (fBin 0 0 0 (jI Term.mul) 8)) ::
  (8, .inl (fPush (0, .int 1) 9)) ::
  (9, .inl (fBin 0 0 0 (jI Term.sub) 10)) ::
  (10, .inr (.inl (3, 2, 13, ckAny))) ::
  (13, .inl (fStore 0 3 14)) ::
  (14, .inl (fLoad 2 0 15)) ::
  (15, .inl (fLoad 0 3 16)) ::
  (16, .inl (genD (sNewA 1 .int 18))) ::
  (18, .inl (genD (sPutF 0 0 (.array .int) 21))) ::
  (21, .inl (fLoad 2 0 22)) ::
  (22, .inl (fLoad 0 3 23)) ::
  (23, .inl (genD (sNewA 1 .int 25))) ::
  (25, .inl (genD (sPutF 0 1 (.array .int) 28))) ::
  (28, .inl (fLoad 2 0 29)) ::
  (29, .inl (fLoad 0 3 30)) ::
  (30, .inl (genD (sNewA 1 .int 32))) ::
  (32, .inl (genD (sPutF 0 2 (.array .int) 35))) ::
  (35, .inl (fLoad 2 0 36)) ::
  (36, .inl (fLoad 0 3 37)) ::
  (37, .inl (genD (sNewA 1 .int 39))) ::
  (39, .inl (genD (sPutF 0 3 (.array .int) 42))) ::
  (42, .inl (fLoad 2 0 43)) ::
  (43, .inl (fLoad 0 3 44)) ::
  (44, .inl (genD (sNewA 1 .int 46))) ::
  (46, .inl (genD (sPutF 0 4 (.array .int) 49))) ::
  (49, .inl (fLoad 2 0 50)) ::
  (50, .inl (fLoad 0 1 51)) ::
  (51, .inl (genD (sNewA 1 .int 53))) ::
  (53, .inl (genD (sPutF 0 5 (.array .int) 56))) ::
  (56, .inl (fLoad 2 0 57)) ::
  (57, .inl (fLoad 0 1 58)) ::
  (58, .inl (genD (sNewA 1 .int 60))) ::
  (60, .inl (genD (sPutF 0 6 (.array .int) 63))) ::
  (63, .inl (fLoad 2 0 64)) ::
  (64, .inl (fLoad 0 1 65)) ::
  (65, .inl (genD (sNewA 1 .int 67))) ::
  (67, .inl (genD (sPutF 0 7 (.array .int) 70))) ::
  (70, .inl (fLoad 2 0 71)) ::
  (71, .inl (fLoad 0 2 72)) ::
  (72, .inl (fLoad 0 3 73)) ::
  (73, .inr (.inl (3, 2, 76, ckAny))) ::
  (76, .inl (fPush (0, .int 1) 77)) ::
  (77, .inl (fBin 0 0 0 (jI Term.add) 78)) ::
  (78, .inl (genD (sNewA 1 .int 80))) ::
  (80, .inl (genD (sPutF 0 8 (.array .int) 83))) ::
  (83, .inl (fLoad 2 0 84)) ::
  (84, .inl (fLoad 0 1 85)) ::
  (85, .inl (genD (sNewA 1 .int 87))) ::
  (87, .inl (genD (sPutF 0 9 (.array .int) 90))) ::
  (90, .inl (fLoad 2 0 91)) ::
  (91, .inl (fLoad 0 1 92)) ::
  (92, .inl (genD (sNewA 1 .int 94))) ::
  (94, .inl (genD (sPutF 0 10 (.array .int) 97))) ::
  (97, .inl (fLoad 2 0 98)) ::
  (98, .inl (fGetF 0 5 101)) ::
  (101, .inr (.inr (.inr (.inl (sLamC 4 0 106))))) ::
  (106, .inr (.inl (4, 2, 109, ckAny))) ::
  (109, .inl (fLoad 2 0 110)) ::
  (110, .inl (fGetF 0 6 113)) ::
  (113, .inr (.inr (.inr (.inl (sLamC 4 1 118))))) ::
  (118, .inr (.inl (4, 2, 121, ckAny))) ::
  (121, .inl (fLoad 2 0 122)) ::
  (122, .inl (fGetF 0 8 125)) ::
  (125, .inl (fPush (0, .int (-1)) 126)) ::
  (126, .inr (.inl (8, 2, 129, ckAny))) ::
  (129, .inl (fLoad 2 0 130)) ::
  (130, .inl (fGetF 0 0 133)) ::
  (133, .inl (fPush (0, .int 0) 134)) ::
  (134, .inl (fPush (0, .int (-1)) 135)) ::
  (135, .inl (genD (sStM 1 136))) ::
  (136, .inl (fLoad 2 0 137)) ::
  (137, .inl (fGetF 0 2 140)) ::
  (140, .inl (fPush (0, .int 0) 141)) ::
  (141, .inl (fPush (0, .int (-1)) 142)) ::
  (142, .inl (genD (sStM 1 143))) ::
  (143, .inl (fLoad 2 0 144)) ::
  (144, .inl (fGetF 0 4 147)) ::
  (147, .inl (fPush (0, .int 0) 148)) ::
  (148, .inl (fLoad 0 1 149)) ::
  (149, .inl (genD (sStM 1 150))) ::
  (150, .inl (fLoad 2 0 151)) ::
  (151, .inl (fPush (0, .int 1) 152)) ::
  (152, .inl (genD (sPutF 0 11 .int 155))) ::
  (155, .inr (.inr (.inl (rVoid)))) ::
  []
def ce_1 : List ElF := ce_1_0
theorem re_1 : RelL ce_1 cd_1 := by
  refine relC (fLoad_ok _ _ _) ?_
  refine relO ?_
  refine relC (fPush_ok _ _) ?_
  refine relC (fPush_ok _ _) ?_
  refine relC (fLoad_ok _ _ _) ?_
  refine relC (fBin_ok _ _ _ _ _) ?_
  refine relC (fPush_ok _ _) ?_
  refine relC (fBin_ok _ _ _ _ _) ?_
  refine relO ?_
  refine relC (fStore_ok _ _ _ (by decide)) ?_
  refine relC (fLoad_ok _ _ _) ?_
  refine relC (fLoad_ok _ _ _) ?_
  refine relC (genD_ok _) ?_
  refine relC (genD_ok _) ?_
  refine relC (fLoad_ok _ _ _) ?_
  refine relC (fLoad_ok _ _ _) ?_
  refine relC (genD_ok _) ?_
  refine relC (genD_ok _) ?_
  refine relC (fLoad_ok _ _ _) ?_
  refine relC (fLoad_ok _ _ _) ?_
  refine relC (genD_ok _) ?_
  refine relC (genD_ok _) ?_
  refine relC (fLoad_ok _ _ _) ?_
  refine relC (fLoad_ok _ _ _) ?_
  refine relC (genD_ok _) ?_
  refine relC (genD_ok _) ?_
  refine relC (fLoad_ok _ _ _) ?_
  refine relC (fLoad_ok _ _ _) ?_
  refine relC (genD_ok _) ?_
  refine relC (genD_ok _) ?_
  refine relC (fLoad_ok _ _ _) ?_
  refine relC (fLoad_ok _ _ _) ?_
  refine relC (genD_ok _) ?_
  refine relC (genD_ok _) ?_
  refine relC (fLoad_ok _ _ _) ?_
  refine relC (fLoad_ok _ _ _) ?_
  refine relC (genD_ok _) ?_
  refine relC (genD_ok _) ?_
  refine relC (fLoad_ok _ _ _) ?_
  refine relC (fLoad_ok _ _ _) ?_
  refine relC (genD_ok _) ?_
  refine relC (genD_ok _) ?_
  refine relC (fLoad_ok _ _ _) ?_
  refine relC (fLoad_ok _ _ _) ?_
  refine relC (fLoad_ok _ _ _) ?_
  refine relO ?_
  refine relC (fPush_ok _ _) ?_
  refine relC (fBin_ok _ _ _ _ _) ?_
  refine relC (genD_ok _) ?_
  refine relC (genD_ok _) ?_
  refine relC (fLoad_ok _ _ _) ?_
  refine relC (fLoad_ok _ _ _) ?_
  refine relC (genD_ok _) ?_
  refine relC (genD_ok _) ?_
  refine relC (fLoad_ok _ _ _) ?_
  refine relC (fLoad_ok _ _ _) ?_
  refine relC (genD_ok _) ?_
  refine relC (genD_ok _) ?_
  refine relC (fLoad_ok _ _ _) ?_
  refine relC (fGetF_ok _ _ _) ?_
  refine relO ?_
  refine relO ?_
  refine relC (fLoad_ok _ _ _) ?_
  refine relC (fGetF_ok _ _ _) ?_
  refine relO ?_
  refine relO ?_
  refine relC (fLoad_ok _ _ _) ?_
  refine relC (fGetF_ok _ _ _) ?_
  refine relC (fPush_ok _ _) ?_
  refine relO ?_
  refine relC (fLoad_ok _ _ _) ?_
  refine relC (fGetF_ok _ _ _) ?_
  refine relC (fPush_ok _ _) ?_
  refine relC (fPush_ok _ _) ?_
  refine relC (genD_ok _) ?_
  refine relC (fLoad_ok _ _ _) ?_
  refine relC (fGetF_ok _ _ _) ?_
  refine relC (fPush_ok _ _) ?_
  refine relC (fPush_ok _ _) ?_
  refine relC (genD_ok _) ?_
  refine relC (fLoad_ok _ _ _) ?_
  refine relC (fGetF_ok _ _ _) ?_
  refine relC (fPush_ok _ _) ?_
  refine relC (fLoad_ok _ _ _) ?_
  refine relC (genD_ok _) ?_
  refine relC (fLoad_ok _ _ _) ?_
  refine relC (fPush_ok _ _) ?_
  refine relC (genD_ok _) ?_
  refine relO ?_
  exact relN
def jt_1 : List (Nat × List ElF) := []
set_option maxRecDepth 65536 in
theorem rj_1 : ∀ q ∈ jt_1, RelL q.2 (seekF cd_1 q.1) := jn
def ce_3_2 : List ElF := (10, .inr (.inr (.inl (rVal .int)))) ::
  []
def ce_3_1 : List ElF := (9, .inl (fLoad 0 1 10)) ::
  ce_3_2
def ce_3_0 : List ElF := (0, .inl (fLoad 0 0 1)) ::
  (1, .inl (fLoad 0 1 2)) ::
  (2, .inl (fIcmp .lt 9 5)) ::
  (5, .inl (fLoad 0 0 6)) ::
  (6, .inl (fGoto 10)) ::
  ce_3_1
def ce_3 : List ElF := ce_3_0
theorem re_3 : RelL ce_3 cd_3 := by
  refine relC (fLoad_ok _ _ _) ?_
  refine relC (fLoad_ok _ _ _) ?_
  refine relC (fIcmp_ok _ _ _) ?_
  refine relC (fLoad_ok _ _ _) ?_
  refine relC (fGoto_ok _) ?_
  refine relC (fLoad_ok _ _ _) ?_
  refine relO ?_
  exact relN
def jt_3 : List (Nat × List ElF) := [(9, ce_3_1), (10, ce_3_2)]
set_option maxRecDepth 65536 in
theorem rj_3 : ∀ q ∈ jt_3, RelL q.2 (seekF cd_3 q.1) := jc re_3 rfl (jc re_3 rfl (jn))
def ce_4_2 : List ElF := (29, .inr (.inr (.inl (rVoid)))) ::
  []
def ce_4_1 : List ElF := (7, .inl (fLoad 0 2 8)) ::
  (8, .inl (fLoad 2 0 9)) ::
  (9, .inl (gen (sLenA 1 10))) ::
  (10, .inl (fIcmp .ge 29 13)) ::
  (13, .inl (fLoad 2 0 14)) ::
  (14, .inl (fLoad 0 2 15)) ::
  (15, .inl (fLoad 2 1 16)) ::
  (16, .inl (fLoad 0 2 17)) ::
  (17, .inr (.inr (.inr (.inl (sLam 3 2 22))))) ::
  (22, .inl (genD (sStM 1 23))) ::
  (23, .inl (gen (sIinc 2 1 26))) ::
  (26, .inl (fGoto 7)) ::
  ce_4_2
def ce_4_0 : List ElF := (0, .inl (fLoad 2 1 1)) ::
  (1, .inr (.inl (5, 1, 4, ckAny))) ::
  (4, .inl (gen (sPop 5))) ::
  (5, .inl (fPush (0, .int 0) 6)) ::
  (6, .inl (fStore 0 2 7)) ::
  ce_4_1
def ce_4 : List ElF := ce_4_0
theorem re_4 : RelL ce_4 cd_4 := by
  refine relC (fLoad_ok _ _ _) ?_
  refine relO ?_
  refine relC (gen_ok _) ?_
  refine relC (fPush_ok _ _) ?_
  refine relC (fStore_ok _ _ _ (by decide)) ?_
  refine relC (fLoad_ok _ _ _) ?_
  refine relC (fLoad_ok _ _ _) ?_
  refine relC (gen_ok _) ?_
  refine relC (fIcmp_ok _ _ _) ?_
  refine relC (fLoad_ok _ _ _) ?_
  refine relC (fLoad_ok _ _ _) ?_
  refine relC (fLoad_ok _ _ _) ?_
  refine relC (fLoad_ok _ _ _) ?_
  refine relO ?_
  refine relC (genD_ok _) ?_
  refine relC (gen_ok _) ?_
  refine relC (fGoto_ok _) ?_
  refine relO ?_
  exact relN
def jt_4 : List (Nat × List ElF) := [(7, ce_4_1), (29, ce_4_2)]
set_option maxRecDepth 65536 in
theorem rj_4 : ∀ q ∈ jt_4, RelL q.2 (seekF cd_4 q.1) := jc re_4 rfl (jc re_4 rfl (jn))
def ce_5_1 : List ElF := (12, .inl (fLoad 2 0 13)) ::
  (13, .inr (.inr (.inl (rVal (.object "java/lang/Object"))))) ::
  []
def ce_5_0 : List ElF := (0, .inl (fLoad 2 0 1)) ::
  (1, .inl (gen (sIfNull false 12 4))) ::
  (4, .inl (gen (sStop))) ::
  (7, .inl (gen (sDup 8))) ::
  (8, .inl (gen (sStop))) ::
  (11, .inl (gen (sStop))) ::
  ce_5_1
def ce_5 : List ElF := ce_5_0
theorem re_5 : RelL ce_5 cd_5 := by
  refine relC (fLoad_ok _ _ _) ?_
  refine relC (gen_ok _) ?_
  refine relC (gen_ok _) ?_
  refine relC (gen_ok _) ?_
  refine relC (gen_ok _) ?_
  refine relC (gen_ok _) ?_
  refine relC (fLoad_ok _ _ _) ?_
  refine relO ?_
  exact relN
def jt_5 : List (Nat × List ElF) := [(12, ce_5_1)]
set_option maxRecDepth 65536 in
theorem rj_5 : ∀ q ∈ jt_5, RelL q.2 (seekF cd_5 q.1) := jc re_5 rfl (jn)
def ce_6_0 : List ElF := (0, .inl (fLoad 0 0 1)) ::
  (1, .inr (.inr (.inl (rVal .int)))) ::
  []
def ce_6 : List ElF := ce_6_0
theorem re_6 : RelL ce_6 cd_6 := by
  refine relC (fLoad_ok _ _ _) ?_
  refine relO ?_
  exact relN
def jt_6 : List (Nat × List ElF) := []
set_option maxRecDepth 65536 in
theorem rj_6 : ∀ q ∈ jt_6, RelL q.2 (seekF cd_6 q.1) := jn
def ce_7_0 : List ElF := (0, .inl (fLoad 0 0 1)) ::
  (1, .inr (.inr (.inl (rVal .int)))) ::
  []
def ce_7 : List ElF := ce_7_0
theorem re_7 : RelL ce_7 cd_7 := by
  refine relC (fLoad_ok _ _ _) ?_
  refine relO ?_
  exact relN
def jt_7 : List (Nat × List ElF) := []
set_option maxRecDepth 65536 in
theorem rj_7 : ∀ q ∈ jt_7, RelL q.2 (seekF cd_7 q.1) := jn
def ce_8_2 : List ElF := (20, .inr (.inr (.inl (rVoid)))) ::
  []
def ce_8_1 : List ElF := (5, .inl (fLoad 0 2 6)) ::
  (6, .inl (fLoad 0 3 7)) ::
  (7, .inl (fIcmp .ge 20 10)) ::
  (10, .inl (fLoad 2 0 11)) ::
  (11, .inl (fLoad 0 2 12)) ::
  (12, .inl (fLoad 0 1 13)) ::
  (13, .inl (genD (sStM 1 14))) ::
  (14, .inl (gen (sIinc 2 1 17))) ::
  (17, .inl (fGoto 5)) ::
  ce_8_2
def ce_8_0 : List ElF := (0, .inl (fPush (0, .int 0) 1)) ::
  (1, .inl (fStore 0 2 2)) ::
  (2, .inl (fLoad 2 0 3)) ::
  (3, .inl (gen (sLenA 1 4))) ::
  (4, .inl (fStore 0 3 5)) ::
  ce_8_1
def ce_8 : List ElF := ce_8_0
theorem re_8 : RelL ce_8 cd_8 := by
  refine relC (fPush_ok _ _) ?_
  refine relC (fStore_ok _ _ _ (by decide)) ?_
  refine relC (fLoad_ok _ _ _) ?_
  refine relC (gen_ok _) ?_
  refine relC (fStore_ok _ _ _ (by decide)) ?_
  refine relC (fLoad_ok _ _ _) ?_
  refine relC (fLoad_ok _ _ _) ?_
  refine relC (fIcmp_ok _ _ _) ?_
  refine relC (fLoad_ok _ _ _) ?_
  refine relC (fLoad_ok _ _ _) ?_
  refine relC (fLoad_ok _ _ _) ?_
  refine relC (genD_ok _) ?_
  refine relC (gen_ok _) ?_
  refine relC (fGoto_ok _) ?_
  refine relO ?_
  exact relN
def jt_8 : List (Nat × List ElF) := [(5, ce_8_1), (20, ce_8_2)]
set_option maxRecDepth 65536 in
theorem rj_8 : ∀ q ∈ jt_8, RelL q.2 (seekF cd_8 q.1) := jc re_8 rfl (jc re_8 rfl (jn))
def ce_9_0 : List ElF := (0, .inl (fLoad 0 0 1)) ::
  (1, .inl (fPush (0, .int 2) 2)) ::
  (2, .inl (fLoad 0 1 3)) ::
  (3, .inl (fBin 0 0 0 (jI Term.mul) 4)) ::
  (4, .inl (fBin 0 0 0 (jI (Term.op2 .iushr)) 5)) ::
  (5, .inl (fPush (0, .int 3) 6)) ::
  (6, .inl (fBin 0 0 0 (jI (Term.op2 .iand)) 7)) ::
  (7, .inl (fPush (0, .int 1) 8)) ::
  (8, .inl (fBin 0 0 0 (jI Term.sub) 9)) ::
  (9, .inr (.inr (.inl (rVal .int)))) ::
  []
def ce_9 : List ElF := ce_9_0
theorem re_9 : RelL ce_9 cd_9 := by
  refine relC (fLoad_ok _ _ _) ?_
  refine relC (fPush_ok _ _) ?_
  refine relC (fLoad_ok _ _ _) ?_
  refine relC (fBin_ok _ _ _ _ _) ?_
  refine relC (fBin_ok _ _ _ _ _) ?_
  refine relC (fPush_ok _ _) ?_
  refine relC (fBin_ok _ _ _ _ _) ?_
  refine relC (fPush_ok _ _) ?_
  refine relC (fBin_ok _ _ _ _ _) ?_
  refine relO ?_
  exact relN
def jt_9 : List (Nat × List ElF) := []
set_option maxRecDepth 65536 in
theorem rj_9 : ∀ q ∈ jt_9, RelL q.2 (seekF cd_9 q.1) := jn
def ce_10_15 : List ElF := (440, .inr (.inr (.inl (rVal .boolean)))) ::
  []
def ce_10_14 : List ElF := (439, .inl (fPush (0, .int 0) 440)) ::
  ce_10_15
def ce_10_13 : List ElF := (430, .inl (fLoad 0 3 431)) ::
  (431, .inl (fPush (0, .int 1) 432)) ::
  (432, .inl (fIcmp .le 439 435)) ::
  (435, .inl (fPush (0, .int 1) 436)) ::
  (436, .inl (fGoto 440)) ::
  ce_10_14
def ce_10_12 : List ElF := (396, .inl (fLoad 0 4 398)) ::
  (398, .inl (fLoad 2 0 399)) ::
  (399, .inl (fGetF 0 4 402)) ::
  (402, .inl (fLoad 0 1 403)) ::
  (403, .inl (fLdM 1 404)) ::
  (404, .inl (fIcmp .ge 430 407)) ::
  (407, .inl (fLoad 2 0 408)) ::
  (408, .inl (fGetF 0 8 411)) ::
  (411, .inl (fLoad 2 2 412)) ::
  (412, .inl (fLoad 2 0 413)) ::
  (413, .inl (fGetF 0 5 416)) ::
  (416, .inl (fLoad 0 4 418)) ::
  (418, .inl (fLdM 1 419)) ::
  (419, .inl (fLdM 1 420)) ::
  (420, .inl (fPush (0, .int 1) 421)) ::
  (421, .inl (fBin 0 0 0 (jI Term.add) 422)) ::
  (422, .inl (fPush (0, .int (-1)) 423)) ::
  (423, .inl (genD (sStM 1 424))) ::
  (424, .inl (gen (sIinc 4 1 427))) ::
  (427, .inl (fGoto 396)) ::
  ce_10_13
def ce_10_11 : List ElF := (388, .inl (fLoad 2 0 389)) ::
  (389, .inl (fGetF 0 3 392)) ::
  (392, .inl (fLoad 0 1 393)) ::
  (393, .inl (fLdM 1 394)) ::
  (394, .inl (fStore 0 4 396)) ::
  ce_10_12
def ce_10_10 : List ElF := (382, .inl (gen (sIinc 4 1 385))) ::
  (385, .inl (fGoto 318)) ::
  ce_10_11
def ce_10_9 : List ElF := (336, .inl (fLoad 0 5 338)) ::
  (338, .inl (fLoad 2 0 339)) ::
  (339, .inl (fGetF 0 4 342)) ::
  (342, .inl (fLoad 0 4 344)) ::
  (344, .inl (fLdM 1 345)) ::
  (345, .inl (fIcmp .ge 382 348)) ::
  (348, .inl (fLoad 2 0 349)) ::
  (349, .inl (fGetF 0 7 352)) ::
  (352, .inl (fLoad 2 0 353)) ::
  (353, .inl (fGetF 0 5 356)) ::
  (356, .inl (fLoad 0 5 358)) ::
  (358, .inl (fLdM 1 359)) ::
  (359, .inl (fLoad 0 4 361)) ::
  (361, .inl (genD (sStM 1 362))) ::
  (362, .inl (fLoad 2 0 363)) ::
  (363, .inl (fGetF 0 6 366)) ::
  (366, .inl (fLoad 2 0 367)) ::
  (367, .inl (fGetF 0 5 370)) ::
  (370, .inl (fLoad 0 5 372)) ::
  (372, .inl (fLdM 1 373)) ::
  (373, .inl (fLoad 0 5 375)) ::
  (375, .inl (genD (sStM 1 376))) ::
  (376, .inl (gen (sIinc 5 1 379))) ::
  (379, .inl (fGoto 336)) ::
  ce_10_10
def ce_10_8 : List ElF := (318, .inl (fLoad 0 4 320)) ::
  (320, .inl (fLoad 2 0 321)) ::
  (321, .inl (fGetF 0 11 324)) ::
  (324, .inl (fIcmp .ge 388 327)) ::
  (327, .inl (fLoad 2 0 328)) ::
  (328, .inl (fGetF 0 3 331)) ::
  (331, .inl (fLoad 0 4 333)) ::
  (333, .inl (fLdM 1 334)) ::
  (334, .inl (fStore 0 5 336)) ::
  ce_10_9
def ce_10_7 : List ElF := (274, .inl (fLoad 2 0 275)) ::
  (275, .inl (fGetF 0 10 278)) ::
  (278, .inl (fLoad 2 0 279)) ::
  (279, .inl (fGetF 0 3 282)) ::
  (282, .inl (fLoad 0 1 283)) ::
  (283, .inl (fLdM 1 284)) ::
  (284, .inl (fLoad 2 0 285)) ::
  (285, .inl (fGetF 0 5 288)) ::
  (288, .inl (fLoad 2 0 289)) ::
  (289, .inl (fGetF 0 3 292)) ::
  (292, .inl (fLoad 0 1 293)) ::
  (293, .inl (fLdM 1 294)) ::
  (294, .inl (fLoad 2 0 295)) ::
  (295, .inl (fGetF 0 4 298)) ::
  (298, .inl (fLoad 0 1 299)) ::
  (299, .inl (fLdM 1 300)) ::
  (300, .inl (fLoad 2 0 301)) ::
  (301, .inl (fGetF 0 3 304)) ::
  (304, .inl (fLoad 0 1 305)) ::
  (305, .inl (fLdM 1 306)) ::
  (306, .inl (fBin 0 0 0 (jI Term.sub) 307)) ::
  (307, .inr (.inr (.inr (.inl (sCopy 1 7 310))))) ::
  (310, .inl (fLoad 2 0 311)) ::
  (311, .inl (fGetF 0 2 314)) ::
  (314, .inl (fLoad 0 1 315)) ::
  (315, .inl (fLdM 1 316)) ::
  (316, .inl (fStore 0 4 318)) ::
  ce_10_8
def ce_10_6 : List ElF := (219, .inl (fLoad 0 4 221)) ::
  (221, .inl (fLoad 2 0 222)) ::
  (222, .inl (fGetF 0 4 225)) ::
  (225, .inl (fLoad 0 1 226)) ::
  (226, .inl (fLdM 1 227)) ::
  (227, .inl (fIcmp .ge 274 230)) ::
  (230, .inl (fLoad 2 0 231)) ::
  (231, .inl (fGetF 0 10 234)) ::
  (234, .inl (fLoad 2 0 235)) ::
  (235, .inl (fGetF 0 9 238)) ::
  (238, .inl (fLoad 2 0 239)) ::
  (239, .inl (fGetF 0 8 242)) ::
  (242, .inl (fLoad 2 2 243)) ::
  (243, .inl (fLoad 2 0 244)) ::
  (244, .inl (fGetF 0 5 247)) ::
  (247, .inl (fLoad 0 4 249)) ::
  (249, .inl (fLdM 1 250)) ::
  (250, .inl (fLdM 1 251)) ::
  (251, .inl (fPush (0, .int 1) 252)) ::
  (252, .inl (fBin 0 0 0 (jI Term.add) 253)) ::
  (253, .inl (fLdM 1 254)) ::
  (254, .inl (gen (sDup2 255))) ::
  (255, .inl (fLdM 1 256)) ::
  (256, .inl (gen (sDupX2 257))) ::
  (257, .inl (fPush (0, .int 1) 258)) ::
  (258, .inl (fBin 0 0 0 (jI Term.add) 259)) ::
  (259, .inl (genD (sStM 1 260))) ::
  (260, .inl (fLoad 2 0 261)) ::
  (261, .inl (fGetF 0 5 264)) ::
  (264, .inl (fLoad 0 4 266)) ::
  (266, .inl (fLdM 1 267)) ::
  (267, .inl (genD (sStM 1 268))) ::
  (268, .inl (gen (sIinc 4 1 271))) ::
  (271, .inl (fGoto 219)) ::
  ce_10_7
def ce_10_5 : List ElF := (211, .inl (fLoad 2 0 212)) ::
  (212, .inl (fGetF 0 3 215)) ::
  (215, .inl (fLoad 0 1 216)) ::
  (216, .inl (fLdM 1 217)) ::
  (217, .inl (fStore 0 4 219)) ::
  ce_10_6
def ce_10_4 : List ElF := (111, .inl (fLoad 0 4 113)) ::
  (113, .inl (fLoad 0 3 114)) ::
  (114, .inl (fIcmp .ge 211 117)) ::
  (117, .inl (fLoad 2 0 118)) ::
  (118, .inl (gen (sDup 119))) ::
  (119, .inl (fGetF 0 11 122)) ::
  (122, .inl (gen (sDupX1 123))) ::
  (123, .inl (fPush (0, .int 1) 124)) ::
  (124, .inl (fBin 0 0 0 (jI Term.add) 125)) ::
  (125, .inl (genD (sPutF 0 11 .int 128))) ::
  (128, .inl (fStore 0 6 130)) ::
  (130, .inl (fLoad 2 0 131)) ::
  (131, .inl (fGetF 0 0 134)) ::
  (134, .inl (fLoad 0 6 136)) ::
  (136, .inl (fLoad 0 1 137)) ::
  (137, .inl (genD (sStM 1 138))) ::
  (138, .inl (fLoad 2 0 139)) ::
  (139, .inl (fGetF 0 1 142)) ::
  (142, .inl (fLoad 0 6 144)) ::
  (144, .inl (fLoad 2 0 145)) ::
  (145, .inl (fGetF 0 1 148)) ::
  (148, .inl (fLoad 0 1 149)) ::
  (149, .inl (fLdM 1 150)) ::
  (150, .inl (fPush (0, .int 1) 151)) ::
  (151, .inl (fBin 0 0 0 (jI Term.add) 152)) ::
  (152, .inl (genD (sStM 1 153))) ::
  (153, .inl (fLoad 2 0 154)) ::
  (154, .inl (fGetF 0 2 157)) ::
  (157, .inl (fLoad 0 6 159)) ::
  (159, .inl (fPush (0, .int (-1)) 160)) ::
  (160, .inl (genD (sStM 1 161))) ::
  (161, .inl (fLoad 2 0 162)) ::
  (162, .inl (fGetF 0 3 165)) ::
  (165, .inl (fLoad 0 6 167)) ::
  (167, .inl (fLoad 0 5 169)) ::
  (169, .inl (genD (sStM 1 170))) ::
  (170, .inl (fLoad 0 5 172)) ::
  (172, .inl (fLoad 2 0 173)) ::
  (173, .inl (fGetF 0 9 176)) ::
  (176, .inl (fLoad 0 4 178)) ::
  (178, .inl (fLdM 1 179)) ::
  (179, .inl (fBin 0 0 0 (jI Term.add) 180)) ::
  (180, .inl (fStore 0 5 182)) ::
  (182, .inl (fLoad 2 0 183)) ::
  (183, .inl (fGetF 0 4 186)) ::
  (186, .inl (fLoad 0 6 188)) ::
  (188, .inl (fLoad 0 5 190)) ::
  (190, .inl (genD (sStM 1 191))) ::
  (191, .inl (fLoad 2 0 192)) ::
  (192, .inl (fGetF 0 9 195)) ::
  (195, .inl (fLoad 0 4 197)) ::
  (197, .inl (fLoad 2 0 198)) ::
  (198, .inl (fGetF 0 3 201)) ::
  (201, .inl (fLoad 0 6 203)) ::
  (203, .inl (fLdM 1 204)) ::
  (204, .inl (genD (sStM 1 205))) ::
  (205, .inl (gen (sIinc 4 1 208))) ::
  (208, .inl (fGoto 111)) ::
  ce_10_5
def ce_10_3 : List ElF := (85, .inl (fLoad 0 3 86)) ::
  (86, .inl (fPush (0, .int 1) 87)) ::
  (87, .inl (fIcmp .le 388 90)) ::
  (90, .inl (fLoad 2 0 91)) ::
  (91, .inl (fGetF 0 2 94)) ::
  (94, .inl (fLoad 0 1 95)) ::
  (95, .inl (fLoad 2 0 96)) ::
  (96, .inl (fGetF 0 11 99)) ::
  (99, .inl (genD (sStM 1 100))) ::
  (100, .inl (fPush (0, .int 0) 101)) ::
  (101, .inl (fStore 0 4 103)) ::
  (103, .inl (fLoad 2 0 104)) ::
  (104, .inl (fGetF 0 3 107)) ::
  (107, .inl (fLoad 0 1 108)) ::
  (108, .inl (fLdM 1 109)) ::
  (109, .inl (fStore 0 5 111)) ::
  ce_10_4
def ce_10_2 : List ElF := (63, .inl (fLoad 2 0 64)) ::
  (64, .inl (fGetF 0 9 67)) ::
  (67, .inl (fLoad 2 0 68)) ::
  (68, .inl (fGetF 0 8 71)) ::
  (71, .inl (fLoad 0 5 73)) ::
  (73, .inl (fLdM 1 74)) ::
  (74, .inl (gen (sDup2 75))) ::
  (75, .inl (fLdM 1 76)) ::
  (76, .inl (fPush (0, .int 1) 77)) ::
  (77, .inl (fBin 0 0 0 (jI Term.add) 78)) ::
  (78, .inl (genD (sStM 1 79))) ::
  (79, .inl (gen (sIinc 4 1 82))) ::
  (82, .inl (fGoto 10)) ::
  ce_10_3
def ce_10_1 : List ElF := (10, .inl (fLoad 0 4 12)) ::
  (12, .inl (fLoad 2 0 13)) ::
  (13, .inl (fGetF 0 4 16)) ::
  (16, .inl (fLoad 0 1 17)) ::
  (17, .inl (fLdM 1 18)) ::
  (18, .inl (fIcmp .ge 85 21)) ::
  (21, .inl (fLoad 2 2 22)) ::
  (22, .inl (fLoad 2 0 23)) ::
  (23, .inl (fGetF 0 5 26)) ::
  (26, .inl (fLoad 0 4 28)) ::
  (28, .inl (fLdM 1 29)) ::
  (29, .inl (fLdM 1 30)) ::
  (30, .inl (fPush (0, .int 1) 31)) ::
  (31, .inl (fBin 0 0 0 (jI Term.add) 32)) ::
  (32, .inl (fStore 0 5 34)) ::
  (34, .inl (fLoad 2 0 35)) ::
  (35, .inl (fGetF 0 8 38)) ::
  (38, .inl (fLoad 0 5 40)) ::
  (40, .inl (fLdM 1 41)) ::
  (41, .inl (fPush (0, .int (-1)) 42)) ::
  (42, .inl (fIcmp .ne 63 45)) ::
  (45, .inl (fLoad 2 0 46)) ::
  (46, .inl (fGetF 0 9 49)) ::
  (49, .inl (fLoad 0 3 50)) ::
  (50, .inl (fPush (0, .int 0) 51)) ::
  (51, .inl (genD (sStM 1 52))) ::
  (52, .inl (fLoad 2 0 53)) ::
  (53, .inl (fGetF 0 8 56)) ::
  (56, .inl (fLoad 0 5 58)) ::
  (58, .inl (fLoad 0 3 59)) ::
  (59, .inl (gen (sIinc 3 1 62))) ::
  (62, .inl (genD (sStM 1 63))) ::
  ce_10_2
def ce_10_0 : List ElF := (0, .inl (fPush (0, .int 0) 1)) ::
  (1, .inl (fStore 0 3 2)) ::
  (2, .inl (fLoad 2 0 3)) ::
  (3, .inl (fGetF 0 3 6)) ::
  (6, .inl (fLoad 0 1 7)) ::
  (7, .inl (fLdM 1 8)) ::
  (8, .inl (fStore 0 4 10)) ::
  ce_10_1
def ce_10 : List ElF := ce_10_0
theorem re_10 : RelL ce_10 cd_10 := by
  refine relC (fPush_ok _ _) ?_
  refine relC (fStore_ok _ _ _ (by decide)) ?_
  refine relC (fLoad_ok _ _ _) ?_
  refine relC (fGetF_ok _ _ _) ?_
  refine relC (fLoad_ok _ _ _) ?_
  refine relC (fLdM_ok _ _ rfl) ?_
  refine relC (fStore_ok _ _ _ (by decide)) ?_
  refine relC (fLoad_ok _ _ _) ?_
  refine relC (fLoad_ok _ _ _) ?_
  refine relC (fGetF_ok _ _ _) ?_
  refine relC (fLoad_ok _ _ _) ?_
  refine relC (fLdM_ok _ _ rfl) ?_
  refine relC (fIcmp_ok _ _ _) ?_
  refine relC (fLoad_ok _ _ _) ?_
  refine relC (fLoad_ok _ _ _) ?_
  refine relC (fGetF_ok _ _ _) ?_
  refine relC (fLoad_ok _ _ _) ?_
  refine relC (fLdM_ok _ _ rfl) ?_
  refine relC (fLdM_ok _ _ rfl) ?_
  refine relC (fPush_ok _ _) ?_
  refine relC (fBin_ok _ _ _ _ _) ?_
  refine relC (fStore_ok _ _ _ (by decide)) ?_
  refine relC (fLoad_ok _ _ _) ?_
  refine relC (fGetF_ok _ _ _) ?_
  refine relC (fLoad_ok _ _ _) ?_
  refine relC (fLdM_ok _ _ rfl) ?_
  refine relC (fPush_ok _ _) ?_
  refine relC (fIcmp_ok _ _ _) ?_
  refine relC (fLoad_ok _ _ _) ?_
  refine relC (fGetF_ok _ _ _) ?_
  refine relC (fLoad_ok _ _ _) ?_
  refine relC (fPush_ok _ _) ?_
  refine relC (genD_ok _) ?_
  refine relC (fLoad_ok _ _ _) ?_
  refine relC (fGetF_ok _ _ _) ?_
  refine relC (fLoad_ok _ _ _) ?_
  refine relC (fLoad_ok _ _ _) ?_
  refine relC (gen_ok _) ?_
  refine relC (genD_ok _) ?_
  refine relC (fLoad_ok _ _ _) ?_
  refine relC (fGetF_ok _ _ _) ?_
  refine relC (fLoad_ok _ _ _) ?_
  refine relC (fGetF_ok _ _ _) ?_
  refine relC (fLoad_ok _ _ _) ?_
  refine relC (fLdM_ok _ _ rfl) ?_
  refine relC (gen_ok _) ?_
  refine relC (fLdM_ok _ _ rfl) ?_
  refine relC (fPush_ok _ _) ?_
  refine relC (fBin_ok _ _ _ _ _) ?_
  refine relC (genD_ok _) ?_
  refine relC (gen_ok _) ?_
  refine relC (fGoto_ok _) ?_
  refine relC (fLoad_ok _ _ _) ?_
  refine relC (fPush_ok _ _) ?_
  refine relC (fIcmp_ok _ _ _) ?_
  refine relC (fLoad_ok _ _ _) ?_
  refine relC (fGetF_ok _ _ _) ?_
  refine relC (fLoad_ok _ _ _) ?_
  refine relC (fLoad_ok _ _ _) ?_
  refine relC (fGetF_ok _ _ _) ?_
  refine relC (genD_ok _) ?_
  refine relC (fPush_ok _ _) ?_
  refine relC (fStore_ok _ _ _ (by decide)) ?_
  refine relC (fLoad_ok _ _ _) ?_
  refine relC (fGetF_ok _ _ _) ?_
  refine relC (fLoad_ok _ _ _) ?_
  refine relC (fLdM_ok _ _ rfl) ?_
  refine relC (fStore_ok _ _ _ (by decide)) ?_
  refine relC (fLoad_ok _ _ _) ?_
  refine relC (fLoad_ok _ _ _) ?_
  refine relC (fIcmp_ok _ _ _) ?_
  refine relC (fLoad_ok _ _ _) ?_
  refine relC (gen_ok _) ?_
  refine relC (fGetF_ok _ _ _) ?_
  refine relC (gen_ok _) ?_
  refine relC (fPush_ok _ _) ?_
  refine relC (fBin_ok _ _ _ _ _) ?_
  refine relC (genD_ok _) ?_
  refine relC (fStore_ok _ _ _ (by decide)) ?_
  refine relC (fLoad_ok _ _ _) ?_
  refine relC (fGetF_ok _ _ _) ?_
  refine relC (fLoad_ok _ _ _) ?_
  refine relC (fLoad_ok _ _ _) ?_
  refine relC (genD_ok _) ?_
  refine relC (fLoad_ok _ _ _) ?_
  refine relC (fGetF_ok _ _ _) ?_
  refine relC (fLoad_ok _ _ _) ?_
  refine relC (fLoad_ok _ _ _) ?_
  refine relC (fGetF_ok _ _ _) ?_
  refine relC (fLoad_ok _ _ _) ?_
  refine relC (fLdM_ok _ _ rfl) ?_
  refine relC (fPush_ok _ _) ?_
  refine relC (fBin_ok _ _ _ _ _) ?_
  refine relC (genD_ok _) ?_
  refine relC (fLoad_ok _ _ _) ?_
  refine relC (fGetF_ok _ _ _) ?_
  refine relC (fLoad_ok _ _ _) ?_
  refine relC (fPush_ok _ _) ?_
  refine relC (genD_ok _) ?_
  refine relC (fLoad_ok _ _ _) ?_
  refine relC (fGetF_ok _ _ _) ?_
  refine relC (fLoad_ok _ _ _) ?_
  refine relC (fLoad_ok _ _ _) ?_
  refine relC (genD_ok _) ?_
  refine relC (fLoad_ok _ _ _) ?_
  refine relC (fLoad_ok _ _ _) ?_
  refine relC (fGetF_ok _ _ _) ?_
  refine relC (fLoad_ok _ _ _) ?_
  refine relC (fLdM_ok _ _ rfl) ?_
  refine relC (fBin_ok _ _ _ _ _) ?_
  refine relC (fStore_ok _ _ _ (by decide)) ?_
  refine relC (fLoad_ok _ _ _) ?_
  refine relC (fGetF_ok _ _ _) ?_
  refine relC (fLoad_ok _ _ _) ?_
  refine relC (fLoad_ok _ _ _) ?_
  refine relC (genD_ok _) ?_
  refine relC (fLoad_ok _ _ _) ?_
  refine relC (fGetF_ok _ _ _) ?_
  refine relC (fLoad_ok _ _ _) ?_
  refine relC (fLoad_ok _ _ _) ?_
  refine relC (fGetF_ok _ _ _) ?_
  refine relC (fLoad_ok _ _ _) ?_
  refine relC (fLdM_ok _ _ rfl) ?_
  refine relC (genD_ok _) ?_
  refine relC (gen_ok _) ?_
  refine relC (fGoto_ok _) ?_
  refine relC (fLoad_ok _ _ _) ?_
  refine relC (fGetF_ok _ _ _) ?_
  refine relC (fLoad_ok _ _ _) ?_
  refine relC (fLdM_ok _ _ rfl) ?_
  refine relC (fStore_ok _ _ _ (by decide)) ?_
  refine relC (fLoad_ok _ _ _) ?_
  refine relC (fLoad_ok _ _ _) ?_
  refine relC (fGetF_ok _ _ _) ?_
  refine relC (fLoad_ok _ _ _) ?_
  refine relC (fLdM_ok _ _ rfl) ?_
  refine relC (fIcmp_ok _ _ _) ?_
  refine relC (fLoad_ok _ _ _) ?_
  refine relC (fGetF_ok _ _ _) ?_
  refine relC (fLoad_ok _ _ _) ?_
  refine relC (fGetF_ok _ _ _) ?_
  refine relC (fLoad_ok _ _ _) ?_
  refine relC (fGetF_ok _ _ _) ?_
  refine relC (fLoad_ok _ _ _) ?_
  refine relC (fLoad_ok _ _ _) ?_
  refine relC (fGetF_ok _ _ _) ?_
  refine relC (fLoad_ok _ _ _) ?_
  refine relC (fLdM_ok _ _ rfl) ?_
  refine relC (fLdM_ok _ _ rfl) ?_
  refine relC (fPush_ok _ _) ?_
  refine relC (fBin_ok _ _ _ _ _) ?_
  refine relC (fLdM_ok _ _ rfl) ?_
  refine relC (gen_ok _) ?_
  refine relC (fLdM_ok _ _ rfl) ?_
  refine relC (gen_ok _) ?_
  refine relC (fPush_ok _ _) ?_
  refine relC (fBin_ok _ _ _ _ _) ?_
  refine relC (genD_ok _) ?_
  refine relC (fLoad_ok _ _ _) ?_
  refine relC (fGetF_ok _ _ _) ?_
  refine relC (fLoad_ok _ _ _) ?_
  refine relC (fLdM_ok _ _ rfl) ?_
  refine relC (genD_ok _) ?_
  refine relC (gen_ok _) ?_
  refine relC (fGoto_ok _) ?_
  refine relC (fLoad_ok _ _ _) ?_
  refine relC (fGetF_ok _ _ _) ?_
  refine relC (fLoad_ok _ _ _) ?_
  refine relC (fGetF_ok _ _ _) ?_
  refine relC (fLoad_ok _ _ _) ?_
  refine relC (fLdM_ok _ _ rfl) ?_
  refine relC (fLoad_ok _ _ _) ?_
  refine relC (fGetF_ok _ _ _) ?_
  refine relC (fLoad_ok _ _ _) ?_
  refine relC (fGetF_ok _ _ _) ?_
  refine relC (fLoad_ok _ _ _) ?_
  refine relC (fLdM_ok _ _ rfl) ?_
  refine relC (fLoad_ok _ _ _) ?_
  refine relC (fGetF_ok _ _ _) ?_
  refine relC (fLoad_ok _ _ _) ?_
  refine relC (fLdM_ok _ _ rfl) ?_
  refine relC (fLoad_ok _ _ _) ?_
  refine relC (fGetF_ok _ _ _) ?_
  refine relC (fLoad_ok _ _ _) ?_
  refine relC (fLdM_ok _ _ rfl) ?_
  refine relC (fBin_ok _ _ _ _ _) ?_
  refine relO ?_
  refine relC (fLoad_ok _ _ _) ?_
  refine relC (fGetF_ok _ _ _) ?_
  refine relC (fLoad_ok _ _ _) ?_
  refine relC (fLdM_ok _ _ rfl) ?_
  refine relC (fStore_ok _ _ _ (by decide)) ?_
  refine relC (fLoad_ok _ _ _) ?_
  refine relC (fLoad_ok _ _ _) ?_
  refine relC (fGetF_ok _ _ _) ?_
  refine relC (fIcmp_ok _ _ _) ?_
  refine relC (fLoad_ok _ _ _) ?_
  refine relC (fGetF_ok _ _ _) ?_
  refine relC (fLoad_ok _ _ _) ?_
  refine relC (fLdM_ok _ _ rfl) ?_
  refine relC (fStore_ok _ _ _ (by decide)) ?_
  refine relC (fLoad_ok _ _ _) ?_
  refine relC (fLoad_ok _ _ _) ?_
  refine relC (fGetF_ok _ _ _) ?_
  refine relC (fLoad_ok _ _ _) ?_
  refine relC (fLdM_ok _ _ rfl) ?_
  refine relC (fIcmp_ok _ _ _) ?_
  refine relC (fLoad_ok _ _ _) ?_
  refine relC (fGetF_ok _ _ _) ?_
  refine relC (fLoad_ok _ _ _) ?_
  refine relC (fGetF_ok _ _ _) ?_
  refine relC (fLoad_ok _ _ _) ?_
  refine relC (fLdM_ok _ _ rfl) ?_
  refine relC (fLoad_ok _ _ _) ?_
  refine relC (genD_ok _) ?_
  refine relC (fLoad_ok _ _ _) ?_
  refine relC (fGetF_ok _ _ _) ?_
  refine relC (fLoad_ok _ _ _) ?_
  refine relC (fGetF_ok _ _ _) ?_
  refine relC (fLoad_ok _ _ _) ?_
  refine relC (fLdM_ok _ _ rfl) ?_
  refine relC (fLoad_ok _ _ _) ?_
  refine relC (genD_ok _) ?_
  refine relC (gen_ok _) ?_
  refine relC (fGoto_ok _) ?_
  refine relC (gen_ok _) ?_
  refine relC (fGoto_ok _) ?_
  refine relC (fLoad_ok _ _ _) ?_
  refine relC (fGetF_ok _ _ _) ?_
  refine relC (fLoad_ok _ _ _) ?_
  refine relC (fLdM_ok _ _ rfl) ?_
  refine relC (fStore_ok _ _ _ (by decide)) ?_
  refine relC (fLoad_ok _ _ _) ?_
  refine relC (fLoad_ok _ _ _) ?_
  refine relC (fGetF_ok _ _ _) ?_
  refine relC (fLoad_ok _ _ _) ?_
  refine relC (fLdM_ok _ _ rfl) ?_
  refine relC (fIcmp_ok _ _ _) ?_
  refine relC (fLoad_ok _ _ _) ?_
  refine relC (fGetF_ok _ _ _) ?_
  refine relC (fLoad_ok _ _ _) ?_
  refine relC (fLoad_ok _ _ _) ?_
  refine relC (fGetF_ok _ _ _) ?_
  refine relC (fLoad_ok _ _ _) ?_
  refine relC (fLdM_ok _ _ rfl) ?_
  refine relC (fLdM_ok _ _ rfl) ?_
  refine relC (fPush_ok _ _) ?_
  refine relC (fBin_ok _ _ _ _ _) ?_
  refine relC (fPush_ok _ _) ?_
  refine relC (genD_ok _) ?_
  refine relC (gen_ok _) ?_
  refine relC (fGoto_ok _) ?_
  refine relC (fLoad_ok _ _ _) ?_
  refine relC (fPush_ok _ _) ?_
  refine relC (fIcmp_ok _ _ _) ?_
  refine relC (fPush_ok _ _) ?_
  refine relC (fGoto_ok _) ?_
  refine relC (fPush_ok _ _) ?_
  refine relO ?_
  exact relN
def jt_10 : List (Nat × List ElF) := [(10, ce_10_1), (63, ce_10_2), (85, ce_10_3), (111, ce_10_4), (211, ce_10_5), (219, ce_10_6), (274, ce_10_7), (318, ce_10_8), (336, ce_10_9), (382, ce_10_10), (388, ce_10_11), (396, ce_10_12), (430, ce_10_13), (439, ce_10_14), (440, ce_10_15)]
set_option maxRecDepth 65536 in
theorem rj_10 : ∀ q ∈ jt_10, RelL q.2 (seekF cd_10 q.1) := jc re_10 rfl (jc re_10 rfl (jc re_10 rfl (jc re_10 rfl (jc re_10 rfl (jc re_10 rfl (jc re_10 rfl (jc re_10 rfl (jc re_10 rfl (jc re_10 rfl (jc re_10 rfl (jc re_10 rfl (jc re_10 rfl (jc re_10 rfl (jc re_10 rfl (jn)))))))))))))))
def ce_11_1 : List ElF := (5, .inl (gen (sSplit 5 (sLdM 1 6)))) ::
  (6, .inr (.inr (.inl (rVal .int)))) ::
  []
def ce_11_0 : List ElF := (0, .inl (fLoad 2 0 1)) ::
  (1, .inl (fGetF 0 7 4)) ::
  (4, .inl (fLoad 0 1 5)) ::
  ce_11_1
def ce_11 : List ElF := ce_11_0
theorem re_11 : RelL ce_11 cd_11 := by
  refine relC (fLoad_ok _ _ _) ?_
  refine relC (fGetF_ok _ _ _) ?_
  refine relC (fLoad_ok _ _ _) ?_
  refine relC (gen_ok _) ?_
  refine relO ?_
  exact relN
def jt_11 : List (Nat × List ElF) := [(5, ce_11_1)]
set_option maxRecDepth 65536 in
theorem rj_11 : ∀ q ∈ jt_11, RelL q.2 (seekF cd_11 q.1) := jc re_11 rfl (jn)
def ce_12_0 : List ElF := (0, .inl (fLoad 2 0 1)) ::
  (1, .inl (fGetF 0 11 4)) ::
  (4, .inr (.inr (.inl (rVal .int)))) ::
  []
def ce_12 : List ElF := ce_12_0
theorem re_12 : RelL ce_12 cd_12 := by
  refine relC (fLoad_ok _ _ _) ?_
  refine relC (fGetF_ok _ _ _) ?_
  refine relO ?_
  exact relN
def jt_12 : List (Nat × List ElF) := []
set_option maxRecDepth 65536 in
theorem rj_12 : ∀ q ∈ jt_12, RelL q.2 (seekF cd_12 q.1) := jn
def ce_13_0 : List ElF := (0, .inl (fLoad 2 0 1)) ::
  (1, .inl (fGetF 0 3 4)) ::
  (4, .inl (fLoad 0 1 5)) ::
  (5, .inl (fLdM 1 6)) ::
  (6, .inr (.inr (.inl (rVal .int)))) ::
  []
def ce_13 : List ElF := ce_13_0
theorem re_13 : RelL ce_13 cd_13 := by
  refine relC (fLoad_ok _ _ _) ?_
  refine relC (fGetF_ok _ _ _) ?_
  refine relC (fLoad_ok _ _ _) ?_
  refine relC (fLdM_ok _ _ rfl) ?_
  refine relO ?_
  exact relN
def jt_13 : List (Nat × List ElF) := []
set_option maxRecDepth 65536 in
theorem rj_13 : ∀ q ∈ jt_13, RelL q.2 (seekF cd_13 q.1) := jn
def ce_14_2 : List ElF := (10, .inr (.inr (.inl (rVal .int)))) ::
  []
def ce_14_1 : List ElF := (9, .inl (fLoad 0 1 10)) ::
  ce_14_2
def ce_14_0 : List ElF := (0, .inl (fLoad 0 0 1)) ::
  (1, .inl (fLoad 0 1 2)) ::
  (2, .inl (fIcmp .gt 9 5)) ::
  (5, .inl (fLoad 0 0 6)) ::
  (6, .inl (fGoto 10)) ::
  ce_14_1
def ce_14 : List ElF := ce_14_0
theorem re_14 : RelL ce_14 cd_14 := by
  refine relC (fLoad_ok _ _ _) ?_
  refine relC (fLoad_ok _ _ _) ?_
  refine relC (fIcmp_ok _ _ _) ?_
  refine relC (fLoad_ok _ _ _) ?_
  refine relC (fGoto_ok _) ?_
  refine relC (fLoad_ok _ _ _) ?_
  refine relO ?_
  exact relN
def jt_14 : List (Nat × List ElF) := [(9, ce_14_1), (10, ce_14_2)]
set_option maxRecDepth 65536 in
theorem rj_14 : ∀ q ∈ jt_14, RelL q.2 (seekF cd_14 q.1) := jc re_14 rfl (jc re_14 rfl (jn))
def ce_15_0 : List ElF := (0, .inl (fLoad 2 0 1)) ::
  (1, .inl (fGetF 0 4 4)) ::
  (4, .inl (fLoad 0 1 5)) ::
  (5, .inl (fLdM 1 6)) ::
  (6, .inr (.inr (.inl (rVal .int)))) ::
  []
def ce_15 : List ElF := ce_15_0
theorem re_15 : RelL ce_15 cd_15 := by
  refine relC (fLoad_ok _ _ _) ?_
  refine relC (fGetF_ok _ _ _) ?_
  refine relC (fLoad_ok _ _ _) ?_
  refine relC (fLdM_ok _ _ rfl) ?_
  refine relO ?_
  exact relN
def jt_15 : List (Nat × List ElF) := []
set_option maxRecDepth 65536 in
theorem rj_15 : ∀ q ∈ jt_15, RelL q.2 (seekF cd_15 q.1) := jn
def ce_16_0 : List ElF := (0, .inl (fLoad 2 0 1)) ::
  (1, .inl (fGetF 0 5 4)) ::
  (4, .inl (fLoad 0 1 5)) ::
  (5, .inl (fLdM 1 6)) ::
  (6, .inr (.inr (.inl (rVal .int)))) ::
  []
def ce_16 : List ElF := ce_16_0
theorem re_16 : RelL ce_16 cd_16 := by
  refine relC (fLoad_ok _ _ _) ?_
  refine relC (fGetF_ok _ _ _) ?_
  refine relC (fLoad_ok _ _ _) ?_
  refine relC (fLdM_ok _ _ rfl) ?_
  refine relO ?_
  exact relN
def jt_16 : List (Nat × List ElF) := []
set_option maxRecDepth 65536 in
theorem rj_16 : ∀ q ∈ jt_16, RelL q.2 (seekF cd_16 q.1) := jn
def ce_17_4 : List ElF := (94, .inl (fLoad 0 5 96)) ::
  (96, .inr (.inr (.inl (rVal .int)))) ::
  []
def ce_17_3 : List ElF := (70, .inl (fLoad 2 0 71)) ::
  (71, .inl (fGetF 0 4 74)) ::
  (74, .inl (fLoad 0 5 76)) ::
  (76, .inl (fLdM 1 77)) ::
  (77, .inl (fLoad 0 4 79)) ::
  (79, .inl (fIcmp .gt 94 82)) ::
  (82, .inl (fLoad 2 0 83)) ::
  (83, .inl (fGetF 0 0 86)) ::
  (86, .inl (fLoad 0 5 88)) ::
  (88, .inl (fLdM 1 89)) ::
  (89, .inl (fStore 0 5 91)) ::
  (91, .inl (fGoto 70)) ::
  ce_17_4
def ce_17_2 : List ElF := (57, .inl (fLoad 2 0 58)) ::
  (58, .inl (fGetF 0 7 61)) ::
  (61, .inl (fLoad 2 0 62)) ::
  (62, .inl (fGetF 0 5 65)) ::
  (65, .inl (fLoad 0 3 66)) ::
  (66, .inl (fLdM 1 67)) ::
  (67, .inl (fLdM 1 68)) ::
  (68, .inl (fStore 0 5 70)) ::
  ce_17_3
def ce_17_1 : List ElF := (15, .inl (fLoad 0 5 17)) ::
  (17, .inl (fLoad 0 2 18)) ::
  (18, .inl (fIcmp .ge 57 21)) ::
  (21, .inl (fLoad 0 3 22)) ::
  (22, .inl (fLoad 2 0 23)) ::
  (23, .inl (fGetF 0 6 26)) ::
  (26, .inl (fLoad 2 1 27)) ::
  (27, .inl (fLoad 0 5 29)) ::
  (29, .inl (fLdM 1 30)) ::
  (30, .inl (fLdM 1 31)) ::
  (31, .inr (.inl (14, 2, 34, ckAny))) ::
  (34, .inl (fStore 0 3 35)) ::
  (35, .inl (fLoad 0 4 37)) ::
  (37, .inl (fLoad 2 0 38)) ::
  (38, .inl (fGetF 0 6 41)) ::
  (41, .inl (fLoad 2 1 42)) ::
  (42, .inl (fLoad 0 5 44)) ::
  (44, .inl (fLdM 1 45)) ::
  (45, .inl (fLdM 1 46)) ::
  (46, .inr (.inl (3, 2, 49, ckAny))) ::
  (49, .inl (fStore 0 4 51)) ::
  (51, .inl (gen (sIinc 5 1 54))) ::
  (54, .inl (fGoto 15)) ::
  ce_17_2
def ce_17_0 : List ElF := (0, .inl (fLoad 2 0 1)) ::
  (1, .inl (fGetF 0 6 4)) ::
  (4, .inl (fLoad 2 1 5)) ::
  (5, .inl (fPush (0, .int 0) 6)) ::
  (6, .inl (fLdM 1 7)) ::
  (7, .inl (fLdM 1 8)) ::
  (8, .inl (fStore 0 3 9)) ::
  (9, .inl (fLoad 0 3 10)) ::
  (10, .inl (fStore 0 4 12)) ::
  (12, .inl (fPush (0, .int 1) 13)) ::
  (13, .inl (fStore 0 5 15)) ::
  ce_17_1
def ce_17 : List ElF := ce_17_0
theorem re_17 : RelL ce_17 cd_17 := by
  refine relC (fLoad_ok _ _ _) ?_
  refine relC (fGetF_ok _ _ _) ?_
  refine relC (fLoad_ok _ _ _) ?_
  refine relC (fPush_ok _ _) ?_
  refine relC (fLdM_ok _ _ rfl) ?_
  refine relC (fLdM_ok _ _ rfl) ?_
  refine relC (fStore_ok _ _ _ (by decide)) ?_
  refine relC (fLoad_ok _ _ _) ?_
  refine relC (fStore_ok _ _ _ (by decide)) ?_
  refine relC (fPush_ok _ _) ?_
  refine relC (fStore_ok _ _ _ (by decide)) ?_
  refine relC (fLoad_ok _ _ _) ?_
  refine relC (fLoad_ok _ _ _) ?_
  refine relC (fIcmp_ok _ _ _) ?_
  refine relC (fLoad_ok _ _ _) ?_
  refine relC (fLoad_ok _ _ _) ?_
  refine relC (fGetF_ok _ _ _) ?_
  refine relC (fLoad_ok _ _ _) ?_
  refine relC (fLoad_ok _ _ _) ?_
  refine relC (fLdM_ok _ _ rfl) ?_
  refine relC (fLdM_ok _ _ rfl) ?_
  refine relO ?_
  refine relC (fStore_ok _ _ _ (by decide)) ?_
  refine relC (fLoad_ok _ _ _) ?_
  refine relC (fLoad_ok _ _ _) ?_
  refine relC (fGetF_ok _ _ _) ?_
  refine relC (fLoad_ok _ _ _) ?_
  refine relC (fLoad_ok _ _ _) ?_
  refine relC (fLdM_ok _ _ rfl) ?_
  refine relC (fLdM_ok _ _ rfl) ?_
  refine relO ?_
  refine relC (fStore_ok _ _ _ (by decide)) ?_
  refine relC (gen_ok _) ?_
  refine relC (fGoto_ok _) ?_
  refine relC (fLoad_ok _ _ _) ?_
  refine relC (fGetF_ok _ _ _) ?_
  refine relC (fLoad_ok _ _ _) ?_
  refine relC (fGetF_ok _ _ _) ?_
  refine relC (fLoad_ok _ _ _) ?_
  refine relC (fLdM_ok _ _ rfl) ?_
  refine relC (fLdM_ok _ _ rfl) ?_
  refine relC (fStore_ok _ _ _ (by decide)) ?_
  refine relC (fLoad_ok _ _ _) ?_
  refine relC (fGetF_ok _ _ _) ?_
  refine relC (fLoad_ok _ _ _) ?_
  refine relC (fLdM_ok _ _ rfl) ?_
  refine relC (fLoad_ok _ _ _) ?_
  refine relC (fIcmp_ok _ _ _) ?_
  refine relC (fLoad_ok _ _ _) ?_
  refine relC (fGetF_ok _ _ _) ?_
  refine relC (fLoad_ok _ _ _) ?_
  refine relC (fLdM_ok _ _ rfl) ?_
  refine relC (fStore_ok _ _ _ (by decide)) ?_
  refine relC (fGoto_ok _) ?_
  refine relC (fLoad_ok _ _ _) ?_
  refine relO ?_
  exact relN
def jt_17 : List (Nat × List ElF) := [(15, ce_17_1), (57, ce_17_2), (70, ce_17_3), (94, ce_17_4)]
set_option maxRecDepth 65536 in
theorem rj_17 : ∀ q ∈ jt_17, RelL q.2 (seekF cd_17 q.1) := jc re_17 rfl (jc re_17 rfl (jc re_17 rfl (jc re_17 rfl (jn))))
def ce_18_4 : List ElF := (84, .inl (fLoad 0 3 85)) ::
  (85, .inr (.inr (.inl (rVal .int)))) ::
  []
def ce_18_3 : List ElF := (59, .inl (fLoad 0 3 60)) ::
  (60, .inl (fLoad 0 4 62)) ::
  (62, .inl (fIcmp .eq 84 65)) ::
  (65, .inl (fLoad 2 0 66)) ::
  (66, .inl (fGetF 0 0 69)) ::
  (69, .inl (fLoad 0 3 70)) ::
  (70, .inl (fLdM 1 71)) ::
  (71, .inl (fStore 0 3 72)) ::
  (72, .inl (fLoad 2 0 73)) ::
  (73, .inl (fGetF 0 0 76)) ::
  (76, .inl (fLoad 0 4 78)) ::
  (78, .inl (fLdM 1 79)) ::
  (79, .inl (fStore 0 4 81)) ::
  (81, .inl (fGoto 59)) ::
  ce_18_4
def ce_18_2 : List ElF := (31, .inl (fLoad 2 0 32)) ::
  (32, .inl (fGetF 0 1 35)) ::
  (35, .inl (fLoad 0 4 37)) ::
  (37, .inl (fLdM 1 38)) ::
  (38, .inl (fLoad 2 0 39)) ::
  (39, .inl (fGetF 0 1 42)) ::
  (42, .inl (fLoad 0 3 43)) ::
  (43, .inl (fLdM 1 44)) ::
  (44, .inl (fIcmp .le 59 47)) ::
  (47, .inl (fLoad 2 0 48)) ::
  (48, .inl (fGetF 0 0 51)) ::
  (51, .inl (fLoad 0 4 53)) ::
  (53, .inl (fLdM 1 54)) ::
  (54, .inl (fStore 0 4 56)) ::
  (56, .inl (fGoto 31)) ::
  ce_18_3
def ce_18_1 : List ElF := (5, .inl (fLoad 2 0 6)) ::
  (6, .inl (fGetF 0 1 9)) ::
  (9, .inl (fLoad 0 3 10)) ::
  (10, .inl (fLdM 1 11)) ::
  (11, .inl (fLoad 2 0 12)) ::
  (12, .inl (fGetF 0 1 15)) ::
  (15, .inl (fLoad 0 4 17)) ::
  (17, .inl (fLdM 1 18)) ::
  (18, .inl (fIcmp .le 31 21)) ::
  (21, .inl (fLoad 2 0 22)) ::
  (22, .inl (fGetF 0 0 25)) ::
  (25, .inl (fLoad 0 3 26)) ::
  (26, .inl (fLdM 1 27)) ::
  (27, .inl (fStore 0 3 28)) ::
  (28, .inl (fGoto 5)) ::
  ce_18_2
def ce_18_0 : List ElF := (0, .inl (fLoad 0 1 1)) ::
  (1, .inl (fStore 0 3 2)) ::
  (2, .inl (fLoad 0 2 3)) ::
  (3, .inl (fStore 0 4 5)) ::
  ce_18_1
def ce_18 : List ElF := ce_18_0
theorem re_18 : RelL ce_18 cd_18 := by
  refine relC (fLoad_ok _ _ _) ?_
  refine relC (fStore_ok _ _ _ (by decide)) ?_
  refine relC (fLoad_ok _ _ _) ?_
  refine relC (fStore_ok _ _ _ (by decide)) ?_
  refine relC (fLoad_ok _ _ _) ?_
  refine relC (fGetF_ok _ _ _) ?_
  refine relC (fLoad_ok _ _ _) ?_
  refine relC (fLdM_ok _ _ rfl) ?_
  refine relC (fLoad_ok _ _ _) ?_
  refine relC (fGetF_ok _ _ _) ?_
  refine relC (fLoad_ok _ _ _) ?_
  refine relC (fLdM_ok _ _ rfl) ?_
  refine relC (fIcmp_ok _ _ _) ?_
  refine relC (fLoad_ok _ _ _) ?_
  refine relC (fGetF_ok _ _ _) ?_
  refine relC (fLoad_ok _ _ _) ?_
  refine relC (fLdM_ok _ _ rfl) ?_
  refine relC (fStore_ok _ _ _ (by decide)) ?_
  refine relC (fGoto_ok _) ?_
  refine relC (fLoad_ok _ _ _) ?_
  refine relC (fGetF_ok _ _ _) ?_
  refine relC (fLoad_ok _ _ _) ?_
  refine relC (fLdM_ok _ _ rfl) ?_
  refine relC (fLoad_ok _ _ _) ?_
  refine relC (fGetF_ok _ _ _) ?_
  refine relC (fLoad_ok _ _ _) ?_
  refine relC (fLdM_ok _ _ rfl) ?_
  refine relC (fIcmp_ok _ _ _) ?_
  refine relC (fLoad_ok _ _ _) ?_
  refine relC (fGetF_ok _ _ _) ?_
  refine relC (fLoad_ok _ _ _) ?_
  refine relC (fLdM_ok _ _ rfl) ?_
  refine relC (fStore_ok _ _ _ (by decide)) ?_
  refine relC (fGoto_ok _) ?_
  refine relC (fLoad_ok _ _ _) ?_
  refine relC (fLoad_ok _ _ _) ?_
  refine relC (fIcmp_ok _ _ _) ?_
  refine relC (fLoad_ok _ _ _) ?_
  refine relC (fGetF_ok _ _ _) ?_
  refine relC (fLoad_ok _ _ _) ?_
  refine relC (fLdM_ok _ _ rfl) ?_
  refine relC (fStore_ok _ _ _ (by decide)) ?_
  refine relC (fLoad_ok _ _ _) ?_
  refine relC (fGetF_ok _ _ _) ?_
  refine relC (fLoad_ok _ _ _) ?_
  refine relC (fLdM_ok _ _ rfl) ?_
  refine relC (fStore_ok _ _ _ (by decide)) ?_
  refine relC (fGoto_ok _) ?_
  refine relC (fLoad_ok _ _ _) ?_
  refine relO ?_
  exact relN
def jt_18 : List (Nat × List ElF) := [(5, ce_18_1), (31, ce_18_2), (59, ce_18_3), (84, ce_18_4)]
set_option maxRecDepth 65536 in
theorem rj_18 : ∀ q ∈ jt_18, RelL q.2 (seekF cd_18 q.1) := jc re_18 rfl (jc re_18 rfl (jc re_18 rfl (jc re_18 rfl (jn))))
def mtsE : List MtF := [(16, ce_0, jt_0), (4, ce_1, jt_1), (0, [], []), (2, ce_3, jt_3), (3, ce_4, jt_4), (1, ce_5, jt_5), (1, ce_6, jt_6), (1, ce_7, jt_7), (4, ce_8, jt_8), (2, ce_9, jt_9), (7, ce_10, jt_10), (2, ce_11, jt_11), (1, ce_12, jt_12), (2, ce_13, jt_13), (2, ce_14, jt_14), (2, ce_15, jt_15), (2, ce_16, jt_16), (6, ce_17, jt_17), (5, ce_18, jt_18)]
theorem reM : RelM mtsE mts := ⟨⟨rfl, re_0, rj_0⟩, ⟨⟨rfl, re_1, rj_1⟩, ⟨⟨rfl, relN, jn⟩, ⟨⟨rfl, re_3, rj_3⟩, ⟨⟨rfl, re_4, rj_4⟩, ⟨⟨rfl, re_5, rj_5⟩, ⟨⟨rfl, re_6, rj_6⟩, ⟨⟨rfl, re_7, rj_7⟩, ⟨⟨rfl, re_8, rj_8⟩, ⟨⟨rfl, re_9, rj_9⟩, ⟨⟨rfl, re_10, rj_10⟩, ⟨⟨rfl, re_11, rj_11⟩, ⟨⟨rfl, re_12, rj_12⟩, ⟨⟨rfl, re_13, rj_13⟩, ⟨⟨rfl, re_14, rj_14⟩, ⟨⟨rfl, re_15, rj_15⟩, ⟨⟨rfl, re_16, rj_16⟩, ⟨⟨rfl, re_17, rj_17⟩, ⟨⟨rfl, re_18, rj_18⟩, trivial⟩⟩⟩⟩⟩⟩⟩⟩⟩⟩⟩⟩⟩⟩⟩⟩⟩⟩⟩
def mis : Nat → MethodName × ByteArray × Option FieldType
  | 0 => (x, code, ret)
  | 1 => ((⟨"org/distinguo/identify/BlockTree", "<init>", "(II)V"⟩ : MethodName), prog_45_method_1_code, none)
  | 3 => ((⟨"java/lang/Math", "max", "(II)I"⟩ : MethodName), jdk_29_method_65_code, some .int)
  | 4 => ((⟨"java/util/Arrays", "setAll", "([ILjava/util/function/IntUnaryOperator;)V"⟩ : MethodName), jdk_65_method_175_code, none)
  | 5 => ((⟨"java/util/Objects", "requireNonNull", "(Ljava/lang/Object;)Ljava/lang/Object;"⟩ : MethodName), jdk_31_method_10_code, some (.object "java/lang/Object"))
  | 6 => ((⟨"org/distinguo/identify/BlockTree", "lambda$new$0", "(I)I"⟩ : MethodName), prog_45_method_17_code, some .int)
  | 7 => ((⟨"org/distinguo/identify/BlockTree", "lambda$new$1", "(I)I"⟩ : MethodName), prog_45_method_16_code, some .int)
  | 8 => ((⟨"java/util/Arrays", "fill", "([II)V"⟩ : MethodName), jdk_65_method_103_code, none)
  | 9 => ((⟨"org/distinguo/identify/BlockTreeCommonAncestorPinLaw", "key", "(II)I"⟩ : MethodName), method_2_code, some .int)
  | 10 => ((⟨"org/distinguo/identify/BlockTree", "split", "(I[I)Z"⟩ : MethodName), prog_45_method_15_code, some .boolean)
  | 11 => ((⟨"org/distinguo/identify/BlockTree", "leafOf", "(I)I"⟩ : MethodName), prog_45_method_11_code, some .int)
  | 12 => ((⟨"org/distinguo/identify/BlockTree", "nodeCount", "()I"⟩ : MethodName), prog_45_method_3_code, some .int)
  | 13 => ((⟨"org/distinguo/identify/BlockTree", "first", "(I)I"⟩ : MethodName), prog_45_method_7_code, some .int)
  | 14 => ((⟨"java/lang/Math", "min", "(II)I"⟩ : MethodName), jdk_29_method_69_code, some .int)
  | 15 => ((⟨"org/distinguo/identify/BlockTree", "end", "(I)I"⟩ : MethodName), prog_45_method_8_code, some .int)
  | 16 => ((⟨"org/distinguo/identify/BlockTree", "stateAt", "(I)I"⟩ : MethodName), prog_45_method_9_code, some .int)
  | 17 => ((⟨"org/distinguo/identify/BlockTree", "deepestHolding", "([II)I"⟩ : MethodName), prog_45_method_13_code, some .int)
  | 18 => ((⟨"org/distinguo/identify/BlockTree", "commonAncestor", "(II)I"⟩ : MethodName), prog_45_method_12_code, some .int)
  | _ => (x, code, ret)
theorem sok_0 {Z : State} {a0 : Array Value} (hw : ∀ d ∈ tables_1, d.before a0 Z = true) : ShOk Z a0 (none, "org/distinguo/identify/BlockTree", 12, fs_0) := fun _ => ⟨(hw _ (List.mem_of_getElem? (i := 1) rfl)), by
  intro f hf
  simp only [fs_0, List.mem_cons, List.not_mem_nil, or_false] at hf
  rcases hf with rfl | rfl | rfl | rfl | rfl | rfl | rfl | rfl | rfl | rfl | rfl | rfl
  · exact ⟨Or.inr (hw _ (List.mem_of_getElem? (i := 15) rfl)), by decide⟩
  · exact ⟨Or.inr (hw _ (List.mem_of_getElem? (i := 17) rfl)), by decide⟩
  · exact ⟨Or.inr (hw _ (List.mem_of_getElem? (i := 19) rfl)), by decide⟩
  · exact ⟨Or.inr (hw _ (List.mem_of_getElem? (i := 21) rfl)), by decide⟩
  · exact ⟨Or.inr (hw _ (List.mem_of_getElem? (i := 23) rfl)), by decide⟩
  · exact ⟨Or.inr (hw _ (List.mem_of_getElem? (i := 25) rfl)), by decide⟩
  · exact ⟨Or.inr (hw _ (List.mem_of_getElem? (i := 27) rfl)), by decide⟩
  · exact ⟨Or.inr (hw _ (List.mem_of_getElem? (i := 29) rfl)), by decide⟩
  · exact ⟨Or.inr (hw _ (List.mem_of_getElem? (i := 31) rfl)), by decide⟩
  · exact ⟨Or.inr (hw _ (List.mem_of_getElem? (i := 33) rfl)), by decide⟩
  · exact ⟨Or.inr (hw _ (List.mem_of_getElem? (i := 35) rfl)), by decide⟩
  · exact ⟨Or.inl (hw _ (List.mem_of_getElem? (i := 59) rfl)), by decide⟩, by decide⟩
def sig_0 : Lambda.Shape := { iface := "java/util/function/IntUnaryOperator", name := "applyAsInt", sam := ⟨[.int], some .int⟩, captured := [], kind := 6, implClass := "org/distinguo/identify/BlockTree", implName := "lambda$new$0", implDesc := ⟨[.int], some .int⟩, implItf := false, inst := ⟨[.int], some .int⟩ }
def sig_1 : Lambda.Shape := { iface := "java/util/function/IntUnaryOperator", name := "applyAsInt", sam := ⟨[.int], some .int⟩, captured := [], kind := 6, implClass := "org/distinguo/identify/BlockTree", implName := "lambda$new$1", implDesc := ⟨[.int], some .int⟩, implItf := false, inst := ⟨[.int], some .int⟩ }
theorem fw_0 : LamKit.fwdOK sig_0 "org/distinguo/identify/BlockTree" fwdC 2 (some .int) 17 14 = true := by decide +kernel
theorem fw_1 : LamKit.fwdOK sig_1 "org/distinguo/identify/BlockTree" fwdC 2 (some .int) 17 14 = true := by decide +kernel
theorem lamW {Z : State} {O : Nat → Addr} {a0 : Array Value} (hw : ∀ d ∈ tables_1, d.before a0 Z = true) (hO0 : O 0 = lamO Z (⟨"org/distinguo/identify/BlockTree", "<init>", "(II)V"⟩ : MethodName) 101 49 sig_0) (hO1 : O 1 = lamO Z (⟨"org/distinguo/identify/BlockTree", "<init>", "(II)V"⟩ : MethodName) 113 59 sig_1) : ∀ i, i < 2 → LamW Z a0 O (⟨"java/util/function/IntUnaryOperator", "applyAsInt", "(I)I"⟩ : MethodName) i := by
  intro i hi
  match i, hi with
  | 0, _ => exact ⟨(⟨"org/distinguo/identify/BlockTree", "<init>", "(II)V"⟩ : MethodName), (⟨"org/distinguo/identify/BlockTree", "lambda$new$0", "(I)I"⟩ : MethodName), 101, 49, sig_0, prog_45_method_17_code, (hw _ (List.mem_of_getElem? (i := 36) rfl)), rfl, hO0, (hw _ (List.mem_of_getElem? (i := 51) rfl)), (hw _ (List.mem_of_getElem? (i := 50) rfl)), (hw _ (List.mem_of_getElem? (i := 2) rfl)), plainFor_of_name (by first | (simp [plainName, overriddenIn]; done) | decide +kernel), ⟨rfl, rfl, by decide +kernel⟩, ⟨rfl, rfl, by decide +kernel⟩, by decide, by decide +kernel, fw_0, by decide +kernel, by decide +kernel⟩
  | 1, _ => exact ⟨(⟨"org/distinguo/identify/BlockTree", "<init>", "(II)V"⟩ : MethodName), (⟨"org/distinguo/identify/BlockTree", "lambda$new$1", "(I)I"⟩ : MethodName), 113, 59, sig_1, prog_45_method_16_code, (hw _ (List.mem_of_getElem? (i := 52) rfl)), rfl, hO1, (hw _ (List.mem_of_getElem? (i := 54) rfl)), (hw _ (List.mem_of_getElem? (i := 53) rfl)), (hw _ (List.mem_of_getElem? (i := 2) rfl)), plainFor_of_name (by first | (simp [plainName, overriddenIn]; done) | decide +kernel), ⟨rfl, rfl, by decide +kernel⟩, ⟨rfl, rfl, by decide +kernel⟩, by decide, by decide +kernel, fw_1, by decide +kernel, by decide +kernel⟩

section Valid
variable {l : Launch} {Z : State} {hz : Heap} {A : En} {O : Nat → Addr} {a0 : Array Value}
theorem okc_nil {M : List Mt} {MI : Nat → MethodName × ByteArray × Option FieldType} {j mx : Nat} : ∀ el ∈ ([] : List El), ElOk l Z hz shp A O 40 320 M MI j mx el := fun _ h => nomatch h
theorem okc_cons {M : List Mt} {MI : Nat → MethodName × ByteArray × Option FieldType} {j mx : Nat} {el : El} {es : List El} (h : ElOk l Z hz shp A O 40 320 M MI j mx el) (t : ∀ el ∈ es, ElOk l Z hz shp A O 40 320 M MI j mx el) : ∀ e ∈ el :: es, ElOk l Z hz shp A O 40 320 M MI j mx e := fun e he => (List.mem_cons.mp he).elim (fun q => q ▸ h) (t e)
set_option maxRecDepth 65536 in
set_option maxHeartbeats 40000000 in
theorem cok_0 (hw : ∀ d ∈ tables_1, d.before a0 Z = true) (hzZ : hz = Z.heap) (hO0 : O 0 = lamO Z (⟨"org/distinguo/identify/BlockTree", "<init>", "(II)V"⟩ : MethodName) 101 49 sig_0) (hO1 : O 1 = lamO Z (⟨"org/distinguo/identify/BlockTree", "<init>", "(II)V"⟩ : MethodName) 113 59 sig_1) : ∀ el ∈ cd_0, ElOk l Z hz shp A O 40 320 mts mis 0 16 el := by
  unfold cd_0
  refine okc_cons (show Good l Z hz shp A O x code 16 ret 0 (sNew 0 12 ds_0 3) from g_new (sid := 0) at_0 rfl (sok_0 hw) (by decide) rfl (hw _ (List.mem_of_getElem? (i := 0) rfl)) (hw _ (List.mem_of_getElem? (i := 2) rfl))) ?_
  refine okc_cons (show Good l Z hz shp A O x code 16 ret 3 (sDup 4) from g_dup at_3) ?_
  refine okc_cons (show Good l Z hz shp A O x code 16 ret 4 (sPush (0, .int 5) 5) from g_iconst at_4 rfl) ?_
  refine okc_cons (show Good l Z hz shp A O x code 16 ret 5 (sPush (0, .int 3) 6) from g_iconst at_5 rfl) ?_
  refine okc_cons (fun m hm => by
    obtain rfl : m = (4, cd_1) := (Option.some.inj hm).symm
    exact (show CallGood l Z hz shp A O x code 16 ret (⟨"org/distinguo/identify/BlockTree", "<init>", "(II)V"⟩ : MethodName) prog_45_method_1_code 4 none 6 3 9 (ckObj 0) from c_init (a0 := a0) (sid := 0) (hd := at_6) (hpl := pl_1) (hdesc := pd_1) (hna := rfl) (hy := by decide) (w1 := (hw _ (List.mem_of_getElem? (i := 3) rfl))) (w2 := (hw _ (List.mem_of_getElem? (i := 4) rfl))) (w3 := (hw _ (List.mem_of_getElem? (i := 2) rfl))) (w4 := (hw _ (List.mem_of_getElem? (i := 5) rfl))) (hn := rfl))) ?_
  refine okc_cons (show Good l Z hz shp A O x code 16 ret 9 (sStore 2 5 11) from g_astore at_9) ?_
  refine okc_cons (show Good l Z hz shp A O x code 16 ret 11 (sPush (0, .int 5) 12) from g_iconst at_11 rfl) ?_
  refine okc_cons (show Good l Z hz shp A O x code 16 ret 12 (sNewA 1 .int 14) from g_newarray (sid := 1) at_12 rfl (by decide) (hw _ (List.mem_of_getElem? (i := 13) rfl))) ?_
  refine okc_cons (show Good l Z hz shp A O x code 16 ret 14 (sDup 15) from g_dup at_14) ?_
  refine okc_cons (show Good l Z hz shp A O x code 16 ret 15 (sPush (0, .int 0) 16) from g_iconst at_15 rfl) ?_
  refine okc_cons (show Good l Z hz shp A O x code 16 ret 16 (sLoad 0 0 17) from g_iloadN at_16) ?_
  refine okc_cons (show Good l Z hz shp A O x code 16 ret 17 (sPush (0, .int 0) 18) from g_iconst at_17 rfl) ?_
  refine okc_cons (fun m hm => by
    obtain rfl : m = (2, cd_9) := (Option.some.inj hm).symm
    exact (show CallGood l Z hz shp A O x code 16 ret (⟨"org/distinguo/identify/BlockTreeCommonAncestorPinLaw", "key", "(II)I"⟩ : MethodName) method_2_code 2 (some .int) 18 2 21 (ckAny) from c_static (a0 := a0) (hd := at_18) (hpl := pl_9) (hdesc := pd_9) (hna := rfl) (hy := by decide) (w1 := (hw _ (List.mem_of_getElem? (i := 60) rfl))) (w2 := (hw _ (List.mem_of_getElem? (i := 61) rfl))) (w3 := (hw _ (List.mem_of_getElem? (i := 62) rfl))) (w4 := (hw _ (List.mem_of_getElem? (i := 63) rfl))))) ?_
  refine okc_cons (show Good l Z hz shp A O x code 16 ret 21 (sStM 1 22) from g_iastoreM (sid := 1) at_21 rfl rfl) ?_
  refine okc_cons (show Good l Z hz shp A O x code 16 ret 22 (sDup 23) from g_dup at_22) ?_
  refine okc_cons (show Good l Z hz shp A O x code 16 ret 23 (sPush (0, .int 1) 24) from g_iconst at_23 rfl) ?_
  refine okc_cons (show Good l Z hz shp A O x code 16 ret 24 (sLoad 0 0 25) from g_iloadN at_24) ?_
  refine okc_cons (show Good l Z hz shp A O x code 16 ret 25 (sPush (0, .int 1) 26) from g_iconst at_25 rfl) ?_
  refine okc_cons (fun m hm => by
    obtain rfl : m = (2, cd_9) := (Option.some.inj hm).symm
    exact (show CallGood l Z hz shp A O x code 16 ret (⟨"org/distinguo/identify/BlockTreeCommonAncestorPinLaw", "key", "(II)I"⟩ : MethodName) method_2_code 2 (some .int) 26 2 29 (ckAny) from c_static (a0 := a0) (hd := at_26) (hpl := pl_9) (hdesc := pd_9) (hna := rfl) (hy := by decide) (w1 := (hw _ (List.mem_of_getElem? (i := 60) rfl))) (w2 := (hw _ (List.mem_of_getElem? (i := 61) rfl))) (w3 := (hw _ (List.mem_of_getElem? (i := 62) rfl))) (w4 := (hw _ (List.mem_of_getElem? (i := 63) rfl))))) ?_
  refine okc_cons (show Good l Z hz shp A O x code 16 ret 29 (sStM 1 30) from g_iastoreM (sid := 1) at_29 rfl rfl) ?_
  refine okc_cons (show Good l Z hz shp A O x code 16 ret 30 (sDup 31) from g_dup at_30) ?_
  refine okc_cons (show Good l Z hz shp A O x code 16 ret 31 (sPush (0, .int 2) 32) from g_iconst at_31 rfl) ?_
  refine okc_cons (show Good l Z hz shp A O x code 16 ret 32 (sLoad 0 0 33) from g_iloadN at_32) ?_
  refine okc_cons (show Good l Z hz shp A O x code 16 ret 33 (sPush (0, .int 2) 34) from g_iconst at_33 rfl) ?_
  refine okc_cons (fun m hm => by
    obtain rfl : m = (2, cd_9) := (Option.some.inj hm).symm
    exact (show CallGood l Z hz shp A O x code 16 ret (⟨"org/distinguo/identify/BlockTreeCommonAncestorPinLaw", "key", "(II)I"⟩ : MethodName) method_2_code 2 (some .int) 34 2 37 (ckAny) from c_static (a0 := a0) (hd := at_34) (hpl := pl_9) (hdesc := pd_9) (hna := rfl) (hy := by decide) (w1 := (hw _ (List.mem_of_getElem? (i := 60) rfl))) (w2 := (hw _ (List.mem_of_getElem? (i := 61) rfl))) (w3 := (hw _ (List.mem_of_getElem? (i := 62) rfl))) (w4 := (hw _ (List.mem_of_getElem? (i := 63) rfl))))) ?_
  refine okc_cons (show Good l Z hz shp A O x code 16 ret 37 (sStM 1 38) from g_iastoreM (sid := 1) at_37 rfl rfl) ?_
  refine okc_cons (show Good l Z hz shp A O x code 16 ret 38 (sDup 39) from g_dup at_38) ?_
  refine okc_cons (show Good l Z hz shp A O x code 16 ret 39 (sPush (0, .int 3) 40) from g_iconst at_39 rfl) ?_
  refine okc_cons (show Good l Z hz shp A O x code 16 ret 40 (sLoad 0 0 41) from g_iloadN at_40) ?_
  refine okc_cons (show Good l Z hz shp A O x code 16 ret 41 (sPush (0, .int 3) 42) from g_iconst at_41 rfl) ?_
  refine okc_cons (fun m hm => by
    obtain rfl : m = (2, cd_9) := (Option.some.inj hm).symm
    exact (show CallGood l Z hz shp A O x code 16 ret (⟨"org/distinguo/identify/BlockTreeCommonAncestorPinLaw", "key", "(II)I"⟩ : MethodName) method_2_code 2 (some .int) 42 2 45 (ckAny) from c_static (a0 := a0) (hd := at_42) (hpl := pl_9) (hdesc := pd_9) (hna := rfl) (hy := by decide) (w1 := (hw _ (List.mem_of_getElem? (i := 60) rfl))) (w2 := (hw _ (List.mem_of_getElem? (i := 61) rfl))) (w3 := (hw _ (List.mem_of_getElem? (i := 62) rfl))) (w4 := (hw _ (List.mem_of_getElem? (i := 63) rfl))))) ?_
  refine okc_cons (show Good l Z hz shp A O x code 16 ret 45 (sStM 1 46) from g_iastoreM (sid := 1) at_45 rfl rfl) ?_
  refine okc_cons (show Good l Z hz shp A O x code 16 ret 46 (sDup 47) from g_dup at_46) ?_
  refine okc_cons (show Good l Z hz shp A O x code 16 ret 47 (sPush (0, .int 4) 48) from g_iconst at_47 rfl) ?_
  refine okc_cons (show Good l Z hz shp A O x code 16 ret 48 (sLoad 0 0 49) from g_iloadN at_48) ?_
  refine okc_cons (show Good l Z hz shp A O x code 16 ret 49 (sPush (0, .int 4) 50) from g_iconst at_49 rfl) ?_
  refine okc_cons (fun m hm => by
    obtain rfl : m = (2, cd_9) := (Option.some.inj hm).symm
    exact (show CallGood l Z hz shp A O x code 16 ret (⟨"org/distinguo/identify/BlockTreeCommonAncestorPinLaw", "key", "(II)I"⟩ : MethodName) method_2_code 2 (some .int) 50 2 53 (ckAny) from c_static (a0 := a0) (hd := at_50) (hpl := pl_9) (hdesc := pd_9) (hna := rfl) (hy := by decide) (w1 := (hw _ (List.mem_of_getElem? (i := 60) rfl))) (w2 := (hw _ (List.mem_of_getElem? (i := 61) rfl))) (w3 := (hw _ (List.mem_of_getElem? (i := 62) rfl))) (w4 := (hw _ (List.mem_of_getElem? (i := 63) rfl))))) ?_
  refine okc_cons (show Good l Z hz shp A O x code 16 ret 53 (sStM 1 54) from g_iastoreM (sid := 1) at_53 rfl rfl) ?_
  refine okc_cons (show Good l Z hz shp A O x code 16 ret 54 (sStore 2 6 56) from g_astore at_54) ?_
  refine okc_cons (show Good l Z hz shp A O x code 16 ret 56 (sPush (0, .int 5) 57) from g_iconst at_56 rfl) ?_
  refine okc_cons (show Good l Z hz shp A O x code 16 ret 57 (sNewA 1 .int 59) from g_newarray (sid := 1) at_57 rfl (by decide) (hw _ (List.mem_of_getElem? (i := 13) rfl))) ?_
  refine okc_cons (show Good l Z hz shp A O x code 16 ret 59 (sDup 60) from g_dup at_59) ?_
  refine okc_cons (show Good l Z hz shp A O x code 16 ret 60 (sPush (0, .int 0) 61) from g_iconst at_60 rfl) ?_
  refine okc_cons (show Good l Z hz shp A O x code 16 ret 61 (sLoad 0 1 62) from g_iloadN at_61) ?_
  refine okc_cons (show Good l Z hz shp A O x code 16 ret 62 (sPush (0, .int 0) 63) from g_iconst at_62 rfl) ?_
  refine okc_cons (fun m hm => by
    obtain rfl : m = (2, cd_9) := (Option.some.inj hm).symm
    exact (show CallGood l Z hz shp A O x code 16 ret (⟨"org/distinguo/identify/BlockTreeCommonAncestorPinLaw", "key", "(II)I"⟩ : MethodName) method_2_code 2 (some .int) 63 2 66 (ckAny) from c_static (a0 := a0) (hd := at_63) (hpl := pl_9) (hdesc := pd_9) (hna := rfl) (hy := by decide) (w1 := (hw _ (List.mem_of_getElem? (i := 60) rfl))) (w2 := (hw _ (List.mem_of_getElem? (i := 61) rfl))) (w3 := (hw _ (List.mem_of_getElem? (i := 62) rfl))) (w4 := (hw _ (List.mem_of_getElem? (i := 63) rfl))))) ?_
  refine okc_cons (show Good l Z hz shp A O x code 16 ret 66 (sStM 1 67) from g_iastoreM (sid := 1) at_66 rfl rfl) ?_
  refine okc_cons (show Good l Z hz shp A O x code 16 ret 67 (sDup 68) from g_dup at_67) ?_
  refine okc_cons (show Good l Z hz shp A O x code 16 ret 68 (sPush (0, .int 1) 69) from g_iconst at_68 rfl) ?_
  refine okc_cons (show Good l Z hz shp A O x code 16 ret 69 (sLoad 0 1 70) from g_iloadN at_69) ?_
  refine okc_cons (show Good l Z hz shp A O x code 16 ret 70 (sPush (0, .int 1) 71) from g_iconst at_70 rfl) ?_
  refine okc_cons (fun m hm => by
    obtain rfl : m = (2, cd_9) := (Option.some.inj hm).symm
    exact (show CallGood l Z hz shp A O x code 16 ret (⟨"org/distinguo/identify/BlockTreeCommonAncestorPinLaw", "key", "(II)I"⟩ : MethodName) method_2_code 2 (some .int) 71 2 74 (ckAny) from c_static (a0 := a0) (hd := at_71) (hpl := pl_9) (hdesc := pd_9) (hna := rfl) (hy := by decide) (w1 := (hw _ (List.mem_of_getElem? (i := 60) rfl))) (w2 := (hw _ (List.mem_of_getElem? (i := 61) rfl))) (w3 := (hw _ (List.mem_of_getElem? (i := 62) rfl))) (w4 := (hw _ (List.mem_of_getElem? (i := 63) rfl))))) ?_
  refine okc_cons (show Good l Z hz shp A O x code 16 ret 74 (sStM 1 75) from g_iastoreM (sid := 1) at_74 rfl rfl) ?_
  refine okc_cons (show Good l Z hz shp A O x code 16 ret 75 (sDup 76) from g_dup at_75) ?_
  refine okc_cons (show Good l Z hz shp A O x code 16 ret 76 (sPush (0, .int 2) 77) from g_iconst at_76 rfl) ?_
  refine okc_cons (show Good l Z hz shp A O x code 16 ret 77 (sLoad 0 1 78) from g_iloadN at_77) ?_
  refine okc_cons (show Good l Z hz shp A O x code 16 ret 78 (sPush (0, .int 2) 79) from g_iconst at_78 rfl) ?_
  refine okc_cons (fun m hm => by
    obtain rfl : m = (2, cd_9) := (Option.some.inj hm).symm
    exact (show CallGood l Z hz shp A O x code 16 ret (⟨"org/distinguo/identify/BlockTreeCommonAncestorPinLaw", "key", "(II)I"⟩ : MethodName) method_2_code 2 (some .int) 79 2 82 (ckAny) from c_static (a0 := a0) (hd := at_79) (hpl := pl_9) (hdesc := pd_9) (hna := rfl) (hy := by decide) (w1 := (hw _ (List.mem_of_getElem? (i := 60) rfl))) (w2 := (hw _ (List.mem_of_getElem? (i := 61) rfl))) (w3 := (hw _ (List.mem_of_getElem? (i := 62) rfl))) (w4 := (hw _ (List.mem_of_getElem? (i := 63) rfl))))) ?_
  refine okc_cons (show Good l Z hz shp A O x code 16 ret 82 (sStM 1 83) from g_iastoreM (sid := 1) at_82 rfl rfl) ?_
  refine okc_cons (show Good l Z hz shp A O x code 16 ret 83 (sDup 84) from g_dup at_83) ?_
  refine okc_cons (show Good l Z hz shp A O x code 16 ret 84 (sPush (0, .int 3) 85) from g_iconst at_84 rfl) ?_
  refine okc_cons (show Good l Z hz shp A O x code 16 ret 85 (sLoad 0 1 86) from g_iloadN at_85) ?_
  refine okc_cons (show Good l Z hz shp A O x code 16 ret 86 (sPush (0, .int 3) 87) from g_iconst at_86 rfl) ?_
  refine okc_cons (fun m hm => by
    obtain rfl : m = (2, cd_9) := (Option.some.inj hm).symm
    exact (show CallGood l Z hz shp A O x code 16 ret (⟨"org/distinguo/identify/BlockTreeCommonAncestorPinLaw", "key", "(II)I"⟩ : MethodName) method_2_code 2 (some .int) 87 2 90 (ckAny) from c_static (a0 := a0) (hd := at_87) (hpl := pl_9) (hdesc := pd_9) (hna := rfl) (hy := by decide) (w1 := (hw _ (List.mem_of_getElem? (i := 60) rfl))) (w2 := (hw _ (List.mem_of_getElem? (i := 61) rfl))) (w3 := (hw _ (List.mem_of_getElem? (i := 62) rfl))) (w4 := (hw _ (List.mem_of_getElem? (i := 63) rfl))))) ?_
  refine okc_cons (show Good l Z hz shp A O x code 16 ret 90 (sStM 1 91) from g_iastoreM (sid := 1) at_90 rfl rfl) ?_
  refine okc_cons (show Good l Z hz shp A O x code 16 ret 91 (sDup 92) from g_dup at_91) ?_
  refine okc_cons (show Good l Z hz shp A O x code 16 ret 92 (sPush (0, .int 4) 93) from g_iconst at_92 rfl) ?_
  refine okc_cons (show Good l Z hz shp A O x code 16 ret 93 (sLoad 0 1 94) from g_iloadN at_93) ?_
  refine okc_cons (show Good l Z hz shp A O x code 16 ret 94 (sPush (0, .int 4) 95) from g_iconst at_94 rfl) ?_
  refine okc_cons (fun m hm => by
    obtain rfl : m = (2, cd_9) := (Option.some.inj hm).symm
    exact (show CallGood l Z hz shp A O x code 16 ret (⟨"org/distinguo/identify/BlockTreeCommonAncestorPinLaw", "key", "(II)I"⟩ : MethodName) method_2_code 2 (some .int) 95 2 98 (ckAny) from c_static (a0 := a0) (hd := at_95) (hpl := pl_9) (hdesc := pd_9) (hna := rfl) (hy := by decide) (w1 := (hw _ (List.mem_of_getElem? (i := 60) rfl))) (w2 := (hw _ (List.mem_of_getElem? (i := 61) rfl))) (w3 := (hw _ (List.mem_of_getElem? (i := 62) rfl))) (w4 := (hw _ (List.mem_of_getElem? (i := 63) rfl))))) ?_
  refine okc_cons (show Good l Z hz shp A O x code 16 ret 98 (sStM 1 99) from g_iastoreM (sid := 1) at_98 rfl rfl) ?_
  refine okc_cons (show Good l Z hz shp A O x code 16 ret 99 (sStore 2 7 101) from g_astore at_99) ?_
  refine okc_cons (show Good l Z hz shp A O x code 16 ret 101 (sPush (0, .int 2) 102) from g_iconst at_101 rfl) ?_
  refine okc_cons (show Good l Z hz shp A O x code 16 ret 102 (sNewA 1 .int 104) from g_newarray (sid := 1) at_102 rfl (by decide) (hw _ (List.mem_of_getElem? (i := 13) rfl))) ?_
  refine okc_cons (show Good l Z hz shp A O x code 16 ret 104 (sStore 2 8 106) from g_astore at_104) ?_
  refine okc_cons (show Good l Z hz shp A O x code 16 ret 106 (sLoad 2 5 108) from g_aload at_106) ?_
  refine okc_cons (show Good l Z hz shp A O x code 16 ret 108 (sPush (0, .int 0) 109) from g_iconst at_108 rfl) ?_
  refine okc_cons (show Good l Z hz shp A O x code 16 ret 109 (sLoad 2 6 111) from g_aload at_109) ?_
  refine okc_cons (fun m hm => by
    obtain rfl : m = (7, cd_10) := (Option.some.inj hm).symm
    exact (show CallGood l Z hz shp A O x code 16 ret (⟨"org/distinguo/identify/BlockTree", "split", "(I[I)Z"⟩ : MethodName) prog_45_method_15_code 7 (some .boolean) 111 3 114 (ckObj 0) from c_virtual (a0 := a0) (sid := 0) (hd := at_111) (hpl := pl_10) (hdesc := pd_10) (hna := rfl) (hy := by decide) (w1 := (hw _ (List.mem_of_getElem? (i := 64) rfl))) (w2 := (hw _ (List.mem_of_getElem? (i := 66) rfl))) (w3 := (hw _ (List.mem_of_getElem? (i := 2) rfl))) (w4 := (hw _ (List.mem_of_getElem? (i := 68) rfl))) (hs := rfl) (w5 := (hw _ (List.mem_of_getElem? (i := 65) rfl))) (w6 := (hw _ (List.mem_of_getElem? (i := 67) rfl))))) ?_
  refine okc_cons (show Good l Z hz shp A O x code 16 ret 114 (sPop 115) from g_pop at_114) ?_
  refine okc_cons (show Good l Z hz shp A O x code 16 ret 115 (sLoad 2 5 117) from g_aload at_115) ?_
  refine okc_cons (show Good l Z hz shp A O x code 16 ret 117 (sLoad 0 2 118) from g_iloadN at_117) ?_
  refine okc_cons (show Good l Z hz shp A O x code 16 ret 118 (sPush (0, .int 2147483647) 120) from g_ldc (v := 2147483647) at_118 (hw _ (List.mem_of_getElem? (i := 69) rfl))) ?_
  refine okc_cons (show Good l Z hz shp A O x code 16 ret 120 (sBin 0 0 0 (jI (Term.op2 .iand)) 121) from g_iand at_120) ?_
  refine okc_cons (show Good l Z hz shp A O x code 16 ret 121 (sPush (0, .int 5) 122) from g_iconst at_121 rfl) ?_
  refine okc_cons (show Good l Z hz shp A O x code 16 ret 122 (s_irem 123) from g_irem at_122) ?_
  refine okc_cons (fun m hm => by
    obtain rfl : m = (2, cd_11) := (Option.some.inj hm).symm
    exact (show CallGood l Z hz shp A O x code 16 ret (⟨"org/distinguo/identify/BlockTree", "leafOf", "(I)I"⟩ : MethodName) prog_45_method_11_code 2 (some .int) 123 2 126 (ckObj 0) from c_virtual (a0 := a0) (sid := 0) (hd := at_123) (hpl := pl_11) (hdesc := pd_11) (hna := rfl) (hy := by decide) (w1 := (hw _ (List.mem_of_getElem? (i := 70) rfl))) (w2 := (hw _ (List.mem_of_getElem? (i := 72) rfl))) (w3 := (hw _ (List.mem_of_getElem? (i := 2) rfl))) (w4 := (hw _ (List.mem_of_getElem? (i := 74) rfl))) (hs := rfl) (w5 := (hw _ (List.mem_of_getElem? (i := 71) rfl))) (w6 := (hw _ (List.mem_of_getElem? (i := 73) rfl))))) ?_
  refine okc_cons (show Good l Z hz shp A O x code 16 ret 126 (sStore 0 9 128) from g_istore at_126) ?_
  refine okc_cons (show Good l Z hz shp A O x code 16 ret 128 (sLoad 2 5 130) from g_aload at_128) ?_
  refine okc_cons (show Good l Z hz shp A O x code 16 ret 130 (sLoad 0 9 132) from g_iload at_130) ?_
  refine okc_cons (show Good l Z hz shp A O x code 16 ret 132 (sLoad 2 7 134) from g_aload at_132) ?_
  refine okc_cons (fun m hm => by
    obtain rfl : m = (7, cd_10) := (Option.some.inj hm).symm
    exact (show CallGood l Z hz shp A O x code 16 ret (⟨"org/distinguo/identify/BlockTree", "split", "(I[I)Z"⟩ : MethodName) prog_45_method_15_code 7 (some .boolean) 134 3 137 (ckObj 0) from c_virtual (a0 := a0) (sid := 0) (hd := at_134) (hpl := pl_10) (hdesc := pd_10) (hna := rfl) (hy := by decide) (w1 := (hw _ (List.mem_of_getElem? (i := 64) rfl))) (w2 := (hw _ (List.mem_of_getElem? (i := 66) rfl))) (w3 := (hw _ (List.mem_of_getElem? (i := 2) rfl))) (w4 := (hw _ (List.mem_of_getElem? (i := 68) rfl))) (hs := rfl) (w5 := (hw _ (List.mem_of_getElem? (i := 65) rfl))) (w6 := (hw _ (List.mem_of_getElem? (i := 67) rfl))))) ?_
  refine okc_cons (show Good l Z hz shp A O x code 16 ret 137 (sPop 138) from g_pop at_137) ?_
  refine okc_cons (show Good l Z hz shp A O x code 16 ret 138 (sLoad 2 5 140) from g_aload at_138) ?_
  refine okc_cons (fun m hm => by
    obtain rfl : m = (1, cd_12) := (Option.some.inj hm).symm
    exact (show CallGood l Z hz shp A O x code 16 ret (⟨"org/distinguo/identify/BlockTree", "nodeCount", "()I"⟩ : MethodName) prog_45_method_3_code 1 (some .int) 140 1 143 (ckObj 0) from c_virtual (a0 := a0) (sid := 0) (hd := at_140) (hpl := pl_12) (hdesc := pd_12) (hna := rfl) (hy := by decide) (w1 := (hw _ (List.mem_of_getElem? (i := 79) rfl))) (w2 := (hw _ (List.mem_of_getElem? (i := 81) rfl))) (w3 := (hw _ (List.mem_of_getElem? (i := 2) rfl))) (w4 := (hw _ (List.mem_of_getElem? (i := 83) rfl))) (hs := rfl) (w5 := (hw _ (List.mem_of_getElem? (i := 80) rfl))) (w6 := (hw _ (List.mem_of_getElem? (i := 82) rfl))))) ?_
  refine okc_cons (show Good l Z hz shp A O x code 16 ret 143 (sStore 0 10 145) from g_istore at_143) ?_
  refine okc_cons (show Good l Z hz shp A O x code 16 ret 145 (sLoad 0 3 146) from g_iloadN at_145) ?_
  refine okc_cons (show Good l Z hz shp A O x code 16 ret 146 (sPush (0, .int 2147483647) 148) from g_ldc (v := 2147483647) at_146 (hw _ (List.mem_of_getElem? (i := 69) rfl))) ?_
  refine okc_cons (show Good l Z hz shp A O x code 16 ret 148 (sBin 0 0 0 (jI (Term.op2 .iand)) 149) from g_iand at_148) ?_
  refine okc_cons (show Good l Z hz shp A O x code 16 ret 149 (sLoad 0 10 151) from g_iload at_149) ?_
  refine okc_cons (show Good l Z hz shp A O x code 16 ret 151 (s_irem 152) from g_irem at_151) ?_
  refine okc_cons (show Good l Z hz shp A O x code 16 ret 152 (sSplit 152 (sStore 0 11 154)) from g_split (g_istore at_152)) ?_
  refine okc_cons (show Good l Z hz shp A O x code 16 ret 154 (sLoad 0 4 156) from g_iload at_154) ?_
  refine okc_cons (show Good l Z hz shp A O x code 16 ret 156 (sPush (0, .int 2147483647) 158) from g_ldc (v := 2147483647) at_156 (hw _ (List.mem_of_getElem? (i := 69) rfl))) ?_
  refine okc_cons (show Good l Z hz shp A O x code 16 ret 158 (sBin 0 0 0 (jI (Term.op2 .iand)) 159) from g_iand at_158) ?_
  refine okc_cons (show Good l Z hz shp A O x code 16 ret 159 (sLoad 0 10 161) from g_iload at_159) ?_
  refine okc_cons (show Good l Z hz shp A O x code 16 ret 161 (s_irem 162) from g_irem at_161) ?_
  refine okc_cons (show Good l Z hz shp A O x code 16 ret 162 (sSplit 162 (sStore 0 12 164)) from g_split (g_istore at_162)) ?_
  refine okc_cons (show Good l Z hz shp A O x code 16 ret 164 (sLoad 2 5 166) from g_aload at_164) ?_
  refine okc_cons (show Good l Z hz shp A O x code 16 ret 166 (sLoad 0 11 168) from g_iload at_166) ?_
  refine okc_cons (fun m hm => by
    obtain rfl : m = (2, cd_13) := (Option.some.inj hm).symm
    exact (show CallGood l Z hz shp A O x code 16 ret (⟨"org/distinguo/identify/BlockTree", "first", "(I)I"⟩ : MethodName) prog_45_method_7_code 2 (some .int) 168 2 171 (ckObj 0) from c_virtual (a0 := a0) (sid := 0) (hd := at_168) (hpl := pl_13) (hdesc := pd_13) (hna := rfl) (hy := by decide) (w1 := (hw _ (List.mem_of_getElem? (i := 84) rfl))) (w2 := (hw _ (List.mem_of_getElem? (i := 86) rfl))) (w3 := (hw _ (List.mem_of_getElem? (i := 2) rfl))) (w4 := (hw _ (List.mem_of_getElem? (i := 88) rfl))) (hs := rfl) (w5 := (hw _ (List.mem_of_getElem? (i := 85) rfl))) (w6 := (hw _ (List.mem_of_getElem? (i := 87) rfl))))) ?_
  refine okc_cons (show Good l Z hz shp A O x code 16 ret 171 (sLoad 2 5 173) from g_aload at_171) ?_
  refine okc_cons (show Good l Z hz shp A O x code 16 ret 173 (sLoad 0 12 175) from g_iload at_173) ?_
  refine okc_cons (fun m hm => by
    obtain rfl : m = (2, cd_13) := (Option.some.inj hm).symm
    exact (show CallGood l Z hz shp A O x code 16 ret (⟨"org/distinguo/identify/BlockTree", "first", "(I)I"⟩ : MethodName) prog_45_method_7_code 2 (some .int) 175 2 178 (ckObj 0) from c_virtual (a0 := a0) (sid := 0) (hd := at_175) (hpl := pl_13) (hdesc := pd_13) (hna := rfl) (hy := by decide) (w1 := (hw _ (List.mem_of_getElem? (i := 84) rfl))) (w2 := (hw _ (List.mem_of_getElem? (i := 86) rfl))) (w3 := (hw _ (List.mem_of_getElem? (i := 2) rfl))) (w4 := (hw _ (List.mem_of_getElem? (i := 88) rfl))) (hs := rfl) (w5 := (hw _ (List.mem_of_getElem? (i := 85) rfl))) (w6 := (hw _ (List.mem_of_getElem? (i := 87) rfl))))) ?_
  refine okc_cons (fun m hm => by
    obtain rfl : m = (2, cd_14) := (Option.some.inj hm).symm
    exact (show CallGood l Z hz shp A O x code 16 ret (⟨"java/lang/Math", "min", "(II)I"⟩ : MethodName) jdk_29_method_69_code 2 (some .int) 178 2 181 (ckAny) from c_static (a0 := a0) (hd := at_178) (hpl := pl_14) (hdesc := pd_14) (hna := rfl) (hy := by decide) (w1 := (hw _ (List.mem_of_getElem? (i := 89) rfl))) (w2 := (hw _ (List.mem_of_getElem? (i := 90) rfl))) (w3 := (hw _ (List.mem_of_getElem? (i := 11) rfl))) (w4 := (hw _ (List.mem_of_getElem? (i := 91) rfl))))) ?_
  refine okc_cons (show Good l Z hz shp A O x code 16 ret 181 (sStore 0 13 183) from g_istore at_181) ?_
  refine okc_cons (show Good l Z hz shp A O x code 16 ret 183 (sLoad 2 5 185) from g_aload at_183) ?_
  refine okc_cons (show Good l Z hz shp A O x code 16 ret 185 (sLoad 0 11 187) from g_iload at_185) ?_
  refine okc_cons (fun m hm => by
    obtain rfl : m = (2, cd_15) := (Option.some.inj hm).symm
    exact (show CallGood l Z hz shp A O x code 16 ret (⟨"org/distinguo/identify/BlockTree", "end", "(I)I"⟩ : MethodName) prog_45_method_8_code 2 (some .int) 187 2 190 (ckObj 0) from c_virtual (a0 := a0) (sid := 0) (hd := at_187) (hpl := pl_15) (hdesc := pd_15) (hna := rfl) (hy := by decide) (w1 := (hw _ (List.mem_of_getElem? (i := 92) rfl))) (w2 := (hw _ (List.mem_of_getElem? (i := 94) rfl))) (w3 := (hw _ (List.mem_of_getElem? (i := 2) rfl))) (w4 := (hw _ (List.mem_of_getElem? (i := 96) rfl))) (hs := rfl) (w5 := (hw _ (List.mem_of_getElem? (i := 93) rfl))) (w6 := (hw _ (List.mem_of_getElem? (i := 95) rfl))))) ?_
  refine okc_cons (show Good l Z hz shp A O x code 16 ret 190 (sLoad 2 5 192) from g_aload at_190) ?_
  refine okc_cons (show Good l Z hz shp A O x code 16 ret 192 (sLoad 0 12 194) from g_iload at_192) ?_
  refine okc_cons (fun m hm => by
    obtain rfl : m = (2, cd_15) := (Option.some.inj hm).symm
    exact (show CallGood l Z hz shp A O x code 16 ret (⟨"org/distinguo/identify/BlockTree", "end", "(I)I"⟩ : MethodName) prog_45_method_8_code 2 (some .int) 194 2 197 (ckObj 0) from c_virtual (a0 := a0) (sid := 0) (hd := at_194) (hpl := pl_15) (hdesc := pd_15) (hna := rfl) (hy := by decide) (w1 := (hw _ (List.mem_of_getElem? (i := 92) rfl))) (w2 := (hw _ (List.mem_of_getElem? (i := 94) rfl))) (w3 := (hw _ (List.mem_of_getElem? (i := 2) rfl))) (w4 := (hw _ (List.mem_of_getElem? (i := 96) rfl))) (hs := rfl) (w5 := (hw _ (List.mem_of_getElem? (i := 93) rfl))) (w6 := (hw _ (List.mem_of_getElem? (i := 95) rfl))))) ?_
  refine okc_cons (fun m hm => by
    obtain rfl : m = (2, cd_3) := (Option.some.inj hm).symm
    exact (show CallGood l Z hz shp A O x code 16 ret (⟨"java/lang/Math", "max", "(II)I"⟩ : MethodName) jdk_29_method_65_code 2 (some .int) 197 2 200 (ckAny) from c_static (a0 := a0) (hd := at_197) (hpl := pl_3) (hdesc := pd_3) (hna := rfl) (hy := by decide) (w1 := (hw _ (List.mem_of_getElem? (i := 97) rfl))) (w2 := (hw _ (List.mem_of_getElem? (i := 10) rfl))) (w3 := (hw _ (List.mem_of_getElem? (i := 11) rfl))) (w4 := (hw _ (List.mem_of_getElem? (i := 12) rfl))))) ?_
  refine okc_cons (show Good l Z hz shp A O x code 16 ret 200 (sPush (0, .int 1) 201) from g_iconst at_200 rfl) ?_
  refine okc_cons (show Good l Z hz shp A O x code 16 ret 201 (sBin 0 0 0 (jI Term.sub) 202) from g_isub at_201) ?_
  refine okc_cons (show Good l Z hz shp A O x code 16 ret 202 (sStore 0 14 204) from g_istore at_202) ?_
  refine okc_cons (show Good l Z hz shp A O x code 16 ret 204 (sLoad 2 8 206) from g_aload at_204) ?_
  refine okc_cons (show Good l Z hz shp A O x code 16 ret 206 (sPush (0, .int 0) 207) from g_iconst at_206 rfl) ?_
  refine okc_cons (show Good l Z hz shp A O x code 16 ret 207 (sLoad 2 5 209) from g_aload at_207) ?_
  refine okc_cons (show Good l Z hz shp A O x code 16 ret 209 (sLoad 0 13 211) from g_iload at_209) ?_
  refine okc_cons (fun m hm => by
    obtain rfl : m = (2, cd_16) := (Option.some.inj hm).symm
    exact (show CallGood l Z hz shp A O x code 16 ret (⟨"org/distinguo/identify/BlockTree", "stateAt", "(I)I"⟩ : MethodName) prog_45_method_9_code 2 (some .int) 211 2 214 (ckObj 0) from c_virtual (a0 := a0) (sid := 0) (hd := at_211) (hpl := pl_16) (hdesc := pd_16) (hna := rfl) (hy := by decide) (w1 := (hw _ (List.mem_of_getElem? (i := 98) rfl))) (w2 := (hw _ (List.mem_of_getElem? (i := 100) rfl))) (w3 := (hw _ (List.mem_of_getElem? (i := 2) rfl))) (w4 := (hw _ (List.mem_of_getElem? (i := 102) rfl))) (hs := rfl) (w5 := (hw _ (List.mem_of_getElem? (i := 99) rfl))) (w6 := (hw _ (List.mem_of_getElem? (i := 101) rfl))))) ?_
  refine okc_cons (show Good l Z hz shp A O x code 16 ret 214 (sStM 1 215) from g_iastoreM (sid := 1) at_214 rfl rfl) ?_
  refine okc_cons (show Good l Z hz shp A O x code 16 ret 215 (sLoad 2 8 217) from g_aload at_215) ?_
  refine okc_cons (show Good l Z hz shp A O x code 16 ret 217 (sPush (0, .int 1) 218) from g_iconst at_217 rfl) ?_
  refine okc_cons (show Good l Z hz shp A O x code 16 ret 218 (sLoad 2 5 220) from g_aload at_218) ?_
  refine okc_cons (show Good l Z hz shp A O x code 16 ret 220 (sLoad 0 14 222) from g_iload at_220) ?_
  refine okc_cons (fun m hm => by
    obtain rfl : m = (2, cd_16) := (Option.some.inj hm).symm
    exact (show CallGood l Z hz shp A O x code 16 ret (⟨"org/distinguo/identify/BlockTree", "stateAt", "(I)I"⟩ : MethodName) prog_45_method_9_code 2 (some .int) 222 2 225 (ckObj 0) from c_virtual (a0 := a0) (sid := 0) (hd := at_222) (hpl := pl_16) (hdesc := pd_16) (hna := rfl) (hy := by decide) (w1 := (hw _ (List.mem_of_getElem? (i := 98) rfl))) (w2 := (hw _ (List.mem_of_getElem? (i := 100) rfl))) (w3 := (hw _ (List.mem_of_getElem? (i := 2) rfl))) (w4 := (hw _ (List.mem_of_getElem? (i := 102) rfl))) (hs := rfl) (w5 := (hw _ (List.mem_of_getElem? (i := 99) rfl))) (w6 := (hw _ (List.mem_of_getElem? (i := 101) rfl))))) ?_
  refine okc_cons (show Good l Z hz shp A O x code 16 ret 225 (sStM 1 226) from g_iastoreM (sid := 1) at_225 rfl rfl) ?_
  refine okc_cons (show Good l Z hz shp A O x code 16 ret 226 (sLoad 2 5 228) from g_aload at_226) ?_
  refine okc_cons (show Good l Z hz shp A O x code 16 ret 228 (sLoad 2 8 230) from g_aload at_228) ?_
  refine okc_cons (show Good l Z hz shp A O x code 16 ret 230 (sPush (0, .int 2) 231) from g_iconst at_230 rfl) ?_
  refine okc_cons (fun m hm => by
    obtain rfl : m = (6, cd_17) := (Option.some.inj hm).symm
    exact (show CallGood l Z hz shp A O x code 16 ret (⟨"org/distinguo/identify/BlockTree", "deepestHolding", "([II)I"⟩ : MethodName) prog_45_method_13_code 6 (some .int) 231 3 234 (ckObj 0) from c_virtual (a0 := a0) (sid := 0) (hd := at_231) (hpl := pl_17) (hdesc := pd_17) (hna := rfl) (hy := by decide) (w1 := (hw _ (List.mem_of_getElem? (i := 103) rfl))) (w2 := (hw _ (List.mem_of_getElem? (i := 105) rfl))) (w3 := (hw _ (List.mem_of_getElem? (i := 2) rfl))) (w4 := (hw _ (List.mem_of_getElem? (i := 107) rfl))) (hs := rfl) (w5 := (hw _ (List.mem_of_getElem? (i := 104) rfl))) (w6 := (hw _ (List.mem_of_getElem? (i := 106) rfl))))) ?_
  refine okc_cons (show Good l Z hz shp A O x code 16 ret 234 (sStore 0 15 236) from g_istore at_234) ?_
  refine okc_cons (show Good l Z hz shp A O x code 16 ret 236 (sLoad 2 5 238) from g_aload at_236) ?_
  refine okc_cons (show Good l Z hz shp A O x code 16 ret 238 (sLoad 0 11 240) from g_iload at_238) ?_
  refine okc_cons (show Good l Z hz shp A O x code 16 ret 240 (sLoad 0 12 242) from g_iload at_240) ?_
  refine okc_cons (fun m hm => by
    obtain rfl : m = (5, cd_18) := (Option.some.inj hm).symm
    exact (show CallGood l Z hz shp A O x code 16 ret (⟨"org/distinguo/identify/BlockTree", "commonAncestor", "(II)I"⟩ : MethodName) prog_45_method_12_code 5 (some .int) 242 3 245 (ckObj 0) from c_virtual (a0 := a0) (sid := 0) (hd := at_242) (hpl := pl_18) (hdesc := pd_18) (hna := rfl) (hy := by decide) (w1 := (hw _ (List.mem_of_getElem? (i := 109) rfl))) (w2 := (hw _ (List.mem_of_getElem? (i := 111) rfl))) (w3 := (hw _ (List.mem_of_getElem? (i := 2) rfl))) (w4 := (hw _ (List.mem_of_getElem? (i := 113) rfl))) (hs := rfl) (w5 := (hw _ (List.mem_of_getElem? (i := 110) rfl))) (w6 := (hw _ (List.mem_of_getElem? (i := 112) rfl))))) ?_
  refine okc_cons (show Good l Z hz shp A O x code 16 ret 245 (sLoad 0 15 247) from g_iload at_245) ?_
  refine okc_cons (show Good l Z hz shp A O x code 16 ret 247 (sIcmp .ne 254 250) from g_icmp at_247 (by decide) (by decide)) ?_
  refine okc_cons (show Good l Z hz shp A O x code 16 ret 250 (sPush (0, .int 1) 251) from g_iconst at_250 rfl) ?_
  refine okc_cons (show Good l Z hz shp A O x code 16 ret 251 (sGoto 255) from g_goto at_251 (by decide) (by decide)) ?_
  refine okc_cons (show Good l Z hz shp A O x code 16 ret 254 (sPush (0, .int 0) 255) from g_iconst at_254 rfl) ?_
  refine okc_cons (show RetGood l Z hz shp A O x code 16 ret 255 (rVal .boolean) from g_ret at_255 (by decide) (by simp)) ?_
  exact okc_nil
set_option maxRecDepth 65536 in
set_option maxHeartbeats 40000000 in
theorem cok_1 (hw : ∀ d ∈ tables_1, d.before a0 Z = true) (hzZ : hz = Z.heap) (hO0 : O 0 = lamO Z (⟨"org/distinguo/identify/BlockTree", "<init>", "(II)V"⟩ : MethodName) 101 49 sig_0) (hO1 : O 1 = lamO Z (⟨"org/distinguo/identify/BlockTree", "<init>", "(II)V"⟩ : MethodName) 113 59 sig_1) : ∀ el ∈ cd_1, ElOk l Z hz shp A O 40 320 mts mis 1 4 el := by
  unfold cd_1
  refine okc_cons (show Good l Z hz shp A O (⟨"org/distinguo/identify/BlockTree", "<init>", "(II)V"⟩ : MethodName) prog_45_method_1_code 4 none 0 (sLoad 2 0 1) from g_aloadN d1_0) ?_
  refine okc_cons (show GoodN l Z hz shp A O (⟨"org/distinguo/identify/BlockTree", "<init>", "(II)V"⟩ : MethodName) prog_45_method_1_code 4 none 1 (sInitO 4 4) from g_initO d1_1 (hw _ (List.mem_of_getElem? (i := 6) rfl)) (hw _ (List.mem_of_getElem? (i := 7) rfl)) (hw _ (List.mem_of_getElem? (i := 8) rfl))) ?_
  refine okc_cons (show Good l Z hz shp A O (⟨"org/distinguo/identify/BlockTree", "<init>", "(II)V"⟩ : MethodName) prog_45_method_1_code 4 none 4 (sPush (0, .int 1) 5) from g_iconst d1_4 rfl) ?_
  refine okc_cons (show Good l Z hz shp A O (⟨"org/distinguo/identify/BlockTree", "<init>", "(II)V"⟩ : MethodName) prog_45_method_1_code 4 none 5 (sPush (0, .int 2) 6) from g_iconst d1_5 rfl) ?_
  refine okc_cons (show Good l Z hz shp A O (⟨"org/distinguo/identify/BlockTree", "<init>", "(II)V"⟩ : MethodName) prog_45_method_1_code 4 none 6 (sLoad 0 1 7) from g_iloadN d1_6) ?_
  refine okc_cons (show Good l Z hz shp A O (⟨"org/distinguo/identify/BlockTree", "<init>", "(II)V"⟩ : MethodName) prog_45_method_1_code 4 none 7 (sBin 0 0 0 (jI Term.mul) 8) from g_imul d1_7) ?_
  refine okc_cons (show Good l Z hz shp A O (⟨"org/distinguo/identify/BlockTree", "<init>", "(II)V"⟩ : MethodName) prog_45_method_1_code 4 none 8 (sPush (0, .int 1) 9) from g_iconst d1_8 rfl) ?_
  refine okc_cons (show Good l Z hz shp A O (⟨"org/distinguo/identify/BlockTree", "<init>", "(II)V"⟩ : MethodName) prog_45_method_1_code 4 none 9 (sBin 0 0 0 (jI Term.sub) 10) from g_isub d1_9) ?_
  refine okc_cons (fun m hm => by
    obtain rfl : m = (2, cd_3) := (Option.some.inj hm).symm
    exact (show CallGood l Z hz shp A O (⟨"org/distinguo/identify/BlockTree", "<init>", "(II)V"⟩ : MethodName) prog_45_method_1_code 4 none (⟨"java/lang/Math", "max", "(II)I"⟩ : MethodName) jdk_29_method_65_code 2 (some .int) 10 2 13 (ckAny) from c_static (a0 := a0) (hd := d1_10) (hpl := pl_3) (hdesc := pd_3) (hna := rfl) (hy := by decide) (w1 := (hw _ (List.mem_of_getElem? (i := 9) rfl))) (w2 := (hw _ (List.mem_of_getElem? (i := 10) rfl))) (w3 := (hw _ (List.mem_of_getElem? (i := 11) rfl))) (w4 := (hw _ (List.mem_of_getElem? (i := 12) rfl))))) ?_
  refine okc_cons (show Good l Z hz shp A O (⟨"org/distinguo/identify/BlockTree", "<init>", "(II)V"⟩ : MethodName) prog_45_method_1_code 4 none 13 (sStore 0 3 14) from g_istoreN d1_13) ?_
  refine okc_cons (show Good l Z hz shp A O (⟨"org/distinguo/identify/BlockTree", "<init>", "(II)V"⟩ : MethodName) prog_45_method_1_code 4 none 14 (sLoad 2 0 15) from g_aloadN d1_14) ?_
  refine okc_cons (show Good l Z hz shp A O (⟨"org/distinguo/identify/BlockTree", "<init>", "(II)V"⟩ : MethodName) prog_45_method_1_code 4 none 15 (sLoad 0 3 16) from g_iloadN d1_15) ?_
  refine okc_cons (show Good l Z hz shp A O (⟨"org/distinguo/identify/BlockTree", "<init>", "(II)V"⟩ : MethodName) prog_45_method_1_code 4 none 16 (sNewA 1 .int 18) from g_newarray (sid := 1) d1_16 rfl (by decide) (hw _ (List.mem_of_getElem? (i := 13) rfl))) ?_
  refine okc_cons (show Good l Z hz shp A O (⟨"org/distinguo/identify/BlockTree", "<init>", "(II)V"⟩ : MethodName) prog_45_method_1_code 4 none 18 (sPutF 0 0 (.array .int) 21) from g_putfield (sid := 0) (i := 0) (R0 := "org/distinguo/identify/BlockTree") d1_18 rfl (sok_0 hw) rfl (by decide) (hw _ (List.mem_of_getElem? (i := 14) rfl)) Via.refl (Or.inr ⟨(hw _ (List.mem_of_getElem? (i := 15) rfl)), rfl, rfl⟩)) ?_
  refine okc_cons (show Good l Z hz shp A O (⟨"org/distinguo/identify/BlockTree", "<init>", "(II)V"⟩ : MethodName) prog_45_method_1_code 4 none 21 (sLoad 2 0 22) from g_aloadN d1_21) ?_
  refine okc_cons (show Good l Z hz shp A O (⟨"org/distinguo/identify/BlockTree", "<init>", "(II)V"⟩ : MethodName) prog_45_method_1_code 4 none 22 (sLoad 0 3 23) from g_iloadN d1_22) ?_
  refine okc_cons (show Good l Z hz shp A O (⟨"org/distinguo/identify/BlockTree", "<init>", "(II)V"⟩ : MethodName) prog_45_method_1_code 4 none 23 (sNewA 1 .int 25) from g_newarray (sid := 1) d1_23 rfl (by decide) (hw _ (List.mem_of_getElem? (i := 13) rfl))) ?_
  refine okc_cons (show Good l Z hz shp A O (⟨"org/distinguo/identify/BlockTree", "<init>", "(II)V"⟩ : MethodName) prog_45_method_1_code 4 none 25 (sPutF 0 1 (.array .int) 28) from g_putfield (sid := 0) (i := 1) (R0 := "org/distinguo/identify/BlockTree") d1_25 rfl (sok_0 hw) rfl (by decide) (hw _ (List.mem_of_getElem? (i := 16) rfl)) Via.refl (Or.inr ⟨(hw _ (List.mem_of_getElem? (i := 17) rfl)), rfl, rfl⟩)) ?_
  refine okc_cons (show Good l Z hz shp A O (⟨"org/distinguo/identify/BlockTree", "<init>", "(II)V"⟩ : MethodName) prog_45_method_1_code 4 none 28 (sLoad 2 0 29) from g_aloadN d1_28) ?_
  refine okc_cons (show Good l Z hz shp A O (⟨"org/distinguo/identify/BlockTree", "<init>", "(II)V"⟩ : MethodName) prog_45_method_1_code 4 none 29 (sLoad 0 3 30) from g_iloadN d1_29) ?_
  refine okc_cons (show Good l Z hz shp A O (⟨"org/distinguo/identify/BlockTree", "<init>", "(II)V"⟩ : MethodName) prog_45_method_1_code 4 none 30 (sNewA 1 .int 32) from g_newarray (sid := 1) d1_30 rfl (by decide) (hw _ (List.mem_of_getElem? (i := 13) rfl))) ?_
  refine okc_cons (show Good l Z hz shp A O (⟨"org/distinguo/identify/BlockTree", "<init>", "(II)V"⟩ : MethodName) prog_45_method_1_code 4 none 32 (sPutF 0 2 (.array .int) 35) from g_putfield (sid := 0) (i := 2) (R0 := "org/distinguo/identify/BlockTree") d1_32 rfl (sok_0 hw) rfl (by decide) (hw _ (List.mem_of_getElem? (i := 18) rfl)) Via.refl (Or.inr ⟨(hw _ (List.mem_of_getElem? (i := 19) rfl)), rfl, rfl⟩)) ?_
  refine okc_cons (show Good l Z hz shp A O (⟨"org/distinguo/identify/BlockTree", "<init>", "(II)V"⟩ : MethodName) prog_45_method_1_code 4 none 35 (sLoad 2 0 36) from g_aloadN d1_35) ?_
  refine okc_cons (show Good l Z hz shp A O (⟨"org/distinguo/identify/BlockTree", "<init>", "(II)V"⟩ : MethodName) prog_45_method_1_code 4 none 36 (sLoad 0 3 37) from g_iloadN d1_36) ?_
  refine okc_cons (show Good l Z hz shp A O (⟨"org/distinguo/identify/BlockTree", "<init>", "(II)V"⟩ : MethodName) prog_45_method_1_code 4 none 37 (sNewA 1 .int 39) from g_newarray (sid := 1) d1_37 rfl (by decide) (hw _ (List.mem_of_getElem? (i := 13) rfl))) ?_
  refine okc_cons (show Good l Z hz shp A O (⟨"org/distinguo/identify/BlockTree", "<init>", "(II)V"⟩ : MethodName) prog_45_method_1_code 4 none 39 (sPutF 0 3 (.array .int) 42) from g_putfield (sid := 0) (i := 3) (R0 := "org/distinguo/identify/BlockTree") d1_39 rfl (sok_0 hw) rfl (by decide) (hw _ (List.mem_of_getElem? (i := 20) rfl)) Via.refl (Or.inr ⟨(hw _ (List.mem_of_getElem? (i := 21) rfl)), rfl, rfl⟩)) ?_
  refine okc_cons (show Good l Z hz shp A O (⟨"org/distinguo/identify/BlockTree", "<init>", "(II)V"⟩ : MethodName) prog_45_method_1_code 4 none 42 (sLoad 2 0 43) from g_aloadN d1_42) ?_
  refine okc_cons (show Good l Z hz shp A O (⟨"org/distinguo/identify/BlockTree", "<init>", "(II)V"⟩ : MethodName) prog_45_method_1_code 4 none 43 (sLoad 0 3 44) from g_iloadN d1_43) ?_
  refine okc_cons (show Good l Z hz shp A O (⟨"org/distinguo/identify/BlockTree", "<init>", "(II)V"⟩ : MethodName) prog_45_method_1_code 4 none 44 (sNewA 1 .int 46) from g_newarray (sid := 1) d1_44 rfl (by decide) (hw _ (List.mem_of_getElem? (i := 13) rfl))) ?_
  refine okc_cons (show Good l Z hz shp A O (⟨"org/distinguo/identify/BlockTree", "<init>", "(II)V"⟩ : MethodName) prog_45_method_1_code 4 none 46 (sPutF 0 4 (.array .int) 49) from g_putfield (sid := 0) (i := 4) (R0 := "org/distinguo/identify/BlockTree") d1_46 rfl (sok_0 hw) rfl (by decide) (hw _ (List.mem_of_getElem? (i := 22) rfl)) Via.refl (Or.inr ⟨(hw _ (List.mem_of_getElem? (i := 23) rfl)), rfl, rfl⟩)) ?_
  refine okc_cons (show Good l Z hz shp A O (⟨"org/distinguo/identify/BlockTree", "<init>", "(II)V"⟩ : MethodName) prog_45_method_1_code 4 none 49 (sLoad 2 0 50) from g_aloadN d1_49) ?_
  refine okc_cons (show Good l Z hz shp A O (⟨"org/distinguo/identify/BlockTree", "<init>", "(II)V"⟩ : MethodName) prog_45_method_1_code 4 none 50 (sLoad 0 1 51) from g_iloadN d1_50) ?_
  refine okc_cons (show Good l Z hz shp A O (⟨"org/distinguo/identify/BlockTree", "<init>", "(II)V"⟩ : MethodName) prog_45_method_1_code 4 none 51 (sNewA 1 .int 53) from g_newarray (sid := 1) d1_51 rfl (by decide) (hw _ (List.mem_of_getElem? (i := 13) rfl))) ?_
  refine okc_cons (show Good l Z hz shp A O (⟨"org/distinguo/identify/BlockTree", "<init>", "(II)V"⟩ : MethodName) prog_45_method_1_code 4 none 53 (sPutF 0 5 (.array .int) 56) from g_putfield (sid := 0) (i := 5) (R0 := "org/distinguo/identify/BlockTree") d1_53 rfl (sok_0 hw) rfl (by decide) (hw _ (List.mem_of_getElem? (i := 24) rfl)) Via.refl (Or.inr ⟨(hw _ (List.mem_of_getElem? (i := 25) rfl)), rfl, rfl⟩)) ?_
  refine okc_cons (show Good l Z hz shp A O (⟨"org/distinguo/identify/BlockTree", "<init>", "(II)V"⟩ : MethodName) prog_45_method_1_code 4 none 56 (sLoad 2 0 57) from g_aloadN d1_56) ?_
  refine okc_cons (show Good l Z hz shp A O (⟨"org/distinguo/identify/BlockTree", "<init>", "(II)V"⟩ : MethodName) prog_45_method_1_code 4 none 57 (sLoad 0 1 58) from g_iloadN d1_57) ?_
  refine okc_cons (show Good l Z hz shp A O (⟨"org/distinguo/identify/BlockTree", "<init>", "(II)V"⟩ : MethodName) prog_45_method_1_code 4 none 58 (sNewA 1 .int 60) from g_newarray (sid := 1) d1_58 rfl (by decide) (hw _ (List.mem_of_getElem? (i := 13) rfl))) ?_
  refine okc_cons (show Good l Z hz shp A O (⟨"org/distinguo/identify/BlockTree", "<init>", "(II)V"⟩ : MethodName) prog_45_method_1_code 4 none 60 (sPutF 0 6 (.array .int) 63) from g_putfield (sid := 0) (i := 6) (R0 := "org/distinguo/identify/BlockTree") d1_60 rfl (sok_0 hw) rfl (by decide) (hw _ (List.mem_of_getElem? (i := 26) rfl)) Via.refl (Or.inr ⟨(hw _ (List.mem_of_getElem? (i := 27) rfl)), rfl, rfl⟩)) ?_
  refine okc_cons (show Good l Z hz shp A O (⟨"org/distinguo/identify/BlockTree", "<init>", "(II)V"⟩ : MethodName) prog_45_method_1_code 4 none 63 (sLoad 2 0 64) from g_aloadN d1_63) ?_
  refine okc_cons (show Good l Z hz shp A O (⟨"org/distinguo/identify/BlockTree", "<init>", "(II)V"⟩ : MethodName) prog_45_method_1_code 4 none 64 (sLoad 0 1 65) from g_iloadN d1_64) ?_
  refine okc_cons (show Good l Z hz shp A O (⟨"org/distinguo/identify/BlockTree", "<init>", "(II)V"⟩ : MethodName) prog_45_method_1_code 4 none 65 (sNewA 1 .int 67) from g_newarray (sid := 1) d1_65 rfl (by decide) (hw _ (List.mem_of_getElem? (i := 13) rfl))) ?_
  refine okc_cons (show Good l Z hz shp A O (⟨"org/distinguo/identify/BlockTree", "<init>", "(II)V"⟩ : MethodName) prog_45_method_1_code 4 none 67 (sPutF 0 7 (.array .int) 70) from g_putfield (sid := 0) (i := 7) (R0 := "org/distinguo/identify/BlockTree") d1_67 rfl (sok_0 hw) rfl (by decide) (hw _ (List.mem_of_getElem? (i := 28) rfl)) Via.refl (Or.inr ⟨(hw _ (List.mem_of_getElem? (i := 29) rfl)), rfl, rfl⟩)) ?_
  refine okc_cons (show Good l Z hz shp A O (⟨"org/distinguo/identify/BlockTree", "<init>", "(II)V"⟩ : MethodName) prog_45_method_1_code 4 none 70 (sLoad 2 0 71) from g_aloadN d1_70) ?_
  refine okc_cons (show Good l Z hz shp A O (⟨"org/distinguo/identify/BlockTree", "<init>", "(II)V"⟩ : MethodName) prog_45_method_1_code 4 none 71 (sLoad 0 2 72) from g_iloadN d1_71) ?_
  refine okc_cons (show Good l Z hz shp A O (⟨"org/distinguo/identify/BlockTree", "<init>", "(II)V"⟩ : MethodName) prog_45_method_1_code 4 none 72 (sLoad 0 3 73) from g_iloadN d1_72) ?_
  refine okc_cons (fun m hm => by
    obtain rfl : m = (2, cd_3) := (Option.some.inj hm).symm
    exact (show CallGood l Z hz shp A O (⟨"org/distinguo/identify/BlockTree", "<init>", "(II)V"⟩ : MethodName) prog_45_method_1_code 4 none (⟨"java/lang/Math", "max", "(II)I"⟩ : MethodName) jdk_29_method_65_code 2 (some .int) 73 2 76 (ckAny) from c_static (a0 := a0) (hd := d1_73) (hpl := pl_3) (hdesc := pd_3) (hna := rfl) (hy := by decide) (w1 := (hw _ (List.mem_of_getElem? (i := 9) rfl))) (w2 := (hw _ (List.mem_of_getElem? (i := 10) rfl))) (w3 := (hw _ (List.mem_of_getElem? (i := 11) rfl))) (w4 := (hw _ (List.mem_of_getElem? (i := 12) rfl))))) ?_
  refine okc_cons (show Good l Z hz shp A O (⟨"org/distinguo/identify/BlockTree", "<init>", "(II)V"⟩ : MethodName) prog_45_method_1_code 4 none 76 (sPush (0, .int 1) 77) from g_iconst d1_76 rfl) ?_
  refine okc_cons (show Good l Z hz shp A O (⟨"org/distinguo/identify/BlockTree", "<init>", "(II)V"⟩ : MethodName) prog_45_method_1_code 4 none 77 (sBin 0 0 0 (jI Term.add) 78) from g_iadd d1_77) ?_
  refine okc_cons (show Good l Z hz shp A O (⟨"org/distinguo/identify/BlockTree", "<init>", "(II)V"⟩ : MethodName) prog_45_method_1_code 4 none 78 (sNewA 1 .int 80) from g_newarray (sid := 1) d1_78 rfl (by decide) (hw _ (List.mem_of_getElem? (i := 13) rfl))) ?_
  refine okc_cons (show Good l Z hz shp A O (⟨"org/distinguo/identify/BlockTree", "<init>", "(II)V"⟩ : MethodName) prog_45_method_1_code 4 none 80 (sPutF 0 8 (.array .int) 83) from g_putfield (sid := 0) (i := 8) (R0 := "org/distinguo/identify/BlockTree") d1_80 rfl (sok_0 hw) rfl (by decide) (hw _ (List.mem_of_getElem? (i := 30) rfl)) Via.refl (Or.inr ⟨(hw _ (List.mem_of_getElem? (i := 31) rfl)), rfl, rfl⟩)) ?_
  refine okc_cons (show Good l Z hz shp A O (⟨"org/distinguo/identify/BlockTree", "<init>", "(II)V"⟩ : MethodName) prog_45_method_1_code 4 none 83 (sLoad 2 0 84) from g_aloadN d1_83) ?_
  refine okc_cons (show Good l Z hz shp A O (⟨"org/distinguo/identify/BlockTree", "<init>", "(II)V"⟩ : MethodName) prog_45_method_1_code 4 none 84 (sLoad 0 1 85) from g_iloadN d1_84) ?_
  refine okc_cons (show Good l Z hz shp A O (⟨"org/distinguo/identify/BlockTree", "<init>", "(II)V"⟩ : MethodName) prog_45_method_1_code 4 none 85 (sNewA 1 .int 87) from g_newarray (sid := 1) d1_85 rfl (by decide) (hw _ (List.mem_of_getElem? (i := 13) rfl))) ?_
  refine okc_cons (show Good l Z hz shp A O (⟨"org/distinguo/identify/BlockTree", "<init>", "(II)V"⟩ : MethodName) prog_45_method_1_code 4 none 87 (sPutF 0 9 (.array .int) 90) from g_putfield (sid := 0) (i := 9) (R0 := "org/distinguo/identify/BlockTree") d1_87 rfl (sok_0 hw) rfl (by decide) (hw _ (List.mem_of_getElem? (i := 32) rfl)) Via.refl (Or.inr ⟨(hw _ (List.mem_of_getElem? (i := 33) rfl)), rfl, rfl⟩)) ?_
  refine okc_cons (show Good l Z hz shp A O (⟨"org/distinguo/identify/BlockTree", "<init>", "(II)V"⟩ : MethodName) prog_45_method_1_code 4 none 90 (sLoad 2 0 91) from g_aloadN d1_90) ?_
  refine okc_cons (show Good l Z hz shp A O (⟨"org/distinguo/identify/BlockTree", "<init>", "(II)V"⟩ : MethodName) prog_45_method_1_code 4 none 91 (sLoad 0 1 92) from g_iloadN d1_91) ?_
  refine okc_cons (show Good l Z hz shp A O (⟨"org/distinguo/identify/BlockTree", "<init>", "(II)V"⟩ : MethodName) prog_45_method_1_code 4 none 92 (sNewA 1 .int 94) from g_newarray (sid := 1) d1_92 rfl (by decide) (hw _ (List.mem_of_getElem? (i := 13) rfl))) ?_
  refine okc_cons (show Good l Z hz shp A O (⟨"org/distinguo/identify/BlockTree", "<init>", "(II)V"⟩ : MethodName) prog_45_method_1_code 4 none 94 (sPutF 0 10 (.array .int) 97) from g_putfield (sid := 0) (i := 10) (R0 := "org/distinguo/identify/BlockTree") d1_94 rfl (sok_0 hw) rfl (by decide) (hw _ (List.mem_of_getElem? (i := 34) rfl)) Via.refl (Or.inr ⟨(hw _ (List.mem_of_getElem? (i := 35) rfl)), rfl, rfl⟩)) ?_
  refine okc_cons (show Good l Z hz shp A O (⟨"org/distinguo/identify/BlockTree", "<init>", "(II)V"⟩ : MethodName) prog_45_method_1_code 4 none 97 (sLoad 2 0 98) from g_aloadN d1_97) ?_
  refine okc_cons (show Good l Z hz shp A O (⟨"org/distinguo/identify/BlockTree", "<init>", "(II)V"⟩ : MethodName) prog_45_method_1_code 4 none 98 (sGetF 0 5 101) from g_getfield (sid := 0) (i := 5) (R0 := "org/distinguo/identify/BlockTree") (host := "") d1_98 rfl rfl (Or.inl (hw _ (List.mem_of_getElem? (i := 24) rfl))) Via.refl) ?_
  refine okc_cons (show GoodN l Z hz shp A O (⟨"org/distinguo/identify/BlockTree", "<init>", "(II)V"⟩ : MethodName) prog_45_method_1_code 4 none 101 (sLamC 4 0 106) from g_lamC (i := 0) (a0 := a0) d1_101 (hw _ (List.mem_of_getElem? (i := 36) rfl)) rfl hO0) ?_
  refine okc_cons (fun m hm => by
    obtain rfl : m = (3, cd_4) := (Option.some.inj hm).symm
    exact (show CallGood l Z hz shp A O (⟨"org/distinguo/identify/BlockTree", "<init>", "(II)V"⟩ : MethodName) prog_45_method_1_code 4 none (⟨"java/util/Arrays", "setAll", "([ILjava/util/function/IntUnaryOperator;)V"⟩ : MethodName) jdk_65_method_175_code 3 none 106 2 109 (ckAny) from c_static (a0 := a0) (hd := d1_106) (hpl := pl_4) (hdesc := pd_4) (hna := rfl) (hy := by decide) (w1 := (hw _ (List.mem_of_getElem? (i := 39) rfl))) (w2 := (hw _ (List.mem_of_getElem? (i := 40) rfl))) (w3 := (hw _ (List.mem_of_getElem? (i := 41) rfl))) (w4 := (hw _ (List.mem_of_getElem? (i := 42) rfl))))) ?_
  refine okc_cons (show Good l Z hz shp A O (⟨"org/distinguo/identify/BlockTree", "<init>", "(II)V"⟩ : MethodName) prog_45_method_1_code 4 none 109 (sLoad 2 0 110) from g_aloadN d1_109) ?_
  refine okc_cons (show Good l Z hz shp A O (⟨"org/distinguo/identify/BlockTree", "<init>", "(II)V"⟩ : MethodName) prog_45_method_1_code 4 none 110 (sGetF 0 6 113) from g_getfield (sid := 0) (i := 6) (R0 := "org/distinguo/identify/BlockTree") (host := "") d1_110 rfl rfl (Or.inl (hw _ (List.mem_of_getElem? (i := 26) rfl))) Via.refl) ?_
  refine okc_cons (show GoodN l Z hz shp A O (⟨"org/distinguo/identify/BlockTree", "<init>", "(II)V"⟩ : MethodName) prog_45_method_1_code 4 none 113 (sLamC 4 1 118) from g_lamC (i := 1) (a0 := a0) d1_113 (hw _ (List.mem_of_getElem? (i := 52) rfl)) rfl hO1) ?_
  refine okc_cons (fun m hm => by
    obtain rfl : m = (3, cd_4) := (Option.some.inj hm).symm
    exact (show CallGood l Z hz shp A O (⟨"org/distinguo/identify/BlockTree", "<init>", "(II)V"⟩ : MethodName) prog_45_method_1_code 4 none (⟨"java/util/Arrays", "setAll", "([ILjava/util/function/IntUnaryOperator;)V"⟩ : MethodName) jdk_65_method_175_code 3 none 118 2 121 (ckAny) from c_static (a0 := a0) (hd := d1_118) (hpl := pl_4) (hdesc := pd_4) (hna := rfl) (hy := by decide) (w1 := (hw _ (List.mem_of_getElem? (i := 39) rfl))) (w2 := (hw _ (List.mem_of_getElem? (i := 40) rfl))) (w3 := (hw _ (List.mem_of_getElem? (i := 41) rfl))) (w4 := (hw _ (List.mem_of_getElem? (i := 42) rfl))))) ?_
  refine okc_cons (show Good l Z hz shp A O (⟨"org/distinguo/identify/BlockTree", "<init>", "(II)V"⟩ : MethodName) prog_45_method_1_code 4 none 121 (sLoad 2 0 122) from g_aloadN d1_121) ?_
  refine okc_cons (show Good l Z hz shp A O (⟨"org/distinguo/identify/BlockTree", "<init>", "(II)V"⟩ : MethodName) prog_45_method_1_code 4 none 122 (sGetF 0 8 125) from g_getfield (sid := 0) (i := 8) (R0 := "org/distinguo/identify/BlockTree") (host := "") d1_122 rfl rfl (Or.inl (hw _ (List.mem_of_getElem? (i := 30) rfl))) Via.refl) ?_
  refine okc_cons (show Good l Z hz shp A O (⟨"org/distinguo/identify/BlockTree", "<init>", "(II)V"⟩ : MethodName) prog_45_method_1_code 4 none 125 (sPush (0, .int (-1)) 126) from g_iconst d1_125 rfl) ?_
  refine okc_cons (fun m hm => by
    obtain rfl : m = (4, cd_8) := (Option.some.inj hm).symm
    exact (show CallGood l Z hz shp A O (⟨"org/distinguo/identify/BlockTree", "<init>", "(II)V"⟩ : MethodName) prog_45_method_1_code 4 none (⟨"java/util/Arrays", "fill", "([II)V"⟩ : MethodName) jdk_65_method_103_code 4 none 126 2 129 (ckAny) from c_static (a0 := a0) (hd := d1_126) (hpl := pl_8) (hdesc := pd_8) (hna := rfl) (hy := by decide) (w1 := (hw _ (List.mem_of_getElem? (i := 55) rfl))) (w2 := (hw _ (List.mem_of_getElem? (i := 56) rfl))) (w3 := (hw _ (List.mem_of_getElem? (i := 41) rfl))) (w4 := (hw _ (List.mem_of_getElem? (i := 57) rfl))))) ?_
  refine okc_cons (show Good l Z hz shp A O (⟨"org/distinguo/identify/BlockTree", "<init>", "(II)V"⟩ : MethodName) prog_45_method_1_code 4 none 129 (sLoad 2 0 130) from g_aloadN d1_129) ?_
  refine okc_cons (show Good l Z hz shp A O (⟨"org/distinguo/identify/BlockTree", "<init>", "(II)V"⟩ : MethodName) prog_45_method_1_code 4 none 130 (sGetF 0 0 133) from g_getfield (sid := 0) (i := 0) (R0 := "org/distinguo/identify/BlockTree") (host := "") d1_130 rfl rfl (Or.inl (hw _ (List.mem_of_getElem? (i := 14) rfl))) Via.refl) ?_
  refine okc_cons (show Good l Z hz shp A O (⟨"org/distinguo/identify/BlockTree", "<init>", "(II)V"⟩ : MethodName) prog_45_method_1_code 4 none 133 (sPush (0, .int 0) 134) from g_iconst d1_133 rfl) ?_
  refine okc_cons (show Good l Z hz shp A O (⟨"org/distinguo/identify/BlockTree", "<init>", "(II)V"⟩ : MethodName) prog_45_method_1_code 4 none 134 (sPush (0, .int (-1)) 135) from g_iconst d1_134 rfl) ?_
  refine okc_cons (show Good l Z hz shp A O (⟨"org/distinguo/identify/BlockTree", "<init>", "(II)V"⟩ : MethodName) prog_45_method_1_code 4 none 135 (sStM 1 136) from g_iastoreM (sid := 1) d1_135 rfl rfl) ?_
  refine okc_cons (show Good l Z hz shp A O (⟨"org/distinguo/identify/BlockTree", "<init>", "(II)V"⟩ : MethodName) prog_45_method_1_code 4 none 136 (sLoad 2 0 137) from g_aloadN d1_136) ?_
  refine okc_cons (show Good l Z hz shp A O (⟨"org/distinguo/identify/BlockTree", "<init>", "(II)V"⟩ : MethodName) prog_45_method_1_code 4 none 137 (sGetF 0 2 140) from g_getfield (sid := 0) (i := 2) (R0 := "org/distinguo/identify/BlockTree") (host := "") d1_137 rfl rfl (Or.inl (hw _ (List.mem_of_getElem? (i := 18) rfl))) Via.refl) ?_
  refine okc_cons (show Good l Z hz shp A O (⟨"org/distinguo/identify/BlockTree", "<init>", "(II)V"⟩ : MethodName) prog_45_method_1_code 4 none 140 (sPush (0, .int 0) 141) from g_iconst d1_140 rfl) ?_
  refine okc_cons (show Good l Z hz shp A O (⟨"org/distinguo/identify/BlockTree", "<init>", "(II)V"⟩ : MethodName) prog_45_method_1_code 4 none 141 (sPush (0, .int (-1)) 142) from g_iconst d1_141 rfl) ?_
  refine okc_cons (show Good l Z hz shp A O (⟨"org/distinguo/identify/BlockTree", "<init>", "(II)V"⟩ : MethodName) prog_45_method_1_code 4 none 142 (sStM 1 143) from g_iastoreM (sid := 1) d1_142 rfl rfl) ?_
  refine okc_cons (show Good l Z hz shp A O (⟨"org/distinguo/identify/BlockTree", "<init>", "(II)V"⟩ : MethodName) prog_45_method_1_code 4 none 143 (sLoad 2 0 144) from g_aloadN d1_143) ?_
  refine okc_cons (show Good l Z hz shp A O (⟨"org/distinguo/identify/BlockTree", "<init>", "(II)V"⟩ : MethodName) prog_45_method_1_code 4 none 144 (sGetF 0 4 147) from g_getfield (sid := 0) (i := 4) (R0 := "org/distinguo/identify/BlockTree") (host := "") d1_144 rfl rfl (Or.inl (hw _ (List.mem_of_getElem? (i := 22) rfl))) Via.refl) ?_
  refine okc_cons (show Good l Z hz shp A O (⟨"org/distinguo/identify/BlockTree", "<init>", "(II)V"⟩ : MethodName) prog_45_method_1_code 4 none 147 (sPush (0, .int 0) 148) from g_iconst d1_147 rfl) ?_
  refine okc_cons (show Good l Z hz shp A O (⟨"org/distinguo/identify/BlockTree", "<init>", "(II)V"⟩ : MethodName) prog_45_method_1_code 4 none 148 (sLoad 0 1 149) from g_iloadN d1_148) ?_
  refine okc_cons (show Good l Z hz shp A O (⟨"org/distinguo/identify/BlockTree", "<init>", "(II)V"⟩ : MethodName) prog_45_method_1_code 4 none 149 (sStM 1 150) from g_iastoreM (sid := 1) d1_149 rfl rfl) ?_
  refine okc_cons (show Good l Z hz shp A O (⟨"org/distinguo/identify/BlockTree", "<init>", "(II)V"⟩ : MethodName) prog_45_method_1_code 4 none 150 (sLoad 2 0 151) from g_aloadN d1_150) ?_
  refine okc_cons (show Good l Z hz shp A O (⟨"org/distinguo/identify/BlockTree", "<init>", "(II)V"⟩ : MethodName) prog_45_method_1_code 4 none 151 (sPush (0, .int 1) 152) from g_iconst d1_151 rfl) ?_
  refine okc_cons (show Good l Z hz shp A O (⟨"org/distinguo/identify/BlockTree", "<init>", "(II)V"⟩ : MethodName) prog_45_method_1_code 4 none 152 (sPutF 0 11 .int 155) from g_putfield (sid := 0) (i := 11) (R0 := "org/distinguo/identify/BlockTree") d1_152 rfl (sok_0 hw) rfl (by decide) (hw _ (List.mem_of_getElem? (i := 58) rfl)) Via.refl (Or.inl (hw _ (List.mem_of_getElem? (i := 59) rfl)))) ?_
  refine okc_cons (show RetGood l Z hz shp A O (⟨"org/distinguo/identify/BlockTree", "<init>", "(II)V"⟩ : MethodName) prog_45_method_1_code 4 none 155 (rVoid) from g_return d1_155) ?_
  exact okc_nil
set_option maxRecDepth 65536 in
set_option maxHeartbeats 40000000 in
theorem cok_3 (hw : ∀ d ∈ tables_1, d.before a0 Z = true) (hzZ : hz = Z.heap) (hO0 : O 0 = lamO Z (⟨"org/distinguo/identify/BlockTree", "<init>", "(II)V"⟩ : MethodName) 101 49 sig_0) (hO1 : O 1 = lamO Z (⟨"org/distinguo/identify/BlockTree", "<init>", "(II)V"⟩ : MethodName) 113 59 sig_1) : ∀ el ∈ cd_3, ElOk l Z hz shp A O 40 320 mts mis 3 2 el := by
  unfold cd_3
  refine okc_cons (show Good l Z hz shp A O (⟨"java/lang/Math", "max", "(II)I"⟩ : MethodName) jdk_29_method_65_code 2 (some .int) 0 (sLoad 0 0 1) from g_iloadN d3_0) ?_
  refine okc_cons (show Good l Z hz shp A O (⟨"java/lang/Math", "max", "(II)I"⟩ : MethodName) jdk_29_method_65_code 2 (some .int) 1 (sLoad 0 1 2) from g_iloadN d3_1) ?_
  refine okc_cons (show Good l Z hz shp A O (⟨"java/lang/Math", "max", "(II)I"⟩ : MethodName) jdk_29_method_65_code 2 (some .int) 2 (sIcmp .lt 9 5) from g_icmp d3_2 (by decide) (by decide)) ?_
  refine okc_cons (show Good l Z hz shp A O (⟨"java/lang/Math", "max", "(II)I"⟩ : MethodName) jdk_29_method_65_code 2 (some .int) 5 (sLoad 0 0 6) from g_iloadN d3_5) ?_
  refine okc_cons (show Good l Z hz shp A O (⟨"java/lang/Math", "max", "(II)I"⟩ : MethodName) jdk_29_method_65_code 2 (some .int) 6 (sGoto 10) from g_goto d3_6 (by decide) (by decide)) ?_
  refine okc_cons (show Good l Z hz shp A O (⟨"java/lang/Math", "max", "(II)I"⟩ : MethodName) jdk_29_method_65_code 2 (some .int) 9 (sLoad 0 1 10) from g_iloadN d3_9) ?_
  refine okc_cons (show RetGood l Z hz shp A O (⟨"java/lang/Math", "max", "(II)I"⟩ : MethodName) jdk_29_method_65_code 2 (some .int) 10 (rVal .int) from g_ret d3_10 (by decide) (by simp)) ?_
  exact okc_nil
set_option maxRecDepth 65536 in
set_option maxHeartbeats 40000000 in
theorem cok_4 (hw : ∀ d ∈ tables_1, d.before a0 Z = true) (hzZ : hz = Z.heap) (hO0 : O 0 = lamO Z (⟨"org/distinguo/identify/BlockTree", "<init>", "(II)V"⟩ : MethodName) 101 49 sig_0) (hO1 : O 1 = lamO Z (⟨"org/distinguo/identify/BlockTree", "<init>", "(II)V"⟩ : MethodName) 113 59 sig_1) : ∀ el ∈ cd_4, ElOk l Z hz shp A O 40 320 mts mis 4 3 el := by
  unfold cd_4
  refine okc_cons (show Good l Z hz shp A O (⟨"java/util/Arrays", "setAll", "([ILjava/util/function/IntUnaryOperator;)V"⟩ : MethodName) jdk_65_method_175_code 3 none 0 (sLoad 2 1 1) from g_aloadN d4_0) ?_
  refine okc_cons (fun m hm => by
    obtain rfl : m = (1, cd_5) := (Option.some.inj hm).symm
    exact (show CallGood l Z hz shp A O (⟨"java/util/Arrays", "setAll", "([ILjava/util/function/IntUnaryOperator;)V"⟩ : MethodName) jdk_65_method_175_code 3 none (⟨"java/util/Objects", "requireNonNull", "(Ljava/lang/Object;)Ljava/lang/Object;"⟩ : MethodName) jdk_31_method_10_code 1 (some (.object "java/lang/Object")) 1 1 4 (ckAny) from c_static (a0 := a0) (hd := d4_1) (hpl := pl_5) (hdesc := pd_5) (hna := rfl) (hy := by decide) (w1 := (hw _ (List.mem_of_getElem? (i := 43) rfl))) (w2 := (hw _ (List.mem_of_getElem? (i := 44) rfl))) (w3 := (hw _ (List.mem_of_getElem? (i := 45) rfl))) (w4 := (hw _ (List.mem_of_getElem? (i := 46) rfl))))) ?_
  refine okc_cons (show Good l Z hz shp A O (⟨"java/util/Arrays", "setAll", "([ILjava/util/function/IntUnaryOperator;)V"⟩ : MethodName) jdk_65_method_175_code 3 none 4 (sPop 5) from g_pop d4_4) ?_
  refine okc_cons (show Good l Z hz shp A O (⟨"java/util/Arrays", "setAll", "([ILjava/util/function/IntUnaryOperator;)V"⟩ : MethodName) jdk_65_method_175_code 3 none 5 (sPush (0, .int 0) 6) from g_iconst d4_5 rfl) ?_
  refine okc_cons (show Good l Z hz shp A O (⟨"java/util/Arrays", "setAll", "([ILjava/util/function/IntUnaryOperator;)V"⟩ : MethodName) jdk_65_method_175_code 3 none 6 (sStore 0 2 7) from g_istoreN d4_6) ?_
  refine okc_cons (show Good l Z hz shp A O (⟨"java/util/Arrays", "setAll", "([ILjava/util/function/IntUnaryOperator;)V"⟩ : MethodName) jdk_65_method_175_code 3 none 7 (sLoad 0 2 8) from g_iloadN d4_7) ?_
  refine okc_cons (show Good l Z hz shp A O (⟨"java/util/Arrays", "setAll", "([ILjava/util/function/IntUnaryOperator;)V"⟩ : MethodName) jdk_65_method_175_code 3 none 8 (sLoad 2 0 9) from g_aloadN d4_8) ?_
  refine okc_cons (show Good l Z hz shp A O (⟨"java/util/Arrays", "setAll", "([ILjava/util/function/IntUnaryOperator;)V"⟩ : MethodName) jdk_65_method_175_code 3 none 9 (sLenA 1 10) from g_len (sid := 1) d4_9 rfl) ?_
  refine okc_cons (show Good l Z hz shp A O (⟨"java/util/Arrays", "setAll", "([ILjava/util/function/IntUnaryOperator;)V"⟩ : MethodName) jdk_65_method_175_code 3 none 10 (sIcmp .ge 29 13) from g_icmp d4_10 (by decide) (by decide)) ?_
  refine okc_cons (show Good l Z hz shp A O (⟨"java/util/Arrays", "setAll", "([ILjava/util/function/IntUnaryOperator;)V"⟩ : MethodName) jdk_65_method_175_code 3 none 13 (sLoad 2 0 14) from g_aloadN d4_13) ?_
  refine okc_cons (show Good l Z hz shp A O (⟨"java/util/Arrays", "setAll", "([ILjava/util/function/IntUnaryOperator;)V"⟩ : MethodName) jdk_65_method_175_code 3 none 14 (sLoad 0 2 15) from g_iloadN d4_14) ?_
  refine okc_cons (show Good l Z hz shp A O (⟨"java/util/Arrays", "setAll", "([ILjava/util/function/IntUnaryOperator;)V"⟩ : MethodName) jdk_65_method_175_code 3 none 15 (sLoad 2 1 16) from g_aloadN d4_15) ?_
  refine okc_cons (show Good l Z hz shp A O (⟨"java/util/Arrays", "setAll", "([ILjava/util/function/IntUnaryOperator;)V"⟩ : MethodName) jdk_65_method_175_code 3 none 16 (sLoad 0 2 17) from g_iloadN d4_16) ?_
  refine okc_cons (show GoodN l Z hz shp A O (⟨"java/util/Arrays", "setAll", "([ILjava/util/function/IntUnaryOperator;)V"⟩ : MethodName) jdk_65_method_175_code 3 none 17 (sLam 3 2 22) from g_lam (a0 := a0) (xi := (⟨"java/util/function/IntUnaryOperator", "applyAsInt", "(I)I"⟩ : MethodName)) d4_17 hzZ (lamW hw hO0 hO1) (hw _ (List.mem_of_getElem? (i := 47) rfl)) (hw _ (List.mem_of_getElem? (i := 48) rfl)) (hw _ (List.mem_of_getElem? (i := 49) rfl)) (by rfl) (by decide +kernel) (by decide)) ?_
  refine okc_cons (show Good l Z hz shp A O (⟨"java/util/Arrays", "setAll", "([ILjava/util/function/IntUnaryOperator;)V"⟩ : MethodName) jdk_65_method_175_code 3 none 22 (sStM 1 23) from g_iastoreM (sid := 1) d4_22 rfl rfl) ?_
  refine okc_cons (show Good l Z hz shp A O (⟨"java/util/Arrays", "setAll", "([ILjava/util/function/IntUnaryOperator;)V"⟩ : MethodName) jdk_65_method_175_code 3 none 23 (sIinc 2 1 26) from g_iinc d4_23 rfl) ?_
  refine okc_cons (show Good l Z hz shp A O (⟨"java/util/Arrays", "setAll", "([ILjava/util/function/IntUnaryOperator;)V"⟩ : MethodName) jdk_65_method_175_code 3 none 26 (sGoto 7) from g_goto d4_26 (by decide) (by decide)) ?_
  refine okc_cons (show RetGood l Z hz shp A O (⟨"java/util/Arrays", "setAll", "([ILjava/util/function/IntUnaryOperator;)V"⟩ : MethodName) jdk_65_method_175_code 3 none 29 (rVoid) from g_return d4_29) ?_
  exact okc_nil
set_option maxRecDepth 65536 in
set_option maxHeartbeats 40000000 in
theorem cok_5 (hw : ∀ d ∈ tables_1, d.before a0 Z = true) (hzZ : hz = Z.heap) (hO0 : O 0 = lamO Z (⟨"org/distinguo/identify/BlockTree", "<init>", "(II)V"⟩ : MethodName) 101 49 sig_0) (hO1 : O 1 = lamO Z (⟨"org/distinguo/identify/BlockTree", "<init>", "(II)V"⟩ : MethodName) 113 59 sig_1) : ∀ el ∈ cd_5, ElOk l Z hz shp A O 40 320 mts mis 5 1 el := by
  unfold cd_5
  refine okc_cons (show Good l Z hz shp A O (⟨"java/util/Objects", "requireNonNull", "(Ljava/lang/Object;)Ljava/lang/Object;"⟩ : MethodName) jdk_31_method_10_code 1 (some (.object "java/lang/Object")) 0 (sLoad 2 0 1) from g_aloadN d5_0) ?_
  refine okc_cons (show Good l Z hz shp A O (⟨"java/util/Objects", "requireNonNull", "(Ljava/lang/Object;)Ljava/lang/Object;"⟩ : MethodName) jdk_31_method_10_code 1 (some (.object "java/lang/Object")) 1 (sIfNull false 12 4) from g_ifnonnull d5_1 (by decide) (by decide)) ?_
  refine okc_cons (show Good l Z hz shp A O (⟨"java/util/Objects", "requireNonNull", "(Ljava/lang/Object;)Ljava/lang/Object;"⟩ : MethodName) jdk_31_method_10_code 1 (some (.object "java/lang/Object")) 4 (sStop) from g_stop) ?_
  refine okc_cons (show Good l Z hz shp A O (⟨"java/util/Objects", "requireNonNull", "(Ljava/lang/Object;)Ljava/lang/Object;"⟩ : MethodName) jdk_31_method_10_code 1 (some (.object "java/lang/Object")) 7 (sDup 8) from g_dup d5_7) ?_
  refine okc_cons (show Good l Z hz shp A O (⟨"java/util/Objects", "requireNonNull", "(Ljava/lang/Object;)Ljava/lang/Object;"⟩ : MethodName) jdk_31_method_10_code 1 (some (.object "java/lang/Object")) 8 (sStop) from g_stop) ?_
  refine okc_cons (show Good l Z hz shp A O (⟨"java/util/Objects", "requireNonNull", "(Ljava/lang/Object;)Ljava/lang/Object;"⟩ : MethodName) jdk_31_method_10_code 1 (some (.object "java/lang/Object")) 11 (sStop) from g_stop) ?_
  refine okc_cons (show Good l Z hz shp A O (⟨"java/util/Objects", "requireNonNull", "(Ljava/lang/Object;)Ljava/lang/Object;"⟩ : MethodName) jdk_31_method_10_code 1 (some (.object "java/lang/Object")) 12 (sLoad 2 0 13) from g_aloadN d5_12) ?_
  refine okc_cons (show RetGood l Z hz shp A O (⟨"java/util/Objects", "requireNonNull", "(Ljava/lang/Object;)Ljava/lang/Object;"⟩ : MethodName) jdk_31_method_10_code 1 (some (.object "java/lang/Object")) 13 (rVal (.object "java/lang/Object")) from g_ret d5_13 (by decide) (by simp [FieldType.isReference])) ?_
  exact okc_nil
set_option maxRecDepth 65536 in
set_option maxHeartbeats 40000000 in
theorem cok_6 (hw : ∀ d ∈ tables_1, d.before a0 Z = true) (hzZ : hz = Z.heap) (hO0 : O 0 = lamO Z (⟨"org/distinguo/identify/BlockTree", "<init>", "(II)V"⟩ : MethodName) 101 49 sig_0) (hO1 : O 1 = lamO Z (⟨"org/distinguo/identify/BlockTree", "<init>", "(II)V"⟩ : MethodName) 113 59 sig_1) : ∀ el ∈ cd_6, ElOk l Z hz shp A O 40 320 mts mis 6 1 el := by
  unfold cd_6
  refine okc_cons (show Good l Z hz shp A O (⟨"org/distinguo/identify/BlockTree", "lambda$new$0", "(I)I"⟩ : MethodName) prog_45_method_17_code 1 (some .int) 0 (sLoad 0 0 1) from g_iloadN d6_0) ?_
  refine okc_cons (show RetGood l Z hz shp A O (⟨"org/distinguo/identify/BlockTree", "lambda$new$0", "(I)I"⟩ : MethodName) prog_45_method_17_code 1 (some .int) 1 (rVal .int) from g_ret d6_1 (by decide) (by simp)) ?_
  exact okc_nil
set_option maxRecDepth 65536 in
set_option maxHeartbeats 40000000 in
theorem cok_7 (hw : ∀ d ∈ tables_1, d.before a0 Z = true) (hzZ : hz = Z.heap) (hO0 : O 0 = lamO Z (⟨"org/distinguo/identify/BlockTree", "<init>", "(II)V"⟩ : MethodName) 101 49 sig_0) (hO1 : O 1 = lamO Z (⟨"org/distinguo/identify/BlockTree", "<init>", "(II)V"⟩ : MethodName) 113 59 sig_1) : ∀ el ∈ cd_7, ElOk l Z hz shp A O 40 320 mts mis 7 1 el := by
  unfold cd_7
  refine okc_cons (show Good l Z hz shp A O (⟨"org/distinguo/identify/BlockTree", "lambda$new$1", "(I)I"⟩ : MethodName) prog_45_method_16_code 1 (some .int) 0 (sLoad 0 0 1) from g_iloadN d7_0) ?_
  refine okc_cons (show RetGood l Z hz shp A O (⟨"org/distinguo/identify/BlockTree", "lambda$new$1", "(I)I"⟩ : MethodName) prog_45_method_16_code 1 (some .int) 1 (rVal .int) from g_ret d7_1 (by decide) (by simp)) ?_
  exact okc_nil
set_option maxRecDepth 65536 in
set_option maxHeartbeats 40000000 in
theorem cok_8 (hw : ∀ d ∈ tables_1, d.before a0 Z = true) (hzZ : hz = Z.heap) (hO0 : O 0 = lamO Z (⟨"org/distinguo/identify/BlockTree", "<init>", "(II)V"⟩ : MethodName) 101 49 sig_0) (hO1 : O 1 = lamO Z (⟨"org/distinguo/identify/BlockTree", "<init>", "(II)V"⟩ : MethodName) 113 59 sig_1) : ∀ el ∈ cd_8, ElOk l Z hz shp A O 40 320 mts mis 8 4 el := by
  unfold cd_8
  refine okc_cons (show Good l Z hz shp A O (⟨"java/util/Arrays", "fill", "([II)V"⟩ : MethodName) jdk_65_method_103_code 4 none 0 (sPush (0, .int 0) 1) from g_iconst d8_0 rfl) ?_
  refine okc_cons (show Good l Z hz shp A O (⟨"java/util/Arrays", "fill", "([II)V"⟩ : MethodName) jdk_65_method_103_code 4 none 1 (sStore 0 2 2) from g_istoreN d8_1) ?_
  refine okc_cons (show Good l Z hz shp A O (⟨"java/util/Arrays", "fill", "([II)V"⟩ : MethodName) jdk_65_method_103_code 4 none 2 (sLoad 2 0 3) from g_aloadN d8_2) ?_
  refine okc_cons (show Good l Z hz shp A O (⟨"java/util/Arrays", "fill", "([II)V"⟩ : MethodName) jdk_65_method_103_code 4 none 3 (sLenA 1 4) from g_len (sid := 1) d8_3 rfl) ?_
  refine okc_cons (show Good l Z hz shp A O (⟨"java/util/Arrays", "fill", "([II)V"⟩ : MethodName) jdk_65_method_103_code 4 none 4 (sStore 0 3 5) from g_istoreN d8_4) ?_
  refine okc_cons (show Good l Z hz shp A O (⟨"java/util/Arrays", "fill", "([II)V"⟩ : MethodName) jdk_65_method_103_code 4 none 5 (sLoad 0 2 6) from g_iloadN d8_5) ?_
  refine okc_cons (show Good l Z hz shp A O (⟨"java/util/Arrays", "fill", "([II)V"⟩ : MethodName) jdk_65_method_103_code 4 none 6 (sLoad 0 3 7) from g_iloadN d8_6) ?_
  refine okc_cons (show Good l Z hz shp A O (⟨"java/util/Arrays", "fill", "([II)V"⟩ : MethodName) jdk_65_method_103_code 4 none 7 (sIcmp .ge 20 10) from g_icmp d8_7 (by decide) (by decide)) ?_
  refine okc_cons (show Good l Z hz shp A O (⟨"java/util/Arrays", "fill", "([II)V"⟩ : MethodName) jdk_65_method_103_code 4 none 10 (sLoad 2 0 11) from g_aloadN d8_10) ?_
  refine okc_cons (show Good l Z hz shp A O (⟨"java/util/Arrays", "fill", "([II)V"⟩ : MethodName) jdk_65_method_103_code 4 none 11 (sLoad 0 2 12) from g_iloadN d8_11) ?_
  refine okc_cons (show Good l Z hz shp A O (⟨"java/util/Arrays", "fill", "([II)V"⟩ : MethodName) jdk_65_method_103_code 4 none 12 (sLoad 0 1 13) from g_iloadN d8_12) ?_
  refine okc_cons (show Good l Z hz shp A O (⟨"java/util/Arrays", "fill", "([II)V"⟩ : MethodName) jdk_65_method_103_code 4 none 13 (sStM 1 14) from g_iastoreM (sid := 1) d8_13 rfl rfl) ?_
  refine okc_cons (show Good l Z hz shp A O (⟨"java/util/Arrays", "fill", "([II)V"⟩ : MethodName) jdk_65_method_103_code 4 none 14 (sIinc 2 1 17) from g_iinc d8_14 rfl) ?_
  refine okc_cons (show Good l Z hz shp A O (⟨"java/util/Arrays", "fill", "([II)V"⟩ : MethodName) jdk_65_method_103_code 4 none 17 (sGoto 5) from g_goto d8_17 (by decide) (by decide)) ?_
  refine okc_cons (show RetGood l Z hz shp A O (⟨"java/util/Arrays", "fill", "([II)V"⟩ : MethodName) jdk_65_method_103_code 4 none 20 (rVoid) from g_return d8_20) ?_
  exact okc_nil
set_option maxRecDepth 65536 in
set_option maxHeartbeats 40000000 in
theorem cok_9 (hw : ∀ d ∈ tables_1, d.before a0 Z = true) (hzZ : hz = Z.heap) (hO0 : O 0 = lamO Z (⟨"org/distinguo/identify/BlockTree", "<init>", "(II)V"⟩ : MethodName) 101 49 sig_0) (hO1 : O 1 = lamO Z (⟨"org/distinguo/identify/BlockTree", "<init>", "(II)V"⟩ : MethodName) 113 59 sig_1) : ∀ el ∈ cd_9, ElOk l Z hz shp A O 40 320 mts mis 9 2 el := by
  unfold cd_9
  refine okc_cons (show Good l Z hz shp A O (⟨"org/distinguo/identify/BlockTreeCommonAncestorPinLaw", "key", "(II)I"⟩ : MethodName) method_2_code 2 (some .int) 0 (sLoad 0 0 1) from g_iloadN d9_0) ?_
  refine okc_cons (show Good l Z hz shp A O (⟨"org/distinguo/identify/BlockTreeCommonAncestorPinLaw", "key", "(II)I"⟩ : MethodName) method_2_code 2 (some .int) 1 (sPush (0, .int 2) 2) from g_iconst d9_1 rfl) ?_
  refine okc_cons (show Good l Z hz shp A O (⟨"org/distinguo/identify/BlockTreeCommonAncestorPinLaw", "key", "(II)I"⟩ : MethodName) method_2_code 2 (some .int) 2 (sLoad 0 1 3) from g_iloadN d9_2) ?_
  refine okc_cons (show Good l Z hz shp A O (⟨"org/distinguo/identify/BlockTreeCommonAncestorPinLaw", "key", "(II)I"⟩ : MethodName) method_2_code 2 (some .int) 3 (sBin 0 0 0 (jI Term.mul) 4) from g_imul d9_3) ?_
  refine okc_cons (show Good l Z hz shp A O (⟨"org/distinguo/identify/BlockTreeCommonAncestorPinLaw", "key", "(II)I"⟩ : MethodName) method_2_code 2 (some .int) 4 (sBin 0 0 0 (jI (Term.op2 .iushr)) 5) from g_iushr d9_4) ?_
  refine okc_cons (show Good l Z hz shp A O (⟨"org/distinguo/identify/BlockTreeCommonAncestorPinLaw", "key", "(II)I"⟩ : MethodName) method_2_code 2 (some .int) 5 (sPush (0, .int 3) 6) from g_iconst d9_5 rfl) ?_
  refine okc_cons (show Good l Z hz shp A O (⟨"org/distinguo/identify/BlockTreeCommonAncestorPinLaw", "key", "(II)I"⟩ : MethodName) method_2_code 2 (some .int) 6 (sBin 0 0 0 (jI (Term.op2 .iand)) 7) from g_iand d9_6) ?_
  refine okc_cons (show Good l Z hz shp A O (⟨"org/distinguo/identify/BlockTreeCommonAncestorPinLaw", "key", "(II)I"⟩ : MethodName) method_2_code 2 (some .int) 7 (sPush (0, .int 1) 8) from g_iconst d9_7 rfl) ?_
  refine okc_cons (show Good l Z hz shp A O (⟨"org/distinguo/identify/BlockTreeCommonAncestorPinLaw", "key", "(II)I"⟩ : MethodName) method_2_code 2 (some .int) 8 (sBin 0 0 0 (jI Term.sub) 9) from g_isub d9_8) ?_
  refine okc_cons (show RetGood l Z hz shp A O (⟨"org/distinguo/identify/BlockTreeCommonAncestorPinLaw", "key", "(II)I"⟩ : MethodName) method_2_code 2 (some .int) 9 (rVal .int) from g_ret d9_9 (by decide) (by simp)) ?_
  exact okc_nil
set_option maxRecDepth 65536 in
set_option maxHeartbeats 40000000 in
theorem cok_10 (hw : ∀ d ∈ tables_1, d.before a0 Z = true) (hzZ : hz = Z.heap) (hO0 : O 0 = lamO Z (⟨"org/distinguo/identify/BlockTree", "<init>", "(II)V"⟩ : MethodName) 101 49 sig_0) (hO1 : O 1 = lamO Z (⟨"org/distinguo/identify/BlockTree", "<init>", "(II)V"⟩ : MethodName) 113 59 sig_1) : ∀ el ∈ cd_10, ElOk l Z hz shp A O 40 320 mts mis 10 7 el := by
  unfold cd_10
  refine okc_cons (show Good l Z hz shp A O (⟨"org/distinguo/identify/BlockTree", "split", "(I[I)Z"⟩ : MethodName) prog_45_method_15_code 7 (some .boolean) 0 (sPush (0, .int 0) 1) from g_iconst d10_0 rfl) ?_
  refine okc_cons (show Good l Z hz shp A O (⟨"org/distinguo/identify/BlockTree", "split", "(I[I)Z"⟩ : MethodName) prog_45_method_15_code 7 (some .boolean) 1 (sStore 0 3 2) from g_istoreN d10_1) ?_
  refine okc_cons (show Good l Z hz shp A O (⟨"org/distinguo/identify/BlockTree", "split", "(I[I)Z"⟩ : MethodName) prog_45_method_15_code 7 (some .boolean) 2 (sLoad 2 0 3) from g_aloadN d10_2) ?_
  refine okc_cons (show Good l Z hz shp A O (⟨"org/distinguo/identify/BlockTree", "split", "(I[I)Z"⟩ : MethodName) prog_45_method_15_code 7 (some .boolean) 3 (sGetF 0 3 6) from g_getfield (sid := 0) (i := 3) (R0 := "org/distinguo/identify/BlockTree") (host := "") d10_3 rfl rfl (Or.inl (hw _ (List.mem_of_getElem? (i := 20) rfl))) Via.refl) ?_
  refine okc_cons (show Good l Z hz shp A O (⟨"org/distinguo/identify/BlockTree", "split", "(I[I)Z"⟩ : MethodName) prog_45_method_15_code 7 (some .boolean) 6 (sLoad 0 1 7) from g_iloadN d10_6) ?_
  refine okc_cons (show Good l Z hz shp A O (⟨"org/distinguo/identify/BlockTree", "split", "(I[I)Z"⟩ : MethodName) prog_45_method_15_code 7 (some .boolean) 7 (sLdM 1 8) from g_ialoadM (sid := 1) d10_7 rfl rfl) ?_
  refine okc_cons (show Good l Z hz shp A O (⟨"org/distinguo/identify/BlockTree", "split", "(I[I)Z"⟩ : MethodName) prog_45_method_15_code 7 (some .boolean) 8 (sStore 0 4 10) from g_istore d10_8) ?_
  refine okc_cons (show Good l Z hz shp A O (⟨"org/distinguo/identify/BlockTree", "split", "(I[I)Z"⟩ : MethodName) prog_45_method_15_code 7 (some .boolean) 10 (sLoad 0 4 12) from g_iload d10_10) ?_
  refine okc_cons (show Good l Z hz shp A O (⟨"org/distinguo/identify/BlockTree", "split", "(I[I)Z"⟩ : MethodName) prog_45_method_15_code 7 (some .boolean) 12 (sLoad 2 0 13) from g_aloadN d10_12) ?_
  refine okc_cons (show Good l Z hz shp A O (⟨"org/distinguo/identify/BlockTree", "split", "(I[I)Z"⟩ : MethodName) prog_45_method_15_code 7 (some .boolean) 13 (sGetF 0 4 16) from g_getfield (sid := 0) (i := 4) (R0 := "org/distinguo/identify/BlockTree") (host := "") d10_13 rfl rfl (Or.inl (hw _ (List.mem_of_getElem? (i := 22) rfl))) Via.refl) ?_
  refine okc_cons (show Good l Z hz shp A O (⟨"org/distinguo/identify/BlockTree", "split", "(I[I)Z"⟩ : MethodName) prog_45_method_15_code 7 (some .boolean) 16 (sLoad 0 1 17) from g_iloadN d10_16) ?_
  refine okc_cons (show Good l Z hz shp A O (⟨"org/distinguo/identify/BlockTree", "split", "(I[I)Z"⟩ : MethodName) prog_45_method_15_code 7 (some .boolean) 17 (sLdM 1 18) from g_ialoadM (sid := 1) d10_17 rfl rfl) ?_
  refine okc_cons (show Good l Z hz shp A O (⟨"org/distinguo/identify/BlockTree", "split", "(I[I)Z"⟩ : MethodName) prog_45_method_15_code 7 (some .boolean) 18 (sIcmp .ge 85 21) from g_icmp d10_18 (by decide) (by decide)) ?_
  refine okc_cons (show Good l Z hz shp A O (⟨"org/distinguo/identify/BlockTree", "split", "(I[I)Z"⟩ : MethodName) prog_45_method_15_code 7 (some .boolean) 21 (sLoad 2 2 22) from g_aloadN d10_21) ?_
  refine okc_cons (show Good l Z hz shp A O (⟨"org/distinguo/identify/BlockTree", "split", "(I[I)Z"⟩ : MethodName) prog_45_method_15_code 7 (some .boolean) 22 (sLoad 2 0 23) from g_aloadN d10_22) ?_
  refine okc_cons (show Good l Z hz shp A O (⟨"org/distinguo/identify/BlockTree", "split", "(I[I)Z"⟩ : MethodName) prog_45_method_15_code 7 (some .boolean) 23 (sGetF 0 5 26) from g_getfield (sid := 0) (i := 5) (R0 := "org/distinguo/identify/BlockTree") (host := "") d10_23 rfl rfl (Or.inl (hw _ (List.mem_of_getElem? (i := 24) rfl))) Via.refl) ?_
  refine okc_cons (show Good l Z hz shp A O (⟨"org/distinguo/identify/BlockTree", "split", "(I[I)Z"⟩ : MethodName) prog_45_method_15_code 7 (some .boolean) 26 (sLoad 0 4 28) from g_iload d10_26) ?_
  refine okc_cons (show Good l Z hz shp A O (⟨"org/distinguo/identify/BlockTree", "split", "(I[I)Z"⟩ : MethodName) prog_45_method_15_code 7 (some .boolean) 28 (sLdM 1 29) from g_ialoadM (sid := 1) d10_28 rfl rfl) ?_
  refine okc_cons (show Good l Z hz shp A O (⟨"org/distinguo/identify/BlockTree", "split", "(I[I)Z"⟩ : MethodName) prog_45_method_15_code 7 (some .boolean) 29 (sLdM 1 30) from g_ialoadM (sid := 1) d10_29 rfl rfl) ?_
  refine okc_cons (show Good l Z hz shp A O (⟨"org/distinguo/identify/BlockTree", "split", "(I[I)Z"⟩ : MethodName) prog_45_method_15_code 7 (some .boolean) 30 (sPush (0, .int 1) 31) from g_iconst d10_30 rfl) ?_
  refine okc_cons (show Good l Z hz shp A O (⟨"org/distinguo/identify/BlockTree", "split", "(I[I)Z"⟩ : MethodName) prog_45_method_15_code 7 (some .boolean) 31 (sBin 0 0 0 (jI Term.add) 32) from g_iadd d10_31) ?_
  refine okc_cons (show Good l Z hz shp A O (⟨"org/distinguo/identify/BlockTree", "split", "(I[I)Z"⟩ : MethodName) prog_45_method_15_code 7 (some .boolean) 32 (sStore 0 5 34) from g_istore d10_32) ?_
  refine okc_cons (show Good l Z hz shp A O (⟨"org/distinguo/identify/BlockTree", "split", "(I[I)Z"⟩ : MethodName) prog_45_method_15_code 7 (some .boolean) 34 (sLoad 2 0 35) from g_aloadN d10_34) ?_
  refine okc_cons (show Good l Z hz shp A O (⟨"org/distinguo/identify/BlockTree", "split", "(I[I)Z"⟩ : MethodName) prog_45_method_15_code 7 (some .boolean) 35 (sGetF 0 8 38) from g_getfield (sid := 0) (i := 8) (R0 := "org/distinguo/identify/BlockTree") (host := "") d10_35 rfl rfl (Or.inl (hw _ (List.mem_of_getElem? (i := 30) rfl))) Via.refl) ?_
  refine okc_cons (show Good l Z hz shp A O (⟨"org/distinguo/identify/BlockTree", "split", "(I[I)Z"⟩ : MethodName) prog_45_method_15_code 7 (some .boolean) 38 (sLoad 0 5 40) from g_iload d10_38) ?_
  refine okc_cons (show Good l Z hz shp A O (⟨"org/distinguo/identify/BlockTree", "split", "(I[I)Z"⟩ : MethodName) prog_45_method_15_code 7 (some .boolean) 40 (sLdM 1 41) from g_ialoadM (sid := 1) d10_40 rfl rfl) ?_
  refine okc_cons (show Good l Z hz shp A O (⟨"org/distinguo/identify/BlockTree", "split", "(I[I)Z"⟩ : MethodName) prog_45_method_15_code 7 (some .boolean) 41 (sPush (0, .int (-1)) 42) from g_iconst d10_41 rfl) ?_
  refine okc_cons (show Good l Z hz shp A O (⟨"org/distinguo/identify/BlockTree", "split", "(I[I)Z"⟩ : MethodName) prog_45_method_15_code 7 (some .boolean) 42 (sIcmp .ne 63 45) from g_icmp d10_42 (by decide) (by decide)) ?_
  refine okc_cons (show Good l Z hz shp A O (⟨"org/distinguo/identify/BlockTree", "split", "(I[I)Z"⟩ : MethodName) prog_45_method_15_code 7 (some .boolean) 45 (sLoad 2 0 46) from g_aloadN d10_45) ?_
  refine okc_cons (show Good l Z hz shp A O (⟨"org/distinguo/identify/BlockTree", "split", "(I[I)Z"⟩ : MethodName) prog_45_method_15_code 7 (some .boolean) 46 (sGetF 0 9 49) from g_getfield (sid := 0) (i := 9) (R0 := "org/distinguo/identify/BlockTree") (host := "") d10_46 rfl rfl (Or.inl (hw _ (List.mem_of_getElem? (i := 32) rfl))) Via.refl) ?_
  refine okc_cons (show Good l Z hz shp A O (⟨"org/distinguo/identify/BlockTree", "split", "(I[I)Z"⟩ : MethodName) prog_45_method_15_code 7 (some .boolean) 49 (sLoad 0 3 50) from g_iloadN d10_49) ?_
  refine okc_cons (show Good l Z hz shp A O (⟨"org/distinguo/identify/BlockTree", "split", "(I[I)Z"⟩ : MethodName) prog_45_method_15_code 7 (some .boolean) 50 (sPush (0, .int 0) 51) from g_iconst d10_50 rfl) ?_
  refine okc_cons (show Good l Z hz shp A O (⟨"org/distinguo/identify/BlockTree", "split", "(I[I)Z"⟩ : MethodName) prog_45_method_15_code 7 (some .boolean) 51 (sStM 1 52) from g_iastoreM (sid := 1) d10_51 rfl rfl) ?_
  refine okc_cons (show Good l Z hz shp A O (⟨"org/distinguo/identify/BlockTree", "split", "(I[I)Z"⟩ : MethodName) prog_45_method_15_code 7 (some .boolean) 52 (sLoad 2 0 53) from g_aloadN d10_52) ?_
  refine okc_cons (show Good l Z hz shp A O (⟨"org/distinguo/identify/BlockTree", "split", "(I[I)Z"⟩ : MethodName) prog_45_method_15_code 7 (some .boolean) 53 (sGetF 0 8 56) from g_getfield (sid := 0) (i := 8) (R0 := "org/distinguo/identify/BlockTree") (host := "") d10_53 rfl rfl (Or.inl (hw _ (List.mem_of_getElem? (i := 30) rfl))) Via.refl) ?_
  refine okc_cons (show Good l Z hz shp A O (⟨"org/distinguo/identify/BlockTree", "split", "(I[I)Z"⟩ : MethodName) prog_45_method_15_code 7 (some .boolean) 56 (sLoad 0 5 58) from g_iload d10_56) ?_
  refine okc_cons (show Good l Z hz shp A O (⟨"org/distinguo/identify/BlockTree", "split", "(I[I)Z"⟩ : MethodName) prog_45_method_15_code 7 (some .boolean) 58 (sLoad 0 3 59) from g_iloadN d10_58) ?_
  refine okc_cons (show Good l Z hz shp A O (⟨"org/distinguo/identify/BlockTree", "split", "(I[I)Z"⟩ : MethodName) prog_45_method_15_code 7 (some .boolean) 59 (sIinc 3 1 62) from g_iinc d10_59 rfl) ?_
  refine okc_cons (show Good l Z hz shp A O (⟨"org/distinguo/identify/BlockTree", "split", "(I[I)Z"⟩ : MethodName) prog_45_method_15_code 7 (some .boolean) 62 (sStM 1 63) from g_iastoreM (sid := 1) d10_62 rfl rfl) ?_
  refine okc_cons (show Good l Z hz shp A O (⟨"org/distinguo/identify/BlockTree", "split", "(I[I)Z"⟩ : MethodName) prog_45_method_15_code 7 (some .boolean) 63 (sLoad 2 0 64) from g_aloadN d10_63) ?_
  refine okc_cons (show Good l Z hz shp A O (⟨"org/distinguo/identify/BlockTree", "split", "(I[I)Z"⟩ : MethodName) prog_45_method_15_code 7 (some .boolean) 64 (sGetF 0 9 67) from g_getfield (sid := 0) (i := 9) (R0 := "org/distinguo/identify/BlockTree") (host := "") d10_64 rfl rfl (Or.inl (hw _ (List.mem_of_getElem? (i := 32) rfl))) Via.refl) ?_
  refine okc_cons (show Good l Z hz shp A O (⟨"org/distinguo/identify/BlockTree", "split", "(I[I)Z"⟩ : MethodName) prog_45_method_15_code 7 (some .boolean) 67 (sLoad 2 0 68) from g_aloadN d10_67) ?_
  refine okc_cons (show Good l Z hz shp A O (⟨"org/distinguo/identify/BlockTree", "split", "(I[I)Z"⟩ : MethodName) prog_45_method_15_code 7 (some .boolean) 68 (sGetF 0 8 71) from g_getfield (sid := 0) (i := 8) (R0 := "org/distinguo/identify/BlockTree") (host := "") d10_68 rfl rfl (Or.inl (hw _ (List.mem_of_getElem? (i := 30) rfl))) Via.refl) ?_
  refine okc_cons (show Good l Z hz shp A O (⟨"org/distinguo/identify/BlockTree", "split", "(I[I)Z"⟩ : MethodName) prog_45_method_15_code 7 (some .boolean) 71 (sLoad 0 5 73) from g_iload d10_71) ?_
  refine okc_cons (show Good l Z hz shp A O (⟨"org/distinguo/identify/BlockTree", "split", "(I[I)Z"⟩ : MethodName) prog_45_method_15_code 7 (some .boolean) 73 (sLdM 1 74) from g_ialoadM (sid := 1) d10_73 rfl rfl) ?_
  refine okc_cons (show Good l Z hz shp A O (⟨"org/distinguo/identify/BlockTree", "split", "(I[I)Z"⟩ : MethodName) prog_45_method_15_code 7 (some .boolean) 74 (sDup2 75) from g_dup2 d10_74) ?_
  refine okc_cons (show Good l Z hz shp A O (⟨"org/distinguo/identify/BlockTree", "split", "(I[I)Z"⟩ : MethodName) prog_45_method_15_code 7 (some .boolean) 75 (sLdM 1 76) from g_ialoadM (sid := 1) d10_75 rfl rfl) ?_
  refine okc_cons (show Good l Z hz shp A O (⟨"org/distinguo/identify/BlockTree", "split", "(I[I)Z"⟩ : MethodName) prog_45_method_15_code 7 (some .boolean) 76 (sPush (0, .int 1) 77) from g_iconst d10_76 rfl) ?_
  refine okc_cons (show Good l Z hz shp A O (⟨"org/distinguo/identify/BlockTree", "split", "(I[I)Z"⟩ : MethodName) prog_45_method_15_code 7 (some .boolean) 77 (sBin 0 0 0 (jI Term.add) 78) from g_iadd d10_77) ?_
  refine okc_cons (show Good l Z hz shp A O (⟨"org/distinguo/identify/BlockTree", "split", "(I[I)Z"⟩ : MethodName) prog_45_method_15_code 7 (some .boolean) 78 (sStM 1 79) from g_iastoreM (sid := 1) d10_78 rfl rfl) ?_
  refine okc_cons (show Good l Z hz shp A O (⟨"org/distinguo/identify/BlockTree", "split", "(I[I)Z"⟩ : MethodName) prog_45_method_15_code 7 (some .boolean) 79 (sIinc 4 1 82) from g_iinc d10_79 rfl) ?_
  refine okc_cons (show Good l Z hz shp A O (⟨"org/distinguo/identify/BlockTree", "split", "(I[I)Z"⟩ : MethodName) prog_45_method_15_code 7 (some .boolean) 82 (sGoto 10) from g_goto d10_82 (by decide) (by decide)) ?_
  refine okc_cons (show Good l Z hz shp A O (⟨"org/distinguo/identify/BlockTree", "split", "(I[I)Z"⟩ : MethodName) prog_45_method_15_code 7 (some .boolean) 85 (sLoad 0 3 86) from g_iloadN d10_85) ?_
  refine okc_cons (show Good l Z hz shp A O (⟨"org/distinguo/identify/BlockTree", "split", "(I[I)Z"⟩ : MethodName) prog_45_method_15_code 7 (some .boolean) 86 (sPush (0, .int 1) 87) from g_iconst d10_86 rfl) ?_
  refine okc_cons (show Good l Z hz shp A O (⟨"org/distinguo/identify/BlockTree", "split", "(I[I)Z"⟩ : MethodName) prog_45_method_15_code 7 (some .boolean) 87 (sIcmp .le 388 90) from g_icmp d10_87 (by decide) (by decide)) ?_
  refine okc_cons (show Good l Z hz shp A O (⟨"org/distinguo/identify/BlockTree", "split", "(I[I)Z"⟩ : MethodName) prog_45_method_15_code 7 (some .boolean) 90 (sLoad 2 0 91) from g_aloadN d10_90) ?_
  refine okc_cons (show Good l Z hz shp A O (⟨"org/distinguo/identify/BlockTree", "split", "(I[I)Z"⟩ : MethodName) prog_45_method_15_code 7 (some .boolean) 91 (sGetF 0 2 94) from g_getfield (sid := 0) (i := 2) (R0 := "org/distinguo/identify/BlockTree") (host := "") d10_91 rfl rfl (Or.inl (hw _ (List.mem_of_getElem? (i := 18) rfl))) Via.refl) ?_
  refine okc_cons (show Good l Z hz shp A O (⟨"org/distinguo/identify/BlockTree", "split", "(I[I)Z"⟩ : MethodName) prog_45_method_15_code 7 (some .boolean) 94 (sLoad 0 1 95) from g_iloadN d10_94) ?_
  refine okc_cons (show Good l Z hz shp A O (⟨"org/distinguo/identify/BlockTree", "split", "(I[I)Z"⟩ : MethodName) prog_45_method_15_code 7 (some .boolean) 95 (sLoad 2 0 96) from g_aloadN d10_95) ?_
  refine okc_cons (show Good l Z hz shp A O (⟨"org/distinguo/identify/BlockTree", "split", "(I[I)Z"⟩ : MethodName) prog_45_method_15_code 7 (some .boolean) 96 (sGetF 0 11 99) from g_getfield (sid := 0) (i := 11) (R0 := "org/distinguo/identify/BlockTree") (host := "") d10_96 rfl rfl (Or.inl (hw _ (List.mem_of_getElem? (i := 58) rfl))) Via.refl) ?_
  refine okc_cons (show Good l Z hz shp A O (⟨"org/distinguo/identify/BlockTree", "split", "(I[I)Z"⟩ : MethodName) prog_45_method_15_code 7 (some .boolean) 99 (sStM 1 100) from g_iastoreM (sid := 1) d10_99 rfl rfl) ?_
  refine okc_cons (show Good l Z hz shp A O (⟨"org/distinguo/identify/BlockTree", "split", "(I[I)Z"⟩ : MethodName) prog_45_method_15_code 7 (some .boolean) 100 (sPush (0, .int 0) 101) from g_iconst d10_100 rfl) ?_
  refine okc_cons (show Good l Z hz shp A O (⟨"org/distinguo/identify/BlockTree", "split", "(I[I)Z"⟩ : MethodName) prog_45_method_15_code 7 (some .boolean) 101 (sStore 0 4 103) from g_istore d10_101) ?_
  refine okc_cons (show Good l Z hz shp A O (⟨"org/distinguo/identify/BlockTree", "split", "(I[I)Z"⟩ : MethodName) prog_45_method_15_code 7 (some .boolean) 103 (sLoad 2 0 104) from g_aloadN d10_103) ?_
  refine okc_cons (show Good l Z hz shp A O (⟨"org/distinguo/identify/BlockTree", "split", "(I[I)Z"⟩ : MethodName) prog_45_method_15_code 7 (some .boolean) 104 (sGetF 0 3 107) from g_getfield (sid := 0) (i := 3) (R0 := "org/distinguo/identify/BlockTree") (host := "") d10_104 rfl rfl (Or.inl (hw _ (List.mem_of_getElem? (i := 20) rfl))) Via.refl) ?_
  refine okc_cons (show Good l Z hz shp A O (⟨"org/distinguo/identify/BlockTree", "split", "(I[I)Z"⟩ : MethodName) prog_45_method_15_code 7 (some .boolean) 107 (sLoad 0 1 108) from g_iloadN d10_107) ?_
  refine okc_cons (show Good l Z hz shp A O (⟨"org/distinguo/identify/BlockTree", "split", "(I[I)Z"⟩ : MethodName) prog_45_method_15_code 7 (some .boolean) 108 (sLdM 1 109) from g_ialoadM (sid := 1) d10_108 rfl rfl) ?_
  refine okc_cons (show Good l Z hz shp A O (⟨"org/distinguo/identify/BlockTree", "split", "(I[I)Z"⟩ : MethodName) prog_45_method_15_code 7 (some .boolean) 109 (sStore 0 5 111) from g_istore d10_109) ?_
  refine okc_cons (show Good l Z hz shp A O (⟨"org/distinguo/identify/BlockTree", "split", "(I[I)Z"⟩ : MethodName) prog_45_method_15_code 7 (some .boolean) 111 (sLoad 0 4 113) from g_iload d10_111) ?_
  refine okc_cons (show Good l Z hz shp A O (⟨"org/distinguo/identify/BlockTree", "split", "(I[I)Z"⟩ : MethodName) prog_45_method_15_code 7 (some .boolean) 113 (sLoad 0 3 114) from g_iloadN d10_113) ?_
  refine okc_cons (show Good l Z hz shp A O (⟨"org/distinguo/identify/BlockTree", "split", "(I[I)Z"⟩ : MethodName) prog_45_method_15_code 7 (some .boolean) 114 (sIcmp .ge 211 117) from g_icmp d10_114 (by decide) (by decide)) ?_
  refine okc_cons (show Good l Z hz shp A O (⟨"org/distinguo/identify/BlockTree", "split", "(I[I)Z"⟩ : MethodName) prog_45_method_15_code 7 (some .boolean) 117 (sLoad 2 0 118) from g_aloadN d10_117) ?_
  refine okc_cons (show Good l Z hz shp A O (⟨"org/distinguo/identify/BlockTree", "split", "(I[I)Z"⟩ : MethodName) prog_45_method_15_code 7 (some .boolean) 118 (sDup 119) from g_dup d10_118) ?_
  refine okc_cons (show Good l Z hz shp A O (⟨"org/distinguo/identify/BlockTree", "split", "(I[I)Z"⟩ : MethodName) prog_45_method_15_code 7 (some .boolean) 119 (sGetF 0 11 122) from g_getfield (sid := 0) (i := 11) (R0 := "org/distinguo/identify/BlockTree") (host := "") d10_119 rfl rfl (Or.inl (hw _ (List.mem_of_getElem? (i := 58) rfl))) Via.refl) ?_
  refine okc_cons (show Good l Z hz shp A O (⟨"org/distinguo/identify/BlockTree", "split", "(I[I)Z"⟩ : MethodName) prog_45_method_15_code 7 (some .boolean) 122 (sDupX1 123) from g_dupX1 d10_122) ?_
  refine okc_cons (show Good l Z hz shp A O (⟨"org/distinguo/identify/BlockTree", "split", "(I[I)Z"⟩ : MethodName) prog_45_method_15_code 7 (some .boolean) 123 (sPush (0, .int 1) 124) from g_iconst d10_123 rfl) ?_
  refine okc_cons (show Good l Z hz shp A O (⟨"org/distinguo/identify/BlockTree", "split", "(I[I)Z"⟩ : MethodName) prog_45_method_15_code 7 (some .boolean) 124 (sBin 0 0 0 (jI Term.add) 125) from g_iadd d10_124) ?_
  refine okc_cons (show Good l Z hz shp A O (⟨"org/distinguo/identify/BlockTree", "split", "(I[I)Z"⟩ : MethodName) prog_45_method_15_code 7 (some .boolean) 125 (sPutF 0 11 .int 128) from g_putfield (sid := 0) (i := 11) (R0 := "org/distinguo/identify/BlockTree") d10_125 rfl (sok_0 hw) rfl (by decide) (hw _ (List.mem_of_getElem? (i := 58) rfl)) Via.refl (Or.inl (hw _ (List.mem_of_getElem? (i := 59) rfl)))) ?_
  refine okc_cons (show Good l Z hz shp A O (⟨"org/distinguo/identify/BlockTree", "split", "(I[I)Z"⟩ : MethodName) prog_45_method_15_code 7 (some .boolean) 128 (sStore 0 6 130) from g_istore d10_128) ?_
  refine okc_cons (show Good l Z hz shp A O (⟨"org/distinguo/identify/BlockTree", "split", "(I[I)Z"⟩ : MethodName) prog_45_method_15_code 7 (some .boolean) 130 (sLoad 2 0 131) from g_aloadN d10_130) ?_
  refine okc_cons (show Good l Z hz shp A O (⟨"org/distinguo/identify/BlockTree", "split", "(I[I)Z"⟩ : MethodName) prog_45_method_15_code 7 (some .boolean) 131 (sGetF 0 0 134) from g_getfield (sid := 0) (i := 0) (R0 := "org/distinguo/identify/BlockTree") (host := "") d10_131 rfl rfl (Or.inl (hw _ (List.mem_of_getElem? (i := 14) rfl))) Via.refl) ?_
  refine okc_cons (show Good l Z hz shp A O (⟨"org/distinguo/identify/BlockTree", "split", "(I[I)Z"⟩ : MethodName) prog_45_method_15_code 7 (some .boolean) 134 (sLoad 0 6 136) from g_iload d10_134) ?_
  refine okc_cons (show Good l Z hz shp A O (⟨"org/distinguo/identify/BlockTree", "split", "(I[I)Z"⟩ : MethodName) prog_45_method_15_code 7 (some .boolean) 136 (sLoad 0 1 137) from g_iloadN d10_136) ?_
  refine okc_cons (show Good l Z hz shp A O (⟨"org/distinguo/identify/BlockTree", "split", "(I[I)Z"⟩ : MethodName) prog_45_method_15_code 7 (some .boolean) 137 (sStM 1 138) from g_iastoreM (sid := 1) d10_137 rfl rfl) ?_
  refine okc_cons (show Good l Z hz shp A O (⟨"org/distinguo/identify/BlockTree", "split", "(I[I)Z"⟩ : MethodName) prog_45_method_15_code 7 (some .boolean) 138 (sLoad 2 0 139) from g_aloadN d10_138) ?_
  refine okc_cons (show Good l Z hz shp A O (⟨"org/distinguo/identify/BlockTree", "split", "(I[I)Z"⟩ : MethodName) prog_45_method_15_code 7 (some .boolean) 139 (sGetF 0 1 142) from g_getfield (sid := 0) (i := 1) (R0 := "org/distinguo/identify/BlockTree") (host := "") d10_139 rfl rfl (Or.inl (hw _ (List.mem_of_getElem? (i := 16) rfl))) Via.refl) ?_
  refine okc_cons (show Good l Z hz shp A O (⟨"org/distinguo/identify/BlockTree", "split", "(I[I)Z"⟩ : MethodName) prog_45_method_15_code 7 (some .boolean) 142 (sLoad 0 6 144) from g_iload d10_142) ?_
  refine okc_cons (show Good l Z hz shp A O (⟨"org/distinguo/identify/BlockTree", "split", "(I[I)Z"⟩ : MethodName) prog_45_method_15_code 7 (some .boolean) 144 (sLoad 2 0 145) from g_aloadN d10_144) ?_
  refine okc_cons (show Good l Z hz shp A O (⟨"org/distinguo/identify/BlockTree", "split", "(I[I)Z"⟩ : MethodName) prog_45_method_15_code 7 (some .boolean) 145 (sGetF 0 1 148) from g_getfield (sid := 0) (i := 1) (R0 := "org/distinguo/identify/BlockTree") (host := "") d10_145 rfl rfl (Or.inl (hw _ (List.mem_of_getElem? (i := 16) rfl))) Via.refl) ?_
  refine okc_cons (show Good l Z hz shp A O (⟨"org/distinguo/identify/BlockTree", "split", "(I[I)Z"⟩ : MethodName) prog_45_method_15_code 7 (some .boolean) 148 (sLoad 0 1 149) from g_iloadN d10_148) ?_
  refine okc_cons (show Good l Z hz shp A O (⟨"org/distinguo/identify/BlockTree", "split", "(I[I)Z"⟩ : MethodName) prog_45_method_15_code 7 (some .boolean) 149 (sLdM 1 150) from g_ialoadM (sid := 1) d10_149 rfl rfl) ?_
  refine okc_cons (show Good l Z hz shp A O (⟨"org/distinguo/identify/BlockTree", "split", "(I[I)Z"⟩ : MethodName) prog_45_method_15_code 7 (some .boolean) 150 (sPush (0, .int 1) 151) from g_iconst d10_150 rfl) ?_
  refine okc_cons (show Good l Z hz shp A O (⟨"org/distinguo/identify/BlockTree", "split", "(I[I)Z"⟩ : MethodName) prog_45_method_15_code 7 (some .boolean) 151 (sBin 0 0 0 (jI Term.add) 152) from g_iadd d10_151) ?_
  refine okc_cons (show Good l Z hz shp A O (⟨"org/distinguo/identify/BlockTree", "split", "(I[I)Z"⟩ : MethodName) prog_45_method_15_code 7 (some .boolean) 152 (sStM 1 153) from g_iastoreM (sid := 1) d10_152 rfl rfl) ?_
  refine okc_cons (show Good l Z hz shp A O (⟨"org/distinguo/identify/BlockTree", "split", "(I[I)Z"⟩ : MethodName) prog_45_method_15_code 7 (some .boolean) 153 (sLoad 2 0 154) from g_aloadN d10_153) ?_
  refine okc_cons (show Good l Z hz shp A O (⟨"org/distinguo/identify/BlockTree", "split", "(I[I)Z"⟩ : MethodName) prog_45_method_15_code 7 (some .boolean) 154 (sGetF 0 2 157) from g_getfield (sid := 0) (i := 2) (R0 := "org/distinguo/identify/BlockTree") (host := "") d10_154 rfl rfl (Or.inl (hw _ (List.mem_of_getElem? (i := 18) rfl))) Via.refl) ?_
  refine okc_cons (show Good l Z hz shp A O (⟨"org/distinguo/identify/BlockTree", "split", "(I[I)Z"⟩ : MethodName) prog_45_method_15_code 7 (some .boolean) 157 (sLoad 0 6 159) from g_iload d10_157) ?_
  refine okc_cons (show Good l Z hz shp A O (⟨"org/distinguo/identify/BlockTree", "split", "(I[I)Z"⟩ : MethodName) prog_45_method_15_code 7 (some .boolean) 159 (sPush (0, .int (-1)) 160) from g_iconst d10_159 rfl) ?_
  refine okc_cons (show Good l Z hz shp A O (⟨"org/distinguo/identify/BlockTree", "split", "(I[I)Z"⟩ : MethodName) prog_45_method_15_code 7 (some .boolean) 160 (sStM 1 161) from g_iastoreM (sid := 1) d10_160 rfl rfl) ?_
  refine okc_cons (show Good l Z hz shp A O (⟨"org/distinguo/identify/BlockTree", "split", "(I[I)Z"⟩ : MethodName) prog_45_method_15_code 7 (some .boolean) 161 (sLoad 2 0 162) from g_aloadN d10_161) ?_
  refine okc_cons (show Good l Z hz shp A O (⟨"org/distinguo/identify/BlockTree", "split", "(I[I)Z"⟩ : MethodName) prog_45_method_15_code 7 (some .boolean) 162 (sGetF 0 3 165) from g_getfield (sid := 0) (i := 3) (R0 := "org/distinguo/identify/BlockTree") (host := "") d10_162 rfl rfl (Or.inl (hw _ (List.mem_of_getElem? (i := 20) rfl))) Via.refl) ?_
  refine okc_cons (show Good l Z hz shp A O (⟨"org/distinguo/identify/BlockTree", "split", "(I[I)Z"⟩ : MethodName) prog_45_method_15_code 7 (some .boolean) 165 (sLoad 0 6 167) from g_iload d10_165) ?_
  refine okc_cons (show Good l Z hz shp A O (⟨"org/distinguo/identify/BlockTree", "split", "(I[I)Z"⟩ : MethodName) prog_45_method_15_code 7 (some .boolean) 167 (sLoad 0 5 169) from g_iload d10_167) ?_
  refine okc_cons (show Good l Z hz shp A O (⟨"org/distinguo/identify/BlockTree", "split", "(I[I)Z"⟩ : MethodName) prog_45_method_15_code 7 (some .boolean) 169 (sStM 1 170) from g_iastoreM (sid := 1) d10_169 rfl rfl) ?_
  refine okc_cons (show Good l Z hz shp A O (⟨"org/distinguo/identify/BlockTree", "split", "(I[I)Z"⟩ : MethodName) prog_45_method_15_code 7 (some .boolean) 170 (sLoad 0 5 172) from g_iload d10_170) ?_
  refine okc_cons (show Good l Z hz shp A O (⟨"org/distinguo/identify/BlockTree", "split", "(I[I)Z"⟩ : MethodName) prog_45_method_15_code 7 (some .boolean) 172 (sLoad 2 0 173) from g_aloadN d10_172) ?_
  refine okc_cons (show Good l Z hz shp A O (⟨"org/distinguo/identify/BlockTree", "split", "(I[I)Z"⟩ : MethodName) prog_45_method_15_code 7 (some .boolean) 173 (sGetF 0 9 176) from g_getfield (sid := 0) (i := 9) (R0 := "org/distinguo/identify/BlockTree") (host := "") d10_173 rfl rfl (Or.inl (hw _ (List.mem_of_getElem? (i := 32) rfl))) Via.refl) ?_
  refine okc_cons (show Good l Z hz shp A O (⟨"org/distinguo/identify/BlockTree", "split", "(I[I)Z"⟩ : MethodName) prog_45_method_15_code 7 (some .boolean) 176 (sLoad 0 4 178) from g_iload d10_176) ?_
  refine okc_cons (show Good l Z hz shp A O (⟨"org/distinguo/identify/BlockTree", "split", "(I[I)Z"⟩ : MethodName) prog_45_method_15_code 7 (some .boolean) 178 (sLdM 1 179) from g_ialoadM (sid := 1) d10_178 rfl rfl) ?_
  refine okc_cons (show Good l Z hz shp A O (⟨"org/distinguo/identify/BlockTree", "split", "(I[I)Z"⟩ : MethodName) prog_45_method_15_code 7 (some .boolean) 179 (sBin 0 0 0 (jI Term.add) 180) from g_iadd d10_179) ?_
  refine okc_cons (show Good l Z hz shp A O (⟨"org/distinguo/identify/BlockTree", "split", "(I[I)Z"⟩ : MethodName) prog_45_method_15_code 7 (some .boolean) 180 (sStore 0 5 182) from g_istore d10_180) ?_
  refine okc_cons (show Good l Z hz shp A O (⟨"org/distinguo/identify/BlockTree", "split", "(I[I)Z"⟩ : MethodName) prog_45_method_15_code 7 (some .boolean) 182 (sLoad 2 0 183) from g_aloadN d10_182) ?_
  refine okc_cons (show Good l Z hz shp A O (⟨"org/distinguo/identify/BlockTree", "split", "(I[I)Z"⟩ : MethodName) prog_45_method_15_code 7 (some .boolean) 183 (sGetF 0 4 186) from g_getfield (sid := 0) (i := 4) (R0 := "org/distinguo/identify/BlockTree") (host := "") d10_183 rfl rfl (Or.inl (hw _ (List.mem_of_getElem? (i := 22) rfl))) Via.refl) ?_
  refine okc_cons (show Good l Z hz shp A O (⟨"org/distinguo/identify/BlockTree", "split", "(I[I)Z"⟩ : MethodName) prog_45_method_15_code 7 (some .boolean) 186 (sLoad 0 6 188) from g_iload d10_186) ?_
  refine okc_cons (show Good l Z hz shp A O (⟨"org/distinguo/identify/BlockTree", "split", "(I[I)Z"⟩ : MethodName) prog_45_method_15_code 7 (some .boolean) 188 (sLoad 0 5 190) from g_iload d10_188) ?_
  refine okc_cons (show Good l Z hz shp A O (⟨"org/distinguo/identify/BlockTree", "split", "(I[I)Z"⟩ : MethodName) prog_45_method_15_code 7 (some .boolean) 190 (sStM 1 191) from g_iastoreM (sid := 1) d10_190 rfl rfl) ?_
  refine okc_cons (show Good l Z hz shp A O (⟨"org/distinguo/identify/BlockTree", "split", "(I[I)Z"⟩ : MethodName) prog_45_method_15_code 7 (some .boolean) 191 (sLoad 2 0 192) from g_aloadN d10_191) ?_
  refine okc_cons (show Good l Z hz shp A O (⟨"org/distinguo/identify/BlockTree", "split", "(I[I)Z"⟩ : MethodName) prog_45_method_15_code 7 (some .boolean) 192 (sGetF 0 9 195) from g_getfield (sid := 0) (i := 9) (R0 := "org/distinguo/identify/BlockTree") (host := "") d10_192 rfl rfl (Or.inl (hw _ (List.mem_of_getElem? (i := 32) rfl))) Via.refl) ?_
  refine okc_cons (show Good l Z hz shp A O (⟨"org/distinguo/identify/BlockTree", "split", "(I[I)Z"⟩ : MethodName) prog_45_method_15_code 7 (some .boolean) 195 (sLoad 0 4 197) from g_iload d10_195) ?_
  refine okc_cons (show Good l Z hz shp A O (⟨"org/distinguo/identify/BlockTree", "split", "(I[I)Z"⟩ : MethodName) prog_45_method_15_code 7 (some .boolean) 197 (sLoad 2 0 198) from g_aloadN d10_197) ?_
  refine okc_cons (show Good l Z hz shp A O (⟨"org/distinguo/identify/BlockTree", "split", "(I[I)Z"⟩ : MethodName) prog_45_method_15_code 7 (some .boolean) 198 (sGetF 0 3 201) from g_getfield (sid := 0) (i := 3) (R0 := "org/distinguo/identify/BlockTree") (host := "") d10_198 rfl rfl (Or.inl (hw _ (List.mem_of_getElem? (i := 20) rfl))) Via.refl) ?_
  refine okc_cons (show Good l Z hz shp A O (⟨"org/distinguo/identify/BlockTree", "split", "(I[I)Z"⟩ : MethodName) prog_45_method_15_code 7 (some .boolean) 201 (sLoad 0 6 203) from g_iload d10_201) ?_
  refine okc_cons (show Good l Z hz shp A O (⟨"org/distinguo/identify/BlockTree", "split", "(I[I)Z"⟩ : MethodName) prog_45_method_15_code 7 (some .boolean) 203 (sLdM 1 204) from g_ialoadM (sid := 1) d10_203 rfl rfl) ?_
  refine okc_cons (show Good l Z hz shp A O (⟨"org/distinguo/identify/BlockTree", "split", "(I[I)Z"⟩ : MethodName) prog_45_method_15_code 7 (some .boolean) 204 (sStM 1 205) from g_iastoreM (sid := 1) d10_204 rfl rfl) ?_
  refine okc_cons (show Good l Z hz shp A O (⟨"org/distinguo/identify/BlockTree", "split", "(I[I)Z"⟩ : MethodName) prog_45_method_15_code 7 (some .boolean) 205 (sIinc 4 1 208) from g_iinc d10_205 rfl) ?_
  refine okc_cons (show Good l Z hz shp A O (⟨"org/distinguo/identify/BlockTree", "split", "(I[I)Z"⟩ : MethodName) prog_45_method_15_code 7 (some .boolean) 208 (sGoto 111) from g_goto d10_208 (by decide) (by decide)) ?_
  refine okc_cons (show Good l Z hz shp A O (⟨"org/distinguo/identify/BlockTree", "split", "(I[I)Z"⟩ : MethodName) prog_45_method_15_code 7 (some .boolean) 211 (sLoad 2 0 212) from g_aloadN d10_211) ?_
  refine okc_cons (show Good l Z hz shp A O (⟨"org/distinguo/identify/BlockTree", "split", "(I[I)Z"⟩ : MethodName) prog_45_method_15_code 7 (some .boolean) 212 (sGetF 0 3 215) from g_getfield (sid := 0) (i := 3) (R0 := "org/distinguo/identify/BlockTree") (host := "") d10_212 rfl rfl (Or.inl (hw _ (List.mem_of_getElem? (i := 20) rfl))) Via.refl) ?_
  refine okc_cons (show Good l Z hz shp A O (⟨"org/distinguo/identify/BlockTree", "split", "(I[I)Z"⟩ : MethodName) prog_45_method_15_code 7 (some .boolean) 215 (sLoad 0 1 216) from g_iloadN d10_215) ?_
  refine okc_cons (show Good l Z hz shp A O (⟨"org/distinguo/identify/BlockTree", "split", "(I[I)Z"⟩ : MethodName) prog_45_method_15_code 7 (some .boolean) 216 (sLdM 1 217) from g_ialoadM (sid := 1) d10_216 rfl rfl) ?_
  refine okc_cons (show Good l Z hz shp A O (⟨"org/distinguo/identify/BlockTree", "split", "(I[I)Z"⟩ : MethodName) prog_45_method_15_code 7 (some .boolean) 217 (sStore 0 4 219) from g_istore d10_217) ?_
  refine okc_cons (show Good l Z hz shp A O (⟨"org/distinguo/identify/BlockTree", "split", "(I[I)Z"⟩ : MethodName) prog_45_method_15_code 7 (some .boolean) 219 (sLoad 0 4 221) from g_iload d10_219) ?_
  refine okc_cons (show Good l Z hz shp A O (⟨"org/distinguo/identify/BlockTree", "split", "(I[I)Z"⟩ : MethodName) prog_45_method_15_code 7 (some .boolean) 221 (sLoad 2 0 222) from g_aloadN d10_221) ?_
  refine okc_cons (show Good l Z hz shp A O (⟨"org/distinguo/identify/BlockTree", "split", "(I[I)Z"⟩ : MethodName) prog_45_method_15_code 7 (some .boolean) 222 (sGetF 0 4 225) from g_getfield (sid := 0) (i := 4) (R0 := "org/distinguo/identify/BlockTree") (host := "") d10_222 rfl rfl (Or.inl (hw _ (List.mem_of_getElem? (i := 22) rfl))) Via.refl) ?_
  refine okc_cons (show Good l Z hz shp A O (⟨"org/distinguo/identify/BlockTree", "split", "(I[I)Z"⟩ : MethodName) prog_45_method_15_code 7 (some .boolean) 225 (sLoad 0 1 226) from g_iloadN d10_225) ?_
  refine okc_cons (show Good l Z hz shp A O (⟨"org/distinguo/identify/BlockTree", "split", "(I[I)Z"⟩ : MethodName) prog_45_method_15_code 7 (some .boolean) 226 (sLdM 1 227) from g_ialoadM (sid := 1) d10_226 rfl rfl) ?_
  refine okc_cons (show Good l Z hz shp A O (⟨"org/distinguo/identify/BlockTree", "split", "(I[I)Z"⟩ : MethodName) prog_45_method_15_code 7 (some .boolean) 227 (sIcmp .ge 274 230) from g_icmp d10_227 (by decide) (by decide)) ?_
  refine okc_cons (show Good l Z hz shp A O (⟨"org/distinguo/identify/BlockTree", "split", "(I[I)Z"⟩ : MethodName) prog_45_method_15_code 7 (some .boolean) 230 (sLoad 2 0 231) from g_aloadN d10_230) ?_
  refine okc_cons (show Good l Z hz shp A O (⟨"org/distinguo/identify/BlockTree", "split", "(I[I)Z"⟩ : MethodName) prog_45_method_15_code 7 (some .boolean) 231 (sGetF 0 10 234) from g_getfield (sid := 0) (i := 10) (R0 := "org/distinguo/identify/BlockTree") (host := "") d10_231 rfl rfl (Or.inl (hw _ (List.mem_of_getElem? (i := 34) rfl))) Via.refl) ?_
  refine okc_cons (show Good l Z hz shp A O (⟨"org/distinguo/identify/BlockTree", "split", "(I[I)Z"⟩ : MethodName) prog_45_method_15_code 7 (some .boolean) 234 (sLoad 2 0 235) from g_aloadN d10_234) ?_
  refine okc_cons (show Good l Z hz shp A O (⟨"org/distinguo/identify/BlockTree", "split", "(I[I)Z"⟩ : MethodName) prog_45_method_15_code 7 (some .boolean) 235 (sGetF 0 9 238) from g_getfield (sid := 0) (i := 9) (R0 := "org/distinguo/identify/BlockTree") (host := "") d10_235 rfl rfl (Or.inl (hw _ (List.mem_of_getElem? (i := 32) rfl))) Via.refl) ?_
  refine okc_cons (show Good l Z hz shp A O (⟨"org/distinguo/identify/BlockTree", "split", "(I[I)Z"⟩ : MethodName) prog_45_method_15_code 7 (some .boolean) 238 (sLoad 2 0 239) from g_aloadN d10_238) ?_
  refine okc_cons (show Good l Z hz shp A O (⟨"org/distinguo/identify/BlockTree", "split", "(I[I)Z"⟩ : MethodName) prog_45_method_15_code 7 (some .boolean) 239 (sGetF 0 8 242) from g_getfield (sid := 0) (i := 8) (R0 := "org/distinguo/identify/BlockTree") (host := "") d10_239 rfl rfl (Or.inl (hw _ (List.mem_of_getElem? (i := 30) rfl))) Via.refl) ?_
  refine okc_cons (show Good l Z hz shp A O (⟨"org/distinguo/identify/BlockTree", "split", "(I[I)Z"⟩ : MethodName) prog_45_method_15_code 7 (some .boolean) 242 (sLoad 2 2 243) from g_aloadN d10_242) ?_
  refine okc_cons (show Good l Z hz shp A O (⟨"org/distinguo/identify/BlockTree", "split", "(I[I)Z"⟩ : MethodName) prog_45_method_15_code 7 (some .boolean) 243 (sLoad 2 0 244) from g_aloadN d10_243) ?_
  refine okc_cons (show Good l Z hz shp A O (⟨"org/distinguo/identify/BlockTree", "split", "(I[I)Z"⟩ : MethodName) prog_45_method_15_code 7 (some .boolean) 244 (sGetF 0 5 247) from g_getfield (sid := 0) (i := 5) (R0 := "org/distinguo/identify/BlockTree") (host := "") d10_244 rfl rfl (Or.inl (hw _ (List.mem_of_getElem? (i := 24) rfl))) Via.refl) ?_
  refine okc_cons (show Good l Z hz shp A O (⟨"org/distinguo/identify/BlockTree", "split", "(I[I)Z"⟩ : MethodName) prog_45_method_15_code 7 (some .boolean) 247 (sLoad 0 4 249) from g_iload d10_247) ?_
  refine okc_cons (show Good l Z hz shp A O (⟨"org/distinguo/identify/BlockTree", "split", "(I[I)Z"⟩ : MethodName) prog_45_method_15_code 7 (some .boolean) 249 (sLdM 1 250) from g_ialoadM (sid := 1) d10_249 rfl rfl) ?_
  refine okc_cons (show Good l Z hz shp A O (⟨"org/distinguo/identify/BlockTree", "split", "(I[I)Z"⟩ : MethodName) prog_45_method_15_code 7 (some .boolean) 250 (sLdM 1 251) from g_ialoadM (sid := 1) d10_250 rfl rfl) ?_
  refine okc_cons (show Good l Z hz shp A O (⟨"org/distinguo/identify/BlockTree", "split", "(I[I)Z"⟩ : MethodName) prog_45_method_15_code 7 (some .boolean) 251 (sPush (0, .int 1) 252) from g_iconst d10_251 rfl) ?_
  refine okc_cons (show Good l Z hz shp A O (⟨"org/distinguo/identify/BlockTree", "split", "(I[I)Z"⟩ : MethodName) prog_45_method_15_code 7 (some .boolean) 252 (sBin 0 0 0 (jI Term.add) 253) from g_iadd d10_252) ?_
  refine okc_cons (show Good l Z hz shp A O (⟨"org/distinguo/identify/BlockTree", "split", "(I[I)Z"⟩ : MethodName) prog_45_method_15_code 7 (some .boolean) 253 (sLdM 1 254) from g_ialoadM (sid := 1) d10_253 rfl rfl) ?_
  refine okc_cons (show Good l Z hz shp A O (⟨"org/distinguo/identify/BlockTree", "split", "(I[I)Z"⟩ : MethodName) prog_45_method_15_code 7 (some .boolean) 254 (sDup2 255) from g_dup2 d10_254) ?_
  refine okc_cons (show Good l Z hz shp A O (⟨"org/distinguo/identify/BlockTree", "split", "(I[I)Z"⟩ : MethodName) prog_45_method_15_code 7 (some .boolean) 255 (sLdM 1 256) from g_ialoadM (sid := 1) d10_255 rfl rfl) ?_
  refine okc_cons (show Good l Z hz shp A O (⟨"org/distinguo/identify/BlockTree", "split", "(I[I)Z"⟩ : MethodName) prog_45_method_15_code 7 (some .boolean) 256 (sDupX2 257) from g_dupX2 d10_256) ?_
  refine okc_cons (show Good l Z hz shp A O (⟨"org/distinguo/identify/BlockTree", "split", "(I[I)Z"⟩ : MethodName) prog_45_method_15_code 7 (some .boolean) 257 (sPush (0, .int 1) 258) from g_iconst d10_257 rfl) ?_
  refine okc_cons (show Good l Z hz shp A O (⟨"org/distinguo/identify/BlockTree", "split", "(I[I)Z"⟩ : MethodName) prog_45_method_15_code 7 (some .boolean) 258 (sBin 0 0 0 (jI Term.add) 259) from g_iadd d10_258) ?_
  refine okc_cons (show Good l Z hz shp A O (⟨"org/distinguo/identify/BlockTree", "split", "(I[I)Z"⟩ : MethodName) prog_45_method_15_code 7 (some .boolean) 259 (sStM 1 260) from g_iastoreM (sid := 1) d10_259 rfl rfl) ?_
  refine okc_cons (show Good l Z hz shp A O (⟨"org/distinguo/identify/BlockTree", "split", "(I[I)Z"⟩ : MethodName) prog_45_method_15_code 7 (some .boolean) 260 (sLoad 2 0 261) from g_aloadN d10_260) ?_
  refine okc_cons (show Good l Z hz shp A O (⟨"org/distinguo/identify/BlockTree", "split", "(I[I)Z"⟩ : MethodName) prog_45_method_15_code 7 (some .boolean) 261 (sGetF 0 5 264) from g_getfield (sid := 0) (i := 5) (R0 := "org/distinguo/identify/BlockTree") (host := "") d10_261 rfl rfl (Or.inl (hw _ (List.mem_of_getElem? (i := 24) rfl))) Via.refl) ?_
  refine okc_cons (show Good l Z hz shp A O (⟨"org/distinguo/identify/BlockTree", "split", "(I[I)Z"⟩ : MethodName) prog_45_method_15_code 7 (some .boolean) 264 (sLoad 0 4 266) from g_iload d10_264) ?_
  refine okc_cons (show Good l Z hz shp A O (⟨"org/distinguo/identify/BlockTree", "split", "(I[I)Z"⟩ : MethodName) prog_45_method_15_code 7 (some .boolean) 266 (sLdM 1 267) from g_ialoadM (sid := 1) d10_266 rfl rfl) ?_
  refine okc_cons (show Good l Z hz shp A O (⟨"org/distinguo/identify/BlockTree", "split", "(I[I)Z"⟩ : MethodName) prog_45_method_15_code 7 (some .boolean) 267 (sStM 1 268) from g_iastoreM (sid := 1) d10_267 rfl rfl) ?_
  refine okc_cons (show Good l Z hz shp A O (⟨"org/distinguo/identify/BlockTree", "split", "(I[I)Z"⟩ : MethodName) prog_45_method_15_code 7 (some .boolean) 268 (sIinc 4 1 271) from g_iinc d10_268 rfl) ?_
  refine okc_cons (show Good l Z hz shp A O (⟨"org/distinguo/identify/BlockTree", "split", "(I[I)Z"⟩ : MethodName) prog_45_method_15_code 7 (some .boolean) 271 (sGoto 219) from g_goto d10_271 (by decide) (by decide)) ?_
  refine okc_cons (show Good l Z hz shp A O (⟨"org/distinguo/identify/BlockTree", "split", "(I[I)Z"⟩ : MethodName) prog_45_method_15_code 7 (some .boolean) 274 (sLoad 2 0 275) from g_aloadN d10_274) ?_
  refine okc_cons (show Good l Z hz shp A O (⟨"org/distinguo/identify/BlockTree", "split", "(I[I)Z"⟩ : MethodName) prog_45_method_15_code 7 (some .boolean) 275 (sGetF 0 10 278) from g_getfield (sid := 0) (i := 10) (R0 := "org/distinguo/identify/BlockTree") (host := "") d10_275 rfl rfl (Or.inl (hw _ (List.mem_of_getElem? (i := 34) rfl))) Via.refl) ?_
  refine okc_cons (show Good l Z hz shp A O (⟨"org/distinguo/identify/BlockTree", "split", "(I[I)Z"⟩ : MethodName) prog_45_method_15_code 7 (some .boolean) 278 (sLoad 2 0 279) from g_aloadN d10_278) ?_
  refine okc_cons (show Good l Z hz shp A O (⟨"org/distinguo/identify/BlockTree", "split", "(I[I)Z"⟩ : MethodName) prog_45_method_15_code 7 (some .boolean) 279 (sGetF 0 3 282) from g_getfield (sid := 0) (i := 3) (R0 := "org/distinguo/identify/BlockTree") (host := "") d10_279 rfl rfl (Or.inl (hw _ (List.mem_of_getElem? (i := 20) rfl))) Via.refl) ?_
  refine okc_cons (show Good l Z hz shp A O (⟨"org/distinguo/identify/BlockTree", "split", "(I[I)Z"⟩ : MethodName) prog_45_method_15_code 7 (some .boolean) 282 (sLoad 0 1 283) from g_iloadN d10_282) ?_
  refine okc_cons (show Good l Z hz shp A O (⟨"org/distinguo/identify/BlockTree", "split", "(I[I)Z"⟩ : MethodName) prog_45_method_15_code 7 (some .boolean) 283 (sLdM 1 284) from g_ialoadM (sid := 1) d10_283 rfl rfl) ?_
  refine okc_cons (show Good l Z hz shp A O (⟨"org/distinguo/identify/BlockTree", "split", "(I[I)Z"⟩ : MethodName) prog_45_method_15_code 7 (some .boolean) 284 (sLoad 2 0 285) from g_aloadN d10_284) ?_
  refine okc_cons (show Good l Z hz shp A O (⟨"org/distinguo/identify/BlockTree", "split", "(I[I)Z"⟩ : MethodName) prog_45_method_15_code 7 (some .boolean) 285 (sGetF 0 5 288) from g_getfield (sid := 0) (i := 5) (R0 := "org/distinguo/identify/BlockTree") (host := "") d10_285 rfl rfl (Or.inl (hw _ (List.mem_of_getElem? (i := 24) rfl))) Via.refl) ?_
  refine okc_cons (show Good l Z hz shp A O (⟨"org/distinguo/identify/BlockTree", "split", "(I[I)Z"⟩ : MethodName) prog_45_method_15_code 7 (some .boolean) 288 (sLoad 2 0 289) from g_aloadN d10_288) ?_
  refine okc_cons (show Good l Z hz shp A O (⟨"org/distinguo/identify/BlockTree", "split", "(I[I)Z"⟩ : MethodName) prog_45_method_15_code 7 (some .boolean) 289 (sGetF 0 3 292) from g_getfield (sid := 0) (i := 3) (R0 := "org/distinguo/identify/BlockTree") (host := "") d10_289 rfl rfl (Or.inl (hw _ (List.mem_of_getElem? (i := 20) rfl))) Via.refl) ?_
  refine okc_cons (show Good l Z hz shp A O (⟨"org/distinguo/identify/BlockTree", "split", "(I[I)Z"⟩ : MethodName) prog_45_method_15_code 7 (some .boolean) 292 (sLoad 0 1 293) from g_iloadN d10_292) ?_
  refine okc_cons (show Good l Z hz shp A O (⟨"org/distinguo/identify/BlockTree", "split", "(I[I)Z"⟩ : MethodName) prog_45_method_15_code 7 (some .boolean) 293 (sLdM 1 294) from g_ialoadM (sid := 1) d10_293 rfl rfl) ?_
  refine okc_cons (show Good l Z hz shp A O (⟨"org/distinguo/identify/BlockTree", "split", "(I[I)Z"⟩ : MethodName) prog_45_method_15_code 7 (some .boolean) 294 (sLoad 2 0 295) from g_aloadN d10_294) ?_
  refine okc_cons (show Good l Z hz shp A O (⟨"org/distinguo/identify/BlockTree", "split", "(I[I)Z"⟩ : MethodName) prog_45_method_15_code 7 (some .boolean) 295 (sGetF 0 4 298) from g_getfield (sid := 0) (i := 4) (R0 := "org/distinguo/identify/BlockTree") (host := "") d10_295 rfl rfl (Or.inl (hw _ (List.mem_of_getElem? (i := 22) rfl))) Via.refl) ?_
  refine okc_cons (show Good l Z hz shp A O (⟨"org/distinguo/identify/BlockTree", "split", "(I[I)Z"⟩ : MethodName) prog_45_method_15_code 7 (some .boolean) 298 (sLoad 0 1 299) from g_iloadN d10_298) ?_
  refine okc_cons (show Good l Z hz shp A O (⟨"org/distinguo/identify/BlockTree", "split", "(I[I)Z"⟩ : MethodName) prog_45_method_15_code 7 (some .boolean) 299 (sLdM 1 300) from g_ialoadM (sid := 1) d10_299 rfl rfl) ?_
  refine okc_cons (show Good l Z hz shp A O (⟨"org/distinguo/identify/BlockTree", "split", "(I[I)Z"⟩ : MethodName) prog_45_method_15_code 7 (some .boolean) 300 (sLoad 2 0 301) from g_aloadN d10_300) ?_
  refine okc_cons (show Good l Z hz shp A O (⟨"org/distinguo/identify/BlockTree", "split", "(I[I)Z"⟩ : MethodName) prog_45_method_15_code 7 (some .boolean) 301 (sGetF 0 3 304) from g_getfield (sid := 0) (i := 3) (R0 := "org/distinguo/identify/BlockTree") (host := "") d10_301 rfl rfl (Or.inl (hw _ (List.mem_of_getElem? (i := 20) rfl))) Via.refl) ?_
  refine okc_cons (show Good l Z hz shp A O (⟨"org/distinguo/identify/BlockTree", "split", "(I[I)Z"⟩ : MethodName) prog_45_method_15_code 7 (some .boolean) 304 (sLoad 0 1 305) from g_iloadN d10_304) ?_
  refine okc_cons (show Good l Z hz shp A O (⟨"org/distinguo/identify/BlockTree", "split", "(I[I)Z"⟩ : MethodName) prog_45_method_15_code 7 (some .boolean) 305 (sLdM 1 306) from g_ialoadM (sid := 1) d10_305 rfl rfl) ?_
  refine okc_cons (show Good l Z hz shp A O (⟨"org/distinguo/identify/BlockTree", "split", "(I[I)Z"⟩ : MethodName) prog_45_method_15_code 7 (some .boolean) 306 (sBin 0 0 0 (jI Term.sub) 307) from g_isub d10_306) ?_
  refine okc_cons (show GoodN l Z hz shp A O (⟨"org/distinguo/identify/BlockTree", "split", "(I[I)Z"⟩ : MethodName) prog_45_method_15_code 7 (some .boolean) 307 (sCopy 1 7 310) from g_copy (sid := 1) d10_307 rfl (hw _ (List.mem_of_getElem? (i := 75) rfl)) (hw _ (List.mem_of_getElem? (i := 78) rfl)) (hw _ (List.mem_of_getElem? (i := 76) rfl)) (hw _ (List.mem_of_getElem? (i := 77) rfl))) ?_
  refine okc_cons (show Good l Z hz shp A O (⟨"org/distinguo/identify/BlockTree", "split", "(I[I)Z"⟩ : MethodName) prog_45_method_15_code 7 (some .boolean) 310 (sLoad 2 0 311) from g_aloadN d10_310) ?_
  refine okc_cons (show Good l Z hz shp A O (⟨"org/distinguo/identify/BlockTree", "split", "(I[I)Z"⟩ : MethodName) prog_45_method_15_code 7 (some .boolean) 311 (sGetF 0 2 314) from g_getfield (sid := 0) (i := 2) (R0 := "org/distinguo/identify/BlockTree") (host := "") d10_311 rfl rfl (Or.inl (hw _ (List.mem_of_getElem? (i := 18) rfl))) Via.refl) ?_
  refine okc_cons (show Good l Z hz shp A O (⟨"org/distinguo/identify/BlockTree", "split", "(I[I)Z"⟩ : MethodName) prog_45_method_15_code 7 (some .boolean) 314 (sLoad 0 1 315) from g_iloadN d10_314) ?_
  refine okc_cons (show Good l Z hz shp A O (⟨"org/distinguo/identify/BlockTree", "split", "(I[I)Z"⟩ : MethodName) prog_45_method_15_code 7 (some .boolean) 315 (sLdM 1 316) from g_ialoadM (sid := 1) d10_315 rfl rfl) ?_
  refine okc_cons (show Good l Z hz shp A O (⟨"org/distinguo/identify/BlockTree", "split", "(I[I)Z"⟩ : MethodName) prog_45_method_15_code 7 (some .boolean) 316 (sStore 0 4 318) from g_istore d10_316) ?_
  refine okc_cons (show Good l Z hz shp A O (⟨"org/distinguo/identify/BlockTree", "split", "(I[I)Z"⟩ : MethodName) prog_45_method_15_code 7 (some .boolean) 318 (sLoad 0 4 320) from g_iload d10_318) ?_
  refine okc_cons (show Good l Z hz shp A O (⟨"org/distinguo/identify/BlockTree", "split", "(I[I)Z"⟩ : MethodName) prog_45_method_15_code 7 (some .boolean) 320 (sLoad 2 0 321) from g_aloadN d10_320) ?_
  refine okc_cons (show Good l Z hz shp A O (⟨"org/distinguo/identify/BlockTree", "split", "(I[I)Z"⟩ : MethodName) prog_45_method_15_code 7 (some .boolean) 321 (sGetF 0 11 324) from g_getfield (sid := 0) (i := 11) (R0 := "org/distinguo/identify/BlockTree") (host := "") d10_321 rfl rfl (Or.inl (hw _ (List.mem_of_getElem? (i := 58) rfl))) Via.refl) ?_
  refine okc_cons (show Good l Z hz shp A O (⟨"org/distinguo/identify/BlockTree", "split", "(I[I)Z"⟩ : MethodName) prog_45_method_15_code 7 (some .boolean) 324 (sIcmp .ge 388 327) from g_icmp d10_324 (by decide) (by decide)) ?_
  refine okc_cons (show Good l Z hz shp A O (⟨"org/distinguo/identify/BlockTree", "split", "(I[I)Z"⟩ : MethodName) prog_45_method_15_code 7 (some .boolean) 327 (sLoad 2 0 328) from g_aloadN d10_327) ?_
  refine okc_cons (show Good l Z hz shp A O (⟨"org/distinguo/identify/BlockTree", "split", "(I[I)Z"⟩ : MethodName) prog_45_method_15_code 7 (some .boolean) 328 (sGetF 0 3 331) from g_getfield (sid := 0) (i := 3) (R0 := "org/distinguo/identify/BlockTree") (host := "") d10_328 rfl rfl (Or.inl (hw _ (List.mem_of_getElem? (i := 20) rfl))) Via.refl) ?_
  refine okc_cons (show Good l Z hz shp A O (⟨"org/distinguo/identify/BlockTree", "split", "(I[I)Z"⟩ : MethodName) prog_45_method_15_code 7 (some .boolean) 331 (sLoad 0 4 333) from g_iload d10_331) ?_
  refine okc_cons (show Good l Z hz shp A O (⟨"org/distinguo/identify/BlockTree", "split", "(I[I)Z"⟩ : MethodName) prog_45_method_15_code 7 (some .boolean) 333 (sLdM 1 334) from g_ialoadM (sid := 1) d10_333 rfl rfl) ?_
  refine okc_cons (show Good l Z hz shp A O (⟨"org/distinguo/identify/BlockTree", "split", "(I[I)Z"⟩ : MethodName) prog_45_method_15_code 7 (some .boolean) 334 (sStore 0 5 336) from g_istore d10_334) ?_
  refine okc_cons (show Good l Z hz shp A O (⟨"org/distinguo/identify/BlockTree", "split", "(I[I)Z"⟩ : MethodName) prog_45_method_15_code 7 (some .boolean) 336 (sLoad 0 5 338) from g_iload d10_336) ?_
  refine okc_cons (show Good l Z hz shp A O (⟨"org/distinguo/identify/BlockTree", "split", "(I[I)Z"⟩ : MethodName) prog_45_method_15_code 7 (some .boolean) 338 (sLoad 2 0 339) from g_aloadN d10_338) ?_
  refine okc_cons (show Good l Z hz shp A O (⟨"org/distinguo/identify/BlockTree", "split", "(I[I)Z"⟩ : MethodName) prog_45_method_15_code 7 (some .boolean) 339 (sGetF 0 4 342) from g_getfield (sid := 0) (i := 4) (R0 := "org/distinguo/identify/BlockTree") (host := "") d10_339 rfl rfl (Or.inl (hw _ (List.mem_of_getElem? (i := 22) rfl))) Via.refl) ?_
  refine okc_cons (show Good l Z hz shp A O (⟨"org/distinguo/identify/BlockTree", "split", "(I[I)Z"⟩ : MethodName) prog_45_method_15_code 7 (some .boolean) 342 (sLoad 0 4 344) from g_iload d10_342) ?_
  refine okc_cons (show Good l Z hz shp A O (⟨"org/distinguo/identify/BlockTree", "split", "(I[I)Z"⟩ : MethodName) prog_45_method_15_code 7 (some .boolean) 344 (sLdM 1 345) from g_ialoadM (sid := 1) d10_344 rfl rfl) ?_
  refine okc_cons (show Good l Z hz shp A O (⟨"org/distinguo/identify/BlockTree", "split", "(I[I)Z"⟩ : MethodName) prog_45_method_15_code 7 (some .boolean) 345 (sIcmp .ge 382 348) from g_icmp d10_345 (by decide) (by decide)) ?_
  refine okc_cons (show Good l Z hz shp A O (⟨"org/distinguo/identify/BlockTree", "split", "(I[I)Z"⟩ : MethodName) prog_45_method_15_code 7 (some .boolean) 348 (sLoad 2 0 349) from g_aloadN d10_348) ?_
  refine okc_cons (show Good l Z hz shp A O (⟨"org/distinguo/identify/BlockTree", "split", "(I[I)Z"⟩ : MethodName) prog_45_method_15_code 7 (some .boolean) 349 (sGetF 0 7 352) from g_getfield (sid := 0) (i := 7) (R0 := "org/distinguo/identify/BlockTree") (host := "") d10_349 rfl rfl (Or.inl (hw _ (List.mem_of_getElem? (i := 28) rfl))) Via.refl) ?_
  refine okc_cons (show Good l Z hz shp A O (⟨"org/distinguo/identify/BlockTree", "split", "(I[I)Z"⟩ : MethodName) prog_45_method_15_code 7 (some .boolean) 352 (sLoad 2 0 353) from g_aloadN d10_352) ?_
  refine okc_cons (show Good l Z hz shp A O (⟨"org/distinguo/identify/BlockTree", "split", "(I[I)Z"⟩ : MethodName) prog_45_method_15_code 7 (some .boolean) 353 (sGetF 0 5 356) from g_getfield (sid := 0) (i := 5) (R0 := "org/distinguo/identify/BlockTree") (host := "") d10_353 rfl rfl (Or.inl (hw _ (List.mem_of_getElem? (i := 24) rfl))) Via.refl) ?_
  refine okc_cons (show Good l Z hz shp A O (⟨"org/distinguo/identify/BlockTree", "split", "(I[I)Z"⟩ : MethodName) prog_45_method_15_code 7 (some .boolean) 356 (sLoad 0 5 358) from g_iload d10_356) ?_
  refine okc_cons (show Good l Z hz shp A O (⟨"org/distinguo/identify/BlockTree", "split", "(I[I)Z"⟩ : MethodName) prog_45_method_15_code 7 (some .boolean) 358 (sLdM 1 359) from g_ialoadM (sid := 1) d10_358 rfl rfl) ?_
  refine okc_cons (show Good l Z hz shp A O (⟨"org/distinguo/identify/BlockTree", "split", "(I[I)Z"⟩ : MethodName) prog_45_method_15_code 7 (some .boolean) 359 (sLoad 0 4 361) from g_iload d10_359) ?_
  refine okc_cons (show Good l Z hz shp A O (⟨"org/distinguo/identify/BlockTree", "split", "(I[I)Z"⟩ : MethodName) prog_45_method_15_code 7 (some .boolean) 361 (sStM 1 362) from g_iastoreM (sid := 1) d10_361 rfl rfl) ?_
  refine okc_cons (show Good l Z hz shp A O (⟨"org/distinguo/identify/BlockTree", "split", "(I[I)Z"⟩ : MethodName) prog_45_method_15_code 7 (some .boolean) 362 (sLoad 2 0 363) from g_aloadN d10_362) ?_
  refine okc_cons (show Good l Z hz shp A O (⟨"org/distinguo/identify/BlockTree", "split", "(I[I)Z"⟩ : MethodName) prog_45_method_15_code 7 (some .boolean) 363 (sGetF 0 6 366) from g_getfield (sid := 0) (i := 6) (R0 := "org/distinguo/identify/BlockTree") (host := "") d10_363 rfl rfl (Or.inl (hw _ (List.mem_of_getElem? (i := 26) rfl))) Via.refl) ?_
  refine okc_cons (show Good l Z hz shp A O (⟨"org/distinguo/identify/BlockTree", "split", "(I[I)Z"⟩ : MethodName) prog_45_method_15_code 7 (some .boolean) 366 (sLoad 2 0 367) from g_aloadN d10_366) ?_
  refine okc_cons (show Good l Z hz shp A O (⟨"org/distinguo/identify/BlockTree", "split", "(I[I)Z"⟩ : MethodName) prog_45_method_15_code 7 (some .boolean) 367 (sGetF 0 5 370) from g_getfield (sid := 0) (i := 5) (R0 := "org/distinguo/identify/BlockTree") (host := "") d10_367 rfl rfl (Or.inl (hw _ (List.mem_of_getElem? (i := 24) rfl))) Via.refl) ?_
  refine okc_cons (show Good l Z hz shp A O (⟨"org/distinguo/identify/BlockTree", "split", "(I[I)Z"⟩ : MethodName) prog_45_method_15_code 7 (some .boolean) 370 (sLoad 0 5 372) from g_iload d10_370) ?_
  refine okc_cons (show Good l Z hz shp A O (⟨"org/distinguo/identify/BlockTree", "split", "(I[I)Z"⟩ : MethodName) prog_45_method_15_code 7 (some .boolean) 372 (sLdM 1 373) from g_ialoadM (sid := 1) d10_372 rfl rfl) ?_
  refine okc_cons (show Good l Z hz shp A O (⟨"org/distinguo/identify/BlockTree", "split", "(I[I)Z"⟩ : MethodName) prog_45_method_15_code 7 (some .boolean) 373 (sLoad 0 5 375) from g_iload d10_373) ?_
  refine okc_cons (show Good l Z hz shp A O (⟨"org/distinguo/identify/BlockTree", "split", "(I[I)Z"⟩ : MethodName) prog_45_method_15_code 7 (some .boolean) 375 (sStM 1 376) from g_iastoreM (sid := 1) d10_375 rfl rfl) ?_
  refine okc_cons (show Good l Z hz shp A O (⟨"org/distinguo/identify/BlockTree", "split", "(I[I)Z"⟩ : MethodName) prog_45_method_15_code 7 (some .boolean) 376 (sIinc 5 1 379) from g_iinc d10_376 rfl) ?_
  refine okc_cons (show Good l Z hz shp A O (⟨"org/distinguo/identify/BlockTree", "split", "(I[I)Z"⟩ : MethodName) prog_45_method_15_code 7 (some .boolean) 379 (sGoto 336) from g_goto d10_379 (by decide) (by decide)) ?_
  refine okc_cons (show Good l Z hz shp A O (⟨"org/distinguo/identify/BlockTree", "split", "(I[I)Z"⟩ : MethodName) prog_45_method_15_code 7 (some .boolean) 382 (sIinc 4 1 385) from g_iinc d10_382 rfl) ?_
  refine okc_cons (show Good l Z hz shp A O (⟨"org/distinguo/identify/BlockTree", "split", "(I[I)Z"⟩ : MethodName) prog_45_method_15_code 7 (some .boolean) 385 (sGoto 318) from g_goto d10_385 (by decide) (by decide)) ?_
  refine okc_cons (show Good l Z hz shp A O (⟨"org/distinguo/identify/BlockTree", "split", "(I[I)Z"⟩ : MethodName) prog_45_method_15_code 7 (some .boolean) 388 (sLoad 2 0 389) from g_aloadN d10_388) ?_
  refine okc_cons (show Good l Z hz shp A O (⟨"org/distinguo/identify/BlockTree", "split", "(I[I)Z"⟩ : MethodName) prog_45_method_15_code 7 (some .boolean) 389 (sGetF 0 3 392) from g_getfield (sid := 0) (i := 3) (R0 := "org/distinguo/identify/BlockTree") (host := "") d10_389 rfl rfl (Or.inl (hw _ (List.mem_of_getElem? (i := 20) rfl))) Via.refl) ?_
  refine okc_cons (show Good l Z hz shp A O (⟨"org/distinguo/identify/BlockTree", "split", "(I[I)Z"⟩ : MethodName) prog_45_method_15_code 7 (some .boolean) 392 (sLoad 0 1 393) from g_iloadN d10_392) ?_
  refine okc_cons (show Good l Z hz shp A O (⟨"org/distinguo/identify/BlockTree", "split", "(I[I)Z"⟩ : MethodName) prog_45_method_15_code 7 (some .boolean) 393 (sLdM 1 394) from g_ialoadM (sid := 1) d10_393 rfl rfl) ?_
  refine okc_cons (show Good l Z hz shp A O (⟨"org/distinguo/identify/BlockTree", "split", "(I[I)Z"⟩ : MethodName) prog_45_method_15_code 7 (some .boolean) 394 (sStore 0 4 396) from g_istore d10_394) ?_
  refine okc_cons (show Good l Z hz shp A O (⟨"org/distinguo/identify/BlockTree", "split", "(I[I)Z"⟩ : MethodName) prog_45_method_15_code 7 (some .boolean) 396 (sLoad 0 4 398) from g_iload d10_396) ?_
  refine okc_cons (show Good l Z hz shp A O (⟨"org/distinguo/identify/BlockTree", "split", "(I[I)Z"⟩ : MethodName) prog_45_method_15_code 7 (some .boolean) 398 (sLoad 2 0 399) from g_aloadN d10_398) ?_
  refine okc_cons (show Good l Z hz shp A O (⟨"org/distinguo/identify/BlockTree", "split", "(I[I)Z"⟩ : MethodName) prog_45_method_15_code 7 (some .boolean) 399 (sGetF 0 4 402) from g_getfield (sid := 0) (i := 4) (R0 := "org/distinguo/identify/BlockTree") (host := "") d10_399 rfl rfl (Or.inl (hw _ (List.mem_of_getElem? (i := 22) rfl))) Via.refl) ?_
  refine okc_cons (show Good l Z hz shp A O (⟨"org/distinguo/identify/BlockTree", "split", "(I[I)Z"⟩ : MethodName) prog_45_method_15_code 7 (some .boolean) 402 (sLoad 0 1 403) from g_iloadN d10_402) ?_
  refine okc_cons (show Good l Z hz shp A O (⟨"org/distinguo/identify/BlockTree", "split", "(I[I)Z"⟩ : MethodName) prog_45_method_15_code 7 (some .boolean) 403 (sLdM 1 404) from g_ialoadM (sid := 1) d10_403 rfl rfl) ?_
  refine okc_cons (show Good l Z hz shp A O (⟨"org/distinguo/identify/BlockTree", "split", "(I[I)Z"⟩ : MethodName) prog_45_method_15_code 7 (some .boolean) 404 (sIcmp .ge 430 407) from g_icmp d10_404 (by decide) (by decide)) ?_
  refine okc_cons (show Good l Z hz shp A O (⟨"org/distinguo/identify/BlockTree", "split", "(I[I)Z"⟩ : MethodName) prog_45_method_15_code 7 (some .boolean) 407 (sLoad 2 0 408) from g_aloadN d10_407) ?_
  refine okc_cons (show Good l Z hz shp A O (⟨"org/distinguo/identify/BlockTree", "split", "(I[I)Z"⟩ : MethodName) prog_45_method_15_code 7 (some .boolean) 408 (sGetF 0 8 411) from g_getfield (sid := 0) (i := 8) (R0 := "org/distinguo/identify/BlockTree") (host := "") d10_408 rfl rfl (Or.inl (hw _ (List.mem_of_getElem? (i := 30) rfl))) Via.refl) ?_
  refine okc_cons (show Good l Z hz shp A O (⟨"org/distinguo/identify/BlockTree", "split", "(I[I)Z"⟩ : MethodName) prog_45_method_15_code 7 (some .boolean) 411 (sLoad 2 2 412) from g_aloadN d10_411) ?_
  refine okc_cons (show Good l Z hz shp A O (⟨"org/distinguo/identify/BlockTree", "split", "(I[I)Z"⟩ : MethodName) prog_45_method_15_code 7 (some .boolean) 412 (sLoad 2 0 413) from g_aloadN d10_412) ?_
  refine okc_cons (show Good l Z hz shp A O (⟨"org/distinguo/identify/BlockTree", "split", "(I[I)Z"⟩ : MethodName) prog_45_method_15_code 7 (some .boolean) 413 (sGetF 0 5 416) from g_getfield (sid := 0) (i := 5) (R0 := "org/distinguo/identify/BlockTree") (host := "") d10_413 rfl rfl (Or.inl (hw _ (List.mem_of_getElem? (i := 24) rfl))) Via.refl) ?_
  refine okc_cons (show Good l Z hz shp A O (⟨"org/distinguo/identify/BlockTree", "split", "(I[I)Z"⟩ : MethodName) prog_45_method_15_code 7 (some .boolean) 416 (sLoad 0 4 418) from g_iload d10_416) ?_
  refine okc_cons (show Good l Z hz shp A O (⟨"org/distinguo/identify/BlockTree", "split", "(I[I)Z"⟩ : MethodName) prog_45_method_15_code 7 (some .boolean) 418 (sLdM 1 419) from g_ialoadM (sid := 1) d10_418 rfl rfl) ?_
  refine okc_cons (show Good l Z hz shp A O (⟨"org/distinguo/identify/BlockTree", "split", "(I[I)Z"⟩ : MethodName) prog_45_method_15_code 7 (some .boolean) 419 (sLdM 1 420) from g_ialoadM (sid := 1) d10_419 rfl rfl) ?_
  refine okc_cons (show Good l Z hz shp A O (⟨"org/distinguo/identify/BlockTree", "split", "(I[I)Z"⟩ : MethodName) prog_45_method_15_code 7 (some .boolean) 420 (sPush (0, .int 1) 421) from g_iconst d10_420 rfl) ?_
  refine okc_cons (show Good l Z hz shp A O (⟨"org/distinguo/identify/BlockTree", "split", "(I[I)Z"⟩ : MethodName) prog_45_method_15_code 7 (some .boolean) 421 (sBin 0 0 0 (jI Term.add) 422) from g_iadd d10_421) ?_
  refine okc_cons (show Good l Z hz shp A O (⟨"org/distinguo/identify/BlockTree", "split", "(I[I)Z"⟩ : MethodName) prog_45_method_15_code 7 (some .boolean) 422 (sPush (0, .int (-1)) 423) from g_iconst d10_422 rfl) ?_
  refine okc_cons (show Good l Z hz shp A O (⟨"org/distinguo/identify/BlockTree", "split", "(I[I)Z"⟩ : MethodName) prog_45_method_15_code 7 (some .boolean) 423 (sStM 1 424) from g_iastoreM (sid := 1) d10_423 rfl rfl) ?_
  refine okc_cons (show Good l Z hz shp A O (⟨"org/distinguo/identify/BlockTree", "split", "(I[I)Z"⟩ : MethodName) prog_45_method_15_code 7 (some .boolean) 424 (sIinc 4 1 427) from g_iinc d10_424 rfl) ?_
  refine okc_cons (show Good l Z hz shp A O (⟨"org/distinguo/identify/BlockTree", "split", "(I[I)Z"⟩ : MethodName) prog_45_method_15_code 7 (some .boolean) 427 (sGoto 396) from g_goto d10_427 (by decide) (by decide)) ?_
  refine okc_cons (show Good l Z hz shp A O (⟨"org/distinguo/identify/BlockTree", "split", "(I[I)Z"⟩ : MethodName) prog_45_method_15_code 7 (some .boolean) 430 (sLoad 0 3 431) from g_iloadN d10_430) ?_
  refine okc_cons (show Good l Z hz shp A O (⟨"org/distinguo/identify/BlockTree", "split", "(I[I)Z"⟩ : MethodName) prog_45_method_15_code 7 (some .boolean) 431 (sPush (0, .int 1) 432) from g_iconst d10_431 rfl) ?_
  refine okc_cons (show Good l Z hz shp A O (⟨"org/distinguo/identify/BlockTree", "split", "(I[I)Z"⟩ : MethodName) prog_45_method_15_code 7 (some .boolean) 432 (sIcmp .le 439 435) from g_icmp d10_432 (by decide) (by decide)) ?_
  refine okc_cons (show Good l Z hz shp A O (⟨"org/distinguo/identify/BlockTree", "split", "(I[I)Z"⟩ : MethodName) prog_45_method_15_code 7 (some .boolean) 435 (sPush (0, .int 1) 436) from g_iconst d10_435 rfl) ?_
  refine okc_cons (show Good l Z hz shp A O (⟨"org/distinguo/identify/BlockTree", "split", "(I[I)Z"⟩ : MethodName) prog_45_method_15_code 7 (some .boolean) 436 (sGoto 440) from g_goto d10_436 (by decide) (by decide)) ?_
  refine okc_cons (show Good l Z hz shp A O (⟨"org/distinguo/identify/BlockTree", "split", "(I[I)Z"⟩ : MethodName) prog_45_method_15_code 7 (some .boolean) 439 (sPush (0, .int 0) 440) from g_iconst d10_439 rfl) ?_
  refine okc_cons (show RetGood l Z hz shp A O (⟨"org/distinguo/identify/BlockTree", "split", "(I[I)Z"⟩ : MethodName) prog_45_method_15_code 7 (some .boolean) 440 (rVal .boolean) from g_ret d10_440 (by decide) (by simp)) ?_
  exact okc_nil
set_option maxRecDepth 65536 in
set_option maxHeartbeats 40000000 in
theorem cok_11 (hw : ∀ d ∈ tables_1, d.before a0 Z = true) (hzZ : hz = Z.heap) (hO0 : O 0 = lamO Z (⟨"org/distinguo/identify/BlockTree", "<init>", "(II)V"⟩ : MethodName) 101 49 sig_0) (hO1 : O 1 = lamO Z (⟨"org/distinguo/identify/BlockTree", "<init>", "(II)V"⟩ : MethodName) 113 59 sig_1) : ∀ el ∈ cd_11, ElOk l Z hz shp A O 40 320 mts mis 11 2 el := by
  unfold cd_11
  refine okc_cons (show Good l Z hz shp A O (⟨"org/distinguo/identify/BlockTree", "leafOf", "(I)I"⟩ : MethodName) prog_45_method_11_code 2 (some .int) 0 (sLoad 2 0 1) from g_aloadN d11_0) ?_
  refine okc_cons (show Good l Z hz shp A O (⟨"org/distinguo/identify/BlockTree", "leafOf", "(I)I"⟩ : MethodName) prog_45_method_11_code 2 (some .int) 1 (sGetF 0 7 4) from g_getfield (sid := 0) (i := 7) (R0 := "org/distinguo/identify/BlockTree") (host := "") d11_1 rfl rfl (Or.inl (hw _ (List.mem_of_getElem? (i := 28) rfl))) Via.refl) ?_
  refine okc_cons (show Good l Z hz shp A O (⟨"org/distinguo/identify/BlockTree", "leafOf", "(I)I"⟩ : MethodName) prog_45_method_11_code 2 (some .int) 4 (sLoad 0 1 5) from g_iloadN d11_4) ?_
  refine okc_cons (show Good l Z hz shp A O (⟨"org/distinguo/identify/BlockTree", "leafOf", "(I)I"⟩ : MethodName) prog_45_method_11_code 2 (some .int) 5 (sSplit 5 (sLdM 1 6)) from g_split (g_ialoadM (sid := 1) d11_5 rfl rfl)) ?_
  refine okc_cons (show RetGood l Z hz shp A O (⟨"org/distinguo/identify/BlockTree", "leafOf", "(I)I"⟩ : MethodName) prog_45_method_11_code 2 (some .int) 6 (rVal .int) from g_ret d11_6 (by decide) (by simp)) ?_
  exact okc_nil
set_option maxRecDepth 65536 in
set_option maxHeartbeats 40000000 in
theorem cok_12 (hw : ∀ d ∈ tables_1, d.before a0 Z = true) (hzZ : hz = Z.heap) (hO0 : O 0 = lamO Z (⟨"org/distinguo/identify/BlockTree", "<init>", "(II)V"⟩ : MethodName) 101 49 sig_0) (hO1 : O 1 = lamO Z (⟨"org/distinguo/identify/BlockTree", "<init>", "(II)V"⟩ : MethodName) 113 59 sig_1) : ∀ el ∈ cd_12, ElOk l Z hz shp A O 40 320 mts mis 12 1 el := by
  unfold cd_12
  refine okc_cons (show Good l Z hz shp A O (⟨"org/distinguo/identify/BlockTree", "nodeCount", "()I"⟩ : MethodName) prog_45_method_3_code 1 (some .int) 0 (sLoad 2 0 1) from g_aloadN d12_0) ?_
  refine okc_cons (show Good l Z hz shp A O (⟨"org/distinguo/identify/BlockTree", "nodeCount", "()I"⟩ : MethodName) prog_45_method_3_code 1 (some .int) 1 (sGetF 0 11 4) from g_getfield (sid := 0) (i := 11) (R0 := "org/distinguo/identify/BlockTree") (host := "") d12_1 rfl rfl (Or.inl (hw _ (List.mem_of_getElem? (i := 58) rfl))) Via.refl) ?_
  refine okc_cons (show RetGood l Z hz shp A O (⟨"org/distinguo/identify/BlockTree", "nodeCount", "()I"⟩ : MethodName) prog_45_method_3_code 1 (some .int) 4 (rVal .int) from g_ret d12_4 (by decide) (by simp)) ?_
  exact okc_nil
set_option maxRecDepth 65536 in
set_option maxHeartbeats 40000000 in
theorem cok_13 (hw : ∀ d ∈ tables_1, d.before a0 Z = true) (hzZ : hz = Z.heap) (hO0 : O 0 = lamO Z (⟨"org/distinguo/identify/BlockTree", "<init>", "(II)V"⟩ : MethodName) 101 49 sig_0) (hO1 : O 1 = lamO Z (⟨"org/distinguo/identify/BlockTree", "<init>", "(II)V"⟩ : MethodName) 113 59 sig_1) : ∀ el ∈ cd_13, ElOk l Z hz shp A O 40 320 mts mis 13 2 el := by
  unfold cd_13
  refine okc_cons (show Good l Z hz shp A O (⟨"org/distinguo/identify/BlockTree", "first", "(I)I"⟩ : MethodName) prog_45_method_7_code 2 (some .int) 0 (sLoad 2 0 1) from g_aloadN d13_0) ?_
  refine okc_cons (show Good l Z hz shp A O (⟨"org/distinguo/identify/BlockTree", "first", "(I)I"⟩ : MethodName) prog_45_method_7_code 2 (some .int) 1 (sGetF 0 3 4) from g_getfield (sid := 0) (i := 3) (R0 := "org/distinguo/identify/BlockTree") (host := "") d13_1 rfl rfl (Or.inl (hw _ (List.mem_of_getElem? (i := 20) rfl))) Via.refl) ?_
  refine okc_cons (show Good l Z hz shp A O (⟨"org/distinguo/identify/BlockTree", "first", "(I)I"⟩ : MethodName) prog_45_method_7_code 2 (some .int) 4 (sLoad 0 1 5) from g_iloadN d13_4) ?_
  refine okc_cons (show Good l Z hz shp A O (⟨"org/distinguo/identify/BlockTree", "first", "(I)I"⟩ : MethodName) prog_45_method_7_code 2 (some .int) 5 (sLdM 1 6) from g_ialoadM (sid := 1) d13_5 rfl rfl) ?_
  refine okc_cons (show RetGood l Z hz shp A O (⟨"org/distinguo/identify/BlockTree", "first", "(I)I"⟩ : MethodName) prog_45_method_7_code 2 (some .int) 6 (rVal .int) from g_ret d13_6 (by decide) (by simp)) ?_
  exact okc_nil
set_option maxRecDepth 65536 in
set_option maxHeartbeats 40000000 in
theorem cok_14 (hw : ∀ d ∈ tables_1, d.before a0 Z = true) (hzZ : hz = Z.heap) (hO0 : O 0 = lamO Z (⟨"org/distinguo/identify/BlockTree", "<init>", "(II)V"⟩ : MethodName) 101 49 sig_0) (hO1 : O 1 = lamO Z (⟨"org/distinguo/identify/BlockTree", "<init>", "(II)V"⟩ : MethodName) 113 59 sig_1) : ∀ el ∈ cd_14, ElOk l Z hz shp A O 40 320 mts mis 14 2 el := by
  unfold cd_14
  refine okc_cons (show Good l Z hz shp A O (⟨"java/lang/Math", "min", "(II)I"⟩ : MethodName) jdk_29_method_69_code 2 (some .int) 0 (sLoad 0 0 1) from g_iloadN d14_0) ?_
  refine okc_cons (show Good l Z hz shp A O (⟨"java/lang/Math", "min", "(II)I"⟩ : MethodName) jdk_29_method_69_code 2 (some .int) 1 (sLoad 0 1 2) from g_iloadN d14_1) ?_
  refine okc_cons (show Good l Z hz shp A O (⟨"java/lang/Math", "min", "(II)I"⟩ : MethodName) jdk_29_method_69_code 2 (some .int) 2 (sIcmp .gt 9 5) from g_icmp d14_2 (by decide) (by decide)) ?_
  refine okc_cons (show Good l Z hz shp A O (⟨"java/lang/Math", "min", "(II)I"⟩ : MethodName) jdk_29_method_69_code 2 (some .int) 5 (sLoad 0 0 6) from g_iloadN d14_5) ?_
  refine okc_cons (show Good l Z hz shp A O (⟨"java/lang/Math", "min", "(II)I"⟩ : MethodName) jdk_29_method_69_code 2 (some .int) 6 (sGoto 10) from g_goto d14_6 (by decide) (by decide)) ?_
  refine okc_cons (show Good l Z hz shp A O (⟨"java/lang/Math", "min", "(II)I"⟩ : MethodName) jdk_29_method_69_code 2 (some .int) 9 (sLoad 0 1 10) from g_iloadN d14_9) ?_
  refine okc_cons (show RetGood l Z hz shp A O (⟨"java/lang/Math", "min", "(II)I"⟩ : MethodName) jdk_29_method_69_code 2 (some .int) 10 (rVal .int) from g_ret d14_10 (by decide) (by simp)) ?_
  exact okc_nil
set_option maxRecDepth 65536 in
set_option maxHeartbeats 40000000 in
theorem cok_15 (hw : ∀ d ∈ tables_1, d.before a0 Z = true) (hzZ : hz = Z.heap) (hO0 : O 0 = lamO Z (⟨"org/distinguo/identify/BlockTree", "<init>", "(II)V"⟩ : MethodName) 101 49 sig_0) (hO1 : O 1 = lamO Z (⟨"org/distinguo/identify/BlockTree", "<init>", "(II)V"⟩ : MethodName) 113 59 sig_1) : ∀ el ∈ cd_15, ElOk l Z hz shp A O 40 320 mts mis 15 2 el := by
  unfold cd_15
  refine okc_cons (show Good l Z hz shp A O (⟨"org/distinguo/identify/BlockTree", "end", "(I)I"⟩ : MethodName) prog_45_method_8_code 2 (some .int) 0 (sLoad 2 0 1) from g_aloadN d15_0) ?_
  refine okc_cons (show Good l Z hz shp A O (⟨"org/distinguo/identify/BlockTree", "end", "(I)I"⟩ : MethodName) prog_45_method_8_code 2 (some .int) 1 (sGetF 0 4 4) from g_getfield (sid := 0) (i := 4) (R0 := "org/distinguo/identify/BlockTree") (host := "") d15_1 rfl rfl (Or.inl (hw _ (List.mem_of_getElem? (i := 22) rfl))) Via.refl) ?_
  refine okc_cons (show Good l Z hz shp A O (⟨"org/distinguo/identify/BlockTree", "end", "(I)I"⟩ : MethodName) prog_45_method_8_code 2 (some .int) 4 (sLoad 0 1 5) from g_iloadN d15_4) ?_
  refine okc_cons (show Good l Z hz shp A O (⟨"org/distinguo/identify/BlockTree", "end", "(I)I"⟩ : MethodName) prog_45_method_8_code 2 (some .int) 5 (sLdM 1 6) from g_ialoadM (sid := 1) d15_5 rfl rfl) ?_
  refine okc_cons (show RetGood l Z hz shp A O (⟨"org/distinguo/identify/BlockTree", "end", "(I)I"⟩ : MethodName) prog_45_method_8_code 2 (some .int) 6 (rVal .int) from g_ret d15_6 (by decide) (by simp)) ?_
  exact okc_nil
set_option maxRecDepth 65536 in
set_option maxHeartbeats 40000000 in
theorem cok_16 (hw : ∀ d ∈ tables_1, d.before a0 Z = true) (hzZ : hz = Z.heap) (hO0 : O 0 = lamO Z (⟨"org/distinguo/identify/BlockTree", "<init>", "(II)V"⟩ : MethodName) 101 49 sig_0) (hO1 : O 1 = lamO Z (⟨"org/distinguo/identify/BlockTree", "<init>", "(II)V"⟩ : MethodName) 113 59 sig_1) : ∀ el ∈ cd_16, ElOk l Z hz shp A O 40 320 mts mis 16 2 el := by
  unfold cd_16
  refine okc_cons (show Good l Z hz shp A O (⟨"org/distinguo/identify/BlockTree", "stateAt", "(I)I"⟩ : MethodName) prog_45_method_9_code 2 (some .int) 0 (sLoad 2 0 1) from g_aloadN d16_0) ?_
  refine okc_cons (show Good l Z hz shp A O (⟨"org/distinguo/identify/BlockTree", "stateAt", "(I)I"⟩ : MethodName) prog_45_method_9_code 2 (some .int) 1 (sGetF 0 5 4) from g_getfield (sid := 0) (i := 5) (R0 := "org/distinguo/identify/BlockTree") (host := "") d16_1 rfl rfl (Or.inl (hw _ (List.mem_of_getElem? (i := 24) rfl))) Via.refl) ?_
  refine okc_cons (show Good l Z hz shp A O (⟨"org/distinguo/identify/BlockTree", "stateAt", "(I)I"⟩ : MethodName) prog_45_method_9_code 2 (some .int) 4 (sLoad 0 1 5) from g_iloadN d16_4) ?_
  refine okc_cons (show Good l Z hz shp A O (⟨"org/distinguo/identify/BlockTree", "stateAt", "(I)I"⟩ : MethodName) prog_45_method_9_code 2 (some .int) 5 (sLdM 1 6) from g_ialoadM (sid := 1) d16_5 rfl rfl) ?_
  refine okc_cons (show RetGood l Z hz shp A O (⟨"org/distinguo/identify/BlockTree", "stateAt", "(I)I"⟩ : MethodName) prog_45_method_9_code 2 (some .int) 6 (rVal .int) from g_ret d16_6 (by decide) (by simp)) ?_
  exact okc_nil
set_option maxRecDepth 65536 in
set_option maxHeartbeats 40000000 in
theorem cok_17 (hw : ∀ d ∈ tables_1, d.before a0 Z = true) (hzZ : hz = Z.heap) (hO0 : O 0 = lamO Z (⟨"org/distinguo/identify/BlockTree", "<init>", "(II)V"⟩ : MethodName) 101 49 sig_0) (hO1 : O 1 = lamO Z (⟨"org/distinguo/identify/BlockTree", "<init>", "(II)V"⟩ : MethodName) 113 59 sig_1) : ∀ el ∈ cd_17, ElOk l Z hz shp A O 40 320 mts mis 17 6 el := by
  unfold cd_17
  refine okc_cons (show Good l Z hz shp A O (⟨"org/distinguo/identify/BlockTree", "deepestHolding", "([II)I"⟩ : MethodName) prog_45_method_13_code 6 (some .int) 0 (sLoad 2 0 1) from g_aloadN d17_0) ?_
  refine okc_cons (show Good l Z hz shp A O (⟨"org/distinguo/identify/BlockTree", "deepestHolding", "([II)I"⟩ : MethodName) prog_45_method_13_code 6 (some .int) 1 (sGetF 0 6 4) from g_getfield (sid := 0) (i := 6) (R0 := "org/distinguo/identify/BlockTree") (host := "") d17_1 rfl rfl (Or.inl (hw _ (List.mem_of_getElem? (i := 26) rfl))) Via.refl) ?_
  refine okc_cons (show Good l Z hz shp A O (⟨"org/distinguo/identify/BlockTree", "deepestHolding", "([II)I"⟩ : MethodName) prog_45_method_13_code 6 (some .int) 4 (sLoad 2 1 5) from g_aloadN d17_4) ?_
  refine okc_cons (show Good l Z hz shp A O (⟨"org/distinguo/identify/BlockTree", "deepestHolding", "([II)I"⟩ : MethodName) prog_45_method_13_code 6 (some .int) 5 (sPush (0, .int 0) 6) from g_iconst d17_5 rfl) ?_
  refine okc_cons (show Good l Z hz shp A O (⟨"org/distinguo/identify/BlockTree", "deepestHolding", "([II)I"⟩ : MethodName) prog_45_method_13_code 6 (some .int) 6 (sLdM 1 7) from g_ialoadM (sid := 1) d17_6 rfl rfl) ?_
  refine okc_cons (show Good l Z hz shp A O (⟨"org/distinguo/identify/BlockTree", "deepestHolding", "([II)I"⟩ : MethodName) prog_45_method_13_code 6 (some .int) 7 (sLdM 1 8) from g_ialoadM (sid := 1) d17_7 rfl rfl) ?_
  refine okc_cons (show Good l Z hz shp A O (⟨"org/distinguo/identify/BlockTree", "deepestHolding", "([II)I"⟩ : MethodName) prog_45_method_13_code 6 (some .int) 8 (sStore 0 3 9) from g_istoreN d17_8) ?_
  refine okc_cons (show Good l Z hz shp A O (⟨"org/distinguo/identify/BlockTree", "deepestHolding", "([II)I"⟩ : MethodName) prog_45_method_13_code 6 (some .int) 9 (sLoad 0 3 10) from g_iloadN d17_9) ?_
  refine okc_cons (show Good l Z hz shp A O (⟨"org/distinguo/identify/BlockTree", "deepestHolding", "([II)I"⟩ : MethodName) prog_45_method_13_code 6 (some .int) 10 (sStore 0 4 12) from g_istore d17_10) ?_
  refine okc_cons (show Good l Z hz shp A O (⟨"org/distinguo/identify/BlockTree", "deepestHolding", "([II)I"⟩ : MethodName) prog_45_method_13_code 6 (some .int) 12 (sPush (0, .int 1) 13) from g_iconst d17_12 rfl) ?_
  refine okc_cons (show Good l Z hz shp A O (⟨"org/distinguo/identify/BlockTree", "deepestHolding", "([II)I"⟩ : MethodName) prog_45_method_13_code 6 (some .int) 13 (sStore 0 5 15) from g_istore d17_13) ?_
  refine okc_cons (show Good l Z hz shp A O (⟨"org/distinguo/identify/BlockTree", "deepestHolding", "([II)I"⟩ : MethodName) prog_45_method_13_code 6 (some .int) 15 (sLoad 0 5 17) from g_iload d17_15) ?_
  refine okc_cons (show Good l Z hz shp A O (⟨"org/distinguo/identify/BlockTree", "deepestHolding", "([II)I"⟩ : MethodName) prog_45_method_13_code 6 (some .int) 17 (sLoad 0 2 18) from g_iloadN d17_17) ?_
  refine okc_cons (show Good l Z hz shp A O (⟨"org/distinguo/identify/BlockTree", "deepestHolding", "([II)I"⟩ : MethodName) prog_45_method_13_code 6 (some .int) 18 (sIcmp .ge 57 21) from g_icmp d17_18 (by decide) (by decide)) ?_
  refine okc_cons (show Good l Z hz shp A O (⟨"org/distinguo/identify/BlockTree", "deepestHolding", "([II)I"⟩ : MethodName) prog_45_method_13_code 6 (some .int) 21 (sLoad 0 3 22) from g_iloadN d17_21) ?_
  refine okc_cons (show Good l Z hz shp A O (⟨"org/distinguo/identify/BlockTree", "deepestHolding", "([II)I"⟩ : MethodName) prog_45_method_13_code 6 (some .int) 22 (sLoad 2 0 23) from g_aloadN d17_22) ?_
  refine okc_cons (show Good l Z hz shp A O (⟨"org/distinguo/identify/BlockTree", "deepestHolding", "([II)I"⟩ : MethodName) prog_45_method_13_code 6 (some .int) 23 (sGetF 0 6 26) from g_getfield (sid := 0) (i := 6) (R0 := "org/distinguo/identify/BlockTree") (host := "") d17_23 rfl rfl (Or.inl (hw _ (List.mem_of_getElem? (i := 26) rfl))) Via.refl) ?_
  refine okc_cons (show Good l Z hz shp A O (⟨"org/distinguo/identify/BlockTree", "deepestHolding", "([II)I"⟩ : MethodName) prog_45_method_13_code 6 (some .int) 26 (sLoad 2 1 27) from g_aloadN d17_26) ?_
  refine okc_cons (show Good l Z hz shp A O (⟨"org/distinguo/identify/BlockTree", "deepestHolding", "([II)I"⟩ : MethodName) prog_45_method_13_code 6 (some .int) 27 (sLoad 0 5 29) from g_iload d17_27) ?_
  refine okc_cons (show Good l Z hz shp A O (⟨"org/distinguo/identify/BlockTree", "deepestHolding", "([II)I"⟩ : MethodName) prog_45_method_13_code 6 (some .int) 29 (sLdM 1 30) from g_ialoadM (sid := 1) d17_29 rfl rfl) ?_
  refine okc_cons (show Good l Z hz shp A O (⟨"org/distinguo/identify/BlockTree", "deepestHolding", "([II)I"⟩ : MethodName) prog_45_method_13_code 6 (some .int) 30 (sLdM 1 31) from g_ialoadM (sid := 1) d17_30 rfl rfl) ?_
  refine okc_cons (fun m hm => by
    obtain rfl : m = (2, cd_14) := (Option.some.inj hm).symm
    exact (show CallGood l Z hz shp A O (⟨"org/distinguo/identify/BlockTree", "deepestHolding", "([II)I"⟩ : MethodName) prog_45_method_13_code 6 (some .int) (⟨"java/lang/Math", "min", "(II)I"⟩ : MethodName) jdk_29_method_69_code 2 (some .int) 31 2 34 (ckAny) from c_static (a0 := a0) (hd := d17_31) (hpl := pl_14) (hdesc := pd_14) (hna := rfl) (hy := by decide) (w1 := (hw _ (List.mem_of_getElem? (i := 108) rfl))) (w2 := (hw _ (List.mem_of_getElem? (i := 90) rfl))) (w3 := (hw _ (List.mem_of_getElem? (i := 11) rfl))) (w4 := (hw _ (List.mem_of_getElem? (i := 91) rfl))))) ?_
  refine okc_cons (show Good l Z hz shp A O (⟨"org/distinguo/identify/BlockTree", "deepestHolding", "([II)I"⟩ : MethodName) prog_45_method_13_code 6 (some .int) 34 (sStore 0 3 35) from g_istoreN d17_34) ?_
  refine okc_cons (show Good l Z hz shp A O (⟨"org/distinguo/identify/BlockTree", "deepestHolding", "([II)I"⟩ : MethodName) prog_45_method_13_code 6 (some .int) 35 (sLoad 0 4 37) from g_iload d17_35) ?_
  refine okc_cons (show Good l Z hz shp A O (⟨"org/distinguo/identify/BlockTree", "deepestHolding", "([II)I"⟩ : MethodName) prog_45_method_13_code 6 (some .int) 37 (sLoad 2 0 38) from g_aloadN d17_37) ?_
  refine okc_cons (show Good l Z hz shp A O (⟨"org/distinguo/identify/BlockTree", "deepestHolding", "([II)I"⟩ : MethodName) prog_45_method_13_code 6 (some .int) 38 (sGetF 0 6 41) from g_getfield (sid := 0) (i := 6) (R0 := "org/distinguo/identify/BlockTree") (host := "") d17_38 rfl rfl (Or.inl (hw _ (List.mem_of_getElem? (i := 26) rfl))) Via.refl) ?_
  refine okc_cons (show Good l Z hz shp A O (⟨"org/distinguo/identify/BlockTree", "deepestHolding", "([II)I"⟩ : MethodName) prog_45_method_13_code 6 (some .int) 41 (sLoad 2 1 42) from g_aloadN d17_41) ?_
  refine okc_cons (show Good l Z hz shp A O (⟨"org/distinguo/identify/BlockTree", "deepestHolding", "([II)I"⟩ : MethodName) prog_45_method_13_code 6 (some .int) 42 (sLoad 0 5 44) from g_iload d17_42) ?_
  refine okc_cons (show Good l Z hz shp A O (⟨"org/distinguo/identify/BlockTree", "deepestHolding", "([II)I"⟩ : MethodName) prog_45_method_13_code 6 (some .int) 44 (sLdM 1 45) from g_ialoadM (sid := 1) d17_44 rfl rfl) ?_
  refine okc_cons (show Good l Z hz shp A O (⟨"org/distinguo/identify/BlockTree", "deepestHolding", "([II)I"⟩ : MethodName) prog_45_method_13_code 6 (some .int) 45 (sLdM 1 46) from g_ialoadM (sid := 1) d17_45 rfl rfl) ?_
  refine okc_cons (fun m hm => by
    obtain rfl : m = (2, cd_3) := (Option.some.inj hm).symm
    exact (show CallGood l Z hz shp A O (⟨"org/distinguo/identify/BlockTree", "deepestHolding", "([II)I"⟩ : MethodName) prog_45_method_13_code 6 (some .int) (⟨"java/lang/Math", "max", "(II)I"⟩ : MethodName) jdk_29_method_65_code 2 (some .int) 46 2 49 (ckAny) from c_static (a0 := a0) (hd := d17_46) (hpl := pl_3) (hdesc := pd_3) (hna := rfl) (hy := by decide) (w1 := (hw _ (List.mem_of_getElem? (i := 9) rfl))) (w2 := (hw _ (List.mem_of_getElem? (i := 10) rfl))) (w3 := (hw _ (List.mem_of_getElem? (i := 11) rfl))) (w4 := (hw _ (List.mem_of_getElem? (i := 12) rfl))))) ?_
  refine okc_cons (show Good l Z hz shp A O (⟨"org/distinguo/identify/BlockTree", "deepestHolding", "([II)I"⟩ : MethodName) prog_45_method_13_code 6 (some .int) 49 (sStore 0 4 51) from g_istore d17_49) ?_
  refine okc_cons (show Good l Z hz shp A O (⟨"org/distinguo/identify/BlockTree", "deepestHolding", "([II)I"⟩ : MethodName) prog_45_method_13_code 6 (some .int) 51 (sIinc 5 1 54) from g_iinc d17_51 rfl) ?_
  refine okc_cons (show Good l Z hz shp A O (⟨"org/distinguo/identify/BlockTree", "deepestHolding", "([II)I"⟩ : MethodName) prog_45_method_13_code 6 (some .int) 54 (sGoto 15) from g_goto d17_54 (by decide) (by decide)) ?_
  refine okc_cons (show Good l Z hz shp A O (⟨"org/distinguo/identify/BlockTree", "deepestHolding", "([II)I"⟩ : MethodName) prog_45_method_13_code 6 (some .int) 57 (sLoad 2 0 58) from g_aloadN d17_57) ?_
  refine okc_cons (show Good l Z hz shp A O (⟨"org/distinguo/identify/BlockTree", "deepestHolding", "([II)I"⟩ : MethodName) prog_45_method_13_code 6 (some .int) 58 (sGetF 0 7 61) from g_getfield (sid := 0) (i := 7) (R0 := "org/distinguo/identify/BlockTree") (host := "") d17_58 rfl rfl (Or.inl (hw _ (List.mem_of_getElem? (i := 28) rfl))) Via.refl) ?_
  refine okc_cons (show Good l Z hz shp A O (⟨"org/distinguo/identify/BlockTree", "deepestHolding", "([II)I"⟩ : MethodName) prog_45_method_13_code 6 (some .int) 61 (sLoad 2 0 62) from g_aloadN d17_61) ?_
  refine okc_cons (show Good l Z hz shp A O (⟨"org/distinguo/identify/BlockTree", "deepestHolding", "([II)I"⟩ : MethodName) prog_45_method_13_code 6 (some .int) 62 (sGetF 0 5 65) from g_getfield (sid := 0) (i := 5) (R0 := "org/distinguo/identify/BlockTree") (host := "") d17_62 rfl rfl (Or.inl (hw _ (List.mem_of_getElem? (i := 24) rfl))) Via.refl) ?_
  refine okc_cons (show Good l Z hz shp A O (⟨"org/distinguo/identify/BlockTree", "deepestHolding", "([II)I"⟩ : MethodName) prog_45_method_13_code 6 (some .int) 65 (sLoad 0 3 66) from g_iloadN d17_65) ?_
  refine okc_cons (show Good l Z hz shp A O (⟨"org/distinguo/identify/BlockTree", "deepestHolding", "([II)I"⟩ : MethodName) prog_45_method_13_code 6 (some .int) 66 (sLdM 1 67) from g_ialoadM (sid := 1) d17_66 rfl rfl) ?_
  refine okc_cons (show Good l Z hz shp A O (⟨"org/distinguo/identify/BlockTree", "deepestHolding", "([II)I"⟩ : MethodName) prog_45_method_13_code 6 (some .int) 67 (sLdM 1 68) from g_ialoadM (sid := 1) d17_67 rfl rfl) ?_
  refine okc_cons (show Good l Z hz shp A O (⟨"org/distinguo/identify/BlockTree", "deepestHolding", "([II)I"⟩ : MethodName) prog_45_method_13_code 6 (some .int) 68 (sStore 0 5 70) from g_istore d17_68) ?_
  refine okc_cons (show Good l Z hz shp A O (⟨"org/distinguo/identify/BlockTree", "deepestHolding", "([II)I"⟩ : MethodName) prog_45_method_13_code 6 (some .int) 70 (sLoad 2 0 71) from g_aloadN d17_70) ?_
  refine okc_cons (show Good l Z hz shp A O (⟨"org/distinguo/identify/BlockTree", "deepestHolding", "([II)I"⟩ : MethodName) prog_45_method_13_code 6 (some .int) 71 (sGetF 0 4 74) from g_getfield (sid := 0) (i := 4) (R0 := "org/distinguo/identify/BlockTree") (host := "") d17_71 rfl rfl (Or.inl (hw _ (List.mem_of_getElem? (i := 22) rfl))) Via.refl) ?_
  refine okc_cons (show Good l Z hz shp A O (⟨"org/distinguo/identify/BlockTree", "deepestHolding", "([II)I"⟩ : MethodName) prog_45_method_13_code 6 (some .int) 74 (sLoad 0 5 76) from g_iload d17_74) ?_
  refine okc_cons (show Good l Z hz shp A O (⟨"org/distinguo/identify/BlockTree", "deepestHolding", "([II)I"⟩ : MethodName) prog_45_method_13_code 6 (some .int) 76 (sLdM 1 77) from g_ialoadM (sid := 1) d17_76 rfl rfl) ?_
  refine okc_cons (show Good l Z hz shp A O (⟨"org/distinguo/identify/BlockTree", "deepestHolding", "([II)I"⟩ : MethodName) prog_45_method_13_code 6 (some .int) 77 (sLoad 0 4 79) from g_iload d17_77) ?_
  refine okc_cons (show Good l Z hz shp A O (⟨"org/distinguo/identify/BlockTree", "deepestHolding", "([II)I"⟩ : MethodName) prog_45_method_13_code 6 (some .int) 79 (sIcmp .gt 94 82) from g_icmp d17_79 (by decide) (by decide)) ?_
  refine okc_cons (show Good l Z hz shp A O (⟨"org/distinguo/identify/BlockTree", "deepestHolding", "([II)I"⟩ : MethodName) prog_45_method_13_code 6 (some .int) 82 (sLoad 2 0 83) from g_aloadN d17_82) ?_
  refine okc_cons (show Good l Z hz shp A O (⟨"org/distinguo/identify/BlockTree", "deepestHolding", "([II)I"⟩ : MethodName) prog_45_method_13_code 6 (some .int) 83 (sGetF 0 0 86) from g_getfield (sid := 0) (i := 0) (R0 := "org/distinguo/identify/BlockTree") (host := "") d17_83 rfl rfl (Or.inl (hw _ (List.mem_of_getElem? (i := 14) rfl))) Via.refl) ?_
  refine okc_cons (show Good l Z hz shp A O (⟨"org/distinguo/identify/BlockTree", "deepestHolding", "([II)I"⟩ : MethodName) prog_45_method_13_code 6 (some .int) 86 (sLoad 0 5 88) from g_iload d17_86) ?_
  refine okc_cons (show Good l Z hz shp A O (⟨"org/distinguo/identify/BlockTree", "deepestHolding", "([II)I"⟩ : MethodName) prog_45_method_13_code 6 (some .int) 88 (sLdM 1 89) from g_ialoadM (sid := 1) d17_88 rfl rfl) ?_
  refine okc_cons (show Good l Z hz shp A O (⟨"org/distinguo/identify/BlockTree", "deepestHolding", "([II)I"⟩ : MethodName) prog_45_method_13_code 6 (some .int) 89 (sStore 0 5 91) from g_istore d17_89) ?_
  refine okc_cons (show Good l Z hz shp A O (⟨"org/distinguo/identify/BlockTree", "deepestHolding", "([II)I"⟩ : MethodName) prog_45_method_13_code 6 (some .int) 91 (sGoto 70) from g_goto d17_91 (by decide) (by decide)) ?_
  refine okc_cons (show Good l Z hz shp A O (⟨"org/distinguo/identify/BlockTree", "deepestHolding", "([II)I"⟩ : MethodName) prog_45_method_13_code 6 (some .int) 94 (sLoad 0 5 96) from g_iload d17_94) ?_
  refine okc_cons (show RetGood l Z hz shp A O (⟨"org/distinguo/identify/BlockTree", "deepestHolding", "([II)I"⟩ : MethodName) prog_45_method_13_code 6 (some .int) 96 (rVal .int) from g_ret d17_96 (by decide) (by simp)) ?_
  exact okc_nil
set_option maxRecDepth 65536 in
set_option maxHeartbeats 40000000 in
theorem cok_18 (hw : ∀ d ∈ tables_1, d.before a0 Z = true) (hzZ : hz = Z.heap) (hO0 : O 0 = lamO Z (⟨"org/distinguo/identify/BlockTree", "<init>", "(II)V"⟩ : MethodName) 101 49 sig_0) (hO1 : O 1 = lamO Z (⟨"org/distinguo/identify/BlockTree", "<init>", "(II)V"⟩ : MethodName) 113 59 sig_1) : ∀ el ∈ cd_18, ElOk l Z hz shp A O 40 320 mts mis 18 5 el := by
  unfold cd_18
  refine okc_cons (show Good l Z hz shp A O (⟨"org/distinguo/identify/BlockTree", "commonAncestor", "(II)I"⟩ : MethodName) prog_45_method_12_code 5 (some .int) 0 (sLoad 0 1 1) from g_iloadN d18_0) ?_
  refine okc_cons (show Good l Z hz shp A O (⟨"org/distinguo/identify/BlockTree", "commonAncestor", "(II)I"⟩ : MethodName) prog_45_method_12_code 5 (some .int) 1 (sStore 0 3 2) from g_istoreN d18_1) ?_
  refine okc_cons (show Good l Z hz shp A O (⟨"org/distinguo/identify/BlockTree", "commonAncestor", "(II)I"⟩ : MethodName) prog_45_method_12_code 5 (some .int) 2 (sLoad 0 2 3) from g_iloadN d18_2) ?_
  refine okc_cons (show Good l Z hz shp A O (⟨"org/distinguo/identify/BlockTree", "commonAncestor", "(II)I"⟩ : MethodName) prog_45_method_12_code 5 (some .int) 3 (sStore 0 4 5) from g_istore d18_3) ?_
  refine okc_cons (show Good l Z hz shp A O (⟨"org/distinguo/identify/BlockTree", "commonAncestor", "(II)I"⟩ : MethodName) prog_45_method_12_code 5 (some .int) 5 (sLoad 2 0 6) from g_aloadN d18_5) ?_
  refine okc_cons (show Good l Z hz shp A O (⟨"org/distinguo/identify/BlockTree", "commonAncestor", "(II)I"⟩ : MethodName) prog_45_method_12_code 5 (some .int) 6 (sGetF 0 1 9) from g_getfield (sid := 0) (i := 1) (R0 := "org/distinguo/identify/BlockTree") (host := "") d18_6 rfl rfl (Or.inl (hw _ (List.mem_of_getElem? (i := 16) rfl))) Via.refl) ?_
  refine okc_cons (show Good l Z hz shp A O (⟨"org/distinguo/identify/BlockTree", "commonAncestor", "(II)I"⟩ : MethodName) prog_45_method_12_code 5 (some .int) 9 (sLoad 0 3 10) from g_iloadN d18_9) ?_
  refine okc_cons (show Good l Z hz shp A O (⟨"org/distinguo/identify/BlockTree", "commonAncestor", "(II)I"⟩ : MethodName) prog_45_method_12_code 5 (some .int) 10 (sLdM 1 11) from g_ialoadM (sid := 1) d18_10 rfl rfl) ?_
  refine okc_cons (show Good l Z hz shp A O (⟨"org/distinguo/identify/BlockTree", "commonAncestor", "(II)I"⟩ : MethodName) prog_45_method_12_code 5 (some .int) 11 (sLoad 2 0 12) from g_aloadN d18_11) ?_
  refine okc_cons (show Good l Z hz shp A O (⟨"org/distinguo/identify/BlockTree", "commonAncestor", "(II)I"⟩ : MethodName) prog_45_method_12_code 5 (some .int) 12 (sGetF 0 1 15) from g_getfield (sid := 0) (i := 1) (R0 := "org/distinguo/identify/BlockTree") (host := "") d18_12 rfl rfl (Or.inl (hw _ (List.mem_of_getElem? (i := 16) rfl))) Via.refl) ?_
  refine okc_cons (show Good l Z hz shp A O (⟨"org/distinguo/identify/BlockTree", "commonAncestor", "(II)I"⟩ : MethodName) prog_45_method_12_code 5 (some .int) 15 (sLoad 0 4 17) from g_iload d18_15) ?_
  refine okc_cons (show Good l Z hz shp A O (⟨"org/distinguo/identify/BlockTree", "commonAncestor", "(II)I"⟩ : MethodName) prog_45_method_12_code 5 (some .int) 17 (sLdM 1 18) from g_ialoadM (sid := 1) d18_17 rfl rfl) ?_
  refine okc_cons (show Good l Z hz shp A O (⟨"org/distinguo/identify/BlockTree", "commonAncestor", "(II)I"⟩ : MethodName) prog_45_method_12_code 5 (some .int) 18 (sIcmp .le 31 21) from g_icmp d18_18 (by decide) (by decide)) ?_
  refine okc_cons (show Good l Z hz shp A O (⟨"org/distinguo/identify/BlockTree", "commonAncestor", "(II)I"⟩ : MethodName) prog_45_method_12_code 5 (some .int) 21 (sLoad 2 0 22) from g_aloadN d18_21) ?_
  refine okc_cons (show Good l Z hz shp A O (⟨"org/distinguo/identify/BlockTree", "commonAncestor", "(II)I"⟩ : MethodName) prog_45_method_12_code 5 (some .int) 22 (sGetF 0 0 25) from g_getfield (sid := 0) (i := 0) (R0 := "org/distinguo/identify/BlockTree") (host := "") d18_22 rfl rfl (Or.inl (hw _ (List.mem_of_getElem? (i := 14) rfl))) Via.refl) ?_
  refine okc_cons (show Good l Z hz shp A O (⟨"org/distinguo/identify/BlockTree", "commonAncestor", "(II)I"⟩ : MethodName) prog_45_method_12_code 5 (some .int) 25 (sLoad 0 3 26) from g_iloadN d18_25) ?_
  refine okc_cons (show Good l Z hz shp A O (⟨"org/distinguo/identify/BlockTree", "commonAncestor", "(II)I"⟩ : MethodName) prog_45_method_12_code 5 (some .int) 26 (sLdM 1 27) from g_ialoadM (sid := 1) d18_26 rfl rfl) ?_
  refine okc_cons (show Good l Z hz shp A O (⟨"org/distinguo/identify/BlockTree", "commonAncestor", "(II)I"⟩ : MethodName) prog_45_method_12_code 5 (some .int) 27 (sStore 0 3 28) from g_istoreN d18_27) ?_
  refine okc_cons (show Good l Z hz shp A O (⟨"org/distinguo/identify/BlockTree", "commonAncestor", "(II)I"⟩ : MethodName) prog_45_method_12_code 5 (some .int) 28 (sGoto 5) from g_goto d18_28 (by decide) (by decide)) ?_
  refine okc_cons (show Good l Z hz shp A O (⟨"org/distinguo/identify/BlockTree", "commonAncestor", "(II)I"⟩ : MethodName) prog_45_method_12_code 5 (some .int) 31 (sLoad 2 0 32) from g_aloadN d18_31) ?_
  refine okc_cons (show Good l Z hz shp A O (⟨"org/distinguo/identify/BlockTree", "commonAncestor", "(II)I"⟩ : MethodName) prog_45_method_12_code 5 (some .int) 32 (sGetF 0 1 35) from g_getfield (sid := 0) (i := 1) (R0 := "org/distinguo/identify/BlockTree") (host := "") d18_32 rfl rfl (Or.inl (hw _ (List.mem_of_getElem? (i := 16) rfl))) Via.refl) ?_
  refine okc_cons (show Good l Z hz shp A O (⟨"org/distinguo/identify/BlockTree", "commonAncestor", "(II)I"⟩ : MethodName) prog_45_method_12_code 5 (some .int) 35 (sLoad 0 4 37) from g_iload d18_35) ?_
  refine okc_cons (show Good l Z hz shp A O (⟨"org/distinguo/identify/BlockTree", "commonAncestor", "(II)I"⟩ : MethodName) prog_45_method_12_code 5 (some .int) 37 (sLdM 1 38) from g_ialoadM (sid := 1) d18_37 rfl rfl) ?_
  refine okc_cons (show Good l Z hz shp A O (⟨"org/distinguo/identify/BlockTree", "commonAncestor", "(II)I"⟩ : MethodName) prog_45_method_12_code 5 (some .int) 38 (sLoad 2 0 39) from g_aloadN d18_38) ?_
  refine okc_cons (show Good l Z hz shp A O (⟨"org/distinguo/identify/BlockTree", "commonAncestor", "(II)I"⟩ : MethodName) prog_45_method_12_code 5 (some .int) 39 (sGetF 0 1 42) from g_getfield (sid := 0) (i := 1) (R0 := "org/distinguo/identify/BlockTree") (host := "") d18_39 rfl rfl (Or.inl (hw _ (List.mem_of_getElem? (i := 16) rfl))) Via.refl) ?_
  refine okc_cons (show Good l Z hz shp A O (⟨"org/distinguo/identify/BlockTree", "commonAncestor", "(II)I"⟩ : MethodName) prog_45_method_12_code 5 (some .int) 42 (sLoad 0 3 43) from g_iloadN d18_42) ?_
  refine okc_cons (show Good l Z hz shp A O (⟨"org/distinguo/identify/BlockTree", "commonAncestor", "(II)I"⟩ : MethodName) prog_45_method_12_code 5 (some .int) 43 (sLdM 1 44) from g_ialoadM (sid := 1) d18_43 rfl rfl) ?_
  refine okc_cons (show Good l Z hz shp A O (⟨"org/distinguo/identify/BlockTree", "commonAncestor", "(II)I"⟩ : MethodName) prog_45_method_12_code 5 (some .int) 44 (sIcmp .le 59 47) from g_icmp d18_44 (by decide) (by decide)) ?_
  refine okc_cons (show Good l Z hz shp A O (⟨"org/distinguo/identify/BlockTree", "commonAncestor", "(II)I"⟩ : MethodName) prog_45_method_12_code 5 (some .int) 47 (sLoad 2 0 48) from g_aloadN d18_47) ?_
  refine okc_cons (show Good l Z hz shp A O (⟨"org/distinguo/identify/BlockTree", "commonAncestor", "(II)I"⟩ : MethodName) prog_45_method_12_code 5 (some .int) 48 (sGetF 0 0 51) from g_getfield (sid := 0) (i := 0) (R0 := "org/distinguo/identify/BlockTree") (host := "") d18_48 rfl rfl (Or.inl (hw _ (List.mem_of_getElem? (i := 14) rfl))) Via.refl) ?_
  refine okc_cons (show Good l Z hz shp A O (⟨"org/distinguo/identify/BlockTree", "commonAncestor", "(II)I"⟩ : MethodName) prog_45_method_12_code 5 (some .int) 51 (sLoad 0 4 53) from g_iload d18_51) ?_
  refine okc_cons (show Good l Z hz shp A O (⟨"org/distinguo/identify/BlockTree", "commonAncestor", "(II)I"⟩ : MethodName) prog_45_method_12_code 5 (some .int) 53 (sLdM 1 54) from g_ialoadM (sid := 1) d18_53 rfl rfl) ?_
  refine okc_cons (show Good l Z hz shp A O (⟨"org/distinguo/identify/BlockTree", "commonAncestor", "(II)I"⟩ : MethodName) prog_45_method_12_code 5 (some .int) 54 (sStore 0 4 56) from g_istore d18_54) ?_
  refine okc_cons (show Good l Z hz shp A O (⟨"org/distinguo/identify/BlockTree", "commonAncestor", "(II)I"⟩ : MethodName) prog_45_method_12_code 5 (some .int) 56 (sGoto 31) from g_goto d18_56 (by decide) (by decide)) ?_
  refine okc_cons (show Good l Z hz shp A O (⟨"org/distinguo/identify/BlockTree", "commonAncestor", "(II)I"⟩ : MethodName) prog_45_method_12_code 5 (some .int) 59 (sLoad 0 3 60) from g_iloadN d18_59) ?_
  refine okc_cons (show Good l Z hz shp A O (⟨"org/distinguo/identify/BlockTree", "commonAncestor", "(II)I"⟩ : MethodName) prog_45_method_12_code 5 (some .int) 60 (sLoad 0 4 62) from g_iload d18_60) ?_
  refine okc_cons (show Good l Z hz shp A O (⟨"org/distinguo/identify/BlockTree", "commonAncestor", "(II)I"⟩ : MethodName) prog_45_method_12_code 5 (some .int) 62 (sIcmp .eq 84 65) from g_icmp d18_62 (by decide) (by decide)) ?_
  refine okc_cons (show Good l Z hz shp A O (⟨"org/distinguo/identify/BlockTree", "commonAncestor", "(II)I"⟩ : MethodName) prog_45_method_12_code 5 (some .int) 65 (sLoad 2 0 66) from g_aloadN d18_65) ?_
  refine okc_cons (show Good l Z hz shp A O (⟨"org/distinguo/identify/BlockTree", "commonAncestor", "(II)I"⟩ : MethodName) prog_45_method_12_code 5 (some .int) 66 (sGetF 0 0 69) from g_getfield (sid := 0) (i := 0) (R0 := "org/distinguo/identify/BlockTree") (host := "") d18_66 rfl rfl (Or.inl (hw _ (List.mem_of_getElem? (i := 14) rfl))) Via.refl) ?_
  refine okc_cons (show Good l Z hz shp A O (⟨"org/distinguo/identify/BlockTree", "commonAncestor", "(II)I"⟩ : MethodName) prog_45_method_12_code 5 (some .int) 69 (sLoad 0 3 70) from g_iloadN d18_69) ?_
  refine okc_cons (show Good l Z hz shp A O (⟨"org/distinguo/identify/BlockTree", "commonAncestor", "(II)I"⟩ : MethodName) prog_45_method_12_code 5 (some .int) 70 (sLdM 1 71) from g_ialoadM (sid := 1) d18_70 rfl rfl) ?_
  refine okc_cons (show Good l Z hz shp A O (⟨"org/distinguo/identify/BlockTree", "commonAncestor", "(II)I"⟩ : MethodName) prog_45_method_12_code 5 (some .int) 71 (sStore 0 3 72) from g_istoreN d18_71) ?_
  refine okc_cons (show Good l Z hz shp A O (⟨"org/distinguo/identify/BlockTree", "commonAncestor", "(II)I"⟩ : MethodName) prog_45_method_12_code 5 (some .int) 72 (sLoad 2 0 73) from g_aloadN d18_72) ?_
  refine okc_cons (show Good l Z hz shp A O (⟨"org/distinguo/identify/BlockTree", "commonAncestor", "(II)I"⟩ : MethodName) prog_45_method_12_code 5 (some .int) 73 (sGetF 0 0 76) from g_getfield (sid := 0) (i := 0) (R0 := "org/distinguo/identify/BlockTree") (host := "") d18_73 rfl rfl (Or.inl (hw _ (List.mem_of_getElem? (i := 14) rfl))) Via.refl) ?_
  refine okc_cons (show Good l Z hz shp A O (⟨"org/distinguo/identify/BlockTree", "commonAncestor", "(II)I"⟩ : MethodName) prog_45_method_12_code 5 (some .int) 76 (sLoad 0 4 78) from g_iload d18_76) ?_
  refine okc_cons (show Good l Z hz shp A O (⟨"org/distinguo/identify/BlockTree", "commonAncestor", "(II)I"⟩ : MethodName) prog_45_method_12_code 5 (some .int) 78 (sLdM 1 79) from g_ialoadM (sid := 1) d18_78 rfl rfl) ?_
  refine okc_cons (show Good l Z hz shp A O (⟨"org/distinguo/identify/BlockTree", "commonAncestor", "(II)I"⟩ : MethodName) prog_45_method_12_code 5 (some .int) 79 (sStore 0 4 81) from g_istore d18_79) ?_
  refine okc_cons (show Good l Z hz shp A O (⟨"org/distinguo/identify/BlockTree", "commonAncestor", "(II)I"⟩ : MethodName) prog_45_method_12_code 5 (some .int) 81 (sGoto 59) from g_goto d18_81 (by decide) (by decide)) ?_
  refine okc_cons (show Good l Z hz shp A O (⟨"org/distinguo/identify/BlockTree", "commonAncestor", "(II)I"⟩ : MethodName) prog_45_method_12_code 5 (some .int) 84 (sLoad 0 3 85) from g_iloadN d18_84) ?_
  refine okc_cons (show RetGood l Z hz shp A O (⟨"org/distinguo/identify/BlockTree", "commonAncestor", "(II)I"⟩ : MethodName) prog_45_method_12_code 5 (some .int) 85 (rVal .int) from g_ret d18_85 (by decide) (by simp)) ?_
  exact okc_nil
theorem mok (hw : ∀ d ∈ tables_1, d.before a0 Z = true) (hzZ : hz = Z.heap) (hO0 : O 0 = lamO Z (⟨"org/distinguo/identify/BlockTree", "<init>", "(II)V"⟩ : MethodName) 101 49 sig_0) (hO1 : O 1 = lamO Z (⟨"org/distinguo/identify/BlockTree", "<init>", "(II)V"⟩ : MethodName) 113 59 sig_1) : MtOk l Z hz shp A O 40 320 mts mis := by
  intro j mx code h
  match j, h with
  | 0, h => cases h; exact ⟨cok_0 hw hzZ hO0 hO1, fun el tl q => by cases q; rfl⟩
  | 1, h => cases h; exact ⟨cok_1 hw hzZ hO0 hO1, fun el tl q => by cases q; rfl⟩
  | 2, h => cases h; exact ⟨fun _ q => (nomatch q), fun _ _ q => (by cases q)⟩
  | 3, h => cases h; exact ⟨cok_3 hw hzZ hO0 hO1, fun el tl q => by cases q; rfl⟩
  | 4, h => cases h; exact ⟨cok_4 hw hzZ hO0 hO1, fun el tl q => by cases q; rfl⟩
  | 5, h => cases h; exact ⟨cok_5 hw hzZ hO0 hO1, fun el tl q => by cases q; rfl⟩
  | 6, h => cases h; exact ⟨cok_6 hw hzZ hO0 hO1, fun el tl q => by cases q; rfl⟩
  | 7, h => cases h; exact ⟨cok_7 hw hzZ hO0 hO1, fun el tl q => by cases q; rfl⟩
  | 8, h => cases h; exact ⟨cok_8 hw hzZ hO0 hO1, fun el tl q => by cases q; rfl⟩
  | 9, h => cases h; exact ⟨cok_9 hw hzZ hO0 hO1, fun el tl q => by cases q; rfl⟩
  | 10, h => cases h; exact ⟨cok_10 hw hzZ hO0 hO1, fun el tl q => by cases q; rfl⟩
  | 11, h => cases h; exact ⟨cok_11 hw hzZ hO0 hO1, fun el tl q => by cases q; rfl⟩
  | 12, h => cases h; exact ⟨cok_12 hw hzZ hO0 hO1, fun el tl q => by cases q; rfl⟩
  | 13, h => cases h; exact ⟨cok_13 hw hzZ hO0 hO1, fun el tl q => by cases q; rfl⟩
  | 14, h => cases h; exact ⟨cok_14 hw hzZ hO0 hO1, fun el tl q => by cases q; rfl⟩
  | 15, h => cases h; exact ⟨cok_15 hw hzZ hO0 hO1, fun el tl q => by cases q; rfl⟩
  | 16, h => cases h; exact ⟨cok_16 hw hzZ hO0 hO1, fun el tl q => by cases q; rfl⟩
  | 17, h => cases h; exact ⟨cok_17 hw hzZ hO0 hO1, fun el tl q => by cases q; rfl⟩
  | 18, h => cases h; exact ⟨cok_18 hw hzZ hO0 hO1, fun el tl q => by cases q; rfl⟩
  | j + 19, h => exact absurd h (by simp [mts])
end Valid

def xs0 : List SV := [(0, .arg 0), (0, .arg 1), (0, .arg 2), (0, .arg 3), (0, .arg 4)]
def env (p0 : Int32) (p1 : Int32) (p2 : Int32) (p3 : Int32) (p4 : Int32) : En
  | 0 => (p0, 0)
  | 1 => (p1, 0)
  | 2 => (p2, 0)
  | 3 => (p3, 0)
  | 4 => (p4, 0)
  | _ => (0, 0)
def isNil : Option (List Pd) → Bool
  | some [] => true
  | _ => false
theorem isNil_eq {o : Option (List Pd)} (h : isNil o = true) : o = some [] := by
  unfold isNil at h
  split at h
  · rfl
  · cases h
def iv (x : Int32) : SV := (0, .int x)
def ia (i : Nat) : SV := (0, .arg i)
def lcs (t : SV) : List SL := [some (some (ia 0)), some (some (ia 1)), some (some (ia 2)), some (some (ia 3)), some (some (ia 4)), some (some (2, .index 0)), some (some (2, .index 12)), some (some (2, .index 13)), some (some (2, .index 14)), some (some t), none, none, none, none, none, none]
def bt (nc : Int32) : Ob := (0, [(2, .index 1), (2, .index 2), (2, .index 3), (2, .index 4), (2, .index 5), (2, .index 6), (2, .index 7), (2, .index 8), (2, .index 9), (2, .index 10), (2, .index 11), iv nc])
def m5 (a b c d e : SV) : Ob := (99, [(2, .index 5), iv (-7), ia 5, a, ia 6, b, ia 7, c, ia 8, d, ia 9, e])
def ml : List Int32 → Ob
  | [a, b, c, d, e] => m5 (iv a) (iv b) (iv c) (iv d) (iv e)
  | _ => (99, [])
def ar (xs : List Int32) : Ob := (1, xs.map iv)
def mkP1 (tg nc : Int32) (par dep fc fi en lf : List Int32) : Cf := (lcs (iv tg), [], [bt nc, ar par, ar dep, ar fc, ar fi, ar en, (1, [ia 5, ia 6, ia 7, ia 8, ia 9]), ml [0, 1, 2, 3, 4], ml lf, ar [-1, -1, -1, -1, -1, -1, -1, -1, -1, -1], (1, [ia 20, ia 21, ia 22, ia 23, ia 24]), (1, [ia 15, ia 16, ia 17, ia 18, ia 19]), (99, []), m5 (ia 10) (ia 11) (ia 12) (ia 13) (ia 14), ar [0, 0]], 104)
def mkP2 (nc : Int32) (par dep fi en lf : List Int32) : Cf := (lcs (ia 10), [], [bt nc, ar par, ar dep, (99, []), ar fi, ar en, (1, [ia 5, ia 6, ia 7, ia 8, ia 9]), ml [0, 1, 2, 3, 4], ml lf, (99, []), (99, []), (99, []), (99, []), (99, []), ar [0, 0]], 104)
def p1_0 : Cf := mkP1 0 1 [-1, 0, 0, 0, 0, 0, 0, 0, 0] [0, 0, 0, 0, 0, 0, 0, 0, 0] [-1, 0, 0, 0, 0, 0, 0, 0, 0] [0, 0, 0, 0, 0, 0, 0, 0, 0] [5, 0, 0, 0, 0, 0, 0, 0, 0] [0, 0, 0, 0, 0]
def p1_1 : Cf := mkP1 1 3 [-1, 0, 0, 0, 0, 0, 0, 0, 0] [0, 1, 1, 0, 0, 0, 0, 0, 0] [1, -1, -1, 0, 0, 0, 0, 0, 0] [0, 0, 1, 0, 0, 0, 0, 0, 0] [5, 1, 5, 0, 0, 0, 0, 0, 0] [1, 2, 2, 2, 2]
def p1_2 : Cf := mkP1 1 3 [-1, 0, 0, 0, 0, 0, 0, 0, 0] [0, 1, 1, 0, 0, 0, 0, 0, 0] [1, -1, -1, 0, 0, 0, 0, 0, 0] [0, 0, 2, 0, 0, 0, 0, 0, 0] [5, 2, 5, 0, 0, 0, 0, 0, 0] [1, 1, 2, 2, 2]
def p1_3 : Cf := mkP1 1 3 [-1, 0, 0, 0, 0, 0, 0, 0, 0] [0, 1, 1, 0, 0, 0, 0, 0, 0] [1, -1, -1, 0, 0, 0, 0, 0, 0] [0, 0, 3, 0, 0, 0, 0, 0, 0] [5, 3, 5, 0, 0, 0, 0, 0, 0] [1, 1, 1, 2, 2]
def p1_4 : Cf := mkP1 1 3 [-1, 0, 0, 0, 0, 0, 0, 0, 0] [0, 1, 1, 0, 0, 0, 0, 0, 0] [1, -1, -1, 0, 0, 0, 0, 0, 0] [0, 0, 4, 0, 0, 0, 0, 0, 0] [5, 4, 5, 0, 0, 0, 0, 0, 0] [1, 1, 1, 1, 2]
def p1_5 : Cf := mkP1 2 3 [-1, 0, 0, 0, 0, 0, 0, 0, 0] [0, 1, 1, 0, 0, 0, 0, 0, 0] [1, -1, -1, 0, 0, 0, 0, 0, 0] [0, 0, 1, 0, 0, 0, 0, 0, 0] [5, 1, 5, 0, 0, 0, 0, 0, 0] [1, 2, 2, 2, 2]
def p1_6 : Cf := mkP1 2 3 [-1, 0, 0, 0, 0, 0, 0, 0, 0] [0, 1, 1, 0, 0, 0, 0, 0, 0] [1, -1, -1, 0, 0, 0, 0, 0, 0] [0, 0, 2, 0, 0, 0, 0, 0, 0] [5, 2, 5, 0, 0, 0, 0, 0, 0] [1, 1, 2, 2, 2]
def p1_7 : Cf := mkP1 2 3 [-1, 0, 0, 0, 0, 0, 0, 0, 0] [0, 1, 1, 0, 0, 0, 0, 0, 0] [1, -1, -1, 0, 0, 0, 0, 0, 0] [0, 0, 3, 0, 0, 0, 0, 0, 0] [5, 3, 5, 0, 0, 0, 0, 0, 0] [1, 1, 1, 2, 2]
def p1_8 : Cf := mkP1 2 3 [-1, 0, 0, 0, 0, 0, 0, 0, 0] [0, 1, 1, 0, 0, 0, 0, 0, 0] [1, -1, -1, 0, 0, 0, 0, 0, 0] [0, 0, 4, 0, 0, 0, 0, 0, 0] [5, 4, 5, 0, 0, 0, 0, 0, 0] [1, 1, 1, 1, 2]
def p1_9 : Cf := mkP1 1 4 [-1, 0, 0, 0, 0, 0, 0, 0, 0] [0, 1, 1, 1, 0, 0, 0, 0, 0] [1, -1, -1, -1, 0, 0, 0, 0, 0] [0, 0, 1, 2, 0, 0, 0, 0, 0] [5, 1, 2, 5, 0, 0, 0, 0, 0] [1, 2, 3, 3, 3]
def p1_10 : Cf := mkP1 1 4 [-1, 0, 0, 0, 0, 0, 0, 0, 0] [0, 1, 1, 1, 0, 0, 0, 0, 0] [1, -1, -1, -1, 0, 0, 0, 0, 0] [0, 0, 1, 3, 0, 0, 0, 0, 0] [5, 1, 3, 5, 0, 0, 0, 0, 0] [1, 2, 2, 3, 3]
def p1_11 : Cf := mkP1 1 4 [-1, 0, 0, 0, 0, 0, 0, 0, 0] [0, 1, 1, 1, 0, 0, 0, 0, 0] [1, -1, -1, -1, 0, 0, 0, 0, 0] [0, 0, 1, 4, 0, 0, 0, 0, 0] [5, 1, 4, 5, 0, 0, 0, 0, 0] [1, 2, 2, 2, 3]
def p1_12 : Cf := mkP1 1 4 [-1, 0, 0, 0, 0, 0, 0, 0, 0] [0, 1, 1, 1, 0, 0, 0, 0, 0] [1, -1, -1, -1, 0, 0, 0, 0, 0] [0, 0, 2, 3, 0, 0, 0, 0, 0] [5, 2, 3, 5, 0, 0, 0, 0, 0] [1, 1, 2, 3, 3]
def p1_13 : Cf := mkP1 1 4 [-1, 0, 0, 0, 0, 0, 0, 0, 0] [0, 1, 1, 1, 0, 0, 0, 0, 0] [1, -1, -1, -1, 0, 0, 0, 0, 0] [0, 0, 2, 4, 0, 0, 0, 0, 0] [5, 2, 4, 5, 0, 0, 0, 0, 0] [1, 1, 2, 2, 3]
def p1_14 : Cf := mkP1 1 4 [-1, 0, 0, 0, 0, 0, 0, 0, 0] [0, 1, 1, 1, 0, 0, 0, 0, 0] [1, -1, -1, -1, 0, 0, 0, 0, 0] [0, 0, 3, 4, 0, 0, 0, 0, 0] [5, 3, 4, 5, 0, 0, 0, 0, 0] [1, 1, 1, 2, 3]
def p1_15 : Cf := mkP1 2 4 [-1, 0, 0, 0, 0, 0, 0, 0, 0] [0, 1, 1, 1, 0, 0, 0, 0, 0] [1, -1, -1, -1, 0, 0, 0, 0, 0] [0, 0, 1, 2, 0, 0, 0, 0, 0] [5, 1, 2, 5, 0, 0, 0, 0, 0] [1, 2, 3, 3, 3]
def p1_16 : Cf := mkP1 2 4 [-1, 0, 0, 0, 0, 0, 0, 0, 0] [0, 1, 1, 1, 0, 0, 0, 0, 0] [1, -1, -1, -1, 0, 0, 0, 0, 0] [0, 0, 1, 3, 0, 0, 0, 0, 0] [5, 1, 3, 5, 0, 0, 0, 0, 0] [1, 2, 2, 3, 3]
def p1_17 : Cf := mkP1 2 4 [-1, 0, 0, 0, 0, 0, 0, 0, 0] [0, 1, 1, 1, 0, 0, 0, 0, 0] [1, -1, -1, -1, 0, 0, 0, 0, 0] [0, 0, 1, 4, 0, 0, 0, 0, 0] [5, 1, 4, 5, 0, 0, 0, 0, 0] [1, 2, 2, 2, 3]
def p1_18 : Cf := mkP1 2 4 [-1, 0, 0, 0, 0, 0, 0, 0, 0] [0, 1, 1, 1, 0, 0, 0, 0, 0] [1, -1, -1, -1, 0, 0, 0, 0, 0] [0, 0, 2, 3, 0, 0, 0, 0, 0] [5, 2, 3, 5, 0, 0, 0, 0, 0] [1, 1, 2, 3, 3]
def p1_19 : Cf := mkP1 2 4 [-1, 0, 0, 0, 0, 0, 0, 0, 0] [0, 1, 1, 1, 0, 0, 0, 0, 0] [1, -1, -1, -1, 0, 0, 0, 0, 0] [0, 0, 2, 4, 0, 0, 0, 0, 0] [5, 2, 4, 5, 0, 0, 0, 0, 0] [1, 1, 2, 2, 3]
def p1_20 : Cf := mkP1 2 4 [-1, 0, 0, 0, 0, 0, 0, 0, 0] [0, 1, 1, 1, 0, 0, 0, 0, 0] [1, -1, -1, -1, 0, 0, 0, 0, 0] [0, 0, 3, 4, 0, 0, 0, 0, 0] [5, 3, 4, 5, 0, 0, 0, 0, 0] [1, 1, 1, 2, 3]
def p1_21 : Cf := mkP1 3 4 [-1, 0, 0, 0, 0, 0, 0, 0, 0] [0, 1, 1, 1, 0, 0, 0, 0, 0] [1, -1, -1, -1, 0, 0, 0, 0, 0] [0, 0, 1, 2, 0, 0, 0, 0, 0] [5, 1, 2, 5, 0, 0, 0, 0, 0] [1, 2, 3, 3, 3]
def p1_22 : Cf := mkP1 3 4 [-1, 0, 0, 0, 0, 0, 0, 0, 0] [0, 1, 1, 1, 0, 0, 0, 0, 0] [1, -1, -1, -1, 0, 0, 0, 0, 0] [0, 0, 1, 3, 0, 0, 0, 0, 0] [5, 1, 3, 5, 0, 0, 0, 0, 0] [1, 2, 2, 3, 3]
def p1_23 : Cf := mkP1 3 4 [-1, 0, 0, 0, 0, 0, 0, 0, 0] [0, 1, 1, 1, 0, 0, 0, 0, 0] [1, -1, -1, -1, 0, 0, 0, 0, 0] [0, 0, 1, 4, 0, 0, 0, 0, 0] [5, 1, 4, 5, 0, 0, 0, 0, 0] [1, 2, 2, 2, 3]
def p1_24 : Cf := mkP1 3 4 [-1, 0, 0, 0, 0, 0, 0, 0, 0] [0, 1, 1, 1, 0, 0, 0, 0, 0] [1, -1, -1, -1, 0, 0, 0, 0, 0] [0, 0, 2, 3, 0, 0, 0, 0, 0] [5, 2, 3, 5, 0, 0, 0, 0, 0] [1, 1, 2, 3, 3]
def p1_25 : Cf := mkP1 3 4 [-1, 0, 0, 0, 0, 0, 0, 0, 0] [0, 1, 1, 1, 0, 0, 0, 0, 0] [1, -1, -1, -1, 0, 0, 0, 0, 0] [0, 0, 2, 4, 0, 0, 0, 0, 0] [5, 2, 4, 5, 0, 0, 0, 0, 0] [1, 1, 2, 2, 3]
def p1_26 : Cf := mkP1 3 4 [-1, 0, 0, 0, 0, 0, 0, 0, 0] [0, 1, 1, 1, 0, 0, 0, 0, 0] [1, -1, -1, -1, 0, 0, 0, 0, 0] [0, 0, 3, 4, 0, 0, 0, 0, 0] [5, 3, 4, 5, 0, 0, 0, 0, 0] [1, 1, 1, 2, 3]
def p1_27 : Cf := mkP1 1 5 [-1, 0, 0, 0, 0, 0, 0, 0, 0] [0, 1, 1, 1, 1, 0, 0, 0, 0] [1, -1, -1, -1, -1, 0, 0, 0, 0] [0, 0, 1, 2, 3, 0, 0, 0, 0] [5, 1, 2, 3, 5, 0, 0, 0, 0] [1, 2, 3, 4, 4]
def p1_28 : Cf := mkP1 1 5 [-1, 0, 0, 0, 0, 0, 0, 0, 0] [0, 1, 1, 1, 1, 0, 0, 0, 0] [1, -1, -1, -1, -1, 0, 0, 0, 0] [0, 0, 1, 2, 4, 0, 0, 0, 0] [5, 1, 2, 4, 5, 0, 0, 0, 0] [1, 2, 3, 3, 4]
def p1_29 : Cf := mkP1 1 5 [-1, 0, 0, 0, 0, 0, 0, 0, 0] [0, 1, 1, 1, 1, 0, 0, 0, 0] [1, -1, -1, -1, -1, 0, 0, 0, 0] [0, 0, 1, 3, 4, 0, 0, 0, 0] [5, 1, 3, 4, 5, 0, 0, 0, 0] [1, 2, 2, 3, 4]
def p1_30 : Cf := mkP1 1 5 [-1, 0, 0, 0, 0, 0, 0, 0, 0] [0, 1, 1, 1, 1, 0, 0, 0, 0] [1, -1, -1, -1, -1, 0, 0, 0, 0] [0, 0, 2, 3, 4, 0, 0, 0, 0] [5, 2, 3, 4, 5, 0, 0, 0, 0] [1, 1, 2, 3, 4]
def p1_31 : Cf := mkP1 2 5 [-1, 0, 0, 0, 0, 0, 0, 0, 0] [0, 1, 1, 1, 1, 0, 0, 0, 0] [1, -1, -1, -1, -1, 0, 0, 0, 0] [0, 0, 1, 2, 3, 0, 0, 0, 0] [5, 1, 2, 3, 5, 0, 0, 0, 0] [1, 2, 3, 4, 4]
def p1_32 : Cf := mkP1 2 5 [-1, 0, 0, 0, 0, 0, 0, 0, 0] [0, 1, 1, 1, 1, 0, 0, 0, 0] [1, -1, -1, -1, -1, 0, 0, 0, 0] [0, 0, 1, 2, 4, 0, 0, 0, 0] [5, 1, 2, 4, 5, 0, 0, 0, 0] [1, 2, 3, 3, 4]
def p1_33 : Cf := mkP1 2 5 [-1, 0, 0, 0, 0, 0, 0, 0, 0] [0, 1, 1, 1, 1, 0, 0, 0, 0] [1, -1, -1, -1, -1, 0, 0, 0, 0] [0, 0, 1, 3, 4, 0, 0, 0, 0] [5, 1, 3, 4, 5, 0, 0, 0, 0] [1, 2, 2, 3, 4]
def p1_34 : Cf := mkP1 2 5 [-1, 0, 0, 0, 0, 0, 0, 0, 0] [0, 1, 1, 1, 1, 0, 0, 0, 0] [1, -1, -1, -1, -1, 0, 0, 0, 0] [0, 0, 2, 3, 4, 0, 0, 0, 0] [5, 2, 3, 4, 5, 0, 0, 0, 0] [1, 1, 2, 3, 4]
def p1_35 : Cf := mkP1 3 5 [-1, 0, 0, 0, 0, 0, 0, 0, 0] [0, 1, 1, 1, 1, 0, 0, 0, 0] [1, -1, -1, -1, -1, 0, 0, 0, 0] [0, 0, 1, 2, 3, 0, 0, 0, 0] [5, 1, 2, 3, 5, 0, 0, 0, 0] [1, 2, 3, 4, 4]
def p1_36 : Cf := mkP1 3 5 [-1, 0, 0, 0, 0, 0, 0, 0, 0] [0, 1, 1, 1, 1, 0, 0, 0, 0] [1, -1, -1, -1, -1, 0, 0, 0, 0] [0, 0, 1, 2, 4, 0, 0, 0, 0] [5, 1, 2, 4, 5, 0, 0, 0, 0] [1, 2, 3, 3, 4]
def p1_37 : Cf := mkP1 3 5 [-1, 0, 0, 0, 0, 0, 0, 0, 0] [0, 1, 1, 1, 1, 0, 0, 0, 0] [1, -1, -1, -1, -1, 0, 0, 0, 0] [0, 0, 1, 3, 4, 0, 0, 0, 0] [5, 1, 3, 4, 5, 0, 0, 0, 0] [1, 2, 2, 3, 4]
def p1_38 : Cf := mkP1 3 5 [-1, 0, 0, 0, 0, 0, 0, 0, 0] [0, 1, 1, 1, 1, 0, 0, 0, 0] [1, -1, -1, -1, -1, 0, 0, 0, 0] [0, 0, 2, 3, 4, 0, 0, 0, 0] [5, 2, 3, 4, 5, 0, 0, 0, 0] [1, 1, 2, 3, 4]
def p1_39 : Cf := mkP1 4 5 [-1, 0, 0, 0, 0, 0, 0, 0, 0] [0, 1, 1, 1, 1, 0, 0, 0, 0] [1, -1, -1, -1, -1, 0, 0, 0, 0] [0, 0, 1, 2, 3, 0, 0, 0, 0] [5, 1, 2, 3, 5, 0, 0, 0, 0] [1, 2, 3, 4, 4]
def p1_40 : Cf := mkP1 4 5 [-1, 0, 0, 0, 0, 0, 0, 0, 0] [0, 1, 1, 1, 1, 0, 0, 0, 0] [1, -1, -1, -1, -1, 0, 0, 0, 0] [0, 0, 1, 2, 4, 0, 0, 0, 0] [5, 1, 2, 4, 5, 0, 0, 0, 0] [1, 2, 3, 3, 4]
def p1_41 : Cf := mkP1 4 5 [-1, 0, 0, 0, 0, 0, 0, 0, 0] [0, 1, 1, 1, 1, 0, 0, 0, 0] [1, -1, -1, -1, -1, 0, 0, 0, 0] [0, 0, 1, 3, 4, 0, 0, 0, 0] [5, 1, 3, 4, 5, 0, 0, 0, 0] [1, 2, 2, 3, 4]
def p1_42 : Cf := mkP1 4 5 [-1, 0, 0, 0, 0, 0, 0, 0, 0] [0, 1, 1, 1, 1, 0, 0, 0, 0] [1, -1, -1, -1, -1, 0, 0, 0, 0] [0, 0, 2, 3, 4, 0, 0, 0, 0] [5, 2, 3, 4, 5, 0, 0, 0, 0] [1, 1, 2, 3, 4]
def p1_43 : Cf := mkP1 1 6 [-1, 0, 0, 0, 0, 0, 0, 0, 0] [0, 1, 1, 1, 1, 1, 0, 0, 0] [1, -1, -1, -1, -1, -1, 0, 0, 0] [0, 0, 1, 2, 3, 4, 0, 0, 0] [5, 1, 2, 3, 4, 5, 0, 0, 0] [1, 2, 3, 4, 5]
def p1_44 : Cf := mkP1 2 6 [-1, 0, 0, 0, 0, 0, 0, 0, 0] [0, 1, 1, 1, 1, 1, 0, 0, 0] [1, -1, -1, -1, -1, -1, 0, 0, 0] [0, 0, 1, 2, 3, 4, 0, 0, 0] [5, 1, 2, 3, 4, 5, 0, 0, 0] [1, 2, 3, 4, 5]
def p1_45 : Cf := mkP1 3 6 [-1, 0, 0, 0, 0, 0, 0, 0, 0] [0, 1, 1, 1, 1, 1, 0, 0, 0] [1, -1, -1, -1, -1, -1, 0, 0, 0] [0, 0, 1, 2, 3, 4, 0, 0, 0] [5, 1, 2, 3, 4, 5, 0, 0, 0] [1, 2, 3, 4, 5]
def p1_46 : Cf := mkP1 4 6 [-1, 0, 0, 0, 0, 0, 0, 0, 0] [0, 1, 1, 1, 1, 1, 0, 0, 0] [1, -1, -1, -1, -1, -1, 0, 0, 0] [0, 0, 1, 2, 3, 4, 0, 0, 0] [5, 1, 2, 3, 4, 5, 0, 0, 0] [1, 2, 3, 4, 5]
def p1_47 : Cf := mkP1 5 6 [-1, 0, 0, 0, 0, 0, 0, 0, 0] [0, 1, 1, 1, 1, 1, 0, 0, 0] [1, -1, -1, -1, -1, -1, 0, 0, 0] [0, 0, 1, 2, 3, 4, 0, 0, 0] [5, 1, 2, 3, 4, 5, 0, 0, 0] [1, 2, 3, 4, 5]
def pat_1 : List Cf := [p1_0, p1_1, p1_2, p1_3, p1_4, p1_5, p1_6, p1_7, p1_8, p1_9, p1_10, p1_11, p1_12, p1_13, p1_14, p1_15, p1_16, p1_17, p1_18, p1_19, p1_20, p1_21, p1_22, p1_23, p1_24, p1_25, p1_26, p1_27, p1_28, p1_29, p1_30, p1_31, p1_32, p1_33, p1_34, p1_35, p1_36, p1_37, p1_38, p1_39, p1_40, p1_41, p1_42, p1_43, p1_44, p1_45, p1_46, p1_47]
def p2_0 : Cf := mkP2 1 [-1, 0, 0, 0, 0, 0, 0, 0, 0] [0, 0, 0, 0, 0, 0, 0, 0, 0] [0, 0, 0, 0, 0, 0, 0, 0, 0] [5, 0, 0, 0, 0, 0, 0, 0, 0] [0, 0, 0, 0, 0]
def p2_1 : Cf := mkP2 3 [-1, 0, 0, 0, 0, 0, 0, 0, 0] [0, 1, 1, 0, 0, 0, 0, 0, 0] [0, 0, 1, 0, 0, 0, 0, 0, 0] [5, 1, 5, 0, 0, 0, 0, 0, 0] [1, 2, 2, 2, 2]
def p2_2 : Cf := mkP2 3 [-1, 0, 0, 0, 0, 0, 0, 0, 0] [0, 1, 1, 0, 0, 0, 0, 0, 0] [0, 0, 2, 0, 0, 0, 0, 0, 0] [5, 2, 5, 0, 0, 0, 0, 0, 0] [1, 1, 2, 2, 2]
def p2_3 : Cf := mkP2 3 [-1, 0, 0, 0, 0, 0, 0, 0, 0] [0, 1, 1, 0, 0, 0, 0, 0, 0] [0, 0, 3, 0, 0, 0, 0, 0, 0] [5, 3, 5, 0, 0, 0, 0, 0, 0] [1, 1, 1, 2, 2]
def p2_4 : Cf := mkP2 3 [-1, 0, 0, 0, 0, 0, 0, 0, 0] [0, 1, 1, 0, 0, 0, 0, 0, 0] [0, 0, 4, 0, 0, 0, 0, 0, 0] [5, 4, 5, 0, 0, 0, 0, 0, 0] [1, 1, 1, 1, 2]
def p2_5 : Cf := mkP2 4 [-1, 0, 0, 0, 0, 0, 0, 0, 0] [0, 1, 1, 1, 0, 0, 0, 0, 0] [0, 0, 1, 2, 0, 0, 0, 0, 0] [5, 1, 2, 5, 0, 0, 0, 0, 0] [1, 2, 3, 3, 3]
def p2_6 : Cf := mkP2 4 [-1, 0, 0, 0, 0, 0, 0, 0, 0] [0, 1, 1, 1, 0, 0, 0, 0, 0] [0, 0, 1, 3, 0, 0, 0, 0, 0] [5, 1, 3, 5, 0, 0, 0, 0, 0] [1, 2, 2, 3, 3]
def p2_7 : Cf := mkP2 4 [-1, 0, 0, 0, 0, 0, 0, 0, 0] [0, 1, 1, 1, 0, 0, 0, 0, 0] [0, 0, 1, 4, 0, 0, 0, 0, 0] [5, 1, 4, 5, 0, 0, 0, 0, 0] [1, 2, 2, 2, 3]
def p2_8 : Cf := mkP2 4 [-1, 0, 0, 0, 0, 0, 0, 0, 0] [0, 1, 1, 1, 0, 0, 0, 0, 0] [0, 0, 2, 3, 0, 0, 0, 0, 0] [5, 2, 3, 5, 0, 0, 0, 0, 0] [1, 1, 2, 3, 3]
def p2_9 : Cf := mkP2 4 [-1, 0, 0, 0, 0, 0, 0, 0, 0] [0, 1, 1, 1, 0, 0, 0, 0, 0] [0, 0, 2, 4, 0, 0, 0, 0, 0] [5, 2, 4, 5, 0, 0, 0, 0, 0] [1, 1, 2, 2, 3]
def p2_10 : Cf := mkP2 4 [-1, 0, 0, 0, 0, 0, 0, 0, 0] [0, 1, 1, 1, 0, 0, 0, 0, 0] [0, 0, 3, 4, 0, 0, 0, 0, 0] [5, 3, 4, 5, 0, 0, 0, 0, 0] [1, 1, 1, 2, 3]
def p2_11 : Cf := mkP2 5 [-1, 0, 0, 0, 0, 0, 0, 0, 0] [0, 1, 1, 1, 1, 0, 0, 0, 0] [0, 0, 1, 2, 3, 0, 0, 0, 0] [5, 1, 2, 3, 5, 0, 0, 0, 0] [1, 2, 3, 4, 4]
def p2_12 : Cf := mkP2 5 [-1, 0, 0, 0, 0, 0, 0, 0, 0] [0, 1, 1, 1, 1, 0, 0, 0, 0] [0, 0, 1, 2, 4, 0, 0, 0, 0] [5, 1, 2, 4, 5, 0, 0, 0, 0] [1, 2, 3, 3, 4]
def p2_13 : Cf := mkP2 5 [-1, 0, 0, 0, 0, 0, 0, 0, 0] [0, 1, 1, 1, 1, 0, 0, 0, 0] [0, 0, 1, 3, 4, 0, 0, 0, 0] [5, 1, 3, 4, 5, 0, 0, 0, 0] [1, 2, 2, 3, 4]
def p2_14 : Cf := mkP2 5 [-1, 0, 0, 0, 0, 0, 0, 0, 0] [0, 1, 1, 1, 1, 0, 0, 0, 0] [0, 0, 2, 3, 4, 0, 0, 0, 0] [5, 2, 3, 4, 5, 0, 0, 0, 0] [1, 1, 2, 3, 4]
def p2_15 : Cf := mkP2 5 [-1, 0, 0, 1, 1, 0, 0, 0, 0] [0, 1, 1, 2, 2, 0, 0, 0, 0] [0, 0, 2, 0, 1, 0, 0, 0, 0] [5, 2, 5, 1, 2, 0, 0, 0, 0] [3, 4, 2, 2, 2]
def p2_16 : Cf := mkP2 5 [-1, 0, 0, 1, 1, 0, 0, 0, 0] [0, 1, 1, 2, 2, 0, 0, 0, 0] [0, 0, 3, 0, 1, 0, 0, 0, 0] [5, 3, 5, 1, 3, 0, 0, 0, 0] [3, 4, 4, 2, 2]
def p2_17 : Cf := mkP2 5 [-1, 0, 0, 1, 1, 0, 0, 0, 0] [0, 1, 1, 2, 2, 0, 0, 0, 0] [0, 0, 3, 0, 2, 0, 0, 0, 0] [5, 3, 5, 2, 3, 0, 0, 0, 0] [3, 3, 4, 2, 2]
def p2_18 : Cf := mkP2 5 [-1, 0, 0, 1, 1, 0, 0, 0, 0] [0, 1, 1, 2, 2, 0, 0, 0, 0] [0, 0, 4, 0, 1, 0, 0, 0, 0] [5, 4, 5, 1, 4, 0, 0, 0, 0] [3, 4, 4, 4, 2]
def p2_19 : Cf := mkP2 5 [-1, 0, 0, 1, 1, 0, 0, 0, 0] [0, 1, 1, 2, 2, 0, 0, 0, 0] [0, 0, 4, 0, 2, 0, 0, 0, 0] [5, 4, 5, 2, 4, 0, 0, 0, 0] [3, 3, 4, 4, 2]
def p2_20 : Cf := mkP2 5 [-1, 0, 0, 1, 1, 0, 0, 0, 0] [0, 1, 1, 2, 2, 0, 0, 0, 0] [0, 0, 4, 0, 3, 0, 0, 0, 0] [5, 4, 5, 3, 4, 0, 0, 0, 0] [3, 3, 3, 4, 2]
def p2_21 : Cf := mkP2 5 [-1, 0, 0, 2, 2, 0, 0, 0, 0] [0, 1, 1, 2, 2, 0, 0, 0, 0] [0, 0, 1, 1, 2, 0, 0, 0, 0] [5, 1, 5, 2, 5, 0, 0, 0, 0] [1, 3, 4, 4, 4]
def p2_22 : Cf := mkP2 5 [-1, 0, 0, 2, 2, 0, 0, 0, 0] [0, 1, 1, 2, 2, 0, 0, 0, 0] [0, 0, 1, 1, 3, 0, 0, 0, 0] [5, 1, 5, 3, 5, 0, 0, 0, 0] [1, 3, 3, 4, 4]
def p2_23 : Cf := mkP2 5 [-1, 0, 0, 2, 2, 0, 0, 0, 0] [0, 1, 1, 2, 2, 0, 0, 0, 0] [0, 0, 1, 1, 4, 0, 0, 0, 0] [5, 1, 5, 4, 5, 0, 0, 0, 0] [1, 3, 3, 3, 4]
def p2_24 : Cf := mkP2 5 [-1, 0, 0, 2, 2, 0, 0, 0, 0] [0, 1, 1, 2, 2, 0, 0, 0, 0] [0, 0, 2, 2, 3, 0, 0, 0, 0] [5, 2, 5, 3, 5, 0, 0, 0, 0] [1, 1, 3, 4, 4]
def p2_25 : Cf := mkP2 5 [-1, 0, 0, 2, 2, 0, 0, 0, 0] [0, 1, 1, 2, 2, 0, 0, 0, 0] [0, 0, 2, 2, 4, 0, 0, 0, 0] [5, 2, 5, 4, 5, 0, 0, 0, 0] [1, 1, 3, 3, 4]
def p2_26 : Cf := mkP2 5 [-1, 0, 0, 2, 2, 0, 0, 0, 0] [0, 1, 1, 2, 2, 0, 0, 0, 0] [0, 0, 3, 3, 4, 0, 0, 0, 0] [5, 3, 5, 4, 5, 0, 0, 0, 0] [1, 1, 1, 3, 4]
def p2_27 : Cf := mkP2 6 [-1, 0, 0, 0, 0, 0, 0, 0, 0] [0, 1, 1, 1, 1, 1, 0, 0, 0] [0, 0, 1, 2, 3, 4, 0, 0, 0] [5, 1, 2, 3, 4, 5, 0, 0, 0] [1, 2, 3, 4, 5]
def p2_28 : Cf := mkP2 6 [-1, 0, 0, 0, 1, 1, 0, 0, 0] [0, 1, 1, 1, 2, 2, 0, 0, 0] [0, 0, 2, 3, 0, 1, 0, 0, 0] [5, 2, 3, 5, 1, 2, 0, 0, 0] [4, 5, 2, 3, 3]
def p2_29 : Cf := mkP2 6 [-1, 0, 0, 0, 1, 1, 0, 0, 0] [0, 1, 1, 1, 2, 2, 0, 0, 0] [0, 0, 2, 4, 0, 1, 0, 0, 0] [5, 2, 4, 5, 1, 2, 0, 0, 0] [4, 5, 2, 2, 3]
def p2_30 : Cf := mkP2 6 [-1, 0, 0, 0, 1, 1, 0, 0, 0] [0, 1, 1, 1, 2, 2, 0, 0, 0] [0, 0, 3, 4, 0, 1, 0, 0, 0] [5, 3, 4, 5, 1, 3, 0, 0, 0] [4, 5, 5, 2, 3]
def p2_31 : Cf := mkP2 6 [-1, 0, 0, 0, 1, 1, 0, 0, 0] [0, 1, 1, 1, 2, 2, 0, 0, 0] [0, 0, 3, 4, 0, 2, 0, 0, 0] [5, 3, 4, 5, 2, 3, 0, 0, 0] [4, 4, 5, 2, 3]
def p2_32 : Cf := mkP2 6 [-1, 0, 0, 0, 2, 2, 0, 0, 0] [0, 1, 1, 1, 2, 2, 0, 0, 0] [0, 0, 1, 3, 1, 2, 0, 0, 0] [5, 1, 3, 5, 2, 3, 0, 0, 0] [1, 4, 5, 3, 3]
def p2_33 : Cf := mkP2 6 [-1, 0, 0, 0, 2, 2, 0, 0, 0] [0, 1, 1, 1, 2, 2, 0, 0, 0] [0, 0, 1, 4, 1, 2, 0, 0, 0] [5, 1, 4, 5, 2, 4, 0, 0, 0] [1, 4, 5, 5, 3]
def p2_34 : Cf := mkP2 6 [-1, 0, 0, 0, 2, 2, 0, 0, 0] [0, 1, 1, 1, 2, 2, 0, 0, 0] [0, 0, 1, 4, 1, 3, 0, 0, 0] [5, 1, 4, 5, 3, 4, 0, 0, 0] [1, 4, 4, 5, 3]
def p2_35 : Cf := mkP2 6 [-1, 0, 0, 0, 2, 2, 0, 0, 0] [0, 1, 1, 1, 2, 2, 0, 0, 0] [0, 0, 2, 4, 2, 3, 0, 0, 0] [5, 2, 4, 5, 3, 4, 0, 0, 0] [1, 1, 4, 5, 3]
def p2_36 : Cf := mkP2 6 [-1, 0, 0, 0, 3, 3, 0, 0, 0] [0, 1, 1, 1, 2, 2, 0, 0, 0] [0, 0, 1, 2, 2, 3, 0, 0, 0] [5, 1, 2, 5, 3, 5, 0, 0, 0] [1, 2, 4, 5, 5]
def p2_37 : Cf := mkP2 6 [-1, 0, 0, 0, 3, 3, 0, 0, 0] [0, 1, 1, 1, 2, 2, 0, 0, 0] [0, 0, 1, 2, 2, 4, 0, 0, 0] [5, 1, 2, 5, 4, 5, 0, 0, 0] [1, 2, 4, 4, 5]
def p2_38 : Cf := mkP2 6 [-1, 0, 0, 0, 3, 3, 0, 0, 0] [0, 1, 1, 1, 2, 2, 0, 0, 0] [0, 0, 1, 3, 3, 4, 0, 0, 0] [5, 1, 3, 5, 4, 5, 0, 0, 0] [1, 2, 2, 4, 5]
def p2_39 : Cf := mkP2 6 [-1, 0, 0, 0, 3, 3, 0, 0, 0] [0, 1, 1, 1, 2, 2, 0, 0, 0] [0, 0, 2, 3, 3, 4, 0, 0, 0] [5, 2, 3, 5, 4, 5, 0, 0, 0] [1, 1, 2, 4, 5]
def p2_40 : Cf := mkP2 6 [-1, 0, 0, 1, 1, 1, 0, 0, 0] [0, 1, 1, 2, 2, 2, 0, 0, 0] [0, 0, 3, 0, 1, 2, 0, 0, 0] [5, 3, 5, 1, 2, 3, 0, 0, 0] [3, 4, 5, 2, 2]
def p2_41 : Cf := mkP2 6 [-1, 0, 0, 1, 1, 1, 0, 0, 0] [0, 1, 1, 2, 2, 2, 0, 0, 0] [0, 0, 4, 0, 1, 2, 0, 0, 0] [5, 4, 5, 1, 2, 4, 0, 0, 0] [3, 4, 5, 5, 2]
def p2_42 : Cf := mkP2 6 [-1, 0, 0, 1, 1, 1, 0, 0, 0] [0, 1, 1, 2, 2, 2, 0, 0, 0] [0, 0, 4, 0, 1, 3, 0, 0, 0] [5, 4, 5, 1, 3, 4, 0, 0, 0] [3, 4, 4, 5, 2]
def p2_43 : Cf := mkP2 6 [-1, 0, 0, 1, 1, 1, 0, 0, 0] [0, 1, 1, 2, 2, 2, 0, 0, 0] [0, 0, 4, 0, 2, 3, 0, 0, 0] [5, 4, 5, 2, 3, 4, 0, 0, 0] [3, 3, 4, 5, 2]
def p2_44 : Cf := mkP2 6 [-1, 0, 0, 2, 2, 2, 0, 0, 0] [0, 1, 1, 2, 2, 2, 0, 0, 0] [0, 0, 1, 1, 2, 3, 0, 0, 0] [5, 1, 5, 2, 3, 5, 0, 0, 0] [1, 3, 4, 5, 5]
def p2_45 : Cf := mkP2 6 [-1, 0, 0, 2, 2, 2, 0, 0, 0] [0, 1, 1, 2, 2, 2, 0, 0, 0] [0, 0, 1, 1, 2, 4, 0, 0, 0] [5, 1, 5, 2, 4, 5, 0, 0, 0] [1, 3, 4, 4, 5]
def p2_46 : Cf := mkP2 6 [-1, 0, 0, 2, 2, 2, 0, 0, 0] [0, 1, 1, 2, 2, 2, 0, 0, 0] [0, 0, 1, 1, 3, 4, 0, 0, 0] [5, 1, 5, 3, 4, 5, 0, 0, 0] [1, 3, 3, 4, 5]
def p2_47 : Cf := mkP2 6 [-1, 0, 0, 2, 2, 2, 0, 0, 0] [0, 1, 1, 2, 2, 2, 0, 0, 0] [0, 0, 2, 2, 3, 4, 0, 0, 0] [5, 2, 5, 3, 4, 5, 0, 0, 0] [1, 1, 3, 4, 5]
def p2_48 : Cf := mkP2 7 [-1, 0, 0, 0, 0, 1, 1, 0, 0] [0, 1, 1, 1, 1, 2, 2, 0, 0] [0, 0, 2, 3, 4, 0, 1, 0, 0] [5, 2, 3, 4, 5, 1, 2, 0, 0] [5, 6, 2, 3, 4]
def p2_49 : Cf := mkP2 7 [-1, 0, 0, 0, 0, 2, 2, 0, 0] [0, 1, 1, 1, 1, 2, 2, 0, 0] [0, 0, 1, 3, 4, 1, 2, 0, 0] [5, 1, 3, 4, 5, 2, 3, 0, 0] [1, 5, 6, 3, 4]
def p2_50 : Cf := mkP2 7 [-1, 0, 0, 0, 0, 3, 3, 0, 0] [0, 1, 1, 1, 1, 2, 2, 0, 0] [0, 0, 1, 2, 4, 2, 3, 0, 0] [5, 1, 2, 4, 5, 3, 4, 0, 0] [1, 2, 5, 6, 4]
def p2_51 : Cf := mkP2 7 [-1, 0, 0, 0, 0, 4, 4, 0, 0] [0, 1, 1, 1, 1, 2, 2, 0, 0] [0, 0, 1, 2, 3, 3, 4, 0, 0] [5, 1, 2, 3, 5, 4, 5, 0, 0] [1, 2, 3, 5, 6]
def p2_52 : Cf := mkP2 7 [-1, 0, 0, 0, 1, 1, 1, 0, 0] [0, 1, 1, 1, 2, 2, 2, 0, 0] [0, 0, 3, 4, 0, 1, 2, 0, 0] [5, 3, 4, 5, 1, 2, 3, 0, 0] [4, 5, 6, 2, 3]
def p2_53 : Cf := mkP2 7 [-1, 0, 0, 0, 2, 2, 2, 0, 0] [0, 1, 1, 1, 2, 2, 2, 0, 0] [0, 0, 1, 4, 1, 2, 3, 0, 0] [5, 1, 4, 5, 2, 3, 4, 0, 0] [1, 4, 5, 6, 3]
def p2_54 : Cf := mkP2 7 [-1, 0, 0, 0, 3, 3, 3, 0, 0] [0, 1, 1, 1, 2, 2, 2, 0, 0] [0, 0, 1, 2, 2, 3, 4, 0, 0] [5, 1, 2, 5, 3, 4, 5, 0, 0] [1, 2, 4, 5, 6]
def p2_55 : Cf := mkP2 7 [-1, 0, 0, 1, 1, 1, 1, 0, 0] [0, 1, 1, 2, 2, 2, 2, 0, 0] [0, 0, 4, 0, 1, 2, 3, 0, 0] [5, 4, 5, 1, 2, 3, 4, 0, 0] [3, 4, 5, 6, 2]
def p2_56 : Cf := mkP2 7 [-1, 0, 0, 2, 2, 2, 2, 0, 0] [0, 1, 1, 2, 2, 2, 2, 0, 0] [0, 0, 1, 1, 2, 3, 4, 0, 0] [5, 1, 5, 2, 3, 4, 5, 0, 0] [1, 3, 4, 5, 6]
def pat_2 : List Cf := [p2_0, p2_1, p2_2, p2_3, p2_4, p2_5, p2_6, p2_7, p2_8, p2_9, p2_10, p2_11, p2_12, p2_13, p2_14, p2_15, p2_16, p2_17, p2_18, p2_19, p2_20, p2_21, p2_22, p2_23, p2_24, p2_25, p2_26, p2_27, p2_28, p2_29, p2_30, p2_31, p2_32, p2_33, p2_34, p2_35, p2_36, p2_37, p2_38, p2_39, p2_40, p2_41, p2_42, p2_43, p2_44, p2_45, p2_46, p2_47, p2_48, p2_49, p2_50, p2_51, p2_52, p2_53, p2_54, p2_55, p2_56]
def tms (xs : List SV) : List Term := xs.map fun x => x.2
def obj (D : List Ob) (k : Nat) : List SV := match D[k]? with
  | some o => o.2
  | none => []
def keyAt (xs : List SV) : Term → Term
  | .int c => (match xs[c.toNatClampNeg]? with
    | some x => x.2
    | none => .null)
  | _ => .null
def n5 : List Term := [.null, .null, .null, .null, .null]
def nm_0 (cf : Cf) : List Term := pick cf.1 [0, 1, 2, 3, 4] ++ (n5 ++ (tms (obj cf.2.2.1 13) ++ (n5 ++ (n5 ++ tms (obj cf.2.2.1 12)))))
def nm_1 (cf : Cf) : List Term := pick cf.1 [0, 1, 2, 3, 4] ++ (tms (obj cf.2.2.1 6) ++ ((tms (obj cf.2.2.1 6)).map (keyAt (obj cf.2.2.1 13)) ++ (tms (obj cf.2.2.1 11) ++ tms (obj cf.2.2.1 10))))
def nm_2 (cf : Cf) : List Term := pick cf.1 [0, 1, 2, 3, 4] ++ (tms (obj cf.2.2.1 6) ++ pick cf.1 [9])
def fs_c0 : List Jvm.Cond := [.not (.lt (.add (.arg 10) (.int 1)) (.int 0)), .lt (.add (.arg 10) (.int 1)) (.int 4), .not (.lt (.add (.arg 11) (.int 1)) (.int 0)), .lt (.add (.arg 11) (.int 1)) (.int 4), .not (.lt (.add (.arg 12) (.int 1)) (.int 0)), .lt (.add (.arg 12) (.int 1)) (.int 4), .not (.lt (.add (.arg 13) (.int 1)) (.int 0)), .lt (.add (.arg 13) (.int 1)) (.int 4), .not (.lt (.add (.arg 14) (.int 1)) (.int 0)), .lt (.add (.arg 14) (.int 1)) (.int 4), .not (.lt (.add (.arg 25) (.int 1)) (.int 0)), .lt (.add (.arg 25) (.int 1)) (.int 4), .not (.lt (.add (.arg 26) (.int 1)) (.int 0)), .lt (.add (.arg 26) (.int 1)) (.int 4), .not (.lt (.add (.arg 27) (.int 1)) (.int 0)), .lt (.add (.arg 27) (.int 1)) (.int 4), .not (.lt (.add (.arg 28) (.int 1)) (.int 0)), .lt (.add (.arg 28) (.int 1)) (.int 4), .not (.lt (.add (.arg 29) (.int 1)) (.int 0)), .lt (.add (.arg 29) (.int 1)) (.int 4)]
def fs_c1 : List Jvm.Cond := [.not (.lt (.add (.arg 10) (.int 1)) (.int 0)), .lt (.add (.arg 10) (.int 1)) (.int 4), .not (.lt (.add (.arg 11) (.int 1)) (.int 0)), .lt (.add (.arg 11) (.int 1)) (.int 4), .not (.lt (.add (.arg 12) (.int 1)) (.int 0)), .lt (.add (.arg 12) (.int 1)) (.int 4), .not (.lt (.add (.arg 13) (.int 1)) (.int 0)), .lt (.add (.arg 13) (.int 1)) (.int 4), .not (.lt (.add (.arg 14) (.int 1)) (.int 0)), .lt (.add (.arg 14) (.int 1)) (.int 4)]
def z9 : List Int32 := [0, 0, 0, 0, 0, 0, 0, 0, 0]
def p0_0 : Cf := ([some (some (ia 0)), some (some (ia 1)), some (some (ia 2)), some (some (ia 3)), some (some (ia 4)), some (some (2, .index 0)), some (some (2, .index 12)), some (some (2, .index 13)), some (some (2, .index 14)), none, none, none, none, none, none, none], [],
  [bt 1, ar [-1, 0, 0, 0, 0, 0, 0, 0, 0], ar z9, ar [-1, 0, 0, 0, 0, 0, 0, 0, 0], ar z9, ar [5, 0, 0, 0, 0, 0, 0, 0, 0], ar [0, 1, 2, 3, 4], ar [0, 1, 2, 3, 4], ar [0, 0, 0, 0, 0], ar [-1, -1, -1, -1, -1, -1, -1, -1, -1, -1], ar [0, 0, 0, 0, 0], ar [0, 0, 0, 0, 0], (1, [ia 25, ia 26, ia 27, ia 28, ia 29]), (1, [ia 10, ia 11, ia 12, ia 13, ia 14]), ar [0, 0]], 104)
def ek (a b : Nat) : Jvm.Cond := .eq (.add (.arg a) (.int 1)) (.add (.arg b) (.int 1))

def k2 : Tst := cutM 1 7 3248 nm_2 [] pat_2
def k1 : Tst := cutM 1 7 3248 nm_1 fs_c1 pat_1
def k0 : Tst := cutM 1 7 3248 nm_0 fs_c0 [p0_0]
def mt1 : List Mt := (16, xcut cd_0 138 k2) :: mts.tail
def mt0 : List Mt := (16, xcut cd_0 128 k1) :: mts.tail
def mtS : List Mt := (16, xcut cd_0 106 k0) :: mts.tail
def mt1E : List MtF := (16, xcutF ce_0 138 k2, []) :: mtsE.tail
def mt0E : List MtF := (16, xcutF ce_0 128 k1, []) :: mtsE.tail
def mtSE : List MtF := (16, xcutF ce_0 106 k0, []) :: mtsE.tail
theorem rm1 : RelM mt1E mt1 := ⟨⟨rfl, xcutF_rel re_0, jn⟩, reM.2⟩
theorem rmA : RelM mt0E mt0 := ⟨⟨rfl, xcutF_rel re_0, jn⟩, reM.2⟩
theorem rmS : RelM mtSE mtS := ⟨⟨rfl, xcutF_rel re_0, jn⟩, reM.2⟩
set_option maxRecDepth 65536 in
theorem q2_0 : runP mtsE 40 320 6000 138 p2_0 [] 7 3248 = true := by decide +kernel
set_option maxRecDepth 65536 in
theorem q2_1 : runP mtsE 40 320 6000 138 p2_1 [] 7 3248 = true := by decide +kernel
set_option maxRecDepth 65536 in
theorem q2_2 : runP mtsE 40 320 6000 138 p2_2 [] 7 3248 = true := by decide +kernel
set_option maxRecDepth 65536 in
theorem q2_3 : runP mtsE 40 320 6000 138 p2_3 [] 7 3248 = true := by decide +kernel
set_option maxRecDepth 65536 in
theorem q2_4 : runP mtsE 40 320 6000 138 p2_4 [] 7 3248 = true := by decide +kernel
set_option maxRecDepth 65536 in
theorem q2_5 : runP mtsE 40 320 6000 138 p2_5 [] 7 3248 = true := by decide +kernel
set_option maxRecDepth 65536 in
theorem q2_6 : runP mtsE 40 320 6000 138 p2_6 [] 7 3248 = true := by decide +kernel
set_option maxRecDepth 65536 in
theorem q2_7 : runP mtsE 40 320 6000 138 p2_7 [] 7 3248 = true := by decide +kernel
set_option maxRecDepth 65536 in
theorem q2_8 : runP mtsE 40 320 6000 138 p2_8 [] 7 3248 = true := by decide +kernel
set_option maxRecDepth 65536 in
theorem q2_9 : runP mtsE 40 320 6000 138 p2_9 [] 7 3248 = true := by decide +kernel
set_option maxRecDepth 65536 in
theorem q2_10 : runP mtsE 40 320 6000 138 p2_10 [] 7 3248 = true := by decide +kernel
set_option maxRecDepth 65536 in
theorem q2_11 : runP mtsE 40 320 6000 138 p2_11 [] 7 3248 = true := by decide +kernel
set_option maxRecDepth 65536 in
theorem q2_12 : runP mtsE 40 320 6000 138 p2_12 [] 7 3248 = true := by decide +kernel
set_option maxRecDepth 65536 in
theorem q2_13 : runP mtsE 40 320 6000 138 p2_13 [] 7 3248 = true := by decide +kernel
set_option maxRecDepth 65536 in
theorem q2_14 : runP mtsE 40 320 6000 138 p2_14 [] 7 3248 = true := by decide +kernel
set_option maxRecDepth 65536 in
theorem q2_15 : runP mtsE 40 320 6000 138 p2_15 [] 7 3248 = true := by decide +kernel
set_option maxRecDepth 65536 in
theorem q2_16 : runP mtsE 40 320 6000 138 p2_16 [] 7 3248 = true := by decide +kernel
set_option maxRecDepth 65536 in
theorem q2_17 : runP mtsE 40 320 6000 138 p2_17 [] 7 3248 = true := by decide +kernel
set_option maxRecDepth 65536 in
theorem q2_18 : runP mtsE 40 320 6000 138 p2_18 [] 7 3248 = true := by decide +kernel
set_option maxRecDepth 65536 in
theorem q2_19 : runP mtsE 40 320 6000 138 p2_19 [] 7 3248 = true := by decide +kernel
set_option maxRecDepth 65536 in
theorem q2_20 : runP mtsE 40 320 6000 138 p2_20 [] 7 3248 = true := by decide +kernel
set_option maxRecDepth 65536 in
theorem q2_21 : runP mtsE 40 320 6000 138 p2_21 [] 7 3248 = true := by decide +kernel
set_option maxRecDepth 65536 in
theorem q2_22 : runP mtsE 40 320 6000 138 p2_22 [] 7 3248 = true := by decide +kernel
set_option maxRecDepth 65536 in
theorem q2_23 : runP mtsE 40 320 6000 138 p2_23 [] 7 3248 = true := by decide +kernel
set_option maxRecDepth 65536 in
theorem q2_24 : runP mtsE 40 320 6000 138 p2_24 [] 7 3248 = true := by decide +kernel
set_option maxRecDepth 65536 in
theorem q2_25 : runP mtsE 40 320 6000 138 p2_25 [] 7 3248 = true := by decide +kernel
set_option maxRecDepth 65536 in
theorem q2_26 : runP mtsE 40 320 6000 138 p2_26 [] 7 3248 = true := by decide +kernel
set_option maxRecDepth 65536 in
theorem q2_27 : runP mtsE 40 320 6000 138 p2_27 [] 7 3248 = true := by decide +kernel
set_option maxRecDepth 65536 in
theorem q2_28 : runP mtsE 40 320 6000 138 p2_28 [] 7 3248 = true := by decide +kernel
set_option maxRecDepth 65536 in
theorem q2_29 : runP mtsE 40 320 6000 138 p2_29 [] 7 3248 = true := by decide +kernel
set_option maxRecDepth 65536 in
theorem q2_30 : runP mtsE 40 320 6000 138 p2_30 [] 7 3248 = true := by decide +kernel
set_option maxRecDepth 65536 in
theorem q2_31 : runP mtsE 40 320 6000 138 p2_31 [] 7 3248 = true := by decide +kernel
set_option maxRecDepth 65536 in
theorem q2_32 : runP mtsE 40 320 6000 138 p2_32 [] 7 3248 = true := by decide +kernel
set_option maxRecDepth 65536 in
theorem q2_33 : runP mtsE 40 320 6000 138 p2_33 [] 7 3248 = true := by decide +kernel
set_option maxRecDepth 65536 in
theorem q2_34 : runP mtsE 40 320 6000 138 p2_34 [] 7 3248 = true := by decide +kernel
set_option maxRecDepth 65536 in
theorem q2_35 : runP mtsE 40 320 6000 138 p2_35 [] 7 3248 = true := by decide +kernel
set_option maxRecDepth 65536 in
theorem q2_36 : runP mtsE 40 320 6000 138 p2_36 [] 7 3248 = true := by decide +kernel
set_option maxRecDepth 65536 in
theorem q2_37 : runP mtsE 40 320 6000 138 p2_37 [] 7 3248 = true := by decide +kernel
set_option maxRecDepth 65536 in
theorem q2_38 : runP mtsE 40 320 6000 138 p2_38 [] 7 3248 = true := by decide +kernel
set_option maxRecDepth 65536 in
theorem q2_39 : runP mtsE 40 320 6000 138 p2_39 [] 7 3248 = true := by decide +kernel
set_option maxRecDepth 65536 in
theorem q2_40 : runP mtsE 40 320 6000 138 p2_40 [] 7 3248 = true := by decide +kernel
set_option maxRecDepth 65536 in
theorem q2_41 : runP mtsE 40 320 6000 138 p2_41 [] 7 3248 = true := by decide +kernel
set_option maxRecDepth 65536 in
theorem q2_42 : runP mtsE 40 320 6000 138 p2_42 [] 7 3248 = true := by decide +kernel
set_option maxRecDepth 65536 in
theorem q2_43 : runP mtsE 40 320 6000 138 p2_43 [] 7 3248 = true := by decide +kernel
set_option maxRecDepth 65536 in
theorem q2_44 : runP mtsE 40 320 6000 138 p2_44 [] 7 3248 = true := by decide +kernel
set_option maxRecDepth 65536 in
theorem q2_45 : runP mtsE 40 320 6000 138 p2_45 [] 7 3248 = true := by decide +kernel
set_option maxRecDepth 65536 in
theorem q2_46 : runP mtsE 40 320 6000 138 p2_46 [] 7 3248 = true := by decide +kernel
set_option maxRecDepth 65536 in
theorem q2_47 : runP mtsE 40 320 6000 138 p2_47 [] 7 3248 = true := by decide +kernel
set_option maxRecDepth 65536 in
theorem q2_48 : runP mtsE 40 320 6000 138 p2_48 [] 7 3248 = true := by decide +kernel
set_option maxRecDepth 65536 in
theorem q2_49 : runP mtsE 40 320 6000 138 p2_49 [] 7 3248 = true := by decide +kernel
set_option maxRecDepth 65536 in
theorem q2_50 : runP mtsE 40 320 6000 138 p2_50 [] 7 3248 = true := by decide +kernel
set_option maxRecDepth 65536 in
theorem q2_51 : runP mtsE 40 320 6000 138 p2_51 [] 7 3248 = true := by decide +kernel
set_option maxRecDepth 65536 in
theorem q2_52 : runP mtsE 40 320 6000 138 p2_52 [] 7 3248 = true := by decide +kernel
set_option maxRecDepth 65536 in
theorem q2_53 : runP mtsE 40 320 6000 138 p2_53 [] 7 3248 = true := by decide +kernel
set_option maxRecDepth 65536 in
theorem q2_54 : runP mtsE 40 320 6000 138 p2_54 [] 7 3248 = true := by decide +kernel
set_option maxRecDepth 65536 in
theorem q2_55 : runP mtsE 40 320 6000 138 p2_55 [] 7 3248 = true := by decide +kernel
set_option maxRecDepth 65536 in
theorem q2_56 : runP mtsE 40 320 6000 138 p2_56 [] 7 3248 = true := by decide +kernel
set_option maxRecDepth 65536 in
theorem q1_0a : runP mt1E 40 320 6000 128 p1_0 ((ek 12 10) :: (ek 11 10) :: fs_c1) 7 3248 = true := by decide +kernel
set_option maxRecDepth 65536 in
theorem q1_0b : runP mt1E 40 320 6000 128 p1_0 (Jvm.Cond.not (ek 12 10) :: (ek 11 10) :: fs_c1) 7 3248 = true := by decide +kernel
set_option maxRecDepth 65536 in
theorem q1_0c : runP mt1E 40 320 6000 128 p1_0 ((ek 12 10) :: Jvm.Cond.not (ek 11 10) :: fs_c1) 7 3248 = true := by decide +kernel
set_option maxRecDepth 65536 in
theorem q1_0d : runP mt1E 40 320 6000 128 p1_0 ((ek 12 11) :: Jvm.Cond.not (ek 12 10) :: Jvm.Cond.not (ek 11 10) :: fs_c1) 7 3248 = true := by decide +kernel
set_option maxRecDepth 65536 in
theorem q1_0e : runP mt1E 40 320 6000 128 p1_0 (Jvm.Cond.not (ek 12 11) :: Jvm.Cond.not (ek 12 10) :: Jvm.Cond.not (ek 11 10) :: fs_c1) 7 3248 = true := by decide +kernel
set_option maxRecDepth 65536 in
theorem q1_1 : runP mt1E 40 320 6000 128 p1_1 fs_c1 7 3248 = true := by decide +kernel
set_option maxRecDepth 65536 in
theorem q1_2 : runP mt1E 40 320 6000 128 p1_2 fs_c1 7 3248 = true := by decide +kernel
set_option maxRecDepth 65536 in
theorem q1_3 : runP mt1E 40 320 6000 128 p1_3 fs_c1 7 3248 = true := by decide +kernel
set_option maxRecDepth 65536 in
theorem q1_4 : runP mt1E 40 320 6000 128 p1_4 fs_c1 7 3248 = true := by decide +kernel
set_option maxRecDepth 65536 in
theorem q1_5 : runP mt1E 40 320 6000 128 p1_5 fs_c1 7 3248 = true := by decide +kernel
set_option maxRecDepth 65536 in
theorem q1_6 : runP mt1E 40 320 6000 128 p1_6 fs_c1 7 3248 = true := by decide +kernel
set_option maxRecDepth 65536 in
theorem q1_7 : runP mt1E 40 320 6000 128 p1_7 fs_c1 7 3248 = true := by decide +kernel
set_option maxRecDepth 65536 in
theorem q1_8 : runP mt1E 40 320 6000 128 p1_8 fs_c1 7 3248 = true := by decide +kernel
set_option maxRecDepth 65536 in
theorem q1_9 : runP mt1E 40 320 6000 128 p1_9 fs_c1 7 3248 = true := by decide +kernel
set_option maxRecDepth 65536 in
theorem q1_10 : runP mt1E 40 320 6000 128 p1_10 fs_c1 7 3248 = true := by decide +kernel
set_option maxRecDepth 65536 in
theorem q1_11 : runP mt1E 40 320 6000 128 p1_11 fs_c1 7 3248 = true := by decide +kernel
set_option maxRecDepth 65536 in
theorem q1_12 : runP mt1E 40 320 6000 128 p1_12 fs_c1 7 3248 = true := by decide +kernel
set_option maxRecDepth 65536 in
theorem q1_13 : runP mt1E 40 320 6000 128 p1_13 fs_c1 7 3248 = true := by decide +kernel
set_option maxRecDepth 65536 in
theorem q1_14 : runP mt1E 40 320 6000 128 p1_14 fs_c1 7 3248 = true := by decide +kernel
set_option maxRecDepth 65536 in
theorem q1_15 : runP mt1E 40 320 6000 128 p1_15 fs_c1 7 3248 = true := by decide +kernel
set_option maxRecDepth 65536 in
theorem q1_16 : runP mt1E 40 320 6000 128 p1_16 fs_c1 7 3248 = true := by decide +kernel
set_option maxRecDepth 65536 in
theorem q1_17 : runP mt1E 40 320 6000 128 p1_17 fs_c1 7 3248 = true := by decide +kernel
set_option maxRecDepth 65536 in
theorem q1_18 : runP mt1E 40 320 6000 128 p1_18 fs_c1 7 3248 = true := by decide +kernel
set_option maxRecDepth 65536 in
theorem q1_19 : runP mt1E 40 320 6000 128 p1_19 fs_c1 7 3248 = true := by decide +kernel
set_option maxRecDepth 65536 in
theorem q1_20 : runP mt1E 40 320 6000 128 p1_20 fs_c1 7 3248 = true := by decide +kernel
set_option maxRecDepth 65536 in
theorem q1_21 : runP mt1E 40 320 6000 128 p1_21 fs_c1 7 3248 = true := by decide +kernel
set_option maxRecDepth 65536 in
theorem q1_22 : runP mt1E 40 320 6000 128 p1_22 fs_c1 7 3248 = true := by decide +kernel
set_option maxRecDepth 65536 in
theorem q1_23 : runP mt1E 40 320 6000 128 p1_23 fs_c1 7 3248 = true := by decide +kernel
set_option maxRecDepth 65536 in
theorem q1_24 : runP mt1E 40 320 6000 128 p1_24 fs_c1 7 3248 = true := by decide +kernel
set_option maxRecDepth 65536 in
theorem q1_25 : runP mt1E 40 320 6000 128 p1_25 fs_c1 7 3248 = true := by decide +kernel
set_option maxRecDepth 65536 in
theorem q1_26 : runP mt1E 40 320 6000 128 p1_26 fs_c1 7 3248 = true := by decide +kernel
set_option maxRecDepth 65536 in
theorem q1_27 : runP mt1E 40 320 6000 128 p1_27 fs_c1 7 3248 = true := by decide +kernel
set_option maxRecDepth 65536 in
theorem q1_28 : runP mt1E 40 320 6000 128 p1_28 fs_c1 7 3248 = true := by decide +kernel
set_option maxRecDepth 65536 in
theorem q1_29 : runP mt1E 40 320 6000 128 p1_29 fs_c1 7 3248 = true := by decide +kernel
set_option maxRecDepth 65536 in
theorem q1_30 : runP mt1E 40 320 6000 128 p1_30 fs_c1 7 3248 = true := by decide +kernel
set_option maxRecDepth 65536 in
theorem q1_31 : runP mt1E 40 320 6000 128 p1_31 fs_c1 7 3248 = true := by decide +kernel
set_option maxRecDepth 65536 in
theorem q1_32 : runP mt1E 40 320 6000 128 p1_32 fs_c1 7 3248 = true := by decide +kernel
set_option maxRecDepth 65536 in
theorem q1_33 : runP mt1E 40 320 6000 128 p1_33 fs_c1 7 3248 = true := by decide +kernel
set_option maxRecDepth 65536 in
theorem q1_34 : runP mt1E 40 320 6000 128 p1_34 fs_c1 7 3248 = true := by decide +kernel
set_option maxRecDepth 65536 in
theorem q1_35 : runP mt1E 40 320 6000 128 p1_35 fs_c1 7 3248 = true := by decide +kernel
set_option maxRecDepth 65536 in
theorem q1_36 : runP mt1E 40 320 6000 128 p1_36 fs_c1 7 3248 = true := by decide +kernel
set_option maxRecDepth 65536 in
theorem q1_37 : runP mt1E 40 320 6000 128 p1_37 fs_c1 7 3248 = true := by decide +kernel
set_option maxRecDepth 65536 in
theorem q1_38 : runP mt1E 40 320 6000 128 p1_38 fs_c1 7 3248 = true := by decide +kernel
set_option maxRecDepth 65536 in
theorem q1_39 : runP mt1E 40 320 6000 128 p1_39 fs_c1 7 3248 = true := by decide +kernel
set_option maxRecDepth 65536 in
theorem q1_40 : runP mt1E 40 320 6000 128 p1_40 fs_c1 7 3248 = true := by decide +kernel
set_option maxRecDepth 65536 in
theorem q1_41 : runP mt1E 40 320 6000 128 p1_41 fs_c1 7 3248 = true := by decide +kernel
set_option maxRecDepth 65536 in
theorem q1_42 : runP mt1E 40 320 6000 128 p1_42 fs_c1 7 3248 = true := by decide +kernel
set_option maxRecDepth 65536 in
theorem q1_43 : runP mt1E 40 320 6000 128 p1_43 fs_c1 7 3248 = true := by decide +kernel
set_option maxRecDepth 65536 in
theorem q1_44 : runP mt1E 40 320 6000 128 p1_44 fs_c1 7 3248 = true := by decide +kernel
set_option maxRecDepth 65536 in
theorem q1_45 : runP mt1E 40 320 6000 128 p1_45 fs_c1 7 3248 = true := by decide +kernel
set_option maxRecDepth 65536 in
theorem q1_46 : runP mt1E 40 320 6000 128 p1_46 fs_c1 7 3248 = true := by decide +kernel
set_option maxRecDepth 65536 in
theorem q1_47 : runP mt1E 40 320 6000 128 p1_47 fs_c1 7 3248 = true := by decide +kernel
set_option maxRecDepth 65536 in
theorem q0_0a : runP mt0E 40 320 6000 106 p0_0 ((ek 27 25) :: (ek 26 25) :: fs_c0) 7 3248 = true := by decide +kernel
set_option maxRecDepth 65536 in
theorem q0_0b : runP mt0E 40 320 6000 106 p0_0 (Jvm.Cond.not (ek 27 25) :: (ek 26 25) :: fs_c0) 7 3248 = true := by decide +kernel
set_option maxRecDepth 65536 in
theorem q0_0c : runP mt0E 40 320 6000 106 p0_0 ((ek 27 25) :: Jvm.Cond.not (ek 26 25) :: fs_c0) 7 3248 = true := by decide +kernel
set_option maxRecDepth 65536 in
theorem q0_0d : runP mt0E 40 320 6000 106 p0_0 ((ek 27 26) :: Jvm.Cond.not (ek 27 25) :: Jvm.Cond.not (ek 26 25) :: fs_c0) 7 3248 = true := by decide +kernel
set_option maxRecDepth 65536 in
theorem q0_0e : runP mt0E 40 320 6000 106 p0_0 (Jvm.Cond.not (ek 27 26) :: Jvm.Cond.not (ek 27 25) :: Jvm.Cond.not (ek 26 25) :: fs_c0) 7 3248 = true := by decide +kernel
def pS : Cf := (entL xs0 16, [], [], 0)
set_option maxRecDepth 65536 in
theorem qS : runP mtSE 40 320 6000 0 pS [] 7 3248 = true := by decide +kernel
theorem fa_nil {P : Cf → Prop} : ∀ c ∈ ([] : List Cf), P c := fun _ h => nomatch h
theorem fa_cons {P : Cf → Prop} {a : Cf} {t : List Cf} (h : P a) (ht : ∀ c ∈ t, P c) : ∀ c ∈ a :: t, P c := fun c hc => (List.mem_cons.mp hc).elim (fun q => q ▸ h) (ht c)
theorem emF {T : En → Prop} (c : Jvm.Cond) (F : List Jvm.Cond) (h1 : ∀ A, holds A (c :: F) → T A) (h2 : ∀ A, holds A (Jvm.Cond.not c :: F) → T A) : ∀ A, holds A F → T A := fun A h => by
  by_cases q : hold A c
  · exact h1 A (holds_cons q h)
  · exact h2 A (holds_cons (show hold A (Jvm.Cond.not c) from q) h)
theorem run_at {l : Launch} {Z : State} {hz : Heap} {O : Nat → Addr} {ME : List MtF} {M : List Mt} {cdl : List El} {pc : Nat} {c : Cf} {F : List Jvm.Cond} (hR : RelM ME M) (hM : ∀ A, MtOk l Z hz shp A O 40 320 M mis) (hj : M[0]? = some (16, cdl)) (h : runP ME 40 320 6000 pc c F 7 3248 = true) :
    ∀ A, holds A F → Top l Z hz shp A O x code 16 ret 40 320 7 3248 pc c := fun A hF =>
  top_ok (MI := mis) (P := []) (hM A) hj (runP_ok hR hj h) hF (fun _ h => nomatch h)
theorem top2 {l : Launch} {Z : State} {hz : Heap} {O : Nat → Addr} {a0 : Array Value} (hw : ∀ d ∈ tables_1, d.before a0 Z = true) (hzZ : hz = Z.heap) (hO0 : O 0 = lamO Z (⟨"org/distinguo/identify/BlockTree", "<init>", "(II)V"⟩ : MethodName) 101 49 sig_0) (hO1 : O 1 = lamO Z (⟨"org/distinguo/identify/BlockTree", "<init>", "(II)V"⟩ : MethodName) 113 59 sig_1) : ∀ c ∈ pat_2, ∀ A, holds A [] → Top l Z hz shp A O x code 16 ret 40 320 7 3248 138 c := by
  have hM : ∀ A, MtOk l Z hz shp A O 40 320 mts mis := fun A => mok hw hzZ hO0 hO1
  unfold pat_2
  refine fa_cons (run_at reM hM rfl q2_0) ?_
  refine fa_cons (run_at reM hM rfl q2_1) ?_
  refine fa_cons (run_at reM hM rfl q2_2) ?_
  refine fa_cons (run_at reM hM rfl q2_3) ?_
  refine fa_cons (run_at reM hM rfl q2_4) ?_
  refine fa_cons (run_at reM hM rfl q2_5) ?_
  refine fa_cons (run_at reM hM rfl q2_6) ?_
  refine fa_cons (run_at reM hM rfl q2_7) ?_
  refine fa_cons (run_at reM hM rfl q2_8) ?_
  refine fa_cons (run_at reM hM rfl q2_9) ?_
  refine fa_cons (run_at reM hM rfl q2_10) ?_
  refine fa_cons (run_at reM hM rfl q2_11) ?_
  refine fa_cons (run_at reM hM rfl q2_12) ?_
  refine fa_cons (run_at reM hM rfl q2_13) ?_
  refine fa_cons (run_at reM hM rfl q2_14) ?_
  refine fa_cons (run_at reM hM rfl q2_15) ?_
  refine fa_cons (run_at reM hM rfl q2_16) ?_
  refine fa_cons (run_at reM hM rfl q2_17) ?_
  refine fa_cons (run_at reM hM rfl q2_18) ?_
  refine fa_cons (run_at reM hM rfl q2_19) ?_
  refine fa_cons (run_at reM hM rfl q2_20) ?_
  refine fa_cons (run_at reM hM rfl q2_21) ?_
  refine fa_cons (run_at reM hM rfl q2_22) ?_
  refine fa_cons (run_at reM hM rfl q2_23) ?_
  refine fa_cons (run_at reM hM rfl q2_24) ?_
  refine fa_cons (run_at reM hM rfl q2_25) ?_
  refine fa_cons (run_at reM hM rfl q2_26) ?_
  refine fa_cons (run_at reM hM rfl q2_27) ?_
  refine fa_cons (run_at reM hM rfl q2_28) ?_
  refine fa_cons (run_at reM hM rfl q2_29) ?_
  refine fa_cons (run_at reM hM rfl q2_30) ?_
  refine fa_cons (run_at reM hM rfl q2_31) ?_
  refine fa_cons (run_at reM hM rfl q2_32) ?_
  refine fa_cons (run_at reM hM rfl q2_33) ?_
  refine fa_cons (run_at reM hM rfl q2_34) ?_
  refine fa_cons (run_at reM hM rfl q2_35) ?_
  refine fa_cons (run_at reM hM rfl q2_36) ?_
  refine fa_cons (run_at reM hM rfl q2_37) ?_
  refine fa_cons (run_at reM hM rfl q2_38) ?_
  refine fa_cons (run_at reM hM rfl q2_39) ?_
  refine fa_cons (run_at reM hM rfl q2_40) ?_
  refine fa_cons (run_at reM hM rfl q2_41) ?_
  refine fa_cons (run_at reM hM rfl q2_42) ?_
  refine fa_cons (run_at reM hM rfl q2_43) ?_
  refine fa_cons (run_at reM hM rfl q2_44) ?_
  refine fa_cons (run_at reM hM rfl q2_45) ?_
  refine fa_cons (run_at reM hM rfl q2_46) ?_
  refine fa_cons (run_at reM hM rfl q2_47) ?_
  refine fa_cons (run_at reM hM rfl q2_48) ?_
  refine fa_cons (run_at reM hM rfl q2_49) ?_
  refine fa_cons (run_at reM hM rfl q2_50) ?_
  refine fa_cons (run_at reM hM rfl q2_51) ?_
  refine fa_cons (run_at reM hM rfl q2_52) ?_
  refine fa_cons (run_at reM hM rfl q2_53) ?_
  refine fa_cons (run_at reM hM rfl q2_54) ?_
  refine fa_cons (run_at reM hM rfl q2_55) ?_
  refine fa_cons (run_at reM hM rfl q2_56) ?_
  exact fa_nil
theorem top1 {l : Launch} {Z : State} {hz : Heap} {O : Nat → Addr} {a0 : Array Value} (hw : ∀ d ∈ tables_1, d.before a0 Z = true) (hzZ : hz = Z.heap) (hO0 : O 0 = lamO Z (⟨"org/distinguo/identify/BlockTree", "<init>", "(II)V"⟩ : MethodName) 101 49 sig_0) (hO1 : O 1 = lamO Z (⟨"org/distinguo/identify/BlockTree", "<init>", "(II)V"⟩ : MethodName) 113 59 sig_1) : ∀ c ∈ pat_1, ∀ A, holds A fs_c1 → Top l Z hz shp A O x code 16 ret 40 320 7 3248 128 c := by
  have hM : ∀ A, MtOk l Z hz shp A O 40 320 mt1 mis := fun A => mt_cut (mok hw hzZ hO0 hO1) (cutM_ok rfl rfl (top2 hw hzZ hO0 hO1))
  unfold pat_1
  refine fa_cons (emF (ek 11 10) _ (emF (ek 12 10) _ (run_at rm1 (hM) rfl q1_0a) (run_at rm1 (hM) rfl q1_0b)) (emF (ek 12 10) _ (run_at rm1 (hM) rfl q1_0c) (emF (ek 12 11) _ (run_at rm1 (hM) rfl q1_0d) (run_at rm1 (hM) rfl q1_0e)))) ?_
  refine fa_cons (run_at rm1 hM rfl q1_1) ?_
  refine fa_cons (run_at rm1 hM rfl q1_2) ?_
  refine fa_cons (run_at rm1 hM rfl q1_3) ?_
  refine fa_cons (run_at rm1 hM rfl q1_4) ?_
  refine fa_cons (run_at rm1 hM rfl q1_5) ?_
  refine fa_cons (run_at rm1 hM rfl q1_6) ?_
  refine fa_cons (run_at rm1 hM rfl q1_7) ?_
  refine fa_cons (run_at rm1 hM rfl q1_8) ?_
  refine fa_cons (run_at rm1 hM rfl q1_9) ?_
  refine fa_cons (run_at rm1 hM rfl q1_10) ?_
  refine fa_cons (run_at rm1 hM rfl q1_11) ?_
  refine fa_cons (run_at rm1 hM rfl q1_12) ?_
  refine fa_cons (run_at rm1 hM rfl q1_13) ?_
  refine fa_cons (run_at rm1 hM rfl q1_14) ?_
  refine fa_cons (run_at rm1 hM rfl q1_15) ?_
  refine fa_cons (run_at rm1 hM rfl q1_16) ?_
  refine fa_cons (run_at rm1 hM rfl q1_17) ?_
  refine fa_cons (run_at rm1 hM rfl q1_18) ?_
  refine fa_cons (run_at rm1 hM rfl q1_19) ?_
  refine fa_cons (run_at rm1 hM rfl q1_20) ?_
  refine fa_cons (run_at rm1 hM rfl q1_21) ?_
  refine fa_cons (run_at rm1 hM rfl q1_22) ?_
  refine fa_cons (run_at rm1 hM rfl q1_23) ?_
  refine fa_cons (run_at rm1 hM rfl q1_24) ?_
  refine fa_cons (run_at rm1 hM rfl q1_25) ?_
  refine fa_cons (run_at rm1 hM rfl q1_26) ?_
  refine fa_cons (run_at rm1 hM rfl q1_27) ?_
  refine fa_cons (run_at rm1 hM rfl q1_28) ?_
  refine fa_cons (run_at rm1 hM rfl q1_29) ?_
  refine fa_cons (run_at rm1 hM rfl q1_30) ?_
  refine fa_cons (run_at rm1 hM rfl q1_31) ?_
  refine fa_cons (run_at rm1 hM rfl q1_32) ?_
  refine fa_cons (run_at rm1 hM rfl q1_33) ?_
  refine fa_cons (run_at rm1 hM rfl q1_34) ?_
  refine fa_cons (run_at rm1 hM rfl q1_35) ?_
  refine fa_cons (run_at rm1 hM rfl q1_36) ?_
  refine fa_cons (run_at rm1 hM rfl q1_37) ?_
  refine fa_cons (run_at rm1 hM rfl q1_38) ?_
  refine fa_cons (run_at rm1 hM rfl q1_39) ?_
  refine fa_cons (run_at rm1 hM rfl q1_40) ?_
  refine fa_cons (run_at rm1 hM rfl q1_41) ?_
  refine fa_cons (run_at rm1 hM rfl q1_42) ?_
  refine fa_cons (run_at rm1 hM rfl q1_43) ?_
  refine fa_cons (run_at rm1 hM rfl q1_44) ?_
  refine fa_cons (run_at rm1 hM rfl q1_45) ?_
  refine fa_cons (run_at rm1 hM rfl q1_46) ?_
  refine fa_cons (run_at rm1 hM rfl q1_47) ?_
  exact fa_nil
theorem topA {l : Launch} {Z : State} {hz : Heap} {O : Nat → Addr} {a0 : Array Value} (hw : ∀ d ∈ tables_1, d.before a0 Z = true) (hzZ : hz = Z.heap) (hO0 : O 0 = lamO Z (⟨"org/distinguo/identify/BlockTree", "<init>", "(II)V"⟩ : MethodName) 101 49 sig_0) (hO1 : O 1 = lamO Z (⟨"org/distinguo/identify/BlockTree", "<init>", "(II)V"⟩ : MethodName) 113 59 sig_1) : ∀ c ∈ [p0_0], ∀ A, holds A fs_c0 → Top l Z hz shp A O x code 16 ret 40 320 7 3248 106 c := by
  have hM : ∀ A, MtOk l Z hz shp A O 40 320 mt0 mis := fun A => mt_cut (mok hw hzZ hO0 hO1) (cutM_ok rfl rfl (top1 hw hzZ hO0 hO1))
  refine fa_cons (emF (ek 26 25) _ (emF (ek 27 25) _ (run_at rmA (hM) rfl q0_0a) (run_at rmA (hM) rfl q0_0b)) (emF (ek 27 25) _ (run_at rmA (hM) rfl q0_0c) (emF (ek 27 26) _ (run_at rmA (hM) rfl q0_0d) (run_at rmA (hM) rfl q0_0e)))) ?_
  exact fa_nil
theorem top_0 {l : Launch} {Z : State} {hz : Heap} {O : Nat → Addr} {a0 : Array Value} (hw : ∀ d ∈ tables_1, d.before a0 Z = true) (hzZ : hz = Z.heap) (hO0 : O 0 = lamO Z (⟨"org/distinguo/identify/BlockTree", "<init>", "(II)V"⟩ : MethodName) 101 49 sig_0) (hO1 : O 1 = lamO Z (⟨"org/distinguo/identify/BlockTree", "<init>", "(II)V"⟩ : MethodName) 113 59 sig_1) (A : En) (hF : holds A []) : Top l Z hz shp A O x code 16 ret 40 320 7 3248 0 (entL xs0 16, [], [], 0) :=
  run_at rmS (M := mtS) (c := pS) (F := []) (fun A => mt_cut (mok hw hzZ hO0 hO1) (cutM_ok rfl rfl (topA hw hzZ hO0 hO1))) rfl qS A hF
def Oz (Z : State) : Nat → Addr
  | 0 => lamO Z (⟨"org/distinguo/identify/BlockTree", "<init>", "(II)V"⟩ : MethodName) 101 49 sig_0
  | _ => lamO Z (⟨"org/distinguo/identify/BlockTree", "<init>", "(II)V"⟩ : MethodName) 113 59 sig_1
theorem rm0 (l : Launch) (Z : State) (a0 : Array Value) (hw : ∀ d ∈ tables_1, d.before a0 Z = true) (ws : List Jvm.Cond) (p0 : Int32) (p1 : Int32) (p2 : Int32) (p3 : Int32) (p4 : Int32) (h0 : Heap) (hh : h0 = Z.heap) :
    MetFree l x (head1 (Jvm.Cond.code x code maxLocals ret :: ws) room_1) (fun a U => a = #[(.int p0), (.int p1), (.int p2), (.int p3), (.int p4)] ∧ (Z.Warmed39 U.vm ∧ Z.WarmedH U.vm) ∧ U.heap = h0) (fun _ _ _ _ _ => True) (fun _ U o U' => ∃ v L, o = .returned v ∧ (v = some (.int 1) ∧ Fr h0.size L) ∧ FrameEnd U o U' L 40 320) :=
  law_ok (sh := shp) (A := env p0 p1 p2 p3 p4) (O := Oz Z) (xs := xs0) (top_0 hw hh rfl rfl _ (fun _ h => nomatch h)) pl_0 ws room_1 rfl
set_option maxRecDepth 65536 in
set_option maxHeartbeats 4000000 in
theorem comes_1 {Post : Tables → Env → Array Value → State → Outcome → State → Prop} (hpost : ∀ tb e args s v u, (limb_1_1.after args s (.returned v) u = true ∧ limb_1_2.after args s (.returned v) u = true ∧ True) → FrameEnd s (.returned v) u (Jvm.fieldLocs frame_1_writes args s ++ Jvm.arrayLocs frame_1_arrays args s ++ Jvm.staticLocs frame_1_statics s) 40 320 → Post tb e args s (.returned v) u) :
    ArmFor flags0 classFile x code maxLocals ret World_1 tables_1 room_1 Calls_1 rest_1 Pre_1 Post := by
  intro l hfl _ _ p e ha hc hk s m args below hf hA hF happ hP
  obtain ⟨hcalls, hrest, hpre⟩ := hP
  obtain ⟨-, -, -, hnamed, -, -, -, hat⟩ := (Spec.applies_iff hf).mp happ
  obtain ⟨hg, hn⟩ := and_e (Cond.before_iff.mp (show (Jvm.Cond.and given_1 narrow_1).before args s = true from hpre))
  obtain ⟨g1, g2⟩ := and_e hg
  obtain ⟨g3, g4⟩ := and_e g2
  obtain ⟨g5, g6⟩ := and_e g4
  obtain ⟨g7, g8⟩ := and_e g6
  obtain ⟨g9, g10⟩ := and_e g8
  obtain ⟨w0, w1, w2, w3, w4, rfl⟩ : ∃ w0 w1 w2 w3 w4 : Value, args = #[w0, w1, w2, w3, w4] := by
    have hs : args.size = 5 := by simpa [Cond.value, given_1] using g1
    obtain ⟨L⟩ := args
    match L, hs with
    | [w0, w1, w2, w3, w4], _ => exact ⟨w0, w1, w2, w3, w4, rfl⟩
  have hw := fun d (hd : d ∈ tables_1) => atoms_spec (ws := Jvm.Cond.code x code maxLocals ret :: tables_1) hat d (List.mem_cons_of_mem _ hd)
  obtain ⟨i0, ei0⟩ := is_v g3
  obtain rfl : w0 = (.int i0) := Option.some.inj ei0
  obtain ⟨i1, ei1⟩ := is_v g5
  obtain rfl : w1 = (.int i1) := Option.some.inj ei1
  obtain ⟨i2, ei2⟩ := is_v g7
  obtain rfl : w2 = (.int i2) := Option.some.inj ei2
  obtain ⟨i3, ei3⟩ := is_v g9
  obtain rfl : w3 = (.int i3) := Option.some.inj ei3
  obtain ⟨i4, ei4⟩ := is_v g10
  obtain rfl : w4 = (.int i4) := Option.some.inj ei4
  obtain ⟨n, o, h1, h2, h3, _, L, rfl, ⟨rfl, N⟩, hq⟩ := rm0 l s _ hw tables_1 i0 i1 i2 i3 i4 s.heap rfl p e ha hc hk s m _ below hf ((Spec.applies_iff_loose hf).mp happ).1 ⟨rfl, ⟨State.Warmed39.refl s, State.WarmedH.refl s⟩, rfl⟩ trivial
  refine ⟨n, _, h1, h2, h3, hpost _ _ _ _ _ _ ⟨Cond.after_iff.mpr rfl, Cond.after_iff.mpr (eq_i res_at (Term.int_eval (1)) rfl), trivial⟩ ⟨hq.1, hq.2.1, (hq.2.2.sift fun y hy => Or.inr (N y hy)).mono (by decide) (by decide)⟩⟩
theorem main_1_1 : Claimed_1_1 := comes_1 fun _ _ _ _ _ _ h hF => ⟨h.1, wide hF⟩
theorem main_1_2 : Claimed_1_2 := comes_1 fun _ _ _ _ _ _ h hF => ⟨h.2.1, wide hF⟩
end Jvm.Pilot.@@N@@
namespace Jvm.Pilot.@@N@@
open Jvm Jvm.ClassFile Sem Op Lib Jvm.Free Jvm.Stand Jvm.Pilot.@@N@@.Jvm.D
/-! MADE BY PROGRAM (witnessworld.py) out of the Statement's table words and the real class files: 16 classes; the members and pool entries that the words name. The judged class is class 1, her method 2. -/
namespace start1
open Jvm.ClassFile
def u (s : String) : CpInfo := .utf8 (stringToUtf16 s)
/-- a pool by its gaps: so many unusable entries, then the entry; so many at the end -/
def gap : Nat → List CpInfo → List CpInfo
  | 0, r => r
  | n + 1, r => .unusable :: gap n r
def poolList (es : List (Nat × CpInfo)) (last : Nat) : List CpInfo := es.foldr (fun e r => gap e.1 (e.2 :: r)) (gap last [])
def pool (es : List (Nat × CpInfo)) (last : Nat) : Array CpInfo := ⟨poolList es last⟩
def fileOf (pool : Array CpInfo) (this : Nat) (attrs : Array Attribute := #[]) (ms : Array MethodInfo := #[]) (fl : Nat := 33) (sup : Nat := 0) (ifs : Array Nat := #[]) (fds : Array FieldInfo := #[]) : ClassFile where
  minorVersion := 0
  majorVersion := 65
  constantPool := pool
  accessFlags := fl
  thisClass := this
  superClass := sup
  interfaces := ifs
  fields := fds
  methods := ms
  attributes := attrs
def plain (name : String) (sup : Option ClassId) : Class where
  name := name
  kind := .ordinary
  loader := none
  accessFlags := 33
  super := sup
  interfaces := #[]
  cf := none
  fields := #[]
  methods := #[]
  instanceTypes := #[]
  staticTypes := #[]
  resolved := #[]
  callSites := []
  init := .initialized
  statics := none
  mirror := none

def pool0 : Array CpInfo := pool [(5, u "<init>"), (0, u "()V"), (1, .class_ 10), (1, u "java/lang/Object")] 113

def k0c0 : Code := { maxStack := 0, maxLocals := 1, code := object_method_1_code, exceptionTable := #[], attributes := #[] }
def k0m0 : Method := { name := "<init>", desc := "()V", sig := { parameters := [], returnType := none }, accessFlags := 1, code := some k0c0 }
/-- java/lang/Object -/
def k0 : Class := { plain "java/lang/Object" none with
  accessFlags := 33
  interfaces := #[]
  cf := some (fileOf pool0 8 #[] #[{ accessFlags := 1, nameIndex := 5, descriptorIndex := 6, attributes := #[] }] 33 0 #[] #[])
  fields := #[]
  methods := #[k0m0]
  instanceTypes := #[]
  staticTypes := #[]
  resolved := Array.replicate 124 none
  statics := none }

def pool1 : Array CpInfo := pool [(2, .class_ 4), (1, u "java/lang/Object"), (0, u "<init>"), (0, u "()V"), (0, .class_ 8), (0, u "org/distinguo/identify/BlockTree"), (0, .methodref 7 10), (0, .nameAndType 5 11), (0, u "(II)V"), (0, .methodref 13 14), (0, .class_ 15), (0, .nameAndType 16 17), (0, u "org/distinguo/identify/BlockTreeCommonAncestorPinLaw"), (0, u "key"), (0, u "(II)I"), (0, .methodref 7 19), (0, .nameAndType 20 21), (0, u "split"), (0, u "(I[I)Z"), (0, .integer 2147483647), (0, .methodref 7 24), (0, .nameAndType 25 26), (0, u "leafOf"), (0, u "(I)I"), (0, .methodref 7 28), (0, .nameAndType 29 30), (0, u "nodeCount"), (0, u "()I"), (0, .methodref 7 32), (0, .nameAndType 33 26), (0, u "first"), (0, .methodref 35 36), (0, .class_ 37), (0, .nameAndType 38 17), (0, u "java/lang/Math"), (0, u "min"), (0, .methodref 7 40), (0, .nameAndType 41 26), (0, u "end"), (0, .methodref 35 43), (0, .nameAndType 44 17), (0, u "max"), (0, .methodref 7 46), (0, .nameAndType 47 26), (0, u "stateAt"), (0, .methodref 7 49), (0, .nameAndType 50 51), (0, u "deepestHolding"), (0, u "([II)I"), (0, .methodref 7 53), (0, .nameAndType 54 17), (0, u "commonAncestor"), (2, u "law"), (0, u "(IIIII)Z")] 5

def k1m0 : Method := { name := "<init>", desc := "()V", sig := { parameters := [], returnType := none }, accessFlags := 1, code := none }
def k1c1 : Code := { maxStack := 3, maxLocals := 2, code := method_2_code, exceptionTable := #[], attributes := #[] }
def k1m1 : Method := { name := "key", desc := "(II)I", sig := { parameters := [.int, .int], returnType := some .int }, accessFlags := 10, code := some k1c1 }
def k1c2 : Code := { maxStack := 5, maxLocals := 16, code := code, exceptionTable := #[], attributes := #[] }
def k1m2 : Method := { name := "law", desc := "(IIIII)Z", sig := { parameters := [.int, .int, .int, .int, .int], returnType := some .boolean }, accessFlags := 9, code := some k1c2 }
/-- org/distinguo/identify/BlockTreeCommonAncestorPinLaw -/
def k1 : Class := { plain "org/distinguo/identify/BlockTreeCommonAncestorPinLaw" (some 0) with
  accessFlags := 49
  interfaces := #[]
  cf := some (fileOf pool1 13 #[] #[{ accessFlags := 1, nameIndex := 5, descriptorIndex := 6, attributes := #[] }, { accessFlags := 10, nameIndex := 16, descriptorIndex := 17, attributes := #[] }, { accessFlags := 9, nameIndex := 57, descriptorIndex := 58, attributes := #[] }] 49 2 #[] #[])
  fields := #[]
  methods := #[k1m0, k1m1, k1m2]
  instanceTypes := #[]
  staticTypes := #[]
  resolved := Array.replicate 64 none
  statics := none }

def pool2 : Array CpInfo := pool [(1, .methodref 2 3), (0, .class_ 4), (0, .nameAndType 5 6), (0, u "java/lang/Object"), (0, u "<init>"), (0, u "()V"), (0, .methodref 8 9), (0, .class_ 10), (0, .nameAndType 11 12), (0, u "java/lang/Math"), (0, u "max"), (0, u "(II)I"), (0, .fieldref 14 15), (0, .class_ 16), (0, .nameAndType 17 18), (0, u "org/distinguo/identify/BlockTree"), (0, u "parent"), (0, u "[I"), (0, .fieldref 14 20), (0, .nameAndType 21 18), (0, u "depth"), (0, .fieldref 14 23), (0, .nameAndType 24 18), (0, u "firstChild"), (0, .fieldref 14 26), (0, .nameAndType 27 18), (0, u "first"), (0, .fieldref 14 29), (0, .nameAndType 30 18), (0, u "end"), (0, .fieldref 14 32), (0, .nameAndType 33 18), (0, u "order"), (0, .fieldref 14 35), (0, .nameAndType 36 18), (0, u "position"), (0, .fieldref 14 38), (0, .nameAndType 39 18), (0, u "leaf"), (0, .fieldref 14 41), (0, .nameAndType 42 18), (0, u "groupOfKey"), (0, .fieldref 14 44), (0, .nameAndType 45 18), (0, u "groupEnd"), (0, .fieldref 14 47), (0, .nameAndType 48 18), (0, u "placed"), (0, .invokeDynamic 0 50), (0, .nameAndType 51 52), (0, u "applyAsInt"), (0, u "()Ljava/util/function/IntUnaryOperator;"), (0, .methodref 54 55), (0, .class_ 56), (0, .nameAndType 57 58), (0, u "java/util/Arrays"), (0, u "setAll"), (0, u "([ILjava/util/function/IntUnaryOperator;)V"), (0, .invokeDynamic 1 50), (0, .methodref 54 61), (0, .nameAndType 62 63), (0, u "fill"), (0, u "([II)V"), (0, .fieldref 14 65), (0, .nameAndType 66 67), (0, u "nodeCount"), (0, u "I"), (0, .methodref 8 69), (0, .nameAndType 70 12), (0, u "min"), (0, .methodref 72 73), (0, .class_ 74), (0, .nameAndType 75 76), (0, u "java/lang/System"), (0, u "arraycopy"), (0, u "(Ljava/lang/Object;ILjava/lang/Object;II)V"), (0, u "NONE"), (2, u "(II)V"), (3, u "()I"), (3, u "(I)I"), (1, u "stateAt"), (1, u "leafOf"), (0, u "commonAncestor"), (0, u "deepestHolding"), (0, u "([II)I"), (1, u "split"), (0, u "(I[I)Z"), (0, u "lambda$new$1"), (0, u "lambda$new$0"), (3, .methodType 88), (0, .methodHandle 6 106), (0, .methodref 14 107), (0, .nameAndType 100 88), (0, .methodHandle 6 109), (0, .methodref 14 110), (0, .nameAndType 99 88), (0, .methodHandle 6 112), (0, .methodref 113 114), (0, .class_ 115), (0, .nameAndType 116 117), (0, u "java/lang/invoke/LambdaMetafactory"), (0, u "metafactory"), (0, u "(Ljava/lang/invoke/MethodHandles$Lookup;Ljava/lang/String;Ljava/lang/invoke/MethodType;Ljava/lang/invoke/MethodType;Ljava/lang/invoke/MethodHandle;Ljava/lang/invoke/MethodType;)Ljava/lang/invoke/CallSite;")] 6

def k2c0 : Code := { maxStack := 3, maxLocals := 4, code := prog_45_method_1_code, exceptionTable := #[], attributes := #[] }
def k2m0 : Method := { name := "<init>", desc := "(II)V", sig := { parameters := [.int, .int], returnType := none }, accessFlags := 0, code := some k2c0 }
def k2c1 : Code := { maxStack := 1, maxLocals := 1, code := prog_45_method_3_code, exceptionTable := #[], attributes := #[] }
def k2m1 : Method := { name := "nodeCount", desc := "()I", sig := { parameters := [], returnType := some .int }, accessFlags := 0, code := some k2c1 }
def k2c2 : Code := { maxStack := 2, maxLocals := 2, code := prog_45_method_7_code, exceptionTable := #[], attributes := #[] }
def k2m2 : Method := { name := "first", desc := "(I)I", sig := { parameters := [.int], returnType := some .int }, accessFlags := 0, code := some k2c2 }
def k2c3 : Code := { maxStack := 2, maxLocals := 2, code := prog_45_method_8_code, exceptionTable := #[], attributes := #[] }
def k2m3 : Method := { name := "end", desc := "(I)I", sig := { parameters := [.int], returnType := some .int }, accessFlags := 0, code := some k2c3 }
def k2c4 : Code := { maxStack := 2, maxLocals := 2, code := prog_45_method_9_code, exceptionTable := #[], attributes := #[] }
def k2m4 : Method := { name := "stateAt", desc := "(I)I", sig := { parameters := [.int], returnType := some .int }, accessFlags := 0, code := some k2c4 }
def k2c5 : Code := { maxStack := 2, maxLocals := 2, code := prog_45_method_11_code, exceptionTable := #[], attributes := #[] }
def k2m5 : Method := { name := "leafOf", desc := "(I)I", sig := { parameters := [.int], returnType := some .int }, accessFlags := 0, code := some k2c5 }
def k2c6 : Code := { maxStack := 3, maxLocals := 5, code := prog_45_method_12_code, exceptionTable := #[], attributes := #[] }
def k2m6 : Method := { name := "commonAncestor", desc := "(II)I", sig := { parameters := [.int, .int], returnType := some .int }, accessFlags := 0, code := some k2c6 }
def k2c7 : Code := { maxStack := 4, maxLocals := 6, code := prog_45_method_13_code, exceptionTable := #[], attributes := #[] }
def k2m7 : Method := { name := "deepestHolding", desc := "([II)I", sig := { parameters := [(.array .int), .int], returnType := some .int }, accessFlags := 0, code := some k2c7 }
def k2c8 : Code := { maxStack := 7, maxLocals := 7, code := prog_45_method_15_code, exceptionTable := #[], attributes := #[] }
def k2m8 : Method := { name := "split", desc := "(I[I)Z", sig := { parameters := [.int, (.array .int)], returnType := some .boolean }, accessFlags := 0, code := some k2c8 }
def k2c9 : Code := { maxStack := 1, maxLocals := 1, code := prog_45_method_16_code, exceptionTable := #[], attributes := #[] }
def k2m9 : Method := { name := "lambda$new$1", desc := "(I)I", sig := { parameters := [.int], returnType := some .int }, accessFlags := 4106, code := some k2c9 }
def k2c10 : Code := { maxStack := 1, maxLocals := 1, code := prog_45_method_17_code, exceptionTable := #[], attributes := #[] }
def k2m10 : Method := { name := "lambda$new$0", desc := "(I)I", sig := { parameters := [.int], returnType := some .int }, accessFlags := 4106, code := some k2c10 }
/-- org/distinguo/identify/BlockTree -/
def k2 : Class := { plain "org/distinguo/identify/BlockTree" (some 0) with
  accessFlags := 48
  interfaces := #[]
  cf := some (fileOf pool2 14 #[.bootstrapMethods #[⟨111, #[104, 105, 104]⟩, ⟨111, #[104, 108, 104]⟩]] #[{ accessFlags := 0, nameIndex := 5, descriptorIndex := 80, attributes := #[] }, { accessFlags := 0, nameIndex := 66, descriptorIndex := 84, attributes := #[] }, { accessFlags := 0, nameIndex := 27, descriptorIndex := 88, attributes := #[] }, { accessFlags := 0, nameIndex := 30, descriptorIndex := 88, attributes := #[] }, { accessFlags := 0, nameIndex := 90, descriptorIndex := 88, attributes := #[] }, { accessFlags := 0, nameIndex := 92, descriptorIndex := 88, attributes := #[] }, { accessFlags := 0, nameIndex := 93, descriptorIndex := 12, attributes := #[] }, { accessFlags := 0, nameIndex := 94, descriptorIndex := 95, attributes := #[] }, { accessFlags := 0, nameIndex := 97, descriptorIndex := 98, attributes := #[] }, { accessFlags := 4106, nameIndex := 99, descriptorIndex := 88, attributes := #[] }, { accessFlags := 4106, nameIndex := 100, descriptorIndex := 88, attributes := #[] }] 48 2 #[] #[{ accessFlags := 24, nameIndex := 77, descriptorIndex := 67, attributes := #[] }, { accessFlags := 18, nameIndex := 17, descriptorIndex := 18, attributes := #[] }, { accessFlags := 18, nameIndex := 21, descriptorIndex := 18, attributes := #[] }, { accessFlags := 18, nameIndex := 24, descriptorIndex := 18, attributes := #[] }, { accessFlags := 18, nameIndex := 27, descriptorIndex := 18, attributes := #[] }, { accessFlags := 18, nameIndex := 30, descriptorIndex := 18, attributes := #[] }, { accessFlags := 2, nameIndex := 66, descriptorIndex := 67, attributes := #[] }, { accessFlags := 18, nameIndex := 33, descriptorIndex := 18, attributes := #[] }, { accessFlags := 18, nameIndex := 36, descriptorIndex := 18, attributes := #[] }, { accessFlags := 18, nameIndex := 39, descriptorIndex := 18, attributes := #[] }, { accessFlags := 18, nameIndex := 42, descriptorIndex := 18, attributes := #[] }, { accessFlags := 18, nameIndex := 45, descriptorIndex := 18, attributes := #[] }, { accessFlags := 18, nameIndex := 48, descriptorIndex := 18, attributes := #[] }])
  fields := #[{ name := "NONE", type := .int, accessFlags := 24, slot := 0, constantValue := 0 }, { name := "parent", type := (.array .int), accessFlags := 18, slot := 0, constantValue := 0 }, { name := "depth", type := (.array .int), accessFlags := 18, slot := 1, constantValue := 0 }, { name := "firstChild", type := (.array .int), accessFlags := 18, slot := 2, constantValue := 0 }, { name := "first", type := (.array .int), accessFlags := 18, slot := 3, constantValue := 0 }, { name := "end", type := (.array .int), accessFlags := 18, slot := 4, constantValue := 0 }, { name := "nodeCount", type := .int, accessFlags := 2, slot := 5, constantValue := 0 }, { name := "order", type := (.array .int), accessFlags := 18, slot := 6, constantValue := 0 }, { name := "position", type := (.array .int), accessFlags := 18, slot := 7, constantValue := 0 }, { name := "leaf", type := (.array .int), accessFlags := 18, slot := 8, constantValue := 0 }, { name := "groupOfKey", type := (.array .int), accessFlags := 18, slot := 9, constantValue := 0 }, { name := "groupEnd", type := (.array .int), accessFlags := 18, slot := 10, constantValue := 0 }, { name := "placed", type := (.array .int), accessFlags := 18, slot := 11, constantValue := 0 }]
  methods := #[k2m0, k2m1, k2m2, k2m3, k2m4, k2m5, k2m6, k2m7, k2m8, k2m9, k2m10]
  instanceTypes := #[(.array .int), (.array .int), (.array .int), (.array .int), (.array .int), .int, (.array .int), (.array .int), (.array .int), (.array .int), (.array .int), (.array .int)]
  staticTypes := #[.int]
  resolved := Array.replicate 124 none
  callSites := [(0, 101, .constant 0), (0, 113, .constant 1)]
  statics := none }

def pool3 : Array CpInfo := pool [(1, .class_ 2), (0, u "java/lang/Math"), (1, .class_ 6), (1, u "java/lang/Object"), (0, u "<init>"), (0, u "()V"), (89, .class_ 100), (1, u "java/lang/Math$RandomNumberGeneratorHolder"), (71, u "negativeZeroFloatBits"), (0, u "J"), (2, u "negativeZeroDoubleBits"), (21, u "max"), (2, u "min"), (43, u "$assertionsDisabled"), (0, u "Z"), (88, u "(II)I"), (2, u "twoToTheDoubleScaleDown"), (0, u "D"), (4, u "twoToTheDoubleScaleUp"), (9, u "E"), (3, u "PI"), (2, u "TAU"), (2, u "DEGREES_TO_RADIANS"), (0, u "RADIANS_TO_DEGREES")] 94

def k3m0 : Method := { name := "<init>", desc := "()V", sig := { parameters := [], returnType := none }, accessFlags := 2, code := none }
def k3c1 : Code := { maxStack := 2, maxLocals := 2, code := jdk_29_method_65_code, exceptionTable := #[], attributes := #[] }
def k3m1 : Method := { name := "max", desc := "(II)I", sig := { parameters := [.int, .int], returnType := some .int }, accessFlags := 9, code := some k3c1 }
def k3c2 : Code := { maxStack := 2, maxLocals := 2, code := jdk_29_method_69_code, exceptionTable := #[], attributes := #[] }
def k3m2 : Method := { name := "min", desc := "(II)I", sig := { parameters := [.int, .int], returnType := some .int }, accessFlags := 9, code := some k3c2 }
/-- java/lang/Math -/
def k3 : Class := { plain "java/lang/Math" (some 0) with
  accessFlags := 49
  interfaces := #[]
  cf := some (fileOf pool3 1 #[.nestMembers #[98]] #[{ accessFlags := 2, nameIndex := 7, descriptorIndex := 8, attributes := #[] }, { accessFlags := 9, nameIndex := 198, descriptorIndex := 335, attributes := #[] }, { accessFlags := 9, nameIndex := 201, descriptorIndex := 335, attributes := #[] }] 49 4 #[] #[{ accessFlags := 25, nameIndex := 354, descriptorIndex := 339, attributes := #[] }, { accessFlags := 25, nameIndex := 358, descriptorIndex := 339, attributes := #[] }, { accessFlags := 25, nameIndex := 361, descriptorIndex := 339, attributes := #[] }, { accessFlags := 26, nameIndex := 364, descriptorIndex := 339, attributes := #[] }, { accessFlags := 26, nameIndex := 365, descriptorIndex := 339, attributes := #[] }, { accessFlags := 26, nameIndex := 172, descriptorIndex := 173, attributes := #[] }, { accessFlags := 26, nameIndex := 176, descriptorIndex := 173, attributes := #[] }, { accessFlags := 8, nameIndex := 344, descriptorIndex := 339, attributes := #[] }, { accessFlags := 8, nameIndex := 338, descriptorIndex := 339, attributes := #[] }, { accessFlags := 4120, nameIndex := 245, descriptorIndex := 246, attributes := #[] }])
  fields := #[{ name := "E", type := .double, accessFlags := 25, slot := 0, constantValue := 0 }, { name := "PI", type := .double, accessFlags := 25, slot := 1, constantValue := 0 }, { name := "TAU", type := .double, accessFlags := 25, slot := 2, constantValue := 0 }, { name := "DEGREES_TO_RADIANS", type := .double, accessFlags := 26, slot := 3, constantValue := 0 }, { name := "RADIANS_TO_DEGREES", type := .double, accessFlags := 26, slot := 4, constantValue := 0 }, { name := "negativeZeroFloatBits", type := .long, accessFlags := 26, slot := 5, constantValue := 0 }, { name := "negativeZeroDoubleBits", type := .long, accessFlags := 26, slot := 6, constantValue := 0 }, { name := "twoToTheDoubleScaleUp", type := .double, accessFlags := 8, slot := 7, constantValue := 0 }, { name := "twoToTheDoubleScaleDown", type := .double, accessFlags := 8, slot := 8, constantValue := 0 }, { name := "$assertionsDisabled", type := .boolean, accessFlags := 4120, slot := 9, constantValue := 0 }]
  methods := #[k3m0, k3m1, k3m2]
  instanceTypes := #[]
  staticTypes := #[.double, .double, .double, .double, .double, .long, .long, .double, .double, .boolean]
  resolved := Array.replicate 460 none
  statics := none }

def pool4 : Array CpInfo := pool [(9, u "applyAsInt"), (6, .class_ 18), (1, u "java/util/function/IntUnaryOperator"), (0, u "(I)I"), (0, .class_ 21), (0, u "java/lang/Object")] 46

def k4m0 : Method := { name := "applyAsInt", desc := "(I)I", sig := { parameters := [.int], returnType := some .int }, accessFlags := 1025, code := none }
/-- java/util/function/IntUnaryOperator -/
def k4 : Class := { plain "java/util/function/IntUnaryOperator" (some 0) with
  accessFlags := 1537
  interfaces := #[]
  cf := some (fileOf pool4 16 #[] #[{ accessFlags := 1025, nameIndex := 9, descriptorIndex := 19, attributes := #[] }] 1537 20 #[] #[])
  fields := #[]
  methods := #[k4m0]
  instanceTypes := #[]
  staticTypes := #[]
  resolved := Array.replicate 68 none
  statics := none }

def pool5 : Array CpInfo := pool [(2, .class_ 4), (1, u "java/lang/Object"), (0, u "<init>"), (0, u "()V"), (7, .class_ 16), (1, u "java/util/Arrays"), (57, .class_ 76), (1, u "java/util/Arrays$NaturalOrder"), (36, .class_ 115), (1, u "java/util/Arrays$LegacyMergeSort"), (1, u "Z"), (57, .methodref 176 177), (0, .class_ 178), (0, .nameAndType 179 180), (0, u "java/util/Objects"), (0, u "requireNonNull"), (0, u "(Ljava/lang/Object;)Ljava/lang/Object;"), (194, .class_ 376), (0, u "java/util/Arrays$ArrayList"), (68, u "$assertionsDisabled"), (136, .interfaceMethodref 583 584), (0, .class_ 585), (0, .nameAndType 586 587), (0, u "java/util/function/IntUnaryOperator"), (0, u "applyAsInt"), (0, u "(I)I"), (127, u "MIN_ARRAY_SORT_GRAN"), (0, u "I"), (2, u "INSERTIONSORT_THRESHOLD"), (120, u "fill"), (4, u "([II)V"), (61, u "setAll"), (6, u "([ILjava/util/function/IntUnaryOperator;)V"), (60, .class_ 976), (0, u "java/util/Arrays$ArrayItr")] 52

def k5m0 : Method := { name := "<init>", desc := "()V", sig := { parameters := [], returnType := none }, accessFlags := 2, code := none }
def k5c1 : Code := { maxStack := 3, maxLocals := 4, code := jdk_65_method_103_code, exceptionTable := #[], attributes := #[] }
def k5m1 : Method := { name := "fill", desc := "([II)V", sig := { parameters := [(.array .int), .int], returnType := none }, accessFlags := 9, code := some k5c1 }
def k5c2 : Code := { maxStack := 4, maxLocals := 3, code := jdk_65_method_175_code, exceptionTable := #[], attributes := #[] }
def k5m2 : Method := { name := "setAll", desc := "([ILjava/util/function/IntUnaryOperator;)V", sig := { parameters := [(.array .int), (.object "java/util/function/IntUnaryOperator")], returnType := none }, accessFlags := 9, code := some k5c2 }
/-- java/util/Arrays -/
def k5 : Class := { plain "java/util/Arrays" (some 0) with
  accessFlags := 49
  interfaces := #[]
  cf := some (fileOf pool5 14 #[.nestMembers #[975, 375, 113, 74]] #[{ accessFlags := 2, nameIndex := 5, descriptorIndex := 6, attributes := #[] }, { accessFlags := 9, nameIndex := 840, descriptorIndex := 845, attributes := #[] }, { accessFlags := 9, nameIndex := 907, descriptorIndex := 914, attributes := #[] }] 49 2 #[] #[{ accessFlags := 26, nameIndex := 715, descriptorIndex := 716, attributes := #[] }, { accessFlags := 26, nameIndex := 719, descriptorIndex := 716, attributes := #[] }, { accessFlags := 4120, nameIndex := 445, descriptorIndex := 117, attributes := #[] }])
  fields := #[{ name := "MIN_ARRAY_SORT_GRAN", type := .int, accessFlags := 26, slot := 0, constantValue := 0 }, { name := "INSERTIONSORT_THRESHOLD", type := .int, accessFlags := 26, slot := 1, constantValue := 0 }, { name := "$assertionsDisabled", type := .boolean, accessFlags := 4120, slot := 2, constantValue := 0 }]
  methods := #[k5m0, k5m1, k5m2]
  instanceTypes := #[]
  staticTypes := #[.int, .int, .boolean]
  resolved := Array.replicate 1029 none
  statics := none }

def pool6 : Array CpInfo := pool [(2, .class_ 4), (1, u "java/lang/Object"), (0, u "<init>"), (0, u "()V"), (35, .class_ 44), (1, u "java/util/Objects"), (0, u "requireNonNull"), (0, u "(Ljava/lang/Object;)Ljava/lang/Object;")] 137

def k6m0 : Method := { name := "<init>", desc := "()V", sig := { parameters := [], returnType := none }, accessFlags := 2, code := none }
def k6c1 : Code := { maxStack := 2, maxLocals := 1, code := jdk_31_method_10_code, exceptionTable := #[], attributes := #[] }
def k6m1 : Method := { name := "requireNonNull", desc := "(Ljava/lang/Object;)Ljava/lang/Object;", sig := { parameters := [(.object "java/lang/Object")], returnType := some (.object "java/lang/Object") }, accessFlags := 9, code := some k6c1 }
/-- java/util/Objects -/
def k6 : Class := { plain "java/util/Objects" (some 0) with
  accessFlags := 49
  interfaces := #[]
  cf := some (fileOf pool6 42 #[] #[{ accessFlags := 2, nameIndex := 5, descriptorIndex := 6, attributes := #[] }, { accessFlags := 9, nameIndex := 45, descriptorIndex := 46, attributes := #[] }] 49 2 #[] #[])
  fields := #[]
  methods := #[k6m0, k6m1]
  instanceTypes := #[]
  staticTypes := #[]
  resolved := Array.replicate 184 none
  statics := none }

def pool7 : Array CpInfo := pool [(2, .class_ 4), (1, u "java/lang/Object"), (0, u "<init>"), (0, u "()V"), (1, .class_ 10), (1, u "java/lang/System"), (0, u "allowSecurityManager"), (0, u "I"), (16, u "cons"), (0, u "Ljava/io/Console;"), (77, .class_ 110), (1, u "java/lang/System$CallersHolder"), (43, u "initialErrStream"), (0, u "Ljava/io/PrintStream;"), (19, u "security"), (0, u "Ljava/lang/SecurityManager;"), (31, .class_ 209), (0, u "java/lang/System$1"), (7, u "props"), (0, u "Ljava/util/Properties;"), (2, u "lineSeparator"), (0, u "Ljava/lang/String;"), (96, .class_ 321), (1, u "java/lang/System$LoggerFinder"), (5, .class_ 328), (0, u "java/lang/System$Logger"), (67, u "err"), (2, u "out"), (91, u "notSupportedJnuEncoding"), (15, u "in"), (17, u "initialIn"), (0, u "Ljava/io/InputStream;"), (35, u "bootLayer"), (0, u "Ljava/lang/ModuleLayer;"), (99, .class_ 664), (0, u "java/lang/System$2"), (9, u "NEVER"), (2, u "MAYBE"), (49, u "arraycopy"), (0, u "(Ljava/lang/Object;ILjava/lang/Object;II)V"), (72, .class_ 802), (0, u "java/lang/System$Logger$Level")] 31

def k7m0 : Method := { name := "<init>", desc := "()V", sig := { parameters := [], returnType := none }, accessFlags := 2, code := none }
def k7m1 : Method := { name := "arraycopy", desc := "(Ljava/lang/Object;ILjava/lang/Object;II)V", sig := { parameters := [(.object "java/lang/Object"), .int, (.object "java/lang/Object"), .int, .int], returnType := none }, accessFlags := 265, code := none }
/-- java/lang/System -/
def k7 : Class := { plain "java/lang/System" (some 0) with
  accessFlags := 49
  interfaces := #[]
  cf := some (fileOf pool7 8 #[.nestMembers #[319, 327, 801, 108, 663, 208]] #[{ accessFlags := 2, nameIndex := 5, descriptorIndex := 6, attributes := #[] }, { accessFlags := 265, nameIndex := 727, descriptorIndex := 728, attributes := #[] }] 49 2 #[] #[{ accessFlags := 25, nameIndex := 507, descriptorIndex := 526, attributes := #[] }, { accessFlags := 25, nameIndex := 399, descriptorIndex := 155, attributes := #[] }, { accessFlags := 25, nameIndex := 396, descriptorIndex := 155, attributes := #[] }, { accessFlags := 10, nameIndex := 525, descriptorIndex := 526, attributes := #[] }, { accessFlags := 26, nameIndex := 674, descriptorIndex := 12, attributes := #[] }, { accessFlags := 26, nameIndex := 677, descriptorIndex := 12, attributes := #[] }, { accessFlags := 10, nameIndex := 11, descriptorIndex := 12, attributes := #[] }, { accessFlags := 74, nameIndex := 175, descriptorIndex := 176, attributes := #[] }, { accessFlags := 10, nameIndex := 491, descriptorIndex := 222, attributes := #[] }, { accessFlags := 74, nameIndex := 29, descriptorIndex := 30, attributes := #[] }, { accessFlags := 74, nameIndex := 154, descriptorIndex := 155, attributes := #[] }, { accessFlags := 10, nameIndex := 217, descriptorIndex := 218, attributes := #[] }, { accessFlags := 10, nameIndex := 221, descriptorIndex := 222, attributes := #[] }, { accessFlags := 8, nameIndex := 562, descriptorIndex := 563, attributes := #[] }])
  fields := #[{ name := "in", type := (.object "java/io/InputStream"), accessFlags := 25, slot := 0, constantValue := 0 }, { name := "out", type := (.object "java/io/PrintStream"), accessFlags := 25, slot := 1, constantValue := 0 }, { name := "err", type := (.object "java/io/PrintStream"), accessFlags := 25, slot := 2, constantValue := 0 }, { name := "initialIn", type := (.object "java/io/InputStream"), accessFlags := 10, slot := 3, constantValue := 0 }, { name := "NEVER", type := .int, accessFlags := 26, slot := 4, constantValue := 0 }, { name := "MAYBE", type := .int, accessFlags := 26, slot := 5, constantValue := 0 }, { name := "allowSecurityManager", type := .int, accessFlags := 10, slot := 6, constantValue := 0 }, { name := "security", type := (.object "java/lang/SecurityManager"), accessFlags := 74, slot := 7, constantValue := 0 }, { name := "notSupportedJnuEncoding", type := (.object "java/lang/String"), accessFlags := 10, slot := 8, constantValue := 0 }, { name := "cons", type := (.object "java/io/Console"), accessFlags := 74, slot := 9, constantValue := 0 }, { name := "initialErrStream", type := (.object "java/io/PrintStream"), accessFlags := 74, slot := 10, constantValue := 0 }, { name := "props", type := (.object "java/util/Properties"), accessFlags := 10, slot := 11, constantValue := 0 }, { name := "lineSeparator", type := (.object "java/lang/String"), accessFlags := 10, slot := 12, constantValue := 0 }, { name := "bootLayer", type := (.object "java/lang/ModuleLayer"), accessFlags := 8, slot := 13, constantValue := 0 }]
  methods := #[k7m0, k7m1]
  instanceTypes := #[]
  staticTypes := #[(.object "java/io/InputStream"), (.object "java/io/PrintStream"), (.object "java/io/PrintStream"), (.object "java/io/InputStream"), .int, .int, .int, (.object "java/lang/SecurityManager"), (.object "java/lang/String"), (.object "java/io/Console"), (.object "java/io/PrintStream"), (.object "java/util/Properties"), (.object "java/lang/String"), (.object "java/lang/ModuleLayer")]
  resolved := Array.replicate 834 none
  statics := none }

def pool8 : Array CpInfo := pool [(1, u "java/lang/Cloneable"), (0, .class_ 1), (0, u "java/lang/Object"), (0, .class_ 3)] 3

/-- java/lang/Cloneable -/
def k8 : Class := { plain "java/lang/Cloneable" (some 0) with
  accessFlags := 1537
  interfaces := #[]
  cf := some (fileOf pool8 2 #[] #[] 1537 4 #[] #[])
  fields := #[]
  methods := #[]
  instanceTypes := #[]
  staticTypes := #[]
  resolved := Array.replicate 8 none
  statics := none }

def pool9 : Array CpInfo := pool [(1, u "java/io/Serializable"), (0, .class_ 1), (0, u "java/lang/Object"), (0, .class_ 3)] 3

/-- java/io/Serializable -/
def k9 : Class := { plain "java/io/Serializable" (some 0) with
  accessFlags := 1537
  interfaces := #[]
  cf := some (fileOf pool9 2 #[] #[] 1537 4 #[] #[])
  fields := #[]
  methods := #[]
  instanceTypes := #[]
  staticTypes := #[]
  resolved := Array.replicate 8 none
  statics := none }

/-- the primitive byte -/
def k10 : Class := { plain "byte" none with kind := .primitive 'B', accessFlags := 0x411 }
/-- [B -/
def k11 : Class := { plain "[B" (some 0) with kind := .array 10 .byte, interfaces := #[8, 9], accessFlags := 1041 }

/-- the primitive int -/
def k12 : Class := { plain "int" none with kind := .primitive 'I', accessFlags := 0x411 }
/-- [I -/
def k13 : Class := { plain "[I" (some 0) with kind := .array 12 .int, interfaces := #[8, 9], accessFlags := 1041 }

def classes0 : Array Class := #[k0, k1, k2, k3, k4, k5, k6, k7, k8, k9, k10, k11, k12, k13]
/-- the class that the rule has made for the site at 101 of org/distinguo/identify/BlockTree.<init> -/
def k14 : Class := Jvm.LamKit.madeRec { classes := classes0 } "org/distinguo/identify/BlockTree" (Jvm.Lambda.Shape.mk "java/util/function/IntUnaryOperator" "applyAsInt" (Jvm.ClassFile.MethodDescriptor.mk ([Jvm.ClassFile.FieldType.int] : List Jvm.ClassFile.FieldType) (Option.some Jvm.ClassFile.FieldType.int)) ([] : List Jvm.ClassFile.FieldType) (6 : Nat) "org/distinguo/identify/BlockTree" "lambda$new$0" (Jvm.ClassFile.MethodDescriptor.mk ([Jvm.ClassFile.FieldType.int] : List Jvm.ClassFile.FieldType) (Option.some Jvm.ClassFile.FieldType.int)) false (Jvm.ClassFile.MethodDescriptor.mk ([Jvm.ClassFile.FieldType.int] : List Jvm.ClassFile.FieldType) (Option.some Jvm.ClassFile.FieldType.int))) 14

/-- the class that the rule has made for the site at 113 of org/distinguo/identify/BlockTree.<init> -/
def k15 : Class := Jvm.LamKit.madeRec { classes := classes0 } "org/distinguo/identify/BlockTree" (Jvm.Lambda.Shape.mk "java/util/function/IntUnaryOperator" "applyAsInt" (Jvm.ClassFile.MethodDescriptor.mk ([Jvm.ClassFile.FieldType.int] : List Jvm.ClassFile.FieldType) (Option.some Jvm.ClassFile.FieldType.int)) ([] : List Jvm.ClassFile.FieldType) (6 : Nat) "org/distinguo/identify/BlockTree" "lambda$new$1" (Jvm.ClassFile.MethodDescriptor.mk ([Jvm.ClassFile.FieldType.int] : List Jvm.ClassFile.FieldType) (Option.some Jvm.ClassFile.FieldType.int)) false (Jvm.ClassFile.MethodDescriptor.mk ([Jvm.ClassFile.FieldType.int] : List Jvm.ClassFile.FieldType) (Option.some Jvm.ClassFile.FieldType.int))) 15

def heap : Heap := #[{ cls := 14, slots := #[], vm := .none },
  { cls := 15, slots := #[], vm := .none }]
def classes : Array Class := #[k0, k1, k2, k3, k4, k5, k6, k7, k8, k9, k10, k11, k12, k13, k14, k15]
def interned : List (Array UInt16 × Addr) := []
def slotsUsed : Nat := 0
def theMethod : MethodId := ⟨1, 2⟩
def args0 : Array Value := #[.int 5, .int 9, .int 3, .int 20, .int 7]
def aboutOver (below : List Frame) : State where
  vm := { classes := classes, interned := interned.toArray }
  heap := heap
  slotsUsed := slotsUsed
  threads := #[{ frames := .invoking theMethod args0 :: below }]
def below0 : List Frame := [.native { method := ⟨0, 0⟩, args := #[] }]
def about1 : State := aboutOver below0
def p0 : Program := .bare "" "" ""
def e0 : Env := launch0.env 0 0 0
theorem w_frames : about1.frames = Frame.invoking theMethod args0 :: below0 := rfl
set_option maxRecDepth 65536 in
theorem w_args : argsFit about1.vm theMethod args0 = true := by decide +kernel
set_option maxRecDepth 65536 in
theorem w_heap : heapFits about1 = true := by decide +kernel
set_option maxRecDepth 65536 in
theorem w_runnable : about1.curStatus? = some .runnable := by decide +kernel
set_option maxRecDepth 65536 in
theorem w_alone : about1.alone = true := by decide +kernel
set_option maxRecDepth 65536 in
theorem w_named : about1.methodNamed? x = some theMethod := by decide +kernel
set_option maxRecDepth 65536 in
theorem w_hears : about1.hears theMethod below0 = true := by decide +kernel
set_option maxRecDepth 65536 in
theorem w_ripe : about1.ripe theMethod args0 below0 = true := by decide +kernel
theorem w_running : about1.status = .running := rfl
set_option maxRecDepth 65536 in
theorem w_room : about1.hasRoom e0.platform room_1 = true :=
  launch0.hasRoom_least _ room_1 (by decide +kernel) (by decide +kernel) (by decide +kernel) (by decide +kernel) (by decide +kernel) (by decide +kernel)
theorem allAtoms_all (ts : List Jvm.Cond) (a : Array Jvm.Value) (st : Jvm.State) : (allAtoms ts).before a st = ts.all (fun c => c.before a st) := by
  induction ts with
  | nil => rfl
  | cons c t ih =>
    show (Jvm.Cond.and c (allAtoms t)).before a st = _
    rw [Jvm.Cond.before_and, ih, List.all_cons]
def words1 : List Jvm.Cond := Jvm.Cond.code x code maxLocals ret :: tables_1
/-- a 'code' word, met by the world's own term for the bytes: nothing is compared byte by byte -/
theorem code_word {y : MethodName} {bytes : ByteArray} {mx : Nat} {rt : Option FieldType} {a : Array Value} {s : State} {m : MethodId} {meth : Method} {c : Code} (h1 : s.methodNamed? y = some m) (h2 : s.vm.method? m = some meth) (h3 : meth.code = some c) (h4 : c.code = bytes)
    (h5 : (c.maxLocals == mx && c.exceptionTable.isEmpty && decide (c.maxStack ≤ mostOperands) && decide (meth.sig.returnType = rt) && !meth.locks && decide (parseMethodDescriptor y.desc = some meth.sig)) = true) : (Jvm.Cond.code y bytes mx rt).before a s = true := by
  simp only [Bool.and_eq_true, beq_iff_eq, Bool.not_eq_true', decide_eq_true_eq] at h5
  obtain ⟨⟨⟨⟨⟨g1, g2⟩, g3⟩, g4⟩, g5⟩, g6⟩ := h5
  simp [Cond.before, Cond.holds, Cond.value, h1, h2, h3, h4, g1, g2, g3, g4, g5, g6]
def isCode : Jvm.Cond → Bool
  | .code _ _ _ _ => true
  | _ => false
theorem all_split {L : List Jvm.Cond} {P : Jvm.Cond → Bool} (h1 : L.all (fun c => isCode c || P c) = true) (h2 : ∀ c ∈ L.filter isCode, P c = true) : L.all P = true := by
  refine List.all_eq_true.mpr fun c hc => ?_
  have h := List.all_eq_true.mp h1 c hc
  rcases Bool.eq_false_or_eq_true (isCode c) with hi | hi
  · exact h2 c (List.mem_filter.mpr ⟨hc, hi⟩)
  · simpa [hi] using h
set_option maxRecDepth 65536 in
theorem w_c0 : (Jvm.Cond.code x code maxLocals ret).before args0 about1 = true := code_word (m := ⟨1, 2⟩) (meth := k1m2) (c := k1c2) (by decide +kernel) rfl rfl rfl (by decide +kernel)
set_option maxRecDepth 65536 in
theorem w_c1 : (Jvm.Cond.code ({ cls := "org/distinguo/identify/BlockTree", name := "<init>", desc := "(II)V" } : Jvm.MethodName) prog_45_method_1_code (4 : Nat) (Option.none : Option Jvm.ClassFile.FieldType)).before args0 about1 = true := code_word (m := ⟨2, 0⟩) (meth := k2m0) (c := k2c0) (by decide +kernel) rfl rfl rfl (by decide +kernel)
set_option maxRecDepth 65536 in
theorem w_c2 : (Jvm.Cond.code ({ cls := "java/lang/Object", name := "<init>", desc := "()V" } : Jvm.MethodName) object_method_1_code (1 : Nat) (Option.none : Option Jvm.ClassFile.FieldType)).before args0 about1 = true := code_word (m := ⟨0, 0⟩) (meth := k0m0) (c := k0c0) (by decide +kernel) rfl rfl rfl (by decide +kernel)
set_option maxRecDepth 65536 in
theorem w_c3 : (Jvm.Cond.code ({ cls := "java/lang/Math", name := "max", desc := "(II)I" } : Jvm.MethodName) jdk_29_method_65_code (2 : Nat) (Option.some Jvm.ClassFile.FieldType.int)).before args0 about1 = true := code_word (m := ⟨3, 1⟩) (meth := k3m1) (c := k3c1) (by decide +kernel) rfl rfl rfl (by decide +kernel)
set_option maxRecDepth 65536 in
theorem w_c4 : (Jvm.Cond.code ({ cls := "java/util/Arrays", name := "setAll", desc := "([ILjava/util/function/IntUnaryOperator;)V" } : Jvm.MethodName) jdk_65_method_175_code (3 : Nat) (Option.none : Option Jvm.ClassFile.FieldType)).before args0 about1 = true := code_word (m := ⟨5, 2⟩) (meth := k5m2) (c := k5c2) (by decide +kernel) rfl rfl rfl (by decide +kernel)
set_option maxRecDepth 65536 in
theorem w_c5 : (Jvm.Cond.code ({ cls := "java/util/Objects", name := "requireNonNull", desc := "(Ljava/lang/Object;)Ljava/lang/Object;" } : Jvm.MethodName) jdk_31_method_10_code (1 : Nat) (Option.some (Jvm.ClassFile.FieldType.object "java/lang/Object"))).before args0 about1 = true := code_word (m := ⟨6, 1⟩) (meth := k6m1) (c := k6c1) (by decide +kernel) rfl rfl rfl (by decide +kernel)
set_option maxRecDepth 65536 in
theorem w_c6 : (Jvm.Cond.code ({ cls := "org/distinguo/identify/BlockTree", name := "lambda$new$0", desc := "(I)I" } : Jvm.MethodName) prog_45_method_17_code (1 : Nat) (Option.some Jvm.ClassFile.FieldType.int)).before args0 about1 = true := code_word (m := ⟨2, 10⟩) (meth := k2m10) (c := k2c10) (by decide +kernel) rfl rfl rfl (by decide +kernel)
set_option maxRecDepth 65536 in
theorem w_c7 : (Jvm.Cond.code ({ cls := "org/distinguo/identify/BlockTree", name := "lambda$new$1", desc := "(I)I" } : Jvm.MethodName) prog_45_method_16_code (1 : Nat) (Option.some Jvm.ClassFile.FieldType.int)).before args0 about1 = true := code_word (m := ⟨2, 9⟩) (meth := k2m9) (c := k2c9) (by decide +kernel) rfl rfl rfl (by decide +kernel)
set_option maxRecDepth 65536 in
theorem w_c8 : (Jvm.Cond.code ({ cls := "java/util/Arrays", name := "fill", desc := "([II)V" } : Jvm.MethodName) jdk_65_method_103_code (4 : Nat) (Option.none : Option Jvm.ClassFile.FieldType)).before args0 about1 = true := code_word (m := ⟨5, 1⟩) (meth := k5m1) (c := k5c1) (by decide +kernel) rfl rfl rfl (by decide +kernel)
set_option maxRecDepth 65536 in
theorem w_c9 : (Jvm.Cond.code ({ cls := "org/distinguo/identify/BlockTreeCommonAncestorPinLaw", name := "key", desc := "(II)I" } : Jvm.MethodName) method_2_code (2 : Nat) (Option.some Jvm.ClassFile.FieldType.int)).before args0 about1 = true := code_word (m := ⟨1, 1⟩) (meth := k1m1) (c := k1c1) (by decide +kernel) rfl rfl rfl (by decide +kernel)
set_option maxRecDepth 65536 in
theorem w_c10 : (Jvm.Cond.code ({ cls := "org/distinguo/identify/BlockTree", name := "split", desc := "(I[I)Z" } : Jvm.MethodName) prog_45_method_15_code (7 : Nat) (Option.some Jvm.ClassFile.FieldType.boolean)).before args0 about1 = true := code_word (m := ⟨2, 8⟩) (meth := k2m8) (c := k2c8) (by decide +kernel) rfl rfl rfl (by decide +kernel)
set_option maxRecDepth 65536 in
theorem w_c11 : (Jvm.Cond.code ({ cls := "org/distinguo/identify/BlockTree", name := "leafOf", desc := "(I)I" } : Jvm.MethodName) prog_45_method_11_code (2 : Nat) (Option.some Jvm.ClassFile.FieldType.int)).before args0 about1 = true := code_word (m := ⟨2, 5⟩) (meth := k2m5) (c := k2c5) (by decide +kernel) rfl rfl rfl (by decide +kernel)
set_option maxRecDepth 65536 in
theorem w_c12 : (Jvm.Cond.code ({ cls := "org/distinguo/identify/BlockTree", name := "nodeCount", desc := "()I" } : Jvm.MethodName) prog_45_method_3_code (1 : Nat) (Option.some Jvm.ClassFile.FieldType.int)).before args0 about1 = true := code_word (m := ⟨2, 1⟩) (meth := k2m1) (c := k2c1) (by decide +kernel) rfl rfl rfl (by decide +kernel)
set_option maxRecDepth 65536 in
theorem w_c13 : (Jvm.Cond.code ({ cls := "org/distinguo/identify/BlockTree", name := "first", desc := "(I)I" } : Jvm.MethodName) prog_45_method_7_code (2 : Nat) (Option.some Jvm.ClassFile.FieldType.int)).before args0 about1 = true := code_word (m := ⟨2, 2⟩) (meth := k2m2) (c := k2c2) (by decide +kernel) rfl rfl rfl (by decide +kernel)
set_option maxRecDepth 65536 in
theorem w_c14 : (Jvm.Cond.code ({ cls := "java/lang/Math", name := "min", desc := "(II)I" } : Jvm.MethodName) jdk_29_method_69_code (2 : Nat) (Option.some Jvm.ClassFile.FieldType.int)).before args0 about1 = true := code_word (m := ⟨3, 2⟩) (meth := k3m2) (c := k3c2) (by decide +kernel) rfl rfl rfl (by decide +kernel)
set_option maxRecDepth 65536 in
theorem w_c15 : (Jvm.Cond.code ({ cls := "org/distinguo/identify/BlockTree", name := "end", desc := "(I)I" } : Jvm.MethodName) prog_45_method_8_code (2 : Nat) (Option.some Jvm.ClassFile.FieldType.int)).before args0 about1 = true := code_word (m := ⟨2, 3⟩) (meth := k2m3) (c := k2c3) (by decide +kernel) rfl rfl rfl (by decide +kernel)
set_option maxRecDepth 65536 in
theorem w_c16 : (Jvm.Cond.code ({ cls := "org/distinguo/identify/BlockTree", name := "stateAt", desc := "(I)I" } : Jvm.MethodName) prog_45_method_9_code (2 : Nat) (Option.some Jvm.ClassFile.FieldType.int)).before args0 about1 = true := code_word (m := ⟨2, 4⟩) (meth := k2m4) (c := k2c4) (by decide +kernel) rfl rfl rfl (by decide +kernel)
set_option maxRecDepth 65536 in
theorem w_c17 : (Jvm.Cond.code ({ cls := "org/distinguo/identify/BlockTree", name := "deepestHolding", desc := "([II)I" } : Jvm.MethodName) prog_45_method_13_code (6 : Nat) (Option.some Jvm.ClassFile.FieldType.int)).before args0 about1 = true := code_word (m := ⟨2, 7⟩) (meth := k2m7) (c := k2c7) (by decide +kernel) rfl rfl rfl (by decide +kernel)
set_option maxRecDepth 65536 in
theorem w_c18 : (Jvm.Cond.code ({ cls := "org/distinguo/identify/BlockTree", name := "commonAncestor", desc := "(II)I" } : Jvm.MethodName) prog_45_method_12_code (5 : Nat) (Option.some Jvm.ClassFile.FieldType.int)).before args0 about1 = true := code_word (m := ⟨2, 6⟩) (meth := k2m6) (c := k2c6) (by decide +kernel) rfl rfl rfl (by decide +kernel)
def codes1 : List Jvm.Cond := [Jvm.Cond.code x code maxLocals ret, Jvm.Cond.code ({ cls := "org/distinguo/identify/BlockTree", name := "<init>", desc := "(II)V" } : Jvm.MethodName) prog_45_method_1_code (4 : Nat) (Option.none : Option Jvm.ClassFile.FieldType), Jvm.Cond.code ({ cls := "java/lang/Object", name := "<init>", desc := "()V" } : Jvm.MethodName) object_method_1_code (1 : Nat) (Option.none : Option Jvm.ClassFile.FieldType), Jvm.Cond.code ({ cls := "java/lang/Math", name := "max", desc := "(II)I" } : Jvm.MethodName) jdk_29_method_65_code (2 : Nat) (Option.some Jvm.ClassFile.FieldType.int), Jvm.Cond.code ({ cls := "java/util/Arrays", name := "setAll", desc := "([ILjava/util/function/IntUnaryOperator;)V" } : Jvm.MethodName) jdk_65_method_175_code (3 : Nat) (Option.none : Option Jvm.ClassFile.FieldType), Jvm.Cond.code ({ cls := "java/util/Objects", name := "requireNonNull", desc := "(Ljava/lang/Object;)Ljava/lang/Object;" } : Jvm.MethodName) jdk_31_method_10_code (1 : Nat) (Option.some (Jvm.ClassFile.FieldType.object "java/lang/Object")), Jvm.Cond.code ({ cls := "org/distinguo/identify/BlockTree", name := "lambda$new$0", desc := "(I)I" } : Jvm.MethodName) prog_45_method_17_code (1 : Nat) (Option.some Jvm.ClassFile.FieldType.int), Jvm.Cond.code ({ cls := "org/distinguo/identify/BlockTree", name := "lambda$new$1", desc := "(I)I" } : Jvm.MethodName) prog_45_method_16_code (1 : Nat) (Option.some Jvm.ClassFile.FieldType.int), Jvm.Cond.code ({ cls := "java/util/Arrays", name := "fill", desc := "([II)V" } : Jvm.MethodName) jdk_65_method_103_code (4 : Nat) (Option.none : Option Jvm.ClassFile.FieldType), Jvm.Cond.code ({ cls := "org/distinguo/identify/BlockTreeCommonAncestorPinLaw", name := "key", desc := "(II)I" } : Jvm.MethodName) method_2_code (2 : Nat) (Option.some Jvm.ClassFile.FieldType.int), Jvm.Cond.code ({ cls := "org/distinguo/identify/BlockTree", name := "split", desc := "(I[I)Z" } : Jvm.MethodName) prog_45_method_15_code (7 : Nat) (Option.some Jvm.ClassFile.FieldType.boolean), Jvm.Cond.code ({ cls := "org/distinguo/identify/BlockTree", name := "leafOf", desc := "(I)I" } : Jvm.MethodName) prog_45_method_11_code (2 : Nat) (Option.some Jvm.ClassFile.FieldType.int), Jvm.Cond.code ({ cls := "org/distinguo/identify/BlockTree", name := "nodeCount", desc := "()I" } : Jvm.MethodName) prog_45_method_3_code (1 : Nat) (Option.some Jvm.ClassFile.FieldType.int), Jvm.Cond.code ({ cls := "org/distinguo/identify/BlockTree", name := "first", desc := "(I)I" } : Jvm.MethodName) prog_45_method_7_code (2 : Nat) (Option.some Jvm.ClassFile.FieldType.int), Jvm.Cond.code ({ cls := "java/lang/Math", name := "min", desc := "(II)I" } : Jvm.MethodName) jdk_29_method_69_code (2 : Nat) (Option.some Jvm.ClassFile.FieldType.int), Jvm.Cond.code ({ cls := "org/distinguo/identify/BlockTree", name := "end", desc := "(I)I" } : Jvm.MethodName) prog_45_method_8_code (2 : Nat) (Option.some Jvm.ClassFile.FieldType.int), Jvm.Cond.code ({ cls := "org/distinguo/identify/BlockTree", name := "stateAt", desc := "(I)I" } : Jvm.MethodName) prog_45_method_9_code (2 : Nat) (Option.some Jvm.ClassFile.FieldType.int), Jvm.Cond.code ({ cls := "org/distinguo/identify/BlockTree", name := "deepestHolding", desc := "([II)I" } : Jvm.MethodName) prog_45_method_13_code (6 : Nat) (Option.some Jvm.ClassFile.FieldType.int), Jvm.Cond.code ({ cls := "org/distinguo/identify/BlockTree", name := "commonAncestor", desc := "(II)I" } : Jvm.MethodName) prog_45_method_12_code (5 : Nat) (Option.some Jvm.ClassFile.FieldType.int)]
set_option maxRecDepth 65536 in
theorem codes_eq : words1.filter isCode = codes1 := rfl
theorem w_codes : ∀ c ∈ words1.filter isCode, c.before args0 about1 = true := by
  rw [codes_eq]
  intro c hc
  simp only [codes1, List.mem_cons, List.not_mem_nil, or_false] at hc
  rcases hc with rfl | rfl | rfl | rfl | rfl | rfl | rfl | rfl | rfl | rfl | rfl | rfl | rfl | rfl | rfl | rfl | rfl | rfl | rfl
  · exact w_c0
  · exact w_c1
  · exact w_c2
  · exact w_c3
  · exact w_c4
  · exact w_c5
  · exact w_c6
  · exact w_c7
  · exact w_c8
  · exact w_c9
  · exact w_c10
  · exact w_c11
  · exact w_c12
  · exact w_c13
  · exact w_c14
  · exact w_c15
  · exact w_c16
  · exact w_c17
  · exact w_c18
set_option maxRecDepth 65536 in
theorem w_t1 : (words1.take 24).all (fun c => isCode c || c.before args0 about1) = true := by decide +kernel
set_option maxRecDepth 65536 in
theorem w_t2 : ((words1.drop 24).take 24).all (fun c => isCode c || c.before args0 about1) = true := by decide +kernel
set_option maxRecDepth 65536 in
theorem w_t3 : (((words1.drop 24).drop 24).take 24).all (fun c => isCode c || c.before args0 about1) = true := by decide +kernel
set_option maxRecDepth 65536 in
theorem w_t4 : ((((words1.drop 24).drop 24).drop 24).take 24).all (fun c => isCode c || c.before args0 about1) = true := by decide +kernel
set_option maxRecDepth 65536 in
theorem w_t5 : ((((words1.drop 24).drop 24).drop 24).drop 24).all (fun c => isCode c || c.before args0 about1) = true := by decide +kernel
theorem w_tables : (allAtoms (Jvm.Cond.code x code maxLocals ret :: tables_1)).before args0 about1 = true := by
  rw [allAtoms_all]
  show words1.all (fun c => c.before args0 about1) = true
  refine all_split ?_ w_codes
  rw [← List.take_append_drop 24 words1, List.all_append, w_t1, ← List.take_append_drop 24 (words1.drop 24), List.all_append, w_t2, ← List.take_append_drop 24 ((words1.drop 24).drop 24), List.all_append, w_t3, ← List.take_append_drop 24 (((words1.drop 24).drop 24).drop 24), List.all_append, w_t4, w_t5]
  rfl
set_option maxRecDepth 65536 in
theorem w_case : (Jvm.Cond.and given_1 narrow_1).before args0 about1 = true := by decide +kernel
theorem w_applies : (headSpec (Jvm.Cond.code x code maxLocals ret :: tables_1) room_1).applies x e0.platform about1 = true :=
  (Spec.applies_iff w_frames).mpr ⟨w_running, w_runnable, w_alone, w_named, w_hears, w_ripe, w_room, w_tables⟩
theorem atStart : AtStart classFile x code maxLocals ret World_1 tables_1 room_1 Calls_1 rest_1 Pre_1 launch0 p0 e0 about1 theMethod args0 below0 :=
  ⟨lists_1, trivial, launch0.admits_env _ _ _, launch0.least_env, fairChoices_fair.cas, fairChoices_fair.clock, w_frames, w_args, w_heap, w_applies, trivial, trivial, w_case⟩
end start1
theorem witness_1 : WitnessClaimed_1 := ⟨start1.p0, start1.e0, start1.about1, start1.theMethod, start1.args0, start1.below0, start1.atStart⟩
end Jvm.Pilot.@@N@@
